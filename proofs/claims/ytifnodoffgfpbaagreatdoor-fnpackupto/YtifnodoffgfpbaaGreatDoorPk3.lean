/- Part 3 of the texts for a law of this seat: walks, and plain laws about messages; conditions: none. -/
import Derived.Test.YtifnodoffgfpbaaGreatDoorPk2
namespace Go.Proofs.YtifnodoffgfpbaaGreatDoor
open Go

def fewM (m : MsgD) : Prop := m.asks.length + m.one.length + m.two.length + m.three.length ≤ 40 ∧ (∀ l ∈ [m.one, m.two, m.three], ∀ r ∈ l, smallR r) ∧ okM m

set_option maxHeartbeats 4000000 in
set_option maxRecDepth 100000 in
theorem c14 {w : World} {U : Nat → Prop} (hU : ∀ k, U k → k < w.heap.size) {m : MsgD} {va v1 v2 v3 : Value} (ha : LA AskEl lAsk U w va m.asks) (y1 : LA RecEl lRec U w v1 m.one) (y2 : LA RecEl lRec U w v2 m.two) (y3 : LA RecEl lRec U w v3 m.three) (hfa : ∀ a ∈ m.asks, a.name.size ≤ 1048576) (hfr : ∀ l ∈ [m.one, m.two, m.three], ∀ r ∈ l, r.fits) (hll : ∀ l ∈ [m.one, m.two, m.three], l.length ≤ 1048576) (hna : m.asks.length ≤ 1048576) :
  Ret PP 14 [ag (msgSegs m.head va v1 v2 v3)] w (Grd w (fewM m)) := by
 have hls : All2 (LA RecEl lRec U w) [v1, v2, v3] [m.one, m.two, m.three] := All2.cons y1 (All2.cons y2 (All2.cons y3 All2.nil))
 obtain ⟨aa, ca, rfl⟩ := ha.form
 obtain ⟨a1, c1, rfl⟩ := y1.form
 obtain ⟨a2, c2, rfl⟩ := y2.form
 obtain ⟨a3, c3, rfl⟩ := y3.form
 have hl1 := hll m.one (by simp)
 have hl2 := hll m.two (by simp)
 have hl3 := hll m.three (by simp)
 have hf : Fr (fun _ => False) w w := Fr.refl _ _
 refine ret_of Tryz.func14 rfl rfl rfl [(0, _)] rfl ?_
 refine sreg ?_
 refine svK (xboxS (lens := lMsg) rfl rfl) ?_
 rintro _ w2 ⟨b1, rfl, m3, h1, e1, s1⟩
 have ha := ha.keep ask_st (lU hU (by omega)) m3 nF
 have y1 := y1.keep rec_st (lU hU (by omega)) m3 nF
 have y2 := y2.keep rec_st (lU hU (by omega)) m3 nF
 have y3 := y3.keep rec_st (lU hU (by omega)) m3 nF
 have hf := hf.step0 m3
 refine sv (xassign rfl) (send (fg [(1, _)] ⟨rfl, ⟨⟩⟩ fun _ => (sreg (sv (xfld fl34_1 rfl) (sv (xld on31 rfl (h1.r.c 10 rfl rfl)) (sv (xlen sl31 rfl) (sv (xfld fl34_2 rfl) (sv (xld on32 rfl (h1.r.c 11 rfl rfl)) (sv (xlen sl32 rfl) (sv (xadd rfl rfl (w64 (by omega) (by omega))) (sv (xfld fl34_3 rfl) ?_)))))))))))
 refine sv (xld on32 rfl (h1.r.c 12 rfl rfl)) (sv (xlen sl32 rfl) (sv (xadd rfl rfl (w64 (by omega) (by omega))) (sv (xfld fl34_4 rfl) (sv (xld on32 rfl (h1.r.c 13 rfl rfl)) (sv (xlen sl32 rfl) (sv (xadd rfl rfl (w64 (by omega) (by omega))) (sv (xassign rfl) (send (fg [(1, _), (3, _)] ⟨rfl, rfl, ⟨⟩⟩ fun _ => (wp_seq (sreg ?_)))))))))))
 refine sv (xmove rfl) ?_
 refine svP (xgtr rfl rfl) (fun hc29 => ?_) (fun hc29 => ?_)
 ·
  refine send (fg [(1, _), (29, _)] ⟨rfl, rfl, ⟨⟩⟩ fun _ => (cyes rfl (sreg (sv (xassign rfl) (send (fg [(2, _)] ⟨rfl, ⟨⟩⟩ fun _ => (wp_ret (rThen ?_))))))))
  refine rp1 rfl rfl ?_
  exact ⟨_, rfl, (fun h => by cases h), hf⟩
 ·
  refine send (fg [(1, _), (29, _)] ⟨rfl, rfl, ⟨⟩⟩ fun _ => (cno rfl (wp_skip (nThen (fg [(1, _)] ⟨rfl, ⟨⟩⟩ fun _ => (wp_seq (sreg (sv (xfld fl34_2 rfl) (sv (xld on32 rfl (h1.r.c 11 rfl rfl)) (sv (xfld fl34_3 rfl) (sv (xld on32 rfl (h1.r.c 12 rfl rfl)) ?_)))))))))))
  refine sv (xfld fl34_4 rfl) (sv (xld on32 rfl (h1.r.c 13 rfl rfl)) ?_)
  refine svK (xslit ([.slice a1 m.one.length c1, .slice a2 m.two.length c2, .slice a3 m.three.length c3]) sl60 in32 rfl (by decide) rfl rfl rfl rfl (by decide) rfl rfl) ?_
  rintro _ w5 ⟨b36, rfl, m6, h36, e36, s36, r36⟩
  have ha := ha.keep ask_st (lU hU (by omega)) m6 nF
  have y1 := y1.keep rec_st (lU hU (by omega)) m6 nF
  have y2 := y2.keep rec_st (lU hU (by omega)) m6 nF
  have y3 := y3.keep rec_st (lU hU (by omega)) m6 nF
  have hf := hf.step0 m6
  have h1 := h1.keep m6 id
  refine sv (xlen sl60 rfl) (sv (xmove rfl) (send (fg [(1, _), (36, _), (37, _), (38, _)] ⟨rfl, rfl, rfl, rfl, ⟨⟩⟩ fun _ => (wp_block ?_))))
  refine lp [(1, _), (36, _), (37, _)] (fun (i : Nat) => [(38, .int .i64 (i : Int))]) (fun (i : Nat) wx => Fr (fun _ => False) w5 wx ∧ (i ≤ 3) ∧ (∀ j (l : List RecD), j < i → [m.one, m.two, m.three][j]? = some l → ∀ r ∈ l, smallR r)) (fun (i : Nat) => 3 - i) 0 ⟨rfl, rfl, rfl, rfl, trivial⟩ ⟨Fr.refl _ _, Nat.zero_le _, upto_zero⟩ ?_
  rintro i _ w8 ⟨hL7, hi, hO⟩
  refine fg [(1, _), (36, _), (37, _), (38, _)] ⟨rfl, rfl, rfl, rfl, ⟨⟩⟩ fun _ => ?_
  have z9 := hL7.size
  have ha := ha.keep ask_st (lU hU (by omega)) hL7 nF
  have y1 := y1.keep rec_st (lU hU (by omega)) hL7 nF
  have y2 := y2.keep rec_st (lU hU (by omega)) hL7 nF
  have y3 := y3.keep rec_st (lU hU (by omega)) hL7 nF
  have hf := hf.step0 hL7
  have h1 := h1.keep hL7 id
  have r36 := r36.keep hL7 id
  refine sreg ?_
  refine svP (xlss rfl rfl) (fun hc39 => ?_) (fun hc39 => ?_)
  ·
   refine send (fg [(1, _), (36, _), (37, _), (38, _), (39, _)] ⟨rfl, rfl, rfl, rfl, rfl, ⟨⟩⟩ fun _ => (wp_seq (cyes rfl (wp_skip (nThen (fg [(1, _), (36, _), (37, _), (38, _)] ⟨rfl, rfl, rfl, rfl, ⟨⟩⟩ fun _ => (wp_seq (wp_block (sreg ?_)))))))))
   obtain ⟨u, l, hu, hul, hL⟩ := hls.get (k := i) (by simp; omega)
   have hL := hL.keep rec_st hU hf nF
   have hlm : l ∈ [m.one, m.two, m.three] := List.mem_of_getElem? hul
   have hln := hll l hlm
   obtain ⟨au, cu, rfl⟩ := hL.form
   refine sv (xidx1 sl60 sz32 rfl rfl rfl (by omega)) (sv (xld on32 rfl (Rw.rng r36 i _ hu)) (sv (xassign rfl) (send (fg [(1, _), (5, _), (36, _), (37, _), (38, _)] ⟨rfl, rfl, rfl, rfl, rfl, ⟨⟩⟩ fun _ => (sreg (sv (xmove rfl) (sv (xlen sl32 rfl) (sv (xmove rfl) (send (fg [(1, _), (36, _), (37, _), (38, _), (42, _), (43, _), (44, _)] ⟨rfl, rfl, rfl, rfl, rfl, rfl, rfl, ⟨⟩⟩ fun _ => (wp_block ?_)))))))))))
   refine lp [(1, _), (36, _), (37, _), (38, _), (42, _), (43, _)] (fun (k : Nat) => [(44, .int .i64 (k : Int))]) (fun (k : Nat) wx => Fr (fun _ => False) w8 wx ∧ (k ≤ l.length) ∧ (∀ j (r : RecD), j < k → l[j]? = some r → smallR r)) (fun (k : Nat) => l.length - k) 0 ⟨rfl, rfl, rfl, rfl, rfl, rfl, rfl, trivial⟩ ⟨Fr.refl _ _, Nat.zero_le _, upto_zero⟩ ?_
   rintro k _ w11 ⟨hL10, hk, hI⟩
   refine fg [(1, _), (36, _), (37, _), (38, _), (42, _), (43, _), (44, _)] ⟨rfl, rfl, rfl, rfl, rfl, rfl, rfl, ⟨⟩⟩ fun _ => ?_
   have z12 := hL10.size
   have ha := ha.keep ask_st (lU hU (by omega)) hL10 nF
   have y1 := y1.keep rec_st (lU hU (by omega)) hL10 nF
   have y2 := y2.keep rec_st (lU hU (by omega)) hL10 nF
   have y3 := y3.keep rec_st (lU hU (by omega)) hL10 nF
   have hf := hf.step0 hL10
   have h1 := h1.keep hL10 id
   have hL7 := hL7.step0 hL10
   have hL := hL.keep rec_st (lU hU (by omega)) hL10 nF
   refine sreg ?_
   refine svP (xlss rfl rfl) (fun hc45 => ?_) (fun hc45 => ?_)
   ·
    refine send (fg [(1, _), (36, _), (37, _), (38, _), (42, _), (43, _), (44, _), (45, _)] ⟨rfl, rfl, rfl, rfl, rfl, rfl, rfl, rfl, ⟨⟩⟩ fun _ => (wp_seq (cyes rfl (wp_skip (nThen (fg [(1, _), (36, _), (37, _), (38, _), (42, _), (43, _), (44, _)] ⟨rfl, rfl, rfl, rfl, rfl, rfl, rfl, ⟨⟩⟩ fun _ => (wp_seq (wp_block ?_))))))))
    obtain ⟨r, hrk⟩ := some_of_lt (by omega : k < l.length)
    have hrf := hfr l hlm r (List.mem_of_getElem? hrk)
    have hrf0 := hrf
    simp only [RecD.fits] at hrf0
    have hsp := sum_add4 r.pairs
    refine sreg ?_
    obtain ⟨bE46, oE46, sgE46, rfl, uE46, hsE46, heE46⟩ := LA.get hL hrk
    obtain ⟨vd, vt, vp, rfl, hd, ht, hp⟩ := heE46
    have zE46 := hU _ uE46
    obtain ⟨ad, cd, rfl, -⟩ := id hd
    obtain ⟨at1, ct1, rfl⟩ := ht.form
    obtain ⟨ap1, cp1, rfl⟩ := hp.form
    refine sv (xidx sl32 sz65 rfl rfl rfl (by omega)) (sv (xldS (lens := lRec) ro65 rfl hsE46) ?_)
    refine svK (xallS (lens := lRec) in65 rfl) ?_
    rintro _ w14 ⟨b7, rfl, m15, h7, e13, s13⟩
    have ha := ha.keep ask_st (lU hU (by omega)) m15 nF
    have y1 := y1.keep rec_st (lU hU (by omega)) m15 nF
    have y2 := y2.keep rec_st (lU hU (by omega)) m15 nF
    have y3 := y3.keep rec_st (lU hU (by omega)) m15 nF
    have hf := hf.step0 m15
    have h1 := h1.keep m15 id
    have hL7 := hL7.step0 m15
    have hL10 := hL10.step0 m15
    have ht := ht.keep text_st (lU hU (by omega)) m15 nF
    have hp := hp.keep pair_st (lU hU (by omega)) m15 nF
    refine suK (xstW h7 (lens' := lRec) sz65 rfl rfl rfl rfl rfl) ?_
    rintro w17 ⟨m18, h7, s16⟩
    have ha := ha.keep ask_st (lU hU (by omega)) m18 (fun k hk hS => by have hk := hU k hk; have hS : k = b7 := hS; omega)
    have y1 := y1.keep rec_st (lU hU (by omega)) m18 (fun k hk hS => by have hk := hU k hk; have hS : k = b7 := hS; omega)
    have y2 := y2.keep rec_st (lU hU (by omega)) m18 (fun k hk hS => by have hk := hU k hk; have hS : k = b7 := hS; omega)
    have y3 := y3.keep rec_st (lU hU (by omega)) m18 (fun k hk hS => by have hk := hU k hk; have hS : k = b7 := hS; omega)
    have hf := hf.step m18 (fun k hk hS => by have hS : k = b7 := hS; show False; omega)
    have h1 := h1.keep m18 (by show ¬ (b1 = b7); omega)
    have hL7 := hL7.step m18 (fun k hk hS => by have hS : k = b7 := hS; show False; omega)
    have hL10 := hL10.step m18 (fun k hk hS => by have hS : k = b7 := hS; show False; omega)
    have ht := ht.keep text_st (lU hU (by omega)) m18 (fun k hk hS => by have hk := hU k hk; have hS : k = b7 := hS; omega)
    have hp := hp.keep pair_st (lU hU (by omega)) m18 (fun k hk hS => by have hk := hU k hk; have hS : k = b7 := hS; omega)
    refine send (fg [(1, _), (7, _), (36, _), (37, _), (38, _), (42, _), (43, _), (44, _)] ⟨rfl, rfl, rfl, rfl, rfl, rfl, rfl, rfl, ⟨⟩⟩ fun _ => (sreg (sv (xfld fl65_6 rfl) (sv (xld on37 rfl (h7.r.c 6 rfl rfl)) (sv (xlen sl37 rfl) (sv (xfld fl65_14 rfl) (sv (xld on62 rfl (h7.r.c 14 rfl rfl)) (sv (xlen sl62 rfl) (sv (xadd rfl rfl (w64 (by omega) (by omega))) (sv (xassign rfl) (send ?_)))))))))))
    refine fg [(1, _), (7, _), (8, _), (36, _), (37, _), (38, _), (42, _), (43, _), (44, _)] ⟨rfl, rfl, rfl, rfl, rfl, rfl, rfl, rfl, rfl, ⟨⟩⟩ fun _ => (wp_seq (sreg (sv (xfld fl65_14 rfl) (sv (xld on62 rfl (h7.r.c 14 rfl rfl)) (sv (xlen sl62 rfl) (sv (xmove rfl) (send (fg [(1, _), (7, _), (8, _), (36, _), (37, _), (38, _), (42, _), (43, _), (44, _), (56, _), (57, _), (58, _)] ⟨rfl, rfl, rfl, rfl, rfl, rfl, rfl, rfl, rfl, rfl, rfl, rfl, ⟨⟩⟩ fun _ => (wp_block ?_)))))))))
    refine lp [(1, _), (7, _), (36, _), (37, _), (38, _), (42, _), (43, _), (44, _), (56, _), (57, _)] (fun (x : Nat × Nat) => match x with | (j, s) => [(8, .int .i64 (s : Int)), (58, .int .i64 (j : Int))]) (fun (x : Nat × Nat) wx => match x with | (j, s) => Fr (fun _ => False) w17 wx ∧ (j ≤ r.texts.length) ∧ (s = r.data.length + r.texts.length + ((r.texts.take j).map (fun s : ByteArray => s.size)).sum)) (fun (x : Nat × Nat) => match x with | (j, s) => r.texts.length - j) (0, r.data.length + r.texts.length) ⟨rfl, rfl, rfl, rfl, rfl, rfl, rfl, rfl, rfl, rfl, rfl, rfl, trivial⟩ ⟨Fr.refl _ _, Nat.zero_le _, rfl⟩ ?_
    rintro ⟨j, s⟩ _ w20 ⟨hL19, hj, hs⟩
    refine fg [(1, _), (7, _), (8, _), (36, _), (37, _), (38, _), (42, _), (43, _), (44, _), (56, _), (57, _), (58, _)] ⟨rfl, rfl, rfl, rfl, rfl, rfl, rfl, rfl, rfl, rfl, rfl, rfl, ⟨⟩⟩ fun _ => ?_
    have z21 := hL19.size
    have ha := ha.keep ask_st (lU hU (by omega)) hL19 nF
    have y1 := y1.keep rec_st (lU hU (by omega)) hL19 nF
    have y2 := y2.keep rec_st (lU hU (by omega)) hL19 nF
    have y3 := y3.keep rec_st (lU hU (by omega)) hL19 nF
    have hf := hf.step0 hL19
    have h1 := h1.keep hL19 id
    have hL7 := hL7.step0 hL19
    have hL10 := hL10.step0 hL19
    have ht := ht.keep text_st (lU hU (by omega)) hL19 nF
    have hp := hp.keep pair_st (lU hU (by omega)) hL19 nF
    have h7 := h7.keep hL19 id
    refine sreg ?_
    refine svP (xlss rfl rfl) (fun hc59 => ?_) (fun hc59 => ?_)
    ·
     refine send (fg [(1, _), (7, _), (8, _), (36, _), (37, _), (38, _), (42, _), (43, _), (44, _), (56, _), (57, _), (58, _), (59, _)] ⟨rfl, rfl, rfl, rfl, rfl, rfl, rfl, rfl, rfl, rfl, rfl, rfl, rfl, ⟨⟩⟩ fun _ => (wp_seq (cyes rfl (wp_skip (nThen (fg [(1, _), (7, _), (8, _), (36, _), (37, _), (38, _), (42, _), (43, _), (44, _), (56, _), (57, _), (58, _)] ⟨rfl, rfl, rfl, rfl, rfl, rfl, rfl, rfl, rfl, rfl, rfl, rfl, ⟨⟩⟩ fun _ => (wp_seq (wp_block ?_))))))))
     obtain ⟨t, htj⟩ := some_of_lt (by omega : j < r.texts.length)
     have hts := sum_take_le (f := fun s : ByteArray => s.size) htj
     have hta := sum_take_add (f := fun s : ByteArray => s.size) htj
     refine sreg ?_
     obtain ⟨bE60, oE60, sgE60, rfl, uE60, hsE60, heE60⟩ := LA.get ht htj
     obtain rfl := heE60
     have zE60 := hU _ uE60
     refine sv (xidx sl62 sz9 rfl rfl rfl (by omega)) (sv (xld on9 rfl (hsE60.c 0 rfl rfl)) (sv (xassign rfl) (send (fg [(1, _), (7, _), (8, _), (10, _), (36, _), (37, _), (38, _), (42, _), (43, _), (44, _), (56, _), (57, _), (58, _)] ⟨rfl, rfl, rfl, rfl, rfl, rfl, rfl, rfl, rfl, rfl, rfl, rfl, rfl, ⟨⟩⟩ fun _ => (lreg (sv (xmove rfl) (sv (xmove rfl) (sv (xlenS st9 rfl) (sv (xadd rfl rfl (w64 (by omega) (by omega))) (sv (xassign rfl) (lend ?_)))))))))))
     refine nBlock (nThen (fg [(1, _), (7, _), (8, _), (36, _), (37, _), (38, _), (42, _), (43, _), (44, _), (56, _), (57, _), (58, _)] ⟨rfl, rfl, rfl, rfl, rfl, rfl, rfl, rfl, rfl, rfl, rfl, rfl, ⟨⟩⟩ fun _ => (lreg (sv (xadd rfl rfl (w64 (by omega) (by omega))) (sv (xmove rfl) (lend (nThen ?_)))))))
     refine ⟨(j + 1, s + t.size), _, env_okl ⟨rfl, rfl, rfl, rfl, rfl, rfl, rfl, rfl, rfl, rfl, rfl, rfl, trivial⟩, ⟨hL19, (by omega), (by omega)⟩, ?_⟩
     show r.texts.length - (j + 1) < r.texts.length - j; omega
    ·
     refine send (fg [(1, _), (7, _), (8, _), (36, _), (37, _), (38, _), (42, _), (43, _), (44, _), (56, _), (57, _), (58, _), (59, _)] ⟨rfl, rfl, rfl, rfl, rfl, rfl, rfl, rfl, rfl, rfl, rfl, rfl, rfl, ⟨⟩⟩ fun _ => (wp_seq (cno rfl (wp_exit (eThen (eThen (eHit (nThen (fg [(1, _), (7, _), (8, _), (36, _), (37, _), (38, _), (42, _), (43, _), (44, _)] ⟨rfl, rfl, rfl, rfl, rfl, rfl, rfl, rfl, rfl, ⟨⟩⟩ fun _ => (wp_seq ?_))))))))))
     have eT : r.texts.take j = r.texts := List.take_of_length_le (by omega)
     rw [eT] at hs
     refine sreg (sv (xfld fl65_15 rfl) (sv (xld on63 rfl (h7.r.c 15 rfl rfl)) (sv (xlen sl63 rfl) (sv (xmove rfl) (send (fg [(1, _), (7, _), (8, _), (36, _), (37, _), (38, _), (42, _), (43, _), (44, _), (68, _), (69, _), (70, _)] ⟨rfl, rfl, rfl, rfl, rfl, rfl, rfl, rfl, rfl, rfl, rfl, rfl, ⟨⟩⟩ fun _ => (wp_block ?_)))))))
     refine lp [(1, _), (7, _), (36, _), (37, _), (38, _), (42, _), (43, _), (44, _), (68, _), (69, _)] (fun (x : Nat × Nat) => match x with | (j, s2) => [(8, .int .i64 (s2 : Int)), (70, .int .i64 (j : Int))]) (fun (x : Nat × Nat) wx => match x with | (j, s2) => Fr (fun _ => False) w20 wx ∧ (j ≤ r.pairs.length) ∧ (s2 = s + ((r.pairs.take j).map (fun p : PairD => p.data.length + 4)).sum)) (fun (x : Nat × Nat) => match x with | (j, s2) => r.pairs.length - j) (0, s) ⟨rfl, rfl, rfl, rfl, rfl, rfl, rfl, rfl, rfl, rfl, rfl, rfl, trivial⟩ ⟨Fr.refl _ _, Nat.zero_le _, rfl⟩ ?_
     rintro ⟨j, s2⟩ _ w23 ⟨hL22, hj, hs2⟩
     refine fg [(1, _), (7, _), (8, _), (36, _), (37, _), (38, _), (42, _), (43, _), (44, _), (68, _), (69, _), (70, _)] ⟨rfl, rfl, rfl, rfl, rfl, rfl, rfl, rfl, rfl, rfl, rfl, rfl, ⟨⟩⟩ fun _ => ?_
     have z24 := hL22.size
     have ha := ha.keep ask_st (lU hU (by omega)) hL22 nF
     have y1 := y1.keep rec_st (lU hU (by omega)) hL22 nF
     have y2 := y2.keep rec_st (lU hU (by omega)) hL22 nF
     have y3 := y3.keep rec_st (lU hU (by omega)) hL22 nF
     have hf := hf.step0 hL22
     have h1 := h1.keep hL22 id
     have hL7 := hL7.step0 hL22
     have hL10 := hL10.step0 hL22
     have hp := hp.keep pair_st (lU hU (by omega)) hL22 nF
     have h7 := h7.keep hL22 id
     refine sreg ?_
     refine svP (xlss rfl rfl) (fun hc71 => ?_) (fun hc71 => ?_)
     ·
      refine send (fg [(1, _), (7, _), (8, _), (36, _), (37, _), (38, _), (42, _), (43, _), (44, _), (68, _), (69, _), (70, _), (71, _)] ⟨rfl, rfl, rfl, rfl, rfl, rfl, rfl, rfl, rfl, rfl, rfl, rfl, rfl, ⟨⟩⟩ fun _ => (wp_seq (cyes rfl (wp_skip (nThen (fg [(1, _), (7, _), (8, _), (36, _), (37, _), (38, _), (42, _), (43, _), (44, _), (68, _), (69, _), (70, _)] ⟨rfl, rfl, rfl, rfl, rfl, rfl, rfl, rfl, rfl, rfl, rfl, rfl, ⟨⟩⟩ fun _ => (wp_seq (wp_block ?_))))))))
      obtain ⟨p, hpj⟩ := some_of_lt (by omega : j < r.pairs.length)
      have hps := sum_take_le (f := fun p : PairD => p.data.length + 4) hpj
      have hpa := sum_take_add (f := fun p : PairD => p.data.length + 4) hpj
      refine sreg ?_
      obtain ⟨bE72, oE72, sgE72, rfl, uE72, hsE72, heE72⟩ := LA.get hp hpj
      obtain ⟨vdp, rfl, hdp⟩ := heE72
      have zE72 := hU _ uE72
      obtain ⟨adp, cdp, rfl, -⟩ := id hdp
      refine sv (xidx sl63 sz67 rfl rfl rfl (by omega)) (sv (xldS (lens := [1, 1]) ro67 rfl hsE72) ?_)
      refine svK (xallS (lens := [1, 1]) in67 rfl) ?_
      rintro _ w26 ⟨b12, rfl, m27, h12, e25, s25⟩
      have ha := ha.keep ask_st (lU hU (by omega)) m27 nF
      have y1 := y1.keep rec_st (lU hU (by omega)) m27 nF
      have y2 := y2.keep rec_st (lU hU (by omega)) m27 nF
      have y3 := y3.keep rec_st (lU hU (by omega)) m27 nF
      have hf := hf.step0 m27
      have h1 := h1.keep m27 id
      have hL7 := hL7.step0 m27
      have hL10 := hL10.step0 m27
      have h7 := h7.keep m27 id
      have hL22 := hL22.step0 m27
      refine suK (xstW h12 (lens' := [1, 1]) sz67 rfl rfl rfl rfl rfl) ?_
      rintro w29 ⟨m30, h12, s28⟩
      have ha := ha.keep ask_st (lU hU (by omega)) m30 (fun k hk hS => by have hk := hU k hk; have hS : k = b12 := hS; omega)
      have y1 := y1.keep rec_st (lU hU (by omega)) m30 (fun k hk hS => by have hk := hU k hk; have hS : k = b12 := hS; omega)
      have y2 := y2.keep rec_st (lU hU (by omega)) m30 (fun k hk hS => by have hk := hU k hk; have hS : k = b12 := hS; omega)
      have y3 := y3.keep rec_st (lU hU (by omega)) m30 (fun k hk hS => by have hk := hU k hk; have hS : k = b12 := hS; omega)
      have hf := hf.step m30 (fun k hk hS => by have hS : k = b12 := hS; show False; omega)
      have h1 := h1.keep m30 (by show ¬ (b1 = b12); omega)
      have hL7 := hL7.step m30 (fun k hk hS => by have hS : k = b12 := hS; show False; omega)
      have hL10 := hL10.step m30 (fun k hk hS => by have hS : k = b12 := hS; show False; omega)
      have h7 := h7.keep m30 (by show ¬ (b7 = b12); omega)
      have hL22 := hL22.step m30 (fun k hk hS => by have hS : k = b12 := hS; show False; omega)
      refine send (fg [(1, _), (7, _), (8, _), (12, _), (36, _), (37, _), (38, _), (42, _), (43, _), (44, _), (68, _), (69, _), (70, _)] ⟨rfl, rfl, rfl, rfl, rfl, rfl, rfl, rfl, rfl, rfl, rfl, rfl, rfl, ⟨⟩⟩ fun _ => (lreg (sv (xmove rfl) (sv (xfld fl67_1 rfl) (sv (xld on37 rfl (h12.r.c 1 rfl rfl)) (sv (xlen sl37 rfl) (sv (xadd rfl rfl (w64 (by omega) (by omega))) (sv (xadd rfl rfl (w64 (by omega) (by omega))) (sv (xassign rfl) (lend (nBlock ?_)))))))))))
      refine nThen (fg [(1, _), (7, _), (8, _), (36, _), (37, _), (38, _), (42, _), (43, _), (44, _), (68, _), (69, _), (70, _)] ⟨rfl, rfl, rfl, rfl, rfl, rfl, rfl, rfl, rfl, rfl, rfl, rfl, ⟨⟩⟩ fun _ => (lreg (sv (xadd rfl rfl (w64 (by omega) (by omega))) (sv (xmove rfl) (lend (nThen ?_))))))
      refine ⟨(j + 1, s2 + (p.data.length + 4)), _, env_okl ⟨rfl, rfl, rfl, rfl, rfl, rfl, rfl, rfl, rfl, rfl, rfl, rfl, trivial⟩, ⟨hL22, (by omega), (by omega)⟩, ?_⟩
      show r.pairs.length - (j + 1) < r.pairs.length - j; omega
     ·
      refine send (fg [(1, _), (7, _), (8, _), (36, _), (37, _), (38, _), (42, _), (43, _), (44, _), (68, _), (69, _), (70, _), (71, _)] ⟨rfl, rfl, rfl, rfl, rfl, rfl, rfl, rfl, rfl, rfl, rfl, rfl, rfl, ⟨⟩⟩ fun _ => (wp_seq (cno rfl (wp_exit (eThen (eThen (eHit (nThen (fg [(1, _), (7, _), (8, _), (36, _), (37, _), (38, _), (42, _), (43, _), (44, _)] ⟨rfl, rfl, rfl, rfl, rfl, rfl, rfl, rfl, rfl, ⟨⟩⟩ fun _ => ?_)))))))))
      have eP : r.pairs.take j = r.pairs := List.take_of_length_le (by omega)
      rw [eP] at hs2
      refine sreg (sv (xfld fl65_5 rfl) (sv (xld on3 rfl (h7.r.c 5 rfl rfl)) ?_))
      refine svP (xlss rfl rfl) (fun hc83 => ?_) (fun hc83 => ?_)
      ·
       refine sv (xmove rfl) (gno rfl rfl rfl (gno rfl rfl rfl (gno rfl rfl rfl (sv (xpickT rfl rfl) (sv (xmove rfl) (gno rfl rfl rfl (gno rfl rfl rfl (sv (xpickT rfl rfl) (send (fg [(1, _), (36, _), (37, _), (38, _), (42, _), (43, _), (44, _), (92, _)] ⟨rfl, rfl, rfl, rfl, rfl, rfl, rfl, rfl, ⟨⟩⟩ fun _ => (cyes rfl ?_)))))))))))
       refine sreg (sv (xassign rfl) (send (fg [(2, _)] ⟨rfl, ⟨⟩⟩ fun _ => (wp_ret (rBlock (rThen (rThen (rBlock (rBlock (rThen (rThen ?_)))))))))))
       refine rBlock (rThen ?_)
       refine rp1 rfl rfl ?_
       exact ⟨_, rfl, (fun h => by cases h), hf⟩
      ·
       refine sv (xmove rfl) (gyes rfl rfl rfl (sv (xfld fl65_5 rfl) (gyes rfl rfl rfl (sv (xld on3 rfl (h7.r.c 5 rfl rfl)) (gyes rfl rfl rfl ?_)))))
       refine svP (xgtr rfl rfl) (fun hc87 => ?_) (fun hc87 => ?_)
       ·
        refine sv (xpickF rfl rfl) (sv (xmove rfl) (gno rfl rfl rfl (gno rfl rfl rfl (sv (xpickT rfl rfl) (send (fg [(1, _), (36, _), (37, _), (38, _), (42, _), (43, _), (44, _), (92, _)] ⟨rfl, rfl, rfl, rfl, rfl, rfl, rfl, rfl, ⟨⟩⟩ fun _ => (cyes rfl (sreg (sv (xassign rfl) (send (fg [(2, _)] ⟨rfl, ⟨⟩⟩ fun _ => ?_)))))))))))
        refine wp_ret (rBlock (rThen (rThen (rBlock (rBlock (rThen (rThen (rBlock (rThen ?_)))))))))
        refine rp1 rfl rfl ?_
        exact ⟨_, rfl, (fun h => by cases h), hf⟩
       ·
        refine sv (xpickF rfl rfl) (sv (xmove rfl) (gyes rfl rfl rfl (sv (xmove rfl) (gyes rfl rfl rfl ?_))))
        refine svP (xgtr rfl rfl) (fun hc91 => ?_) (fun hc91 => ?_)
        ·
         refine sv (xpickF rfl rfl) (send (fg [(1, _), (36, _), (37, _), (38, _), (42, _), (43, _), (44, _), (92, _)] ⟨rfl, rfl, rfl, rfl, rfl, rfl, rfl, rfl, ⟨⟩⟩ fun _ => (cyes rfl (sreg (sv (xassign rfl) (send (fg [(2, _)] ⟨rfl, ⟨⟩⟩ fun _ => (wp_ret (rBlock (rThen (rThen ?_)))))))))))
         refine rBlock (rBlock (rThen (rThen (rBlock (rThen ?_)))))
         refine rp1 rfl rfl ?_
         exact ⟨_, rfl, (fun h => by cases h), hf⟩
        ·
         refine sv (xpickF rfl rfl) (send (fg [(1, _), (36, _), (37, _), (38, _), (42, _), (43, _), (44, _), (92, _)] ⟨rfl, rfl, rfl, rfl, rfl, rfl, rfl, rfl, ⟨⟩⟩ fun _ => (cno rfl (wp_skip (nBlock (nThen (fg [(1, _), (36, _), (37, _), (38, _), (42, _), (43, _), (44, _)] ⟨rfl, rfl, rfl, rfl, rfl, rfl, rfl, ⟨⟩⟩ fun _ => (lreg (sv (xadd rfl rfl (w64 (by omega) (by omega))) (sv (xmove rfl) (lend ?_)))))))))))
         refine nThen ?_
         refine ⟨k + 1, _, env_okl ⟨rfl, rfl, rfl, rfl, rfl, rfl, rfl, trivial⟩, ⟨hL10, (by omega), (upto_step hI hrk ⟨by omega, by omega, by simp only [sizeR]; omega⟩)⟩, ?_⟩
         show l.length - (k + 1) < l.length - k; omega
   ·
    refine send (fg [(1, _), (36, _), (37, _), (38, _), (42, _), (43, _), (44, _), (45, _)] ⟨rfl, rfl, rfl, rfl, rfl, rfl, rfl, rfl, ⟨⟩⟩ fun _ => (wp_seq (cno rfl (wp_exit (eThen (eThen (eHit (nBlock (nThen (fg [(1, _), (36, _), (37, _), (38, _)] ⟨rfl, rfl, rfl, rfl, ⟨⟩⟩ fun _ => (lreg ?_)))))))))))
    refine sv (xadd rfl rfl (w64 (by omega) (by omega))) (sv (xmove rfl) (lend (nThen ?_)))
    refine ⟨i + 1, _, env_okl ⟨rfl, rfl, rfl, rfl, trivial⟩, ⟨hL7, (by omega), (upto_step hO hul (upto_all hI (by omega)))⟩, ?_⟩
    show 3 - (i + 1) < 3 - i; omega
  ·
   refine send (fg [(1, _), (36, _), (37, _), (38, _), (39, _)] ⟨rfl, rfl, rfl, rfl, rfl, ⟨⟩⟩ fun _ => (wp_seq (cno rfl (wp_exit (eThen (eThen (eHit (nThen (fg [(1, _)] ⟨rfl, ⟨⟩⟩ fun _ => (sreg (sv (xldS (lens := lMsg) ro34 rfl h1.r) ?_)))))))))))
   refine sc (xcall ca33 rfl) (c33 (lU hU (by omega)) ha y1 y2 y3 hfa hfr (by omega)) ?_
   rintro _ w31 ⟨gb96, rfl, gp96, m32⟩
   have z33 := m32.size
   have hf := hf.step0 m32
   rcases Bool.eq_false_or_eq_true gb96 with rfl | rfl
   ·
    refine sv (xassign rfl) (send (fg [(2, _)] ⟨rfl, ⟨⟩⟩ fun _ => (wp_ret ?_)))
    refine rp1 rfl rfl ?_
    exact ⟨_, rfl, (fun _ => ⟨by omega, upto_all hO (by simp; omega), gp96 rfl⟩), hf⟩
   ·
    refine sv (xassign rfl) (send (fg [(2, _)] ⟨rfl, ⟨⟩⟩ fun _ => (wp_ret ?_)))
    refine rp1 rfl rfl ?_
    exact ⟨_, rfl, (fun h => by cases h), hf⟩
end Go.Proofs.YtifnodoffgfpbaaGreatDoor

namespace Go.Proofs.YtifnodoffgfpbaaGreatDoor
open Go
set_option maxHeartbeats 4000000 in
set_option maxRecDepth 100000 in
theorem c19 {w : World} {U V : Nat → Prop} {a b : Value} {cs bs : List UInt8} (ha : BA U w a cs) (hb : BA V w b bs) :
  Ret PP 19 [a, b] w (fun u w' => u = .bool (decide (cs = bs)) ∧ Fr0 w w') := by
 have hf : Fr (fun _ => False) w w := Fr.refl _ _
 refine ret_of Tryz.func19 rfl rfl rfl [(0, _), (1, _)] rfl ?_
 refine sreg (sv (xassign rfl) (send (fg [(0, _), (1, _)] ⟨rfl, rfl, ⟨⟩⟩ fun _ => (sreg (sv (xmove rfl) (sv (xb2sB sl37 ki5 st9 ha rfl) (sv (xmove rfl) (sv (xb2sB sl37 ki5 st9 hb rfl) ?_))))))))
 refine svP (xeqs rfl rfl) (fun hc9 => ?_) (fun hc9 => ?_)
 ·
  refine sv (xassign rfl) (send (fg [(4, _)] ⟨rfl, ⟨⟩⟩ fun _ => (wp_ret ?_)))
  refine rp1 rfl rfl ?_
  exact ⟨by rw [decide_eq_true (ba_str_eq.1 hc9)], hf⟩
 ·
  refine sv (xassign rfl) (send (fg [(4, _)] ⟨rfl, ⟨⟩⟩ fun _ => (wp_ret ?_)))
  refine rp1 rfl rfl ?_
  exact ⟨by rw [decide_eq_false (fun h => hc9 (ba_str_eq.2 h))], hf⟩
set_option maxHeartbeats 4000000 in
set_option maxRecDepth 100000 in
theorem c29 {w : World} {U : Nat → Prop} (hU : ∀ k, U k → k < w.heap.size) {v : Value} {l : List RecD} (hl : LA RecEl lRec U w v l) (hn : l.length ≤ 1048576) (hpn : ∀ r ∈ l, r.fits) :
  Ret PP 29 [v] w (fun u w' => LA RecEl lRec (Ub U w w') w' u l ∧ Fr0 w w') := by
 obtain ⟨a0, c0, rfl⟩ := hl.form
 have hf : Fr (fun _ => False) w w := Fr.refl _ _
 refine ret_of Tryz.func29 rfl rfl rfl [(0, _)] rfl ?_
 refine sreg (sv (xassign rfl) (send (fg [(0, _)] ⟨rfl, ⟨⟩⟩ fun _ => (sreg ?_))))
 refine svK (xslit ([]) sl32 in65 rfl (by decide) rfl rfl rfl rfl (by decide) rfl rfl) ?_
 rintro _ w2 ⟨b9, rfl, m3, h9, e9, s9, r9⟩
 have hl := hl.keep rec_st (lU hU (by omega)) m3 nF
 have hf := hf.step0 m3
 have hv3 : RX RecEl lRec U w.heap.size w2.heap.size w2 _ b9 65 0 [] := RX.ofNil r9
 refine sv (xassign rfl) (send (fg [(0, _), (3, _)] ⟨rfl, rfl, ⟨⟩⟩ fun _ => (wp_seq (sreg (sv (xmove rfl) (sv (xlen sl26 rfl) (sv (xmove rfl) (send (fg [(3, _), (10, _), (11, _), (12, _)] ⟨rfl, rfl, rfl, rfl, ⟨⟩⟩ fun _ => (wp_block ?_))))))))))
 refine lp [(10, _), (11, _)] (fun (x : Nat × Value × Nat) => match x with | (k, v, g) => [(3, v), (12, .int .i64 (k : Int))]) (fun (x : Nat × Value × Nat) wx => match x with | (k, v, g) => Fr (fun k => k = b9) w2 wx ∧ (k ≤ l.length) ∧ (RX RecEl lRec U w.heap.size wx.heap.size wx v g 65 k (l.take k)) ∧ (w.heap.size ≤ g) ∧ (g < wx.heap.size) ∧ (g = b9 ∨ w2.heap.size ≤ g)) (fun (x : Nat × Value × Nat) => match x with | (k, v, g) => l.length - k) (0, _, b9) ⟨rfl, rfl, rfl, rfl, trivial⟩ ⟨Fr.refl _ _, Nat.zero_le _, hv3, by omega, by omega, .inl rfl⟩ ?_
 rintro ⟨k, v, g⟩ _ w5 ⟨hL4, hk, hv3, hg, hg2, hg3⟩
 refine fg [(3, _), (10, _), (11, _), (12, _)] ⟨rfl, rfl, rfl, rfl, ⟨⟩⟩ fun _ => ?_
 have z6 := hL4.size
 have hl := hl.keep rec_st (lU hU (by omega)) hL4 (fun k hk hS => by have hk := hU k hk; have hS : k = b9 := hS; omega)
 have hf := hf.step hL4 (fun k hk hS => by have hS : k = b9 := hS; show False; omega)
 obtain ⟨a3, c3, rfl⟩ := RA.form hv3
 refine sreg ?_
 refine svP (xlss rfl rfl) (fun hc13 => ?_) (fun hc13 => ?_)
 ·
  refine send (fg [(3, _), (10, _), (11, _), (12, _), (13, _)] ⟨rfl, rfl, rfl, rfl, rfl, ⟨⟩⟩ fun _ => (wp_seq (cyes rfl (wp_skip (nThen (fg [(3, _), (10, _), (11, _), (12, _)] ⟨rfl, rfl, rfl, rfl, ⟨⟩⟩ fun _ => (wp_seq (wp_block ?_))))))))
  obtain ⟨r, hrk⟩ := some_of_lt (by omega : k < l.length)
  have hrf := hpn r (List.mem_of_getElem? hrk)
  simp only [RecD.fits] at hrf
  refine sreg ?_
  obtain ⟨bE14, oE14, sgE14, rfl, uE14, hsE14, heE14⟩ := LA.get hl hrk
  obtain ⟨vd, vt, vp, rfl, hd, ht, hp⟩ := heE14
  have zE14 := hU _ uE14
  obtain ⟨ad, cd, rfl, -⟩ := id hd
  obtain ⟨at1, ct1, rfl⟩ := ht.form
  obtain ⟨ap1, cp1, rfl⟩ := hp.form
  refine sv (xidx sl26 sz112 rfl rfl rfl (by omega)) (sv (xldS (lens := lRec) ro112 rfl hsE14) ?_)
  refine svK (xallS (lens := lRec) in112 rfl) ?_
  rintro _ w8 ⟨b5, rfl, m9, h5, e7, s7⟩
  have hf := hf.step0 m9
  have hv3 := RX.keep hv3 rec_st (lU hU (by omega)) (by omega) m9 (fun _ _ _ h => h) id
  have hL4 := hL4.step0 m9
  have hd := hd.keep (lU hU (by omega)) m9 nF
  have ht := ht.keep text_st (lU hU (by omega)) m9 nF
  have hp := hp.keep pair_st (lU hU (by omega)) m9 nF
  refine suK (xstW h5 (lens' := lRec) sz112 rfl rfl rfl rfl rfl) ?_
  rintro w11 ⟨m12, h5, s10⟩
  have hf := hf.step m12 (fun k hk hS => by have hS : k = b5 := hS; show False; omega)
  have hv3 := RX.keep hv3 rec_st (lU hU (by omega)) (by omega) m12 (fun k hk hk3 hS => by have hS : k = b5 := hS; rcases hk with hk | hk <;> first | omega | (have := hU k hk; omega)) (by show ¬ (g = b5); omega)
  have hL4 := hL4.step m12 (fun k hk hS => by have hS : k = b5 := hS; show k = b9; omega)
  have hd := hd.keep (lU hU (by omega)) m12 (fun k hk hS => by have hk := hU k hk; have hS : k = b5 := hS; omega)
  have ht := ht.keep text_st (lU hU (by omega)) m12 (fun k hk hS => by have hk := hU k hk; have hS : k = b5 := hS; omega)
  have hp := hp.keep pair_st (lU hU (by omega)) m12 (fun k hk hS => by have hk := hU k hk; have hS : k = b5 := hS; omega)
  refine send (fg [(3, _), (5, _), (10, _), (11, _), (12, _)] ⟨rfl, rfl, rfl, rfl, rfl, ⟨⟩⟩ fun _ => (sreg ?_))
  refine svK (xslit ([]) sl63 in67 rfl (by decide) rfl rfl rfl rfl (by decide) rfl rfl) ?_
  rintro _ w14 ⟨b16, rfl, m15, h16, e16, s16, r16⟩
  have hf := hf.step0 m15
  have hv3 := RX.keep hv3 rec_st (lU hU (by omega)) (by omega) m15 (fun _ _ _ h => h) id
  have hL4 := hL4.step0 m15
  have hd := hd.keep (lU hU (by omega)) m15 nF
  have ht := ht.keep text_st (lU hU (by omega)) m15 nF
  have hp := hp.keep pair_st (lU hU (by omega)) m15 nF
  have h5 := h5.keep m15 id
  have hv6 : RA PairEl lPair U w14 _ b16 67 0 [] := ⟨[], r16, All2.nil⟩
  refine sv (xassign rfl) (send (fg [(3, _), (5, _), (6, _), (10, _), (11, _), (12, _)] ⟨rfl, rfl, rfl, rfl, rfl, rfl, ⟨⟩⟩ fun _ => (wp_seq (sreg (sv (xfld fl112_15 rfl) (sv (xld on110 rfl (h5.r.c 15 rfl rfl)) (sv (xlen sl110 rfl) (sv (xmove rfl) (send (fg [(3, _), (5, _), (6, _), (10, _), (11, _), (12, _), (18, _), (19, _), (20, _)] ⟨rfl, rfl, rfl, rfl, rfl, rfl, rfl, rfl, rfl, ⟨⟩⟩ fun _ => (wp_block ?_)))))))))))
  refine lp [(3, _), (5, _), (10, _), (11, _), (12, _), (18, _), (19, _)] (fun (x : Nat × Value × Nat) => match x with | (j, v6, g6) => [(6, v6), (20, .int .i64 (j : Int))]) (fun (x : Nat × Value × Nat) wx => match x with | (j, v6, g6) => Fr (fun k => k = b16) w14 wx ∧ (j ≤ r.pairs.length) ∧ (RA PairEl lPair U wx v6 g6 67 j (r.pairs.take j)) ∧ (w.heap.size ≤ g6) ∧ (g6 < wx.heap.size) ∧ (g6 = b16 ∨ w14.heap.size ≤ g6)) (fun (x : Nat × Value × Nat) => match x with | (j, v6, g6) => r.pairs.length - j) (0, _, b16) ⟨rfl, rfl, rfl, rfl, rfl, rfl, rfl, rfl, rfl, trivial⟩ ⟨Fr.refl _ _, Nat.zero_le _, hv6, by omega, by omega, .inl rfl⟩ ?_
  rintro ⟨j, v6, g6⟩ _ w17 ⟨hL16, hj, hv6, hg6, hg7, hg8⟩
  refine fg [(3, _), (5, _), (6, _), (10, _), (11, _), (12, _), (18, _), (19, _), (20, _)] ⟨rfl, rfl, rfl, rfl, rfl, rfl, rfl, rfl, rfl, ⟨⟩⟩ fun _ => ?_
  have z18 := hL16.size
  have hf := hf.step hL16 (fun k hk hS => by have hS : k = b16 := hS; show False; omega)
  have hv3 := RX.keep hv3 rec_st (lU hU (by omega)) (by omega) hL16 (fun k hk hk3 hS => by have hS : k = b16 := hS; rcases hk with hk | hk <;> first | omega | (have := hU k hk; omega)) (by show ¬ (g = b16); omega)
  have hL4 := hL4.step hL16 (fun k hk hS => by have hS : k = b16 := hS; show k = b9; omega)
  have hd := hd.keep (lU hU (by omega)) hL16 (fun k hk hS => by have hk := hU k hk; have hS : k = b16 := hS; omega)
  have ht := ht.keep text_st (lU hU (by omega)) hL16 (fun k hk hS => by have hk := hU k hk; have hS : k = b16 := hS; omega)
  have hp := hp.keep pair_st (lU hU (by omega)) hL16 (fun k hk hS => by have hk := hU k hk; have hS : k = b16 := hS; omega)
  have h5 := h5.keep hL16 (by show ¬ (b5 = b16); omega)
  obtain ⟨a6, c6, rfl⟩ := RA.form hv6
  refine sreg ?_
  refine svP (xlss rfl rfl) (fun hc21 => ?_) (fun hc21 => ?_)
  ·
   refine send (fg [(3, _), (5, _), (6, _), (10, _), (11, _), (12, _), (18, _), (19, _), (20, _), (21, _)] ⟨rfl, rfl, rfl, rfl, rfl, rfl, rfl, rfl, rfl, rfl, ⟨⟩⟩ fun _ => (wp_seq (cyes rfl (wp_skip (nThen (fg [(3, _), (5, _), (6, _), (10, _), (11, _), (12, _), (18, _), (19, _), (20, _)] ⟨rfl, rfl, rfl, rfl, rfl, rfl, rfl, rfl, rfl, ⟨⟩⟩ fun _ => (wp_seq (wp_block ?_))))))))
   obtain ⟨p, hpj⟩ := some_of_lt (by omega : j < r.pairs.length)
   refine sreg ?_
   obtain ⟨bE22, oE22, sgE22, rfl, uE22, hsE22, heE22⟩ := LA.get hp hpj
   obtain ⟨vdp, rfl, hdp⟩ := heE22
   have zE22 := hU _ uE22
   obtain ⟨adp, cdp, rfl, -⟩ := id hdp
   refine sv (xidx sl110 sz145 rfl rfl rfl (by omega)) (sv (xldS (lens := [1, 1]) ro145 rfl hsE22) ?_)
   refine svK (xallS (lens := [1, 1]) in145 rfl) ?_
   rintro _ w20 ⟨b8, rfl, m21, h8, e19, s19⟩
   have hf := hf.step0 m21
   have hv3 := RX.keep hv3 rec_st (lU hU (by omega)) (by omega) m21 (fun _ _ _ h => h) id
   have hL4 := hL4.step0 m21
   have hd := hd.keep (lU hU (by omega)) m21 nF
   have ht := ht.keep text_st (lU hU (by omega)) m21 nF
   have h5 := h5.keep m21 id
   have hv6 := hv6.keep pair_st (lU hU (by omega)) m21 nF id
   have hL16 := hL16.step0 m21
   have hdp := hdp.keep (lU hU (by omega)) m21 nF
   refine suK (xstW h8 (lens' := [1, 1]) sz145 rfl rfl rfl rfl rfl) ?_
   rintro w23 ⟨m24, h8, s22⟩
   have hf := hf.step m24 (fun k hk hS => by have hS : k = b8 := hS; show False; omega)
   have hv3 := RX.keep hv3 rec_st (lU hU (by omega)) (by omega) m24 (fun k hk hk3 hS => by have hS : k = b8 := hS; rcases hk with hk | hk <;> first | omega | (have := hU k hk; omega)) (by show ¬ (g = b8); omega)
   have hL4 := hL4.step m24 (fun k hk hS => by have hS : k = b8 := hS; show k = b9; omega)
   have hd := hd.keep (lU hU (by omega)) m24 (fun k hk hS => by have hk := hU k hk; have hS : k = b8 := hS; omega)
   have ht := ht.keep text_st (lU hU (by omega)) m24 (fun k hk hS => by have hk := hU k hk; have hS : k = b8 := hS; omega)
   have h5 := h5.keep m24 (by show ¬ (b5 = b8); omega)
   have hv6 := hv6.keep pair_st (lU hU (by omega)) m24 (fun k hk hS => by have hk := hU k hk; have hS : k = b8 := hS; omega) (by show ¬ (g6 = b8); omega)
   have hL16 := hL16.step m24 (fun k hk hS => by have hS : k = b8 := hS; show k = b16; omega)
   have hdp := hdp.keep (lU hU (by omega)) m24 (fun k hk hS => by have hk := hU k hk; have hS : k = b8 := hS; omega)
   refine send (fg [(3, _), (5, _), (6, _), (8, _), (10, _), (11, _), (12, _), (18, _), (19, _), (20, _)] ⟨rfl, rfl, rfl, rfl, rfl, rfl, rfl, rfl, rfl, rfl, ⟨⟩⟩ fun _ => (lreg (sv (xmove rfl) (sv (xldS (lens := [1, 1]) ro145 rfl h8.r) ?_))))
   refine svK (xslit ((pairSegs p (.slice adp p.data.length cdp)).flatten) sl63 in67 rfl (by decide) rfl rfl rfl rfl (by decide) rfl rfl) ?_
   rintro _ w26 ⟨b26, rfl, m27, h26, e26, s26, r26⟩
   have hf := hf.step0 m27
   have hv3 := RX.keep hv3 rec_st (lU hU (by omega)) (by omega) m27 (fun _ _ _ h => h) id
   have hL4 := hL4.step0 m27
   have hd := hd.keep (lU hU (by omega)) m27 nF
   have ht := ht.keep text_st (lU hU (by omega)) m27 nF
   have h5 := h5.keep m27 id
   have hv6 := hv6.keep pair_st (lU hU (by omega)) m27 nF id
   have hL16 := hL16.step0 m27
   have hdp := hdp.keep (lU hU (by omega)) m27 nF
   obtain ⟨ss27, hR27, hA27⟩ := hv6
   refine svK (xapp sl63 in67 rfl (by decide) rfl rfl hR27 (r26.src sl63) (by simp only [maxLen]; omega) (by omega)) ?_
   rintro v27 w28 ⟨g27, r27, m29, a27, l27⟩
   have z30 := m29.size
   have hf := hf.step m29 (fun k hk hS => by have hS : k = g6 := hS; show False; omega)
   have hv3 := RX.keep hv3 rec_st (lU hU (by omega)) (by omega) m29 (fun k hk hk3 hS => by have hS : k = g6 := hS; rcases hk with hk | hk <;> first | omega | (have := hU k hk; omega)) (by show ¬ (g = g6); omega)
   have hL4 := hL4.step m29 (fun k hk hS => by have hS : k = g6 := hS; show k = b9; omega)
   have hd := hd.keep (lU hU (by omega)) m29 (fun k hk hS => by have hk := hU k hk; have hS : k = g6 := hS; omega)
   have ht := ht.keep text_st (lU hU (by omega)) m29 (fun k hk hS => by have hk := hU k hk; have hS : k = g6 := hS; omega)
   have h5 := h5.keep m29 (by show ¬ (b5 = g6); omega)
   have hL16 := hL16.step m29 (fun k hk hS => by have hS : k = g6 := hS; show k = b16; omega)
   have hdp := hdp.keep (lU hU (by omega)) m29 (fun k hk hS => by have hk := hU k hk; have hS : k = g6 := hS; omega)
   have hv6 := RA.snoc (x := p) hA27 pair_st pair_gr (lU hU (by omega)) m29 (fun k hk hS => by have hk := hU k hk; have hS : k = g6 := hS; omega) (fun _ h => h) r27 rfl (⟨_, rfl, hdp⟩)
   refine sv (xassign rfl) (lend (nBlock (nThen (fg [(3, _), (5, _), (6, _), (10, _), (11, _), (12, _), (18, _), (19, _), (20, _)] ⟨rfl, rfl, rfl, rfl, rfl, rfl, rfl, rfl, rfl, ⟨⟩⟩ fun _ => (lreg (sv (xadd rfl rfl (w64 (by omega) (by omega))) (sv (xmove rfl) (lend (nThen ?_)))))))))
   refine ⟨(j + 1, _, g27), _, env_okl ⟨rfl, rfl, rfl, rfl, rfl, rfl, rfl, rfl, rfl, trivial⟩, ⟨hL16, (by omega), (by rw [take_snoc hpj]; exact hv6), (by omega), (l27 (by omega)), (by omega)⟩, ?_⟩
   show r.pairs.length - (j + 1) < r.pairs.length - j; omega
  ·
   refine send (fg [(3, _), (5, _), (6, _), (10, _), (11, _), (12, _), (18, _), (19, _), (20, _), (21, _)] ⟨rfl, rfl, rfl, rfl, rfl, rfl, rfl, rfl, rfl, rfl, ⟨⟩⟩ fun _ => (wp_seq (cno rfl (wp_exit (eThen (eThen (eHit (nThen (fg [(3, _), (5, _), (6, _), (10, _), (11, _), (12, _)] ⟨rfl, rfl, rfl, rfl, rfl, rfl, ⟨⟩⟩ fun _ => ?_)))))))))
   have eP : r.pairs.take j = r.pairs := List.take_of_length_le (by omega)
   rw [eP] at hv6
   obtain rfl : j = r.pairs.length := by omega
   refine lreg (sv (xmove rfl) (sv (xfld fl112_0 rfl) (sv (xld on9 rfl (h5.r.c 0 rfl rfl)) (sv (xfld fl112_1 rfl) (sv (xld on22 rfl (h5.r.c 1 rfl rfl)) (sv (xfld fl112_2 rfl) (sv (xld on22 rfl (h5.r.c 2 rfl rfl)) (sv (xfld fl112_3 rfl) (sv (xld on61 rfl (h5.r.c 3 rfl rfl)) (sv (xfld fl112_4 rfl) (sv (xld on22 rfl (h5.r.c 4 rfl rfl)) ?_)))))))))))
   refine sv (xfld fl112_5 rfl) (sv (xld on3 rfl (h5.r.c 5 rfl rfl)) (sv (xfld fl112_6 rfl) (sv (xld on37 rfl (h5.r.c 6 rfl rfl)) (sv (xfld fl112_7 rfl) (sv (xld on9 rfl (h5.r.c 7 rfl rfl)) (sv (xfld fl112_8 rfl) (sv (xld on9 rfl (h5.r.c 8 rfl rfl)) (sv (xfld fl112_9 rfl) (sv (xld on61 rfl (h5.r.c 9 rfl rfl)) (sv (xfld fl112_10 rfl) (sv (xld on61 rfl (h5.r.c 10 rfl rfl)) ?_)))))))))))
   refine sv (xfld fl112_11 rfl) (sv (xld on61 rfl (h5.r.c 11 rfl rfl)) (sv (xfld fl112_12 rfl) (sv (xld on61 rfl (h5.r.c 12 rfl rfl)) (sv (xfld fl112_13 rfl) (sv (xld on61 rfl (h5.r.c 13 rfl rfl)) (sv (xfld fl112_14 rfl) (sv (xld on62 rfl (h5.r.c 14 rfl rfl)) (sv (xmove rfl) (sv (xbuildS (recSegs r (.slice ad r.data.length cd) (.slice at1 r.texts.length ct1) (.slice a6 r.pairs.length c6)) zr65 ly65 rfl (by simp [fitAll, zs65, Value.cells]) rfl) ?_)))))))))
   refine svK (xslit ((recSegs r (.slice ad r.data.length cd) (.slice at1 r.texts.length ct1) (.slice a6 r.pairs.length c6)).flatten) sl32 in65 rfl (by decide) rfl rfl rfl rfl (by decide) rfl rfl) ?_
   rintro _ w32 ⟨b62, rfl, m33, h62, e62, s62, r62⟩
   have hf := hf.step0 m33
   have hv3 := RX.keep hv3 rec_st (lU hU (by omega)) (by omega) m33 (fun _ _ _ h => h) id
   have hL4 := hL4.step0 m33
   have hd := hd.keep (lU hU (by omega)) m33 nF
   have ht := ht.keep text_st (lU hU (by omega)) m33 nF
   have hv6 := hv6.keep pair_st (lU hU (by omega)) m33 nF id
   obtain ⟨ss63, hR63, hA63⟩ := hv3
   refine svK (xapp sl32 in65 rfl (by decide) rfl rfl hR63 (r62.src sl32) (by simp only [maxLen]; omega) (by omega)) ?_
   rintro v63 w34 ⟨g63, r63, m35, a63, l63⟩
   have z36 := m35.size
   have hf := hf.step m35 (fun k hk hS => by have hS : k = g := hS; show False; omega)
   have hL4 := hL4.step m35 (fun k hk hS => by have hS : k = g := hS; show k = b9; omega)
   have hd := hd.keep (lU hU (by omega)) m35 (fun k hk hS => by have hk := hU k hk; have hS : k = g := hS; omega)
   have ht := ht.keep text_st (lU hU (by omega)) m35 (fun k hk hS => by have hk := hU k hk; have hS : k = g := hS; omega)
   have hv6 := hv6.keep pair_st (lU hU (by omega)) m35 (fun k hk hS => by have hk := hU k hk; have hS : k = g := hS; omega) (by show ¬ (g6 = g); omega)
   have hv3 := RX.snoc (x := r) w34.heap.size hA63 rec_st rec_gr (lU hU (by omega)) (by omega) (by omega) m35 a63 r63 rfl (⟨_, _, _, rfl, hd.mono (fun k h => ⟨.inl h, by have := hU k h; omega⟩), ht.mono text_gr (fun k h => ⟨.inl h, by have := hU k h; omega⟩), RA.la hv6 (by decide) pair_gr (fun k h => ⟨.inl h, by have := hU k h; omega⟩) ⟨.inr (by omega), by omega⟩⟩)
   refine sv (xassign rfl) (lend (nBlock (nThen (fg [(3, _), (10, _), (11, _), (12, _)] ⟨rfl, rfl, rfl, rfl, ⟨⟩⟩ fun _ => (lreg (sv (xadd rfl rfl (w64 (by omega) (by omega))) (sv (xmove rfl) (lend (nThen ?_)))))))))
   refine ⟨(k + 1, _, g63), _, env_okl ⟨rfl, rfl, rfl, rfl, trivial⟩, ⟨hL4, (by omega), (by rw [take_snoc hrk]; exact RX.up rec_gr hv3 (by omega)), (by omega), (l63 (by omega)), (by omega)⟩, ?_⟩
   show l.length - (k + 1) < l.length - k; omega
 ·
  refine send (fg [(3, _), (10, _), (11, _), (12, _), (13, _)] ⟨rfl, rfl, rfl, rfl, rfl, ⟨⟩⟩ fun _ => (wp_seq (cno rfl (wp_exit (eThen (eThen (eHit (nThen (fg [(3, _)] ⟨rfl, ⟨⟩⟩ fun _ => (sreg (sv (xmove rfl) ?_)))))))))))
  refine sv (xassign rfl) (send (fg [(2, _)] ⟨rfl, ⟨⟩⟩ fun _ => (wp_ret ?_)))
  refine rp1 rfl rfl ?_
  have e : l.take k = l := List.take_of_length_le (by omega)
  rw [e] at hv3
  exact ⟨RX.la hv3 (by decide) rec_gr (fun k hk => hk.elim .inl .inr) (.inr ⟨hg, hg2⟩), hf⟩
end Go.Proofs.YtifnodoffgfpbaaGreatDoor

namespace Go.Proofs.YtifnodoffgfpbaaGreatDoor
open Go

theorem Uw.num {U : Nat → Prop} {n0 nb g n k : Nat} (hU : ∀ k, U k → k < n) (h : Uw U n0 nb g k) : (k < n ∨ (n0 ≤ k ∧ k < nb)) ∧ k ≠ g := ⟨h.1.imp_left (hU k), h.2⟩

inductive Tr where
  | lst (o : List (Nat × Kd))
  | rd (i : Nat) (t : Tr)
  | ld (i : Nat) (t : Tr)
  | two (i : Nat) (a : Tr) (j : Nat) (b : Tr)
def runT (P : Program) (ops : Array Oper) (Q : Exit → Act → World → Prop) (S : World → Prop) : Tr → Act → World → Prop
  | .lst o, a, w => runH P ops Q S o a w
  | .rd i t, a, w => ∃ o v, ops[i]? = some o ∧ YieldsIf P ops S o v a ∧ S w ∧ runT P ops Q S t (a.put o.dst v) w
  | .ld i t, a, w => wpOp P ops Q i (fun a' w' => S w' ∧ runT P ops Q S t a' w') a w
  | .two i t j u, a, w => wpOp P ops Q i (fun a' w' => S w' ∧ runT P ops Q S t a' w') a w ∧ wpOp P ops Q j (fun a' w' => S w' ∧ runT P ops Q S u a' w') a w
def readsT : Tr → List Nat
  | .lst o => reads o
  | .rd i t => i :: readsT t
  | .ld _ t => readsT t
  | .two _ a _ _ => readsT a
def okT (ops : Array Oper) (st : List Nat) : Array Bool → Tr → Bool
  | listed, .lst o => okRun ops st listed o
  | listed, .rd i t => st.contains i && Region.free .any ops listed i && (Region.ready .any ops listed).contains i && okT ops st (listed.setIfInBounds i true) t
  | listed, .ld i t => (Region.ready .any ops listed == [i]) && okT ops st (listed.setIfInBounds i true) t
  | listed, .two i a j b => (Region.ready .any ops listed == [i, j]) && okT ops st (listed.setIfInBounds i true) a && okT ops st (listed.setIfInBounds j true) b
def lenT : Tr → Nat
  | .lst o => o.length
  | .rd _ t => lenT t + 1
  | .ld _ t => lenT t + 1
  | .two _ a _ b => max (lenT a) (lenT b) + 1

section
variable {P : Program} {ops : Array Oper} {Q : Exit → Act → World → Prop} {S : World → Prop} {st : List Nat}
theorem runT_sound (hs : Region.noSelect ops = true) (hQ : ∀ c d v a w, Q (.panic c) (a.put d v) w → Q (.panic c) a w) :
    ∀ (t : Tr) (listed : Array Bool) (a : Act) (w : World) (fuel : Nat), closedUp ops listed → okT ops st listed t = true → lenT t ≤ fuel → runT P ops Q S t a w → wpAnyP P ops Q S st fuel listed a w
  | .lst o, listed, a, w, fuel, hc, hok, hf, h => runH_sound hs hQ o listed a w fuel hc hok hf h
  | .rd i t, listed, a, w, fuel, hc, hok, hf, h => by
    simp only [okT, Bool.and_eq_true] at hok
    obtain ⟨o, v, ho, hy, hS, hk⟩ := h
    cases fuel with
    | zero => simp [lenT] at hf
    | succ fuel =>
      have hr : i ∈ Region.ready .any ops listed := by simpa using hok.1.2
      refine wpAnyP_first ho (by simpa using hok.1.1.1) (Region.noSelect_spec hs) (fun c a w => hQ c _ _ a w) fuel listed a w hc hok.1.1.2 hr hy hS ?_
      exact runT_sound hs hQ t _ _ _ _ (closedUp_set hc hr) hok.2 (by simpa [lenT] using hf) hk
  | .ld i t, listed, a, w, fuel, hc, hok, hf, h => by
    simp only [okT, Bool.and_eq_true, beq_iff_eq] at hok
    cases fuel with
    | zero => simp [lenT] at hf
    | succ fuel =>
      refine wpAnyP_one hok.1 (wpOp_mono (fun a' w' h' => ⟨.inr h'.1, ?_⟩) h)
      exact runT_sound hs hQ t _ _ _ _ (closedUp_set hc (by rw [hok.1]; simp)) hok.2 (by simpa [lenT] using hf) h'.2
  | .two i t j u, listed, a, w, fuel, hc, hok, hf, h => by
    simp only [okT, Bool.and_eq_true, beq_iff_eq] at hok
    cases fuel with
    | zero => simp [lenT] at hf
    | succ fuel =>
      simp only [lenT] at hf
      refine ⟨fun h0 => (by rw [hok.1.1] at h0; cases h0), fun k hk => ?_⟩
      rw [hok.1.1] at hk
      simp only [List.mem_cons, List.not_mem_nil, or_false] at hk
      rcases hk with rfl | rfl
      · exact wpOp_mono (fun a' w' h' => ⟨.inr h'.1, runT_sound hs hQ t _ _ _ _ (closedUp_set hc (by rw [hok.1.1]; simp)) hok.1.2 (by omega) h'.2⟩) h.1
      · exact wpOp_mono (fun a' w' h' => ⟨.inr h'.1, runT_sound hs hQ u _ _ _ _ (closedUp_set hc (by rw [hok.1.1]; simp)) hok.2 (by omega) h'.2⟩) h.2

/-- what stands behind the region knows only J -/
theorem sdrawI {id : Nat} {y : Code} {n : Nat} {l : List (Nat × Value)} {r : Nat → Value} {w : World} {α : Type} (u : List (Nat × Value)) (_hu : okl l u) (ch : α → List (Nat × Value)) (J : α → World → Prop) (S : World → Prop) (t : Tr) (hm : P.follows .mixedOrders = true)
    (hc : (Region.noSelect ops && okT ops (readsT t) (Array.replicate ops.size false) t && (lenT t).ble ops.size) = true)
    (h : runT P ops (fun e a' w' => e = .normal ∧ ∃ x r', a' = env n (ch x ++ u) r' ∧ J x w') S t (env n l r) w.drew)
    (k : ∀ x r w', J x w' → y.wp P Q (env n (ch x ++ u) r) w') : (Code.seq (.region id ops true) y).wp P Q (env n l r) w := by
  simp only [Bool.and_eq_true] at hc
  refine wp_seq (wp_mono (wp_region_any hm (wpAny_of_P _ _ _ _ (runT_sound hc.1.1 (fun c d v a w h => by cases h.1) t _ _ _ _ (closedUp_start _) hc.1.2 (Nat.le_of_ble_eq_true hc.2) h))) ?_)
  rintro e a' w' ⟨rfl, x, r', rfl, hJ⟩
  exact k x r' w' hJ

variable {n : Nat} {l : List (Nat × Value)} {r : Nat → Value} {w w' : World} {op : Op} {ty : TypeId} {pos : String} {af : Array Edge} {v : Value} {d i : Nat} {t : Tr}
theorem lstT {o : List (Nat × Kd)} {a : Act} (h : runH P ops Q S o a w) : runT P ops Q S (.lst o) a w := h
theorem twoT {j : Nat} {u : Tr} {a : Act} (h1 : runT P ops Q S (.ld i t) a w) (h2 : runT P ops Q S (.ld j u) a w) : runT P ops Q S (.two i t j u) a w := ⟨h1, h2⟩
theorem hvT (ho : ops[i]? = some ⟨some d, op, ty, pos, af, none⟩) (h : ∀ w, S w → Ex P n l op ty w v w) (hS : S w)
    (k : runT P ops Q S t (env n ((d, v) :: l) r) w) : runT P ops Q S (.rd i t) (env n l r) w :=
  ⟨_, v, ho, .inl ⟨by simp [Region.wanted], fun w hw => h w hw r _ _ _ _⟩, hS, by rw [env_put]; exact k⟩
theorem hlT (ho : ops[i]? = some ⟨some d, op, ty, pos, af, none⟩) (h : Ex P n l op ty w v w') (hS : S w')
    (k : runT P ops Q S t (env n ((d, v) :: l) r) w') : runT P ops Q S (.ld i t) (env n l r) w := by
  simp only [runT, wpOp, ho]
  rw [if_pos (by simp [Region.wanted])]
  left
  unfold Oper.wp
  rw [h r _ _ _ _]
  simp only [Oper.upon]
  rw [env_put]
  exact ⟨hS, k⟩
theorem hlKT {R : Value → World → Prop} (ho : ops[i]? = some ⟨some d, op, ty, pos, af, none⟩) (h : ExK P n l op ty w R)
    (k : ∀ v w', R v w' → S w' ∧ runT P ops Q S t (env n ((d, v) :: l) r) w') : runT P ops Q S (.ld i t) (env n l r) w := by
  obtain ⟨v, w', he, hR⟩ := h
  exact hlT ho he (k v w' hR).1 (k v w' hR).2
theorem hcT {f : FuncId} {vs : List Value} {R : Value → World → Prop} (ho : ops[i]? = some ⟨some d, op, ty, pos, af, none⟩) (h : ExC P n l op ty w f vs) (hc : Ret P f vs w R)
    (k : ∀ v w', R v w' → S w' ∧ runT P ops Q S t (env n ((d, v) :: l) r) w') : runT P ops Q S (.ld i t) (env n l r) w := by
  simp only [runT, wpOp, ho]
  rw [if_pos (by simp [Region.wanted])]
  left
  unfold Oper.wp
  rw [h r _ _ _ _]
  simp only [Oper.upon]
  refine Calls.mono hc fun e w'' ⟨u, he, hR⟩ => ?_
  subst he
  simp only []
  rw [env_put]
  exact k _ _ hR
end
end Go.Proofs.YtifnodoffgfpbaaGreatDoor

namespace Go.Proofs.YtifnodoffgfpbaaGreatDoor
open Go

theorem RA.la0 {α : Type} {El : (Nat → Prop) → World → List (List Value) → α → Prop} {lens : List Nat} {U U' : Nat → Prop} {w : World} {v : Value} {g E n : Nat} {l : List α} (h : RA El lens U w v g E n l) (hs : 0 < lens.sum) (hE : Grows El) (hU : ∀ k, U k → U' k) (hg : n = 0 ∨ U' g) : LA El lens U' w v l := by
  rcases hg with rfl | hg
  · have hn := h.num hs
    obtain rfl : l = [] := List.eq_nil_of_length_eq_zero hn
    obtain ⟨a, c, rfl⟩ := RA.form h
    exact LA.nil
  · exact h.la hs hE hU hg
/-- what a conversion gives: a message that reads the same -/
def ConvTo (w : World) (U : Nat → Prop) (m : MsgD) (u : Value) (w' : World) : Prop :=
  ∃ va v1 v2 v3, u = ag (msgSegs m.head va v1 v2 v3) ∧ LA AskEl lAsk (Ub U w w') w' va m.asks ∧ LA RecEl lRec (Ub U w w') w' v1 m.one ∧ LA RecEl lRec (Ub U w w') w' v2 m.two ∧ LA RecEl lRec (Ub U w w') w' v3 m.three ∧ Fr0 w w'

set_option maxHeartbeats 4000000 in
set_option maxRecDepth 100000 in
theorem c13 {w : World} {U : Nat → Prop} (hU : ∀ k, U k → k < w.heap.size) {m : MsgD} {va v1 v2 v3 : Value} (ha : LA AskEl lAsk U w va m.asks) (y1 : LA RecEl lRec U w v1 m.one) (y2 : LA RecEl lRec U w v2 m.two) (y3 : LA RecEl lRec U w v3 m.three) (_hfa : ∀ a ∈ m.asks, a.name.size ≤ 1048576) (hfr : ∀ l ∈ [m.one, m.two, m.three], ∀ r ∈ l, r.fits) (hll : ∀ l ∈ [m.one, m.two, m.three], l.length ≤ 1048576) (hna : m.asks.length ≤ 1048576) :
  Ret PP 13 [ag (msgSegs m.head va v1 v2 v3)] w (ConvTo w U m) := by
 obtain ⟨aa, ca, rfl⟩ := ha.form
 obtain ⟨a1, c1, rfl⟩ := y1.form
 obtain ⟨a2, c2, rfl⟩ := y2.form
 obtain ⟨a3, c3, rfl⟩ := y3.form
 have hf : Fr (fun _ => False) w w := Fr.refl _ _
 refine ret_of Tryz.func13 rfl rfl rfl [(0, _)] rfl ?_
 refine sreg ?_
 refine svK (xboxS (lens := lMsg) rfl rfl) ?_
 rintro _ w2 ⟨b1, rfl, m3, h1, e1, s1⟩
 have ha := ha.keep ask_st (lU hU (by omega)) m3 nF
 have y1 := y1.keep rec_st (lU hU (by omega)) m3 nF
 have y2 := y2.keep rec_st (lU hU (by omega)) m3 nF
 have y3 := y3.keep rec_st (lU hU (by omega)) m3 nF
 have hf := hf.step0 m3
 refine svK (xallS (lens := lMsg) in34 rfl) ?_
 rintro _ w5 ⟨b2, rfl, m6, h2, e4, s4⟩
 have ha := ha.keep ask_st (lU hU (by omega)) m6 nF
 have y1 := y1.keep rec_st (lU hU (by omega)) m6 nF
 have y2 := y2.keep rec_st (lU hU (by omega)) m6 nF
 have y3 := y3.keep rec_st (lU hU (by omega)) m6 nF
 have hf := hf.step0 m6
 have h1 := h1.keep m6 id
 refine send (fg [(1, _), (2, _)] ⟨rfl, rfl, ⟨⟩⟩ fun _ => ?_)
 refine sdrawI [(1, _), (2, _)] ⟨rfl, rfl, trivial⟩ (fun (x : Value × Value × Value × Nat) => match x with | (v1, v2, v3, b3) => [(3, .pointer (some ⟨b3, 0, none⟩))]) (fun (x : Value × Value × Value × Nat) wx => match x with | (v1, v2, v3, b3) => Fr (fun _ => False) w5 wx ∧ (SB wx b3 lMsg (msgSegs m.head (.slice none 0 0) v1 v2 v3)) ∧ (LA RecEl lRec (Uw U w5.heap.size wx.heap.size b3) wx v1 m.one) ∧ (LA RecEl lRec (Uw U w5.heap.size wx.heap.size b3) wx v2 m.two) ∧ (LA RecEl lRec (Uw U w5.heap.size wx.heap.size b3) wx v3 m.three) ∧ (w5.heap.size ≤ b3) ∧ (b3 < wx.heap.size)) (Fr (fun _ => False) w5.drew) (.rd 0 (.rd 1 (.rd 2 (.rd 3 (.rd 5 (.rd 6 (.rd 8 (.rd 9 (.two 4 (.two 7 (.two 10 (.lst [(11, .rd), (12, .ld), (13, .bh)]) 12 (.lst [(10, .ld), (11, .rd), (13, .bh)])) 12 (.lst [(7, .ld), (10, .ld), (11, .rd), (13, .bh)])) 12 (.lst [(4, .ld), (7, .ld), (10, .ld), (11, .rd), (13, .bh)])))))))))) mixed (by kernel_rfl) ?_ ?_
 ·
  have hC : Fr (fun _ => False) w5 w5 := Fr.refl _ _
  have z7 : w5.drew.heap.size = w5.heap.size := rfl
  have ha := ha.keep ask_st (lU hU (by omega)) (Fr.drew (Fr.refl (fun _ => False) w5)) nF
  have y1 := y1.keep rec_st (lU hU (by omega)) (Fr.drew (Fr.refl (fun _ => False) w5)) nF
  have y2 := y2.keep rec_st (lU hU (by omega)) (Fr.drew (Fr.refl (fun _ => False) w5)) nF
  have y3 := y3.keep rec_st (lU hU (by omega)) (Fr.drew (Fr.refl (fun _ => False) w5)) nF
  have hf := hf.drew
  have h1 := h1.drew
  have h2 := h2.drew
  have hC := hC.drew
  have hS8 : Fr (fun _ => False) w5.drew w5.drew := Fr.refl _ _
  refine hvT rfl (fun _ _ => xfld fl28_0 rfl) hS8 ?_
  refine hvT rfl (fun w' hS => xldS (lens := [1, 1, 1, 1, 1, 1, 1, 1, 1, 1]) ro24 rfl ((h1.keep hS id).r.sub 0 10 rfl)) hS8 ?_
  refine hvT rfl (fun _ _ => xfld fl28_2 rfl) hS8 ?_
  refine hvT rfl (fun w' hS => xld on26 rfl ((h1.keep hS id).r.c 11 rfl rfl)) hS8 ?_
  refine hvT rfl (fun _ _ => xfld fl28_3 rfl) hS8 ?_
  refine hvT rfl (fun w' hS => xld on26 rfl ((h1.keep hS id).r.c 12 rfl rfl)) hS8 ?_
  refine hvT rfl (fun _ _ => xfld fl28_4 rfl) hS8 ?_
  refine hvT rfl (fun w' hS => xld on26 rfl ((h1.keep hS id).r.c 13 rfl rfl)) hS8 ?_
  refine twoT ?_ ?_
  ·
   refine hcT rfl (xcall ca29 rfl) (c29 (U := U) (lU hU (by omega)) y1 (hll _ (by simp)) (hfr _ (by simp))) ?_
   rintro v10 w9 ⟨L10, m10⟩
   have z11 := m10.size
   have ha := ha.keep ask_st (lU hU (by omega)) m10 nF
   have y1 := y1.keep rec_st (lU hU (by omega)) m10 nF
   have y2 := y2.keep rec_st (lU hU (by omega)) m10 nF
   have y3 := y3.keep rec_st (lU hU (by omega)) m10 nF
   have hf := hf.step0 m10
   have h1 := h1.keep m10 id
   have h2 := h2.keep m10 id
   have hC := hC.step0 m10
   have hS12 := hS8.step0 m10
   obtain ⟨aq10, cq10, rfl⟩ := L10.form
   refine ⟨hS12, ?_⟩
   refine twoT ?_ ?_
   ·
    refine hcT rfl (xcall ca29 rfl) (c29 (U := U) (lU hU (by omega)) y2 (hll _ (by simp)) (hfr _ (by simp))) ?_
    rintro v13 w13 ⟨L13, m14⟩
    have z15 := m14.size
    have ha := ha.keep ask_st (lU hU (by omega)) m14 nF
    have y1 := y1.keep rec_st (lU hU (by omega)) m14 nF
    have y2 := y2.keep rec_st (lU hU (by omega)) m14 nF
    have y3 := y3.keep rec_st (lU hU (by omega)) m14 nF
    have hf := hf.step0 m14
    have h1 := h1.keep m14 id
    have h2 := h2.keep m14 id
    have hC := hC.step0 m14
    have L10 := L10.keep rec_st (lB hU (by omega) (by omega)) m14 nF
    have hS16 := hS12.step0 m14
    obtain ⟨aq13, cq13, rfl⟩ := L13.form
    refine ⟨hS16, ?_⟩
    refine twoT ?_ ?_
    ·
     refine hcT rfl (xcall ca29 rfl) (c29 (U := U) (lU hU (by omega)) y3 (hll _ (by simp)) (hfr _ (by simp))) ?_
     rintro v16 w17 ⟨L16, m18⟩
     have z19 := m18.size
     have ha := ha.keep ask_st (lU hU (by omega)) m18 nF
     have y1 := y1.keep rec_st (lU hU (by omega)) m18 nF
     have y2 := y2.keep rec_st (lU hU (by omega)) m18 nF
     have y3 := y3.keep rec_st (lU hU (by omega)) m18 nF
     have hf := hf.step0 m18
     have h1 := h1.keep m18 id
     have h2 := h2.keep m18 id
     have hC := hC.step0 m18
     have L10 := L10.keep rec_st (lB hU (by omega) (by omega)) m18 nF
     have L13 := L13.keep rec_st (lB hU (by omega) (by omega)) m18 nF
     have hS20 := hS16.step0 m18
     obtain ⟨aq16, cq16, rfl⟩ := L16.form
     refine ⟨hS20, ?_⟩
     refine lstT (hv rfl (fun _ _ => xbuildS (msgSegs m.head (.slice none 0 0) (.slice aq10 m.one.length cq10) (.slice aq13 m.two.length cq13) (.slice aq16 m.three.length cq16)) zr34 ly34 rfl (by simp [fitAll, zs34, Value.cells, msgSegs]) rfl) hS20 ?_)
     refine hlK rfl (xallS (lens := lMsg) in34 rfl) ?_
     rintro _ w22 ⟨b3, rfl, m23, h3, e21, s21⟩
     have ha := ha.keep ask_st (lU hU (by omega)) m23 nF
     have y1 := y1.keep rec_st (lU hU (by omega)) m23 nF
     have y2 := y2.keep rec_st (lU hU (by omega)) m23 nF
     have y3 := y3.keep rec_st (lU hU (by omega)) m23 nF
     have hf := hf.step0 m23
     have h1 := h1.keep m23 id
     have h2 := h2.keep m23 id
     have hC := hC.step0 m23
     have L10 := L10.keep rec_st (lB hU (by omega) (by omega)) m23 nF
     have L13 := L13.keep rec_st (lB hU (by omega) (by omega)) m23 nF
     have L16 := L16.keep rec_st (lB hU (by omega) (by omega)) m23 nF
     have hS24 := hS20.step0 m23
     refine ⟨hS24, ?_⟩
     refine bluK rfl (xstW h3 (lens' := lMsg) sz34 rfl rfl rfl rfl rfl) ?_
     rintro w26 ⟨m27, h3, s25⟩
     have ha := ha.keep ask_st (lU hU (by omega)) m27 (fun k hk hS => by have hk := hU k hk; have hS : k = b3 := hS; omega)
     have y1 := y1.keep rec_st (lU hU (by omega)) m27 (fun k hk hS => by have hk := hU k hk; have hS : k = b3 := hS; omega)
     have y2 := y2.keep rec_st (lU hU (by omega)) m27 (fun k hk hS => by have hk := hU k hk; have hS : k = b3 := hS; omega)
     have y3 := y3.keep rec_st (lU hU (by omega)) m27 (fun k hk hS => by have hk := hU k hk; have hS : k = b3 := hS; omega)
     have hf := hf.step m27 (fun k hk hS => by have hS : k = b3 := hS; show False; omega)
     have h1 := h1.keep m27 (by show ¬ (b1 = b3); omega)
     have h2 := h2.keep m27 (by show ¬ (b2 = b3); omega)
     have hC := hC.step m27 (fun k hk hS => by have hS : k = b3 := hS; show False; omega)
     have L10 := L10.keep rec_st (lB hU (by omega) (by omega)) m27 (fun k hk hS => by have hk := Ub.num hU hk; have hS : k = b3 := hS; omega)
     have L13 := L13.keep rec_st (lB hU (by omega) (by omega)) m27 (fun k hk hS => by have hk := Ub.num hU hk; have hS : k = b3 := hS; omega)
     have L16 := L16.keep rec_st (lB hU (by omega) (by omega)) m27 (fun k hk hS => by have hk := Ub.num hU hk; have hS : k = b3 := hS; omega)
     exact ⟨rfl, (_, _, _, b3), _, env_okl ⟨rfl, rfl, rfl, trivial⟩, ⟨hC, (h3), (L10.mono rec_gr (fun k hk => ⟨hk.elim .inl (fun h => .inr ⟨by omega, by omega⟩), by have hk := Ub.num hU hk; omega⟩)), (L13.mono rec_gr (fun k hk => ⟨hk.elim .inl (fun h => .inr ⟨by omega, by omega⟩), by have hk := Ub.num hU hk; omega⟩)), (L16.mono rec_gr (fun k hk => ⟨hk.elim .inl (fun h => .inr ⟨by omega, by omega⟩), by have hk := Ub.num hU hk; omega⟩)), (by omega), (by omega)⟩⟩
    ·
     refine hlKT rfl (xallS (lens := lMsg) in34 rfl) ?_
     rintro _ w29 ⟨b3, rfl, m30, h3, e28, s28⟩
     have ha := ha.keep ask_st (lU hU (by omega)) m30 nF
     have y1 := y1.keep rec_st (lU hU (by omega)) m30 nF
     have y2 := y2.keep rec_st (lU hU (by omega)) m30 nF
     have y3 := y3.keep rec_st (lU hU (by omega)) m30 nF
     have hf := hf.step0 m30
     have h1 := h1.keep m30 id
     have h2 := h2.keep m30 id
     have hC := hC.step0 m30
     have L10 := L10.keep rec_st (lB hU (by omega) (by omega)) m30 nF
     have L13 := L13.keep rec_st (lB hU (by omega) (by omega)) m30 nF
     have hS31 := hS16.step0 m30
     refine ⟨hS31, ?_⟩
     refine lstT ?_
     refine hc rfl (xcall ca29 rfl) (c29 (U := U) (lU hU (by omega)) y3 (hll _ (by simp)) (hfr _ (by simp))) ?_
     rintro v16 w32 ⟨L16, m33⟩
     have z34 := m33.size
     have ha := ha.keep ask_st (lU hU (by omega)) m33 nF
     have y1 := y1.keep rec_st (lU hU (by omega)) m33 nF
     have y2 := y2.keep rec_st (lU hU (by omega)) m33 nF
     have y3 := y3.keep rec_st (lU hU (by omega)) m33 nF
     have hf := hf.step0 m33
     have h1 := h1.keep m33 id
     have h2 := h2.keep m33 id
     have hC := hC.step0 m33
     have L10 := L10.keep rec_st (lB hU (by omega) (by omega)) m33 nF
     have L13 := L13.keep rec_st (lB hU (by omega) (by omega)) m33 nF
     have h3 := h3.keep m33 id
     have hS35 := hS31.step0 m33
     obtain ⟨aq16, cq16, rfl⟩ := L16.form
     refine ⟨hS35, ?_⟩
     refine hv rfl (fun _ _ => xbuildS (msgSegs m.head (.slice none 0 0) (.slice aq10 m.one.length cq10) (.slice aq13 m.two.length cq13) (.slice aq16 m.three.length cq16)) zr34 ly34 rfl (by simp [fitAll, zs34, Value.cells, msgSegs]) rfl) hS35 ?_
     refine bluK rfl (xstW h3 (lens' := lMsg) sz34 rfl rfl rfl rfl rfl) ?_
     rintro w37 ⟨m38, h3, s36⟩
     have ha := ha.keep ask_st (lU hU (by omega)) m38 (fun k hk hS => by have hk := hU k hk; have hS : k = b3 := hS; omega)
     have y1 := y1.keep rec_st (lU hU (by omega)) m38 (fun k hk hS => by have hk := hU k hk; have hS : k = b3 := hS; omega)
     have y2 := y2.keep rec_st (lU hU (by omega)) m38 (fun k hk hS => by have hk := hU k hk; have hS : k = b3 := hS; omega)
     have y3 := y3.keep rec_st (lU hU (by omega)) m38 (fun k hk hS => by have hk := hU k hk; have hS : k = b3 := hS; omega)
     have hf := hf.step m38 (fun k hk hS => by have hS : k = b3 := hS; show False; omega)
     have h1 := h1.keep m38 (by show ¬ (b1 = b3); omega)
     have h2 := h2.keep m38 (by show ¬ (b2 = b3); omega)
     have hC := hC.step m38 (fun k hk hS => by have hS : k = b3 := hS; show False; omega)
     have L10 := L10.keep rec_st (lB hU (by omega) (by omega)) m38 (fun k hk hS => by have hk := Ub.num hU hk; have hS : k = b3 := hS; omega)
     have L13 := L13.keep rec_st (lB hU (by omega) (by omega)) m38 (fun k hk hS => by have hk := Ub.num hU hk; have hS : k = b3 := hS; omega)
     have L16 := L16.keep rec_st (lB hU (by omega) (by omega)) m38 (fun k hk hS => by have hk := Ub.num hU hk; have hS : k = b3 := hS; omega)
     exact ⟨rfl, (_, _, _, b3), _, env_okl ⟨rfl, rfl, rfl, trivial⟩, ⟨hC, (h3), (L10.mono rec_gr (fun k hk => ⟨hk.elim .inl (fun h => .inr ⟨by omega, by omega⟩), by have hk := Ub.num hU hk; omega⟩)), (L13.mono rec_gr (fun k hk => ⟨hk.elim .inl (fun h => .inr ⟨by omega, by omega⟩), by have hk := Ub.num hU hk; omega⟩)), (L16.mono rec_gr (fun k hk => ⟨hk.elim .inl (fun h => .inr ⟨by omega, by omega⟩), by have hk := Ub.num hU hk; omega⟩)), (by omega), (by omega)⟩⟩
   ·
    refine hlKT rfl (xallS (lens := lMsg) in34 rfl) ?_
    rintro _ w40 ⟨b3, rfl, m41, h3, e39, s39⟩
    have ha := ha.keep ask_st (lU hU (by omega)) m41 nF
    have y1 := y1.keep rec_st (lU hU (by omega)) m41 nF
    have y2 := y2.keep rec_st (lU hU (by omega)) m41 nF
    have y3 := y3.keep rec_st (lU hU (by omega)) m41 nF
    have hf := hf.step0 m41
    have h1 := h1.keep m41 id
    have h2 := h2.keep m41 id
    have hC := hC.step0 m41
    have L10 := L10.keep rec_st (lB hU (by omega) (by omega)) m41 nF
    have hS42 := hS12.step0 m41
    refine ⟨hS42, ?_⟩
    refine lstT ?_
    refine hc rfl (xcall ca29 rfl) (c29 (U := U) (lU hU (by omega)) y2 (hll _ (by simp)) (hfr _ (by simp))) ?_
    rintro v13 w43 ⟨L13, m44⟩
    have z45 := m44.size
    have ha := ha.keep ask_st (lU hU (by omega)) m44 nF
    have y1 := y1.keep rec_st (lU hU (by omega)) m44 nF
    have y2 := y2.keep rec_st (lU hU (by omega)) m44 nF
    have y3 := y3.keep rec_st (lU hU (by omega)) m44 nF
    have hf := hf.step0 m44
    have h1 := h1.keep m44 id
    have h2 := h2.keep m44 id
    have hC := hC.step0 m44
    have L10 := L10.keep rec_st (lB hU (by omega) (by omega)) m44 nF
    have h3 := h3.keep m44 id
    have hS46 := hS42.step0 m44
    obtain ⟨aq13, cq13, rfl⟩ := L13.form
    refine ⟨hS46, ?_⟩
    refine hc rfl (xcall ca29 rfl) (c29 (U := U) (lU hU (by omega)) y3 (hll _ (by simp)) (hfr _ (by simp))) ?_
    rintro v16 w47 ⟨L16, m48⟩
    have z49 := m48.size
    have ha := ha.keep ask_st (lU hU (by omega)) m48 nF
    have y1 := y1.keep rec_st (lU hU (by omega)) m48 nF
    have y2 := y2.keep rec_st (lU hU (by omega)) m48 nF
    have y3 := y3.keep rec_st (lU hU (by omega)) m48 nF
    have hf := hf.step0 m48
    have h1 := h1.keep m48 id
    have h2 := h2.keep m48 id
    have hC := hC.step0 m48
    have L10 := L10.keep rec_st (lB hU (by omega) (by omega)) m48 nF
    have h3 := h3.keep m48 id
    have L13 := L13.keep rec_st (lB hU (by omega) (by omega)) m48 nF
    have hS50 := hS46.step0 m48
    obtain ⟨aq16, cq16, rfl⟩ := L16.form
    refine ⟨hS50, ?_⟩
    refine hv rfl (fun _ _ => xbuildS (msgSegs m.head (.slice none 0 0) (.slice aq10 m.one.length cq10) (.slice aq13 m.two.length cq13) (.slice aq16 m.three.length cq16)) zr34 ly34 rfl (by simp [fitAll, zs34, Value.cells, msgSegs]) rfl) hS50 ?_
    refine bluK rfl (xstW h3 (lens' := lMsg) sz34 rfl rfl rfl rfl rfl) ?_
    rintro w52 ⟨m53, h3, s51⟩
    have ha := ha.keep ask_st (lU hU (by omega)) m53 (fun k hk hS => by have hk := hU k hk; have hS : k = b3 := hS; omega)
    have y1 := y1.keep rec_st (lU hU (by omega)) m53 (fun k hk hS => by have hk := hU k hk; have hS : k = b3 := hS; omega)
    have y2 := y2.keep rec_st (lU hU (by omega)) m53 (fun k hk hS => by have hk := hU k hk; have hS : k = b3 := hS; omega)
    have y3 := y3.keep rec_st (lU hU (by omega)) m53 (fun k hk hS => by have hk := hU k hk; have hS : k = b3 := hS; omega)
    have hf := hf.step m53 (fun k hk hS => by have hS : k = b3 := hS; show False; omega)
    have h1 := h1.keep m53 (by show ¬ (b1 = b3); omega)
    have h2 := h2.keep m53 (by show ¬ (b2 = b3); omega)
    have hC := hC.step m53 (fun k hk hS => by have hS : k = b3 := hS; show False; omega)
    have L10 := L10.keep rec_st (lB hU (by omega) (by omega)) m53 (fun k hk hS => by have hk := Ub.num hU hk; have hS : k = b3 := hS; omega)
    have L13 := L13.keep rec_st (lB hU (by omega) (by omega)) m53 (fun k hk hS => by have hk := Ub.num hU hk; have hS : k = b3 := hS; omega)
    have L16 := L16.keep rec_st (lB hU (by omega) (by omega)) m53 (fun k hk hS => by have hk := Ub.num hU hk; have hS : k = b3 := hS; omega)
    exact ⟨rfl, (_, _, _, b3), _, env_okl ⟨rfl, rfl, rfl, trivial⟩, ⟨hC, (h3), (L10.mono rec_gr (fun k hk => ⟨hk.elim .inl (fun h => .inr ⟨by omega, by omega⟩), by have hk := Ub.num hU hk; omega⟩)), (L13.mono rec_gr (fun k hk => ⟨hk.elim .inl (fun h => .inr ⟨by omega, by omega⟩), by have hk := Ub.num hU hk; omega⟩)), (L16.mono rec_gr (fun k hk => ⟨hk.elim .inl (fun h => .inr ⟨by omega, by omega⟩), by have hk := Ub.num hU hk; omega⟩)), (by omega), (by omega)⟩⟩
  ·
   refine hlKT rfl (xallS (lens := lMsg) in34 rfl) ?_
   rintro _ w55 ⟨b3, rfl, m56, h3, e54, s54⟩
   have ha := ha.keep ask_st (lU hU (by omega)) m56 nF
   have y1 := y1.keep rec_st (lU hU (by omega)) m56 nF
   have y2 := y2.keep rec_st (lU hU (by omega)) m56 nF
   have y3 := y3.keep rec_st (lU hU (by omega)) m56 nF
   have hf := hf.step0 m56
   have h1 := h1.keep m56 id
   have h2 := h2.keep m56 id
   have hC := hC.step0 m56
   have hS57 := hS8.step0 m56
   refine ⟨hS57, ?_⟩
   refine lstT ?_
   refine hc rfl (xcall ca29 rfl) (c29 (U := U) (lU hU (by omega)) y1 (hll _ (by simp)) (hfr _ (by simp))) ?_
   rintro v10 w58 ⟨L10, m59⟩
   have z60 := m59.size
   have ha := ha.keep ask_st (lU hU (by omega)) m59 nF
   have y2 := y2.keep rec_st (lU hU (by omega)) m59 nF
   have y3 := y3.keep rec_st (lU hU (by omega)) m59 nF
   have hf := hf.step0 m59
   have h1 := h1.keep m59 id
   have h2 := h2.keep m59 id
   have hC := hC.step0 m59
   have h3 := h3.keep m59 id
   have hS61 := hS57.step0 m59
   obtain ⟨aq10, cq10, rfl⟩ := L10.form
   refine ⟨hS61, ?_⟩
   refine hc rfl (xcall ca29 rfl) (c29 (U := U) (lU hU (by omega)) y2 (hll _ (by simp)) (hfr _ (by simp))) ?_
   rintro v13 w62 ⟨L13, m63⟩
   have z64 := m63.size
   have ha := ha.keep ask_st (lU hU (by omega)) m63 nF
   have y3 := y3.keep rec_st (lU hU (by omega)) m63 nF
   have hf := hf.step0 m63
   have h1 := h1.keep m63 id
   have h2 := h2.keep m63 id
   have hC := hC.step0 m63
   have h3 := h3.keep m63 id
   have L10 := L10.keep rec_st (lB hU (by omega) (by omega)) m63 nF
   have hS65 := hS61.step0 m63
   obtain ⟨aq13, cq13, rfl⟩ := L13.form
   refine ⟨hS65, ?_⟩
   refine hc rfl (xcall ca29 rfl) (c29 (U := U) (lU hU (by omega)) y3 (hll _ (by simp)) (hfr _ (by simp))) ?_
   rintro v16 w66 ⟨L16, m67⟩
   have z68 := m67.size
   have ha := ha.keep ask_st (lU hU (by omega)) m67 nF
   have hf := hf.step0 m67
   have h1 := h1.keep m67 id
   have h2 := h2.keep m67 id
   have hC := hC.step0 m67
   have h3 := h3.keep m67 id
   have L10 := L10.keep rec_st (lB hU (by omega) (by omega)) m67 nF
   have L13 := L13.keep rec_st (lB hU (by omega) (by omega)) m67 nF
   have hS69 := hS65.step0 m67
   obtain ⟨aq16, cq16, rfl⟩ := L16.form
   refine ⟨hS69, ?_⟩
   refine hv rfl (fun _ _ => xbuildS (msgSegs m.head (.slice none 0 0) (.slice aq10 m.one.length cq10) (.slice aq13 m.two.length cq13) (.slice aq16 m.three.length cq16)) zr34 ly34 rfl (by simp [fitAll, zs34, Value.cells, msgSegs]) rfl) hS69 ?_
   refine bluK rfl (xstW h3 (lens' := lMsg) sz34 rfl rfl rfl rfl rfl) ?_
   rintro w71 ⟨m72, h3, s70⟩
   have ha := ha.keep ask_st (lU hU (by omega)) m72 (fun k hk hS => by have hk := hU k hk; have hS : k = b3 := hS; omega)
   have hf := hf.step m72 (fun k hk hS => by have hS : k = b3 := hS; show False; omega)
   have h1 := h1.keep m72 (by show ¬ (b1 = b3); omega)
   have h2 := h2.keep m72 (by show ¬ (b2 = b3); omega)
   have hC := hC.step m72 (fun k hk hS => by have hS : k = b3 := hS; show False; omega)
   have L10 := L10.keep rec_st (lB hU (by omega) (by omega)) m72 (fun k hk hS => by have hk := Ub.num hU hk; have hS : k = b3 := hS; omega)
   have L13 := L13.keep rec_st (lB hU (by omega) (by omega)) m72 (fun k hk hS => by have hk := Ub.num hU hk; have hS : k = b3 := hS; omega)
   have L16 := L16.keep rec_st (lB hU (by omega) (by omega)) m72 (fun k hk hS => by have hk := Ub.num hU hk; have hS : k = b3 := hS; omega)
   exact ⟨rfl, (_, _, _, b3), _, env_okl ⟨rfl, rfl, rfl, trivial⟩, ⟨hC, (h3), (L10.mono rec_gr (fun k hk => ⟨hk.elim .inl (fun h => .inr ⟨by omega, by omega⟩), by have hk := Ub.num hU hk; omega⟩)), (L13.mono rec_gr (fun k hk => ⟨hk.elim .inl (fun h => .inr ⟨by omega, by omega⟩), by have hk := Ub.num hU hk; omega⟩)), (L16.mono rec_gr (fun k hk => ⟨hk.elim .inl (fun h => .inr ⟨by omega, by omega⟩), by have hk := Ub.num hU hk; omega⟩)), (by omega), (by omega)⟩⟩
 ·
  rintro ⟨v1, v2, v3, b3⟩ _ w73 ⟨hC, h3, L10, L13, L16, hb3, hb4⟩
  have z74 := hC.size
  have ha := ha.keep ask_st (lU hU (by omega)) hC nF
  have hf := hf.step0 hC
  have h1 := h1.keep hC id
  have h2 := h2.keep hC id
  obtain ⟨aq10, cq10, rfl⟩ := L10.form
  obtain ⟨aq13, cq13, rfl⟩ := L13.form
  obtain ⟨aq16, cq16, rfl⟩ := L16.form
  refine fg [(1, _), (2, _), (3, _)] ⟨rfl, rfl, rfl, ⟨⟩⟩ fun _ => (wp_seq (sreg (sv (xfld fl28_1 rfl) (sv (xld on25 rfl (h1.r.c 10 rfl rfl)) (sv (xlen sl25 rfl) (sv (xmove rfl) (send (fg [(2, _), (3, _), (19, _), (20, _), (21, _)] ⟨rfl, rfl, rfl, rfl, rfl, ⟨⟩⟩ fun _ => (wp_block ?_)))))))))
  refine lp [(2, _), (3, _), (19, _), (20, _)] (fun (x : Nat × Value × Nat) => match x with | (k, v, g) => [(21, .int .i64 (k : Int))]) (fun (x : Nat × Value × Nat) wx => match x with | (k, v, g) => Fr (fun k => k = b3 ∨ k = b1) w73 wx ∧ (k ≤ m.asks.length) ∧ (SB wx b3 lMsg (msgSegs m.head v (.slice aq10 m.one.length cq10) (.slice aq13 m.two.length cq13) (.slice aq16 m.three.length cq16))) ∧ (RA AskEl lAsk (fun _ => False) wx v g 59 k (m.asks.take k)) ∧ (g = b1 ∨ w73.heap.size ≤ g) ∧ (g < wx.heap.size)) (fun (x : Nat × Value × Nat) => match x with | (k, v, g) => m.asks.length - k) (0, .slice none 0 0, b1) ⟨rfl, rfl, rfl, rfl, rfl, trivial⟩ ⟨Fr.refl _ _, Nat.zero_le _, h3, RA.nil _ _ _ _, .inl rfl, by omega⟩ ?_
  rintro ⟨k, v, g⟩ _ w76 ⟨hL75, hk, h3, hq, hgq, hgk⟩
  refine fg [(2, _), (3, _), (19, _), (20, _), (21, _)] ⟨rfl, rfl, rfl, rfl, rfl, ⟨⟩⟩ fun _ => ?_
  have z77 := hL75.size
  have ha := ha.keep ask_st (lU hU (by omega)) hL75 (fun k hk hS => by have hk := hU k hk; have hS : k = b3 ∨ k = b1 := hS; omega)
  have hf := hf.step hL75 (fun k hk hS => by have hS : k = b3 ∨ k = b1 := hS; show False; omega)
  have h2 := h2.keep hL75 (by show ¬ (b2 = b3 ∨ b2 = b1); omega)
  have L10 := L10.keep rec_st (fun k hk => by have hk := Uw.num hU hk; omega) hL75 (fun k hk hS => by have hk := Uw.num hU hk; have hS : k = b3 ∨ k = b1 := hS; omega)
  have L13 := L13.keep rec_st (fun k hk => by have hk := Uw.num hU hk; omega) hL75 (fun k hk hS => by have hk := Uw.num hU hk; have hS : k = b3 ∨ k = b1 := hS; omega)
  have L16 := L16.keep rec_st (fun k hk => by have hk := Uw.num hU hk; omega) hL75 (fun k hk hS => by have hk := Uw.num hU hk; have hS : k = b3 ∨ k = b1 := hS; omega)
  refine sreg ?_
  refine svP (xlss rfl rfl) (fun hc22 => ?_) (fun hc22 => ?_)
  ·
   refine send (fg [(2, _), (3, _), (19, _), (20, _), (21, _), (22, _)] ⟨rfl, rfl, rfl, rfl, rfl, rfl, ⟨⟩⟩ fun _ => (wp_seq (cyes rfl (wp_skip (nThen (fg [(2, _), (3, _), (19, _), (20, _), (21, _)] ⟨rfl, rfl, rfl, rfl, rfl, ⟨⟩⟩ fun _ => (wp_seq (wp_block ?_))))))))
   obtain ⟨a, hak⟩ := some_of_lt (by omega : k < m.asks.length)
   refine sreg ?_
   obtain ⟨bE23, oE23, sgE23, rfl, uE23, hsE23, heE23⟩ := LA.get ha hak
   obtain rfl := heE23
   have zE23 := hU _ uE23
   refine sv (xidx sl25 sz58 rfl rfl rfl (by omega)) (sv (xldS (lens := [1, 1, 1]) ro58 rfl hsE23) ?_)
   refine svK (xallS (lens := [1, 1, 1]) in58 rfl) ?_
   rintro _ w79 ⟨b5, rfl, m80, h5, e78, s78⟩
   have hf := hf.step0 m80
   have h2 := h2.keep m80 id
   have h3 := h3.keep m80 id
   have L10 := L10.keep rec_st (fun k hk => by have hk := Uw.num hU hk; omega) m80 nF
   have L13 := L13.keep rec_st (fun k hk => by have hk := Uw.num hU hk; omega) m80 nF
   have L16 := L16.keep rec_st (fun k hk => by have hk := Uw.num hU hk; omega) m80 nF
   have hq := hq.keep ask_st (fun k hk => by have hk := (show k + 1 ≤ 0 from (show False from hk).elim); omega) m80 nF id
   have hL75 := hL75.step0 m80
   refine suK (xstW h5 (lens' := [1, 1, 1]) sz58 rfl rfl rfl rfl rfl) ?_
   rintro w82 ⟨m83, h5, s81⟩
   have hf := hf.step m83 (fun k hk hS => by have hS : k = b5 := hS; show False; omega)
   have h2 := h2.keep m83 (by show ¬ (b2 = b5); omega)
   have h3 := h3.keep m83 (by show ¬ (b3 = b5); omega)
   have L10 := L10.keep rec_st (fun k hk => by have hk := Uw.num hU hk; omega) m83 (fun k hk hS => by have hk := Uw.num hU hk; have hS : k = b5 := hS; omega)
   have L13 := L13.keep rec_st (fun k hk => by have hk := Uw.num hU hk; omega) m83 (fun k hk hS => by have hk := Uw.num hU hk; have hS : k = b5 := hS; omega)
   have L16 := L16.keep rec_st (fun k hk => by have hk := Uw.num hU hk; omega) m83 (fun k hk hS => by have hk := Uw.num hU hk; have hS : k = b5 := hS; omega)
   have hq := hq.keep ask_st (fun k hk => by have hk := (show k + 1 ≤ 0 from (show False from hk).elim); omega) m83 (fun k hk hS => by have hk := (show k + 1 ≤ 0 from (show False from hk).elim); have hS : k = b5 := hS; omega) (by show ¬ (g = b5); omega)
   have hL75 := hL75.step m83 (fun k hk hS => by have hS : k = b5 := hS; show k = b3 ∨ k = b1; omega)
   refine send (fg [(2, _), (3, _), (5, _), (19, _), (20, _), (21, _)] ⟨rfl, rfl, rfl, rfl, rfl, rfl, ⟨⟩⟩ fun _ => (lreg (sv (xfld fl34_1 rfl) (sv (xld on31 rfl (h3.r.c 10 rfl rfl)) (sv (xldS (lens := [1, 1, 1]) ro58 rfl h5.r) ?_)))))
   refine svK (xslit ((askSegs a).flatten) sl31 in59 rfl (by decide) rfl rfl rfl rfl (by decide) rfl rfl) ?_
   rintro _ w85 ⟨b28, rfl, m86, h28, e28, s28, r28⟩
   have hf := hf.step0 m86
   have h2 := h2.keep m86 id
   have h3 := h3.keep m86 id
   have L10 := L10.keep rec_st (fun k hk => by have hk := Uw.num hU hk; omega) m86 nF
   have L13 := L13.keep rec_st (fun k hk => by have hk := Uw.num hU hk; omega) m86 nF
   have L16 := L16.keep rec_st (fun k hk => by have hk := Uw.num hU hk; omega) m86 nF
   have hq := hq.keep ask_st (fun k hk => by have hk := (show k + 1 ≤ 0 from (show False from hk).elim); omega) m86 nF id
   have hL75 := hL75.step0 m86
   obtain ⟨ss29, hR29, hA29⟩ := hq
   refine svK (xapp sl31 in59 rfl (by decide) rfl rfl hR29 (r28.src sl31) (by simp only [maxLen]; omega) (by omega)) ?_
   rintro v29 w87 ⟨g29, r29, m88, a29, l29⟩
   have z89 := m88.size
   have hf := hf.step m88 (fun k hk hS => by have hS : k = g := hS; show False; omega)
   have h2 := h2.keep m88 (by show ¬ (b2 = g); omega)
   have h3 := h3.keep m88 (by show ¬ (b3 = g); omega)
   have L10 := L10.keep rec_st (fun k hk => by have hk := Uw.num hU hk; omega) m88 (fun k hk hS => by have hk := Uw.num hU hk; have hS : k = g := hS; omega)
   have L13 := L13.keep rec_st (fun k hk => by have hk := Uw.num hU hk; omega) m88 (fun k hk hS => by have hk := Uw.num hU hk; have hS : k = g := hS; omega)
   have L16 := L16.keep rec_st (fun k hk => by have hk := Uw.num hU hk; omega) m88 (fun k hk hS => by have hk := Uw.num hU hk; have hS : k = g := hS; omega)
   have hL75 := hL75.step m88 (fun k hk hS => by have hS : k = g := hS; show k = b3 ∨ k = b1; omega)
   have hq := RA.snoc (x := a) hA29 ask_st ask_gr (fun k hk => by have hk := (show k + 1 ≤ 0 from (show False from hk).elim); omega) m88 (fun k hk hS => by have hk := (show k + 1 ≤ 0 from (show False from hk).elim); have hS : k = g := hS; omega) (fun _ h => h) r29 rfl (rfl)
   refine sv (xfld fl34_1 rfl) ?_
   refine suK (xstF 10 sz31 h3 rfl rfl rfl rfl (by obtain ⟨_, _, rfl⟩ := RA.form hq; rfl)) ?_
   rintro w91 ⟨m92, h3, s90⟩
   have hf := hf.step m92 (fun k hk hS => by have hS : k = b3 := hS; show False; omega)
   have h2 := h2.keep m92 (by show ¬ (b2 = b3); omega)
   have L10 := L10.keep rec_st (fun k hk => by have hk := Uw.num hU hk; omega) m92 (fun k hk hS => by have hk := Uw.num hU hk; have hS : k = b3 := hS; omega)
   have L13 := L13.keep rec_st (fun k hk => by have hk := Uw.num hU hk; omega) m92 (fun k hk hS => by have hk := Uw.num hU hk; have hS : k = b3 := hS; omega)
   have L16 := L16.keep rec_st (fun k hk => by have hk := Uw.num hU hk; omega) m92 (fun k hk hS => by have hk := Uw.num hU hk; have hS : k = b3 := hS; omega)
   have hL75 := hL75.step m92 (fun k hk hS => by have hS : k = b3 := hS; show k = b3 ∨ k = b1; omega)
   have hq := hq.keep ask_st (fun k hk => by have hk := (show k + 1 ≤ 0 from (show False from hk).elim); omega) m92 (fun k hk hS => by have hk := (show k + 1 ≤ 0 from (show False from hk).elim); have hS : k = b3 := hS; omega) (by show ¬ (g29 = b3); omega)
   refine lend (nBlock (nThen (fg [(2, _), (3, _), (19, _), (20, _), (21, _)] ⟨rfl, rfl, rfl, rfl, rfl, ⟨⟩⟩ fun _ => (lreg (sv (xadd rfl rfl (w64 (by omega) (by omega))) (sv (xmove rfl) (lend (nThen ?_))))))))
   refine ⟨(k + 1, _, g29), _, env_okl ⟨rfl, rfl, rfl, rfl, rfl, trivial⟩, ⟨hL75, (by omega), (h3), (by rw [take_snoc hak]; exact hq), (by omega), (by omega)⟩, ?_⟩
   show m.asks.length - (k + 1) < m.asks.length - k; omega
  ·
   refine send (fg [(2, _), (3, _), (19, _), (20, _), (21, _), (22, _)] ⟨rfl, rfl, rfl, rfl, rfl, rfl, ⟨⟩⟩ fun _ => (wp_seq (cno rfl (wp_exit (eThen (eThen (eHit (nThen (fg [(2, _), (3, _)] ⟨rfl, rfl, ⟨⟩⟩ fun _ => ?_)))))))))
   obtain ⟨av, cv, rfl⟩ := RA.form hq
   refine sreg (sv (xldS (lens := lMsg) ro34 rfl (h3.r.sub 0 14 rfl)) ?_)
   refine suK (xstW h2 (lens' := lMsg) sz34 rfl rfl rfl rfl rfl) ?_
   rintro w94 ⟨m95, h2, s93⟩
   have hf := hf.step m95 (fun k hk hS => by have hS : k = b2 := hS; show False; omega)
   have L10 := L10.keep rec_st (fun k hk => by have hk := Uw.num hU hk; omega) m95 (fun k hk hS => by have hk := Uw.num hU hk; have hS : k = b2 := hS; omega)
   have L13 := L13.keep rec_st (fun k hk => by have hk := Uw.num hU hk; omega) m95 (fun k hk hS => by have hk := Uw.num hU hk; have hS : k = b2 := hS; omega)
   have L16 := L16.keep rec_st (fun k hk => by have hk := Uw.num hU hk; omega) m95 (fun k hk hS => by have hk := Uw.num hU hk; have hS : k = b2 := hS; omega)
   have hq := hq.keep ask_st (fun k hk => by have hk := (show k + 1 ≤ 0 from (show False from hk).elim); omega) m95 (fun k hk hS => by have hk := (show k + 1 ≤ 0 from (show False from hk).elim); have hS : k = b2 := hS; omega) (by show ¬ (g = b2); omega)
   refine send (fg [(2, _)] ⟨rfl, ⟨⟩⟩ fun _ => (wp_ret ?_))
   refine rp1 rfl ⟨_, rfl, ldS (lens := lMsg) ro34 h2.r⟩ ?_
   have e : m.asks.take k = m.asks := List.take_of_length_le (by omega)
   rw [e] at hq
   exact ⟨_, _, _, _, rfl, RA.la0 hq (by decide) ask_gr (fun _ h => h.elim) (.inr (.inr ⟨by omega, by omega⟩)), L10.mono rec_gr (fun k hk => hk.1.elim .inl (fun h => .inr ⟨by omega, by omega⟩)), L13.mono rec_gr (fun k hk => hk.1.elim .inl (fun h => .inr ⟨by omega, by omega⟩)), L16.mono rec_gr (fun k hk => hk.1.elim .inl (fun h => .inr ⟨by omega, by omega⟩)), hf⟩
end Go.Proofs.YtifnodoffgfpbaaGreatDoor

namespace Go.Proofs.YtifnodoffgfpbaaGreatDoor
open Go

/-- what a map holds: the first entry of a text counts -/
abbrev Ent := List (ByteArray × UInt16)
def look (M : Ent) (s : ByteArray) : Option UInt16 := match M with
  | [] => none
  | (k, v) :: M => if s = k then some v else look M s
def entV (p : ByteArray × UInt16) : Value × Value := (.string p.1, .int .u16 (p.2.toNat : Int))
/-- Block b is a map that holds M. -/
def Mp (w : World) (b : Nat) (M : Ent) : Prop := ∃ es clock, w.heap[b]? = some (.map es clock) ∧ es.toList.map (fun e => (e.key, e.val)) = M.map entV
theorem Mp.lt {w : World} {b : Nat} {M : Ent} (h : Mp w b M) : b < w.heap.size := by
  obtain ⟨es, c, h, _⟩ := h
  exact (Array.getElem?_eq_some_iff.1 h).1
theorem Mp.keep {S : Nat → Prop} {w w' : World} {b : Nat} {M : Ent} (h : Mp w b M) (m : Fr S w w') (hn : ¬ S b) : Mp w' b M := by
  have hl := h.lt
  obtain ⟨es, c, h, e⟩ := h
  exact ⟨es, c, (m.block b hl hn).trans h, e⟩
theorem ba_beq (a b : ByteArray) : (a == b) = decide (a = b) := by
  obtain ⟨a⟩ := a
  obtain ⟨b⟩ := b
  have h : ((⟨a⟩ : ByteArray) == ⟨b⟩) = (a == b) := rfl
  rw [h]
  by_cases h : a = b <;> simp [h]
theorem findNow_look (s : ByteArray) : ∀ (l : List MapEntry) (M : Ent) (i : Nat), l.map (fun e => (e.key, e.val)) = M.map entV →
    match look M s with
    | none => Instr.findNow .string (.string s) l i = some none
    | some v => ∃ j, Instr.findNow .string (.string s) l i = some (some (j, .int .u16 (v.toNat : Int)))
  | [], [], i, _ => by simp [look, Instr.findNow]
  | [], p :: M, i, h => by simp at h
  | e :: l, [], i, h => by simp at h
  | e :: l, p :: M, i, h => by
    simp only [List.map_cons, List.cons.injEq] at h
    obtain ⟨h1, h2⟩ := h
    have hk : e.key = .string p.1 := congrArg Prod.fst h1
    have hv : e.val = .int .u16 (p.2.toNat : Int) := congrArg Prod.snd h1
    have ih := findNow_look s l M (i + 1) h2
    obtain ⟨pk, pv⟩ := p
    simp only at hk hv
    by_cases hs : s = pk
    · subst hs
      simp only [look]
      refine ⟨i, ?_⟩
      have hb : (s == s) = true := by rw [ba_beq]; simp
      simp [Instr.findNow, Instr.sameNow, hk, hv, hb]
    · have hb : (s == pk) = false := by rw [ba_beq]; simp [hs]
      simp only [look, if_neg hs]
      simp only [Instr.findNow, Instr.sameNow, hk, hb]
      exact ih
section
variable {P : Program} {n : Nat} {l : List (Nat × Value)} {w : World} {ty : TypeId} {x y z : Operand}
theorem xmkmap {T : TypeId} : ExK P n l (.makeMap T none) ty w (fun u w' => ∃ b, u = .map (some b) ∧ Fr0 w w' ∧ Mp w' b [] ∧ b = w.heap.size ∧ w'.heap.size = w.heap.size + 1) :=
  ⟨_, w.alloc (.map #[] 0), fun r _ _ _ _ => by
    simp only [execOp]
    simp [Instr.makeMap], w.heap.size, rfl, fr_alloc _ _, ⟨#[], 0, heap_alloc_new w _, rfl⟩, rfl, size_alloc _ _⟩
theorem xlook {T K E : TypeId} {b : Nat} {M : Ent} {s : ByteArray} (hT : mapB P T K E = true) (hK : strB P K = true) (hE : Inf P E (.int .u16 0) 1 2) (hm : Mp w b M) (hx : ev n l x = some (.map (some b))) (hy : ev n l y = some (.string s)) :
    Ex P n l (.lookup T x y true) ty w (.tuple #[.int .u16 (((look M s).getD 0).toNat : Int), .bool (look M s).isSome]) w := fun r _ _ _ _ => by
  obtain ⟨es, c, hb, he⟩ := hm
  obtain ⟨i, hi, hz, _, _⟩ := hE
  have hck := fun e => MapKept.run_checkKey (P := P) (w := w) (k := .string s) (strB_spec hK) (by simp [MapKept.IsKey]) e 9999
  have hf := findNow_look s es.toList M 0 he
  simp only [execOp, ev_eval r hx, ev_eval r hy]
  cases hl : look M s with
  | none =>
    rw [hl] at hf
    have := MapKept.run_findKey (P := P) (w := w) (strB_spec hK) hf
    simp [Instr.lookup, run_underlying (mapB_spec hT), MapKept.run_getObj_map hb, hck, this, zeroValue, typeInfo, hi, hz]
  | some v =>
    rw [hl] at hf
    obtain ⟨j, hf⟩ := hf
    have := MapKept.run_findKey (P := P) (w := w) (strB_spec hK) hf
    simp [Instr.lookup, run_underlying (mapB_spec hT), MapKept.run_getObj_map hb, hck, this]
/-- a text that is not there yet -/
theorem xput {T K E : TypeId} {b : Nat} {M : Ent} {s : ByteArray} {v : UInt16} (hT : mapB P T K E = true) (hK : strB P K = true) (hm : Mp w b M) (hl : look M s = none) (hx : ev n l x = some (.map (some b))) (hy : ev n l y = some (.string s)) (hz : ev n l z = some (.int .u16 (v.toNat : Int))) :
    ExUK P n l (.mapUpdate T x y z) ty w (fun w' => Fr (· = b) w w' ∧ Mp w' b (M ++ [(s, v)]) ∧ w'.heap.size = w.heap.size) := by
  obtain ⟨es, c, hb, he⟩ := hm
  have hck := fun e => MapKept.run_checkKey (P := P) (w := w) (k := .string s) (strB_spec hK) (by simp [MapKept.IsKey]) e 9999
  have hf := findNow_look s es.toList M 0 he
  rw [hl] at hf
  have hfk := MapKept.run_findKey (P := P) (w := w) (strB_spec hK) hf
  have hset := MapKept.heap_set (o' := .map (es.push { key := .string s, val := .int .u16 (v.toNat : Int), born := c }) (c + 1)) hb
  refine ⟨{ w with heap := w.heap.setIfInBounds b (.map (es.push { key := .string s, val := .int .u16 (v.toNat : Int), born := c }) (c + 1)) }, fun r _ _ _ _ => ?_, ⟨rfl, rfl, rfl, by simp, fun k _ hk => hset.2 k hk⟩, ⟨_, _, hset.1, ?_⟩, by simp⟩
  · simp only [execOp, ev_eval r hx, ev_eval r hy, ev_eval r hz]
    simp [Instr.mapUpdate, run_underlying (mapB_spec hT), MapKept.run_getObj_map hb, hck, hfk, MapKept.run_setObj_map _ hb]
  · simp [he, entV]
end
end Go.Proofs.YtifnodoffgfpbaaGreatDoor

namespace Go.Proofs.YtifnodoffgfpbaaGreatDoor
open Go

def questSegs (a : AskD) : List (List Value) := [nm (bt a.name), [.int .u16 (a.typ.toNat : Int)], [.int .u16 (a.cls.toNat : Int)]]
def rhSegs (s : List UInt8) (typ cls : UInt16) (ttl : UInt32) (len : Nat) : List (List Value) := [nm s, [.int .u16 (typ.toNat : Int)], [.int .u16 (cls.toNat : Int)], [.int .u32 (ttl.toNat : Int)], [.int .u16 (len : Int)]]
theorem nm_nil : [nm []].flatten = bvs (List.replicate 255 0) ++ [Value.int .u8 0] := by
  simp only [List.flatten_cons, List.flatten_nil, List.append_nil, nm, List.nil_append, List.length_nil]
  rw [List.take_of_length_le (by rw [List.length_replicate]; exact Nat.le_refl _)]
  rfl
theorem nm_copy (s : ByteArray) (_h : s.size ≤ 255) (v : Value) (hv : v = .int .u8 (s.size : Int)) : ((bvs (fixedL (bt s) 255) ++ [Value.int .u8 0]).set 255 v) = [nm (bt s)].flatten := by
  subst hv
  have hl : (bvs (fixedL (bt s) 255)).length = 255 := by simp [bvs, fixedL_length]
  rw [List.set_append_right _ _ (by omega), hl]
  simp only [Nat.sub_self, List.set_cons_zero, List.flatten_cons, List.flatten_nil, List.append_nil, nm, fixedL, bt_length]

set_option maxHeartbeats 4000000 in
set_option maxRecDepth 100000 in
theorem c36 {w : World} {h : HeadD} :
  Ret PP 36 [ag (headSegs h)] w (fun u w' => u = ag (headSegs h) ∧ Fr0 w w') := by
 have hf : Fr (fun _ => False) w w := Fr.refl _ _
 refine ret_of Tryz.func36 rfl rfl rfl [(0, _)] rfl ?_
 refine sreg ?_
 refine svK (xboxS (lens := [1, 1, 1, 1, 1, 1, 1, 1, 1, 1]) rfl rfl) ?_
 rintro _ w2 ⟨b1, rfl, m3, h1, e1, s1⟩
 have hf := hf.step0 m3
 refine svK (xallS (lens := [1, 1, 1, 1, 1, 1, 1, 1, 1, 1]) in73 rfl) ?_
 rintro _ w5 ⟨b2, rfl, m6, h2, e4, s4⟩
 have hf := hf.step0 m6
 have h1 := h1.keep m6 id
 refine send (fg [(1, _), (2, _)] ⟨rfl, rfl, ⟨⟩⟩ fun _ => (sreg (sv (xfld fl24_0 rfl) (sv (xld on22 rfl (h1.r.c 0 rfl rfl)) (sv (xfld fl24_1 rfl) (sv (xld on4 rfl (h1.r.c 1 rfl rfl)) (sv (xfld fl24_2 rfl) (sv (xld on22 rfl (h1.r.c 2 rfl rfl)) (sv (xfld fl24_3 rfl) (sv (xld on4 rfl (h1.r.c 3 rfl rfl)) (sv (xfld fl24_4 rfl) ?_)))))))))))
 refine sv (xld on4 rfl (h1.r.c 4 rfl rfl)) (sv (xfld fl24_5 rfl) (sv (xld on4 rfl (h1.r.c 5 rfl rfl)) (sv (xfld fl24_6 rfl) (sv (xld on4 rfl (h1.r.c 6 rfl rfl)) (sv (xfld fl24_7 rfl) (sv (xld on4 rfl (h1.r.c 7 rfl rfl)) (sv (xfld fl24_8 rfl) (sv (xld on4 rfl (h1.r.c 8 rfl rfl)) (sv (xfld fl24_9 rfl) (sv (xld on22 rfl (h1.r.c 9 rfl rfl)) (sv (xbuildS (headSegs h) zr73 ly73 rfl (by simp [fitAll, zs73, Value.cells]) rfl) ?_)))))))))))
 refine suK (xstW h2 (lens' := [1, 1, 1, 1, 1, 1, 1, 1, 1, 1]) sz73 rfl rfl rfl rfl rfl) ?_
 rintro w8 ⟨m9, h2, s7⟩
 have hf := hf.step m9 (fun k hk hS => by have hS : k = b2 := hS; show False; omega)
 refine send (fg [(2, _)] ⟨rfl, ⟨⟩⟩ fun _ => (wp_ret ?_))
 refine rp1 rfl ⟨_, rfl, ldS (lens := [1, 1, 1, 1, 1, 1, 1, 1, 1, 1]) ro73 h2.r⟩ ?_
 exact ⟨rfl, hf⟩
set_option maxHeartbeats 4000000 in
set_option maxRecDepth 100000 in
theorem c89 {w : World} {s : ByteArray} (hs : s.size ≤ 255) :
  Ret PP 89 [.string s] w (fun u w' => u = ag [nm (bt s)] ∧ Fr0 w w') := by
 have hf : Fr (fun _ => False) w w := Fr.refl _ _
 refine ret_of Tryz.func89 rfl rfl rfl [(0, _)] rfl ?_
 refine sreg ?_
 refine svK (xallS (lens := [256]) in82 (by simp [nm_length])) ?_
 rintro _ w2 ⟨b2, rfl, m3, h2, e1, s1⟩
 have hf := hf.step0 m3
 refine send (fg [(0, _), (2, _)] ⟨rfl, rfl, ⟨⟩⟩ fun _ => (sreg (sv (xbuildS [nm []] zr82 ly82 rfl trivial rfl) ?_)))
 refine svK (xallS (lens := [256]) in82 (by simp [nm_length])) ?_
 rintro _ w5 ⟨b3, rfl, m6, h3, e4, s4⟩
 have hf := hf.step0 m6
 have h2 := h2.keep m6 id
 refine suK (xstW h3 (lens' := [256]) sz82 (by simp [nm_length]) rfl (by simp only [List.flatten_cons, List.flatten_nil, List.append_nil, nm_one] <;> rfl) rfl rfl) ?_
 rintro w8 ⟨m9, h3, s7⟩
 have hf := hf.step m9 (fun k hk hS => by have hS : k = b3 := hS; show False; omega)
 have h2 := h2.keep m9 (by show ¬ (b2 = b3); omega)
 refine send (fg [(0, _), (2, _), (3, _)] ⟨rfl, rfl, rfl, ⟨⟩⟩ fun _ => (sreg (sv (xfld fl82_0 rfl) (sv (xcutA ar80 sz5 rfl) (sv (xmove rfl) ?_)))))
 have k3 : Blk w8 b3 (bvs (List.replicate 255 0) ++ [Value.int .u8 0]) := by rw [← nm_nil]; exact h3.1
 refine svK (xcopyZ sl37 sz5 rfl rfl (cpy_str s) k3) ?_
 rintro _ w10 ⟨rfl, m11, k3, s8⟩
 have hf := hf.step m11 (fun k hk hS => by have hS : k = b3 := hS; show False; omega)
 have h2 := h2.keep m11 (by show ¬ (b2 = b3); omega)
 refine sv (xconv hs3 ki5 rfl (wu8n s.size (by rw [bt_length]; omega))) (sv (xfld fl82_1 rfl) ?_)
 refine suK (xst (i := 255) sz5 rfl rfl k3 (by simp [bvs, fixedL_length]) rfl) ?_
 rintro w12 ⟨m13, k3, s10⟩
 have hf := hf.step m13 (fun k hk hS => by have hS : k = b3 := hS; show False; omega)
 have h2 := h2.keep m13 (by show ¬ (b2 = b3); omega)
 rw [nm_copy s hs _ rfl] at k3
 have h3 : SB w12 b3 [256] [nm (bt s)] := ⟨k3, by simp [nm_length]⟩
 refine send (fg [(2, _), (3, _)] ⟨rfl, rfl, ⟨⟩⟩ fun _ => (sreg (sv (xldS (lens := [256]) ro82 rfl h3.r) ?_)))
 refine suK (xstW h2 (lens' := [256]) sz82 (by simp [nm_length]) rfl (by simp only [List.flatten_cons, List.flatten_nil, List.append_nil, nm_one] <;> rfl) rfl rfl) ?_
 rintro w15 ⟨m16, h2, s14⟩
 have hf := hf.step m16 (fun k hk hS => by have hS : k = b2 := hS; show False; omega)
 refine send (fg [(2, _)] ⟨rfl, ⟨⟩⟩ fun _ => (wp_ret ?_))
 refine rp1 rfl ⟨_, rfl, ldS (lens := [256]) ro82 h2.r⟩ ?_
 exact ⟨rfl, hf⟩
set_option maxHeartbeats 4000000 in
set_option maxRecDepth 100000 in
theorem c38 {w : World} {a : AskD} (hs : a.name.size ≤ 255) :
  Ret PP 38 [ag (askSegs a)] w (fun u w' => u = ag (questSegs a) ∧ Fr0 w w') := by
 have hf : Fr (fun _ => False) w w := Fr.refl _ _
 refine ret_of Tryz.func38 rfl rfl rfl [(0, _)] rfl ?_
 refine sreg ?_
 refine svK (xboxS (lens := [1, 1, 1]) rfl rfl) ?_
 rintro _ w2 ⟨b1, rfl, m3, h1, e1, s1⟩
 have hf := hf.step0 m3
 refine svK (xallS (lens := [256, 1, 1]) in86 (by simp [nm_length])) ?_
 rintro _ w5 ⟨b2, rfl, m6, h2, e4, s4⟩
 have hf := hf.step0 m6
 have h1 := h1.keep m6 id
 refine send (fg [(1, _), (2, _)] ⟨rfl, rfl, ⟨⟩⟩ fun _ => ?_)
 refine sdraw (Fr (fun _ => False) w5.drew) [(0, .rd), (1, .rd), (3, .rd), (4, .rd), (5, .rd), (6, .rd), (2, .ld), (7, .rd), (8, .bh)] mixed (by kernel_rfl) (fun _ _ _ _ _ h => h) ?_
 have z7 : w5.drew.heap.size = w5.heap.size := rfl
 have hf := hf.drew
 have h1 := h1.drew
 have h2 := h2.drew
 have hS8 : Fr (fun _ => False) w5.drew w5.drew := Fr.refl _ _
 refine hv rfl (fun _ _ => xfld fl58_0 rfl) hS8 (hv rfl (fun w' hS => xld on9 rfl ((h1.keep hS id).r.c 0 rfl rfl)) hS8 (hv rfl (fun _ _ => xfld fl58_1 rfl) hS8 (hv rfl (fun w' hS => xld on22 rfl ((h1.keep hS id).r.c 1 rfl rfl)) hS8 (hv rfl (fun _ _ => xfld fl58_2 rfl) hS8 (hv rfl (fun w' hS => xld on22 rfl ((h1.keep hS id).r.c 2 rfl rfl)) hS8 ?_)))))
 refine hc rfl (xcall ca89 rfl) (c89 (by omega)) ?_
 rintro _ w9 ⟨rfl, m10⟩
 have z11 := m10.size
 have hf := hf.step0 m10
 have h2 := h2.keep m10 id
 have hS12 := hS8.step0 m10
 refine ⟨hS12, ?_⟩
 refine hv rfl (fun _ _ => xbuildS (questSegs a) zr86 ly86 rfl (by simp [fitAll, zs86, Value.cells, nm_length]) (by simp [setAll, zs86, Value.cells, questSegs])) hS12 ?_
 refine bluK rfl (xstW h2 (lens' := [256, 1, 1]) sz86 (by simp [questSegs, nm_length]) rfl (by simp only [questSegs, List.flatten_cons, List.flatten_nil, List.all_append, List.append_nil, nm_one, Bool.true_and] <;> rfl) rfl rfl) ?_
 rintro w14 ⟨m15, h2, s13⟩
 have hf := hf.step m15 (fun k hk hS => by have hS : k = b2 := hS; show False; omega)
 refine hend (fg [(2, _)] ⟨rfl, ⟨⟩⟩ fun _ => (wp_ret ?_))
 refine rp1 rfl ⟨_, rfl, ldS (lens := [256, 1, 1]) ro86 h2.r⟩ ?_
 exact ⟨rfl, hf⟩
set_option maxHeartbeats 4000000 in
set_option maxRecDepth 100000 in
theorem c87 {w : World} {r : RecD} {vd vt vp : Value} (hs : r.name.size ≤ 255) :
  Ret PP 87 [ag (recSegs r vd vt vp)] w (fun u w' => u = ag (rhSegs (bt r.name) r.typ r.cls r.ttl r.len.toNat) ∧ Fr0 w w') := by
 have hf : Fr (fun _ => False) w w := Fr.refl _ _
 refine ret_of Tryz.func87 rfl rfl rfl [(0, _)] rfl ?_
 refine sreg ?_
 refine svK (xboxS (lens := lRec) rfl rfl) ?_
 rintro _ w2 ⟨b1, rfl, m3, h1, e1, s1⟩
 have hf := hf.step0 m3
 refine svK (xallS (lens := [256, 1, 1, 1, 1]) in135 (by simp [nm_length])) ?_
 rintro _ w5 ⟨b2, rfl, m6, h2, e4, s4⟩
 have hf := hf.step0 m6
 have h1 := h1.keep m6 id
 refine send (fg [(1, _), (2, _)] ⟨rfl, rfl, ⟨⟩⟩ fun _ => ?_)
 refine sdraw (Fr (fun _ => False) w5.drew) [(0, .rd), (1, .rd), (3, .rd), (4, .rd), (5, .rd), (6, .rd), (7, .rd), (8, .rd), (9, .rd), (10, .rd), (2, .ld), (11, .rd), (12, .bh)] mixed (by kernel_rfl) (fun _ _ _ _ _ h => h) ?_
 have z7 : w5.drew.heap.size = w5.heap.size := rfl
 have hf := hf.drew
 have h1 := h1.drew
 have h2 := h2.drew
 have hS8 : Fr (fun _ => False) w5.drew w5.drew := Fr.refl _ _
 refine hv rfl (fun _ _ => xfld fl112_0 rfl) hS8 (hv rfl (fun w' hS => xld on9 rfl ((h1.keep hS id).r.c 0 rfl rfl)) hS8 (hv rfl (fun _ _ => xfld fl112_1 rfl) hS8 (hv rfl (fun w' hS => xld on22 rfl ((h1.keep hS id).r.c 1 rfl rfl)) hS8 (hv rfl (fun _ _ => xfld fl112_2 rfl) hS8 (hv rfl (fun w' hS => xld on22 rfl ((h1.keep hS id).r.c 2 rfl rfl)) hS8 (hv rfl (fun _ _ => xfld fl112_3 rfl) hS8 (hv rfl (fun w' hS => xld on61 rfl ((h1.keep hS id).r.c 3 rfl rfl)) hS8 (hv rfl (fun _ _ => xfld fl112_4 rfl) hS8 (hv rfl (fun w' hS => xld on22 rfl ((h1.keep hS id).r.c 4 rfl rfl)) hS8 ?_)))))))))
 refine hc rfl (xcall ca89 rfl) (c89 (by omega)) ?_
 rintro _ w9 ⟨rfl, m10⟩
 have z11 := m10.size
 have hf := hf.step0 m10
 have h2 := h2.keep m10 id
 have hS12 := hS8.step0 m10
 refine ⟨hS12, ?_⟩
 refine hv rfl (fun _ _ => xbuildS (rhSegs (bt r.name) r.typ r.cls r.ttl r.len.toNat) zr135 ly135 rfl (by simp [fitAll, zs135, Value.cells, nm_length]) (by simp [setAll, zs135, Value.cells, rhSegs])) hS12 ?_
 refine bluK rfl (xstW h2 (lens' := [256, 1, 1, 1, 1]) sz135 (by simp [rhSegs, nm_length]) rfl (by simp only [rhSegs, List.flatten_cons, List.flatten_nil, List.all_append, List.append_nil, nm_one, Bool.true_and] <;> rfl) rfl rfl) ?_
 rintro w14 ⟨m15, h2, s13⟩
 have hf := hf.step m15 (fun k hk hS => by have hS : k = b2 := hS; show False; omega)
 refine hend (fg [(2, _)] ⟨rfl, ⟨⟩⟩ fun _ => (wp_ret ?_))
 refine rp1 rfl ⟨_, rfl, ldS (lens := [256, 1, 1, 1, 1]) ro135 h2.r⟩ ?_
 exact ⟨rfl, hf⟩
end Go.Proofs.YtifnodoffgfpbaaGreatDoor

namespace Go.Proofs.YtifnodoffgfpbaaGreatDoor
open Go
set_option maxHeartbeats 4000000 in
set_option maxRecDepth 100000 in
theorem c119 {w : World} {r : RecD} {vd vt vp : Value} (hs : r.host.size ≤ 255)  :
  Ret PP 119 [ag (recSegs r vd vt vp)] w (fun u w' => u = ag [nm (bt r.host)] ∧ Fr0 w w') := by
 have hf : Fr (fun _ => False) w w := Fr.refl _ _
 refine ret_of Tryz.func119 rfl rfl rfl [(0, _)] rfl ?_
 refine sreg ?_
 refine svK (xboxS (lens := lRec) rfl rfl) ?_
 rintro _ w2 ⟨b1, rfl, m3, h1, e1, s1⟩
 have hf := hf.step0 m3
 refine svK (xallS (lens := [256]) in192 (by simp [nm_length])) ?_
 rintro _ w5 ⟨b2, rfl, m6, h2, e4, s4⟩
 have hf := hf.step0 m6
 have h1 := h1.keep m6 id
 refine send (fg [(1, _), (2, _)] ⟨rfl, rfl, ⟨⟩⟩ fun _ => (sreg (sv (xfld fl112_7 rfl) (sv (xld on9 rfl (h1.r.c 7 rfl rfl)) ?_))))
 refine sc (xcall ca89 rfl) (c89 (by omega)) ?_
 rintro _ w7 ⟨rfl, m8⟩
 have z9 := m8.size
 have hf := hf.step0 m8
 have h2 := h2.keep m8 id
 refine sv (xbuildS [nm (bt r.host)] zr192 ly192 rfl (by simp [fitAll, zs192, Value.cells, nm_length]) (by simp [setAll, zs192, Value.cells])) ?_
 refine suK (xstW h2 (lens' := [256]) sz192 (by simp [nm_length]) rfl (by simp only [List.flatten_cons, List.flatten_nil, List.append_nil, nm_one] <;> rfl) rfl rfl) ?_
 rintro w11 ⟨m12, h2, s10⟩
 have hf := hf.step m12 (fun k hk hS => by have hS : k = b2 := hS; show False; omega)
 refine send (fg [(2, _)] ⟨rfl, ⟨⟩⟩ fun _ => (wp_ret ?_))
 refine rp1 rfl ⟨_, rfl, ldS (lens := [256]) ro192 h2.r⟩ ?_
 exact ⟨rfl, hf⟩
set_option maxHeartbeats 4000000 in
set_option maxRecDepth 100000 in
theorem c121 {w : World} {r : RecD} {vd vt vp : Value} (hs : r.host.size ≤ 255)  :
  Ret PP 121 [ag (recSegs r vd vt vp)] w (fun u w' => u = ag [nm (bt r.host)] ∧ Fr0 w w') := by
 have hf : Fr (fun _ => False) w w := Fr.refl _ _
 refine ret_of Tryz.func121 rfl rfl rfl [(0, _)] rfl ?_
 refine sreg ?_
 refine svK (xboxS (lens := lRec) rfl rfl) ?_
 rintro _ w2 ⟨b1, rfl, m3, h1, e1, s1⟩
 have hf := hf.step0 m3
 refine svK (xallS (lens := [256]) in195 (by simp [nm_length])) ?_
 rintro _ w5 ⟨b2, rfl, m6, h2, e4, s4⟩
 have hf := hf.step0 m6
 have h1 := h1.keep m6 id
 refine send (fg [(1, _), (2, _)] ⟨rfl, rfl, ⟨⟩⟩ fun _ => (sreg (sv (xfld fl112_7 rfl) (sv (xld on9 rfl (h1.r.c 7 rfl rfl)) ?_))))
 refine sc (xcall ca89 rfl) (c89 (by omega)) ?_
 rintro _ w7 ⟨rfl, m8⟩
 have z9 := m8.size
 have hf := hf.step0 m8
 have h2 := h2.keep m8 id
 refine sv (xbuildS [nm (bt r.host)] zr195 ly195 rfl (by simp [fitAll, zs195, Value.cells, nm_length]) (by simp [setAll, zs195, Value.cells])) ?_
 refine suK (xstW h2 (lens' := [256]) sz195 (by simp [nm_length]) rfl (by simp only [List.flatten_cons, List.flatten_nil, List.append_nil, nm_one] <;> rfl) rfl rfl) ?_
 rintro w11 ⟨m12, h2, s10⟩
 have hf := hf.step m12 (fun k hk hS => by have hS : k = b2 := hS; show False; omega)
 refine send (fg [(2, _)] ⟨rfl, ⟨⟩⟩ fun _ => (wp_ret ?_))
 refine rp1 rfl ⟨_, rfl, ldS (lens := [256]) ro195 h2.r⟩ ?_
 exact ⟨rfl, hf⟩
set_option maxHeartbeats 4000000 in
set_option maxRecDepth 100000 in
theorem c125 {w : World} {r : RecD} {vd vt vp : Value} (hs : r.host.size ≤ 255)  :
  Ret PP 125 [ag (recSegs r vd vt vp)] w (fun u w' => u = ag [nm (bt r.host)] ∧ Fr0 w w') := by
 have hf : Fr (fun _ => False) w w := Fr.refl _ _
 refine ret_of Tryz.func125 rfl rfl rfl [(0, _)] rfl ?_
 refine sreg ?_
 refine svK (xboxS (lens := lRec) rfl rfl) ?_
 rintro _ w2 ⟨b1, rfl, m3, h1, e1, s1⟩
 have hf := hf.step0 m3
 refine svK (xallS (lens := [256]) in201 (by simp [nm_length])) ?_
 rintro _ w5 ⟨b2, rfl, m6, h2, e4, s4⟩
 have hf := hf.step0 m6
 have h1 := h1.keep m6 id
 refine send (fg [(1, _), (2, _)] ⟨rfl, rfl, ⟨⟩⟩ fun _ => (sreg (sv (xfld fl112_7 rfl) (sv (xld on9 rfl (h1.r.c 7 rfl rfl)) ?_))))
 refine sc (xcall ca89 rfl) (c89 (by omega)) ?_
 rintro _ w7 ⟨rfl, m8⟩
 have z9 := m8.size
 have hf := hf.step0 m8
 have h2 := h2.keep m8 id
 refine sv (xbuildS [nm (bt r.host)] zr201 ly201 rfl (by simp [fitAll, zs201, Value.cells, nm_length]) (by simp [setAll, zs201, Value.cells])) ?_
 refine suK (xstW h2 (lens' := [256]) sz201 (by simp [nm_length]) rfl (by simp only [List.flatten_cons, List.flatten_nil, List.append_nil, nm_one] <;> rfl) rfl rfl) ?_
 rintro w11 ⟨m12, h2, s10⟩
 have hf := hf.step m12 (fun k hk hS => by have hS : k = b2 := hS; show False; omega)
 refine send (fg [(2, _)] ⟨rfl, ⟨⟩⟩ fun _ => (wp_ret ?_))
 refine rp1 rfl ⟨_, rfl, ldS (lens := [256]) ro201 h2.r⟩ ?_
 exact ⟨rfl, hf⟩
set_option maxHeartbeats 4000000 in
set_option maxRecDepth 100000 in
theorem c127 {w : World} {r : RecD} {vd vt vp : Value} (hs : r.host.size ≤ 255)  :
  Ret PP 127 [ag (recSegs r vd vt vp)] w (fun u w' => u = ag [[.int .u16 ((r.n1.toNat % 65536 : Nat) : Int)], nm (bt r.host)] ∧ Fr0 w w') := by
 have hf : Fr (fun _ => False) w w := Fr.refl _ _
 refine ret_of Tryz.func127 rfl rfl rfl [(0, _)] rfl ?_
 refine sreg ?_
 refine svK (xboxS (lens := lRec) rfl rfl) ?_
 rintro _ w2 ⟨b1, rfl, m3, h1, e1, s1⟩
 have hf := hf.step0 m3
 refine svK (xallS (lens := [1, 256]) in204 (by simp [nm_length])) ?_
 rintro _ w5 ⟨b2, rfl, m6, h2, e4, s4⟩
 have hf := hf.step0 m6
 have h1 := h1.keep m6 id
 refine send (fg [(1, _), (2, _)] ⟨rfl, rfl, ⟨⟩⟩ fun _ => ?_)
 refine sdraw (Fr (fun _ => False) w5.drew) [(0, .rd), (1, .rd), (2, .rd), (3, .rd), (4, .rd), (5, .ld), (6, .rd), (7, .bh)] mixed (by kernel_rfl) (fun _ _ _ _ _ h => h) ?_
 have z7 : w5.drew.heap.size = w5.heap.size := rfl
 have hf := hf.drew
 have h1 := h1.drew
 have h2 := h2.drew
 have hS8 : Fr (fun _ => False) w5.drew w5.drew := Fr.refl _ _
 refine hv rfl (fun _ _ => xfld fl112_9 rfl) hS8 (hv rfl (fun w' hS => xld on61 rfl ((h1.keep hS id).r.c 9 rfl rfl)) hS8 (hv rfl (fun _ _ => xconv hs61 ki22 rfl (wu16n (r.n1.toNat % 65536) (by omega))) hS8 (hv rfl (fun _ _ => xfld fl112_7 rfl) hS8 (hv rfl (fun w' hS => xld on9 rfl ((h1.keep hS id).r.c 7 rfl rfl)) hS8 ?_))))
 refine hc rfl (xcall ca89 rfl) (c89 (by omega)) ?_
 rintro _ w9 ⟨rfl, m10⟩
 have z11 := m10.size
 have hf := hf.step0 m10
 have h2 := h2.keep m10 id
 have hS12 := hS8.step0 m10
 refine ⟨hS12, ?_⟩
 refine hv rfl (fun _ _ => xbuildS [[.int .u16 ((r.n1.toNat % 65536 : Nat) : Int)], nm (bt r.host)] zr204 ly204 rfl (by simp [fitAll, zs204, Value.cells, nm_length]) (by simp [setAll, zs204, Value.cells])) hS12 ?_
 refine bluK rfl (xstW h2 (lens' := [1, 256]) sz204 (by simp [nm_length]) rfl (by simp only [List.flatten_cons, List.flatten_nil, List.all_append, List.append_nil, nm_one] <;> rfl) rfl rfl) ?_
 rintro w14 ⟨m15, h2, s13⟩
 have hf := hf.step m15 (fun k hk hS => by have hS : k = b2 := hS; show False; omega)
 refine hend (fg [(2, _)] ⟨rfl, ⟨⟩⟩ fun _ => (wp_ret ?_))
 refine rp1 rfl ⟨_, rfl, ldS (lens := [1, 256]) ro204 h2.r⟩ ?_
 exact ⟨rfl, hf⟩
set_option maxHeartbeats 4000000 in
set_option maxRecDepth 100000 in
theorem c133 {w : World} {r : RecD} {vd vt vp : Value} (hs : r.host.size ≤ 255)  :
  Ret PP 133 [ag (recSegs r vd vt vp)] w (fun u w' => u = ag [[.int .u16 ((r.n1.toNat % 65536 : Nat) : Int)], [.int .u16 ((r.n2.toNat % 65536 : Nat) : Int)], [.int .u16 ((r.n3.toNat % 65536 : Nat) : Int)], nm (bt r.host)] ∧ Fr0 w w') := by
 have hf : Fr (fun _ => False) w w := Fr.refl _ _
 refine ret_of Tryz.func133 rfl rfl rfl [(0, _)] rfl ?_
 refine sreg ?_
 refine svK (xboxS (lens := lRec) rfl rfl) ?_
 rintro _ w2 ⟨b1, rfl, m3, h1, e1, s1⟩
 have hf := hf.step0 m3
 refine svK (xallS (lens := [1, 1, 1, 256]) in214 (by simp [nm_length])) ?_
 rintro _ w5 ⟨b2, rfl, m6, h2, e4, s4⟩
 have hf := hf.step0 m6
 have h1 := h1.keep m6 id
 refine send (fg [(1, _), (2, _)] ⟨rfl, rfl, ⟨⟩⟩ fun _ => ?_)
 refine sdraw (Fr (fun _ => False) w5.drew) [(0, .rd), (1, .rd), (2, .rd), (3, .rd), (4, .rd), (5, .rd), (6, .rd), (7, .rd), (8, .rd), (9, .rd), (10, .rd), (11, .ld), (12, .rd), (13, .bh)] mixed (by kernel_rfl) (fun _ _ _ _ _ h => h) ?_
 have z7 : w5.drew.heap.size = w5.heap.size := rfl
 have hf := hf.drew
 have h1 := h1.drew
 have h2 := h2.drew
 have hS8 : Fr (fun _ => False) w5.drew w5.drew := Fr.refl _ _
 refine hv rfl (fun _ _ => xfld fl112_9 rfl) hS8 (hv rfl (fun w' hS => xld on61 rfl ((h1.keep hS id).r.c 9 rfl rfl)) hS8 (hv rfl (fun _ _ => xconv hs61 ki22 rfl (wu16n (r.n1.toNat % 65536) (by omega))) hS8 (hv rfl (fun _ _ => xfld fl112_10 rfl) hS8 (hv rfl (fun w' hS => xld on61 rfl ((h1.keep hS id).r.c 10 rfl rfl)) hS8 (hv rfl (fun _ _ => xconv hs61 ki22 rfl (wu16n (r.n2.toNat % 65536) (by omega))) hS8 (hv rfl (fun _ _ => xfld fl112_11 rfl) hS8 (hv rfl (fun w' hS => xld on61 rfl ((h1.keep hS id).r.c 11 rfl rfl)) hS8 (hv rfl (fun _ _ => xconv hs61 ki22 rfl (wu16n (r.n3.toNat % 65536) (by omega))) hS8 (hv rfl (fun _ _ => xfld fl112_7 rfl) hS8 (hv rfl (fun w' hS => xld on9 rfl ((h1.keep hS id).r.c 7 rfl rfl)) hS8 ?_))))))))))
 refine hc rfl (xcall ca89 rfl) (c89 (by omega)) ?_
 rintro _ w9 ⟨rfl, m10⟩
 have z11 := m10.size
 have hf := hf.step0 m10
 have h2 := h2.keep m10 id
 have hS12 := hS8.step0 m10
 refine ⟨hS12, ?_⟩
 refine hv rfl (fun _ _ => xbuildS [[.int .u16 ((r.n1.toNat % 65536 : Nat) : Int)], [.int .u16 ((r.n2.toNat % 65536 : Nat) : Int)], [.int .u16 ((r.n3.toNat % 65536 : Nat) : Int)], nm (bt r.host)] zr214 ly214 rfl (by simp [fitAll, zs214, Value.cells, nm_length]) (by simp [setAll, zs214, Value.cells])) hS12 ?_
 refine bluK rfl (xstW h2 (lens' := [1, 1, 1, 256]) sz214 (by simp [nm_length]) rfl (by simp only [List.flatten_cons, List.flatten_nil, List.all_append, List.append_nil, nm_one] <;> rfl) rfl rfl) ?_
 rintro w14 ⟨m15, h2, s13⟩
 have hf := hf.step m15 (fun k hk hS => by have hS : k = b2 := hS; show False; omega)
 refine hend (fg [(2, _)] ⟨rfl, ⟨⟩⟩ fun _ => (wp_ret ?_))
 refine rp1 rfl ⟨_, rfl, ldS (lens := [1, 1, 1, 256]) ro214 h2.r⟩ ?_
 exact ⟨rfl, hf⟩
set_option maxHeartbeats 4000000 in
set_option maxRecDepth 100000 in
theorem c123 {w : World} {r : RecD} {vd vt vp : Value} (hs : r.host.size ≤ 255) (hs2 : r.box.size ≤ 255) :
  Ret PP 123 [ag (recSegs r vd vt vp)] w (fun u w' => u = ag [nm (bt r.host), nm (bt r.box), [.int .u32 (r.n1.toNat : Int)], [.int .u32 (r.n2.toNat : Int)], [.int .u32 (r.n3.toNat : Int)], [.int .u32 (r.n4.toNat : Int)], [.int .u32 (r.n5.toNat : Int)]] ∧ Fr0 w w') := by
 have hf : Fr (fun _ => False) w w := Fr.refl _ _
 refine ret_of Tryz.func123 rfl rfl rfl [(0, _)] rfl ?_
 refine sreg ?_
 refine svK (xboxS (lens := lRec) rfl rfl) ?_
 rintro _ w2 ⟨b1, rfl, m3, h1, e1, s1⟩
 have hf := hf.step0 m3
 refine svK (xallS (lens := [256, 256, 1, 1, 1, 1, 1]) in198 (by simp [nm_length])) ?_
 rintro _ w5 ⟨b2, rfl, m6, h2, e4, s4⟩
 have hf := hf.step0 m6
 have h1 := h1.keep m6 id
 refine send (fg [(1, _), (2, _)] ⟨rfl, rfl, ⟨⟩⟩ fun _ => ?_)
 refine sdraw (Fr (fun _ => False) w5.drew) [(0, .rd), (1, .rd), (3, .rd), (4, .rd), (6, .rd), (7, .rd), (8, .rd), (9, .rd), (10, .rd), (11, .rd), (12, .rd), (13, .rd), (14, .rd), (15, .rd), (2, .ld), (5, .ld), (16, .rd), (17, .bh)] mixed (by kernel_rfl) (fun _ _ _ _ _ h => h) ?_
 have z7 : w5.drew.heap.size = w5.heap.size := rfl
 have hf := hf.drew
 have h1 := h1.drew
 have h2 := h2.drew
 have hS8 : Fr (fun _ => False) w5.drew w5.drew := Fr.refl _ _
 refine hv rfl (fun _ _ => xfld fl112_7 rfl) hS8 (hv rfl (fun w' hS => xld on9 rfl ((h1.keep hS id).r.c 7 rfl rfl)) hS8 (hv rfl (fun _ _ => xfld fl112_8 rfl) hS8 (hv rfl (fun w' hS => xld on9 rfl ((h1.keep hS id).r.c 8 rfl rfl)) hS8 (hv rfl (fun _ _ => xfld fl112_9 rfl) hS8 (hv rfl (fun w' hS => xld on61 rfl ((h1.keep hS id).r.c 9 rfl rfl)) hS8 (hv rfl (fun _ _ => xfld fl112_10 rfl) hS8 (hv rfl (fun w' hS => xld on61 rfl ((h1.keep hS id).r.c 10 rfl rfl)) hS8 (hv rfl (fun _ _ => xfld fl112_11 rfl) hS8 (hv rfl (fun w' hS => xld on61 rfl ((h1.keep hS id).r.c 11 rfl rfl)) hS8 (hv rfl (fun _ _ => xfld fl112_12 rfl) hS8 (hv rfl (fun w' hS => xld on61 rfl ((h1.keep hS id).r.c 12 rfl rfl)) hS8 ?_)))))))))))
 refine hv rfl (fun _ _ => xfld fl112_13 rfl) hS8 (hv rfl (fun w' hS => xld on61 rfl ((h1.keep hS id).r.c 13 rfl rfl)) hS8 ?_)
 refine hc rfl (xcall ca89 rfl) (c89 (by omega)) ?_
 rintro _ w9 ⟨rfl, m10⟩
 have z11 := m10.size
 have hf := hf.step0 m10
 have h2 := h2.keep m10 id
 have hS12 := hS8.step0 m10
 refine ⟨hS12, ?_⟩
 refine hc rfl (xcall ca89 rfl) (c89 (by omega)) ?_
 rintro _ w13 ⟨rfl, m14⟩
 have z15 := m14.size
 have hf := hf.step0 m14
 have h2 := h2.keep m14 id
 have hS16 := hS12.step0 m14
 refine ⟨hS16, ?_⟩
 refine hv rfl (fun _ _ => xbuildS [nm (bt r.host), nm (bt r.box), [.int .u32 (r.n1.toNat : Int)], [.int .u32 (r.n2.toNat : Int)], [.int .u32 (r.n3.toNat : Int)], [.int .u32 (r.n4.toNat : Int)], [.int .u32 (r.n5.toNat : Int)]] zr198 ly198 rfl (by simp [fitAll, zs198, Value.cells, nm_length]) (by simp [setAll, zs198, Value.cells])) hS16 ?_
 refine bluK rfl (xstW h2 (lens' := [256, 256, 1, 1, 1, 1, 1]) sz198 (by simp [nm_length]) rfl (by simp only [List.flatten_cons, List.flatten_nil, List.all_append, List.append_nil, nm_one, Bool.true_and] <;> rfl) rfl rfl) ?_
 rintro w18 ⟨m19, h2, s17⟩
 have hf := hf.step m19 (fun k hk hS => by have hS : k = b2 := hS; show False; omega)
 refine hend (fg [(2, _)] ⟨rfl, ⟨⟩⟩ fun _ => (wp_ret ?_))
 refine rp1 rfl ⟨_, rfl, ldS (lens := [256, 256, 1, 1, 1, 1, 1]) ro198 h2.r⟩ ?_
 exact ⟨rfl, hf⟩
set_option maxHeartbeats 4000000 in
set_option maxRecDepth 100000 in
theorem c186 {w : World} {U : Nat → Prop} (hU : ∀ k, U k → k < w.heap.size) {v : Value} {ps : List PairD} (hp : LA PairEl lPair U w v ps) (hn : ps.length ≤ 1048576) (hpl : ∀ p ∈ ps, p.data.length ≤ 1048576) :
  Ret PP 186 [v] w (fun u w' => LA PairEl lPair (Ub U w w') w' u ps ∧ Fr0 w w') := by
 obtain ⟨a0, c0, rfl⟩ := hp.form
 have hf : Fr (fun _ => False) w w := Fr.refl _ _
 refine ret_of Tryz.func186 rfl rfl rfl [(0, _)] rfl ?_
 refine sreg (sv (xassign rfl) (send (fg [(0, _)] ⟨rfl, ⟨⟩⟩ fun _ => (sreg ?_))))
 refine svK (xslit ([]) sl222 in291 rfl (by decide) rfl rfl rfl rfl (by decide) rfl rfl) ?_
 rintro _ w2 ⟨b6, rfl, m3, h6, e6, s6, r6⟩
 have hp := hp.keep pair_st (lU hU (by omega)) m3 nF
 have hf := hf.step0 m3
 have hv3 : RX PairEl lPair U w.heap.size w2.heap.size w2 _ b6 291 0 [] := RX.ofNil r6
 refine sv (xassign rfl) (send (fg [(0, _), (3, _)] ⟨rfl, rfl, ⟨⟩⟩ fun _ => (wp_seq (sreg (sv (xmove rfl) (sv (xlen sl110 rfl) (sv (xmove rfl) (send (fg [(3, _), (7, _), (8, _), (9, _)] ⟨rfl, rfl, rfl, rfl, ⟨⟩⟩ fun _ => (wp_block ?_))))))))))
 refine lp [(7, _), (8, _)] (fun (x : Nat × Value × Nat) => match x with | (k, v, g) => [(3, v), (9, .int .i64 (k : Int))]) (fun (x : Nat × Value × Nat) wx => match x with | (k, v, g) => Fr (fun k => k = b6) w2 wx ∧ (k ≤ ps.length) ∧ (RX PairEl lPair U w.heap.size wx.heap.size wx v g 291 k (ps.take k)) ∧ (w.heap.size ≤ g) ∧ (g < wx.heap.size) ∧ (g = b6 ∨ w2.heap.size ≤ g)) (fun (x : Nat × Value × Nat) => match x with | (k, v, g) => ps.length - k) (0, _, b6) ⟨rfl, rfl, rfl, rfl, trivial⟩ ⟨Fr.refl _ _, Nat.zero_le _, hv3, by omega, by omega, .inl rfl⟩ ?_
 rintro ⟨k, v, g⟩ _ w5 ⟨hL4, hk, hv3, hg, hg2, hg3⟩
 refine fg [(3, _), (7, _), (8, _), (9, _)] ⟨rfl, rfl, rfl, rfl, ⟨⟩⟩ fun _ => ?_
 have z6 := hL4.size
 have hp := hp.keep pair_st (lU hU (by omega)) hL4 (fun k hk hS => by have hk := hU k hk; have hS : k = b6 := hS; omega)
 have hf := hf.step hL4 (fun k hk hS => by have hS : k = b6 := hS; show False; omega)
 obtain ⟨a3, c3, rfl⟩ := RA.form hv3
 refine sreg ?_
 refine svP (xlss rfl rfl) (fun hc10 => ?_) (fun hc10 => ?_)
 ·
  refine send (fg [(3, _), (7, _), (8, _), (9, _), (10, _)] ⟨rfl, rfl, rfl, rfl, rfl, ⟨⟩⟩ fun _ => (wp_seq (cyes rfl (wp_skip (nThen (fg [(3, _), (7, _), (8, _), (9, _)] ⟨rfl, rfl, rfl, rfl, ⟨⟩⟩ fun _ => (wp_seq (wp_block ?_))))))))
  obtain ⟨p, hpk⟩ := some_of_lt (by omega : k < ps.length)
  have hpd := hpl _ (List.mem_of_getElem? hpk)
  refine sreg ?_
  obtain ⟨bE11, oE11, sgE11, rfl, uE11, hsE11, heE11⟩ := LA.get hp hpk
  obtain ⟨vd, rfl, hd⟩ := heE11
  have zE11 := hU _ uE11
  obtain ⟨ad, cd, rfl, -⟩ := id hd
  refine sv (xidx sl110 sz145 rfl rfl rfl (by omega)) (sv (xldS (lens := [1, 1]) ro145 rfl hsE11) ?_)
  refine svK (xallS (lens := [1, 1]) in145 rfl) ?_
  rintro _ w8 ⟨b5, rfl, m9, h5, e7, s7⟩
  have hf := hf.step0 m9
  have hv3 := RX.keep hv3 pair_st (lU hU (by omega)) (by omega) m9 (fun _ _ _ h => h) id
  have hL4 := hL4.step0 m9
  have hd := hd.keep (lU hU (by omega)) m9 nF
  refine suK (xstW h5 (lens' := [1, 1]) sz145 rfl rfl rfl rfl rfl) ?_
  rintro w11 ⟨m12, h5, s10⟩
  have hf := hf.step m12 (fun k hk hS => by have hS : k = b5 := hS; show False; omega)
  have hv3 := RX.keep hv3 pair_st (lU hU (by omega)) (by omega) m12 (fun k hk hk3 hS => by have hS : k = b5 := hS; rcases hk with hk | hk <;> first | omega | (have := hU k hk; omega)) (by show ¬ (g = b5); omega)
  have hL4 := hL4.step m12 (fun k hk hS => by have hS : k = b5 := hS; show k = b6; omega)
  have hd := hd.keep (lU hU (by omega)) m12 (fun k hk hS => by have hk := hU k hk; have hS : k = b5 := hS; omega)
  refine send (fg [(3, _), (5, _), (7, _), (8, _), (9, _)] ⟨rfl, rfl, rfl, rfl, rfl, ⟨⟩⟩ fun _ => ?_)
  refine ldraw (Fr (fun k => k = g) w11.drew) [(0, .rd), (1, .rd), (2, .rd), (4, .rd), (5, .rd), (3, .ld), (6, .ld), (7, .rd), (8, .ld), (9, .ld), (10, .rd)] mixed (by kernel_rfl) (fun _ _ _ _ _ h => h) ?_
  have z13 : w11.drew.heap.size = w11.heap.size := rfl
  have hf := hf.drew
  have hv3 := RX.keep hv3 pair_st (lU hU (by omega)) (by omega) (Fr.drew (Fr.refl (fun _ => False) w11)) (fun _ _ _ h => h) id
  have hL4 := hL4.drew
  have hd := hd.keep (lU hU (by omega)) (Fr.drew (Fr.refl (fun _ => False) w11)) nF
  have h5 := h5.drew
  have hS14 : Fr (fun k => k = g) w11.drew w11.drew := Fr.refl _ _
  refine hv rfl (fun _ _ => xmove rfl) hS14 (hv rfl (fun _ _ => xfld fl145_0 rfl) hS14 (hv rfl (fun w' hS => xld on22 rfl ((h5.keep hS (by show ¬ (b5 = g); omega)).r.c 0 rfl rfl)) hS14 (hv rfl (fun _ _ => xfld fl145_1 rfl) hS14 (hv rfl (fun w' hS => xld on37 rfl ((h5.keep hS (by show ¬ (b5 = g); omega)).r.c 1 rfl rfl)) hS14 ?_))))
  refine hlK rfl (xslit (bvs []) sl37 in5 rfl (by decide) rfl rfl rfl rfl (by decide) rfl (bvs_one _)) ?_
  rintro _ w16 ⟨b16, rfl, m17, h16, e16, s16, r16⟩
  have hf := hf.step0 m17
  have hv3 := RX.keep hv3 pair_st (lU hU (by omega)) (by omega) m17 (fun _ _ _ h => h) id
  have hL4 := hL4.step0 m17
  have hd := hd.keep (lU hU (by omega)) m17 nF
  have hS18 := hS14.step0 m17
  refine ⟨hS18, ?_⟩
  refine hlK rfl (xapp sl37 in5 rfl (by decide) rfl rfl r16 (hd.src sl37) (by simp only [maxLen]; omega) (by omega)) ?_
  rintro _ w19 ⟨g19, r19, m20, a19, l19⟩
  have z21 := m20.size
  have hf := hf.step m20 (fun k hk hS => by have hS : k = b16 := hS; show False; omega)
  have hv3 := RX.keep hv3 pair_st (lU hU (by omega)) (by omega) m20 (fun k hk hk3 hS => by have hS : k = b16 := hS; rcases hk with hk | hk <;> first | omega | (have := hU k hk; omega)) (by show ¬ (g = b16); omega)
  have hL4 := hL4.step m20 (fun k hk hS => by have hS : k = b16 := hS; show k = b6; omega)
  have hS22 := hS18.step m20 (fun k hk hS => by have hS : k = b16 := hS; show k = g; omega)
  obtain ⟨p19, q19, rfl, -⟩ := r19.form
  refine ⟨hS22, ?_⟩
  refine hv rfl (fun _ _ => xbuildS (pairSegs p (.slice p19 (0 + p.data.length) q19)) zr291 ly291 rfl (by simp [fitAll, zs291, Value.cells]) rfl) hS22 ?_
  refine hlK rfl (xslit ((pairSegs p (.slice p19 (0 + p.data.length) q19)).flatten) sl222 in291 rfl (by decide) rfl rfl rfl rfl (by decide) rfl rfl) ?_
  rintro _ w24 ⟨b21, rfl, m25, h21, e21, s21, r21⟩
  have hf := hf.step0 m25
  have hv3 := RX.keep hv3 pair_st (lU hU (by omega)) (by omega) m25 (fun _ _ _ h => h) id
  have hL4 := hL4.step0 m25
  have r19 := r19.keep m25 id
  have hS26 := hS22.step0 m25
  refine ⟨hS26, ?_⟩
  obtain ⟨ss22, hR22, hA22⟩ := hv3
  refine hlK rfl (xapp sl222 in291 rfl (by decide) rfl rfl hR22 (r21.src sl222) (by simp only [maxLen]; omega) (by omega)) ?_
  rintro v22 w27 ⟨g22, r22, m28, a22, l22⟩
  have z29 := m28.size
  have hf := hf.step m28 (fun k hk hS => by have hS : k = g := hS; show False; omega)
  have hL4 := hL4.step m28 (fun k hk hS => by have hS : k = g := hS; show k = b6; omega)
  have r19 := r19.keep m28 (by show ¬ (g19 = g); omega)
  have hS30 := hS26.step m28 (fun k hk hS => by have hS : k = g := hS; show k = g; omega)
  have hv3 := RX.snoc (x := p) w27.heap.size hA22 pair_st pair_gr (lU hU (by omega)) (by omega) (by omega) m28 a22 r22 rfl (⟨_, rfl, BR.ba (show BR _ _ _ _ p.data from r19) ⟨.inr ⟨by omega, by omega⟩, by omega⟩⟩)
  refine ⟨hS30, ?_⟩
  refine hv rfl (fun _ _ => xassign rfl) hS30 (lhend (nBlock (nThen (fg [(3, _), (7, _), (8, _), (9, _)] ⟨rfl, rfl, rfl, rfl, ⟨⟩⟩ fun _ => (lreg (sv (xadd rfl rfl (w64 (by omega) (by omega))) (sv (xmove rfl) (lend (nThen ?_)))))))))
  refine ⟨(k + 1, _, g22), _, env_okl ⟨rfl, rfl, rfl, rfl, trivial⟩, ⟨hL4, (by omega), (by rw [take_snoc hpk]; exact RX.up pair_gr hv3 (by omega)), (by omega), (l22 (by omega)), (by omega)⟩, ?_⟩
  show ps.length - (k + 1) < ps.length - k; omega
 ·
  refine send (fg [(3, _), (7, _), (8, _), (9, _), (10, _)] ⟨rfl, rfl, rfl, rfl, rfl, ⟨⟩⟩ fun _ => (wp_seq (cno rfl (wp_exit (eThen (eThen (eHit (nThen (fg [(3, _)] ⟨rfl, ⟨⟩⟩ fun _ => (sreg (sv (xmove rfl) ?_)))))))))))
  refine sv (xassign rfl) (send (fg [(2, _)] ⟨rfl, ⟨⟩⟩ fun _ => (wp_ret ?_)))
  refine rp1 rfl rfl ?_
  have e : ps.take k = ps := List.take_of_length_le (by omega)
  rw [e] at hv3
  exact ⟨RX.la hv3 (by decide) pair_gr (fun k hk => hk.elim .inl .inr) (.inr ⟨hg, hg2⟩), hf⟩
set_option maxHeartbeats 4000000 in
set_option maxRecDepth 100000 in
theorem c183 {w : World} {U : Nat → Prop} (hU : ∀ k, U k → k < w.heap.size) {v : Value} {ps : List PairD} (hp : LA PairEl lPair U w v ps) (hn : ps.length ≤ 1048576) (hpl : ∀ p ∈ ps, p.data.length ≤ 1048576) :
  Ret PP 183 [v] w (fun u w' => LA PairEl lPair (Ub U w w') w' u ps ∧ Fr0 w w') := by
 obtain ⟨a0, c0, rfl⟩ := hp.form
 have hf : Fr (fun _ => False) w w := Fr.refl _ _
 refine ret_of Tryz.func183 rfl rfl rfl [(0, _)] rfl ?_
 refine sreg (sv (xassign rfl) (send (fg [(0, _)] ⟨rfl, ⟨⟩⟩ fun _ => (sreg ?_))))
 refine svK (xslit ([]) sl216 in220 rfl (by decide) rfl rfl rfl rfl (by decide) rfl rfl) ?_
 rintro _ w2 ⟨b6, rfl, m3, h6, e6, s6, r6⟩
 have hp := hp.keep pair_st (lU hU (by omega)) m3 nF
 have hf := hf.step0 m3
 have hv3 : RX PairEl lPair U w.heap.size w2.heap.size w2 _ b6 220 0 [] := RX.ofNil r6
 refine sv (xassign rfl) (send (fg [(0, _), (3, _)] ⟨rfl, rfl, ⟨⟩⟩ fun _ => (wp_seq (sreg (sv (xmove rfl) (sv (xlen sl110 rfl) (sv (xmove rfl) (send (fg [(3, _), (7, _), (8, _), (9, _)] ⟨rfl, rfl, rfl, rfl, ⟨⟩⟩ fun _ => (wp_block ?_))))))))))
 refine lp [(7, _), (8, _)] (fun (x : Nat × Value × Nat) => match x with | (k, v, g) => [(3, v), (9, .int .i64 (k : Int))]) (fun (x : Nat × Value × Nat) wx => match x with | (k, v, g) => Fr (fun k => k = b6) w2 wx ∧ (k ≤ ps.length) ∧ (RX PairEl lPair U w.heap.size wx.heap.size wx v g 220 k (ps.take k)) ∧ (w.heap.size ≤ g) ∧ (g < wx.heap.size) ∧ (g = b6 ∨ w2.heap.size ≤ g)) (fun (x : Nat × Value × Nat) => match x with | (k, v, g) => ps.length - k) (0, _, b6) ⟨rfl, rfl, rfl, rfl, trivial⟩ ⟨Fr.refl _ _, Nat.zero_le _, hv3, by omega, by omega, .inl rfl⟩ ?_
 rintro ⟨k, v, g⟩ _ w5 ⟨hL4, hk, hv3, hg, hg2, hg3⟩
 refine fg [(3, _), (7, _), (8, _), (9, _)] ⟨rfl, rfl, rfl, rfl, ⟨⟩⟩ fun _ => ?_
 have z6 := hL4.size
 have hp := hp.keep pair_st (lU hU (by omega)) hL4 (fun k hk hS => by have hk := hU k hk; have hS : k = b6 := hS; omega)
 have hf := hf.step hL4 (fun k hk hS => by have hS : k = b6 := hS; show False; omega)
 obtain ⟨a3, c3, rfl⟩ := RA.form hv3
 refine sreg ?_
 refine svP (xlss rfl rfl) (fun hc10 => ?_) (fun hc10 => ?_)
 ·
  refine send (fg [(3, _), (7, _), (8, _), (9, _), (10, _)] ⟨rfl, rfl, rfl, rfl, rfl, ⟨⟩⟩ fun _ => (wp_seq (cyes rfl (wp_skip (nThen (fg [(3, _), (7, _), (8, _), (9, _)] ⟨rfl, rfl, rfl, rfl, ⟨⟩⟩ fun _ => (wp_seq (wp_block ?_))))))))
  obtain ⟨p, hpk⟩ := some_of_lt (by omega : k < ps.length)
  have hpd := hpl _ (List.mem_of_getElem? hpk)
  refine sreg ?_
  obtain ⟨bE11, oE11, sgE11, rfl, uE11, hsE11, heE11⟩ := LA.get hp hpk
  obtain ⟨vd, rfl, hd⟩ := heE11
  have zE11 := hU _ uE11
  obtain ⟨ad, cd, rfl, -⟩ := id hd
  refine sv (xidx sl110 sz145 rfl rfl rfl (by omega)) (sv (xldS (lens := [1, 1]) ro145 rfl hsE11) ?_)
  refine svK (xallS (lens := [1, 1]) in145 rfl) ?_
  rintro _ w8 ⟨b5, rfl, m9, h5, e7, s7⟩
  have hf := hf.step0 m9
  have hv3 := RX.keep hv3 pair_st (lU hU (by omega)) (by omega) m9 (fun _ _ _ h => h) id
  have hL4 := hL4.step0 m9
  have hd := hd.keep (lU hU (by omega)) m9 nF
  refine suK (xstW h5 (lens' := [1, 1]) sz145 rfl rfl rfl rfl rfl) ?_
  rintro w11 ⟨m12, h5, s10⟩
  have hf := hf.step m12 (fun k hk hS => by have hS : k = b5 := hS; show False; omega)
  have hv3 := RX.keep hv3 pair_st (lU hU (by omega)) (by omega) m12 (fun k hk hk3 hS => by have hS : k = b5 := hS; rcases hk with hk | hk <;> first | omega | (have := hU k hk; omega)) (by show ¬ (g = b5); omega)
  have hL4 := hL4.step m12 (fun k hk hS => by have hS : k = b5 := hS; show k = b6; omega)
  have hd := hd.keep (lU hU (by omega)) m12 (fun k hk hS => by have hk := hU k hk; have hS : k = b5 := hS; omega)
  refine send (fg [(3, _), (5, _), (7, _), (8, _), (9, _)] ⟨rfl, rfl, rfl, rfl, rfl, ⟨⟩⟩ fun _ => ?_)
  refine ldraw (Fr (fun k => k = g) w11.drew) [(0, .rd), (1, .rd), (2, .rd), (4, .rd), (5, .rd), (3, .ld), (6, .ld), (7, .rd), (8, .ld), (9, .ld), (10, .rd)] mixed (by kernel_rfl) (fun _ _ _ _ _ h => h) ?_
  have z13 : w11.drew.heap.size = w11.heap.size := rfl
  have hf := hf.drew
  have hv3 := RX.keep hv3 pair_st (lU hU (by omega)) (by omega) (Fr.drew (Fr.refl (fun _ => False) w11)) (fun _ _ _ h => h) id
  have hL4 := hL4.drew
  have hd := hd.keep (lU hU (by omega)) (Fr.drew (Fr.refl (fun _ => False) w11)) nF
  have h5 := h5.drew
  have hS14 : Fr (fun k => k = g) w11.drew w11.drew := Fr.refl _ _
  refine hv rfl (fun _ _ => xmove rfl) hS14 (hv rfl (fun _ _ => xfld fl145_0 rfl) hS14 (hv rfl (fun w' hS => xld on22 rfl ((h5.keep hS (by show ¬ (b5 = g); omega)).r.c 0 rfl rfl)) hS14 (hv rfl (fun _ _ => xfld fl145_1 rfl) hS14 (hv rfl (fun w' hS => xld on37 rfl ((h5.keep hS (by show ¬ (b5 = g); omega)).r.c 1 rfl rfl)) hS14 ?_))))
  refine hlK rfl (xslit (bvs []) sl37 in5 rfl (by decide) rfl rfl rfl rfl (by decide) rfl (bvs_one _)) ?_
  rintro _ w16 ⟨b16, rfl, m17, h16, e16, s16, r16⟩
  have hf := hf.step0 m17
  have hv3 := RX.keep hv3 pair_st (lU hU (by omega)) (by omega) m17 (fun _ _ _ h => h) id
  have hL4 := hL4.step0 m17
  have hd := hd.keep (lU hU (by omega)) m17 nF
  have hS18 := hS14.step0 m17
  refine ⟨hS18, ?_⟩
  refine hlK rfl (xapp sl37 in5 rfl (by decide) rfl rfl r16 (hd.src sl37) (by simp only [maxLen]; omega) (by omega)) ?_
  rintro _ w19 ⟨g19, r19, m20, a19, l19⟩
  have z21 := m20.size
  have hf := hf.step m20 (fun k hk hS => by have hS : k = b16 := hS; show False; omega)
  have hv3 := RX.keep hv3 pair_st (lU hU (by omega)) (by omega) m20 (fun k hk hk3 hS => by have hS : k = b16 := hS; rcases hk with hk | hk <;> first | omega | (have := hU k hk; omega)) (by show ¬ (g = b16); omega)
  have hL4 := hL4.step m20 (fun k hk hS => by have hS : k = b16 := hS; show k = b6; omega)
  have hS22 := hS18.step m20 (fun k hk hS => by have hS : k = b16 := hS; show k = g; omega)
  obtain ⟨p19, q19, rfl, -⟩ := r19.form
  refine ⟨hS22, ?_⟩
  refine hv rfl (fun _ _ => xbuildS (pairSegs p (.slice p19 (0 + p.data.length) q19)) zr220 ly220 rfl (by simp [fitAll, zs220, Value.cells]) rfl) hS22 ?_
  refine hlK rfl (xslit ((pairSegs p (.slice p19 (0 + p.data.length) q19)).flatten) sl216 in220 rfl (by decide) rfl rfl rfl rfl (by decide) rfl rfl) ?_
  rintro _ w24 ⟨b21, rfl, m25, h21, e21, s21, r21⟩
  have hf := hf.step0 m25
  have hv3 := RX.keep hv3 pair_st (lU hU (by omega)) (by omega) m25 (fun _ _ _ h => h) id
  have hL4 := hL4.step0 m25
  have r19 := r19.keep m25 id
  have hS26 := hS22.step0 m25
  refine ⟨hS26, ?_⟩
  obtain ⟨ss22, hR22, hA22⟩ := hv3
  refine hlK rfl (xapp sl216 in220 rfl (by decide) rfl rfl hR22 (r21.src sl216) (by simp only [maxLen]; omega) (by omega)) ?_
  rintro v22 w27 ⟨g22, r22, m28, a22, l22⟩
  have z29 := m28.size
  have hf := hf.step m28 (fun k hk hS => by have hS : k = g := hS; show False; omega)
  have hL4 := hL4.step m28 (fun k hk hS => by have hS : k = g := hS; show k = b6; omega)
  have r19 := r19.keep m28 (by show ¬ (g19 = g); omega)
  have hS30 := hS26.step m28 (fun k hk hS => by have hS : k = g := hS; show k = g; omega)
  have hv3 := RX.snoc (x := p) w27.heap.size hA22 pair_st pair_gr (lU hU (by omega)) (by omega) (by omega) m28 a22 r22 rfl (⟨_, rfl, BR.ba (show BR _ _ _ _ p.data from r19) ⟨.inr ⟨by omega, by omega⟩, by omega⟩⟩)
  refine ⟨hS30, ?_⟩
  refine hv rfl (fun _ _ => xassign rfl) hS30 (lhend (nBlock (nThen (fg [(3, _), (7, _), (8, _), (9, _)] ⟨rfl, rfl, rfl, rfl, ⟨⟩⟩ fun _ => (lreg (sv (xadd rfl rfl (w64 (by omega) (by omega))) (sv (xmove rfl) (lend (nThen ?_)))))))))
  refine ⟨(k + 1, _, g22), _, env_okl ⟨rfl, rfl, rfl, rfl, trivial⟩, ⟨hL4, (by omega), (by rw [take_snoc hpk]; exact RX.up pair_gr hv3 (by omega)), (by omega), (l22 (by omega)), (by omega)⟩, ?_⟩
  show ps.length - (k + 1) < ps.length - k; omega
 ·
  refine send (fg [(3, _), (7, _), (8, _), (9, _), (10, _)] ⟨rfl, rfl, rfl, rfl, rfl, ⟨⟩⟩ fun _ => (wp_seq (cno rfl (wp_exit (eThen (eThen (eHit (nThen (fg [(3, _)] ⟨rfl, ⟨⟩⟩ fun _ => (sreg (sv (xmove rfl) ?_)))))))))))
  refine sv (xassign rfl) (send (fg [(2, _)] ⟨rfl, ⟨⟩⟩ fun _ => (wp_ret ?_)))
  refine rp1 rfl rfl ?_
  have e : ps.take k = ps := List.take_of_length_le (by omega)
  rw [e] at hv3
  exact ⟨RX.la hv3 (by decide) pair_gr (fun k hk => hk.elim .inl .inr) (.inr ⟨hg, hg2⟩), hf⟩
set_option maxHeartbeats 4000000 in
set_option maxRecDepth 100000 in
theorem c117 {w : World} {U : Nat → Prop} (hU : ∀ k, U k → k < w.heap.size) {r : RecD} {vd vt vp : Value} (hd : BA U w vd r.data) :
  Ret PP 117 [ag (recSegs r vd vt vp)] w (fun u w' => u = ag [bvs (fixedL r.data 4)] ∧ Fr0 w w') := by
 obtain ⟨ad0, cd0, rfl, -⟩ := id hd
 have hf : Fr (fun _ => False) w w := Fr.refl _ _
 refine ret_of Tryz.func117 rfl rfl rfl [(0, _)] rfl ?_
 refine sreg ?_
 refine svK (xboxS (lens := lRec) rfl rfl) ?_
 rintro _ w2 ⟨b1, rfl, m3, h1, e1, s1⟩
 have hd := hd.keep (lU hU (by omega)) m3 nF
 have hf := hf.step0 m3
 refine svK (xallS (lens := [4]) in189 rfl) ?_
 rintro _ w5 ⟨b2, rfl, m6, h2, e4, s4⟩
 have hd := hd.keep (lU hU (by omega)) m6 nF
 have hf := hf.step0 m6
 have h1 := h1.keep m6 id
 refine send (fg [(1, _), (2, _)] ⟨rfl, rfl, ⟨⟩⟩ fun _ => (sreg (sv (xbuildS zs189 zr189 ly189 rfl trivial rfl) ?_)))
 refine svK (xallS (lens := [4]) in189 rfl) ?_
 rintro _ w8 ⟨b3, rfl, m9, h3, e7, s7⟩
 have hd := hd.keep (lU hU (by omega)) m9 nF
 have hf := hf.step0 m9
 have h1 := h1.keep m9 id
 have h2 := h2.keep m9 id
 refine suK (xstW h3 (lens' := [4]) sz189 rfl rfl rfl rfl rfl) ?_
 rintro w11 ⟨m12, h3, s10⟩
 have hd := hd.keep (lU hU (by omega)) m12 (fun k hk hS => by have hk := hU k hk; have hS : k = b3 := hS; omega)
 have hf := hf.step m12 (fun k hk hS => by have hS : k = b3 := hS; show False; omega)
 have h1 := h1.keep m12 (by show ¬ (b1 = b3); omega)
 have h2 := h2.keep m12 (by show ¬ (b2 = b3); omega)
 refine send (fg [(1, _), (2, _), (3, _)] ⟨rfl, rfl, rfl, ⟨⟩⟩ fun _ => ?_)
 have k3 : Blk w11 b3 (bvs (List.replicate 4 0)) := h3.1
 refine sdraw (Fr (fun k => k = b3) w11.drew) [(0, .rd), (1, .rd), (2, .rd), (3, .rd), (4, .bh)] mixed (by kernel_rfl) (fun _ _ _ _ _ h => h) ?_
 have z13 : w11.drew.heap.size = w11.heap.size := rfl
 have hd := hd.keep (lU hU (by omega)) (Fr.drew (Fr.refl (fun _ => False) w11)) nF
 have hf := hf.drew
 have h1 := h1.drew
 have h2 := h2.drew
 have h3 := h3.drew
 have hS14 : Fr (fun k => k = b3) w11.drew w11.drew := Fr.refl _ _
 refine hv rfl (fun _ _ => xfld fl189_0 rfl) hS14 (hv rfl (fun _ _ => xcutA ar187 sz5 rfl) hS14 (hv rfl (fun _ _ => xfld fl112_6 rfl) hS14 (hv rfl (fun w' hS => xld on37 rfl ((h1.keep hS (by show ¬ (b1 = b3); omega)).r.c 6 rfl rfl)) hS14 ?_)))
 refine blK rfl (xcopyZ sl37 sz5 rfl rfl (cpy_ba hd) (rest := []) (by rw [List.append_nil]; exact k3)) ?_
 rintro _ w15 ⟨rfl, m16, k3, s9⟩
 have hf := hf.step m16 (fun k hk hS => by have hS : k = b3 := hS; show False; omega)
 have h2 := h2.keep m16 (by show ¬ (b2 = b3); omega)
 rw [List.append_nil] at k3
 have h3 : SB w15 b3 [4] [bvs (fixedL r.data 4)] := ⟨by simpa using k3, by simp [bvs_length, fixedL_length]⟩
 refine hend (fg [(2, _), (3, _)] ⟨rfl, rfl, ⟨⟩⟩ fun _ => (sreg (sv (xldS (lens := [4]) ro189 rfl h3.r) ?_)))
 refine suK (xstW h2 (lens' := [4]) sz189 (by simp [bvs_length, fixedL_length]) rfl (by simp only [List.flatten_cons, List.flatten_nil, List.append_nil, bvs_one] <;> rfl) rfl rfl) ?_
 rintro w18 ⟨m19, h2, s17⟩
 have hf := hf.step m19 (fun k hk hS => by have hS : k = b2 := hS; show False; omega)
 refine send (fg [(2, _)] ⟨rfl, ⟨⟩⟩ fun _ => (wp_ret ?_))
 refine rp1 rfl ⟨_, rfl, ldS (lens := [4]) ro189 h2.r⟩ ?_
 exact ⟨rfl, hf⟩
set_option maxHeartbeats 4000000 in
set_option maxRecDepth 100000 in
theorem c131 {w : World} {U : Nat → Prop} (hU : ∀ k, U k → k < w.heap.size) {r : RecD} {vd vt vp : Value} (hd : BA U w vd r.data) :
  Ret PP 131 [ag (recSegs r vd vt vp)] w (fun u w' => u = ag [bvs (fixedL r.data 16)] ∧ Fr0 w w') := by
 obtain ⟨ad0, cd0, rfl, -⟩ := id hd
 have hf : Fr (fun _ => False) w w := Fr.refl _ _
 refine ret_of Tryz.func131 rfl rfl rfl [(0, _)] rfl ?_
 refine sreg ?_
 refine svK (xboxS (lens := lRec) rfl rfl) ?_
 rintro _ w2 ⟨b1, rfl, m3, h1, e1, s1⟩
 have hd := hd.keep (lU hU (by omega)) m3 nF
 have hf := hf.step0 m3
 refine svK (xallS (lens := [16]) in211 rfl) ?_
 rintro _ w5 ⟨b2, rfl, m6, h2, e4, s4⟩
 have hd := hd.keep (lU hU (by omega)) m6 nF
 have hf := hf.step0 m6
 have h1 := h1.keep m6 id
 refine send (fg [(1, _), (2, _)] ⟨rfl, rfl, ⟨⟩⟩ fun _ => (sreg (sv (xbuildS zs211 zr211 ly211 rfl trivial rfl) ?_)))
 refine svK (xallS (lens := [16]) in211 rfl) ?_
 rintro _ w8 ⟨b3, rfl, m9, h3, e7, s7⟩
 have hd := hd.keep (lU hU (by omega)) m9 nF
 have hf := hf.step0 m9
 have h1 := h1.keep m9 id
 have h2 := h2.keep m9 id
 refine suK (xstW h3 (lens' := [16]) sz211 rfl rfl rfl rfl rfl) ?_
 rintro w11 ⟨m12, h3, s10⟩
 have hd := hd.keep (lU hU (by omega)) m12 (fun k hk hS => by have hk := hU k hk; have hS : k = b3 := hS; omega)
 have hf := hf.step m12 (fun k hk hS => by have hS : k = b3 := hS; show False; omega)
 have h1 := h1.keep m12 (by show ¬ (b1 = b3); omega)
 have h2 := h2.keep m12 (by show ¬ (b2 = b3); omega)
 refine send (fg [(1, _), (2, _), (3, _)] ⟨rfl, rfl, rfl, ⟨⟩⟩ fun _ => ?_)
 have k3 : Blk w11 b3 (bvs (List.replicate 16 0)) := h3.1
 refine sdraw (Fr (fun k => k = b3) w11.drew) [(0, .rd), (1, .rd), (2, .rd), (3, .rd), (4, .bh)] mixed (by kernel_rfl) (fun _ _ _ _ _ h => h) ?_
 have z13 : w11.drew.heap.size = w11.heap.size := rfl
 have hd := hd.keep (lU hU (by omega)) (Fr.drew (Fr.refl (fun _ => False) w11)) nF
 have hf := hf.drew
 have h1 := h1.drew
 have h2 := h2.drew
 have h3 := h3.drew
 have hS14 : Fr (fun k => k = b3) w11.drew w11.drew := Fr.refl _ _
 refine hv rfl (fun _ _ => xfld fl211_0 rfl) hS14 (hv rfl (fun _ _ => xcutA ar209 sz5 rfl) hS14 (hv rfl (fun _ _ => xfld fl112_6 rfl) hS14 (hv rfl (fun w' hS => xld on37 rfl ((h1.keep hS (by show ¬ (b1 = b3); omega)).r.c 6 rfl rfl)) hS14 ?_)))
 refine blK rfl (xcopyZ sl37 sz5 rfl rfl (cpy_ba hd) (rest := []) (by rw [List.append_nil]; exact k3)) ?_
 rintro _ w15 ⟨rfl, m16, k3, s9⟩
 have hf := hf.step m16 (fun k hk hS => by have hS : k = b3 := hS; show False; omega)
 have h2 := h2.keep m16 (by show ¬ (b2 = b3); omega)
 rw [List.append_nil] at k3
 have h3 : SB w15 b3 [16] [bvs (fixedL r.data 16)] := ⟨by simpa using k3, by simp [bvs_length, fixedL_length]⟩
 refine hend (fg [(2, _), (3, _)] ⟨rfl, rfl, ⟨⟩⟩ fun _ => (sreg (sv (xldS (lens := [16]) ro211 rfl h3.r) ?_)))
 refine suK (xstW h2 (lens' := [16]) sz211 (by simp [bvs_length, fixedL_length]) rfl (by simp only [List.flatten_cons, List.flatten_nil, List.append_nil, bvs_one] <;> rfl) rfl rfl) ?_
 rintro w18 ⟨m19, h2, s17⟩
 have hf := hf.step m19 (fun k hk hS => by have hS : k = b2 := hS; show False; omega)
 refine send (fg [(2, _)] ⟨rfl, ⟨⟩⟩ fun _ => (wp_ret ?_))
 refine rp1 rfl ⟨_, rfl, ldS (lens := [16]) ro211 h2.r⟩ ?_
 exact ⟨rfl, hf⟩
set_option maxHeartbeats 4000000 in
set_option maxRecDepth 100000 in
theorem c135 {w : World} {U : Nat → Prop} (hU : ∀ k, U k → k < w.heap.size) {r : RecD} {vd vt vp : Value} (hp : LA PairEl lPair U w vp r.pairs) (hn : r.pairs.length ≤ 1048576) (hpl : ∀ p ∈ r.pairs, p.data.length ≤ 1048576)  :
  Ret PP 135 [ag (recSegs r vd vt vp)] w (fun u w' => ∃ v, u = ag [[v]] ∧ LA PairEl lPair (Ub U w w') w' v r.pairs ∧ Fr0 w w') := by
 obtain ⟨ap0, cp0, rfl⟩ := hp.form
 have hf : Fr (fun _ => False) w w := Fr.refl _ _
 refine ret_of Tryz.func135 rfl rfl rfl [(0, _)] rfl ?_
 refine sreg ?_
 refine svK (xboxS (lens := lRec) rfl rfl) ?_
 rintro _ w2 ⟨b1, rfl, m3, h1, e1, s1⟩
 have hp := hp.keep pair_st (lU hU (by omega)) m3 nF
 have hf := hf.step0 m3
 refine svK (xallS (lens := [1]) in218 rfl) ?_
 rintro _ w5 ⟨b2, rfl, m6, h2, e4, s4⟩
 have hp := hp.keep pair_st (lU hU (by omega)) m6 nF
 have hf := hf.step0 m6
 have h1 := h1.keep m6 id
 refine send (fg [(1, _), (2, _)] ⟨rfl, rfl, ⟨⟩⟩ fun _ => (sreg (sv (xfld fl112_15 rfl) (sv (xld on110 rfl (h1.r.c 15 rfl rfl)) ?_))))
 refine sc (xcall ca183 rfl) (c183 (U := U) (lU hU (by omega)) hp (by omega) hpl) ?_
 rintro v5 w7 ⟨L5, m8⟩
 have z9 := m8.size
 have hf := hf.step0 m8
 have h2 := h2.keep m8 id
 obtain ⟨aq5, cq5, rfl⟩ := L5.form
 refine sv (xbuildS [[.slice aq5 r.pairs.length cq5]] zr218 ly218 rfl (by simp [fitAll, zs218, Value.cells]) rfl) ?_
 refine suK (xstW h2 (lens' := [1]) sz218 rfl rfl rfl rfl rfl) ?_
 rintro w11 ⟨m12, h2, s10⟩
 have hf := hf.step m12 (fun k hk hS => by have hS : k = b2 := hS; show False; omega)
 have L5 := L5.keep pair_st (lB hU (by omega) (by omega)) m12 (fun k hk hS => by have hk := Ub.num hU hk; have hS : k = b2 := hS; omega)
 refine send (fg [(2, _)] ⟨rfl, ⟨⟩⟩ fun _ => (wp_ret ?_))
 refine rp1 rfl ⟨_, rfl, ldS (lens := [1]) ro218 h2.r⟩ ?_
 exact ⟨_, rfl, L5.mono pair_gr (fun k hk => hk.elim .inl (fun h => .inr ⟨by omega, by omega⟩)), hf⟩
set_option maxHeartbeats 4000000 in
set_option maxRecDepth 100000 in
theorem c137 {w : World} {U : Nat → Prop} (hU : ∀ k, U k → k < w.heap.size) {r : RecD} {vd vt vp : Value} (hp : LA PairEl lPair U w vp r.pairs) (hn : r.pairs.length ≤ 1048576) (hpl : ∀ p ∈ r.pairs, p.data.length ≤ 1048576) (hs : r.host.size ≤ 255)  :
  Ret PP 137 [ag (recSegs r vd vt vp)] w (fun u w' => ∃ v, u = ag [[.int .u16 ((r.n1.toNat % 65536 : Nat) : Int)], nm (bt r.host), [v]] ∧ LA PairEl lPair (Ub U w w') w' v r.pairs ∧ Fr0 w w') := by
 obtain ⟨ap0, cp0, rfl⟩ := hp.form
 have hf : Fr (fun _ => False) w w := Fr.refl _ _
 refine ret_of Tryz.func137 rfl rfl rfl [(0, _)] rfl ?_
 refine sreg ?_
 refine svK (xboxS (lens := lRec) rfl rfl) ?_
 rintro _ w2 ⟨b1, rfl, m3, h1, e1, s1⟩
 have hp := hp.keep pair_st (lU hU (by omega)) m3 nF
 have hf := hf.step0 m3
 refine svK (xallS (lens := [1, 256, 1]) in224 (by simp [nm_length])) ?_
 rintro _ w5 ⟨b2, rfl, m6, h2, e4, s4⟩
 have hp := hp.keep pair_st (lU hU (by omega)) m6 nF
 have hf := hf.step0 m6
 have h1 := h1.keep m6 id
 refine send (fg [(1, _), (2, _)] ⟨rfl, rfl, ⟨⟩⟩ fun _ => ?_)
 refine sdraw (Fr (fun _ => False) w5.drew) [(0, .rd), (1, .rd), (2, .rd), (3, .rd), (4, .rd), (6, .rd), (7, .rd), (5, .ld), (8, .ld), (9, .rd), (10, .bh)] mixed (by kernel_rfl) (fun _ _ _ _ _ h => h) ?_
 have z7 : w5.drew.heap.size = w5.heap.size := rfl
 have hp := hp.keep pair_st (lU hU (by omega)) (Fr.drew (Fr.refl (fun _ => False) w5)) nF
 have hf := hf.drew
 have h1 := h1.drew
 have h2 := h2.drew
 have hS8 : Fr (fun _ => False) w5.drew w5.drew := Fr.refl _ _
 refine hv rfl (fun _ _ => xfld fl112_9 rfl) hS8 (hv rfl (fun w' hS => xld on61 rfl ((h1.keep hS id).r.c 9 rfl rfl)) hS8 (hv rfl (fun _ _ => xconv hs61 ki22 rfl (wu16n (r.n1.toNat % 65536) (by omega))) hS8 (hv rfl (fun _ _ => xfld fl112_7 rfl) hS8 (hv rfl (fun w' hS => xld on9 rfl ((h1.keep hS id).r.c 7 rfl rfl)) hS8 (hv rfl (fun _ _ => xfld fl112_15 rfl) hS8 (hv rfl (fun w' hS => xld on110 rfl ((h1.keep hS id).r.c 15 rfl rfl)) hS8 ?_))))))
 refine hc rfl (xcall ca89 rfl) (c89 (by omega)) ?_
 rintro _ w9 ⟨rfl, m10⟩
 have z11 := m10.size
 have hp := hp.keep pair_st (lU hU (by omega)) m10 nF
 have hf := hf.step0 m10
 have h2 := h2.keep m10 id
 have hS12 := hS8.step0 m10
 refine ⟨hS12, ?_⟩
 refine hc rfl (xcall ca186 rfl) (c186 (U := U) (lU hU (by omega)) hp (by omega) hpl) ?_
 rintro v11 w13 ⟨L11, m14⟩
 have z15 := m14.size
 have hf := hf.step0 m14
 have h2 := h2.keep m14 id
 have hS16 := hS12.step0 m14
 obtain ⟨aq11, cq11, rfl⟩ := L11.form
 refine ⟨hS16, ?_⟩
 refine hv rfl (fun _ _ => xbuildS [[.int .u16 ((r.n1.toNat % 65536 : Nat) : Int)], nm (bt r.host), [.slice aq11 r.pairs.length cq11]] zr224 ly224 rfl (by simp [fitAll, zs224, Value.cells, nm_length]) (by simp [setAll, zs224, Value.cells])) hS16 ?_
 refine bluK rfl (xstW h2 (lens' := [1, 256, 1]) sz224 (by simp [nm_length]) rfl (by simp only [List.flatten_cons, List.flatten_nil, List.all_append, List.append_nil, nm_one, Bool.true_and] <;> rfl) rfl rfl) ?_
 rintro w18 ⟨m19, h2, s17⟩
 have hf := hf.step m19 (fun k hk hS => by have hS : k = b2 := hS; show False; omega)
 have L11 := L11.keep pair_st (lB hU (by omega) (by omega)) m19 (fun k hk hS => by have hk := Ub.num hU hk; have hS : k = b2 := hS; omega)
 refine hend (fg [(2, _)] ⟨rfl, ⟨⟩⟩ fun _ => (wp_ret ?_))
 refine rp1 rfl ⟨_, rfl, ldS (lens := [1, 256, 1]) ro224 h2.r⟩ ?_
 exact ⟨_, rfl, L11.mono pair_gr (fun k hk => hk.elim .inl (fun h => .inr ⟨by omega, by omega⟩)), hf⟩
set_option maxHeartbeats 4000000 in
set_option maxRecDepth 100000 in
theorem c139 {w : World} {U : Nat → Prop} (hU : ∀ k, U k → k < w.heap.size) {r : RecD} {vd vt vp : Value} (hp : LA PairEl lPair U w vp r.pairs) (hn : r.pairs.length ≤ 1048576) (hpl : ∀ p ∈ r.pairs, p.data.length ≤ 1048576) (hs : r.host.size ≤ 255)  :
  Ret PP 139 [ag (recSegs r vd vt vp)] w (fun u w' => ∃ v, u = ag [[.int .u16 ((r.n1.toNat % 65536 : Nat) : Int)], nm (bt r.host), [v]] ∧ LA PairEl lPair (Ub U w w') w' v r.pairs ∧ Fr0 w w') := by
 obtain ⟨ap0, cp0, rfl⟩ := hp.form
 have hf : Fr (fun _ => False) w w := Fr.refl _ _
 refine ret_of Tryz.func139 rfl rfl rfl [(0, _)] rfl ?_
 refine sreg ?_
 refine svK (xboxS (lens := lRec) rfl rfl) ?_
 rintro _ w2 ⟨b1, rfl, m3, h1, e1, s1⟩
 have hp := hp.keep pair_st (lU hU (by omega)) m3 nF
 have hf := hf.step0 m3
 refine svK (xallS (lens := [1, 256, 1]) in228 (by simp [nm_length])) ?_
 rintro _ w5 ⟨b2, rfl, m6, h2, e4, s4⟩
 have hp := hp.keep pair_st (lU hU (by omega)) m6 nF
 have hf := hf.step0 m6
 have h1 := h1.keep m6 id
 refine send (fg [(1, _), (2, _)] ⟨rfl, rfl, ⟨⟩⟩ fun _ => (sreg (sv (xldS (lens := lRec) ro112 rfl h1.r) ?_)))
 refine sc (xcall ca137 rfl) (c137 (U := U) (lU hU (by omega)) hp (by omega) hpl hs) ?_
 rintro _ w7 ⟨v4, rfl, L4, m8⟩
 have z9 := m8.size
 have hf := hf.step0 m8
 have h2 := h2.keep m8 id
 obtain ⟨aq4, cq4, rfl⟩ := L4.form
 refine sv (xbuildS [[.int .u16 ((r.n1.toNat % 65536 : Nat) : Int)], nm (bt r.host), [.slice aq4 r.pairs.length cq4]] zr228 ly228 rfl (by simp [fitAll, zs228, Value.cells, nm_length]) (by simp [setAll, zs228, Value.cells])) ?_
 refine suK (xstW h2 (lens' := [1, 256, 1]) sz228 (by simp [nm_length]) rfl (by simp only [List.flatten_cons, List.flatten_nil, List.all_append, List.append_nil, nm_one, Bool.true_and] <;> rfl) rfl rfl) ?_
 rintro w11 ⟨m12, h2, s10⟩
 have hf := hf.step m12 (fun k hk hS => by have hS : k = b2 := hS; show False; omega)
 have L4 := L4.keep pair_st (lB hU (by omega) (by omega)) m12 (fun k hk hS => by have hk := Ub.num hU hk; have hS : k = b2 := hS; omega)
 refine send (fg [(2, _)] ⟨rfl, ⟨⟩⟩ fun _ => (wp_ret ?_))
 refine rp1 rfl ⟨_, rfl, ldS (lens := [1, 256, 1]) ro228 h2.r⟩ ?_
 exact ⟨_, rfl, L4.mono pair_gr (fun k hk => hk.elim .inl (fun h => .inr ⟨by omega, by omega⟩)), hf⟩
set_option maxHeartbeats 4000000 in
set_option maxRecDepth 100000 in
theorem c141 {w : World} {U : Nat → Prop} (hU : ∀ k, U k → k < w.heap.size) {r : RecD} {vd vt vp : Value} (hd : BA U w vd r.data) (hn : r.data.length ≤ 1048576) :
  Ret PP 141 [ag (recSegs r vd vt vp)] w (fun u w' => ∃ v, u = ag [[.int .u16 (r.typ.toNat : Int)], [v]] ∧ BA (Ub U w w') w' v r.data ∧ Fr0 w w') := by
 obtain ⟨ad0, cd0, rfl, -⟩ := id hd
 have hf : Fr (fun _ => False) w w := Fr.refl _ _
 refine ret_of Tryz.func141 rfl rfl rfl [(0, _)] rfl ?_
 refine sreg ?_
 refine svK (xboxS (lens := lRec) rfl rfl) ?_
 rintro _ w2 ⟨b1, rfl, m3, h1, e1, s1⟩
 have hd := hd.keep (lU hU (by omega)) m3 nF
 have hf := hf.step0 m3
 refine svK (xallS (lens := [1, 1]) in231 rfl) ?_
 rintro _ w5 ⟨b2, rfl, m6, h2, e4, s4⟩
 have hd := hd.keep (lU hU (by omega)) m6 nF
 have hf := hf.step0 m6
 have h1 := h1.keep m6 id
 refine send (fg [(1, _), (2, _)] ⟨rfl, rfl, ⟨⟩⟩ fun _ => ?_)
 refine sdraw (Fr (fun _ => False) w5.drew) [(0, .rd), (1, .rd), (3, .rd), (4, .rd), (2, .ld), (5, .ld), (6, .rd), (7, .bh)] mixed (by kernel_rfl) (fun _ _ _ _ _ h => h) ?_
 have z7 : w5.drew.heap.size = w5.heap.size := rfl
 have hd := hd.keep (lU hU (by omega)) (Fr.drew (Fr.refl (fun _ => False) w5)) nF
 have hf := hf.drew
 have h1 := h1.drew
 have h2 := h2.drew
 have hS8 : Fr (fun _ => False) w5.drew w5.drew := Fr.refl _ _
 refine hv rfl (fun _ _ => xfld fl112_1 rfl) hS8 (hv rfl (fun w' hS => xld on22 rfl ((h1.keep hS id).r.c 1 rfl rfl)) hS8 (hv rfl (fun _ _ => xfld fl112_6 rfl) hS8 (hv rfl (fun w' hS => xld on37 rfl ((h1.keep hS id).r.c 6 rfl rfl)) hS8 ?_)))
 refine hlK rfl (xslit (bvs []) sl37 in5 rfl (by decide) rfl rfl rfl rfl (by decide) rfl (bvs_one _)) ?_
 rintro _ w10 ⟨b5, rfl, m11, h5, e5, s5, r5⟩
 have hd := hd.keep (lU hU (by omega)) m11 nF
 have hf := hf.step0 m11
 have h2 := h2.keep m11 id
 have hS12 := hS8.step0 m11
 refine ⟨hS12, ?_⟩
 refine hlK rfl (xapp sl37 in5 rfl (by decide) rfl rfl r5 (hd.src sl37) (by simp only [maxLen]; omega) (by omega)) ?_
 rintro _ w13 ⟨g8, r8, m14, a8, l8⟩
 have z15 := m14.size
 have hf := hf.step m14 (fun k hk hS => by have hS : k = b5 := hS; show False; omega)
 have h2 := h2.keep m14 (by show ¬ (b2 = b5); omega)
 have hS16 := hS12.step m14 (fun k hk hS => by have hS : k = b5 := hS; show False; omega)
 obtain ⟨p8, q8, rfl, -⟩ := r8.form
 refine ⟨hS16, ?_⟩
 refine hv rfl (fun _ _ => xbuildS [[.int .u16 (r.typ.toNat : Int)], [.slice p8 (0 + r.data.length) q8]] zr231 ly231 rfl (by simp [fitAll, zs231, Value.cells]) rfl) hS16 ?_
 refine bluK rfl (xstW h2 (lens' := [1, 1]) sz231 rfl rfl rfl rfl rfl) ?_
 rintro w18 ⟨m19, h2, s17⟩
 have hf := hf.step m19 (fun k hk hS => by have hS : k = b2 := hS; show False; omega)
 have r8 := r8.keep m19 (by show ¬ (g8 = b2); omega)
 refine hend (fg [(2, _)] ⟨rfl, ⟨⟩⟩ fun _ => (wp_ret ?_))
 refine rp1 rfl ⟨_, rfl, ldS (lens := [1, 1]) ro231 h2.r⟩ ?_
 exact ⟨_, rfl, BR.ba (show BR _ _ _ _ r.data from r8) (.inr ⟨by omega, by omega⟩), hf⟩
end Go.Proofs.YtifnodoffgfpbaaGreatDoor

namespace Go.Proofs.YtifnodoffgfpbaaGreatDoor
open Go

def strs (ts : List ByteArray) : List Value := ts.map Value.string
theorem strs_one (ts : List ByteArray) : (strs ts).all (·.oneCell') = true := by
  rw [List.all_eq_true]; intro v hv
  obtain ⟨_, _, rfl⟩ := List.mem_map.1 hv
  rfl
theorem LA.strs {U : Nat → Prop} {w : World} {v : Value} {ts : List ByteArray} {T : Nat} (h : LA TextEl [1] U w v ts) (hT : slcB PP T 9 = true) : Src PP 1 T v ts.length (strs ts) w := by
  obtain ⟨a, c, rfl, h⟩ := h
  by_cases ht : ts = []
  · subst ht
    cases a with
    | none => exact Src.ofNil w (slcB_spec hT) c
    | some a => exact Src.ofSlice w (slcB_spec hT) a 0 c [] rfl (fun j u h => by simp at h) (fun u h => by cases h)
  · obtain ⟨b, o, rfl, _, hr⟩ := h ht
    refine src_rng hT (by simp [YtifnodoffgfpbaaGreatDoor.strs]) (fun j u hu => ?_) (strs_one _)
    simp only [YtifnodoffgfpbaaGreatDoor.strs, List.getElem?_map, Option.map_eq_some_iff] at hu
    obtain ⟨s, hs, rfl⟩ := hu
    obtain ⟨segs, hsr, rfl⟩ := hr j s hs
    have := hsr.c 0 rfl rfl
    simpa using this
theorem strs_flat : ∀ ts : List ByteArray, ((ts.map (fun s => [[Value.string s]])).map List.flatten).flatten = strs ts
  | [] => rfl
  | t :: ts => congrArg (Value.string t :: ·) (strs_flat ts)
theorem RA.texts {U : Nat → Prop} {w : World} {v : Value} {g n : Nat} {ts : List ByteArray} (h : Rw w v g 9 1 n (strs ts)) : RA TextEl [1] U w v g 9 n ts := by
  refine ⟨ts.map (fun s => [[Value.string s]]), ?_, ⟨by simp, fun i a b ha hb => ?_⟩⟩
  · rw [strs_flat]; exact h
  · simp only [List.getElem?_map, Option.map_eq_some_iff] at ha
    obtain ⟨s, hs, rfl⟩ := ha
    rw [hs] at hb
    simp only [Option.some.injEq] at hb
    subst hb
    exact ⟨rfl, rfl⟩

set_option maxHeartbeats 4000000 in
set_option maxRecDepth 100000 in
theorem c129 {w : World} {U : Nat → Prop} (hU : ∀ k, U k → k < w.heap.size) {r : RecD} {vd vt vp : Value} (ht : LA TextEl [1] U w vt r.texts) (hn : r.texts.length ≤ 1048576) :
  Ret PP 129 [ag (recSegs r vd vt vp)] w (fun u w' => ∃ v, u = ag [[v]] ∧ LA TextEl [1] (Ub U w w') w' v r.texts ∧ Fr0 w w') := by
 obtain ⟨at0, ct0, rfl⟩ := ht.form
 have hf : Fr (fun _ => False) w w := Fr.refl _ _
 refine ret_of Tryz.func129 rfl rfl rfl [(0, _)] rfl ?_
 refine sreg ?_
 refine svK (xboxS (lens := lRec) rfl rfl) ?_
 rintro _ w2 ⟨b1, rfl, m3, h1, e1, s1⟩
 have ht := ht.keep text_st (lU hU (by omega)) m3 nF
 have hf := hf.step0 m3
 refine svK (xallS (lens := [1]) in207 rfl) ?_
 rintro _ w5 ⟨b2, rfl, m6, h2, e4, s4⟩
 have ht := ht.keep text_st (lU hU (by omega)) m6 nF
 have hf := hf.step0 m6
 have h1 := h1.keep m6 id
 refine send (fg [(1, _), (2, _)] ⟨rfl, rfl, ⟨⟩⟩ fun _ => (sreg ?_))
 refine svK (xslit ([]) sl62 in9 rfl (by decide) rfl rfl rfl rfl (by decide) rfl rfl) ?_
 rintro _ w8 ⟨b3, rfl, m9, h3, e3, s3, r3⟩
 have ht := ht.keep text_st (lU hU (by omega)) m9 nF
 have hf := hf.step0 m9
 have h1 := h1.keep m9 id
 have h2 := h2.keep m9 id
 refine sv (xfld fl112_14 rfl) (sv (xld on62 rfl (h1.r.c 14 rfl rfl)) ?_)
 refine svK (xapp sl62 in9 rfl (by decide) rfl rfl r3 (LA.strs ht sl62) (by simp only [maxLen]; omega) (by omega)) ?_
 rintro _ w10 ⟨g6, r6, m11, a6, l6⟩
 have z12 := m11.size
 have hf := hf.step m11 (fun k hk hS => by have hS : k = b3 := hS; show False; omega)
 have h2 := h2.keep m11 (by show ¬ (b2 = b3); omega)
 obtain ⟨p6, q6, rfl, -⟩ := r6.form
 refine sv (xbuildS [[.slice p6 (0 + r.texts.length) q6]] zr207 ly207 rfl (by simp [fitAll, zs207, Value.cells]) rfl) ?_
 refine suK (xstW h2 (lens' := [1]) sz207 rfl rfl rfl rfl rfl) ?_
 rintro w14 ⟨m15, h2, s13⟩
 have hf := hf.step m15 (fun k hk hS => by have hS : k = b2 := hS; show False; omega)
 have r6 := r6.keep m15 (by show ¬ (g6 = b2); omega)
 refine send (fg [(2, _)] ⟨rfl, ⟨⟩⟩ fun _ => (wp_ret ?_))
 refine rp1 rfl ⟨_, rfl, ldS (lens := [1]) ro207 h2.r⟩ ?_
 exact ⟨_, rfl, RA.la (RA.texts (U := fun _ => False) (show Rw _ _ _ _ _ _ (strs r.texts) from r6)) (by decide) text_gr (fun _ h => h.elim) (.inr ⟨by omega, by omega⟩), hf⟩
end Go.Proofs.YtifnodoffgfpbaaGreatDoor

namespace Go.Proofs.YtifnodoffgfpbaaGreatDoor
open Go

/-- the parts of a body, by its kind; T: the type of a pointer to it -/
inductive BodySegs (U : Nat → Prop) (w : World) (r : RecD) : TypeId → List Nat → List (List Value) → Prop
  | a (h : r.kind = 1) : BodySegs U w r 186 [4] [bvs (fixedL r.data 4)]
  | ns (h : r.kind = 2) : BodySegs U w r 190 [256] [nm (bt r.host)]
  | cname (h : r.kind = 3) : BodySegs U w r 193 [256] [nm (bt r.host)]
  | soa (h : r.kind = 4) : BodySegs U w r 196 [256, 256, 1, 1, 1, 1, 1] [nm (bt r.host), nm (bt r.box), [.int .u32 (r.n1.toNat : Int)], [.int .u32 (r.n2.toNat : Int)], [.int .u32 (r.n3.toNat : Int)], [.int .u32 (r.n4.toNat : Int)], [.int .u32 (r.n5.toNat : Int)]]
  | ptr (h : r.kind = 5) : BodySegs U w r 199 [256] [nm (bt r.host)]
  | mx (h : r.kind = 6) : BodySegs U w r 202 [1, 256] [[.int .u16 ((r.n1.toNat % 65536 : Nat) : Int)], nm (bt r.host)]
  | txt {v : Value} (h : r.kind = 7) (ht : LA TextEl [1] U w v r.texts) : BodySegs U w r 205 [1] [[v]]
  | aaaa (h : r.kind = 8) : BodySegs U w r 208 [16] [bvs (fixedL r.data 16)]
  | srv (h : r.kind = 9) : BodySegs U w r 212 [1, 1, 1, 256] [[.int .u16 ((r.n1.toNat % 65536 : Nat) : Int)], [.int .u16 ((r.n2.toNat % 65536 : Nat) : Int)], [.int .u16 ((r.n3.toNat % 65536 : Nat) : Int)], nm (bt r.host)]
  | opt {v : Value} (h : r.kind = 10) (hp : LA PairEl lPair U w v r.pairs) : BodySegs U w r 215 [1] [[v]]
  | svcb {v : Value} (h : r.kind = 11) (hp : LA PairEl lPair U w v r.pairs) : BodySegs U w r 221 [1, 256, 1] [[.int .u16 ((r.n1.toNat % 65536 : Nat) : Int)], nm (bt r.host), [v]]
  | https {v : Value} (h : r.kind = 12) (hp : LA PairEl lPair U w v r.pairs) : BodySegs U w r 226 [1, 256, 1] [[.int .u16 ((r.n1.toNat % 65536 : Nat) : Int)], nm (bt r.host), [v]]
  | other {v : Value} (h : r.kind = 13) (hd : BA U w v r.data) : BodySegs U w r 229 [1, 1] [[.int .u16 ((typeN r).toNat : Int)], [v]]
theorem BodySegs.keep {U S : Nat → Prop} {w w' : World} {r : RecD} {T : TypeId} {lens : List Nat} {segs : List (List Value)} (h : BodySegs U w r T lens segs) (hU : ∀ k, U k → k < w.heap.size) (m : Fr S w w') (hn : ∀ k, U k → ¬ S k) : BodySegs U w' r T lens segs := by
  cases h with
  | a h => exact .a h
  | ns h => exact .ns h
  | cname h => exact .cname h
  | soa h => exact .soa h
  | ptr h => exact .ptr h
  | mx h => exact .mx h
  | txt h ht => exact .txt h (ht.keep text_st hU m hn)
  | aaaa h => exact .aaaa h
  | srv h => exact .srv h
  | opt h hp => exact .opt h (hp.keep pair_st hU m hn)
  | svcb h hp => exact .svcb h (hp.keep pair_st hU m hn)
  | https h hp => exact .https h (hp.keep pair_st hU m hn)
  | other h hd => exact .other h (hd.keep hU m hn)
theorem BodySegs.mono {U U' : Nat → Prop} {w : World} {r : RecD} {T : TypeId} {lens : List Nat} {segs : List (List Value)} (h : BodySegs U w r T lens segs) (hU : ∀ k, U k → U' k) : BodySegs U' w r T lens segs := by
  cases h with
  | a h => exact .a h
  | ns h => exact .ns h
  | cname h => exact .cname h
  | soa h => exact .soa h
  | ptr h => exact .ptr h
  | mx h => exact .mx h
  | txt h ht => exact .txt h (ht.mono text_gr hU)
  | aaaa h => exact .aaaa h
  | srv h => exact .srv h
  | opt h hp => exact .opt h (hp.mono pair_gr hU)
  | svcb h hp => exact .svcb h (hp.mono pair_gr hU)
  | https h hp => exact .https h (hp.mono pair_gr hU)
  | other h hd => exact .other h (hd.mono hU)
/-- a body behind an interface -/
def BodyEl (U : Nat → Prop) (w : World) (v : Value) (r : RecD) : Prop := ∃ b T lens segs, v = .iface T (.pointer (some ⟨b, 0, none⟩)) ∧ U b ∧ SR w b 0 lens segs ∧ BodySegs U w r T lens segs
theorem BodyEl.keep {U S : Nat → Prop} {w w' : World} {v : Value} {r : RecD} (h : BodyEl U w v r) (hU : ∀ k, U k → k < w.heap.size) (m : Fr S w w') (hn : ∀ k, U k → ¬ S k) : BodyEl U w' v r := by
  obtain ⟨b, T, lens, segs, rfl, hb, hs, h⟩ := h
  exact ⟨b, T, lens, segs, rfl, hb, hs.keep m (hU b hb) (hn b hb), h.keep hU m hn⟩
theorem BodyEl.mono {U U' : Nat → Prop} {w : World} {v : Value} {r : RecD} (h : BodyEl U w v r) (hU : ∀ k, U k → U' k) : BodyEl U' w v r := by
  obtain ⟨b, T, lens, segs, rfl, hb, hs, h⟩ := h
  exact ⟨b, T, lens, segs, rfl, hU b hb, hs, h.mono hU⟩
/-- bodies whose names fit -/
def FitB (r : RecD) : Prop := (r.kind = 2 ∨ r.kind = 3 ∨ r.kind = 5 ∨ r.kind = 6 ∨ r.kind = 9 ∨ r.kind = 11 ∨ r.kind = 12 ∨ r.kind = 4 → r.host.size ≤ 255) ∧ (r.kind = 4 → r.box.size ≤ 255) ∧
  r.data.length ≤ 1048576 ∧ r.texts.length ≤ 1048576 ∧ r.pairs.length ≤ 1048576 ∧ ∀ p ∈ r.pairs, p.data.length ≤ 1048576
/-- a resource: its header's cells, and its body -/
def ResEl (U : Nat → Prop) (w : World) (segs : List (List Value)) (r : RecD) : Prop := ∃ (typ : UInt16) (len : Nat) (vb : Value), len < 65536 ∧ segs = rhSegs (bt r.name) typ r.cls r.ttl len ++ [[vb]] ∧ BodyEl U w vb r
abbrev lRes : List Nat := [256, 1, 1, 1, 1, 1]
theorem res_st : Stays ResEl := fun _ _ _ _ _ _ ⟨t, n, v, h0, h1, h2⟩ hU m hn => ⟨t, n, v, h0, h1, h2.keep hU m hn⟩
theorem res_gr : Grows ResEl := fun _ _ _ _ _ ⟨t, n, v, h0, h1, h2⟩ hU => ⟨t, n, v, h0, h1, h2.mono hU⟩

set_option maxHeartbeats 4000000 in
set_option maxRecDepth 100000 in
theorem c88 {w : World} {U : Nat → Prop} (hU : ∀ k, U k → k < w.heap.size) {r : RecD} {vd vt vp : Value} (hd : BA U w vd r.data) (ht : LA TextEl [1] U w vt r.texts) (hp : LA PairEl lPair U w vp r.pairs) (hk1 : 1 ≤ r.kind) (hk13 : r.kind ≤ 13) (hfit : FitB r) :
  Ret PP 88 [ag (recSegs r vd vt vp)] w (fun u w' => BodyEl (Ub U w w') w' u r ∧ Fr0 w w') := by
 obtain ⟨at0, ct0, rfl⟩ := ht.form
 obtain ⟨ap0, cp0, rfl⟩ := hp.form
 obtain ⟨ad0, cd0, rfl, -⟩ := id hd
 have hf : Fr (fun _ => False) w w := Fr.refl _ _
 refine ret_of Tryz.func88 rfl rfl rfl [(0, _)] rfl ?_
 refine sreg ?_
 refine svK (xboxS (lens := lRec) rfl rfl) ?_
 rintro _ w2 ⟨b1, rfl, m3, h1, e1, s1⟩
 have hd := hd.keep (lU hU (by omega)) m3 nF
 have ht := ht.keep text_st (lU hU (by omega)) m3 nF
 have hp := hp.keep pair_st (lU hU (by omega)) m3 nF
 have hf := hf.step0 m3
 refine sv (xassign rfl) (send (fg [(1, _)] ⟨rfl, ⟨⟩⟩ fun _ => (wp_seq (sreg (sv (xfld fl112_5 rfl) (sv (xld on3 rfl (h1.r.c 5 rfl rfl)) (send (fg [(1, _), (17, _)] ⟨rfl, rfl, ⟨⟩⟩ fun _ => (wp_block (sreg ?_))))))))))
 refine svP (xeql rfl rfl) (fun hc19 => ?_) (fun hc19 => ?_)
 ·
  refine sv (xassign rfl) (send (fg [(1, _), (17, _), (18, _)] ⟨rfl, rfl, rfl, ⟨⟩⟩ fun _ => (cyes rfl (sreg (sv (xldS (lens := lRec) ro112 rfl h1.r) ?_)))))
  refine sc (xcall ca117 rfl) (c117 (U := U) (lU hU (by omega)) hd) ?_
  rintro _ w4 ⟨rfl, m5⟩
  have z6 := m5.size
  have hd := hd.keep (lU hU (by omega)) m5 nF
  have ht := ht.keep text_st (lU hU (by omega)) m5 nF
  have hp := hp.keep pair_st (lU hU (by omega)) m5 nF
  have hf := hf.step0 m5
  have h1 := h1.keep m5 id
  refine svK (xallS (lens := [4]) in189 (by simp [bvs_length])) ?_
  rintro _ w8 ⟨b3, rfl, m9, h3, e7, s7⟩
  have hd := hd.keep (lU hU (by omega)) m9 nF
  have ht := ht.keep text_st (lU hU (by omega)) m9 nF
  have hp := hp.keep pair_st (lU hU (by omega)) m9 nF
  have hf := hf.step0 m9
  have h1 := h1.keep m9 id
  refine suK (xstW h3 (lens' := [4]) sz189 (by simp [bvs_length, fixedL_length]) rfl (by simp only [List.flatten_cons, List.flatten_nil, List.append_nil, bvs_one] <;> rfl) rfl rfl) ?_
  rintro w11 ⟨m12, h3, s10⟩
  have hd := hd.keep (lU hU (by omega)) m12 (fun k hk hS => by have hk := hU k hk; have hS : k = b3 := hS; omega)
  have ht := ht.keep text_st (lU hU (by omega)) m12 (fun k hk hS => by have hk := hU k hk; have hS : k = b3 := hS; omega)
  have hp := hp.keep pair_st (lU hU (by omega)) m12 (fun k hk hS => by have hk := hU k hk; have hS : k = b3 := hS; omega)
  have hf := hf.step m12 (fun k hk hS => by have hS : k = b3 := hS; show False; omega)
  have h1 := h1.keep m12 (by show ¬ (b1 = b3); omega)
  refine send (fg [(3, _)] ⟨rfl, ⟨⟩⟩ fun _ => (sreg (sv (xmkif ni186 rfl) (sv (xassign rfl) (send (fg [(2, _)] ⟨rfl, ⟨⟩⟩ fun _ => (wp_ret (rBlock (rThen ?_)))))))))
  refine rp1 rfl rfl ?_
  exact ⟨⟨b3, _, _, _, rfl, .inr ⟨by omega, by omega⟩, h3.r, .a (by omega)⟩, hf⟩
 ·
  refine sv (xassign rfl) (send (fg [(1, _), (17, _), (18, _)] ⟨rfl, rfl, rfl, ⟨⟩⟩ fun _ => (cno rfl (sreg ?_))))
  refine svP (xeql rfl rfl) (fun hc24 => ?_) (fun hc24 => ?_)
  ·
   refine sv (xassign rfl) (send (fg [(1, _), (17, _), (23, _)] ⟨rfl, rfl, rfl, ⟨⟩⟩ fun _ => (cyes rfl (sreg (sv (xldS (lens := lRec) ro112 rfl h1.r) ?_)))))
   refine sc (xcall ca119 rfl) (c119 (hfit.1 (by omega))) ?_
   rintro _ w13 ⟨rfl, m14⟩
   have z15 := m14.size
   have hd := hd.keep (lU hU (by omega)) m14 nF
   have ht := ht.keep text_st (lU hU (by omega)) m14 nF
   have hp := hp.keep pair_st (lU hU (by omega)) m14 nF
   have hf := hf.step0 m14
   have h1 := h1.keep m14 id
   refine svK (xallS (lens := [256]) in192 (by simp [nm_length])) ?_
   rintro _ w17 ⟨b4, rfl, m18, h4, e16, s16⟩
   have hd := hd.keep (lU hU (by omega)) m18 nF
   have ht := ht.keep text_st (lU hU (by omega)) m18 nF
   have hp := hp.keep pair_st (lU hU (by omega)) m18 nF
   have hf := hf.step0 m18
   have h1 := h1.keep m18 id
   refine suK (xstW h4 (lens' := [256]) sz192 (by simp [nm_length]) rfl (by simp only [List.flatten_cons, List.flatten_nil, List.append_nil, nm_one] <;> rfl) rfl rfl) ?_
   rintro w20 ⟨m21, h4, s19⟩
   have hd := hd.keep (lU hU (by omega)) m21 (fun k hk hS => by have hk := hU k hk; have hS : k = b4 := hS; omega)
   have ht := ht.keep text_st (lU hU (by omega)) m21 (fun k hk hS => by have hk := hU k hk; have hS : k = b4 := hS; omega)
   have hp := hp.keep pair_st (lU hU (by omega)) m21 (fun k hk hS => by have hk := hU k hk; have hS : k = b4 := hS; omega)
   have hf := hf.step m21 (fun k hk hS => by have hS : k = b4 := hS; show False; omega)
   have h1 := h1.keep m21 (by show ¬ (b1 = b4); omega)
   refine send (fg [(4, _)] ⟨rfl, ⟨⟩⟩ fun _ => (sreg (sv (xmkif ni190 rfl) (sv (xassign rfl) (send (fg [(2, _)] ⟨rfl, ⟨⟩⟩ fun _ => (wp_ret (rBlock (rThen ?_)))))))))
   refine rp1 rfl rfl ?_
   exact ⟨⟨b4, _, _, _, rfl, .inr ⟨by omega, by omega⟩, h4.r, .ns (by omega)⟩, hf⟩
  ·
   refine sv (xassign rfl) (send (fg [(1, _), (17, _), (23, _)] ⟨rfl, rfl, rfl, ⟨⟩⟩ fun _ => (cno rfl (sreg ?_))))
   refine svP (xeql rfl rfl) (fun hc29 => ?_) (fun hc29 => ?_)
   ·
    refine sv (xassign rfl) (send (fg [(1, _), (17, _), (28, _)] ⟨rfl, rfl, rfl, ⟨⟩⟩ fun _ => (cyes rfl (sreg (sv (xldS (lens := lRec) ro112 rfl h1.r) ?_)))))
    refine sc (xcall ca121 rfl) (c121 (hfit.1 (by omega))) ?_
    rintro _ w22 ⟨rfl, m23⟩
    have z24 := m23.size
    have hd := hd.keep (lU hU (by omega)) m23 nF
    have ht := ht.keep text_st (lU hU (by omega)) m23 nF
    have hp := hp.keep pair_st (lU hU (by omega)) m23 nF
    have hf := hf.step0 m23
    have h1 := h1.keep m23 id
    refine svK (xallS (lens := [256]) in195 (by simp [nm_length])) ?_
    rintro _ w26 ⟨b5, rfl, m27, h5, e25, s25⟩
    have hd := hd.keep (lU hU (by omega)) m27 nF
    have ht := ht.keep text_st (lU hU (by omega)) m27 nF
    have hp := hp.keep pair_st (lU hU (by omega)) m27 nF
    have hf := hf.step0 m27
    have h1 := h1.keep m27 id
    refine suK (xstW h5 (lens' := [256]) sz195 (by simp [nm_length]) rfl (by simp only [List.flatten_cons, List.flatten_nil, List.append_nil, nm_one] <;> rfl) rfl rfl) ?_
    rintro w29 ⟨m30, h5, s28⟩
    have hd := hd.keep (lU hU (by omega)) m30 (fun k hk hS => by have hk := hU k hk; have hS : k = b5 := hS; omega)
    have ht := ht.keep text_st (lU hU (by omega)) m30 (fun k hk hS => by have hk := hU k hk; have hS : k = b5 := hS; omega)
    have hp := hp.keep pair_st (lU hU (by omega)) m30 (fun k hk hS => by have hk := hU k hk; have hS : k = b5 := hS; omega)
    have hf := hf.step m30 (fun k hk hS => by have hS : k = b5 := hS; show False; omega)
    have h1 := h1.keep m30 (by show ¬ (b1 = b5); omega)
    refine send (fg [(5, _)] ⟨rfl, ⟨⟩⟩ fun _ => (sreg (sv (xmkif ni193 rfl) (sv (xassign rfl) (send (fg [(2, _)] ⟨rfl, ⟨⟩⟩ fun _ => (wp_ret (rBlock (rThen ?_)))))))))
    refine rp1 rfl rfl ?_
    exact ⟨⟨b5, _, _, _, rfl, .inr ⟨by omega, by omega⟩, h5.r, .cname (by omega)⟩, hf⟩
   ·
    refine sv (xassign rfl) (send (fg [(1, _), (17, _), (28, _)] ⟨rfl, rfl, rfl, ⟨⟩⟩ fun _ => (cno rfl (sreg ?_))))
    refine svP (xeql rfl rfl) (fun hc34 => ?_) (fun hc34 => ?_)
    ·
     refine sv (xassign rfl) (send (fg [(1, _), (17, _), (33, _)] ⟨rfl, rfl, rfl, ⟨⟩⟩ fun _ => (cyes rfl (sreg (sv (xldS (lens := lRec) ro112 rfl h1.r) ?_)))))
     refine sc (xcall ca123 rfl) (c123 (hfit.1 (by omega)) (hfit.2.1 (by omega))) ?_
     rintro _ w31 ⟨rfl, m32⟩
     have z33 := m32.size
     have hd := hd.keep (lU hU (by omega)) m32 nF
     have ht := ht.keep text_st (lU hU (by omega)) m32 nF
     have hp := hp.keep pair_st (lU hU (by omega)) m32 nF
     have hf := hf.step0 m32
     have h1 := h1.keep m32 id
     refine svK (xallS (lens := [256, 256, 1, 1, 1, 1, 1]) in198 (by simp [nm_length])) ?_
     rintro _ w35 ⟨b6, rfl, m36, h6, e34, s34⟩
     have hd := hd.keep (lU hU (by omega)) m36 nF
     have ht := ht.keep text_st (lU hU (by omega)) m36 nF
     have hp := hp.keep pair_st (lU hU (by omega)) m36 nF
     have hf := hf.step0 m36
     have h1 := h1.keep m36 id
     refine suK (xstW h6 (lens' := [256, 256, 1, 1, 1, 1, 1]) sz198 (by simp [nm_length]) rfl (by simp only [List.flatten_cons, List.flatten_nil, List.all_append, List.append_nil, nm_one, Bool.true_and] <;> rfl) rfl rfl) ?_
     rintro w38 ⟨m39, h6, s37⟩
     have hd := hd.keep (lU hU (by omega)) m39 (fun k hk hS => by have hk := hU k hk; have hS : k = b6 := hS; omega)
     have ht := ht.keep text_st (lU hU (by omega)) m39 (fun k hk hS => by have hk := hU k hk; have hS : k = b6 := hS; omega)
     have hp := hp.keep pair_st (lU hU (by omega)) m39 (fun k hk hS => by have hk := hU k hk; have hS : k = b6 := hS; omega)
     have hf := hf.step m39 (fun k hk hS => by have hS : k = b6 := hS; show False; omega)
     have h1 := h1.keep m39 (by show ¬ (b1 = b6); omega)
     refine send (fg [(6, _)] ⟨rfl, ⟨⟩⟩ fun _ => (sreg (sv (xmkif ni196 rfl) (sv (xassign rfl) (send (fg [(2, _)] ⟨rfl, ⟨⟩⟩ fun _ => (wp_ret (rBlock (rThen ?_)))))))))
     refine rp1 rfl rfl ?_
     exact ⟨⟨b6, _, _, _, rfl, .inr ⟨by omega, by omega⟩, h6.r, .soa (by omega)⟩, hf⟩
    ·
     refine sv (xassign rfl) (send (fg [(1, _), (17, _), (33, _)] ⟨rfl, rfl, rfl, ⟨⟩⟩ fun _ => (cno rfl (sreg ?_))))
     refine svP (xeql rfl rfl) (fun hc39 => ?_) (fun hc39 => ?_)
     ·
      refine sv (xassign rfl) (send (fg [(1, _), (17, _), (38, _)] ⟨rfl, rfl, rfl, ⟨⟩⟩ fun _ => (cyes rfl (sreg (sv (xldS (lens := lRec) ro112 rfl h1.r) ?_)))))
      refine sc (xcall ca125 rfl) (c125 (hfit.1 (by omega))) ?_
      rintro _ w40 ⟨rfl, m41⟩
      have z42 := m41.size
      have hd := hd.keep (lU hU (by omega)) m41 nF
      have ht := ht.keep text_st (lU hU (by omega)) m41 nF
      have hp := hp.keep pair_st (lU hU (by omega)) m41 nF
      have hf := hf.step0 m41
      have h1 := h1.keep m41 id
      refine svK (xallS (lens := [256]) in201 (by simp [nm_length])) ?_
      rintro _ w44 ⟨b7, rfl, m45, h7, e43, s43⟩
      have hd := hd.keep (lU hU (by omega)) m45 nF
      have ht := ht.keep text_st (lU hU (by omega)) m45 nF
      have hp := hp.keep pair_st (lU hU (by omega)) m45 nF
      have hf := hf.step0 m45
      have h1 := h1.keep m45 id
      refine suK (xstW h7 (lens' := [256]) sz201 (by simp [nm_length]) rfl (by simp only [List.flatten_cons, List.flatten_nil, List.append_nil, nm_one] <;> rfl) rfl rfl) ?_
      rintro w47 ⟨m48, h7, s46⟩
      have hd := hd.keep (lU hU (by omega)) m48 (fun k hk hS => by have hk := hU k hk; have hS : k = b7 := hS; omega)
      have ht := ht.keep text_st (lU hU (by omega)) m48 (fun k hk hS => by have hk := hU k hk; have hS : k = b7 := hS; omega)
      have hp := hp.keep pair_st (lU hU (by omega)) m48 (fun k hk hS => by have hk := hU k hk; have hS : k = b7 := hS; omega)
      have hf := hf.step m48 (fun k hk hS => by have hS : k = b7 := hS; show False; omega)
      have h1 := h1.keep m48 (by show ¬ (b1 = b7); omega)
      refine send (fg [(7, _)] ⟨rfl, ⟨⟩⟩ fun _ => (sreg (sv (xmkif ni199 rfl) (sv (xassign rfl) (send (fg [(2, _)] ⟨rfl, ⟨⟩⟩ fun _ => (wp_ret (rBlock (rThen ?_)))))))))
      refine rp1 rfl rfl ?_
      exact ⟨⟨b7, _, _, _, rfl, .inr ⟨by omega, by omega⟩, h7.r, .ptr (by omega)⟩, hf⟩
     ·
      refine sv (xassign rfl) (send (fg [(1, _), (17, _), (38, _)] ⟨rfl, rfl, rfl, ⟨⟩⟩ fun _ => (cno rfl (sreg ?_))))
      refine svP (xeql rfl rfl) (fun hc44 => ?_) (fun hc44 => ?_)
      ·
       refine sv (xassign rfl) (send (fg [(1, _), (17, _), (43, _)] ⟨rfl, rfl, rfl, ⟨⟩⟩ fun _ => (cyes rfl (sreg (sv (xldS (lens := lRec) ro112 rfl h1.r) ?_)))))
       refine sc (xcall ca127 rfl) (c127 (hfit.1 (by omega))) ?_
       rintro _ w49 ⟨rfl, m50⟩
       have z51 := m50.size
       have hd := hd.keep (lU hU (by omega)) m50 nF
       have ht := ht.keep text_st (lU hU (by omega)) m50 nF
       have hp := hp.keep pair_st (lU hU (by omega)) m50 nF
       have hf := hf.step0 m50
       have h1 := h1.keep m50 id
       refine svK (xallS (lens := [1, 256]) in204 (by simp [nm_length])) ?_
       rintro _ w53 ⟨b8, rfl, m54, h8, e52, s52⟩
       have hd := hd.keep (lU hU (by omega)) m54 nF
       have ht := ht.keep text_st (lU hU (by omega)) m54 nF
       have hp := hp.keep pair_st (lU hU (by omega)) m54 nF
       have hf := hf.step0 m54
       have h1 := h1.keep m54 id
       refine suK (xstW h8 (lens' := [1, 256]) sz204 (by simp [nm_length]) rfl (by simp only [List.flatten_cons, List.flatten_nil, List.all_append, List.append_nil, nm_one] <;> rfl) rfl rfl) ?_
       rintro w56 ⟨m57, h8, s55⟩
       have hd := hd.keep (lU hU (by omega)) m57 (fun k hk hS => by have hk := hU k hk; have hS : k = b8 := hS; omega)
       have ht := ht.keep text_st (lU hU (by omega)) m57 (fun k hk hS => by have hk := hU k hk; have hS : k = b8 := hS; omega)
       have hp := hp.keep pair_st (lU hU (by omega)) m57 (fun k hk hS => by have hk := hU k hk; have hS : k = b8 := hS; omega)
       have hf := hf.step m57 (fun k hk hS => by have hS : k = b8 := hS; show False; omega)
       have h1 := h1.keep m57 (by show ¬ (b1 = b8); omega)
       refine send (fg [(8, _)] ⟨rfl, ⟨⟩⟩ fun _ => (sreg (sv (xmkif ni202 rfl) (sv (xassign rfl) (send (fg [(2, _)] ⟨rfl, ⟨⟩⟩ fun _ => (wp_ret (rBlock (rThen ?_)))))))))
       refine rp1 rfl rfl ?_
       exact ⟨⟨b8, _, _, _, rfl, .inr ⟨by omega, by omega⟩, h8.r, .mx (by omega)⟩, hf⟩
      ·
       refine sv (xassign rfl) (send (fg [(1, _), (17, _), (43, _)] ⟨rfl, rfl, rfl, ⟨⟩⟩ fun _ => (cno rfl (sreg ?_))))
       refine svP (xeql rfl rfl) (fun hc49 => ?_) (fun hc49 => ?_)
       ·
        refine sv (xassign rfl) (send (fg [(1, _), (17, _), (48, _)] ⟨rfl, rfl, rfl, ⟨⟩⟩ fun _ => (cyes rfl (sreg (sv (xldS (lens := lRec) ro112 rfl h1.r) ?_)))))
        refine sc (xcall ca129 rfl) (c129 (U := U) (lU hU (by omega)) ht hfit.2.2.2.1) ?_
        rintro _ w58 ⟨v51, rfl, L51, m59⟩
        have z60 := m59.size
        have hd := hd.keep (lU hU (by omega)) m59 nF
        have hp := hp.keep pair_st (lU hU (by omega)) m59 nF
        have hf := hf.step0 m59
        have h1 := h1.keep m59 id
        obtain ⟨aq51, cq51, rfl⟩ := L51.form
        refine svK (xallS (lens := [1]) in207 (by simp [])) ?_
        rintro _ w62 ⟨b9, rfl, m63, h9, e61, s61⟩
        have hd := hd.keep (lU hU (by omega)) m63 nF
        have hp := hp.keep pair_st (lU hU (by omega)) m63 nF
        have hf := hf.step0 m63
        have h1 := h1.keep m63 id
        have L51 := L51.keep text_st (lB hU (by omega) (by omega)) m63 nF
        refine suK (xstW h9 (lens' := [1]) sz207 (by simp []) rfl (by simp only [List.flatten_cons, List.flatten_nil, List.append_nil] <;> rfl) rfl rfl) ?_
        rintro w65 ⟨m66, h9, s64⟩
        have hd := hd.keep (lU hU (by omega)) m66 (fun k hk hS => by have hk := hU k hk; have hS : k = b9 := hS; omega)
        have hp := hp.keep pair_st (lU hU (by omega)) m66 (fun k hk hS => by have hk := hU k hk; have hS : k = b9 := hS; omega)
        have hf := hf.step m66 (fun k hk hS => by have hS : k = b9 := hS; show False; omega)
        have h1 := h1.keep m66 (by show ¬ (b1 = b9); omega)
        have L51 := L51.keep text_st (lB hU (by omega) (by omega)) m66 (fun k hk hS => by have hk := Ub.num hU hk; have hS : k = b9 := hS; omega)
        refine send (fg [(9, _)] ⟨rfl, ⟨⟩⟩ fun _ => (sreg (sv (xmkif ni205 rfl) (sv (xassign rfl) (send (fg [(2, _)] ⟨rfl, ⟨⟩⟩ fun _ => (wp_ret (rBlock (rThen ?_)))))))))
        refine rp1 rfl rfl ?_
        exact ⟨⟨b9, _, _, _, rfl, .inr ⟨by omega, by omega⟩, h9.r, .txt (by omega) (L51.mono text_gr (fun k hk => hk.elim .inl (fun h => .inr ⟨by omega, by omega⟩)))⟩, hf⟩
       ·
        refine sv (xassign rfl) (send (fg [(1, _), (17, _), (48, _)] ⟨rfl, rfl, rfl, ⟨⟩⟩ fun _ => (cno rfl (sreg ?_))))
        refine svP (xeql rfl rfl) (fun hc54 => ?_) (fun hc54 => ?_)
        ·
         refine sv (xassign rfl) (send (fg [(1, _), (17, _), (53, _)] ⟨rfl, rfl, rfl, ⟨⟩⟩ fun _ => (cyes rfl (sreg (sv (xldS (lens := lRec) ro112 rfl h1.r) ?_)))))
         refine sc (xcall ca131 rfl) (c131 (U := U) (lU hU (by omega)) hd) ?_
         rintro _ w67 ⟨rfl, m68⟩
         have z69 := m68.size
         have hd := hd.keep (lU hU (by omega)) m68 nF
         have hp := hp.keep pair_st (lU hU (by omega)) m68 nF
         have hf := hf.step0 m68
         have h1 := h1.keep m68 id
         refine svK (xallS (lens := [16]) in211 (by simp [bvs_length])) ?_
         rintro _ w71 ⟨b10, rfl, m72, h10, e70, s70⟩
         have hd := hd.keep (lU hU (by omega)) m72 nF
         have hp := hp.keep pair_st (lU hU (by omega)) m72 nF
         have hf := hf.step0 m72
         have h1 := h1.keep m72 id
         refine suK (xstW h10 (lens' := [16]) sz211 (by simp [bvs_length, fixedL_length]) rfl (by simp only [List.flatten_cons, List.flatten_nil, List.append_nil, bvs_one] <;> rfl) rfl rfl) ?_
         rintro w74 ⟨m75, h10, s73⟩
         have hd := hd.keep (lU hU (by omega)) m75 (fun k hk hS => by have hk := hU k hk; have hS : k = b10 := hS; omega)
         have hp := hp.keep pair_st (lU hU (by omega)) m75 (fun k hk hS => by have hk := hU k hk; have hS : k = b10 := hS; omega)
         have hf := hf.step m75 (fun k hk hS => by have hS : k = b10 := hS; show False; omega)
         have h1 := h1.keep m75 (by show ¬ (b1 = b10); omega)
         refine send (fg [(10, _)] ⟨rfl, ⟨⟩⟩ fun _ => (sreg (sv (xmkif ni208 rfl) (sv (xassign rfl) (send (fg [(2, _)] ⟨rfl, ⟨⟩⟩ fun _ => (wp_ret (rBlock (rThen ?_)))))))))
         refine rp1 rfl rfl ?_
         exact ⟨⟨b10, _, _, _, rfl, .inr ⟨by omega, by omega⟩, h10.r, .aaaa (by omega)⟩, hf⟩
        ·
         refine sv (xassign rfl) (send (fg [(1, _), (17, _), (53, _)] ⟨rfl, rfl, rfl, ⟨⟩⟩ fun _ => (cno rfl (sreg ?_))))
         refine svP (xeql rfl rfl) (fun hc59 => ?_) (fun hc59 => ?_)
         ·
          refine sv (xassign rfl) (send (fg [(1, _), (17, _), (58, _)] ⟨rfl, rfl, rfl, ⟨⟩⟩ fun _ => (cyes rfl (sreg (sv (xldS (lens := lRec) ro112 rfl h1.r) ?_)))))
          refine sc (xcall ca133 rfl) (c133 (hfit.1 (by omega))) ?_
          rintro _ w76 ⟨rfl, m77⟩
          have z78 := m77.size
          have hd := hd.keep (lU hU (by omega)) m77 nF
          have hp := hp.keep pair_st (lU hU (by omega)) m77 nF
          have hf := hf.step0 m77
          have h1 := h1.keep m77 id
          refine svK (xallS (lens := [1, 1, 1, 256]) in214 (by simp [nm_length])) ?_
          rintro _ w80 ⟨b11, rfl, m81, h11, e79, s79⟩
          have hd := hd.keep (lU hU (by omega)) m81 nF
          have hp := hp.keep pair_st (lU hU (by omega)) m81 nF
          have hf := hf.step0 m81
          have h1 := h1.keep m81 id
          refine suK (xstW h11 (lens' := [1, 1, 1, 256]) sz214 (by simp [nm_length]) rfl (by simp only [List.flatten_cons, List.flatten_nil, List.all_append, List.append_nil, nm_one] <;> rfl) rfl rfl) ?_
          rintro w83 ⟨m84, h11, s82⟩
          have hd := hd.keep (lU hU (by omega)) m84 (fun k hk hS => by have hk := hU k hk; have hS : k = b11 := hS; omega)
          have hp := hp.keep pair_st (lU hU (by omega)) m84 (fun k hk hS => by have hk := hU k hk; have hS : k = b11 := hS; omega)
          have hf := hf.step m84 (fun k hk hS => by have hS : k = b11 := hS; show False; omega)
          have h1 := h1.keep m84 (by show ¬ (b1 = b11); omega)
          refine send (fg [(11, _)] ⟨rfl, ⟨⟩⟩ fun _ => (sreg (sv (xmkif ni212 rfl) (sv (xassign rfl) (send (fg [(2, _)] ⟨rfl, ⟨⟩⟩ fun _ => (wp_ret (rBlock (rThen ?_)))))))))
          refine rp1 rfl rfl ?_
          exact ⟨⟨b11, _, _, _, rfl, .inr ⟨by omega, by omega⟩, h11.r, .srv (by omega)⟩, hf⟩
         ·
          refine sv (xassign rfl) (send (fg [(1, _), (17, _), (58, _)] ⟨rfl, rfl, rfl, ⟨⟩⟩ fun _ => (cno rfl (sreg ?_))))
          refine svP (xeql rfl rfl) (fun hc64 => ?_) (fun hc64 => ?_)
          ·
           refine sv (xassign rfl) (send (fg [(1, _), (17, _), (63, _)] ⟨rfl, rfl, rfl, ⟨⟩⟩ fun _ => (cyes rfl (sreg (sv (xldS (lens := lRec) ro112 rfl h1.r) ?_)))))
           refine sc (xcall ca135 rfl) (c135 (U := U) (lU hU (by omega)) hp hfit.2.2.2.2.1 hfit.2.2.2.2.2) ?_
           rintro _ w85 ⟨v66, rfl, L66, m86⟩
           have z87 := m86.size
           have hd := hd.keep (lU hU (by omega)) m86 nF
           have hp := hp.keep pair_st (lU hU (by omega)) m86 nF
           have hf := hf.step0 m86
           have h1 := h1.keep m86 id
           obtain ⟨aq66, cq66, rfl⟩ := L66.form
           refine svK (xallS (lens := [1]) in218 (by simp [])) ?_
           rintro _ w89 ⟨b12, rfl, m90, h12, e88, s88⟩
           have hd := hd.keep (lU hU (by omega)) m90 nF
           have hp := hp.keep pair_st (lU hU (by omega)) m90 nF
           have hf := hf.step0 m90
           have h1 := h1.keep m90 id
           have L66 := L66.keep pair_st (lB hU (by omega) (by omega)) m90 nF
           refine suK (xstW h12 (lens' := [1]) sz218 (by simp []) rfl (by simp only [List.flatten_cons, List.flatten_nil, List.append_nil] <;> rfl) rfl rfl) ?_
           rintro w92 ⟨m93, h12, s91⟩
           have hd := hd.keep (lU hU (by omega)) m93 (fun k hk hS => by have hk := hU k hk; have hS : k = b12 := hS; omega)
           have hp := hp.keep pair_st (lU hU (by omega)) m93 (fun k hk hS => by have hk := hU k hk; have hS : k = b12 := hS; omega)
           have hf := hf.step m93 (fun k hk hS => by have hS : k = b12 := hS; show False; omega)
           have h1 := h1.keep m93 (by show ¬ (b1 = b12); omega)
           have L66 := L66.keep pair_st (lB hU (by omega) (by omega)) m93 (fun k hk hS => by have hk := Ub.num hU hk; have hS : k = b12 := hS; omega)
           refine send (fg [(12, _)] ⟨rfl, ⟨⟩⟩ fun _ => (sreg (sv (xmkif ni215 rfl) (sv (xassign rfl) (send (fg [(2, _)] ⟨rfl, ⟨⟩⟩ fun _ => (wp_ret (rBlock (rThen ?_)))))))))
           refine rp1 rfl rfl ?_
           exact ⟨⟨b12, _, _, _, rfl, .inr ⟨by omega, by omega⟩, h12.r, .opt (by omega) (L66.mono pair_gr (fun k hk => hk.elim .inl (fun h => .inr ⟨by omega, by omega⟩)))⟩, hf⟩
          ·
           refine sv (xassign rfl) (send (fg [(1, _), (17, _), (63, _)] ⟨rfl, rfl, rfl, ⟨⟩⟩ fun _ => (cno rfl (sreg ?_))))
           refine svP (xeql rfl rfl) (fun hc69 => ?_) (fun hc69 => ?_)
           ·
            refine sv (xassign rfl) (send (fg [(1, _), (17, _), (68, _)] ⟨rfl, rfl, rfl, ⟨⟩⟩ fun _ => (cyes rfl (sreg (sv (xldS (lens := lRec) ro112 rfl h1.r) ?_)))))
            refine sc (xcall ca137 rfl) (c137 (U := U) (lU hU (by omega)) hp hfit.2.2.2.2.1 hfit.2.2.2.2.2 (hfit.1 (by omega))) ?_
            rintro _ w94 ⟨v71, rfl, L71, m95⟩
            have z96 := m95.size
            have hd := hd.keep (lU hU (by omega)) m95 nF
            have hp := hp.keep pair_st (lU hU (by omega)) m95 nF
            have hf := hf.step0 m95
            have h1 := h1.keep m95 id
            obtain ⟨aq71, cq71, rfl⟩ := L71.form
            refine svK (xallS (lens := [1, 256, 1]) in224 (by simp [nm_length])) ?_
            rintro _ w98 ⟨b13, rfl, m99, h13, e97, s97⟩
            have hd := hd.keep (lU hU (by omega)) m99 nF
            have hp := hp.keep pair_st (lU hU (by omega)) m99 nF
            have hf := hf.step0 m99
            have h1 := h1.keep m99 id
            have L71 := L71.keep pair_st (lB hU (by omega) (by omega)) m99 nF
            refine suK (xstW h13 (lens' := [1, 256, 1]) sz224 (by simp [nm_length]) rfl (by simp only [List.flatten_cons, List.flatten_nil, List.all_append, List.append_nil, nm_one, Bool.true_and] <;> rfl) rfl rfl) ?_
            rintro w101 ⟨m102, h13, s100⟩
            have hd := hd.keep (lU hU (by omega)) m102 (fun k hk hS => by have hk := hU k hk; have hS : k = b13 := hS; omega)
            have hp := hp.keep pair_st (lU hU (by omega)) m102 (fun k hk hS => by have hk := hU k hk; have hS : k = b13 := hS; omega)
            have hf := hf.step m102 (fun k hk hS => by have hS : k = b13 := hS; show False; omega)
            have h1 := h1.keep m102 (by show ¬ (b1 = b13); omega)
            have L71 := L71.keep pair_st (lB hU (by omega) (by omega)) m102 (fun k hk hS => by have hk := Ub.num hU hk; have hS : k = b13 := hS; omega)
            refine send (fg [(13, _)] ⟨rfl, ⟨⟩⟩ fun _ => (sreg (sv (xmkif ni221 rfl) (sv (xassign rfl) (send (fg [(2, _)] ⟨rfl, ⟨⟩⟩ fun _ => (wp_ret (rBlock (rThen ?_)))))))))
            refine rp1 rfl rfl ?_
            exact ⟨⟨b13, _, _, _, rfl, .inr ⟨by omega, by omega⟩, h13.r, .svcb (by omega) (L71.mono pair_gr (fun k hk => hk.elim .inl (fun h => .inr ⟨by omega, by omega⟩)))⟩, hf⟩
           ·
            refine sv (xassign rfl) (send (fg [(1, _), (17, _), (68, _)] ⟨rfl, rfl, rfl, ⟨⟩⟩ fun _ => (cno rfl (sreg ?_))))
            refine svP (xeql rfl rfl) (fun hc74 => ?_) (fun hc74 => ?_)
            ·
             refine sv (xassign rfl) (send (fg [(1, _), (73, _)] ⟨rfl, rfl, ⟨⟩⟩ fun _ => (cyes rfl (sreg (sv (xldS (lens := lRec) ro112 rfl h1.r) ?_)))))
             refine sc (xcall ca139 rfl) (c139 (U := U) (lU hU (by omega)) hp hfit.2.2.2.2.1 hfit.2.2.2.2.2 (hfit.1 (by omega))) ?_
             rintro _ w103 ⟨v76, rfl, L76, m104⟩
             have z105 := m104.size
             have hd := hd.keep (lU hU (by omega)) m104 nF
             have hf := hf.step0 m104
             have h1 := h1.keep m104 id
             obtain ⟨aq76, cq76, rfl⟩ := L76.form
             refine svK (xallS (lens := [1, 256, 1]) in228 (by simp [nm_length])) ?_
             rintro _ w107 ⟨b14, rfl, m108, h14, e106, s106⟩
             have hd := hd.keep (lU hU (by omega)) m108 nF
             have hf := hf.step0 m108
             have h1 := h1.keep m108 id
             have L76 := L76.keep pair_st (lB hU (by omega) (by omega)) m108 nF
             refine suK (xstW h14 (lens' := [1, 256, 1]) sz228 (by simp [nm_length]) rfl (by simp only [List.flatten_cons, List.flatten_nil, List.all_append, List.append_nil, nm_one, Bool.true_and] <;> rfl) rfl rfl) ?_
             rintro w110 ⟨m111, h14, s109⟩
             have hd := hd.keep (lU hU (by omega)) m111 (fun k hk hS => by have hk := hU k hk; have hS : k = b14 := hS; omega)
             have hf := hf.step m111 (fun k hk hS => by have hS : k = b14 := hS; show False; omega)
             have h1 := h1.keep m111 (by show ¬ (b1 = b14); omega)
             have L76 := L76.keep pair_st (lB hU (by omega) (by omega)) m111 (fun k hk hS => by have hk := Ub.num hU hk; have hS : k = b14 := hS; omega)
             refine send (fg [(14, _)] ⟨rfl, ⟨⟩⟩ fun _ => (sreg (sv (xmkif ni226 rfl) (sv (xassign rfl) (send (fg [(2, _)] ⟨rfl, ⟨⟩⟩ fun _ => (wp_ret (rBlock (rThen ?_)))))))))
             refine rp1 rfl rfl ?_
             exact ⟨⟨b14, _, _, _, rfl, .inr ⟨by omega, by omega⟩, h14.r, .https (by omega) (L76.mono pair_gr (fun k hk => hk.elim .inl (fun h => .inr ⟨by omega, by omega⟩)))⟩, hf⟩
            ·
             refine sv (xassign rfl) (send (fg [(1, _), (73, _)] ⟨rfl, rfl, ⟨⟩⟩ fun _ => (cno rfl (wp_skip (nBlock (nThen (fg [(1, _)] ⟨rfl, ⟨⟩⟩ fun _ => (sreg (sv (xldS (lens := lRec) ro112 rfl h1.r) ?_)))))))))
             refine sc (xcall ca141 rfl) (c141 (U := U) (lU hU (by omega)) hd hfit.2.2.1) ?_
             rintro _ w112 ⟨v79, rfl, L79, m113⟩
             have z114 := m113.size
             have hf := hf.step0 m113
             obtain ⟨aq79, cq79, rfl, -⟩ := id L79
             refine svK (xallS (lens := [1, 1]) in231 (by simp [])) ?_
             rintro _ w116 ⟨b15, rfl, m117, h15, e115, s115⟩
             have hf := hf.step0 m117
             have L79 := L79.keep (lB hU (by omega) (by omega)) m117 nF
             refine suK (xstW h15 (lens' := [1, 1]) sz231 (by simp []) rfl (by simp only [List.flatten_cons, List.flatten_nil, List.all_append, List.append_nil] <;> rfl) rfl rfl) ?_
             rintro w119 ⟨m120, h15, s118⟩
             have hf := hf.step m120 (fun k hk hS => by have hS : k = b15 := hS; show False; omega)
             have L79 := L79.keep (lB hU (by omega) (by omega)) m120 (fun k hk hS => by have hk := Ub.num hU hk; have hS : k = b15 := hS; omega)
             refine send (fg [(15, _)] ⟨rfl, ⟨⟩⟩ fun _ => (sreg (sv (xmkif ni229 rfl) (sv (xassign rfl) (send (fg [(2, _)] ⟨rfl, ⟨⟩⟩ fun _ => (wp_ret ?_)))))))
             refine rp1 rfl rfl ?_
             have et : r.typ = typeN r := by simp only [typeN]; rw [if_neg (by omega), if_neg (by omega), if_neg (by omega), if_neg (by omega), if_neg (by omega), if_neg (by omega), if_neg (by omega), if_neg (by omega), if_neg (by omega), if_neg (by omega), if_neg (by omega), if_neg (by omega), if_pos (by omega)]
             rw [et] at h15
             exact ⟨⟨b15, _, _, _, rfl, .inr ⟨by omega, by omega⟩, h15.r, .other (by omega) (L79.mono (fun k hk => hk.elim .inl (fun h => .inr ⟨by omega, by omega⟩)))⟩, hf⟩
end Go.Proofs.YtifnodoffgfpbaaGreatDoor

namespace Go.Proofs.YtifnodoffgfpbaaGreatDoor
open Go

abbrev mkB (l : List UInt8) : ByteArray := ⟨l.toArray⟩
theorem bt_mkB (l : List UInt8) : bt (mkB l) = l := by simp [bt]
/-- a pointer as two bytes -/
def ptrL (p : UInt16) : List UInt8 := [UInt8.ofNat ((p >>> 8) ||| 192).toNat, UInt8.ofNat p.toNat]
/-- from a place on: what is written, and what the map is then; lab: the label begun; pos: how far behind the start the message ends -/
def packGo : Option Ent → Nat → List UInt8 → List UInt8 → List UInt8 × Option Ent
  | C, _, _, [] => ([0], C)
  | C, pos, lab, c :: cs =>
    if c = 46 then ((UInt8.ofNat lab.length :: lab) ++ (packGo C (pos + (lab.length + 1)) [] cs).1, (packGo C (pos + (lab.length + 1)) [] cs).2)
    else if lab = [] then
      match C with
      | none => packGo none pos [c] cs
      | some M => match look M (mkB (c :: cs)) with
        | some p => (ptrL p, some M)
        | none => packGo (some (if pos ≤ 16383 then M ++ [(mkB (c :: cs), UInt16.ofNat pos)] else M)) pos [c] cs
    else packGo C pos (lab ++ [c]) cs
def packName (C : Option Ent) (pos : Nat) (s : List UInt8) : List UInt8 × Option Ent := if s = [46] then ([0], C) else packGo C pos [] s

theorem packGo_none : ∀ (cs lab : List UInt8) (pos : Nat), nameGo lab.length cs = true → packGo none pos lab cs = (wireGo lab cs ++ [0], none)
  | [], lab, pos, _ => by simp [packGo, wireGo]
  | c :: cs, lab, pos, h => by
    by_cases hc : c = 46
    · simp only [packGo, wireGo, hc, if_pos, nameGo] at h ⊢
      split at h
      · cases h
      · rename_i hl
        have hl' : lab ≠ [] := by intro h0; subst h0; simp at hl
        rw [packGo_none cs [] _ h, if_neg hl']
        simp
    · simp only [nameGo, hc, if_false] at h
      simp only [packGo, wireGo, hc, if_false]
      by_cases hl : lab = []
      · subst hl
        rw [if_pos rfl]
        simp only [List.nil_append]
        exact packGo_none cs [c] pos (by simpa using h)
      · rw [if_neg hl]
        exact packGo_none cs (lab ++ [c]) pos (by simpa using h)
theorem packGo_le : ∀ (cs lab : List UInt8) (C : Option Ent) (pos : Nat), (packGo C pos lab cs).1.length ≤ lab.length + 2 * cs.length + 1
  | [], lab, C, pos => by simp [packGo]
  | c :: cs, lab, C, pos => by
    by_cases hc : c = 46
    · simp only [packGo, hc, if_pos]
      have := packGo_le cs [] C (pos + (lab.length + 1))
      simp only [List.length_append, List.length_cons, List.length_nil] at this ⊢
      omega
    · simp only [packGo, hc, if_false]
      by_cases hl : lab = []
      · subst hl
        simp only [if_true]
        cases C with
        | none =>
          have := packGo_le cs [c] none pos
          simp only [List.length_cons, List.length_nil] at this ⊢; omega
        | some M =>
          simp only []
          split
          · simp [ptrL]; omega
          · have := packGo_le cs [c] (some (if pos ≤ 16383 then M ++ [(mkB (c :: cs), UInt16.ofNat pos)] else M)) pos
            simp only [List.length_cons, List.length_nil] at this ⊢; omega
      · rw [if_neg hl]
        have := packGo_le cs (lab ++ [c]) C pos
        simp only [List.length_append, List.length_cons, List.length_nil] at this ⊢; omega
theorem packName_le (C : Option Ent) (pos : Nat) (s : List UInt8) : (packName C pos s).1.length ≤ 2 * s.length + 1 := by
  simp only [packName]
  split
  · simp
  · have := packGo_le s [] C pos
    simpa using this
theorem packGo_some : ∀ (cs lab : List UInt8) (M : Ent) (pos : Nat), ∃ M', (packGo (some M) pos lab cs).2 = some M'
  | [], lab, M, pos => ⟨M, rfl⟩
  | c :: cs, lab, M, pos => by
    by_cases hc : c = 46
    · simp only [packGo, hc, if_pos]; exact packGo_some cs [] M _
    · simp only [packGo, hc, if_false]
      by_cases hl : lab = []
      · subst hl
        simp only [if_true]
        split
        · exact ⟨M, rfl⟩
        · exact packGo_some cs [c] _ pos
      · rw [if_neg hl]; exact packGo_some cs _ M pos
/-- the map of a message, if it has one -/
def Cmp (w : World) (cm : Option Nat) (C : Option Ent) : Prop := match cm, C with
  | none, none => True
  | some b, some M => Mp w b M
  | _, _ => False
theorem Cmp.keep {S : Nat → Prop} {w w' : World} {cm : Option Nat} {C : Option Ent} (h : Cmp w cm C) (m : Fr S w w') (hn : ∀ b, cm = some b → ¬ S b) : Cmp w' cm C := by
  cases cm <;> cases C <;> simp only [Cmp] at h ⊢
  exact h.keep m (hn _ rfl)
/-- what a function gives back that appends to a message and may write into its map -/
def AppC (w : World) (g gm : Nat) (cm : Option Nat) (n : Nat) (bs out : List UInt8) (C' : Option Ent) (u : Value) (w' : World) : Prop :=
  ∃ a c g', u = .tuple #[.slice a (n + out.length) c, .nilIface] ∧ BR w' (.slice a (n + out.length) c) g' (n + out.length) (bs ++ out) ∧ Fr (fun k => k = g ∨ k = gm) w w' ∧ (g' = g ∨ w.heap.size ≤ g') ∧ g' < w'.heap.size ∧ Cmp w' cm C'

/-- a name that can be packed -/
def nameL (s : List UInt8) : Prop := s = [46] ∨ (s ≠ [46] ∧ nameGo 0 s = true ∧ 1 < s.length ∧ s.length ≤ 254)
theorem nameL_of {s : ByteArray} (h : nameOk s = true) : nameL (bt s) := by
  by_cases hd : bt s = [46]
  · exact .inl hd
  · simp only [nameOk, hd, decide_false, Bool.false_or, Bool.and_eq_true, decide_eq_true_eq] at h
    exact .inr ⟨hd, h.1.1, by rw [bt_length]; exact h.1.2, by rw [bt_length]; exact h.2⟩
theorem nameOk_size {s : ByteArray} (h : nameOk s = true) : s.size ≤ 254 := by
  rcases nameL_of h with h | h
  · have := congrArg List.length h; rw [bt_length] at this; simp at this; omega
  · have := h.2.2.2; rw [bt_length] at this; exact this
theorem nameGo_last : ∀ (s : List UInt8) (n : Nat), nameGo n s = true → (hs : 0 < s.length) → s[s.length - 1]? = some 46
  | [], n, h, hs => by simp at hs
  | [c], n, h, _ => by
    by_cases hc : c = 46
    · subst hc; rfl
    · simp [nameGo, hc] at h
  | c :: d :: cs, n, h, _ => by
    simp only [List.length_cons, Nat.add_sub_cancel]
    have : nameGo 0 (d :: cs) = true ∨ nameGo (n + 1) (d :: cs) = true := by
      rw [nameGo] at h
      split at h
      · split at h
        · cases h
        · exact .inl h
      · exact .inr h
    rw [List.getElem?_cons_succ]
    rcases this with h' | h'
    · exact nameGo_last (d :: cs) 0 h' (by simp)
    · exact nameGo_last (d :: cs) (n + 1) h' (by simp)
theorem nameGo_first {s : List UInt8} (h : nameGo 0 s = true) : s[0]? ≠ some 46 := by
  cases s with
  | nil => simp
  | cons c cs =>
    intro h0
    simp only [List.getElem?_cons_zero, Option.some.injEq] at h0
    subst h0
    simp [nameGo] at h
theorem nm_rng {w : World} {b o : Nat} {s : List UInt8} (h : w.rangeAt b o (nm s)) (hs : s.length ≤ 255) (i : Nat) : w.rangeAt b (o + i) (bvs (s.drop i)) := fun j v hv => by
  have : (bvs s)[i + j]? = some v := by simpa [bvs] using hv
  have := h (i + j) v (nm_pre s hs _ _ this)
  rw [Nat.add_assoc]; exact this
theorem name_dot {s : List UInt8} (h : nameL s) (h0 : 0 < s.length) (hc : (s[0].toNat : Int) = 46) : s = [46] := by
  rcases h with h | h
  · exact h
  · exfalso
    apply nameGo_first h.2.1
    rw [List.getElem?_eq_getElem h0]
    exact congrArg some (UInt8.toNat_inj.1 (by have : (46 : UInt8).toNat = 46 := rfl; omega))
theorem name_nodot {s : List UInt8} (h : nameL s) (h0 : 0 < s.length) (hc : ¬ (s[0].toNat : Int) = 46) : s ≠ [46] ∧ nameGo 0 s = true := by
  rcases h with h | h
  · subst h; exact absurd rfl hc
  · exact ⟨h.1, h.2.1⟩
theorem name_pos {s : List UInt8} (h : nameL s) : 0 < s.length ∧ s.length ≤ 254 := by
  rcases h with h | h
  · subst h; simp
  · omega
theorem name_last {s : List UInt8} (h : nameL s) (h0 : s.length - 1 < s.length) : s[s.length - 1] = 46 := by
  rcases h with h | h
  · subst h; rfl
  · have := nameGo_last s 0 h.2.1 (by omega)
    rw [List.getElem?_eq_getElem h0] at this
    simpa using this
theorem nameGo_dot {n : Nat} {cs : List UInt8} (h : nameGo n (46 :: cs) = true) : 1 ≤ n ∧ n ≤ 63 ∧ nameGo 0 cs = true := by
  rw [nameGo, if_pos rfl] at h
  split at h
  · cases h
  · exact ⟨by omega, by omega, h⟩
theorem nameGo_let {n : Nat} {c : UInt8} {cs : List UInt8} (h : nameGo n (c :: cs) = true) (hc : c ≠ 46) : nameGo (n + 1) cs = true := by
  rw [nameGo, if_neg hc] at h; exact h
theorem u8ne {c : UInt8} (h : ¬ (c.toNat : Int) = 46) : c ≠ 46 := by intro e; subst e; exact h rfl
theorem u8eq {c : UInt8} (h : (c.toNat : Int) = 46) : c = 46 := UInt8.toNat_inj.1 (by have : (46 : UInt8).toNat = 46 := rfl; omega)
def pkE (o : List UInt8) (r : List UInt8 × Option Ent) : List UInt8 × Option Ent := (o ++ r.1, r.2)
theorem pk_dot {C : Option Ent} {pos : Nat} {lab cs o : List UInt8} : pkE o (packGo C pos lab (46 :: cs)) = pkE (o ++ (UInt8.ofNat lab.length :: lab)) (packGo C (pos + (lab.length + 1)) [] cs) := by
  simp [packGo, pkE, List.append_assoc]
theorem pk_mid {C : Option Ent} {pos : Nat} {c : UInt8} {lab cs : List UInt8} (hc : c ≠ 46) (hl : lab ≠ []) : packGo C pos lab (c :: cs) = packGo C pos (lab ++ [c]) cs := by
  cases C <;> simp [packGo, hc, hl]
theorem pk_none {pos : Nat} {c : UInt8} {cs : List UInt8} (hc : c ≠ 46) : packGo none pos [] (c :: cs) = packGo none pos [c] cs := by
  simp [packGo, hc]
theorem pk_hit {M : Ent} {pos : Nat} {c : UInt8} {cs : List UInt8} {p : UInt16} (hc : c ≠ 46) (hl : look M (mkB (c :: cs)) = some p) : packGo (some M) pos [] (c :: cs) = (ptrL p, some M) := by
  simp [packGo, hc, hl]
theorem pk_miss {M : Ent} {pos : Nat} {c : UInt8} {cs : List UInt8} (hc : c ≠ 46) (hl : look M (mkB (c :: cs)) = none) : packGo (some M) pos [] (c :: cs) = packGo (some (if pos ≤ 16383 then M ++ [(mkB (c :: cs), UInt16.ofNat pos)] else M)) pos [c] cs := by
  simp [packGo, hc, hl]
theorem lab_get {s lab : List UInt8} {i bg j : Nat} (h : lab = (s.take i).drop bg) (h1 : bg ≤ j) (h2 : j < i) (h3 : i ≤ s.length) : lab[j - bg]? = some (s[j]'(by omega)) := by
  subst h
  rw [List.getElem?_drop, List.getElem?_take, if_pos (by omega), show bg + (j - bg) = j by omega, List.getElem?_eq_getElem (by omega)]
theorem lab_next {s lab : List UInt8} {i bg : Nat} (h : lab = (s.take i).drop bg) (h1 : bg ≤ i) (h3 : i < s.length) : lab ++ [s[i]] = (s.take (i + 1)).drop bg := by
  subst h
  rw [List.take_add_one, List.getElem?_eq_getElem h3, List.drop_append_of_le_length (by simp; omega)]
  rfl
theorem Cmp.some {w : World} {b : Nat} {C : Option Ent} (h : Cmp w (.some b) C) : ∃ M, C = .some M ∧ Mp w b M := by
  cases C <;> simp only [Cmp] at h
  exact ⟨_, rfl, h⟩
theorem Cmp.none {w : World} {C : Option Ent} (h : Cmp w .none C) : C = .none := by
  cases C <;> simp only [Cmp] at h
  rfl
theorem extr_drop (s : List UInt8) (i : Nat) : (mkB s).extract i (mkB s).size = mkB (s.drop i) := by
  apply ByteArray.ext
  simp only [ByteArray.data_extract]
  apply Array.ext'
  have : (mkB s).size = s.length := by simp [ByteArray.size]
  rw [this]
  simp only [Array.toList_extract, List.extract_eq_take_drop]
  rw [List.take_of_length_le (by simp)]
theorem drop_one {s : List UInt8} {i : Nat} (hi : i < s.length) : s.drop i = s[i] :: s.drop (i + 1) := List.drop_eq_getElem_cons hi
end Go.Proofs.YtifnodoffgfpbaaGreatDoor

namespace Go.Proofs.YtifnodoffgfpbaaGreatDoor
open Go

/-- A struct stands in block b behind pre and ahead of post: its parts, of these lengths. -/
def SE (w : World) (b : Nat) (T : TypeId) (pre : List Value) (lens : List Nat) (segs : List (List Value)) (post : List Value) : Prop :=
  w.heap[b]? = some (.cells (pre ++ (segs.flatten ++ post)).toArray T (0, 0)) ∧ segs.map List.length = lens
section
variable {w w' : World} {b : Nat} {T : TypeId} {pre post : List Value} {lens : List Nat} {segs : List (List Value)}
theorem SE.lt (h : SE w b T pre lens segs post) : b < w.heap.size := (Array.getElem?_eq_some_iff.1 h.1).1
theorem SE.keep {S : Nat → Prop} (h : SE w b T pre lens segs post) (m : Fr S w w') (hn : ¬ S b) : SE w' b T pre lens segs post := ⟨(m.block b h.lt hn).trans h.1, h.2⟩
theorem SE.blk (h : SE w b T pre lens segs post) : Blk w b (pre ++ (segs.flatten ++ post)) := ⟨T, h.1⟩
theorem SE.r {o : Nat} (h : SE w b T pre lens segs post) (ho : pre.length = o) : SR w b o lens segs := ⟨h.blk.mid ho, h.2⟩
theorem set_mid (pre mid post : List Value) (k : Nat) (v : Value) (hk : k < mid.length) : (pre ++ (mid ++ post)).set (pre.length + k) v = pre ++ (mid.set k v ++ post) := by
  rw [List.set_append_right _ _ (by omega), Nat.add_sub_cancel_left, List.set_append_left _ _ hk]
/-- a store into a part of one cell -/
theorem xstE {P : Program} {n : Nat} {l : List (Nat × Value)} {ty : TypeId} {x y : Operand} {v : Value} {V : TypeId} {k o : Nat} (i : Nat) {u : Value} (hT : szB P V 1 = true) (hb : SE w b T pre lens segs post) (ho : pre.length = o) (hi : segs[i]? = some [u]) (hk : (lens.take i).sum = k)
    (hx : ev n l x = some (.pointer (some ⟨b, o + k, none⟩))) (hy : ev n l y = some v) (h1 : v.oneCell' = true) :
    ExUK P n l (.store V x y) ty w (fun w' => Fr (· = b) w w' ∧ SE w' b T pre lens (segs.set i [v]) post ∧ w'.heap.size = w.heap.size) := by
  subst ho
  have hlt : i < segs.length := (List.getElem?_eq_some_iff.1 hi).1
  have he : segs[i] = [u] := (List.getElem?_eq_some_iff.1 hi).2
  have hk' : offs segs i = k := by rw [offs_lens hb.2, hk]
  have hle := offs_le segs i hlt
  rw [he, hk'] at hle
  simp only [List.length_cons, List.length_nil] at hle
  have hcell := hb.blk.cell (i := pre.length + k) (v := segs.flatten[k]'(by omega)) (by
    rw [List.getElem?_append_right (by omega), Nat.add_sub_cancel_left, List.getElem?_append_left (by omega)]
    simp)
  have hfr := hb.blk.frozen (pre.length + k)
  have hset := heap_set hb.1 (pre.length + k) v
  rw [set_mid _ _ _ _ _ (by omega)] at hset
  have hfl := splice_flat segs i [v] hlt (by rw [he]; rfl)
  rw [hk', ← splice_cons _ _ _ _ (by omega), splice_nil] at hfl
  rw [hfl] at hset
  refine ⟨w.setCell ⟨b, pre.length + k, none⟩ v, fun r _ _ _ _ => ?_, fr_setCell w b _ v, ⟨hset, ?_⟩, size_setCell _ _ _⟩
  · have hs := szB_spec hT
    cases hi' : P.info? V with
    | none => rw [hi'] at hs; cases hs
    | some u =>
      rw [hi'] at hs
      simp only [Option.map_some, Option.some.injEq] at hs
      simp only [execOp, ev_eval r hx, ev_eval r hy]
      have hcells : v.cells = #[v] := by cases v <;> first | rfl | cases h1
      have hadd : (⟨b, pre.length + k, none⟩ : Addr).add 0 = ⟨b, pre.length + k, none⟩ := addr_add b _ 0
      simp [Instr.storeAt, Instr.sureAddr, storeVar, hcells, sizeOf, typeInfo, hi', hs, storeCells, hadd, run_store _ _ _ _ _ h1, hcell, hfr]
  · rw [List.map_set, ← hb.2]
    apply List.ext_getElem
    · simp
    · intro m h1 h2
      rw [List.getElem_set]
      split
      · rename_i hm; subst hm; simp [he]
      · rfl
end

/-- an element of a row of structs: it may be written to, and the row stands still -/
theorem RA.elem {α : Type} {El : (Nat → Prop) → World → List (List Value) → α → Prop} {lens : List Nat} {U : Nat → Prop} {w : World} {v : Value} {g E n : Nat} {l : List α} (h : RA El lens U w v g E n l) (hpos : 0 < lens.sum) {k : Nat} {x : α} (hx : l[k]? = some x) :
    ∃ (pre : List Value) (segs : List (List Value)) (post : List Value) (c : Nat), v = .slice (some ⟨g, 0, none⟩) n c ∧ pre.length = k * lens.sum ∧ SE w g E pre lens segs post ∧ El U w segs x ∧
      ∀ (w' : World) (segs' : List (List Value)) (S : Nat → Prop), SE w' g E pre lens segs' post → segs'.flatten.all (·.oneCell') = true → Fr S w w' → (∀ k, U k → k < w.heap.size) → (∀ k, U k → ¬ S k) → Stays El → El U w' segs' x → RA El lens U w' v g E n l := by
  obtain ⟨ss, ⟨⟨hlen, hown⟩, hblk, hone⟩, hA⟩ := h
  have hkl : k < l.length := (List.getElem?_eq_some_iff.1 hx).1
  have hks : k < ss.length := by rw [hA.1]; exact hkl
  obtain ⟨segs, x', hs, hx', hs1, hs2⟩ := hA.get hkl
  rw [hx] at hx'
  simp only [Option.some.injEq] at hx'
  subst hx'
  have hall : ∀ s ∈ ss, s.map List.length = lens := by
    intro s hs
    obtain ⟨j, hj, rfl⟩ := List.mem_iff_getElem.1 hs
    obtain ⟨a, b, ha, hb, hab, _⟩ := hA.get (k := j) (by rw [← hA.1]; exact hj)
    rw [List.getElem?_eq_getElem hj] at ha
    simp only [Option.some.injEq] at ha
    rw [ha]; exact hab
  have hseg : ss[k] = segs := (List.getElem?_eq_some_iff.1 hs).2
  have e : ss = ss.take k ++ (segs :: ss.drop (k + 1)) := by rw [← hseg, List.getElem_cons_drop, List.take_append_drop]
  have hfl : (ss.map List.flatten).flatten = ((ss.take k).map List.flatten).flatten ++ (segs.flatten ++ ((ss.drop (k + 1)).map List.flatten).flatten) := by
    conv => lhs; rw [e]
    simp only [List.map_append, List.map_cons, List.flatten_append, List.flatten_cons]
  have hprel : ((ss.take k).map List.flatten).flatten.length = k * lens.sum := by
    rw [flat_len (fun s hs => hall s (List.mem_of_mem_take hs)), List.length_take, Nat.min_eq_left (Nat.le_of_lt hks)]
  have hsegl : segs.flatten.length = lens.sum := by rw [List.length_flatten, hs1]
  have hn : n * lens.sum = (ss.map List.flatten).flatten.length := hlen.symm
  rcases hown with ⟨rfl, rfl⟩ | ⟨g', cap, cur, rfl, hb0, hheap, hnc, hcm, hcs, htake⟩
  · exfalso
    have h2 := flat_len (lens := lens) hall
    rw [h2, Nat.zero_mul] at hn
    rcases Nat.mul_eq_zero.1 hn.symm with h | h <;> omega
  · obtain rfl := hblk g' rfl
    refine ⟨_, segs, ((ss.drop (k + 1)).map List.flatten).flatten ++ cur.toList.drop (n * lens.sum), cap, rfl, hprel, ⟨?_, hs1⟩, hs2, ?_⟩
    · have hc : cur = (((ss.take k).map List.flatten).flatten ++ (segs.flatten ++ (((ss.drop (k + 1)).map List.flatten).flatten ++ cur.toList.drop (n * lens.sum)))).toArray := by
        apply Array.ext'
        have h1 := List.take_append_drop (n * lens.sum) cur.toList
        rw [htake, hfl] at h1
        simp only [List.append_assoc] at h1
        rw [h1]
      rw [hheap]
      exact congrArg (fun c => some (Obj.cells c E (0, 0))) hc
    · intro w' segs' S hse h1 hfr hU hn' hst hel
      have hsegl' : segs'.flatten.length = lens.sum := by rw [List.length_flatten, hse.2]
      have hfl' : ((ss.set k segs').map List.flatten).flatten = ((ss.take k).map List.flatten).flatten ++ (segs'.flatten ++ ((ss.drop (k + 1)).map List.flatten).flatten) := by
        rw [List.set_eq_take_append_cons_drop, if_pos hks]
        simp only [List.map_append, List.map_cons, List.flatten_append, List.flatten_cons]
      refine ⟨ss.set k segs', ⟨⟨?_, .inr ⟨g', cap, _, rfl, hb0, hse.1, hnc, hcm, ?_, ?_⟩⟩, hblk, ?_⟩, ⟨by rw [List.length_set]; exact hA.1, ?_⟩⟩
      · rw [hfl', ← hlen, hfl]; simp only [List.length_append, hsegl, hsegl']
      · rw [← hcs]
        have h2 := congrArg List.length (List.take_append_drop (n * lens.sum) cur.toList)
        rw [htake, hfl] at h2
        simp only [List.length_append, hsegl, Array.length_toList] at h2
        simp only [List.size_toArray, List.length_append, hsegl']
        omega
      · rw [hfl']
        have h3 : n * lens.sum = (((ss.take k).map List.flatten).flatten ++ (segs'.flatten ++ ((ss.drop (k + 1)).map List.flatten).flatten)).length := by
          rw [hn, hfl]; simp only [List.length_append, hsegl, hsegl']
        rw [h3]
        have h4 : (((ss.take k).map List.flatten).flatten ++ (segs'.flatten ++ (((ss.drop (k + 1)).map List.flatten).flatten ++ cur.toList.drop (n * lens.sum)))) = (((ss.take k).map List.flatten).flatten ++ (segs'.flatten ++ ((ss.drop (k + 1)).map List.flatten).flatten)) ++ cur.toList.drop (n * lens.sum) := by simp only [List.append_assoc]
        rw [← h3]
        show (((ss.take k).map List.flatten).flatten ++ (segs'.flatten ++ (((ss.drop (k + 1)).map List.flatten).flatten ++ cur.toList.drop (n * lens.sum)))).take (n * lens.sum) = _
        rw [h4, h3]
        exact List.take_left
      · rw [hfl'] 
        rw [hfl] at hone
        simp only [List.all_append, Bool.and_eq_true] at hone ⊢
        exact ⟨hone.1, h1, hone.2.2⟩
      · intro i a b ha hb
        by_cases hik : i = k
        · subst hik
          rw [List.getElem?_set_self hks] at ha
          simp only [Option.some.injEq] at ha
          subst ha
          rw [hx] at hb
          simp only [Option.some.injEq] at hb
          subst hb
          exact ⟨hse.2, hel⟩
        · rw [List.getElem?_set_ne (by omega)] at ha
          have := hA.2 i a b ha hb
          exact ⟨this.1, hst _ _ _ _ _ _ this.2 hU hfr hn'⟩

theorem jcut {P : Program} {Q : Exit → Act → World → Prop} {c : Code} {n : Nat} {l : List (Nat × Value)} {r : Nat → Value} {w : World} {α : Type} (u : List (Nat × Value)) (_hu : okl l u) (ch : α → List (Nat × Value)) (J : α → World → Prop)
    (h : c.wp P (fun e a' w' => e = .normal ∧ ∃ x r', a' = env n (ch x ++ u) r' ∧ J x w') (env n l r) w)
    (k : ∀ x r w', J x w' → Q .normal (env n (ch x ++ u) r) w') : c.wp P Q (env n l r) w := by
  refine wp_mono h ?_
  rintro e a' w' ⟨rfl, x, r', rfl, hJ⟩
  exact k x r' w' hJ

/-- a piece of code within another -/
def nav : List Bool → Code → Option Code
  | [], c => some c
  | d :: ds, .seq a b => nav ds (bif d then b else a)
  | d :: ds, .cond _ a b => nav ds (bif d then b else a)
  | _ :: ds, .block _ c => nav ds c
  | _ :: ds, .loop c => nav ds c
  | _ :: _, _ => none
def navF (p : List Bool) (f : Func) : Code := (f.body.bind (nav p)).getD .skip
theorem nav_wp {P : Program} {Q : Exit → Act → World → Prop} {p : List Bool} {f : Func} {c : Code} {a : Act} {w : World} (h : f.body.bind (nav p) = some c) (k : c.wp P Q a w) : (navF p f).wp P Q a w := by
  simp only [navF, h, Option.getD_some]; exact k
theorem frag_end {Q : Exit → Act → World → Prop} {n : Nat} {l l' : List (Nat × Value)} {r : Nat → Value} {w : World} (k : Q .normal (env n l' (over l r)) w) (h : okl l l') : Q .normal (env n l r) w := by
  rw [show env n l r = env n l' (over l r) from congrArg (act n) (over_okl h r)]; exact k

/-- method name of values of type T is function f, which takes the value itself -/
def mthB (P : Program) (T : TypeId) (name : String) (f : FuncId) : Bool :=
  (match P.info? T with
    | some i => match i.methods.find? (·.name == name) with
      | some m => m.path.toList.isEmpty && (match m.func with
        | some (g, b) => g == f && b
        | none => false)
      | none => false
    | none => false) && (match P.underlying T with
    | some (.pointer _) => true
    | _ => false)
theorem xinv {P : Program} {n : Nat} {l : List (Nat × Value)} {w : World} {ty : TypeId} {T : TypeId} {a : Addr} {x : Operand} {name : String} {f : FuncId} {xs : List Operand} {ts : Array TypeId} {vs : List Value} (hm : mthB P T name f = true) (hf : callB P f = true)
    (hx : ev n l x = some (.iface T (.pointer (some a)))) (hxs : evs n l xs = some vs) :
    ExC P n l (.call { callee := .invoke x name, args := xs.toArray, argTypes := ts }) ty w f (.pointer (some a) :: vs) := fun r _ _ _ _ => by
  unfold callB at hf
  split at hf
  · rename_i fn hfn
    simp only [Bool.and_eq_true, Bool.not_eq_true'] at hf
    have hn : ¬ fn.name = "runtime.NumGoroutine" := by simpa using hf.1
    have hb : ¬ fn.body = none := fun h => by rw [h] at hf; cases hf.2
    simp only [mthB, Bool.and_eq_true] at hm
    obtain ⟨hm1, hm2⟩ := hm
    split at hm1
    · rename_i i hi
      split at hm1
      · rename_i m hmm
        simp only [Bool.and_eq_true] at hm1
        obtain ⟨hp, hg⟩ := hm1
        split at hg
        · rename_i g b hgb
          simp only [Bool.and_eq_true, beq_iff_eq] at hg
          obtain ⟨rfl, rfl⟩ := hg
          split at hm2
          · rename_i e hu
            have hpath : m.path.toList = [] := by simpa using hp
            simp only [execOp]
            have hmeth : (method (P.types.size + Made.depth) T (.pointer (some a)) name).run P w = .ok (g, .pointer (some a)) w := by
              have hdp : 0 < Made.depth := by decide
              obtain ⟨d, hd⟩ : ∃ d, P.types.size + Made.depth = d + 1 := ⟨P.types.size + Made.depth - 1, by omega⟩
              rw [hd]
              simp [method, typeInfo, hi, hmm, hpath, follow, hgb, receiverAt, run_underlying hu, Place.get]
            simp [resolve, invoke, callMethod, ev_eval r hx, evs_eval r hxs, hmeth, callFunc, hfn]
            rw [if_neg hn, if_neg hb]
          · cases hm2
        · cases hg
      · cases hm1
    · cases hm1
  · cases hf
end Go.Proofs.YtifnodoffgfpbaaGreatDoor
