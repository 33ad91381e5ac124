/- Part 3 of the texts for a law of this seat: walks, and plain laws about messages; conditions: none. -/
import Derived.Test.YtifnodoffgfpbaaGreatDoorBs2
namespace Go.Proofs.YtifnodoffgfpbaaGreatDoor
open Go

def fewM (m : MsgD) : Prop := m.asks.length + m.one.length + m.two.length + m.three.length ≤ 40 ∧ (∀ l ∈ [m.one, m.two, m.three], ∀ r ∈ l, smallR r) ∧ okM m

set_option maxHeartbeats 4000000 in
set_option maxRecDepth 100000 in
theorem c14 {w : World} {U : Nat → Prop} (hU : ∀ k, U k → k < w.heap.size) {m : MsgD} {va v1 v2 v3 : Value} (ha : LA AskEl lAsk U w va m.asks) (y1 : LA RecEl lRec U w v1 m.one) (y2 : LA RecEl lRec U w v2 m.two) (y3 : LA RecEl lRec U w v3 m.three) (hfa : ∀ a ∈ m.asks, a.name.size ≤ 1048576) (hfr : ∀ l ∈ [m.one, m.two, m.three], ∀ r ∈ l, r.fits) (hll : ∀ l ∈ [m.one, m.two, m.three], l.length ≤ 1048576) (hna : m.asks.length ≤ 1048576) :
  Ret PP 14 [ag (msgSegs m.head va v1 v2 v3)] w (Grd w (fewM m)) := by
 have hls : All2 (LA RecEl lRec U w) [v1, v2, v3] [m.one, m.two, m.three] := All2.cons y1 (All2.cons y2 (All2.cons y3 All2.nil))
 obtain ⟨aa, ca, rfl⟩ := ha.form
 obtain ⟨a1, c1, rfl⟩ := y1.form
 obtain ⟨a2, c2, rfl⟩ := y2.form
 obtain ⟨a3, c3, rfl⟩ := y3.form
 have hl1 := hll m.one (by simp)
 have hl2 := hll m.two (by simp)
 have hl3 := hll m.three (by simp)
 have hf : Fr (fun _ => False) w w := Fr.refl _ _
 refine ret_of Tryz.func14 rfl rfl rfl [(0, _)] rfl ?_
 refine sreg ?_
 refine svK (xboxS (lens := lMsg) rfl rfl) ?_
 rintro _ w2 ⟨b1, rfl, m3, h1, e1, s1⟩
 have ha := ha.keep ask_st (lU hU (by omega)) m3 nF
 have y1 := y1.keep rec_st (lU hU (by omega)) m3 nF
 have y2 := y2.keep rec_st (lU hU (by omega)) m3 nF
 have y3 := y3.keep rec_st (lU hU (by omega)) m3 nF
 have hf := hf.step0 m3
 refine sA rfl (send (fg [(1, _)] ⟨rfl, ⟨⟩⟩ fun _ => (sreg (sv (xfld fl34_1 rfl) (sv (xld on31 rfl (h1.r.c 10 rfl rfl)) (sv (xlen sl31 rfl) (sv (xfld fl34_2 rfl) (sv (xld on32 rfl (h1.r.c 11 rfl rfl)) (sv (xlen sl32 rfl) (sv (xadd rfl rfl (w64 (by omega) (by omega))) (sv (xfld fl34_3 rfl) (sv (xld on32 rfl (h1.r.c 12 rfl rfl)) (sv (xlen sl32 rfl) (sv (xadd rfl rfl (w64 (by omega) (by omega))) (sv (xfld fl34_4 rfl) (sv (xld on32 rfl (h1.r.c 13 rfl rfl)) (sv (xlen sl32 rfl) (sv (xadd rfl rfl (w64 (by omega) (by omega))) (sA rfl (send (fg [(1, _), (3, _)] ⟨rfl, rfl, ⟨⟩⟩ fun _ => (wp_seq (sreg (sM rfl ?_))))))))))))))))))))))))
 refine svP (xgtr rfl rfl) (fun hc29 => ?_) (fun hc29 => ?_)
 ·
  refine send (fg [(1, _), (29, _)] ⟨rfl, rfl, ⟨⟩⟩ fun _ => (cyes rfl (sreg (sA rfl (send (fg [(2, _)] ⟨rfl, ⟨⟩⟩ fun _ => (wp_ret (rThen ?_))))))))
  refine rp1 rfl rfl ?_
  exact ⟨_, rfl, (fun h => by cases h), hf⟩
 ·
  refine send (fg [(1, _), (29, _)] ⟨rfl, rfl, ⟨⟩⟩ fun _ => (cno rfl (wp_skip (nThen (fg [(1, _)] ⟨rfl, ⟨⟩⟩ fun _ => (wp_seq (sreg (sv (xfld fl34_2 rfl) (sv (xld on32 rfl (h1.r.c 11 rfl rfl)) (sv (xfld fl34_3 rfl) (sv (xld on32 rfl (h1.r.c 12 rfl rfl)) (sv (xfld fl34_4 rfl) (sv (xld on32 rfl (h1.r.c 13 rfl rfl)) ?_)))))))))))))
  refine svK (xslit ([.slice a1 m.one.length c1, .slice a2 m.two.length c2, .slice a3 m.three.length c3]) sl60 in32 rfl (by decide) rfl rfl rfl rfl (by decide) rfl rfl) ?_
  rintro _ w5 ⟨b36, rfl, m6, h36, e36, s36, r36⟩
  have ha := ha.keep ask_st (lU hU (by omega)) m6 nF
  have y1 := y1.keep rec_st (lU hU (by omega)) m6 nF
  have y2 := y2.keep rec_st (lU hU (by omega)) m6 nF
  have y3 := y3.keep rec_st (lU hU (by omega)) m6 nF
  have hf := hf.step0 m6
  have h1 := h1.keep m6 id
  refine sv (xlen sl60 rfl) (sM rfl (send (fg [(1, _), (36, _), (37, _), (38, _)] ⟨rfl, rfl, rfl, rfl, ⟨⟩⟩ fun _ => (wp_block ?_))))
  refine lp [(1, _), (36, _), (37, _)] (fun (i : Nat) => [(38, .int .i64 (i : Int))]) (fun (i : Nat) wx => Fr (fun _ => False) w5 wx ∧ (i ≤ 3) ∧ (∀ j (l : List RecD), j < i → [m.one, m.two, m.three][j]? = some l → ∀ r ∈ l, smallR r)) (fun (i : Nat) => 3 - i) 0 ⟨rfl, rfl, rfl, rfl, trivial⟩ ⟨Fr.refl _ _, Nat.zero_le _, upto_zero⟩ ?_
  rintro i _ w8 ⟨hL7, hi, hO⟩
  refine fg [(1, _), (36, _), (37, _), (38, _)] ⟨rfl, rfl, rfl, rfl, ⟨⟩⟩ fun _ => ?_
  have z9 := hL7.size
  have ha := ha.keep ask_st (lU hU (by omega)) hL7 nF
  have y1 := y1.keep rec_st (lU hU (by omega)) hL7 nF
  have y2 := y2.keep rec_st (lU hU (by omega)) hL7 nF
  have y3 := y3.keep rec_st (lU hU (by omega)) hL7 nF
  have hf := hf.step0 hL7
  have h1 := h1.keep hL7 id
  have r36 := r36.keep hL7 id
  refine sreg ?_
  refine svP (xlss rfl rfl) (fun hc39 => ?_) (fun hc39 => ?_)
  ·
   refine send (fg [(1, _), (36, _), (37, _), (38, _), (39, _)] ⟨rfl, rfl, rfl, rfl, rfl, ⟨⟩⟩ fun _ => (wp_seq (cyes rfl (wp_skip (nThen (fg [(1, _), (36, _), (37, _), (38, _)] ⟨rfl, rfl, rfl, rfl, ⟨⟩⟩ fun _ => (wp_seq (wp_block (sreg ?_)))))))))
   obtain ⟨u, l, hu, hul, hL⟩ := hls.get (k := i) (by simp; omega)
   have hL := hL.keep rec_st hU hf nF
   have hlm : l ∈ [m.one, m.two, m.three] := List.mem_of_getElem? hul
   have hln := hll l hlm
   obtain ⟨au, cu, rfl⟩ := hL.form
   refine sv (xidx1 sl60 sz32 rfl rfl rfl (by omega)) (sv (xld on32 rfl (Rw.rng r36 i _ hu)) (sA rfl (send (fg [(1, _), (5, _), (36, _), (37, _), (38, _)] ⟨rfl, rfl, rfl, rfl, rfl, ⟨⟩⟩ fun _ => (sreg (sM rfl (sv (xlen sl32 rfl) (sM rfl (send (fg [(1, _), (36, _), (37, _), (38, _), (42, _), (43, _), (44, _)] ⟨rfl, rfl, rfl, rfl, rfl, rfl, rfl, ⟨⟩⟩ fun _ => (wp_block ?_)))))))))))
   refine lp [(1, _), (36, _), (37, _), (38, _), (42, _), (43, _)] (fun (k : Nat) => [(44, .int .i64 (k : Int))]) (fun (k : Nat) wx => Fr (fun _ => False) w8 wx ∧ (k ≤ l.length) ∧ (∀ j (r : RecD), j < k → l[j]? = some r → smallR r)) (fun (k : Nat) => l.length - k) 0 ⟨rfl, rfl, rfl, rfl, rfl, rfl, rfl, trivial⟩ ⟨Fr.refl _ _, Nat.zero_le _, upto_zero⟩ ?_
   rintro k _ w11 ⟨hL10, hk, hI⟩
   refine fg [(1, _), (36, _), (37, _), (38, _), (42, _), (43, _), (44, _)] ⟨rfl, rfl, rfl, rfl, rfl, rfl, rfl, ⟨⟩⟩ fun _ => ?_
   have z12 := hL10.size
   have ha := ha.keep ask_st (lU hU (by omega)) hL10 nF
   have y1 := y1.keep rec_st (lU hU (by omega)) hL10 nF
   have y2 := y2.keep rec_st (lU hU (by omega)) hL10 nF
   have y3 := y3.keep rec_st (lU hU (by omega)) hL10 nF
   have hf := hf.step0 hL10
   have h1 := h1.keep hL10 id
   have hL7 := hL7.step0 hL10
   have hL := hL.keep rec_st (lU hU (by omega)) hL10 nF
   refine sreg ?_
   refine svP (xlss rfl rfl) (fun hc45 => ?_) (fun hc45 => ?_)
   ·
    refine send (fg [(1, _), (36, _), (37, _), (38, _), (42, _), (43, _), (44, _), (45, _)] ⟨rfl, rfl, rfl, rfl, rfl, rfl, rfl, rfl, ⟨⟩⟩ fun _ => (wp_seq (cyes rfl (wp_skip (nThen (fg [(1, _), (36, _), (37, _), (38, _), (42, _), (43, _), (44, _)] ⟨rfl, rfl, rfl, rfl, rfl, rfl, rfl, ⟨⟩⟩ fun _ => (wp_seq (wp_block ?_))))))))
    obtain ⟨r, hrk⟩ := some_of_lt (by omega : k < l.length)
    have hrf := hfr l hlm r (List.mem_of_getElem? hrk)
    have hrf0 := hrf
    simp only [RecD.fits] at hrf0
    have hsp := sum_add4 r.pairs
    refine sreg ?_
    obtain ⟨bE46, oE46, sgE46, rfl, uE46, hsE46, heE46⟩ := LA.get hL hrk
    obtain ⟨vd, vt, vp, rfl, hd, ht, hp⟩ := heE46
    have zE46 := hU _ uE46
    obtain ⟨ad, cd, rfl, -⟩ := id hd
    obtain ⟨at1, ct1, rfl⟩ := ht.form
    obtain ⟨ap1, cp1, rfl⟩ := hp.form
    refine sv (xidx sl32 sz65 rfl rfl rfl (by omega)) (sv (xldS (lens := lRec) ro65 rfl hsE46) ?_)
    refine svK (xallS (lens := lRec) in65 rfl) ?_
    rintro _ w14 ⟨b7, rfl, m15, h7, e13, s13⟩
    have ha := ha.keep ask_st (lU hU (by omega)) m15 nF
    have y1 := y1.keep rec_st (lU hU (by omega)) m15 nF
    have y2 := y2.keep rec_st (lU hU (by omega)) m15 nF
    have y3 := y3.keep rec_st (lU hU (by omega)) m15 nF
    have hf := hf.step0 m15
    have h1 := h1.keep m15 id
    have hL7 := hL7.step0 m15
    have hL10 := hL10.step0 m15
    have ht := ht.keep text_st (lU hU (by omega)) m15 nF
    have hp := hp.keep pair_st (lU hU (by omega)) m15 nF
    refine suK (xstW h7 (lens' := lRec) sz65 rfl rfl rfl rfl rfl) ?_
    rintro w17 ⟨m18, h7, s16⟩
    have ha := ha.keep ask_st (lU hU (by omega)) m18 (fun k hk hS => by have hk := hU k hk; have hS : k = b7 := hS; omega)
    have y1 := y1.keep rec_st (lU hU (by omega)) m18 (fun k hk hS => by have hk := hU k hk; have hS : k = b7 := hS; omega)
    have y2 := y2.keep rec_st (lU hU (by omega)) m18 (fun k hk hS => by have hk := hU k hk; have hS : k = b7 := hS; omega)
    have y3 := y3.keep rec_st (lU hU (by omega)) m18 (fun k hk hS => by have hk := hU k hk; have hS : k = b7 := hS; omega)
    have hf := hf.step m18 (fun k hk hS => by have hS : k = b7 := hS; show False; omega)
    have h1 := h1.keep m18 (by show ¬ (b1 = b7); omega)
    have hL7 := hL7.step m18 (fun k hk hS => by have hS : k = b7 := hS; show False; omega)
    have hL10 := hL10.step m18 (fun k hk hS => by have hS : k = b7 := hS; show False; omega)
    have ht := ht.keep text_st (lU hU (by omega)) m18 (fun k hk hS => by have hk := hU k hk; have hS : k = b7 := hS; omega)
    have hp := hp.keep pair_st (lU hU (by omega)) m18 (fun k hk hS => by have hk := hU k hk; have hS : k = b7 := hS; omega)
    refine send (fg [(1, _), (7, _), (36, _), (37, _), (38, _), (42, _), (43, _), (44, _)] ⟨rfl, rfl, rfl, rfl, rfl, rfl, rfl, rfl, ⟨⟩⟩ fun _ => (sreg (sv (xfld fl65_6 rfl) (sv (xld on37 rfl (h7.r.c 6 rfl rfl)) (sv (xlen sl37 rfl) (sv (xfld fl65_14 rfl) (sv (xld on62 rfl (h7.r.c 14 rfl rfl)) (sv (xlen sl62 rfl) (sv (xadd rfl rfl (w64 (by omega) (by omega))) (sA rfl (send (fg [(1, _), (7, _), (8, _), (36, _), (37, _), (38, _), (42, _), (43, _), (44, _)] ⟨rfl, rfl, rfl, rfl, rfl, rfl, rfl, rfl, rfl, ⟨⟩⟩ fun _ => (wp_seq (sreg (sv (xfld fl65_14 rfl) (sv (xld on62 rfl (h7.r.c 14 rfl rfl)) (sv (xlen sl62 rfl) (sM rfl (send (fg [(1, _), (7, _), (8, _), (36, _), (37, _), (38, _), (42, _), (43, _), (44, _), (56, _), (57, _), (58, _)] ⟨rfl, rfl, rfl, rfl, rfl, rfl, rfl, rfl, rfl, rfl, rfl, rfl, ⟨⟩⟩ fun _ => (wp_block ?_)))))))))))))))))))))
    refine lp [(1, _), (7, _), (36, _), (37, _), (38, _), (42, _), (43, _), (44, _), (56, _), (57, _)] (fun (x : Nat × Nat) => match x with | (j, s) => [(8, .int .i64 (s : Int)), (58, .int .i64 (j : Int))]) (fun (x : Nat × Nat) wx => match x with | (j, s) => Fr (fun _ => False) w17 wx ∧ (j ≤ r.texts.length) ∧ (s = r.data.length + r.texts.length + ((r.texts.take j).map (fun s : ByteArray => s.size)).sum)) (fun (x : Nat × Nat) => match x with | (j, s) => r.texts.length - j) (0, r.data.length + r.texts.length) ⟨rfl, rfl, rfl, rfl, rfl, rfl, rfl, rfl, rfl, rfl, rfl, rfl, trivial⟩ ⟨Fr.refl _ _, Nat.zero_le _, rfl⟩ ?_
    rintro ⟨j, s⟩ _ w20 ⟨hL19, hj, hs⟩
    refine fg [(1, _), (7, _), (8, _), (36, _), (37, _), (38, _), (42, _), (43, _), (44, _), (56, _), (57, _), (58, _)] ⟨rfl, rfl, rfl, rfl, rfl, rfl, rfl, rfl, rfl, rfl, rfl, rfl, ⟨⟩⟩ fun _ => ?_
    have z21 := hL19.size
    have ha := ha.keep ask_st (lU hU (by omega)) hL19 nF
    have y1 := y1.keep rec_st (lU hU (by omega)) hL19 nF
    have y2 := y2.keep rec_st (lU hU (by omega)) hL19 nF
    have y3 := y3.keep rec_st (lU hU (by omega)) hL19 nF
    have hf := hf.step0 hL19
    have h1 := h1.keep hL19 id
    have hL7 := hL7.step0 hL19
    have hL10 := hL10.step0 hL19
    have ht := ht.keep text_st (lU hU (by omega)) hL19 nF
    have hp := hp.keep pair_st (lU hU (by omega)) hL19 nF
    have h7 := h7.keep hL19 id
    refine sreg ?_
    refine svP (xlss rfl rfl) (fun hc59 => ?_) (fun hc59 => ?_)
    ·
     refine send (fg [(1, _), (7, _), (8, _), (36, _), (37, _), (38, _), (42, _), (43, _), (44, _), (56, _), (57, _), (58, _), (59, _)] ⟨rfl, rfl, rfl, rfl, rfl, rfl, rfl, rfl, rfl, rfl, rfl, rfl, rfl, ⟨⟩⟩ fun _ => (wp_seq (cyes rfl (wp_skip (nThen (fg [(1, _), (7, _), (8, _), (36, _), (37, _), (38, _), (42, _), (43, _), (44, _), (56, _), (57, _), (58, _)] ⟨rfl, rfl, rfl, rfl, rfl, rfl, rfl, rfl, rfl, rfl, rfl, rfl, ⟨⟩⟩ fun _ => (wp_seq (wp_block ?_))))))))
     obtain ⟨t, htj⟩ := some_of_lt (by omega : j < r.texts.length)
     have hts := sum_take_le (f := fun s : ByteArray => s.size) htj
     have hta := sum_take_add (f := fun s : ByteArray => s.size) htj
     refine sreg ?_
     obtain ⟨bE60, oE60, sgE60, rfl, uE60, hsE60, heE60⟩ := LA.get ht htj
     obtain rfl := heE60
     have zE60 := hU _ uE60
     refine sv (xidx sl62 sz9 rfl rfl rfl (by omega)) (sv (xld on9 rfl (hsE60.c 0 rfl rfl)) (sA rfl (send (fg [(1, _), (7, _), (8, _), (10, _), (36, _), (37, _), (38, _), (42, _), (43, _), (44, _), (56, _), (57, _), (58, _)] ⟨rfl, rfl, rfl, rfl, rfl, rfl, rfl, rfl, rfl, rfl, rfl, rfl, rfl, ⟨⟩⟩ fun _ => (lreg (sM rfl (sM rfl (sv (xlenS st9 rfl) (sv (xadd rfl rfl (w64 (by omega) (by omega))) (sA rfl (lend (nBlock (nThen (fg [(1, _), (7, _), (8, _), (36, _), (37, _), (38, _), (42, _), (43, _), (44, _), (56, _), (57, _), (58, _)] ⟨rfl, rfl, rfl, rfl, rfl, rfl, rfl, rfl, rfl, rfl, rfl, rfl, ⟨⟩⟩ fun _ => (lreg (sv (xadd rfl rfl (w64 (by omega) (by omega))) (sM rfl (lend (nThen ?_)))))))))))))))))))
     refine ⟨(j + 1, s + t.size), _, env_okl ⟨rfl, rfl, rfl, rfl, rfl, rfl, rfl, rfl, rfl, rfl, rfl, rfl, trivial⟩, ⟨hL19, (by omega), (by omega)⟩, ?_⟩
     show r.texts.length - (j + 1) < r.texts.length - j; omega
    ·
     refine send (fg [(1, _), (7, _), (8, _), (36, _), (37, _), (38, _), (42, _), (43, _), (44, _), (56, _), (57, _), (58, _), (59, _)] ⟨rfl, rfl, rfl, rfl, rfl, rfl, rfl, rfl, rfl, rfl, rfl, rfl, rfl, ⟨⟩⟩ fun _ => (wp_seq (cno rfl (wp_exit (eThen (eThen (eHit (nThen (fg [(1, _), (7, _), (8, _), (36, _), (37, _), (38, _), (42, _), (43, _), (44, _)] ⟨rfl, rfl, rfl, rfl, rfl, rfl, rfl, rfl, rfl, ⟨⟩⟩ fun _ => (wp_seq ?_))))))))))
     have eT : r.texts.take j = r.texts := List.take_of_length_le (by omega)
     rw [eT] at hs
     refine sreg (sv (xfld fl65_15 rfl) (sv (xld on63 rfl (h7.r.c 15 rfl rfl)) (sv (xlen sl63 rfl) (sM rfl (send (fg [(1, _), (7, _), (8, _), (36, _), (37, _), (38, _), (42, _), (43, _), (44, _), (68, _), (69, _), (70, _)] ⟨rfl, rfl, rfl, rfl, rfl, rfl, rfl, rfl, rfl, rfl, rfl, rfl, ⟨⟩⟩ fun _ => (wp_block ?_)))))))
     refine lp [(1, _), (7, _), (36, _), (37, _), (38, _), (42, _), (43, _), (44, _), (68, _), (69, _)] (fun (x : Nat × Nat) => match x with | (j, s2) => [(8, .int .i64 (s2 : Int)), (70, .int .i64 (j : Int))]) (fun (x : Nat × Nat) wx => match x with | (j, s2) => Fr (fun _ => False) w20 wx ∧ (j ≤ r.pairs.length) ∧ (s2 = s + ((r.pairs.take j).map (fun p : PairD => p.data.length + 4)).sum)) (fun (x : Nat × Nat) => match x with | (j, s2) => r.pairs.length - j) (0, s) ⟨rfl, rfl, rfl, rfl, rfl, rfl, rfl, rfl, rfl, rfl, rfl, rfl, trivial⟩ ⟨Fr.refl _ _, Nat.zero_le _, rfl⟩ ?_
     rintro ⟨j, s2⟩ _ w23 ⟨hL22, hj, hs2⟩
     refine fg [(1, _), (7, _), (8, _), (36, _), (37, _), (38, _), (42, _), (43, _), (44, _), (68, _), (69, _), (70, _)] ⟨rfl, rfl, rfl, rfl, rfl, rfl, rfl, rfl, rfl, rfl, rfl, rfl, ⟨⟩⟩ fun _ => ?_
     have z24 := hL22.size
     have ha := ha.keep ask_st (lU hU (by omega)) hL22 nF
     have y1 := y1.keep rec_st (lU hU (by omega)) hL22 nF
     have y2 := y2.keep rec_st (lU hU (by omega)) hL22 nF
     have y3 := y3.keep rec_st (lU hU (by omega)) hL22 nF
     have hf := hf.step0 hL22
     have h1 := h1.keep hL22 id
     have hL7 := hL7.step0 hL22
     have hL10 := hL10.step0 hL22
     have hp := hp.keep pair_st (lU hU (by omega)) hL22 nF
     have h7 := h7.keep hL22 id
     refine sreg ?_
     refine svP (xlss rfl rfl) (fun hc71 => ?_) (fun hc71 => ?_)
     ·
      refine send (fg [(1, _), (7, _), (8, _), (36, _), (37, _), (38, _), (42, _), (43, _), (44, _), (68, _), (69, _), (70, _), (71, _)] ⟨rfl, rfl, rfl, rfl, rfl, rfl, rfl, rfl, rfl, rfl, rfl, rfl, rfl, ⟨⟩⟩ fun _ => (wp_seq (cyes rfl (wp_skip (nThen (fg [(1, _), (7, _), (8, _), (36, _), (37, _), (38, _), (42, _), (43, _), (44, _), (68, _), (69, _), (70, _)] ⟨rfl, rfl, rfl, rfl, rfl, rfl, rfl, rfl, rfl, rfl, rfl, rfl, ⟨⟩⟩ fun _ => (wp_seq (wp_block ?_))))))))
      obtain ⟨p, hpj⟩ := some_of_lt (by omega : j < r.pairs.length)
      have hps := sum_take_le (f := fun p : PairD => p.data.length + 4) hpj
      have hpa := sum_take_add (f := fun p : PairD => p.data.length + 4) hpj
      refine sreg ?_
      obtain ⟨bE72, oE72, sgE72, rfl, uE72, hsE72, heE72⟩ := LA.get hp hpj
      obtain ⟨vdp, rfl, hdp⟩ := heE72
      have zE72 := hU _ uE72
      obtain ⟨adp, cdp, rfl, -⟩ := id hdp
      refine sv (xidx sl63 sz67 rfl rfl rfl (by omega)) (sv (xldS (lens := [1, 1]) ro67 rfl hsE72) ?_)
      refine svK (xallS (lens := [1, 1]) in67 rfl) ?_
      rintro _ w26 ⟨b12, rfl, m27, h12, e25, s25⟩
      have ha := ha.keep ask_st (lU hU (by omega)) m27 nF
      have y1 := y1.keep rec_st (lU hU (by omega)) m27 nF
      have y2 := y2.keep rec_st (lU hU (by omega)) m27 nF
      have y3 := y3.keep rec_st (lU hU (by omega)) m27 nF
      have hf := hf.step0 m27
      have h1 := h1.keep m27 id
      have hL7 := hL7.step0 m27
      have hL10 := hL10.step0 m27
      have h7 := h7.keep m27 id
      have hL22 := hL22.step0 m27
      refine suK (xstW h12 (lens' := [1, 1]) sz67 rfl rfl rfl rfl rfl) ?_
      rintro w29 ⟨m30, h12, s28⟩
      have ha := ha.keep ask_st (lU hU (by omega)) m30 (fun k hk hS => by have hk := hU k hk; have hS : k = b12 := hS; omega)
      have y1 := y1.keep rec_st (lU hU (by omega)) m30 (fun k hk hS => by have hk := hU k hk; have hS : k = b12 := hS; omega)
      have y2 := y2.keep rec_st (lU hU (by omega)) m30 (fun k hk hS => by have hk := hU k hk; have hS : k = b12 := hS; omega)
      have y3 := y3.keep rec_st (lU hU (by omega)) m30 (fun k hk hS => by have hk := hU k hk; have hS : k = b12 := hS; omega)
      have hf := hf.step m30 (fun k hk hS => by have hS : k = b12 := hS; show False; omega)
      have h1 := h1.keep m30 (by show ¬ (b1 = b12); omega)
      have hL7 := hL7.step m30 (fun k hk hS => by have hS : k = b12 := hS; show False; omega)
      have hL10 := hL10.step m30 (fun k hk hS => by have hS : k = b12 := hS; show False; omega)
      have h7 := h7.keep m30 (by show ¬ (b7 = b12); omega)
      have hL22 := hL22.step m30 (fun k hk hS => by have hS : k = b12 := hS; show False; omega)
      refine send (fg [(1, _), (7, _), (8, _), (12, _), (36, _), (37, _), (38, _), (42, _), (43, _), (44, _), (68, _), (69, _), (70, _)] ⟨rfl, rfl, rfl, rfl, rfl, rfl, rfl, rfl, rfl, rfl, rfl, rfl, rfl, ⟨⟩⟩ fun _ => (lreg (sM rfl (sv (xfld fl67_1 rfl) (sv (xld on37 rfl (h12.r.c 1 rfl rfl)) (sv (xlen sl37 rfl) (sv (xadd rfl rfl (w64 (by omega) (by omega))) (sv (xadd rfl rfl (w64 (by omega) (by omega))) (sA rfl (lend (nBlock (nThen (fg [(1, _), (7, _), (8, _), (36, _), (37, _), (38, _), (42, _), (43, _), (44, _), (68, _), (69, _), (70, _)] ⟨rfl, rfl, rfl, rfl, rfl, rfl, rfl, rfl, rfl, rfl, rfl, rfl, ⟨⟩⟩ fun _ => (lreg (sv (xadd rfl rfl (w64 (by omega) (by omega))) (sM rfl (lend (nThen ?_))))))))))))))))))
      refine ⟨(j + 1, s2 + (p.data.length + 4)), _, env_okl ⟨rfl, rfl, rfl, rfl, rfl, rfl, rfl, rfl, rfl, rfl, rfl, rfl, trivial⟩, ⟨hL22, (by omega), (by omega)⟩, ?_⟩
      show r.pairs.length - (j + 1) < r.pairs.length - j; omega
     ·
      refine send (fg [(1, _), (7, _), (8, _), (36, _), (37, _), (38, _), (42, _), (43, _), (44, _), (68, _), (69, _), (70, _), (71, _)] ⟨rfl, rfl, rfl, rfl, rfl, rfl, rfl, rfl, rfl, rfl, rfl, rfl, rfl, ⟨⟩⟩ fun _ => (wp_seq (cno rfl (wp_exit (eThen (eThen (eHit (nThen (fg [(1, _), (7, _), (8, _), (36, _), (37, _), (38, _), (42, _), (43, _), (44, _)] ⟨rfl, rfl, rfl, rfl, rfl, rfl, rfl, rfl, rfl, ⟨⟩⟩ fun _ => ?_)))))))))
      have eP : r.pairs.take j = r.pairs := List.take_of_length_le (by omega)
      rw [eP] at hs2
      refine sreg (sv (xfld fl65_5 rfl) (sv (xld on3 rfl (h7.r.c 5 rfl rfl)) ?_))
      refine svP (xlss rfl rfl) (fun hc83 => ?_) (fun hc83 => ?_)
      ·
       refine sM rfl (gno rfl rfl rfl (gno rfl rfl rfl (gno rfl rfl rfl (sv (xpickT rfl rfl) (sM rfl (gno rfl rfl rfl (gno rfl rfl rfl (sv (xpickT rfl rfl) (send (fg [(1, _), (36, _), (37, _), (38, _), (42, _), (43, _), (44, _), (92, _)] ⟨rfl, rfl, rfl, rfl, rfl, rfl, rfl, rfl, ⟨⟩⟩ fun _ => (cyes rfl (sreg (sA rfl (send (fg [(2, _)] ⟨rfl, ⟨⟩⟩ fun _ => (wp_ret (rBlock (rThen (rThen (rBlock (rBlock (rThen (rThen (rBlock ?_))))))))))))))))))))))))
       refine rThen ?_
       refine rp1 rfl rfl ?_
       exact ⟨_, rfl, (fun h => by cases h), hf⟩
      ·
       refine sM rfl (gyes rfl rfl rfl (sv (xfld fl65_5 rfl) (gyes rfl rfl rfl (sv (xld on3 rfl (h7.r.c 5 rfl rfl)) (gyes rfl rfl rfl ?_)))))
       refine svP (xgtr rfl rfl) (fun hc87 => ?_) (fun hc87 => ?_)
       ·
        refine sv (xpickF rfl rfl) (sM rfl (gno rfl rfl rfl (gno rfl rfl rfl (sv (xpickT rfl rfl) (send (fg [(1, _), (36, _), (37, _), (38, _), (42, _), (43, _), (44, _), (92, _)] ⟨rfl, rfl, rfl, rfl, rfl, rfl, rfl, rfl, ⟨⟩⟩ fun _ => (cyes rfl (sreg (sA rfl (send (fg [(2, _)] ⟨rfl, ⟨⟩⟩ fun _ => (wp_ret (rBlock (rThen (rThen (rBlock (rBlock (rThen (rThen (rBlock (rThen ?_)))))))))))))))))))))
        refine rp1 rfl rfl ?_
        exact ⟨_, rfl, (fun h => by cases h), hf⟩
       ·
        refine sv (xpickF rfl rfl) (sM rfl (gyes rfl rfl rfl (sM rfl (gyes rfl rfl rfl ?_))))
        refine svP (xgtr rfl rfl) (fun hc91 => ?_) (fun hc91 => ?_)
        ·
         refine sv (xpickF rfl rfl) (send (fg [(1, _), (36, _), (37, _), (38, _), (42, _), (43, _), (44, _), (92, _)] ⟨rfl, rfl, rfl, rfl, rfl, rfl, rfl, rfl, ⟨⟩⟩ fun _ => (cyes rfl (sreg (sA rfl (send (fg [(2, _)] ⟨rfl, ⟨⟩⟩ fun _ => (wp_ret (rBlock (rThen (rThen (rBlock (rBlock (rThen (rThen (rBlock (rThen ?_)))))))))))))))))
         refine rp1 rfl rfl ?_
         exact ⟨_, rfl, (fun h => by cases h), hf⟩
        ·
         refine sv (xpickF rfl rfl) (send (fg [(1, _), (36, _), (37, _), (38, _), (42, _), (43, _), (44, _), (92, _)] ⟨rfl, rfl, rfl, rfl, rfl, rfl, rfl, rfl, ⟨⟩⟩ fun _ => (cno rfl (wp_skip (nBlock (nThen (fg [(1, _), (36, _), (37, _), (38, _), (42, _), (43, _), (44, _)] ⟨rfl, rfl, rfl, rfl, rfl, rfl, rfl, ⟨⟩⟩ fun _ => (lreg (sv (xadd rfl rfl (w64 (by omega) (by omega))) (sM rfl (lend (nThen ?_))))))))))))
         refine ⟨k + 1, _, env_okl ⟨rfl, rfl, rfl, rfl, rfl, rfl, rfl, trivial⟩, ⟨hL10, (by omega), (upto_step hI hrk ⟨by omega, by omega, by simp only [sizeR]; omega⟩)⟩, ?_⟩
         show l.length - (k + 1) < l.length - k; omega
   ·
    refine send (fg [(1, _), (36, _), (37, _), (38, _), (42, _), (43, _), (44, _), (45, _)] ⟨rfl, rfl, rfl, rfl, rfl, rfl, rfl, rfl, ⟨⟩⟩ fun _ => (wp_seq (cno rfl (wp_exit (eThen (eThen (eHit (nBlock (nThen (fg [(1, _), (36, _), (37, _), (38, _)] ⟨rfl, rfl, rfl, rfl, ⟨⟩⟩ fun _ => (lreg (sv (xadd rfl rfl (w64 (by omega) (by omega))) (sM rfl (lend (nThen ?_)))))))))))))))
    refine ⟨i + 1, _, env_okl ⟨rfl, rfl, rfl, rfl, trivial⟩, ⟨hL7, (by omega), (upto_step hO hul (upto_all hI (by omega)))⟩, ?_⟩
    show 3 - (i + 1) < 3 - i; omega
  ·
   refine send (fg [(1, _), (36, _), (37, _), (38, _), (39, _)] ⟨rfl, rfl, rfl, rfl, rfl, ⟨⟩⟩ fun _ => (wp_seq (cno rfl (wp_exit (eThen (eThen (eHit (nThen (fg [(1, _)] ⟨rfl, ⟨⟩⟩ fun _ => (sreg (sv (xldS (lens := lMsg) ro34 rfl h1.r) ?_)))))))))))
   refine sc (xcall ca33 rfl) (c33 (lU hU (by omega)) ha y1 y2 y3 hfa hfr (by omega)) ?_
   rintro _ w31 ⟨gb96, rfl, gp96, m32⟩
   have z33 := m32.size
   have hf := hf.step0 m32
   rcases Bool.eq_false_or_eq_true gb96 with rfl | rfl
   ·
    refine sA rfl (send (fg [(2, _)] ⟨rfl, ⟨⟩⟩ fun _ => (wp_ret ?_)))
    refine rp1 rfl rfl ?_
    exact ⟨_, rfl, (fun _ => ⟨by omega, upto_all hO (by simp; omega), gp96 rfl⟩), hf⟩
   ·
    refine sA rfl (send (fg [(2, _)] ⟨rfl, ⟨⟩⟩ fun _ => (wp_ret ?_)))
    refine rp1 rfl rfl ?_
    exact ⟨_, rfl, (fun h => by cases h), hf⟩
end Go.Proofs.YtifnodoffgfpbaaGreatDoor

namespace Go.Proofs.YtifnodoffgfpbaaGreatDoor
open Go
set_option maxHeartbeats 4000000 in
set_option maxRecDepth 100000 in
theorem c19 {w : World} {U V : Nat → Prop} {a b : Value} {cs bs : List UInt8} (ha : BA U w a cs) (hb : BA V w b bs) :
  Ret PP 19 [a, b] w (fun u w' => u = .bool (decide (cs = bs)) ∧ Fr0 w w') := by
 have hf : Fr (fun _ => False) w w := Fr.refl _ _
 refine ret_of Tryz.func19 rfl rfl rfl [(0, _), (1, _)] rfl ?_
 refine sreg (sA rfl (send (fg [(0, _), (1, _)] ⟨rfl, rfl, ⟨⟩⟩ fun _ => (sreg (sM rfl (sv (xb2sB sl37 ki5 st9 ha rfl) (sM rfl (sv (xb2sB sl37 ki5 st9 hb rfl) ?_))))))))
 refine svP (xeqs rfl rfl) (fun hc9 => ?_) (fun hc9 => ?_)
 ·
  refine sA rfl (send (fg [(4, _)] ⟨rfl, ⟨⟩⟩ fun _ => (wp_ret ?_)))
  refine rp1 rfl rfl ?_
  exact ⟨by rw [decide_eq_true (ba_str_eq.1 hc9)], hf⟩
 ·
  refine sA rfl (send (fg [(4, _)] ⟨rfl, ⟨⟩⟩ fun _ => (wp_ret ?_)))
  refine rp1 rfl rfl ?_
  exact ⟨by rw [decide_eq_false (fun h => hc9 (ba_str_eq.2 h))], hf⟩
set_option maxHeartbeats 4000000 in
set_option maxRecDepth 100000 in
theorem c29 {w : World} {U : Nat → Prop} (hU : ∀ k, U k → k < w.heap.size) {v : Value} {l : List RecD} (hl : LA RecEl lRec U w v l) (hn : l.length ≤ 1048576) (hpn : ∀ r ∈ l, r.fits) :
  Ret PP 29 [v] w (fun u w' => LA RecEl lRec (Ub U w w') w' u l ∧ Fr0 w w') := by
 obtain ⟨a0, c0, rfl⟩ := hl.form
 have hf : Fr (fun _ => False) w w := Fr.refl _ _
 refine ret_of Tryz.func29 rfl rfl rfl [(0, _)] rfl ?_
 refine sreg (sA rfl (send (fg [(0, _)] ⟨rfl, ⟨⟩⟩ fun _ => (sreg ?_))))
 refine svK (xslit ([]) sl32 in65 rfl (by decide) rfl rfl rfl rfl (by decide) rfl rfl) ?_
 rintro _ w2 ⟨b9, rfl, m3, h9, e9, s9, r9⟩
 have hl := hl.keep rec_st (lU hU (by omega)) m3 nF
 have hf := hf.step0 m3
 have hv3 : RX RecEl lRec U w.heap.size w2.heap.size w2 _ b9 65 0 [] := RX.ofNil r9
 refine sA rfl (send (fg [(0, _), (3, _)] ⟨rfl, rfl, ⟨⟩⟩ fun _ => (wp_seq (sreg (sM rfl (sv (xlen sl26 rfl) (sM rfl (send (fg [(3, _), (10, _), (11, _), (12, _)] ⟨rfl, rfl, rfl, rfl, ⟨⟩⟩ fun _ => (wp_block ?_))))))))))
 refine lp [(10, _), (11, _)] (fun (x : Nat × Value × Nat) => match x with | (k, v, g) => [(3, v), (12, .int .i64 (k : Int))]) (fun (x : Nat × Value × Nat) wx => match x with | (k, v, g) => Fr (fun k => k = b9) w2 wx ∧ (k ≤ l.length) ∧ (RX RecEl lRec U w.heap.size wx.heap.size wx v g 65 k (l.take k)) ∧ (w.heap.size ≤ g) ∧ (g < wx.heap.size) ∧ (g = b9 ∨ w2.heap.size ≤ g)) (fun (x : Nat × Value × Nat) => match x with | (k, v, g) => l.length - k) (0, _, b9) ⟨rfl, rfl, rfl, rfl, trivial⟩ ⟨Fr.refl _ _, Nat.zero_le _, hv3, by omega, by omega, .inl rfl⟩ ?_
 rintro ⟨k, v, g⟩ _ w5 ⟨hL4, hk, hv3, hg, hg2, hg3⟩
 refine fg [(3, _), (10, _), (11, _), (12, _)] ⟨rfl, rfl, rfl, rfl, ⟨⟩⟩ fun _ => ?_
 have z6 := hL4.size
 have hl := hl.keep rec_st (lU hU (by omega)) hL4 (fun k hk hS => by have hk := hU k hk; have hS : k = b9 := hS; omega)
 have hf := hf.step hL4 (fun k hk hS => by have hS : k = b9 := hS; show False; omega)
 obtain ⟨a3, c3, rfl⟩ := RA.form hv3
 refine sreg ?_
 refine svP (xlss rfl rfl) (fun hc13 => ?_) (fun hc13 => ?_)
 ·
  refine send (fg [(3, _), (10, _), (11, _), (12, _), (13, _)] ⟨rfl, rfl, rfl, rfl, rfl, ⟨⟩⟩ fun _ => (wp_seq (cyes rfl (wp_skip (nThen (fg [(3, _), (10, _), (11, _), (12, _)] ⟨rfl, rfl, rfl, rfl, ⟨⟩⟩ fun _ => (wp_seq (wp_block ?_))))))))
  obtain ⟨r, hrk⟩ := some_of_lt (by omega : k < l.length)
  have hrf := hpn r (List.mem_of_getElem? hrk)
  simp only [RecD.fits] at hrf
  refine sreg ?_
  obtain ⟨bE14, oE14, sgE14, rfl, uE14, hsE14, heE14⟩ := LA.get hl hrk
  obtain ⟨vd, vt, vp, rfl, hd, ht, hp⟩ := heE14
  have zE14 := hU _ uE14
  obtain ⟨ad, cd, rfl, -⟩ := id hd
  obtain ⟨at1, ct1, rfl⟩ := ht.form
  obtain ⟨ap1, cp1, rfl⟩ := hp.form
  refine sv (xidx sl26 sz112 rfl rfl rfl (by omega)) (sv (xldS (lens := lRec) ro112 rfl hsE14) ?_)
  refine svK (xallS (lens := lRec) in112 rfl) ?_
  rintro _ w8 ⟨b5, rfl, m9, h5, e7, s7⟩
  have hf := hf.step0 m9
  have hv3 := RX.keep hv3 rec_st (lU hU (by omega)) (by omega) m9 (fun _ _ _ h => h) id
  have hL4 := hL4.step0 m9
  have hd := hd.keep (lU hU (by omega)) m9 nF
  have ht := ht.keep text_st (lU hU (by omega)) m9 nF
  have hp := hp.keep pair_st (lU hU (by omega)) m9 nF
  refine suK (xstW h5 (lens' := lRec) sz112 rfl rfl rfl rfl rfl) ?_
  rintro w11 ⟨m12, h5, s10⟩
  have hf := hf.step m12 (fun k hk hS => by have hS : k = b5 := hS; show False; omega)
  have hv3 := RX.keep hv3 rec_st (lU hU (by omega)) (by omega) m12 (fun k hk hk3 hS => by have hS : k = b5 := hS; rcases hk with hk | hk <;> first | omega | (have := hU k hk; omega)) (by show ¬ (g = b5); omega)
  have hL4 := hL4.step m12 (fun k hk hS => by have hS : k = b5 := hS; show k = b9; omega)
  have hd := hd.keep (lU hU (by omega)) m12 (fun k hk hS => by have hk := hU k hk; have hS : k = b5 := hS; omega)
  have ht := ht.keep text_st (lU hU (by omega)) m12 (fun k hk hS => by have hk := hU k hk; have hS : k = b5 := hS; omega)
  have hp := hp.keep pair_st (lU hU (by omega)) m12 (fun k hk hS => by have hk := hU k hk; have hS : k = b5 := hS; omega)
  refine send (fg [(3, _), (5, _), (10, _), (11, _), (12, _)] ⟨rfl, rfl, rfl, rfl, rfl, ⟨⟩⟩ fun _ => (sreg ?_))
  refine svK (xslit ([]) sl63 in67 rfl (by decide) rfl rfl rfl rfl (by decide) rfl rfl) ?_
  rintro _ w14 ⟨b16, rfl, m15, h16, e16, s16, r16⟩
  have hf := hf.step0 m15
  have hv3 := RX.keep hv3 rec_st (lU hU (by omega)) (by omega) m15 (fun _ _ _ h => h) id
  have hL4 := hL4.step0 m15
  have hd := hd.keep (lU hU (by omega)) m15 nF
  have ht := ht.keep text_st (lU hU (by omega)) m15 nF
  have hp := hp.keep pair_st (lU hU (by omega)) m15 nF
  have h5 := h5.keep m15 id
  have hv6 : RA PairEl lPair U w14 _ b16 67 0 [] := ⟨[], r16, All2.nil⟩
  refine sA rfl (send (fg [(3, _), (5, _), (6, _), (10, _), (11, _), (12, _)] ⟨rfl, rfl, rfl, rfl, rfl, rfl, ⟨⟩⟩ fun _ => (wp_seq (sreg (sv (xfld fl112_15 rfl) (sv (xld on110 rfl (h5.r.c 15 rfl rfl)) (sv (xlen sl110 rfl) (sM rfl (send (fg [(3, _), (5, _), (6, _), (10, _), (11, _), (12, _), (18, _), (19, _), (20, _)] ⟨rfl, rfl, rfl, rfl, rfl, rfl, rfl, rfl, rfl, ⟨⟩⟩ fun _ => (wp_block ?_)))))))))))
  refine lp [(3, _), (5, _), (10, _), (11, _), (12, _), (18, _), (19, _)] (fun (x : Nat × Value × Nat) => match x with | (j, v6, g6) => [(6, v6), (20, .int .i64 (j : Int))]) (fun (x : Nat × Value × Nat) wx => match x with | (j, v6, g6) => Fr (fun k => k = b16) w14 wx ∧ (j ≤ r.pairs.length) ∧ (RA PairEl lPair U wx v6 g6 67 j (r.pairs.take j)) ∧ (w.heap.size ≤ g6) ∧ (g6 < wx.heap.size) ∧ (g6 = b16 ∨ w14.heap.size ≤ g6)) (fun (x : Nat × Value × Nat) => match x with | (j, v6, g6) => r.pairs.length - j) (0, _, b16) ⟨rfl, rfl, rfl, rfl, rfl, rfl, rfl, rfl, rfl, trivial⟩ ⟨Fr.refl _ _, Nat.zero_le _, hv6, by omega, by omega, .inl rfl⟩ ?_
  rintro ⟨j, v6, g6⟩ _ w17 ⟨hL16, hj, hv6, hg6, hg7, hg8⟩
  refine fg [(3, _), (5, _), (6, _), (10, _), (11, _), (12, _), (18, _), (19, _), (20, _)] ⟨rfl, rfl, rfl, rfl, rfl, rfl, rfl, rfl, rfl, ⟨⟩⟩ fun _ => ?_
  have z18 := hL16.size
  have hf := hf.step hL16 (fun k hk hS => by have hS : k = b16 := hS; show False; omega)
  have hv3 := RX.keep hv3 rec_st (lU hU (by omega)) (by omega) hL16 (fun k hk hk3 hS => by have hS : k = b16 := hS; rcases hk with hk | hk <;> first | omega | (have := hU k hk; omega)) (by show ¬ (g = b16); omega)
  have hL4 := hL4.step hL16 (fun k hk hS => by have hS : k = b16 := hS; show k = b9; omega)
  have hd := hd.keep (lU hU (by omega)) hL16 (fun k hk hS => by have hk := hU k hk; have hS : k = b16 := hS; omega)
  have ht := ht.keep text_st (lU hU (by omega)) hL16 (fun k hk hS => by have hk := hU k hk; have hS : k = b16 := hS; omega)
  have hp := hp.keep pair_st (lU hU (by omega)) hL16 (fun k hk hS => by have hk := hU k hk; have hS : k = b16 := hS; omega)
  have h5 := h5.keep hL16 (by show ¬ (b5 = b16); omega)
  obtain ⟨a6, c6, rfl⟩ := RA.form hv6
  refine sreg ?_
  refine svP (xlss rfl rfl) (fun hc21 => ?_) (fun hc21 => ?_)
  ·
   refine send (fg [(3, _), (5, _), (6, _), (10, _), (11, _), (12, _), (18, _), (19, _), (20, _), (21, _)] ⟨rfl, rfl, rfl, rfl, rfl, rfl, rfl, rfl, rfl, rfl, ⟨⟩⟩ fun _ => (wp_seq (cyes rfl (wp_skip (nThen (fg [(3, _), (5, _), (6, _), (10, _), (11, _), (12, _), (18, _), (19, _), (20, _)] ⟨rfl, rfl, rfl, rfl, rfl, rfl, rfl, rfl, rfl, ⟨⟩⟩ fun _ => (wp_seq (wp_block ?_))))))))
   obtain ⟨p, hpj⟩ := some_of_lt (by omega : j < r.pairs.length)
   refine sreg ?_
   obtain ⟨bE22, oE22, sgE22, rfl, uE22, hsE22, heE22⟩ := LA.get hp hpj
   obtain ⟨vdp, rfl, hdp⟩ := heE22
   have zE22 := hU _ uE22
   obtain ⟨adp, cdp, rfl, -⟩ := id hdp
   refine sv (xidx sl110 sz145 rfl rfl rfl (by omega)) (sv (xldS (lens := [1, 1]) ro145 rfl hsE22) ?_)
   refine svK (xallS (lens := [1, 1]) in145 rfl) ?_
   rintro _ w20 ⟨b8, rfl, m21, h8, e19, s19⟩
   have hf := hf.step0 m21
   have hv3 := RX.keep hv3 rec_st (lU hU (by omega)) (by omega) m21 (fun _ _ _ h => h) id
   have hL4 := hL4.step0 m21
   have hd := hd.keep (lU hU (by omega)) m21 nF
   have ht := ht.keep text_st (lU hU (by omega)) m21 nF
   have h5 := h5.keep m21 id
   have hv6 := hv6.keep pair_st (lU hU (by omega)) m21 nF id
   have hL16 := hL16.step0 m21
   have hdp := hdp.keep (lU hU (by omega)) m21 nF
   refine suK (xstW h8 (lens' := [1, 1]) sz145 rfl rfl rfl rfl rfl) ?_
   rintro w23 ⟨m24, h8, s22⟩
   have hf := hf.step m24 (fun k hk hS => by have hS : k = b8 := hS; show False; omega)
   have hv3 := RX.keep hv3 rec_st (lU hU (by omega)) (by omega) m24 (fun k hk hk3 hS => by have hS : k = b8 := hS; rcases hk with hk | hk <;> first | omega | (have := hU k hk; omega)) (by show ¬ (g = b8); omega)
   have hL4 := hL4.step m24 (fun k hk hS => by have hS : k = b8 := hS; show k = b9; omega)
   have hd := hd.keep (lU hU (by omega)) m24 (fun k hk hS => by have hk := hU k hk; have hS : k = b8 := hS; omega)
   have ht := ht.keep text_st (lU hU (by omega)) m24 (fun k hk hS => by have hk := hU k hk; have hS : k = b8 := hS; omega)
   have h5 := h5.keep m24 (by show ¬ (b5 = b8); omega)
   have hv6 := hv6.keep pair_st (lU hU (by omega)) m24 (fun k hk hS => by have hk := hU k hk; have hS : k = b8 := hS; omega) (by show ¬ (g6 = b8); omega)
   have hL16 := hL16.step m24 (fun k hk hS => by have hS : k = b8 := hS; show k = b16; omega)
   have hdp := hdp.keep (lU hU (by omega)) m24 (fun k hk hS => by have hk := hU k hk; have hS : k = b8 := hS; omega)
   refine send (fg [(3, _), (5, _), (6, _), (8, _), (10, _), (11, _), (12, _), (18, _), (19, _), (20, _)] ⟨rfl, rfl, rfl, rfl, rfl, rfl, rfl, rfl, rfl, rfl, ⟨⟩⟩ fun _ => (lreg (sM rfl (sv (xldS (lens := [1, 1]) ro145 rfl h8.r) ?_))))
   refine svK (xslit ((pairSegs p (.slice adp p.data.length cdp)).flatten) sl63 in67 rfl (by decide) rfl rfl rfl rfl (by decide) rfl rfl) ?_
   rintro _ w26 ⟨b26, rfl, m27, h26, e26, s26, r26⟩
   have hf := hf.step0 m27
   have hv3 := RX.keep hv3 rec_st (lU hU (by omega)) (by omega) m27 (fun _ _ _ h => h) id
   have hL4 := hL4.step0 m27
   have hd := hd.keep (lU hU (by omega)) m27 nF
   have ht := ht.keep text_st (lU hU (by omega)) m27 nF
   have h5 := h5.keep m27 id
   have hv6 := hv6.keep pair_st (lU hU (by omega)) m27 nF id
   have hL16 := hL16.step0 m27
   have hdp := hdp.keep (lU hU (by omega)) m27 nF
   obtain ⟨ss27, hR27, hA27⟩ := hv6
   refine svK (xapp sl63 in67 rfl (by decide) rfl rfl hR27 (r26.src sl63) (by simp only [maxLen]; omega) (by omega)) ?_
   rintro v27 w28 ⟨g27, r27, m29, a27, l27⟩
   have z30 := m29.size
   have hf := hf.step m29 (fun k hk hS => by have hS : k = g6 := hS; show False; omega)
   have hv3 := RX.keep hv3 rec_st (lU hU (by omega)) (by omega) m29 (fun k hk hk3 hS => by have hS : k = g6 := hS; rcases hk with hk | hk <;> first | omega | (have := hU k hk; omega)) (by show ¬ (g = g6); omega)
   have hL4 := hL4.step m29 (fun k hk hS => by have hS : k = g6 := hS; show k = b9; omega)
   have hd := hd.keep (lU hU (by omega)) m29 (fun k hk hS => by have hk := hU k hk; have hS : k = g6 := hS; omega)
   have ht := ht.keep text_st (lU hU (by omega)) m29 (fun k hk hS => by have hk := hU k hk; have hS : k = g6 := hS; omega)
   have h5 := h5.keep m29 (by show ¬ (b5 = g6); omega)
   have hL16 := hL16.step m29 (fun k hk hS => by have hS : k = g6 := hS; show k = b16; omega)
   have hdp := hdp.keep (lU hU (by omega)) m29 (fun k hk hS => by have hk := hU k hk; have hS : k = g6 := hS; omega)
   have hv6 := RA.snoc (x := p) hA27 pair_st pair_gr (lU hU (by omega)) m29 (fun k hk hS => by have hk := hU k hk; have hS : k = g6 := hS; omega) (fun _ h => h) r27 rfl (⟨_, rfl, hdp⟩)
   refine sA rfl (lend (nBlock (nThen (fg [(3, _), (5, _), (6, _), (10, _), (11, _), (12, _), (18, _), (19, _), (20, _)] ⟨rfl, rfl, rfl, rfl, rfl, rfl, rfl, rfl, rfl, ⟨⟩⟩ fun _ => (lreg (sv (xadd rfl rfl (w64 (by omega) (by omega))) (sM rfl (lend (nThen ?_)))))))))
   refine ⟨(j + 1, _, g27), _, env_okl ⟨rfl, rfl, rfl, rfl, rfl, rfl, rfl, rfl, rfl, trivial⟩, ⟨hL16, (by omega), (by rw [take_snoc hpj]; exact hv6), (by omega), (l27 (by omega)), (by omega)⟩, ?_⟩
   show r.pairs.length - (j + 1) < r.pairs.length - j; omega
  ·
   refine send (fg [(3, _), (5, _), (6, _), (10, _), (11, _), (12, _), (18, _), (19, _), (20, _), (21, _)] ⟨rfl, rfl, rfl, rfl, rfl, rfl, rfl, rfl, rfl, rfl, ⟨⟩⟩ fun _ => (wp_seq (cno rfl (wp_exit (eThen (eThen (eHit (nThen (fg [(3, _), (5, _), (6, _), (10, _), (11, _), (12, _)] ⟨rfl, rfl, rfl, rfl, rfl, rfl, ⟨⟩⟩ fun _ => ?_)))))))))
   have eP : r.pairs.take j = r.pairs := List.take_of_length_le (by omega)
   rw [eP] at hv6
   obtain rfl : j = r.pairs.length := by omega
   refine lreg (sM rfl (sv (xfld fl112_0 rfl) (sv (xld on9 rfl (h5.r.c 0 rfl rfl)) (sv (xfld fl112_1 rfl) (sv (xld on22 rfl (h5.r.c 1 rfl rfl)) (sv (xfld fl112_2 rfl) (sv (xld on22 rfl (h5.r.c 2 rfl rfl)) (sv (xfld fl112_3 rfl) (sv (xld on61 rfl (h5.r.c 3 rfl rfl)) (sv (xfld fl112_4 rfl) (sv (xld on22 rfl (h5.r.c 4 rfl rfl)) (sv (xfld fl112_5 rfl) (sv (xld on3 rfl (h5.r.c 5 rfl rfl)) (sv (xfld fl112_6 rfl) (sv (xld on37 rfl (h5.r.c 6 rfl rfl)) (sv (xfld fl112_7 rfl) (sv (xld on9 rfl (h5.r.c 7 rfl rfl)) (sv (xfld fl112_8 rfl) (sv (xld on9 rfl (h5.r.c 8 rfl rfl)) (sv (xfld fl112_9 rfl) (sv (xld on61 rfl (h5.r.c 9 rfl rfl)) (sv (xfld fl112_10 rfl) (sv (xld on61 rfl (h5.r.c 10 rfl rfl)) (sv (xfld fl112_11 rfl) ?_))))))))))))))))))))))))
   refine sv (xld on61 rfl (h5.r.c 11 rfl rfl)) (sv (xfld fl112_12 rfl) (sv (xld on61 rfl (h5.r.c 12 rfl rfl)) (sv (xfld fl112_13 rfl) (sv (xld on61 rfl (h5.r.c 13 rfl rfl)) (sv (xfld fl112_14 rfl) (sv (xld on62 rfl (h5.r.c 14 rfl rfl)) (sM rfl (sv (xbuildS (recSegs r (.slice ad r.data.length cd) (.slice at1 r.texts.length ct1) (.slice a6 r.pairs.length c6)) zr65 ly65 rfl (by simp [fitAll, zs65, Value.cells]) rfl) ?_))))))))
   refine svK (xslit ((recSegs r (.slice ad r.data.length cd) (.slice at1 r.texts.length ct1) (.slice a6 r.pairs.length c6)).flatten) sl32 in65 rfl (by decide) rfl rfl rfl rfl (by decide) rfl rfl) ?_
   rintro _ w32 ⟨b62, rfl, m33, h62, e62, s62, r62⟩
   have hf := hf.step0 m33
   have hv3 := RX.keep hv3 rec_st (lU hU (by omega)) (by omega) m33 (fun _ _ _ h => h) id
   have hL4 := hL4.step0 m33
   have hd := hd.keep (lU hU (by omega)) m33 nF
   have ht := ht.keep text_st (lU hU (by omega)) m33 nF
   have hv6 := hv6.keep pair_st (lU hU (by omega)) m33 nF id
   obtain ⟨ss63, hR63, hA63⟩ := hv3
   refine svK (xapp sl32 in65 rfl (by decide) rfl rfl hR63 (r62.src sl32) (by simp only [maxLen]; omega) (by omega)) ?_
   rintro v63 w34 ⟨g63, r63, m35, a63, l63⟩
   have z36 := m35.size
   have hf := hf.step m35 (fun k hk hS => by have hS : k = g := hS; show False; omega)
   have hL4 := hL4.step m35 (fun k hk hS => by have hS : k = g := hS; show k = b9; omega)
   have hd := hd.keep (lU hU (by omega)) m35 (fun k hk hS => by have hk := hU k hk; have hS : k = g := hS; omega)
   have ht := ht.keep text_st (lU hU (by omega)) m35 (fun k hk hS => by have hk := hU k hk; have hS : k = g := hS; omega)
   have hv6 := hv6.keep pair_st (lU hU (by omega)) m35 (fun k hk hS => by have hk := hU k hk; have hS : k = g := hS; omega) (by show ¬ (g6 = g); omega)
   have hv3 := RX.snoc (x := r) w34.heap.size hA63 rec_st rec_gr (lU hU (by omega)) (by omega) (by omega) m35 a63 r63 rfl (⟨_, _, _, rfl, hd.mono (fun k h => ⟨.inl h, by have := hU k h; omega⟩), ht.mono text_gr (fun k h => ⟨.inl h, by have := hU k h; omega⟩), RA.la hv6 (by decide) pair_gr (fun k h => ⟨.inl h, by have := hU k h; omega⟩) ⟨.inr (by omega), by omega⟩⟩)
   refine sA rfl (lend (nBlock (nThen (fg [(3, _), (10, _), (11, _), (12, _)] ⟨rfl, rfl, rfl, rfl, ⟨⟩⟩ fun _ => (lreg (sv (xadd rfl rfl (w64 (by omega) (by omega))) (sM rfl (lend (nThen ?_)))))))))
   refine ⟨(k + 1, _, g63), _, env_okl ⟨rfl, rfl, rfl, rfl, trivial⟩, ⟨hL4, (by omega), (by rw [take_snoc hrk]; exact RX.up rec_gr hv3 (by omega)), (by omega), (l63 (by omega)), (by omega)⟩, ?_⟩
   show l.length - (k + 1) < l.length - k; omega
 ·
  refine send (fg [(3, _), (10, _), (11, _), (12, _), (13, _)] ⟨rfl, rfl, rfl, rfl, rfl, ⟨⟩⟩ fun _ => (wp_seq (cno rfl (wp_exit (eThen (eThen (eHit (nThen (fg [(3, _)] ⟨rfl, ⟨⟩⟩ fun _ => (sreg (sM rfl (sA rfl (send (fg [(2, _)] ⟨rfl, ⟨⟩⟩ fun _ => (wp_ret ?_)))))))))))))))
  refine rp1 rfl rfl ?_
  have e : l.take k = l := List.take_of_length_le (by omega)
  rw [e] at hv3
  exact ⟨RX.la hv3 (by decide) rec_gr (fun k hk => hk.elim .inl .inr) (.inr ⟨hg, hg2⟩), hf⟩
end Go.Proofs.YtifnodoffgfpbaaGreatDoor

namespace Go.Proofs.YtifnodoffgfpbaaGreatDoor
open Go

theorem Uw.num {U : Nat → Prop} {n0 nb g n k : Nat} (hU : ∀ k, U k → k < n) (h : Uw U n0 nb g k) : (k < n ∨ (n0 ≤ k ∧ k < nb)) ∧ k ≠ g := ⟨h.1.imp_left (hU k), h.2⟩

inductive Tr where
  | lst (o : List (Nat × Kd))
  | rd (i : Nat) (t : Tr)
  | ld (i : Nat) (t : Tr)
  | two (i : Nat) (a : Tr) (j : Nat) (b : Tr)
def runT (P : Program) (ops : Array Oper) (Q : Exit → Act → World → Prop) (S : World → Prop) : Tr → Act → World → Prop
  | .lst o, a, w => runH P ops Q S o a w
  | .rd i t, a, w => ∃ o v, ops[i]? = some o ∧ YieldsIf P ops S o v a ∧ S w ∧ runT P ops Q S t (a.put o.dst v) w
  | .ld i t, a, w => wpOp P ops Q i (fun a' w' => S w' ∧ runT P ops Q S t a' w') a w
  | .two i t j u, a, w => wpOp P ops Q i (fun a' w' => S w' ∧ runT P ops Q S t a' w') a w ∧ wpOp P ops Q j (fun a' w' => S w' ∧ runT P ops Q S u a' w') a w
def readsT : Tr → List Nat
  | .lst o => reads o
  | .rd i t => i :: readsT t
  | .ld _ t => readsT t
  | .two _ a _ _ => readsT a
def okT (ops : Array Oper) (st : List Nat) : Array Bool → Tr → Bool
  | listed, .lst o => okRun ops st listed o
  | listed, .rd i t => st.contains i && Region.free .any ops listed i && (Region.ready .any ops listed).contains i && okT ops st (listed.setIfInBounds i true) t
  | listed, .ld i t => (Region.ready .any ops listed == [i]) && okT ops st (listed.setIfInBounds i true) t
  | listed, .two i a j b => (Region.ready .any ops listed == [i, j]) && okT ops st (listed.setIfInBounds i true) a && okT ops st (listed.setIfInBounds j true) b
def lenT : Tr → Nat
  | .lst o => o.length
  | .rd _ t => lenT t + 1
  | .ld _ t => lenT t + 1
  | .two _ a _ b => max (lenT a) (lenT b) + 1

section
variable {P : Program} {ops : Array Oper} {Q : Exit → Act → World → Prop} {S : World → Prop} {st : List Nat}
theorem runT_sound (hs : Region.noSelect ops = true) (hQ : ∀ c d v a w, Q (.panic c) (a.put d v) w → Q (.panic c) a w) :
    ∀ (t : Tr) (listed : Array Bool) (a : Act) (w : World) (fuel : Nat), closedUp ops listed → okT ops st listed t = true → lenT t ≤ fuel → runT P ops Q S t a w → wpAnyP P ops Q S st fuel listed a w
  | .lst o, listed, a, w, fuel, hc, hok, hf, h => runH_sound hs hQ o listed a w fuel hc hok hf h
  | .rd i t, listed, a, w, fuel, hc, hok, hf, h => by
    simp only [okT, Bool.and_eq_true] at hok
    obtain ⟨o, v, ho, hy, hS, hk⟩ := h
    cases fuel with
    | zero => simp [lenT] at hf
    | succ fuel =>
      have hr : i ∈ Region.ready .any ops listed := by simpa using hok.1.2
      refine wpAnyP_first ho (by simpa using hok.1.1.1) (Region.noSelect_spec hs) (fun c a w => hQ c _ _ a w) fuel listed a w hc hok.1.1.2 hr hy hS ?_
      exact runT_sound hs hQ t _ _ _ _ (closedUp_set hc hr) hok.2 (by simpa [lenT] using hf) hk
  | .ld i t, listed, a, w, fuel, hc, hok, hf, h => by
    simp only [okT, Bool.and_eq_true, beq_iff_eq] at hok
    cases fuel with
    | zero => simp [lenT] at hf
    | succ fuel =>
      refine wpAnyP_one hok.1 (wpOp_mono (fun a' w' h' => ⟨.inr h'.1, ?_⟩) h)
      exact runT_sound hs hQ t _ _ _ _ (closedUp_set hc (by rw [hok.1]; simp)) hok.2 (by simpa [lenT] using hf) h'.2
  | .two i t j u, listed, a, w, fuel, hc, hok, hf, h => by
    simp only [okT, Bool.and_eq_true, beq_iff_eq] at hok
    cases fuel with
    | zero => simp [lenT] at hf
    | succ fuel =>
      simp only [lenT] at hf
      refine ⟨fun h0 => (by rw [hok.1.1] at h0; cases h0), fun k hk => ?_⟩
      rw [hok.1.1] at hk
      simp only [List.mem_cons, List.not_mem_nil, or_false] at hk
      rcases hk with rfl | rfl
      · exact wpOp_mono (fun a' w' h' => ⟨.inr h'.1, runT_sound hs hQ t _ _ _ _ (closedUp_set hc (by rw [hok.1.1]; simp)) hok.1.2 (by omega) h'.2⟩) h.1
      · exact wpOp_mono (fun a' w' h' => ⟨.inr h'.1, runT_sound hs hQ u _ _ _ _ (closedUp_set hc (by rw [hok.1.1]; simp)) hok.2 (by omega) h'.2⟩) h.2

/-- what stands behind the region knows only J -/
theorem sdrawI {id : Nat} {y : Code} {n : Nat} {l : List (Nat × Value)} {r : Nat → Value} {w : World} {α : Type} (u : List (Nat × Value)) (_hu : okl l u) (ch : α → List (Nat × Value)) (J : α → World → Prop) (S : World → Prop) (t : Tr) (hm : P.follows .mixedOrders = true)
    (hc : (Region.noSelect ops && okT ops (readsT t) (Array.replicate ops.size false) t && (lenT t).ble ops.size) = true)
    (h : runT P ops (fun e a' w' => e = .normal ∧ ∃ x r', a' = env n (ch x ++ u) r' ∧ J x w') S t (env n l r) w.drew)
    (k : ∀ x r w', J x w' → y.wp P Q (env n (ch x ++ u) r) w') : (Code.seq (.region id ops true) y).wp P Q (env n l r) w := by
  simp only [Bool.and_eq_true] at hc
  refine wp_seq (wp_mono (wp_region_any hm (wpAny_of_P _ _ _ _ (runT_sound hc.1.1 (fun c d v a w h => by cases h.1) t _ _ _ _ (closedUp_start _) hc.1.2 (Nat.le_of_ble_eq_true hc.2) h))) ?_)
  rintro e a' w' ⟨rfl, x, r', rfl, hJ⟩
  exact k x r' w' hJ

variable {n : Nat} {l : List (Nat × Value)} {r : Nat → Value} {w w' : World} {op : Op} {ty : TypeId} {pos : String} {af : Array Edge} {v : Value} {d i : Nat} {t : Tr}
theorem lstT {o : List (Nat × Kd)} {a : Act} (h : runH P ops Q S o a w) : runT P ops Q S (.lst o) a w := h
theorem twoT {j : Nat} {u : Tr} {a : Act} (h1 : runT P ops Q S (.ld i t) a w) (h2 : runT P ops Q S (.ld j u) a w) : runT P ops Q S (.two i t j u) a w := ⟨h1, h2⟩
theorem hvT (ho : ops[i]? = some ⟨some d, op, ty, pos, af, none⟩) (h : ∀ w, S w → Ex P n l op ty w v w) (hS : S w)
    (k : runT P ops Q S t (env n ((d, v) :: l) r) w) : runT P ops Q S (.rd i t) (env n l r) w :=
  ⟨_, v, ho, .inl ⟨by simp [Region.wanted], fun w hw => h w hw r _ _ _ _⟩, hS, by rw [env_put]; exact k⟩
theorem hlT (ho : ops[i]? = some ⟨some d, op, ty, pos, af, none⟩) (h : Ex P n l op ty w v w') (hS : S w')
    (k : runT P ops Q S t (env n ((d, v) :: l) r) w') : runT P ops Q S (.ld i t) (env n l r) w := by
  simp only [runT, wpOp, ho]
  rw [if_pos (by simp [Region.wanted])]
  left
  unfold Oper.wp
  rw [h r _ _ _ _]
  simp only [Oper.upon]
  rw [env_put]
  exact ⟨hS, k⟩
theorem hlKT {R : Value → World → Prop} (ho : ops[i]? = some ⟨some d, op, ty, pos, af, none⟩) (h : ExK P n l op ty w R)
    (k : ∀ v w', R v w' → S w' ∧ runT P ops Q S t (env n ((d, v) :: l) r) w') : runT P ops Q S (.ld i t) (env n l r) w := by
  obtain ⟨v, w', he, hR⟩ := h
  exact hlT ho he (k v w' hR).1 (k v w' hR).2
theorem hcT {f : FuncId} {vs : List Value} {R : Value → World → Prop} (ho : ops[i]? = some ⟨some d, op, ty, pos, af, none⟩) (h : ExC P n l op ty w f vs) (hc : Ret P f vs w R)
    (k : ∀ v w', R v w' → S w' ∧ runT P ops Q S t (env n ((d, v) :: l) r) w') : runT P ops Q S (.ld i t) (env n l r) w := by
  simp only [runT, wpOp, ho]
  rw [if_pos (by simp [Region.wanted])]
  left
  unfold Oper.wp
  rw [h r _ _ _ _]
  simp only [Oper.upon]
  refine Calls.mono hc fun e w'' ⟨u, he, hR⟩ => ?_
  subst he
  simp only []
  rw [env_put]
  exact k _ _ hR
end
end Go.Proofs.YtifnodoffgfpbaaGreatDoor

namespace Go.Proofs.YtifnodoffgfpbaaGreatDoor
open Go

theorem RA.la0 {α : Type} {El : (Nat → Prop) → World → List (List Value) → α → Prop} {lens : List Nat} {U U' : Nat → Prop} {w : World} {v : Value} {g E n : Nat} {l : List α} (h : RA El lens U w v g E n l) (hs : 0 < lens.sum) (hE : Grows El) (hU : ∀ k, U k → U' k) (hg : n = 0 ∨ U' g) : LA El lens U' w v l := by
  rcases hg with rfl | hg
  · have hn := h.num hs
    obtain rfl : l = [] := List.eq_nil_of_length_eq_zero hn
    obtain ⟨a, c, rfl⟩ := RA.form h
    exact LA.nil
  · exact h.la hs hE hU hg
/-- what a conversion gives: a message that reads the same -/
def ConvTo (w : World) (U : Nat → Prop) (m : MsgD) (u : Value) (w' : World) : Prop :=
  ∃ va v1 v2 v3, u = ag (msgSegs m.head va v1 v2 v3) ∧ LA AskEl lAsk (Ub U w w') w' va m.asks ∧ LA RecEl lRec (Ub U w w') w' v1 m.one ∧ LA RecEl lRec (Ub U w w') w' v2 m.two ∧ LA RecEl lRec (Ub U w w') w' v3 m.three ∧ Fr0 w w'

set_option maxHeartbeats 4000000 in
set_option maxRecDepth 100000 in
theorem c13 {w : World} {U : Nat → Prop} (hU : ∀ k, U k → k < w.heap.size) {m : MsgD} {va v1 v2 v3 : Value} (ha : LA AskEl lAsk U w va m.asks) (y1 : LA RecEl lRec U w v1 m.one) (y2 : LA RecEl lRec U w v2 m.two) (y3 : LA RecEl lRec U w v3 m.three) (_hfa : ∀ a ∈ m.asks, a.name.size ≤ 1048576) (hfr : ∀ l ∈ [m.one, m.two, m.three], ∀ r ∈ l, r.fits) (hll : ∀ l ∈ [m.one, m.two, m.three], l.length ≤ 1048576) (hna : m.asks.length ≤ 1048576) :
  Ret PP 13 [ag (msgSegs m.head va v1 v2 v3)] w (ConvTo w U m) := by
 obtain ⟨aa, ca, rfl⟩ := ha.form
 obtain ⟨a1, c1, rfl⟩ := y1.form
 obtain ⟨a2, c2, rfl⟩ := y2.form
 obtain ⟨a3, c3, rfl⟩ := y3.form
 have hf : Fr (fun _ => False) w w := Fr.refl _ _
 refine ret_of Tryz.func13 rfl rfl rfl [(0, _)] rfl ?_
 refine sreg ?_
 refine svK (xboxS (lens := lMsg) rfl rfl) ?_
 rintro _ w2 ⟨b1, rfl, m3, h1, e1, s1⟩
 have ha := ha.keep ask_st (lU hU (by omega)) m3 nF
 have y1 := y1.keep rec_st (lU hU (by omega)) m3 nF
 have y2 := y2.keep rec_st (lU hU (by omega)) m3 nF
 have y3 := y3.keep rec_st (lU hU (by omega)) m3 nF
 have hf := hf.step0 m3
 refine svK (xallS (lens := lMsg) in34 rfl) ?_
 rintro _ w5 ⟨b2, rfl, m6, h2, e4, s4⟩
 have ha := ha.keep ask_st (lU hU (by omega)) m6 nF
 have y1 := y1.keep rec_st (lU hU (by omega)) m6 nF
 have y2 := y2.keep rec_st (lU hU (by omega)) m6 nF
 have y3 := y3.keep rec_st (lU hU (by omega)) m6 nF
 have hf := hf.step0 m6
 have h1 := h1.keep m6 id
 refine send (fg [(1, _), (2, _)] ⟨rfl, rfl, ⟨⟩⟩ fun _ => ?_)
 refine sdrawI [(1, _), (2, _)] ⟨rfl, rfl, trivial⟩ (fun (x : Value × Value × Value × Nat) => match x with | (v1, v2, v3, b3) => [(3, .pointer (some ⟨b3, 0, none⟩))]) (fun (x : Value × Value × Value × Nat) wx => match x with | (v1, v2, v3, b3) => Fr (fun _ => False) w5 wx ∧ (SB wx b3 lMsg (msgSegs m.head (.slice none 0 0) v1 v2 v3)) ∧ (LA RecEl lRec (Uw U w5.heap.size wx.heap.size b3) wx v1 m.one) ∧ (LA RecEl lRec (Uw U w5.heap.size wx.heap.size b3) wx v2 m.two) ∧ (LA RecEl lRec (Uw U w5.heap.size wx.heap.size b3) wx v3 m.three) ∧ (w5.heap.size ≤ b3) ∧ (b3 < wx.heap.size)) (Fr (fun _ => False) w5.drew) (.rd 0 (.rd 1 (.rd 2 (.rd 3 (.rd 5 (.rd 6 (.rd 8 (.rd 9 (.two 4 (.two 7 (.two 10 (.lst [(11, .rd), (12, .ld), (13, .bh)]) 12 (.lst [(10, .ld), (11, .rd), (13, .bh)])) 12 (.lst [(7, .ld), (10, .ld), (11, .rd), (13, .bh)])) 12 (.lst [(4, .ld), (7, .ld), (10, .ld), (11, .rd), (13, .bh)])))))))))) mixed (by kernel_rfl) ?_ ?_
 ·
  have hC : Fr (fun _ => False) w5 w5 := Fr.refl _ _
  have z7 : w5.drew.heap.size = w5.heap.size := rfl
  have ha := ha.keep ask_st (lU hU (by omega)) (fd w5) nF
  have y1 := y1.keep rec_st (lU hU (by omega)) (fd w5) nF
  have y2 := y2.keep rec_st (lU hU (by omega)) (fd w5) nF
  have y3 := y3.keep rec_st (lU hU (by omega)) (fd w5) nF
  have hf := hf.drew
  have h1 := h1.drew
  have h2 := h2.drew
  have hC := hC.drew
  have hS8 : Fr (fun _ => False) w5.drew w5.drew := Fr.refl _ _
  refine hvT rfl (fun _ _ => xfld fl28_0 rfl) hS8 ?_
  refine hvT rfl (fun w' hS => xldS (lens := [1, 1, 1, 1, 1, 1, 1, 1, 1, 1]) ro24 rfl ((h1.keep hS id).r.sub 0 10 rfl)) hS8 ?_
  refine hvT rfl (fun _ _ => xfld fl28_2 rfl) hS8 ?_
  refine hvT rfl (fun w' hS => xld on26 rfl ((h1.keep hS id).r.c 11 rfl rfl)) hS8 ?_
  refine hvT rfl (fun _ _ => xfld fl28_3 rfl) hS8 ?_
  refine hvT rfl (fun w' hS => xld on26 rfl ((h1.keep hS id).r.c 12 rfl rfl)) hS8 ?_
  refine hvT rfl (fun _ _ => xfld fl28_4 rfl) hS8 ?_
  refine hvT rfl (fun w' hS => xld on26 rfl ((h1.keep hS id).r.c 13 rfl rfl)) hS8 ?_
  refine twoT ?_ ?_
  ·
   refine hcT rfl (xcall ca29 rfl) (c29 (U := U) (lU hU (by omega)) y1 (hll _ (by simp)) (hfr _ (by simp))) ?_
   rintro v10 w9 ⟨L10, m10⟩
   have z11 := m10.size
   have ha := ha.keep ask_st (lU hU (by omega)) m10 nF
   have y1 := y1.keep rec_st (lU hU (by omega)) m10 nF
   have y2 := y2.keep rec_st (lU hU (by omega)) m10 nF
   have y3 := y3.keep rec_st (lU hU (by omega)) m10 nF
   have hf := hf.step0 m10
   have h1 := h1.keep m10 id
   have h2 := h2.keep m10 id
   have hC := hC.step0 m10
   have hS12 := hS8.step0 m10
   obtain ⟨aq10, cq10, rfl⟩ := L10.form
   refine ⟨hS12, ?_⟩
   refine twoT ?_ ?_
   ·
    refine hcT rfl (xcall ca29 rfl) (c29 (U := U) (lU hU (by omega)) y2 (hll _ (by simp)) (hfr _ (by simp))) ?_
    rintro v13 w13 ⟨L13, m14⟩
    have z15 := m14.size
    have ha := ha.keep ask_st (lU hU (by omega)) m14 nF
    have y1 := y1.keep rec_st (lU hU (by omega)) m14 nF
    have y2 := y2.keep rec_st (lU hU (by omega)) m14 nF
    have y3 := y3.keep rec_st (lU hU (by omega)) m14 nF
    have hf := hf.step0 m14
    have h1 := h1.keep m14 id
    have h2 := h2.keep m14 id
    have hC := hC.step0 m14
    have L10 := L10.keep rec_st (lUb hU (by omega) (by omega)) m14 nF
    have hS16 := hS12.step0 m14
    obtain ⟨aq13, cq13, rfl⟩ := L13.form
    refine ⟨hS16, ?_⟩
    refine twoT ?_ ?_
    ·
     refine hcT rfl (xcall ca29 rfl) (c29 (U := U) (lU hU (by omega)) y3 (hll _ (by simp)) (hfr _ (by simp))) ?_
     rintro v16 w17 ⟨L16, m18⟩
     have z19 := m18.size
     have ha := ha.keep ask_st (lU hU (by omega)) m18 nF
     have y1 := y1.keep rec_st (lU hU (by omega)) m18 nF
     have y2 := y2.keep rec_st (lU hU (by omega)) m18 nF
     have y3 := y3.keep rec_st (lU hU (by omega)) m18 nF
     have hf := hf.step0 m18
     have h1 := h1.keep m18 id
     have h2 := h2.keep m18 id
     have hC := hC.step0 m18
     have L10 := L10.keep rec_st (lUb hU (by omega) (by omega)) m18 nF
     have L13 := L13.keep rec_st (lUb hU (by omega) (by omega)) m18 nF
     have hS20 := hS16.step0 m18
     obtain ⟨aq16, cq16, rfl⟩ := L16.form
     refine ⟨hS20, ?_⟩
     refine lstT (hv rfl (fun _ _ => xbuildS (msgSegs m.head (.slice none 0 0) (.slice aq10 m.one.length cq10) (.slice aq13 m.two.length cq13) (.slice aq16 m.three.length cq16)) zr34 ly34 rfl (by simp [fitAll, zs34, Value.cells, msgSegs]) rfl) hS20 ?_)
     refine hlK rfl (xallS (lens := lMsg) in34 rfl) ?_
     rintro _ w22 ⟨b3, rfl, m23, h3, e21, s21⟩
     have ha := ha.keep ask_st (lU hU (by omega)) m23 nF
     have y1 := y1.keep rec_st (lU hU (by omega)) m23 nF
     have y2 := y2.keep rec_st (lU hU (by omega)) m23 nF
     have y3 := y3.keep rec_st (lU hU (by omega)) m23 nF
     have hf := hf.step0 m23
     have h1 := h1.keep m23 id
     have h2 := h2.keep m23 id
     have hC := hC.step0 m23
     have L10 := L10.keep rec_st (lUb hU (by omega) (by omega)) m23 nF
     have L13 := L13.keep rec_st (lUb hU (by omega) (by omega)) m23 nF
     have L16 := L16.keep rec_st (lUb hU (by omega) (by omega)) m23 nF
     have hS24 := hS20.step0 m23
     refine ⟨hS24, ?_⟩
     refine bluK rfl (xstW h3 (lens' := lMsg) sz34 rfl rfl rfl rfl rfl) ?_
     rintro w26 ⟨m27, h3, s25⟩
     have ha := ha.keep ask_st (lU hU (by omega)) m27 (fun k hk hS => by have hk := hU k hk; have hS : k = b3 := hS; omega)
     have y1 := y1.keep rec_st (lU hU (by omega)) m27 (fun k hk hS => by have hk := hU k hk; have hS : k = b3 := hS; omega)
     have y2 := y2.keep rec_st (lU hU (by omega)) m27 (fun k hk hS => by have hk := hU k hk; have hS : k = b3 := hS; omega)
     have y3 := y3.keep rec_st (lU hU (by omega)) m27 (fun k hk hS => by have hk := hU k hk; have hS : k = b3 := hS; omega)
     have hf := hf.step m27 (fun k hk hS => by have hS : k = b3 := hS; show False; omega)
     have h1 := h1.keep m27 (by show ¬ (b1 = b3); omega)
     have h2 := h2.keep m27 (by show ¬ (b2 = b3); omega)
     have hC := hC.step m27 (fun k hk hS => by have hS : k = b3 := hS; show False; omega)
     have L10 := L10.keep rec_st (lUb hU (by omega) (by omega)) m27 (fun k hk hS => by have hk := Ub.num hU hk; have hS : k = b3 := hS; omega)
     have L13 := L13.keep rec_st (lUb hU (by omega) (by omega)) m27 (fun k hk hS => by have hk := Ub.num hU hk; have hS : k = b3 := hS; omega)
     have L16 := L16.keep rec_st (lUb hU (by omega) (by omega)) m27 (fun k hk hS => by have hk := Ub.num hU hk; have hS : k = b3 := hS; omega)
     exact ⟨rfl, (_, _, _, b3), _, env_okl ⟨rfl, rfl, rfl, trivial⟩, ⟨hC, (h3), (L10.mono rec_gr (fun k hk => ⟨hk.elim .inl (fun h => .inr ⟨by omega, by omega⟩), by have hk := Ub.num hU hk; omega⟩)), (L13.mono rec_gr (fun k hk => ⟨hk.elim .inl (fun h => .inr ⟨by omega, by omega⟩), by have hk := Ub.num hU hk; omega⟩)), (L16.mono rec_gr (fun k hk => ⟨hk.elim .inl (fun h => .inr ⟨by omega, by omega⟩), by have hk := Ub.num hU hk; omega⟩)), (by omega), (by omega)⟩⟩
    ·
     refine hlKT rfl (xallS (lens := lMsg) in34 rfl) ?_
     rintro _ w29 ⟨b3, rfl, m30, h3, e28, s28⟩
     have ha := ha.keep ask_st (lU hU (by omega)) m30 nF
     have y1 := y1.keep rec_st (lU hU (by omega)) m30 nF
     have y2 := y2.keep rec_st (lU hU (by omega)) m30 nF
     have y3 := y3.keep rec_st (lU hU (by omega)) m30 nF
     have hf := hf.step0 m30
     have h1 := h1.keep m30 id
     have h2 := h2.keep m30 id
     have hC := hC.step0 m30
     have L10 := L10.keep rec_st (lUb hU (by omega) (by omega)) m30 nF
     have L13 := L13.keep rec_st (lUb hU (by omega) (by omega)) m30 nF
     have hS31 := hS16.step0 m30
     refine ⟨hS31, ?_⟩
     refine lstT ?_
     refine hc rfl (xcall ca29 rfl) (c29 (U := U) (lU hU (by omega)) y3 (hll _ (by simp)) (hfr _ (by simp))) ?_
     rintro v16 w32 ⟨L16, m33⟩
     have z34 := m33.size
     have ha := ha.keep ask_st (lU hU (by omega)) m33 nF
     have y1 := y1.keep rec_st (lU hU (by omega)) m33 nF
     have y2 := y2.keep rec_st (lU hU (by omega)) m33 nF
     have y3 := y3.keep rec_st (lU hU (by omega)) m33 nF
     have hf := hf.step0 m33
     have h1 := h1.keep m33 id
     have h2 := h2.keep m33 id
     have hC := hC.step0 m33
     have L10 := L10.keep rec_st (lUb hU (by omega) (by omega)) m33 nF
     have L13 := L13.keep rec_st (lUb hU (by omega) (by omega)) m33 nF
     have h3 := h3.keep m33 id
     have hS35 := hS31.step0 m33
     obtain ⟨aq16, cq16, rfl⟩ := L16.form
     refine ⟨hS35, ?_⟩
     refine hv rfl (fun _ _ => xbuildS (msgSegs m.head (.slice none 0 0) (.slice aq10 m.one.length cq10) (.slice aq13 m.two.length cq13) (.slice aq16 m.three.length cq16)) zr34 ly34 rfl (by simp [fitAll, zs34, Value.cells, msgSegs]) rfl) hS35 ?_
     refine bluK rfl (xstW h3 (lens' := lMsg) sz34 rfl rfl rfl rfl rfl) ?_
     rintro w37 ⟨m38, h3, s36⟩
     have ha := ha.keep ask_st (lU hU (by omega)) m38 (fun k hk hS => by have hk := hU k hk; have hS : k = b3 := hS; omega)
     have y1 := y1.keep rec_st (lU hU (by omega)) m38 (fun k hk hS => by have hk := hU k hk; have hS : k = b3 := hS; omega)
     have y2 := y2.keep rec_st (lU hU (by omega)) m38 (fun k hk hS => by have hk := hU k hk; have hS : k = b3 := hS; omega)
     have y3 := y3.keep rec_st (lU hU (by omega)) m38 (fun k hk hS => by have hk := hU k hk; have hS : k = b3 := hS; omega)
     have hf := hf.step m38 (fun k hk hS => by have hS : k = b3 := hS; show False; omega)
     have h1 := h1.keep m38 (by show ¬ (b1 = b3); omega)
     have h2 := h2.keep m38 (by show ¬ (b2 = b3); omega)
     have hC := hC.step m38 (fun k hk hS => by have hS : k = b3 := hS; show False; omega)
     have L10 := L10.keep rec_st (lUb hU (by omega) (by omega)) m38 (fun k hk hS => by have hk := Ub.num hU hk; have hS : k = b3 := hS; omega)
     have L13 := L13.keep rec_st (lUb hU (by omega) (by omega)) m38 (fun k hk hS => by have hk := Ub.num hU hk; have hS : k = b3 := hS; omega)
     have L16 := L16.keep rec_st (lUb hU (by omega) (by omega)) m38 (fun k hk hS => by have hk := Ub.num hU hk; have hS : k = b3 := hS; omega)
     exact ⟨rfl, (_, _, _, b3), _, env_okl ⟨rfl, rfl, rfl, trivial⟩, ⟨hC, (h3), (L10.mono rec_gr (fun k hk => ⟨hk.elim .inl (fun h => .inr ⟨by omega, by omega⟩), by have hk := Ub.num hU hk; omega⟩)), (L13.mono rec_gr (fun k hk => ⟨hk.elim .inl (fun h => .inr ⟨by omega, by omega⟩), by have hk := Ub.num hU hk; omega⟩)), (L16.mono rec_gr (fun k hk => ⟨hk.elim .inl (fun h => .inr ⟨by omega, by omega⟩), by have hk := Ub.num hU hk; omega⟩)), (by omega), (by omega)⟩⟩
   ·
    refine hlKT rfl (xallS (lens := lMsg) in34 rfl) ?_
    rintro _ w40 ⟨b3, rfl, m41, h3, e39, s39⟩
    have ha := ha.keep ask_st (lU hU (by omega)) m41 nF
    have y1 := y1.keep rec_st (lU hU (by omega)) m41 nF
    have y2 := y2.keep rec_st (lU hU (by omega)) m41 nF
    have y3 := y3.keep rec_st (lU hU (by omega)) m41 nF
    have hf := hf.step0 m41
    have h1 := h1.keep m41 id
    have h2 := h2.keep m41 id
    have hC := hC.step0 m41
    have L10 := L10.keep rec_st (lUb hU (by omega) (by omega)) m41 nF
    have hS42 := hS12.step0 m41
    refine ⟨hS42, ?_⟩
    refine lstT ?_
    refine hc rfl (xcall ca29 rfl) (c29 (U := U) (lU hU (by omega)) y2 (hll _ (by simp)) (hfr _ (by simp))) ?_
    rintro v13 w43 ⟨L13, m44⟩
    have z45 := m44.size
    have ha := ha.keep ask_st (lU hU (by omega)) m44 nF
    have y1 := y1.keep rec_st (lU hU (by omega)) m44 nF
    have y2 := y2.keep rec_st (lU hU (by omega)) m44 nF
    have y3 := y3.keep rec_st (lU hU (by omega)) m44 nF
    have hf := hf.step0 m44
    have h1 := h1.keep m44 id
    have h2 := h2.keep m44 id
    have hC := hC.step0 m44
    have L10 := L10.keep rec_st (lUb hU (by omega) (by omega)) m44 nF
    have h3 := h3.keep m44 id
    have hS46 := hS42.step0 m44
    obtain ⟨aq13, cq13, rfl⟩ := L13.form
    refine ⟨hS46, ?_⟩
    refine hc rfl (xcall ca29 rfl) (c29 (U := U) (lU hU (by omega)) y3 (hll _ (by simp)) (hfr _ (by simp))) ?_
    rintro v16 w47 ⟨L16, m48⟩
    have z49 := m48.size
    have ha := ha.keep ask_st (lU hU (by omega)) m48 nF
    have y1 := y1.keep rec_st (lU hU (by omega)) m48 nF
    have y2 := y2.keep rec_st (lU hU (by omega)) m48 nF
    have y3 := y3.keep rec_st (lU hU (by omega)) m48 nF
    have hf := hf.step0 m48
    have h1 := h1.keep m48 id
    have h2 := h2.keep m48 id
    have hC := hC.step0 m48
    have L10 := L10.keep rec_st (lUb hU (by omega) (by omega)) m48 nF
    have h3 := h3.keep m48 id
    have L13 := L13.keep rec_st (lUb hU (by omega) (by omega)) m48 nF
    have hS50 := hS46.step0 m48
    obtain ⟨aq16, cq16, rfl⟩ := L16.form
    refine ⟨hS50, ?_⟩
    refine hv rfl (fun _ _ => xbuildS (msgSegs m.head (.slice none 0 0) (.slice aq10 m.one.length cq10) (.slice aq13 m.two.length cq13) (.slice aq16 m.three.length cq16)) zr34 ly34 rfl (by simp [fitAll, zs34, Value.cells, msgSegs]) rfl) hS50 ?_
    refine bluK rfl (xstW h3 (lens' := lMsg) sz34 rfl rfl rfl rfl rfl) ?_
    rintro w52 ⟨m53, h3, s51⟩
    have ha := ha.keep ask_st (lU hU (by omega)) m53 (fun k hk hS => by have hk := hU k hk; have hS : k = b3 := hS; omega)
    have y1 := y1.keep rec_st (lU hU (by omega)) m53 (fun k hk hS => by have hk := hU k hk; have hS : k = b3 := hS; omega)
    have y2 := y2.keep rec_st (lU hU (by omega)) m53 (fun k hk hS => by have hk := hU k hk; have hS : k = b3 := hS; omega)
    have y3 := y3.keep rec_st (lU hU (by omega)) m53 (fun k hk hS => by have hk := hU k hk; have hS : k = b3 := hS; omega)
    have hf := hf.step m53 (fun k hk hS => by have hS : k = b3 := hS; show False; omega)
    have h1 := h1.keep m53 (by show ¬ (b1 = b3); omega)
    have h2 := h2.keep m53 (by show ¬ (b2 = b3); omega)
    have hC := hC.step m53 (fun k hk hS => by have hS : k = b3 := hS; show False; omega)
    have L10 := L10.keep rec_st (lUb hU (by omega) (by omega)) m53 (fun k hk hS => by have hk := Ub.num hU hk; have hS : k = b3 := hS; omega)
    have L13 := L13.keep rec_st (lUb hU (by omega) (by omega)) m53 (fun k hk hS => by have hk := Ub.num hU hk; have hS : k = b3 := hS; omega)
    have L16 := L16.keep rec_st (lUb hU (by omega) (by omega)) m53 (fun k hk hS => by have hk := Ub.num hU hk; have hS : k = b3 := hS; omega)
    exact ⟨rfl, (_, _, _, b3), _, env_okl ⟨rfl, rfl, rfl, trivial⟩, ⟨hC, (h3), (L10.mono rec_gr (fun k hk => ⟨hk.elim .inl (fun h => .inr ⟨by omega, by omega⟩), by have hk := Ub.num hU hk; omega⟩)), (L13.mono rec_gr (fun k hk => ⟨hk.elim .inl (fun h => .inr ⟨by omega, by omega⟩), by have hk := Ub.num hU hk; omega⟩)), (L16.mono rec_gr (fun k hk => ⟨hk.elim .inl (fun h => .inr ⟨by omega, by omega⟩), by have hk := Ub.num hU hk; omega⟩)), (by omega), (by omega)⟩⟩
  ·
   refine hlKT rfl (xallS (lens := lMsg) in34 rfl) ?_
   rintro _ w55 ⟨b3, rfl, m56, h3, e54, s54⟩
   have ha := ha.keep ask_st (lU hU (by omega)) m56 nF
   have y1 := y1.keep rec_st (lU hU (by omega)) m56 nF
   have y2 := y2.keep rec_st (lU hU (by omega)) m56 nF
   have y3 := y3.keep rec_st (lU hU (by omega)) m56 nF
   have hf := hf.step0 m56
   have h1 := h1.keep m56 id
   have h2 := h2.keep m56 id
   have hC := hC.step0 m56
   have hS57 := hS8.step0 m56
   refine ⟨hS57, ?_⟩
   refine lstT ?_
   refine hc rfl (xcall ca29 rfl) (c29 (U := U) (lU hU (by omega)) y1 (hll _ (by simp)) (hfr _ (by simp))) ?_
   rintro v10 w58 ⟨L10, m59⟩
   have z60 := m59.size
   have ha := ha.keep ask_st (lU hU (by omega)) m59 nF
   have y2 := y2.keep rec_st (lU hU (by omega)) m59 nF
   have y3 := y3.keep rec_st (lU hU (by omega)) m59 nF
   have hf := hf.step0 m59
   have h1 := h1.keep m59 id
   have h2 := h2.keep m59 id
   have hC := hC.step0 m59
   have h3 := h3.keep m59 id
   have hS61 := hS57.step0 m59
   obtain ⟨aq10, cq10, rfl⟩ := L10.form
   refine ⟨hS61, ?_⟩
   refine hc rfl (xcall ca29 rfl) (c29 (U := U) (lU hU (by omega)) y2 (hll _ (by simp)) (hfr _ (by simp))) ?_
   rintro v13 w62 ⟨L13, m63⟩
   have z64 := m63.size
   have ha := ha.keep ask_st (lU hU (by omega)) m63 nF
   have y3 := y3.keep rec_st (lU hU (by omega)) m63 nF
   have hf := hf.step0 m63
   have h1 := h1.keep m63 id
   have h2 := h2.keep m63 id
   have hC := hC.step0 m63
   have h3 := h3.keep m63 id
   have L10 := L10.keep rec_st (lUb hU (by omega) (by omega)) m63 nF
   have hS65 := hS61.step0 m63
   obtain ⟨aq13, cq13, rfl⟩ := L13.form
   refine ⟨hS65, ?_⟩
   refine hc rfl (xcall ca29 rfl) (c29 (U := U) (lU hU (by omega)) y3 (hll _ (by simp)) (hfr _ (by simp))) ?_
   rintro v16 w66 ⟨L16, m67⟩
   have z68 := m67.size
   have ha := ha.keep ask_st (lU hU (by omega)) m67 nF
   have hf := hf.step0 m67
   have h1 := h1.keep m67 id
   have h2 := h2.keep m67 id
   have hC := hC.step0 m67
   have h3 := h3.keep m67 id
   have L10 := L10.keep rec_st (lUb hU (by omega) (by omega)) m67 nF
   have L13 := L13.keep rec_st (lUb hU (by omega) (by omega)) m67 nF
   have hS69 := hS65.step0 m67
   obtain ⟨aq16, cq16, rfl⟩ := L16.form
   refine ⟨hS69, ?_⟩
   refine hv rfl (fun _ _ => xbuildS (msgSegs m.head (.slice none 0 0) (.slice aq10 m.one.length cq10) (.slice aq13 m.two.length cq13) (.slice aq16 m.three.length cq16)) zr34 ly34 rfl (by simp [fitAll, zs34, Value.cells, msgSegs]) rfl) hS69 ?_
   refine bluK rfl (xstW h3 (lens' := lMsg) sz34 rfl rfl rfl rfl rfl) ?_
   rintro w71 ⟨m72, h3, s70⟩
   have ha := ha.keep ask_st (lU hU (by omega)) m72 (fun k hk hS => by have hk := hU k hk; have hS : k = b3 := hS; omega)
   have hf := hf.step m72 (fun k hk hS => by have hS : k = b3 := hS; show False; omega)
   have h1 := h1.keep m72 (by show ¬ (b1 = b3); omega)
   have h2 := h2.keep m72 (by show ¬ (b2 = b3); omega)
   have hC := hC.step m72 (fun k hk hS => by have hS : k = b3 := hS; show False; omega)
   have L10 := L10.keep rec_st (lUb hU (by omega) (by omega)) m72 (fun k hk hS => by have hk := Ub.num hU hk; have hS : k = b3 := hS; omega)
   have L13 := L13.keep rec_st (lUb hU (by omega) (by omega)) m72 (fun k hk hS => by have hk := Ub.num hU hk; have hS : k = b3 := hS; omega)
   have L16 := L16.keep rec_st (lUb hU (by omega) (by omega)) m72 (fun k hk hS => by have hk := Ub.num hU hk; have hS : k = b3 := hS; omega)
   exact ⟨rfl, (_, _, _, b3), _, env_okl ⟨rfl, rfl, rfl, trivial⟩, ⟨hC, (h3), (L10.mono rec_gr (fun k hk => ⟨hk.elim .inl (fun h => .inr ⟨by omega, by omega⟩), by have hk := Ub.num hU hk; omega⟩)), (L13.mono rec_gr (fun k hk => ⟨hk.elim .inl (fun h => .inr ⟨by omega, by omega⟩), by have hk := Ub.num hU hk; omega⟩)), (L16.mono rec_gr (fun k hk => ⟨hk.elim .inl (fun h => .inr ⟨by omega, by omega⟩), by have hk := Ub.num hU hk; omega⟩)), (by omega), (by omega)⟩⟩
 ·
  rintro ⟨v1, v2, v3, b3⟩ _ w73 ⟨hC, h3, L10, L13, L16, hb3, hb4⟩
  have z74 := hC.size
  have ha := ha.keep ask_st (lU hU (by omega)) hC nF
  have hf := hf.step0 hC
  have h1 := h1.keep hC id
  have h2 := h2.keep hC id
  obtain ⟨aq10, cq10, rfl⟩ := L10.form
  obtain ⟨aq13, cq13, rfl⟩ := L13.form
  obtain ⟨aq16, cq16, rfl⟩ := L16.form
  refine fg [(1, _), (2, _), (3, _)] ⟨rfl, rfl, rfl, ⟨⟩⟩ fun _ => (wp_seq (sreg (sv (xfld fl28_1 rfl) (sv (xld on25 rfl (h1.r.c 10 rfl rfl)) (sv (xlen sl25 rfl) (sM rfl (send (fg [(2, _), (3, _), (19, _), (20, _), (21, _)] ⟨rfl, rfl, rfl, rfl, rfl, ⟨⟩⟩ fun _ => (wp_block ?_)))))))))
  refine lp [(2, _), (3, _), (19, _), (20, _)] (fun (x : Nat × Value × Nat) => match x with | (k, v, g) => [(21, .int .i64 (k : Int))]) (fun (x : Nat × Value × Nat) wx => match x with | (k, v, g) => Fr (fun k => k = b3 ∨ k = b1) w73 wx ∧ (k ≤ m.asks.length) ∧ (SB wx b3 lMsg (msgSegs m.head v (.slice aq10 m.one.length cq10) (.slice aq13 m.two.length cq13) (.slice aq16 m.three.length cq16))) ∧ (RA AskEl lAsk (fun _ => False) wx v g 59 k (m.asks.take k)) ∧ (g = b1 ∨ w73.heap.size ≤ g) ∧ (g < wx.heap.size)) (fun (x : Nat × Value × Nat) => match x with | (k, v, g) => m.asks.length - k) (0, .slice none 0 0, b1) ⟨rfl, rfl, rfl, rfl, rfl, trivial⟩ ⟨Fr.refl _ _, Nat.zero_le _, h3, RA.nil _ _ _ _, .inl rfl, by omega⟩ ?_
  rintro ⟨k, v, g⟩ _ w76 ⟨hL75, hk, h3, hq, hgq, hgk⟩
  refine fg [(2, _), (3, _), (19, _), (20, _), (21, _)] ⟨rfl, rfl, rfl, rfl, rfl, ⟨⟩⟩ fun _ => ?_
  have z77 := hL75.size
  have ha := ha.keep ask_st (lU hU (by omega)) hL75 (fun k hk hS => by have hk := hU k hk; have hS : k = b3 ∨ k = b1 := hS; omega)
  have hf := hf.step hL75 (fun k hk hS => by have hS : k = b3 ∨ k = b1 := hS; show False; omega)
  have h2 := h2.keep hL75 (by show ¬ (b2 = b3 ∨ b2 = b1); omega)
  have L10 := L10.keep rec_st (fun k hk => by have hk := Uw.num hU hk; omega) hL75 (fun k hk hS => by have hk := Uw.num hU hk; have hS : k = b3 ∨ k = b1 := hS; omega)
  have L13 := L13.keep rec_st (fun k hk => by have hk := Uw.num hU hk; omega) hL75 (fun k hk hS => by have hk := Uw.num hU hk; have hS : k = b3 ∨ k = b1 := hS; omega)
  have L16 := L16.keep rec_st (fun k hk => by have hk := Uw.num hU hk; omega) hL75 (fun k hk hS => by have hk := Uw.num hU hk; have hS : k = b3 ∨ k = b1 := hS; omega)
  refine sreg ?_
  refine svP (xlss rfl rfl) (fun hc22 => ?_) (fun hc22 => ?_)
  ·
   refine send (fg [(2, _), (3, _), (19, _), (20, _), (21, _), (22, _)] ⟨rfl, rfl, rfl, rfl, rfl, rfl, ⟨⟩⟩ fun _ => (wp_seq (cyes rfl (wp_skip (nThen (fg [(2, _), (3, _), (19, _), (20, _), (21, _)] ⟨rfl, rfl, rfl, rfl, rfl, ⟨⟩⟩ fun _ => (wp_seq (wp_block ?_))))))))
   obtain ⟨a, hak⟩ := some_of_lt (by omega : k < m.asks.length)
   refine sreg ?_
   obtain ⟨bE23, oE23, sgE23, rfl, uE23, hsE23, heE23⟩ := LA.get ha hak
   obtain rfl := heE23
   have zE23 := hU _ uE23
   refine sv (xidx sl25 sz58 rfl rfl rfl (by omega)) (sv (xldS (lens := [1, 1, 1]) ro58 rfl hsE23) ?_)
   refine svK (xallS (lens := [1, 1, 1]) in58 rfl) ?_
   rintro _ w79 ⟨b5, rfl, m80, h5, e78, s78⟩
   have hf := hf.step0 m80
   have h2 := h2.keep m80 id
   have h3 := h3.keep m80 id
   have L10 := L10.keep rec_st (fun k hk => by have hk := Uw.num hU hk; omega) m80 nF
   have L13 := L13.keep rec_st (fun k hk => by have hk := Uw.num hU hk; omega) m80 nF
   have L16 := L16.keep rec_st (fun k hk => by have hk := Uw.num hU hk; omega) m80 nF
   have hq := hq.keep ask_st (fun k hk => by have hk := (show k + 1 ≤ 0 from (show False from hk).elim); omega) m80 nF id
   have hL75 := hL75.step0 m80
   refine suK (xstW h5 (lens' := [1, 1, 1]) sz58 rfl rfl rfl rfl rfl) ?_
   rintro w82 ⟨m83, h5, s81⟩
   have hf := hf.step m83 (fun k hk hS => by have hS : k = b5 := hS; show False; omega)
   have h2 := h2.keep m83 (by show ¬ (b2 = b5); omega)
   have h3 := h3.keep m83 (by show ¬ (b3 = b5); omega)
   have L10 := L10.keep rec_st (fun k hk => by have hk := Uw.num hU hk; omega) m83 (fun k hk hS => by have hk := Uw.num hU hk; have hS : k = b5 := hS; omega)
   have L13 := L13.keep rec_st (fun k hk => by have hk := Uw.num hU hk; omega) m83 (fun k hk hS => by have hk := Uw.num hU hk; have hS : k = b5 := hS; omega)
   have L16 := L16.keep rec_st (fun k hk => by have hk := Uw.num hU hk; omega) m83 (fun k hk hS => by have hk := Uw.num hU hk; have hS : k = b5 := hS; omega)
   have hq := hq.keep ask_st (fun k hk => by have hk := (show k + 1 ≤ 0 from (show False from hk).elim); omega) m83 (fun k hk hS => by have hk := (show k + 1 ≤ 0 from (show False from hk).elim); have hS : k = b5 := hS; omega) (by show ¬ (g = b5); omega)
   have hL75 := hL75.step m83 (fun k hk hS => by have hS : k = b5 := hS; show k = b3 ∨ k = b1; omega)
   refine send (fg [(2, _), (3, _), (5, _), (19, _), (20, _), (21, _)] ⟨rfl, rfl, rfl, rfl, rfl, rfl, ⟨⟩⟩ fun _ => (lreg (sv (xfld fl34_1 rfl) (sv (xld on31 rfl (h3.r.c 10 rfl rfl)) (sv (xldS (lens := [1, 1, 1]) ro58 rfl h5.r) ?_)))))
   refine svK (xslit ((askSegs a).flatten) sl31 in59 rfl (by decide) rfl rfl rfl rfl (by decide) rfl rfl) ?_
   rintro _ w85 ⟨b28, rfl, m86, h28, e28, s28, r28⟩
   have hf := hf.step0 m86
   have h2 := h2.keep m86 id
   have h3 := h3.keep m86 id
   have L10 := L10.keep rec_st (fun k hk => by have hk := Uw.num hU hk; omega) m86 nF
   have L13 := L13.keep rec_st (fun k hk => by have hk := Uw.num hU hk; omega) m86 nF
   have L16 := L16.keep rec_st (fun k hk => by have hk := Uw.num hU hk; omega) m86 nF
   have hq := hq.keep ask_st (fun k hk => by have hk := (show k + 1 ≤ 0 from (show False from hk).elim); omega) m86 nF id
   have hL75 := hL75.step0 m86
   obtain ⟨ss29, hR29, hA29⟩ := hq
   refine svK (xapp sl31 in59 rfl (by decide) rfl rfl hR29 (r28.src sl31) (by simp only [maxLen]; omega) (by omega)) ?_
   rintro v29 w87 ⟨g29, r29, m88, a29, l29⟩
   have z89 := m88.size
   have hf := hf.step m88 (fun k hk hS => by have hS : k = g := hS; show False; omega)
   have h2 := h2.keep m88 (by show ¬ (b2 = g); omega)
   have h3 := h3.keep m88 (by show ¬ (b3 = g); omega)
   have L10 := L10.keep rec_st (fun k hk => by have hk := Uw.num hU hk; omega) m88 (fun k hk hS => by have hk := Uw.num hU hk; have hS : k = g := hS; omega)
   have L13 := L13.keep rec_st (fun k hk => by have hk := Uw.num hU hk; omega) m88 (fun k hk hS => by have hk := Uw.num hU hk; have hS : k = g := hS; omega)
   have L16 := L16.keep rec_st (fun k hk => by have hk := Uw.num hU hk; omega) m88 (fun k hk hS => by have hk := Uw.num hU hk; have hS : k = g := hS; omega)
   have hL75 := hL75.step m88 (fun k hk hS => by have hS : k = g := hS; show k = b3 ∨ k = b1; omega)
   have hq := RA.snoc (x := a) hA29 ask_st ask_gr (fun k hk => by have hk := (show k + 1 ≤ 0 from (show False from hk).elim); omega) m88 (fun k hk hS => by have hk := (show k + 1 ≤ 0 from (show False from hk).elim); have hS : k = g := hS; omega) (fun _ h => h) r29 rfl (rfl)
   refine sv (xfld fl34_1 rfl) ?_
   refine suK (xstF 10 sz31 h3 rfl rfl rfl rfl (by obtain ⟨_, _, rfl⟩ := RA.form hq; rfl)) ?_
   rintro w91 ⟨m92, h3, s90⟩
   have hf := hf.step m92 (fun k hk hS => by have hS : k = b3 := hS; show False; omega)
   have h2 := h2.keep m92 (by show ¬ (b2 = b3); omega)
   have L10 := L10.keep rec_st (fun k hk => by have hk := Uw.num hU hk; omega) m92 (fun k hk hS => by have hk := Uw.num hU hk; have hS : k = b3 := hS; omega)
   have L13 := L13.keep rec_st (fun k hk => by have hk := Uw.num hU hk; omega) m92 (fun k hk hS => by have hk := Uw.num hU hk; have hS : k = b3 := hS; omega)
   have L16 := L16.keep rec_st (fun k hk => by have hk := Uw.num hU hk; omega) m92 (fun k hk hS => by have hk := Uw.num hU hk; have hS : k = b3 := hS; omega)
   have hL75 := hL75.step m92 (fun k hk hS => by have hS : k = b3 := hS; show k = b3 ∨ k = b1; omega)
   have hq := hq.keep ask_st (fun k hk => by have hk := (show k + 1 ≤ 0 from (show False from hk).elim); omega) m92 (fun k hk hS => by have hk := (show k + 1 ≤ 0 from (show False from hk).elim); have hS : k = b3 := hS; omega) (by show ¬ (g29 = b3); omega)
   refine lend (nBlock (nThen (fg [(2, _), (3, _), (19, _), (20, _), (21, _)] ⟨rfl, rfl, rfl, rfl, rfl, ⟨⟩⟩ fun _ => (lreg (sv (xadd rfl rfl (w64 (by omega) (by omega))) (sM rfl (lend (nThen ?_))))))))
   refine ⟨(k + 1, _, g29), _, env_okl ⟨rfl, rfl, rfl, rfl, rfl, trivial⟩, ⟨hL75, (by omega), (h3), (by rw [take_snoc hak]; exact hq), (by omega), (by omega)⟩, ?_⟩
   show m.asks.length - (k + 1) < m.asks.length - k; omega
  ·
   refine send (fg [(2, _), (3, _), (19, _), (20, _), (21, _), (22, _)] ⟨rfl, rfl, rfl, rfl, rfl, rfl, ⟨⟩⟩ fun _ => (wp_seq (cno rfl (wp_exit (eThen (eThen (eHit (nThen (fg [(2, _), (3, _)] ⟨rfl, rfl, ⟨⟩⟩ fun _ => ?_)))))))))
   obtain ⟨av, cv, rfl⟩ := RA.form hq
   refine sreg (sv (xldS (lens := lMsg) ro34 rfl (h3.r.sub 0 14 rfl)) ?_)
   refine suK (xstW h2 (lens' := lMsg) sz34 rfl rfl rfl rfl rfl) ?_
   rintro w94 ⟨m95, h2, s93⟩
   have hf := hf.step m95 (fun k hk hS => by have hS : k = b2 := hS; show False; omega)
   have L10 := L10.keep rec_st (fun k hk => by have hk := Uw.num hU hk; omega) m95 (fun k hk hS => by have hk := Uw.num hU hk; have hS : k = b2 := hS; omega)
   have L13 := L13.keep rec_st (fun k hk => by have hk := Uw.num hU hk; omega) m95 (fun k hk hS => by have hk := Uw.num hU hk; have hS : k = b2 := hS; omega)
   have L16 := L16.keep rec_st (fun k hk => by have hk := Uw.num hU hk; omega) m95 (fun k hk hS => by have hk := Uw.num hU hk; have hS : k = b2 := hS; omega)
   have hq := hq.keep ask_st (fun k hk => by have hk := (show k + 1 ≤ 0 from (show False from hk).elim); omega) m95 (fun k hk hS => by have hk := (show k + 1 ≤ 0 from (show False from hk).elim); have hS : k = b2 := hS; omega) (by show ¬ (g = b2); omega)
   refine send (fg [(2, _)] ⟨rfl, ⟨⟩⟩ fun _ => (wp_ret ?_))
   refine rp1 rfl ⟨_, rfl, ldS (lens := lMsg) ro34 h2.r⟩ ?_
   have e : m.asks.take k = m.asks := List.take_of_length_le (by omega)
   rw [e] at hq
   exact ⟨_, _, _, _, rfl, RA.la0 hq (by decide) ask_gr (fun _ h => h.elim) (.inr (.inr ⟨by omega, by omega⟩)), L10.mono rec_gr (fun k hk => hk.1.elim .inl (fun h => .inr ⟨by omega, by omega⟩)), L13.mono rec_gr (fun k hk => hk.1.elim .inl (fun h => .inr ⟨by omega, by omega⟩)), L16.mono rec_gr (fun k hk => hk.1.elim .inl (fun h => .inr ⟨by omega, by omega⟩)), hf⟩
end Go.Proofs.YtifnodoffgfpbaaGreatDoor

namespace Go.Proofs.YtifnodoffgfpbaaGreatDoor
open Go

/-- what a map holds: the first entry of a text counts -/
abbrev Ent := List (ByteArray × UInt16)
def look (M : Ent) (s : ByteArray) : Option UInt16 := match M with
  | [] => none
  | (k, v) :: M => if s = k then some v else look M s
def entV (p : ByteArray × UInt16) : Value × Value := (.string p.1, .int .u16 (p.2.toNat : Int))
/-- Block b is a map that holds M. -/
def Mp (w : World) (b : Nat) (M : Ent) : Prop := ∃ es clock, w.heap[b]? = some (.map es clock) ∧ es.toList.map (fun e => (e.key, e.val)) = M.map entV
theorem Mp.lt {w : World} {b : Nat} {M : Ent} (h : Mp w b M) : b < w.heap.size := by
  obtain ⟨es, c, h, _⟩ := h
  exact (Array.getElem?_eq_some_iff.1 h).1
theorem Mp.keep {S : Nat → Prop} {w w' : World} {b : Nat} {M : Ent} (h : Mp w b M) (m : Fr S w w') (hn : ¬ S b) : Mp w' b M := by
  have hl := h.lt
  obtain ⟨es, c, h, e⟩ := h
  exact ⟨es, c, (m.block b hl hn).trans h, e⟩
theorem ba_beq (a b : ByteArray) : (a == b) = decide (a = b) := by
  obtain ⟨a⟩ := a
  obtain ⟨b⟩ := b
  have h : ((⟨a⟩ : ByteArray) == ⟨b⟩) = (a == b) := rfl
  rw [h]
  by_cases h : a = b <;> simp [h]
theorem findNow_look (s : ByteArray) : ∀ (l : List MapEntry) (M : Ent) (i : Nat), l.map (fun e => (e.key, e.val)) = M.map entV →
    match look M s with
    | none => Instr.findNow .string (.string s) l i = some none
    | some v => ∃ j, Instr.findNow .string (.string s) l i = some (some (j, .int .u16 (v.toNat : Int)))
  | [], [], i, _ => by simp [look, Instr.findNow]
  | [], p :: M, i, h => by simp at h
  | e :: l, [], i, h => by simp at h
  | e :: l, p :: M, i, h => by
    simp only [List.map_cons, List.cons.injEq] at h
    obtain ⟨h1, h2⟩ := h
    have hk : e.key = .string p.1 := congrArg Prod.fst h1
    have hv : e.val = .int .u16 (p.2.toNat : Int) := congrArg Prod.snd h1
    have ih := findNow_look s l M (i + 1) h2
    obtain ⟨pk, pv⟩ := p
    simp only at hk hv
    by_cases hs : s = pk
    · subst hs
      simp only [look]
      refine ⟨i, ?_⟩
      have hb : (s == s) = true := by rw [ba_beq]; simp
      simp [Instr.findNow, Instr.sameNow, hk, hv, hb]
    · have hb : (s == pk) = false := by rw [ba_beq]; simp [hs]
      simp only [look, if_neg hs]
      simp only [Instr.findNow, Instr.sameNow, hk, hb]
      exact ih
section
variable {P : Program} {n : Nat} {l : List (Nat × Value)} {w : World} {ty : TypeId} {x y z : Operand}
theorem xmkmap {T : TypeId} : ExK P n l (.makeMap T none) ty w (fun u w' => ∃ b, u = .map (some b) ∧ Fr0 w w' ∧ Mp w' b [] ∧ b = w.heap.size ∧ w'.heap.size = w.heap.size + 1) :=
  ⟨_, w.alloc (.map #[] 0), fun r _ _ _ _ => by
    simp only [execOp]
    simp [Instr.makeMap], w.heap.size, rfl, fr_alloc _ _, ⟨#[], 0, heap_alloc_new w _, rfl⟩, rfl, size_alloc _ _⟩
theorem xlook {T K E : TypeId} {b : Nat} {M : Ent} {s : ByteArray} (hT : mapB P T K E = true) (hK : strB P K = true) (hE : Inf P E (.int .u16 0) 1 2) (hm : Mp w b M) (hx : ev n l x = some (.map (some b))) (hy : ev n l y = some (.string s)) :
    Ex P n l (.lookup T x y true) ty w (.tuple #[.int .u16 (((look M s).getD 0).toNat : Int), .bool (look M s).isSome]) w := fun r _ _ _ _ => by
  obtain ⟨es, c, hb, he⟩ := hm
  obtain ⟨i, hi, hz, _, _⟩ := hE
  have hck := fun e => MapKept.run_checkKey (P := P) (w := w) (k := .string s) (strB_spec hK) (by simp [MapKept.IsKey]) e 9999
  have hf := findNow_look s es.toList M 0 he
  simp only [execOp, ev_eval r hx, ev_eval r hy]
  cases hl : look M s with
  | none =>
    rw [hl] at hf
    have := MapKept.run_findKey (P := P) (w := w) (strB_spec hK) hf
    simp [Instr.lookup, run_underlying (mapB_spec hT), MapKept.run_getObj_map hb, hck, this, zeroValue, typeInfo, hi, hz]
  | some v =>
    rw [hl] at hf
    obtain ⟨j, hf⟩ := hf
    have := MapKept.run_findKey (P := P) (w := w) (strB_spec hK) hf
    simp [Instr.lookup, run_underlying (mapB_spec hT), MapKept.run_getObj_map hb, hck, this]
/-- a text that is not there yet -/
theorem xput {T K E : TypeId} {b : Nat} {M : Ent} {s : ByteArray} {v : UInt16} (hT : mapB P T K E = true) (hK : strB P K = true) (hm : Mp w b M) (hl : look M s = none) (hx : ev n l x = some (.map (some b))) (hy : ev n l y = some (.string s)) (hz : ev n l z = some (.int .u16 (v.toNat : Int))) :
    ExUK P n l (.mapUpdate T x y z) ty w (fun w' => Fr (· = b) w w' ∧ Mp w' b (M ++ [(s, v)]) ∧ w'.heap.size = w.heap.size) := by
  obtain ⟨es, c, hb, he⟩ := hm
  have hck := fun e => MapKept.run_checkKey (P := P) (w := w) (k := .string s) (strB_spec hK) (by simp [MapKept.IsKey]) e 9999
  have hf := findNow_look s es.toList M 0 he
  rw [hl] at hf
  have hfk := MapKept.run_findKey (P := P) (w := w) (strB_spec hK) hf
  have hset := MapKept.heap_set (o' := .map (es.push { key := .string s, val := .int .u16 (v.toNat : Int), born := c }) (c + 1)) hb
  refine ⟨{ w with heap := w.heap.setIfInBounds b (.map (es.push { key := .string s, val := .int .u16 (v.toNat : Int), born := c }) (c + 1)) }, fun r _ _ _ _ => ?_, ⟨rfl, rfl, rfl, by simp, fun k _ hk => hset.2 k hk⟩, ⟨_, _, hset.1, ?_⟩, by simp⟩
  · simp only [execOp, ev_eval r hx, ev_eval r hy, ev_eval r hz]
    simp [Instr.mapUpdate, run_underlying (mapB_spec hT), MapKept.run_getObj_map hb, hck, hfk, MapKept.run_setObj_map _ hb]
  · simp [he, entV]
end
end Go.Proofs.YtifnodoffgfpbaaGreatDoor

namespace Go.Proofs.YtifnodoffgfpbaaGreatDoor
open Go

def questSegs (a : AskD) : List (List Value) := [nm (bt a.name), [.int .u16 (a.typ.toNat : Int)], [.int .u16 (a.cls.toNat : Int)]]
def rhSegs (s : List UInt8) (typ cls : UInt16) (ttl : UInt32) (len : Nat) : List (List Value) := [nm s, [.int .u16 (typ.toNat : Int)], [.int .u16 (cls.toNat : Int)], [.int .u32 (ttl.toNat : Int)], [.int .u16 (len : Int)]]
theorem nm_nil : [nm []].flatten = bvs (List.replicate 255 0) ++ [Value.int .u8 0] := by
  simp only [List.flatten_cons, List.flatten_nil, List.append_nil, nm, List.nil_append, List.length_nil]
  rw [List.take_of_length_le (by rw [List.length_replicate]; exact Nat.le_refl _)]
  rfl
theorem nm_copy (s : ByteArray) (_h : s.size ≤ 255) (v : Value) (hv : v = .int .u8 (s.size : Int)) : ((bvs (fixedL (bt s) 255) ++ [Value.int .u8 0]).set 255 v) = [nm (bt s)].flatten := by
  subst hv
  have hl : (bvs (fixedL (bt s) 255)).length = 255 := by simp [bvs, fixedL_length]
  rw [List.set_append_right _ _ (by omega), hl]
  simp only [Nat.sub_self, List.set_cons_zero, List.flatten_cons, List.flatten_nil, List.append_nil, nm, fixedL, bt_length]

set_option maxHeartbeats 4000000 in
set_option maxRecDepth 100000 in
theorem c36 {w : World} {h : HeadD} :
  Ret PP 36 [ag (headSegs h)] w (fun u w' => u = ag (headSegs h) ∧ Fr0 w w') := by
 have hf : Fr (fun _ => False) w w := Fr.refl _ _
 refine ret_of Tryz.func36 rfl rfl rfl [(0, _)] rfl ?_
 refine sreg ?_
 refine svK (xboxS (lens := [1, 1, 1, 1, 1, 1, 1, 1, 1, 1]) rfl rfl) ?_
 rintro _ w2 ⟨b1, rfl, m3, h1, e1, s1⟩
 have hf := hf.step0 m3
 refine svK (xallS (lens := [1, 1, 1, 1, 1, 1, 1, 1, 1, 1]) in73 rfl) ?_
 rintro _ w5 ⟨b2, rfl, m6, h2, e4, s4⟩
 have hf := hf.step0 m6
 have h1 := h1.keep m6 id
 refine send (fg [(1, _), (2, _)] ⟨rfl, rfl, ⟨⟩⟩ fun _ => (sreg (sv (xfld fl24_0 rfl) (sv (xld on22 rfl (h1.r.c 0 rfl rfl)) (sv (xfld fl24_1 rfl) (sv (xld on4 rfl (h1.r.c 1 rfl rfl)) (sv (xfld fl24_2 rfl) (sv (xld on22 rfl (h1.r.c 2 rfl rfl)) (sv (xfld fl24_3 rfl) (sv (xld on4 rfl (h1.r.c 3 rfl rfl)) (sv (xfld fl24_4 rfl) (sv (xld on4 rfl (h1.r.c 4 rfl rfl)) (sv (xfld fl24_5 rfl) (sv (xld on4 rfl (h1.r.c 5 rfl rfl)) (sv (xfld fl24_6 rfl) (sv (xld on4 rfl (h1.r.c 6 rfl rfl)) (sv (xfld fl24_7 rfl) (sv (xld on4 rfl (h1.r.c 7 rfl rfl)) (sv (xfld fl24_8 rfl) (sv (xld on4 rfl (h1.r.c 8 rfl rfl)) (sv (xfld fl24_9 rfl) (sv (xld on22 rfl (h1.r.c 9 rfl rfl)) (sv (xbuildS (headSegs h) zr73 ly73 rfl (by simp [fitAll, zs73, Value.cells]) rfl) ?_)))))))))))))))))))))))
 refine suK (xstW h2 (lens' := [1, 1, 1, 1, 1, 1, 1, 1, 1, 1]) sz73 rfl rfl rfl rfl rfl) ?_
 rintro w8 ⟨m9, h2, s7⟩
 have hf := hf.step m9 (fun k hk hS => by have hS : k = b2 := hS; show False; omega)
 refine send (fg [(2, _)] ⟨rfl, ⟨⟩⟩ fun _ => (wp_ret ?_))
 refine rp1 rfl ⟨_, rfl, ldS (lens := [1, 1, 1, 1, 1, 1, 1, 1, 1, 1]) ro73 h2.r⟩ ?_
 exact ⟨rfl, hf⟩
set_option maxHeartbeats 4000000 in
set_option maxRecDepth 100000 in
theorem c89 {w : World} {s : ByteArray} (hs : s.size ≤ 255) :
  Ret PP 89 [.string s] w (fun u w' => u = ag [nm (bt s)] ∧ Fr0 w w') := by
 have hf : Fr (fun _ => False) w w := Fr.refl _ _
 refine ret_of Tryz.func89 rfl rfl rfl [(0, _)] rfl ?_
 refine sreg ?_
 refine svK (xallS (lens := [256]) in82 (by simp [nm_length])) ?_
 rintro _ w2 ⟨b2, rfl, m3, h2, e1, s1⟩
 have hf := hf.step0 m3
 refine send (fg [(0, _), (2, _)] ⟨rfl, rfl, ⟨⟩⟩ fun _ => (sreg (sv (xbuildS [nm []] zr82 ly82 rfl trivial rfl) ?_)))
 refine svK (xallS (lens := [256]) in82 (by simp [nm_length])) ?_
 rintro _ w5 ⟨b3, rfl, m6, h3, e4, s4⟩
 have hf := hf.step0 m6
 have h2 := h2.keep m6 id
 refine suK (xstW h3 (lens' := [256]) sz82 (by simp [nm_length]) rfl (by simp only [List.flatten_cons, List.flatten_nil, List.append_nil, nm_one] <;> rfl) rfl rfl) ?_
 rintro w8 ⟨m9, h3, s7⟩
 have hf := hf.step m9 (fun k hk hS => by have hS : k = b3 := hS; show False; omega)
 have h2 := h2.keep m9 (by show ¬ (b2 = b3); omega)
 refine send (fg [(0, _), (2, _), (3, _)] ⟨rfl, rfl, rfl, ⟨⟩⟩ fun _ => (sreg (sv (xfld fl82_0 rfl) (sv (xcutA ar80 sz5 rfl) (sM rfl ?_)))))
 have k3 : Blk w8 b3 (bvs (List.replicate 255 0) ++ [Value.int .u8 0]) := by rw [← nm_nil]; exact h3.1
 refine svK (xcopyZ sl37 sz5 rfl rfl (cpy_str s) k3) ?_
 rintro _ w10 ⟨rfl, m11, k3, s8⟩
 have hf := hf.step m11 (fun k hk hS => by have hS : k = b3 := hS; show False; omega)
 have h2 := h2.keep m11 (by show ¬ (b2 = b3); omega)
 refine sv (xconv hs3 ki5 rfl (wu8n s.size (by rw [bt_length]; omega))) (sv (xfld fl82_1 rfl) ?_)
 refine suK (xst (i := 255) sz5 rfl rfl k3 (by simp [bvs, fixedL_length]) rfl) ?_
 rintro w12 ⟨m13, k3, s10⟩
 have hf := hf.step m13 (fun k hk hS => by have hS : k = b3 := hS; show False; omega)
 have h2 := h2.keep m13 (by show ¬ (b2 = b3); omega)
 rw [nm_copy s hs _ rfl] at k3
 have h3 : SB w12 b3 [256] [nm (bt s)] := ⟨k3, by simp [nm_length]⟩
 refine send (fg [(2, _), (3, _)] ⟨rfl, rfl, ⟨⟩⟩ fun _ => (sreg (sv (xldS (lens := [256]) ro82 rfl h3.r) ?_)))
 refine suK (xstW h2 (lens' := [256]) sz82 (by simp [nm_length]) rfl (by simp only [List.flatten_cons, List.flatten_nil, List.append_nil, nm_one] <;> rfl) rfl rfl) ?_
 rintro w15 ⟨m16, h2, s14⟩
 have hf := hf.step m16 (fun k hk hS => by have hS : k = b2 := hS; show False; omega)
 refine send (fg [(2, _)] ⟨rfl, ⟨⟩⟩ fun _ => (wp_ret ?_))
 refine rp1 rfl ⟨_, rfl, ldS (lens := [256]) ro82 h2.r⟩ ?_
 exact ⟨rfl, hf⟩
set_option maxHeartbeats 4000000 in
set_option maxRecDepth 100000 in
theorem c38 {w : World} {a : AskD} (hs : a.name.size ≤ 255) :
  Ret PP 38 [ag (askSegs a)] w (fun u w' => u = ag (questSegs a) ∧ Fr0 w w') := by
 have hf : Fr (fun _ => False) w w := Fr.refl _ _
 refine ret_of Tryz.func38 rfl rfl rfl [(0, _)] rfl ?_
 refine sreg ?_
 refine svK (xboxS (lens := [1, 1, 1]) rfl rfl) ?_
 rintro _ w2 ⟨b1, rfl, m3, h1, e1, s1⟩
 have hf := hf.step0 m3
 refine svK (xallS (lens := [256, 1, 1]) in86 (by simp [nm_length])) ?_
 rintro _ w5 ⟨b2, rfl, m6, h2, e4, s4⟩
 have hf := hf.step0 m6
 have h1 := h1.keep m6 id
 refine send (fg [(1, _), (2, _)] ⟨rfl, rfl, ⟨⟩⟩ fun _ => ?_)
 refine sdraw (Fr (fun _ => False) w5.drew) [(0, .rd), (1, .rd), (3, .rd), (4, .rd), (5, .rd), (6, .rd), (2, .ld), (7, .rd), (8, .bh)] mixed (by kernel_rfl) (fun _ _ _ _ _ h => h) ?_
 have z7 : w5.drew.heap.size = w5.heap.size := rfl
 have hf := hf.drew
 have h1 := h1.drew
 have h2 := h2.drew
 have hS8 : Fr (fun _ => False) w5.drew w5.drew := Fr.refl _ _
 refine hv rfl (fun _ _ => xfld fl58_0 rfl) hS8 (hv rfl (fun w' hS => xld on9 rfl ((h1.keep hS id).r.c 0 rfl rfl)) hS8 (hv rfl (fun _ _ => xfld fl58_1 rfl) hS8 (hv rfl (fun w' hS => xld on22 rfl ((h1.keep hS id).r.c 1 rfl rfl)) hS8 (hv rfl (fun _ _ => xfld fl58_2 rfl) hS8 (hv rfl (fun w' hS => xld on22 rfl ((h1.keep hS id).r.c 2 rfl rfl)) hS8 ?_)))))
 refine hc rfl (xcall ca89 rfl) (c89 (by omega)) ?_
 rintro _ w9 ⟨rfl, m10⟩
 have z11 := m10.size
 have hf := hf.step0 m10
 have h2 := h2.keep m10 id
 have hS12 := hS8.step0 m10
 refine ⟨hS12, ?_⟩
 refine hv rfl (fun _ _ => xbuildS (questSegs a) zr86 ly86 rfl (by simp [fitAll, zs86, Value.cells, nm_length]) (by simp [setAll, zs86, Value.cells, questSegs])) hS12 ?_
 refine bluK rfl (xstW h2 (lens' := [256, 1, 1]) sz86 (by simp [questSegs, nm_length]) rfl (by simp only [questSegs, List.flatten_cons, List.flatten_nil, List.all_append, List.append_nil, nm_one, Bool.true_and] <;> rfl) rfl rfl) ?_
 rintro w14 ⟨m15, h2, s13⟩
 have hf := hf.step m15 (fun k hk hS => by have hS : k = b2 := hS; show False; omega)
 refine hend (fg [(2, _)] ⟨rfl, ⟨⟩⟩ fun _ => (wp_ret ?_))
 refine rp1 rfl ⟨_, rfl, ldS (lens := [256, 1, 1]) ro86 h2.r⟩ ?_
 exact ⟨rfl, hf⟩
set_option maxHeartbeats 4000000 in
set_option maxRecDepth 100000 in
theorem c87 {w : World} {r : RecD} {vd vt vp : Value} (hs : r.name.size ≤ 255) :
  Ret PP 87 [ag (recSegs r vd vt vp)] w (fun u w' => u = ag (rhSegs (bt r.name) r.typ r.cls r.ttl r.len.toNat) ∧ Fr0 w w') := by
 have hf : Fr (fun _ => False) w w := Fr.refl _ _
 refine ret_of Tryz.func87 rfl rfl rfl [(0, _)] rfl ?_
 refine sreg ?_
 refine svK (xboxS (lens := lRec) rfl rfl) ?_
 rintro _ w2 ⟨b1, rfl, m3, h1, e1, s1⟩
 have hf := hf.step0 m3
 refine svK (xallS (lens := [256, 1, 1, 1, 1]) in135 (by simp [nm_length])) ?_
 rintro _ w5 ⟨b2, rfl, m6, h2, e4, s4⟩
 have hf := hf.step0 m6
 have h1 := h1.keep m6 id
 refine send (fg [(1, _), (2, _)] ⟨rfl, rfl, ⟨⟩⟩ fun _ => ?_)
 refine sdraw (Fr (fun _ => False) w5.drew) [(0, .rd), (1, .rd), (3, .rd), (4, .rd), (5, .rd), (6, .rd), (7, .rd), (8, .rd), (9, .rd), (10, .rd), (2, .ld), (11, .rd), (12, .bh)] mixed (by kernel_rfl) (fun _ _ _ _ _ h => h) ?_
 have z7 : w5.drew.heap.size = w5.heap.size := rfl
 have hf := hf.drew
 have h1 := h1.drew
 have h2 := h2.drew
 have hS8 : Fr (fun _ => False) w5.drew w5.drew := Fr.refl _ _
 refine hv rfl (fun _ _ => xfld fl112_0 rfl) hS8 (hv rfl (fun w' hS => xld on9 rfl ((h1.keep hS id).r.c 0 rfl rfl)) hS8 (hv rfl (fun _ _ => xfld fl112_1 rfl) hS8 (hv rfl (fun w' hS => xld on22 rfl ((h1.keep hS id).r.c 1 rfl rfl)) hS8 (hv rfl (fun _ _ => xfld fl112_2 rfl) hS8 (hv rfl (fun w' hS => xld on22 rfl ((h1.keep hS id).r.c 2 rfl rfl)) hS8 (hv rfl (fun _ _ => xfld fl112_3 rfl) hS8 (hv rfl (fun w' hS => xld on61 rfl ((h1.keep hS id).r.c 3 rfl rfl)) hS8 (hv rfl (fun _ _ => xfld fl112_4 rfl) hS8 (hv rfl (fun w' hS => xld on22 rfl ((h1.keep hS id).r.c 4 rfl rfl)) hS8 ?_)))))))))
 refine hc rfl (xcall ca89 rfl) (c89 (by omega)) ?_
 rintro _ w9 ⟨rfl, m10⟩
 have z11 := m10.size
 have hf := hf.step0 m10
 have h2 := h2.keep m10 id
 have hS12 := hS8.step0 m10
 refine ⟨hS12, ?_⟩
 refine hv rfl (fun _ _ => xbuildS (rhSegs (bt r.name) r.typ r.cls r.ttl r.len.toNat) zr135 ly135 rfl (by simp [fitAll, zs135, Value.cells, nm_length]) (by simp [setAll, zs135, Value.cells, rhSegs])) hS12 ?_
 refine bluK rfl (xstW h2 (lens' := [256, 1, 1, 1, 1]) sz135 (by simp [rhSegs, nm_length]) rfl (by simp only [rhSegs, List.flatten_cons, List.flatten_nil, List.all_append, List.append_nil, nm_one, Bool.true_and] <;> rfl) rfl rfl) ?_
 rintro w14 ⟨m15, h2, s13⟩
 have hf := hf.step m15 (fun k hk hS => by have hS : k = b2 := hS; show False; omega)
 refine hend (fg [(2, _)] ⟨rfl, ⟨⟩⟩ fun _ => (wp_ret ?_))
 refine rp1 rfl ⟨_, rfl, ldS (lens := [256, 1, 1, 1, 1]) ro135 h2.r⟩ ?_
 exact ⟨rfl, hf⟩
end Go.Proofs.YtifnodoffgfpbaaGreatDoor

namespace Go.Proofs.YtifnodoffgfpbaaGreatDoor
open Go
set_option maxHeartbeats 4000000 in
set_option maxRecDepth 100000 in
theorem c119 {w : World} {r : RecD} {vd vt vp : Value} (hs : r.host.size ≤ 255)  :
  Ret PP 119 [ag (recSegs r vd vt vp)] w (fun u w' => u = ag [nm (bt r.host)] ∧ Fr0 w w') := by
 have hf : Fr (fun _ => False) w w := Fr.refl _ _
 refine ret_of Tryz.func119 rfl rfl rfl [(0, _)] rfl ?_
 refine sreg ?_
 refine svK (xboxS (lens := lRec) rfl rfl) ?_
 rintro _ w2 ⟨b1, rfl, m3, h1, e1, s1⟩
 have hf := hf.step0 m3
 refine svK (xallS (lens := [256]) in192 (by simp [nm_length])) ?_
 rintro _ w5 ⟨b2, rfl, m6, h2, e4, s4⟩
 have hf := hf.step0 m6
 have h1 := h1.keep m6 id
 refine send (fg [(1, _), (2, _)] ⟨rfl, rfl, ⟨⟩⟩ fun _ => (sreg (sv (xfld fl112_7 rfl) (sv (xld on9 rfl (h1.r.c 7 rfl rfl)) ?_))))
 refine sc (xcall ca89 rfl) (c89 (by omega)) ?_
 rintro _ w7 ⟨rfl, m8⟩
 have z9 := m8.size
 have hf := hf.step0 m8
 have h2 := h2.keep m8 id
 refine sv (xbuildS [nm (bt r.host)] zr192 ly192 rfl (by simp [fitAll, zs192, Value.cells, nm_length]) (by simp [setAll, zs192, Value.cells])) ?_
 refine suK (xstW h2 (lens' := [256]) sz192 (by simp [nm_length]) rfl (by simp only [List.flatten_cons, List.flatten_nil, List.append_nil, nm_one] <;> rfl) rfl rfl) ?_
 rintro w11 ⟨m12, h2, s10⟩
 have hf := hf.step m12 (fun k hk hS => by have hS : k = b2 := hS; show False; omega)
 refine send (fg [(2, _)] ⟨rfl, ⟨⟩⟩ fun _ => (wp_ret ?_))
 refine rp1 rfl ⟨_, rfl, ldS (lens := [256]) ro192 h2.r⟩ ?_
 exact ⟨rfl, hf⟩
set_option maxHeartbeats 4000000 in
set_option maxRecDepth 100000 in
theorem c121 {w : World} {r : RecD} {vd vt vp : Value} (hs : r.host.size ≤ 255)  :
  Ret PP 121 [ag (recSegs r vd vt vp)] w (fun u w' => u = ag [nm (bt r.host)] ∧ Fr0 w w') := by
 have hf : Fr (fun _ => False) w w := Fr.refl _ _
 refine ret_of Tryz.func121 rfl rfl rfl [(0, _)] rfl ?_
 refine sreg ?_
 refine svK (xboxS (lens := lRec) rfl rfl) ?_
 rintro _ w2 ⟨b1, rfl, m3, h1, e1, s1⟩
 have hf := hf.step0 m3
 refine svK (xallS (lens := [256]) in195 (by simp [nm_length])) ?_
 rintro _ w5 ⟨b2, rfl, m6, h2, e4, s4⟩
 have hf := hf.step0 m6
 have h1 := h1.keep m6 id
 refine send (fg [(1, _), (2, _)] ⟨rfl, rfl, ⟨⟩⟩ fun _ => (sreg (sv (xfld fl112_7 rfl) (sv (xld on9 rfl (h1.r.c 7 rfl rfl)) ?_))))
 refine sc (xcall ca89 rfl) (c89 (by omega)) ?_
 rintro _ w7 ⟨rfl, m8⟩
 have z9 := m8.size
 have hf := hf.step0 m8
 have h2 := h2.keep m8 id
 refine sv (xbuildS [nm (bt r.host)] zr195 ly195 rfl (by simp [fitAll, zs195, Value.cells, nm_length]) (by simp [setAll, zs195, Value.cells])) ?_
 refine suK (xstW h2 (lens' := [256]) sz195 (by simp [nm_length]) rfl (by simp only [List.flatten_cons, List.flatten_nil, List.append_nil, nm_one] <;> rfl) rfl rfl) ?_
 rintro w11 ⟨m12, h2, s10⟩
 have hf := hf.step m12 (fun k hk hS => by have hS : k = b2 := hS; show False; omega)
 refine send (fg [(2, _)] ⟨rfl, ⟨⟩⟩ fun _ => (wp_ret ?_))
 refine rp1 rfl ⟨_, rfl, ldS (lens := [256]) ro195 h2.r⟩ ?_
 exact ⟨rfl, hf⟩
set_option maxHeartbeats 4000000 in
set_option maxRecDepth 100000 in
theorem c125 {w : World} {r : RecD} {vd vt vp : Value} (hs : r.host.size ≤ 255)  :
  Ret PP 125 [ag (recSegs r vd vt vp)] w (fun u w' => u = ag [nm (bt r.host)] ∧ Fr0 w w') := by
 have hf : Fr (fun _ => False) w w := Fr.refl _ _
 refine ret_of Tryz.func125 rfl rfl rfl [(0, _)] rfl ?_
 refine sreg ?_
 refine svK (xboxS (lens := lRec) rfl rfl) ?_
 rintro _ w2 ⟨b1, rfl, m3, h1, e1, s1⟩
 have hf := hf.step0 m3
 refine svK (xallS (lens := [256]) in201 (by simp [nm_length])) ?_
 rintro _ w5 ⟨b2, rfl, m6, h2, e4, s4⟩
 have hf := hf.step0 m6
 have h1 := h1.keep m6 id
 refine send (fg [(1, _), (2, _)] ⟨rfl, rfl, ⟨⟩⟩ fun _ => (sreg (sv (xfld fl112_7 rfl) (sv (xld on9 rfl (h1.r.c 7 rfl rfl)) ?_))))
 refine sc (xcall ca89 rfl) (c89 (by omega)) ?_
 rintro _ w7 ⟨rfl, m8⟩
 have z9 := m8.size
 have hf := hf.step0 m8
 have h2 := h2.keep m8 id
 refine sv (xbuildS [nm (bt r.host)] zr201 ly201 rfl (by simp [fitAll, zs201, Value.cells, nm_length]) (by simp [setAll, zs201, Value.cells])) ?_
 refine suK (xstW h2 (lens' := [256]) sz201 (by simp [nm_length]) rfl (by simp only [List.flatten_cons, List.flatten_nil, List.append_nil, nm_one] <;> rfl) rfl rfl) ?_
 rintro w11 ⟨m12, h2, s10⟩
 have hf := hf.step m12 (fun k hk hS => by have hS : k = b2 := hS; show False; omega)
 refine send (fg [(2, _)] ⟨rfl, ⟨⟩⟩ fun _ => (wp_ret ?_))
 refine rp1 rfl ⟨_, rfl, ldS (lens := [256]) ro201 h2.r⟩ ?_
 exact ⟨rfl, hf⟩
set_option maxHeartbeats 4000000 in
set_option maxRecDepth 100000 in
theorem c127 {w : World} {r : RecD} {vd vt vp : Value} (hs : r.host.size ≤ 255)  :
  Ret PP 127 [ag (recSegs r vd vt vp)] w (fun u w' => u = ag [[.int .u16 ((r.n1.toNat % 65536 : Nat) : Int)], nm (bt r.host)] ∧ Fr0 w w') := by
 have hf : Fr (fun _ => False) w w := Fr.refl _ _
 refine ret_of Tryz.func127 rfl rfl rfl [(0, _)] rfl ?_
 refine sreg ?_
 refine svK (xboxS (lens := lRec) rfl rfl) ?_
 rintro _ w2 ⟨b1, rfl, m3, h1, e1, s1⟩
 have hf := hf.step0 m3
 refine svK (xallS (lens := [1, 256]) in204 (by simp [nm_length])) ?_
 rintro _ w5 ⟨b2, rfl, m6, h2, e4, s4⟩
 have hf := hf.step0 m6
 have h1 := h1.keep m6 id
 refine send (fg [(1, _), (2, _)] ⟨rfl, rfl, ⟨⟩⟩ fun _ => ?_)
 refine sdraw (Fr (fun _ => False) w5.drew) [(0, .rd), (1, .rd), (2, .rd), (3, .rd), (4, .rd), (5, .ld), (6, .rd), (7, .bh)] mixed (by kernel_rfl) (fun _ _ _ _ _ h => h) ?_
 have z7 : w5.drew.heap.size = w5.heap.size := rfl
 have hf := hf.drew
 have h1 := h1.drew
 have h2 := h2.drew
 have hS8 : Fr (fun _ => False) w5.drew w5.drew := Fr.refl _ _
 refine hv rfl (fun _ _ => xfld fl112_9 rfl) hS8 (hv rfl (fun w' hS => xld on61 rfl ((h1.keep hS id).r.c 9 rfl rfl)) hS8 (hv rfl (fun _ _ => xconv hs61 ki22 rfl (wu16n (r.n1.toNat % 65536) (by omega))) hS8 (hv rfl (fun _ _ => xfld fl112_7 rfl) hS8 (hv rfl (fun w' hS => xld on9 rfl ((h1.keep hS id).r.c 7 rfl rfl)) hS8 ?_))))
 refine hc rfl (xcall ca89 rfl) (c89 (by omega)) ?_
 rintro _ w9 ⟨rfl, m10⟩
 have z11 := m10.size
 have hf := hf.step0 m10
 have h2 := h2.keep m10 id
 have hS12 := hS8.step0 m10
 refine ⟨hS12, ?_⟩
 refine hv rfl (fun _ _ => xbuildS [[.int .u16 ((r.n1.toNat % 65536 : Nat) : Int)], nm (bt r.host)] zr204 ly204 rfl (by simp [fitAll, zs204, Value.cells, nm_length]) (by simp [setAll, zs204, Value.cells])) hS12 ?_
 refine bluK rfl (xstW h2 (lens' := [1, 256]) sz204 (by simp [nm_length]) rfl (by simp only [List.flatten_cons, List.flatten_nil, List.all_append, List.append_nil, nm_one] <;> rfl) rfl rfl) ?_
 rintro w14 ⟨m15, h2, s13⟩
 have hf := hf.step m15 (fun k hk hS => by have hS : k = b2 := hS; show False; omega)
 refine hend (fg [(2, _)] ⟨rfl, ⟨⟩⟩ fun _ => (wp_ret ?_))
 refine rp1 rfl ⟨_, rfl, ldS (lens := [1, 256]) ro204 h2.r⟩ ?_
 exact ⟨rfl, hf⟩
set_option maxHeartbeats 4000000 in
set_option maxRecDepth 100000 in
theorem c133 {w : World} {r : RecD} {vd vt vp : Value} (hs : r.host.size ≤ 255)  :
  Ret PP 133 [ag (recSegs r vd vt vp)] w (fun u w' => u = ag [[.int .u16 ((r.n1.toNat % 65536 : Nat) : Int)], [.int .u16 ((r.n2.toNat % 65536 : Nat) : Int)], [.int .u16 ((r.n3.toNat % 65536 : Nat) : Int)], nm (bt r.host)] ∧ Fr0 w w') := by
 have hf : Fr (fun _ => False) w w := Fr.refl _ _
 refine ret_of Tryz.func133 rfl rfl rfl [(0, _)] rfl ?_
 refine sreg ?_
 refine svK (xboxS (lens := lRec) rfl rfl) ?_
 rintro _ w2 ⟨b1, rfl, m3, h1, e1, s1⟩
 have hf := hf.step0 m3
 refine svK (xallS (lens := [1, 1, 1, 256]) in214 (by simp [nm_length])) ?_
 rintro _ w5 ⟨b2, rfl, m6, h2, e4, s4⟩
 have hf := hf.step0 m6
 have h1 := h1.keep m6 id
 refine send (fg [(1, _), (2, _)] ⟨rfl, rfl, ⟨⟩⟩ fun _ => ?_)
 refine sdraw (Fr (fun _ => False) w5.drew) [(0, .rd), (1, .rd), (2, .rd), (3, .rd), (4, .rd), (5, .rd), (6, .rd), (7, .rd), (8, .rd), (9, .rd), (10, .rd), (11, .ld), (12, .rd), (13, .bh)] mixed (by kernel_rfl) (fun _ _ _ _ _ h => h) ?_
 have z7 : w5.drew.heap.size = w5.heap.size := rfl
 have hf := hf.drew
 have h1 := h1.drew
 have h2 := h2.drew
 have hS8 : Fr (fun _ => False) w5.drew w5.drew := Fr.refl _ _
 refine hv rfl (fun _ _ => xfld fl112_9 rfl) hS8 (hv rfl (fun w' hS => xld on61 rfl ((h1.keep hS id).r.c 9 rfl rfl)) hS8 (hv rfl (fun _ _ => xconv hs61 ki22 rfl (wu16n (r.n1.toNat % 65536) (by omega))) hS8 (hv rfl (fun _ _ => xfld fl112_10 rfl) hS8 (hv rfl (fun w' hS => xld on61 rfl ((h1.keep hS id).r.c 10 rfl rfl)) hS8 (hv rfl (fun _ _ => xconv hs61 ki22 rfl (wu16n (r.n2.toNat % 65536) (by omega))) hS8 (hv rfl (fun _ _ => xfld fl112_11 rfl) hS8 (hv rfl (fun w' hS => xld on61 rfl ((h1.keep hS id).r.c 11 rfl rfl)) hS8 (hv rfl (fun _ _ => xconv hs61 ki22 rfl (wu16n (r.n3.toNat % 65536) (by omega))) hS8 (hv rfl (fun _ _ => xfld fl112_7 rfl) hS8 (hv rfl (fun w' hS => xld on9 rfl ((h1.keep hS id).r.c 7 rfl rfl)) hS8 ?_))))))))))
 refine hc rfl (xcall ca89 rfl) (c89 (by omega)) ?_
 rintro _ w9 ⟨rfl, m10⟩
 have z11 := m10.size
 have hf := hf.step0 m10
 have h2 := h2.keep m10 id
 have hS12 := hS8.step0 m10
 refine ⟨hS12, ?_⟩
 refine hv rfl (fun _ _ => xbuildS [[.int .u16 ((r.n1.toNat % 65536 : Nat) : Int)], [.int .u16 ((r.n2.toNat % 65536 : Nat) : Int)], [.int .u16 ((r.n3.toNat % 65536 : Nat) : Int)], nm (bt r.host)] zr214 ly214 rfl (by simp [fitAll, zs214, Value.cells, nm_length]) (by simp [setAll, zs214, Value.cells])) hS12 ?_
 refine bluK rfl (xstW h2 (lens' := [1, 1, 1, 256]) sz214 (by simp [nm_length]) rfl (by simp only [List.flatten_cons, List.flatten_nil, List.all_append, List.append_nil, nm_one] <;> rfl) rfl rfl) ?_
 rintro w14 ⟨m15, h2, s13⟩
 have hf := hf.step m15 (fun k hk hS => by have hS : k = b2 := hS; show False; omega)
 refine hend (fg [(2, _)] ⟨rfl, ⟨⟩⟩ fun _ => (wp_ret ?_))
 refine rp1 rfl ⟨_, rfl, ldS (lens := [1, 1, 1, 256]) ro214 h2.r⟩ ?_
 exact ⟨rfl, hf⟩
set_option maxHeartbeats 4000000 in
set_option maxRecDepth 100000 in
theorem c123 {w : World} {r : RecD} {vd vt vp : Value} (hs : r.host.size ≤ 255) (hs2 : r.box.size ≤ 255) :
  Ret PP 123 [ag (recSegs r vd vt vp)] w (fun u w' => u = ag [nm (bt r.host), nm (bt r.box), [.int .u32 (r.n1.toNat : Int)], [.int .u32 (r.n2.toNat : Int)], [.int .u32 (r.n3.toNat : Int)], [.int .u32 (r.n4.toNat : Int)], [.int .u32 (r.n5.toNat : Int)]] ∧ Fr0 w w') := by
 have hf : Fr (fun _ => False) w w := Fr.refl _ _
 refine ret_of Tryz.func123 rfl rfl rfl [(0, _)] rfl ?_
 refine sreg ?_
 refine svK (xboxS (lens := lRec) rfl rfl) ?_
 rintro _ w2 ⟨b1, rfl, m3, h1, e1, s1⟩
 have hf := hf.step0 m3
 refine svK (xallS (lens := [256, 256, 1, 1, 1, 1, 1]) in198 (by simp [nm_length])) ?_
 rintro _ w5 ⟨b2, rfl, m6, h2, e4, s4⟩
 have hf := hf.step0 m6
 have h1 := h1.keep m6 id
 refine send (fg [(1, _), (2, _)] ⟨rfl, rfl, ⟨⟩⟩ fun _ => ?_)
 refine sdraw (Fr (fun _ => False) w5.drew) [(0, .rd), (1, .rd), (3, .rd), (4, .rd), (6, .rd), (7, .rd), (8, .rd), (9, .rd), (10, .rd), (11, .rd), (12, .rd), (13, .rd), (14, .rd), (15, .rd), (2, .ld), (5, .ld), (16, .rd), (17, .bh)] mixed (by kernel_rfl) (fun _ _ _ _ _ h => h) ?_
 have z7 : w5.drew.heap.size = w5.heap.size := rfl
 have hf := hf.drew
 have h1 := h1.drew
 have h2 := h2.drew
 have hS8 : Fr (fun _ => False) w5.drew w5.drew := Fr.refl _ _
 refine hv rfl (fun _ _ => xfld fl112_7 rfl) hS8 (hv rfl (fun w' hS => xld on9 rfl ((h1.keep hS id).r.c 7 rfl rfl)) hS8 (hv rfl (fun _ _ => xfld fl112_8 rfl) hS8 (hv rfl (fun w' hS => xld on9 rfl ((h1.keep hS id).r.c 8 rfl rfl)) hS8 (hv rfl (fun _ _ => xfld fl112_9 rfl) hS8 (hv rfl (fun w' hS => xld on61 rfl ((h1.keep hS id).r.c 9 rfl rfl)) hS8 (hv rfl (fun _ _ => xfld fl112_10 rfl) hS8 (hv rfl (fun w' hS => xld on61 rfl ((h1.keep hS id).r.c 10 rfl rfl)) hS8 (hv rfl (fun _ _ => xfld fl112_11 rfl) hS8 (hv rfl (fun w' hS => xld on61 rfl ((h1.keep hS id).r.c 11 rfl rfl)) hS8 (hv rfl (fun _ _ => xfld fl112_12 rfl) hS8 (hv rfl (fun w' hS => xld on61 rfl ((h1.keep hS id).r.c 12 rfl rfl)) hS8 (hv rfl (fun _ _ => xfld fl112_13 rfl) hS8 (hv rfl (fun w' hS => xld on61 rfl ((h1.keep hS id).r.c 13 rfl rfl)) hS8 ?_)))))))))))))
 refine hc rfl (xcall ca89 rfl) (c89 (by omega)) ?_
 rintro _ w9 ⟨rfl, m10⟩
 have z11 := m10.size
 have hf := hf.step0 m10
 have h2 := h2.keep m10 id
 have hS12 := hS8.step0 m10
 refine ⟨hS12, ?_⟩
 refine hc rfl (xcall ca89 rfl) (c89 (by omega)) ?_
 rintro _ w13 ⟨rfl, m14⟩
 have z15 := m14.size
 have hf := hf.step0 m14
 have h2 := h2.keep m14 id
 have hS16 := hS12.step0 m14
 refine ⟨hS16, ?_⟩
 refine hv rfl (fun _ _ => xbuildS [nm (bt r.host), nm (bt r.box), [.int .u32 (r.n1.toNat : Int)], [.int .u32 (r.n2.toNat : Int)], [.int .u32 (r.n3.toNat : Int)], [.int .u32 (r.n4.toNat : Int)], [.int .u32 (r.n5.toNat : Int)]] zr198 ly198 rfl (by simp [fitAll, zs198, Value.cells, nm_length]) (by simp [setAll, zs198, Value.cells])) hS16 ?_
 refine bluK rfl (xstW h2 (lens' := [256, 256, 1, 1, 1, 1, 1]) sz198 (by simp [nm_length]) rfl (by simp only [List.flatten_cons, List.flatten_nil, List.all_append, List.append_nil, nm_one, Bool.true_and] <;> rfl) rfl rfl) ?_
 rintro w18 ⟨m19, h2, s17⟩
 have hf := hf.step m19 (fun k hk hS => by have hS : k = b2 := hS; show False; omega)
 refine hend (fg [(2, _)] ⟨rfl, ⟨⟩⟩ fun _ => (wp_ret ?_))
 refine rp1 rfl ⟨_, rfl, ldS (lens := [256, 256, 1, 1, 1, 1, 1]) ro198 h2.r⟩ ?_
 exact ⟨rfl, hf⟩
set_option maxHeartbeats 4000000 in
set_option maxRecDepth 100000 in
theorem c186 {w : World} {U : Nat → Prop} (hU : ∀ k, U k → k < w.heap.size) {v : Value} {ps : List PairD} (hp : LA PairEl lPair U w v ps) (hn : ps.length ≤ 1048576) (hpl : ∀ p ∈ ps, p.data.length ≤ 1048576) :
  Ret PP 186 [v] w (fun u w' => LA PairEl lPair (Ub U w w') w' u ps ∧ Fr0 w w') := by
 obtain ⟨a0, c0, rfl⟩ := hp.form
 have hf : Fr (fun _ => False) w w := Fr.refl _ _
 refine ret_of Tryz.func186 rfl rfl rfl [(0, _)] rfl ?_
 refine sreg (sA rfl (send (fg [(0, _)] ⟨rfl, ⟨⟩⟩ fun _ => (sreg ?_))))
 refine svK (xslit ([]) sl222 in291 rfl (by decide) rfl rfl rfl rfl (by decide) rfl rfl) ?_
 rintro _ w2 ⟨b6, rfl, m3, h6, e6, s6, r6⟩
 have hp := hp.keep pair_st (lU hU (by omega)) m3 nF
 have hf := hf.step0 m3
 have hv3 : RX PairEl lPair U w.heap.size w2.heap.size w2 _ b6 291 0 [] := RX.ofNil r6
 refine sA rfl (send (fg [(0, _), (3, _)] ⟨rfl, rfl, ⟨⟩⟩ fun _ => (wp_seq (sreg (sM rfl (sv (xlen sl110 rfl) (sM rfl (send (fg [(3, _), (7, _), (8, _), (9, _)] ⟨rfl, rfl, rfl, rfl, ⟨⟩⟩ fun _ => (wp_block ?_))))))))))
 refine lp [(7, _), (8, _)] (fun (x : Nat × Value × Nat) => match x with | (k, v, g) => [(3, v), (9, .int .i64 (k : Int))]) (fun (x : Nat × Value × Nat) wx => match x with | (k, v, g) => Fr (fun k => k = b6) w2 wx ∧ (k ≤ ps.length) ∧ (RX PairEl lPair U w.heap.size wx.heap.size wx v g 291 k (ps.take k)) ∧ (w.heap.size ≤ g) ∧ (g < wx.heap.size) ∧ (g = b6 ∨ w2.heap.size ≤ g)) (fun (x : Nat × Value × Nat) => match x with | (k, v, g) => ps.length - k) (0, _, b6) ⟨rfl, rfl, rfl, rfl, trivial⟩ ⟨Fr.refl _ _, Nat.zero_le _, hv3, by omega, by omega, .inl rfl⟩ ?_
 rintro ⟨k, v, g⟩ _ w5 ⟨hL4, hk, hv3, hg, hg2, hg3⟩
 refine fg [(3, _), (7, _), (8, _), (9, _)] ⟨rfl, rfl, rfl, rfl, ⟨⟩⟩ fun _ => ?_
 have z6 := hL4.size
 have hp := hp.keep pair_st (lU hU (by omega)) hL4 (fun k hk hS => by have hk := hU k hk; have hS : k = b6 := hS; omega)
 have hf := hf.step hL4 (fun k hk hS => by have hS : k = b6 := hS; show False; omega)
 obtain ⟨a3, c3, rfl⟩ := RA.form hv3
 refine sreg ?_
 refine svP (xlss rfl rfl) (fun hc10 => ?_) (fun hc10 => ?_)
 ·
  refine send (fg [(3, _), (7, _), (8, _), (9, _), (10, _)] ⟨rfl, rfl, rfl, rfl, rfl, ⟨⟩⟩ fun _ => (wp_seq (cyes rfl (wp_skip (nThen (fg [(3, _), (7, _), (8, _), (9, _)] ⟨rfl, rfl, rfl, rfl, ⟨⟩⟩ fun _ => (wp_seq (wp_block ?_))))))))
  obtain ⟨p, hpk⟩ := some_of_lt (by omega : k < ps.length)
  have hpd := hpl _ (List.mem_of_getElem? hpk)
  refine sreg ?_
  obtain ⟨bE11, oE11, sgE11, rfl, uE11, hsE11, heE11⟩ := LA.get hp hpk
  obtain ⟨vd, rfl, hd⟩ := heE11
  have zE11 := hU _ uE11
  obtain ⟨ad, cd, rfl, -⟩ := id hd
  refine sv (xidx sl110 sz145 rfl rfl rfl (by omega)) (sv (xldS (lens := [1, 1]) ro145 rfl hsE11) ?_)
  refine svK (xallS (lens := [1, 1]) in145 rfl) ?_
  rintro _ w8 ⟨b5, rfl, m9, h5, e7, s7⟩
  have hf := hf.step0 m9
  have hv3 := RX.keep hv3 pair_st (lU hU (by omega)) (by omega) m9 (fun _ _ _ h => h) id
  have hL4 := hL4.step0 m9
  have hd := hd.keep (lU hU (by omega)) m9 nF
  refine suK (xstW h5 (lens' := [1, 1]) sz145 rfl rfl rfl rfl rfl) ?_
  rintro w11 ⟨m12, h5, s10⟩
  have hf := hf.step m12 (fun k hk hS => by have hS : k = b5 := hS; show False; omega)
  have hv3 := RX.keep hv3 pair_st (lU hU (by omega)) (by omega) m12 (fun k hk hk3 hS => by have hS : k = b5 := hS; rcases hk with hk | hk <;> first | omega | (have := hU k hk; omega)) (by show ¬ (g = b5); omega)
  have hL4 := hL4.step m12 (fun k hk hS => by have hS : k = b5 := hS; show k = b6; omega)
  have hd := hd.keep (lU hU (by omega)) m12 (fun k hk hS => by have hk := hU k hk; have hS : k = b5 := hS; omega)
  refine send (fg [(3, _), (5, _), (7, _), (8, _), (9, _)] ⟨rfl, rfl, rfl, rfl, rfl, ⟨⟩⟩ fun _ => ?_)
  refine ldraw (Fr (fun k => k = g) w11.drew) [(0, .rd), (1, .rd), (2, .rd), (4, .rd), (5, .rd), (3, .ld), (6, .ld), (7, .rd), (8, .ld), (9, .ld), (10, .rd)] mixed (by kernel_rfl) (fun _ _ _ _ _ h => h) ?_
  have z13 : w11.drew.heap.size = w11.heap.size := rfl
  have hf := hf.drew
  have hv3 := RX.keep hv3 pair_st (lU hU (by omega)) (by omega) (fd w11) (fun _ _ _ h => h) id
  have hL4 := hL4.drew
  have hd := hd.keep (lU hU (by omega)) (fd w11) nF
  have h5 := h5.drew
  have hS14 : Fr (fun k => k = g) w11.drew w11.drew := Fr.refl _ _
  refine ggM rfl rfl hS14 (hv rfl (fun _ _ => xfld fl145_0 rfl) hS14 (hv rfl (fun w' hS => xld on22 rfl ((h5.keep hS (by show ¬ (b5 = g); omega)).r.c 0 rfl rfl)) hS14 (hv rfl (fun _ _ => xfld fl145_1 rfl) hS14 (hv rfl (fun w' hS => xld on37 rfl ((h5.keep hS (by show ¬ (b5 = g); omega)).r.c 1 rfl rfl)) hS14 ?_))))
  refine hlK rfl (xslit (bvs []) sl37 in5 rfl (by decide) rfl rfl rfl rfl (by decide) rfl (bvs_one _)) ?_
  rintro _ w16 ⟨b16, rfl, m17, h16, e16, s16, r16⟩
  have hf := hf.step0 m17
  have hv3 := RX.keep hv3 pair_st (lU hU (by omega)) (by omega) m17 (fun _ _ _ h => h) id
  have hL4 := hL4.step0 m17
  have hd := hd.keep (lU hU (by omega)) m17 nF
  have hS18 := hS14.step0 m17
  refine ⟨hS18, ?_⟩
  refine hlK rfl (xapp sl37 in5 rfl (by decide) rfl rfl r16 (hd.src sl37) (by simp only [maxLen]; omega) (by omega)) ?_
  rintro _ w19 ⟨g19, r19, m20, a19, l19⟩
  have z21 := m20.size
  have hf := hf.step m20 (fun k hk hS => by have hS : k = b16 := hS; show False; omega)
  have hv3 := RX.keep hv3 pair_st (lU hU (by omega)) (by omega) m20 (fun k hk hk3 hS => by have hS : k = b16 := hS; rcases hk with hk | hk <;> first | omega | (have := hU k hk; omega)) (by show ¬ (g = b16); omega)
  have hL4 := hL4.step m20 (fun k hk hS => by have hS : k = b16 := hS; show k = b6; omega)
  have hS22 := hS18.step m20 (fun k hk hS => by have hS : k = b16 := hS; show k = g; omega)
  obtain ⟨p19, q19, rfl, -⟩ := r19.form
  refine ⟨hS22, ?_⟩
  refine hv rfl (fun _ _ => xbuildS (pairSegs p (.slice p19 (0 + p.data.length) q19)) zr291 ly291 rfl (by simp [fitAll, zs291, Value.cells]) rfl) hS22 ?_
  refine hlK rfl (xslit ((pairSegs p (.slice p19 (0 + p.data.length) q19)).flatten) sl222 in291 rfl (by decide) rfl rfl rfl rfl (by decide) rfl rfl) ?_
  rintro _ w24 ⟨b21, rfl, m25, h21, e21, s21, r21⟩
  have hf := hf.step0 m25
  have hv3 := RX.keep hv3 pair_st (lU hU (by omega)) (by omega) m25 (fun _ _ _ h => h) id
  have hL4 := hL4.step0 m25
  have r19 := r19.keep m25 id
  have hS26 := hS22.step0 m25
  refine ⟨hS26, ?_⟩
  obtain ⟨ss22, hR22, hA22⟩ := hv3
  refine hlK rfl (xapp sl222 in291 rfl (by decide) rfl rfl hR22 (r21.src sl222) (by simp only [maxLen]; omega) (by omega)) ?_
  rintro v22 w27 ⟨g22, r22, m28, a22, l22⟩
  have z29 := m28.size
  have hf := hf.step m28 (fun k hk hS => by have hS : k = g := hS; show False; omega)
  have hL4 := hL4.step m28 (fun k hk hS => by have hS : k = g := hS; show k = b6; omega)
  have r19 := r19.keep m28 (by show ¬ (g19 = g); omega)
  have hS30 := hS26.step m28 (fun k hk hS => by have hS : k = g := hS; show k = g; omega)
  have hv3 := RX.snoc (x := p) w27.heap.size hA22 pair_st pair_gr (lU hU (by omega)) (by omega) (by omega) m28 a22 r22 rfl (⟨_, rfl, BR.ba (show BR _ _ _ _ p.data from r19) ⟨.inr ⟨by omega, by omega⟩, by omega⟩⟩)
  refine ⟨hS30, ?_⟩
  refine ggA rfl rfl hS30 (lhend (nBlock (nThen (fg [(3, _), (7, _), (8, _), (9, _)] ⟨rfl, rfl, rfl, rfl, ⟨⟩⟩ fun _ => (lreg (sv (xadd rfl rfl (w64 (by omega) (by omega))) (sM rfl (lend (nThen ?_)))))))))
  refine ⟨(k + 1, _, g22), _, env_okl ⟨rfl, rfl, rfl, rfl, trivial⟩, ⟨hL4, (by omega), (by rw [take_snoc hpk]; exact RX.up pair_gr hv3 (by omega)), (by omega), (l22 (by omega)), (by omega)⟩, ?_⟩
  show ps.length - (k + 1) < ps.length - k; omega
 ·
  refine send (fg [(3, _), (7, _), (8, _), (9, _), (10, _)] ⟨rfl, rfl, rfl, rfl, rfl, ⟨⟩⟩ fun _ => (wp_seq (cno rfl (wp_exit (eThen (eThen (eHit (nThen (fg [(3, _)] ⟨rfl, ⟨⟩⟩ fun _ => (sreg (sM rfl (sA rfl (send (fg [(2, _)] ⟨rfl, ⟨⟩⟩ fun _ => (wp_ret ?_)))))))))))))))
  refine rp1 rfl rfl ?_
  have e : ps.take k = ps := List.take_of_length_le (by omega)
  rw [e] at hv3
  exact ⟨RX.la hv3 (by decide) pair_gr (fun k hk => hk.elim .inl .inr) (.inr ⟨hg, hg2⟩), hf⟩
set_option maxHeartbeats 4000000 in
set_option maxRecDepth 100000 in
theorem c183 {w : World} {U : Nat → Prop} (hU : ∀ k, U k → k < w.heap.size) {v : Value} {ps : List PairD} (hp : LA PairEl lPair U w v ps) (hn : ps.length ≤ 1048576) (hpl : ∀ p ∈ ps, p.data.length ≤ 1048576) :
  Ret PP 183 [v] w (fun u w' => LA PairEl lPair (Ub U w w') w' u ps ∧ Fr0 w w') := by
 obtain ⟨a0, c0, rfl⟩ := hp.form
 have hf : Fr (fun _ => False) w w := Fr.refl _ _
 refine ret_of Tryz.func183 rfl rfl rfl [(0, _)] rfl ?_
 refine sreg (sA rfl (send (fg [(0, _)] ⟨rfl, ⟨⟩⟩ fun _ => (sreg ?_))))
 refine svK (xslit ([]) sl216 in220 rfl (by decide) rfl rfl rfl rfl (by decide) rfl rfl) ?_
 rintro _ w2 ⟨b6, rfl, m3, h6, e6, s6, r6⟩
 have hp := hp.keep pair_st (lU hU (by omega)) m3 nF
 have hf := hf.step0 m3
 have hv3 : RX PairEl lPair U w.heap.size w2.heap.size w2 _ b6 220 0 [] := RX.ofNil r6
 refine sA rfl (send (fg [(0, _), (3, _)] ⟨rfl, rfl, ⟨⟩⟩ fun _ => (wp_seq (sreg (sM rfl (sv (xlen sl110 rfl) (sM rfl (send (fg [(3, _), (7, _), (8, _), (9, _)] ⟨rfl, rfl, rfl, rfl, ⟨⟩⟩ fun _ => (wp_block ?_))))))))))
 refine lp [(7, _), (8, _)] (fun (x : Nat × Value × Nat) => match x with | (k, v, g) => [(3, v), (9, .int .i64 (k : Int))]) (fun (x : Nat × Value × Nat) wx => match x with | (k, v, g) => Fr (fun k => k = b6) w2 wx ∧ (k ≤ ps.length) ∧ (RX PairEl lPair U w.heap.size wx.heap.size wx v g 220 k (ps.take k)) ∧ (w.heap.size ≤ g) ∧ (g < wx.heap.size) ∧ (g = b6 ∨ w2.heap.size ≤ g)) (fun (x : Nat × Value × Nat) => match x with | (k, v, g) => ps.length - k) (0, _, b6) ⟨rfl, rfl, rfl, rfl, trivial⟩ ⟨Fr.refl _ _, Nat.zero_le _, hv3, by omega, by omega, .inl rfl⟩ ?_
 rintro ⟨k, v, g⟩ _ w5 ⟨hL4, hk, hv3, hg, hg2, hg3⟩
 refine fg [(3, _), (7, _), (8, _), (9, _)] ⟨rfl, rfl, rfl, rfl, ⟨⟩⟩ fun _ => ?_
 have z6 := hL4.size
 have hp := hp.keep pair_st (lU hU (by omega)) hL4 (fun k hk hS => by have hk := hU k hk; have hS : k = b6 := hS; omega)
 have hf := hf.step hL4 (fun k hk hS => by have hS : k = b6 := hS; show False; omega)
 obtain ⟨a3, c3, rfl⟩ := RA.form hv3
 refine sreg ?_
 refine svP (xlss rfl rfl) (fun hc10 => ?_) (fun hc10 => ?_)
 ·
  refine send (fg [(3, _), (7, _), (8, _), (9, _), (10, _)] ⟨rfl, rfl, rfl, rfl, rfl, ⟨⟩⟩ fun _ => (wp_seq (cyes rfl (wp_skip (nThen (fg [(3, _), (7, _), (8, _), (9, _)] ⟨rfl, rfl, rfl, rfl, ⟨⟩⟩ fun _ => (wp_seq (wp_block ?_))))))))
  obtain ⟨p, hpk⟩ := some_of_lt (by omega : k < ps.length)
  have hpd := hpl _ (List.mem_of_getElem? hpk)
  refine sreg ?_
  obtain ⟨bE11, oE11, sgE11, rfl, uE11, hsE11, heE11⟩ := LA.get hp hpk
  obtain ⟨vd, rfl, hd⟩ := heE11
  have zE11 := hU _ uE11
  obtain ⟨ad, cd, rfl, -⟩ := id hd
  refine sv (xidx sl110 sz145 rfl rfl rfl (by omega)) (sv (xldS (lens := [1, 1]) ro145 rfl hsE11) ?_)
  refine svK (xallS (lens := [1, 1]) in145 rfl) ?_
  rintro _ w8 ⟨b5, rfl, m9, h5, e7, s7⟩
  have hf := hf.step0 m9
  have hv3 := RX.keep hv3 pair_st (lU hU (by omega)) (by omega) m9 (fun _ _ _ h => h) id
  have hL4 := hL4.step0 m9
  have hd := hd.keep (lU hU (by omega)) m9 nF
  refine suK (xstW h5 (lens' := [1, 1]) sz145 rfl rfl rfl rfl rfl) ?_
  rintro w11 ⟨m12, h5, s10⟩
  have hf := hf.step m12 (fun k hk hS => by have hS : k = b5 := hS; show False; omega)
  have hv3 := RX.keep hv3 pair_st (lU hU (by omega)) (by omega) m12 (fun k hk hk3 hS => by have hS : k = b5 := hS; rcases hk with hk | hk <;> first | omega | (have := hU k hk; omega)) (by show ¬ (g = b5); omega)
  have hL4 := hL4.step m12 (fun k hk hS => by have hS : k = b5 := hS; show k = b6; omega)
  have hd := hd.keep (lU hU (by omega)) m12 (fun k hk hS => by have hk := hU k hk; have hS : k = b5 := hS; omega)
  refine send (fg [(3, _), (5, _), (7, _), (8, _), (9, _)] ⟨rfl, rfl, rfl, rfl, rfl, ⟨⟩⟩ fun _ => ?_)
  refine ldraw (Fr (fun k => k = g) w11.drew) [(0, .rd), (1, .rd), (2, .rd), (4, .rd), (5, .rd), (3, .ld), (6, .ld), (7, .rd), (8, .ld), (9, .ld), (10, .rd)] mixed (by kernel_rfl) (fun _ _ _ _ _ h => h) ?_
  have z13 : w11.drew.heap.size = w11.heap.size := rfl
  have hf := hf.drew
  have hv3 := RX.keep hv3 pair_st (lU hU (by omega)) (by omega) (fd w11) (fun _ _ _ h => h) id
  have hL4 := hL4.drew
  have hd := hd.keep (lU hU (by omega)) (fd w11) nF
  have h5 := h5.drew
  have hS14 : Fr (fun k => k = g) w11.drew w11.drew := Fr.refl _ _
  refine ggM rfl rfl hS14 (hv rfl (fun _ _ => xfld fl145_0 rfl) hS14 (hv rfl (fun w' hS => xld on22 rfl ((h5.keep hS (by show ¬ (b5 = g); omega)).r.c 0 rfl rfl)) hS14 (hv rfl (fun _ _ => xfld fl145_1 rfl) hS14 (hv rfl (fun w' hS => xld on37 rfl ((h5.keep hS (by show ¬ (b5 = g); omega)).r.c 1 rfl rfl)) hS14 ?_))))
  refine hlK rfl (xslit (bvs []) sl37 in5 rfl (by decide) rfl rfl rfl rfl (by decide) rfl (bvs_one _)) ?_
  rintro _ w16 ⟨b16, rfl, m17, h16, e16, s16, r16⟩
  have hf := hf.step0 m17
  have hv3 := RX.keep hv3 pair_st (lU hU (by omega)) (by omega) m17 (fun _ _ _ h => h) id
  have hL4 := hL4.step0 m17
  have hd := hd.keep (lU hU (by omega)) m17 nF
  have hS18 := hS14.step0 m17
  refine ⟨hS18, ?_⟩
  refine hlK rfl (xapp sl37 in5 rfl (by decide) rfl rfl r16 (hd.src sl37) (by simp only [maxLen]; omega) (by omega)) ?_
  rintro _ w19 ⟨g19, r19, m20, a19, l19⟩
  have z21 := m20.size
  have hf := hf.step m20 (fun k hk hS => by have hS : k = b16 := hS; show False; omega)
  have hv3 := RX.keep hv3 pair_st (lU hU (by omega)) (by omega) m20 (fun k hk hk3 hS => by have hS : k = b16 := hS; rcases hk with hk | hk <;> first | omega | (have := hU k hk; omega)) (by show ¬ (g = b16); omega)
  have hL4 := hL4.step m20 (fun k hk hS => by have hS : k = b16 := hS; show k = b6; omega)
  have hS22 := hS18.step m20 (fun k hk hS => by have hS : k = b16 := hS; show k = g; omega)
  obtain ⟨p19, q19, rfl, -⟩ := r19.form
  refine ⟨hS22, ?_⟩
  refine hv rfl (fun _ _ => xbuildS (pairSegs p (.slice p19 (0 + p.data.length) q19)) zr220 ly220 rfl (by simp [fitAll, zs220, Value.cells]) rfl) hS22 ?_
  refine hlK rfl (xslit ((pairSegs p (.slice p19 (0 + p.data.length) q19)).flatten) sl216 in220 rfl (by decide) rfl rfl rfl rfl (by decide) rfl rfl) ?_
  rintro _ w24 ⟨b21, rfl, m25, h21, e21, s21, r21⟩
  have hf := hf.step0 m25
  have hv3 := RX.keep hv3 pair_st (lU hU (by omega)) (by omega) m25 (fun _ _ _ h => h) id
  have hL4 := hL4.step0 m25
  have r19 := r19.keep m25 id
  have hS26 := hS22.step0 m25
  refine ⟨hS26, ?_⟩
  obtain ⟨ss22, hR22, hA22⟩ := hv3
  refine hlK rfl (xapp sl216 in220 rfl (by decide) rfl rfl hR22 (r21.src sl216) (by simp only [maxLen]; omega) (by omega)) ?_
  rintro v22 w27 ⟨g22, r22, m28, a22, l22⟩
  have z29 := m28.size
  have hf := hf.step m28 (fun k hk hS => by have hS : k = g := hS; show False; omega)
  have hL4 := hL4.step m28 (fun k hk hS => by have hS : k = g := hS; show k = b6; omega)
  have r19 := r19.keep m28 (by show ¬ (g19 = g); omega)
  have hS30 := hS26.step m28 (fun k hk hS => by have hS : k = g := hS; show k = g; omega)
  have hv3 := RX.snoc (x := p) w27.heap.size hA22 pair_st pair_gr (lU hU (by omega)) (by omega) (by omega) m28 a22 r22 rfl (⟨_, rfl, BR.ba (show BR _ _ _ _ p.data from r19) ⟨.inr ⟨by omega, by omega⟩, by omega⟩⟩)
  refine ⟨hS30, ?_⟩
  refine ggA rfl rfl hS30 (lhend (nBlock (nThen (fg [(3, _), (7, _), (8, _), (9, _)] ⟨rfl, rfl, rfl, rfl, ⟨⟩⟩ fun _ => (lreg (sv (xadd rfl rfl (w64 (by omega) (by omega))) (sM rfl (lend (nThen ?_)))))))))
  refine ⟨(k + 1, _, g22), _, env_okl ⟨rfl, rfl, rfl, rfl, trivial⟩, ⟨hL4, (by omega), (by rw [take_snoc hpk]; exact RX.up pair_gr hv3 (by omega)), (by omega), (l22 (by omega)), (by omega)⟩, ?_⟩
  show ps.length - (k + 1) < ps.length - k; omega
 ·
  refine send (fg [(3, _), (7, _), (8, _), (9, _), (10, _)] ⟨rfl, rfl, rfl, rfl, rfl, ⟨⟩⟩ fun _ => (wp_seq (cno rfl (wp_exit (eThen (eThen (eHit (nThen (fg [(3, _)] ⟨rfl, ⟨⟩⟩ fun _ => (sreg (sM rfl (sA rfl (send (fg [(2, _)] ⟨rfl, ⟨⟩⟩ fun _ => (wp_ret ?_)))))))))))))))
  refine rp1 rfl rfl ?_
  have e : ps.take k = ps := List.take_of_length_le (by omega)
  rw [e] at hv3
  exact ⟨RX.la hv3 (by decide) pair_gr (fun k hk => hk.elim .inl .inr) (.inr ⟨hg, hg2⟩), hf⟩
set_option maxHeartbeats 4000000 in
set_option maxRecDepth 100000 in
theorem c117 {w : World} {U : Nat → Prop} (hU : ∀ k, U k → k < w.heap.size) {r : RecD} {vd vt vp : Value} (hd : BA U w vd r.data) :
  Ret PP 117 [ag (recSegs r vd vt vp)] w (fun u w' => u = ag [bvs (fixedL r.data 4)] ∧ Fr0 w w') := by
 obtain ⟨ad0, cd0, rfl, -⟩ := id hd
 have hf : Fr (fun _ => False) w w := Fr.refl _ _
 refine ret_of Tryz.func117 rfl rfl rfl [(0, _)] rfl ?_
 refine sreg ?_
 refine svK (xboxS (lens := lRec) rfl rfl) ?_
 rintro _ w2 ⟨b1, rfl, m3, h1, e1, s1⟩
 have hd := hd.keep (lU hU (by omega)) m3 nF
 have hf := hf.step0 m3
 refine svK (xallS (lens := [4]) in189 rfl) ?_
 rintro _ w5 ⟨b2, rfl, m6, h2, e4, s4⟩
 have hd := hd.keep (lU hU (by omega)) m6 nF
 have hf := hf.step0 m6
 have h1 := h1.keep m6 id
 refine send (fg [(1, _), (2, _)] ⟨rfl, rfl, ⟨⟩⟩ fun _ => (sreg (sv (xbuildS zs189 zr189 ly189 rfl trivial rfl) ?_)))
 refine svK (xallS (lens := [4]) in189 rfl) ?_
 rintro _ w8 ⟨b3, rfl, m9, h3, e7, s7⟩
 have hd := hd.keep (lU hU (by omega)) m9 nF
 have hf := hf.step0 m9
 have h1 := h1.keep m9 id
 have h2 := h2.keep m9 id
 refine suK (xstW h3 (lens' := [4]) sz189 rfl rfl rfl rfl rfl) ?_
 rintro w11 ⟨m12, h3, s10⟩
 have hd := hd.keep (lU hU (by omega)) m12 (fun k hk hS => by have hk := hU k hk; have hS : k = b3 := hS; omega)
 have hf := hf.step m12 (fun k hk hS => by have hS : k = b3 := hS; show False; omega)
 have h1 := h1.keep m12 (by show ¬ (b1 = b3); omega)
 have h2 := h2.keep m12 (by show ¬ (b2 = b3); omega)
 refine send (fg [(1, _), (2, _), (3, _)] ⟨rfl, rfl, rfl, ⟨⟩⟩ fun _ => ?_)
 have k3 : Blk w11 b3 (bvs (List.replicate 4 0)) := h3.1
 refine sdraw (Fr (fun k => k = b3) w11.drew) [(0, .rd), (1, .rd), (2, .rd), (3, .rd), (4, .bh)] mixed (by kernel_rfl) (fun _ _ _ _ _ h => h) ?_
 have z13 : w11.drew.heap.size = w11.heap.size := rfl
 have hd := hd.keep (lU hU (by omega)) (fd w11) nF
 have hf := hf.drew
 have h1 := h1.drew
 have h2 := h2.drew
 have h3 := h3.drew
 have hS14 : Fr (fun k => k = b3) w11.drew w11.drew := Fr.refl _ _
 refine hv rfl (fun _ _ => xfld fl189_0 rfl) hS14 (hv rfl (fun _ _ => xcutA ar187 sz5 rfl) hS14 (hv rfl (fun _ _ => xfld fl112_6 rfl) hS14 (hv rfl (fun w' hS => xld on37 rfl ((h1.keep hS (by show ¬ (b1 = b3); omega)).r.c 6 rfl rfl)) hS14 ?_)))
 refine blK rfl (xcopyZ sl37 sz5 rfl rfl (cpy_ba hd) (rest := []) (by rw [List.append_nil]; exact k3)) ?_
 rintro _ w15 ⟨rfl, m16, k3, s9⟩
 have hf := hf.step m16 (fun k hk hS => by have hS : k = b3 := hS; show False; omega)
 have h2 := h2.keep m16 (by show ¬ (b2 = b3); omega)
 rw [List.append_nil] at k3
 have h3 : SB w15 b3 [4] [bvs (fixedL r.data 4)] := ⟨by simpa using k3, by simp [bvs_length, fixedL_length]⟩
 refine hend (fg [(2, _), (3, _)] ⟨rfl, rfl, ⟨⟩⟩ fun _ => (sreg (sv (xldS (lens := [4]) ro189 rfl h3.r) ?_)))
 refine suK (xstW h2 (lens' := [4]) sz189 (by simp [bvs_length, fixedL_length]) rfl (by simp only [List.flatten_cons, List.flatten_nil, List.append_nil, bvs_one] <;> rfl) rfl rfl) ?_
 rintro w18 ⟨m19, h2, s17⟩
 have hf := hf.step m19 (fun k hk hS => by have hS : k = b2 := hS; show False; omega)
 refine send (fg [(2, _)] ⟨rfl, ⟨⟩⟩ fun _ => (wp_ret ?_))
 refine rp1 rfl ⟨_, rfl, ldS (lens := [4]) ro189 h2.r⟩ ?_
 exact ⟨rfl, hf⟩
set_option maxHeartbeats 4000000 in
set_option maxRecDepth 100000 in
theorem c131 {w : World} {U : Nat → Prop} (hU : ∀ k, U k → k < w.heap.size) {r : RecD} {vd vt vp : Value} (hd : BA U w vd r.data) :
  Ret PP 131 [ag (recSegs r vd vt vp)] w (fun u w' => u = ag [bvs (fixedL r.data 16)] ∧ Fr0 w w') := by
 obtain ⟨ad0, cd0, rfl, -⟩ := id hd
 have hf : Fr (fun _ => False) w w := Fr.refl _ _
 refine ret_of Tryz.func131 rfl rfl rfl [(0, _)] rfl ?_
 refine sreg ?_
 refine svK (xboxS (lens := lRec) rfl rfl) ?_
 rintro _ w2 ⟨b1, rfl, m3, h1, e1, s1⟩
 have hd := hd.keep (lU hU (by omega)) m3 nF
 have hf := hf.step0 m3
 refine svK (xallS (lens := [16]) in211 rfl) ?_
 rintro _ w5 ⟨b2, rfl, m6, h2, e4, s4⟩
 have hd := hd.keep (lU hU (by omega)) m6 nF
 have hf := hf.step0 m6
 have h1 := h1.keep m6 id
 refine send (fg [(1, _), (2, _)] ⟨rfl, rfl, ⟨⟩⟩ fun _ => (sreg (sv (xbuildS zs211 zr211 ly211 rfl trivial rfl) ?_)))
 refine svK (xallS (lens := [16]) in211 rfl) ?_
 rintro _ w8 ⟨b3, rfl, m9, h3, e7, s7⟩
 have hd := hd.keep (lU hU (by omega)) m9 nF
 have hf := hf.step0 m9
 have h1 := h1.keep m9 id
 have h2 := h2.keep m9 id
 refine suK (xstW h3 (lens' := [16]) sz211 rfl rfl rfl rfl rfl) ?_
 rintro w11 ⟨m12, h3, s10⟩
 have hd := hd.keep (lU hU (by omega)) m12 (fun k hk hS => by have hk := hU k hk; have hS : k = b3 := hS; omega)
 have hf := hf.step m12 (fun k hk hS => by have hS : k = b3 := hS; show False; omega)
 have h1 := h1.keep m12 (by show ¬ (b1 = b3); omega)
 have h2 := h2.keep m12 (by show ¬ (b2 = b3); omega)
 refine send (fg [(1, _), (2, _), (3, _)] ⟨rfl, rfl, rfl, ⟨⟩⟩ fun _ => ?_)
 have k3 : Blk w11 b3 (bvs (List.replicate 16 0)) := h3.1
 refine sdraw (Fr (fun k => k = b3) w11.drew) [(0, .rd), (1, .rd), (2, .rd), (3, .rd), (4, .bh)] mixed (by kernel_rfl) (fun _ _ _ _ _ h => h) ?_
 have z13 : w11.drew.heap.size = w11.heap.size := rfl
 have hd := hd.keep (lU hU (by omega)) (fd w11) nF
 have hf := hf.drew
 have h1 := h1.drew
 have h2 := h2.drew
 have h3 := h3.drew
 have hS14 : Fr (fun k => k = b3) w11.drew w11.drew := Fr.refl _ _
 refine hv rfl (fun _ _ => xfld fl211_0 rfl) hS14 (hv rfl (fun _ _ => xcutA ar209 sz5 rfl) hS14 (hv rfl (fun _ _ => xfld fl112_6 rfl) hS14 (hv rfl (fun w' hS => xld on37 rfl ((h1.keep hS (by show ¬ (b1 = b3); omega)).r.c 6 rfl rfl)) hS14 ?_)))
 refine blK rfl (xcopyZ sl37 sz5 rfl rfl (cpy_ba hd) (rest := []) (by rw [List.append_nil]; exact k3)) ?_
 rintro _ w15 ⟨rfl, m16, k3, s9⟩
 have hf := hf.step m16 (fun k hk hS => by have hS : k = b3 := hS; show False; omega)
 have h2 := h2.keep m16 (by show ¬ (b2 = b3); omega)
 rw [List.append_nil] at k3
 have h3 : SB w15 b3 [16] [bvs (fixedL r.data 16)] := ⟨by simpa using k3, by simp [bvs_length, fixedL_length]⟩
 refine hend (fg [(2, _), (3, _)] ⟨rfl, rfl, ⟨⟩⟩ fun _ => (sreg (sv (xldS (lens := [16]) ro211 rfl h3.r) ?_)))
 refine suK (xstW h2 (lens' := [16]) sz211 (by simp [bvs_length, fixedL_length]) rfl (by simp only [List.flatten_cons, List.flatten_nil, List.append_nil, bvs_one] <;> rfl) rfl rfl) ?_
 rintro w18 ⟨m19, h2, s17⟩
 have hf := hf.step m19 (fun k hk hS => by have hS : k = b2 := hS; show False; omega)
 refine send (fg [(2, _)] ⟨rfl, ⟨⟩⟩ fun _ => (wp_ret ?_))
 refine rp1 rfl ⟨_, rfl, ldS (lens := [16]) ro211 h2.r⟩ ?_
 exact ⟨rfl, hf⟩
set_option maxHeartbeats 4000000 in
set_option maxRecDepth 100000 in
theorem c135 {w : World} {U : Nat → Prop} (hU : ∀ k, U k → k < w.heap.size) {r : RecD} {vd vt vp : Value} (hp : LA PairEl lPair U w vp r.pairs) (hn : r.pairs.length ≤ 1048576) (hpl : ∀ p ∈ r.pairs, p.data.length ≤ 1048576)  :
  Ret PP 135 [ag (recSegs r vd vt vp)] w (fun u w' => ∃ v, u = ag [[v]] ∧ LA PairEl lPair (Ub U w w') w' v r.pairs ∧ Fr0 w w') := by
 obtain ⟨ap0, cp0, rfl⟩ := hp.form
 have hf : Fr (fun _ => False) w w := Fr.refl _ _
 refine ret_of Tryz.func135 rfl rfl rfl [(0, _)] rfl ?_
 refine sreg ?_
 refine svK (xboxS (lens := lRec) rfl rfl) ?_
 rintro _ w2 ⟨b1, rfl, m3, h1, e1, s1⟩
 have hp := hp.keep pair_st (lU hU (by omega)) m3 nF
 have hf := hf.step0 m3
 refine svK (xallS (lens := [1]) in218 rfl) ?_
 rintro _ w5 ⟨b2, rfl, m6, h2, e4, s4⟩
 have hp := hp.keep pair_st (lU hU (by omega)) m6 nF
 have hf := hf.step0 m6
 have h1 := h1.keep m6 id
 refine send (fg [(1, _), (2, _)] ⟨rfl, rfl, ⟨⟩⟩ fun _ => (sreg (sv (xfld fl112_15 rfl) (sv (xld on110 rfl (h1.r.c 15 rfl rfl)) ?_))))
 refine sc (xcall ca183 rfl) (c183 (U := U) (lU hU (by omega)) hp (by omega) hpl) ?_
 rintro v5 w7 ⟨L5, m8⟩
 have z9 := m8.size
 have hf := hf.step0 m8
 have h2 := h2.keep m8 id
 obtain ⟨aq5, cq5, rfl⟩ := L5.form
 refine sv (xbuildS [[.slice aq5 r.pairs.length cq5]] zr218 ly218 rfl (by simp [fitAll, zs218, Value.cells]) rfl) ?_
 refine suK (xstW h2 (lens' := [1]) sz218 rfl rfl rfl rfl rfl) ?_
 rintro w11 ⟨m12, h2, s10⟩
 have hf := hf.step m12 (fun k hk hS => by have hS : k = b2 := hS; show False; omega)
 have L5 := L5.keep pair_st (lUb hU (by omega) (by omega)) m12 (fun k hk hS => by have hk := Ub.num hU hk; have hS : k = b2 := hS; omega)
 refine send (fg [(2, _)] ⟨rfl, ⟨⟩⟩ fun _ => (wp_ret ?_))
 refine rp1 rfl ⟨_, rfl, ldS (lens := [1]) ro218 h2.r⟩ ?_
 exact ⟨_, rfl, L5.mono pair_gr (fun k hk => hk.elim .inl (fun h => .inr ⟨by omega, by omega⟩)), hf⟩
set_option maxHeartbeats 4000000 in
set_option maxRecDepth 100000 in
theorem c137 {w : World} {U : Nat → Prop} (hU : ∀ k, U k → k < w.heap.size) {r : RecD} {vd vt vp : Value} (hp : LA PairEl lPair U w vp r.pairs) (hn : r.pairs.length ≤ 1048576) (hpl : ∀ p ∈ r.pairs, p.data.length ≤ 1048576) (hs : r.host.size ≤ 255)  :
  Ret PP 137 [ag (recSegs r vd vt vp)] w (fun u w' => ∃ v, u = ag [[.int .u16 ((r.n1.toNat % 65536 : Nat) : Int)], nm (bt r.host), [v]] ∧ LA PairEl lPair (Ub U w w') w' v r.pairs ∧ Fr0 w w') := by
 obtain ⟨ap0, cp0, rfl⟩ := hp.form
 have hf : Fr (fun _ => False) w w := Fr.refl _ _
 refine ret_of Tryz.func137 rfl rfl rfl [(0, _)] rfl ?_
 refine sreg ?_
 refine svK (xboxS (lens := lRec) rfl rfl) ?_
 rintro _ w2 ⟨b1, rfl, m3, h1, e1, s1⟩
 have hp := hp.keep pair_st (lU hU (by omega)) m3 nF
 have hf := hf.step0 m3
 refine svK (xallS (lens := [1, 256, 1]) in224 (by simp [nm_length])) ?_
 rintro _ w5 ⟨b2, rfl, m6, h2, e4, s4⟩
 have hp := hp.keep pair_st (lU hU (by omega)) m6 nF
 have hf := hf.step0 m6
 have h1 := h1.keep m6 id
 refine send (fg [(1, _), (2, _)] ⟨rfl, rfl, ⟨⟩⟩ fun _ => ?_)
 refine sdraw (Fr (fun _ => False) w5.drew) [(0, .rd), (1, .rd), (2, .rd), (3, .rd), (4, .rd), (6, .rd), (7, .rd), (5, .ld), (8, .ld), (9, .rd), (10, .bh)] mixed (by kernel_rfl) (fun _ _ _ _ _ h => h) ?_
 have z7 : w5.drew.heap.size = w5.heap.size := rfl
 have hp := hp.keep pair_st (lU hU (by omega)) (fd w5) nF
 have hf := hf.drew
 have h1 := h1.drew
 have h2 := h2.drew
 have hS8 : Fr (fun _ => False) w5.drew w5.drew := Fr.refl _ _
 refine hv rfl (fun _ _ => xfld fl112_9 rfl) hS8 (hv rfl (fun w' hS => xld on61 rfl ((h1.keep hS id).r.c 9 rfl rfl)) hS8 (hv rfl (fun _ _ => xconv hs61 ki22 rfl (wu16n (r.n1.toNat % 65536) (by omega))) hS8 (hv rfl (fun _ _ => xfld fl112_7 rfl) hS8 (hv rfl (fun w' hS => xld on9 rfl ((h1.keep hS id).r.c 7 rfl rfl)) hS8 (hv rfl (fun _ _ => xfld fl112_15 rfl) hS8 (hv rfl (fun w' hS => xld on110 rfl ((h1.keep hS id).r.c 15 rfl rfl)) hS8 ?_))))))
 refine hc rfl (xcall ca89 rfl) (c89 (by omega)) ?_
 rintro _ w9 ⟨rfl, m10⟩
 have z11 := m10.size
 have hp := hp.keep pair_st (lU hU (by omega)) m10 nF
 have hf := hf.step0 m10
 have h2 := h2.keep m10 id
 have hS12 := hS8.step0 m10
 refine ⟨hS12, ?_⟩
 refine hc rfl (xcall ca186 rfl) (c186 (U := U) (lU hU (by omega)) hp (by omega) hpl) ?_
 rintro v11 w13 ⟨L11, m14⟩
 have z15 := m14.size
 have hf := hf.step0 m14
 have h2 := h2.keep m14 id
 have hS16 := hS12.step0 m14
 obtain ⟨aq11, cq11, rfl⟩ := L11.form
 refine ⟨hS16, ?_⟩
 refine hv rfl (fun _ _ => xbuildS [[.int .u16 ((r.n1.toNat % 65536 : Nat) : Int)], nm (bt r.host), [.slice aq11 r.pairs.length cq11]] zr224 ly224 rfl (by simp [fitAll, zs224, Value.cells, nm_length]) (by simp [setAll, zs224, Value.cells])) hS16 ?_
 refine bluK rfl (xstW h2 (lens' := [1, 256, 1]) sz224 (by simp [nm_length]) rfl (by simp only [List.flatten_cons, List.flatten_nil, List.all_append, List.append_nil, nm_one, Bool.true_and] <;> rfl) rfl rfl) ?_
 rintro w18 ⟨m19, h2, s17⟩
 have hf := hf.step m19 (fun k hk hS => by have hS : k = b2 := hS; show False; omega)
 have L11 := L11.keep pair_st (lUb hU (by omega) (by omega)) m19 (fun k hk hS => by have hk := Ub.num hU hk; have hS : k = b2 := hS; omega)
 refine hend (fg [(2, _)] ⟨rfl, ⟨⟩⟩ fun _ => (wp_ret ?_))
 refine rp1 rfl ⟨_, rfl, ldS (lens := [1, 256, 1]) ro224 h2.r⟩ ?_
 exact ⟨_, rfl, L11.mono pair_gr (fun k hk => hk.elim .inl (fun h => .inr ⟨by omega, by omega⟩)), hf⟩
set_option maxHeartbeats 4000000 in
set_option maxRecDepth 100000 in
theorem c139 {w : World} {U : Nat → Prop} (hU : ∀ k, U k → k < w.heap.size) {r : RecD} {vd vt vp : Value} (hp : LA PairEl lPair U w vp r.pairs) (hn : r.pairs.length ≤ 1048576) (hpl : ∀ p ∈ r.pairs, p.data.length ≤ 1048576) (hs : r.host.size ≤ 255)  :
  Ret PP 139 [ag (recSegs r vd vt vp)] w (fun u w' => ∃ v, u = ag [[.int .u16 ((r.n1.toNat % 65536 : Nat) : Int)], nm (bt r.host), [v]] ∧ LA PairEl lPair (Ub U w w') w' v r.pairs ∧ Fr0 w w') := by
 obtain ⟨ap0, cp0, rfl⟩ := hp.form
 have hf : Fr (fun _ => False) w w := Fr.refl _ _
 refine ret_of Tryz.func139 rfl rfl rfl [(0, _)] rfl ?_
 refine sreg ?_
 refine svK (xboxS (lens := lRec) rfl rfl) ?_
 rintro _ w2 ⟨b1, rfl, m3, h1, e1, s1⟩
 have hp := hp.keep pair_st (lU hU (by omega)) m3 nF
 have hf := hf.step0 m3
 refine svK (xallS (lens := [1, 256, 1]) in228 (by simp [nm_length])) ?_
 rintro _ w5 ⟨b2, rfl, m6, h2, e4, s4⟩
 have hp := hp.keep pair_st (lU hU (by omega)) m6 nF
 have hf := hf.step0 m6
 have h1 := h1.keep m6 id
 refine send (fg [(1, _), (2, _)] ⟨rfl, rfl, ⟨⟩⟩ fun _ => (sreg (sv (xldS (lens := lRec) ro112 rfl h1.r) ?_)))
 refine sc (xcall ca137 rfl) (c137 (U := U) (lU hU (by omega)) hp (by omega) hpl hs) ?_
 rintro _ w7 ⟨v4, rfl, L4, m8⟩
 have z9 := m8.size
 have hf := hf.step0 m8
 have h2 := h2.keep m8 id
 obtain ⟨aq4, cq4, rfl⟩ := L4.form
 refine sv (xbuildS [[.int .u16 ((r.n1.toNat % 65536 : Nat) : Int)], nm (bt r.host), [.slice aq4 r.pairs.length cq4]] zr228 ly228 rfl (by simp [fitAll, zs228, Value.cells, nm_length]) (by simp [setAll, zs228, Value.cells])) ?_
 refine suK (xstW h2 (lens' := [1, 256, 1]) sz228 (by simp [nm_length]) rfl (by simp only [List.flatten_cons, List.flatten_nil, List.all_append, List.append_nil, nm_one, Bool.true_and] <;> rfl) rfl rfl) ?_
 rintro w11 ⟨m12, h2, s10⟩
 have hf := hf.step m12 (fun k hk hS => by have hS : k = b2 := hS; show False; omega)
 have L4 := L4.keep pair_st (lUb hU (by omega) (by omega)) m12 (fun k hk hS => by have hk := Ub.num hU hk; have hS : k = b2 := hS; omega)
 refine send (fg [(2, _)] ⟨rfl, ⟨⟩⟩ fun _ => (wp_ret ?_))
 refine rp1 rfl ⟨_, rfl, ldS (lens := [1, 256, 1]) ro228 h2.r⟩ ?_
 exact ⟨_, rfl, L4.mono pair_gr (fun k hk => hk.elim .inl (fun h => .inr ⟨by omega, by omega⟩)), hf⟩
set_option maxHeartbeats 4000000 in
set_option maxRecDepth 100000 in
theorem c141 {w : World} {U : Nat → Prop} (hU : ∀ k, U k → k < w.heap.size) {r : RecD} {vd vt vp : Value} (hd : BA U w vd r.data) (hn : r.data.length ≤ 1048576) :
  Ret PP 141 [ag (recSegs r vd vt vp)] w (fun u w' => ∃ v, u = ag [[.int .u16 (r.typ.toNat : Int)], [v]] ∧ BA (Ub U w w') w' v r.data ∧ Fr0 w w') := by
 obtain ⟨ad0, cd0, rfl, -⟩ := id hd
 have hf : Fr (fun _ => False) w w := Fr.refl _ _
 refine ret_of Tryz.func141 rfl rfl rfl [(0, _)] rfl ?_
 refine sreg ?_
 refine svK (xboxS (lens := lRec) rfl rfl) ?_
 rintro _ w2 ⟨b1, rfl, m3, h1, e1, s1⟩
 have hd := hd.keep (lU hU (by omega)) m3 nF
 have hf := hf.step0 m3
 refine svK (xallS (lens := [1, 1]) in231 rfl) ?_
 rintro _ w5 ⟨b2, rfl, m6, h2, e4, s4⟩
 have hd := hd.keep (lU hU (by omega)) m6 nF
 have hf := hf.step0 m6
 have h1 := h1.keep m6 id
 refine send (fg [(1, _), (2, _)] ⟨rfl, rfl, ⟨⟩⟩ fun _ => ?_)
 refine sdraw (Fr (fun _ => False) w5.drew) [(0, .rd), (1, .rd), (3, .rd), (4, .rd), (2, .ld), (5, .ld), (6, .rd), (7, .bh)] mixed (by kernel_rfl) (fun _ _ _ _ _ h => h) ?_
 have z7 : w5.drew.heap.size = w5.heap.size := rfl
 have hd := hd.keep (lU hU (by omega)) (fd w5) nF
 have hf := hf.drew
 have h1 := h1.drew
 have h2 := h2.drew
 have hS8 : Fr (fun _ => False) w5.drew w5.drew := Fr.refl _ _
 refine hv rfl (fun _ _ => xfld fl112_1 rfl) hS8 (hv rfl (fun w' hS => xld on22 rfl ((h1.keep hS id).r.c 1 rfl rfl)) hS8 (hv rfl (fun _ _ => xfld fl112_6 rfl) hS8 (hv rfl (fun w' hS => xld on37 rfl ((h1.keep hS id).r.c 6 rfl rfl)) hS8 ?_)))
 refine hlK rfl (xslit (bvs []) sl37 in5 rfl (by decide) rfl rfl rfl rfl (by decide) rfl (bvs_one _)) ?_
 rintro _ w10 ⟨b5, rfl, m11, h5, e5, s5, r5⟩
 have hd := hd.keep (lU hU (by omega)) m11 nF
 have hf := hf.step0 m11
 have h2 := h2.keep m11 id
 have hS12 := hS8.step0 m11
 refine ⟨hS12, ?_⟩
 refine hlK rfl (xapp sl37 in5 rfl (by decide) rfl rfl r5 (hd.src sl37) (by simp only [maxLen]; omega) (by omega)) ?_
 rintro _ w13 ⟨g8, r8, m14, a8, l8⟩
 have z15 := m14.size
 have hf := hf.step m14 (fun k hk hS => by have hS : k = b5 := hS; show False; omega)
 have h2 := h2.keep m14 (by show ¬ (b2 = b5); omega)
 have hS16 := hS12.step m14 (fun k hk hS => by have hS : k = b5 := hS; show False; omega)
 obtain ⟨p8, q8, rfl, -⟩ := r8.form
 refine ⟨hS16, ?_⟩
 refine hv rfl (fun _ _ => xbuildS [[.int .u16 (r.typ.toNat : Int)], [.slice p8 (0 + r.data.length) q8]] zr231 ly231 rfl (by simp [fitAll, zs231, Value.cells]) rfl) hS16 ?_
 refine bluK rfl (xstW h2 (lens' := [1, 1]) sz231 rfl rfl rfl rfl rfl) ?_
 rintro w18 ⟨m19, h2, s17⟩
 have hf := hf.step m19 (fun k hk hS => by have hS : k = b2 := hS; show False; omega)
 have r8 := r8.keep m19 (by show ¬ (g8 = b2); omega)
 refine hend (fg [(2, _)] ⟨rfl, ⟨⟩⟩ fun _ => (wp_ret ?_))
 refine rp1 rfl ⟨_, rfl, ldS (lens := [1, 1]) ro231 h2.r⟩ ?_
 exact ⟨_, rfl, BR.ba (show BR _ _ _ _ r.data from r8) (.inr ⟨by omega, by omega⟩), hf⟩
end Go.Proofs.YtifnodoffgfpbaaGreatDoor

namespace Go.Proofs.YtifnodoffgfpbaaGreatDoor
open Go

def strs (ts : List ByteArray) : List Value := ts.map Value.string
theorem strs_one (ts : List ByteArray) : (strs ts).all (·.oneCell') = true := by
  rw [List.all_eq_true]; intro v hv
  obtain ⟨_, _, rfl⟩ := List.mem_map.1 hv
  rfl
theorem LA.strs {U : Nat → Prop} {w : World} {v : Value} {ts : List ByteArray} {T : Nat} (h : LA TextEl [1] U w v ts) (hT : slcB PP T 9 = true) : Src PP 1 T v ts.length (strs ts) w := by
  obtain ⟨a, c, rfl, h⟩ := h
  by_cases ht : ts = []
  · subst ht
    cases a with
    | none => exact Src.ofNil w (slcB_spec hT) c
    | some a => exact Src.ofSlice w (slcB_spec hT) a 0 c [] rfl (fun j u h => by simp at h) (fun u h => by cases h)
  · obtain ⟨b, o, rfl, _, hr⟩ := h ht
    refine src_rng hT (by simp [YtifnodoffgfpbaaGreatDoor.strs]) (fun j u hu => ?_) (strs_one _)
    simp only [YtifnodoffgfpbaaGreatDoor.strs, List.getElem?_map, Option.map_eq_some_iff] at hu
    obtain ⟨s, hs, rfl⟩ := hu
    obtain ⟨segs, hsr, rfl⟩ := hr j s hs
    have := hsr.c 0 rfl rfl
    simpa using this
theorem strs_flat : ∀ ts : List ByteArray, ((ts.map (fun s => [[Value.string s]])).map List.flatten).flatten = strs ts
  | [] => rfl
  | t :: ts => congrArg (Value.string t :: ·) (strs_flat ts)
theorem RA.texts {U : Nat → Prop} {w : World} {v : Value} {g n : Nat} {ts : List ByteArray} (h : Rw w v g 9 1 n (strs ts)) : RA TextEl [1] U w v g 9 n ts := by
  refine ⟨ts.map (fun s => [[Value.string s]]), ?_, ⟨by simp, fun i a b ha hb => ?_⟩⟩
  · rw [strs_flat]; exact h
  · simp only [List.getElem?_map, Option.map_eq_some_iff] at ha
    obtain ⟨s, hs, rfl⟩ := ha
    rw [hs] at hb
    simp only [Option.some.injEq] at hb
    subst hb
    exact ⟨rfl, rfl⟩

set_option maxHeartbeats 4000000 in
set_option maxRecDepth 100000 in
theorem c129 {w : World} {U : Nat → Prop} (hU : ∀ k, U k → k < w.heap.size) {r : RecD} {vd vt vp : Value} (ht : LA TextEl [1] U w vt r.texts) (hn : r.texts.length ≤ 1048576) :
  Ret PP 129 [ag (recSegs r vd vt vp)] w (fun u w' => ∃ v, u = ag [[v]] ∧ LA TextEl [1] (Ub U w w') w' v r.texts ∧ Fr0 w w') := by
 obtain ⟨at0, ct0, rfl⟩ := ht.form
 have hf : Fr (fun _ => False) w w := Fr.refl _ _
 refine ret_of Tryz.func129 rfl rfl rfl [(0, _)] rfl ?_
 refine sreg ?_
 refine svK (xboxS (lens := lRec) rfl rfl) ?_
 rintro _ w2 ⟨b1, rfl, m3, h1, e1, s1⟩
 have ht := ht.keep text_st (lU hU (by omega)) m3 nF
 have hf := hf.step0 m3
 refine svK (xallS (lens := [1]) in207 rfl) ?_
 rintro _ w5 ⟨b2, rfl, m6, h2, e4, s4⟩
 have ht := ht.keep text_st (lU hU (by omega)) m6 nF
 have hf := hf.step0 m6
 have h1 := h1.keep m6 id
 refine send (fg [(1, _), (2, _)] ⟨rfl, rfl, ⟨⟩⟩ fun _ => (sreg ?_))
 refine svK (xslit ([]) sl62 in9 rfl (by decide) rfl rfl rfl rfl (by decide) rfl rfl) ?_
 rintro _ w8 ⟨b3, rfl, m9, h3, e3, s3, r3⟩
 have ht := ht.keep text_st (lU hU (by omega)) m9 nF
 have hf := hf.step0 m9
 have h1 := h1.keep m9 id
 have h2 := h2.keep m9 id
 refine sv (xfld fl112_14 rfl) (sv (xld on62 rfl (h1.r.c 14 rfl rfl)) ?_)
 refine svK (xapp sl62 in9 rfl (by decide) rfl rfl r3 (LA.strs ht sl62) (by simp only [maxLen]; omega) (by omega)) ?_
 rintro _ w10 ⟨g6, r6, m11, a6, l6⟩
 have z12 := m11.size
 have hf := hf.step m11 (fun k hk hS => by have hS : k = b3 := hS; show False; omega)
 have h2 := h2.keep m11 (by show ¬ (b2 = b3); omega)
 obtain ⟨p6, q6, rfl, -⟩ := r6.form
 refine sv (xbuildS [[.slice p6 (0 + r.texts.length) q6]] zr207 ly207 rfl (by simp [fitAll, zs207, Value.cells]) rfl) ?_
 refine suK (xstW h2 (lens' := [1]) sz207 rfl rfl rfl rfl rfl) ?_
 rintro w14 ⟨m15, h2, s13⟩
 have hf := hf.step m15 (fun k hk hS => by have hS : k = b2 := hS; show False; omega)
 have r6 := r6.keep m15 (by show ¬ (g6 = b2); omega)
 refine send (fg [(2, _)] ⟨rfl, ⟨⟩⟩ fun _ => (wp_ret ?_))
 refine rp1 rfl ⟨_, rfl, ldS (lens := [1]) ro207 h2.r⟩ ?_
 exact ⟨_, rfl, RA.la (RA.texts (U := fun _ => False) (show Rw _ _ _ _ _ _ (strs r.texts) from r6)) (by decide) text_gr (fun _ h => h.elim) (.inr ⟨by omega, by omega⟩), hf⟩
end Go.Proofs.YtifnodoffgfpbaaGreatDoor

namespace Go.Proofs.YtifnodoffgfpbaaGreatDoor
open Go

/-- bodies whose names fit -/
def FitB (r : RecD) : Prop := (r.kind = 2 ∨ r.kind = 3 ∨ r.kind = 5 ∨ r.kind = 6 ∨ r.kind = 9 ∨ r.kind = 11 ∨ r.kind = 12 ∨ r.kind = 4 → r.host.size ≤ 255) ∧ (r.kind = 4 → r.box.size ≤ 255) ∧
  r.data.length ≤ 1048576 ∧ r.texts.length ≤ 1048576 ∧ r.pairs.length ≤ 1048576 ∧ ∀ p ∈ r.pairs, p.data.length ≤ 1048576
end Go.Proofs.YtifnodoffgfpbaaGreatDoor

namespace Go.Proofs.YtifnodoffgfpbaaGreatDoor
open Go

abbrev mkB (l : List UInt8) : ByteArray := ⟨l.toArray⟩
theorem bt_mkB (l : List UInt8) : bt (mkB l) = l := by simp [bt]
/-- a pointer as two bytes -/
def ptrL (p : UInt16) : List UInt8 := [UInt8.ofNat ((p >>> 8) ||| 192).toNat, UInt8.ofNat p.toNat]
/-- from a place on: what is written, and what the map is then; lab: the label begun; pos: how far behind the start the message ends -/
def packGo : Option Ent → Nat → List UInt8 → List UInt8 → List UInt8 × Option Ent
  | C, _, _, [] => ([0], C)
  | C, pos, lab, c :: cs =>
    if c = 46 then ((UInt8.ofNat lab.length :: lab) ++ (packGo C (pos + (lab.length + 1)) [] cs).1, (packGo C (pos + (lab.length + 1)) [] cs).2)
    else if lab = [] then
      match C with
      | none => packGo none pos [c] cs
      | some M => match look M (mkB (c :: cs)) with
        | some p => (ptrL p, some M)
        | none => packGo (some (if pos ≤ 16383 then M ++ [(mkB (c :: cs), UInt16.ofNat pos)] else M)) pos [c] cs
    else packGo C pos (lab ++ [c]) cs
def packName (C : Option Ent) (pos : Nat) (s : List UInt8) : List UInt8 × Option Ent := if s = [46] then ([0], C) else packGo C pos [] s

theorem packGo_none : ∀ (cs lab : List UInt8) (pos : Nat), nameGo lab.length cs = true → packGo none pos lab cs = (wireGo lab cs ++ [0], none)
  | [], lab, pos, _ => by simp [packGo, wireGo]
  | c :: cs, lab, pos, h => by
    by_cases hc : c = 46
    · simp only [packGo, wireGo, hc, if_pos, nameGo] at h ⊢
      split at h
      · cases h
      · rename_i hl
        have hl' : lab ≠ [] := by intro h0; subst h0; simp at hl
        rw [packGo_none cs [] _ h, if_neg hl']
        simp
    · simp only [nameGo, hc, if_false] at h
      simp only [packGo, wireGo, hc, if_false]
      by_cases hl : lab = []
      · subst hl
        rw [if_pos rfl]
        simp only [List.nil_append]
        exact packGo_none cs [c] pos (by simpa using h)
      · rw [if_neg hl]
        exact packGo_none cs (lab ++ [c]) pos (by simpa using h)
theorem packGo_le : ∀ (cs lab : List UInt8) (C : Option Ent) (pos : Nat), (packGo C pos lab cs).1.length ≤ lab.length + 2 * cs.length + 1
  | [], lab, C, pos => by simp [packGo]
  | c :: cs, lab, C, pos => by
    by_cases hc : c = 46
    · simp only [packGo, hc, if_pos]
      have := packGo_le cs [] C (pos + (lab.length + 1))
      simp only [List.length_append, List.length_cons, List.length_nil] at this ⊢
      omega
    · simp only [packGo, hc, if_false]
      by_cases hl : lab = []
      · subst hl
        simp only [if_true]
        cases C with
        | none =>
          have := packGo_le cs [c] none pos
          simp only [List.length_cons, List.length_nil] at this ⊢; omega
        | some M =>
          simp only []
          split
          · simp [ptrL]; omega
          · have := packGo_le cs [c] (some (if pos ≤ 16383 then M ++ [(mkB (c :: cs), UInt16.ofNat pos)] else M)) pos
            simp only [List.length_cons, List.length_nil] at this ⊢; omega
      · rw [if_neg hl]
        have := packGo_le cs (lab ++ [c]) C pos
        simp only [List.length_append, List.length_cons, List.length_nil] at this ⊢; omega
theorem packName_le (C : Option Ent) (pos : Nat) (s : List UInt8) : (packName C pos s).1.length ≤ 2 * s.length + 1 := by
  simp only [packName]
  split
  · simp
  · have := packGo_le s [] C pos
    simpa using this
theorem packGo_some : ∀ (cs lab : List UInt8) (M : Ent) (pos : Nat), ∃ M', (packGo (some M) pos lab cs).2 = some M'
  | [], lab, M, pos => ⟨M, rfl⟩
  | c :: cs, lab, M, pos => by
    by_cases hc : c = 46
    · simp only [packGo, hc, if_pos]; exact packGo_some cs [] M _
    · simp only [packGo, hc, if_false]
      by_cases hl : lab = []
      · subst hl
        simp only [if_true]
        split
        · exact ⟨M, rfl⟩
        · exact packGo_some cs [c] _ pos
      · rw [if_neg hl]; exact packGo_some cs _ M pos
/-- the map of a message, if it has one -/
def Cmp (w : World) (cm : Option Nat) (C : Option Ent) : Prop := match cm, C with
  | none, none => True
  | some b, some M => Mp w b M
  | _, _ => False
theorem Cmp.keep {S : Nat → Prop} {w w' : World} {cm : Option Nat} {C : Option Ent} (h : Cmp w cm C) (m : Fr S w w') (hn : ∀ b, cm = some b → ¬ S b) : Cmp w' cm C := by
  cases cm <;> cases C <;> simp only [Cmp] at h ⊢
  exact h.keep m (hn _ rfl)
/-- what a function gives back that appends to a message and may write into its map -/
def AppC (w : World) (g gm : Nat) (cm : Option Nat) (n : Nat) (bs out : List UInt8) (C' : Option Ent) (u : Value) (w' : World) : Prop :=
  ∃ a c g', u = .tuple #[.slice a (n + out.length) c, .nilIface] ∧ BR w' (.slice a (n + out.length) c) g' (n + out.length) (bs ++ out) ∧ Fr (fun k => k = g ∨ k = gm) w w' ∧ (g' = g ∨ w.heap.size ≤ g') ∧ g' < w'.heap.size ∧ Cmp w' cm C'

/-- a name that can be packed -/
def nameL (s : List UInt8) : Prop := s = [46] ∨ (s ≠ [46] ∧ nameGo 0 s = true ∧ 1 < s.length ∧ s.length ≤ 254)
theorem nameL_of {s : ByteArray} (h : nameOk s = true) : nameL (bt s) := by
  by_cases hd : bt s = [46]
  · exact .inl hd
  · simp only [nameOk, hd, decide_false, Bool.false_or, Bool.and_eq_true, decide_eq_true_eq] at h
    exact .inr ⟨hd, h.1.1, by rw [bt_length]; exact h.1.2, by rw [bt_length]; exact h.2⟩
theorem nameOk_size {s : ByteArray} (h : nameOk s = true) : s.size ≤ 254 := by
  rcases nameL_of h with h | h
  · have := congrArg List.length h; rw [bt_length] at this; simp at this; omega
  · have := h.2.2.2; rw [bt_length] at this; exact this
theorem nameGo_last : ∀ (s : List UInt8) (n : Nat), nameGo n s = true → (hs : 0 < s.length) → s[s.length - 1]? = some 46
  | [], n, h, hs => by simp at hs
  | [c], n, h, _ => by
    by_cases hc : c = 46
    · subst hc; rfl
    · simp [nameGo, hc] at h
  | c :: d :: cs, n, h, _ => by
    simp only [List.length_cons, Nat.add_sub_cancel]
    have : nameGo 0 (d :: cs) = true ∨ nameGo (n + 1) (d :: cs) = true := by
      rw [nameGo] at h
      split at h
      · split at h
        · cases h
        · exact .inl h
      · exact .inr h
    rw [List.getElem?_cons_succ]
    rcases this with h' | h'
    · exact nameGo_last (d :: cs) 0 h' (by simp)
    · exact nameGo_last (d :: cs) (n + 1) h' (by simp)
theorem nameGo_first {s : List UInt8} (h : nameGo 0 s = true) : s[0]? ≠ some 46 := by
  cases s with
  | nil => simp
  | cons c cs =>
    intro h0
    simp only [List.getElem?_cons_zero, Option.some.injEq] at h0
    subst h0
    simp [nameGo] at h
theorem nm_rng {w : World} {b o : Nat} {s : List UInt8} (h : w.rangeAt b o (nm s)) (hs : s.length ≤ 255) (i : Nat) : w.rangeAt b (o + i) (bvs (s.drop i)) := fun j v hv => by
  have : (bvs s)[i + j]? = some v := by simpa [bvs] using hv
  have := h (i + j) v (nm_pre s hs _ _ this)
  rw [Nat.add_assoc]; exact this
theorem name_dot {s : List UInt8} (h : nameL s) (h0 : 0 < s.length) (hc : (s[0].toNat : Int) = 46) : s = [46] := by
  rcases h with h | h
  · exact h
  · exfalso
    apply nameGo_first h.2.1
    rw [List.getElem?_eq_getElem h0]
    exact congrArg some (UInt8.toNat_inj.1 (by have : (46 : UInt8).toNat = 46 := rfl; omega))
theorem name_nodot {s : List UInt8} (h : nameL s) (h0 : 0 < s.length) (hc : ¬ (s[0].toNat : Int) = 46) : s ≠ [46] ∧ nameGo 0 s = true := by
  rcases h with h | h
  · subst h; exact absurd rfl hc
  · exact ⟨h.1, h.2.1⟩
theorem name_pos {s : List UInt8} (h : nameL s) : 0 < s.length ∧ s.length ≤ 254 := by
  rcases h with h | h
  · subst h; simp
  · omega
theorem name_last {s : List UInt8} (h : nameL s) (h0 : s.length - 1 < s.length) : s[s.length - 1] = 46 := by
  rcases h with h | h
  · subst h; rfl
  · have := nameGo_last s 0 h.2.1 (by omega)
    rw [List.getElem?_eq_getElem h0] at this
    simpa using this
theorem nameGo_dot {n : Nat} {cs : List UInt8} (h : nameGo n (46 :: cs) = true) : 1 ≤ n ∧ n ≤ 63 ∧ nameGo 0 cs = true := by
  rw [nameGo, if_pos rfl] at h
  split at h
  · cases h
  · exact ⟨by omega, by omega, h⟩
theorem nameGo_let {n : Nat} {c : UInt8} {cs : List UInt8} (h : nameGo n (c :: cs) = true) (hc : c ≠ 46) : nameGo (n + 1) cs = true := by
  rw [nameGo, if_neg hc] at h; exact h
theorem u8ne {c : UInt8} (h : ¬ (c.toNat : Int) = 46) : c ≠ 46 := by intro e; subst e; exact h rfl
theorem u8eq {c : UInt8} (h : (c.toNat : Int) = 46) : c = 46 := UInt8.toNat_inj.1 (by have : (46 : UInt8).toNat = 46 := rfl; omega)
def pkE (o : List UInt8) (r : List UInt8 × Option Ent) : List UInt8 × Option Ent := (o ++ r.1, r.2)
theorem pk_dot {C : Option Ent} {pos : Nat} {lab cs o : List UInt8} : pkE o (packGo C pos lab (46 :: cs)) = pkE (o ++ (UInt8.ofNat lab.length :: lab)) (packGo C (pos + (lab.length + 1)) [] cs) := by
  simp [packGo, pkE, List.append_assoc]
theorem pk_mid {C : Option Ent} {pos : Nat} {c : UInt8} {lab cs : List UInt8} (hc : c ≠ 46) (hl : lab ≠ []) : packGo C pos lab (c :: cs) = packGo C pos (lab ++ [c]) cs := by
  cases C <;> simp [packGo, hc, hl]
theorem pk_none {pos : Nat} {c : UInt8} {cs : List UInt8} (hc : c ≠ 46) : packGo none pos [] (c :: cs) = packGo none pos [c] cs := by
  simp [packGo, hc]
theorem pk_hit {M : Ent} {pos : Nat} {c : UInt8} {cs : List UInt8} {p : UInt16} (hc : c ≠ 46) (hl : look M (mkB (c :: cs)) = some p) : packGo (some M) pos [] (c :: cs) = (ptrL p, some M) := by
  simp [packGo, hc, hl]
theorem pk_miss {M : Ent} {pos : Nat} {c : UInt8} {cs : List UInt8} (hc : c ≠ 46) (hl : look M (mkB (c :: cs)) = none) : packGo (some M) pos [] (c :: cs) = packGo (some (if pos ≤ 16383 then M ++ [(mkB (c :: cs), UInt16.ofNat pos)] else M)) pos [c] cs := by
  simp [packGo, hc, hl]
theorem lab_get {s lab : List UInt8} {i bg j : Nat} (h : lab = (s.take i).drop bg) (h1 : bg ≤ j) (h2 : j < i) (h3 : i ≤ s.length) : lab[j - bg]? = some (s[j]'(by omega)) := by
  subst h
  rw [List.getElem?_drop, List.getElem?_take, if_pos (by omega), show bg + (j - bg) = j by omega, List.getElem?_eq_getElem (by omega)]
theorem lab_next {s lab : List UInt8} {i bg : Nat} (h : lab = (s.take i).drop bg) (h1 : bg ≤ i) (h3 : i < s.length) : lab ++ [s[i]] = (s.take (i + 1)).drop bg := by
  subst h
  rw [List.take_add_one, List.getElem?_eq_getElem h3, List.drop_append_of_le_length (by simp; omega)]
  rfl
theorem Cmp.some {w : World} {b : Nat} {C : Option Ent} (h : Cmp w (.some b) C) : ∃ M, C = .some M ∧ Mp w b M := by
  cases C <;> simp only [Cmp] at h
  exact ⟨_, rfl, h⟩
theorem Cmp.none {w : World} {C : Option Ent} (h : Cmp w .none C) : C = .none := by
  cases C <;> simp only [Cmp] at h
  rfl
theorem extr_drop (s : List UInt8) (i : Nat) : (mkB s).extract i (mkB s).size = mkB (s.drop i) := by
  apply ByteArray.ext
  simp only [ByteArray.data_extract]
  apply Array.ext'
  have : (mkB s).size = s.length := by simp [ByteArray.size]
  rw [this]
  simp only [Array.toList_extract, List.extract_eq_take_drop]
  rw [List.take_of_length_le (by simp)]
theorem drop_one {s : List UInt8} {i : Nat} (hi : i < s.length) : s.drop i = s[i] :: s.drop (i + 1) := List.drop_eq_getElem_cons hi
end Go.Proofs.YtifnodoffgfpbaaGreatDoor

namespace Go.Proofs.YtifnodoffgfpbaaGreatDoor
open Go

/-- A struct stands in block b behind pre and ahead of post: its parts, of these lengths. -/
def SE (w : World) (b : Nat) (T : TypeId) (pre : List Value) (lens : List Nat) (segs : List (List Value)) (post : List Value) : Prop :=
  w.heap[b]? = some (.cells (pre ++ (segs.flatten ++ post)).toArray T (0, 0)) ∧ segs.map List.length = lens
section
variable {w w' : World} {b : Nat} {T : TypeId} {pre post : List Value} {lens : List Nat} {segs : List (List Value)}
theorem SE.lt (h : SE w b T pre lens segs post) : b < w.heap.size := (Array.getElem?_eq_some_iff.1 h.1).1
theorem SE.keep {S : Nat → Prop} (h : SE w b T pre lens segs post) (m : Fr S w w') (hn : ¬ S b) : SE w' b T pre lens segs post := ⟨(m.block b h.lt hn).trans h.1, h.2⟩
theorem SE.blk (h : SE w b T pre lens segs post) : Blk w b (pre ++ (segs.flatten ++ post)) := ⟨T, h.1⟩
theorem SE.ofSB (h : SB w b lens segs) : ∃ T, SE w b T [] lens segs [] := by
  obtain ⟨⟨T, h⟩, hl⟩ := h
  exact ⟨T, by simpa using h, hl⟩
theorem set_mid (pre mid post : List Value) (k : Nat) (v : Value) (hk : k < mid.length) : (pre ++ (mid ++ post)).set (pre.length + k) v = pre ++ (mid.set k v ++ post) := by
  rw [List.set_append_right _ _ (by omega), Nat.add_sub_cancel_left, List.set_append_left _ _ hk]
/-- a store into a part of one cell -/
theorem xstE {P : Program} {n : Nat} {l : List (Nat × Value)} {ty : TypeId} {x y : Operand} {v : Value} {V : TypeId} {k o : Nat} (i : Nat) {u : Value} (hT : szB P V 1 = true) (hb : SE w b T pre lens segs post) (ho : pre.length = o) (hi : segs[i]? = some [u]) (hk : (lens.take i).sum = k)
    (hx : ev n l x = some (.pointer (some ⟨b, o + k, none⟩))) (hy : ev n l y = some v) (h1 : v.oneCell' = true) :
    ExUK P n l (.store V x y) ty w (fun w' => Fr (· = b) w w' ∧ SE w' b T pre lens (segs.set i [v]) post ∧ w'.heap.size = w.heap.size) := by
  subst ho
  have hlt : i < segs.length := (List.getElem?_eq_some_iff.1 hi).1
  have he : segs[i] = [u] := (List.getElem?_eq_some_iff.1 hi).2
  have hk' : offs segs i = k := by rw [offs_lens hb.2, hk]
  have hle := offs_le segs i hlt
  rw [he, hk'] at hle
  simp only [List.length_cons, List.length_nil] at hle
  have hcell := hb.blk.cell (i := pre.length + k) (v := segs.flatten[k]'(by omega)) (by
    rw [List.getElem?_append_right (by omega), Nat.add_sub_cancel_left, List.getElem?_append_left (by omega)]
    simp)
  have hfr := hb.blk.frozen (pre.length + k)
  have hset := heap_set hb.1 (pre.length + k) v
  rw [set_mid _ _ _ _ _ (by omega)] at hset
  have hfl := splice_flat segs i [v] hlt (by rw [he]; rfl)
  rw [hk', ← splice_cons _ _ _ _ (by omega), splice_nil] at hfl
  rw [hfl] at hset
  refine ⟨w.setCell ⟨b, pre.length + k, none⟩ v, fun r _ _ _ _ => ?_, fr_setCell w b _ v, ⟨hset, ?_⟩, size_setCell _ _ _⟩
  · have hs := szB_spec hT
    cases hi' : P.info? V with
    | none => rw [hi'] at hs; cases hs
    | some u =>
      rw [hi'] at hs
      simp only [Option.map_some, Option.some.injEq] at hs
      simp only [execOp, ev_eval r hx, ev_eval r hy]
      have hcells : v.cells = #[v] := by cases v <;> first | rfl | cases h1
      have hadd : (⟨b, pre.length + k, none⟩ : Addr).add 0 = ⟨b, pre.length + k, none⟩ := addr_add b _ 0
      simp [Instr.storeAt, Instr.sureAddr, storeVar, hcells, sizeOf, typeInfo, hi', hs, storeCells, hadd, run_store _ _ _ _ _ h1, hcell, hfr]
  · rw [List.map_set, ← hb.2]
    apply List.ext_getElem
    · simp
    · intro m h1 h2
      rw [List.getElem_set]
      split
      · rename_i hm; subst hm; simp [he]
      · rfl
end

theorem jcut {P : Program} {Q : Exit → Act → World → Prop} {c : Code} {n : Nat} {l : List (Nat × Value)} {r : Nat → Value} {w : World} {α : Type} (u : List (Nat × Value)) (_hu : okl l u) (ch : α → List (Nat × Value)) (J : α → World → Prop)
    (h : c.wp P (fun e a' w' => e = .normal ∧ ∃ x r', a' = env n (ch x ++ u) r' ∧ J x w') (env n l r) w)
    (k : ∀ x r w', J x w' → Q .normal (env n (ch x ++ u) r) w') : c.wp P Q (env n l r) w := by
  refine wp_mono h ?_
  rintro e a' w' ⟨rfl, x, r', rfl, hJ⟩
  exact k x r' w' hJ

end Go.Proofs.YtifnodoffgfpbaaGreatDoor

namespace Go.Proofs.YtifnodoffgfpbaaGreatDoor
open Go

theorem nm_cell {w : World} {b o : Nat} {s : List UInt8} (h : SR w b o [256] [nm s]) {i : Nat} (hi : i < s.length) (h2 : i < 255) : w.cell? ⟨b, o + 0 + i, none⟩ = some (.int .u8 ((s[i]'hi).toNat : Int)) := by
  have := h.seg (i := 0) (k := 0) rfl rfl i _ (nm_get s hi h2)
  exact this
theorem nm_part {w : World} {b o : Nat} {s : List UInt8} (h : SR w b o [256] [nm s]) (hs : s.length ≤ 255) (i : Nat) : w.rangeAt b (o + 0 + i) (bvs (s.drop i)) := nm_rng (h.seg (i := 0) (k := 0) rfl rfl) hs i
theorem mkB_size (s : List UInt8) : (mkB s).size = s.length := by simp [ByteArray.size]
theorem ptr_cells (p : UInt16) : ([Value.int .u8 (((p >>> 8 ||| 192).toNat : Int) % 256), .int .u8 ((p.toNat : Int) % 256)].map (·.cells.toList)).flatten = bvs (ptrL p) := by
  have e : ∀ x : Nat, ((UInt8.ofNat x).toNat : Int) = (x : Int) % 256 := fun x => by rw [UInt8.toNat_ofNat']; omega
  simp only [ptrL, bvs, bv, List.map_cons, List.map_nil, e]
  rfl
theorem optCases (cm : Option Nat) : (∃ b, cm = some b) ∨ cm = none := by cases cm <;> simp
theorem name_dotlen {s : List UInt8} (h : nameL s) (h0 : 0 < s.length) (hc : (s[0].toNat : Int) = 46) : (s.length : Int) = 1 := by rw [name_dot h h0 hc]; rfl
theorem pkE_eq {o r1 : List UInt8} {C : Option Ent} {t : List UInt8 × Option Ent} (h : pkE o (r1, C) = t) : o ++ r1 = t.1 ∧ C = t.2 := by subst h; exact ⟨rfl, rfl⟩
theorem app_ofC {w w' : World} {g gm n m : Nat} {cm : Option Nat} {bs out : List UInt8} {C' : Option Ent} {a : Option Addr} {c g' : Nat} {cs : List Value} (h : Rw w' (.slice a m c) g' 5 1 m cs) (hm : m = n + out.length) (hcs : cs = bvs (bs ++ out)) (hf : Fr (fun k => k = g ∨ k = gm) w w') (hg : g' = g ∨ w.heap.size ≤ g') (hl : g' < w'.heap.size) (hC : Cmp w' cm C') :
    AppC w g gm cm n bs out C' (.tuple #[.slice a m c, .nilIface]) w' := by
  subst hm hcs
  exact ⟨a, c, g', rfl, h, hf, hg, hl, hC⟩
theorem pk_next {C : Option Ent} {p : Nat} {c : UInt8} {lab cs : List UInt8} (hc : c ≠ 46) (h : lab ≠ [] ∨ C = none) : packGo C p lab (c :: cs) = packGo C p (lab ++ [c]) cs := by
  by_cases hl : lab = []
  · subst hl
    obtain rfl := h.resolve_left (fun h => h rfl)
    exact pk_none hc
  · exact pk_mid hc hl
theorem lab_len {s lab : List UInt8} {i bg : Nat} (h : lab = (s.take i).drop bg) (hi : i ≤ s.length) : lab.length = i - bg := by
  subst h; rw [List.length_drop, List.length_take, Nat.min_eq_left hi]
theorem lab_mid {s lab : List UInt8} {i bg : Nat} (hf : bg = i → i = 0 ∨ s[i - 1]? = some 46) (hll : lab.length = i - bg) (hb : bg ≤ i) (h0 : ¬ (i : Int) = 0) (hi : i - 1 < s.length) (hd : ¬ ((s[i - 1]'hi).toNat : Int) = 46) : lab ≠ [] := by
  intro h
  have e : bg = i := by rw [h] at hll; simp at hll; omega
  rcases hf e with h1 | h1
  · omega
  · rw [List.getElem?_eq_getElem hi] at h1
    simp only [Option.some.injEq] at h1
    rw [h1] at hd; exact hd rfl
theorem lab_first {s lab : List UInt8} {i bg : Nat} (h : lab = (s.take i).drop bg) (hb : bg ≤ i) (hnd : ∀ c ∈ lab, c ≠ 46) (hi : i ≤ s.length) (hz : (i : Int) = 0 ∨ ∃ hi : i - 1 < s.length, ((s[i - 1]'hi).toNat : Int) = 46) : lab = [] := by
  cases hlab : lab with
  | nil => rfl
  | cons x xs =>
    exfalso
    have hll := lab_len h hi
    rw [hlab] at hll
    simp only [List.length_cons] at hll
    rcases hz with h0 | ⟨hi', h46⟩
    · omega
    · have hg := lab_get h (j := i - 1) (by omega) (by omega) hi
      have hm := List.mem_of_getElem? hg
      exact hnd _ hm (u8eq h46)
/-- the text of a slice of bytes -/
theorem xb2sR {P : Program} {n : Nat} {l : List (Nat × Value)} {w : World} {ty : TypeId} {x : Operand} {S D E : TypeId} {bs : List UInt8} {b o m c : Nat} (hS : slcB P S E = true) (hE : intB P E .u8 = true) (hD : strB P D = true) (hx : ev n l x = some (.slice (some ⟨b, o, none⟩) m c)) (hm : bs.length = m) (hr : w.rangeAt b o (bvs bs)) :
    Ex P n l (.convert S D x) ty w (.string (mkB bs)) w := xb2s hS hE hD hx hm hr

set_option maxHeartbeats 4000000 in
set_option maxRecDepth 100000 in
theorem c149 {w : World} {v : Value} {g gm n start pos : Nat} {bs : List UInt8} {cm : Option Nat} {C : Option Ent} (hR : BR w v g n bs) (hg : g < w.heap.size) {bo o : Nat} {s : List UInt8} (hN : SR w bo o [256] [nm s]) (hbo : bo < w.heap.size) (hbg : bo ≠ g) (hbm : bo ≠ gm) (hC : Cmp w cm C) (hm : ∀ b, cm = some b → b = gm ∧ gm ≠ g ∧ gm < w.heap.size) (hp : n = start + pos) (hl : n < 1000000000) (hs : nameL s) :
  Ret PP 149 [.pointer (some ⟨bo, o, none⟩), v, .map cm, .int .i64 (start : Int)] w (AppC w g gm cm n bs (packName C pos s).1 (packName C pos s).2) := by
 obtain ⟨a0, c0, rfl, -⟩ := hR.form
 have hs1 := name_pos hs
 obtain ⟨hs0, hs2⟩ := hs1
 have hf : Fr (fun k => k = g ∨ k = gm) w w := Fr.refl _ _
 refine ret_of Tryz.func149 rfl rfl rfl [(0, _), (1, _), (2, _), (3, _)] rfl ?_
 refine sreg (sA rfl (sA rfl (send (fg [(0, _), (1, _), (2, _), (3, _)] ⟨rfl, rfl, rfl, rfl, ⟨⟩⟩ fun _ => (sreg (sM rfl (sA rfl (send (fg [(0, _), (1, _), (2, _), (3, _), (10, _)] ⟨rfl, rfl, rfl, rfl, rfl, ⟨⟩⟩ fun _ => (wp_seq (sreg (sM rfl (sN rfl (sv (xfld fl82_1 rfl) (sv (xld on5 rfl (hN.seg (i := 0) rfl rfl 255 _ (nm_last _))) (sv (exF (xgtr rfl rfl) (by omega)) (send (fg [(0, _), (1, _), (2, _), (3, _), (10, _), (23, _)] ⟨rfl, rfl, rfl, rfl, rfl, rfl, ⟨⟩⟩ fun _ => (cno rfl (wp_skip (nThen (fg [(0, _), (1, _), (2, _), (3, _), (10, _)] ⟨rfl, rfl, rfl, rfl, rfl, ⟨⟩⟩ fun _ => (wp_seq ?_)))))))))))))))))))))))
 refine sdraw (Fr (fun _ => False) w.drew) [(0, .rd), (1, .rd), (2, .rd), (3, .rd), (4, .rd), (5, .rd), (6, .rd), (7, .rd), (8, .rd), (9, .rd), (10, .rd), (11, .rd), (12, .rd), (13, .rd), (14, .rd), (15, .rd), (16, .rd), (17, .rd)] mixed (by kernel_rfl) (fun _ _ _ _ _ h => h) ?_
 have z1 : w.drew.heap.size = w.heap.size := rfl
 have hR := hR.keep (fd w) id
 have hN := hN.keep (fd w) (by omega) id
 have hC := hC.keep (fd w) nF
 have hf := hf.drew
 have hS2 : Fr (fun _ => False) w.drew w.drew := Fr.refl _ _
 refine ggM rfl rfl hS2 (ggN rfl rfl hS2 (hv rfl (fun _ _ => xfld fl82_1 rfl) hS2 (hv rfl (fun w' hS => xld on5 rfl ((hN.keep hS (by omega) id).seg (i := 0) rfl rfl 255 _ (nm_last _))) hS2 (hv rfl (fun _ _ => exF (xeql rfl rfl) (by omega)) hS2 (ggM rfl rfl hS2 (hvg rfl rfl rfl (fun _ _ => xmove rfl) hS2 (hvg rfl rfl rfl (fun _ _ => xmove rfl) hS2 (hvg rfl rfl rfl (fun _ _ => xnilc rfl) hS2 (hvg rfl rfl rfl (fun _ _ => xfld fl82_1 rfl) hS2 (hvg rfl rfl rfl (fun w' hS => xld on5 rfl ((hN.keep hS (by omega) id).seg (i := 0) rfl rfl 255 _ (nm_last _))) hS2 (hvg rfl rfl rfl (fun _ _ => xsub rfl rfl (wu8 (by omega) (by omega))) hS2 (hvg rfl rfl rfl (fun _ _ => xnilc rfl) hS2 (hvg rfl rfl rfl (fun _ _ => xfld fl82_0 rfl) hS2 (hvg rfl rfl rfl (fun _ _ => xidxA1 (i := s.length - 1) ar80 sz5 rfl rfl (by omega) (by omega)) hS2 (hvg rfl rfl rfl (fun w' hS => xld on5 rfl (nm_cell (hN.keep hS (by omega) id) (i := s.length - 1) (by omega) (by omega))) hS2 (hvg rfl rfl rfl (fun _ _ => exF (xneq rfl rfl) (by rw [name_last hs (by omega)]; decide)) hS2 (hv rfl (fun _ _ => xpickF rfl rfl) hS2 (hend (fg [(0, _), (1, _), (2, _), (3, _), (10, _), (42, _)] ⟨rfl, rfl, rfl, rfl, rfl, rfl, ⟨⟩⟩ fun _ => (cno rfl (wp_skip (nThen (fg [(0, _), (1, _), (2, _), (3, _), (10, _)] ⟨rfl, rfl, rfl, rfl, rfl, ⟨⟩⟩ fun _ => (wp_seq ?_))))))))))))))))))))))))
 refine sreg (sM rfl (sN rfl (sv (xfld fl82_0 rfl) (sv (xidxA1 (i := 0) ar80 sz5 rfl rfl (by omega) (by omega)) (sv (xld on5 rfl (nm_cell hN (i := 0) (by omega) (by omega))) ?_)))))
 refine svP (xeql rfl rfl) (fun hc50 => ?_) (fun hc50 => ?_)
 ·
  refine sM rfl (gyes rfl rfl rfl (sM rfl (gyes rfl rfl rfl (sN rfl (gyes rfl rfl rfl (sv (xfld fl82_1 rfl) (gyes rfl rfl rfl (sv (xld on5 rfl (hN.seg (i := 0) rfl rfl 255 _ (nm_last _))) (gyes rfl rfl rfl (sv (exT (xeql rfl rfl) (name_dotlen hs (by omega) hc50)) (sv (xpickT rfl rfl) (send (fg [(0, _), (1, _), (2, _), (3, _), (10, _), (57, _)] ⟨rfl, rfl, rfl, rfl, rfl, rfl, ⟨⟩⟩ fun _ => (cyes rfl (sreg (sM rfl ?_))))))))))))))))
  refine svK (xslit (bvs [0]) sl37 in5 rfl (by decide) rfl rfl rfl rfl (by decide) (by simp [bvs, bv, Value.cells]) (bvs_one _)) ?_
  rintro _ w4 ⟨b59, rfl, m5, h59, e59, s59, r59⟩
  have hR := hR.keep m5 id
  have hN := hN.keep m5 (by omega) id
  have hC := hC.keep m5 nF
  have hf := hf.step0 m5
  refine svK (xapp sl37 in5 rfl (by decide) rfl rfl hR (r59.src sl37) (by simp only [maxLen]; omega) (by omega)) ?_
  rintro _ w6 ⟨g60, r60, m7, a60, l60⟩
  have z8 := m7.size
  have hN := hN.keep m7 (by omega) (by show ¬ (bo = g); omega)
  have hC := hC.keep m7 (fun b hb => by have hb := hm b hb; show ¬ (b = g); omega)
  have hf := hf.step m7 (fun k hk hS => by have hS : k = g := hS; show k = g ∨ k = gm; omega)
  obtain ⟨p60, q60, rfl, -⟩ := r60.form
  refine sA rfl (sA rfl (send (fg [(8, _), (9, _)] ⟨rfl, rfl, ⟨⟩⟩ fun _ => (wp_ret (rThen ?_)))))
  refine rp2 rfl rfl rfl ?_
  have es := name_dot hs (by omega) hc50
  subst es
  exact app_ofC (out := [0]) r60 rfl (by simp [bvs_app]) hf (by omega) (l60 (by omega)) hC
 ·
  refine sM rfl (gno rfl rfl rfl (gno rfl rfl rfl (gno rfl rfl rfl (gno rfl rfl rfl (gno rfl rfl rfl (sv (xpickF rfl rfl) (send (fg [(0, _), (1, _), (2, _), (3, _), (10, _), (57, _)] ⟨rfl, rfl, rfl, rfl, rfl, rfl, ⟨⟩⟩ fun _ => (cno rfl (wp_skip (nThen (fg [(0, _), (1, _), (2, _), (3, _), (10, _)] ⟨rfl, rfl, rfl, rfl, rfl, ⟨⟩⟩ fun _ => ?_))))))))))))
  have hgo := name_nodot hs (by omega) hc50
  refine sreg (sA rfl (send (fg [(0, _), (1, _), (2, _), (3, _), (10, _), (11, _)] ⟨rfl, rfl, rfl, rfl, rfl, rfl, ⟨⟩⟩ fun _ => (wp_seq (sreg (sA rfl (sA rfl (send (fg [(0, _), (1, _), (2, _), (3, _), (10, _), (11, _), (12, _), (13, _)] ⟨rfl, rfl, rfl, rfl, rfl, rfl, rfl, rfl, ⟨⟩⟩ fun _ => (wp_block ?_))))))))))
  refine lp [(0, _), (2, _), (3, _), (10, _)] (fun (x : Nat × Nat × Value × Nat × List UInt8 × List UInt8 × Option Ent × ByteArray) => match x with | (i, bg, v, gv, q, lab, C1, na) => [(1, v), (11, .string na), (12, .int .i64 (i : Int)), (13, .int .i64 (bg : Int))]) (fun (x : Nat × Nat × Value × Nat × List UInt8 × List UInt8 × Option Ent × ByteArray) wx => match x with | (i, bg, v, gv, q, lab, C1, na) => Fr (fun k => k = g ∨ k = gm) w.drew wx ∧ (i ≤ s.length) ∧ (bg ≤ i) ∧ (BR wx v gv (n + q.length) (bs ++ q)) ∧ (gv = g ∨ w.drew.heap.size ≤ gv) ∧ (gv < wx.heap.size) ∧ (Cmp wx cm C1) ∧ (pkE q (packGo C1 (pos + q.length) lab (s.drop i)) = packGo C pos [] s) ∧ (lab = (s.take i).drop bg) ∧ (nameGo lab.length (s.drop i) = true) ∧ (na = ⟨#[]⟩ ∨ na = mkB s) ∧ (bg = i → i = 0 ∨ s[i - 1]? = some 46) ∧ (∀ c ∈ lab, c ≠ 46) ∧ (q.length + lab.length ≤ 2 * i)) (fun (x : Nat × Nat × Value × Nat × List UInt8 × List UInt8 × Option Ent × ByteArray) => match x with | (i, bg, v, gv, q, lab, C1, na) => s.length - i) (0, 0, _, g, [], [], C, ⟨#[]⟩) ⟨rfl, rfl, rfl, rfl, rfl, rfl, rfl, rfl, trivial⟩ ⟨Fr.refl _ _, Nat.zero_le _, Nat.le_refl _, by simpa using hR, .inl rfl, by omega, hC, by simp [pkE], by simp, hgo.2, .inl rfl, fun _ => .inl rfl, by simp, by simp⟩ ?_
  rintro ⟨i, bg, v, gv, q, lab, C1, na⟩ _ w10 ⟨hL9, hi, hbi, hv1, hgv, hgv2, hC1, hE, hlab, hng, hna, hfst, hnd, hol⟩
  refine fg [(0, _), (1, _), (2, _), (3, _), (10, _), (11, _), (12, _), (13, _)] ⟨rfl, rfl, rfl, rfl, rfl, rfl, rfl, rfl, ⟨⟩⟩ fun _ => ?_
  have z11 := hL9.size
  have hN := hN.keep hL9 (by omega) (by show ¬ (bo = g ∨ bo = gm); omega)
  have hf := hf.step hL9 (fun k hk hS => by have hS : k = g ∨ k = gm := hS; show k = g ∨ k = gm; omega)
  obtain ⟨a1, c1, rfl, -⟩ := hv1.form
  refine wp_seq (sreg (sM rfl (sM rfl (sN rfl (sv (xfld fl82_1 rfl) (sv (xld on5 rfl (hN.seg (i := 0) rfl rfl 255 _ (nm_last _))) (sv (xconv hs5 ki3 rfl (w64 (by omega) (by omega))) ?_)))))))
  refine svP (xlss rfl rfl) (fun hc67 => ?_) (fun hc67 => ?_)
  ·
   refine send (fg [(0, _), (1, _), (2, _), (3, _), (10, _), (11, _), (12, _), (13, _), (67, _)] ⟨rfl, rfl, rfl, rfl, rfl, rfl, rfl, rfl, rfl, ⟨⟩⟩ fun _ => (cyes rfl (wp_skip (nThen (fg [(0, _), (1, _), (2, _), (3, _), (10, _), (11, _), (12, _), (13, _)] ⟨rfl, rfl, rfl, rfl, rfl, rfl, rfl, rfl, ⟨⟩⟩ fun _ => (wp_seq (wp_block (wp_seq (sreg (sM rfl (sM rfl (sN rfl (sv (xfld fl82_0 rfl) (sv (xidxA1 (i := i) ar80 sz5 rfl rfl (by omega) (by omega)) (sv (xld on5 rfl (nm_cell hN (i := i) (by omega) (by omega))) ?_)))))))))))))))
   refine svP (xeql rfl rfl) (fun hc76 => ?_) (fun hc76 => ?_)
   ·
    refine send (fg [(0, _), (1, _), (2, _), (3, _), (10, _), (11, _), (12, _), (13, _), (76, _)] ⟨rfl, rfl, rfl, rfl, rfl, rfl, rfl, rfl, rfl, ⟨⟩⟩ fun _ => (cyes rfl (wp_seq ?_)))
    have hll := lab_len hlab (by omega)
    have hng1 := hng
    rw [drop_one (s := s) (i := i) (by omega), u8eq hc76] at hng1
    have hnd1 := nameGo_dot hng1
    refine sreg (sM rfl (sM rfl (sv (xsub rfl rfl (w64 (by omega) (by omega))) (sv (exF (xgeq rfl rfl) (by omega)) (send (fg [(0, _), (1, _), (2, _), (3, _), (10, _), (11, _), (12, _), (13, _), (80, _)] ⟨rfl, rfl, rfl, rfl, rfl, rfl, rfl, rfl, rfl, ⟨⟩⟩ fun _ => (cno rfl (wp_skip (nThen (fg [(0, _), (1, _), (2, _), (3, _), (10, _), (11, _), (12, _), (13, _)] ⟨rfl, rfl, rfl, rfl, rfl, rfl, rfl, rfl, ⟨⟩⟩ fun _ => (wp_seq (sreg (sM rfl (sM rfl (sv (xsub rfl rfl (w64 (by omega) (by omega))) (sv (exF (xeql rfl rfl) (by omega)) (send (fg [(0, _), (1, _), (2, _), (3, _), (10, _), (11, _), (12, _), (13, _), (86, _)] ⟨rfl, rfl, rfl, rfl, rfl, rfl, rfl, rfl, rfl, ⟨⟩⟩ fun _ => (cno rfl (wp_skip (nThen (fg [(0, _), (1, _), (2, _), (3, _), (10, _), (11, _), (12, _), (13, _)] ⟨rfl, rfl, rfl, rfl, rfl, rfl, rfl, rfl, ⟨⟩⟩ fun _ => (sreg (sM rfl ?_))))))))))))))))))))))))
    refine sM rfl (sM rfl (sv (xsub rfl rfl (w64 (by omega) (by omega))) (sv (xconv hs3 ki5 rfl (wu8m _)) ?_)))
    refine svK (xslit (bvs [UInt8.ofNat lab.length]) sl37 in5 rfl (by decide) rfl rfl rfl rfl (by decide) (by simp [bvs, bv, Value.cells]; omega) (bvs_one _)) ?_
    rintro _ w13 ⟨b94, rfl, m14, h94, e94, s94, r94⟩
    have hN := hN.keep m14 (by omega) id
    have hf := hf.step0 m14
    have hv1 := hv1.keep m14 id
    have hC1 := hC1.keep m14 nF
    have hL9 := hL9.step0 m14
    refine svK (xapp sl37 in5 rfl (by decide) rfl rfl hv1 (r94.src sl37) (by simp only [maxLen]; omega) (by omega)) ?_
    rintro _ w15 ⟨g95, r95, m16, a95, l95⟩
    have z17 := m16.size
    have hN := hN.keep m16 (by omega) (by show ¬ (bo = gv); omega)
    have hf := hf.step m16 (fun k hk hS => by have hS : k = gv := hS; show k = g ∨ k = gm; omega)
    have hC1 := hC1.keep m16 (fun b hb => by have hb := hm b hb; show ¬ (b = gv); omega)
    have hL9 := hL9.step m16 (fun k hk hS => by have hS : k = gv := hS; show k = g ∨ k = gm; omega)
    obtain ⟨p95, q95, rfl, -⟩ := r95.form
    refine sA rfl (send (fg [(0, _), (1, _), (2, _), (3, _), (10, _), (11, _), (12, _), (13, _)] ⟨rfl, rfl, rfl, rfl, rfl, rfl, rfl, rfl, ⟨⟩⟩ fun _ => (wp_seq (sreg (sM rfl (sA rfl (send (fg [(0, _), (1, _), (2, _), (3, _), (10, _), (11, _), (12, _), (14, _)] ⟨rfl, rfl, rfl, rfl, rfl, rfl, rfl, rfl, ⟨⟩⟩ fun _ => (wp_block ?_)))))))))
    refine lp [(0, _), (2, _), (3, _), (10, _), (11, _), (12, _)] (fun (x : Nat × Value × Nat) => match x with | (j, v, gj) => [(1, v), (14, .int .i64 (j : Int))]) (fun (x : Nat × Value × Nat) wx => match x with | (j, v, gj) => Fr (fun k => k = g95) w15 wx ∧ (bg ≤ j) ∧ (j ≤ i) ∧ (BR wx v gj (n + q.length + 1 + (j - bg)) (bs ++ q ++ (UInt8.ofNat lab.length :: lab.take (j - bg)))) ∧ (gj = g95 ∨ w15.heap.size ≤ gj) ∧ (gj < wx.heap.size)) (fun (x : Nat × Value × Nat) => match x with | (j, v, gj) => i - j) (bg, _, g95) ⟨rfl, rfl, rfl, rfl, rfl, rfl, rfl, rfl, trivial⟩ ⟨Fr.refl _ _, Nat.le_refl _, hbi, br_cast r95 (by simp [bvs_app]) (by omega), .inl rfl, l95 (by omega)⟩ ?_
    rintro ⟨j, v, gj⟩ _ w19 ⟨hL18, hj1, hj2, hv2, hgj, hgj2⟩
    refine fg [(0, _), (1, _), (2, _), (3, _), (10, _), (11, _), (12, _), (14, _)] ⟨rfl, rfl, rfl, rfl, rfl, rfl, rfl, rfl, ⟨⟩⟩ fun _ => ?_
    have z20 := hL18.size
    have hN := hN.keep hL18 (by omega) (by show ¬ (bo = g95); omega)
    have hf := hf.step hL18 (fun k hk hS => by have hS : k = g95 := hS; show k = g ∨ k = gm; omega)
    have hC1 := hC1.keep hL18 (fun b hb => by have hb := hm b hb; show ¬ (b = g95); omega)
    have hL9 := hL9.step hL18 (fun k hk hS => by have hS : k = g95 := hS; show k = g ∨ k = gm; omega)
    obtain ⟨a2, c2, rfl, -⟩ := hv2.form
    refine wp_seq (sreg (sM rfl (sM rfl ?_)))
    refine svP (xlss rfl rfl) (fun hc99 => ?_) (fun hc99 => ?_)
    ·
     refine send (fg [(0, _), (1, _), (2, _), (3, _), (10, _), (11, _), (12, _), (14, _), (99, _)] ⟨rfl, rfl, rfl, rfl, rfl, rfl, rfl, rfl, rfl, ⟨⟩⟩ fun _ => (cyes rfl (wp_skip (nThen (fg [(0, _), (1, _), (2, _), (3, _), (10, _), (11, _), (12, _), (14, _)] ⟨rfl, rfl, rfl, rfl, rfl, rfl, rfl, rfl, ⟨⟩⟩ fun _ => (wp_seq (wp_block (lreg (sM rfl (sM rfl (sM rfl (sN rfl (sv (xfld fl82_0 rfl) (sv (xidxA1 (i := j) ar80 sz5 rfl rfl (by omega) (by omega)) (sv (xld on5 rfl (nm_cell hN (i := j) (by omega) (by omega))) ?_)))))))))))))))
     refine svK (xslit (bvs [s[j]]) sl37 in5 rfl (by decide) rfl rfl rfl rfl (by decide) (by simp [bvs, bv, Value.cells]) (bvs_one _)) ?_
     rintro _ w22 ⟨b109, rfl, m23, h109, e109, s109, r109⟩
     have hN := hN.keep m23 (by omega) id
     have hf := hf.step0 m23
     have hC1 := hC1.keep m23 nF
     have hL9 := hL9.step0 m23
     have hv2 := hv2.keep m23 id
     have hL18 := hL18.step0 m23
     refine svK (xapp sl37 in5 rfl (by decide) rfl rfl hv2 (r109.src sl37) (by simp only [maxLen]; omega) (by omega)) ?_
     rintro _ w24 ⟨g110, r110, m25, a110, l110⟩
     have z26 := m25.size
     have hN := hN.keep m25 (by omega) (by show ¬ (bo = gj); omega)
     have hf := hf.step m25 (fun k hk hS => by have hS : k = gj := hS; show k = g ∨ k = gm; omega)
     have hC1 := hC1.keep m25 (fun b hb => by have hb := hm b hb; show ¬ (b = gj); omega)
     have hL9 := hL9.step m25 (fun k hk hS => by have hS : k = gj := hS; show k = g ∨ k = gm; omega)
     have hL18 := hL18.step m25 (fun k hk hS => by have hS : k = gj := hS; show k = g95; omega)
     obtain ⟨p110, q110, rfl, -⟩ := r110.form
     refine sA rfl (lend (nBlock (nThen (fg [(0, _), (1, _), (2, _), (3, _), (10, _), (11, _), (12, _), (14, _)] ⟨rfl, rfl, rfl, rfl, rfl, rfl, rfl, rfl, ⟨⟩⟩ fun _ => (lreg (sM rfl (sv (xadd rfl rfl (w64 (by omega) (by omega))) (sA rfl (lend (nThen ?_))))))))))
     refine ⟨(j + 1, _, g110), _, env_okl ⟨rfl, rfl, rfl, rfl, rfl, rfl, rfl, rfl, trivial⟩, ⟨hL18, (by omega), (by omega), (by rw [show j + 1 - bg = (j - bg) + 1 by omega, take_snoc (lab_get hlab hj1 (by omega) (by omega))]; exact br_cast r110 (by simp [bvs]) (by omega)), (by omega), (l110 (by omega))⟩, ?_⟩
     show i - (j + 1) < i - j; omega
    ·
     refine send (fg [(0, _), (1, _), (2, _), (3, _), (10, _), (11, _), (12, _), (14, _), (99, _)] ⟨rfl, rfl, rfl, rfl, rfl, rfl, rfl, rfl, rfl, ⟨⟩⟩ fun _ => (cno rfl (wp_exit (eThen (eThen (eHit (nThen (fg [(0, _), (1, _), (2, _), (3, _), (10, _), (11, _), (12, _)] ⟨rfl, rfl, rfl, rfl, rfl, rfl, rfl, ⟨⟩⟩ fun _ => (sreg (sM rfl (sv (xadd rfl rfl (w64 (by omega) (by omega))) (sA rfl (send (fg [(0, _), (1, _), (2, _), (3, _), (10, _), (11, _), (12, _), (13, _)] ⟨rfl, rfl, rfl, rfl, rfl, rfl, rfl, rfl, ⟨⟩⟩ fun _ => (wp_exit (eThen (eHit (nThen (fg [(0, _), (1, _), (2, _), (3, _), (10, _), (11, _), (12, _), (13, _)] ⟨rfl, rfl, rfl, rfl, rfl, rfl, rfl, rfl, ⟨⟩⟩ fun _ => (lreg (sM rfl (sv (xadd rfl rfl (w64 (by omega) (by omega))) (sA rfl (lend ?_))))))))))))))))))))))))
     refine nThen ?_
     have hll := lab_len hlab (by omega)
     have hdr := drop_one (s := s) (i := i) (by omega)
     rw [hdr] at hE hng
     rw [u8eq hc76] at hE hng
     have hnd2 := nameGo_dot hng
     have elb : lab.take (j - bg) = lab := List.take_of_length_le (by omega)
     rw [elb] at hv2
     refine ⟨(i + 1, i + 1, _, gj, q ++ (UInt8.ofNat lab.length :: lab), [], C1, na), _, env_okl ⟨rfl, rfl, rfl, rfl, rfl, rfl, rfl, rfl, trivial⟩, ⟨hL9, (by omega), (Nat.le_refl _), (br_cast hv2 (by simp) (by simp; omega)), (by omega), (by omega), (hC1), (by rw [← hE, pk_dot]; simp only [List.length_append, List.length_cons, Nat.add_assoc]), (by simp), (hnd2.2.2), (hna), (fun _ => .inr (by rw [Nat.add_sub_cancel, List.getElem?_eq_getElem (by omega), u8eq hc76])), (by simp), (by simp; omega)⟩, ?_⟩
     show s.length - (i + 1) < s.length - i; omega
   ·
    refine send (fg [(0, _), (1, _), (2, _), (3, _), (10, _), (11, _), (12, _), (13, _), (76, _)] ⟨rfl, rfl, rfl, rfl, rfl, rfl, rfl, rfl, rfl, ⟨⟩⟩ fun _ => (cno rfl (wp_skip (nThen (fg [(0, _), (1, _), (2, _), (3, _), (10, _), (11, _), (12, _), (13, _)] ⟨rfl, rfl, rfl, rfl, rfl, rfl, rfl, rfl, ⟨⟩⟩ fun _ => (sreg (sM rfl ?_)))))))
    refine svP (xeql rfl rfl) (fun hc114 => ?_) (fun hc114 => ?_)
    ·
     refine sM rfl (gno rfl rfl rfl (gno rfl rfl rfl (gno rfl rfl rfl (gno rfl rfl rfl (gno rfl rfl rfl (gno rfl rfl rfl (gno rfl rfl rfl (gno rfl rfl rfl (sv (xpickT rfl rfl) (sM rfl (gyes rfl rfl rfl (sM rfl (gyes rfl rfl rfl (sv (xneM mp146 rfl) ?_))))))))))))))
     rcases optCases cm with ⟨bm, rfl⟩ | rfl
     ·
      refine sv (xpickT rfl rfl) (send (fg [(0, _), (1, _), (2, _), (3, _), (10, _), (11, _), (12, _), (13, _), (128, _)] ⟨rfl, rfl, rfl, rfl, rfl, rfl, rfl, rfl, rfl, ⟨⟩⟩ fun _ => (cyes rfl (wp_seq ?_))))
      refine sdraw (Fr (fun _ => False) w10.drew) [(0, .rd), (1, .rd), (2, .rd), (3, .rd), (4, .rd), (5, .rd), (6, .rd), (7, .rd), (8, .rd), (9, .rd), (10, .rd), (11, .rd), (12, .rd), (13, .rd), (14, .rd), (15, .rd), (16, .rd)] mixed (by kernel_rfl) (fun _ _ _ _ _ h => h) ?_
      have z27 : w10.drew.heap.size = w10.heap.size := rfl
      have hN := hN.keep (fd w10) (by omega) id
      have hf := hf.drew
      have hv1 := hv1.keep (fd w10) id
      have hC1 := hC1.keep (fd w10) nF
      have hL9 := hL9.drew
      have hS28 : Fr (fun _ => False) w10.drew w10.drew := Fr.refl _ _
      refine ggM rfl rfl hS28 (ggM rfl rfl hS28 (ggN rfl rfl hS28 (hv rfl (fun _ _ => xfld fl82_0 rfl) hS28 (ggM rfl rfl hS28 (ggM rfl rfl hS28 (ggN rfl rfl hS28 (hv rfl (fun _ _ => xfld fl82_1 rfl) hS28 (hv rfl (fun w' hS => xld on5 rfl ((hN.keep hS (by omega) id).seg (i := 0) rfl rfl 255 _ (nm_last _))) hS28 (hv rfl (fun _ _ => xcutALH (lo := i) (hi := s.length) ar80 sz5 rfl rfl rfl (by omega) (by omega) (by omega) (by omega) (by omega)) hS28 (hv rfl (fun w' hS => xb2sR (bs := s.drop i) sl37 ki5 st9 rfl (by rw [List.length_drop]) (by rw [Nat.mul_one]; exact nm_part (hN.keep hS (by omega) id) (by omega) i)) hS28 ?_))))))))))
      obtain ⟨M, rfl, -⟩ := Cmp.some hC1
      obtain rfl : gm = bm := (hm bm rfl).1.symm
      have hmg := hm gm rfl
      refine hv rfl (fun w' hS => xlook mp146 st9 in22 (show Mp w' gm M from (hC1.keep hS nF)) rfl rfl) hS28 (ggM rfl rfl hS28 (hv rfl (fun _ _ => xextr rfl rfl) hS28 (hv rfl (fun _ _ => xextr rfl rfl) hS28 ?_)))
      cases hlk : look M (mkB (s.drop i)) with
      | some p =>
       refine ggA rfl rfl hS28 (ggA rfl rfl hS28 (hend (fg [(0, _), (1, _), (2, _), (3, _), (10, _), (11, _), (12, _), (13, _), (15, _), (16, _)] ⟨rfl, rfl, rfl, rfl, rfl, rfl, rfl, rfl, rfl, rfl, ⟨⟩⟩ fun _ => (sreg (sM rfl (send (fg [(0, _), (1, _), (2, _), (3, _), (10, _), (11, _), (12, _), (13, _), (15, _), (144, _)] ⟨rfl, rfl, rfl, rfl, rfl, rfl, rfl, rfl, rfl, rfl, ⟨⟩⟩ fun _ => (cyes rfl (sreg (sM rfl (sM rfl (sv (xshr16 (a := p) (b := 8) (by decide) rfl rfl) (sv (xor16 (b := 192) rfl rfl) (sv (xconv hs22 ki5 rfl (wu8m _)) (sM rfl (sv (xconv hs22 ki5 rfl (wu8m _)) ?_))))))))))))))))
       refine svK (xslit (bvs (ptrL p)) sl37 in5 rfl (by decide) rfl rfl rfl rfl (by decide) (ptr_cells p) (bvs_one _)) ?_
       rintro _ w30 ⟨b152, rfl, m31, h152, e152, s152, r152⟩
       have hN := hN.keep m31 (by omega) id
       have hf := hf.step0 m31
       have hv1 := hv1.keep m31 id
       have hC1 := hC1.keep m31 nF
       have hL9 := hL9.step0 m31
       refine svK (xapp sl37 in5 rfl (by decide) rfl rfl hv1 (r152.src sl37) (by simp only [maxLen]; omega) (by omega)) ?_
       rintro _ w32 ⟨g153, r153, m33, a153, l153⟩
       have z34 := m33.size
       have hN := hN.keep m33 (by omega) (by show ¬ (bo = gv); omega)
       have hf := hf.step m33 (fun k hk hS => by have hS : k = gv := hS; show k = g ∨ k = gm; omega)
       have hC1 := hC1.keep m33 (fun b hb => by have hb := hm b hb; show ¬ (b = gv); omega)
       have hL9 := hL9.step m33 (fun k hk hS => by have hS : k = gv := hS; show k = g ∨ k = gm; omega)
       obtain ⟨p153, q153, rfl, -⟩ := r153.form
       refine sA rfl (sA rfl (send (fg [(8, _), (9, _)] ⟨rfl, rfl, ⟨⟩⟩ fun _ => (wp_ret (rThen (rBlock (rThen (rThen (rBlock (rThen ?_))))))))))
       refine rp2 rfl rfl rfl ?_
       obtain rfl : lab = [] := lab_first hlab hbi hnd (by omega) (by first | exact .inl hc114 | exact .inr ⟨by omega, hc123⟩)
       rw [drop_one (by omega)] at hE hlk
       rw [pk_hit (u8ne hc76) hlk] at hE
       obtain ⟨e1, e2⟩ := pkE_eq hE
       rw [packName, if_neg hgo.1]
       rw [← e1, ← e2]
       exact app_ofC (out := q ++ ptrL p) r153 (by simp [ptrL]; omega) (by simp [bvs_app]) hf (by omega) (l153 (by omega)) hC1
      | none =>
       refine ggA rfl rfl hS28 (ggA rfl rfl hS28 (hend (fg [(0, _), (1, _), (2, _), (3, _), (10, _), (11, _), (12, _), (13, _), (15, _), (16, _)] ⟨rfl, rfl, rfl, rfl, rfl, rfl, rfl, rfl, rfl, rfl, ⟨⟩⟩ fun _ => (sreg (sM rfl (send (fg [(0, _), (1, _), (2, _), (3, _), (10, _), (11, _), (12, _), (13, _), (15, _), (144, _)] ⟨rfl, rfl, rfl, rfl, rfl, rfl, rfl, rfl, rfl, rfl, ⟨⟩⟩ fun _ => (cno rfl (wp_skip (nThen (fg [(0, _), (1, _), (2, _), (3, _), (10, _), (11, _), (12, _), (13, _)] ⟨rfl, rfl, rfl, rfl, rfl, rfl, rfl, rfl, ⟨⟩⟩ fun _ => (sreg (sM rfl (sv (xlen sl37 rfl) (sM rfl (sv (xsub rfl rfl (w64 (by omega) (by omega))) (sA rfl (send (fg [(0, _), (1, _), (2, _), (3, _), (10, _), (11, _), (12, _), (13, _), (17, _)] ⟨rfl, rfl, rfl, rfl, rfl, rfl, rfl, rfl, rfl, ⟨⟩⟩ fun _ => (sreg (sM rfl ?_)))))))))))))))))))))
       refine svP (xleq rfl rfl) (fun hc159 => ?_) (fun hc159 => ?_)
       ·
        refine send (fg [(0, _), (1, _), (2, _), (3, _), (10, _), (11, _), (12, _), (13, _), (17, _), (159, _)] ⟨rfl, rfl, rfl, rfl, rfl, rfl, rfl, rfl, rfl, rfl, ⟨⟩⟩ fun _ => (cyes rfl (wp_seq (sreg (sM rfl (sv (xeqs rfl rfl) (send (fg [(0, _), (1, _), (2, _), (3, _), (10, _), (11, _), (12, _), (13, _), (17, _), (161, _)] ⟨rfl, rfl, rfl, rfl, rfl, rfl, rfl, rfl, rfl, rfl, ⟨⟩⟩ fun _ => ?_))))))))
        refine jcut [(0, _), (1, _), (2, _), (3, _), (10, _), (12, _), (13, _), (17, _)] ⟨rfl, rfl, rfl, rfl, rfl, rfl, rfl, rfl, trivial⟩ (fun (x : ByteArray) => match x with | nb => [(11, .string nb)]) (fun (x : ByteArray) wx => match x with | nb => Fr (fun _ => False) w10.drew wx ∧ (nb = mkB s)) ?_ ?_
        ·
         have hJ35 : Fr (fun _ => False) w10.drew w10.drew := Fr.refl _ _
         refine cB rfl (fun hb => ?_) (fun hb => ?_)
         ·
          refine ldraw (Fr (fun _ => False) w10.drew.drew) [(0, .rd), (1, .rd), (2, .rd), (3, .rd), (4, .rd), (5, .rd), (6, .rd), (7, .rd), (8, .rd), (9, .rd)] mixed (by kernel_rfl) (fun _ _ _ _ _ h => by cases h.1) ?_
          have z36 : w10.drew.drew.heap.size = w10.drew.heap.size := rfl
          have hN := hN.keep (fd w10.drew) (by omega) id
          have hf := hf.drew
          have hv1 := hv1.keep (fd w10.drew) id
          have hC1 := hC1.keep (fd w10.drew) nF
          have hL9 := hL9.drew
          have hJ35 := hJ35.drew
          have hS37 : Fr (fun _ => False) w10.drew.drew w10.drew.drew := Fr.refl _ _
          refine ggM rfl rfl hS37 (ggN rfl rfl hS37 (hv rfl (fun _ _ => xfld fl82_0 rfl) hS37 (ggM rfl rfl hS37 (ggN rfl rfl hS37 (hv rfl (fun _ _ => xfld fl82_1 rfl) hS37 (hv rfl (fun w' hS => xld on5 rfl ((hN.keep hS (by omega) id).seg (i := 0) rfl rfl 255 _ (nm_last _))) hS37 (hv rfl (fun _ _ => xcutAH (hi := s.length) ar80 sz5 rfl rfl (by omega) (by omega)) hS37 (hv rfl (fun w' hS => xb2sR (bs := s) sl37 ki5 st9 rfl rfl (nm_part (hN.keep hS (by omega) id) (by omega) 0)) hS37 (ggA rfl rfl hS37 (lhend ?_))))))))))
          exact ⟨rfl, mkB s, _, env_okl ⟨rfl, rfl, rfl, rfl, rfl, rfl, rfl, rfl, rfl, trivial⟩, ⟨hJ35, (rfl)⟩⟩
         ·
          refine wp_skip ?_
          exact ⟨rfl, na, _, env_okl ⟨rfl, rfl, rfl, rfl, rfl, rfl, rfl, rfl, rfl, trivial⟩, ⟨hJ35, (hna.resolve_left (by simpa using hb))⟩⟩
        ·
         rintro nb _ w38 ⟨hJ35, hnb⟩
         have z39 := hJ35.size
         have hN := hN.keep hJ35 (by omega) id
         have hf := hf.step0 hJ35
         have hv1 := hv1.keep hJ35 id
         have hC1 := hC1.keep hJ35 nF
         have hL9 := hL9.step0 hJ35
         refine nThen (fg [(0, _), (1, _), (2, _), (3, _), (10, _), (11, _), (12, _), (13, _), (17, _)] ⟨rfl, rfl, rfl, rfl, rfl, rfl, rfl, rfl, rfl, ⟨⟩⟩ fun _ => (lreg (sM rfl (sM rfl (sM rfl (sv (xcutSL st9 rfl rfl rfl (by rw [hnb, mkB_size]; omega)) (sM rfl (sv (xconv hs3 ki22 rfl (wu16n (UInt16.ofNat (pos + q.length)).toNat (by rw [UInt16.toNat_ofNat']; omega))) ?_))))))))
         refine suK (xput (v := UInt16.ofNat (pos + q.length)) mp146 st9 (show Mp w38 gm M from hC1) (by rw [hnb, extr_drop]; exact hlk) rfl rfl rfl) ?_
         rintro w40 ⟨m41, hP, hsz⟩
         have hN := hN.keep m41 (by omega) (by show ¬ (bo = gm); omega)
         have hf := hf.step m41 (fun k hk hS => by have hS : k = gm := hS; show k = g ∨ k = gm; omega)
         have hv1 := hv1.keep m41 (by show ¬ (gv = gm); omega)
         have hL9 := hL9.step m41 (fun k hk hS => by have hS : k = gm := hS; show k = g ∨ k = gm; omega)
         rw [hnb, extr_drop] at hP
         have hC1 : Cmp w40 (some gm) (some (M ++ [(mkB (s.drop i), UInt16.ofNat (pos + q.length))])) := hP
         refine lend (nBlock (nThen (fg [(0, _), (1, _), (2, _), (3, _), (10, _), (11, _), (12, _), (13, _)] ⟨rfl, rfl, rfl, rfl, rfl, rfl, rfl, rfl, ⟨⟩⟩ fun _ => (lreg (sM rfl (sv (xadd rfl rfl (w64 (by omega) (by omega))) (sA rfl (lend (nThen ?_)))))))))
         have hll := lab_len hlab (by omega)
         have hdr := drop_one (s := s) (i := i) (by omega)
         rw [hdr] at hE hng
         have hng2 := nameGo_let hng (u8ne hc76)
         obtain rfl : lab = [] := lab_first hlab hbi hnd (by omega) (by first | exact .inl hc114 | exact .inr ⟨by omega, hc123⟩)
         rw [hdr] at hlk
         rw [hdr] at hC1
         refine ⟨(i + 1, bg, _, gv, q, [] ++ [s[i]], some (M ++ [(mkB (s.drop i), UInt16.ofNat (pos + q.length))]), nb), _, env_okl ⟨rfl, rfl, rfl, rfl, rfl, rfl, rfl, rfl, trivial⟩, ⟨hL9, (by omega), (by omega), (hv1), (by omega), (by omega), (by rw [hdr]; exact hC1), (by rw [← hE, pk_miss (u8ne hc76) hlk, if_pos (by omega), List.nil_append, hdr]), (lab_next hlab hbi (by omega)), (by simpa using hng2), (.inr hnb), (fun h => by omega), (fun x hx => (List.mem_append.1 hx).elim (hnd x) (fun h => by simp at h; subst h; exact u8ne hc76)), (by simp at hol ⊢; omega)⟩, ?_⟩
         show s.length - (i + 1) < s.length - i; omega
       ·
        refine send (fg [(0, _), (1, _), (2, _), (3, _), (10, _), (11, _), (12, _), (13, _), (17, _), (159, _)] ⟨rfl, rfl, rfl, rfl, rfl, rfl, rfl, rfl, rfl, rfl, ⟨⟩⟩ fun _ => (cno rfl (wp_skip (nBlock (nThen (fg [(0, _), (1, _), (2, _), (3, _), (10, _), (11, _), (12, _), (13, _)] ⟨rfl, rfl, rfl, rfl, rfl, rfl, rfl, rfl, ⟨⟩⟩ fun _ => (lreg (sM rfl (sv (xadd rfl rfl (w64 (by omega) (by omega))) (sA rfl (lend (nThen ?_))))))))))))
        have hll := lab_len hlab (by omega)
        have hdr := drop_one (s := s) (i := i) (by omega)
        rw [hdr] at hE hng
        have hng2 := nameGo_let hng (u8ne hc76)
        obtain rfl : lab = [] := lab_first hlab hbi hnd (by omega) (by first | exact .inl hc114 | exact .inr ⟨by omega, hc123⟩)
        rw [hdr] at hlk
        refine ⟨(i + 1, bg, _, gv, q, [] ++ [s[i]], some M, na), _, env_okl ⟨rfl, rfl, rfl, rfl, rfl, rfl, rfl, rfl, trivial⟩, ⟨hL9, (by omega), (by omega), (hv1), (by omega), (by omega), (hC1), (by rw [← hE, pk_miss (u8ne hc76) hlk, if_neg (by omega), List.nil_append]), (lab_next hlab hbi (by omega)), (by simpa using hng2), (hna), (fun h => by omega), (fun x hx => (List.mem_append.1 hx).elim (hnd x) (fun h => by simp at h; subst h; exact u8ne hc76)), (by simp at hol ⊢; omega)⟩, ?_⟩
        show s.length - (i + 1) < s.length - i; omega
     ·
      refine sv (xpickT rfl rfl) (send (fg [(0, _), (1, _), (2, _), (3, _), (10, _), (11, _), (12, _), (13, _), (128, _)] ⟨rfl, rfl, rfl, rfl, rfl, rfl, rfl, rfl, rfl, ⟨⟩⟩ fun _ => (cno rfl (wp_skip (nBlock (nThen (fg [(0, _), (1, _), (2, _), (3, _), (10, _), (11, _), (12, _), (13, _)] ⟨rfl, rfl, rfl, rfl, rfl, rfl, rfl, rfl, ⟨⟩⟩ fun _ => (lreg (sM rfl (sv (xadd rfl rfl (w64 (by omega) (by omega))) (sA rfl (lend (nThen ?_)))))))))))))
      have hll := lab_len hlab (by omega)
      have hdr := drop_one (s := s) (i := i) (by omega)
      rw [hdr] at hE hng
      have hng2 := nameGo_let hng (u8ne hc76)
      have hside : lab ≠ [] ∨ C1 = none := by first | exact .inr (Cmp.none hC1) | exact .inl (lab_mid hfst hll hbi hc114 (by omega) hc123)
      refine ⟨(i + 1, bg, _, gv, q, lab ++ [s[i]], C1, na), _, env_okl ⟨rfl, rfl, rfl, rfl, rfl, rfl, rfl, rfl, trivial⟩, ⟨hL9, (by omega), (by omega), (hv1), (by omega), (by omega), (hC1), (by rw [← hE, pk_next (u8ne hc76) hside]), (lab_next hlab hbi (by omega)), (by simpa using hng2), (hna), (fun h => by omega), (fun x hx => (List.mem_append.1 hx).elim (hnd x) (fun h => by simp at h; subst h; exact u8ne hc76)), (by simp at hol ⊢; omega)⟩, ?_⟩
      show s.length - (i + 1) < s.length - i; omega
    ·
     refine sM rfl (gyes rfl rfl rfl (sM rfl (gyes rfl rfl rfl (sM rfl (gyes rfl rfl rfl (sv (xsub rfl rfl (w64 (by omega) (by omega))) (gyes rfl rfl rfl (sN rfl (gyes rfl rfl rfl (sv (xfld fl82_0 rfl) (gyes rfl rfl rfl (sv (xidxA1 (i := i - 1) ar80 sz5 rfl rfl (by omega) (by omega)) (gyes rfl rfl rfl (sv (xld on5 rfl (nm_cell hN (i := i - 1) (by omega) (by omega))) (gyes rfl rfl rfl ?_)))))))))))))))
     refine svP (xeql rfl rfl) (fun hc123 => ?_) (fun hc123 => ?_)
     ·
      refine sv (xpickF rfl rfl) (sM rfl (gyes rfl rfl rfl (sM rfl (gyes rfl rfl rfl (sv (xneM mp146 rfl) ?_)))))
      rcases optCases cm with ⟨bm, rfl⟩ | rfl
      ·
       refine sv (xpickT rfl rfl) (send (fg [(0, _), (1, _), (2, _), (3, _), (10, _), (11, _), (12, _), (13, _), (128, _)] ⟨rfl, rfl, rfl, rfl, rfl, rfl, rfl, rfl, rfl, ⟨⟩⟩ fun _ => (cyes rfl (wp_seq ?_))))
       refine sdraw (Fr (fun _ => False) w10.drew) [(0, .rd), (1, .rd), (2, .rd), (3, .rd), (4, .rd), (5, .rd), (6, .rd), (7, .rd), (8, .rd), (9, .rd), (10, .rd), (11, .rd), (12, .rd), (13, .rd), (14, .rd), (15, .rd), (16, .rd)] mixed (by kernel_rfl) (fun _ _ _ _ _ h => h) ?_
       have z42 : w10.drew.heap.size = w10.heap.size := rfl
       have hN := hN.keep (fd w10) (by omega) id
       have hf := hf.drew
       have hv1 := hv1.keep (fd w10) id
       have hC1 := hC1.keep (fd w10) nF
       have hL9 := hL9.drew
       have hS43 : Fr (fun _ => False) w10.drew w10.drew := Fr.refl _ _
       refine ggM rfl rfl hS43 (ggM rfl rfl hS43 (ggN rfl rfl hS43 (hv rfl (fun _ _ => xfld fl82_0 rfl) hS43 (ggM rfl rfl hS43 (ggM rfl rfl hS43 (ggN rfl rfl hS43 (hv rfl (fun _ _ => xfld fl82_1 rfl) hS43 (hv rfl (fun w' hS => xld on5 rfl ((hN.keep hS (by omega) id).seg (i := 0) rfl rfl 255 _ (nm_last _))) hS43 (hv rfl (fun _ _ => xcutALH (lo := i) (hi := s.length) ar80 sz5 rfl rfl rfl (by omega) (by omega) (by omega) (by omega) (by omega)) hS43 (hv rfl (fun w' hS => xb2sR (bs := s.drop i) sl37 ki5 st9 rfl (by rw [List.length_drop]) (by rw [Nat.mul_one]; exact nm_part (hN.keep hS (by omega) id) (by omega) i)) hS43 ?_))))))))))
       obtain ⟨M, rfl, -⟩ := Cmp.some hC1
       obtain rfl : gm = bm := (hm bm rfl).1.symm
       have hmg := hm gm rfl
       refine hv rfl (fun w' hS => xlook mp146 st9 in22 (show Mp w' gm M from (hC1.keep hS nF)) rfl rfl) hS43 (ggM rfl rfl hS43 (hv rfl (fun _ _ => xextr rfl rfl) hS43 (hv rfl (fun _ _ => xextr rfl rfl) hS43 ?_)))
       cases hlk : look M (mkB (s.drop i)) with
       | some p =>
        refine ggA rfl rfl hS43 (ggA rfl rfl hS43 (hend (fg [(0, _), (1, _), (2, _), (3, _), (10, _), (11, _), (12, _), (13, _), (15, _), (16, _)] ⟨rfl, rfl, rfl, rfl, rfl, rfl, rfl, rfl, rfl, rfl, ⟨⟩⟩ fun _ => (sreg (sM rfl (send (fg [(0, _), (1, _), (2, _), (3, _), (10, _), (11, _), (12, _), (13, _), (15, _), (144, _)] ⟨rfl, rfl, rfl, rfl, rfl, rfl, rfl, rfl, rfl, rfl, ⟨⟩⟩ fun _ => (cyes rfl (sreg (sM rfl (sM rfl (sv (xshr16 (a := p) (b := 8) (by decide) rfl rfl) (sv (xor16 (b := 192) rfl rfl) (sv (xconv hs22 ki5 rfl (wu8m _)) (sM rfl (sv (xconv hs22 ki5 rfl (wu8m _)) ?_))))))))))))))))
        refine svK (xslit (bvs (ptrL p)) sl37 in5 rfl (by decide) rfl rfl rfl rfl (by decide) (ptr_cells p) (bvs_one _)) ?_
        rintro _ w45 ⟨b152, rfl, m46, h152, e152, s152, r152⟩
        have hN := hN.keep m46 (by omega) id
        have hf := hf.step0 m46
        have hv1 := hv1.keep m46 id
        have hC1 := hC1.keep m46 nF
        have hL9 := hL9.step0 m46
        refine svK (xapp sl37 in5 rfl (by decide) rfl rfl hv1 (r152.src sl37) (by simp only [maxLen]; omega) (by omega)) ?_
        rintro _ w47 ⟨g153, r153, m48, a153, l153⟩
        have z49 := m48.size
        have hN := hN.keep m48 (by omega) (by show ¬ (bo = gv); omega)
        have hf := hf.step m48 (fun k hk hS => by have hS : k = gv := hS; show k = g ∨ k = gm; omega)
        have hC1 := hC1.keep m48 (fun b hb => by have hb := hm b hb; show ¬ (b = gv); omega)
        have hL9 := hL9.step m48 (fun k hk hS => by have hS : k = gv := hS; show k = g ∨ k = gm; omega)
        obtain ⟨p153, q153, rfl, -⟩ := r153.form
        refine sA rfl (sA rfl (send (fg [(8, _), (9, _)] ⟨rfl, rfl, ⟨⟩⟩ fun _ => (wp_ret (rThen (rBlock (rThen (rThen (rBlock (rThen ?_))))))))))
        refine rp2 rfl rfl rfl ?_
        obtain rfl : lab = [] := lab_first hlab hbi hnd (by omega) (by first | exact .inl hc114 | exact .inr ⟨by omega, hc123⟩)
        rw [drop_one (by omega)] at hE hlk
        rw [pk_hit (u8ne hc76) hlk] at hE
        obtain ⟨e1, e2⟩ := pkE_eq hE
        rw [packName, if_neg hgo.1]
        rw [← e1, ← e2]
        exact app_ofC (out := q ++ ptrL p) r153 (by simp [ptrL]; omega) (by simp [bvs_app]) hf (by omega) (l153 (by omega)) hC1
       | none =>
        refine ggA rfl rfl hS43 (ggA rfl rfl hS43 (hend (fg [(0, _), (1, _), (2, _), (3, _), (10, _), (11, _), (12, _), (13, _), (15, _), (16, _)] ⟨rfl, rfl, rfl, rfl, rfl, rfl, rfl, rfl, rfl, rfl, ⟨⟩⟩ fun _ => (sreg (sM rfl (send (fg [(0, _), (1, _), (2, _), (3, _), (10, _), (11, _), (12, _), (13, _), (15, _), (144, _)] ⟨rfl, rfl, rfl, rfl, rfl, rfl, rfl, rfl, rfl, rfl, ⟨⟩⟩ fun _ => (cno rfl (wp_skip (nThen (fg [(0, _), (1, _), (2, _), (3, _), (10, _), (11, _), (12, _), (13, _)] ⟨rfl, rfl, rfl, rfl, rfl, rfl, rfl, rfl, ⟨⟩⟩ fun _ => (sreg (sM rfl (sv (xlen sl37 rfl) (sM rfl (sv (xsub rfl rfl (w64 (by omega) (by omega))) (sA rfl (send (fg [(0, _), (1, _), (2, _), (3, _), (10, _), (11, _), (12, _), (13, _), (17, _)] ⟨rfl, rfl, rfl, rfl, rfl, rfl, rfl, rfl, rfl, ⟨⟩⟩ fun _ => (sreg (sM rfl ?_)))))))))))))))))))))
        refine svP (xleq rfl rfl) (fun hc159 => ?_) (fun hc159 => ?_)
        ·
         refine send (fg [(0, _), (1, _), (2, _), (3, _), (10, _), (11, _), (12, _), (13, _), (17, _), (159, _)] ⟨rfl, rfl, rfl, rfl, rfl, rfl, rfl, rfl, rfl, rfl, ⟨⟩⟩ fun _ => (cyes rfl (wp_seq (sreg (sM rfl (sv (xeqs rfl rfl) (send (fg [(0, _), (1, _), (2, _), (3, _), (10, _), (11, _), (12, _), (13, _), (17, _), (161, _)] ⟨rfl, rfl, rfl, rfl, rfl, rfl, rfl, rfl, rfl, rfl, ⟨⟩⟩ fun _ => ?_))))))))
         refine jcut [(0, _), (1, _), (2, _), (3, _), (10, _), (12, _), (13, _), (17, _)] ⟨rfl, rfl, rfl, rfl, rfl, rfl, rfl, rfl, trivial⟩ (fun (x : ByteArray) => match x with | nb => [(11, .string nb)]) (fun (x : ByteArray) wx => match x with | nb => Fr (fun _ => False) w10.drew wx ∧ (nb = mkB s)) ?_ ?_
         ·
          have hJ50 : Fr (fun _ => False) w10.drew w10.drew := Fr.refl _ _
          refine cB rfl (fun hb => ?_) (fun hb => ?_)
          ·
           refine ldraw (Fr (fun _ => False) w10.drew.drew) [(0, .rd), (1, .rd), (2, .rd), (3, .rd), (4, .rd), (5, .rd), (6, .rd), (7, .rd), (8, .rd), (9, .rd)] mixed (by kernel_rfl) (fun _ _ _ _ _ h => by cases h.1) ?_
           have z51 : w10.drew.drew.heap.size = w10.drew.heap.size := rfl
           have hN := hN.keep (fd w10.drew) (by omega) id
           have hf := hf.drew
           have hv1 := hv1.keep (fd w10.drew) id
           have hC1 := hC1.keep (fd w10.drew) nF
           have hL9 := hL9.drew
           have hJ50 := hJ50.drew
           have hS52 : Fr (fun _ => False) w10.drew.drew w10.drew.drew := Fr.refl _ _
           refine ggM rfl rfl hS52 (ggN rfl rfl hS52 (hv rfl (fun _ _ => xfld fl82_0 rfl) hS52 (ggM rfl rfl hS52 (ggN rfl rfl hS52 (hv rfl (fun _ _ => xfld fl82_1 rfl) hS52 (hv rfl (fun w' hS => xld on5 rfl ((hN.keep hS (by omega) id).seg (i := 0) rfl rfl 255 _ (nm_last _))) hS52 (hv rfl (fun _ _ => xcutAH (hi := s.length) ar80 sz5 rfl rfl (by omega) (by omega)) hS52 (hv rfl (fun w' hS => xb2sR (bs := s) sl37 ki5 st9 rfl rfl (nm_part (hN.keep hS (by omega) id) (by omega) 0)) hS52 (ggA rfl rfl hS52 (lhend ?_))))))))))
           exact ⟨rfl, mkB s, _, env_okl ⟨rfl, rfl, rfl, rfl, rfl, rfl, rfl, rfl, rfl, trivial⟩, ⟨hJ50, (rfl)⟩⟩
          ·
           refine wp_skip ?_
           exact ⟨rfl, na, _, env_okl ⟨rfl, rfl, rfl, rfl, rfl, rfl, rfl, rfl, rfl, trivial⟩, ⟨hJ50, (hna.resolve_left (by simpa using hb))⟩⟩
         ·
          rintro nb _ w53 ⟨hJ50, hnb⟩
          have z54 := hJ50.size
          have hf := hf.step0 hJ50
          have hv1 := hv1.keep hJ50 id
          have hC1 := hC1.keep hJ50 nF
          have hL9 := hL9.step0 hJ50
          refine nThen (fg [(0, _), (1, _), (2, _), (3, _), (10, _), (11, _), (12, _), (13, _), (17, _)] ⟨rfl, rfl, rfl, rfl, rfl, rfl, rfl, rfl, rfl, ⟨⟩⟩ fun _ => (lreg (sM rfl (sM rfl (sM rfl (sv (xcutSL st9 rfl rfl rfl (by rw [hnb, mkB_size]; omega)) (sM rfl (sv (xconv hs3 ki22 rfl (wu16n (UInt16.ofNat (pos + q.length)).toNat (by rw [UInt16.toNat_ofNat']; omega))) ?_))))))))
          refine suK (xput (v := UInt16.ofNat (pos + q.length)) mp146 st9 (show Mp w53 gm M from hC1) (by rw [hnb, extr_drop]; exact hlk) rfl rfl rfl) ?_
          rintro w55 ⟨m56, hP, hsz⟩
          have hf := hf.step m56 (fun k hk hS => by have hS : k = gm := hS; show k = g ∨ k = gm; omega)
          have hv1 := hv1.keep m56 (by show ¬ (gv = gm); omega)
          have hL9 := hL9.step m56 (fun k hk hS => by have hS : k = gm := hS; show k = g ∨ k = gm; omega)
          rw [hnb, extr_drop] at hP
          have hC1 : Cmp w55 (some gm) (some (M ++ [(mkB (s.drop i), UInt16.ofNat (pos + q.length))])) := hP
          refine lend (nBlock (nThen (fg [(0, _), (1, _), (2, _), (3, _), (10, _), (11, _), (12, _), (13, _)] ⟨rfl, rfl, rfl, rfl, rfl, rfl, rfl, rfl, ⟨⟩⟩ fun _ => (lreg (sM rfl (sv (xadd rfl rfl (w64 (by omega) (by omega))) (sA rfl (lend (nThen ?_)))))))))
          have hll := lab_len hlab (by omega)
          have hdr := drop_one (s := s) (i := i) (by omega)
          rw [hdr] at hE hng
          have hng2 := nameGo_let hng (u8ne hc76)
          obtain rfl : lab = [] := lab_first hlab hbi hnd (by omega) (by first | exact .inl hc114 | exact .inr ⟨by omega, hc123⟩)
          rw [hdr] at hlk
          rw [hdr] at hC1
          refine ⟨(i + 1, bg, _, gv, q, [] ++ [s[i]], some (M ++ [(mkB (s.drop i), UInt16.ofNat (pos + q.length))]), nb), _, env_okl ⟨rfl, rfl, rfl, rfl, rfl, rfl, rfl, rfl, trivial⟩, ⟨hL9, (by omega), (by omega), (hv1), (by omega), (by omega), (by rw [hdr]; exact hC1), (by rw [← hE, pk_miss (u8ne hc76) hlk, if_pos (by omega), List.nil_append, hdr]), (lab_next hlab hbi (by omega)), (by simpa using hng2), (.inr hnb), (fun h => by omega), (fun x hx => (List.mem_append.1 hx).elim (hnd x) (fun h => by simp at h; subst h; exact u8ne hc76)), (by simp at hol ⊢; omega)⟩, ?_⟩
          show s.length - (i + 1) < s.length - i; omega
        ·
         refine send (fg [(0, _), (1, _), (2, _), (3, _), (10, _), (11, _), (12, _), (13, _), (17, _), (159, _)] ⟨rfl, rfl, rfl, rfl, rfl, rfl, rfl, rfl, rfl, rfl, ⟨⟩⟩ fun _ => (cno rfl (wp_skip (nBlock (nThen (fg [(0, _), (1, _), (2, _), (3, _), (10, _), (11, _), (12, _), (13, _)] ⟨rfl, rfl, rfl, rfl, rfl, rfl, rfl, rfl, ⟨⟩⟩ fun _ => (lreg (sM rfl (sv (xadd rfl rfl (w64 (by omega) (by omega))) (sA rfl (lend (nThen ?_))))))))))))
         have hll := lab_len hlab (by omega)
         have hdr := drop_one (s := s) (i := i) (by omega)
         rw [hdr] at hE hng
         have hng2 := nameGo_let hng (u8ne hc76)
         obtain rfl : lab = [] := lab_first hlab hbi hnd (by omega) (by first | exact .inl hc114 | exact .inr ⟨by omega, hc123⟩)
         rw [hdr] at hlk
         refine ⟨(i + 1, bg, _, gv, q, [] ++ [s[i]], some M, na), _, env_okl ⟨rfl, rfl, rfl, rfl, rfl, rfl, rfl, rfl, trivial⟩, ⟨hL9, (by omega), (by omega), (hv1), (by omega), (by omega), (hC1), (by rw [← hE, pk_miss (u8ne hc76) hlk, if_neg (by omega), List.nil_append]), (lab_next hlab hbi (by omega)), (by simpa using hng2), (hna), (fun h => by omega), (fun x hx => (List.mem_append.1 hx).elim (hnd x) (fun h => by simp at h; subst h; exact u8ne hc76)), (by simp at hol ⊢; omega)⟩, ?_⟩
         show s.length - (i + 1) < s.length - i; omega
      ·
       refine sv (xpickT rfl rfl) (send (fg [(0, _), (1, _), (2, _), (3, _), (10, _), (11, _), (12, _), (13, _), (128, _)] ⟨rfl, rfl, rfl, rfl, rfl, rfl, rfl, rfl, rfl, ⟨⟩⟩ fun _ => (cno rfl (wp_skip (nBlock (nThen (fg [(0, _), (1, _), (2, _), (3, _), (10, _), (11, _), (12, _), (13, _)] ⟨rfl, rfl, rfl, rfl, rfl, rfl, rfl, rfl, ⟨⟩⟩ fun _ => (lreg (sM rfl (sv (xadd rfl rfl (w64 (by omega) (by omega))) (sA rfl (lend (nThen ?_)))))))))))))
       have hll := lab_len hlab (by omega)
       have hdr := drop_one (s := s) (i := i) (by omega)
       rw [hdr] at hE hng
       have hng2 := nameGo_let hng (u8ne hc76)
       have hside : lab ≠ [] ∨ C1 = none := by first | exact .inr (Cmp.none hC1) | exact .inl (lab_mid hfst hll hbi hc114 (by omega) hc123)
       refine ⟨(i + 1, bg, _, gv, q, lab ++ [s[i]], C1, na), _, env_okl ⟨rfl, rfl, rfl, rfl, rfl, rfl, rfl, rfl, trivial⟩, ⟨hL9, (by omega), (by omega), (hv1), (by omega), (by omega), (hC1), (by rw [← hE, pk_next (u8ne hc76) hside]), (lab_next hlab hbi (by omega)), (by simpa using hng2), (hna), (fun h => by omega), (fun x hx => (List.mem_append.1 hx).elim (hnd x) (fun h => by simp at h; subst h; exact u8ne hc76)), (by simp at hol ⊢; omega)⟩, ?_⟩
       show s.length - (i + 1) < s.length - i; omega
     ·
      refine sv (xpickF rfl rfl) (sM rfl (gno rfl rfl rfl (gno rfl rfl rfl (sv (xpickF rfl rfl) (send (fg [(0, _), (1, _), (2, _), (3, _), (10, _), (11, _), (12, _), (13, _), (128, _)] ⟨rfl, rfl, rfl, rfl, rfl, rfl, rfl, rfl, rfl, ⟨⟩⟩ fun _ => (cno rfl (wp_skip (nBlock (nThen (fg [(0, _), (1, _), (2, _), (3, _), (10, _), (11, _), (12, _), (13, _)] ⟨rfl, rfl, rfl, rfl, rfl, rfl, rfl, rfl, ⟨⟩⟩ fun _ => (lreg (sM rfl (sv (xadd rfl rfl (w64 (by omega) (by omega))) (sA rfl (lend (nThen ?_)))))))))))))))))
      have hll := lab_len hlab (by omega)
      have hdr := drop_one (s := s) (i := i) (by omega)
      rw [hdr] at hE hng
      have hng2 := nameGo_let hng (u8ne hc76)
      have hside : lab ≠ [] ∨ C1 = none := by first | exact .inr (Cmp.none hC1) | exact .inl (lab_mid hfst hll hbi hc114 (by omega) hc123)
      refine ⟨(i + 1, bg, _, gv, q, lab ++ [s[i]], C1, na), _, env_okl ⟨rfl, rfl, rfl, rfl, rfl, rfl, rfl, rfl, trivial⟩, ⟨hL9, (by omega), (by omega), (hv1), (by omega), (by omega), (hC1), (by rw [← hE, pk_next (u8ne hc76) hside]), (lab_next hlab hbi (by omega)), (by simpa using hng2), (hna), (fun h => by omega), (fun x hx => (List.mem_append.1 hx).elim (hnd x) (fun h => by simp at h; subst h; exact u8ne hc76)), (by simp at hol ⊢; omega)⟩, ?_⟩
      show s.length - (i + 1) < s.length - i; omega
  ·
   refine send (fg [(0, _), (1, _), (2, _), (3, _), (10, _), (11, _), (12, _), (13, _), (67, _)] ⟨rfl, rfl, rfl, rfl, rfl, rfl, rfl, rfl, rfl, ⟨⟩⟩ fun _ => (cno rfl (wp_exit (eThen (eThen (eHit (nThen (fg [(1, _)] ⟨rfl, ⟨⟩⟩ fun _ => (sreg (sM rfl ?_))))))))))
   refine svK (xslit (bvs [0]) sl37 in5 rfl (by decide) rfl rfl rfl rfl (by decide) (by simp [bvs, bv, Value.cells]) (bvs_one _)) ?_
   rintro _ w58 ⟨b178, rfl, m59, h178, e178, s178, r178⟩
   have hf := hf.step0 m59
   have hv1 := hv1.keep m59 id
   have hC1 := hC1.keep m59 nF
   refine svK (xapp sl37 in5 rfl (by decide) rfl rfl hv1 (r178.src sl37) (by simp only [maxLen]; omega) (by omega)) ?_
   rintro _ w60 ⟨g179, r179, m61, a179, l179⟩
   have z62 := m61.size
   have hf := hf.step m61 (fun k hk hS => by have hS : k = gv := hS; show k = g ∨ k = gm; omega)
   have hC1 := hC1.keep m61 (fun b hb => by have hb := hm b hb; show ¬ (b = gv); omega)
   obtain ⟨p179, q179, rfl, -⟩ := r179.form
   refine sA rfl (sA rfl (send (fg [(8, _), (9, _)] ⟨rfl, rfl, ⟨⟩⟩ fun _ => (wp_ret ?_))))
   refine rp2 rfl rfl rfl ?_
   have ed : s.drop i = [] := List.drop_eq_nil_of_le (by omega)
   rw [ed] at hE hng
   obtain rfl : lab = [] := List.eq_nil_of_length_eq_zero (by simpa [nameGo] using hng)
   simp only [packGo] at hE
   obtain ⟨e1, e2⟩ := pkE_eq hE
   rw [packName, if_neg hgo.1]
   rw [← e1, ← e2]
   exact app_ofC (out := q ++ [0]) r179 (by simp; omega) (by simp [bvs_app]) hf (by omega) (l179 (by omega)) hC1
end Go.Proofs.YtifnodoffgfpbaaGreatDoor

namespace Go.Proofs.YtifnodoffgfpbaaGreatDoor
open Go

/-- these bytes stand in b from i on -/
def Std (b : List UInt8) (i : Nat) (bs : List UInt8) : Prop := ∀ (j : Nat) (c : UInt8), bs[j]? = some c → b[i + j]? = some c
theorem Std.left {b xs ys : List UInt8} {i : Nat} (h : Std b i (xs ++ ys)) : Std b i xs := fun j c hj => h j c (by
  have : j < xs.length := (List.getElem?_eq_some_iff.1 hj).1
  rw [List.getElem?_append_left this]; exact hj)
theorem Std.right {b xs ys : List UInt8} {i : Nat} (h : Std b i (xs ++ ys)) : Std b (i + xs.length) ys := fun j c hj => by
  have := h (xs.length + j) c (by rw [List.getElem?_append_right (by omega), Nat.add_sub_cancel_left]; exact hj)
  rw [Nat.add_assoc]; exact this
theorem Std.right' {b xs ys : List UInt8} {i k : Nat} (h : Std b i (xs ++ ys)) (hk : i + xs.length = k) : Std b k ys := hk ▸ h.right
theorem Std.head {b xs : List UInt8} {x : UInt8} {i : Nat} (h : Std b i (x :: xs)) : b[i]? = some x := h 0 x rfl
theorem Std.tail {b xs : List UInt8} {x : UInt8} {i : Nat} (h : Std b i (x :: xs)) : Std b (i + 1) xs := Std.right (xs := [x]) h
theorem Std.self (b : List UInt8) : Std b 0 b := fun j c h => by rw [Nat.zero_add]; exact h
theorem Std.le {b bs : List UInt8} {i : Nat} (h : Std b i bs) (h0 : bs ≠ []) : i + bs.length ≤ b.length := by
  have hp : 0 < bs.length := List.length_pos_iff.2 h0
  have := h (bs.length - 1) _ (List.getElem?_eq_getElem (by omega))
  have := (List.getElem?_eq_some_iff.1 this).1
  omega
/-- In b there stands from i on a name of these labels, whose writing ends at nx; st: where the part begins that each pointer must lead ahead of; k: how many pointers. -/
inductive NameR (b : List UInt8) : Nat → Nat → Nat → List UInt8 → Nat → Prop
  | fin {st i : Nat} (hb : b[i]? = some 0) : NameR b st 0 i [] (i + 1)
  | lab {st k i nx : Nat} {s : List UInt8} (lab : List UInt8) (h0 : lab ≠ []) (h63 : lab.length ≤ 63) (hd : ∀ c ∈ lab, c ≠ 46) (hb : b[i]? = some (UInt8.ofNat lab.length)) (hs : Std b (i + 1) lab)
      (h : NameR b st k (i + 1 + lab.length) s nx) : NameR b st k i (lab ++ (46 :: s)) nx
  | ptr {st k i to nx : Nat} {s : List UInt8} (h1 : to < st) (h14 : to ≤ 16383) (hb : b[i]? = some (UInt8.ofNat (192 + to / 256))) (hb2 : b[i + 1]? = some (UInt8.ofNat to))
      (h : NameR b to k to s nx) : NameR b st (k + 1) i s (i + 2)

theorem NameR.up {b : List UInt8} {st k i nx : Nat} {s : List UInt8} (h : NameR b st k i s nx) : ∀ {st' : Nat}, st ≤ st' → NameR b st' k i s nx := by
  induction h with
  | fin hb => intro st' _; exact .fin hb
  | lab lab h0 h63 hd hb hs _ ih => intro st' hl; exact .lab lab h0 h63 hd hb hs (ih hl)
  | ptr h1 h14 hb hb2 h _ => intro st' hl; exact .ptr (by omega) h14 hb hb2 h
theorem NameR.le {b : List UInt8} {st k i nx : Nat} {s : List UInt8} (h : NameR b st k i s nx) : i < nx ∧ nx ≤ b.length := by
  induction h with
  | fin hb => have := (List.getElem?_eq_some_iff.1 hb).1; omega
  | lab lab h0 h63 hd hb hs _ ih => omega
  | ptr h1 h14 hb hb2 h _ => have := (List.getElem?_eq_some_iff.1 hb2).1; omega

/-- the labels of a name: of the dot alone there are none -/
def txt (s : List UInt8) : List UInt8 := if s = [46] then [] else s
def NameAt (b : List UInt8) (k i : Nat) (s : List UInt8) (nx : Nat) : Prop := NameR b i k i (txt s) nx

/-- what the map tells of a text: where it stands -/
def GoodE (b : List UInt8) (st : Nat) (key : List UInt8) (p : UInt16) : Prop := p.toNat < st ∧ p.toNat ≤ 16383 ∧ ∃ k nx, NameR b p.toNat k p.toNat key nx ∧ k < key.count 46
theorem GoodE.up {b : List UInt8} {st st' : Nat} {key : List UInt8} {p : UInt16} (h : GoodE b st key p) (hs : st ≤ st') : GoodE b st' key p := ⟨by have := h.1; omega, h.2⟩

theorem look_app (M : Ent) (key : ByteArray) (v : UInt16) (s : ByteArray) : look (M ++ [(key, v)]) s = match look M s with
    | some p => some p
    | none => if s = key then some v else none := by
  induction M with
  | nil => simp [look]
  | cons p M ih =>
    obtain ⟨k, u⟩ := p
    simp only [List.cons_append, look]
    split
    · rfl
    · exact ih
theorem ptr_bytes (p : UInt16) (h : p.toNat ≤ 16383) : ptrL p = [UInt8.ofNat (192 + p.toNat / 256), UInt8.ofNat p.toNat] := by
  have key : ∀ x : Nat, x < 64 → x ||| 192 = 192 + x := by decide
  simp only [ptrL]
  congr 1
  congr 1
  rw [UInt16.toNat_or, UInt16.toNat_shiftRight]
  have e1 : (8 : UInt16).toNat % 16 = 8 := rfl
  have e2 : (192 : UInt16).toNat = 192 := rfl
  rw [e1, e2, Nat.shiftRight_eq_div_pow]
  exact key _ (by omega)

theorem packGo_at (b : List UInt8) (st : Nat) : ∀ (cs lab : List UInt8) (M : Ent) (pos : Nat), nameGo lab.length cs = true → (∀ c ∈ lab, c ≠ 46) → st ≤ pos → Std b pos (packGo (some M) pos lab cs).1 →
    (∀ key p, key.length ≤ cs.length → look M (mkB key) = some p → GoodE b st key p) →
    (∃ k, NameR b st k pos (lab ++ cs) (pos + (packGo (some M) pos lab cs).1.length) ∧ k ≤ (lab ++ cs).count 46 ∧ (lab ≠ [] → k < (lab ++ cs).count 46)) ∧
    ∃ M', (packGo (some M) pos lab cs).2 = some M' ∧ ∀ key p, look M' (mkB key) = some p → look M (mkB key) = some p ∨ GoodE b (pos + (packGo (some M) pos lab cs).1.length) key p
  | [], lab, M, pos, hn, _, _, hb, _ => by
    have hl : lab = [] := by
      cases lab with
      | nil => rfl
      | cons x xs => simp [nameGo] at hn
    subst hl
    refine ⟨⟨0, ?_, by simp, fun h => absurd rfl h⟩, M, rfl, fun key p h => .inl h⟩
    simp only [packGo, List.append_nil, List.length_cons, List.length_nil]
    exact .fin hb.head
  | c :: cs, lab, M, pos, hn, hlab, hst, hb, hold => by
    by_cases hc : c = 46
    · subst hc
      rw [nameGo, if_pos rfl] at hn
      split at hn
      · cases hn
      · rename_i hl
        have h0 : lab ≠ [] := by intro h; subst h; simp at hl
        simp only [packGo, if_pos] at hb ⊢
        have ih := packGo_at b st cs [] M (pos + (lab.length + 1)) (by simpa using hn) (by simp) (by omega) (hb.right' (by simp)) (fun key p hk hm => hold key p (by simp; omega) hm)
        obtain ⟨⟨k, hr, hk, _⟩, M', hM, hnew⟩ := ih
        refine ⟨⟨k, ?_, ?_, ?_⟩, M', hM, ?_⟩
        · refine NameR.lab lab h0 (by omega) hlab hb.left.head hb.left.tail ?_
          have e1 : pos + 1 + lab.length = pos + (lab.length + 1) := by omega
          have e2 : pos + (UInt8.ofNat lab.length :: lab ++ (packGo (some M) (pos + (lab.length + 1)) [] cs).1).length = pos + (lab.length + 1) + (packGo (some M) (pos + (lab.length + 1)) [] cs).1.length := by simp; omega
          rw [e1, e2]
          simpa using hr
        · simp only [List.nil_append] at hk
          rw [List.count_append, List.count_cons_self]; omega
        · intro _
          simp only [List.nil_append] at hk
          rw [List.count_append, List.count_cons_self]; omega
        · intro key p h
          rcases hnew key p h with h | h
          · exact .inl h
          · exact .inr (h.up (by simp; omega))
    · have hn' : nameGo (lab.length + 1) cs = true := nameGo_let hn hc
      by_cases hl : lab = []
      · subst hl
        cases hlk : look M (mkB (c :: cs)) with
        | some p =>
          rw [pk_hit hc hlk] at hb ⊢
          obtain ⟨g1, g2, k, nx, g3, g4⟩ := hold (c :: cs) p (Nat.le_refl _) hlk
          rw [ptr_bytes p g2] at hb ⊢
          refine ⟨⟨k + 1, ?_, by rw [List.nil_append]; exact g4, fun h => absurd rfl h⟩, M, rfl, fun key p h => .inl h⟩
          exact .ptr g1 g2 hb.head hb.tail.head g3
        | none =>
          rw [pk_miss hc hlk] at hb ⊢
          have hold2 : ∀ key p, key.length ≤ cs.length → look (if pos ≤ 16383 then M ++ [(mkB (c :: cs), UInt16.ofNat pos)] else M) (mkB key) = some p → GoodE b st key p := by
            intro key p hk hm
            split at hm
            · rw [look_app] at hm
              split at hm
              · rename_i q hq
                simp only [Option.some.injEq] at hm; subst hm
                exact hold key _ (by simp; omega) hq
              · split at hm
                · rename_i he
                  have := congrArg bt he
                  rw [bt_mkB, bt_mkB] at this
                  rw [this] at hk
                  simp at hk; omega
                · cases hm
            · exact hold key p (by simp; omega) hm
          have ih := packGo_at b st cs [c] _ pos hn' (by simpa using hc) hst hb hold2
          obtain ⟨⟨k, hr, hk, hk2⟩, M', hM, hnew⟩ := ih
          refine ⟨⟨k, hr, hk, fun h => absurd rfl h⟩, M', hM, ?_⟩
          intro key p h
          rcases hnew key p h with h | h
          · split at h
            · rename_i hp
              rw [look_app] at h
              split at h
              · rename_i q hq; exact .inl (by rw [hq]; exact h)
              · split at h
                · rename_i he
                  simp only [Option.some.injEq] at h
                  subst h
                  have he := congrArg bt he
                  rw [bt_mkB, bt_mkB] at he
                  subst he
                  have e : (UInt16.ofNat pos).toNat = pos := by rw [UInt16.toNat_ofNat']; omega
                  have hr' : ∃ nx, NameR b (UInt16.ofNat pos).toNat k (UInt16.ofNat pos).toNat (c :: cs) nx := by rw [e]; exact ⟨_, hr.up hst⟩
                  obtain ⟨nx, hr'⟩ := hr'
                  exact .inr ⟨by have := hr.le; omega, by omega, k, nx, hr', hk2 (by simp)⟩
                · cases h
            · exact .inl h
          · exact .inr h
      · rw [pk_mid hc hl] at hb ⊢
        have ih := packGo_at b st cs (lab ++ [c]) M pos (by simpa using hn') (by
          intro x hx
          rcases List.mem_append.1 hx with h | h
          · exact hlab x h
          · simp at h; subst h; exact hc) hst hb (fun key p hk hm => hold key p (by simp; omega) hm)
        obtain ⟨⟨k, hr, hk, hk2⟩, M', hM, hnew⟩ := ih
        rw [List.append_assoc] at hr hk hk2
        exact ⟨⟨k, hr, hk, fun _ => hk2 (by simp)⟩, M', hM, hnew⟩

/-- what is in the map stands ahead of st -/
def GoodM (b : List UInt8) (st : Nat) (M : Ent) : Prop := ∀ key p, look M (mkB key) = some p → GoodE b st key p
theorem packName_at {b : List UInt8} {M : Ent} {pos : Nat} {s : List UInt8} (hs : nameL s) (hb : Std b pos (packName (some M) pos s).1) (hM : GoodM b pos M) :
    (∃ k, NameAt b k pos s (pos + (packName (some M) pos s).1.length) ∧ k ≤ (s.drop 1).count 46) ∧ ∃ M', (packName (some M) pos s).2 = some M' ∧ GoodM b (pos + (packName (some M) pos s).1.length) M' := by
  simp only [packName] at hb ⊢
  by_cases hd : s = [46]
  · simp only [if_pos hd] at hb ⊢
    refine ⟨⟨0, ?_, by omega⟩, M, rfl, fun key p h => (hM key p h).up (by omega)⟩
    simp only [NameAt, txt, if_pos hd]
    exact .fin hb.head
  · simp only [if_neg hd] at hb ⊢
    rcases hs with hs | ⟨_, hs, _⟩
    · exact absurd hs hd
    · obtain ⟨⟨k, hr, hk, _⟩, M', hM', hnew⟩ := packGo_at b pos s [] M pos (by simpa using hs) (by simp) (Nat.le_refl _) hb (fun key p _ h => hM key p h)
      have hcount : s.count 46 = (s.drop 1).count 46 := by
        cases s with
        | nil => rfl
        | cons c cs =>
          have := nameGo_first hs
          simp only [List.getElem?_cons_zero, ne_eq, Option.some.injEq] at this
          rw [List.drop_one, List.tail_cons, List.count_cons_of_ne this]
      refine ⟨⟨k, ?_, by simpa [hcount] using hk⟩, M', hM', fun key p h => ?_⟩
      · simp only [NameAt, txt, if_neg hd]; simpa using hr
      · rcases hnew key p h with h | h
        · exact (hM key p h).up (by omega)
        · exact h
/-- a name that is written whole is read without pointers -/
theorem wireGo_at {b : List UInt8} (st : Nat) : ∀ (cs lab : List UInt8) (pos : Nat), nameGo lab.length cs = true → (∀ c ∈ lab, c ≠ 46) → Std b pos (wireGo lab cs ++ [0]) →
    NameR b st 0 pos (lab ++ cs) (pos + (wireGo lab cs).length + 1)
  | [], lab, pos, hn, _, hb => by
    have hl : lab = [] := by
      cases lab with
      | nil => rfl
      | cons x xs => simp [nameGo] at hn
    subst hl
    simp only [wireGo, List.nil_append, List.length_nil, Nat.add_zero] at hb ⊢
    exact .fin hb.head
  | c :: cs, lab, pos, hn, hlab, hb => by
    by_cases hc : c = 46
    · subst hc
      rw [nameGo, if_pos rfl] at hn
      split at hn
      · cases hn
      · rename_i hl
        have h0 : lab ≠ [] := by intro h; subst h; simp at hl
        simp only [wireGo, if_true, if_neg h0] at hb ⊢
        rw [List.append_assoc] at hb
        have ih := wireGo_at st cs [] (pos + (lab.length + 1)) (by simpa using hn) (by simp) (hb.right' (by simp))
        refine NameR.lab lab h0 (by omega) hlab hb.left.head hb.left.tail ?_
        have e1 : pos + 1 + lab.length = pos + (lab.length + 1) := by omega
        have e2 : pos + (UInt8.ofNat lab.length :: lab ++ wireGo [] cs).length + 1 = pos + (lab.length + 1) + (wireGo [] cs).length + 1 := by simp; omega
        rw [e1, e2]
        simpa using ih
    · have hn' : nameGo (lab.length + 1) cs = true := nameGo_let hn hc
      simp only [wireGo, hc, if_false] at hb ⊢
      have ih := wireGo_at st cs (lab ++ [c]) pos (by simpa using hn') (by
          intro x hx
          rcases List.mem_append.1 hx with h | h
          · exact hlab x h
          · simp at h; subst h; exact hc) hb
      rw [List.append_assoc] at ih
      exact ih
theorem wire_at {b : List UInt8} {pos : Nat} {s : List UInt8} (hs : nameL s) (hb : Std b pos (wire s)) : NameAt b 0 pos s (pos + (wire s).length) := by
  by_cases hd : s = [46]
  · subst hd
    simp only [NameAt, txt, if_true]
    exact .fin hb.head
  · rcases hs with hs | ⟨_, hs, _⟩
    · exact absurd hs hd
    · simp only [NameAt, txt, if_neg hd]
      have := wireGo_at (b := b) pos s [] pos (by simpa using hs) (by simp) hb
      simpa [wire, Nat.add_assoc] using this
end Go.Proofs.YtifnodoffgfpbaaGreatDoor
