/- Walks: messages that are few. Conditions: none. -/
import Derived.Test.YtifnodoffgfpbaaGreatDoorW8
namespace Go.Proofs.YtifnodoffgfpbaaGreatDoor
open Go

def fewM (m : MsgD) : Prop := m.asks.length + m.one.length + m.two.length + m.three.length ≤ 40 ∧ (∀ l ∈ [m.one, m.two, m.three], ∀ r ∈ l, smallR r) ∧ okM m

set_option maxHeartbeats 4000000 in
set_option maxRecDepth 100000 in
theorem c14 {w : World} {U : Nat → Prop} (hU : ∀ k, U k → k < w.heap.size) {m : MsgD} {va v1 v2 v3 : Value} (ha : LA AskEl lAsk U w va m.asks) (y1 : LA RecEl lRec U w v1 m.one) (y2 : LA RecEl lRec U w v2 m.two) (y3 : LA RecEl lRec U w v3 m.three) (hfa : ∀ a ∈ m.asks, a.name.size ≤ 1048576) (hfr : ∀ l ∈ [m.one, m.two, m.three], ∀ r ∈ l, r.fits) (hll : ∀ l ∈ [m.one, m.two, m.three], l.length ≤ 1048576) (hna : m.asks.length ≤ 1048576) :
    Ret PP 14 [ag (msgSegs m.head va v1 v2 v3)] w (Grd w (fewM m)) := by
  have hls : All2 (LA RecEl lRec U w) [v1, v2, v3] [m.one, m.two, m.three] := All2.cons y1 (All2.cons y2 (All2.cons y3 All2.nil))
  obtain ⟨aa, ca, rfl⟩ := ha.form
  obtain ⟨a1, c1, rfl⟩ := y1.form
  obtain ⟨a2, c2, rfl⟩ := y2.form
  obtain ⟨a3, c3, rfl⟩ := y3.form
  have hl1 := hll m.one (by simp)
  have hl2 := hll m.two (by simp)
  have hl3 := hll m.three (by simp)
  have hf : Fr (fun _ => False) w w := Fr.refl _ _
  refine ret_of Tryz.func14 rfl rfl rfl [(0, _)] rfl ?_
  refine sreg ?_
  refine svK (xboxS (lens := [1, 1, 1, 1, 1, 1, 1, 1, 1, 1, 1, 1, 1, 1]) rfl rfl) ?_
  rintro _ w2 ⟨b1, rfl, m3, h1, e1, s1⟩
  have ha := ha.keep ask_st (fun k hk => by have hk := hU k hk; omega) m3 (fun _ _ h => h)
  have y1 := y1.keep rec_st (fun k hk => by have hk := hU k hk; omega) m3 (fun _ _ h => h)
  have y2 := y2.keep rec_st (fun k hk => by have hk := hU k hk; omega) m3 (fun _ _ h => h)
  have y3 := y3.keep rec_st (fun k hk => by have hk := hU k hk; omega) m3 (fun _ _ h => h)
  have hf := hf.step0 m3
  refine sv (xassign rfl) ?_
  refine send ?_
  refine forget_wp [(1, _)] ⟨rfl, trivial⟩ fun _ => ?_
  refine sreg ?_
  refine sv (xfld fl34_1 rfl) ?_
  refine sv (xld on31 rfl (h1.r.c 10 rfl rfl)) ?_
  refine sv (xlen sl31 rfl) ?_
  refine sv (xfld fl34_2 rfl) ?_
  refine sv (xld on32 rfl (h1.r.c 11 rfl rfl)) ?_
  refine sv (xlen sl32 rfl) ?_
  refine sv (xadd rfl rfl (w64 (by omega) (by omega))) ?_
  refine sv (xfld fl34_3 rfl) ?_
  refine sv (xld on32 rfl (h1.r.c 12 rfl rfl)) ?_
  refine sv (xlen sl32 rfl) ?_
  refine sv (xadd rfl rfl (w64 (by omega) (by omega))) ?_
  refine sv (xfld fl34_4 rfl) ?_
  refine sv (xld on32 rfl (h1.r.c 13 rfl rfl)) ?_
  refine sv (xlen sl32 rfl) ?_
  refine sv (xadd rfl rfl (w64 (by omega) (by omega))) ?_
  refine sv (xassign rfl) ?_
  refine send ?_
  refine forget_wp [(1, _), (3, _)] ⟨rfl, rfl, trivial⟩ fun _ => ?_
  refine wp_seq ?_
  refine sreg ?_
  refine sv (xmove rfl) ?_
  refine svP (xgtr rfl rfl) (fun hc29 => ?_) (fun hc29 => ?_)
  · skip
    refine send ?_
    refine forget_wp [(1, _), (29, _)] ⟨rfl, rfl, trivial⟩ fun _ => ?_
    refine cyes rfl ?_
    refine sreg ?_
    refine sv (xassign rfl) ?_
    refine send ?_
    refine forget_wp [(2, _)] ⟨rfl, trivial⟩ fun _ => ?_
    refine wp_ret ?_
    refine rThen ?_
    refine rp1 rfl rfl ?_
    exact ⟨_, rfl, (fun h => by cases h), hf⟩
  · skip
    refine send ?_
    refine forget_wp [(1, _), (29, _)] ⟨rfl, rfl, trivial⟩ fun _ => ?_
    refine cno rfl ?_
    refine wp_skip ?_
    refine nThen ?_
    refine forget_wp [(1, _)] ⟨rfl, trivial⟩ fun _ => ?_
    refine wp_seq ?_
    refine sreg ?_
    refine sv (xfld fl34_2 rfl) ?_
    refine sv (xld on32 rfl (h1.r.c 11 rfl rfl)) ?_
    refine sv (xfld fl34_3 rfl) ?_
    refine sv (xld on32 rfl (h1.r.c 12 rfl rfl)) ?_
    refine sv (xfld fl34_4 rfl) ?_
    refine sv (xld on32 rfl (h1.r.c 13 rfl rfl)) ?_
    refine svK (xslit ([.slice a1 m.one.length c1, .slice a2 m.two.length c2, .slice a3 m.three.length c3]) sl60 in32 rfl (by decide) rfl rfl rfl rfl (by decide) rfl rfl) ?_
    rintro _ w5 ⟨b36, rfl, m6, h36, e36, s36, r36⟩
    have ha := ha.keep ask_st (fun k hk => by have hk := hU k hk; omega) m6 (fun _ _ h => h)
    have y1 := y1.keep rec_st (fun k hk => by have hk := hU k hk; omega) m6 (fun _ _ h => h)
    have y2 := y2.keep rec_st (fun k hk => by have hk := hU k hk; omega) m6 (fun _ _ h => h)
    have y3 := y3.keep rec_st (fun k hk => by have hk := hU k hk; omega) m6 (fun _ _ h => h)
    have hf := hf.step0 m6
    have h1 := h1.keep m6 (fun h => h)
    refine sv (xlen sl60 rfl) ?_
    refine sv (xmove rfl) ?_
    refine send ?_
    refine forget_wp [(1, _), (36, _), (37, _), (38, _)] ⟨rfl, rfl, rfl, rfl, trivial⟩ fun _ => ?_
    refine wp_block ?_
    refine lp [(1, _), (36, _), (37, _)] (fun (i : Nat) => [(38, .int .i64 (i : Int))]) (fun (i : Nat) wx => Fr (fun _ => False) w5 wx ∧ (i ≤ 3) ∧ (∀ j (l : List RecD), j < i → [m.one, m.two, m.three][j]? = some l → ∀ r ∈ l, smallR r)) (fun (i : Nat) => 3 - i) 0 ⟨rfl, rfl, rfl, rfl, trivial⟩ ⟨Fr.refl _ _, Nat.zero_le _, upto_zero⟩ ?_
    rintro i _ w8 ⟨hL7, hi, hO⟩
    refine forget_wp [(1, _), (36, _), (37, _), (38, _)] ⟨rfl, rfl, rfl, rfl, trivial⟩ fun _ => ?_
    have z9 := hL7.size
    have ha := ha.keep ask_st (fun k hk => by have hk := hU k hk; omega) hL7 (fun _ _ h => h)
    have y1 := y1.keep rec_st (fun k hk => by have hk := hU k hk; omega) hL7 (fun _ _ h => h)
    have y2 := y2.keep rec_st (fun k hk => by have hk := hU k hk; omega) hL7 (fun _ _ h => h)
    have y3 := y3.keep rec_st (fun k hk => by have hk := hU k hk; omega) hL7 (fun _ _ h => h)
    have hf := hf.step0 hL7
    have h1 := h1.keep hL7 (fun h => h)
    have r36 := r36.keep hL7 (fun h => h)
    refine sreg ?_
    refine svP (xlss rfl rfl) (fun hc39 => ?_) (fun hc39 => ?_)
    · skip
      refine send ?_
      refine forget_wp [(1, _), (36, _), (37, _), (38, _), (39, _)] ⟨rfl, rfl, rfl, rfl, rfl, trivial⟩ fun _ => ?_
      refine wp_seq ?_
      refine cyes rfl ?_
      refine wp_skip ?_
      refine nThen ?_
      refine forget_wp [(1, _), (36, _), (37, _), (38, _)] ⟨rfl, rfl, rfl, rfl, trivial⟩ fun _ => ?_
      refine wp_seq ?_
      refine wp_block ?_
      refine sreg ?_
      obtain ⟨u, l, hu, hul, hL⟩ := hls.get (k := i) (by simp; omega)
      have hL := hL.keep rec_st hU hf (fun _ _ h => h)
      have hlm : l ∈ [m.one, m.two, m.three] := List.mem_of_getElem? hul
      have hln := hll l hlm
      obtain ⟨au, cu, rfl⟩ := hL.form
      refine sv (xidx1 sl60 sz32 rfl rfl rfl (by omega)) ?_
      refine sv (xld on32 rfl (Rw.rng r36 i _ hu)) ?_
      refine sv (xassign rfl) ?_
      refine send ?_
      refine forget_wp [(1, _), (5, _), (36, _), (37, _), (38, _)] ⟨rfl, rfl, rfl, rfl, rfl, trivial⟩ fun _ => ?_
      refine sreg ?_
      refine sv (xmove rfl) ?_
      refine sv (xlen sl32 rfl) ?_
      refine sv (xmove rfl) ?_
      refine send ?_
      refine forget_wp [(1, _), (36, _), (37, _), (38, _), (42, _), (43, _), (44, _)] ⟨rfl, rfl, rfl, rfl, rfl, rfl, rfl, trivial⟩ fun _ => ?_
      refine wp_block ?_
      refine lp [(1, _), (36, _), (37, _), (38, _), (42, _), (43, _)] (fun (k : Nat) => [(44, .int .i64 (k : Int))]) (fun (k : Nat) wx => Fr (fun _ => False) w8 wx ∧ (k ≤ l.length) ∧ (∀ j (r : RecD), j < k → l[j]? = some r → smallR r)) (fun (k : Nat) => l.length - k) 0 ⟨rfl, rfl, rfl, rfl, rfl, rfl, rfl, trivial⟩ ⟨Fr.refl _ _, Nat.zero_le _, upto_zero⟩ ?_
      rintro k _ w11 ⟨hL10, hk, hI⟩
      refine forget_wp [(1, _), (36, _), (37, _), (38, _), (42, _), (43, _), (44, _)] ⟨rfl, rfl, rfl, rfl, rfl, rfl, rfl, trivial⟩ fun _ => ?_
      have z12 := hL10.size
      have ha := ha.keep ask_st (fun k hk => by have hk := hU k hk; omega) hL10 (fun _ _ h => h)
      have y1 := y1.keep rec_st (fun k hk => by have hk := hU k hk; omega) hL10 (fun _ _ h => h)
      have y2 := y2.keep rec_st (fun k hk => by have hk := hU k hk; omega) hL10 (fun _ _ h => h)
      have y3 := y3.keep rec_st (fun k hk => by have hk := hU k hk; omega) hL10 (fun _ _ h => h)
      have hf := hf.step0 hL10
      have h1 := h1.keep hL10 (fun h => h)
      have r36 := r36.keep hL10 (fun h => h)
      have hL7 := hL7.step0 hL10
      have hL := hL.keep rec_st (fun k hk => by have hk := hU k hk; omega) hL10 (fun _ _ h => h)
      refine sreg ?_
      refine svP (xlss rfl rfl) (fun hc45 => ?_) (fun hc45 => ?_)
      · skip
        refine send ?_
        refine forget_wp [(1, _), (36, _), (37, _), (38, _), (42, _), (43, _), (44, _), (45, _)] ⟨rfl, rfl, rfl, rfl, rfl, rfl, rfl, rfl, trivial⟩ fun _ => ?_
        refine wp_seq ?_
        refine cyes rfl ?_
        refine wp_skip ?_
        refine nThen ?_
        refine forget_wp [(1, _), (36, _), (37, _), (38, _), (42, _), (43, _), (44, _)] ⟨rfl, rfl, rfl, rfl, rfl, rfl, rfl, trivial⟩ fun _ => ?_
        refine wp_seq ?_
        refine wp_block ?_
        obtain ⟨r, hrk⟩ := some_of_lt (by omega : k < l.length)
        have hrf := hfr l hlm r (List.mem_of_getElem? hrk)
        have hrf0 := hrf
        simp only [RecD.fits] at hrf0
        have hsp := sum_add4 r.pairs
        refine sreg ?_
        obtain ⟨bE46, oE46, sgE46, rfl, uE46, hsE46, heE46⟩ := LA.get hL hrk
        obtain ⟨vd, vt, vp, rfl, hd, ht, hp⟩ := heE46
        have zE46 := hU _ uE46
        obtain ⟨ad, cd, rfl, -⟩ := id hd
        obtain ⟨at1, ct1, rfl⟩ := ht.form
        obtain ⟨ap1, cp1, rfl⟩ := hp.form
        refine sv (xidx sl32 sz65 rfl rfl rfl (by omega)) ?_
        refine sv (xldS (lens := [1, 1, 1, 1, 1, 1, 1, 1, 1, 1, 1, 1, 1, 1, 1, 1]) ro65 rfl hsE46) ?_
        refine svK (xallS (lens := [1, 1, 1, 1, 1, 1, 1, 1, 1, 1, 1, 1, 1, 1, 1, 1]) in65 rfl) ?_
        rintro _ w14 ⟨b7, rfl, m15, h7, e13, s13⟩
        have ha := ha.keep ask_st (fun k hk => by have hk := hU k hk; omega) m15 (fun _ _ h => h)
        have y1 := y1.keep rec_st (fun k hk => by have hk := hU k hk; omega) m15 (fun _ _ h => h)
        have y2 := y2.keep rec_st (fun k hk => by have hk := hU k hk; omega) m15 (fun _ _ h => h)
        have y3 := y3.keep rec_st (fun k hk => by have hk := hU k hk; omega) m15 (fun _ _ h => h)
        have hf := hf.step0 m15
        have h1 := h1.keep m15 (fun h => h)
        have r36 := r36.keep m15 (fun h => h)
        have hL7 := hL7.step0 m15
        have hL := hL.keep rec_st (fun k hk => by have hk := hU k hk; omega) m15 (fun _ _ h => h)
        have hL10 := hL10.step0 m15
        have hsE46 := hsE46.keep m15 (by omega) (fun h => h)
        have hd := hd.keep (fun k hk => by have hk := hU k hk; omega) m15 (fun _ _ h => h)
        have ht := ht.keep text_st (fun k hk => by have hk := hU k hk; omega) m15 (fun _ _ h => h)
        have hp := hp.keep pair_st (fun k hk => by have hk := hU k hk; omega) m15 (fun _ _ h => h)
        refine suK (xstW h7 (lens' := [1, 1, 1, 1, 1, 1, 1, 1, 1, 1, 1, 1, 1, 1, 1, 1]) sz65 rfl rfl rfl rfl rfl) ?_
        rintro w17 ⟨m18, h7, s16⟩
        have ha := ha.keep ask_st (fun k hk => by have hk := hU k hk; omega) m18 (fun k hk hS => by have hk := hU k hk; have hS : k = b7 := hS; omega)
        have y1 := y1.keep rec_st (fun k hk => by have hk := hU k hk; omega) m18 (fun k hk hS => by have hk := hU k hk; have hS : k = b7 := hS; omega)
        have y2 := y2.keep rec_st (fun k hk => by have hk := hU k hk; omega) m18 (fun k hk hS => by have hk := hU k hk; have hS : k = b7 := hS; omega)
        have y3 := y3.keep rec_st (fun k hk => by have hk := hU k hk; omega) m18 (fun k hk hS => by have hk := hU k hk; have hS : k = b7 := hS; omega)
        have hf := hf.step m18 (fun k hk hS => by have hS : k = b7 := hS; show False; omega)
        have h1 := h1.keep m18 (by show ¬ (b1 = b7); omega)
        have r36 := r36.keep m18 (by show ¬ (b36 = b7); omega)
        have hL7 := hL7.step m18 (fun k hk hS => by have hS : k = b7 := hS; show False; omega)
        have hL := hL.keep rec_st (fun k hk => by have hk := hU k hk; omega) m18 (fun k hk hS => by have hk := hU k hk; have hS : k = b7 := hS; omega)
        have hL10 := hL10.step m18 (fun k hk hS => by have hS : k = b7 := hS; show False; omega)
        have hsE46 := hsE46.keep m18 (by omega) (by show ¬ (bE46 = b7); omega)
        have hd := hd.keep (fun k hk => by have hk := hU k hk; omega) m18 (fun k hk hS => by have hk := hU k hk; have hS : k = b7 := hS; omega)
        have ht := ht.keep text_st (fun k hk => by have hk := hU k hk; omega) m18 (fun k hk hS => by have hk := hU k hk; have hS : k = b7 := hS; omega)
        have hp := hp.keep pair_st (fun k hk => by have hk := hU k hk; omega) m18 (fun k hk hS => by have hk := hU k hk; have hS : k = b7 := hS; omega)
        refine send ?_
        refine forget_wp [(1, _), (7, _), (36, _), (37, _), (38, _), (42, _), (43, _), (44, _)] ⟨rfl, rfl, rfl, rfl, rfl, rfl, rfl, rfl, trivial⟩ fun _ => ?_
        refine sreg ?_
        refine sv (xfld fl65_6 rfl) ?_
        refine sv (xld on37 rfl (h7.r.c 6 rfl rfl)) ?_
        refine sv (xlen sl37 rfl) ?_
        refine sv (xfld fl65_14 rfl) ?_
        refine sv (xld on62 rfl (h7.r.c 14 rfl rfl)) ?_
        refine sv (xlen sl62 rfl) ?_
        refine sv (xadd rfl rfl (w64 (by omega) (by omega))) ?_
        refine sv (xassign rfl) ?_
        refine send ?_
        refine forget_wp [(1, _), (7, _), (8, _), (36, _), (37, _), (38, _), (42, _), (43, _), (44, _)] ⟨rfl, rfl, rfl, rfl, rfl, rfl, rfl, rfl, rfl, trivial⟩ fun _ => ?_
        refine wp_seq ?_
        refine sreg ?_
        refine sv (xfld fl65_14 rfl) ?_
        refine sv (xld on62 rfl (h7.r.c 14 rfl rfl)) ?_
        refine sv (xlen sl62 rfl) ?_
        refine sv (xmove rfl) ?_
        refine send ?_
        refine forget_wp [(1, _), (7, _), (8, _), (36, _), (37, _), (38, _), (42, _), (43, _), (44, _), (56, _), (57, _), (58, _)] ⟨rfl, rfl, rfl, rfl, rfl, rfl, rfl, rfl, rfl, rfl, rfl, rfl, trivial⟩ fun _ => ?_
        refine wp_block ?_
        refine lp [(1, _), (7, _), (36, _), (37, _), (38, _), (42, _), (43, _), (44, _), (56, _), (57, _)] (fun (x : Nat × Nat) => match x with | (j, s) => [(8, .int .i64 (s : Int)), (58, .int .i64 (j : Int))]) (fun (x : Nat × Nat) wx => match x with | (j, s) => Fr (fun _ => False) w17 wx ∧ (j ≤ r.texts.length) ∧ (s = r.data.length + r.texts.length + ((r.texts.take j).map (fun s : ByteArray => s.size)).sum)) (fun (x : Nat × Nat) => match x with | (j, s) => r.texts.length - j) (0, r.data.length + r.texts.length) ⟨rfl, rfl, rfl, rfl, rfl, rfl, rfl, rfl, rfl, rfl, rfl, rfl, trivial⟩ ⟨Fr.refl _ _, Nat.zero_le _, rfl⟩ ?_
        rintro ⟨j, s⟩ _ w20 ⟨hL19, hj, hs⟩
        refine forget_wp [(1, _), (7, _), (8, _), (36, _), (37, _), (38, _), (42, _), (43, _), (44, _), (56, _), (57, _), (58, _)] ⟨rfl, rfl, rfl, rfl, rfl, rfl, rfl, rfl, rfl, rfl, rfl, rfl, trivial⟩ fun _ => ?_
        have z21 := hL19.size
        have ha := ha.keep ask_st (fun k hk => by have hk := hU k hk; omega) hL19 (fun _ _ h => h)
        have y1 := y1.keep rec_st (fun k hk => by have hk := hU k hk; omega) hL19 (fun _ _ h => h)
        have y2 := y2.keep rec_st (fun k hk => by have hk := hU k hk; omega) hL19 (fun _ _ h => h)
        have y3 := y3.keep rec_st (fun k hk => by have hk := hU k hk; omega) hL19 (fun _ _ h => h)
        have hf := hf.step0 hL19
        have h1 := h1.keep hL19 (fun h => h)
        have r36 := r36.keep hL19 (fun h => h)
        have hL7 := hL7.step0 hL19
        have hL := hL.keep rec_st (fun k hk => by have hk := hU k hk; omega) hL19 (fun _ _ h => h)
        have hL10 := hL10.step0 hL19
        have hsE46 := hsE46.keep hL19 (by omega) (fun h => h)
        have hd := hd.keep (fun k hk => by have hk := hU k hk; omega) hL19 (fun _ _ h => h)
        have ht := ht.keep text_st (fun k hk => by have hk := hU k hk; omega) hL19 (fun _ _ h => h)
        have hp := hp.keep pair_st (fun k hk => by have hk := hU k hk; omega) hL19 (fun _ _ h => h)
        have h7 := h7.keep hL19 (fun h => h)
        refine sreg ?_
        refine svP (xlss rfl rfl) (fun hc59 => ?_) (fun hc59 => ?_)
        · skip
          refine send ?_
          refine forget_wp [(1, _), (7, _), (8, _), (36, _), (37, _), (38, _), (42, _), (43, _), (44, _), (56, _), (57, _), (58, _), (59, _)] ⟨rfl, rfl, rfl, rfl, rfl, rfl, rfl, rfl, rfl, rfl, rfl, rfl, rfl, trivial⟩ fun _ => ?_
          refine wp_seq ?_
          refine cyes rfl ?_
          refine wp_skip ?_
          refine nThen ?_
          refine forget_wp [(1, _), (7, _), (8, _), (36, _), (37, _), (38, _), (42, _), (43, _), (44, _), (56, _), (57, _), (58, _)] ⟨rfl, rfl, rfl, rfl, rfl, rfl, rfl, rfl, rfl, rfl, rfl, rfl, trivial⟩ fun _ => ?_
          refine wp_seq ?_
          refine wp_block ?_
          obtain ⟨t, htj⟩ := some_of_lt (by omega : j < r.texts.length)
          have hts := sum_take_le (f := fun s : ByteArray => s.size) htj
          have hta := sum_take_add (f := fun s : ByteArray => s.size) htj
          refine sreg ?_
          obtain ⟨bE60, oE60, sgE60, rfl, uE60, hsE60, heE60⟩ := LA.get ht htj
          obtain rfl := heE60
          have zE60 := hU _ uE60
          refine sv (xidx sl62 sz9 rfl rfl rfl (by omega)) ?_
          refine sv (xld on9 rfl (hsE60.c 0 rfl rfl)) ?_
          refine sv (xassign rfl) ?_
          refine send ?_
          refine forget_wp [(1, _), (7, _), (8, _), (10, _), (36, _), (37, _), (38, _), (42, _), (43, _), (44, _), (56, _), (57, _), (58, _)] ⟨rfl, rfl, rfl, rfl, rfl, rfl, rfl, rfl, rfl, rfl, rfl, rfl, rfl, trivial⟩ fun _ => ?_
          refine lreg ?_
          refine sv (xmove rfl) ?_
          refine sv (xmove rfl) ?_
          refine sv (xlenS st9 rfl) ?_
          refine sv (xadd rfl rfl (w64 (by omega) (by omega))) ?_
          refine sv (xassign rfl) ?_
          refine lend ?_
          refine nBlock ?_
          refine nThen ?_
          refine forget_wp [(1, _), (7, _), (8, _), (36, _), (37, _), (38, _), (42, _), (43, _), (44, _), (56, _), (57, _), (58, _)] ⟨rfl, rfl, rfl, rfl, rfl, rfl, rfl, rfl, rfl, rfl, rfl, rfl, trivial⟩ fun _ => ?_
          refine lreg ?_
          refine sv (xadd rfl rfl (w64 (by omega) (by omega))) ?_
          refine sv (xmove rfl) ?_
          refine lend ?_
          refine nThen ?_
          refine ⟨(j + 1, s + t.size), _, env_okl ⟨rfl, rfl, rfl, rfl, rfl, rfl, rfl, rfl, rfl, rfl, rfl, rfl, trivial⟩, ⟨hL19, (by omega), (by omega)⟩, ?_⟩
          show r.texts.length - (j + 1) < r.texts.length - j; omega
        · skip
          refine send ?_
          refine forget_wp [(1, _), (7, _), (8, _), (36, _), (37, _), (38, _), (42, _), (43, _), (44, _), (56, _), (57, _), (58, _), (59, _)] ⟨rfl, rfl, rfl, rfl, rfl, rfl, rfl, rfl, rfl, rfl, rfl, rfl, rfl, trivial⟩ fun _ => ?_
          refine wp_seq ?_
          refine cno rfl ?_
          refine wp_exit ?_
          refine eThen ?_
          refine eThen ?_
          refine eHit ?_
          refine nThen ?_
          refine forget_wp [(1, _), (7, _), (8, _), (36, _), (37, _), (38, _), (42, _), (43, _), (44, _)] ⟨rfl, rfl, rfl, rfl, rfl, rfl, rfl, rfl, rfl, trivial⟩ fun _ => ?_
          refine wp_seq ?_
          have eT : r.texts.take j = r.texts := List.take_of_length_le (by omega)
          rw [eT] at hs
          refine sreg ?_
          refine sv (xfld fl65_15 rfl) ?_
          refine sv (xld on63 rfl (h7.r.c 15 rfl rfl)) ?_
          refine sv (xlen sl63 rfl) ?_
          refine sv (xmove rfl) ?_
          refine send ?_
          refine forget_wp [(1, _), (7, _), (8, _), (36, _), (37, _), (38, _), (42, _), (43, _), (44, _), (68, _), (69, _), (70, _)] ⟨rfl, rfl, rfl, rfl, rfl, rfl, rfl, rfl, rfl, rfl, rfl, rfl, trivial⟩ fun _ => ?_
          refine wp_block ?_
          refine lp [(1, _), (7, _), (36, _), (37, _), (38, _), (42, _), (43, _), (44, _), (68, _), (69, _)] (fun (x : Nat × Nat) => match x with | (j, s2) => [(8, .int .i64 (s2 : Int)), (70, .int .i64 (j : Int))]) (fun (x : Nat × Nat) wx => match x with | (j, s2) => Fr (fun _ => False) w20 wx ∧ (j ≤ r.pairs.length) ∧ (s2 = s + ((r.pairs.take j).map (fun p : PairD => p.data.length + 4)).sum)) (fun (x : Nat × Nat) => match x with | (j, s2) => r.pairs.length - j) (0, s) ⟨rfl, rfl, rfl, rfl, rfl, rfl, rfl, rfl, rfl, rfl, rfl, rfl, trivial⟩ ⟨Fr.refl _ _, Nat.zero_le _, rfl⟩ ?_
          rintro ⟨j, s2⟩ _ w23 ⟨hL22, hj, hs2⟩
          refine forget_wp [(1, _), (7, _), (8, _), (36, _), (37, _), (38, _), (42, _), (43, _), (44, _), (68, _), (69, _), (70, _)] ⟨rfl, rfl, rfl, rfl, rfl, rfl, rfl, rfl, rfl, rfl, rfl, rfl, trivial⟩ fun _ => ?_
          have z24 := hL22.size
          have ha := ha.keep ask_st (fun k hk => by have hk := hU k hk; omega) hL22 (fun _ _ h => h)
          have y1 := y1.keep rec_st (fun k hk => by have hk := hU k hk; omega) hL22 (fun _ _ h => h)
          have y2 := y2.keep rec_st (fun k hk => by have hk := hU k hk; omega) hL22 (fun _ _ h => h)
          have y3 := y3.keep rec_st (fun k hk => by have hk := hU k hk; omega) hL22 (fun _ _ h => h)
          have hf := hf.step0 hL22
          have h1 := h1.keep hL22 (fun h => h)
          have r36 := r36.keep hL22 (fun h => h)
          have hL7 := hL7.step0 hL22
          have hL := hL.keep rec_st (fun k hk => by have hk := hU k hk; omega) hL22 (fun _ _ h => h)
          have hL10 := hL10.step0 hL22
          have hsE46 := hsE46.keep hL22 (by omega) (fun h => h)
          have hd := hd.keep (fun k hk => by have hk := hU k hk; omega) hL22 (fun _ _ h => h)
          have ht := ht.keep text_st (fun k hk => by have hk := hU k hk; omega) hL22 (fun _ _ h => h)
          have hp := hp.keep pair_st (fun k hk => by have hk := hU k hk; omega) hL22 (fun _ _ h => h)
          have h7 := h7.keep hL22 (fun h => h)
          have hL19 := hL19.step0 hL22
          refine sreg ?_
          refine svP (xlss rfl rfl) (fun hc71 => ?_) (fun hc71 => ?_)
          · skip
            refine send ?_
            refine forget_wp [(1, _), (7, _), (8, _), (36, _), (37, _), (38, _), (42, _), (43, _), (44, _), (68, _), (69, _), (70, _), (71, _)] ⟨rfl, rfl, rfl, rfl, rfl, rfl, rfl, rfl, rfl, rfl, rfl, rfl, rfl, trivial⟩ fun _ => ?_
            refine wp_seq ?_
            refine cyes rfl ?_
            refine wp_skip ?_
            refine nThen ?_
            refine forget_wp [(1, _), (7, _), (8, _), (36, _), (37, _), (38, _), (42, _), (43, _), (44, _), (68, _), (69, _), (70, _)] ⟨rfl, rfl, rfl, rfl, rfl, rfl, rfl, rfl, rfl, rfl, rfl, rfl, trivial⟩ fun _ => ?_
            refine wp_seq ?_
            refine wp_block ?_
            obtain ⟨p, hpj⟩ := some_of_lt (by omega : j < r.pairs.length)
            have hps := sum_take_le (f := fun p : PairD => p.data.length + 4) hpj
            have hpa := sum_take_add (f := fun p : PairD => p.data.length + 4) hpj
            refine sreg ?_
            obtain ⟨bE72, oE72, sgE72, rfl, uE72, hsE72, heE72⟩ := LA.get hp hpj
            obtain ⟨vdp, rfl, hdp⟩ := heE72
            have zE72 := hU _ uE72
            obtain ⟨adp, cdp, rfl, -⟩ := id hdp
            refine sv (xidx sl63 sz67 rfl rfl rfl (by omega)) ?_
            refine sv (xldS (lens := [1, 1]) ro67 rfl hsE72) ?_
            refine svK (xallS (lens := [1, 1]) in67 rfl) ?_
            rintro _ w26 ⟨b12, rfl, m27, h12, e25, s25⟩
            have ha := ha.keep ask_st (fun k hk => by have hk := hU k hk; omega) m27 (fun _ _ h => h)
            have y1 := y1.keep rec_st (fun k hk => by have hk := hU k hk; omega) m27 (fun _ _ h => h)
            have y2 := y2.keep rec_st (fun k hk => by have hk := hU k hk; omega) m27 (fun _ _ h => h)
            have y3 := y3.keep rec_st (fun k hk => by have hk := hU k hk; omega) m27 (fun _ _ h => h)
            have hf := hf.step0 m27
            have h1 := h1.keep m27 (fun h => h)
            have r36 := r36.keep m27 (fun h => h)
            have hL7 := hL7.step0 m27
            have hL := hL.keep rec_st (fun k hk => by have hk := hU k hk; omega) m27 (fun _ _ h => h)
            have hL10 := hL10.step0 m27
            have hsE46 := hsE46.keep m27 (by omega) (fun h => h)
            have hd := hd.keep (fun k hk => by have hk := hU k hk; omega) m27 (fun _ _ h => h)
            have ht := ht.keep text_st (fun k hk => by have hk := hU k hk; omega) m27 (fun _ _ h => h)
            have hp := hp.keep pair_st (fun k hk => by have hk := hU k hk; omega) m27 (fun _ _ h => h)
            have h7 := h7.keep m27 (fun h => h)
            have hL19 := hL19.step0 m27
            have hL22 := hL22.step0 m27
            have hsE72 := hsE72.keep m27 (by omega) (fun h => h)
            have hdp := hdp.keep (fun k hk => by have hk := hU k hk; omega) m27 (fun _ _ h => h)
            refine suK (xstW h12 (lens' := [1, 1]) sz67 rfl rfl rfl rfl rfl) ?_
            rintro w29 ⟨m30, h12, s28⟩
            have ha := ha.keep ask_st (fun k hk => by have hk := hU k hk; omega) m30 (fun k hk hS => by have hk := hU k hk; have hS : k = b12 := hS; omega)
            have y1 := y1.keep rec_st (fun k hk => by have hk := hU k hk; omega) m30 (fun k hk hS => by have hk := hU k hk; have hS : k = b12 := hS; omega)
            have y2 := y2.keep rec_st (fun k hk => by have hk := hU k hk; omega) m30 (fun k hk hS => by have hk := hU k hk; have hS : k = b12 := hS; omega)
            have y3 := y3.keep rec_st (fun k hk => by have hk := hU k hk; omega) m30 (fun k hk hS => by have hk := hU k hk; have hS : k = b12 := hS; omega)
            have hf := hf.step m30 (fun k hk hS => by have hS : k = b12 := hS; show False; omega)
            have h1 := h1.keep m30 (by show ¬ (b1 = b12); omega)
            have r36 := r36.keep m30 (by show ¬ (b36 = b12); omega)
            have hL7 := hL7.step m30 (fun k hk hS => by have hS : k = b12 := hS; show False; omega)
            have hL := hL.keep rec_st (fun k hk => by have hk := hU k hk; omega) m30 (fun k hk hS => by have hk := hU k hk; have hS : k = b12 := hS; omega)
            have hL10 := hL10.step m30 (fun k hk hS => by have hS : k = b12 := hS; show False; omega)
            have hsE46 := hsE46.keep m30 (by omega) (by show ¬ (bE46 = b12); omega)
            have hd := hd.keep (fun k hk => by have hk := hU k hk; omega) m30 (fun k hk hS => by have hk := hU k hk; have hS : k = b12 := hS; omega)
            have ht := ht.keep text_st (fun k hk => by have hk := hU k hk; omega) m30 (fun k hk hS => by have hk := hU k hk; have hS : k = b12 := hS; omega)
            have hp := hp.keep pair_st (fun k hk => by have hk := hU k hk; omega) m30 (fun k hk hS => by have hk := hU k hk; have hS : k = b12 := hS; omega)
            have h7 := h7.keep m30 (by show ¬ (b7 = b12); omega)
            have hL19 := hL19.step m30 (fun k hk hS => by have hS : k = b12 := hS; show False; omega)
            have hL22 := hL22.step m30 (fun k hk hS => by have hS : k = b12 := hS; show False; omega)
            have hsE72 := hsE72.keep m30 (by omega) (by show ¬ (bE72 = b12); omega)
            have hdp := hdp.keep (fun k hk => by have hk := hU k hk; omega) m30 (fun k hk hS => by have hk := hU k hk; have hS : k = b12 := hS; omega)
            refine send ?_
            refine forget_wp [(1, _), (7, _), (8, _), (12, _), (36, _), (37, _), (38, _), (42, _), (43, _), (44, _), (68, _), (69, _), (70, _)] ⟨rfl, rfl, rfl, rfl, rfl, rfl, rfl, rfl, rfl, rfl, rfl, rfl, rfl, trivial⟩ fun _ => ?_
            refine lreg ?_
            refine sv (xmove rfl) ?_
            refine sv (xfld fl67_1 rfl) ?_
            refine sv (xld on37 rfl (h12.r.c 1 rfl rfl)) ?_
            refine sv (xlen sl37 rfl) ?_
            refine sv (xadd rfl rfl (w64 (by omega) (by omega))) ?_
            refine sv (xadd rfl rfl (w64 (by omega) (by omega))) ?_
            refine sv (xassign rfl) ?_
            refine lend ?_
            refine nBlock ?_
            refine nThen ?_
            refine forget_wp [(1, _), (7, _), (8, _), (36, _), (37, _), (38, _), (42, _), (43, _), (44, _), (68, _), (69, _), (70, _)] ⟨rfl, rfl, rfl, rfl, rfl, rfl, rfl, rfl, rfl, rfl, rfl, rfl, trivial⟩ fun _ => ?_
            refine lreg ?_
            refine sv (xadd rfl rfl (w64 (by omega) (by omega))) ?_
            refine sv (xmove rfl) ?_
            refine lend ?_
            refine nThen ?_
            refine ⟨(j + 1, s2 + (p.data.length + 4)), _, env_okl ⟨rfl, rfl, rfl, rfl, rfl, rfl, rfl, rfl, rfl, rfl, rfl, rfl, trivial⟩, ⟨hL22, (by omega), (by omega)⟩, ?_⟩
            show r.pairs.length - (j + 1) < r.pairs.length - j; omega
          · skip
            refine send ?_
            refine forget_wp [(1, _), (7, _), (8, _), (36, _), (37, _), (38, _), (42, _), (43, _), (44, _), (68, _), (69, _), (70, _), (71, _)] ⟨rfl, rfl, rfl, rfl, rfl, rfl, rfl, rfl, rfl, rfl, rfl, rfl, rfl, trivial⟩ fun _ => ?_
            refine wp_seq ?_
            refine cno rfl ?_
            refine wp_exit ?_
            refine eThen ?_
            refine eThen ?_
            refine eHit ?_
            refine nThen ?_
            refine forget_wp [(1, _), (7, _), (8, _), (36, _), (37, _), (38, _), (42, _), (43, _), (44, _)] ⟨rfl, rfl, rfl, rfl, rfl, rfl, rfl, rfl, rfl, trivial⟩ fun _ => ?_
            have eP : r.pairs.take j = r.pairs := List.take_of_length_le (by omega)
            rw [eP] at hs2
            refine sreg ?_
            refine sv (xfld fl65_5 rfl) ?_
            refine sv (xld on3 rfl (h7.r.c 5 rfl rfl)) ?_
            refine svP (xlss rfl rfl) (fun hc83 => ?_) (fun hc83 => ?_)
            · skip
              refine sv (xmove rfl) ?_
              refine gno rfl rfl rfl ?_
              refine gno rfl rfl rfl ?_
              refine gno rfl rfl rfl ?_
              refine sv (xpickT rfl rfl) ?_
              refine sv (xmove rfl) ?_
              refine gno rfl rfl rfl ?_
              refine gno rfl rfl rfl ?_
              refine sv (xpickT rfl rfl) ?_
              refine send ?_
              refine forget_wp [(1, _), (36, _), (37, _), (38, _), (42, _), (43, _), (44, _), (92, _)] ⟨rfl, rfl, rfl, rfl, rfl, rfl, rfl, rfl, trivial⟩ fun _ => ?_
              refine cyes rfl ?_
              refine sreg ?_
              refine sv (xassign rfl) ?_
              refine send ?_
              refine forget_wp [(2, _)] ⟨rfl, trivial⟩ fun _ => ?_
              refine wp_ret ?_
              refine rBlock ?_
              refine rThen ?_
              refine rThen ?_
              refine rBlock ?_
              refine rBlock ?_
              refine rThen ?_
              refine rThen ?_
              refine rBlock ?_
              refine rThen ?_
              refine rp1 rfl rfl ?_
              exact ⟨_, rfl, (fun h => by cases h), hf⟩
            · skip
              refine sv (xmove rfl) ?_
              refine gyes rfl rfl rfl ?_
              refine sv (xfld fl65_5 rfl) ?_
              refine gyes rfl rfl rfl ?_
              refine sv (xld on3 rfl (h7.r.c 5 rfl rfl)) ?_
              refine gyes rfl rfl rfl ?_
              refine svP (xgtr rfl rfl) (fun hc87 => ?_) (fun hc87 => ?_)
              · skip
                refine sv (xpickF rfl rfl) ?_
                refine sv (xmove rfl) ?_
                refine gno rfl rfl rfl ?_
                refine gno rfl rfl rfl ?_
                refine sv (xpickT rfl rfl) ?_
                refine send ?_
                refine forget_wp [(1, _), (36, _), (37, _), (38, _), (42, _), (43, _), (44, _), (92, _)] ⟨rfl, rfl, rfl, rfl, rfl, rfl, rfl, rfl, trivial⟩ fun _ => ?_
                refine cyes rfl ?_
                refine sreg ?_
                refine sv (xassign rfl) ?_
                refine send ?_
                refine forget_wp [(2, _)] ⟨rfl, trivial⟩ fun _ => ?_
                refine wp_ret ?_
                refine rBlock ?_
                refine rThen ?_
                refine rThen ?_
                refine rBlock ?_
                refine rBlock ?_
                refine rThen ?_
                refine rThen ?_
                refine rBlock ?_
                refine rThen ?_
                refine rp1 rfl rfl ?_
                exact ⟨_, rfl, (fun h => by cases h), hf⟩
              · skip
                refine sv (xpickF rfl rfl) ?_
                refine sv (xmove rfl) ?_
                refine gyes rfl rfl rfl ?_
                refine sv (xmove rfl) ?_
                refine gyes rfl rfl rfl ?_
                refine svP (xgtr rfl rfl) (fun hc91 => ?_) (fun hc91 => ?_)
                · skip
                  refine sv (xpickF rfl rfl) ?_
                  refine send ?_
                  refine forget_wp [(1, _), (36, _), (37, _), (38, _), (42, _), (43, _), (44, _), (92, _)] ⟨rfl, rfl, rfl, rfl, rfl, rfl, rfl, rfl, trivial⟩ fun _ => ?_
                  refine cyes rfl ?_
                  refine sreg ?_
                  refine sv (xassign rfl) ?_
                  refine send ?_
                  refine forget_wp [(2, _)] ⟨rfl, trivial⟩ fun _ => ?_
                  refine wp_ret ?_
                  refine rBlock ?_
                  refine rThen ?_
                  refine rThen ?_
                  refine rBlock ?_
                  refine rBlock ?_
                  refine rThen ?_
                  refine rThen ?_
                  refine rBlock ?_
                  refine rThen ?_
                  refine rp1 rfl rfl ?_
                  exact ⟨_, rfl, (fun h => by cases h), hf⟩
                · skip
                  refine sv (xpickF rfl rfl) ?_
                  refine send ?_
                  refine forget_wp [(1, _), (36, _), (37, _), (38, _), (42, _), (43, _), (44, _), (92, _)] ⟨rfl, rfl, rfl, rfl, rfl, rfl, rfl, rfl, trivial⟩ fun _ => ?_
                  refine cno rfl ?_
                  refine wp_skip ?_
                  refine nBlock ?_
                  refine nThen ?_
                  refine forget_wp [(1, _), (36, _), (37, _), (38, _), (42, _), (43, _), (44, _)] ⟨rfl, rfl, rfl, rfl, rfl, rfl, rfl, trivial⟩ fun _ => ?_
                  refine lreg ?_
                  refine sv (xadd rfl rfl (w64 (by omega) (by omega))) ?_
                  refine sv (xmove rfl) ?_
                  refine lend ?_
                  refine nThen ?_
                  refine ⟨k + 1, _, env_okl ⟨rfl, rfl, rfl, rfl, rfl, rfl, rfl, trivial⟩, ⟨hL10, (by omega), (upto_step hI hrk ⟨by omega, by omega, by simp only [sizeR]; omega⟩)⟩, ?_⟩
                  show l.length - (k + 1) < l.length - k; omega
      · skip
        refine send ?_
        refine forget_wp [(1, _), (36, _), (37, _), (38, _), (42, _), (43, _), (44, _), (45, _)] ⟨rfl, rfl, rfl, rfl, rfl, rfl, rfl, rfl, trivial⟩ fun _ => ?_
        refine wp_seq ?_
        refine cno rfl ?_
        refine wp_exit ?_
        refine eThen ?_
        refine eThen ?_
        refine eHit ?_
        refine nBlock ?_
        refine nThen ?_
        refine forget_wp [(1, _), (36, _), (37, _), (38, _)] ⟨rfl, rfl, rfl, rfl, trivial⟩ fun _ => ?_
        refine lreg ?_
        refine sv (xadd rfl rfl (w64 (by omega) (by omega))) ?_
        refine sv (xmove rfl) ?_
        refine lend ?_
        refine nThen ?_
        refine ⟨i + 1, _, env_okl ⟨rfl, rfl, rfl, rfl, trivial⟩, ⟨hL7, (by omega), (upto_step hO hul (upto_all hI (by omega)))⟩, ?_⟩
        show 3 - (i + 1) < 3 - i; omega
    · skip
      refine send ?_
      refine forget_wp [(1, _), (36, _), (37, _), (38, _), (39, _)] ⟨rfl, rfl, rfl, rfl, rfl, trivial⟩ fun _ => ?_
      refine wp_seq ?_
      refine cno rfl ?_
      refine wp_exit ?_
      refine eThen ?_
      refine eThen ?_
      refine eHit ?_
      refine nThen ?_
      refine forget_wp [(1, _)] ⟨rfl, trivial⟩ fun _ => ?_
      refine sreg ?_
      refine sv (xldS (lens := [1, 1, 1, 1, 1, 1, 1, 1, 1, 1, 1, 1, 1, 1]) ro34 rfl h1.r) ?_
      refine sc (xcall ca33 rfl) (c33 (fun k hk => by have hk := hU k hk; omega) ha y1 y2 y3 hfa hfr (by omega)) ?_
      rintro _ w31 ⟨gb96, rfl, gp96, m32⟩
      have z33 := m32.size
      have ha := ha.keep ask_st (fun k hk => by have hk := hU k hk; omega) m32 (fun _ _ h => h)
      have y1 := y1.keep rec_st (fun k hk => by have hk := hU k hk; omega) m32 (fun _ _ h => h)
      have y2 := y2.keep rec_st (fun k hk => by have hk := hU k hk; omega) m32 (fun _ _ h => h)
      have y3 := y3.keep rec_st (fun k hk => by have hk := hU k hk; omega) m32 (fun _ _ h => h)
      have hf := hf.step0 m32
      have h1 := h1.keep m32 (fun h => h)
      have r36 := r36.keep m32 (fun h => h)
      have hL7 := hL7.step0 m32
      rcases Bool.eq_false_or_eq_true gb96 with rfl | rfl
      · skip
        refine sv (xassign rfl) ?_
        refine send ?_
        refine forget_wp [(2, _)] ⟨rfl, trivial⟩ fun _ => ?_
        refine wp_ret ?_
        refine rp1 rfl rfl ?_
        exact ⟨_, rfl, (fun _ => ⟨by omega, upto_all hO (by simp; omega), gp96 rfl⟩), hf⟩
      · skip
        refine sv (xassign rfl) ?_
        refine send ?_
        refine forget_wp [(2, _)] ⟨rfl, trivial⟩ fun _ => ?_
        refine wp_ret ?_
        refine rp1 rfl rfl ?_
        exact ⟨_, rfl, (fun h => by cases h), hf⟩
end Go.Proofs.YtifnodoffgfpbaaGreatDoor
