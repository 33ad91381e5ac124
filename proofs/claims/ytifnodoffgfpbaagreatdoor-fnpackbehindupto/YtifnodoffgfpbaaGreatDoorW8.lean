/- Walks: messages that are looked at. Conditions: none. -/
import Derived.Test.YtifnodoffgfpbaaGreatDoorW7
namespace Go.Proofs.YtifnodoffgfpbaaGreatDoor
open Go
set_option maxHeartbeats 4000000 in
set_option maxRecDepth 100000 in
theorem c33 {w : World} {U : Nat → Prop} (hU : ∀ k, U k → k < w.heap.size) {m : MsgD} {va v1 v2 v3 : Value} (ha : LA AskEl lAsk U w va m.asks) (y1 : LA RecEl lRec U w v1 m.one) (y2 : LA RecEl lRec U w v2 m.two) (y3 : LA RecEl lRec U w v3 m.three) (hfa : ∀ a ∈ m.asks, a.name.size ≤ 1048576) (hfr : ∀ l ∈ [m.one, m.two, m.three], ∀ r ∈ l, r.fits) (hct : m.asks.length + m.one.length + m.two.length + m.three.length ≤ 40) :
    Ret PP 33 [ag (msgSegs m.head va v1 v2 v3)] w (Grd w (okM m)) := by
  have hls : All2 (LA RecEl lRec U w) [v1, v2, v3] [m.one, m.two, m.three] := All2.cons y1 (All2.cons y2 (All2.cons y3 All2.nil))
  obtain ⟨aa, ca, rfl⟩ := ha.form
  obtain ⟨a1, c1, rfl⟩ := y1.form
  obtain ⟨a2, c2, rfl⟩ := y2.form
  obtain ⟨a3, c3, rfl⟩ := y3.form
  have hf : Fr (fun _ => False) w w := Fr.refl _ _
  refine ret_of Tryz.func33 rfl rfl rfl [(0, _)] rfl ?_
  refine sreg ?_
  refine svK (xboxS (lens := [1, 1, 1, 1, 1, 1, 1, 1, 1, 1, 1, 1, 1, 1]) rfl rfl) ?_
  rintro _ w2 ⟨b1, rfl, m3, h1, e1, s1⟩
  have ha := ha.keep ask_st (fun k hk => by have hk := hU k hk; omega) m3 (fun _ _ h => h)
  have hf := hf.step0 m3
  refine sv (xassign rfl) ?_
  refine send ?_
  refine forget_wp [(1, _)] ⟨rfl, trivial⟩ fun _ => ?_
  refine sreg ?_
  refine sv (xassign rfl) ?_
  refine send ?_
  refine forget_wp [(1, _), (3, _)] ⟨rfl, rfl, trivial⟩ fun _ => ?_
  refine wp_seq ?_
  refine sreg ?_
  refine sv (xfld fl34_1 rfl) ?_
  refine sv (xld on31 rfl (h1.r.c 10 rfl rfl)) ?_
  refine sv (xlen sl31 rfl) ?_
  refine sv (xmove rfl) ?_
  refine send ?_
  refine forget_wp [(1, _), (3, _), (11, _), (12, _), (13, _)] ⟨rfl, rfl, rfl, rfl, rfl, trivial⟩ fun _ => ?_
  refine wp_block ?_
  refine lp [(1, _), (3, _), (11, _), (12, _)] (fun (k : Nat) => [(13, .int .i64 (k : Int))]) (fun (k : Nat) wx => Fr (fun _ => False) w2 wx ∧ (k ≤ m.asks.length) ∧ (∀ i (a : AskD), i < k → m.asks[i]? = some a → nameOk a.name = true)) (fun (k : Nat) => m.asks.length - k) 0 ⟨rfl, rfl, rfl, rfl, rfl, trivial⟩ ⟨Fr.refl _ _, Nat.zero_le _, upto_zero⟩ ?_
  rintro k _ w5 ⟨hL4, hk, hT⟩
  refine forget_wp [(1, _), (3, _), (11, _), (12, _), (13, _)] ⟨rfl, rfl, rfl, rfl, rfl, trivial⟩ fun _ => ?_
  have z6 := hL4.size
  have ha := ha.keep ask_st (fun k hk => by have hk := hU k hk; omega) hL4 (fun _ _ h => h)
  have hf := hf.step0 hL4
  have h1 := h1.keep hL4 (fun h => h)
  refine sreg ?_
  refine svP (xlss rfl rfl) (fun hc14 => ?_) (fun hc14 => ?_)
  · skip
    refine send ?_
    refine forget_wp [(1, _), (3, _), (11, _), (12, _), (13, _), (14, _)] ⟨rfl, rfl, rfl, rfl, rfl, rfl, trivial⟩ fun _ => ?_
    refine wp_seq ?_
    refine cyes rfl ?_
    refine wp_skip ?_
    refine nThen ?_
    refine forget_wp [(1, _), (3, _), (11, _), (12, _), (13, _)] ⟨rfl, rfl, rfl, rfl, rfl, trivial⟩ fun _ => ?_
    refine wp_seq ?_
    refine wp_block ?_
    obtain ⟨a, hak⟩ := some_of_lt (by omega : k < m.asks.length)
    have hal := hfa _ (List.mem_of_getElem? hak)
    refine sreg ?_
    obtain ⟨bE15, oE15, sgE15, rfl, uE15, hsE15, heE15⟩ := LA.get ha hak
    obtain rfl := heE15
    have zE15 := hU _ uE15
    refine sv (xidx sl31 sz59 rfl rfl rfl (by omega)) ?_
    refine sv (xldS (lens := [1, 1, 1]) ro59 rfl hsE15) ?_
    refine svK (xallS (lens := [1, 1, 1]) in59 rfl) ?_
    rintro _ w8 ⟨b5, rfl, m9, h5, e7, s7⟩
    have ha := ha.keep ask_st (fun k hk => by have hk := hU k hk; omega) m9 (fun _ _ h => h)
    have hf := hf.step0 m9
    have h1 := h1.keep m9 (fun h => h)
    have hL4 := hL4.step0 m9
    have hsE15 := hsE15.keep m9 (by omega) (fun h => h)
    refine suK (xstW h5 (lens' := [1, 1, 1]) sz59 rfl rfl rfl rfl rfl) ?_
    rintro w11 ⟨m12, h5, s10⟩
    have ha := ha.keep ask_st (fun k hk => by have hk := hU k hk; omega) m12 (fun k hk hS => by have hk := hU k hk; have hS : k = b5 := hS; omega)
    have hf := hf.step m12 (fun k hk hS => by have hS : k = b5 := hS; show False; omega)
    have h1 := h1.keep m12 (by show ¬ (b1 = b5); omega)
    have hL4 := hL4.step m12 (fun k hk hS => by have hS : k = b5 := hS; show False; omega)
    have hsE15 := hsE15.keep m12 (by omega) (by show ¬ (bE15 = b5); omega)
    refine send ?_
    refine forget_wp [(1, _), (3, _), (5, _), (11, _), (12, _), (13, _)] ⟨rfl, rfl, rfl, rfl, rfl, rfl, trivial⟩ fun _ => ?_
    refine sreg ?_
    refine sv (xfld fl59_0 rfl) ?_
    refine sv (xld on9 rfl (h5.r.c 0 rfl rfl)) ?_
    refine sc (xcall ca82 rfl) (c82 (by omega)) ?_
    rintro _ w13 ⟨gb19, rfl, gp19, m14⟩
    have z15 := m14.size
    have ha := ha.keep ask_st (fun k hk => by have hk := hU k hk; omega) m14 (fun _ _ h => h)
    have hf := hf.step0 m14
    have h1 := h1.keep m14 (fun h => h)
    have hL4 := hL4.step0 m14
    have hsE15 := hsE15.keep m14 (by omega) (fun h => h)
    have h5 := h5.keep m14 (fun h => h)
    rcases Bool.eq_false_or_eq_true gb19 with rfl | rfl
    · skip
      refine sv (xnot rfl) ?_
      refine send ?_
      refine forget_wp [(1, _), (3, _), (11, _), (12, _), (13, _), (20, _)] ⟨rfl, rfl, rfl, rfl, rfl, rfl, trivial⟩ fun _ => ?_
      refine cno rfl ?_
      refine wp_skip ?_
      refine nBlock ?_
      refine nThen ?_
      refine forget_wp [(1, _), (3, _), (11, _), (12, _), (13, _)] ⟨rfl, rfl, rfl, rfl, rfl, trivial⟩ fun _ => ?_
      refine lreg ?_
      refine sv (xadd rfl rfl (w64 (by omega) (by omega))) ?_
      refine sv (xmove rfl) ?_
      refine lend ?_
      refine nThen ?_
      refine ⟨k + 1, _, env_okl ⟨rfl, rfl, rfl, rfl, rfl, trivial⟩, ⟨hL4, (by omega), (upto_step hT hak (gp19 rfl))⟩, ?_⟩
      show m.asks.length - (k + 1) < m.asks.length - k; omega
    · skip
      refine sv (xnot rfl) ?_
      refine send ?_
      refine forget_wp [(1, _), (3, _), (11, _), (12, _), (13, _), (20, _)] ⟨rfl, rfl, rfl, rfl, rfl, rfl, trivial⟩ fun _ => ?_
      refine cyes rfl ?_
      refine sreg ?_
      refine sv (xassign rfl) ?_
      refine send ?_
      refine forget_wp [(2, _)] ⟨rfl, trivial⟩ fun _ => ?_
      refine wp_ret ?_
      refine rBlock ?_
      refine rThen ?_
      refine rThen ?_
      refine rBlock ?_
      refine rThen ?_
      refine rp1 rfl rfl ?_
      exact ⟨_, rfl, (fun h => by cases h), hf⟩
  · skip
    refine send ?_
    refine forget_wp [(1, _), (3, _), (11, _), (12, _), (13, _), (14, _)] ⟨rfl, rfl, rfl, rfl, rfl, rfl, trivial⟩ fun _ => ?_
    refine wp_seq ?_
    refine cno rfl ?_
    refine wp_exit ?_
    refine eThen ?_
    refine eThen ?_
    refine eHit ?_
    refine nThen ?_
    refine forget_wp [(1, _), (3, _)] ⟨rfl, rfl, trivial⟩ fun _ => ?_
    refine wp_seq ?_
    refine sreg ?_
    refine sv (xfld fl34_2 rfl) ?_
    refine sv (xld on32 rfl (h1.r.c 11 rfl rfl)) ?_
    refine sv (xfld fl34_3 rfl) ?_
    refine sv (xld on32 rfl (h1.r.c 12 rfl rfl)) ?_
    refine sv (xfld fl34_4 rfl) ?_
    refine sv (xld on32 rfl (h1.r.c 13 rfl rfl)) ?_
    refine svK (xslit ([.slice a1 m.one.length c1, .slice a2 m.two.length c2, .slice a3 m.three.length c3]) sl60 in32 rfl (by decide) rfl rfl rfl rfl (by decide) rfl rfl) ?_
    rintro _ w17 ⟨b28, rfl, m18, h28, e28, s28, r28⟩
    have ha := ha.keep ask_st (fun k hk => by have hk := hU k hk; omega) m18 (fun _ _ h => h)
    have hf := hf.step0 m18
    have h1 := h1.keep m18 (fun h => h)
    have hL4 := hL4.step0 m18
    refine sv (xlen sl60 rfl) ?_
    refine sv (xmove rfl) ?_
    refine send ?_
    refine forget_wp [(1, _), (3, _), (28, _), (29, _), (30, _)] ⟨rfl, rfl, rfl, rfl, rfl, trivial⟩ fun _ => ?_
    refine wp_block ?_
    refine lp [(1, _), (28, _), (29, _)] (fun (x : Nat × Nat) => match x with | (i, s) => [(3, .int .i64 (s : Int)), (30, .int .i64 (i : Int))]) (fun (x : Nat × Nat) wx => match x with | (i, s) => Fr (fun _ => False) w17 wx ∧ (i ≤ 3) ∧ (∀ j (l : List RecD), j < i → [m.one, m.two, m.three][j]? = some l → ∀ r ∈ l, goodR r) ∧ (s ≤ 10000000 * (([m.one, m.two, m.three].take i).map List.length).sum)) (fun (x : Nat × Nat) => match x with | (i, s) => 3 - i) (0, 0) ⟨rfl, rfl, rfl, rfl, rfl, trivial⟩ ⟨Fr.refl _ _, Nat.zero_le _, upto_zero, Nat.zero_le _⟩ ?_
    rintro ⟨i, s⟩ _ w20 ⟨hL19, hi, hO, hs⟩
    refine forget_wp [(1, _), (3, _), (28, _), (29, _), (30, _)] ⟨rfl, rfl, rfl, rfl, rfl, trivial⟩ fun _ => ?_
    have z21 := hL19.size
    have ha := ha.keep ask_st (fun k hk => by have hk := hU k hk; omega) hL19 (fun _ _ h => h)
    have hf := hf.step0 hL19
    have h1 := h1.keep hL19 (fun h => h)
    have hL4 := hL4.step0 hL19
    have r28 := r28.keep hL19 (fun h => h)
    refine sreg ?_
    refine svP (xlss rfl rfl) (fun hc31 => ?_) (fun hc31 => ?_)
    · skip
      refine send ?_
      refine forget_wp [(1, _), (3, _), (28, _), (29, _), (30, _), (31, _)] ⟨rfl, rfl, rfl, rfl, rfl, rfl, trivial⟩ fun _ => ?_
      refine wp_seq ?_
      refine cyes rfl ?_
      refine wp_skip ?_
      refine nThen ?_
      refine forget_wp [(1, _), (3, _), (28, _), (29, _), (30, _)] ⟨rfl, rfl, rfl, rfl, rfl, trivial⟩ fun _ => ?_
      refine wp_seq ?_
      refine wp_block ?_
      refine sreg ?_
      obtain ⟨u, l, hu, hul, hL⟩ := hls.get (k := i) (by simp; omega)
      have hL := hL.keep rec_st hU hf (fun _ _ h => h)
      have hlm : l ∈ [m.one, m.two, m.three] := List.mem_of_getElem? hul
      have hcs := sum_take_le (f := List.length) hul
      simp only [List.map_cons, List.map_nil, List.sum_cons, List.sum_nil] at hcs
      obtain ⟨au, cu, rfl⟩ := hL.form
      refine sv (xidx1 sl60 sz32 rfl rfl rfl (by omega)) ?_
      refine sv (xld on32 rfl (Rw.rng r28 i _ hu)) ?_
      refine sv (xassign rfl) ?_
      refine send ?_
      refine forget_wp [(1, _), (3, _), (7, _), (28, _), (29, _), (30, _)] ⟨rfl, rfl, rfl, rfl, rfl, rfl, trivial⟩ fun _ => ?_
      refine sreg ?_
      refine sv (xmove rfl) ?_
      refine sv (xlen sl32 rfl) ?_
      refine sv (xmove rfl) ?_
      refine send ?_
      refine forget_wp [(1, _), (3, _), (28, _), (29, _), (30, _), (34, _), (35, _), (36, _)] ⟨rfl, rfl, rfl, rfl, rfl, rfl, rfl, rfl, trivial⟩ fun _ => ?_
      refine wp_block ?_
      refine lp [(1, _), (28, _), (29, _), (30, _), (34, _), (35, _)] (fun (x : Nat × Nat) => match x with | (k, s2) => [(3, .int .i64 (s2 : Int)), (36, .int .i64 (k : Int))]) (fun (x : Nat × Nat) wx => match x with | (k, s2) => Fr (fun _ => False) w20 wx ∧ (k ≤ l.length) ∧ (∀ j (r : RecD), j < k → l[j]? = some r → goodR r) ∧ (s2 ≤ 10000000 * ((([m.one, m.two, m.three].take i).map List.length).sum + k))) (fun (x : Nat × Nat) => match x with | (k, s2) => l.length - k) (0, s) ⟨rfl, rfl, rfl, rfl, rfl, rfl, rfl, rfl, trivial⟩ ⟨Fr.refl _ _, Nat.zero_le _, upto_zero, hs⟩ ?_
      rintro ⟨k, s2⟩ _ w23 ⟨hL22, hk, hI, hs2⟩
      refine forget_wp [(1, _), (3, _), (28, _), (29, _), (30, _), (34, _), (35, _), (36, _)] ⟨rfl, rfl, rfl, rfl, rfl, rfl, rfl, rfl, trivial⟩ fun _ => ?_
      have z24 := hL22.size
      have ha := ha.keep ask_st (fun k hk => by have hk := hU k hk; omega) hL22 (fun _ _ h => h)
      have hf := hf.step0 hL22
      have h1 := h1.keep hL22 (fun h => h)
      have hL4 := hL4.step0 hL22
      have r28 := r28.keep hL22 (fun h => h)
      have hL19 := hL19.step0 hL22
      have hL := hL.keep rec_st (fun k hk => by have hk := hU k hk; omega) hL22 (fun _ _ h => h)
      refine sreg ?_
      refine svP (xlss rfl rfl) (fun hc37 => ?_) (fun hc37 => ?_)
      · skip
        refine send ?_
        refine forget_wp [(1, _), (3, _), (28, _), (29, _), (30, _), (34, _), (35, _), (36, _), (37, _)] ⟨rfl, rfl, rfl, rfl, rfl, rfl, rfl, rfl, rfl, trivial⟩ fun _ => ?_
        refine wp_seq ?_
        refine cyes rfl ?_
        refine wp_skip ?_
        refine nThen ?_
        refine forget_wp [(1, _), (3, _), (28, _), (29, _), (30, _), (34, _), (35, _), (36, _)] ⟨rfl, rfl, rfl, rfl, rfl, rfl, rfl, rfl, trivial⟩ fun _ => ?_
        refine wp_seq ?_
        refine wp_block ?_
        obtain ⟨r, hrk⟩ := some_of_lt (by omega : k < l.length)
        have hrf := hfr l hlm r (List.mem_of_getElem? hrk)
        have hrf0 := hrf
        simp only [RecD.fits] at hrf0
        have hbl := bodyL_fits hrf
        refine sreg ?_
        obtain ⟨bE38, oE38, sgE38, rfl, uE38, hsE38, heE38⟩ := LA.get hL hrk
        obtain ⟨vd, vt, vp, rfl, hd, ht, hp⟩ := heE38
        have zE38 := hU _ uE38
        obtain ⟨ad, cd, rfl, -⟩ := id hd
        obtain ⟨at1, ct1, rfl⟩ := ht.form
        obtain ⟨ap1, cp1, rfl⟩ := hp.form
        refine sv (xidx sl32 sz65 rfl rfl rfl (by omega)) ?_
        refine sv (xldS (lens := [1, 1, 1, 1, 1, 1, 1, 1, 1, 1, 1, 1, 1, 1, 1, 1]) ro65 rfl hsE38) ?_
        refine svK (xallS (lens := [1, 1, 1, 1, 1, 1, 1, 1, 1, 1, 1, 1, 1, 1, 1, 1]) in65 rfl) ?_
        rintro _ w26 ⟨b9, rfl, m27, h9, e25, s25⟩
        have ha := ha.keep ask_st (fun k hk => by have hk := hU k hk; omega) m27 (fun _ _ h => h)
        have hf := hf.step0 m27
        have h1 := h1.keep m27 (fun h => h)
        have hL4 := hL4.step0 m27
        have r28 := r28.keep m27 (fun h => h)
        have hL19 := hL19.step0 m27
        have hL := hL.keep rec_st (fun k hk => by have hk := hU k hk; omega) m27 (fun _ _ h => h)
        have hL22 := hL22.step0 m27
        have hsE38 := hsE38.keep m27 (by omega) (fun h => h)
        have hd := hd.keep (fun k hk => by have hk := hU k hk; omega) m27 (fun _ _ h => h)
        have ht := ht.keep text_st (fun k hk => by have hk := hU k hk; omega) m27 (fun _ _ h => h)
        have hp := hp.keep pair_st (fun k hk => by have hk := hU k hk; omega) m27 (fun _ _ h => h)
        refine suK (xstW h9 (lens' := [1, 1, 1, 1, 1, 1, 1, 1, 1, 1, 1, 1, 1, 1, 1, 1]) sz65 rfl rfl rfl rfl rfl) ?_
        rintro w29 ⟨m30, h9, s28⟩
        have ha := ha.keep ask_st (fun k hk => by have hk := hU k hk; omega) m30 (fun k hk hS => by have hk := hU k hk; have hS : k = b9 := hS; omega)
        have hf := hf.step m30 (fun k hk hS => by have hS : k = b9 := hS; show False; omega)
        have h1 := h1.keep m30 (by show ¬ (b1 = b9); omega)
        have hL4 := hL4.step m30 (fun k hk hS => by have hS : k = b9 := hS; show False; omega)
        have r28 := r28.keep m30 (by show ¬ (b28 = b9); omega)
        have hL19 := hL19.step m30 (fun k hk hS => by have hS : k = b9 := hS; show False; omega)
        have hL := hL.keep rec_st (fun k hk => by have hk := hU k hk; omega) m30 (fun k hk hS => by have hk := hU k hk; have hS : k = b9 := hS; omega)
        have hL22 := hL22.step m30 (fun k hk hS => by have hS : k = b9 := hS; show False; omega)
        have hsE38 := hsE38.keep m30 (by omega) (by show ¬ (bE38 = b9); omega)
        have hd := hd.keep (fun k hk => by have hk := hU k hk; omega) m30 (fun k hk hS => by have hk := hU k hk; have hS : k = b9 := hS; omega)
        have ht := ht.keep text_st (fun k hk => by have hk := hU k hk; omega) m30 (fun k hk hS => by have hk := hU k hk; have hS : k = b9 := hS; omega)
        have hp := hp.keep pair_st (fun k hk => by have hk := hU k hk; omega) m30 (fun k hk hS => by have hk := hU k hk; have hS : k = b9 := hS; omega)
        refine send ?_
        refine forget_wp [(1, _), (3, _), (9, _), (28, _), (29, _), (30, _), (34, _), (35, _), (36, _)] ⟨rfl, rfl, rfl, rfl, rfl, rfl, rfl, rfl, rfl, trivial⟩ fun _ => ?_
        refine wp_seq ?_
        refine sreg ?_
        refine sv (xfld fl65_0 rfl) ?_
        refine sv (xld on9 rfl (h9.r.c 0 rfl rfl)) ?_
        refine sc (xcall ca82 rfl) (c82 (by omega)) ?_
        rintro _ w31 ⟨gb42, rfl, gp42, m32⟩
        have z33 := m32.size
        have ha := ha.keep ask_st (fun k hk => by have hk := hU k hk; omega) m32 (fun _ _ h => h)
        have hf := hf.step0 m32
        have h1 := h1.keep m32 (fun h => h)
        have hL4 := hL4.step0 m32
        have r28 := r28.keep m32 (fun h => h)
        have hL19 := hL19.step0 m32
        have hL := hL.keep rec_st (fun k hk => by have hk := hU k hk; omega) m32 (fun _ _ h => h)
        have hL22 := hL22.step0 m32
        have hsE38 := hsE38.keep m32 (by omega) (fun h => h)
        have hd := hd.keep (fun k hk => by have hk := hU k hk; omega) m32 (fun _ _ h => h)
        have ht := ht.keep text_st (fun k hk => by have hk := hU k hk; omega) m32 (fun _ _ h => h)
        have hp := hp.keep pair_st (fun k hk => by have hk := hU k hk; omega) m32 (fun _ _ h => h)
        have h9 := h9.keep m32 (fun h => h)
        rcases Bool.eq_false_or_eq_true gb42 with rfl | rfl
        · skip
          refine sv (xnot rfl) ?_
          refine sv (xmove rfl) ?_
          refine gyes rfl rfl rfl ?_
          refine sv (xldS (lens := [1, 1, 1, 1, 1, 1, 1, 1, 1, 1, 1, 1, 1, 1, 1, 1]) ro65 rfl h9.r) ?_
          refine gyes rfl rfl rfl ?_
          refine sc (xcall ca83 rfl) (c83 (fun k hk => by have hk := hU k hk; omega) hd ht hp hrf) ?_
          rintro _ w34 ⟨gb46, rfl, gp46, m35⟩
          have z36 := m35.size
          have ha := ha.keep ask_st (fun k hk => by have hk := hU k hk; omega) m35 (fun _ _ h => h)
          have hf := hf.step0 m35
          have h1 := h1.keep m35 (fun h => h)
          have hL4 := hL4.step0 m35
          have r28 := r28.keep m35 (fun h => h)
          have hL19 := hL19.step0 m35
          have hL := hL.keep rec_st (fun k hk => by have hk := hU k hk; omega) m35 (fun _ _ h => h)
          have hL22 := hL22.step0 m35
          have hsE38 := hsE38.keep m35 (by omega) (fun h => h)
          have hd := hd.keep (fun k hk => by have hk := hU k hk; omega) m35 (fun _ _ h => h)
          have ht := ht.keep text_st (fun k hk => by have hk := hU k hk; omega) m35 (fun _ _ h => h)
          have hp := hp.keep pair_st (fun k hk => by have hk := hU k hk; omega) m35 (fun _ _ h => h)
          have h9 := h9.keep m35 (fun h => h)
          rcases Bool.eq_false_or_eq_true gb46 with rfl | rfl
          · skip
            refine gyes rfl rfl rfl ?_
            refine sv (xnot rfl) ?_
            refine sv (xpickF rfl rfl) ?_
            refine send ?_
            refine forget_wp [(1, _), (3, _), (9, _), (28, _), (29, _), (30, _), (34, _), (35, _), (36, _), (48, _)] ⟨rfl, rfl, rfl, rfl, rfl, rfl, rfl, rfl, rfl, rfl, trivial⟩ fun _ => ?_
            refine cno rfl ?_
            refine wp_skip ?_
            refine nThen ?_
            refine forget_wp [(1, _), (3, _), (9, _), (28, _), (29, _), (30, _), (34, _), (35, _), (36, _)] ⟨rfl, rfl, rfl, rfl, rfl, rfl, rfl, rfl, rfl, trivial⟩ fun _ => ?_
            refine lreg ?_
            refine sv (xmove rfl) ?_
            refine sv (xldS (lens := [1, 1, 1, 1, 1, 1, 1, 1, 1, 1, 1, 1, 1, 1, 1, 1]) ro65 rfl h9.r) ?_
            refine sc (xcall ca84 rfl) (c84 (fun k hk => by have hk := hU k hk; omega) hd ht hp hrf) ?_
            rintro _ w37 ⟨p51, q51, g51, rfl, r51, m38, a51, l51⟩
            have z39 := m38.size
            have ha := ha.keep ask_st (fun k hk => by have hk := hU k hk; omega) m38 (fun _ _ h => h)
            have hf := hf.step0 m38
            have h1 := h1.keep m38 (fun h => h)
            have hL4 := hL4.step0 m38
            have r28 := r28.keep m38 (fun h => h)
            have hL19 := hL19.step0 m38
            have hL := hL.keep rec_st (fun k hk => by have hk := hU k hk; omega) m38 (fun _ _ h => h)
            have hL22 := hL22.step0 m38
            have hsE38 := hsE38.keep m38 (by omega) (fun h => h)
            have hd := hd.keep (fun k hk => by have hk := hU k hk; omega) m38 (fun _ _ h => h)
            have ht := ht.keep text_st (fun k hk => by have hk := hU k hk; omega) m38 (fun _ _ h => h)
            have hp := hp.keep pair_st (fun k hk => by have hk := hU k hk; omega) m38 (fun _ _ h => h)
            have h9 := h9.keep m38 (fun h => h)
            refine sv (xlen sl37 rfl) ?_
            refine sv (xadd rfl rfl (w64 (by omega) (by omega))) ?_
            refine sv (xassign rfl) ?_
            refine lend ?_
            refine nBlock ?_
            refine nThen ?_
            refine forget_wp [(1, _), (3, _), (28, _), (29, _), (30, _), (34, _), (35, _), (36, _)] ⟨rfl, rfl, rfl, rfl, rfl, rfl, rfl, rfl, trivial⟩ fun _ => ?_
            refine lreg ?_
            refine sv (xadd rfl rfl (w64 (by omega) (by omega))) ?_
            refine sv (xmove rfl) ?_
            refine lend ?_
            refine nThen ?_
            refine ⟨(k + 1, s2 + (bodyL r).length), _, env_okl ⟨rfl, rfl, rfl, rfl, rfl, rfl, rfl, rfl, trivial⟩, ⟨hL22, (by omega), (upto_step hI hrk ⟨gp42 rfl, gp46 rfl⟩), (by omega)⟩, ?_⟩
            show l.length - (k + 1) < l.length - k; omega
          · skip
            refine gyes rfl rfl rfl ?_
            refine sv (xnot rfl) ?_
            refine sv (xpickF rfl rfl) ?_
            refine send ?_
            refine forget_wp [(1, _), (3, _), (9, _), (28, _), (29, _), (30, _), (34, _), (35, _), (36, _), (48, _)] ⟨rfl, rfl, rfl, rfl, rfl, rfl, rfl, rfl, rfl, rfl, trivial⟩ fun _ => ?_
            refine cyes rfl ?_
            refine sreg ?_
            refine sv (xassign rfl) ?_
            refine send ?_
            refine forget_wp [(2, _)] ⟨rfl, trivial⟩ fun _ => ?_
            refine wp_ret ?_
            refine rThen ?_
            refine rBlock ?_
            refine rThen ?_
            refine rThen ?_
            refine rBlock ?_
            refine rBlock ?_
            refine rThen ?_
            refine rThen ?_
            refine rBlock ?_
            refine rThen ?_
            refine rp1 rfl rfl ?_
            exact ⟨_, rfl, (fun h => by cases h), hf⟩
        · skip
          refine sv (xnot rfl) ?_
          refine sv (xmove rfl) ?_
          refine gno rfl rfl rfl ?_
          refine gno rfl rfl rfl ?_
          refine gno rfl rfl rfl ?_
          refine sv (xpickT rfl rfl) ?_
          refine send ?_
          refine forget_wp [(1, _), (3, _), (9, _), (28, _), (29, _), (30, _), (34, _), (35, _), (36, _), (48, _)] ⟨rfl, rfl, rfl, rfl, rfl, rfl, rfl, rfl, rfl, rfl, trivial⟩ fun _ => ?_
          refine cyes rfl ?_
          refine sreg ?_
          refine sv (xassign rfl) ?_
          refine send ?_
          refine forget_wp [(2, _)] ⟨rfl, trivial⟩ fun _ => ?_
          refine wp_ret ?_
          refine rThen ?_
          refine rBlock ?_
          refine rThen ?_
          refine rThen ?_
          refine rBlock ?_
          refine rBlock ?_
          refine rThen ?_
          refine rThen ?_
          refine rBlock ?_
          refine rThen ?_
          refine rp1 rfl rfl ?_
          exact ⟨_, rfl, (fun h => by cases h), hf⟩
      · skip
        refine send ?_
        refine forget_wp [(1, _), (3, _), (28, _), (29, _), (30, _), (34, _), (35, _), (36, _), (37, _)] ⟨rfl, rfl, rfl, rfl, rfl, rfl, rfl, rfl, rfl, trivial⟩ fun _ => ?_
        refine wp_seq ?_
        refine cno rfl ?_
        refine wp_exit ?_
        refine eThen ?_
        refine eThen ?_
        refine eHit ?_
        refine nBlock ?_
        refine nThen ?_
        refine forget_wp [(1, _), (3, _), (28, _), (29, _), (30, _)] ⟨rfl, rfl, rfl, rfl, rfl, trivial⟩ fun _ => ?_
        refine lreg ?_
        refine sv (xadd rfl rfl (w64 (by omega) (by omega))) ?_
        refine sv (xmove rfl) ?_
        refine lend ?_
        refine nThen ?_
        refine ⟨(i + 1, s2), _, env_okl ⟨rfl, rfl, rfl, rfl, rfl, trivial⟩, ⟨hL19, (by omega), (upto_step hO hul (upto_all hI (by omega))), (by rw [sum_take_add hul]; omega)⟩, ?_⟩
        show 3 - (i + 1) < 3 - i; omega
    · skip
      refine send ?_
      refine forget_wp [(1, _), (3, _), (28, _), (29, _), (30, _), (31, _)] ⟨rfl, rfl, rfl, rfl, rfl, rfl, trivial⟩ fun _ => ?_
      refine wp_seq ?_
      refine cno rfl ?_
      refine wp_exit ?_
      refine eThen ?_
      refine eThen ?_
      refine eHit ?_
      refine nThen ?_
      refine forget_wp [(1, _), (3, _)] ⟨rfl, rfl, trivial⟩ fun _ => ?_
      refine sreg ?_
      refine sv (xfld fl34_0 rfl) ?_
      refine sv (xldS (lens := [1, 1, 1, 1, 1, 1, 1, 1, 1, 1]) ro30 rfl (h1.r.sub 0 10 rfl)) ?_
      refine sc (xcall ca85 rfl) (c85 (h := m.head)) ?_
      rintro _ w40 ⟨gb58, rfl, gp58, m41⟩
      have z42 := m41.size
      have ha := ha.keep ask_st (fun k hk => by have hk := hU k hk; omega) m41 (fun _ _ h => h)
      have hf := hf.step0 m41
      have h1 := h1.keep m41 (fun h => h)
      have hL4 := hL4.step0 m41
      have r28 := r28.keep m41 (fun h => h)
      have hL19 := hL19.step0 m41
      rcases Bool.eq_false_or_eq_true gb58 with rfl | rfl
      · skip
        refine sv (xmove rfl) ?_
        refine gyes rfl rfl rfl ?_
        refine sv (xfld fl34_1 rfl) ?_
        refine gyes rfl rfl rfl ?_
        refine sv (xld on31 rfl (h1.r.c 10 rfl rfl)) ?_
        refine gyes rfl rfl rfl ?_
        refine sv (xlen sl31 rfl) ?_
        refine gyes rfl rfl rfl ?_
        refine svP (xlss rfl rfl) (fun hc63 => ?_) (fun hc63 => ?_)
        · skip
          refine sv (xpickT rfl rfl) ?_
          refine sv (xmove rfl) ?_
          refine gyes rfl rfl rfl ?_
          refine sv (xfld fl34_2 rfl) ?_
          refine gyes rfl rfl rfl ?_
          refine sv (xld on32 rfl (h1.r.c 11 rfl rfl)) ?_
          refine gyes rfl rfl rfl ?_
          refine sv (xlen sl32 rfl) ?_
          refine gyes rfl rfl rfl ?_
          refine svP (xlss rfl rfl) (fun hc69 => ?_) (fun hc69 => ?_)
          · skip
            refine sv (xpickT rfl rfl) ?_
            refine sv (xmove rfl) ?_
            refine gyes rfl rfl rfl ?_
            refine sv (xfld fl34_3 rfl) ?_
            refine gyes rfl rfl rfl ?_
            refine sv (xld on32 rfl (h1.r.c 12 rfl rfl)) ?_
            refine gyes rfl rfl rfl ?_
            refine sv (xlen sl32 rfl) ?_
            refine gyes rfl rfl rfl ?_
            refine svP (xlss rfl rfl) (fun hc75 => ?_) (fun hc75 => ?_)
            · skip
              refine sv (xpickT rfl rfl) ?_
              refine sv (xmove rfl) ?_
              refine gyes rfl rfl rfl ?_
              refine sv (xfld fl34_4 rfl) ?_
              refine gyes rfl rfl rfl ?_
              refine sv (xld on32 rfl (h1.r.c 13 rfl rfl)) ?_
              refine gyes rfl rfl rfl ?_
              refine sv (xlen sl32 rfl) ?_
              refine gyes rfl rfl rfl ?_
              refine svP (xlss rfl rfl) (fun hc81 => ?_) (fun hc81 => ?_)
              · skip
                refine sv (xpickT rfl rfl) ?_
                refine sv (xmove rfl) ?_
                refine gyes rfl rfl rfl ?_
                refine sv (xmove rfl) ?_
                refine gyes rfl rfl rfl ?_
                refine svP (xlss rfl rfl) (fun hc85 => ?_) (fun hc85 => ?_)
                · skip
                  refine sv (xpickT rfl rfl) ?_
                  refine sv (xassign rfl) ?_
                  refine send ?_
                  refine forget_wp [(2, _)] ⟨rfl, trivial⟩ fun _ => ?_
                  refine wp_ret ?_
                  refine rp1 rfl rfl ?_
                  exact ⟨_, rfl, (fun _ => ⟨upto_all hT (by omega), upto_all hO (by simp; omega), gp58 rfl⟩), hf⟩
                · skip
                  refine sv (xpickT rfl rfl) ?_
                  refine sv (xassign rfl) ?_
                  refine send ?_
                  refine forget_wp [(2, _)] ⟨rfl, trivial⟩ fun _ => ?_
                  refine wp_ret ?_
                  refine rp1 rfl rfl ?_
                  exact ⟨_, rfl, (fun h => by cases h), hf⟩
              · skip
                refine sv (xpickT rfl rfl) ?_
                refine sv (xmove rfl) ?_
                refine gno rfl rfl rfl ?_
                refine gno rfl rfl rfl ?_
                refine sv (xpickF rfl rfl) ?_
                refine sv (xassign rfl) ?_
                refine send ?_
                refine forget_wp [(2, _)] ⟨rfl, trivial⟩ fun _ => ?_
                refine wp_ret ?_
                refine rp1 rfl rfl ?_
                exact ⟨_, rfl, (fun h => by cases h), hf⟩
            · skip
              refine sv (xpickT rfl rfl) ?_
              refine sv (xmove rfl) ?_
              refine gno rfl rfl rfl ?_
              refine gno rfl rfl rfl ?_
              refine gno rfl rfl rfl ?_
              refine gno rfl rfl rfl ?_
              refine sv (xpickF rfl rfl) ?_
              refine sv (xmove rfl) ?_
              refine gno rfl rfl rfl ?_
              refine gno rfl rfl rfl ?_
              refine sv (xpickF rfl rfl) ?_
              refine sv (xassign rfl) ?_
              refine send ?_
              refine forget_wp [(2, _)] ⟨rfl, trivial⟩ fun _ => ?_
              refine wp_ret ?_
              refine rp1 rfl rfl ?_
              exact ⟨_, rfl, (fun h => by cases h), hf⟩
          · skip
            refine sv (xpickT rfl rfl) ?_
            refine sv (xmove rfl) ?_
            refine gno rfl rfl rfl ?_
            refine gno rfl rfl rfl ?_
            refine gno rfl rfl rfl ?_
            refine gno rfl rfl rfl ?_
            refine sv (xpickF rfl rfl) ?_
            refine sv (xmove rfl) ?_
            refine gno rfl rfl rfl ?_
            refine gno rfl rfl rfl ?_
            refine gno rfl rfl rfl ?_
            refine gno rfl rfl rfl ?_
            refine sv (xpickF rfl rfl) ?_
            refine sv (xmove rfl) ?_
            refine gno rfl rfl rfl ?_
            refine gno rfl rfl rfl ?_
            refine sv (xpickF rfl rfl) ?_
            refine sv (xassign rfl) ?_
            refine send ?_
            refine forget_wp [(2, _)] ⟨rfl, trivial⟩ fun _ => ?_
            refine wp_ret ?_
            refine rp1 rfl rfl ?_
            exact ⟨_, rfl, (fun h => by cases h), hf⟩
        · skip
          refine sv (xpickT rfl rfl) ?_
          refine sv (xmove rfl) ?_
          refine gno rfl rfl rfl ?_
          refine gno rfl rfl rfl ?_
          refine gno rfl rfl rfl ?_
          refine gno rfl rfl rfl ?_
          refine sv (xpickF rfl rfl) ?_
          refine sv (xmove rfl) ?_
          refine gno rfl rfl rfl ?_
          refine gno rfl rfl rfl ?_
          refine gno rfl rfl rfl ?_
          refine gno rfl rfl rfl ?_
          refine sv (xpickF rfl rfl) ?_
          refine sv (xmove rfl) ?_
          refine gno rfl rfl rfl ?_
          refine gno rfl rfl rfl ?_
          refine gno rfl rfl rfl ?_
          refine gno rfl rfl rfl ?_
          refine sv (xpickF rfl rfl) ?_
          refine sv (xmove rfl) ?_
          refine gno rfl rfl rfl ?_
          refine gno rfl rfl rfl ?_
          refine sv (xpickF rfl rfl) ?_
          refine sv (xassign rfl) ?_
          refine send ?_
          refine forget_wp [(2, _)] ⟨rfl, trivial⟩ fun _ => ?_
          refine wp_ret ?_
          refine rp1 rfl rfl ?_
          exact ⟨_, rfl, (fun h => by cases h), hf⟩
      · skip
        refine sv (xmove rfl) ?_
        refine gno rfl rfl rfl ?_
        refine gno rfl rfl rfl ?_
        refine gno rfl rfl rfl ?_
        refine gno rfl rfl rfl ?_
        refine sv (xpickF rfl rfl) ?_
        refine sv (xmove rfl) ?_
        refine gno rfl rfl rfl ?_
        refine gno rfl rfl rfl ?_
        refine gno rfl rfl rfl ?_
        refine gno rfl rfl rfl ?_
        refine sv (xpickF rfl rfl) ?_
        refine sv (xmove rfl) ?_
        refine gno rfl rfl rfl ?_
        refine gno rfl rfl rfl ?_
        refine gno rfl rfl rfl ?_
        refine gno rfl rfl rfl ?_
        refine sv (xpickF rfl rfl) ?_
        refine sv (xmove rfl) ?_
        refine gno rfl rfl rfl ?_
        refine gno rfl rfl rfl ?_
        refine gno rfl rfl rfl ?_
        refine gno rfl rfl rfl ?_
        refine sv (xpickF rfl rfl) ?_
        refine sv (xmove rfl) ?_
        refine gno rfl rfl rfl ?_
        refine gno rfl rfl rfl ?_
        refine sv (xpickF rfl rfl) ?_
        refine sv (xassign rfl) ?_
        refine send ?_
        refine forget_wp [(2, _)] ⟨rfl, trivial⟩ fun _ => ?_
        refine wp_ret ?_
        refine rp1 rfl rfl ?_
        exact ⟨_, rfl, (fun h => by cases h), hf⟩
end Go.Proofs.YtifnodoffgfpbaaGreatDoor
