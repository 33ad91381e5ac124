/- Part 7 of the texts for a law of this seat: walks, and plain laws about messages; conditions: none. -/
import Derived.Test.YtifnodoffgfpbaaGreatDoorUp6
namespace Go.Proofs.YtifnodoffgfpbaaGreatDoor
open Go

theorem u16_of {len : Nat} (h : len < 65536) : ∃ l : UInt16, len = l.toNat := ⟨UInt16.ofNat len, by rw [UInt16.toNat_ofNat']; omega⟩
/-- a fresh copy of a message's first part, as a message -/
theorem msg_of {w : World} {v : Value} {g n n0 : Nat} {xs : List UInt8} (h : Rw w v g 5 1 n0 (bvs xs)) (hn : xs.length = n) (hn0 : n0 = n) (h0 : 0 < w.heap.size) (hg : 0 < n → g < w.heap.size) : ∃ a c bm, v = .slice a n c ∧ n ≤ c ∧ (n ≠ 0 → a = some ⟨bm, 0, none⟩) ∧ w.rangeAt bm 0 (bvs xs) ∧ bm < w.heap.size ∧ (bm = 0 ∨ bm = g) := by
  subst hn0
  obtain ⟨a, c, rfl, h1, _, h3, _⟩ := h.form
  by_cases hz : n0 = 0
  · subst hz
    obtain rfl : xs = [] := List.eq_nil_of_length_eq_zero hn
    exact ⟨a, c, 0, rfl, h1, fun h => absurd rfl h, fun j u hu => by simp [bvs] at hu, h0, .inl rfl⟩
  · exact ⟨a, c, g, rfl, h1, fun _ => h3 (by omega), h.rng, hg (by omega), .inr rfl⟩

set_option maxHeartbeats 4000000 in
set_option maxRecDepth 100000 in
theorem c50 {w : World} {U : Nat → Prop} (hU : ∀ k, U k → k < w.heap.size) {v : Value} {l : List RecD} (hl : LA ResV lRes U w v l) (hn : l.length ≤ 1048576) (hok : ∀ r ∈ l, NamesOk r ∧ r.pairs.length ≤ 1048576 ∧ r.texts.length ≤ 1048576 ∧ r.data.length ≤ 1048576 ∧ ∀ q ∈ r.pairs, q.data.length ≤ 65535) :
  Ret PP 50 [v] w (fun u w' => ∃ l', LA RecEl lRec (Ub U w w') w' u l' ∧ All2 Like l' l ∧ Fr0 w w') := by
 obtain ⟨a0, c0, rfl⟩ := hl.form
 have hf : Fr (fun _ => False) w w := Fr.refl _ _
 refine ret_of Tryz.func50 rfl rfl rfl [(0, _)] rfl ?_
 refine sreg (sA rfl (send (fg [(0, _)] ⟨rfl, ⟨⟩⟩ fun _ => (sreg ?_))))
 refine svK (xslit ([]) sl26 in112 rfl (by decide) rfl rfl rfl rfl (by decide) rfl rfl) ?_
 rintro _ w2 ⟨b6, rfl, m3, h6, e6, s6, r6⟩
 have hl := hl.keep resv_st (lU hU (by omega)) m3 nF
 have hf := hf.step0 m3
 have hv3 : RX RecEl lRec U w.heap.size w2.heap.size w2 _ b6 112 0 [] := RX.ofNil r6
 refine sA rfl (send (fg [(0, _), (3, _)] ⟨rfl, rfl, ⟨⟩⟩ fun _ => (wp_seq (sreg (sM rfl (sv (xlen sl75 rfl) (sM rfl (send (fg [(3, _), (7, _), (8, _), (9, _)] ⟨rfl, rfl, rfl, rfl, ⟨⟩⟩ fun _ => (wp_block ?_))))))))))
 refine lp [(7, _), (8, _)] (fun (x : Nat × Value × Nat × List RecD) => match x with | (k, v, g, l1) => [(3, v), (9, .int .i64 (k : Int))]) (fun (x : Nat × Value × Nat × List RecD) wx => match x with | (k, v, g, l1) => Fr (fun k => k = b6) w2 wx ∧ (k ≤ l.length) ∧ (All2 Like l1 (l.take k)) ∧ (RX RecEl lRec U w.heap.size wx.heap.size wx v g 112 k l1) ∧ (w.heap.size ≤ g) ∧ (g < wx.heap.size) ∧ (g = b6 ∨ w2.heap.size ≤ g)) (fun (x : Nat × Value × Nat × List RecD) => match x with | (k, v, g, l1) => l.length - k) (0, _, b6, []) ⟨rfl, rfl, rfl, rfl, trivial⟩ ⟨Fr.refl _ _, Nat.zero_le _, All2.nil, hv3, by omega, by omega, .inl rfl⟩ ?_
 rintro ⟨k, v, g, l1⟩ _ w5 ⟨hL4, hk, hA, hv3, hg, hg2, hg3⟩
 refine fg [(3, _), (7, _), (8, _), (9, _)] ⟨rfl, rfl, rfl, rfl, ⟨⟩⟩ fun _ => ?_
 have z6 := hL4.size
 have hl := hl.keep resv_st (lU hU (by omega)) hL4 (fun k hk hS => by have hk := hU k hk; have hS : k = b6 := hS; omega)
 have hf := hf.step hL4 (nB (by omega))
 obtain ⟨a3, c3, rfl⟩ := RA.form hv3
 refine sreg ?_
 refine svP (xlss rfl rfl) (fun hc10 => ?_) (fun hc10 => ?_)
 ·
  refine send (fg [(3, _), (7, _), (8, _), (9, _), (10, _)] ⟨rfl, rfl, rfl, rfl, rfl, ⟨⟩⟩ fun _ => (wp_seq (cyes rfl (wp_skip (nThen (fg [(3, _), (7, _), (8, _), (9, _)] ⟨rfl, rfl, rfl, rfl, ⟨⟩⟩ fun _ => (wp_seq (wp_block ?_))))))))
  obtain ⟨r, hrk⟩ := some_of_lt (by omega : k < l.length)
  refine sreg ?_
  obtain ⟨bE11, oE11, sgE11, rfl, uE11, hsE11, heE11⟩ := LA.get hl hrk
  obtain ⟨len, vb, hl16, rfl, hbe⟩ := heE11
  have zE11 := hU _ uE11
  obtain ⟨bB, TB, lB, sB, rfl, -⟩ := id hbe
  obtain ⟨l0, rfl⟩ := u16_of hl16
  refine sv (xidx sl75 sz139 rfl rfl rfl (by omega)) (sv (xldS (lens := [256, 1, 1, 1, 1, 1]) ro139 rfl hsE11) ?_)
  refine svK (xallS (lens := [256, 1, 1, 1, 1, 1]) in139 (by simp [nm_length])) ?_
  rintro _ w8 ⟨b5, rfl, m9, h5, e7, s7⟩
  have hf := hf.step0 m9
  have hv3 := RX.keep hv3 rec_st (lU hU (by omega)) (by omega) m9 (fun _ _ _ h => h) id
  have hL4 := hL4.step0 m9
  have hbe := hbe.keep (lU hU (by omega)) m9 nF
  refine suK (xstW h5 (lens' := [256, 1, 1, 1, 1, 1]) sz139 (by simp [rhSegs, nm_length]) rfl (by simp only [rhSegs, List.cons_append, List.nil_append, List.flatten_cons, List.flatten_nil, List.all_append, List.append_nil, nm_one, Bool.true_and] <;> rfl) rfl rfl) ?_
  rintro w11 ⟨m12, h5, s10⟩
  have hf := hf.step m12 (nB (by omega))
  have hv3 := RX.keep hv3 rec_st (lU hU (by omega)) (by omega) m12 (fun k hk hk3 hS => by have hS : k = b5 := hS; rcases hk with hk | hk <;> first | omega | (have := hU k hk; omega)) (by show ¬ (g = b5); omega)
  have hL4 := hL4.step m12 (fun k hk hS => by have hS : k = b5 := hS; show k = b6; omega)
  have hbe := hbe.keep (lU hU (by omega)) m12 (fun k hk hS => by have hk := hU k hk; have hS : k = b5 := hS; omega)
  refine send (fg [(3, _), (5, _), (7, _), (8, _), (9, _)] ⟨rfl, rfl, rfl, rfl, rfl, ⟨⟩⟩ fun _ => (lreg (sM rfl (sv (xldS (lens := [256, 1, 1, 1, 1, 1]) ro139 rfl h5.r) ?_))))
  refine sc (xcall ca64 rfl) (c64 (U := U) (lU hU (by omega)) hbe (hok r (List.mem_of_getElem? hrk)).1 (hok r (List.mem_of_getElem? hrk)).2.1 (hok r (List.mem_of_getElem? hrk)).2.2.1 (hok r (List.mem_of_getElem? hrk)).2.2.2.1 (hok r (List.mem_of_getElem? hrk)).2.2.2.2) ?_
  rintro _ w13 ⟨vd, vt, vp, rfl, hd, ht, hp, m14⟩
  have z15 := m14.size
  have hf := hf.step0 m14
  have hv3 := RX.keep hv3 rec_st (lU hU (by omega)) (by omega) m14 (fun _ _ _ h => h) id
  have hL4 := hL4.step0 m14
  obtain ⟨ad, cd, rfl, -⟩ := id hd
  obtain ⟨at1, ct1, rfl⟩ := ht.form
  obtain ⟨ap1, cp1, rfl⟩ := hp.form
  refine svK (xslit ((recSegs (normR r l0) (.slice ad (normR r l0).data.length cd) (.slice at1 (normR r l0).texts.length ct1) (.slice ap1 (normR r l0).pairs.length cp1)).flatten) sl26 in112 rfl (by decide) rfl rfl rfl rfl (by decide) (ag_flat _) rfl) ?_
  rintro _ w17 ⟨b16, rfl, m18, h16, e16, s16, r16⟩
  have hf := hf.step0 m18
  have hv3 := RX.keep hv3 rec_st (lU hU (by omega)) (by omega) m18 (fun _ _ _ h => h) id
  have hL4 := hL4.step0 m18
  have hd := hd.keep (lUb hU (by omega) (by omega)) m18 nF
  have ht := ht.keep text_st (lUb hU (by omega) (by omega)) m18 nF
  have hp := hp.keep pair_st (lUb hU (by omega) (by omega)) m18 nF
  obtain ⟨ss17, hR17, hA17⟩ := hv3
  refine svK (xapp sl26 in112 rfl (by decide) rfl rfl hR17 (r16.src sl26) (by simp only [maxLen]; omega) (by omega)) ?_
  rintro v17 w19 ⟨g17, r17, m20, a17, l17⟩
  have z21 := m20.size
  have hf := hf.step m20 (nB (by omega))
  have hL4 := hL4.step m20 (fun k hk hS => by have hS : k = g := hS; show k = b6; omega)
  have hd := hd.keep (lUb hU (by omega) (by omega)) m20 (fun k hk hS => by have hk := Ub.num hU hk; have hS : k = g := hS; omega)
  have ht := ht.keep text_st (lUb hU (by omega) (by omega)) m20 (fun k hk hS => by have hk := Ub.num hU hk; have hS : k = g := hS; omega)
  have hp := hp.keep pair_st (lUb hU (by omega) (by omega)) m20 (fun k hk hS => by have hk := Ub.num hU hk; have hS : k = g := hS; omega)
  have hv3 := RX.snoc (x := (normR r l0)) w19.heap.size hA17 rec_st rec_gr (lU hU (by omega)) (by omega) (by omega) m20 a17 r17 rfl (⟨_, _, _, rfl, hd.mono (fun k h => ⟨h.elim .inl (fun h => .inr ⟨by omega, by omega⟩), by have h := Ub.num hU h; omega⟩), ht.mono text_gr (fun k h => ⟨h.elim .inl (fun h => .inr ⟨by omega, by omega⟩), by have h := Ub.num hU h; omega⟩), hp.mono pair_gr (fun k h => ⟨h.elim .inl (fun h => .inr ⟨by omega, by omega⟩), by have h := Ub.num hU h; omega⟩)⟩)
  refine sA rfl (lend (nBlock (nThen (fg [(3, _), (7, _), (8, _), (9, _)] ⟨rfl, rfl, rfl, rfl, ⟨⟩⟩ fun _ => (lreg (sv (xadd rfl rfl (w64 (by omega) (by omega))) (sM rfl (lend (nThen ?_)))))))))
  refine ⟨(k + 1, _, g17, l1 ++ [normR r l0]), _, env_okl ⟨rfl, rfl, rfl, rfl, trivial⟩, ⟨hL4, (by omega), (by rw [take_snoc hrk]; exact hA.snoc ⟨l0, rfl⟩), (RX.up rec_gr hv3 (by omega)), (by omega), (l17 (by omega)), (by omega)⟩, ?_⟩
  show l.length - (k + 1) < l.length - k; omega
 ·
  refine send (fg [(3, _), (7, _), (8, _), (9, _), (10, _)] ⟨rfl, rfl, rfl, rfl, rfl, ⟨⟩⟩ fun _ => (wp_seq (cno rfl (wp_exit (eThen (eThen (eHit (nThen (fg [(3, _)] ⟨rfl, ⟨⟩⟩ fun _ => (sreg (sM rfl (sA rfl (send (fg [(2, _)] ⟨rfl, ⟨⟩⟩ fun _ => (wp_ret ?_)))))))))))))))
  refine rp1 rfl rfl ?_
  have e1 : l.take k = l := List.take_of_length_le (by omega)
  rw [e1] at hA
  exact ⟨l1, RX.la hv3 (by decide) rec_gr (fun k hk => hk.elim .inl .inr) (.inr ⟨hg, hg2⟩), hA, hf⟩
set_option maxHeartbeats 4000000 in
set_option maxRecDepth 100000 in
theorem c23 {w : World} {U : Nat → Prop} (hU : ∀ k, U k → k < w.heap.size) {m' m : MsgD} {ua u1 u2 u3 va v1 v2 v3 : Value} (hL : LikeM m' m) (pa : LA AskEl lAsk U w ua m'.asks) (p1 : LA RecEl lRec U w u1 m'.one) (p2 : LA RecEl lRec U w u2 m'.two) (p3 : LA RecEl lRec U w u3 m'.three) (qa : LA AskEl lAsk U w va m.asks) (q1 : LA RecEl lRec U w v1 m.one) (q2 : LA RecEl lRec U w v2 m.two) (q3 : LA RecEl lRec U w v3 m.three) (_hal : m.asks.length ≤ 1048576) (hbl : m.one.length ≤ 1048576) (hcl : m.two.length ≤ 1048576) (hdl : m.three.length ≤ 1048576) :
  Ret PP 23 [ag (msgSegs m'.head ua u1 u2 u3), ag (msgSegs m.head va v1 v2 v3)] w (fun u w' => u = .bool true ∧ Fr0 w w') := by
 obtain ⟨hLh, hLa, hL1, hL2, hL3⟩ := hL
 have k1 := hL1.1
 have k2 := hL2.1
 have k3 := hL3.1
 have ka : m'.asks.length = m.asks.length := by rw [hLa]
 obtain ⟨apa, cpa, rfl⟩ := pa.form
 obtain ⟨ap1, cp1, rfl⟩ := p1.form
 obtain ⟨ap2, cp2, rfl⟩ := p2.form
 obtain ⟨ap3, cp3, rfl⟩ := p3.form
 obtain ⟨aqa, cqa, rfl⟩ := qa.form
 obtain ⟨aq1, cq1, rfl⟩ := q1.form
 obtain ⟨aq2, cq2, rfl⟩ := q2.form
 obtain ⟨aq3, cq3, rfl⟩ := q3.form
 have hf : Fr (fun _ => False) w w := Fr.refl _ _
 refine ret_of Tryz.func23 rfl rfl rfl [(0, _), (1, _)] rfl ?_
 refine sreg ?_
 refine svK (xboxS (lens := lMsg) rfl rfl) ?_
 rintro _ w2 ⟨b2, rfl, m3, h2, e1, s1⟩
 have p1 := p1.keep rec_st (lU hU (by omega)) m3 nF
 have p2 := p2.keep rec_st (lU hU (by omega)) m3 nF
 have p3 := p3.keep rec_st (lU hU (by omega)) m3 nF
 have q1 := q1.keep rec_st (lU hU (by omega)) m3 nF
 have q2 := q2.keep rec_st (lU hU (by omega)) m3 nF
 have q3 := q3.keep rec_st (lU hU (by omega)) m3 nF
 have hf := hf.step0 m3
 refine svK (xboxS (lens := lMsg) rfl rfl) ?_
 rintro _ w5 ⟨b3, rfl, m6, h3, e4, s4⟩
 have p1 := p1.keep rec_st (lU hU (by omega)) m6 nF
 have p2 := p2.keep rec_st (lU hU (by omega)) m6 nF
 have p3 := p3.keep rec_st (lU hU (by omega)) m6 nF
 have q1 := q1.keep rec_st (lU hU (by omega)) m6 nF
 have q2 := q2.keep rec_st (lU hU (by omega)) m6 nF
 have q3 := q3.keep rec_st (lU hU (by omega)) m6 nF
 have hf := hf.step0 m6
 have h2 := h2.keep m6 id
 refine sA rfl (send (fg [(2, _), (3, _)] ⟨rfl, rfl, ⟨⟩⟩ fun _ => (wp_seq (sreg (sv (xfld fl28_2 rfl) (sv (xld on26 rfl (h2.r.c 11 rfl rfl)) (sv (xlen sl26 rfl) (sv (xfld fl28_2 rfl) (sv (xld on26 rfl (h3.r.c 11 rfl rfl)) (sv (xlen sl26 rfl) (sv (exF (xneq rfl rfl) (by omega)) (sM rfl (gyes rfl rfl rfl (sv (xfld fl28_3 rfl) (gyes rfl rfl rfl (sv (xld on26 rfl (h2.r.c 12 rfl rfl)) (gyes rfl rfl rfl (sv (xlen sl26 rfl) (gyes rfl rfl rfl (sv (xfld fl28_3 rfl) (gyes rfl rfl rfl (sv (xld on26 rfl (h3.r.c 12 rfl rfl)) (gyes rfl rfl rfl (sv (xlen sl26 rfl) ?_))))))))))))))))))))))))
 refine gyes rfl rfl rfl (sv (exF (xneq rfl rfl) (by omega)) (sv (xpickF rfl rfl) (sM rfl (gyes rfl rfl rfl (sv (xfld fl28_4 rfl) (gyes rfl rfl rfl (sv (xld on26 rfl (h2.r.c 13 rfl rfl)) (gyes rfl rfl rfl (sv (xlen sl26 rfl) (gyes rfl rfl rfl (sv (xfld fl28_4 rfl) (gyes rfl rfl rfl (sv (xld on26 rfl (h3.r.c 13 rfl rfl)) (gyes rfl rfl rfl (sv (xlen sl26 rfl) (gyes rfl rfl rfl (sv (exF (xneq rfl rfl) (by omega)) (sv (xpickF rfl rfl) (sM rfl (gyes rfl rfl rfl (sv (xfld fl28_1 rfl) (gyes rfl rfl rfl (sv (xld on25 rfl (h2.r.c 10 rfl rfl)) (gyes rfl rfl rfl ?_))))))))))))))))))))))))
 refine sv (xlen sl25 rfl) (gyes rfl rfl rfl (sv (xfld fl28_1 rfl) (gyes rfl rfl rfl (sv (xld on25 rfl (h3.r.c 10 rfl rfl)) (gyes rfl rfl rfl (sv (xlen sl25 rfl) (gyes rfl rfl rfl (sv (exF (xneq rfl rfl) (by omega)) (sv (xpickF rfl rfl) (send (fg [(2, _), (3, _), (44, _)] ⟨rfl, rfl, rfl, ⟨⟩⟩ fun _ => (cno rfl (wp_skip (nThen (fg [(2, _), (3, _)] ⟨rfl, rfl, ⟨⟩⟩ fun _ => (wp_seq (sreg (sv (xfld fl28_2 rfl) (sv (xld on26 rfl (h2.r.c 11 rfl rfl)) (sv (xlen sl26 rfl) (sM rfl (send (fg [(2, _), (3, _), (46, _), (47, _), (48, _)] ⟨rfl, rfl, rfl, rfl, rfl, ⟨⟩⟩ fun _ => (wp_block ?_))))))))))))))))))))))))
 refine lp [(2, _), (3, _), (46, _), (47, _)] (fun (k : Nat) => [(48, .int .i64 (k : Int))]) (fun (k : Nat) wx => Fr (fun _ => False) w5 wx ∧ (k ≤ m'.one.length)) (fun (k : Nat) => m'.one.length - k) 0 ⟨rfl, rfl, rfl, rfl, rfl, trivial⟩ ⟨Fr.refl _ _, Nat.zero_le _⟩ ?_
 rintro k _ w8 ⟨hL7, hk⟩
 refine fg [(2, _), (3, _), (46, _), (47, _), (48, _)] ⟨rfl, rfl, rfl, rfl, rfl, ⟨⟩⟩ fun _ => ?_
 have z9 := hL7.size
 have p1 := p1.keep rec_st (lU hU (by omega)) hL7 nF
 have p2 := p2.keep rec_st (lU hU (by omega)) hL7 nF
 have p3 := p3.keep rec_st (lU hU (by omega)) hL7 nF
 have q1 := q1.keep rec_st (lU hU (by omega)) hL7 nF
 have q2 := q2.keep rec_st (lU hU (by omega)) hL7 nF
 have q3 := q3.keep rec_st (lU hU (by omega)) hL7 nF
 have hf := hf.step0 hL7
 have h2 := h2.keep hL7 id
 have h3 := h3.keep hL7 id
 refine sreg ?_
 refine svP (xlss rfl rfl) (fun hc49 => ?_) (fun hc49 => ?_)
 ·
  refine send (fg [(2, _), (3, _), (46, _), (47, _), (48, _), (49, _)] ⟨rfl, rfl, rfl, rfl, rfl, rfl, ⟨⟩⟩ fun _ => (wp_seq (cyes rfl (wp_skip (nThen (fg [(2, _), (3, _), (46, _), (47, _), (48, _)] ⟨rfl, rfl, rfl, rfl, rfl, ⟨⟩⟩ fun _ => (wp_seq (wp_block ?_))))))))
  obtain ⟨r, hrk⟩ := some_of_lt (by omega : k < m'.one.length)
  obtain ⟨r2, hr2k⟩ := some_of_lt (by omega : k < m.one.length)
  obtain ⟨ln, rfl⟩ := hL1.2 k r r2 hrk hr2k
  refine sreg (sM rfl ?_)
  obtain ⟨bE51, oE51, sgE51, rfl, uE51, hsE51, heE51⟩ := LA.get p1 hrk
  obtain ⟨vd, vt, vp, rfl, hd, ht, hp⟩ := heE51
  have zE51 := hU _ uE51
  obtain ⟨ad, cd, rfl, -⟩ := id hd
  obtain ⟨at1, ct1, rfl⟩ := ht.form
  obtain ⟨ap1, cp1, rfl⟩ := hp.form
  refine sv (xidx sl26 sz112 rfl rfl rfl (by omega)) (sv (xldS (lens := lRec) ro112 rfl hsE51) ?_)
  refine svK (xallS (lens := lRec) in112 (by simp [])) ?_
  rintro _ w11 ⟨b6, rfl, m12, h6, e10, s10⟩
  have p2 := p2.keep rec_st (lU hU (by omega)) m12 nF
  have p3 := p3.keep rec_st (lU hU (by omega)) m12 nF
  have q1 := q1.keep rec_st (lU hU (by omega)) m12 nF
  have q2 := q2.keep rec_st (lU hU (by omega)) m12 nF
  have q3 := q3.keep rec_st (lU hU (by omega)) m12 nF
  have hf := hf.step0 m12
  have h2 := h2.keep m12 id
  have h3 := h3.keep m12 id
  have hL7 := hL7.step0 m12
  refine sA rfl ?_
  refine suK (xstW h6 (lens' := lRec) sz112 rfl rfl rfl rfl rfl) ?_
  rintro w14 ⟨m15, h6, s13⟩
  have p2 := p2.keep rec_st (lU hU (by omega)) m15 (fun k hk hS => by have hk := hU k hk; have hS : k = b6 := hS; omega)
  have p3 := p3.keep rec_st (lU hU (by omega)) m15 (fun k hk hS => by have hk := hU k hk; have hS : k = b6 := hS; omega)
  have q1 := q1.keep rec_st (lU hU (by omega)) m15 (fun k hk hS => by have hk := hU k hk; have hS : k = b6 := hS; omega)
  have q2 := q2.keep rec_st (lU hU (by omega)) m15 (fun k hk hS => by have hk := hU k hk; have hS : k = b6 := hS; omega)
  have q3 := q3.keep rec_st (lU hU (by omega)) m15 (fun k hk hS => by have hk := hU k hk; have hS : k = b6 := hS; omega)
  have hf := hf.step m15 (nB (by omega))
  have h2 := h2.keep m15 (by show ¬ (b2 = b6); omega)
  have h3 := h3.keep m15 (by show ¬ (b3 = b6); omega)
  have hL7 := hL7.step m15 (nB (by omega))
  refine send (fg [(2, _), (3, _), (5, _), (6, _), (46, _), (47, _), (48, _)] ⟨rfl, rfl, rfl, rfl, rfl, rfl, rfl, ⟨⟩⟩ fun _ => ?_)
  refine sdrawH (Fr (fun _ => False) w14.drew) [(0, .rd), (1, .rd), (2, .rd), (3, .rd), (4, .rd), (5, .rd), (6, .rd), (7, .rd), (8, .rd)] mixed (by kernel_rfl) (fun _ _ _ _ _ h => h) ?_
  have z16 : w14.drew.heap.size = w14.heap.size := rfl
  have p2 := p2.keep rec_st (lU hU (by omega)) (fd w14) nF
  have p3 := p3.keep rec_st (lU hU (by omega)) (fd w14) nF
  have q1 := q1.keep rec_st (lU hU (by omega)) (fd w14) nF
  have q2 := q2.keep rec_st (lU hU (by omega)) (fd w14) nF
  have q3 := q3.keep rec_st (lU hU (by omega)) (fd w14) nF
  have hf := hf.drew
  have h2 := h2.drew
  have h3 := h3.drew
  have hL7 := hL7.drew
  have h6 := h6.drew
  have hS17 : Fr (fun _ => False) w14.drew w14.drew := Fr.refl _ _
  refine hvH rfl (fun _ _ => xfld fl112_5 rfl) hS17 (hvH rfl (fun w' hS => xld on3 rfl ((h6.keep hS id).r.c 5 rfl rfl)) hS17 (hvH rfl (fun _ _ => xfld fl28_2 rfl) hS17 (hvH rfl (fun w' hS => xld on26 rfl ((h3.keep hS id).r.c 11 rfl rfl)) hS17 (qqM rfl rfl hS17 ?_))))
  obtain ⟨bE58, oE58, sgE58, rfl, uE58, hsE58, heE58⟩ := LA.get q1 hr2k
  obtain ⟨vd2, vt2, vp2, rfl, -⟩ := heE58
  have zE58 := hU _ uE58
  refine hvH rfl (fun _ _ => xidx sl26 sz112 rfl rfl rfl (by omega)) hS17 (hvH rfl (fun _ _ => xfld fl112_5 rfl) hS17 (hvH rfl (fun w' hS => xld on3 rfl ((hsE58.keep hS (by omega) id).c 5 rfl rfl)) hS17 (hvH rfl (fun _ _ => exF (xneq rfl rfl) (fun h => h rfl)) hS17 (hendH (fg [(2, _), (3, _), (46, _), (47, _), (48, _), (61, _)] ⟨rfl, rfl, rfl, rfl, rfl, rfl, ⟨⟩⟩ fun _ => (cno rfl (wp_skip (nBlock (nThen (fg [(2, _), (3, _), (46, _), (47, _), (48, _)] ⟨rfl, rfl, rfl, rfl, rfl, ⟨⟩⟩ fun _ => (lreg (sv (xadd rfl rfl (w64 (by omega) (by omega))) (sM rfl (lend (nThen ?_)))))))))))))))
  refine ⟨k + 1, _, env_okl ⟨rfl, rfl, rfl, rfl, rfl, trivial⟩, ⟨hL7, (by omega)⟩, ?_⟩
  show m'.one.length - (k + 1) < m'.one.length - k; omega
 ·
  refine send (fg [(2, _), (3, _), (46, _), (47, _), (48, _), (49, _)] ⟨rfl, rfl, rfl, rfl, rfl, rfl, ⟨⟩⟩ fun _ => (wp_seq (cno rfl (wp_exit (eThen (eThen (eHit (nThen (fg [(2, _), (3, _)] ⟨rfl, rfl, ⟨⟩⟩ fun _ => (wp_seq (sreg (sv (xfld fl28_3 rfl) (sv (xld on26 rfl (h2.r.c 12 rfl rfl)) (sv (xlen sl26 rfl) (sM rfl (send (fg [(2, _), (3, _), (64, _), (65, _), (66, _)] ⟨rfl, rfl, rfl, rfl, rfl, ⟨⟩⟩ fun _ => (wp_block ?_))))))))))))))))))
  refine lp [(2, _), (3, _), (64, _), (65, _)] (fun (k : Nat) => [(66, .int .i64 (k : Int))]) (fun (k : Nat) wx => Fr (fun _ => False) w8 wx ∧ (k ≤ m'.two.length)) (fun (k : Nat) => m'.two.length - k) 0 ⟨rfl, rfl, rfl, rfl, rfl, trivial⟩ ⟨Fr.refl _ _, Nat.zero_le _⟩ ?_
  rintro k _ w19 ⟨hL18, hk⟩
  refine fg [(2, _), (3, _), (64, _), (65, _), (66, _)] ⟨rfl, rfl, rfl, rfl, rfl, ⟨⟩⟩ fun _ => ?_
  have z20 := hL18.size
  have p2 := p2.keep rec_st (lU hU (by omega)) hL18 nF
  have p3 := p3.keep rec_st (lU hU (by omega)) hL18 nF
  have q2 := q2.keep rec_st (lU hU (by omega)) hL18 nF
  have q3 := q3.keep rec_st (lU hU (by omega)) hL18 nF
  have hf := hf.step0 hL18
  have h2 := h2.keep hL18 id
  have h3 := h3.keep hL18 id
  refine sreg ?_
  refine svP (xlss rfl rfl) (fun hc67 => ?_) (fun hc67 => ?_)
  ·
   refine send (fg [(2, _), (3, _), (64, _), (65, _), (66, _), (67, _)] ⟨rfl, rfl, rfl, rfl, rfl, rfl, ⟨⟩⟩ fun _ => (wp_seq (cyes rfl (wp_skip (nThen (fg [(2, _), (3, _), (64, _), (65, _), (66, _)] ⟨rfl, rfl, rfl, rfl, rfl, ⟨⟩⟩ fun _ => (wp_seq (wp_block ?_))))))))
   obtain ⟨r, hrk⟩ := some_of_lt (by omega : k < m'.two.length)
   obtain ⟨r2, hr2k⟩ := some_of_lt (by omega : k < m.two.length)
   obtain ⟨ln, rfl⟩ := hL2.2 k r r2 hrk hr2k
   refine sreg (sM rfl ?_)
   obtain ⟨bE69, oE69, sgE69, rfl, uE69, hsE69, heE69⟩ := LA.get p2 hrk
   obtain ⟨vd, vt, vp, rfl, hd, ht, hp⟩ := heE69
   have zE69 := hU _ uE69
   obtain ⟨ad, cd, rfl, -⟩ := id hd
   obtain ⟨at1, ct1, rfl⟩ := ht.form
   obtain ⟨ap1, cp1, rfl⟩ := hp.form
   refine sv (xidx sl26 sz112 rfl rfl rfl (by omega)) (sv (xldS (lens := lRec) ro112 rfl hsE69) ?_)
   refine svK (xallS (lens := lRec) in112 (by simp [])) ?_
   rintro _ w22 ⟨b8, rfl, m23, h8, e21, s21⟩
   have p3 := p3.keep rec_st (lU hU (by omega)) m23 nF
   have q2 := q2.keep rec_st (lU hU (by omega)) m23 nF
   have q3 := q3.keep rec_st (lU hU (by omega)) m23 nF
   have hf := hf.step0 m23
   have h2 := h2.keep m23 id
   have h3 := h3.keep m23 id
   have hL18 := hL18.step0 m23
   refine sA rfl ?_
   refine suK (xstW h8 (lens' := lRec) sz112 rfl rfl rfl rfl rfl) ?_
   rintro w25 ⟨m26, h8, s24⟩
   have p3 := p3.keep rec_st (lU hU (by omega)) m26 (fun k hk hS => by have hk := hU k hk; have hS : k = b8 := hS; omega)
   have q2 := q2.keep rec_st (lU hU (by omega)) m26 (fun k hk hS => by have hk := hU k hk; have hS : k = b8 := hS; omega)
   have q3 := q3.keep rec_st (lU hU (by omega)) m26 (fun k hk hS => by have hk := hU k hk; have hS : k = b8 := hS; omega)
   have hf := hf.step m26 (nB (by omega))
   have h2 := h2.keep m26 (by show ¬ (b2 = b8); omega)
   have h3 := h3.keep m26 (by show ¬ (b3 = b8); omega)
   have hL18 := hL18.step m26 (nB (by omega))
   refine send (fg [(2, _), (3, _), (7, _), (8, _), (64, _), (65, _), (66, _)] ⟨rfl, rfl, rfl, rfl, rfl, rfl, rfl, ⟨⟩⟩ fun _ => ?_)
   refine sdrawH (Fr (fun _ => False) w25.drew) [(0, .rd), (1, .rd), (2, .rd), (3, .rd), (4, .rd), (5, .rd), (6, .rd), (7, .rd), (8, .rd)] mixed (by kernel_rfl) (fun _ _ _ _ _ h => h) ?_
   have z27 : w25.drew.heap.size = w25.heap.size := rfl
   have p3 := p3.keep rec_st (lU hU (by omega)) (fd w25) nF
   have q2 := q2.keep rec_st (lU hU (by omega)) (fd w25) nF
   have q3 := q3.keep rec_st (lU hU (by omega)) (fd w25) nF
   have hf := hf.drew
   have h2 := h2.drew
   have h3 := h3.drew
   have hL18 := hL18.drew
   have h8 := h8.drew
   have hS28 : Fr (fun _ => False) w25.drew w25.drew := Fr.refl _ _
   refine hvH rfl (fun _ _ => xfld fl112_5 rfl) hS28 (hvH rfl (fun w' hS => xld on3 rfl ((h8.keep hS id).r.c 5 rfl rfl)) hS28 (hvH rfl (fun _ _ => xfld fl28_3 rfl) hS28 (hvH rfl (fun w' hS => xld on26 rfl ((h3.keep hS id).r.c 12 rfl rfl)) hS28 (qqM rfl rfl hS28 ?_))))
   obtain ⟨bE76, oE76, sgE76, rfl, uE76, hsE76, heE76⟩ := LA.get q2 hr2k
   obtain ⟨vd2, vt2, vp2, rfl, -⟩ := heE76
   have zE76 := hU _ uE76
   refine hvH rfl (fun _ _ => xidx sl26 sz112 rfl rfl rfl (by omega)) hS28 (hvH rfl (fun _ _ => xfld fl112_5 rfl) hS28 (hvH rfl (fun w' hS => xld on3 rfl ((hsE76.keep hS (by omega) id).c 5 rfl rfl)) hS28 (hvH rfl (fun _ _ => exF (xneq rfl rfl) (fun h => h rfl)) hS28 (hendH (fg [(2, _), (3, _), (64, _), (65, _), (66, _), (79, _)] ⟨rfl, rfl, rfl, rfl, rfl, rfl, ⟨⟩⟩ fun _ => (cno rfl (wp_skip (nBlock (nThen (fg [(2, _), (3, _), (64, _), (65, _), (66, _)] ⟨rfl, rfl, rfl, rfl, rfl, ⟨⟩⟩ fun _ => (lreg (sv (xadd rfl rfl (w64 (by omega) (by omega))) (sM rfl (lend (nThen ?_)))))))))))))))
   refine ⟨k + 1, _, env_okl ⟨rfl, rfl, rfl, rfl, rfl, trivial⟩, ⟨hL18, (by omega)⟩, ?_⟩
   show m'.two.length - (k + 1) < m'.two.length - k; omega
  ·
   refine send (fg [(2, _), (3, _), (64, _), (65, _), (66, _), (67, _)] ⟨rfl, rfl, rfl, rfl, rfl, rfl, ⟨⟩⟩ fun _ => (wp_seq (cno rfl (wp_exit (eThen (eThen (eHit (nThen (fg [(2, _), (3, _)] ⟨rfl, rfl, ⟨⟩⟩ fun _ => (wp_seq (sreg (sv (xfld fl28_4 rfl) (sv (xld on26 rfl (h2.r.c 13 rfl rfl)) (sv (xlen sl26 rfl) (sM rfl (send (fg [(3, _), (82, _), (83, _), (84, _)] ⟨rfl, rfl, rfl, rfl, ⟨⟩⟩ fun _ => (wp_block ?_))))))))))))))))))
   refine lp [(3, _), (82, _), (83, _)] (fun (k : Nat) => [(84, .int .i64 (k : Int))]) (fun (k : Nat) wx => Fr (fun _ => False) w19 wx ∧ (k ≤ m'.three.length)) (fun (k : Nat) => m'.three.length - k) 0 ⟨rfl, rfl, rfl, rfl, trivial⟩ ⟨Fr.refl _ _, Nat.zero_le _⟩ ?_
   rintro k _ w30 ⟨hL29, hk⟩
   refine fg [(3, _), (82, _), (83, _), (84, _)] ⟨rfl, rfl, rfl, rfl, ⟨⟩⟩ fun _ => ?_
   have z31 := hL29.size
   have p3 := p3.keep rec_st (lU hU (by omega)) hL29 nF
   have q3 := q3.keep rec_st (lU hU (by omega)) hL29 nF
   have hf := hf.step0 hL29
   have h3 := h3.keep hL29 id
   refine sreg ?_
   refine svP (xlss rfl rfl) (fun hc85 => ?_) (fun hc85 => ?_)
   ·
    refine send (fg [(3, _), (82, _), (83, _), (84, _), (85, _)] ⟨rfl, rfl, rfl, rfl, rfl, ⟨⟩⟩ fun _ => (wp_seq (cyes rfl (wp_skip (nThen (fg [(3, _), (82, _), (83, _), (84, _)] ⟨rfl, rfl, rfl, rfl, ⟨⟩⟩ fun _ => (wp_seq (wp_block ?_))))))))
    obtain ⟨r, hrk⟩ := some_of_lt (by omega : k < m'.three.length)
    obtain ⟨r2, hr2k⟩ := some_of_lt (by omega : k < m.three.length)
    obtain ⟨ln, rfl⟩ := hL3.2 k r r2 hrk hr2k
    refine sreg (sM rfl ?_)
    obtain ⟨bE87, oE87, sgE87, rfl, uE87, hsE87, heE87⟩ := LA.get p3 hrk
    obtain ⟨vd, vt, vp, rfl, hd, ht, hp⟩ := heE87
    have zE87 := hU _ uE87
    obtain ⟨ad, cd, rfl, -⟩ := id hd
    obtain ⟨at1, ct1, rfl⟩ := ht.form
    obtain ⟨ap1, cp1, rfl⟩ := hp.form
    refine sv (xidx sl26 sz112 rfl rfl rfl (by omega)) (sv (xldS (lens := lRec) ro112 rfl hsE87) ?_)
    refine svK (xallS (lens := lRec) in112 (by simp [])) ?_
    rintro _ w33 ⟨b10, rfl, m34, h10, e32, s32⟩
    have q3 := q3.keep rec_st (lU hU (by omega)) m34 nF
    have hf := hf.step0 m34
    have h3 := h3.keep m34 id
    have hL29 := hL29.step0 m34
    refine sA rfl ?_
    refine suK (xstW h10 (lens' := lRec) sz112 rfl rfl rfl rfl rfl) ?_
    rintro w36 ⟨m37, h10, s35⟩
    have q3 := q3.keep rec_st (lU hU (by omega)) m37 (fun k hk hS => by have hk := hU k hk; have hS : k = b10 := hS; omega)
    have hf := hf.step m37 (nB (by omega))
    have h3 := h3.keep m37 (by show ¬ (b3 = b10); omega)
    have hL29 := hL29.step m37 (nB (by omega))
    refine send (fg [(3, _), (9, _), (10, _), (82, _), (83, _), (84, _)] ⟨rfl, rfl, rfl, rfl, rfl, rfl, ⟨⟩⟩ fun _ => ?_)
    refine sdrawH (Fr (fun _ => False) w36.drew) [(0, .rd), (1, .rd), (2, .rd), (3, .rd), (4, .rd), (5, .rd), (6, .rd), (7, .rd), (8, .rd)] mixed (by kernel_rfl) (fun _ _ _ _ _ h => h) ?_
    have z38 : w36.drew.heap.size = w36.heap.size := rfl
    have q3 := q3.keep rec_st (lU hU (by omega)) (fd w36) nF
    have hf := hf.drew
    have h3 := h3.drew
    have hL29 := hL29.drew
    have h10 := h10.drew
    have hS39 : Fr (fun _ => False) w36.drew w36.drew := Fr.refl _ _
    refine hvH rfl (fun _ _ => xfld fl112_5 rfl) hS39 (hvH rfl (fun w' hS => xld on3 rfl ((h10.keep hS id).r.c 5 rfl rfl)) hS39 (hvH rfl (fun _ _ => xfld fl28_4 rfl) hS39 (hvH rfl (fun w' hS => xld on26 rfl ((h3.keep hS id).r.c 13 rfl rfl)) hS39 (qqM rfl rfl hS39 ?_))))
    obtain ⟨bE94, oE94, sgE94, rfl, uE94, hsE94, heE94⟩ := LA.get q3 hr2k
    obtain ⟨vd2, vt2, vp2, rfl, -⟩ := heE94
    have zE94 := hU _ uE94
    refine hvH rfl (fun _ _ => xidx sl26 sz112 rfl rfl rfl (by omega)) hS39 (hvH rfl (fun _ _ => xfld fl112_5 rfl) hS39 (hvH rfl (fun w' hS => xld on3 rfl ((hsE94.keep hS (by omega) id).c 5 rfl rfl)) hS39 (hvH rfl (fun _ _ => exF (xneq rfl rfl) (fun h => h rfl)) hS39 (hendH (fg [(3, _), (82, _), (83, _), (84, _), (97, _)] ⟨rfl, rfl, rfl, rfl, rfl, ⟨⟩⟩ fun _ => (cno rfl (wp_skip (nBlock (nThen (fg [(3, _), (82, _), (83, _), (84, _)] ⟨rfl, rfl, rfl, rfl, ⟨⟩⟩ fun _ => (lreg (sv (xadd rfl rfl (w64 (by omega) (by omega))) (sM rfl (lend (nThen ?_)))))))))))))))
    refine ⟨k + 1, _, env_okl ⟨rfl, rfl, rfl, rfl, trivial⟩, ⟨hL29, (by omega)⟩, ?_⟩
    show m'.three.length - (k + 1) < m'.three.length - k; omega
   ·
    refine send (fg [(3, _), (82, _), (83, _), (84, _), (85, _)] ⟨rfl, rfl, rfl, rfl, rfl, ⟨⟩⟩ fun _ => (wp_seq (cno rfl (wp_exit (eThen (eThen (eHit (nThen (fg [] trivial fun _ => (sreg (sA rfl (send (fg [(4, _)] ⟨rfl, ⟨⟩⟩ fun _ => (wp_ret ?_))))))))))))))
    refine rp1 rfl rfl ?_
    exact ⟨rfl, hf⟩
end Go.Proofs.YtifnodoffgfpbaaGreatDoor

namespace Go.Proofs.YtifnodoffgfpbaaGreatDoor
open Go

theorem uu_mono {U : Nat → Prop} {w w' wa wb wc wd : World} {k : Nat} (h : Ub (Ub NoU wa wb) wc wd k) (h1 : w.heap.size ≤ wa.heap.size) (h2 : wb.heap.size ≤ w'.heap.size) (h3 : w.heap.size ≤ wc.heap.size) (h4 : wd.heap.size ≤ w'.heap.size) : Ub U w w' k := by
  rcases h with (h | h) | h
  · exact h.elim
  · exact .inr ⟨by omega, by omega⟩
  · exact .inr ⟨by omega, by omega⟩

set_option maxHeartbeats 4000000 in
set_option maxRecDepth 100000 in
theorem c22 {w : World} {U : Nat → Prop} (hU : ∀ k, U k → k < w.heap.size) {v : Value} {b : List UInt8} {n : Nat} {m : MsgD} (hd : BA U w v (b.take n)) (hnb : n ≤ b.length) (hbl : b.length < 100000000) (hG : GE w) (hsz : 21 ≤ w.heap.size) {Kp : Nat → Prop} (hMR : MsgR Kp b m) (hKp : ∀ k, Kp k → k ≤ 10 ∧ (k = 0 ∨ n = b.length)) (hho : m.head.ok) (l0 : m.asks.length < 65536) (l1 : m.one.length < 65536) (l2 : m.two.length < 65536) (l3 : m.three.length < 65536) (hna : ∀ a ∈ m.asks, nameL (bt a.name)) (hr1 : ∀ r ∈ m.one, ReadOk r ∧ (r.kind = 11 ∨ r.kind = 12 → asc r.pairs)) (hr2 : ∀ r ∈ m.two, ReadOk r ∧ (r.kind = 11 ∨ r.kind = 12 → asc r.pairs)) (hr3 : ∀ r ∈ m.three, ReadOk r ∧ (r.kind = 11 ∨ r.kind = 12 → asc r.pairs)) {Tz : TypeId} {xz : Option Addr} (hg0 : w.rangeAt 0 0 [.iface Tz (.pointer xz)]) (hCT : CmpT Tz) {B mb : Nat} {sf : Int → ByteArray} (hBw : B ≤ w.heap.size) (hSO : SecOr (b.length ≤ n) B mb sf w) (hb1 : ∀ r ∈ m.one, NamesOk r ∧ r.pairs.length ≤ 1048576 ∧ r.texts.length ≤ 1048576 ∧ r.data.length ≤ 1048576 ∧ ∀ q ∈ r.pairs, q.data.length ≤ 65535) (hb2 : ∀ r ∈ m.two, NamesOk r ∧ r.pairs.length ≤ 1048576 ∧ r.texts.length ≤ 1048576 ∧ r.data.length ≤ 1048576 ∧ ∀ q ∈ r.pairs, q.data.length ≤ 65535) (hb3 : ∀ r ∈ m.three, NamesOk r ∧ r.pairs.length ≤ 1048576 ∧ r.texts.length ≤ 1048576 ∧ r.data.length ≤ 1048576 ∧ ∀ q ∈ r.pairs, q.data.length ≤ 65535)  :
  Ret PP 22 [v] w (fun u w' => ((b.length ≤ n ∧ ∃ (l1 l2 l3 : List RecD) (va v1 v2 v3 : Value), u = .tuple #[ag (msgSegs m.head va v1 v2 v3), .bool true] ∧ All2 Like l1 m.one ∧ All2 Like l2 m.two ∧ All2 Like l3 m.three ∧ LA AskEl lAsk (Ub NoU w w') w' va m.asks ∧ LA RecEl lRec (Ub NoU w w') w' v1 l1 ∧ LA RecEl lRec (Ub NoU w w') w' v2 l2 ∧ LA RecEl lRec (Ub NoU w w') w' v3 l3) ∨ (n < b.length ∧ u = .tuple #[ag [[.int .u16 0], [.bool false], [.int .u16 0], [.bool false], [.bool false], [.bool false], [.bool false], [.bool false], [.bool false], [.int .u16 0], [.slice none 0 0], [.slice none 0 0], [.slice none 0 0], [.slice none 0 0]], .bool false])) ∧ Fr0 w w') := by
 obtain ⟨ad0, cd0, rfl, -⟩ := id hd
 have htl : (b.take n).length = n := by rw [List.length_take]; omega
 have hf : Fr (fun _ => False) w w := Fr.refl _ _
 refine ret_of Tryz.func22 rfl rfl rfl [(0, _)] rfl ?_
 refine sreg ?_
 refine svK (xallS (lens := lMsg) in28 rfl) ?_
 rintro _ w2 ⟨b2, rfl, m3, h2, e1, s1⟩
 have hd := hd.keep (lU hU (by omega)) m3 nF
 have hG := hG.keep (fun k hk => by omega) m3 nF
 have hg0 := rng_fr hg0 m3 (by omega) id
 have hSO := hSO.keep (fun k hk => by omega) m3 nF
 have hf := hf.step0 m3
 refine sA rfl (send (fg [(0, _), (2, _)] ⟨rfl, rfl, ⟨⟩⟩ fun _ => (sreg (sv (xbuildS [[.int .u16 0], [.bool false], [.int .u16 0], [.bool false], [.bool false], [.bool false], [.bool false], [.bool false], [.bool false], [.int .u16 0], [.slice none 0 0], [.slice none 0 0], [.slice none 0 0], [.slice none 0 0]] zr79 ly79 rfl trivial (by simp [setAll, zs79])) ?_))))
 refine svK (xallS (lens := lMsg) in79 rfl) ?_
 rintro _ w5 ⟨b4, rfl, m6, h4, e4, s4⟩
 have hd := hd.keep (lU hU (by omega)) m6 nF
 have hG := hG.keep (fun k hk => by omega) m6 nF
 have hg0 := rng_fr hg0 m6 (by omega) id
 have hSO := hSO.keep (fun k hk => by omega) m6 nF
 have hf := hf.step0 m6
 have h2 := h2.keep m6 id
 refine suK (xstW h4 (lens' := lMsg) sz79 rfl rfl rfl rfl rfl) ?_
 rintro w8 ⟨m9, h4, s7⟩
 have hd := hd.keep (lU hU (by omega)) m9 (fun k hk hS => by have hk := hU k hk; have hS : k = b4 := hS; omega)
 have hG := hG.keep (fun k hk => by omega) m9 (fun k hk hS => by have hk := hk; have hS : k = b4 := hS; omega)
 have hg0 := rng_fr hg0 m9 (by omega) (by show ¬ (0 = b4); omega)
 have hSO := hSO.keep (fun k hk => by omega) m9 (fun k hk hS => by have hk := hk; have hS : k = b4 := hS; omega)
 have hf := hf.step m9 (nB (by omega))
 have h2 := h2.keep m9 (by show ¬ (b2 = b4); omega)
 refine send (fg [(0, _), (2, _), (4, _)] ⟨rfl, rfl, rfl, ⟨⟩⟩ fun _ => (wp_seq (sreg (sM rfl ?_))))
 refine svK (xapp sl37 in5 rfl (by decide) rfl rfl (Rw.nil _ w8.heap.size _ _) (hd.src sl37) (by simp only [maxLen]; omega) (by omega)) ?_
 rintro v7 w10 ⟨g7, r7, m11, a7, l7⟩
 have z12 := m11.size
 have hG := hG.keep (fun k hk => by omega) m11 (fun k hk hS => by have hk := hk; have hS : k = w8.heap.size := hS; omega)
 have hg0 := rng_fr hg0 m11 (by omega) (by show ¬ (0 = w8.heap.size); omega)
 have hSO := hSO.keep (fun k hk => by omega) m11 (fun k hk hS => by have hk := hk; have hS : k = w8.heap.size := hS; omega)
 have hf := hf.step m11 (fun k hk hS => by have hS : k = w8.heap.size := hS; show False; omega)
 have h2 := h2.keep m11 (by show ¬ (b2 = w8.heap.size); omega)
 have h4 := h4.keep m11 (by show ¬ (b4 = w8.heap.size); omega)
 obtain ⟨ma, mc, bm, rfl, hkm, hms, hm, hbm, hbg⟩ := msg_of (n := n) (xs := b.take n) (show Rw _ _ _ _ _ _ (bvs (b.take n)) from r7) htl (by omega) (by omega) (fun h => l7 (.inr (by omega)))
 refine sc (xcall ca47 rfl) (c47 (b := b) (m := m) (Kp := Kp) (B := B) hms hm (by omega) hnb hkm hbl hG (by omega) h4 (by omega) hMR hKp hho l0 l1 l2 l3 hna hr1 hr2 hr3 hg0 hCT (by omega) hSO (by omega) (by omega)) ?_
 rintro _ w13 ⟨⟨hle8, rfl, va, v1, v2, v3, h4, ja, j1, j2, j3⟩ | ⟨hgt8, x8, rfl⟩, m14⟩
 ·
  have z15 := m14.size
  have hf := hf.step m14 (nB (by omega))
  have h2 := h2.keep m14 (by show ¬ (b2 = b4); omega)
  have hwB : w13 = w13 := rfl
  obtain ⟨ada, cda, rfl⟩ := ja.form
  obtain ⟨ad1, cd1, rfl⟩ := j1.form
  obtain ⟨ad2, cd2, rfl⟩ := j2.form
  obtain ⟨ad3, cd3, rfl⟩ := j3.form
  refine sv (xneN if89 rfl) (send (fg [(2, _), (4, _), (9, _)] ⟨rfl, rfl, rfl, ⟨⟩⟩ fun _ => (cno rfl (wp_skip (nThen (fg [(2, _), (4, _)] ⟨rfl, rfl, ⟨⟩⟩ fun _ => ?_))))))
  refine sdrawH (Fr (fun k => k = b2) w13.drew) [(0, .rd), (1, .rd), (3, .rd), (4, .rd), (6, .rd), (7, .rd), (9, .rd), (10, .rd), (12, .rd), (13, .rd), (2, .ld), (5, .ld), (8, .ld), (11, .ld), (14, .ld), (15, .rd), (16, .ld), (17, .rd)] mixed (by kernel_rfl) (fun _ _ _ _ _ h => h) ?_
  have z16 : w13.drew.heap.size = w13.heap.size := rfl
  have hf := hf.drew
  have h2 := h2.drew
  have h4 := h4.drew
  have ja := ja.keep qel_st (lNo (by omega)) (fd w13) nF
  have j1 := j1.keep resv_st (lNo (by omega)) (fd w13) nF
  have j2 := j2.keep resv_st (lNo (by omega)) (fd w13) nF
  have j3 := j3.keep resv_st (lNo (by omega)) (fd w13) nF
  have zb_h4 := h4
  have hS17 : Fr (fun k => k = b2) w13.drew w13.drew := Fr.refl _ _
  refine hvH rfl (fun _ _ => xfld fl79_0 rfl) hS17 (hvH rfl (fun w' hS => xldS (lens := [1, 1, 1, 1, 1, 1, 1, 1, 1, 1]) ro73 rfl ((zb_h4.keep hS (by show ¬ (b4 = b2); omega)).r.sub 0 10 rfl)) hS17 (hvH rfl (fun _ _ => xfld fl79_1 rfl) hS17 (hvH rfl (fun w' hS => xld on77 rfl ((zb_h4.keep hS (by show ¬ (b4 = b2); omega)).r.c 10 rfl rfl)) hS17 (hvH rfl (fun _ _ => xfld fl79_2 rfl) hS17 (hvH rfl (fun w' hS => xld on75 rfl ((zb_h4.keep hS (by show ¬ (b4 = b2); omega)).r.c 11 rfl rfl)) hS17 (hvH rfl (fun _ _ => xfld fl79_3 rfl) hS17 (hvH rfl (fun w' hS => xld on75 rfl ((zb_h4.keep hS (by show ¬ (b4 = b2); omega)).r.c 12 rfl rfl)) hS17 (hvH rfl (fun _ _ => xfld fl79_4 rfl) hS17 (hvH rfl (fun w' hS => xld on75 rfl ((zb_h4.keep hS (by show ¬ (b4 = b2); omega)).r.c 13 rfl rfl)) hS17 ?_)))))))))
  refine hcH rfl (xcall ca48 rfl) (c48) ?_
  rintro _ w18 ⟨rfl, m19⟩
  have z20 := m19.size
  have hf := hf.step0 m19
  have h2 := h2.keep m19 id
  have ja := ja.keep qel_st (lNo (by omega)) m19 nF
  have j1 := j1.keep resv_st (lNo (by omega)) m19 nF
  have j2 := j2.keep resv_st (lNo (by omega)) m19 nF
  have j3 := j3.keep resv_st (lNo (by omega)) m19 nF
  have hS21 := hS17.step0 m19
  refine ⟨hS21, ?_⟩
  refine hcH rfl (xcall ca49 rfl) (c49 (U := Ub NoU w10 w13) (fun k hk => by have hk := (show w10.heap.size ≤ k ∧ k < w13.heap.size from hk.elim (fun h => h.elim) id); omega) ja (by omega) (fun a ha => by have := (name_pos (hna a ha)).2; omega)) ?_
  rintro v16 w22 ⟨L16, m23⟩
  have z24 := m23.size
  have hf := hf.step0 m23
  have h2 := h2.keep m23 id
  have j1 := j1.keep resv_st (lNo (by omega)) m23 nF
  have j2 := j2.keep resv_st (lNo (by omega)) m23 nF
  have j3 := j3.keep resv_st (lNo (by omega)) m23 nF
  have hS25 := hS21.step0 m23
  obtain ⟨aq16, cq16, rfl⟩ := L16.form
  refine ⟨hS25, ?_⟩
  refine hcH rfl (xcall ca50 rfl) (c50 (U := Ub NoU w10 w13) (fun k hk => by have hk := (show w10.heap.size ≤ k ∧ k < w13.heap.size from hk.elim (fun h => h.elim) id); omega) j1 (by omega) hb1) ?_
  rintro v19 w26 ⟨l19, L19, hA19, m27⟩
  have z28 := m27.size
  have hf := hf.step0 m27
  have h2 := h2.keep m27 id
  have j2 := j2.keep resv_st (lNo (by omega)) m27 nF
  have j3 := j3.keep resv_st (lNo (by omega)) m27 nF
  have L16 := L16.keep ask_st (fun k hk => by have hk := (show (w10.heap.size ≤ k ∧ k < w13.heap.size) ∨ _ from hk.imp_left (fun h => h.elim (fun h => h.elim) id)); omega) m27 nF
  have hS29 := hS25.step0 m27
  obtain ⟨aq19, cq19, rfl⟩ := L19.form
  refine ⟨hS29, ?_⟩
  refine hcH rfl (xcall ca50 rfl) (c50 (U := Ub NoU w10 w13) (fun k hk => by have hk := (show w10.heap.size ≤ k ∧ k < w13.heap.size from hk.elim (fun h => h.elim) id); omega) j2 (by omega) hb2) ?_
  rintro v22 w30 ⟨l22, L22, hA22, m31⟩
  have z32 := m31.size
  have hf := hf.step0 m31
  have h2 := h2.keep m31 id
  have j3 := j3.keep resv_st (lNo (by omega)) m31 nF
  have L16 := L16.keep ask_st (fun k hk => by have hk := (show (w10.heap.size ≤ k ∧ k < w13.heap.size) ∨ _ from hk.imp_left (fun h => h.elim (fun h => h.elim) id)); omega) m31 nF
  have L19 := L19.keep rec_st (fun k hk => by have hk := (show (w10.heap.size ≤ k ∧ k < w13.heap.size) ∨ _ from hk.imp_left (fun h => h.elim (fun h => h.elim) id)); omega) m31 nF
  have hS33 := hS29.step0 m31
  obtain ⟨aq22, cq22, rfl⟩ := L22.form
  refine ⟨hS33, ?_⟩
  refine hcH rfl (xcall ca50 rfl) (c50 (U := Ub NoU w10 w13) (fun k hk => by have hk := (show w10.heap.size ≤ k ∧ k < w13.heap.size from hk.elim (fun h => h.elim) id); omega) j3 (by omega) hb3) ?_
  rintro v25 w34 ⟨l25, L25, hA25, m35⟩
  have z36 := m35.size
  have hf := hf.step0 m35
  have h2 := h2.keep m35 id
  have L16 := L16.keep ask_st (fun k hk => by have hk := (show (w10.heap.size ≤ k ∧ k < w13.heap.size) ∨ _ from hk.imp_left (fun h => h.elim (fun h => h.elim) id)); omega) m35 nF
  have L19 := L19.keep rec_st (fun k hk => by have hk := (show (w10.heap.size ≤ k ∧ k < w13.heap.size) ∨ _ from hk.imp_left (fun h => h.elim (fun h => h.elim) id)); omega) m35 nF
  have L22 := L22.keep rec_st (fun k hk => by have hk := (show (w10.heap.size ≤ k ∧ k < w13.heap.size) ∨ _ from hk.imp_left (fun h => h.elim (fun h => h.elim) id)); omega) m35 nF
  have hS37 := hS33.step0 m35
  obtain ⟨aq25, cq25, rfl⟩ := L25.form
  refine ⟨hS37, ?_⟩
  refine hvH rfl (fun _ _ => xbuildS (msgSegs m.head (.slice aq16 m.asks.length cq16) (.slice aq19 l19.length cq19) (.slice aq22 l22.length cq22) (.slice aq25 l25.length cq25)) zr28 ly28 rfl (by simp [fitAll, zs28, Value.cells, headSegs]) rfl) hS37 ?_
  refine hluKH rfl (xstW h2 (lens' := lMsg) sz28 rfl rfl rfl rfl rfl) ?_
  rintro w39 ⟨m40, h2, s38⟩
  have hf := hf.step m40 (nB (by omega))
  have L16 := L16.keep ask_st (fun k hk => by have hk := (show (w10.heap.size ≤ k ∧ k < w13.heap.size) ∨ _ from hk.imp_left (fun h => h.elim (fun h => h.elim) id)); omega) m40 (fun k hk hS => by have hk := (show (w10.heap.size ≤ k ∧ k < w13.heap.size) ∨ _ from hk.imp_left (fun h => h.elim (fun h => h.elim) id)); have hS : k = b2 := hS; omega)
  have L19 := L19.keep rec_st (fun k hk => by have hk := (show (w10.heap.size ≤ k ∧ k < w13.heap.size) ∨ _ from hk.imp_left (fun h => h.elim (fun h => h.elim) id)); omega) m40 (fun k hk hS => by have hk := (show (w10.heap.size ≤ k ∧ k < w13.heap.size) ∨ _ from hk.imp_left (fun h => h.elim (fun h => h.elim) id)); have hS : k = b2 := hS; omega)
  have L22 := L22.keep rec_st (fun k hk => by have hk := (show (w10.heap.size ≤ k ∧ k < w13.heap.size) ∨ _ from hk.imp_left (fun h => h.elim (fun h => h.elim) id)); omega) m40 (fun k hk hS => by have hk := (show (w10.heap.size ≤ k ∧ k < w13.heap.size) ∨ _ from hk.imp_left (fun h => h.elim (fun h => h.elim) id)); have hS : k = b2 := hS; omega)
  have L25 := L25.keep rec_st (fun k hk => by have hk := (show (w10.heap.size ≤ k ∧ k < w13.heap.size) ∨ _ from hk.imp_left (fun h => h.elim (fun h => h.elim) id)); omega) m40 (fun k hk hS => by have hk := (show (w10.heap.size ≤ k ∧ k < w13.heap.size) ∨ _ from hk.imp_left (fun h => h.elim (fun h => h.elim) id)); have hS : k = b2 := hS; omega)
  have hS41 := hS37.step m40 (fun k hk hS => by have hS : k = b2 := hS; show k = b2; omega)
  refine ⟨hS41, ?_⟩
  refine qqA rfl rfl hS41 (hendH (fg [(2, _), (3, _)] ⟨rfl, rfl, ⟨⟩⟩ fun _ => (wp_ret ?_)))
  refine rp2 rfl ⟨_, rfl, ldS (lens := lMsg) ro28 h2.r⟩ rfl ?_
  exact ⟨.inl ⟨by omega, l19, l22, l25, _, _, _, _, rfl, hA19, hA22, hA25, L16.mono ask_gr (fun k hk => uu_mono hk (by omega) (by omega) (by omega) (by omega)), L19.mono rec_gr (fun k hk => uu_mono hk (by omega) (by omega) (by omega) (by omega)), L22.mono rec_gr (fun k hk => uu_mono hk (by omega) (by omega) (by omega) (by omega)), L25.mono rec_gr (fun k hk => uu_mono hk (by omega) (by omega) (by omega) (by omega))⟩, hf⟩
 ·
  have z42 := m14.size
  have hf := hf.step m14 (nB (by omega))
  have h2 := h2.keep m14 (by show ¬ (b2 = b4); omega)
  refine sv (xneI if89 rfl) (send (fg [(2, _), (4, _), (9, _)] ⟨rfl, rfl, rfl, ⟨⟩⟩ fun _ => (cyes rfl (sreg (sv (xbuildS [[.int .u16 0], [.bool false], [.int .u16 0], [.bool false], [.bool false], [.bool false], [.bool false], [.bool false], [.bool false], [.int .u16 0], [.slice none 0 0], [.slice none 0 0], [.slice none 0 0], [.slice none 0 0]] zr28 ly28 rfl trivial (by simp [setAll, zs28])) ?_)))))
  refine suK (xstW h2 (lens' := lMsg) sz28 rfl rfl rfl rfl rfl) ?_
  rintro w44 ⟨m45, h2, s43⟩
  have hf := hf.step m45 (nB (by omega))
  refine sA rfl (send (fg [(2, _), (3, _)] ⟨rfl, rfl, ⟨⟩⟩ fun _ => (wp_ret (rThen ?_))))
  refine rp2 rfl ⟨_, rfl, ldS (lens := lMsg) ro28 h2.r⟩ rfl ?_
  exact ⟨.inr ⟨by omega, rfl⟩, hf⟩
end Go.Proofs.YtifnodoffgfpbaaGreatDoor

namespace Go.Proofs.YtifnodoffgfpbaaGreatDoor
open Go

theorem asc_of {r : RecD} (h : PackOk r) : r.kind = 11 ∨ r.kind = 12 → asc r.pairs := h.2.2.1.2.2.2.2.2.2.2
theorem back_of {r : RecD} (h : PackOk r) (hf : r.fits) : NamesOk r ∧ r.pairs.length ≤ 1048576 ∧ r.texts.length ≤ 1048576 ∧ r.data.length ≤ 1048576 ∧ ∀ q ∈ r.pairs, q.data.length ≤ 65535 :=
  ⟨h.2.1, hf.2.2.2.2.2.2.2.1, hf.2.2.2.2.1, hf.2.1, h.2.2.1.2.2.2.2.1⟩

set_option maxHeartbeats 4000000 in
set_option maxRecDepth 100000 in
theorem c6 {w : World} {U : Nat → Prop} (hU : ∀ k, U k → k < w.heap.size) {m : MsgD} {va v1 v2 v3 : Value} (ha : LA AskEl lAsk U w va m.asks) (y1 : LA RecEl lRec U w v1 m.one) (y2 : LA RecEl lRec U w v2 m.two) (y3 : LA RecEl lRec U w v3 m.three) (hm : m.fits) (hG : GE w) (hsz : 21 ≤ w.heap.size) {Tz : TypeId} {xz : Option Addr} (hg0 : w.rangeAt 0 0 [.iface Tz (.pointer xz)]) (hCT : CmpT Tz)  :
  Ret PP 6 [ag (msgSegs m.head va v1 v2 v3)] w (fun u w' => u = .bool true ∧ Fr0 w w') := by
 obtain ⟨aa, ca, rfl⟩ := ha.form
 obtain ⟨a1, c1, rfl⟩ := y1.form
 obtain ⟨a2, c2, rfl⟩ := y2.form
 obtain ⟨a3, c3, rfl⟩ := y3.form
 have hfl := hm.lists
 have hf : Fr (fun _ => False) w w := Fr.refl _ _
 refine ret_of Tryz.func6 rfl rfl rfl [(0, _)] rfl ?_
 refine sreg ?_
 refine svK (xboxS (lens := lMsg) rfl rfl) ?_
 rintro _ w2 ⟨b1, rfl, m3, h1, e1, s1⟩
 have ha := ha.keep ask_st (lU hU (by omega)) m3 nF
 have y1 := y1.keep rec_st (lU hU (by omega)) m3 nF
 have y2 := y2.keep rec_st (lU hU (by omega)) m3 nF
 have y3 := y3.keep rec_st (lU hU (by omega)) m3 nF
 have hG := hG.keep (fun k hk => by omega) m3 nF
 have hg0 := rng_fr hg0 m3 (by omega) id
 have hf := hf.step0 m3
 refine sA rfl (send (fg [(1, _)] ⟨rfl, ⟨⟩⟩ fun _ => (wp_seq (sreg (sv (xldS (lens := lMsg) ro28 rfl h1.r) ?_)))))
 refine sc (xcall ca12 rfl) (c12 (lU hU (by omega)) ha y1 y2 y3 hm) ?_
 rintro _ w4 ⟨rfl, m5⟩
 have z6 := m5.size
 have ha := ha.keep ask_st (lU hU (by omega)) m5 nF
 have y1 := y1.keep rec_st (lU hU (by omega)) m5 nF
 have y2 := y2.keep rec_st (lU hU (by omega)) m5 nF
 have y3 := y3.keep rec_st (lU hU (by omega)) m5 nF
 have hG := hG.keep (fun k hk => by omega) m5 nF
 have hg0 := rng_fr hg0 m5 (by omega) id
 have hf := hf.step0 m5
 have h1 := h1.keep m5 id
 refine sv (xnot rfl) (send (fg [(1, _), (9, _)] ⟨rfl, rfl, ⟨⟩⟩ fun _ => (cno rfl (wp_skip (nThen (fg [(1, _)] ⟨rfl, ⟨⟩⟩ fun _ => (sreg (sv (xldS (lens := lMsg) ro28 rfl h1.r) ?_))))))))
 refine sc (xcall ca13 rfl) (c13 (U := U) (lU hU (by omega)) ha y1 y2 y3 hm.2.1 hfl.2 hfl.1 hm.1) ?_
 rintro _ w7 ⟨vc, vc1, vc2, vc3, rfl, ka, z1, z2, z3, m8⟩
 have z9 := m8.size
 have ha := ha.keep ask_st (lU hU (by omega)) m8 nF
 have y1 := y1.keep rec_st (lU hU (by omega)) m8 nF
 have y2 := y2.keep rec_st (lU hU (by omega)) m8 nF
 have y3 := y3.keep rec_st (lU hU (by omega)) m8 nF
 have hG := hG.keep (fun k hk => by omega) m8 nF
 have hg0 := rng_fr hg0 m8 (by omega) id
 have hf := hf.step0 m8
 have h1 := h1.keep m8 id
 obtain ⟨ac, cc, rfl⟩ := ka.form
 obtain ⟨ac1, cc1, rfl⟩ := z1.form
 obtain ⟨ac2, cc2, rfl⟩ := z2.form
 obtain ⟨ac3, cc3, rfl⟩ := z3.form
 refine svK (xallS (lens := lMsg) in34 rfl) ?_
 rintro _ w11 ⟨b3, rfl, m12, h3, e10, s10⟩
 have ha := ha.keep ask_st (lU hU (by omega)) m12 nF
 have y1 := y1.keep rec_st (lU hU (by omega)) m12 nF
 have y2 := y2.keep rec_st (lU hU (by omega)) m12 nF
 have y3 := y3.keep rec_st (lU hU (by omega)) m12 nF
 have hG := hG.keep (fun k hk => by omega) m12 nF
 have hg0 := rng_fr hg0 m12 (by omega) id
 have hf := hf.step0 m12
 have h1 := h1.keep m12 id
 have ka := ka.keep ask_st (lUb hU (by omega) (by omega)) m12 nF
 have z1 := z1.keep rec_st (lUb hU (by omega) (by omega)) m12 nF
 have z2 := z2.keep rec_st (lUb hU (by omega) (by omega)) m12 nF
 have z3 := z3.keep rec_st (lUb hU (by omega) (by omega)) m12 nF
 refine suK (xstW h3 (lens' := lMsg) sz34 rfl rfl rfl rfl rfl) ?_
 rintro w14 ⟨m15, h3, s13⟩
 have ha := ha.keep ask_st (lU hU (by omega)) m15 (fun k hk hS => by have hk := hU k hk; have hS : k = b3 := hS; omega)
 have y1 := y1.keep rec_st (lU hU (by omega)) m15 (fun k hk hS => by have hk := hU k hk; have hS : k = b3 := hS; omega)
 have y2 := y2.keep rec_st (lU hU (by omega)) m15 (fun k hk hS => by have hk := hU k hk; have hS : k = b3 := hS; omega)
 have y3 := y3.keep rec_st (lU hU (by omega)) m15 (fun k hk hS => by have hk := hU k hk; have hS : k = b3 := hS; omega)
 have hG := hG.keep (fun k hk => by omega) m15 (fun k hk hS => by have hk := hk; have hS : k = b3 := hS; omega)
 have hg0 := rng_fr hg0 m15 (by omega) (by show ¬ (0 = b3); omega)
 have hf := hf.step m15 (nB (by omega))
 have h1 := h1.keep m15 (by show ¬ (b1 = b3); omega)
 have ka := ka.keep ask_st (lUb hU (by omega) (by omega)) m15 (fun k hk hS => by have hk := Ub.num hU hk; have hS : k = b3 := hS; omega)
 have z1 := z1.keep rec_st (lUb hU (by omega) (by omega)) m15 (fun k hk hS => by have hk := Ub.num hU hk; have hS : k = b3 := hS; omega)
 have z2 := z2.keep rec_st (lUb hU (by omega) (by omega)) m15 (fun k hk hS => by have hk := Ub.num hU hk; have hS : k = b3 := hS; omega)
 have z3 := z3.keep rec_st (lUb hU (by omega) (by omega)) m15 (fun k hk hS => by have hk := Ub.num hU hk; have hS : k = b3 := hS; omega)
 refine send (fg [(1, _), (3, _)] ⟨rfl, rfl, ⟨⟩⟩ fun _ => (wp_seq (sreg (sv (xldS (lens := lMsg) ro34 rfl h3.r) ?_))))
 refine sc (xcall ca14 rfl) (c14 (lUb hU (by omega) (by omega)) ka z1 z2 z3 hm.2.1 hfl.2 hfl.1 hm.1) ?_
 rintro _ w16 ⟨gb13, rfl, gp13, m17⟩
 have z18 := m17.size
 have ha := ha.keep ask_st (lU hU (by omega)) m17 nF
 have y1 := y1.keep rec_st (lU hU (by omega)) m17 nF
 have y2 := y2.keep rec_st (lU hU (by omega)) m17 nF
 have y3 := y3.keep rec_st (lU hU (by omega)) m17 nF
 have hG := hG.keep (fun k hk => by omega) m17 nF
 have hg0 := rng_fr hg0 m17 (by omega) id
 have hf := hf.step0 m17
 have h1 := h1.keep m17 id
 have ka := ka.keep ask_st (lUb hU (by omega) (by omega)) m17 nF
 have z1 := z1.keep rec_st (lUb hU (by omega) (by omega)) m17 nF
 have z2 := z2.keep rec_st (lUb hU (by omega) (by omega)) m17 nF
 have z3 := z3.keep rec_st (lUb hU (by omega) (by omega)) m17 nF
 have h3 := h3.keep m17 id
 rcases Bool.eq_false_or_eq_true gb13 with rfl | rfl
 ·
  have hfew := gp13 rfl
  obtain ⟨hna, hpk, hcn, hho⟩ := few_pack hfew
  have hpm := packM_ge (some []) m
  have hpM := packM_le hfew
  refine sv (xnot rfl) (sM rfl (gyes rfl rfl rfl (sv (xldS (lens := lMsg) ro34 rfl h3.r) (gyes rfl rfl rfl ?_))))
  refine sc (xcall ca16 rfl) (c16 (lUb hU (by omega) (by omega)) ka z1 z2 z3 hfl.2 hfl.1) ?_
  rintro _ w19 ⟨gb17, rfl, gp17, m20⟩
  have z21 := m20.size
  have ha := ha.keep ask_st (lU hU (by omega)) m20 nF
  have y1 := y1.keep rec_st (lU hU (by omega)) m20 nF
  have y2 := y2.keep rec_st (lU hU (by omega)) m20 nF
  have y3 := y3.keep rec_st (lU hU (by omega)) m20 nF
  have hG := hG.keep (fun k hk => by omega) m20 nF
  have hg0 := rng_fr hg0 m20 (by omega) id
  have hf := hf.step0 m20
  have h1 := h1.keep m20 id
  have ka := ka.keep ask_st (lUb hU (by omega) (by omega)) m20 nF
  have z1 := z1.keep rec_st (lUb hU (by omega) (by omega)) m20 nF
  have z2 := z2.keep rec_st (lUb hU (by omega) (by omega)) m20 nF
  have z3 := z3.keep rec_st (lUb hU (by omega) (by omega)) m20 nF
  have h3 := h3.keep m20 id
  rcases Bool.eq_false_or_eq_true gb17 with rfl | rfl
  ·
   have hpl := gp17 rfl
   have hrok : ∀ l ∈ [m.one, m.two, m.three], ∀ r ∈ l, ReadOk r := fun l hl r hr => readOk_of (hpk l hl r hr) (hpl l hl r hr)
   refine gyes rfl rfl rfl (sv (xnot rfl) (sv (xpickF rfl rfl) (send (fg [(1, _), (3, _), (19, _)] ⟨rfl, rfl, rfl, ⟨⟩⟩ fun _ => (cno rfl (wp_skip (nThen (fg [(1, _), (3, _)] ⟨rfl, rfl, ⟨⟩⟩ fun _ => ?_))))))))
   have hmL := msgL_le hfew
   refine sreg (sv (xldS (lens := lMsg) ro34 rfl h3.r) ?_)
   refine sc (xcall ca20 rfl) (c20f (lUb hU (by omega) (by omega)) hm hfew ka z1 z2 z3) ?_
   rintro _ w22 ⟨p21, q21, g21, rfl, r21, m23, a21, l21⟩
   have z24 := m23.size
   have ha := ha.keep ask_st (lU hU (by omega)) m23 nF
   have y1 := y1.keep rec_st (lU hU (by omega)) m23 nF
   have y2 := y2.keep rec_st (lU hU (by omega)) m23 nF
   have y3 := y3.keep rec_st (lU hU (by omega)) m23 nF
   have hG := hG.keep (fun k hk => by omega) m23 nF
   have hg0 := rng_fr hg0 m23 (by omega) id
   have hf := hf.step0 m23
   have h1 := h1.keep m23 id
   refine sA rfl (send (fg [(1, _), (4, _)] ⟨rfl, rfl, ⟨⟩⟩ fun _ => (sreg (sM rfl ?_))))
   refine sc (xcall ca22 rfl) (c22 (U := fun k => k = g21) (b := msgL m) (n := (msgL m).length) (m := m) (Kp := fun k => k = 0) (B := 0) (mb := 0) (sf := fun _ => emptyB) (fun k hk => by have hk : k = g21 := hk; omega) (by rw [List.take_length]; exact BR.ba r21 rfl) (Nat.le_refl _) (by omega) hG (by omega) (msgL_at (few_names hfew).1 (few_names hfew).2 rfl) (fun k hk => ⟨by omega, .inl hk⟩) hho (by omega) (by omega) (by omega) (by omega) hna (fun r hr => ⟨hrok m.one (by simp) r hr, asc_of (hpk m.one (by simp) r hr)⟩) (fun r hr => ⟨hrok m.two (by simp) r hr, asc_of (hpk m.two (by simp) r hr)⟩) (fun r hr => ⟨hrok m.three (by simp) r hr, asc_of (hpk m.three (by simp) r hr)⟩) hg0 hCT (by omega) (.inl (Nat.le_refl _)) (fun r hr => back_of (hpk m.one (by simp) r hr) (hfl.2 m.one (by simp) r hr)) (fun r hr => back_of (hpk m.two (by simp) r hr) (hfl.2 m.two (by simp) r hr)) (fun r hr => back_of (hpk m.three (by simp) r hr) (hfl.2 m.three (by simp) r hr))) ?_
   rintro _ w25 ⟨⟨-, l1, l2, l3, ua, u1, u2, u3, rfl, jl1, jl2, jl3, ja, j1, j2, j3⟩ | ⟨hlt, -⟩, m26⟩
   ·
    have z27 := m26.size
    have ha := ha.keep ask_st (lU hU (by omega)) m26 nF
    have y1 := y1.keep rec_st (lU hU (by omega)) m26 nF
    have y2 := y2.keep rec_st (lU hU (by omega)) m26 nF
    have y3 := y3.keep rec_st (lU hU (by omega)) m26 nF
    have hf := hf.step0 m26
    have h1 := h1.keep m26 id
    have r21 := r21.keep m26 id
    obtain ⟨ada, cda, rfl⟩ := ja.form
    obtain ⟨ad1, cd1, rfl⟩ := j1.form
    obtain ⟨ad2, cd2, rfl⟩ := j2.form
    obtain ⟨ad3, cd3, rfl⟩ := j3.form
    obtain ⟨bf1, bf2, bf3⟩ := back_fits hm hfew jl1 jl2 jl3
    refine sM rfl (sv (xex20 rfl) (sv (xex21 rfl) ?_))
    refine svK (xallS (lens := lMsg) in28 rfl) ?_
    rintro _ w29 ⟨b5, rfl, m30, h5, e28, s28⟩
    have ha := ha.keep ask_st (lU hU (by omega)) m30 nF
    have y1 := y1.keep rec_st (lU hU (by omega)) m30 nF
    have y2 := y2.keep rec_st (lU hU (by omega)) m30 nF
    have y3 := y3.keep rec_st (lU hU (by omega)) m30 nF
    have hf := hf.step0 m30
    have h1 := h1.keep m30 id
    have r21 := r21.keep m30 id
    have ja := ja.keep ask_st (lNo (by omega)) m30 nF
    have j1 := j1.keep rec_st (lNo (by omega)) m30 nF
    have j2 := j2.keep rec_st (lNo (by omega)) m30 nF
    have j3 := j3.keep rec_st (lNo (by omega)) m30 nF
    refine suK (xstW h5 (lens' := lMsg) sz28 rfl rfl rfl rfl rfl) ?_
    rintro w32 ⟨m33, h5, s31⟩
    have ha := ha.keep ask_st (lU hU (by omega)) m33 (fun k hk hS => by have hk := hU k hk; have hS : k = b5 := hS; omega)
    have y1 := y1.keep rec_st (lU hU (by omega)) m33 (fun k hk hS => by have hk := hU k hk; have hS : k = b5 := hS; omega)
    have y2 := y2.keep rec_st (lU hU (by omega)) m33 (fun k hk hS => by have hk := hU k hk; have hS : k = b5 := hS; omega)
    have y3 := y3.keep rec_st (lU hU (by omega)) m33 (fun k hk hS => by have hk := hU k hk; have hS : k = b5 := hS; omega)
    have hf := hf.step m33 (nB (by omega))
    have h1 := h1.keep m33 (by show ¬ (b1 = b5); omega)
    have r21 := r21.keep m33 (by show ¬ (g21 = b5); omega)
    have ja := ja.keep ask_st (lNo (by omega)) m33 (fun k hk hS => by have hk := Ub.num (U := NoU) (n := 0) (fun _ h => h.elim) hk; have hS : k = b5 := hS; omega)
    have j1 := j1.keep rec_st (lNo (by omega)) m33 (fun k hk hS => by have hk := Ub.num (U := NoU) (n := 0) (fun _ h => h.elim) hk; have hS : k = b5 := hS; omega)
    have j2 := j2.keep rec_st (lNo (by omega)) m33 (fun k hk hS => by have hk := Ub.num (U := NoU) (n := 0) (fun _ h => h.elim) hk; have hS : k = b5 := hS; omega)
    have j3 := j3.keep rec_st (lNo (by omega)) m33 (fun k hk hS => by have hk := Ub.num (U := NoU) (n := 0) (fun _ h => h.elim) hk; have hS : k = b5 := hS; omega)
    refine sA rfl (send (fg [(1, _), (4, _), (5, _), (6, _)] ⟨rfl, rfl, rfl, rfl, ⟨⟩⟩ fun _ => (sreg (sM rfl (sM rfl (gyes rfl rfl rfl (sv (xldS (lens := lMsg) ro28 rfl h5.r) (gyes rfl rfl rfl (sv (xldS (lens := lMsg) ro28 rfl h1.r) (gyes rfl rfl rfl ?_))))))))))
    refine sc (xcall ca23 rfl) (c23 (U := fun k => U k ∨ Ub NoU w22 w25 k) (m' := backM m l1 l2 l3) (m := m) (fun k hk => by rcases hk with hk | hk; (have hk := hU k hk; omega); (have hk := (show w22.heap.size ≤ k ∧ k < w25.heap.size from hk.elim (fun h => h.elim) id); omega)) ⟨rfl, rfl, jl1, jl2, jl3⟩ (ja.mono ask_gr (fun k h => .inr h)) (j1.mono rec_gr (fun k h => .inr h)) (j2.mono rec_gr (fun k h => .inr h)) (j3.mono rec_gr (fun k h => .inr h)) (ha.mono ask_gr (fun k h => .inl h)) (y1.mono rec_gr (fun k h => .inl h)) (y2.mono rec_gr (fun k h => .inl h)) (y3.mono rec_gr (fun k h => .inl h)) hm.1 hm.2.2.1 hm.2.2.2.1 hm.2.2.2.2.1) ?_
    rintro _ w34 ⟨rfl, m35⟩
    have z36 := m35.size
    have hf := hf.step0 m35
    have r21 := r21.keep m35 id
    have ja := ja.keep ask_st (lNo (by omega)) m35 nF
    have j1 := j1.keep rec_st (lNo (by omega)) m35 nF
    have j2 := j2.keep rec_st (lNo (by omega)) m35 nF
    have j3 := j3.keep rec_st (lNo (by omega)) m35 nF
    have h5 := h5.keep m35 id
    refine sv (xpickT rfl rfl) (sM rfl (gyes rfl rfl rfl (sv (xldS (lens := lMsg) ro28 rfl h5.r) (gyes rfl rfl rfl ?_))))
    refine sc (xcall ca13 rfl) (c13 (U := Ub NoU w22 w25) (m := backM m l1 l2 l3) (fun k hk => by have hk := (show w22.heap.size ≤ k ∧ k < w25.heap.size from hk.elim (fun h => h.elim) id); omega) ja j1 j2 j3 hm.2.1 (fun l hl r hr => (bf1 l hl r hr).1) bf2 hm.1) ?_
    rintro _ w37 ⟨kc, kc1, kc2, kc3, rfl, kb, kb1, kb2, kb3, m38⟩
    have z39 := m38.size
    have hf := hf.step0 m38
    have r21 := r21.keep m38 id
    obtain ⟨ae, ce, rfl⟩ := kb.form
    obtain ⟨ae1, ce1, rfl⟩ := kb1.form
    obtain ⟨ae2, ce2, rfl⟩ := kb2.form
    obtain ⟨ae3, ce3, rfl⟩ := kb3.form
    refine gyes rfl rfl rfl ?_
    refine sc (xcall ca20 rfl) (c20b (m := m) (fun k hk => by have hk := (show (w22.heap.size ≤ k ∧ k < w25.heap.size) ∨ _ from hk.imp_left (fun h => h.elim (fun h => h.elim) id)); omega) hm hfew kb kb1 kb2 kb3 jl1 jl2 jl3) ?_
    rintro _ w40 ⟨p36, q36, g36, rfl, r36, m41, a36, l36⟩
    have z42 := m41.size
    have hf := hf.step0 m41
    have r21 := r21.keep m41 id
    refine gyes rfl rfl rfl (sM rfl (gyes rfl rfl rfl ?_))
    refine sc (xcall ca19 rfl) (c19_eq (BR.ba (U := fun k => k = g36) r36 rfl) (BR.ba (U := fun k => k = g21) r21 rfl)) ?_
    rintro _ w43 ⟨rfl, m44⟩
    have z45 := m44.size
    have hf := hf.step0 m44
    refine sv (xpickT rfl rfl) (sA rfl (send (fg [(2, _)] ⟨rfl, ⟨⟩⟩ fun _ => (wp_ret ?_))))
    refine rp1 rfl rfl ?_
    first | exact ⟨rfl, hf⟩ | exact ⟨by simp, hf⟩
   · exact absurd hlt (Nat.lt_irrefl _)
  ·
   refine gyes rfl rfl rfl (sv (xnot rfl) (sv (xpickF rfl rfl) (send (fg [(1, _), (3, _), (19, _)] ⟨rfl, rfl, rfl, ⟨⟩⟩ fun _ => (cyes rfl (sreg (sA rfl (send (fg [(2, _)] ⟨rfl, ⟨⟩⟩ fun _ => (wp_ret (rThen ?_)))))))))))
   refine rp1 rfl rfl ?_
   first | exact ⟨rfl, hf⟩ | exact ⟨by simp, hf⟩
 ·
  refine sv (xnot rfl) (sM rfl (gno rfl rfl rfl (gno rfl rfl rfl (gno rfl rfl rfl (sv (xpickT rfl rfl) (send (fg [(1, _), (3, _), (19, _)] ⟨rfl, rfl, rfl, ⟨⟩⟩ fun _ => (cyes rfl (sreg (sA rfl (send (fg [(2, _)] ⟨rfl, ⟨⟩⟩ fun _ => (wp_ret (rThen ?_))))))))))))))
  refine rp1 rfl rfl ?_
  first | exact ⟨rfl, hf⟩ | exact ⟨by simp, hf⟩
end Go.Proofs.YtifnodoffgfpbaaGreatDoor

namespace Go.Proofs.YtifnodoffgfpbaaGreatDoor
open Go

theorem star_err : "*" ++ "errors.errorString" = "*errors.errorString" := by decide
theorem row332 (u : TypeId) (h : PP.typeName? 3 u = some "*errors.errorString") : u = 332 :=
  typeName_ptr_named (nm := "errors.errorString") (by rw [star_err]; kernel_rfl) (by kernel_rfl) (by decide) u (by rw [star_err]; exact h)
theorem cmp_332 : (match PP.underlying 332 with
    | some (.pointer e) => (PP.info? 332).any (·.comparable) && (PP.info? e).isSome
    | _ => false) = true := by kernel_rfl
theorem cmpT_332 : CmpT 332 := by
  have hr := cmp_332
  cases hu : PP.underlying 332 with
  | none => rw [hu] at hr; cases hr
  | some d =>
    rw [hu] at hr
    cases d with
    | pointer e =>
      simp only [Bool.and_eq_true] at hr
      obtain ⟨h1, h2⟩ := hr
      cases hi : PP.info? 332 with
      | none => rw [hi] at h1; simp at h1
      | some i =>
        rw [hi] at h1
        obtain ⟨j, hj⟩ := Option.isSome_iff_exists.1 h2
        exact ⟨by decide, e, i, j, hu, hi, by simpa using h1, hj⟩
    | _ => cases hr
theorem rng_one {w : World} {b : Nat} {v : Value} (h : w.cell? ⟨b, 0, none⟩ = some v) : w.rangeAt b 0 [v] := fun j u hu => by
  cases j with
  | zero => simp at hu; subst hu; exact h
  | succ j => simp at hu
end Go.Proofs.YtifnodoffgfpbaaGreatDoor

namespace Go.Proofs.YtifnodoffgfpbaaGreatDoor
open Go Go.ChangeShapes Go.WideShapes Go.RowKit

/-- the names of sections, as a map's entries -/
def secEnts : Array MapEntry := #[⟨.int .u8 1, .string ⟨#[104, 101, 97, 100, 101, 114]⟩, 0⟩, ⟨.int .u8 2, .string ⟨#[81, 117, 101, 115, 116, 105, 111, 110]⟩, 1⟩, ⟨.int .u8 3, .string ⟨#[65, 110, 115, 119, 101, 114]⟩, 2⟩,
  ⟨.int .u8 4, .string ⟨#[65, 117, 116, 104, 111, 114, 105, 116, 121]⟩, 3⟩, ⟨.int .u8 5, .string ⟨#[65, 100, 100, 105, 116, 105, 111, 110, 97, 108]⟩, 4⟩]
/-- the listed variables but the last are laid; then variable 14 is made to hold a map -/
noncomputable def wmOf (l : List (String × DataW Unit)) (os : Os) : World :=
  let b := (World.holding PP os ⟨#[], #[], []⟩).layVars PP (l.take 11)
  { b with heap := (b.heap.push (.map secEnts 5)).modify 14 fun o => match o with
    | .cells _ t f => .cells #[.map (some b.heap.size)] t f
    | o => o }
theorem wmOf_os (l : List (String × DataW Unit)) (os : Os) : (wmOf l os).os = os := World.layVars_os _ _ _
theorem witness_at {H : Type} {enc : TypeId × Value → H} {os : Os} {f : FuncId} {fn : Func} {s : OpenSpec} {conds : List PathCond} {laid : List (String × DataW Unit)} (WB : World) (ho : WB.os = os) (args : Array Value)
    (hv : (WB.forCall (fun _ _ => 0) ⟨#[], args, []⟩).variablesZipB PP = true)
    (hr : ((WB.forCall (fun _ _ => 0) ⟨#[], args, []⟩).heap.toList.drop PP.globals.size).take ((begin PP (fun _ _ => 0) default).world.heap.size - PP.globals.size) =
      (begin PP (fun _ _ => 0) default).world.heap.toList.drop PP.globals.size)
    (hok : Input.okWideB PP (WB.forCall (fun _ _ => 0) ⟨#[], args, []⟩) f ⟨#[], args, []⟩ = true)
    (hrow : s.preRow enc PP fn conds false laid (WB.forCall (fun _ _ => 0) ⟨#[], args, []⟩).memory args) :
    ∃ (w : World) (tape : Tape) (i : Input), w.os = os ∧ (w.forCall tape i).Shaped PP ∧ i.vars = [] ∧ Input.okWide PP (w.forCall tape i) .any w.heap.size f i ∧
      s.preRow enc PP fn conds false laid (w.forCall tape i).memory i.args ∧ ({} : Assume).holds PP (lone (Frame.enter PP f i.args .normal) [] (w.forCall tape i)) :=
  ⟨WB, fun _ _ => 0, ⟨#[], args, []⟩, ho, World.shaped_of_ZipB hv hr, (Input.okWide_of_okWideB (base := 0) hok).1, (Input.okWide_of_okWideB hok).2, hrow, by
    simp only [Assume.holds]
    exact ⟨by simp, by simp, fun _ => Modest.zero, by simp, by simp⟩⟩
end Go.Proofs.YtifnodoffgfpbaaGreatDoor
