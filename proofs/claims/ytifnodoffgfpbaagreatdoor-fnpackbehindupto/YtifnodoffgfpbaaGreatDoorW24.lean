/- Walks: the law on packing behind bytes. Conditions: none. -/
import Derived.Test.YtifnodoffgfpbaaGreatDoorW23
namespace Go.Proofs.YtifnodoffgfpbaaGreatDoor
open Go

theorem MsgD.fits.lists {m : MsgD} (h : m.fits) : (∀ l ∈ [m.one, m.two, m.three], l.length ≤ 1048576) ∧ (∀ l ∈ [m.one, m.two, m.three], ∀ r ∈ l, r.fits) := by
  obtain ⟨h1, h2, h3, h4, h5, h6, h7, h8⟩ := h
  constructor
  · intro l hl
    simp only [List.mem_cons, List.not_mem_nil, or_false] at hl
    rcases hl with rfl | rfl | rfl <;> assumption
  · intro l hl
    simp only [List.mem_cons, List.not_mem_nil, or_false] at hl
    rcases hl with rfl | rfl | rfl <;> assumption
theorem nameOk_le {s : ByteArray} (h : nameOk s = true) : s.size ≤ 254 ∧ nameL (bt s) := ⟨nameOk_size h, nameL_of h⟩
theorem mem_sum_le {α : Type} {f : α → Nat} {l : List α} {a : α} (h : a ∈ l) : f a ≤ (l.map f).sum := by
  induction l with
  | nil => cases h
  | cons x xs ih =>
    simp only [List.map_cons, List.sum_cons]
    rcases List.mem_cons.1 h with rfl | h
    · omega
    · have := ih h; omega
theorem few_body {r : RecD} (hs : smallR r) (hg : goodR r) : PackOk r := by
  obtain ⟨k1, k13, hz⟩ := hs
  obtain ⟨hn, h7, h11, hh, hb⟩ := hg
  simp only [sizeR] at hz
  have hz2 := sum_add4 r.pairs
  have hnl := nameOk_le hn
  have hhost : r.kind = 2 ∨ r.kind = 3 ∨ r.kind = 5 ∨ r.kind = 6 ∨ r.kind = 9 ∨ r.kind = 11 ∨ r.kind = 12 ∨ r.kind = 4 → r.host.size ≤ 254 ∧ nameL (bt r.host) := fun h => nameOk_le (hh h)
  have hbox : r.kind = 4 → r.box.size ≤ 254 ∧ nameL (bt r.box) := fun h => nameOk_le (hb h)
  have hp : ∀ p ∈ r.pairs, p.data.length ≤ 2000 := fun p hp => by
    have := mem_sum_le (f := fun p : PairD => p.data.length + 4) hp
    omega
  have hpl := pairsL_length r.pairs
  have htl := textsL_length r.texts
  refine ⟨⟨by omega, k1, k13, fun h => by have := hhost h; omega, fun h => by have := hbox h; omega, by omega, by omega, by omega, fun p h => by have := hp p h; omega⟩, ⟨hnl.2, fun h => (hhost h).2, fun h => (hbox h).2⟩,
    ⟨by omega, fun h => (h7 h).2, by omega, by omega, fun p h => by have := hp p h; omega, by omega, by omega, h11⟩, ?_⟩
  have hw1 := wire_le (bt r.host)
  have hw2 := wire_le (bt r.box)
  rw [bt_length] at hw1 hw2
  have hk : r.kind = 1 ∨ r.kind = 2 ∨ r.kind = 3 ∨ r.kind = 4 ∨ r.kind = 5 ∨ r.kind = 6 ∨ r.kind = 7 ∨ r.kind = 8 ∨ r.kind = 9 ∨ r.kind = 10 ∨ r.kind = 11 ∨ r.kind = 12 ∨ r.kind = 13 := by omega
  rcases hk with h | h | h | h | h | h | h | h | h | h | h | h | h <;> simp [bodyL, h, fixedL_length, be16_length, be32_length]
  · have := hhost (by omega); omega
  · have := hhost (by omega); omega
  · have := hhost (by omega); have := hbox h; omega
  · have := hhost (by omega); omega
  · have := hhost (by omega); omega
  · omega
  · have := hhost (by omega); omega
  · omega
  · have := hhost (by omega); omega
  · have := hhost (by omega); omega
  · omega
/-- what Few tells of a message, for the packing of it -/
theorem few_pack {m : MsgD} (h : fewM m) : (∀ a ∈ m.asks, nameL (bt a.name)) ∧ (∀ l ∈ [m.one, m.two, m.three], ∀ r ∈ l, PackOk r) ∧ (m.asks.length ≤ 40 ∧ m.one.length ≤ 40 ∧ m.two.length ≤ 40 ∧ m.three.length ≤ 40) ∧ m.head.ok := by
  obtain ⟨hc, hs, ha, hg, hh⟩ := h
  exact ⟨fun a h => nameL_of (ha a h), fun l hl r hr => few_body (hs l hl r hr) (hg l hl r hr), by omega, hh⟩
theorem packM_ge (C : Option Ent) (m : MsgD) : 12 ≤ (packM C m).length := by
  simp only [packM, List.length_append, headL_len]; omega
theorem packM_le {m : MsgD} (h : fewM m) : (packM (some []) m).length ≤ 10000000 := by
  obtain ⟨hna, hpk, hc, _⟩ := few_pack h
  have h0 := packAsks_bound hna (by omega) (some []) 12
  have h1 := packRecs_bound (fun r hr => (hpk m.one (by simp) r hr).2) (by omega) (packA (some []) m).2 (12 + (packA (some []) m).1.length)
  have h2 := packRecs_bound (fun r hr => (hpk m.two (by simp) r hr).2) (by omega) (pack1 (some []) m).2 (12 + (packA (some []) m).1.length + (pack1 (some []) m).1.length)
  have h3 := packRecs_bound (fun r hr => (hpk m.three (by simp) r hr).2) (by omega) (pack2 (some []) m).2 (12 + (packA (some []) m).1.length + (pack1 (some []) m).1.length + (pack2 (some []) m).1.length)
  have e0 : (packA (some []) m).1.length ≤ 24000 := h0
  have e1 : (pack1 (some []) m).1.length ≤ 2680000 := h1
  have e2 : (pack2 (some []) m).1.length ≤ 2680000 := h2
  have e3 : (pack3 (some []) m).1.length ≤ 2680000 := h3
  simp only [packM, List.length_append, headL_len]; omega

set_option maxHeartbeats 4000000 in
set_option maxRecDepth 100000 in
theorem c4 {w : World} {U : Nat → Prop} (hU : ∀ k, U k → k < w.heap.size) {m : MsgD} {va v1 v2 v3 : Value} (ha : LA AskEl lAsk U w va m.asks) (y1 : LA RecEl lRec U w v1 m.one) (y2 : LA RecEl lRec U w v2 m.two) (y3 : LA RecEl lRec U w v3 m.three) (hm : m.fits) {vb : Value} {cs : List UInt8} (hb : BA U w vb cs) (hcs : cs.length ≤ 1048576) :
    Ret PP 4 [ag (msgSegs m.head va v1 v2 v3), vb] w (fun u w' => u = .bool true ∧ Fr0 w w') := by
  obtain ⟨aa, ca, rfl⟩ := ha.form
  obtain ⟨a1, c1, rfl⟩ := y1.form
  obtain ⟨a2, c2, rfl⟩ := y2.form
  obtain ⟨a3, c3, rfl⟩ := y3.form
  obtain ⟨ab0, cb0, rfl, -⟩ := id hb
  have hfl := hm.lists
  have hf : Fr (fun _ => False) w w := Fr.refl _ _
  refine ret_of Tryz.func4 rfl rfl rfl [(0, _), (1, _)] rfl ?_
  refine sreg ?_
  refine svK (xboxS (lens := [1, 1, 1, 1, 1, 1, 1, 1, 1, 1, 1, 1, 1, 1]) rfl rfl) ?_
  rintro _ w2 ⟨b2, rfl, m3, h2, e1, s1⟩
  have ha := ha.keep ask_st (fun k hk => by have hk := hU k hk; omega) m3 (fun _ _ h => h)
  have y1 := y1.keep rec_st (fun k hk => by have hk := hU k hk; omega) m3 (fun _ _ h => h)
  have y2 := y2.keep rec_st (fun k hk => by have hk := hU k hk; omega) m3 (fun _ _ h => h)
  have y3 := y3.keep rec_st (fun k hk => by have hk := hU k hk; omega) m3 (fun _ _ h => h)
  have hb := hb.keep (fun k hk => by have hk := hU k hk; omega) m3 (fun _ _ h => h)
  have hf := hf.step0 m3
  refine sv (xassign rfl) ?_
  refine send ?_
  refine forget_wp [(1, _), (2, _)] ⟨rfl, rfl, trivial⟩ fun _ => ?_
  refine wp_seq ?_
  refine sreg ?_
  refine sv (xldS (lens := [1, 1, 1, 1, 1, 1, 1, 1, 1, 1, 1, 1, 1, 1]) ro28 rfl h2.r) ?_
  refine sc (xcall ca12 rfl) (c12 (fun k hk => by have hk := hU k hk; omega) ha y1 y2 y3 hm) ?_
  rintro _ w4 ⟨rfl, m5⟩
  have z6 := m5.size
  have ha := ha.keep ask_st (fun k hk => by have hk := hU k hk; omega) m5 (fun _ _ h => h)
  have y1 := y1.keep rec_st (fun k hk => by have hk := hU k hk; omega) m5 (fun _ _ h => h)
  have y2 := y2.keep rec_st (fun k hk => by have hk := hU k hk; omega) m5 (fun _ _ h => h)
  have y3 := y3.keep rec_st (fun k hk => by have hk := hU k hk; omega) m5 (fun _ _ h => h)
  have hb := hb.keep (fun k hk => by have hk := hU k hk; omega) m5 (fun _ _ h => h)
  have hf := hf.step0 m5
  have h2 := h2.keep m5 (fun h => h)
  refine sv (xnot rfl) ?_
  refine sv (xmove rfl) ?_
  refine gyes rfl rfl rfl ?_
  refine sv (xmove rfl) ?_
  refine gyes rfl rfl rfl ?_
  refine sv (xlen sl37 rfl) ?_
  refine gyes rfl rfl rfl ?_
  refine sv (exF (xgtr rfl rfl) (by omega)) ?_
  refine sv (xpickF rfl rfl) ?_
  refine send ?_
  refine forget_wp [(1, _), (2, _), (16, _)] ⟨rfl, rfl, rfl, trivial⟩ fun _ => ?_
  refine cno rfl ?_
  refine wp_skip ?_
  refine nThen ?_
  refine forget_wp [(1, _), (2, _)] ⟨rfl, rfl, trivial⟩ fun _ => ?_
  refine wp_seq ?_
  refine sreg ?_
  refine sv (xldS (lens := [1, 1, 1, 1, 1, 1, 1, 1, 1, 1, 1, 1, 1, 1]) ro28 rfl h2.r) ?_
  refine sc (xcall ca13 rfl) (c13 (U := U) (fun k hk => by have hk := hU k hk; omega) ha y1 y2 y3 hm.2.1 hfl.2 hfl.1 hm.1) ?_
  rintro _ w7 ⟨vc, vc1, vc2, vc3, rfl, ka, z1, z2, z3, m8⟩
  have z9 := m8.size
  have ha := ha.keep ask_st (fun k hk => by have hk := hU k hk; omega) m8 (fun _ _ h => h)
  have y1 := y1.keep rec_st (fun k hk => by have hk := hU k hk; omega) m8 (fun _ _ h => h)
  have y2 := y2.keep rec_st (fun k hk => by have hk := hU k hk; omega) m8 (fun _ _ h => h)
  have y3 := y3.keep rec_st (fun k hk => by have hk := hU k hk; omega) m8 (fun _ _ h => h)
  have hb := hb.keep (fun k hk => by have hk := hU k hk; omega) m8 (fun _ _ h => h)
  have hf := hf.step0 m8
  have h2 := h2.keep m8 (fun h => h)
  obtain ⟨ac, cc, rfl⟩ := ka.form
  obtain ⟨ac1, cc1, rfl⟩ := z1.form
  obtain ⟨ac2, cc2, rfl⟩ := z2.form
  obtain ⟨ac3, cc3, rfl⟩ := z3.form
  refine sc (xcall ca14 rfl) (c14 (fun k hk => by have hk := Ub.num hU hk; omega) ka z1 z2 z3 hm.2.1 hfl.2 hfl.1 hm.1) ?_
  rintro _ w10 ⟨gb19, rfl, gp19, m11⟩
  have z12 := m11.size
  have ha := ha.keep ask_st (fun k hk => by have hk := hU k hk; omega) m11 (fun _ _ h => h)
  have y1 := y1.keep rec_st (fun k hk => by have hk := hU k hk; omega) m11 (fun _ _ h => h)
  have y2 := y2.keep rec_st (fun k hk => by have hk := hU k hk; omega) m11 (fun _ _ h => h)
  have y3 := y3.keep rec_st (fun k hk => by have hk := hU k hk; omega) m11 (fun _ _ h => h)
  have hb := hb.keep (fun k hk => by have hk := hU k hk; omega) m11 (fun _ _ h => h)
  have hf := hf.step0 m11
  have h2 := h2.keep m11 (fun h => h)
  have ka := ka.keep ask_st (fun k hk => by have hk := Ub.num hU hk; omega) m11 (fun _ _ h => h)
  have z1 := z1.keep rec_st (fun k hk => by have hk := Ub.num hU hk; omega) m11 (fun _ _ h => h)
  have z2 := z2.keep rec_st (fun k hk => by have hk := Ub.num hU hk; omega) m11 (fun _ _ h => h)
  have z3 := z3.keep rec_st (fun k hk => by have hk := Ub.num hU hk; omega) m11 (fun _ _ h => h)
  rcases Bool.eq_false_or_eq_true gb19 with rfl | rfl
  · skip
    have hfew := gp19 rfl
    obtain ⟨hna, hpk, hcn, hho⟩ := few_pack hfew
    have hpm := packM_ge (some []) m
    have hpM := packM_le hfew
    refine sv (xnot rfl) ?_
    refine sv (xmove rfl) ?_
    refine gyes rfl rfl rfl ?_
    refine sv (xmove rfl) ?_
    refine gyes rfl rfl rfl ?_
    refine sv (xlen sl37 rfl) ?_
    refine gyes rfl rfl rfl ?_
    refine svP (xgtr rfl rfl) (fun hc24 => ?_) (fun hc24 => ?_)
    · skip
      refine sv (xpickF rfl rfl) ?_
      refine send ?_
      refine forget_wp [(1, _), (2, _), (25, _)] ⟨rfl, rfl, rfl, trivial⟩ fun _ => ?_
      refine cyes rfl ?_
      refine sreg ?_
      refine sv (xassign rfl) ?_
      refine send ?_
      refine forget_wp [(4, _)] ⟨rfl, trivial⟩ fun _ => ?_
      refine wp_ret ?_
      refine rThen ?_
      refine rp1 rfl rfl ?_
      first | exact ⟨rfl, hf⟩ | exact ⟨by simp, hf⟩
    · skip
      refine sv (xpickF rfl rfl) ?_
      refine send ?_
      refine forget_wp [(1, _), (2, _), (25, _)] ⟨rfl, rfl, rfl, trivial⟩ fun _ => ?_
      refine cno rfl ?_
      refine wp_skip ?_
      refine nThen ?_
      refine forget_wp [(1, _), (2, _)] ⟨rfl, rfl, trivial⟩ fun _ => ?_
      refine sreg ?_
      refine sv (xldS (lens := [1, 1, 1, 1, 1, 1, 1, 1, 1, 1, 1, 1, 1, 1]) ro28 rfl h2.r) ?_
      refine sc (xcall ca17 rfl) (c17 (U := U) (cs := []) (fun k hk => by have hk := hU k hk; omega) ha y1 y2 y3 ⟨none, 0, rfl, fun h => absurd rfl h⟩ (by simp) hna hpk hcn) ?_
      rintro _ w13 ⟨p28, q28, g28, rfl, r28, m14, a28, l28⟩
      have z15 := m14.size
      have ha := ha.keep ask_st (fun k hk => by have hk := hU k hk; omega) m14 (fun _ _ h => h)
      have y1 := y1.keep rec_st (fun k hk => by have hk := hU k hk; omega) m14 (fun _ _ h => h)
      have y2 := y2.keep rec_st (fun k hk => by have hk := hU k hk; omega) m14 (fun _ _ h => h)
      have y3 := y3.keep rec_st (fun k hk => by have hk := hU k hk; omega) m14 (fun _ _ h => h)
      have hb := hb.keep (fun k hk => by have hk := hU k hk; omega) m14 (fun _ _ h => h)
      have hf := hf.step0 m14
      have h2 := h2.keep m14 (fun h => h)
      have ka := ka.keep ask_st (fun k hk => by have hk := Ub.num hU hk; omega) m14 (fun _ _ h => h)
      have z1 := z1.keep rec_st (fun k hk => by have hk := Ub.num hU hk; omega) m14 (fun _ _ h => h)
      have z2 := z2.keep rec_st (fun k hk => by have hk := Ub.num hU hk; omega) m14 (fun _ _ h => h)
      have z3 := z3.keep rec_st (fun k hk => by have hk := Ub.num hU hk; omega) m14 (fun _ _ h => h)
      have hpm2 : 12 ≤ ([] ++ packM (some []) m).length := hpm
      have hpM2 : ([] ++ packM (some []) m).length ≤ 10000000 := hpM
      refine sv (xmove rfl) ?_
      refine sv (xextr rfl rfl) ?_
      refine sv (xextr rfl rfl) ?_
      refine sv (xassign rfl) ?_
      refine sv (xassign rfl) ?_
      refine send ?_
      refine forget_wp [(1, _), (2, _), (5, _), (6, _)] ⟨rfl, rfl, rfl, rfl, trivial⟩ fun _ => ?_
      refine sreg ?_
      refine sv (xmove rfl) ?_
      refine sv (xldS (lens := [1, 1, 1, 1, 1, 1, 1, 1, 1, 1, 1, 1, 1, 1]) ro28 rfl h2.r) ?_
      refine sc (xcall ca17 rfl) (c17 (U := U) (fun k hk => by have hk := hU k hk; omega) ha y1 y2 y3 hb (by omega) hna hpk hcn) ?_
      rintro _ w16 ⟨p34, q34, g34, rfl, r34, m17, a34, l34⟩
      have z18 := m17.size
      have ha := ha.keep ask_st (fun k hk => by have hk := hU k hk; omega) m17 (fun _ _ h => h)
      have y1 := y1.keep rec_st (fun k hk => by have hk := hU k hk; omega) m17 (fun _ _ h => h)
      have y2 := y2.keep rec_st (fun k hk => by have hk := hU k hk; omega) m17 (fun _ _ h => h)
      have y3 := y3.keep rec_st (fun k hk => by have hk := hU k hk; omega) m17 (fun _ _ h => h)
      have hb := hb.keep (fun k hk => by have hk := hU k hk; omega) m17 (fun _ _ h => h)
      have hf := hf.step0 m17
      have h2 := h2.keep m17 (fun h => h)
      have ka := ka.keep ask_st (fun k hk => by have hk := Ub.num hU hk; omega) m17 (fun _ _ h => h)
      have z1 := z1.keep rec_st (fun k hk => by have hk := Ub.num hU hk; omega) m17 (fun _ _ h => h)
      have z2 := z2.keep rec_st (fun k hk => by have hk := Ub.num hU hk; omega) m17 (fun _ _ h => h)
      have z3 := z3.keep rec_st (fun k hk => by have hk := Ub.num hU hk; omega) m17 (fun _ _ h => h)
      have r28 := r28.keep m17 (fun h => h)
      refine sv (xmove rfl) ?_
      refine sv (xextr rfl rfl) ?_
      refine sv (xextr rfl rfl) ?_
      refine sv (xassign rfl) ?_
      refine sv (xassign rfl) ?_
      refine send ?_
      refine forget_wp [(1, _), (5, _), (6, _), (7, _), (8, _)] ⟨rfl, rfl, rfl, rfl, rfl, trivial⟩ fun _ => ?_
      refine sreg ?_
      refine sv (xmove rfl) ?_
      refine sv (xmove rfl) ?_
      refine gyes rfl rfl rfl ?_
      refine sv (xmove rfl) ?_
      refine sv (xpickT rfl rfl) ?_
      refine sv (xmove rfl) ?_
      refine gyes rfl rfl rfl ?_
      refine sv (xmove rfl) ?_
      refine gyes rfl rfl rfl ?_
      refine sv (xlen sl37 rfl) ?_
      refine gyes rfl rfl rfl ?_
      refine sv (exT (xgeq rfl rfl) (by omega)) ?_
      refine sv (xpickT rfl rfl) ?_
      refine sv (xmove rfl) ?_
      refine gyes rfl rfl rfl ?_
      refine sv (xmove rfl) ?_
      refine gyes rfl rfl rfl ?_
      refine sv (xmove rfl) ?_
      refine gyes rfl rfl rfl ?_
      refine sv (xmove rfl) ?_
      refine gyes rfl rfl rfl ?_
      refine svK (xslit [_, _] sl105 in37 rfl (by decide) rfl rfl rfl rfl (by decide) rfl rfl) ?_
      rintro _ w20 ⟨b50, rfl, m21, h50, e50, s50, r50⟩
      have ha := ha.keep ask_st (fun k hk => by have hk := hU k hk; omega) m21 (fun _ _ h => h)
      have y1 := y1.keep rec_st (fun k hk => by have hk := hU k hk; omega) m21 (fun _ _ h => h)
      have y2 := y2.keep rec_st (fun k hk => by have hk := hU k hk; omega) m21 (fun _ _ h => h)
      have y3 := y3.keep rec_st (fun k hk => by have hk := hU k hk; omega) m21 (fun _ _ h => h)
      have hb := hb.keep (fun k hk => by have hk := hU k hk; omega) m21 (fun _ _ h => h)
      have hf := hf.step0 m21
      have h2 := h2.keep m21 (fun h => h)
      have ka := ka.keep ask_st (fun k hk => by have hk := Ub.num hU hk; omega) m21 (fun _ _ h => h)
      have z1 := z1.keep rec_st (fun k hk => by have hk := Ub.num hU hk; omega) m21 (fun _ _ h => h)
      have z2 := z2.keep rec_st (fun k hk => by have hk := Ub.num hU hk; omega) m21 (fun _ _ h => h)
      have z3 := z3.keep rec_st (fun k hk => by have hk := Ub.num hU hk; omega) m21 (fun _ _ h => h)
      have r28 := r28.keep m21 (fun h => h)
      have r34 := r34.keep m21 (fun h => h)
      refine gyes rfl rfl rfl ?_
      refine sc (xcall ca21 rfl) (c21 (U := fun k => U k ∨ k = g28) (Rw.rng r50) (by omega) rfl (fun k hk => by have hk : U k ∨ k = g28 := hk; rcases hk with hk | hk <;> first | omega | (have := hU k hk; omega)) (All2.cons (BA.mono hb (fun k h => (.inl h))) (All2.cons (BR.ba r28 (.inr rfl)) All2.nil)) (by simp only [List.flatten_cons, List.flatten_nil, List.length_append, List.length_nil]; omega) (by decide)) ?_
      rintro _ w22 ⟨p51, q51, g51, rfl, r51, m23, a51, l51⟩
      have z24 := m23.size
      have ha := ha.keep ask_st (fun k hk => by have hk := hU k hk; omega) m23 (fun _ _ h => h)
      have y1 := y1.keep rec_st (fun k hk => by have hk := hU k hk; omega) m23 (fun _ _ h => h)
      have y2 := y2.keep rec_st (fun k hk => by have hk := hU k hk; omega) m23 (fun _ _ h => h)
      have y3 := y3.keep rec_st (fun k hk => by have hk := hU k hk; omega) m23 (fun _ _ h => h)
      have hb := hb.keep (fun k hk => by have hk := hU k hk; omega) m23 (fun _ _ h => h)
      have hf := hf.step0 m23
      have h2 := h2.keep m23 (fun h => h)
      have ka := ka.keep ask_st (fun k hk => by have hk := Ub.num hU hk; omega) m23 (fun _ _ h => h)
      have z1 := z1.keep rec_st (fun k hk => by have hk := Ub.num hU hk; omega) m23 (fun _ _ h => h)
      have z2 := z2.keep rec_st (fun k hk => by have hk := Ub.num hU hk; omega) m23 (fun _ _ h => h)
      have z3 := z3.keep rec_st (fun k hk => by have hk := Ub.num hU hk; omega) m23 (fun _ _ h => h)
      have r28 := r28.keep m23 (fun h => h)
      have r34 := r34.keep m23 (fun h => h)
      have r50 := r50.keep m23 (fun h => h)
      refine gyes rfl rfl rfl ?_
      refine sc (xcall ca19 rfl) (c19 (BR.ba (U := fun k => k = g34) r34 rfl) (BR.ba (U := fun k => k = g51) r51 rfl)) ?_
      rintro _ w25 ⟨rfl, m26⟩
      have z27 := m26.size
      have ha := ha.keep ask_st (fun k hk => by have hk := hU k hk; omega) m26 (fun _ _ h => h)
      have y1 := y1.keep rec_st (fun k hk => by have hk := hU k hk; omega) m26 (fun _ _ h => h)
      have y2 := y2.keep rec_st (fun k hk => by have hk := hU k hk; omega) m26 (fun _ _ h => h)
      have y3 := y3.keep rec_st (fun k hk => by have hk := hU k hk; omega) m26 (fun _ _ h => h)
      have hb := hb.keep (fun k hk => by have hk := hU k hk; omega) m26 (fun _ _ h => h)
      have hf := hf.step0 m26
      have h2 := h2.keep m26 (fun h => h)
      have ka := ka.keep ask_st (fun k hk => by have hk := Ub.num hU hk; omega) m26 (fun _ _ h => h)
      have z1 := z1.keep rec_st (fun k hk => by have hk := Ub.num hU hk; omega) m26 (fun _ _ h => h)
      have z2 := z2.keep rec_st (fun k hk => by have hk := Ub.num hU hk; omega) m26 (fun _ _ h => h)
      have z3 := z3.keep rec_st (fun k hk => by have hk := Ub.num hU hk; omega) m26 (fun _ _ h => h)
      have r28 := r28.keep m26 (fun h => h)
      have r34 := r34.keep m26 (fun h => h)
      have r50 := r50.keep m26 (fun h => h)
      have r51 := r51.keep m26 (fun h => h)
      refine sv (xpickT rfl rfl) ?_
      refine sv (xassign rfl) ?_
      refine send ?_
      refine forget_wp [(4, _)] ⟨rfl, trivial⟩ fun _ => ?_
      refine wp_ret ?_
      refine rp1 rfl rfl ?_
      first | exact ⟨rfl, hf⟩ | exact ⟨by simp, hf⟩
  · skip
    refine sv (xnot rfl) ?_
    refine sv (xmove rfl) ?_
    refine gno rfl rfl rfl ?_
    refine gno rfl rfl rfl ?_
    refine gno rfl rfl rfl ?_
    refine sv (xpickT rfl rfl) ?_
    refine send ?_
    refine forget_wp [(1, _), (2, _), (25, _)] ⟨rfl, rfl, rfl, trivial⟩ fun _ => ?_
    refine cyes rfl ?_
    refine sreg ?_
    refine sv (xassign rfl) ?_
    refine send ?_
    refine forget_wp [(4, _)] ⟨rfl, trivial⟩ fun _ => ?_
    refine wp_ret ?_
    refine rThen ?_
    refine rp1 rfl rfl ?_
    first | exact ⟨rfl, hf⟩ | exact ⟨by simp, hf⟩
end Go.Proofs.YtifnodoffgfpbaaGreatDoor
