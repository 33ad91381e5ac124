/- Walks: how a message is packed, the whole. Conditions: none. -/
import Derived.Test.YtifnodoffgfpbaaGreatDoorW22
namespace Go.Proofs.YtifnodoffgfpbaaGreatDoor
open Go

/-- new bytes, and a yes -/
def NewC (w : World) (g1 g2 g3 : Nat) (out : List UInt8) (z : Value) (u : Value) (w' : World) : Prop :=
  ∃ a c g', u = .tuple #[.slice a out.length c, z] ∧ BR w' (.slice a out.length c) g' out.length out ∧ Fr (fun k => k = g1 ∨ k = g2 ∨ k = g3) w w' ∧ w.heap.size ≤ g' ∧ g' < w'.heap.size
def NewY (w : World) (out : List UInt8) (u : Value) (w' : World) : Prop :=
  ∃ a c g', u = .tuple #[.slice a out.length c, .bool true] ∧ BR w' (.slice a out.length c) g' out.length out ∧ Fr0 w w' ∧ w.heap.size ≤ g' ∧ g' < w'.heap.size
/-- the blocks below n but four -/
def Us (n b d g1 g2 g3 : Nat) : Nat → Prop := fun k => k < n ∧ k ≠ b ∧ k ≠ d ∧ k ≠ g1 ∧ k ≠ g2 ∧ k ≠ g3
theorem Us.num {n b d g1 g2 g3 k : Nat} (h : Us n b d g1 g2 g3 k) : k < n ∧ k ≠ b ∧ k ≠ d ∧ k ≠ g1 ∧ k ≠ g2 ∧ k ≠ g3 := h
def PackOk (r : RecD) : Prop := (r.name.size ≤ 255 ∧ 1 ≤ r.kind ∧ r.kind ≤ 13 ∧ FitB r) ∧ GoodP r

set_option maxHeartbeats 4000000 in
set_option maxRecDepth 100000 in
theorem c39 {w : World} {va v1 v2 v3 : Value} {bm g1 g2 g3 : Nat} {m : MsgD} {U : Nat → Prop} (hM : SB w bm lMsg (msgSegs m.head va v1 v2 v3)) (hq : LA QEl lQ U w va m.asks) (h1 : RA ResEl lRes U w v1 g1 139 m.one.length m.one) (h2 : RA ResEl lRes U w v2 g2 139 m.two.length m.two) (h3 : RA ResEl lRes U w v3 g3 139 m.three.length m.three) (hU : ∀ k, U k → k < w.heap.size ∧ k ≠ g1 ∧ k ≠ g2 ∧ k ≠ g3) (hd : g1 < g2 ∧ g2 < g3 ∧ g3 < w.heap.size ∧ bm ≠ g1 ∧ bm ≠ g2 ∧ bm ≠ g3) (hna : ∀ a ∈ m.asks, nameL (bt a.name)) (hg1 : ∀ r ∈ m.one, GoodP r) (hg2 : ∀ r ∈ m.two, GoodP r) (hg3 : ∀ r ∈ m.three, GoodP r) (hcn : m.asks.length ≤ 40 ∧ m.one.length ≤ 40 ∧ m.two.length ≤ 40 ∧ m.three.length ≤ 40)  :
    Ret PP 39 [.pointer (some ⟨bm, 0, none⟩)] w (NewC w g1 g2 g3 (packM (some []) m) .nilIface) := by
  have hf : Fr (fun k => k = g1 ∨ k = g2 ∨ k = g3) w w := Fr.refl _ _
  have z_hM := hM.lt
  refine ret_of Tryz.func39 rfl rfl rfl [(0, _)] rfl ?_
  refine sreg ?_
  refine sv (xassign rfl) ?_
  refine sv (xassign rfl) ?_
  refine send ?_
  refine forget_wp [(0, _)] ⟨rfl, trivial⟩ fun _ => ?_
  refine sreg ?_
  refine sv (xmove rfl) ?_
  refine svK (xmake (lo := 0) (hi := 512) sl37 in5 rfl (by decide) rfl rfl rfl rfl (by omega) (by omega) (by simp only [maxLen]; omega) rfl) ?_
  rintro _ w1 ⟨b5, rfl, m2, h5, e5, s5, r5⟩
  have hM := hM.keep m2 (fun h => h)
  have hq := hq.keep q_st (fun k hk => by have hk := hU k hk; omega) m2 (fun _ _ h => h)
  have h1 := h1.keep res_st (fun k hk => by have hk := hU k hk; omega) m2 (fun _ _ h => h) (fun h => h)
  have h2 := h2.keep res_st (fun k hk => by have hk := hU k hk; omega) m2 (fun _ _ h => h) (fun h => h)
  have h3 := h3.keep res_st (fun k hk => by have hk := hU k hk; omega) m2 (fun _ _ h => h) (fun h => h)
  have hf := hf.step0 m2
  have r5 : BR w1 _ b5 0 [] := r5
  refine sc (xcall ca40 rfl) (c40 (m := m) r5 (by omega) hM hq h1 h2 h3 (fun k hk => by have hk := hU k hk; omega) (by omega) hna hg1 hg2 hg3 hcn (by omega)) ?_
  rintro _ w3 ⟨p6, q6, g6, rfl, r6, m4, a6, l6⟩
  have z5 := m4.size
  have hM := hM.keep m4 (by show ¬ (bm = b5 ∨ bm = g1 ∨ bm = g2 ∨ bm = g3); omega)
  have hq := hq.keep q_st (fun k hk => by have hk := hU k hk; omega) m4 (fun k hk hS => by have hk := hU k hk; have hS : k = b5 ∨ k = g1 ∨ k = g2 ∨ k = g3 := hS; omega)
  have hf := hf.step m4 (fun k hk hS => by have hS : k = b5 ∨ k = g1 ∨ k = g2 ∨ k = g3 := hS; show k = g1 ∨ k = g2 ∨ k = g3; omega)
  refine sv (xextr rfl rfl) ?_
  refine sv (xextr rfl rfl) ?_
  refine sv (xassign rfl) ?_
  refine sv (xassign rfl) ?_
  refine send ?_
  refine forget_wp [(2, _), (3, _)] ⟨rfl, rfl, trivial⟩ fun _ => ?_
  refine wp_ret ?_
  refine rp2 rfl rfl rfl ?_
  rw [Nat.zero_add] at r6 ⊢
  exact ⟨p6, q6, g6, rfl, br_cast r6 (by simp) rfl, hf, by omega, by omega⟩
set_option maxHeartbeats 4000000 in
set_option maxRecDepth 100000 in
theorem c17 {w : World} {U : Nat → Prop} (hU : ∀ k, U k → k < w.heap.size) {m : MsgD} {va v1 v2 v3 : Value} (ha : LA AskEl lAsk U w va m.asks) (y1 : LA RecEl lRec U w v1 m.one) (y2 : LA RecEl lRec U w v2 m.two) (y3 : LA RecEl lRec U w v3 m.three) {vb : Value} {cs : List UInt8} (hb : BA U w vb cs) (hcs : cs.length ≤ 1000000) (hna : ∀ a ∈ m.asks, nameL (bt a.name)) (hpk : ∀ l ∈ [m.one, m.two, m.three], ∀ r ∈ l, PackOk r) (hcn : m.asks.length ≤ 40 ∧ m.one.length ≤ 40 ∧ m.two.length ≤ 40 ∧ m.three.length ≤ 40) :
    Ret PP 17 [vb, ag (msgSegs m.head va v1 v2 v3)] w (NewY w (cs ++ packM (some []) m)) := by
  obtain ⟨aa, ca, rfl⟩ := ha.form
  obtain ⟨a1, c1, rfl⟩ := y1.form
  obtain ⟨a2, c2, rfl⟩ := y2.form
  obtain ⟨a3, c3, rfl⟩ := y3.form
  obtain ⟨ab0, cb0, rfl, -⟩ := id hb
  have hll : ∀ l ∈ [m.one, m.two, m.three], l.length ≤ 1048576 := by intro l hl; simp only [List.mem_cons, List.not_mem_nil, or_false] at hl; rcases hl with rfl | rfl | rfl <;> omega
  have hnas : ∀ a ∈ m.asks, a.name.size ≤ 255 := fun a ha => by have := (name_pos (hna a ha)).2; rw [bt_length] at this; omega
  have hf : Fr (fun _ => False) w w := Fr.refl _ _
  refine ret_of Tryz.func17 rfl rfl rfl [(0, _), (1, _)] rfl ?_
  refine sreg ?_
  refine svK (xboxS (lens := [1, 1, 1, 1, 1, 1, 1, 1, 1, 1, 1, 1, 1, 1]) rfl rfl) ?_
  rintro _ w2 ⟨b3, rfl, m3, h3, e1, s1⟩
  have ha := ha.keep ask_st (fun k hk => by have hk := hU k hk; omega) m3 (fun _ _ h => h)
  have y1 := y1.keep rec_st (fun k hk => by have hk := hU k hk; omega) m3 (fun _ _ h => h)
  have y2 := y2.keep rec_st (fun k hk => by have hk := hU k hk; omega) m3 (fun _ _ h => h)
  have y3 := y3.keep rec_st (fun k hk => by have hk := hU k hk; omega) m3 (fun _ _ h => h)
  have hb := hb.keep (fun k hk => by have hk := hU k hk; omega) m3 (fun _ _ h => h)
  have hf := hf.step0 m3
  refine sv (xassign rfl) ?_
  refine sv (xassign rfl) ?_
  refine send ?_
  refine forget_wp [(0, _), (3, _)] ⟨rfl, rfl, trivial⟩ fun _ => ?_
  refine sdrawI [(0, _), (3, _)] ⟨rfl, rfl, trivial⟩ (fun (x : Value × Value × Value × Nat × Nat × Nat × Nat) => match x with | (v1, v2, v3, b6, g1, g2, g3) => [(6, .pointer (some ⟨b6, 0, none⟩))]) (fun (x : Value × Value × Value × Nat × Nat × Nat × Nat) wx => match x with | (v1, v2, v3, b6, g1, g2, g3) => Fr (fun _ => False) w2 wx ∧ (SB wx b6 lMsg (msgSegs m.head (.slice none 0 0) v1 v2 v3)) ∧ (RA ResEl lRes (Us wx.heap.size b6 b3 g1 g2 g3) wx v1 g1 139 m.one.length m.one) ∧ (RA ResEl lRes (Us wx.heap.size b6 b3 g1 g2 g3) wx v2 g2 139 m.two.length m.two) ∧ (RA ResEl lRes (Us wx.heap.size b6 b3 g1 g2 g3) wx v3 g3 139 m.three.length m.three) ∧ (w2.heap.size ≤ g1 ∧ g1 < g2 ∧ g2 < g3 ∧ g3 < wx.heap.size ∧ w2.heap.size ≤ b6 ∧ b6 < wx.heap.size ∧ b6 ≠ g1 ∧ b6 ≠ g2 ∧ b6 ≠ g3)) (Fr (fun _ => False) w2.drew) (.rd 0 (.rd 1 (.rd 3 (.rd 4 (.rd 6 (.rd 7 (.rd 9 (.rd 10 (.two 2 (.two 5 (.two 8 (.two 11 (.lst [(12, .rd), (13, .ld), (14, .bh)]) 13 (.lst [(11, .ld), (12, .rd), (14, .bh)])) 13 (.lst [(8, .ld), (11, .ld), (12, .rd), (14, .bh)])) 13 (.lst [(5, .ld), (8, .ld), (11, .ld), (12, .rd), (14, .bh)])) 13 (.lst [(2, .ld), (5, .ld), (8, .ld), (11, .ld), (12, .rd), (14, .bh)])))))))))) mixed (by kernel_rfl) ?_ ?_
  · skip
    have hC : Fr (fun _ => False) w2 w2 := Fr.refl _ _
    have z4 : w2.drew.heap.size = w2.heap.size := rfl
    have ha := ha.keep ask_st (fun k hk => by have hk := hU k hk; omega) (Fr.drew (Fr.refl (fun _ => False) w2)) (fun _ _ h => h)
    have y1 := y1.keep rec_st (fun k hk => by have hk := hU k hk; omega) (Fr.drew (Fr.refl (fun _ => False) w2)) (fun _ _ h => h)
    have y2 := y2.keep rec_st (fun k hk => by have hk := hU k hk; omega) (Fr.drew (Fr.refl (fun _ => False) w2)) (fun _ _ h => h)
    have y3 := y3.keep rec_st (fun k hk => by have hk := hU k hk; omega) (Fr.drew (Fr.refl (fun _ => False) w2)) (fun _ _ h => h)
    have hb := hb.keep (fun k hk => by have hk := hU k hk; omega) (Fr.drew (Fr.refl (fun _ => False) w2)) (fun _ _ h => h)
    have hf := hf.drew
    have h3 := h3.drew
    have hC := hC.drew
    have hS5 : Fr (fun _ => False) w2.drew w2.drew := Fr.refl _ _
    refine hvT rfl (fun _ _ => xfld fl28_0 rfl) hS5 ?_
    refine hvT rfl (fun w' hS => xldS (lens := [1, 1, 1, 1, 1, 1, 1, 1, 1, 1]) ro24 rfl ((h3.keep hS (fun h => h)).r.sub 0 10 rfl)) hS5 ?_
    refine hvT rfl (fun _ _ => xfld fl28_2 rfl) hS5 ?_
    refine hvT rfl (fun w' hS => xld on26 rfl ((h3.keep hS (fun h => h)).r.c 11 rfl rfl)) hS5 ?_
    refine hvT rfl (fun _ _ => xfld fl28_3 rfl) hS5 ?_
    refine hvT rfl (fun w' hS => xld on26 rfl ((h3.keep hS (fun h => h)).r.c 12 rfl rfl)) hS5 ?_
    refine hvT rfl (fun _ _ => xfld fl28_4 rfl) hS5 ?_
    refine hvT rfl (fun w' hS => xld on26 rfl ((h3.keep hS (fun h => h)).r.c 13 rfl rfl)) hS5 ?_
    refine twoT ?_ ?_
    · skip
      refine hcT rfl (xcall ca36 rfl) (c36) ?_
      rintro _ w6 ⟨rfl, m7⟩
      have z8 := m7.size
      have ha := ha.keep ask_st (fun k hk => by have hk := hU k hk; omega) m7 (fun _ _ h => h)
      have y1 := y1.keep rec_st (fun k hk => by have hk := hU k hk; omega) m7 (fun _ _ h => h)
      have y2 := y2.keep rec_st (fun k hk => by have hk := hU k hk; omega) m7 (fun _ _ h => h)
      have y3 := y3.keep rec_st (fun k hk => by have hk := hU k hk; omega) m7 (fun _ _ h => h)
      have hb := hb.keep (fun k hk => by have hk := hU k hk; omega) m7 (fun _ _ h => h)
      have hf := hf.step0 m7
      have h3 := h3.keep m7 (fun h => h)
      have hC := hC.step0 m7
      have hS9 := hS5.step0 m7
      refine ⟨hS9, ?_⟩
      refine twoT ?_ ?_
      · skip
        refine hcT rfl (xcall ca37 rfl) (c37 (U := U) (fun k hk => by have hk := hU k hk; omega) y1 (hll _ (by simp)) (fun r hr => (hpk _ (by simp) r hr).1)) ?_
        rintro v18 w10 ⟨g18, R18, ga18, gb18, m11⟩
        have z12 := m11.size
        have ha := ha.keep ask_st (fun k hk => by have hk := hU k hk; omega) m11 (fun _ _ h => h)
        have y1 := y1.keep rec_st (fun k hk => by have hk := hU k hk; omega) m11 (fun _ _ h => h)
        have y2 := y2.keep rec_st (fun k hk => by have hk := hU k hk; omega) m11 (fun _ _ h => h)
        have y3 := y3.keep rec_st (fun k hk => by have hk := hU k hk; omega) m11 (fun _ _ h => h)
        have hb := hb.keep (fun k hk => by have hk := hU k hk; omega) m11 (fun _ _ h => h)
        have hf := hf.step0 m11
        have h3 := h3.keep m11 (fun h => h)
        have hC := hC.step0 m11
        have hS13 := hS9.step0 m11
        refine ⟨hS13, ?_⟩
        obtain ⟨aq18, cq18, rfl⟩ := RA.form R18
        refine twoT ?_ ?_
        · skip
          refine hcT rfl (xcall ca37 rfl) (c37 (U := U) (fun k hk => by have hk := hU k hk; omega) y2 (hll _ (by simp)) (fun r hr => (hpk _ (by simp) r hr).1)) ?_
          rintro v21 w14 ⟨g21, R21, ga21, gb21, m15⟩
          have z16 := m15.size
          have ha := ha.keep ask_st (fun k hk => by have hk := hU k hk; omega) m15 (fun _ _ h => h)
          have y1 := y1.keep rec_st (fun k hk => by have hk := hU k hk; omega) m15 (fun _ _ h => h)
          have y2 := y2.keep rec_st (fun k hk => by have hk := hU k hk; omega) m15 (fun _ _ h => h)
          have y3 := y3.keep rec_st (fun k hk => by have hk := hU k hk; omega) m15 (fun _ _ h => h)
          have hb := hb.keep (fun k hk => by have hk := hU k hk; omega) m15 (fun _ _ h => h)
          have hf := hf.step0 m15
          have h3 := h3.keep m15 (fun h => h)
          have hC := hC.step0 m15
          have R18 := RX.keep R18 res_st (fun k hk => by have hk := hU k hk; omega) (by omega) m15 (fun _ _ _ h => h) (fun h => h)
          have hS17 := hS13.step0 m15
          refine ⟨hS17, ?_⟩
          obtain ⟨aq21, cq21, rfl⟩ := RA.form R21
          refine twoT ?_ ?_
          · skip
            refine hcT rfl (xcall ca37 rfl) (c37 (U := U) (fun k hk => by have hk := hU k hk; omega) y3 (hll _ (by simp)) (fun r hr => (hpk _ (by simp) r hr).1)) ?_
            rintro v24 w18 ⟨g24, R24, ga24, gb24, m19⟩
            have z20 := m19.size
            have ha := ha.keep ask_st (fun k hk => by have hk := hU k hk; omega) m19 (fun _ _ h => h)
            have y1 := y1.keep rec_st (fun k hk => by have hk := hU k hk; omega) m19 (fun _ _ h => h)
            have y2 := y2.keep rec_st (fun k hk => by have hk := hU k hk; omega) m19 (fun _ _ h => h)
            have y3 := y3.keep rec_st (fun k hk => by have hk := hU k hk; omega) m19 (fun _ _ h => h)
            have hb := hb.keep (fun k hk => by have hk := hU k hk; omega) m19 (fun _ _ h => h)
            have hf := hf.step0 m19
            have h3 := h3.keep m19 (fun h => h)
            have hC := hC.step0 m19
            have R18 := RX.keep R18 res_st (fun k hk => by have hk := hU k hk; omega) (by omega) m19 (fun _ _ _ h => h) (fun h => h)
            have R21 := RX.keep R21 res_st (fun k hk => by have hk := hU k hk; omega) (by omega) m19 (fun _ _ _ h => h) (fun h => h)
            have hS21 := hS17.step0 m19
            refine ⟨hS21, ?_⟩
            obtain ⟨aq24, cq24, rfl⟩ := RA.form R24
            refine lstT ?_
            refine hv rfl (fun _ _ => xbuildS (msgSegs m.head (.slice none 0 0) (.slice aq18 m.one.length cq18) (.slice aq21 m.two.length cq21) (.slice aq24 m.three.length cq24)) zr79 ly79 rfl (by simp [fitAll, zs79, Value.cells, headSegs]) rfl) hS21 ?_
            refine hlK rfl (xallS (lens := [1, 1, 1, 1, 1, 1, 1, 1, 1, 1, 1, 1, 1, 1]) in79 rfl) ?_
            rintro _ w23 ⟨b6, rfl, m24, h6, e22, s22⟩
            have ha := ha.keep ask_st (fun k hk => by have hk := hU k hk; omega) m24 (fun _ _ h => h)
            have y1 := y1.keep rec_st (fun k hk => by have hk := hU k hk; omega) m24 (fun _ _ h => h)
            have y2 := y2.keep rec_st (fun k hk => by have hk := hU k hk; omega) m24 (fun _ _ h => h)
            have y3 := y3.keep rec_st (fun k hk => by have hk := hU k hk; omega) m24 (fun _ _ h => h)
            have hb := hb.keep (fun k hk => by have hk := hU k hk; omega) m24 (fun _ _ h => h)
            have hf := hf.step0 m24
            have h3 := h3.keep m24 (fun h => h)
            have hC := hC.step0 m24
            have R18 := RX.keep R18 res_st (fun k hk => by have hk := hU k hk; omega) (by omega) m24 (fun _ _ _ h => h) (fun h => h)
            have R21 := RX.keep R21 res_st (fun k hk => by have hk := hU k hk; omega) (by omega) m24 (fun _ _ _ h => h) (fun h => h)
            have R24 := RX.keep R24 res_st (fun k hk => by have hk := hU k hk; omega) (by omega) m24 (fun _ _ _ h => h) (fun h => h)
            have hS25 := hS21.step0 m24
            refine ⟨hS25, ?_⟩
            refine bluK rfl (xstW h6 (lens' := [1, 1, 1, 1, 1, 1, 1, 1, 1, 1, 1, 1, 1, 1]) sz79 rfl rfl rfl rfl rfl) ?_
            rintro w27 ⟨m28, h6, s26⟩
            have ha := ha.keep ask_st (fun k hk => by have hk := hU k hk; omega) m28 (fun k hk hS => by have hk := hU k hk; have hS : k = b6 := hS; omega)
            have y1 := y1.keep rec_st (fun k hk => by have hk := hU k hk; omega) m28 (fun k hk hS => by have hk := hU k hk; have hS : k = b6 := hS; omega)
            have y2 := y2.keep rec_st (fun k hk => by have hk := hU k hk; omega) m28 (fun k hk hS => by have hk := hU k hk; have hS : k = b6 := hS; omega)
            have y3 := y3.keep rec_st (fun k hk => by have hk := hU k hk; omega) m28 (fun k hk hS => by have hk := hU k hk; have hS : k = b6 := hS; omega)
            have hb := hb.keep (fun k hk => by have hk := hU k hk; omega) m28 (fun k hk hS => by have hk := hU k hk; have hS : k = b6 := hS; omega)
            have hf := hf.step m28 (fun k hk hS => by have hS : k = b6 := hS; show False; omega)
            have h3 := h3.keep m28 (by show ¬ (b3 = b6); omega)
            have hC := hC.step m28 (fun k hk hS => by have hS : k = b6 := hS; show False; omega)
            have R18 := RX.keep R18 res_st (fun k hk => by have hk := hU k hk; omega) (by omega) m28 (fun k hk hk3 hS => by have hS : k = b6 := hS; rcases hk with hk | hk <;> first | omega | (have := hU k hk; omega)) (by show ¬ (g18 = b6); omega)
            have R21 := RX.keep R21 res_st (fun k hk => by have hk := hU k hk; omega) (by omega) m28 (fun k hk hk3 hS => by have hS : k = b6 := hS; rcases hk with hk | hk <;> first | omega | (have := hU k hk; omega)) (by show ¬ (g21 = b6); omega)
            have R24 := RX.keep R24 res_st (fun k hk => by have hk := hU k hk; omega) (by omega) m28 (fun k hk hk3 hS => by have hS : k = b6 := hS; rcases hk with hk | hk <;> first | omega | (have := hU k hk; omega)) (by show ¬ (g24 = b6); omega)
            exact ⟨rfl, (_, _, _, b6, g18, g21, g24), _, env_okl ⟨rfl, rfl, rfl, trivial⟩, ⟨hC, (h6), (RA.mono R18 res_gr (fun k hk => by have hk := Uw.num hU hk; exact ⟨by omega, by omega, by omega, by omega, by omega, by omega⟩)), (RA.mono R21 res_gr (fun k hk => by have hk := Uw.num hU hk; exact ⟨by omega, by omega, by omega, by omega, by omega, by omega⟩)), (RA.mono R24 res_gr (fun k hk => by have hk := Uw.num hU hk; exact ⟨by omega, by omega, by omega, by omega, by omega, by omega⟩)), (by omega)⟩⟩
          · skip
            refine hlKT rfl (xallS (lens := [1, 1, 1, 1, 1, 1, 1, 1, 1, 1, 1, 1, 1, 1]) in79 rfl) ?_
            rintro _ w30 ⟨b6, rfl, m31, h6, e29, s29⟩
            have ha := ha.keep ask_st (fun k hk => by have hk := hU k hk; omega) m31 (fun _ _ h => h)
            have y1 := y1.keep rec_st (fun k hk => by have hk := hU k hk; omega) m31 (fun _ _ h => h)
            have y2 := y2.keep rec_st (fun k hk => by have hk := hU k hk; omega) m31 (fun _ _ h => h)
            have y3 := y3.keep rec_st (fun k hk => by have hk := hU k hk; omega) m31 (fun _ _ h => h)
            have hb := hb.keep (fun k hk => by have hk := hU k hk; omega) m31 (fun _ _ h => h)
            have hf := hf.step0 m31
            have h3 := h3.keep m31 (fun h => h)
            have hC := hC.step0 m31
            have R18 := RX.keep R18 res_st (fun k hk => by have hk := hU k hk; omega) (by omega) m31 (fun _ _ _ h => h) (fun h => h)
            have R21 := RX.keep R21 res_st (fun k hk => by have hk := hU k hk; omega) (by omega) m31 (fun _ _ _ h => h) (fun h => h)
            have hS32 := hS17.step0 m31
            refine ⟨hS32, ?_⟩
            refine lstT ?_
            refine hc rfl (xcall ca37 rfl) (c37 (U := U) (fun k hk => by have hk := hU k hk; omega) y3 (hll _ (by simp)) (fun r hr => (hpk _ (by simp) r hr).1)) ?_
            rintro v24 w33 ⟨g24, R24, ga24, gb24, m34⟩
            have z35 := m34.size
            have ha := ha.keep ask_st (fun k hk => by have hk := hU k hk; omega) m34 (fun _ _ h => h)
            have y1 := y1.keep rec_st (fun k hk => by have hk := hU k hk; omega) m34 (fun _ _ h => h)
            have y2 := y2.keep rec_st (fun k hk => by have hk := hU k hk; omega) m34 (fun _ _ h => h)
            have y3 := y3.keep rec_st (fun k hk => by have hk := hU k hk; omega) m34 (fun _ _ h => h)
            have hb := hb.keep (fun k hk => by have hk := hU k hk; omega) m34 (fun _ _ h => h)
            have hf := hf.step0 m34
            have h3 := h3.keep m34 (fun h => h)
            have hC := hC.step0 m34
            have R18 := RX.keep R18 res_st (fun k hk => by have hk := hU k hk; omega) (by omega) m34 (fun _ _ _ h => h) (fun h => h)
            have R21 := RX.keep R21 res_st (fun k hk => by have hk := hU k hk; omega) (by omega) m34 (fun _ _ _ h => h) (fun h => h)
            have h6 := h6.keep m34 (fun h => h)
            have hS36 := hS32.step0 m34
            refine ⟨hS36, ?_⟩
            obtain ⟨aq24, cq24, rfl⟩ := RA.form R24
            refine hv rfl (fun _ _ => xbuildS (msgSegs m.head (.slice none 0 0) (.slice aq18 m.one.length cq18) (.slice aq21 m.two.length cq21) (.slice aq24 m.three.length cq24)) zr79 ly79 rfl (by simp [fitAll, zs79, Value.cells, headSegs]) rfl) hS36 ?_
            refine bluK rfl (xstW h6 (lens' := [1, 1, 1, 1, 1, 1, 1, 1, 1, 1, 1, 1, 1, 1]) sz79 rfl rfl rfl rfl rfl) ?_
            rintro w38 ⟨m39, h6, s37⟩
            have ha := ha.keep ask_st (fun k hk => by have hk := hU k hk; omega) m39 (fun k hk hS => by have hk := hU k hk; have hS : k = b6 := hS; omega)
            have y1 := y1.keep rec_st (fun k hk => by have hk := hU k hk; omega) m39 (fun k hk hS => by have hk := hU k hk; have hS : k = b6 := hS; omega)
            have y2 := y2.keep rec_st (fun k hk => by have hk := hU k hk; omega) m39 (fun k hk hS => by have hk := hU k hk; have hS : k = b6 := hS; omega)
            have y3 := y3.keep rec_st (fun k hk => by have hk := hU k hk; omega) m39 (fun k hk hS => by have hk := hU k hk; have hS : k = b6 := hS; omega)
            have hb := hb.keep (fun k hk => by have hk := hU k hk; omega) m39 (fun k hk hS => by have hk := hU k hk; have hS : k = b6 := hS; omega)
            have hf := hf.step m39 (fun k hk hS => by have hS : k = b6 := hS; show False; omega)
            have h3 := h3.keep m39 (by show ¬ (b3 = b6); omega)
            have hC := hC.step m39 (fun k hk hS => by have hS : k = b6 := hS; show False; omega)
            have R18 := RX.keep R18 res_st (fun k hk => by have hk := hU k hk; omega) (by omega) m39 (fun k hk hk3 hS => by have hS : k = b6 := hS; rcases hk with hk | hk <;> first | omega | (have := hU k hk; omega)) (by show ¬ (g18 = b6); omega)
            have R21 := RX.keep R21 res_st (fun k hk => by have hk := hU k hk; omega) (by omega) m39 (fun k hk hk3 hS => by have hS : k = b6 := hS; rcases hk with hk | hk <;> first | omega | (have := hU k hk; omega)) (by show ¬ (g21 = b6); omega)
            have R24 := RX.keep R24 res_st (fun k hk => by have hk := hU k hk; omega) (by omega) m39 (fun k hk hk3 hS => by have hS : k = b6 := hS; rcases hk with hk | hk <;> first | omega | (have := hU k hk; omega)) (by show ¬ (g24 = b6); omega)
            exact ⟨rfl, (_, _, _, b6, g18, g21, g24), _, env_okl ⟨rfl, rfl, rfl, trivial⟩, ⟨hC, (h6), (RA.mono R18 res_gr (fun k hk => by have hk := Uw.num hU hk; exact ⟨by omega, by omega, by omega, by omega, by omega, by omega⟩)), (RA.mono R21 res_gr (fun k hk => by have hk := Uw.num hU hk; exact ⟨by omega, by omega, by omega, by omega, by omega, by omega⟩)), (RA.mono R24 res_gr (fun k hk => by have hk := Uw.num hU hk; exact ⟨by omega, by omega, by omega, by omega, by omega, by omega⟩)), (by omega)⟩⟩
        · skip
          refine hlKT rfl (xallS (lens := [1, 1, 1, 1, 1, 1, 1, 1, 1, 1, 1, 1, 1, 1]) in79 rfl) ?_
          rintro _ w41 ⟨b6, rfl, m42, h6, e40, s40⟩
          have ha := ha.keep ask_st (fun k hk => by have hk := hU k hk; omega) m42 (fun _ _ h => h)
          have y1 := y1.keep rec_st (fun k hk => by have hk := hU k hk; omega) m42 (fun _ _ h => h)
          have y2 := y2.keep rec_st (fun k hk => by have hk := hU k hk; omega) m42 (fun _ _ h => h)
          have y3 := y3.keep rec_st (fun k hk => by have hk := hU k hk; omega) m42 (fun _ _ h => h)
          have hb := hb.keep (fun k hk => by have hk := hU k hk; omega) m42 (fun _ _ h => h)
          have hf := hf.step0 m42
          have h3 := h3.keep m42 (fun h => h)
          have hC := hC.step0 m42
          have R18 := RX.keep R18 res_st (fun k hk => by have hk := hU k hk; omega) (by omega) m42 (fun _ _ _ h => h) (fun h => h)
          have hS43 := hS13.step0 m42
          refine ⟨hS43, ?_⟩
          refine lstT ?_
          refine hc rfl (xcall ca37 rfl) (c37 (U := U) (fun k hk => by have hk := hU k hk; omega) y2 (hll _ (by simp)) (fun r hr => (hpk _ (by simp) r hr).1)) ?_
          rintro v21 w44 ⟨g21, R21, ga21, gb21, m45⟩
          have z46 := m45.size
          have ha := ha.keep ask_st (fun k hk => by have hk := hU k hk; omega) m45 (fun _ _ h => h)
          have y1 := y1.keep rec_st (fun k hk => by have hk := hU k hk; omega) m45 (fun _ _ h => h)
          have y2 := y2.keep rec_st (fun k hk => by have hk := hU k hk; omega) m45 (fun _ _ h => h)
          have y3 := y3.keep rec_st (fun k hk => by have hk := hU k hk; omega) m45 (fun _ _ h => h)
          have hb := hb.keep (fun k hk => by have hk := hU k hk; omega) m45 (fun _ _ h => h)
          have hf := hf.step0 m45
          have h3 := h3.keep m45 (fun h => h)
          have hC := hC.step0 m45
          have R18 := RX.keep R18 res_st (fun k hk => by have hk := hU k hk; omega) (by omega) m45 (fun _ _ _ h => h) (fun h => h)
          have h6 := h6.keep m45 (fun h => h)
          have hS47 := hS43.step0 m45
          refine ⟨hS47, ?_⟩
          obtain ⟨aq21, cq21, rfl⟩ := RA.form R21
          refine hc rfl (xcall ca37 rfl) (c37 (U := U) (fun k hk => by have hk := hU k hk; omega) y3 (hll _ (by simp)) (fun r hr => (hpk _ (by simp) r hr).1)) ?_
          rintro v24 w48 ⟨g24, R24, ga24, gb24, m49⟩
          have z50 := m49.size
          have ha := ha.keep ask_st (fun k hk => by have hk := hU k hk; omega) m49 (fun _ _ h => h)
          have y1 := y1.keep rec_st (fun k hk => by have hk := hU k hk; omega) m49 (fun _ _ h => h)
          have y2 := y2.keep rec_st (fun k hk => by have hk := hU k hk; omega) m49 (fun _ _ h => h)
          have y3 := y3.keep rec_st (fun k hk => by have hk := hU k hk; omega) m49 (fun _ _ h => h)
          have hb := hb.keep (fun k hk => by have hk := hU k hk; omega) m49 (fun _ _ h => h)
          have hf := hf.step0 m49
          have h3 := h3.keep m49 (fun h => h)
          have hC := hC.step0 m49
          have R18 := RX.keep R18 res_st (fun k hk => by have hk := hU k hk; omega) (by omega) m49 (fun _ _ _ h => h) (fun h => h)
          have h6 := h6.keep m49 (fun h => h)
          have R21 := RX.keep R21 res_st (fun k hk => by have hk := hU k hk; omega) (by omega) m49 (fun _ _ _ h => h) (fun h => h)
          have hS51 := hS47.step0 m49
          refine ⟨hS51, ?_⟩
          obtain ⟨aq24, cq24, rfl⟩ := RA.form R24
          refine hv rfl (fun _ _ => xbuildS (msgSegs m.head (.slice none 0 0) (.slice aq18 m.one.length cq18) (.slice aq21 m.two.length cq21) (.slice aq24 m.three.length cq24)) zr79 ly79 rfl (by simp [fitAll, zs79, Value.cells, headSegs]) rfl) hS51 ?_
          refine bluK rfl (xstW h6 (lens' := [1, 1, 1, 1, 1, 1, 1, 1, 1, 1, 1, 1, 1, 1]) sz79 rfl rfl rfl rfl rfl) ?_
          rintro w53 ⟨m54, h6, s52⟩
          have ha := ha.keep ask_st (fun k hk => by have hk := hU k hk; omega) m54 (fun k hk hS => by have hk := hU k hk; have hS : k = b6 := hS; omega)
          have y1 := y1.keep rec_st (fun k hk => by have hk := hU k hk; omega) m54 (fun k hk hS => by have hk := hU k hk; have hS : k = b6 := hS; omega)
          have y2 := y2.keep rec_st (fun k hk => by have hk := hU k hk; omega) m54 (fun k hk hS => by have hk := hU k hk; have hS : k = b6 := hS; omega)
          have y3 := y3.keep rec_st (fun k hk => by have hk := hU k hk; omega) m54 (fun k hk hS => by have hk := hU k hk; have hS : k = b6 := hS; omega)
          have hb := hb.keep (fun k hk => by have hk := hU k hk; omega) m54 (fun k hk hS => by have hk := hU k hk; have hS : k = b6 := hS; omega)
          have hf := hf.step m54 (fun k hk hS => by have hS : k = b6 := hS; show False; omega)
          have h3 := h3.keep m54 (by show ¬ (b3 = b6); omega)
          have hC := hC.step m54 (fun k hk hS => by have hS : k = b6 := hS; show False; omega)
          have R18 := RX.keep R18 res_st (fun k hk => by have hk := hU k hk; omega) (by omega) m54 (fun k hk hk3 hS => by have hS : k = b6 := hS; rcases hk with hk | hk <;> first | omega | (have := hU k hk; omega)) (by show ¬ (g18 = b6); omega)
          have R21 := RX.keep R21 res_st (fun k hk => by have hk := hU k hk; omega) (by omega) m54 (fun k hk hk3 hS => by have hS : k = b6 := hS; rcases hk with hk | hk <;> first | omega | (have := hU k hk; omega)) (by show ¬ (g21 = b6); omega)
          have R24 := RX.keep R24 res_st (fun k hk => by have hk := hU k hk; omega) (by omega) m54 (fun k hk hk3 hS => by have hS : k = b6 := hS; rcases hk with hk | hk <;> first | omega | (have := hU k hk; omega)) (by show ¬ (g24 = b6); omega)
          exact ⟨rfl, (_, _, _, b6, g18, g21, g24), _, env_okl ⟨rfl, rfl, rfl, trivial⟩, ⟨hC, (h6), (RA.mono R18 res_gr (fun k hk => by have hk := Uw.num hU hk; exact ⟨by omega, by omega, by omega, by omega, by omega, by omega⟩)), (RA.mono R21 res_gr (fun k hk => by have hk := Uw.num hU hk; exact ⟨by omega, by omega, by omega, by omega, by omega, by omega⟩)), (RA.mono R24 res_gr (fun k hk => by have hk := Uw.num hU hk; exact ⟨by omega, by omega, by omega, by omega, by omega, by omega⟩)), (by omega)⟩⟩
      · skip
        refine hlKT rfl (xallS (lens := [1, 1, 1, 1, 1, 1, 1, 1, 1, 1, 1, 1, 1, 1]) in79 rfl) ?_
        rintro _ w56 ⟨b6, rfl, m57, h6, e55, s55⟩
        have ha := ha.keep ask_st (fun k hk => by have hk := hU k hk; omega) m57 (fun _ _ h => h)
        have y1 := y1.keep rec_st (fun k hk => by have hk := hU k hk; omega) m57 (fun _ _ h => h)
        have y2 := y2.keep rec_st (fun k hk => by have hk := hU k hk; omega) m57 (fun _ _ h => h)
        have y3 := y3.keep rec_st (fun k hk => by have hk := hU k hk; omega) m57 (fun _ _ h => h)
        have hb := hb.keep (fun k hk => by have hk := hU k hk; omega) m57 (fun _ _ h => h)
        have hf := hf.step0 m57
        have h3 := h3.keep m57 (fun h => h)
        have hC := hC.step0 m57
        have hS58 := hS9.step0 m57
        refine ⟨hS58, ?_⟩
        refine lstT ?_
        refine hc rfl (xcall ca37 rfl) (c37 (U := U) (fun k hk => by have hk := hU k hk; omega) y1 (hll _ (by simp)) (fun r hr => (hpk _ (by simp) r hr).1)) ?_
        rintro v18 w59 ⟨g18, R18, ga18, gb18, m60⟩
        have z61 := m60.size
        have ha := ha.keep ask_st (fun k hk => by have hk := hU k hk; omega) m60 (fun _ _ h => h)
        have y1 := y1.keep rec_st (fun k hk => by have hk := hU k hk; omega) m60 (fun _ _ h => h)
        have y2 := y2.keep rec_st (fun k hk => by have hk := hU k hk; omega) m60 (fun _ _ h => h)
        have y3 := y3.keep rec_st (fun k hk => by have hk := hU k hk; omega) m60 (fun _ _ h => h)
        have hb := hb.keep (fun k hk => by have hk := hU k hk; omega) m60 (fun _ _ h => h)
        have hf := hf.step0 m60
        have h3 := h3.keep m60 (fun h => h)
        have hC := hC.step0 m60
        have h6 := h6.keep m60 (fun h => h)
        have hS62 := hS58.step0 m60
        refine ⟨hS62, ?_⟩
        obtain ⟨aq18, cq18, rfl⟩ := RA.form R18
        refine hc rfl (xcall ca37 rfl) (c37 (U := U) (fun k hk => by have hk := hU k hk; omega) y2 (hll _ (by simp)) (fun r hr => (hpk _ (by simp) r hr).1)) ?_
        rintro v21 w63 ⟨g21, R21, ga21, gb21, m64⟩
        have z65 := m64.size
        have ha := ha.keep ask_st (fun k hk => by have hk := hU k hk; omega) m64 (fun _ _ h => h)
        have y1 := y1.keep rec_st (fun k hk => by have hk := hU k hk; omega) m64 (fun _ _ h => h)
        have y2 := y2.keep rec_st (fun k hk => by have hk := hU k hk; omega) m64 (fun _ _ h => h)
        have y3 := y3.keep rec_st (fun k hk => by have hk := hU k hk; omega) m64 (fun _ _ h => h)
        have hb := hb.keep (fun k hk => by have hk := hU k hk; omega) m64 (fun _ _ h => h)
        have hf := hf.step0 m64
        have h3 := h3.keep m64 (fun h => h)
        have hC := hC.step0 m64
        have h6 := h6.keep m64 (fun h => h)
        have R18 := RX.keep R18 res_st (fun k hk => by have hk := hU k hk; omega) (by omega) m64 (fun _ _ _ h => h) (fun h => h)
        have hS66 := hS62.step0 m64
        refine ⟨hS66, ?_⟩
        obtain ⟨aq21, cq21, rfl⟩ := RA.form R21
        refine hc rfl (xcall ca37 rfl) (c37 (U := U) (fun k hk => by have hk := hU k hk; omega) y3 (hll _ (by simp)) (fun r hr => (hpk _ (by simp) r hr).1)) ?_
        rintro v24 w67 ⟨g24, R24, ga24, gb24, m68⟩
        have z69 := m68.size
        have ha := ha.keep ask_st (fun k hk => by have hk := hU k hk; omega) m68 (fun _ _ h => h)
        have y1 := y1.keep rec_st (fun k hk => by have hk := hU k hk; omega) m68 (fun _ _ h => h)
        have y2 := y2.keep rec_st (fun k hk => by have hk := hU k hk; omega) m68 (fun _ _ h => h)
        have y3 := y3.keep rec_st (fun k hk => by have hk := hU k hk; omega) m68 (fun _ _ h => h)
        have hb := hb.keep (fun k hk => by have hk := hU k hk; omega) m68 (fun _ _ h => h)
        have hf := hf.step0 m68
        have h3 := h3.keep m68 (fun h => h)
        have hC := hC.step0 m68
        have h6 := h6.keep m68 (fun h => h)
        have R18 := RX.keep R18 res_st (fun k hk => by have hk := hU k hk; omega) (by omega) m68 (fun _ _ _ h => h) (fun h => h)
        have R21 := RX.keep R21 res_st (fun k hk => by have hk := hU k hk; omega) (by omega) m68 (fun _ _ _ h => h) (fun h => h)
        have hS70 := hS66.step0 m68
        refine ⟨hS70, ?_⟩
        obtain ⟨aq24, cq24, rfl⟩ := RA.form R24
        refine hv rfl (fun _ _ => xbuildS (msgSegs m.head (.slice none 0 0) (.slice aq18 m.one.length cq18) (.slice aq21 m.two.length cq21) (.slice aq24 m.three.length cq24)) zr79 ly79 rfl (by simp [fitAll, zs79, Value.cells, headSegs]) rfl) hS70 ?_
        refine bluK rfl (xstW h6 (lens' := [1, 1, 1, 1, 1, 1, 1, 1, 1, 1, 1, 1, 1, 1]) sz79 rfl rfl rfl rfl rfl) ?_
        rintro w72 ⟨m73, h6, s71⟩
        have ha := ha.keep ask_st (fun k hk => by have hk := hU k hk; omega) m73 (fun k hk hS => by have hk := hU k hk; have hS : k = b6 := hS; omega)
        have y1 := y1.keep rec_st (fun k hk => by have hk := hU k hk; omega) m73 (fun k hk hS => by have hk := hU k hk; have hS : k = b6 := hS; omega)
        have y2 := y2.keep rec_st (fun k hk => by have hk := hU k hk; omega) m73 (fun k hk hS => by have hk := hU k hk; have hS : k = b6 := hS; omega)
        have y3 := y3.keep rec_st (fun k hk => by have hk := hU k hk; omega) m73 (fun k hk hS => by have hk := hU k hk; have hS : k = b6 := hS; omega)
        have hb := hb.keep (fun k hk => by have hk := hU k hk; omega) m73 (fun k hk hS => by have hk := hU k hk; have hS : k = b6 := hS; omega)
        have hf := hf.step m73 (fun k hk hS => by have hS : k = b6 := hS; show False; omega)
        have h3 := h3.keep m73 (by show ¬ (b3 = b6); omega)
        have hC := hC.step m73 (fun k hk hS => by have hS : k = b6 := hS; show False; omega)
        have R18 := RX.keep R18 res_st (fun k hk => by have hk := hU k hk; omega) (by omega) m73 (fun k hk hk3 hS => by have hS : k = b6 := hS; rcases hk with hk | hk <;> first | omega | (have := hU k hk; omega)) (by show ¬ (g18 = b6); omega)
        have R21 := RX.keep R21 res_st (fun k hk => by have hk := hU k hk; omega) (by omega) m73 (fun k hk hk3 hS => by have hS : k = b6 := hS; rcases hk with hk | hk <;> first | omega | (have := hU k hk; omega)) (by show ¬ (g21 = b6); omega)
        have R24 := RX.keep R24 res_st (fun k hk => by have hk := hU k hk; omega) (by omega) m73 (fun k hk hk3 hS => by have hS : k = b6 := hS; rcases hk with hk | hk <;> first | omega | (have := hU k hk; omega)) (by show ¬ (g24 = b6); omega)
        exact ⟨rfl, (_, _, _, b6, g18, g21, g24), _, env_okl ⟨rfl, rfl, rfl, trivial⟩, ⟨hC, (h6), (RA.mono R18 res_gr (fun k hk => by have hk := Uw.num hU hk; exact ⟨by omega, by omega, by omega, by omega, by omega, by omega⟩)), (RA.mono R21 res_gr (fun k hk => by have hk := Uw.num hU hk; exact ⟨by omega, by omega, by omega, by omega, by omega, by omega⟩)), (RA.mono R24 res_gr (fun k hk => by have hk := Uw.num hU hk; exact ⟨by omega, by omega, by omega, by omega, by omega, by omega⟩)), (by omega)⟩⟩
    · skip
      refine hlKT rfl (xallS (lens := [1, 1, 1, 1, 1, 1, 1, 1, 1, 1, 1, 1, 1, 1]) in79 rfl) ?_
      rintro _ w75 ⟨b6, rfl, m76, h6, e74, s74⟩
      have ha := ha.keep ask_st (fun k hk => by have hk := hU k hk; omega) m76 (fun _ _ h => h)
      have y1 := y1.keep rec_st (fun k hk => by have hk := hU k hk; omega) m76 (fun _ _ h => h)
      have y2 := y2.keep rec_st (fun k hk => by have hk := hU k hk; omega) m76 (fun _ _ h => h)
      have y3 := y3.keep rec_st (fun k hk => by have hk := hU k hk; omega) m76 (fun _ _ h => h)
      have hb := hb.keep (fun k hk => by have hk := hU k hk; omega) m76 (fun _ _ h => h)
      have hf := hf.step0 m76
      have h3 := h3.keep m76 (fun h => h)
      have hC := hC.step0 m76
      have hS77 := hS5.step0 m76
      refine ⟨hS77, ?_⟩
      refine lstT ?_
      refine hc rfl (xcall ca36 rfl) (c36) ?_
      rintro _ w78 ⟨rfl, m79⟩
      have z80 := m79.size
      have ha := ha.keep ask_st (fun k hk => by have hk := hU k hk; omega) m79 (fun _ _ h => h)
      have y1 := y1.keep rec_st (fun k hk => by have hk := hU k hk; omega) m79 (fun _ _ h => h)
      have y2 := y2.keep rec_st (fun k hk => by have hk := hU k hk; omega) m79 (fun _ _ h => h)
      have y3 := y3.keep rec_st (fun k hk => by have hk := hU k hk; omega) m79 (fun _ _ h => h)
      have hb := hb.keep (fun k hk => by have hk := hU k hk; omega) m79 (fun _ _ h => h)
      have hf := hf.step0 m79
      have h3 := h3.keep m79 (fun h => h)
      have hC := hC.step0 m79
      have h6 := h6.keep m79 (fun h => h)
      have hS81 := hS77.step0 m79
      refine ⟨hS81, ?_⟩
      refine hc rfl (xcall ca37 rfl) (c37 (U := U) (fun k hk => by have hk := hU k hk; omega) y1 (hll _ (by simp)) (fun r hr => (hpk _ (by simp) r hr).1)) ?_
      rintro v18 w82 ⟨g18, R18, ga18, gb18, m83⟩
      have z84 := m83.size
      have ha := ha.keep ask_st (fun k hk => by have hk := hU k hk; omega) m83 (fun _ _ h => h)
      have y1 := y1.keep rec_st (fun k hk => by have hk := hU k hk; omega) m83 (fun _ _ h => h)
      have y2 := y2.keep rec_st (fun k hk => by have hk := hU k hk; omega) m83 (fun _ _ h => h)
      have y3 := y3.keep rec_st (fun k hk => by have hk := hU k hk; omega) m83 (fun _ _ h => h)
      have hb := hb.keep (fun k hk => by have hk := hU k hk; omega) m83 (fun _ _ h => h)
      have hf := hf.step0 m83
      have h3 := h3.keep m83 (fun h => h)
      have hC := hC.step0 m83
      have h6 := h6.keep m83 (fun h => h)
      have hS85 := hS81.step0 m83
      refine ⟨hS85, ?_⟩
      obtain ⟨aq18, cq18, rfl⟩ := RA.form R18
      refine hc rfl (xcall ca37 rfl) (c37 (U := U) (fun k hk => by have hk := hU k hk; omega) y2 (hll _ (by simp)) (fun r hr => (hpk _ (by simp) r hr).1)) ?_
      rintro v21 w86 ⟨g21, R21, ga21, gb21, m87⟩
      have z88 := m87.size
      have ha := ha.keep ask_st (fun k hk => by have hk := hU k hk; omega) m87 (fun _ _ h => h)
      have y1 := y1.keep rec_st (fun k hk => by have hk := hU k hk; omega) m87 (fun _ _ h => h)
      have y2 := y2.keep rec_st (fun k hk => by have hk := hU k hk; omega) m87 (fun _ _ h => h)
      have y3 := y3.keep rec_st (fun k hk => by have hk := hU k hk; omega) m87 (fun _ _ h => h)
      have hb := hb.keep (fun k hk => by have hk := hU k hk; omega) m87 (fun _ _ h => h)
      have hf := hf.step0 m87
      have h3 := h3.keep m87 (fun h => h)
      have hC := hC.step0 m87
      have h6 := h6.keep m87 (fun h => h)
      have R18 := RX.keep R18 res_st (fun k hk => by have hk := hU k hk; omega) (by omega) m87 (fun _ _ _ h => h) (fun h => h)
      have hS89 := hS85.step0 m87
      refine ⟨hS89, ?_⟩
      obtain ⟨aq21, cq21, rfl⟩ := RA.form R21
      refine hc rfl (xcall ca37 rfl) (c37 (U := U) (fun k hk => by have hk := hU k hk; omega) y3 (hll _ (by simp)) (fun r hr => (hpk _ (by simp) r hr).1)) ?_
      rintro v24 w90 ⟨g24, R24, ga24, gb24, m91⟩
      have z92 := m91.size
      have ha := ha.keep ask_st (fun k hk => by have hk := hU k hk; omega) m91 (fun _ _ h => h)
      have y1 := y1.keep rec_st (fun k hk => by have hk := hU k hk; omega) m91 (fun _ _ h => h)
      have y2 := y2.keep rec_st (fun k hk => by have hk := hU k hk; omega) m91 (fun _ _ h => h)
      have y3 := y3.keep rec_st (fun k hk => by have hk := hU k hk; omega) m91 (fun _ _ h => h)
      have hb := hb.keep (fun k hk => by have hk := hU k hk; omega) m91 (fun _ _ h => h)
      have hf := hf.step0 m91
      have h3 := h3.keep m91 (fun h => h)
      have hC := hC.step0 m91
      have h6 := h6.keep m91 (fun h => h)
      have R18 := RX.keep R18 res_st (fun k hk => by have hk := hU k hk; omega) (by omega) m91 (fun _ _ _ h => h) (fun h => h)
      have R21 := RX.keep R21 res_st (fun k hk => by have hk := hU k hk; omega) (by omega) m91 (fun _ _ _ h => h) (fun h => h)
      have hS93 := hS89.step0 m91
      refine ⟨hS93, ?_⟩
      obtain ⟨aq24, cq24, rfl⟩ := RA.form R24
      refine hv rfl (fun _ _ => xbuildS (msgSegs m.head (.slice none 0 0) (.slice aq18 m.one.length cq18) (.slice aq21 m.two.length cq21) (.slice aq24 m.three.length cq24)) zr79 ly79 rfl (by simp [fitAll, zs79, Value.cells, headSegs]) rfl) hS93 ?_
      refine bluK rfl (xstW h6 (lens' := [1, 1, 1, 1, 1, 1, 1, 1, 1, 1, 1, 1, 1, 1]) sz79 rfl rfl rfl rfl rfl) ?_
      rintro w95 ⟨m96, h6, s94⟩
      have ha := ha.keep ask_st (fun k hk => by have hk := hU k hk; omega) m96 (fun k hk hS => by have hk := hU k hk; have hS : k = b6 := hS; omega)
      have y1 := y1.keep rec_st (fun k hk => by have hk := hU k hk; omega) m96 (fun k hk hS => by have hk := hU k hk; have hS : k = b6 := hS; omega)
      have y2 := y2.keep rec_st (fun k hk => by have hk := hU k hk; omega) m96 (fun k hk hS => by have hk := hU k hk; have hS : k = b6 := hS; omega)
      have y3 := y3.keep rec_st (fun k hk => by have hk := hU k hk; omega) m96 (fun k hk hS => by have hk := hU k hk; have hS : k = b6 := hS; omega)
      have hb := hb.keep (fun k hk => by have hk := hU k hk; omega) m96 (fun k hk hS => by have hk := hU k hk; have hS : k = b6 := hS; omega)
      have hf := hf.step m96 (fun k hk hS => by have hS : k = b6 := hS; show False; omega)
      have h3 := h3.keep m96 (by show ¬ (b3 = b6); omega)
      have hC := hC.step m96 (fun k hk hS => by have hS : k = b6 := hS; show False; omega)
      have R18 := RX.keep R18 res_st (fun k hk => by have hk := hU k hk; omega) (by omega) m96 (fun k hk hk3 hS => by have hS : k = b6 := hS; rcases hk with hk | hk <;> first | omega | (have := hU k hk; omega)) (by show ¬ (g18 = b6); omega)
      have R21 := RX.keep R21 res_st (fun k hk => by have hk := hU k hk; omega) (by omega) m96 (fun k hk hk3 hS => by have hS : k = b6 := hS; rcases hk with hk | hk <;> first | omega | (have := hU k hk; omega)) (by show ¬ (g21 = b6); omega)
      have R24 := RX.keep R24 res_st (fun k hk => by have hk := hU k hk; omega) (by omega) m96 (fun k hk hk3 hS => by have hS : k = b6 := hS; rcases hk with hk | hk <;> first | omega | (have := hU k hk; omega)) (by show ¬ (g24 = b6); omega)
      exact ⟨rfl, (_, _, _, b6, g18, g21, g24), _, env_okl ⟨rfl, rfl, rfl, trivial⟩, ⟨hC, (h6), (RA.mono R18 res_gr (fun k hk => by have hk := Uw.num hU hk; exact ⟨by omega, by omega, by omega, by omega, by omega, by omega⟩)), (RA.mono R21 res_gr (fun k hk => by have hk := Uw.num hU hk; exact ⟨by omega, by omega, by omega, by omega, by omega, by omega⟩)), (RA.mono R24 res_gr (fun k hk => by have hk := Uw.num hU hk; exact ⟨by omega, by omega, by omega, by omega, by omega, by omega⟩)), (by omega)⟩⟩
  · skip
    rintro ⟨v1, v2, v3, b6, g1, g2, g3⟩ _ w97 ⟨hC, h6, k1, k2, k3, hd⟩
    have z98 := hC.size
    have ha := ha.keep ask_st (fun k hk => by have hk := hU k hk; omega) hC (fun _ _ h => h)
    have y1 := y1.keep rec_st (fun k hk => by have hk := hU k hk; omega) hC (fun _ _ h => h)
    have y2 := y2.keep rec_st (fun k hk => by have hk := hU k hk; omega) hC (fun _ _ h => h)
    have y3 := y3.keep rec_st (fun k hk => by have hk := hU k hk; omega) hC (fun _ _ h => h)
    have hb := hb.keep (fun k hk => by have hk := hU k hk; omega) hC (fun _ _ h => h)
    have hf := hf.step0 hC
    have h3 := h3.keep hC (fun h => h)
    obtain ⟨aq18, cq18, rfl⟩ := RA.form k1
    obtain ⟨aq21, cq21, rfl⟩ := RA.form k2
    obtain ⟨aq24, cq24, rfl⟩ := RA.form k3
    refine forget_wp [(0, _), (3, _), (6, _)] ⟨rfl, rfl, rfl, trivial⟩ fun _ => ?_
    refine wp_seq ?_
    refine sreg ?_
    refine sv (xfld fl28_1 rfl) ?_
    refine sv (xld on25 rfl (h3.r.c 10 rfl rfl)) ?_
    refine sv (xlen sl25 rfl) ?_
    refine sv (xmove rfl) ?_
    refine send ?_
    refine forget_wp [(0, _), (6, _), (27, _), (28, _), (29, _)] ⟨rfl, rfl, rfl, rfl, rfl, trivial⟩ fun _ => ?_
    refine wp_block ?_
    refine lp [(0, _), (6, _), (27, _), (28, _)] (fun (x : Nat × Value × Nat) => match x with | (k, v, g) => [(29, .int .i64 (k : Int))]) (fun (x : Nat × Value × Nat) wx => match x with | (k, v, g) => Fr (fun k => k = b6 ∨ k = b3) w97 wx ∧ (k ≤ m.asks.length) ∧ (SB wx b6 lMsg (msgSegs m.head v (.slice aq18 m.one.length cq18) (.slice aq21 m.two.length cq21) (.slice aq24 m.three.length cq24))) ∧ (RA QEl lQ (fun _ => False) wx v g 86 k (m.asks.take k)) ∧ (g = b3 ∨ w97.heap.size ≤ g) ∧ (g < wx.heap.size)) (fun (x : Nat × Value × Nat) => match x with | (k, v, g) => m.asks.length - k) (0, .slice none 0 0, b3) ⟨rfl, rfl, rfl, rfl, rfl, trivial⟩ ⟨Fr.refl _ _, Nat.zero_le _, h6, RA.nil _ _ _ _, .inl rfl, by omega⟩ ?_
    rintro ⟨k, v, g⟩ _ w100 ⟨hL99, hk, h6, hq, hgq, hgk⟩
    refine forget_wp [(0, _), (6, _), (27, _), (28, _), (29, _)] ⟨rfl, rfl, rfl, rfl, rfl, trivial⟩ fun _ => ?_
    have z101 := hL99.size
    have ha := ha.keep ask_st (fun k hk => by have hk := hU k hk; omega) hL99 (fun k hk hS => by have hk := hU k hk; have hS : k = b6 ∨ k = b3 := hS; omega)
    have y1 := y1.keep rec_st (fun k hk => by have hk := hU k hk; omega) hL99 (fun k hk hS => by have hk := hU k hk; have hS : k = b6 ∨ k = b3 := hS; omega)
    have y2 := y2.keep rec_st (fun k hk => by have hk := hU k hk; omega) hL99 (fun k hk hS => by have hk := hU k hk; have hS : k = b6 ∨ k = b3 := hS; omega)
    have y3 := y3.keep rec_st (fun k hk => by have hk := hU k hk; omega) hL99 (fun k hk hS => by have hk := hU k hk; have hS : k = b6 ∨ k = b3 := hS; omega)
    have hb := hb.keep (fun k hk => by have hk := hU k hk; omega) hL99 (fun k hk hS => by have hk := hU k hk; have hS : k = b6 ∨ k = b3 := hS; omega)
    have hf := hf.step hL99 (fun k hk hS => by have hS : k = b6 ∨ k = b3 := hS; show False; omega)
    have k1 := k1.keep res_st (fun k hk => by have hk := Us.num hk; omega) hL99 (fun k hk hS => by have hk := Us.num hk; have hS : k = b6 ∨ k = b3 := hS; omega) (by show ¬ (g1 = b6 ∨ g1 = b3); omega)
    have k2 := k2.keep res_st (fun k hk => by have hk := Us.num hk; omega) hL99 (fun k hk hS => by have hk := Us.num hk; have hS : k = b6 ∨ k = b3 := hS; omega) (by show ¬ (g2 = b6 ∨ g2 = b3); omega)
    have k3 := k3.keep res_st (fun k hk => by have hk := Us.num hk; omega) hL99 (fun k hk hS => by have hk := Us.num hk; have hS : k = b6 ∨ k = b3 := hS; omega) (by show ¬ (g3 = b6 ∨ g3 = b3); omega)
    refine sreg ?_
    refine svP (xlss rfl rfl) (fun hc30 => ?_) (fun hc30 => ?_)
    · skip
      refine send ?_
      refine forget_wp [(0, _), (6, _), (27, _), (28, _), (29, _), (30, _)] ⟨rfl, rfl, rfl, rfl, rfl, rfl, trivial⟩ fun _ => ?_
      refine wp_seq ?_
      refine cyes rfl ?_
      refine wp_skip ?_
      refine nThen ?_
      refine forget_wp [(0, _), (6, _), (27, _), (28, _), (29, _)] ⟨rfl, rfl, rfl, rfl, rfl, trivial⟩ fun _ => ?_
      refine wp_seq ?_
      refine wp_block ?_
      obtain ⟨a, hak⟩ := some_of_lt (by omega : k < m.asks.length)
      refine sreg ?_
      obtain ⟨bE31, oE31, sgE31, rfl, uE31, hsE31, heE31⟩ := LA.get ha hak
      obtain rfl := heE31
      have zE31 := hU _ uE31
      refine sv (xidx sl25 sz58 rfl rfl rfl (by omega)) ?_
      refine sv (xldS (lens := [1, 1, 1]) ro58 rfl hsE31) ?_
      refine svK (xallS (lens := [1, 1, 1]) in58 rfl) ?_
      rintro _ w103 ⟨b8, rfl, m104, h8, e102, s102⟩
      have ha := ha.keep ask_st (fun k hk => by have hk := hU k hk; omega) m104 (fun _ _ h => h)
      have y1 := y1.keep rec_st (fun k hk => by have hk := hU k hk; omega) m104 (fun _ _ h => h)
      have y2 := y2.keep rec_st (fun k hk => by have hk := hU k hk; omega) m104 (fun _ _ h => h)
      have y3 := y3.keep rec_st (fun k hk => by have hk := hU k hk; omega) m104 (fun _ _ h => h)
      have hb := hb.keep (fun k hk => by have hk := hU k hk; omega) m104 (fun _ _ h => h)
      have hf := hf.step0 m104
      have h6 := h6.keep m104 (fun h => h)
      have k1 := k1.keep res_st (fun k hk => by have hk := Us.num hk; omega) m104 (fun _ _ h => h) (fun h => h)
      have k2 := k2.keep res_st (fun k hk => by have hk := Us.num hk; omega) m104 (fun _ _ h => h) (fun h => h)
      have k3 := k3.keep res_st (fun k hk => by have hk := Us.num hk; omega) m104 (fun _ _ h => h) (fun h => h)
      have hq := hq.keep q_st (fun k hk => by have hk := (show k + 1 ≤ 0 from (show False from hk).elim); omega) m104 (fun _ _ h => h) (fun h => h)
      have hL99 := hL99.step0 m104
      have hsE31 := hsE31.keep m104 (by omega) (fun h => h)
      refine suK (xstW h8 (lens' := [1, 1, 1]) sz58 rfl rfl rfl rfl rfl) ?_
      rintro w106 ⟨m107, h8, s105⟩
      have ha := ha.keep ask_st (fun k hk => by have hk := hU k hk; omega) m107 (fun k hk hS => by have hk := hU k hk; have hS : k = b8 := hS; omega)
      have y1 := y1.keep rec_st (fun k hk => by have hk := hU k hk; omega) m107 (fun k hk hS => by have hk := hU k hk; have hS : k = b8 := hS; omega)
      have y2 := y2.keep rec_st (fun k hk => by have hk := hU k hk; omega) m107 (fun k hk hS => by have hk := hU k hk; have hS : k = b8 := hS; omega)
      have y3 := y3.keep rec_st (fun k hk => by have hk := hU k hk; omega) m107 (fun k hk hS => by have hk := hU k hk; have hS : k = b8 := hS; omega)
      have hb := hb.keep (fun k hk => by have hk := hU k hk; omega) m107 (fun k hk hS => by have hk := hU k hk; have hS : k = b8 := hS; omega)
      have hf := hf.step m107 (fun k hk hS => by have hS : k = b8 := hS; show False; omega)
      have h6 := h6.keep m107 (by show ¬ (b6 = b8); omega)
      have k1 := k1.keep res_st (fun k hk => by have hk := Us.num hk; omega) m107 (fun k hk hS => by have hk := Us.num hk; have hS : k = b8 := hS; omega) (by show ¬ (g1 = b8); omega)
      have k2 := k2.keep res_st (fun k hk => by have hk := Us.num hk; omega) m107 (fun k hk hS => by have hk := Us.num hk; have hS : k = b8 := hS; omega) (by show ¬ (g2 = b8); omega)
      have k3 := k3.keep res_st (fun k hk => by have hk := Us.num hk; omega) m107 (fun k hk hS => by have hk := Us.num hk; have hS : k = b8 := hS; omega) (by show ¬ (g3 = b8); omega)
      have hq := hq.keep q_st (fun k hk => by have hk := (show k + 1 ≤ 0 from (show False from hk).elim); omega) m107 (fun k hk hS => by have hk := (show k + 1 ≤ 0 from (show False from hk).elim); have hS : k = b8 := hS; omega) (by show ¬ (g = b8); omega)
      have hL99 := hL99.step m107 (fun k hk hS => by have hS : k = b8 := hS; show k = b6 ∨ k = b3; omega)
      have hsE31 := hsE31.keep m107 (by omega) (by show ¬ (bE31 = b8); omega)
      refine send ?_
      refine forget_wp [(0, _), (6, _), (8, _), (27, _), (28, _), (29, _)] ⟨rfl, rfl, rfl, rfl, rfl, rfl, trivial⟩ fun _ => ?_
      refine ldraw (Fr (fun k => k = g) w106.drew) [(0, .rd), (1, .rd), (2, .rd), (3, .ld), (4, .ld), (5, .ld), (6, .rd), (7, .bh)] mixed (by kernel_rfl) (fun _ _ _ _ _ h => h) ?_
      have z108 : w106.drew.heap.size = w106.heap.size := rfl
      have ha := ha.keep ask_st (fun k hk => by have hk := hU k hk; omega) (Fr.drew (Fr.refl (fun _ => False) w106)) (fun _ _ h => h)
      have y1 := y1.keep rec_st (fun k hk => by have hk := hU k hk; omega) (Fr.drew (Fr.refl (fun _ => False) w106)) (fun _ _ h => h)
      have y2 := y2.keep rec_st (fun k hk => by have hk := hU k hk; omega) (Fr.drew (Fr.refl (fun _ => False) w106)) (fun _ _ h => h)
      have y3 := y3.keep rec_st (fun k hk => by have hk := hU k hk; omega) (Fr.drew (Fr.refl (fun _ => False) w106)) (fun _ _ h => h)
      have hb := hb.keep (fun k hk => by have hk := hU k hk; omega) (Fr.drew (Fr.refl (fun _ => False) w106)) (fun _ _ h => h)
      have hf := hf.drew
      have h6 := h6.drew
      have k1 := k1.keep res_st (fun k hk => by have hk := Us.num hk; omega) (Fr.drew (Fr.refl (fun _ => False) w106)) (fun _ _ h => h) (fun h => h)
      have k2 := k2.keep res_st (fun k hk => by have hk := Us.num hk; omega) (Fr.drew (Fr.refl (fun _ => False) w106)) (fun _ _ h => h) (fun h => h)
      have k3 := k3.keep res_st (fun k hk => by have hk := Us.num hk; omega) (Fr.drew (Fr.refl (fun _ => False) w106)) (fun _ _ h => h) (fun h => h)
      have hq := hq.keep q_st (fun k hk => by have hk := (show k + 1 ≤ 0 from (show False from hk).elim); omega) (Fr.drew (Fr.refl (fun _ => False) w106)) (fun _ _ h => h) (fun h => h)
      have hL99 := hL99.drew
      have hsE31 := hsE31.keep (Fr.drew (Fr.refl (fun _ => False) w106)) (by omega) (fun h => h)
      have h8 := h8.drew
      have hS109 : Fr (fun k => k = g) w106.drew w106.drew := Fr.refl _ _
      refine hv rfl (fun _ _ => xfld fl79_1 rfl) hS109 ?_
      refine hv rfl (fun w' hS => xld on77 rfl ((h6.keep hS (by show ¬ (b6 = g); omega)).r.c 10 rfl rfl)) hS109 ?_
      refine hv rfl (fun w' hS => xldS (lens := [1, 1, 1]) ro58 rfl (h8.keep hS (by show ¬ (b8 = g); omega)).r) hS109 ?_
      refine hc rfl (xcall ca38 rfl) (c38 (hnas _ (List.mem_of_getElem? hak))) ?_
      rintro _ w110 ⟨rfl, m111⟩
      have z112 := m111.size
      have ha := ha.keep ask_st (fun k hk => by have hk := hU k hk; omega) m111 (fun _ _ h => h)
      have y1 := y1.keep rec_st (fun k hk => by have hk := hU k hk; omega) m111 (fun _ _ h => h)
      have y2 := y2.keep rec_st (fun k hk => by have hk := hU k hk; omega) m111 (fun _ _ h => h)
      have y3 := y3.keep rec_st (fun k hk => by have hk := hU k hk; omega) m111 (fun _ _ h => h)
      have hb := hb.keep (fun k hk => by have hk := hU k hk; omega) m111 (fun _ _ h => h)
      have hf := hf.step0 m111
      have h6 := h6.keep m111 (fun h => h)
      have k1 := k1.keep res_st (fun k hk => by have hk := Us.num hk; omega) m111 (fun _ _ h => h) (fun h => h)
      have k2 := k2.keep res_st (fun k hk => by have hk := Us.num hk; omega) m111 (fun _ _ h => h) (fun h => h)
      have k3 := k3.keep res_st (fun k hk => by have hk := Us.num hk; omega) m111 (fun _ _ h => h) (fun h => h)
      have hq := hq.keep q_st (fun k hk => by have hk := (show k + 1 ≤ 0 from (show False from hk).elim); omega) m111 (fun _ _ h => h) (fun h => h)
      have hL99 := hL99.step0 m111
      have hsE31 := hsE31.keep m111 (by omega) (fun h => h)
      have h8 := h8.keep m111 (fun h => h)
      have hS113 := hS109.step0 m111
      refine ⟨hS113, ?_⟩
      refine hlK rfl (xslit ((questSegs a).flatten) sl77 in86 rfl (by decide) rfl rfl rfl (by simp [questSegs, nm_length, Value.cells]) (by decide) (ag_flat _) (by simp only [questSegs, List.flatten_cons, List.flatten_nil, List.all_append, List.append_nil, nm_one, Bool.true_and] <;> rfl)) ?_
      rintro _ w115 ⟨b37, rfl, m116, h37, e37, s37, r37⟩
      have ha := ha.keep ask_st (fun k hk => by have hk := hU k hk; omega) m116 (fun _ _ h => h)
      have y1 := y1.keep rec_st (fun k hk => by have hk := hU k hk; omega) m116 (fun _ _ h => h)
      have y2 := y2.keep rec_st (fun k hk => by have hk := hU k hk; omega) m116 (fun _ _ h => h)
      have y3 := y3.keep rec_st (fun k hk => by have hk := hU k hk; omega) m116 (fun _ _ h => h)
      have hb := hb.keep (fun k hk => by have hk := hU k hk; omega) m116 (fun _ _ h => h)
      have hf := hf.step0 m116
      have h6 := h6.keep m116 (fun h => h)
      have k1 := k1.keep res_st (fun k hk => by have hk := Us.num hk; omega) m116 (fun _ _ h => h) (fun h => h)
      have k2 := k2.keep res_st (fun k hk => by have hk := Us.num hk; omega) m116 (fun _ _ h => h) (fun h => h)
      have k3 := k3.keep res_st (fun k hk => by have hk := Us.num hk; omega) m116 (fun _ _ h => h) (fun h => h)
      have hq := hq.keep q_st (fun k hk => by have hk := (show k + 1 ≤ 0 from (show False from hk).elim); omega) m116 (fun _ _ h => h) (fun h => h)
      have hL99 := hL99.step0 m116
      have hsE31 := hsE31.keep m116 (by omega) (fun h => h)
      have h8 := h8.keep m116 (fun h => h)
      have hS117 := hS113.step0 m116
      refine ⟨hS117, ?_⟩
      obtain ⟨ss38, hR38, hA38⟩ := hq
      refine hlK rfl (xapp sl77 in86 rfl (by decide) rfl rfl hR38 (r37.src sl77) (by simp only [maxLen]; omega) (by omega)) ?_
      rintro v38 w118 ⟨g38, r38, m119, a38, l38⟩
      have z120 := m119.size
      have ha := ha.keep ask_st (fun k hk => by have hk := hU k hk; omega) m119 (fun k hk hS => by have hk := hU k hk; have hS : k = g := hS; omega)
      have y1 := y1.keep rec_st (fun k hk => by have hk := hU k hk; omega) m119 (fun k hk hS => by have hk := hU k hk; have hS : k = g := hS; omega)
      have y2 := y2.keep rec_st (fun k hk => by have hk := hU k hk; omega) m119 (fun k hk hS => by have hk := hU k hk; have hS : k = g := hS; omega)
      have y3 := y3.keep rec_st (fun k hk => by have hk := hU k hk; omega) m119 (fun k hk hS => by have hk := hU k hk; have hS : k = g := hS; omega)
      have hb := hb.keep (fun k hk => by have hk := hU k hk; omega) m119 (fun k hk hS => by have hk := hU k hk; have hS : k = g := hS; omega)
      have hf := hf.step m119 (fun k hk hS => by have hS : k = g := hS; show False; omega)
      have h6 := h6.keep m119 (by show ¬ (b6 = g); omega)
      have k1 := k1.keep res_st (fun k hk => by have hk := Us.num hk; omega) m119 (fun k hk hS => by have hk := Us.num hk; have hS : k = g := hS; omega) (by show ¬ (g1 = g); omega)
      have k2 := k2.keep res_st (fun k hk => by have hk := Us.num hk; omega) m119 (fun k hk hS => by have hk := Us.num hk; have hS : k = g := hS; omega) (by show ¬ (g2 = g); omega)
      have k3 := k3.keep res_st (fun k hk => by have hk := Us.num hk; omega) m119 (fun k hk hS => by have hk := Us.num hk; have hS : k = g := hS; omega) (by show ¬ (g3 = g); omega)
      have hL99 := hL99.step m119 (fun k hk hS => by have hS : k = g := hS; show k = b6 ∨ k = b3; omega)
      have hsE31 := hsE31.keep m119 (by omega) (by show ¬ (bE31 = g); omega)
      have h8 := h8.keep m119 (by show ¬ (b8 = g); omega)
      have hS121 := hS117.step m119 (fun k hk hS => by have hS : k = g := hS; show k = g; omega)
      have hq := RA.snoc (x := a) hA38 q_st q_gr (fun k hk => by have hk := (show k + 1 ≤ 0 from (show False from hk).elim); omega) m119 (fun k hk hS => by have hk := (show k + 1 ≤ 0 from (show False from hk).elim); have hS : k = g := hS; omega) (fun _ h => h) r38 (by simp [questSegs, nm_length]) (rfl)
      refine ⟨hS121, ?_⟩
      refine hv rfl (fun _ _ => xfld fl79_1 rfl) hS121 ?_
      refine bluK rfl (xstF 10 sz77 h6 rfl rfl rfl rfl (by obtain ⟨_, _, rfl⟩ := RA.form hq; rfl)) ?_
      rintro w123 ⟨m124, h6, s122⟩
      have ha := ha.keep ask_st (fun k hk => by have hk := hU k hk; omega) m124 (fun k hk hS => by have hk := hU k hk; have hS : k = b6 := hS; omega)
      have y1 := y1.keep rec_st (fun k hk => by have hk := hU k hk; omega) m124 (fun k hk hS => by have hk := hU k hk; have hS : k = b6 := hS; omega)
      have y2 := y2.keep rec_st (fun k hk => by have hk := hU k hk; omega) m124 (fun k hk hS => by have hk := hU k hk; have hS : k = b6 := hS; omega)
      have y3 := y3.keep rec_st (fun k hk => by have hk := hU k hk; omega) m124 (fun k hk hS => by have hk := hU k hk; have hS : k = b6 := hS; omega)
      have hb := hb.keep (fun k hk => by have hk := hU k hk; omega) m124 (fun k hk hS => by have hk := hU k hk; have hS : k = b6 := hS; omega)
      have hf := hf.step m124 (fun k hk hS => by have hS : k = b6 := hS; show False; omega)
      have k1 := k1.keep res_st (fun k hk => by have hk := Us.num hk; omega) m124 (fun k hk hS => by have hk := Us.num hk; have hS : k = b6 := hS; omega) (by show ¬ (g1 = b6); omega)
      have k2 := k2.keep res_st (fun k hk => by have hk := Us.num hk; omega) m124 (fun k hk hS => by have hk := Us.num hk; have hS : k = b6 := hS; omega) (by show ¬ (g2 = b6); omega)
      have k3 := k3.keep res_st (fun k hk => by have hk := Us.num hk; omega) m124 (fun k hk hS => by have hk := Us.num hk; have hS : k = b6 := hS; omega) (by show ¬ (g3 = b6); omega)
      have hL99 := hL99.step m124 (fun k hk hS => by have hS : k = b6 := hS; show k = b6 ∨ k = b3; omega)
      have hsE31 := hsE31.keep m124 (by omega) (by show ¬ (bE31 = b6); omega)
      have h8 := h8.keep m124 (by show ¬ (b8 = b6); omega)
      have hq := hq.keep q_st (fun k hk => by have hk := (show k + 1 ≤ 0 from (show False from hk).elim); omega) m124 (fun k hk hS => by have hk := (show k + 1 ≤ 0 from (show False from hk).elim); have hS : k = b6 := hS; omega) (by show ¬ (g38 = b6); omega)
      refine lhend ?_
      refine nBlock ?_
      refine nThen ?_
      refine forget_wp [(0, _), (6, _), (27, _), (28, _), (29, _)] ⟨rfl, rfl, rfl, rfl, rfl, trivial⟩ fun _ => ?_
      refine lreg ?_
      refine sv (xadd rfl rfl (w64 (by omega) (by omega))) ?_
      refine sv (xmove rfl) ?_
      refine lend ?_
      refine nThen ?_
      refine ⟨(k + 1, _, g38), _, env_okl ⟨rfl, rfl, rfl, rfl, rfl, trivial⟩, ⟨hL99, (by omega), (h6), (by rw [take_snoc hak]; exact hq), (by omega), (by omega)⟩, ?_⟩
      show m.asks.length - (k + 1) < m.asks.length - k; omega
    · skip
      refine send ?_
      refine forget_wp [(0, _), (6, _), (27, _), (28, _), (29, _), (30, _)] ⟨rfl, rfl, rfl, rfl, rfl, rfl, trivial⟩ fun _ => ?_
      refine wp_seq ?_
      refine cno rfl ?_
      refine wp_exit ?_
      refine eThen ?_
      refine eThen ?_
      refine eHit ?_
      refine nThen ?_
      refine forget_wp [(0, _), (6, _)] ⟨rfl, rfl, trivial⟩ fun _ => ?_
      refine wp_seq ?_
      have hke : m.asks.take k = m.asks := List.take_of_length_le (by omega)
      rw [hke] at hq
      obtain rfl : k = m.asks.length := by omega
      obtain ⟨av, cv, rfl⟩ := RA.form hq
      refine sreg ?_
      refine sv (xmove rfl) ?_
      refine sv (xlen sl37 rfl) ?_
      refine svP (xeql rfl rfl) (fun hc43 => ?_) (fun hc43 => ?_)
      · skip
        refine send ?_
        refine forget_wp [(0, _), (6, _), (43, _)] ⟨rfl, rfl, rfl, trivial⟩ fun _ => ?_
        refine cyes rfl ?_
        refine sreg ?_
        refine sc (xcall ca39 rfl) (c39 (m := m) (U := Us w100.heap.size b6 b6 g1 g2 g3) h6 (RA.la0 hq (by decide) q_gr (fun _ h => h.elim) (.inr ⟨by omega, by omega, by omega, by omega, by omega, by omega⟩)) (RA.mono k1 res_gr (fun k hk => by have hk := Us.num hk; exact ⟨by omega, by omega, by omega, by omega, by omega, by omega⟩)) (RA.mono k2 res_gr (fun k hk => by have hk := Us.num hk; exact ⟨by omega, by omega, by omega, by omega, by omega, by omega⟩)) (RA.mono k3 res_gr (fun k hk => by have hk := Us.num hk; exact ⟨by omega, by omega, by omega, by omega, by omega, by omega⟩)) (fun k hk => by have hk := Us.num hk; omega) (by omega) (fun a ha => hna a ha) (fun r hr => (hpk _ (by simp) r hr).2) (fun r hr => (hpk _ (by simp) r hr).2) (fun r hr => (hpk _ (by simp) r hr).2) hcn) ?_
        rintro _ w125 ⟨p45, q45, g45, rfl, r45, m126, a45, l45⟩
        have z127 := m126.size
        have ha := ha.keep ask_st (fun k hk => by have hk := hU k hk; omega) m126 (fun k hk hS => by have hk := hU k hk; have hS : k = g1 ∨ k = g2 ∨ k = g3 := hS; omega)
        have y1 := y1.keep rec_st (fun k hk => by have hk := hU k hk; omega) m126 (fun k hk hS => by have hk := hU k hk; have hS : k = g1 ∨ k = g2 ∨ k = g3 := hS; omega)
        have y2 := y2.keep rec_st (fun k hk => by have hk := hU k hk; omega) m126 (fun k hk hS => by have hk := hU k hk; have hS : k = g1 ∨ k = g2 ∨ k = g3 := hS; omega)
        have y3 := y3.keep rec_st (fun k hk => by have hk := hU k hk; omega) m126 (fun k hk hS => by have hk := hU k hk; have hS : k = g1 ∨ k = g2 ∨ k = g3 := hS; omega)
        have hb := hb.keep (fun k hk => by have hk := hU k hk; omega) m126 (fun k hk hS => by have hk := hU k hk; have hS : k = g1 ∨ k = g2 ∨ k = g3 := hS; omega)
        have hf := hf.step m126 (fun k hk hS => by have hS : k = g1 ∨ k = g2 ∨ k = g3 := hS; show False; omega)
        have h6 := h6.keep m126 (by show ¬ (b6 = g1 ∨ b6 = g2 ∨ b6 = g3); omega)
        have hq := hq.keep q_st (fun k hk => by have hk := (show k + 1 ≤ 0 from (show False from hk).elim); omega) m126 (fun k hk hS => by have hk := (show k + 1 ≤ 0 from (show False from hk).elim); have hS : k = g1 ∨ k = g2 ∨ k = g3 := hS; omega) (by show ¬ (g = g1 ∨ g = g2 ∨ g = g3); omega)
        refine sv (xmove rfl) ?_
        refine sv (xextr rfl rfl) ?_
        refine sv (xextr rfl rfl) ?_
        refine sv (xassign rfl) ?_
        refine sv (xassign rfl) ?_
        refine send ?_
        refine forget_wp [(9, _), (10, _)] ⟨rfl, rfl, trivial⟩ fun _ => ?_
        refine sdraw (Fr (fun _ => False) w125.drew) [(0, .rd), (1, .rd), (2, .rd), (3, .rd), (4, .rd)] mixed (by kernel_rfl) (fun _ _ _ _ _ h => h) ?_
        have z128 : w125.drew.heap.size = w125.heap.size := rfl
        have ha := ha.keep ask_st (fun k hk => by have hk := hU k hk; omega) (Fr.drew (Fr.refl (fun _ => False) w125)) (fun _ _ h => h)
        have y1 := y1.keep rec_st (fun k hk => by have hk := hU k hk; omega) (Fr.drew (Fr.refl (fun _ => False) w125)) (fun _ _ h => h)
        have y2 := y2.keep rec_st (fun k hk => by have hk := hU k hk; omega) (Fr.drew (Fr.refl (fun _ => False) w125)) (fun _ _ h => h)
        have y3 := y3.keep rec_st (fun k hk => by have hk := hU k hk; omega) (Fr.drew (Fr.refl (fun _ => False) w125)) (fun _ _ h => h)
        have hb := hb.keep (fun k hk => by have hk := hU k hk; omega) (Fr.drew (Fr.refl (fun _ => False) w125)) (fun _ _ h => h)
        have hf := hf.drew
        have h6 := h6.drew
        have hq := hq.keep q_st (fun k hk => by have hk := (show k + 1 ≤ 0 from (show False from hk).elim); omega) (Fr.drew (Fr.refl (fun _ => False) w125)) (fun _ _ h => h) (fun h => h)
        have r45 := r45.keep (Fr.drew (Fr.refl (fun _ => False) w125)) (fun h => h)
        have hS129 : Fr (fun _ => False) w125.drew w125.drew := Fr.refl _ _
        refine hv rfl (fun _ _ => xmove rfl) hS129 ?_
        refine hv rfl (fun _ _ => xmove rfl) hS129 ?_
        refine hv rfl (fun _ _ => xeqN if89 rfl) hS129 ?_
        refine hv rfl (fun _ _ => xassign rfl) hS129 ?_
        refine hv rfl (fun _ _ => xassign rfl) hS129 ?_
        refine hend ?_
        refine forget_wp [(4, _), (5, _)] ⟨rfl, rfl, trivial⟩ fun _ => ?_
        refine wp_ret ?_
        refine rThen ?_
        refine rp2 rfl rfl rfl ?_
        obtain rfl : cs = [] := List.eq_nil_of_length_eq_zero (by omega)
        exact ⟨p45, q45, g45, rfl, r45, hf, by omega, by omega⟩
      · skip
        refine send ?_
        refine forget_wp [(0, _), (6, _), (43, _)] ⟨rfl, rfl, rfl, trivial⟩ fun _ => ?_
        refine cno rfl ?_
        refine wp_skip ?_
        refine nThen ?_
        refine forget_wp [(0, _), (6, _)] ⟨rfl, rfl, trivial⟩ fun _ => ?_
        refine sreg ?_
        refine sv (xmove rfl) ?_
        refine svK (xapp sl37 in5 rfl (by decide) rfl rfl (Rw.nil _ w100.heap.size _ _) (hb.src sl37) (by simp only [maxLen]; omega) (by omega)) ?_
        rintro _ w130 ⟨g53, r53, m131, a53, l53⟩
        have z132 := m131.size
        have ha := ha.keep ask_st (fun k hk => by have hk := hU k hk; omega) m131 (fun k hk hS => by have hk := hU k hk; have hS : k = w100.heap.size := hS; omega)
        have y1 := y1.keep rec_st (fun k hk => by have hk := hU k hk; omega) m131 (fun k hk hS => by have hk := hU k hk; have hS : k = w100.heap.size := hS; omega)
        have y2 := y2.keep rec_st (fun k hk => by have hk := hU k hk; omega) m131 (fun k hk hS => by have hk := hU k hk; have hS : k = w100.heap.size := hS; omega)
        have y3 := y3.keep rec_st (fun k hk => by have hk := hU k hk; omega) m131 (fun k hk hS => by have hk := hU k hk; have hS : k = w100.heap.size := hS; omega)
        have hb := hb.keep (fun k hk => by have hk := hU k hk; omega) m131 (fun k hk hS => by have hk := hU k hk; have hS : k = w100.heap.size := hS; omega)
        have hf := hf.step m131 (fun k hk hS => by have hS : k = w100.heap.size := hS; show False; omega)
        have h6 := h6.keep m131 (by show ¬ (b6 = w100.heap.size); omega)
        have k1 := k1.keep res_st (fun k hk => by have hk := Us.num hk; omega) m131 (fun k hk hS => by have hk := Us.num hk; have hS : k = w100.heap.size := hS; omega) (by show ¬ (g1 = w100.heap.size); omega)
        have k2 := k2.keep res_st (fun k hk => by have hk := Us.num hk; omega) m131 (fun k hk hS => by have hk := Us.num hk; have hS : k = w100.heap.size := hS; omega) (by show ¬ (g2 = w100.heap.size); omega)
        have k3 := k3.keep res_st (fun k hk => by have hk := Us.num hk; omega) m131 (fun k hk hS => by have hk := Us.num hk; have hS : k = w100.heap.size := hS; omega) (by show ¬ (g3 = w100.heap.size); omega)
        have hq := hq.keep q_st (fun k hk => by have hk := (show k + 1 ≤ 0 from (show False from hk).elim); omega) m131 (fun k hk hS => by have hk := (show k + 1 ≤ 0 from (show False from hk).elim); have hS : k = w100.heap.size := hS; omega) (by show ¬ (g = w100.heap.size); omega)
        obtain ⟨p53, q53, rfl, -⟩ := r53.form
        refine sc (xcall ca40 rfl) (c40 (m := m) (U := fun k => Us w130.heap.size b6 b6 g1 g2 g3 k ∧ k ≠ g53) r53 (by omega) h6 (RA.la0 hq (by decide) q_gr (fun _ h => h.elim) (.inr ⟨⟨by omega, by omega, by omega, by omega, by omega, by omega⟩, by omega⟩)) (RA.mono k1 res_gr (fun k hk => by have hk := Us.num hk; exact ⟨⟨by omega, by omega, by omega, by omega, by omega, by omega⟩, by omega⟩)) (RA.mono k2 res_gr (fun k hk => by have hk := Us.num hk; exact ⟨⟨by omega, by omega, by omega, by omega, by omega, by omega⟩, by omega⟩)) (RA.mono k3 res_gr (fun k hk => by have hk := Us.num hk; exact ⟨⟨by omega, by omega, by omega, by omega, by omega, by omega⟩, by omega⟩)) (fun k hk => by have hk2 := Us.num hk.1; have hk3 := hk.2; omega) (by omega) (fun a ha => hna a ha) (fun r hr => (hpk _ (by simp) r hr).2) (fun r hr => (hpk _ (by simp) r hr).2) (fun r hr => (hpk _ (by simp) r hr).2) hcn (by omega)) ?_
        rintro _ w133 ⟨p54, q54, g54, rfl, r54, m134, a54, l54⟩
        have z135 := m134.size
        have ha := ha.keep ask_st (fun k hk => by have hk := hU k hk; omega) m134 (fun k hk hS => by have hk := hU k hk; have hS : k = g53 ∨ k = g1 ∨ k = g2 ∨ k = g3 := hS; omega)
        have y1 := y1.keep rec_st (fun k hk => by have hk := hU k hk; omega) m134 (fun k hk hS => by have hk := hU k hk; have hS : k = g53 ∨ k = g1 ∨ k = g2 ∨ k = g3 := hS; omega)
        have y2 := y2.keep rec_st (fun k hk => by have hk := hU k hk; omega) m134 (fun k hk hS => by have hk := hU k hk; have hS : k = g53 ∨ k = g1 ∨ k = g2 ∨ k = g3 := hS; omega)
        have y3 := y3.keep rec_st (fun k hk => by have hk := hU k hk; omega) m134 (fun k hk hS => by have hk := hU k hk; have hS : k = g53 ∨ k = g1 ∨ k = g2 ∨ k = g3 := hS; omega)
        have hb := hb.keep (fun k hk => by have hk := hU k hk; omega) m134 (fun k hk hS => by have hk := hU k hk; have hS : k = g53 ∨ k = g1 ∨ k = g2 ∨ k = g3 := hS; omega)
        have hf := hf.step m134 (fun k hk hS => by have hS : k = g53 ∨ k = g1 ∨ k = g2 ∨ k = g3 := hS; show False; omega)
        have h6 := h6.keep m134 (by show ¬ (b6 = g53 ∨ b6 = g1 ∨ b6 = g2 ∨ b6 = g3); omega)
        have hq := hq.keep q_st (fun k hk => by have hk := (show k + 1 ≤ 0 from (show False from hk).elim); omega) m134 (fun k hk hS => by have hk := (show k + 1 ≤ 0 from (show False from hk).elim); have hS : k = g53 ∨ k = g1 ∨ k = g2 ∨ k = g3 := hS; omega) (by show ¬ (g = g53 ∨ g = g1 ∨ g = g2 ∨ g = g3); omega)
        refine sv (xmove rfl) ?_
        refine sv (xextr rfl rfl) ?_
        refine sv (xextr rfl rfl) ?_
        refine sv (xassign rfl) ?_
        refine sv (xassign rfl) ?_
        refine send ?_
        refine forget_wp [(11, _), (12, _)] ⟨rfl, rfl, trivial⟩ fun _ => ?_
        refine sdraw (Fr (fun _ => False) w133.drew) [(0, .rd), (1, .rd), (2, .rd), (3, .rd), (4, .rd)] mixed (by kernel_rfl) (fun _ _ _ _ _ h => h) ?_
        have z136 : w133.drew.heap.size = w133.heap.size := rfl
        have ha := ha.keep ask_st (fun k hk => by have hk := hU k hk; omega) (Fr.drew (Fr.refl (fun _ => False) w133)) (fun _ _ h => h)
        have y1 := y1.keep rec_st (fun k hk => by have hk := hU k hk; omega) (Fr.drew (Fr.refl (fun _ => False) w133)) (fun _ _ h => h)
        have y2 := y2.keep rec_st (fun k hk => by have hk := hU k hk; omega) (Fr.drew (Fr.refl (fun _ => False) w133)) (fun _ _ h => h)
        have y3 := y3.keep rec_st (fun k hk => by have hk := hU k hk; omega) (Fr.drew (Fr.refl (fun _ => False) w133)) (fun _ _ h => h)
        have hb := hb.keep (fun k hk => by have hk := hU k hk; omega) (Fr.drew (Fr.refl (fun _ => False) w133)) (fun _ _ h => h)
        have hf := hf.drew
        have h6 := h6.drew
        have hq := hq.keep q_st (fun k hk => by have hk := (show k + 1 ≤ 0 from (show False from hk).elim); omega) (Fr.drew (Fr.refl (fun _ => False) w133)) (fun _ _ h => h) (fun h => h)
        have r54 := r54.keep (Fr.drew (Fr.refl (fun _ => False) w133)) (fun h => h)
        have hS137 : Fr (fun _ => False) w133.drew w133.drew := Fr.refl _ _
        refine hv rfl (fun _ _ => xmove rfl) hS137 ?_
        refine hv rfl (fun _ _ => xmove rfl) hS137 ?_
        refine hv rfl (fun _ _ => xeqN if89 rfl) hS137 ?_
        refine hv rfl (fun _ _ => xassign rfl) hS137 ?_
        refine hv rfl (fun _ _ => xassign rfl) hS137 ?_
        refine hend ?_
        refine forget_wp [(4, _), (5, _)] ⟨rfl, rfl, trivial⟩ fun _ => ?_
        refine wp_ret ?_
        refine rp2 rfl rfl rfl ?_
        have el : 0 + cs.length + (packM (some []) m).length = (cs ++ packM (some []) m).length := by rw [List.length_append]; omega
        rw [el] at r54 ⊢
        exact ⟨p54, q54, g54, rfl, br_cast r54 rfl rfl, hf, by omega, by omega⟩
end Go.Proofs.YtifnodoffgfpbaaGreatDoor
