/- Walks: how a message is converted for the reference. Conditions: none. -/
import Derived.Test.YtifnodoffgfpbaaGreatDoorW10
import Derived.Test.YtifnodoffgfpbaaGreatDoorTree
namespace Go.Proofs.YtifnodoffgfpbaaGreatDoor
open Go

theorem RA.la0 {α : Type} {El : (Nat → Prop) → World → List (List Value) → α → Prop} {lens : List Nat} {U U' : Nat → Prop} {w : World} {v : Value} {g E n : Nat} {l : List α} (h : RA El lens U w v g E n l) (hs : 0 < lens.sum) (hE : Grows El) (hU : ∀ k, U k → U' k) (hg : n = 0 ∨ U' g) : LA El lens U' w v l := by
  rcases hg with rfl | hg
  · have hn := h.num hs
    obtain rfl : l = [] := List.eq_nil_of_length_eq_zero hn
    obtain ⟨a, c, rfl⟩ := RA.form h
    exact LA.nil
  · exact h.la hs hE hU hg
/-- what a conversion gives: a message that reads the same -/
def ConvTo (w : World) (U : Nat → Prop) (m : MsgD) (u : Value) (w' : World) : Prop :=
  ∃ va v1 v2 v3, u = ag (msgSegs m.head va v1 v2 v3) ∧ LA AskEl lAsk (Ub U w w') w' va m.asks ∧ LA RecEl lRec (Ub U w w') w' v1 m.one ∧ LA RecEl lRec (Ub U w w') w' v2 m.two ∧ LA RecEl lRec (Ub U w w') w' v3 m.three ∧ Fr0 w w'

set_option maxHeartbeats 4000000 in
set_option maxRecDepth 100000 in
theorem c13 {w : World} {U : Nat → Prop} (hU : ∀ k, U k → k < w.heap.size) {m : MsgD} {va v1 v2 v3 : Value} (ha : LA AskEl lAsk U w va m.asks) (y1 : LA RecEl lRec U w v1 m.one) (y2 : LA RecEl lRec U w v2 m.two) (y3 : LA RecEl lRec U w v3 m.three) (_hfa : ∀ a ∈ m.asks, a.name.size ≤ 1048576) (hfr : ∀ l ∈ [m.one, m.two, m.three], ∀ r ∈ l, r.fits) (hll : ∀ l ∈ [m.one, m.two, m.three], l.length ≤ 1048576) (hna : m.asks.length ≤ 1048576) :
    Ret PP 13 [ag (msgSegs m.head va v1 v2 v3)] w (ConvTo w U m) := by
  obtain ⟨aa, ca, rfl⟩ := ha.form
  obtain ⟨a1, c1, rfl⟩ := y1.form
  obtain ⟨a2, c2, rfl⟩ := y2.form
  obtain ⟨a3, c3, rfl⟩ := y3.form
  have hf : Fr (fun _ => False) w w := Fr.refl _ _
  refine ret_of Tryz.func13 rfl rfl rfl [(0, _)] rfl ?_
  refine sreg ?_
  refine svK (xboxS (lens := [1, 1, 1, 1, 1, 1, 1, 1, 1, 1, 1, 1, 1, 1]) rfl rfl) ?_
  rintro _ w2 ⟨b1, rfl, m3, h1, e1, s1⟩
  have ha := ha.keep ask_st (fun k hk => by have hk := hU k hk; omega) m3 (fun _ _ h => h)
  have y1 := y1.keep rec_st (fun k hk => by have hk := hU k hk; omega) m3 (fun _ _ h => h)
  have y2 := y2.keep rec_st (fun k hk => by have hk := hU k hk; omega) m3 (fun _ _ h => h)
  have y3 := y3.keep rec_st (fun k hk => by have hk := hU k hk; omega) m3 (fun _ _ h => h)
  have hf := hf.step0 m3
  refine svK (xallS (lens := [1, 1, 1, 1, 1, 1, 1, 1, 1, 1, 1, 1, 1, 1]) in34 rfl) ?_
  rintro _ w5 ⟨b2, rfl, m6, h2, e4, s4⟩
  have ha := ha.keep ask_st (fun k hk => by have hk := hU k hk; omega) m6 (fun _ _ h => h)
  have y1 := y1.keep rec_st (fun k hk => by have hk := hU k hk; omega) m6 (fun _ _ h => h)
  have y2 := y2.keep rec_st (fun k hk => by have hk := hU k hk; omega) m6 (fun _ _ h => h)
  have y3 := y3.keep rec_st (fun k hk => by have hk := hU k hk; omega) m6 (fun _ _ h => h)
  have hf := hf.step0 m6
  have h1 := h1.keep m6 (fun h => h)
  refine send ?_
  refine forget_wp [(1, _), (2, _)] ⟨rfl, rfl, trivial⟩ fun _ => ?_
  refine sdrawI [(1, _), (2, _)] ⟨rfl, rfl, trivial⟩ (fun (x : Value × Value × Value × Nat) => match x with | (v1, v2, v3, b3) => [(3, .pointer (some ⟨b3, 0, none⟩))]) (fun (x : Value × Value × Value × Nat) wx => match x with | (v1, v2, v3, b3) => Fr (fun _ => False) w5 wx ∧ (SB wx b3 lMsg (msgSegs m.head (.slice none 0 0) v1 v2 v3)) ∧ (LA RecEl lRec (Uw U w5.heap.size wx.heap.size b3) wx v1 m.one) ∧ (LA RecEl lRec (Uw U w5.heap.size wx.heap.size b3) wx v2 m.two) ∧ (LA RecEl lRec (Uw U w5.heap.size wx.heap.size b3) wx v3 m.three) ∧ (w5.heap.size ≤ b3) ∧ (b3 < wx.heap.size)) (Fr (fun _ => False) w5.drew) (.rd 0 (.rd 1 (.rd 2 (.rd 3 (.rd 5 (.rd 6 (.rd 8 (.rd 9 (.two 4 (.two 7 (.two 10 (.lst [(11, .rd), (12, .ld), (13, .bh)]) 12 (.lst [(10, .ld), (11, .rd), (13, .bh)])) 12 (.lst [(7, .ld), (10, .ld), (11, .rd), (13, .bh)])) 12 (.lst [(4, .ld), (7, .ld), (10, .ld), (11, .rd), (13, .bh)])))))))))) mixed (by kernel_rfl) ?_ ?_
  · skip
    have hC : Fr (fun _ => False) w5 w5 := Fr.refl _ _
    have z7 : w5.drew.heap.size = w5.heap.size := rfl
    have ha := ha.keep ask_st (fun k hk => by have hk := hU k hk; omega) (Fr.drew (Fr.refl (fun _ => False) w5)) (fun _ _ h => h)
    have y1 := y1.keep rec_st (fun k hk => by have hk := hU k hk; omega) (Fr.drew (Fr.refl (fun _ => False) w5)) (fun _ _ h => h)
    have y2 := y2.keep rec_st (fun k hk => by have hk := hU k hk; omega) (Fr.drew (Fr.refl (fun _ => False) w5)) (fun _ _ h => h)
    have y3 := y3.keep rec_st (fun k hk => by have hk := hU k hk; omega) (Fr.drew (Fr.refl (fun _ => False) w5)) (fun _ _ h => h)
    have hf := hf.drew
    have h1 := h1.drew
    have h2 := h2.drew
    have hC := hC.drew
    have hS8 : Fr (fun _ => False) w5.drew w5.drew := Fr.refl _ _
    refine hvT rfl (fun _ _ => xfld fl28_0 rfl) hS8 ?_
    refine hvT rfl (fun w' hS => xldS (lens := [1, 1, 1, 1, 1, 1, 1, 1, 1, 1]) ro24 rfl ((h1.keep hS (fun h => h)).r.sub 0 10 rfl)) hS8 ?_
    refine hvT rfl (fun _ _ => xfld fl28_2 rfl) hS8 ?_
    refine hvT rfl (fun w' hS => xld on26 rfl ((h1.keep hS (fun h => h)).r.c 11 rfl rfl)) hS8 ?_
    refine hvT rfl (fun _ _ => xfld fl28_3 rfl) hS8 ?_
    refine hvT rfl (fun w' hS => xld on26 rfl ((h1.keep hS (fun h => h)).r.c 12 rfl rfl)) hS8 ?_
    refine hvT rfl (fun _ _ => xfld fl28_4 rfl) hS8 ?_
    refine hvT rfl (fun w' hS => xld on26 rfl ((h1.keep hS (fun h => h)).r.c 13 rfl rfl)) hS8 ?_
    refine twoT ?_ ?_
    · skip
      refine hcT rfl (xcall ca29 rfl) (c29 (U := U) (fun k hk => by have hk := hU k hk; omega) y1 (hll _ (by simp)) (hfr _ (by simp))) ?_
      rintro v10 w9 ⟨L10, m10⟩
      have z11 := m10.size
      have ha := ha.keep ask_st (fun k hk => by have hk := hU k hk; omega) m10 (fun _ _ h => h)
      have y1 := y1.keep rec_st (fun k hk => by have hk := hU k hk; omega) m10 (fun _ _ h => h)
      have y2 := y2.keep rec_st (fun k hk => by have hk := hU k hk; omega) m10 (fun _ _ h => h)
      have y3 := y3.keep rec_st (fun k hk => by have hk := hU k hk; omega) m10 (fun _ _ h => h)
      have hf := hf.step0 m10
      have h1 := h1.keep m10 (fun h => h)
      have h2 := h2.keep m10 (fun h => h)
      have hC := hC.step0 m10
      have hS12 := hS8.step0 m10
      obtain ⟨aq10, cq10, rfl⟩ := L10.form
      refine ⟨hS12, ?_⟩
      refine twoT ?_ ?_
      · skip
        refine hcT rfl (xcall ca29 rfl) (c29 (U := U) (fun k hk => by have hk := hU k hk; omega) y2 (hll _ (by simp)) (hfr _ (by simp))) ?_
        rintro v13 w13 ⟨L13, m14⟩
        have z15 := m14.size
        have ha := ha.keep ask_st (fun k hk => by have hk := hU k hk; omega) m14 (fun _ _ h => h)
        have y1 := y1.keep rec_st (fun k hk => by have hk := hU k hk; omega) m14 (fun _ _ h => h)
        have y2 := y2.keep rec_st (fun k hk => by have hk := hU k hk; omega) m14 (fun _ _ h => h)
        have y3 := y3.keep rec_st (fun k hk => by have hk := hU k hk; omega) m14 (fun _ _ h => h)
        have hf := hf.step0 m14
        have h1 := h1.keep m14 (fun h => h)
        have h2 := h2.keep m14 (fun h => h)
        have hC := hC.step0 m14
        have L10 := L10.keep rec_st (fun k hk => by have hk := Ub.num hU hk; omega) m14 (fun _ _ h => h)
        have hS16 := hS12.step0 m14
        obtain ⟨aq13, cq13, rfl⟩ := L13.form
        refine ⟨hS16, ?_⟩
        refine twoT ?_ ?_
        · skip
          refine hcT rfl (xcall ca29 rfl) (c29 (U := U) (fun k hk => by have hk := hU k hk; omega) y3 (hll _ (by simp)) (hfr _ (by simp))) ?_
          rintro v16 w17 ⟨L16, m18⟩
          have z19 := m18.size
          have ha := ha.keep ask_st (fun k hk => by have hk := hU k hk; omega) m18 (fun _ _ h => h)
          have y1 := y1.keep rec_st (fun k hk => by have hk := hU k hk; omega) m18 (fun _ _ h => h)
          have y2 := y2.keep rec_st (fun k hk => by have hk := hU k hk; omega) m18 (fun _ _ h => h)
          have y3 := y3.keep rec_st (fun k hk => by have hk := hU k hk; omega) m18 (fun _ _ h => h)
          have hf := hf.step0 m18
          have h1 := h1.keep m18 (fun h => h)
          have h2 := h2.keep m18 (fun h => h)
          have hC := hC.step0 m18
          have L10 := L10.keep rec_st (fun k hk => by have hk := Ub.num hU hk; omega) m18 (fun _ _ h => h)
          have L13 := L13.keep rec_st (fun k hk => by have hk := Ub.num hU hk; omega) m18 (fun _ _ h => h)
          have hS20 := hS16.step0 m18
          obtain ⟨aq16, cq16, rfl⟩ := L16.form
          refine ⟨hS20, ?_⟩
          refine lstT ?_
          refine hv rfl (fun _ _ => xbuildS (msgSegs m.head (.slice none 0 0) (.slice aq10 m.one.length cq10) (.slice aq13 m.two.length cq13) (.slice aq16 m.three.length cq16)) zr34 ly34 rfl (by simp [fitAll, zs34, Value.cells, msgSegs]) rfl) hS20 ?_
          refine hlK rfl (xallS (lens := [1, 1, 1, 1, 1, 1, 1, 1, 1, 1, 1, 1, 1, 1]) in34 rfl) ?_
          rintro _ w22 ⟨b3, rfl, m23, h3, e21, s21⟩
          have ha := ha.keep ask_st (fun k hk => by have hk := hU k hk; omega) m23 (fun _ _ h => h)
          have y1 := y1.keep rec_st (fun k hk => by have hk := hU k hk; omega) m23 (fun _ _ h => h)
          have y2 := y2.keep rec_st (fun k hk => by have hk := hU k hk; omega) m23 (fun _ _ h => h)
          have y3 := y3.keep rec_st (fun k hk => by have hk := hU k hk; omega) m23 (fun _ _ h => h)
          have hf := hf.step0 m23
          have h1 := h1.keep m23 (fun h => h)
          have h2 := h2.keep m23 (fun h => h)
          have hC := hC.step0 m23
          have L10 := L10.keep rec_st (fun k hk => by have hk := Ub.num hU hk; omega) m23 (fun _ _ h => h)
          have L13 := L13.keep rec_st (fun k hk => by have hk := Ub.num hU hk; omega) m23 (fun _ _ h => h)
          have L16 := L16.keep rec_st (fun k hk => by have hk := Ub.num hU hk; omega) m23 (fun _ _ h => h)
          have hS24 := hS20.step0 m23
          refine ⟨hS24, ?_⟩
          refine bluK rfl (xstW h3 (lens' := [1, 1, 1, 1, 1, 1, 1, 1, 1, 1, 1, 1, 1, 1]) sz34 rfl rfl rfl rfl rfl) ?_
          rintro w26 ⟨m27, h3, s25⟩
          have ha := ha.keep ask_st (fun k hk => by have hk := hU k hk; omega) m27 (fun k hk hS => by have hk := hU k hk; have hS : k = b3 := hS; omega)
          have y1 := y1.keep rec_st (fun k hk => by have hk := hU k hk; omega) m27 (fun k hk hS => by have hk := hU k hk; have hS : k = b3 := hS; omega)
          have y2 := y2.keep rec_st (fun k hk => by have hk := hU k hk; omega) m27 (fun k hk hS => by have hk := hU k hk; have hS : k = b3 := hS; omega)
          have y3 := y3.keep rec_st (fun k hk => by have hk := hU k hk; omega) m27 (fun k hk hS => by have hk := hU k hk; have hS : k = b3 := hS; omega)
          have hf := hf.step m27 (fun k hk hS => by have hS : k = b3 := hS; show False; omega)
          have h1 := h1.keep m27 (by show ¬ (b1 = b3); omega)
          have h2 := h2.keep m27 (by show ¬ (b2 = b3); omega)
          have hC := hC.step m27 (fun k hk hS => by have hS : k = b3 := hS; show False; omega)
          have L10 := L10.keep rec_st (fun k hk => by have hk := Ub.num hU hk; omega) m27 (fun k hk hS => by have hk := Ub.num hU hk; have hS : k = b3 := hS; omega)
          have L13 := L13.keep rec_st (fun k hk => by have hk := Ub.num hU hk; omega) m27 (fun k hk hS => by have hk := Ub.num hU hk; have hS : k = b3 := hS; omega)
          have L16 := L16.keep rec_st (fun k hk => by have hk := Ub.num hU hk; omega) m27 (fun k hk hS => by have hk := Ub.num hU hk; have hS : k = b3 := hS; omega)
          exact ⟨rfl, (_, _, _, b3), _, env_okl ⟨rfl, rfl, rfl, trivial⟩, ⟨hC, (h3), (L10.mono rec_gr (fun k hk => ⟨hk.elim .inl (fun h => .inr ⟨by omega, by omega⟩), by have hk := Ub.num hU hk; omega⟩)), (L13.mono rec_gr (fun k hk => ⟨hk.elim .inl (fun h => .inr ⟨by omega, by omega⟩), by have hk := Ub.num hU hk; omega⟩)), (L16.mono rec_gr (fun k hk => ⟨hk.elim .inl (fun h => .inr ⟨by omega, by omega⟩), by have hk := Ub.num hU hk; omega⟩)), (by omega), (by omega)⟩⟩
        · skip
          refine hlKT rfl (xallS (lens := [1, 1, 1, 1, 1, 1, 1, 1, 1, 1, 1, 1, 1, 1]) in34 rfl) ?_
          rintro _ w29 ⟨b3, rfl, m30, h3, e28, s28⟩
          have ha := ha.keep ask_st (fun k hk => by have hk := hU k hk; omega) m30 (fun _ _ h => h)
          have y1 := y1.keep rec_st (fun k hk => by have hk := hU k hk; omega) m30 (fun _ _ h => h)
          have y2 := y2.keep rec_st (fun k hk => by have hk := hU k hk; omega) m30 (fun _ _ h => h)
          have y3 := y3.keep rec_st (fun k hk => by have hk := hU k hk; omega) m30 (fun _ _ h => h)
          have hf := hf.step0 m30
          have h1 := h1.keep m30 (fun h => h)
          have h2 := h2.keep m30 (fun h => h)
          have hC := hC.step0 m30
          have L10 := L10.keep rec_st (fun k hk => by have hk := Ub.num hU hk; omega) m30 (fun _ _ h => h)
          have L13 := L13.keep rec_st (fun k hk => by have hk := Ub.num hU hk; omega) m30 (fun _ _ h => h)
          have hS31 := hS16.step0 m30
          refine ⟨hS31, ?_⟩
          refine lstT ?_
          refine hc rfl (xcall ca29 rfl) (c29 (U := U) (fun k hk => by have hk := hU k hk; omega) y3 (hll _ (by simp)) (hfr _ (by simp))) ?_
          rintro v16 w32 ⟨L16, m33⟩
          have z34 := m33.size
          have ha := ha.keep ask_st (fun k hk => by have hk := hU k hk; omega) m33 (fun _ _ h => h)
          have y1 := y1.keep rec_st (fun k hk => by have hk := hU k hk; omega) m33 (fun _ _ h => h)
          have y2 := y2.keep rec_st (fun k hk => by have hk := hU k hk; omega) m33 (fun _ _ h => h)
          have y3 := y3.keep rec_st (fun k hk => by have hk := hU k hk; omega) m33 (fun _ _ h => h)
          have hf := hf.step0 m33
          have h1 := h1.keep m33 (fun h => h)
          have h2 := h2.keep m33 (fun h => h)
          have hC := hC.step0 m33
          have L10 := L10.keep rec_st (fun k hk => by have hk := Ub.num hU hk; omega) m33 (fun _ _ h => h)
          have L13 := L13.keep rec_st (fun k hk => by have hk := Ub.num hU hk; omega) m33 (fun _ _ h => h)
          have h3 := h3.keep m33 (fun h => h)
          have hS35 := hS31.step0 m33
          obtain ⟨aq16, cq16, rfl⟩ := L16.form
          refine ⟨hS35, ?_⟩
          refine hv rfl (fun _ _ => xbuildS (msgSegs m.head (.slice none 0 0) (.slice aq10 m.one.length cq10) (.slice aq13 m.two.length cq13) (.slice aq16 m.three.length cq16)) zr34 ly34 rfl (by simp [fitAll, zs34, Value.cells, msgSegs]) rfl) hS35 ?_
          refine bluK rfl (xstW h3 (lens' := [1, 1, 1, 1, 1, 1, 1, 1, 1, 1, 1, 1, 1, 1]) sz34 rfl rfl rfl rfl rfl) ?_
          rintro w37 ⟨m38, h3, s36⟩
          have ha := ha.keep ask_st (fun k hk => by have hk := hU k hk; omega) m38 (fun k hk hS => by have hk := hU k hk; have hS : k = b3 := hS; omega)
          have y1 := y1.keep rec_st (fun k hk => by have hk := hU k hk; omega) m38 (fun k hk hS => by have hk := hU k hk; have hS : k = b3 := hS; omega)
          have y2 := y2.keep rec_st (fun k hk => by have hk := hU k hk; omega) m38 (fun k hk hS => by have hk := hU k hk; have hS : k = b3 := hS; omega)
          have y3 := y3.keep rec_st (fun k hk => by have hk := hU k hk; omega) m38 (fun k hk hS => by have hk := hU k hk; have hS : k = b3 := hS; omega)
          have hf := hf.step m38 (fun k hk hS => by have hS : k = b3 := hS; show False; omega)
          have h1 := h1.keep m38 (by show ¬ (b1 = b3); omega)
          have h2 := h2.keep m38 (by show ¬ (b2 = b3); omega)
          have hC := hC.step m38 (fun k hk hS => by have hS : k = b3 := hS; show False; omega)
          have L10 := L10.keep rec_st (fun k hk => by have hk := Ub.num hU hk; omega) m38 (fun k hk hS => by have hk := Ub.num hU hk; have hS : k = b3 := hS; omega)
          have L13 := L13.keep rec_st (fun k hk => by have hk := Ub.num hU hk; omega) m38 (fun k hk hS => by have hk := Ub.num hU hk; have hS : k = b3 := hS; omega)
          have L16 := L16.keep rec_st (fun k hk => by have hk := Ub.num hU hk; omega) m38 (fun k hk hS => by have hk := Ub.num hU hk; have hS : k = b3 := hS; omega)
          exact ⟨rfl, (_, _, _, b3), _, env_okl ⟨rfl, rfl, rfl, trivial⟩, ⟨hC, (h3), (L10.mono rec_gr (fun k hk => ⟨hk.elim .inl (fun h => .inr ⟨by omega, by omega⟩), by have hk := Ub.num hU hk; omega⟩)), (L13.mono rec_gr (fun k hk => ⟨hk.elim .inl (fun h => .inr ⟨by omega, by omega⟩), by have hk := Ub.num hU hk; omega⟩)), (L16.mono rec_gr (fun k hk => ⟨hk.elim .inl (fun h => .inr ⟨by omega, by omega⟩), by have hk := Ub.num hU hk; omega⟩)), (by omega), (by omega)⟩⟩
      · skip
        refine hlKT rfl (xallS (lens := [1, 1, 1, 1, 1, 1, 1, 1, 1, 1, 1, 1, 1, 1]) in34 rfl) ?_
        rintro _ w40 ⟨b3, rfl, m41, h3, e39, s39⟩
        have ha := ha.keep ask_st (fun k hk => by have hk := hU k hk; omega) m41 (fun _ _ h => h)
        have y1 := y1.keep rec_st (fun k hk => by have hk := hU k hk; omega) m41 (fun _ _ h => h)
        have y2 := y2.keep rec_st (fun k hk => by have hk := hU k hk; omega) m41 (fun _ _ h => h)
        have y3 := y3.keep rec_st (fun k hk => by have hk := hU k hk; omega) m41 (fun _ _ h => h)
        have hf := hf.step0 m41
        have h1 := h1.keep m41 (fun h => h)
        have h2 := h2.keep m41 (fun h => h)
        have hC := hC.step0 m41
        have L10 := L10.keep rec_st (fun k hk => by have hk := Ub.num hU hk; omega) m41 (fun _ _ h => h)
        have hS42 := hS12.step0 m41
        refine ⟨hS42, ?_⟩
        refine lstT ?_
        refine hc rfl (xcall ca29 rfl) (c29 (U := U) (fun k hk => by have hk := hU k hk; omega) y2 (hll _ (by simp)) (hfr _ (by simp))) ?_
        rintro v13 w43 ⟨L13, m44⟩
        have z45 := m44.size
        have ha := ha.keep ask_st (fun k hk => by have hk := hU k hk; omega) m44 (fun _ _ h => h)
        have y1 := y1.keep rec_st (fun k hk => by have hk := hU k hk; omega) m44 (fun _ _ h => h)
        have y2 := y2.keep rec_st (fun k hk => by have hk := hU k hk; omega) m44 (fun _ _ h => h)
        have y3 := y3.keep rec_st (fun k hk => by have hk := hU k hk; omega) m44 (fun _ _ h => h)
        have hf := hf.step0 m44
        have h1 := h1.keep m44 (fun h => h)
        have h2 := h2.keep m44 (fun h => h)
        have hC := hC.step0 m44
        have L10 := L10.keep rec_st (fun k hk => by have hk := Ub.num hU hk; omega) m44 (fun _ _ h => h)
        have h3 := h3.keep m44 (fun h => h)
        have hS46 := hS42.step0 m44
        obtain ⟨aq13, cq13, rfl⟩ := L13.form
        refine ⟨hS46, ?_⟩
        refine hc rfl (xcall ca29 rfl) (c29 (U := U) (fun k hk => by have hk := hU k hk; omega) y3 (hll _ (by simp)) (hfr _ (by simp))) ?_
        rintro v16 w47 ⟨L16, m48⟩
        have z49 := m48.size
        have ha := ha.keep ask_st (fun k hk => by have hk := hU k hk; omega) m48 (fun _ _ h => h)
        have y1 := y1.keep rec_st (fun k hk => by have hk := hU k hk; omega) m48 (fun _ _ h => h)
        have y2 := y2.keep rec_st (fun k hk => by have hk := hU k hk; omega) m48 (fun _ _ h => h)
        have y3 := y3.keep rec_st (fun k hk => by have hk := hU k hk; omega) m48 (fun _ _ h => h)
        have hf := hf.step0 m48
        have h1 := h1.keep m48 (fun h => h)
        have h2 := h2.keep m48 (fun h => h)
        have hC := hC.step0 m48
        have L10 := L10.keep rec_st (fun k hk => by have hk := Ub.num hU hk; omega) m48 (fun _ _ h => h)
        have h3 := h3.keep m48 (fun h => h)
        have L13 := L13.keep rec_st (fun k hk => by have hk := Ub.num hU hk; omega) m48 (fun _ _ h => h)
        have hS50 := hS46.step0 m48
        obtain ⟨aq16, cq16, rfl⟩ := L16.form
        refine ⟨hS50, ?_⟩
        refine hv rfl (fun _ _ => xbuildS (msgSegs m.head (.slice none 0 0) (.slice aq10 m.one.length cq10) (.slice aq13 m.two.length cq13) (.slice aq16 m.three.length cq16)) zr34 ly34 rfl (by simp [fitAll, zs34, Value.cells, msgSegs]) rfl) hS50 ?_
        refine bluK rfl (xstW h3 (lens' := [1, 1, 1, 1, 1, 1, 1, 1, 1, 1, 1, 1, 1, 1]) sz34 rfl rfl rfl rfl rfl) ?_
        rintro w52 ⟨m53, h3, s51⟩
        have ha := ha.keep ask_st (fun k hk => by have hk := hU k hk; omega) m53 (fun k hk hS => by have hk := hU k hk; have hS : k = b3 := hS; omega)
        have y1 := y1.keep rec_st (fun k hk => by have hk := hU k hk; omega) m53 (fun k hk hS => by have hk := hU k hk; have hS : k = b3 := hS; omega)
        have y2 := y2.keep rec_st (fun k hk => by have hk := hU k hk; omega) m53 (fun k hk hS => by have hk := hU k hk; have hS : k = b3 := hS; omega)
        have y3 := y3.keep rec_st (fun k hk => by have hk := hU k hk; omega) m53 (fun k hk hS => by have hk := hU k hk; have hS : k = b3 := hS; omega)
        have hf := hf.step m53 (fun k hk hS => by have hS : k = b3 := hS; show False; omega)
        have h1 := h1.keep m53 (by show ¬ (b1 = b3); omega)
        have h2 := h2.keep m53 (by show ¬ (b2 = b3); omega)
        have hC := hC.step m53 (fun k hk hS => by have hS : k = b3 := hS; show False; omega)
        have L10 := L10.keep rec_st (fun k hk => by have hk := Ub.num hU hk; omega) m53 (fun k hk hS => by have hk := Ub.num hU hk; have hS : k = b3 := hS; omega)
        have L13 := L13.keep rec_st (fun k hk => by have hk := Ub.num hU hk; omega) m53 (fun k hk hS => by have hk := Ub.num hU hk; have hS : k = b3 := hS; omega)
        have L16 := L16.keep rec_st (fun k hk => by have hk := Ub.num hU hk; omega) m53 (fun k hk hS => by have hk := Ub.num hU hk; have hS : k = b3 := hS; omega)
        exact ⟨rfl, (_, _, _, b3), _, env_okl ⟨rfl, rfl, rfl, trivial⟩, ⟨hC, (h3), (L10.mono rec_gr (fun k hk => ⟨hk.elim .inl (fun h => .inr ⟨by omega, by omega⟩), by have hk := Ub.num hU hk; omega⟩)), (L13.mono rec_gr (fun k hk => ⟨hk.elim .inl (fun h => .inr ⟨by omega, by omega⟩), by have hk := Ub.num hU hk; omega⟩)), (L16.mono rec_gr (fun k hk => ⟨hk.elim .inl (fun h => .inr ⟨by omega, by omega⟩), by have hk := Ub.num hU hk; omega⟩)), (by omega), (by omega)⟩⟩
    · skip
      refine hlKT rfl (xallS (lens := [1, 1, 1, 1, 1, 1, 1, 1, 1, 1, 1, 1, 1, 1]) in34 rfl) ?_
      rintro _ w55 ⟨b3, rfl, m56, h3, e54, s54⟩
      have ha := ha.keep ask_st (fun k hk => by have hk := hU k hk; omega) m56 (fun _ _ h => h)
      have y1 := y1.keep rec_st (fun k hk => by have hk := hU k hk; omega) m56 (fun _ _ h => h)
      have y2 := y2.keep rec_st (fun k hk => by have hk := hU k hk; omega) m56 (fun _ _ h => h)
      have y3 := y3.keep rec_st (fun k hk => by have hk := hU k hk; omega) m56 (fun _ _ h => h)
      have hf := hf.step0 m56
      have h1 := h1.keep m56 (fun h => h)
      have h2 := h2.keep m56 (fun h => h)
      have hC := hC.step0 m56
      have hS57 := hS8.step0 m56
      refine ⟨hS57, ?_⟩
      refine lstT ?_
      refine hc rfl (xcall ca29 rfl) (c29 (U := U) (fun k hk => by have hk := hU k hk; omega) y1 (hll _ (by simp)) (hfr _ (by simp))) ?_
      rintro v10 w58 ⟨L10, m59⟩
      have z60 := m59.size
      have ha := ha.keep ask_st (fun k hk => by have hk := hU k hk; omega) m59 (fun _ _ h => h)
      have y1 := y1.keep rec_st (fun k hk => by have hk := hU k hk; omega) m59 (fun _ _ h => h)
      have y2 := y2.keep rec_st (fun k hk => by have hk := hU k hk; omega) m59 (fun _ _ h => h)
      have y3 := y3.keep rec_st (fun k hk => by have hk := hU k hk; omega) m59 (fun _ _ h => h)
      have hf := hf.step0 m59
      have h1 := h1.keep m59 (fun h => h)
      have h2 := h2.keep m59 (fun h => h)
      have hC := hC.step0 m59
      have h3 := h3.keep m59 (fun h => h)
      have hS61 := hS57.step0 m59
      obtain ⟨aq10, cq10, rfl⟩ := L10.form
      refine ⟨hS61, ?_⟩
      refine hc rfl (xcall ca29 rfl) (c29 (U := U) (fun k hk => by have hk := hU k hk; omega) y2 (hll _ (by simp)) (hfr _ (by simp))) ?_
      rintro v13 w62 ⟨L13, m63⟩
      have z64 := m63.size
      have ha := ha.keep ask_st (fun k hk => by have hk := hU k hk; omega) m63 (fun _ _ h => h)
      have y1 := y1.keep rec_st (fun k hk => by have hk := hU k hk; omega) m63 (fun _ _ h => h)
      have y2 := y2.keep rec_st (fun k hk => by have hk := hU k hk; omega) m63 (fun _ _ h => h)
      have y3 := y3.keep rec_st (fun k hk => by have hk := hU k hk; omega) m63 (fun _ _ h => h)
      have hf := hf.step0 m63
      have h1 := h1.keep m63 (fun h => h)
      have h2 := h2.keep m63 (fun h => h)
      have hC := hC.step0 m63
      have h3 := h3.keep m63 (fun h => h)
      have L10 := L10.keep rec_st (fun k hk => by have hk := Ub.num hU hk; omega) m63 (fun _ _ h => h)
      have hS65 := hS61.step0 m63
      obtain ⟨aq13, cq13, rfl⟩ := L13.form
      refine ⟨hS65, ?_⟩
      refine hc rfl (xcall ca29 rfl) (c29 (U := U) (fun k hk => by have hk := hU k hk; omega) y3 (hll _ (by simp)) (hfr _ (by simp))) ?_
      rintro v16 w66 ⟨L16, m67⟩
      have z68 := m67.size
      have ha := ha.keep ask_st (fun k hk => by have hk := hU k hk; omega) m67 (fun _ _ h => h)
      have y1 := y1.keep rec_st (fun k hk => by have hk := hU k hk; omega) m67 (fun _ _ h => h)
      have y2 := y2.keep rec_st (fun k hk => by have hk := hU k hk; omega) m67 (fun _ _ h => h)
      have y3 := y3.keep rec_st (fun k hk => by have hk := hU k hk; omega) m67 (fun _ _ h => h)
      have hf := hf.step0 m67
      have h1 := h1.keep m67 (fun h => h)
      have h2 := h2.keep m67 (fun h => h)
      have hC := hC.step0 m67
      have h3 := h3.keep m67 (fun h => h)
      have L10 := L10.keep rec_st (fun k hk => by have hk := Ub.num hU hk; omega) m67 (fun _ _ h => h)
      have L13 := L13.keep rec_st (fun k hk => by have hk := Ub.num hU hk; omega) m67 (fun _ _ h => h)
      have hS69 := hS65.step0 m67
      obtain ⟨aq16, cq16, rfl⟩ := L16.form
      refine ⟨hS69, ?_⟩
      refine hv rfl (fun _ _ => xbuildS (msgSegs m.head (.slice none 0 0) (.slice aq10 m.one.length cq10) (.slice aq13 m.two.length cq13) (.slice aq16 m.three.length cq16)) zr34 ly34 rfl (by simp [fitAll, zs34, Value.cells, msgSegs]) rfl) hS69 ?_
      refine bluK rfl (xstW h3 (lens' := [1, 1, 1, 1, 1, 1, 1, 1, 1, 1, 1, 1, 1, 1]) sz34 rfl rfl rfl rfl rfl) ?_
      rintro w71 ⟨m72, h3, s70⟩
      have ha := ha.keep ask_st (fun k hk => by have hk := hU k hk; omega) m72 (fun k hk hS => by have hk := hU k hk; have hS : k = b3 := hS; omega)
      have y1 := y1.keep rec_st (fun k hk => by have hk := hU k hk; omega) m72 (fun k hk hS => by have hk := hU k hk; have hS : k = b3 := hS; omega)
      have y2 := y2.keep rec_st (fun k hk => by have hk := hU k hk; omega) m72 (fun k hk hS => by have hk := hU k hk; have hS : k = b3 := hS; omega)
      have y3 := y3.keep rec_st (fun k hk => by have hk := hU k hk; omega) m72 (fun k hk hS => by have hk := hU k hk; have hS : k = b3 := hS; omega)
      have hf := hf.step m72 (fun k hk hS => by have hS : k = b3 := hS; show False; omega)
      have h1 := h1.keep m72 (by show ¬ (b1 = b3); omega)
      have h2 := h2.keep m72 (by show ¬ (b2 = b3); omega)
      have hC := hC.step m72 (fun k hk hS => by have hS : k = b3 := hS; show False; omega)
      have L10 := L10.keep rec_st (fun k hk => by have hk := Ub.num hU hk; omega) m72 (fun k hk hS => by have hk := Ub.num hU hk; have hS : k = b3 := hS; omega)
      have L13 := L13.keep rec_st (fun k hk => by have hk := Ub.num hU hk; omega) m72 (fun k hk hS => by have hk := Ub.num hU hk; have hS : k = b3 := hS; omega)
      have L16 := L16.keep rec_st (fun k hk => by have hk := Ub.num hU hk; omega) m72 (fun k hk hS => by have hk := Ub.num hU hk; have hS : k = b3 := hS; omega)
      exact ⟨rfl, (_, _, _, b3), _, env_okl ⟨rfl, rfl, rfl, trivial⟩, ⟨hC, (h3), (L10.mono rec_gr (fun k hk => ⟨hk.elim .inl (fun h => .inr ⟨by omega, by omega⟩), by have hk := Ub.num hU hk; omega⟩)), (L13.mono rec_gr (fun k hk => ⟨hk.elim .inl (fun h => .inr ⟨by omega, by omega⟩), by have hk := Ub.num hU hk; omega⟩)), (L16.mono rec_gr (fun k hk => ⟨hk.elim .inl (fun h => .inr ⟨by omega, by omega⟩), by have hk := Ub.num hU hk; omega⟩)), (by omega), (by omega)⟩⟩
  · skip
    rintro ⟨v1, v2, v3, b3⟩ _ w73 ⟨hC, h3, L10, L13, L16, hb3, hb4⟩
    have z74 := hC.size
    have ha := ha.keep ask_st (fun k hk => by have hk := hU k hk; omega) hC (fun _ _ h => h)
    have y1 := y1.keep rec_st (fun k hk => by have hk := hU k hk; omega) hC (fun _ _ h => h)
    have y2 := y2.keep rec_st (fun k hk => by have hk := hU k hk; omega) hC (fun _ _ h => h)
    have y3 := y3.keep rec_st (fun k hk => by have hk := hU k hk; omega) hC (fun _ _ h => h)
    have hf := hf.step0 hC
    have h1 := h1.keep hC (fun h => h)
    have h2 := h2.keep hC (fun h => h)
    obtain ⟨aq10, cq10, rfl⟩ := L10.form
    obtain ⟨aq13, cq13, rfl⟩ := L13.form
    obtain ⟨aq16, cq16, rfl⟩ := L16.form
    refine forget_wp [(1, _), (2, _), (3, _)] ⟨rfl, rfl, rfl, trivial⟩ fun _ => ?_
    refine wp_seq ?_
    refine sreg ?_
    refine sv (xfld fl28_1 rfl) ?_
    refine sv (xld on25 rfl (h1.r.c 10 rfl rfl)) ?_
    refine sv (xlen sl25 rfl) ?_
    refine sv (xmove rfl) ?_
    refine send ?_
    refine forget_wp [(2, _), (3, _), (19, _), (20, _), (21, _)] ⟨rfl, rfl, rfl, rfl, rfl, trivial⟩ fun _ => ?_
    refine wp_block ?_
    refine lp [(2, _), (3, _), (19, _), (20, _)] (fun (x : Nat × Value × Nat) => match x with | (k, v, g) => [(21, .int .i64 (k : Int))]) (fun (x : Nat × Value × Nat) wx => match x with | (k, v, g) => Fr (fun k => k = b3 ∨ k = b1) w73 wx ∧ (k ≤ m.asks.length) ∧ (SB wx b3 lMsg (msgSegs m.head v (.slice aq10 m.one.length cq10) (.slice aq13 m.two.length cq13) (.slice aq16 m.three.length cq16))) ∧ (RA AskEl lAsk (fun _ => False) wx v g 59 k (m.asks.take k)) ∧ (g = b1 ∨ w73.heap.size ≤ g) ∧ (g < wx.heap.size)) (fun (x : Nat × Value × Nat) => match x with | (k, v, g) => m.asks.length - k) (0, .slice none 0 0, b1) ⟨rfl, rfl, rfl, rfl, rfl, trivial⟩ ⟨Fr.refl _ _, Nat.zero_le _, h3, RA.nil _ _ _ _, .inl rfl, by omega⟩ ?_
    rintro ⟨k, v, g⟩ _ w76 ⟨hL75, hk, h3, hq, hgq, hgk⟩
    refine forget_wp [(2, _), (3, _), (19, _), (20, _), (21, _)] ⟨rfl, rfl, rfl, rfl, rfl, trivial⟩ fun _ => ?_
    have z77 := hL75.size
    have ha := ha.keep ask_st (fun k hk => by have hk := hU k hk; omega) hL75 (fun k hk hS => by have hk := hU k hk; have hS : k = b3 ∨ k = b1 := hS; omega)
    have y1 := y1.keep rec_st (fun k hk => by have hk := hU k hk; omega) hL75 (fun k hk hS => by have hk := hU k hk; have hS : k = b3 ∨ k = b1 := hS; omega)
    have y2 := y2.keep rec_st (fun k hk => by have hk := hU k hk; omega) hL75 (fun k hk hS => by have hk := hU k hk; have hS : k = b3 ∨ k = b1 := hS; omega)
    have y3 := y3.keep rec_st (fun k hk => by have hk := hU k hk; omega) hL75 (fun k hk hS => by have hk := hU k hk; have hS : k = b3 ∨ k = b1 := hS; omega)
    have hf := hf.step hL75 (fun k hk hS => by have hS : k = b3 ∨ k = b1 := hS; show False; omega)
    have h2 := h2.keep hL75 (by show ¬ (b2 = b3 ∨ b2 = b1); omega)
    have L10 := L10.keep rec_st (fun k hk => by have hk := Uw.num hU hk; omega) hL75 (fun k hk hS => by have hk := Uw.num hU hk; have hS : k = b3 ∨ k = b1 := hS; omega)
    have L13 := L13.keep rec_st (fun k hk => by have hk := Uw.num hU hk; omega) hL75 (fun k hk hS => by have hk := Uw.num hU hk; have hS : k = b3 ∨ k = b1 := hS; omega)
    have L16 := L16.keep rec_st (fun k hk => by have hk := Uw.num hU hk; omega) hL75 (fun k hk hS => by have hk := Uw.num hU hk; have hS : k = b3 ∨ k = b1 := hS; omega)
    refine sreg ?_
    refine svP (xlss rfl rfl) (fun hc22 => ?_) (fun hc22 => ?_)
    · skip
      refine send ?_
      refine forget_wp [(2, _), (3, _), (19, _), (20, _), (21, _), (22, _)] ⟨rfl, rfl, rfl, rfl, rfl, rfl, trivial⟩ fun _ => ?_
      refine wp_seq ?_
      refine cyes rfl ?_
      refine wp_skip ?_
      refine nThen ?_
      refine forget_wp [(2, _), (3, _), (19, _), (20, _), (21, _)] ⟨rfl, rfl, rfl, rfl, rfl, trivial⟩ fun _ => ?_
      refine wp_seq ?_
      refine wp_block ?_
      obtain ⟨a, hak⟩ := some_of_lt (by omega : k < m.asks.length)
      refine sreg ?_
      obtain ⟨bE23, oE23, sgE23, rfl, uE23, hsE23, heE23⟩ := LA.get ha hak
      obtain rfl := heE23
      have zE23 := hU _ uE23
      refine sv (xidx sl25 sz58 rfl rfl rfl (by omega)) ?_
      refine sv (xldS (lens := [1, 1, 1]) ro58 rfl hsE23) ?_
      refine svK (xallS (lens := [1, 1, 1]) in58 rfl) ?_
      rintro _ w79 ⟨b5, rfl, m80, h5, e78, s78⟩
      have ha := ha.keep ask_st (fun k hk => by have hk := hU k hk; omega) m80 (fun _ _ h => h)
      have y1 := y1.keep rec_st (fun k hk => by have hk := hU k hk; omega) m80 (fun _ _ h => h)
      have y2 := y2.keep rec_st (fun k hk => by have hk := hU k hk; omega) m80 (fun _ _ h => h)
      have y3 := y3.keep rec_st (fun k hk => by have hk := hU k hk; omega) m80 (fun _ _ h => h)
      have hf := hf.step0 m80
      have h2 := h2.keep m80 (fun h => h)
      have h3 := h3.keep m80 (fun h => h)
      have L10 := L10.keep rec_st (fun k hk => by have hk := Uw.num hU hk; omega) m80 (fun _ _ h => h)
      have L13 := L13.keep rec_st (fun k hk => by have hk := Uw.num hU hk; omega) m80 (fun _ _ h => h)
      have L16 := L16.keep rec_st (fun k hk => by have hk := Uw.num hU hk; omega) m80 (fun _ _ h => h)
      have hq := hq.keep ask_st (fun k hk => by have hk := (show k + 1 ≤ 0 from (show False from hk).elim); omega) m80 (fun _ _ h => h) (fun h => h)
      have hL75 := hL75.step0 m80
      have hsE23 := hsE23.keep m80 (by omega) (fun h => h)
      refine suK (xstW h5 (lens' := [1, 1, 1]) sz58 rfl rfl rfl rfl rfl) ?_
      rintro w82 ⟨m83, h5, s81⟩
      have ha := ha.keep ask_st (fun k hk => by have hk := hU k hk; omega) m83 (fun k hk hS => by have hk := hU k hk; have hS : k = b5 := hS; omega)
      have y1 := y1.keep rec_st (fun k hk => by have hk := hU k hk; omega) m83 (fun k hk hS => by have hk := hU k hk; have hS : k = b5 := hS; omega)
      have y2 := y2.keep rec_st (fun k hk => by have hk := hU k hk; omega) m83 (fun k hk hS => by have hk := hU k hk; have hS : k = b5 := hS; omega)
      have y3 := y3.keep rec_st (fun k hk => by have hk := hU k hk; omega) m83 (fun k hk hS => by have hk := hU k hk; have hS : k = b5 := hS; omega)
      have hf := hf.step m83 (fun k hk hS => by have hS : k = b5 := hS; show False; omega)
      have h2 := h2.keep m83 (by show ¬ (b2 = b5); omega)
      have h3 := h3.keep m83 (by show ¬ (b3 = b5); omega)
      have L10 := L10.keep rec_st (fun k hk => by have hk := Uw.num hU hk; omega) m83 (fun k hk hS => by have hk := Uw.num hU hk; have hS : k = b5 := hS; omega)
      have L13 := L13.keep rec_st (fun k hk => by have hk := Uw.num hU hk; omega) m83 (fun k hk hS => by have hk := Uw.num hU hk; have hS : k = b5 := hS; omega)
      have L16 := L16.keep rec_st (fun k hk => by have hk := Uw.num hU hk; omega) m83 (fun k hk hS => by have hk := Uw.num hU hk; have hS : k = b5 := hS; omega)
      have hq := hq.keep ask_st (fun k hk => by have hk := (show k + 1 ≤ 0 from (show False from hk).elim); omega) m83 (fun k hk hS => by have hk := (show k + 1 ≤ 0 from (show False from hk).elim); have hS : k = b5 := hS; omega) (by show ¬ (g = b5); omega)
      have hL75 := hL75.step m83 (fun k hk hS => by have hS : k = b5 := hS; show k = b3 ∨ k = b1; omega)
      have hsE23 := hsE23.keep m83 (by omega) (by show ¬ (bE23 = b5); omega)
      refine send ?_
      refine forget_wp [(2, _), (3, _), (5, _), (19, _), (20, _), (21, _)] ⟨rfl, rfl, rfl, rfl, rfl, rfl, trivial⟩ fun _ => ?_
      refine lreg ?_
      refine sv (xfld fl34_1 rfl) ?_
      refine sv (xld on31 rfl (h3.r.c 10 rfl rfl)) ?_
      refine sv (xldS (lens := [1, 1, 1]) ro58 rfl h5.r) ?_
      refine svK (xslit ((askSegs a).flatten) sl31 in59 rfl (by decide) rfl rfl rfl rfl (by decide) rfl rfl) ?_
      rintro _ w85 ⟨b28, rfl, m86, h28, e28, s28, r28⟩
      have ha := ha.keep ask_st (fun k hk => by have hk := hU k hk; omega) m86 (fun _ _ h => h)
      have y1 := y1.keep rec_st (fun k hk => by have hk := hU k hk; omega) m86 (fun _ _ h => h)
      have y2 := y2.keep rec_st (fun k hk => by have hk := hU k hk; omega) m86 (fun _ _ h => h)
      have y3 := y3.keep rec_st (fun k hk => by have hk := hU k hk; omega) m86 (fun _ _ h => h)
      have hf := hf.step0 m86
      have h2 := h2.keep m86 (fun h => h)
      have h3 := h3.keep m86 (fun h => h)
      have L10 := L10.keep rec_st (fun k hk => by have hk := Uw.num hU hk; omega) m86 (fun _ _ h => h)
      have L13 := L13.keep rec_st (fun k hk => by have hk := Uw.num hU hk; omega) m86 (fun _ _ h => h)
      have L16 := L16.keep rec_st (fun k hk => by have hk := Uw.num hU hk; omega) m86 (fun _ _ h => h)
      have hq := hq.keep ask_st (fun k hk => by have hk := (show k + 1 ≤ 0 from (show False from hk).elim); omega) m86 (fun _ _ h => h) (fun h => h)
      have hL75 := hL75.step0 m86
      have hsE23 := hsE23.keep m86 (by omega) (fun h => h)
      have h5 := h5.keep m86 (fun h => h)
      obtain ⟨ss29, hR29, hA29⟩ := hq
      refine svK (xapp sl31 in59 rfl (by decide) rfl rfl hR29 (r28.src sl31) (by simp only [maxLen]; omega) (by omega)) ?_
      rintro v29 w87 ⟨g29, r29, m88, a29, l29⟩
      have z89 := m88.size
      have ha := ha.keep ask_st (fun k hk => by have hk := hU k hk; omega) m88 (fun k hk hS => by have hk := hU k hk; have hS : k = g := hS; omega)
      have y1 := y1.keep rec_st (fun k hk => by have hk := hU k hk; omega) m88 (fun k hk hS => by have hk := hU k hk; have hS : k = g := hS; omega)
      have y2 := y2.keep rec_st (fun k hk => by have hk := hU k hk; omega) m88 (fun k hk hS => by have hk := hU k hk; have hS : k = g := hS; omega)
      have y3 := y3.keep rec_st (fun k hk => by have hk := hU k hk; omega) m88 (fun k hk hS => by have hk := hU k hk; have hS : k = g := hS; omega)
      have hf := hf.step m88 (fun k hk hS => by have hS : k = g := hS; show False; omega)
      have h2 := h2.keep m88 (by show ¬ (b2 = g); omega)
      have h3 := h3.keep m88 (by show ¬ (b3 = g); omega)
      have L10 := L10.keep rec_st (fun k hk => by have hk := Uw.num hU hk; omega) m88 (fun k hk hS => by have hk := Uw.num hU hk; have hS : k = g := hS; omega)
      have L13 := L13.keep rec_st (fun k hk => by have hk := Uw.num hU hk; omega) m88 (fun k hk hS => by have hk := Uw.num hU hk; have hS : k = g := hS; omega)
      have L16 := L16.keep rec_st (fun k hk => by have hk := Uw.num hU hk; omega) m88 (fun k hk hS => by have hk := Uw.num hU hk; have hS : k = g := hS; omega)
      have hL75 := hL75.step m88 (fun k hk hS => by have hS : k = g := hS; show k = b3 ∨ k = b1; omega)
      have hsE23 := hsE23.keep m88 (by omega) (by show ¬ (bE23 = g); omega)
      have h5 := h5.keep m88 (by show ¬ (b5 = g); omega)
      have hq := RA.snoc (x := a) hA29 ask_st ask_gr (fun k hk => by have hk := (show k + 1 ≤ 0 from (show False from hk).elim); omega) m88 (fun k hk hS => by have hk := (show k + 1 ≤ 0 from (show False from hk).elim); have hS : k = g := hS; omega) (fun _ h => h) r29 rfl (rfl)
      refine sv (xfld fl34_1 rfl) ?_
      refine suK (xstF 10 sz31 h3 rfl rfl rfl rfl (by obtain ⟨_, _, rfl⟩ := RA.form hq; rfl)) ?_
      rintro w91 ⟨m92, h3, s90⟩
      have ha := ha.keep ask_st (fun k hk => by have hk := hU k hk; omega) m92 (fun k hk hS => by have hk := hU k hk; have hS : k = b3 := hS; omega)
      have y1 := y1.keep rec_st (fun k hk => by have hk := hU k hk; omega) m92 (fun k hk hS => by have hk := hU k hk; have hS : k = b3 := hS; omega)
      have y2 := y2.keep rec_st (fun k hk => by have hk := hU k hk; omega) m92 (fun k hk hS => by have hk := hU k hk; have hS : k = b3 := hS; omega)
      have y3 := y3.keep rec_st (fun k hk => by have hk := hU k hk; omega) m92 (fun k hk hS => by have hk := hU k hk; have hS : k = b3 := hS; omega)
      have hf := hf.step m92 (fun k hk hS => by have hS : k = b3 := hS; show False; omega)
      have h2 := h2.keep m92 (by show ¬ (b2 = b3); omega)
      have L10 := L10.keep rec_st (fun k hk => by have hk := Uw.num hU hk; omega) m92 (fun k hk hS => by have hk := Uw.num hU hk; have hS : k = b3 := hS; omega)
      have L13 := L13.keep rec_st (fun k hk => by have hk := Uw.num hU hk; omega) m92 (fun k hk hS => by have hk := Uw.num hU hk; have hS : k = b3 := hS; omega)
      have L16 := L16.keep rec_st (fun k hk => by have hk := Uw.num hU hk; omega) m92 (fun k hk hS => by have hk := Uw.num hU hk; have hS : k = b3 := hS; omega)
      have hL75 := hL75.step m92 (fun k hk hS => by have hS : k = b3 := hS; show k = b3 ∨ k = b1; omega)
      have hsE23 := hsE23.keep m92 (by omega) (by show ¬ (bE23 = b3); omega)
      have h5 := h5.keep m92 (by show ¬ (b5 = b3); omega)
      have hq := hq.keep ask_st (fun k hk => by have hk := (show k + 1 ≤ 0 from (show False from hk).elim); omega) m92 (fun k hk hS => by have hk := (show k + 1 ≤ 0 from (show False from hk).elim); have hS : k = b3 := hS; omega) (by show ¬ (g29 = b3); omega)
      refine lend ?_
      refine nBlock ?_
      refine nThen ?_
      refine forget_wp [(2, _), (3, _), (19, _), (20, _), (21, _)] ⟨rfl, rfl, rfl, rfl, rfl, trivial⟩ fun _ => ?_
      refine lreg ?_
      refine sv (xadd rfl rfl (w64 (by omega) (by omega))) ?_
      refine sv (xmove rfl) ?_
      refine lend ?_
      refine nThen ?_
      refine ⟨(k + 1, _, g29), _, env_okl ⟨rfl, rfl, rfl, rfl, rfl, trivial⟩, ⟨hL75, (by omega), (h3), (by rw [take_snoc hak]; exact hq), (by omega), (by omega)⟩, ?_⟩
      show m.asks.length - (k + 1) < m.asks.length - k; omega
    · skip
      refine send ?_
      refine forget_wp [(2, _), (3, _), (19, _), (20, _), (21, _), (22, _)] ⟨rfl, rfl, rfl, rfl, rfl, rfl, trivial⟩ fun _ => ?_
      refine wp_seq ?_
      refine cno rfl ?_
      refine wp_exit ?_
      refine eThen ?_
      refine eThen ?_
      refine eHit ?_
      refine nThen ?_
      refine forget_wp [(2, _), (3, _)] ⟨rfl, rfl, trivial⟩ fun _ => ?_
      obtain ⟨av, cv, rfl⟩ := RA.form hq
      refine sreg ?_
      refine sv (xldS (lens := [1, 1, 1, 1, 1, 1, 1, 1, 1, 1, 1, 1, 1, 1]) ro34 rfl (h3.r.sub 0 14 rfl)) ?_
      refine suK (xstW h2 (lens' := [1, 1, 1, 1, 1, 1, 1, 1, 1, 1, 1, 1, 1, 1]) sz34 rfl rfl rfl rfl rfl) ?_
      rintro w94 ⟨m95, h2, s93⟩
      have ha := ha.keep ask_st (fun k hk => by have hk := hU k hk; omega) m95 (fun k hk hS => by have hk := hU k hk; have hS : k = b2 := hS; omega)
      have y1 := y1.keep rec_st (fun k hk => by have hk := hU k hk; omega) m95 (fun k hk hS => by have hk := hU k hk; have hS : k = b2 := hS; omega)
      have y2 := y2.keep rec_st (fun k hk => by have hk := hU k hk; omega) m95 (fun k hk hS => by have hk := hU k hk; have hS : k = b2 := hS; omega)
      have y3 := y3.keep rec_st (fun k hk => by have hk := hU k hk; omega) m95 (fun k hk hS => by have hk := hU k hk; have hS : k = b2 := hS; omega)
      have hf := hf.step m95 (fun k hk hS => by have hS : k = b2 := hS; show False; omega)
      have h3 := h3.keep m95 (by show ¬ (b3 = b2); omega)
      have L10 := L10.keep rec_st (fun k hk => by have hk := Uw.num hU hk; omega) m95 (fun k hk hS => by have hk := Uw.num hU hk; have hS : k = b2 := hS; omega)
      have L13 := L13.keep rec_st (fun k hk => by have hk := Uw.num hU hk; omega) m95 (fun k hk hS => by have hk := Uw.num hU hk; have hS : k = b2 := hS; omega)
      have L16 := L16.keep rec_st (fun k hk => by have hk := Uw.num hU hk; omega) m95 (fun k hk hS => by have hk := Uw.num hU hk; have hS : k = b2 := hS; omega)
      have hq := hq.keep ask_st (fun k hk => by have hk := (show k + 1 ≤ 0 from (show False from hk).elim); omega) m95 (fun k hk hS => by have hk := (show k + 1 ≤ 0 from (show False from hk).elim); have hS : k = b2 := hS; omega) (by show ¬ (g = b2); omega)
      refine send ?_
      refine forget_wp [(2, _)] ⟨rfl, trivial⟩ fun _ => ?_
      refine wp_ret ?_
      refine rp1 rfl ⟨_, rfl, ldS (lens := [1, 1, 1, 1, 1, 1, 1, 1, 1, 1, 1, 1, 1, 1]) ro34 h2.r⟩ ?_
      have e : m.asks.take k = m.asks := List.take_of_length_le (by omega)
      rw [e] at hq
      exact ⟨_, _, _, _, rfl, RA.la0 hq (by decide) ask_gr (fun _ h => h.elim) (.inr (.inr ⟨by omega, by omega⟩)), L10.mono rec_gr (fun k hk => hk.1.elim .inl (fun h => .inr ⟨by omega, by omega⟩)), L13.mono rec_gr (fun k hk => hk.1.elim .inl (fun h => .inr ⟨by omega, by omega⟩)), L16.mono rec_gr (fun k hk => hk.1.elim .inl (fun h => .inr ⟨by omega, by omega⟩)), hf⟩
end Go.Proofs.YtifnodoffgfpbaaGreatDoor
