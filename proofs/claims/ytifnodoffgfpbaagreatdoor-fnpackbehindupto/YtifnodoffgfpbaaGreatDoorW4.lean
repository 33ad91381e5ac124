/- Walks: how the reference writes records. Conditions: none. -/
import Derived.Test.YtifnodoffgfpbaaGreatDoorW3
namespace Go.Proofs.YtifnodoffgfpbaaGreatDoor
open Go

theorem typ_get (r : RecD) (h0 : 0 ≤ r.kind) (h1 : r.kind < 13) : ([[Value.int .u16 0], [.int .u16 1], [.int .u16 2], [.int .u16 5], [.int .u16 6], [.int .u16 12], [.int .u16 15], [.int .u16 16], [.int .u16 28], [.int .u16 33], [.int .u16 41], [.int .u16 64], [.int .u16 65], [.int .u16 0]] : List (List Value)).flatten[r.kind.toNat]? = some (.int .u16 ((typeN r).toNat : Int)) := by
  obtain ⟨n, hn⟩ := Int.eq_ofNat_of_zero_le h0
  have hlt : n < 13 := by omega
  simp only [typeN, hn]
  match n, hlt with
  | 0, _ | 1, _ | 2, _ | 3, _ | 4, _ | 5, _ | 6, _ | 7, _ | 8, _ | 9, _ | 10, _ | 11, _ | 12, _ => rfl
theorem RecD.fits.texts {r : RecD} (h : r.fits) : (textsL r.texts).length ≤ 3000000 := by
  rw [textsL_length]; simp only [RecD.fits] at h; omega
theorem RecD.fits.pairs {r : RecD} (h : r.fits) : (pairsL r.pairs).length ≤ 6000000 := by
  rw [pairsL_length]; simp only [RecD.fits] at h; omega
theorem bodyL_fits {r : RecD} (h : r.fits) : (bodyL r).length ≤ 10000000 := by
  have h1 := h.texts
  have h2 := h.pairs
  have h3 := wire_le (bt r.host)
  have h4 := wire_le (bt r.box)
  rw [bt_length] at h3 h4
  simp only [RecD.fits] at h
  simp only [bodyL]
  repeat' split
  all_goals try simp only [List.length_append, be16_length, be32_length, fixedL_length]
  all_goals omega
theorem two16 (n : Nat) : be16 (n % 65536) = be16 n := be16_mod n
theorem v16 {u : UInt32} : ((u.toNat : Int) % 65536) = ((u.toNat % 65536 : Nat) : Int) := by omega

set_option maxRecDepth 100000 in
theorem c86 {w : World} {r : RecD} {vd vt vp : Value} (h0 : 0 ≤ r.kind) (h1 : r.kind ≤ 13) :
    Ret PP 86 [ag (recSegs r vd vt vp)] w (fun u w' => u = .int .u16 ((typeN r).toNat : Int) ∧ Fr0 w w') := by
  have hf : Fr (fun _ => False) w w := Fr.refl _ _
  refine ret_of Tryz.func86 rfl rfl rfl [(0, _)] rfl ?_
  refine sreg ?_
  refine svK (xboxS (lens := [1, 1, 1, 1, 1, 1, 1, 1, 1, 1, 1, 1, 1, 1, 1, 1]) rfl rfl) ?_
  rintro _ w2 ⟨b1, rfl, m3, h1, e1, s1⟩
  have hf := hf.step0 m3
  refine sv (xassign rfl) ?_
  refine send ?_
  refine forget_wp [(1, _)] ⟨rfl, trivial⟩ fun _ => ?_
  refine sreg ?_
  refine sv (xbuildA [[.int .u16 0], [.int .u16 1], [.int .u16 2], [.int .u16 5], [.int .u16 6], [.int .u16 12], [.int .u16 15], [.int .u16 16], [.int .u16 28], [.int .u16 33], [.int .u16 41], [.int .u16 64], [.int .u16 65], [.int .u16 0]] in265 ar265 sz22 rfl rfl (by simp [fitAll, Value.cells]) rfl) ?_
  refine svK (xallS (lens := [1, 1, 1, 1, 1, 1, 1, 1, 1, 1, 1, 1, 1, 1]) in265 (by decide)) ?_
  rintro _ w5 ⟨b3, rfl, m6, h3, e4, s4⟩
  have hf := hf.step0 m6
  have h1 := h1.keep m6 (fun h => h)
  refine suK (xstW h3 (lens' := [1, 1, 1, 1, 1, 1, 1, 1, 1, 1, 1, 1, 1, 1]) sz265 (by decide) rfl rfl rfl rfl) ?_
  rintro w8 ⟨m9, h3, s7⟩
  have hf := hf.step m9 (fun k hk hS => by have hS : k = b3 := hS; show False; omega)
  have h1 := h1.keep m9 (by show ¬ (b1 = b3); omega)
  refine send ?_
  refine forget_wp [(1, _), (3, _)] ⟨rfl, rfl, trivial⟩ fun _ => ?_
  refine wp_seq ?_
  refine sreg ?_
  refine sv (xfld fl65_5 rfl) ?_
  refine sv (xld on3 rfl (h1.r.c 5 rfl rfl)) ?_
  refine svP (xeql rfl rfl) (fun hc7 => ?_) (fun hc7 => ?_)
  · skip
    refine send ?_
    refine forget_wp [(1, _), (3, _), (7, _)] ⟨rfl, rfl, rfl, trivial⟩ fun _ => ?_
    refine cyes rfl ?_
    refine sreg ?_
    refine sv (xfld fl65_1 rfl) ?_
    refine sv (xld on22 rfl (h1.r.c 1 rfl rfl)) ?_
    refine sv (xassign rfl) ?_
    refine send ?_
    refine forget_wp [(2, _)] ⟨rfl, trivial⟩ fun _ => ?_
    refine wp_ret ?_
    refine rThen ?_
    refine rp1 rfl rfl ?_
    exact ⟨by simp [typeN, hc7], hf⟩
  · skip
    refine send ?_
    refine forget_wp [(1, _), (3, _), (7, _)] ⟨rfl, rfl, rfl, trivial⟩ fun _ => ?_
    refine cno rfl ?_
    refine wp_skip ?_
    refine nThen ?_
    refine forget_wp [(1, _), (3, _)] ⟨rfl, rfl, trivial⟩ fun _ => ?_
    refine sreg ?_
    refine sv (xfld fl65_5 rfl) ?_
    refine sv (xld on3 rfl (h1.r.c 5 rfl rfl)) ?_
    refine sv (xidxA1 (i := r.kind.toNat) ar265 sz22 rfl rfl (by omega) (by omega)) ?_
    refine sv (xld on22 rfl (h3.1.cell (by rw [Nat.zero_add]; exact typ_get r h0 (by omega)))) ?_
    refine sv (xassign rfl) ?_
    refine send ?_
    refine forget_wp [(2, _)] ⟨rfl, trivial⟩ fun _ => ?_
    refine wp_ret ?_
    refine rp1 rfl rfl ?_
    exact ⟨rfl, hf⟩
set_option maxRecDepth 100000 in
theorem c84 {w : World} {U : Nat → Prop} (hU : ∀ k, U k → k < w.heap.size) {r : RecD} {vd vt vp : Value} (hd : BA U w vd r.data) (ht : LA TextEl [1] U w vt r.texts) (hp : LA PairEl lPair U w vp r.pairs) (hr : r.fits) :
    Ret PP 84 [ag (recSegs r vd vt vp)] w (fun u w' => New w (bodyL r).length (bodyL r) u w') := by
  obtain ⟨at0, ct0, rfl⟩ := ht.form
  obtain ⟨ap0, cp0, rfl⟩ := hp.form
  obtain ⟨ad0, cd0, rfl, -⟩ := id hd
  have hft := hr.texts
  have hfp := hr.pairs
  have hw1 := wire_le (bt r.host)
  have hw2 := wire_le (bt r.box)
  rw [bt_length] at hw1 hw2
  have hr0 := hr
  simp only [RecD.fits] at hr0
  have hf : Fr (fun _ => False) w w := Fr.refl _ _
  refine ret_of Tryz.func84 rfl rfl rfl [(0, _)] rfl ?_
  refine sreg ?_
  refine svK (xboxS (lens := [1, 1, 1, 1, 1, 1, 1, 1, 1, 1, 1, 1, 1, 1, 1, 1]) rfl rfl) ?_
  rintro _ w2 ⟨b1, rfl, m3, h1, e1, s1⟩
  have hd := hd.keep (fun k hk => by have hk := hU k hk; omega) m3 (fun _ _ h => h)
  have ht := ht.keep text_st (fun k hk => by have hk := hU k hk; omega) m3 (fun _ _ h => h)
  have hp := hp.keep pair_st (fun k hk => by have hk := hU k hk; omega) m3 (fun _ _ h => h)
  have hf := hf.step0 m3
  refine sv (xassign rfl) ?_
  refine send ?_
  refine forget_wp [(1, _)] ⟨rfl, trivial⟩ fun _ => ?_
  refine sreg ?_
  refine sv (xfld fl65_9 rfl) ?_
  refine sv (xld on61 rfl (h1.r.c 9 rfl rfl)) ?_
  refine sv (xconv hs61 ki22 rfl (wu16n (r.n1.toNat % 65536) (by omega))) ?_
  refine sv (xfld fl65_10 rfl) ?_
  refine sv (xld on61 rfl (h1.r.c 10 rfl rfl)) ?_
  refine sv (xconv hs61 ki22 rfl (wu16n (r.n2.toNat % 65536) (by omega))) ?_
  refine sv (xfld fl65_11 rfl) ?_
  refine sv (xld on61 rfl (h1.r.c 11 rfl rfl)) ?_
  refine sv (xconv hs61 ki22 rfl (wu16n (r.n3.toNat % 65536) (by omega))) ?_
  refine svK (xslit ([Value.int .u16 ((r.n1.toNat % 65536 : Nat) : Int), .int .u16 ((r.n2.toNat % 65536 : Nat) : Int), .int .u16 ((r.n3.toNat % 65536 : Nat) : Int)]) sl262 in22 rfl (by decide) rfl rfl rfl rfl (by decide) rfl rfl) ?_
  rintro _ w5 ⟨b16, rfl, m6, h16, e16, s16, r16⟩
  have hd := hd.keep (fun k hk => by have hk := hU k hk; omega) m6 (fun _ _ h => h)
  have ht := ht.keep text_st (fun k hk => by have hk := hU k hk; omega) m6 (fun _ _ h => h)
  have hp := hp.keep pair_st (fun k hk => by have hk := hU k hk; omega) m6 (fun _ _ h => h)
  have hf := hf.step0 m6
  have h1 := h1.keep m6 (fun h => h)
  refine sv (xassign rfl) ?_
  refine send ?_
  refine forget_wp [(1, _), (3, _)] ⟨rfl, rfl, trivial⟩ fun _ => ?_
  refine wp_seq ?_
  refine sreg ?_
  refine sv (xfld fl65_5 rfl) ?_
  refine sv (xld on3 rfl (h1.r.c 5 rfl rfl)) ?_
  refine send ?_
  refine forget_wp [(1, _), (3, _), (18, _)] ⟨rfl, rfl, rfl, trivial⟩ fun _ => ?_
  refine wp_block ?_
  refine sreg ?_
  refine svP (xeql rfl rfl) (fun hc20 => ?_) (fun hc20 => ?_)
  · skip
    refine sv (xassign rfl) ?_
    refine send ?_
    refine forget_wp [(1, _), (3, _), (18, _), (19, _)] ⟨rfl, rfl, rfl, rfl, trivial⟩ fun _ => ?_
    refine cyes rfl ?_
    refine sreg ?_
    refine sv (xfld fl65_6 rfl) ?_
    refine sv (xld on37 rfl (h1.r.c 6 rfl rfl)) ?_
    refine sc (xcall ca146 rfl) (c146 (n := 4) (fun k hk => by have hk := hU k hk; omega) hd (by decide) (by decide)) ?_
    rintro _ w7 ⟨p23, q23, g23, rfl, r23, m8, a23, l23⟩
    have z9 := m8.size
    have hd := hd.keep (fun k hk => by have hk := hU k hk; omega) m8 (fun _ _ h => h)
    have ht := ht.keep text_st (fun k hk => by have hk := hU k hk; omega) m8 (fun _ _ h => h)
    have hp := hp.keep pair_st (fun k hk => by have hk := hU k hk; omega) m8 (fun _ _ h => h)
    have hf := hf.step0 m8
    have h1 := h1.keep m8 (fun h => h)
    have r16 := r16.keep m8 (fun h => h)
    refine sv (xassign rfl) ?_
    refine send ?_
    refine forget_wp [(2, _)] ⟨rfl, trivial⟩ fun _ => ?_
    refine wp_ret ?_
    refine rBlock ?_
    refine rThen ?_
    refine rp1 rfl rfl ?_
    exact new_cast r23 (by simp [bodyL, *]) hf (by omega) (by omega)
  · skip
    refine sv (xassign rfl) ?_
    refine send ?_
    refine forget_wp [(1, _), (3, _), (18, _), (19, _)] ⟨rfl, rfl, rfl, rfl, trivial⟩ fun _ => ?_
    refine cno rfl ?_
    refine sreg ?_
    refine svP (xeql rfl rfl) (fun hc25 => ?_) (fun hc25 => ?_)
    · skip
      refine sv (xassign rfl) ?_
      refine send ?_
      refine forget_wp [(1, _), (3, _), (18, _), (24, _)] ⟨rfl, rfl, rfl, rfl, trivial⟩ fun _ => ?_
      refine cyes rfl ?_
      refine sreg ?_
      refine sv (xfld fl65_6 rfl) ?_
      refine sv (xld on37 rfl (h1.r.c 6 rfl rfl)) ?_
      refine sc (xcall ca146 rfl) (c146 (n := 16) (fun k hk => by have hk := hU k hk; omega) hd (by decide) (by decide)) ?_
      rintro _ w10 ⟨p28, q28, g28, rfl, r28, m11, a28, l28⟩
      have z12 := m11.size
      have hd := hd.keep (fun k hk => by have hk := hU k hk; omega) m11 (fun _ _ h => h)
      have ht := ht.keep text_st (fun k hk => by have hk := hU k hk; omega) m11 (fun _ _ h => h)
      have hp := hp.keep pair_st (fun k hk => by have hk := hU k hk; omega) m11 (fun _ _ h => h)
      have hf := hf.step0 m11
      have h1 := h1.keep m11 (fun h => h)
      have r16 := r16.keep m11 (fun h => h)
      refine sv (xassign rfl) ?_
      refine send ?_
      refine forget_wp [(2, _)] ⟨rfl, trivial⟩ fun _ => ?_
      refine wp_ret ?_
      refine rBlock ?_
      refine rThen ?_
      refine rp1 rfl rfl ?_
      exact new_cast r28 (by simp [bodyL, *]) hf (by omega) (by omega)
    · skip
      refine sv (xassign rfl) ?_
      refine send ?_
      refine forget_wp [(1, _), (3, _), (18, _), (24, _)] ⟨rfl, rfl, rfl, rfl, trivial⟩ fun _ => ?_
      refine cno rfl ?_
      refine wp_seq ?_
      refine sreg ?_
      refine svP (xeql rfl rfl) (fun hc30 => ?_) (fun hc30 => ?_)
      · skip
        refine sv (xassign rfl) ?_
        refine send ?_
        refine forget_wp [(1, _), (3, _), (18, _), (29, _)] ⟨rfl, rfl, rfl, rfl, trivial⟩ fun _ => ?_
        refine cyes rfl ?_
        refine wp_skip ?_
        refine nThen ?_
        refine forget_wp [(1, _), (3, _), (18, _), (29, _)] ⟨rfl, rfl, rfl, rfl, trivial⟩ fun _ => ?_
        refine cyes rfl ?_
        refine sreg ?_
        refine sv (xfld fl65_7 rfl) ?_
        refine sv (xld on9 rfl (h1.r.c 7 rfl rfl)) ?_
        refine sc (xcall ca98 rfl) (c98 (by omega)) ?_
        rintro _ w13 ⟨p35, q35, g35, rfl, r35, m14, a35, l35⟩
        have z15 := m14.size
        have hd := hd.keep (fun k hk => by have hk := hU k hk; omega) m14 (fun _ _ h => h)
        have ht := ht.keep text_st (fun k hk => by have hk := hU k hk; omega) m14 (fun _ _ h => h)
        have hp := hp.keep pair_st (fun k hk => by have hk := hU k hk; omega) m14 (fun _ _ h => h)
        have hf := hf.step0 m14
        have h1 := h1.keep m14 (fun h => h)
        have r16 := r16.keep m14 (fun h => h)
        refine sv (xassign rfl) ?_
        refine send ?_
        refine forget_wp [(2, _)] ⟨rfl, trivial⟩ fun _ => ?_
        refine wp_ret ?_
        refine rBlock ?_
        refine rThen ?_
        refine rp1 rfl rfl ?_
        exact new_cast r35 (by simp [bodyL, *]) hf (by omega) (by omega)
      · skip
        refine sv (xassign rfl) ?_
        refine send ?_
        refine forget_wp [(1, _), (3, _), (18, _), (29, _)] ⟨rfl, rfl, rfl, rfl, trivial⟩ fun _ => ?_
        refine cno rfl ?_
        refine sreg ?_
        refine svP (xeql rfl rfl) (fun hc31 => ?_) (fun hc31 => ?_)
        · skip
          refine sv (xassign rfl) ?_
          refine send ?_
          refine forget_wp [(1, _), (3, _), (18, _), (29, _)] ⟨rfl, rfl, rfl, rfl, trivial⟩ fun _ => ?_
          refine cyes rfl ?_
          refine wp_skip ?_
          refine nThen ?_
          refine forget_wp [(1, _), (3, _), (18, _), (29, _)] ⟨rfl, rfl, rfl, rfl, trivial⟩ fun _ => ?_
          refine cyes rfl ?_
          refine sreg ?_
          refine sv (xfld fl65_7 rfl) ?_
          refine sv (xld on9 rfl (h1.r.c 7 rfl rfl)) ?_
          refine sc (xcall ca98 rfl) (c98 (by omega)) ?_
          rintro _ w16 ⟨p35, q35, g35, rfl, r35, m17, a35, l35⟩
          have z18 := m17.size
          have hd := hd.keep (fun k hk => by have hk := hU k hk; omega) m17 (fun _ _ h => h)
          have ht := ht.keep text_st (fun k hk => by have hk := hU k hk; omega) m17 (fun _ _ h => h)
          have hp := hp.keep pair_st (fun k hk => by have hk := hU k hk; omega) m17 (fun _ _ h => h)
          have hf := hf.step0 m17
          have h1 := h1.keep m17 (fun h => h)
          have r16 := r16.keep m17 (fun h => h)
          refine sv (xassign rfl) ?_
          refine send ?_
          refine forget_wp [(2, _)] ⟨rfl, trivial⟩ fun _ => ?_
          refine wp_ret ?_
          refine rBlock ?_
          refine rThen ?_
          refine rp1 rfl rfl ?_
          exact new_cast r35 (by simp [bodyL, *]) hf (by omega) (by omega)
        · skip
          refine sv (xassign rfl) ?_
          refine send ?_
          refine forget_wp [(1, _), (3, _), (18, _), (29, _)] ⟨rfl, rfl, rfl, rfl, trivial⟩ fun _ => ?_
          refine cno rfl ?_
          refine lreg ?_
          refine svP (xeql rfl rfl) (fun hc32 => ?_) (fun hc32 => ?_)
          · skip
            refine sv (xassign rfl) ?_
            refine lend ?_
            refine nThen ?_
            refine forget_wp [(1, _), (3, _), (18, _), (29, _)] ⟨rfl, rfl, rfl, rfl, trivial⟩ fun _ => ?_
            refine cyes rfl ?_
            refine sreg ?_
            refine sv (xfld fl65_7 rfl) ?_
            refine sv (xld on9 rfl (h1.r.c 7 rfl rfl)) ?_
            refine sc (xcall ca98 rfl) (c98 (by omega)) ?_
            rintro _ w19 ⟨p35, q35, g35, rfl, r35, m20, a35, l35⟩
            have z21 := m20.size
            have hd := hd.keep (fun k hk => by have hk := hU k hk; omega) m20 (fun _ _ h => h)
            have ht := ht.keep text_st (fun k hk => by have hk := hU k hk; omega) m20 (fun _ _ h => h)
            have hp := hp.keep pair_st (fun k hk => by have hk := hU k hk; omega) m20 (fun _ _ h => h)
            have hf := hf.step0 m20
            have h1 := h1.keep m20 (fun h => h)
            have r16 := r16.keep m20 (fun h => h)
            refine sv (xassign rfl) ?_
            refine send ?_
            refine forget_wp [(2, _)] ⟨rfl, trivial⟩ fun _ => ?_
            refine wp_ret ?_
            refine rBlock ?_
            refine rThen ?_
            refine rp1 rfl rfl ?_
            exact new_cast r35 (by simp [bodyL, *]) hf (by omega) (by omega)
          · skip
            refine sv (xassign rfl) ?_
            refine lend ?_
            refine nThen ?_
            refine forget_wp [(1, _), (3, _), (18, _), (29, _)] ⟨rfl, rfl, rfl, rfl, trivial⟩ fun _ => ?_
            refine cno rfl ?_
            refine sreg ?_
            refine svP (xeql rfl rfl) (fun hc37 => ?_) (fun hc37 => ?_)
            · skip
              refine sv (xassign rfl) ?_
              refine send ?_
              refine forget_wp [(1, _), (3, _), (18, _), (36, _)] ⟨rfl, rfl, rfl, rfl, trivial⟩ fun _ => ?_
              refine cyes rfl ?_
              refine sdraw (Fr (fun _ => False) w5.drew) [(0, .rd), (1, .rd), (2, .rd), (4, .rd), (5, .rd), (3, .ld), (6, .ld), (7, .ld), (8, .ld), (9, .rd)] mixed (by kernel_rfl) (fun _ _ _ _ _ h => h) ?_
              have z22 : w5.drew.heap.size = w5.heap.size := rfl
              have hd := hd.keep (fun k hk => by have hk := hU k hk; omega) (Fr.drew (Fr.refl (fun _ => False) w5)) (fun _ _ h => h)
              have ht := ht.keep text_st (fun k hk => by have hk := hU k hk; omega) (Fr.drew (Fr.refl (fun _ => False) w5)) (fun _ _ h => h)
              have hp := hp.keep pair_st (fun k hk => by have hk := hU k hk; omega) (Fr.drew (Fr.refl (fun _ => False) w5)) (fun _ _ h => h)
              have hf := hf.drew
              have h1 := h1.drew
              have r16 := r16.keep (Fr.drew (Fr.refl (fun _ => False) w5)) (fun h => h)
              have hS23 : Fr (fun _ => False) w5.drew w5.drew := Fr.refl _ _
              refine hv rfl (fun _ _ => xmove rfl) hS23 ?_
              refine hv rfl (fun _ _ => xidx1 (i := 0) sl262 sz22 rfl rfl rfl (by decide)) hS23 ?_
              refine hv rfl (fun w' hS => xld on22 rfl (Rw.rng (r16.keep hS (fun h => h)) 0 _ rfl)) hS23 ?_
              refine hv rfl (fun _ _ => xfld fl65_7 rfl) hS23 ?_
              refine hv rfl (fun w' hS => xld on9 rfl ((h1.keep hS (fun h => h)).r.c 7 rfl rfl)) hS23 ?_
              refine hc rfl (xcall ca53 rfl) (c53 (by first | omega | exact u16lt _)) ?_
              rintro _ w24 ⟨p41, q41, g41, rfl, r41, m25, a41, l41⟩
              have z26 := m25.size
              have hd := hd.keep (fun k hk => by have hk := hU k hk; omega) m25 (fun _ _ h => h)
              have ht := ht.keep text_st (fun k hk => by have hk := hU k hk; omega) m25 (fun _ _ h => h)
              have hp := hp.keep pair_st (fun k hk => by have hk := hU k hk; omega) m25 (fun _ _ h => h)
              have hf := hf.step0 m25
              have h1 := h1.keep m25 (fun h => h)
              have r16 := r16.keep m25 (fun h => h)
              have hS27 := hS23.step0 m25
              refine ⟨hS27, ?_⟩
              refine hc rfl (xcall ca98 rfl) (c98 (by omega)) ?_
              rintro _ w28 ⟨p44, q44, g44, rfl, r44, m29, a44, l44⟩
              have z30 := m29.size
              have hd := hd.keep (fun k hk => by have hk := hU k hk; omega) m29 (fun _ _ h => h)
              have ht := ht.keep text_st (fun k hk => by have hk := hU k hk; omega) m29 (fun _ _ h => h)
              have hp := hp.keep pair_st (fun k hk => by have hk := hU k hk; omega) m29 (fun _ _ h => h)
              have hf := hf.step0 m29
              have h1 := h1.keep m29 (fun h => h)
              have r16 := r16.keep m29 (fun h => h)
              have r41 := r41.keep m29 (fun h => h)
              have hS31 := hS27.step0 m29
              refine ⟨hS31, ?_⟩
              refine hlK rfl (xslit [_, _] sl105 in37 rfl (by decide) rfl rfl rfl rfl (by decide) rfl rfl) ?_
              rintro _ w33 ⟨b45, rfl, m34, h45, e45, s45, r45⟩
              have hd := hd.keep (fun k hk => by have hk := hU k hk; omega) m34 (fun _ _ h => h)
              have ht := ht.keep text_st (fun k hk => by have hk := hU k hk; omega) m34 (fun _ _ h => h)
              have hp := hp.keep pair_st (fun k hk => by have hk := hU k hk; omega) m34 (fun _ _ h => h)
              have hf := hf.step0 m34
              have h1 := h1.keep m34 (fun h => h)
              have r16 := r16.keep m34 (fun h => h)
              have r41 := r41.keep m34 (fun h => h)
              have r44 := r44.keep m34 (fun h => h)
              have hS35 := hS31.step0 m34
              refine ⟨hS35, ?_⟩
              refine hc rfl (xcall ca21 rfl) (c21 (U := fun k => k = g41 ∨ k = g44) (Rw.rng r45) (by omega) rfl (fun k hk => by have hk : k = g41 ∨ k = g44 := hk; rcases hk with hk | hk <;> first | omega | (have := hU k hk; omega)) (All2.cons (BR.ba r41 (.inl rfl)) (All2.cons (BR.ba r44 (.inr rfl)) All2.nil)) (by simp only [List.flatten_cons, List.flatten_nil, List.length_append, be16_length, List.length_nil]; omega) (by decide)) ?_
              rintro _ w36 ⟨p46, q46, g46, rfl, r46, m37, a46, l46⟩
              have z38 := m37.size
              have hd := hd.keep (fun k hk => by have hk := hU k hk; omega) m37 (fun _ _ h => h)
              have ht := ht.keep text_st (fun k hk => by have hk := hU k hk; omega) m37 (fun _ _ h => h)
              have hp := hp.keep pair_st (fun k hk => by have hk := hU k hk; omega) m37 (fun _ _ h => h)
              have hf := hf.step0 m37
              have h1 := h1.keep m37 (fun h => h)
              have r16 := r16.keep m37 (fun h => h)
              have r41 := r41.keep m37 (fun h => h)
              have r44 := r44.keep m37 (fun h => h)
              have r45 := r45.keep m37 (fun h => h)
              have hS39 := hS35.step0 m37
              refine ⟨hS39, ?_⟩
              refine hv rfl (fun _ _ => xassign rfl) hS39 ?_
              refine hend ?_
              refine forget_wp [(2, _)] ⟨rfl, trivial⟩ fun _ => ?_
              refine wp_ret ?_
              refine rBlock ?_
              refine rThen ?_
              refine rp1 rfl rfl ?_
              exact new_cast r46 (by simp [bodyL, two16, *]) hf (by omega) (by omega)
            · skip
              refine sv (xassign rfl) ?_
              refine send ?_
              refine forget_wp [(1, _), (3, _), (18, _), (36, _)] ⟨rfl, rfl, rfl, rfl, trivial⟩ fun _ => ?_
              refine cno rfl ?_
              refine sreg ?_
              refine svP (xeql rfl rfl) (fun hc48 => ?_) (fun hc48 => ?_)
              · skip
                refine sv (xassign rfl) ?_
                refine send ?_
                refine forget_wp [(1, _), (3, _), (18, _), (47, _)] ⟨rfl, rfl, rfl, rfl, trivial⟩ fun _ => ?_
                refine cyes rfl ?_
                refine sdraw (Fr (fun _ => False) w5.drew) [(0, .rd), (1, .rd), (3, .rd), (4, .rd), (6, .rd), (7, .rd), (9, .rd), (10, .rd), (12, .rd), (13, .rd), (15, .rd), (16, .rd), (18, .rd), (19, .rd), (2, .ld), (5, .ld), (8, .ld), (11, .ld), (14, .ld), (17, .ld), (20, .ld), (21, .ld), (22, .ld), (23, .rd)] mixed (by kernel_rfl) (fun _ _ _ _ _ h => h) ?_
                have z40 : w5.drew.heap.size = w5.heap.size := rfl
                have hd := hd.keep (fun k hk => by have hk := hU k hk; omega) (Fr.drew (Fr.refl (fun _ => False) w5)) (fun _ _ h => h)
                have ht := ht.keep text_st (fun k hk => by have hk := hU k hk; omega) (Fr.drew (Fr.refl (fun _ => False) w5)) (fun _ _ h => h)
                have hp := hp.keep pair_st (fun k hk => by have hk := hU k hk; omega) (Fr.drew (Fr.refl (fun _ => False) w5)) (fun _ _ h => h)
                have hf := hf.drew
                have h1 := h1.drew
                have r16 := r16.keep (Fr.drew (Fr.refl (fun _ => False) w5)) (fun h => h)
                have hS41 : Fr (fun _ => False) w5.drew w5.drew := Fr.refl _ _
                refine hv rfl (fun _ _ => xfld fl65_7 rfl) hS41 ?_
                refine hv rfl (fun w' hS => xld on9 rfl ((h1.keep hS (fun h => h)).r.c 7 rfl rfl)) hS41 ?_
                refine hv rfl (fun _ _ => xfld fl65_8 rfl) hS41 ?_
                refine hv rfl (fun w' hS => xld on9 rfl ((h1.keep hS (fun h => h)).r.c 8 rfl rfl)) hS41 ?_
                refine hv rfl (fun _ _ => xfld fl65_9 rfl) hS41 ?_
                refine hv rfl (fun w' hS => xld on61 rfl ((h1.keep hS (fun h => h)).r.c 9 rfl rfl)) hS41 ?_
                refine hv rfl (fun _ _ => xfld fl65_10 rfl) hS41 ?_
                refine hv rfl (fun w' hS => xld on61 rfl ((h1.keep hS (fun h => h)).r.c 10 rfl rfl)) hS41 ?_
                refine hv rfl (fun _ _ => xfld fl65_11 rfl) hS41 ?_
                refine hv rfl (fun w' hS => xld on61 rfl ((h1.keep hS (fun h => h)).r.c 11 rfl rfl)) hS41 ?_
                refine hv rfl (fun _ _ => xfld fl65_12 rfl) hS41 ?_
                refine hv rfl (fun w' hS => xld on61 rfl ((h1.keep hS (fun h => h)).r.c 12 rfl rfl)) hS41 ?_
                refine hv rfl (fun _ _ => xfld fl65_13 rfl) hS41 ?_
                refine hv rfl (fun w' hS => xld on61 rfl ((h1.keep hS (fun h => h)).r.c 13 rfl rfl)) hS41 ?_
                refine hc rfl (xcall ca98 rfl) (c98 (by omega)) ?_
                rintro _ w42 ⟨p51, q51, g51, rfl, r51, m43, a51, l51⟩
                have z44 := m43.size
                have hd := hd.keep (fun k hk => by have hk := hU k hk; omega) m43 (fun _ _ h => h)
                have ht := ht.keep text_st (fun k hk => by have hk := hU k hk; omega) m43 (fun _ _ h => h)
                have hp := hp.keep pair_st (fun k hk => by have hk := hU k hk; omega) m43 (fun _ _ h => h)
                have hf := hf.step0 m43
                have h1 := h1.keep m43 (fun h => h)
                have r16 := r16.keep m43 (fun h => h)
                have hS45 := hS41.step0 m43
                refine ⟨hS45, ?_⟩
                refine hc rfl (xcall ca98 rfl) (c98 (by omega)) ?_
                rintro _ w46 ⟨p54, q54, g54, rfl, r54, m47, a54, l54⟩
                have z48 := m47.size
                have hd := hd.keep (fun k hk => by have hk := hU k hk; omega) m47 (fun _ _ h => h)
                have ht := ht.keep text_st (fun k hk => by have hk := hU k hk; omega) m47 (fun _ _ h => h)
                have hp := hp.keep pair_st (fun k hk => by have hk := hU k hk; omega) m47 (fun _ _ h => h)
                have hf := hf.step0 m47
                have h1 := h1.keep m47 (fun h => h)
                have r16 := r16.keep m47 (fun h => h)
                have r51 := r51.keep m47 (fun h => h)
                have hS49 := hS45.step0 m47
                refine ⟨hS49, ?_⟩
                refine hc rfl (xcall ca99 rfl) (c99 (by first | omega | exact u32lt _)) ?_
                rintro _ w50 ⟨p57, q57, g57, rfl, r57, m51, a57, l57⟩
                have z52 := m51.size
                have hd := hd.keep (fun k hk => by have hk := hU k hk; omega) m51 (fun _ _ h => h)
                have ht := ht.keep text_st (fun k hk => by have hk := hU k hk; omega) m51 (fun _ _ h => h)
                have hp := hp.keep pair_st (fun k hk => by have hk := hU k hk; omega) m51 (fun _ _ h => h)
                have hf := hf.step0 m51
                have h1 := h1.keep m51 (fun h => h)
                have r16 := r16.keep m51 (fun h => h)
                have r51 := r51.keep m51 (fun h => h)
                have r54 := r54.keep m51 (fun h => h)
                have hS53 := hS49.step0 m51
                refine ⟨hS53, ?_⟩
                refine hc rfl (xcall ca99 rfl) (c99 (by first | omega | exact u32lt _)) ?_
                rintro _ w54 ⟨p60, q60, g60, rfl, r60, m55, a60, l60⟩
                have z56 := m55.size
                have hd := hd.keep (fun k hk => by have hk := hU k hk; omega) m55 (fun _ _ h => h)
                have ht := ht.keep text_st (fun k hk => by have hk := hU k hk; omega) m55 (fun _ _ h => h)
                have hp := hp.keep pair_st (fun k hk => by have hk := hU k hk; omega) m55 (fun _ _ h => h)
                have hf := hf.step0 m55
                have h1 := h1.keep m55 (fun h => h)
                have r16 := r16.keep m55 (fun h => h)
                have r51 := r51.keep m55 (fun h => h)
                have r54 := r54.keep m55 (fun h => h)
                have r57 := r57.keep m55 (fun h => h)
                have hS57 := hS53.step0 m55
                refine ⟨hS57, ?_⟩
                refine hc rfl (xcall ca99 rfl) (c99 (by first | omega | exact u32lt _)) ?_
                rintro _ w58 ⟨p63, q63, g63, rfl, r63, m59, a63, l63⟩
                have z60 := m59.size
                have hd := hd.keep (fun k hk => by have hk := hU k hk; omega) m59 (fun _ _ h => h)
                have ht := ht.keep text_st (fun k hk => by have hk := hU k hk; omega) m59 (fun _ _ h => h)
                have hp := hp.keep pair_st (fun k hk => by have hk := hU k hk; omega) m59 (fun _ _ h => h)
                have hf := hf.step0 m59
                have h1 := h1.keep m59 (fun h => h)
                have r16 := r16.keep m59 (fun h => h)
                have r51 := r51.keep m59 (fun h => h)
                have r54 := r54.keep m59 (fun h => h)
                have r57 := r57.keep m59 (fun h => h)
                have r60 := r60.keep m59 (fun h => h)
                have hS61 := hS57.step0 m59
                refine ⟨hS61, ?_⟩
                refine hc rfl (xcall ca99 rfl) (c99 (by first | omega | exact u32lt _)) ?_
                rintro _ w62 ⟨p66, q66, g66, rfl, r66, m63, a66, l66⟩
                have z64 := m63.size
                have hd := hd.keep (fun k hk => by have hk := hU k hk; omega) m63 (fun _ _ h => h)
                have ht := ht.keep text_st (fun k hk => by have hk := hU k hk; omega) m63 (fun _ _ h => h)
                have hp := hp.keep pair_st (fun k hk => by have hk := hU k hk; omega) m63 (fun _ _ h => h)
                have hf := hf.step0 m63
                have h1 := h1.keep m63 (fun h => h)
                have r16 := r16.keep m63 (fun h => h)
                have r51 := r51.keep m63 (fun h => h)
                have r54 := r54.keep m63 (fun h => h)
                have r57 := r57.keep m63 (fun h => h)
                have r60 := r60.keep m63 (fun h => h)
                have r63 := r63.keep m63 (fun h => h)
                have hS65 := hS61.step0 m63
                refine ⟨hS65, ?_⟩
                refine hc rfl (xcall ca99 rfl) (c99 (by first | omega | exact u32lt _)) ?_
                rintro _ w66 ⟨p69, q69, g69, rfl, r69, m67, a69, l69⟩
                have z68 := m67.size
                have hd := hd.keep (fun k hk => by have hk := hU k hk; omega) m67 (fun _ _ h => h)
                have ht := ht.keep text_st (fun k hk => by have hk := hU k hk; omega) m67 (fun _ _ h => h)
                have hp := hp.keep pair_st (fun k hk => by have hk := hU k hk; omega) m67 (fun _ _ h => h)
                have hf := hf.step0 m67
                have h1 := h1.keep m67 (fun h => h)
                have r16 := r16.keep m67 (fun h => h)
                have r51 := r51.keep m67 (fun h => h)
                have r54 := r54.keep m67 (fun h => h)
                have r57 := r57.keep m67 (fun h => h)
                have r60 := r60.keep m67 (fun h => h)
                have r63 := r63.keep m67 (fun h => h)
                have r66 := r66.keep m67 (fun h => h)
                have hS69 := hS65.step0 m67
                refine ⟨hS69, ?_⟩
                refine hlK rfl (xslit [_, _, _, _, _, _, _] sl105 in37 rfl (by decide) rfl rfl rfl rfl (by decide) rfl rfl) ?_
                rintro _ w71 ⟨b70, rfl, m72, h70, e70, s70, r70⟩
                have hd := hd.keep (fun k hk => by have hk := hU k hk; omega) m72 (fun _ _ h => h)
                have ht := ht.keep text_st (fun k hk => by have hk := hU k hk; omega) m72 (fun _ _ h => h)
                have hp := hp.keep pair_st (fun k hk => by have hk := hU k hk; omega) m72 (fun _ _ h => h)
                have hf := hf.step0 m72
                have h1 := h1.keep m72 (fun h => h)
                have r16 := r16.keep m72 (fun h => h)
                have r51 := r51.keep m72 (fun h => h)
                have r54 := r54.keep m72 (fun h => h)
                have r57 := r57.keep m72 (fun h => h)
                have r60 := r60.keep m72 (fun h => h)
                have r63 := r63.keep m72 (fun h => h)
                have r66 := r66.keep m72 (fun h => h)
                have r69 := r69.keep m72 (fun h => h)
                have hS73 := hS69.step0 m72
                refine ⟨hS73, ?_⟩
                refine hc rfl (xcall ca21 rfl) (c21 (U := fun k => k = g51 ∨ k = g54 ∨ k = g57 ∨ k = g60 ∨ k = g63 ∨ k = g66 ∨ k = g69) (Rw.rng r70) (by omega) rfl (fun k hk => by have hk : k = g51 ∨ k = g54 ∨ k = g57 ∨ k = g60 ∨ k = g63 ∨ k = g66 ∨ k = g69 := hk; rcases hk with hk | hk | hk | hk | hk | hk | hk <;> first | omega | (have := hU k hk; omega)) (All2.cons (BR.ba r51 (.inl rfl)) (All2.cons (BR.ba r54 (.inr (.inl rfl))) (All2.cons (BR.ba r57 (.inr (.inr (.inl rfl)))) (All2.cons (BR.ba r60 (.inr (.inr (.inr (.inl rfl))))) (All2.cons (BR.ba r63 (.inr (.inr (.inr (.inr (.inl rfl)))))) (All2.cons (BR.ba r66 (.inr (.inr (.inr (.inr (.inr (.inl rfl))))))) (All2.cons (BR.ba r69 (.inr (.inr (.inr (.inr (.inr (.inr rfl))))))) All2.nil))))))) (by simp only [List.flatten_cons, List.flatten_nil, List.length_append, be32_length, List.length_nil]; omega) (by decide)) ?_
                rintro _ w74 ⟨p71, q71, g71, rfl, r71, m75, a71, l71⟩
                have z76 := m75.size
                have hd := hd.keep (fun k hk => by have hk := hU k hk; omega) m75 (fun _ _ h => h)
                have ht := ht.keep text_st (fun k hk => by have hk := hU k hk; omega) m75 (fun _ _ h => h)
                have hp := hp.keep pair_st (fun k hk => by have hk := hU k hk; omega) m75 (fun _ _ h => h)
                have hf := hf.step0 m75
                have h1 := h1.keep m75 (fun h => h)
                have r16 := r16.keep m75 (fun h => h)
                have r51 := r51.keep m75 (fun h => h)
                have r54 := r54.keep m75 (fun h => h)
                have r57 := r57.keep m75 (fun h => h)
                have r60 := r60.keep m75 (fun h => h)
                have r63 := r63.keep m75 (fun h => h)
                have r66 := r66.keep m75 (fun h => h)
                have r69 := r69.keep m75 (fun h => h)
                have r70 := r70.keep m75 (fun h => h)
                have hS77 := hS73.step0 m75
                refine ⟨hS77, ?_⟩
                refine hv rfl (fun _ _ => xassign rfl) hS77 ?_
                refine hend ?_
                refine forget_wp [(2, _)] ⟨rfl, trivial⟩ fun _ => ?_
                refine wp_ret ?_
                refine rBlock ?_
                refine rThen ?_
                refine rp1 rfl rfl ?_
                exact new_cast r71 (by simp [bodyL, *]) hf (by omega) (by omega)
              · skip
                refine sv (xassign rfl) ?_
                refine send ?_
                refine forget_wp [(1, _), (3, _), (18, _), (47, _)] ⟨rfl, rfl, rfl, rfl, trivial⟩ fun _ => ?_
                refine cno rfl ?_
                refine sreg ?_
                refine svP (xeql rfl rfl) (fun hc73 => ?_) (fun hc73 => ?_)
                · skip
                  refine sv (xassign rfl) ?_
                  refine send ?_
                  refine forget_wp [(1, _), (3, _), (18, _), (72, _)] ⟨rfl, rfl, rfl, rfl, trivial⟩ fun _ => ?_
                  refine cyes rfl ?_
                  refine sreg ?_
                  refine svK (xslit (bvs []) sl37 in5 rfl (by decide) rfl rfl rfl rfl (by decide) rfl (bvs_one _)) ?_
                  rintro _ w79 ⟨b74, rfl, m80, h74, e74, s74, r74⟩
                  have hd := hd.keep (fun k hk => by have hk := hU k hk; omega) m80 (fun _ _ h => h)
                  have ht := ht.keep text_st (fun k hk => by have hk := hU k hk; omega) m80 (fun _ _ h => h)
                  have hp := hp.keep pair_st (fun k hk => by have hk := hU k hk; omega) m80 (fun _ _ h => h)
                  have hf := hf.step0 m80
                  have h1 := h1.keep m80 (fun h => h)
                  have r16 := r16.keep m80 (fun h => h)
                  refine sv (xassign rfl) ?_
                  refine send ?_
                  refine forget_wp [(1, _), (4, _)] ⟨rfl, rfl, trivial⟩ fun _ => ?_
                  refine wp_seq ?_
                  refine sreg ?_
                  refine sv (xfld fl65_14 rfl) ?_
                  refine sv (xld on62 rfl (h1.r.c 14 rfl rfl)) ?_
                  refine sv (xlen sl62 rfl) ?_
                  refine sv (xmove rfl) ?_
                  refine send ?_
                  refine forget_wp [(4, _), (76, _), (77, _), (78, _)] ⟨rfl, rfl, rfl, rfl, trivial⟩ fun _ => ?_
                  refine wp_block ?_
                  refine lp [(76, _), (77, _)] (fun (x : Nat × Value × Nat) => match x with | (k, v, g) => [(4, v), (78, .int .i64 (k : Int))]) (fun (x : Nat × Value × Nat) wx => match x with | (k, v, g) => Fr (fun k => k = b74) w79 wx ∧ (k ≤ r.texts.length) ∧ (BR wx v g (textsL (r.texts.take k)).length (textsL (r.texts.take k))) ∧ (w.heap.size ≤ g) ∧ (g < wx.heap.size) ∧ (g = b74 ∨ w79.heap.size ≤ g)) (fun (x : Nat × Value × Nat) => match x with | (k, v, g) => r.texts.length - k) (0, _, b74) ⟨rfl, rfl, rfl, rfl, trivial⟩ ⟨Fr.refl _ _, Nat.zero_le _, r74, (by omega), (by omega), (.inl rfl)⟩ ?_
                  rintro ⟨k, v, g⟩ _ w82 ⟨hL81, hk, hv4, hg, hg2, hg3⟩
                  refine forget_wp [(4, _), (76, _), (77, _), (78, _)] ⟨rfl, rfl, rfl, rfl, trivial⟩ fun _ => ?_
                  have z83 := hL81.size
                  have hd := hd.keep (fun k hk => by have hk := hU k hk; omega) hL81 (fun k hk hS => by have hk := hU k hk; have hS : k = b74 := hS; omega)
                  have ht := ht.keep text_st (fun k hk => by have hk := hU k hk; omega) hL81 (fun k hk hS => by have hk := hU k hk; have hS : k = b74 := hS; omega)
                  have hp := hp.keep pair_st (fun k hk => by have hk := hU k hk; omega) hL81 (fun k hk hS => by have hk := hU k hk; have hS : k = b74 := hS; omega)
                  have hf := hf.step hL81 (fun k hk hS => by have hS : k = b74 := hS; show False; omega)
                  have h1 := h1.keep hL81 (by show ¬ (b1 = b74); omega)
                  have r16 := r16.keep hL81 (by show ¬ (b16 = b74); omega)
                  obtain ⟨a3, c3, rfl, -⟩ := hv4.form
                  refine sreg ?_
                  refine svP (xlss rfl rfl) (fun hc79 => ?_) (fun hc79 => ?_)
                  · skip
                    refine send ?_
                    refine forget_wp [(4, _), (76, _), (77, _), (78, _), (79, _)] ⟨rfl, rfl, rfl, rfl, rfl, trivial⟩ fun _ => ?_
                    refine wp_seq ?_
                    refine cyes rfl ?_
                    refine wp_skip ?_
                    refine nThen ?_
                    refine forget_wp [(4, _), (76, _), (77, _), (78, _)] ⟨rfl, rfl, rfl, rfl, trivial⟩ fun _ => ?_
                    refine wp_seq ?_
                    refine wp_block ?_
                    obtain ⟨t, htk⟩ := some_of_lt (by omega : k < r.texts.length)
                    have hsk := sum_take_le (f := fun s : ByteArray => s.size) htk
                    have hol : (textsL (r.texts.take k)).length ≤ 3000000 := by rw [textsL_length, List.length_take]; omega
                    refine sreg ?_
                    obtain ⟨bE80, oE80, sgE80, rfl, uE80, hsE80, heE80⟩ := LA.get ht htk
                    obtain rfl := heE80
                    have zE80 := hU _ uE80
                    refine sv (xidx sl62 sz9 rfl rfl rfl (by omega)) ?_
                    refine sv (xld on9 rfl (hsE80.c 0 rfl rfl)) ?_
                    refine sv (xassign rfl) ?_
                    refine send ?_
                    refine forget_wp [(4, _), (6, _), (76, _), (77, _), (78, _)] ⟨rfl, rfl, rfl, rfl, rfl, trivial⟩ fun _ => ?_
                    refine lreg ?_
                    refine sv (xmove rfl) ?_
                    refine sv (xmove rfl) ?_
                    refine sv (xlenS st9 rfl) ?_
                    refine sv (xconv hs3 ki5 rfl (wu8m _)) ?_
                    refine svK (xslit (bvs [UInt8.ofNat t.size]) sl37 in5 rfl (by decide) rfl rfl rfl rfl (by decide) (by simp [bvs, bv, Value.cells]) (bvs_one _)) ?_
                    rintro _ w85 ⟨b86, rfl, m86, h86, e86, s86, r86⟩
                    have hd := hd.keep (fun k hk => by have hk := hU k hk; omega) m86 (fun _ _ h => h)
                    have ht := ht.keep text_st (fun k hk => by have hk := hU k hk; omega) m86 (fun _ _ h => h)
                    have hp := hp.keep pair_st (fun k hk => by have hk := hU k hk; omega) m86 (fun _ _ h => h)
                    have hf := hf.step0 m86
                    have h1 := h1.keep m86 (fun h => h)
                    have r16 := r16.keep m86 (fun h => h)
                    have hv4 := hv4.keep m86 (fun h => h)
                    have hL81 := hL81.step0 m86
                    have hsE80 := hsE80.keep m86 (by omega) (fun h => h)
                    refine svK (xapp sl37 in5 rfl (by decide) rfl rfl hv4 (r86.src sl37) (by simp only [maxLen]; omega) (by omega)) ?_
                    rintro _ w87 ⟨g87, r87, m88, a87, l87⟩
                    have z89 := m88.size
                    have hd := hd.keep (fun k hk => by have hk := hU k hk; omega) m88 (fun k hk hS => by have hk := hU k hk; have hS : k = g := hS; omega)
                    have ht := ht.keep text_st (fun k hk => by have hk := hU k hk; omega) m88 (fun k hk hS => by have hk := hU k hk; have hS : k = g := hS; omega)
                    have hp := hp.keep pair_st (fun k hk => by have hk := hU k hk; omega) m88 (fun k hk hS => by have hk := hU k hk; have hS : k = g := hS; omega)
                    have hf := hf.step m88 (fun k hk hS => by have hS : k = g := hS; show False; omega)
                    have h1 := h1.keep m88 (by show ¬ (b1 = g); omega)
                    have r16 := r16.keep m88 (by show ¬ (b16 = g); omega)
                    have hL81 := hL81.step m88 (fun k hk hS => by have hS : k = g := hS; show k = b74; omega)
                    have hsE80 := hsE80.keep m88 (by omega) (by show ¬ (bE80 = g); omega)
                    obtain ⟨p87, q87, rfl, -⟩ := r87.form
                    refine sv (xmove rfl) ?_
                    refine svK (xapp sl37 in5 rfl (by decide) rfl rfl r87 (src_str st9 t) (by simp only [maxLen]; omega) (by omega)) ?_
                    rintro _ w90 ⟨g89, r89, m91, a89, l89⟩
                    have z92 := m91.size
                    have hd := hd.keep (fun k hk => by have hk := hU k hk; omega) m91 (fun k hk hS => by have hk := hU k hk; have hS : k = g87 := hS; omega)
                    have ht := ht.keep text_st (fun k hk => by have hk := hU k hk; omega) m91 (fun k hk hS => by have hk := hU k hk; have hS : k = g87 := hS; omega)
                    have hp := hp.keep pair_st (fun k hk => by have hk := hU k hk; omega) m91 (fun k hk hS => by have hk := hU k hk; have hS : k = g87 := hS; omega)
                    have hf := hf.step m91 (fun k hk hS => by have hS : k = g87 := hS; show False; omega)
                    have h1 := h1.keep m91 (by show ¬ (b1 = g87); omega)
                    have r16 := r16.keep m91 (by show ¬ (b16 = g87); omega)
                    have hL81 := hL81.step m91 (fun k hk hS => by have hS : k = g87 := hS; show k = b74; omega)
                    have hsE80 := hsE80.keep m91 (by omega) (by show ¬ (bE80 = g87); omega)
                    obtain ⟨p89, q89, rfl, -⟩ := r89.form
                    refine sv (xassign rfl) ?_
                    refine lend ?_
                    refine nBlock ?_
                    refine nThen ?_
                    refine forget_wp [(4, _), (76, _), (77, _), (78, _)] ⟨rfl, rfl, rfl, rfl, trivial⟩ fun _ => ?_
                    refine lreg ?_
                    refine sv (xadd rfl rfl (w64 (by omega) (by omega))) ?_
                    refine sv (xmove rfl) ?_
                    refine lend ?_
                    refine nThen ?_
                    refine ⟨(k + 1, _, g89), _, env_okl ⟨rfl, rfl, rfl, rfl, trivial⟩, ⟨hL81, (by omega), (by rw [texts_snoc htk]; exact br_cast r89 (by simp [textL, bvs, bv]) (by simp [textL]; omega)), (by omega), (by omega), (by omega)⟩, ?_⟩
                    show r.texts.length - (k + 1) < r.texts.length - k; omega
                  · skip
                    refine send ?_
                    refine forget_wp [(4, _), (76, _), (77, _), (78, _), (79, _)] ⟨rfl, rfl, rfl, rfl, rfl, trivial⟩ fun _ => ?_
                    refine wp_seq ?_
                    refine cno rfl ?_
                    refine wp_exit ?_
                    refine eThen ?_
                    refine eThen ?_
                    refine eHit ?_
                    refine nThen ?_
                    refine forget_wp [(4, _)] ⟨rfl, trivial⟩ fun _ => ?_
                    refine sreg ?_
                    refine sv (xmove rfl) ?_
                    refine sv (xassign rfl) ?_
                    refine send ?_
                    refine forget_wp [(2, _)] ⟨rfl, trivial⟩ fun _ => ?_
                    refine wp_ret ?_
                    refine rBlock ?_
                    refine rThen ?_
                    refine rp1 rfl rfl ?_
                    have e : r.texts.take k = r.texts := List.take_of_length_le (by omega)
                    exact new_cast hv4 (by rw [e]; simp [bodyL, *]) hf hg hg2
                · skip
                  refine sv (xassign rfl) ?_
                  refine send ?_
                  refine forget_wp [(1, _), (3, _), (18, _), (72, _)] ⟨rfl, rfl, rfl, rfl, trivial⟩ fun _ => ?_
                  refine cno rfl ?_
                  refine sreg ?_
                  refine svP (xeql rfl rfl) (fun hc93 => ?_) (fun hc93 => ?_)
                  · skip
                    refine sv (xassign rfl) ?_
                    refine send ?_
                    refine forget_wp [(1, _), (3, _), (18, _), (92, _)] ⟨rfl, rfl, rfl, rfl, trivial⟩ fun _ => ?_
                    refine cyes rfl ?_
                    refine sdraw (Fr (fun _ => False) w5.drew) [(0, .rd), (1, .rd), (2, .rd), (4, .rd), (5, .rd), (6, .rd), (8, .rd), (9, .rd), (10, .rd), (12, .rd), (13, .rd), (3, .ld), (7, .ld), (11, .ld), (14, .ld), (15, .ld), (16, .ld), (17, .rd)] mixed (by kernel_rfl) (fun _ _ _ _ _ h => h) ?_
                    have z93 : w5.drew.heap.size = w5.heap.size := rfl
                    have hd := hd.keep (fun k hk => by have hk := hU k hk; omega) (Fr.drew (Fr.refl (fun _ => False) w5)) (fun _ _ h => h)
                    have ht := ht.keep text_st (fun k hk => by have hk := hU k hk; omega) (Fr.drew (Fr.refl (fun _ => False) w5)) (fun _ _ h => h)
                    have hp := hp.keep pair_st (fun k hk => by have hk := hU k hk; omega) (Fr.drew (Fr.refl (fun _ => False) w5)) (fun _ _ h => h)
                    have hf := hf.drew
                    have h1 := h1.drew
                    have r16 := r16.keep (Fr.drew (Fr.refl (fun _ => False) w5)) (fun h => h)
                    have hS94 : Fr (fun _ => False) w5.drew w5.drew := Fr.refl _ _
                    refine hv rfl (fun _ _ => xmove rfl) hS94 ?_
                    refine hv rfl (fun _ _ => xidx1 (i := 0) sl262 sz22 rfl rfl rfl (by decide)) hS94 ?_
                    refine hv rfl (fun w' hS => xld on22 rfl (Rw.rng (r16.keep hS (fun h => h)) 0 _ rfl)) hS94 ?_
                    refine hv rfl (fun _ _ => xmove rfl) hS94 ?_
                    refine hv rfl (fun _ _ => xidx1 (i := 1) sl262 sz22 rfl rfl rfl (by decide)) hS94 ?_
                    refine hv rfl (fun w' hS => xld on22 rfl (Rw.rng (r16.keep hS (fun h => h)) 1 _ rfl)) hS94 ?_
                    refine hv rfl (fun _ _ => xmove rfl) hS94 ?_
                    refine hv rfl (fun _ _ => xidx1 (i := 2) sl262 sz22 rfl rfl rfl (by decide)) hS94 ?_
                    refine hv rfl (fun w' hS => xld on22 rfl (Rw.rng (r16.keep hS (fun h => h)) 2 _ rfl)) hS94 ?_
                    refine hv rfl (fun _ _ => xfld fl65_7 rfl) hS94 ?_
                    refine hv rfl (fun w' hS => xld on9 rfl ((h1.keep hS (fun h => h)).r.c 7 rfl rfl)) hS94 ?_
                    refine hc rfl (xcall ca53 rfl) (c53 (by first | omega | exact u16lt _)) ?_
                    rintro _ w95 ⟨p97, q97, g97, rfl, r97, m96, a97, l97⟩
                    have z97 := m96.size
                    have hd := hd.keep (fun k hk => by have hk := hU k hk; omega) m96 (fun _ _ h => h)
                    have ht := ht.keep text_st (fun k hk => by have hk := hU k hk; omega) m96 (fun _ _ h => h)
                    have hp := hp.keep pair_st (fun k hk => by have hk := hU k hk; omega) m96 (fun _ _ h => h)
                    have hf := hf.step0 m96
                    have h1 := h1.keep m96 (fun h => h)
                    have r16 := r16.keep m96 (fun h => h)
                    have hS98 := hS94.step0 m96
                    refine ⟨hS98, ?_⟩
                    refine hc rfl (xcall ca53 rfl) (c53 (by first | omega | exact u16lt _)) ?_
                    rintro _ w99 ⟨p101, q101, g101, rfl, r101, m100, a101, l101⟩
                    have z101 := m100.size
                    have hd := hd.keep (fun k hk => by have hk := hU k hk; omega) m100 (fun _ _ h => h)
                    have ht := ht.keep text_st (fun k hk => by have hk := hU k hk; omega) m100 (fun _ _ h => h)
                    have hp := hp.keep pair_st (fun k hk => by have hk := hU k hk; omega) m100 (fun _ _ h => h)
                    have hf := hf.step0 m100
                    have h1 := h1.keep m100 (fun h => h)
                    have r16 := r16.keep m100 (fun h => h)
                    have r97 := r97.keep m100 (fun h => h)
                    have hS102 := hS98.step0 m100
                    refine ⟨hS102, ?_⟩
                    refine hc rfl (xcall ca53 rfl) (c53 (by first | omega | exact u16lt _)) ?_
                    rintro _ w103 ⟨p105, q105, g105, rfl, r105, m104, a105, l105⟩
                    have z105 := m104.size
                    have hd := hd.keep (fun k hk => by have hk := hU k hk; omega) m104 (fun _ _ h => h)
                    have ht := ht.keep text_st (fun k hk => by have hk := hU k hk; omega) m104 (fun _ _ h => h)
                    have hp := hp.keep pair_st (fun k hk => by have hk := hU k hk; omega) m104 (fun _ _ h => h)
                    have hf := hf.step0 m104
                    have h1 := h1.keep m104 (fun h => h)
                    have r16 := r16.keep m104 (fun h => h)
                    have r97 := r97.keep m104 (fun h => h)
                    have r101 := r101.keep m104 (fun h => h)
                    have hS106 := hS102.step0 m104
                    refine ⟨hS106, ?_⟩
                    refine hc rfl (xcall ca98 rfl) (c98 (by omega)) ?_
                    rintro _ w107 ⟨p108, q108, g108, rfl, r108, m108, a108, l108⟩
                    have z109 := m108.size
                    have hd := hd.keep (fun k hk => by have hk := hU k hk; omega) m108 (fun _ _ h => h)
                    have ht := ht.keep text_st (fun k hk => by have hk := hU k hk; omega) m108 (fun _ _ h => h)
                    have hp := hp.keep pair_st (fun k hk => by have hk := hU k hk; omega) m108 (fun _ _ h => h)
                    have hf := hf.step0 m108
                    have h1 := h1.keep m108 (fun h => h)
                    have r16 := r16.keep m108 (fun h => h)
                    have r97 := r97.keep m108 (fun h => h)
                    have r101 := r101.keep m108 (fun h => h)
                    have r105 := r105.keep m108 (fun h => h)
                    have hS110 := hS106.step0 m108
                    refine ⟨hS110, ?_⟩
                    refine hlK rfl (xslit [_, _, _, _] sl105 in37 rfl (by decide) rfl rfl rfl rfl (by decide) rfl rfl) ?_
                    rintro _ w112 ⟨b109, rfl, m113, h109, e109, s109, r109⟩
                    have hd := hd.keep (fun k hk => by have hk := hU k hk; omega) m113 (fun _ _ h => h)
                    have ht := ht.keep text_st (fun k hk => by have hk := hU k hk; omega) m113 (fun _ _ h => h)
                    have hp := hp.keep pair_st (fun k hk => by have hk := hU k hk; omega) m113 (fun _ _ h => h)
                    have hf := hf.step0 m113
                    have h1 := h1.keep m113 (fun h => h)
                    have r16 := r16.keep m113 (fun h => h)
                    have r97 := r97.keep m113 (fun h => h)
                    have r101 := r101.keep m113 (fun h => h)
                    have r105 := r105.keep m113 (fun h => h)
                    have r108 := r108.keep m113 (fun h => h)
                    have hS114 := hS110.step0 m113
                    refine ⟨hS114, ?_⟩
                    refine hc rfl (xcall ca21 rfl) (c21 (U := fun k => k = g97 ∨ k = g101 ∨ k = g105 ∨ k = g108) (Rw.rng r109) (by omega) rfl (fun k hk => by have hk : k = g97 ∨ k = g101 ∨ k = g105 ∨ k = g108 := hk; rcases hk with hk | hk | hk | hk <;> first | omega | (have := hU k hk; omega)) (All2.cons (BR.ba r97 (.inl rfl)) (All2.cons (BR.ba r101 (.inr (.inl rfl))) (All2.cons (BR.ba r105 (.inr (.inr (.inl rfl)))) (All2.cons (BR.ba r108 (.inr (.inr (.inr rfl)))) All2.nil)))) (by simp only [List.flatten_cons, List.flatten_nil, List.length_append, be16_length, List.length_nil]; omega) (by decide)) ?_
                    rintro _ w115 ⟨p110, q110, g110, rfl, r110, m116, a110, l110⟩
                    have z117 := m116.size
                    have hd := hd.keep (fun k hk => by have hk := hU k hk; omega) m116 (fun _ _ h => h)
                    have ht := ht.keep text_st (fun k hk => by have hk := hU k hk; omega) m116 (fun _ _ h => h)
                    have hp := hp.keep pair_st (fun k hk => by have hk := hU k hk; omega) m116 (fun _ _ h => h)
                    have hf := hf.step0 m116
                    have h1 := h1.keep m116 (fun h => h)
                    have r16 := r16.keep m116 (fun h => h)
                    have r97 := r97.keep m116 (fun h => h)
                    have r101 := r101.keep m116 (fun h => h)
                    have r105 := r105.keep m116 (fun h => h)
                    have r108 := r108.keep m116 (fun h => h)
                    have r109 := r109.keep m116 (fun h => h)
                    have hS118 := hS114.step0 m116
                    refine ⟨hS118, ?_⟩
                    refine hv rfl (fun _ _ => xassign rfl) hS118 ?_
                    refine hend ?_
                    refine forget_wp [(2, _)] ⟨rfl, trivial⟩ fun _ => ?_
                    refine wp_ret ?_
                    refine rBlock ?_
                    refine rThen ?_
                    refine rp1 rfl rfl ?_
                    exact new_cast r110 (by simp [bodyL, two16, *]) hf (by omega) (by omega)
                  · skip
                    refine sv (xassign rfl) ?_
                    refine send ?_
                    refine forget_wp [(1, _), (3, _), (18, _), (92, _)] ⟨rfl, rfl, rfl, rfl, trivial⟩ fun _ => ?_
                    refine cno rfl ?_
                    refine sreg ?_
                    refine svP (xeql rfl rfl) (fun hc112 => ?_) (fun hc112 => ?_)
                    · skip
                      refine sv (xassign rfl) ?_
                      refine send ?_
                      refine forget_wp [(1, _), (3, _), (18, _), (111, _)] ⟨rfl, rfl, rfl, rfl, trivial⟩ fun _ => ?_
                      refine cyes rfl ?_
                      refine sreg ?_
                      refine sv (xfld fl65_15 rfl) ?_
                      refine sv (xld on63 rfl (h1.r.c 15 rfl rfl)) ?_
                      refine sc (xcall ca147 rfl) (c147 (fun k hk => by have hk := hU k hk; omega) hp (by omega) (by omega)) ?_
                      rintro _ w119 ⟨p115, q115, g115, rfl, r115, m120, a115, l115⟩
                      have z121 := m120.size
                      have hd := hd.keep (fun k hk => by have hk := hU k hk; omega) m120 (fun _ _ h => h)
                      have ht := ht.keep text_st (fun k hk => by have hk := hU k hk; omega) m120 (fun _ _ h => h)
                      have hp := hp.keep pair_st (fun k hk => by have hk := hU k hk; omega) m120 (fun _ _ h => h)
                      have hf := hf.step0 m120
                      have h1 := h1.keep m120 (fun h => h)
                      have r16 := r16.keep m120 (fun h => h)
                      refine sv (xassign rfl) ?_
                      refine send ?_
                      refine forget_wp [(2, _)] ⟨rfl, trivial⟩ fun _ => ?_
                      refine wp_ret ?_
                      refine rBlock ?_
                      refine rThen ?_
                      refine rp1 rfl rfl ?_
                      exact new_cast r115 (by simp [bodyL, *]) hf (by omega) (by omega)
                    · skip
                      refine sv (xassign rfl) ?_
                      refine send ?_
                      refine forget_wp [(1, _), (3, _), (18, _), (111, _)] ⟨rfl, rfl, rfl, rfl, trivial⟩ fun _ => ?_
                      refine cno rfl ?_
                      refine wp_seq ?_
                      refine sreg ?_
                      refine svP (xeql rfl rfl) (fun hc117 => ?_) (fun hc117 => ?_)
                      · skip
                        refine sv (xassign rfl) ?_
                        refine send ?_
                        refine forget_wp [(1, _), (3, _), (18, _), (116, _)] ⟨rfl, rfl, rfl, rfl, trivial⟩ fun _ => ?_
                        refine cyes rfl ?_
                        refine wp_skip ?_
                        refine nThen ?_
                        refine forget_wp [(1, _), (3, _), (116, _)] ⟨rfl, rfl, rfl, trivial⟩ fun _ => ?_
                        refine cyes rfl ?_
                        refine sdraw (Fr (fun _ => False) w5.drew) [(0, .rd), (1, .rd), (2, .rd), (4, .rd), (5, .rd), (7, .rd), (8, .rd), (3, .ld), (6, .ld), (9, .ld), (10, .ld), (11, .ld), (12, .rd)] mixed (by kernel_rfl) (fun _ _ _ _ _ h => h) ?_
                        have z122 : w5.drew.heap.size = w5.heap.size := rfl
                        have hd := hd.keep (fun k hk => by have hk := hU k hk; omega) (Fr.drew (Fr.refl (fun _ => False) w5)) (fun _ _ h => h)
                        have ht := ht.keep text_st (fun k hk => by have hk := hU k hk; omega) (Fr.drew (Fr.refl (fun _ => False) w5)) (fun _ _ h => h)
                        have hp := hp.keep pair_st (fun k hk => by have hk := hU k hk; omega) (Fr.drew (Fr.refl (fun _ => False) w5)) (fun _ _ h => h)
                        have hf := hf.drew
                        have h1 := h1.drew
                        have r16 := r16.keep (Fr.drew (Fr.refl (fun _ => False) w5)) (fun h => h)
                        have hS123 : Fr (fun _ => False) w5.drew w5.drew := Fr.refl _ _
                        refine hv rfl (fun _ _ => xmove rfl) hS123 ?_
                        refine hv rfl (fun _ _ => xidx1 (i := 0) sl262 sz22 rfl rfl rfl (by decide)) hS123 ?_
                        refine hv rfl (fun w' hS => xld on22 rfl (Rw.rng (r16.keep hS (fun h => h)) 0 _ rfl)) hS123 ?_
                        refine hv rfl (fun _ _ => xfld fl65_7 rfl) hS123 ?_
                        refine hv rfl (fun w' hS => xld on9 rfl ((h1.keep hS (fun h => h)).r.c 7 rfl rfl)) hS123 ?_
                        refine hv rfl (fun _ _ => xfld fl65_15 rfl) hS123 ?_
                        refine hv rfl (fun w' hS => xld on63 rfl ((h1.keep hS (fun h => h)).r.c 15 rfl rfl)) hS123 ?_
                        refine hc rfl (xcall ca53 rfl) (c53 (by first | omega | exact u16lt _)) ?_
                        rintro _ w124 ⟨p122, q122, g122, rfl, r122, m125, a122, l122⟩
                        have z126 := m125.size
                        have hd := hd.keep (fun k hk => by have hk := hU k hk; omega) m125 (fun _ _ h => h)
                        have ht := ht.keep text_st (fun k hk => by have hk := hU k hk; omega) m125 (fun _ _ h => h)
                        have hp := hp.keep pair_st (fun k hk => by have hk := hU k hk; omega) m125 (fun _ _ h => h)
                        have hf := hf.step0 m125
                        have h1 := h1.keep m125 (fun h => h)
                        have r16 := r16.keep m125 (fun h => h)
                        have hS127 := hS123.step0 m125
                        refine ⟨hS127, ?_⟩
                        refine hc rfl (xcall ca98 rfl) (c98 (by omega)) ?_
                        rintro _ w128 ⟨p125, q125, g125, rfl, r125, m129, a125, l125⟩
                        have z130 := m129.size
                        have hd := hd.keep (fun k hk => by have hk := hU k hk; omega) m129 (fun _ _ h => h)
                        have ht := ht.keep text_st (fun k hk => by have hk := hU k hk; omega) m129 (fun _ _ h => h)
                        have hp := hp.keep pair_st (fun k hk => by have hk := hU k hk; omega) m129 (fun _ _ h => h)
                        have hf := hf.step0 m129
                        have h1 := h1.keep m129 (fun h => h)
                        have r16 := r16.keep m129 (fun h => h)
                        have r122 := r122.keep m129 (fun h => h)
                        have hS131 := hS127.step0 m129
                        refine ⟨hS131, ?_⟩
                        refine hc rfl (xcall ca147 rfl) (c147 (fun k hk => by have hk := hU k hk; omega) hp (by omega) (by omega)) ?_
                        rintro _ w132 ⟨p128, q128, g128, rfl, r128, m133, a128, l128⟩
                        have z134 := m133.size
                        have hd := hd.keep (fun k hk => by have hk := hU k hk; omega) m133 (fun _ _ h => h)
                        have ht := ht.keep text_st (fun k hk => by have hk := hU k hk; omega) m133 (fun _ _ h => h)
                        have hp := hp.keep pair_st (fun k hk => by have hk := hU k hk; omega) m133 (fun _ _ h => h)
                        have hf := hf.step0 m133
                        have h1 := h1.keep m133 (fun h => h)
                        have r16 := r16.keep m133 (fun h => h)
                        have r122 := r122.keep m133 (fun h => h)
                        have r125 := r125.keep m133 (fun h => h)
                        have hS135 := hS131.step0 m133
                        refine ⟨hS135, ?_⟩
                        refine hlK rfl (xslit [_, _, _] sl105 in37 rfl (by decide) rfl rfl rfl rfl (by decide) rfl rfl) ?_
                        rintro _ w137 ⟨b129, rfl, m138, h129, e129, s129, r129⟩
                        have hd := hd.keep (fun k hk => by have hk := hU k hk; omega) m138 (fun _ _ h => h)
                        have ht := ht.keep text_st (fun k hk => by have hk := hU k hk; omega) m138 (fun _ _ h => h)
                        have hp := hp.keep pair_st (fun k hk => by have hk := hU k hk; omega) m138 (fun _ _ h => h)
                        have hf := hf.step0 m138
                        have h1 := h1.keep m138 (fun h => h)
                        have r16 := r16.keep m138 (fun h => h)
                        have r122 := r122.keep m138 (fun h => h)
                        have r125 := r125.keep m138 (fun h => h)
                        have r128 := r128.keep m138 (fun h => h)
                        have hS139 := hS135.step0 m138
                        refine ⟨hS139, ?_⟩
                        refine hc rfl (xcall ca21 rfl) (c21 (U := fun k => k = g122 ∨ k = g125 ∨ k = g128) (Rw.rng r129) (by omega) rfl (fun k hk => by have hk : k = g122 ∨ k = g125 ∨ k = g128 := hk; rcases hk with hk | hk | hk <;> first | omega | (have := hU k hk; omega)) (All2.cons (BR.ba r122 (.inl rfl)) (All2.cons (BR.ba r125 (.inr (.inl rfl))) (All2.cons (BR.ba r128 (.inr (.inr rfl))) All2.nil))) (by simp only [List.flatten_cons, List.flatten_nil, List.length_append, be16_length, List.length_nil]; omega) (by decide)) ?_
                        rintro _ w140 ⟨p130, q130, g130, rfl, r130, m141, a130, l130⟩
                        have z142 := m141.size
                        have hd := hd.keep (fun k hk => by have hk := hU k hk; omega) m141 (fun _ _ h => h)
                        have ht := ht.keep text_st (fun k hk => by have hk := hU k hk; omega) m141 (fun _ _ h => h)
                        have hp := hp.keep pair_st (fun k hk => by have hk := hU k hk; omega) m141 (fun _ _ h => h)
                        have hf := hf.step0 m141
                        have h1 := h1.keep m141 (fun h => h)
                        have r16 := r16.keep m141 (fun h => h)
                        have r122 := r122.keep m141 (fun h => h)
                        have r125 := r125.keep m141 (fun h => h)
                        have r128 := r128.keep m141 (fun h => h)
                        have r129 := r129.keep m141 (fun h => h)
                        have hS143 := hS139.step0 m141
                        refine ⟨hS143, ?_⟩
                        refine hv rfl (fun _ _ => xassign rfl) hS143 ?_
                        refine hend ?_
                        refine forget_wp [(2, _)] ⟨rfl, trivial⟩ fun _ => ?_
                        refine wp_ret ?_
                        refine rBlock ?_
                        refine rThen ?_
                        refine rp1 rfl rfl ?_
                        exact new_cast r130 (by simp [bodyL, two16, *]) hf (by omega) (by omega)
                      · skip
                        refine sv (xassign rfl) ?_
                        refine send ?_
                        refine forget_wp [(1, _), (3, _), (18, _), (116, _)] ⟨rfl, rfl, rfl, rfl, trivial⟩ fun _ => ?_
                        refine cno rfl ?_
                        refine lreg ?_
                        refine svP (xeql rfl rfl) (fun hc118 => ?_) (fun hc118 => ?_)
                        · skip
                          refine sv (xassign rfl) ?_
                          refine lend ?_
                          refine nThen ?_
                          refine forget_wp [(1, _), (3, _), (116, _)] ⟨rfl, rfl, rfl, trivial⟩ fun _ => ?_
                          refine cyes rfl ?_
                          refine sdraw (Fr (fun _ => False) w5.drew) [(0, .rd), (1, .rd), (2, .rd), (4, .rd), (5, .rd), (7, .rd), (8, .rd), (3, .ld), (6, .ld), (9, .ld), (10, .ld), (11, .ld), (12, .rd)] mixed (by kernel_rfl) (fun _ _ _ _ _ h => h) ?_
                          have z144 : w5.drew.heap.size = w5.heap.size := rfl
                          have hd := hd.keep (fun k hk => by have hk := hU k hk; omega) (Fr.drew (Fr.refl (fun _ => False) w5)) (fun _ _ h => h)
                          have ht := ht.keep text_st (fun k hk => by have hk := hU k hk; omega) (Fr.drew (Fr.refl (fun _ => False) w5)) (fun _ _ h => h)
                          have hp := hp.keep pair_st (fun k hk => by have hk := hU k hk; omega) (Fr.drew (Fr.refl (fun _ => False) w5)) (fun _ _ h => h)
                          have hf := hf.drew
                          have h1 := h1.drew
                          have r16 := r16.keep (Fr.drew (Fr.refl (fun _ => False) w5)) (fun h => h)
                          have hS145 : Fr (fun _ => False) w5.drew w5.drew := Fr.refl _ _
                          refine hv rfl (fun _ _ => xmove rfl) hS145 ?_
                          refine hv rfl (fun _ _ => xidx1 (i := 0) sl262 sz22 rfl rfl rfl (by decide)) hS145 ?_
                          refine hv rfl (fun w' hS => xld on22 rfl (Rw.rng (r16.keep hS (fun h => h)) 0 _ rfl)) hS145 ?_
                          refine hv rfl (fun _ _ => xfld fl65_7 rfl) hS145 ?_
                          refine hv rfl (fun w' hS => xld on9 rfl ((h1.keep hS (fun h => h)).r.c 7 rfl rfl)) hS145 ?_
                          refine hv rfl (fun _ _ => xfld fl65_15 rfl) hS145 ?_
                          refine hv rfl (fun w' hS => xld on63 rfl ((h1.keep hS (fun h => h)).r.c 15 rfl rfl)) hS145 ?_
                          refine hc rfl (xcall ca53 rfl) (c53 (by first | omega | exact u16lt _)) ?_
                          rintro _ w146 ⟨p122, q122, g122, rfl, r122, m147, a122, l122⟩
                          have z148 := m147.size
                          have hd := hd.keep (fun k hk => by have hk := hU k hk; omega) m147 (fun _ _ h => h)
                          have ht := ht.keep text_st (fun k hk => by have hk := hU k hk; omega) m147 (fun _ _ h => h)
                          have hp := hp.keep pair_st (fun k hk => by have hk := hU k hk; omega) m147 (fun _ _ h => h)
                          have hf := hf.step0 m147
                          have h1 := h1.keep m147 (fun h => h)
                          have r16 := r16.keep m147 (fun h => h)
                          have hS149 := hS145.step0 m147
                          refine ⟨hS149, ?_⟩
                          refine hc rfl (xcall ca98 rfl) (c98 (by omega)) ?_
                          rintro _ w150 ⟨p125, q125, g125, rfl, r125, m151, a125, l125⟩
                          have z152 := m151.size
                          have hd := hd.keep (fun k hk => by have hk := hU k hk; omega) m151 (fun _ _ h => h)
                          have ht := ht.keep text_st (fun k hk => by have hk := hU k hk; omega) m151 (fun _ _ h => h)
                          have hp := hp.keep pair_st (fun k hk => by have hk := hU k hk; omega) m151 (fun _ _ h => h)
                          have hf := hf.step0 m151
                          have h1 := h1.keep m151 (fun h => h)
                          have r16 := r16.keep m151 (fun h => h)
                          have r122 := r122.keep m151 (fun h => h)
                          have hS153 := hS149.step0 m151
                          refine ⟨hS153, ?_⟩
                          refine hc rfl (xcall ca147 rfl) (c147 (fun k hk => by have hk := hU k hk; omega) hp (by omega) (by omega)) ?_
                          rintro _ w154 ⟨p128, q128, g128, rfl, r128, m155, a128, l128⟩
                          have z156 := m155.size
                          have hd := hd.keep (fun k hk => by have hk := hU k hk; omega) m155 (fun _ _ h => h)
                          have ht := ht.keep text_st (fun k hk => by have hk := hU k hk; omega) m155 (fun _ _ h => h)
                          have hp := hp.keep pair_st (fun k hk => by have hk := hU k hk; omega) m155 (fun _ _ h => h)
                          have hf := hf.step0 m155
                          have h1 := h1.keep m155 (fun h => h)
                          have r16 := r16.keep m155 (fun h => h)
                          have r122 := r122.keep m155 (fun h => h)
                          have r125 := r125.keep m155 (fun h => h)
                          have hS157 := hS153.step0 m155
                          refine ⟨hS157, ?_⟩
                          refine hlK rfl (xslit [_, _, _] sl105 in37 rfl (by decide) rfl rfl rfl rfl (by decide) rfl rfl) ?_
                          rintro _ w159 ⟨b129, rfl, m160, h129, e129, s129, r129⟩
                          have hd := hd.keep (fun k hk => by have hk := hU k hk; omega) m160 (fun _ _ h => h)
                          have ht := ht.keep text_st (fun k hk => by have hk := hU k hk; omega) m160 (fun _ _ h => h)
                          have hp := hp.keep pair_st (fun k hk => by have hk := hU k hk; omega) m160 (fun _ _ h => h)
                          have hf := hf.step0 m160
                          have h1 := h1.keep m160 (fun h => h)
                          have r16 := r16.keep m160 (fun h => h)
                          have r122 := r122.keep m160 (fun h => h)
                          have r125 := r125.keep m160 (fun h => h)
                          have r128 := r128.keep m160 (fun h => h)
                          have hS161 := hS157.step0 m160
                          refine ⟨hS161, ?_⟩
                          refine hc rfl (xcall ca21 rfl) (c21 (U := fun k => k = g122 ∨ k = g125 ∨ k = g128) (Rw.rng r129) (by omega) rfl (fun k hk => by have hk : k = g122 ∨ k = g125 ∨ k = g128 := hk; rcases hk with hk | hk | hk <;> first | omega | (have := hU k hk; omega)) (All2.cons (BR.ba r122 (.inl rfl)) (All2.cons (BR.ba r125 (.inr (.inl rfl))) (All2.cons (BR.ba r128 (.inr (.inr rfl))) All2.nil))) (by simp only [List.flatten_cons, List.flatten_nil, List.length_append, be16_length, List.length_nil]; omega) (by decide)) ?_
                          rintro _ w162 ⟨p130, q130, g130, rfl, r130, m163, a130, l130⟩
                          have z164 := m163.size
                          have hd := hd.keep (fun k hk => by have hk := hU k hk; omega) m163 (fun _ _ h => h)
                          have ht := ht.keep text_st (fun k hk => by have hk := hU k hk; omega) m163 (fun _ _ h => h)
                          have hp := hp.keep pair_st (fun k hk => by have hk := hU k hk; omega) m163 (fun _ _ h => h)
                          have hf := hf.step0 m163
                          have h1 := h1.keep m163 (fun h => h)
                          have r16 := r16.keep m163 (fun h => h)
                          have r122 := r122.keep m163 (fun h => h)
                          have r125 := r125.keep m163 (fun h => h)
                          have r128 := r128.keep m163 (fun h => h)
                          have r129 := r129.keep m163 (fun h => h)
                          have hS165 := hS161.step0 m163
                          refine ⟨hS165, ?_⟩
                          refine hv rfl (fun _ _ => xassign rfl) hS165 ?_
                          refine hend ?_
                          refine forget_wp [(2, _)] ⟨rfl, trivial⟩ fun _ => ?_
                          refine wp_ret ?_
                          refine rBlock ?_
                          refine rThen ?_
                          refine rp1 rfl rfl ?_
                          exact new_cast r130 (by simp [bodyL, two16, *]) hf (by omega) (by omega)
                        · skip
                          refine sv (xassign rfl) ?_
                          refine lend ?_
                          refine nThen ?_
                          refine forget_wp [(1, _), (3, _), (116, _)] ⟨rfl, rfl, rfl, trivial⟩ fun _ => ?_
                          refine cno rfl ?_
                          refine wp_skip ?_
                          refine nBlock ?_
                          refine nThen ?_
                          refine forget_wp [(1, _)] ⟨rfl, trivial⟩ fun _ => ?_
                          refine sreg ?_
                          refine sv (xfld fl65_6 rfl) ?_
                          refine sv (xld on37 rfl (h1.r.c 6 rfl rfl)) ?_
                          refine svK (xslit [_] sl105 in37 rfl (by decide) rfl rfl rfl rfl (by decide) rfl rfl) ?_
                          rintro _ w167 ⟨b133, rfl, m168, h133, e133, s133, r133⟩
                          have hd := hd.keep (fun k hk => by have hk := hU k hk; omega) m168 (fun _ _ h => h)
                          have ht := ht.keep text_st (fun k hk => by have hk := hU k hk; omega) m168 (fun _ _ h => h)
                          have hp := hp.keep pair_st (fun k hk => by have hk := hU k hk; omega) m168 (fun _ _ h => h)
                          have hf := hf.step0 m168
                          have h1 := h1.keep m168 (fun h => h)
                          have r16 := r16.keep m168 (fun h => h)
                          refine sc (xcall ca21 rfl) (c21 (U := fun k => U k) (Rw.rng r133) (by omega) rfl (fun k hk => by have hk : U k := hk; first | omega | (have := hU k hk; omega)) (All2.cons (BA.mono hd (fun k h => h)) All2.nil) (by simp only [List.flatten_cons, List.flatten_nil, List.length_append, List.length_nil]; omega) (by decide)) ?_
                          rintro _ w169 ⟨p134, q134, g134, rfl, r134, m170, a134, l134⟩
                          have z171 := m170.size
                          have hd := hd.keep (fun k hk => by have hk := hU k hk; omega) m170 (fun _ _ h => h)
                          have ht := ht.keep text_st (fun k hk => by have hk := hU k hk; omega) m170 (fun _ _ h => h)
                          have hp := hp.keep pair_st (fun k hk => by have hk := hU k hk; omega) m170 (fun _ _ h => h)
                          have hf := hf.step0 m170
                          have h1 := h1.keep m170 (fun h => h)
                          have r16 := r16.keep m170 (fun h => h)
                          have r133 := r133.keep m170 (fun h => h)
                          refine sv (xassign rfl) ?_
                          refine send ?_
                          refine forget_wp [(2, _)] ⟨rfl, trivial⟩ fun _ => ?_
                          refine wp_ret ?_
                          refine rp1 rfl rfl ?_
                          exact new_cast r134 (by simp [bodyL, *]) hf (by omega) (by omega)
set_option maxRecDepth 100000 in
theorem c46 {w : World} {U : Nat → Prop} (hU : ∀ k, U k → k < w.heap.size) {r : RecD} {vd vt vp : Value} (hd : BA U w vd r.data) (ht : LA TextEl [1] U w vt r.texts) (hp : LA PairEl lPair U w vp r.pairs) (hr : r.fits) (h0 : 0 ≤ r.kind) (h1 : r.kind ≤ 13) :
    Ret PP 46 [ag (recSegs r vd vt vp)] w (fun u w' => New w (recL r).length (recL r) u w') := by
  have hw1 := wire_le (bt r.name)
  rw [bt_length] at hw1
  have hbl := bodyL_fits hr
  have hr0 := hr
  simp only [RecD.fits] at hr0
  have hf : Fr (fun _ => False) w w := Fr.refl _ _
  refine ret_of Tryz.func46 rfl rfl rfl [(0, _)] rfl ?_
  refine sreg ?_
  refine svK (xboxS (lens := [1, 1, 1, 1, 1, 1, 1, 1, 1, 1, 1, 1, 1, 1, 1, 1]) rfl rfl) ?_
  rintro _ w2 ⟨b1, rfl, m3, h1, e1, s1⟩
  have hd := hd.keep (fun k hk => by have hk := hU k hk; omega) m3 (fun _ _ h => h)
  have ht := ht.keep text_st (fun k hk => by have hk := hU k hk; omega) m3 (fun _ _ h => h)
  have hp := hp.keep pair_st (fun k hk => by have hk := hU k hk; omega) m3 (fun _ _ h => h)
  have hf := hf.step0 m3
  refine sv (xassign rfl) ?_
  refine send ?_
  refine forget_wp [(1, _)] ⟨rfl, trivial⟩ fun _ => ?_
  refine sreg ?_
  refine sv (xldS (lens := [1, 1, 1, 1, 1, 1, 1, 1, 1, 1, 1, 1, 1, 1, 1, 1]) ro65 rfl h1.r) ?_
  refine sc (xcall ca84 rfl) (c84 (fun k hk => by have hk := hU k hk; omega) hd ht hp hr) ?_
  rintro _ w4 ⟨p5, q5, g5, rfl, r5, m5, a5, l5⟩
  have z6 := m5.size
  have hd := hd.keep (fun k hk => by have hk := hU k hk; omega) m5 (fun _ _ h => h)
  have ht := ht.keep text_st (fun k hk => by have hk := hU k hk; omega) m5 (fun _ _ h => h)
  have hp := hp.keep pair_st (fun k hk => by have hk := hU k hk; omega) m5 (fun _ _ h => h)
  have hf := hf.step0 m5
  have h1 := h1.keep m5 (fun h => h)
  refine sv (xassign rfl) ?_
  refine send ?_
  refine forget_wp [(1, _), (3, _)] ⟨rfl, rfl, trivial⟩ fun _ => ?_
  refine sdraw (Fr (fun _ => False) w4.drew) [(0, .rd), (1, .rd), (3, .rd), (6, .rd), (7, .rd), (9, .rd), (10, .rd), (12, .rd), (13, .rd), (14, .rd), (16, .rd), (2, .ld), (4, .ld), (5, .ld), (8, .ld), (11, .ld), (15, .ld), (17, .ld), (18, .ld), (19, .rd)] mixed (by kernel_rfl) (fun _ _ _ _ _ h => h) ?_
  have z7 : w4.drew.heap.size = w4.heap.size := rfl
  have hd := hd.keep (fun k hk => by have hk := hU k hk; omega) (Fr.drew (Fr.refl (fun _ => False) w4)) (fun _ _ h => h)
  have ht := ht.keep text_st (fun k hk => by have hk := hU k hk; omega) (Fr.drew (Fr.refl (fun _ => False) w4)) (fun _ _ h => h)
  have hp := hp.keep pair_st (fun k hk => by have hk := hU k hk; omega) (Fr.drew (Fr.refl (fun _ => False) w4)) (fun _ _ h => h)
  have hf := hf.drew
  have h1 := h1.drew
  have r5 := r5.keep (Fr.drew (Fr.refl (fun _ => False) w4)) (fun h => h)
  have hS8 : Fr (fun _ => False) w4.drew w4.drew := Fr.refl _ _
  refine hv rfl (fun _ _ => xfld fl65_0 rfl) hS8 ?_
  refine hv rfl (fun w' hS => xld on9 rfl ((h1.keep hS (fun h => h)).r.c 0 rfl rfl)) hS8 ?_
  refine hv rfl (fun w' hS => xldS (lens := [1, 1, 1, 1, 1, 1, 1, 1, 1, 1, 1, 1, 1, 1, 1, 1]) ro65 rfl (h1.keep hS (fun h => h)).r) hS8 ?_
  refine hv rfl (fun _ _ => xfld fl65_2 rfl) hS8 ?_
  refine hv rfl (fun w' hS => xld on22 rfl ((h1.keep hS (fun h => h)).r.c 2 rfl rfl)) hS8 ?_
  refine hv rfl (fun _ _ => xfld fl65_3 rfl) hS8 ?_
  refine hv rfl (fun w' hS => xld on61 rfl ((h1.keep hS (fun h => h)).r.c 3 rfl rfl)) hS8 ?_
  refine hv rfl (fun _ _ => xmove rfl) hS8 ?_
  refine hv rfl (fun _ _ => xlen sl37 rfl) hS8 ?_
  refine hv rfl (fun _ _ => xconv hs3 ki22 rfl (wu16n ((bodyL r).length % 65536) (by omega))) hS8 ?_
  refine hv rfl (fun _ _ => xmove rfl) hS8 ?_
  refine hc rfl (xcall ca98 rfl) (c98 (by omega)) ?_
  rintro _ w9 ⟨p8, q8, g8, rfl, r8, m10, a8, l8⟩
  have z11 := m10.size
  have hd := hd.keep (fun k hk => by have hk := hU k hk; omega) m10 (fun _ _ h => h)
  have ht := ht.keep text_st (fun k hk => by have hk := hU k hk; omega) m10 (fun _ _ h => h)
  have hp := hp.keep pair_st (fun k hk => by have hk := hU k hk; omega) m10 (fun _ _ h => h)
  have hf := hf.step0 m10
  have h1 := h1.keep m10 (fun h => h)
  have r5 := r5.keep m10 (fun h => h)
  have hS12 := hS8.step0 m10
  refine ⟨hS12, ?_⟩
  refine hc rfl (xcall ca86 rfl) (c86 (by omega) (by omega)) ?_
  rintro _ w13 ⟨rfl, m14⟩
  have z15 := m14.size
  have hd := hd.keep (fun k hk => by have hk := hU k hk; omega) m14 (fun _ _ h => h)
  have ht := ht.keep text_st (fun k hk => by have hk := hU k hk; omega) m14 (fun _ _ h => h)
  have hp := hp.keep pair_st (fun k hk => by have hk := hU k hk; omega) m14 (fun _ _ h => h)
  have hf := hf.step0 m14
  have h1 := h1.keep m14 (fun h => h)
  have r5 := r5.keep m14 (fun h => h)
  have r8 := r8.keep m14 (fun h => h)
  have hS16 := hS12.step0 m14
  refine ⟨hS16, ?_⟩
  refine hc rfl (xcall ca53 rfl) (c53 (by first | omega | exact u16lt _)) ?_
  rintro _ w17 ⟨p11, q11, g11, rfl, r11, m18, a11, l11⟩
  have z19 := m18.size
  have hd := hd.keep (fun k hk => by have hk := hU k hk; omega) m18 (fun _ _ h => h)
  have ht := ht.keep text_st (fun k hk => by have hk := hU k hk; omega) m18 (fun _ _ h => h)
  have hp := hp.keep pair_st (fun k hk => by have hk := hU k hk; omega) m18 (fun _ _ h => h)
  have hf := hf.step0 m18
  have h1 := h1.keep m18 (fun h => h)
  have r5 := r5.keep m18 (fun h => h)
  have r8 := r8.keep m18 (fun h => h)
  have hS20 := hS16.step0 m18
  refine ⟨hS20, ?_⟩
  refine hc rfl (xcall ca53 rfl) (c53 (by first | omega | exact u16lt _)) ?_
  rintro _ w21 ⟨p14, q14, g14, rfl, r14, m22, a14, l14⟩
  have z23 := m22.size
  have hd := hd.keep (fun k hk => by have hk := hU k hk; omega) m22 (fun _ _ h => h)
  have ht := ht.keep text_st (fun k hk => by have hk := hU k hk; omega) m22 (fun _ _ h => h)
  have hp := hp.keep pair_st (fun k hk => by have hk := hU k hk; omega) m22 (fun _ _ h => h)
  have hf := hf.step0 m22
  have h1 := h1.keep m22 (fun h => h)
  have r5 := r5.keep m22 (fun h => h)
  have r8 := r8.keep m22 (fun h => h)
  have r11 := r11.keep m22 (fun h => h)
  have hS24 := hS20.step0 m22
  refine ⟨hS24, ?_⟩
  refine hc rfl (xcall ca99 rfl) (c99 (by first | omega | exact u32lt _)) ?_
  rintro _ w25 ⟨p17, q17, g17, rfl, r17, m26, a17, l17⟩
  have z27 := m26.size
  have hd := hd.keep (fun k hk => by have hk := hU k hk; omega) m26 (fun _ _ h => h)
  have ht := ht.keep text_st (fun k hk => by have hk := hU k hk; omega) m26 (fun _ _ h => h)
  have hp := hp.keep pair_st (fun k hk => by have hk := hU k hk; omega) m26 (fun _ _ h => h)
  have hf := hf.step0 m26
  have h1 := h1.keep m26 (fun h => h)
  have r5 := r5.keep m26 (fun h => h)
  have r8 := r8.keep m26 (fun h => h)
  have r11 := r11.keep m26 (fun h => h)
  have r14 := r14.keep m26 (fun h => h)
  have hS28 := hS24.step0 m26
  refine ⟨hS28, ?_⟩
  refine hc rfl (xcall ca53 rfl) (c53 (by first | omega | exact u16lt _)) ?_
  rintro _ w29 ⟨p21, q21, g21, rfl, r21, m30, a21, l21⟩
  have z31 := m30.size
  have hd := hd.keep (fun k hk => by have hk := hU k hk; omega) m30 (fun _ _ h => h)
  have ht := ht.keep text_st (fun k hk => by have hk := hU k hk; omega) m30 (fun _ _ h => h)
  have hp := hp.keep pair_st (fun k hk => by have hk := hU k hk; omega) m30 (fun _ _ h => h)
  have hf := hf.step0 m30
  have h1 := h1.keep m30 (fun h => h)
  have r5 := r5.keep m30 (fun h => h)
  have r8 := r8.keep m30 (fun h => h)
  have r11 := r11.keep m30 (fun h => h)
  have r14 := r14.keep m30 (fun h => h)
  have r17 := r17.keep m30 (fun h => h)
  have hS32 := hS28.step0 m30
  refine ⟨hS32, ?_⟩
  refine hlK rfl (xslit [_, _, _, _, _, _] sl105 in37 rfl (by decide) rfl rfl rfl rfl (by decide) rfl rfl) ?_
  rintro _ w34 ⟨b23, rfl, m35, h23, e23, s23, r23⟩
  have hd := hd.keep (fun k hk => by have hk := hU k hk; omega) m35 (fun _ _ h => h)
  have ht := ht.keep text_st (fun k hk => by have hk := hU k hk; omega) m35 (fun _ _ h => h)
  have hp := hp.keep pair_st (fun k hk => by have hk := hU k hk; omega) m35 (fun _ _ h => h)
  have hf := hf.step0 m35
  have h1 := h1.keep m35 (fun h => h)
  have r5 := r5.keep m35 (fun h => h)
  have r8 := r8.keep m35 (fun h => h)
  have r11 := r11.keep m35 (fun h => h)
  have r14 := r14.keep m35 (fun h => h)
  have r17 := r17.keep m35 (fun h => h)
  have r21 := r21.keep m35 (fun h => h)
  have hS36 := hS32.step0 m35
  refine ⟨hS36, ?_⟩
  refine hc rfl (xcall ca21 rfl) (c21 (U := fun k => k = g8 ∨ k = g11 ∨ k = g14 ∨ k = g17 ∨ k = g21 ∨ k = g5) (Rw.rng r23) (by omega) rfl (fun k hk => by have hk : k = g8 ∨ k = g11 ∨ k = g14 ∨ k = g17 ∨ k = g21 ∨ k = g5 := hk; rcases hk with hk | hk | hk | hk | hk | hk <;> first | omega | (have := hU k hk; omega)) (All2.cons (BR.ba r8 (.inl rfl)) (All2.cons (BR.ba r11 (.inr (.inl rfl))) (All2.cons (BR.ba r14 (.inr (.inr (.inl rfl)))) (All2.cons (BR.ba r17 (.inr (.inr (.inr (.inl rfl))))) (All2.cons (BR.ba r21 (.inr (.inr (.inr (.inr (.inl rfl)))))) (All2.cons (BR.ba r5 (.inr (.inr (.inr (.inr (.inr rfl)))))) All2.nil)))))) (by simp only [List.flatten_cons, List.flatten_nil, List.length_append, be16_length, be32_length, List.length_nil]; omega) (by decide)) ?_
  rintro _ w37 ⟨p24, q24, g24, rfl, r24, m38, a24, l24⟩
  have z39 := m38.size
  have hd := hd.keep (fun k hk => by have hk := hU k hk; omega) m38 (fun _ _ h => h)
  have ht := ht.keep text_st (fun k hk => by have hk := hU k hk; omega) m38 (fun _ _ h => h)
  have hp := hp.keep pair_st (fun k hk => by have hk := hU k hk; omega) m38 (fun _ _ h => h)
  have hf := hf.step0 m38
  have h1 := h1.keep m38 (fun h => h)
  have r5 := r5.keep m38 (fun h => h)
  have r8 := r8.keep m38 (fun h => h)
  have r11 := r11.keep m38 (fun h => h)
  have r14 := r14.keep m38 (fun h => h)
  have r17 := r17.keep m38 (fun h => h)
  have r21 := r21.keep m38 (fun h => h)
  have r23 := r23.keep m38 (fun h => h)
  have hS40 := hS36.step0 m38
  refine ⟨hS40, ?_⟩
  refine hv rfl (fun _ _ => xassign rfl) hS40 ?_
  refine hend ?_
  refine forget_wp [(2, _)] ⟨rfl, trivial⟩ fun _ => ?_
  refine wp_ret ?_
  refine rp1 rfl rfl ?_
  exact new_cast r24 (by simp [recL, two16]) hf (by omega) (by omega)
set_option maxRecDepth 100000 in
theorem c45 {w : World} {a : AskD} (ha : a.name.size ≤ 1048576) :
    Ret PP 45 [ag (askSegs a)] w (fun u w' => New w (askL a).length (askL a) u w') := by
  have hw1 := wire_le (bt a.name)
  rw [bt_length] at hw1
  have hf : Fr (fun _ => False) w w := Fr.refl _ _
  refine ret_of Tryz.func45 rfl rfl rfl [(0, _)] rfl ?_
  refine sreg ?_
  refine svK (xboxS (lens := [1, 1, 1]) rfl rfl) ?_
  rintro _ w2 ⟨b1, rfl, m3, h1, e1, s1⟩
  have hf := hf.step0 m3
  refine sv (xassign rfl) ?_
  refine send ?_
  refine forget_wp [(1, _)] ⟨rfl, trivial⟩ fun _ => ?_
  refine sdraw (Fr (fun _ => False) w2.drew) [(0, .rd), (1, .rd), (3, .rd), (4, .rd), (6, .rd), (7, .rd), (2, .ld), (5, .ld), (8, .ld), (9, .ld), (10, .ld), (11, .rd)] mixed (by kernel_rfl) (fun _ _ _ _ _ h => h) ?_
  have z4 : w2.drew.heap.size = w2.heap.size := rfl
  have hf := hf.drew
  have h1 := h1.drew
  have hS5 : Fr (fun _ => False) w2.drew w2.drew := Fr.refl _ _
  refine hv rfl (fun _ _ => xfld fl59_0 rfl) hS5 ?_
  refine hv rfl (fun w' hS => xld on9 rfl ((h1.keep hS (fun h => h)).r.c 0 rfl rfl)) hS5 ?_
  refine hv rfl (fun _ _ => xfld fl59_1 rfl) hS5 ?_
  refine hv rfl (fun w' hS => xld on22 rfl ((h1.keep hS (fun h => h)).r.c 1 rfl rfl)) hS5 ?_
  refine hv rfl (fun _ _ => xfld fl59_2 rfl) hS5 ?_
  refine hv rfl (fun w' hS => xld on22 rfl ((h1.keep hS (fun h => h)).r.c 2 rfl rfl)) hS5 ?_
  refine hc rfl (xcall ca98 rfl) (c98 (by omega)) ?_
  rintro _ w6 ⟨p5, q5, g5, rfl, r5, m7, a5, l5⟩
  have z8 := m7.size
  have hf := hf.step0 m7
  have h1 := h1.keep m7 (fun h => h)
  have hS9 := hS5.step0 m7
  refine ⟨hS9, ?_⟩
  refine hc rfl (xcall ca53 rfl) (c53 (by first | omega | exact u16lt _)) ?_
  rintro _ w10 ⟨p8, q8, g8, rfl, r8, m11, a8, l8⟩
  have z12 := m11.size
  have hf := hf.step0 m11
  have h1 := h1.keep m11 (fun h => h)
  have r5 := r5.keep m11 (fun h => h)
  have hS13 := hS9.step0 m11
  refine ⟨hS13, ?_⟩
  refine hc rfl (xcall ca53 rfl) (c53 (by first | omega | exact u16lt _)) ?_
  rintro _ w14 ⟨p11, q11, g11, rfl, r11, m15, a11, l11⟩
  have z16 := m15.size
  have hf := hf.step0 m15
  have h1 := h1.keep m15 (fun h => h)
  have r5 := r5.keep m15 (fun h => h)
  have r8 := r8.keep m15 (fun h => h)
  have hS17 := hS13.step0 m15
  refine ⟨hS17, ?_⟩
  refine hlK rfl (xslit [_, _, _] sl105 in37 rfl (by decide) rfl rfl rfl rfl (by decide) rfl rfl) ?_
  rintro _ w19 ⟨b12, rfl, m20, h12, e12, s12, r12⟩
  have hf := hf.step0 m20
  have h1 := h1.keep m20 (fun h => h)
  have r5 := r5.keep m20 (fun h => h)
  have r8 := r8.keep m20 (fun h => h)
  have r11 := r11.keep m20 (fun h => h)
  have hS21 := hS17.step0 m20
  refine ⟨hS21, ?_⟩
  refine hc rfl (xcall ca21 rfl) (c21 (U := fun k => k = g5 ∨ k = g8 ∨ k = g11) (Rw.rng r12) (by omega) rfl (fun k hk => by have hk : k = g5 ∨ k = g8 ∨ k = g11 := hk; rcases hk with hk | hk | hk <;> first | omega | (have := hU k hk; omega)) (All2.cons (BR.ba r5 (.inl rfl)) (All2.cons (BR.ba r8 (.inr (.inl rfl))) (All2.cons (BR.ba r11 (.inr (.inr rfl))) All2.nil))) (by simp only [List.flatten_cons, List.flatten_nil, List.length_append, be16_length, List.length_nil]; omega) (by decide)) ?_
  rintro _ w22 ⟨p13, q13, g13, rfl, r13, m23, a13, l13⟩
  have z24 := m23.size
  have hf := hf.step0 m23
  have h1 := h1.keep m23 (fun h => h)
  have r5 := r5.keep m23 (fun h => h)
  have r8 := r8.keep m23 (fun h => h)
  have r11 := r11.keep m23 (fun h => h)
  have r12 := r12.keep m23 (fun h => h)
  have hS25 := hS21.step0 m23
  refine ⟨hS25, ?_⟩
  refine hv rfl (fun _ _ => xassign rfl) hS25 ?_
  refine hend ?_
  refine forget_wp [(2, _)] ⟨rfl, trivial⟩ fun _ => ?_
  refine wp_ret ?_
  refine rp1 rfl rfl ?_
  exact new_cast r13 (by simp [askL]) hf (by omega) (by omega)
end Go.Proofs.YtifnodoffgfpbaaGreatDoor
