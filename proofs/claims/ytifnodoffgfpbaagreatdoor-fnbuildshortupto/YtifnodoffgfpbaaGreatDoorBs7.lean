/- Part 7 of the texts for a law of this seat: walks, and plain laws about messages; conditions: none. -/
import Derived.Test.YtifnodoffgfpbaaGreatDoorBs6
namespace Go.Proofs.YtifnodoffgfpbaaGreatDoor
open Go

theorem xapp00 {P : Program} {n : Nat} {l : List (Nat × Value)} {w : World} {ty : TypeId} {x y : Operand} {T TX E : TypeId} {z : Value} {size bytes : Nat} (hT : slcB P T E = true) (hX : slcB P TX E = true) (hI : Inf P E z size bytes) (hx : ev n l x = some (.slice none 0 0)) (hy : ev n l y = some (.slice none 0 0)) :
    Ex P n l (.call { callee := .builtin .append, args := #[x, y], argTypes := #[T, TX] }) ty w (.slice none 0 0) w := fun r _ _ _ _ => by
  obtain ⟨i, hi, hiz, rfl, rfl⟩ := hI
  have hu := slcB_spec hT
  have hs : Src P i.size TX (.slice none 0 0) 0 [] w := Src.ofNil w (slcB_spec hX) 0
  simp only [execOp]
  have hr : (Builtin.append_ #[T, TX] ty #[.slice none 0 0, .slice none 0 0]).run P w = .ok (.slice none 0 0) w := by
    rcases hs.kind with ⟨e', hk⟩ | hk <;> simp [Builtin.append_, run_underlying hu, run_underlying hk, sizeOf, typeInfo, hi, hs.len, hs.cells]
  simp [resolve, invoke, builtin, ev_eval r hx, ev_eval r hy, hr]

set_option maxHeartbeats 4000000 in
set_option maxRecDepth 100000 in
theorem c185 {w : World} {bb g gm n sec x0 x1 : Nat} {v : Value} {bs : List UInt8} {c : Nat → Nat} {cm : Option Nat} {C : Option Ent} (hb : SB w bb lB (bSegs v sec x0 x1 c cm)) (hR : BR w v g n bs) (hC : Cmp w cm C) (hm : ∀ b, cm = some b → b = gm) (hG : GB w) (hz : 5 ≤ g ∧ g < w.heap.size ∧ 5 ≤ gm ∧ gm < w.heap.size ∧ gm ≠ g ∧ 5 ≤ bb ∧ bb ≠ g ∧ bb ≠ gm) (hn0 : 0 < n) (hl : n < 900000000) (hc : ∀ i, c i < 60000) {r : RecD} {len : Nat} (hs3 : 3 ≤ sec) (hs5 : sec ≤ 5) (hlen : len < 65536) (hnm : NamesOk r) (hlb : (bodyL r).length < 65536) (hk : r.kind = 11 ∨ r.kind = 12) {U : Nat → Prop} (hU : ∀ k, U k → k < w.heap.size ∧ k ≠ g ∧ k ≠ gm ∧ k ≠ bb) (hfp : FitP r) {vp : Value} (hp : LA PairEl lPair U w vp r.pairs)  :
  Ret PP 185 [.pointer (some ⟨bb, 0, none⟩), ag (rhSegs (bt r.name) (typeN r) r.cls r.ttl len), ag [[.int .u16 ((r.n1.toNat % 65536 : Nat) : Int)], nm (bt r.host), [vp]]] w (BldC w bb g gm n bs (packRec C n r).1 sec x0 x1 c cm (packRec C n r).2) := by
 have hbn := BR.len hR
 obtain ⟨a0, c0, rfl, -⟩ := hR.form
 obtain ⟨ap0, cp0, rfl⟩ := hp.form
 have hf : Fr (fun k => k = g ∨ k = gm ∨ k = bb) w w := Fr.refl _ _
 have z_hb := hb.lt
 refine ret_of Tryz.func185 rfl rfl rfl [(0, _), (1, _), (2, _)] rfl ?_
 refine sreg ?_
 refine svK (xboxS (lens := [256, 1, 1, 1, 1]) rfl (by simp [rhSegs, nm_length])) ?_
 rintro _ w2 ⟨b4, rfl, m3, h4, e1, s1⟩
 have hb := hb.keep m3 id
 have hR := hR.keep m3 id
 have hC := hC.keep m3 nF
 have hG := hG.keep (fun k hk => by omega) m3 nF
 have hp := hp.keep pair_st (fun k hk => by have hk := hU k hk; omega) m3 nF
 have hf := hf.step0 m3
 refine svK (xboxS (lens := [1, 256, 1]) rfl (by simp [nm_length])) ?_
 rintro _ w5 ⟨b5, rfl, m6, h5, e4, s4⟩
 have hb := hb.keep m6 id
 have hR := hR.keep m6 id
 have hC := hC.keep m6 nF
 have hG := hG.keep (fun k hk => by omega) m6 nF
 have hp := hp.keep pair_st (fun k hk => by have hk := hU k hk; omega) m6 nF
 have hf := hf.step0 m6
 have h4 := h4.keep m6 id
 refine sA rfl (send (fg [(0, _), (4, _), (5, _)] ⟨rfl, rfl, rfl, ⟨⟩⟩ fun _ => (wp_seq (sreg (sM rfl ?_)))))
 refine sc (xcall ca162 rfl) (c162 hb hs3 hs5) ?_
 rintro _ w7 ⟨rfl, m8⟩
 have z9 := m8.size
 have hb := hb.keep m8 id
 have hR := hR.keep m8 id
 have hC := hC.keep m8 nF
 have hG := hG.keep (fun k hk => by omega) m8 nF
 have hp := hp.keep pair_st (fun k hk => by have hk := hU k hk; omega) m8 nF
 have hf := hf.step0 m8
 have h4 := h4.keep m8 id
 have h5 := h5.keep m8 id
 refine sA rfl (send (fg [(0, _), (4, _), (5, _), (7, _)] ⟨rfl, rfl, rfl, rfl, ⟨⟩⟩ fun _ => (sreg (sM rfl (sv (xneN if89 rfl) (send (fg [(0, _), (4, _), (5, _), (7, _), (17, _)] ⟨rfl, rfl, rfl, rfl, rfl, ⟨⟩⟩ fun _ => (cno rfl (wp_skip (nThen (fg [(0, _), (4, _), (5, _)] ⟨rfl, rfl, rfl, ⟨⟩⟩ fun _ => ?_)))))))))))
 refine sdrawH (Fr (fun k => k = g ∨ k = gm) w7.drew) [(0, .rd), (1, .rd), (2, .rd), (3, .rd), (4, .rd), (5, .rd), (6, .rd), (7, .rd), (8, .rd), (9, .rd), (10, .rd), (11, .rd), (12, .ld), (13, .rd), (14, .rd), (15, .rd), (16, .rd), (17, .rd), (18, .rd), (19, .rd)] mixed (by kernel_rfl) (fun _ _ _ _ _ h => h) ?_
 have z10 : w7.drew.heap.size = w7.heap.size := rfl
 have hb := hb.drew
 have hR := hR.keep (fd w7) id
 have hC := hC.keep (fd w7) nF
 have hG := hG.keep (fun k hk => by omega) (fd w7) nF
 have hp := hp.keep pair_st (fun k hk => by have hk := hU k hk; omega) (fd w7) nF
 have hf := hf.drew
 have h4 := h4.drew
 have h5 := h5.drew
 have zb_hb := hb
 have hS11 : Fr (fun k => k = g ∨ k = gm) w7.drew w7.drew := Fr.refl _ _
 refine qqM rfl rfl hS11 (qqN rfl rfl hS11 (hvH rfl (fun _ _ => xfld fl148_0 rfl) hS11 (hvH rfl (fun w' hS => xld on37 rfl ((zb_hb.keep hS (by show ¬ (bb = g ∨ bb = gm); omega)).r.c 0 rfl rfl)) hS11 (qqM rfl rfl hS11 (qqN rfl rfl hS11 (hvH rfl (fun _ _ => xfld fl148_4 rfl) hS11 (hvH rfl (fun w' hS => xld on146 rfl ((zb_hb.keep hS (by show ¬ (bb = g ∨ bb = gm); omega)).r.c 9 rfl rfl)) hS11 (qqM rfl rfl hS11 (qqN rfl rfl hS11 (hvH rfl (fun _ _ => xfld fl148_3 rfl) hS11 (hvH rfl (fun w' hS => xld on3 rfl ((zb_hb.keep hS (by show ¬ (bb = g ∨ bb = gm); omega)).r.c 8 rfl rfl)) hS11 ?_)))))))))))
 refine hcH rfl (xcall ca152 rfl) (c152 (gm := gm) (pos := n) (start := 0) hR (by omega) (by omega) (by omega) (by omega) h4.r hnm.1 (by omega) hC (fun b hb => ⟨hm b hb, by omega, by omega⟩) (by omega) (by omega)) ?_
 rintro _ w12 ⟨p32, q32, g32, rfl, r32, m13, a32, l32, hC⟩
 have z14 := m13.size
 have hb := hb.keep m13 (by show ¬ (bb = g ∨ bb = gm); omega)
 have hG := hG.keep (fun k hk => by omega) m13 (fun k hk hS => by have hk := hk; have hS : k = g ∨ k = gm := hS; omega)
 have hp := hp.keep pair_st (fun k hk => by have hk := hU k hk; omega) m13 (fun k hk hS => by have hk := hU k hk; have hS : k = g ∨ k = gm := hS; omega)
 have hf := hf.step m13 (fun k hk hS => by have hS : k = g ∨ k = gm := hS; show k = g ∨ k = gm ∨ k = bb; omega)
 have h4 := h4.keep m13 (by show ¬ (b4 = g ∨ b4 = gm); omega)
 have h5 := h5.keep m13 (by show ¬ (b5 = g ∨ b5 = gm); omega)
 have hS15 := hS11.step m13 (fun k hk hS => by have hS : k = g ∨ k = gm := hS; show k = g ∨ k = gm; omega)
 have hpn := packName_bound (C := C) (pos := n) hnm.1
 have e39 : ((packName C n (bt r.name)).1 ++ hdTail (typeN r) r.cls r.ttl len).length = (packName C n (bt r.name)).1.length + 10 := by simp [hdTail_length]
 refine ⟨hS15, ?_⟩
 refine qqM rfl rfl hS15 (hvH rfl (fun _ _ => xex30 rfl) hS15 (hvH rfl (fun _ _ => xex31 rfl) hS15 (hvH rfl (fun _ _ => xex32 rfl) hS15 (qqA rfl rfl hS15 (qqA rfl rfl hS15 (qqA rfl rfl hS15 (hendH (fg [(0, _), (4, _), (5, _), (8, _), (9, _), (10, _)] ⟨rfl, rfl, rfl, rfl, rfl, rfl, ⟨⟩⟩ fun _ => (wp_seq (sreg (sM rfl (sv (xneN if89 rfl) (send (fg [(0, _), (4, _), (5, _), (8, _), (9, _), (10, _), (37, _)] ⟨rfl, rfl, rfl, rfl, rfl, rfl, rfl, ⟨⟩⟩ fun _ => (cno rfl (wp_skip (nThen (fg [(0, _), (4, _), (5, _), (8, _), (9, _)] ⟨rfl, rfl, rfl, rfl, rfl, ⟨⟩⟩ fun _ => (sreg (sM rfl (sv (xlen sl37 rfl) (sA rfl (send (fg [(0, _), (4, _), (5, _), (8, _), (9, _), (11, _)] ⟨rfl, rfl, rfl, rfl, rfl, rfl, ⟨⟩⟩ fun _ => ?_))))))))))))))))))))))))
 refine wp_seq ?_
 refine sdrawH (Fr (fun k => k = g32 ∨ k = gm) w12.drew) [(0, .rd), (1, .rd), (2, .rd), (3, .rd), (4, .rd), (5, .rd), (6, .rd), (7, .rd), (8, .rd), (9, .ld), (10, .rd), (11, .rd), (12, .rd), (13, .rd), (14, .rd)] mixed (by kernel_rfl) (fun _ _ _ _ _ h => h) ?_
 have z16 : w12.drew.heap.size = w12.heap.size := rfl
 have hb := hb.drew
 have hG := hG.keep (fun k hk => by omega) (fd w12) nF
 have hp := hp.keep pair_st (fun k hk => by have hk := hU k hk; omega) (fd w12) nF
 have hf := hf.drew
 have h4 := h4.drew
 have h5 := h5.drew
 have r32 := r32.keep (fd w12) id
 have hC := hC.keep (fd w12) nF
 have zb_hb := hb
 have hS17 : Fr (fun k => k = g32 ∨ k = gm) w12.drew w12.drew := Fr.refl _ _
 refine qqM rfl rfl hS17 (qqM rfl rfl hS17 (qqN rfl rfl hS17 (hvH rfl (fun _ _ => xfld fl148_4 rfl) hS17 (hvH rfl (fun w' hS => xld on146 rfl ((zb_hb.keep hS (by show ¬ (bb = g32 ∨ bb = gm); omega)).r.c 9 rfl rfl)) hS17 (qqM rfl rfl hS17 (qqN rfl rfl hS17 (hvH rfl (fun _ _ => xfld fl148_3 rfl) hS17 (hvH rfl (fun w' hS => xld on3 rfl ((zb_hb.keep hS (by show ¬ (bb = g32 ∨ bb = gm); omega)).r.c 8 rfl rfl)) hS17 ?_))))))))
 refine hcH rfl (xcall ca210 rfl) (c210 (gm := gm) (pos := (n + (packName C n (bt r.name)).1.length + 10)) (start := 0) r32 (by omega) (by omega) (by omega) (by omega) hk h5.r (by omega) (hnm.2.1 (by omega)) (fun k hk => by have hk := hU k hk; omega) hp (hfp.2.2.2.2.2.2.2 hk) hfp.2.2.2.2.1 hfp.2.2.2.2.2.1 hfp.2.2.2.2.2.2.1 hC (fun b hb => ⟨hm b hb, by omega, by omega⟩) (by omega) (by omega)) ?_
 rintro _ w18 ⟨p54, q54, g54, rfl, r54, m19, a54, l54, hC⟩
 have z20 := m19.size
 have hb := hb.keep m19 (by show ¬ (bb = g32 ∨ bb = gm); omega)
 have hG := hG.keep (fun k hk => by omega) m19 (fun k hk hS => by have hk := hk; have hS : k = g32 ∨ k = gm := hS; omega)
 have hf := hf.step m19 (fun k hk hS => by have hS : k = g32 ∨ k = gm := hS; show k = g ∨ k = gm ∨ k = bb; omega)
 have h4 := h4.keep m19 (by show ¬ (b4 = g32 ∨ b4 = gm); omega)
 have hS21 := hS17.step m19 (fun k hk hS => by have hS : k = g32 ∨ k = gm := hS; show k = g32 ∨ k = gm; omega)
 have hbl := packBody_len (C := (packName C n (bt r.name)).2) (pos := (n + (packName C n (bt r.name)).1.length + 10)) hnm hlb
 refine ⟨hS21, ?_⟩
 refine qqM rfl rfl hS21 (hvH rfl (fun _ _ => xex20 rfl) hS21 (hvH rfl (fun _ _ => xex21 rfl) hS21 (qqA rfl rfl hS21 (qqA rfl rfl hS21 (hendH (fg [(0, _), (4, _), (8, _), (9, _), (10, _), (11, _)] ⟨rfl, rfl, rfl, rfl, rfl, rfl, ⟨⟩⟩ fun _ => (sreg (sM rfl (sv (xneN if89 rfl) (send (fg [(0, _), (4, _), (8, _), (9, _), (10, _), (11, _), (58, _)] ⟨rfl, rfl, rfl, rfl, rfl, rfl, rfl, ⟨⟩⟩ fun _ => (cno rfl (wp_skip (nThen (fg [(0, _), (4, _), (8, _), (9, _), (11, _)] ⟨rfl, rfl, rfl, rfl, rfl, ⟨⟩⟩ fun _ => (wp_seq (sreg (sM rfl (sM rfl (sM rfl ?_))))))))))))))))))))
 have r54 := br_cast (bs := (bs ++ ((packName C n (bt r.name)).1 ++ (be16 (typeN r).toNat ++ (be16 r.cls.toNat ++ be32 r.ttl.toNat)))) ++ (be16 len ++ (packBody (packName C n (bt r.name)).2 (n + (packName C n (bt r.name)).1.length + 10) r).1)) r54 (by simp [hdTail]) rfl
 obtain ⟨T4, hE4⟩ := SE.ofSB h4
 refine sc (xcall ca153 rfl) (c153 (preLen := n + ((packName C n (bt r.name)).1 ++ hdTail (typeN r) r.cls r.ttl len).length) (len := len) (typ := typeN r) (cls := r.cls) (ttl := r.ttl) (s := bt r.name) (pre := []) (post := []) r54 (by omega) rfl hE4 rfl (by omega) (by simp [be16_length, be32_length]; omega) (by omega) (by omega) (by omega)) ?_
 rintro _ w22 ⟨rfl, r54, hE4b, m23⟩
 have z24 := m23.size
 have hb := hb.keep m23 (by show ¬ (bb = g54 ∨ bb = b4); omega)
 have hG := hG.keep (fun k hk => by omega) m23 (fun k hk hS => by have hk := hk; have hS : k = g54 ∨ k = b4 := hS; omega)
 have hf := hf.step m23 (fun k hk hS => by have hS : k = g54 ∨ k = b4 := hS; show k = g ∨ k = gm ∨ k = bb; omega)
 have hC := hC.keep m23 (fun b hb => by have hb := hm b hb; show ¬ (b = g54 ∨ b = b4); omega)
 have en : n + ((packName C n (bt r.name)).1 ++ hdTail (typeN r) r.cls r.ttl len).length + (packBody (packName C n (bt r.name)).2 (n + (packName C n (bt r.name)).1.length + 10) r).1.length - (n + ((packName C n (bt r.name)).1 ++ hdTail (typeN r) r.cls r.ttl len).length) = (packBody (packName C n (bt r.name)).2 (n + (packName C n (bt r.name)).1.length + 10) r).1.length := by omega
 rw [en] at r54
 refine sA rfl (send (fg [(0, _), (8, _), (12, _)] ⟨rfl, rfl, rfl, ⟨⟩⟩ fun _ => (sreg (sM rfl (sv (xneN if89 rfl) (send (fg [(0, _), (8, _), (12, _), (68, _)] ⟨rfl, rfl, rfl, rfl, ⟨⟩⟩ fun _ => (cno rfl (wp_skip (nThen (fg [(0, _), (8, _)] ⟨rfl, rfl, ⟨⟩⟩ fun _ => (wp_seq (sreg (sM rfl ?_))))))))))))))
 refine sc (xcall ca115 rfl) (c115 hb hG (by omega) (by omega) (by omega) hc) ?_
 rintro _ w25 ⟨rfl, hb, m26⟩
 have z27 := m26.size
 have hf := hf.step m26 (fun k hk hS => by have hS : k = bb := hS; show k = g ∨ k = gm ∨ k = bb; omega)
 have hC := hC.keep m26 (fun b hb => by have hb := hm b hb; show ¬ (b = bb); omega)
 have r54 := r54.keep m26 (by show ¬ (g54 = bb); omega)
 refine sA rfl (send (fg [(0, _), (8, _), (13, _)] ⟨rfl, rfl, rfl, ⟨⟩⟩ fun _ => (sreg (sM rfl (sv (xneN if89 rfl) (send (fg [(0, _), (8, _), (13, _), (73, _)] ⟨rfl, rfl, rfl, rfl, ⟨⟩⟩ fun _ => (cno rfl (wp_skip (nThen (fg [(0, _), (8, _)] ⟨rfl, rfl, ⟨⟩⟩ fun _ => (sreg (sM rfl (sM rfl (sN rfl (sv (xfld fl148_0 rfl) ?_))))))))))))))))
 refine suK (xstF 0 sz37 hb rfl rfl rfl rfl rfl) ?_
 rintro w29 ⟨m30, hb, s28⟩
 have hf := hf.step m30 (fun k hk hS => by have hS : k = bb := hS; show k = g ∨ k = gm ∨ k = bb; omega)
 have hC := hC.keep m30 (fun b hb => by have hb := hm b hb; show ¬ (b = bb); omega)
 have r54 := r54.keep m30 (by show ¬ (g54 = bb); omega)
 refine send (fg [] trivial fun _ => (sreg (sA rfl (send (fg [(6, _)] ⟨rfl, ⟨⟩⟩ fun _ => (wp_ret ?_))))))
 refine rp1 rfl rfl ?_
 have eo : n + (packRec C n r).1.length = n + ((packName C n (bt r.name)).1 ++ hdTail (typeN r) r.cls r.ttl len).length + (packBody (packName C n (bt r.name)).2 (n + (packName C n (bt r.name)).1.length + 10) r).1.length := by simp only [packRec, packTail, List.length_append, be16_length, be32_length, hdTail_length]; omega
 refine ⟨p54, q54, g54, rfl, ?_, ?_, hC, hf, by omega, by omega⟩
 · rw [eo]; exact hb
 · rw [eo]; exact br_cast r54 (by simp [packRec, packTail]) rfl
set_option maxHeartbeats 4000000 in
set_option maxRecDepth 100000 in
theorem c136 {w : World} {bb g gm n sec x0 x1 : Nat} {v : Value} {bs : List UInt8} {c : Nat → Nat} {cm : Option Nat} {C : Option Ent} (hb : SB w bb lB (bSegs v sec x0 x1 c cm)) (hR : BR w v g n bs) (hC : Cmp w cm C) (hm : ∀ b, cm = some b → b = gm) (hG : GB w) (hz : 5 ≤ g ∧ g < w.heap.size ∧ 5 ≤ gm ∧ gm < w.heap.size ∧ gm ≠ g ∧ 5 ≤ bb ∧ bb ≠ g ∧ bb ≠ gm) (hn0 : 0 < n) (hl : n < 900000000) (hc : ∀ i, c i < 60000) {r : RecD} {typ : UInt16} {len : Nat} (hs3 : 3 ≤ sec) (hs5 : sec ≤ 5) (hlen : len < 65536) (hnm : NamesOk r) (hlb : (bodyL r).length < 65536) (hk : r.kind = 11) {U : Nat → Prop} (hU : ∀ k, U k → k < w.heap.size ∧ k ≠ g ∧ k ≠ gm ∧ k ≠ bb) (hfp : FitP r) {vp : Value} (hp : LA PairEl lPair U w vp r.pairs)  :
  Ret PP 136 [.pointer (some ⟨bb, 0, none⟩), ag (rhSegs (bt r.name) typ r.cls r.ttl len), ag [[.int .u16 ((r.n1.toNat % 65536 : Nat) : Int)], nm (bt r.host), [vp]]] w (BldC w bb g gm n bs (packRec C n r).1 sec x0 x1 c cm (packRec C n r).2) := by
 obtain ⟨a0, c0, rfl, -⟩ := hR.form
 obtain ⟨ap0, cp0, rfl⟩ := hp.form
 have hf : Fr (fun k => k = g ∨ k = gm ∨ k = bb) w w := Fr.refl _ _
 have z_hb := hb.lt
 refine ret_of Tryz.func136 rfl rfl rfl [(0, _), (1, _), (2, _)] rfl ?_
 refine sreg ?_
 refine svK (xboxS (lens := [256, 1, 1, 1, 1]) rfl (by simp [rhSegs, nm_length])) ?_
 rintro _ w2 ⟨b4, rfl, m3, h4, e1, s1⟩
 have hb := hb.keep m3 id
 have hR := hR.keep m3 id
 have hC := hC.keep m3 nF
 have hG := hG.keep (fun k hk => by omega) m3 nF
 have hp := hp.keep pair_st (fun k hk => by have hk := hU k hk; omega) m3 nF
 have hf := hf.step0 m3
 refine svK (xboxS (lens := [1, 256, 1]) rfl (by simp [nm_length])) ?_
 rintro _ w5 ⟨b5, rfl, m6, h5, e4, s4⟩
 have hb := hb.keep m6 id
 have hR := hR.keep m6 id
 have hC := hC.keep m6 nF
 have hG := hG.keep (fun k hk => by omega) m6 nF
 have hp := hp.keep pair_st (fun k hk => by have hk := hU k hk; omega) m6 nF
 have hf := hf.step0 m6
 have h4 := h4.keep m6 id
 refine sA rfl (send (fg [(0, _), (4, _), (5, _)] ⟨rfl, rfl, rfl, ⟨⟩⟩ fun _ => (sreg ?_)))
 refine sc (xcall ca184 rfl) (c184r hk) ?_
 rintro _ w7 ⟨rfl, m8⟩
 have z9 := m8.size
 have hb := hb.keep m8 id
 have hR := hR.keep m8 id
 have hC := hC.keep m8 nF
 have hG := hG.keep (fun k hk => by omega) m8 nF
 have hp := hp.keep pair_st (fun k hk => by have hk := hU k hk; omega) m8 nF
 have hf := hf.step0 m8
 have h4 := h4.keep m8 id
 have h5 := h5.keep m8 id
 refine sv (xfld fl135_1 rfl) ?_
 refine suK (xstF 1 sz83 h4 rfl rfl rfl rfl rfl) ?_
 rintro w11 ⟨m12, h4, s10⟩
 have hb := hb.keep m12 (by show ¬ (bb = b4); omega)
 have hR := hR.keep m12 (by show ¬ (g = b4); omega)
 have hC := hC.keep m12 (fun b hb => by have hb := hm b hb; show ¬ (b = b4); omega)
 have hG := hG.keep (fun k hk => by omega) m12 (fun k hk hS => by have hk := hk; have hS : k = b4 := hS; omega)
 have hp := hp.keep pair_st (fun k hk => by have hk := hU k hk; omega) m12 (fun k hk hS => by have hk := hU k hk; have hS : k = b4 := hS; omega)
 have hf := hf.step m12 (fun k hk hS => by have hS : k = b4 := hS; show k = g ∨ k = gm ∨ k = bb; omega)
 have h5 := h5.keep m12 (by show ¬ (b5 = b4); omega)
 have h4 : SB w11 b4 lRH (rhSegs (bt r.name) (typeN r) r.cls r.ttl len) := h4
 refine send (fg [(0, _), (4, _), (5, _)] ⟨rfl, rfl, rfl, ⟨⟩⟩ fun _ => (sreg (sM rfl (sv (xldS (lens := [256, 1, 1, 1, 1]) ro135 rfl h4.r) (sv (xldS (lens := [1, 256, 1]) ro224 rfl h5.r) ?_)))))
 refine sc (xcall ca185 rfl) (c185 (r := r) (U := U) hb hR hC hm hG (by omega) hn0 hl hc hs3 hs5 hlen hnm hlb (by omega) (fun k hk => by have hk := hU k hk; omega) hfp hp) ?_
 rintro _ w13 ⟨p12, q12, g12, rfl, hb, r12, hC, m14, a12, l12⟩
 have z15 := m14.size
 have hf := hf.step m14 (fun k hk hS => by have hS : k = g ∨ k = gm ∨ k = bb := hS; show k = g ∨ k = gm ∨ k = bb; omega)
 refine sA rfl (send (fg [(6, _)] ⟨rfl, ⟨⟩⟩ fun _ => (wp_ret ?_)))
 refine rp1 rfl rfl ?_
 exact ⟨p12, q12, g12, rfl, hb, r12, hC, hf, by omega, by omega⟩
set_option maxHeartbeats 4000000 in
set_option maxRecDepth 100000 in
theorem c138 {w : World} {bb g gm n sec x0 x1 : Nat} {v : Value} {bs : List UInt8} {c : Nat → Nat} {cm : Option Nat} {C : Option Ent} (hb : SB w bb lB (bSegs v sec x0 x1 c cm)) (hR : BR w v g n bs) (hC : Cmp w cm C) (hm : ∀ b, cm = some b → b = gm) (hG : GB w) (hz : 5 ≤ g ∧ g < w.heap.size ∧ 5 ≤ gm ∧ gm < w.heap.size ∧ gm ≠ g ∧ 5 ≤ bb ∧ bb ≠ g ∧ bb ≠ gm) (hn0 : 0 < n) (hl : n < 900000000) (hc : ∀ i, c i < 60000) {r : RecD} {typ : UInt16} {len : Nat} (hs3 : 3 ≤ sec) (hs5 : sec ≤ 5) (hlen : len < 65536) (hnm : NamesOk r) (hlb : (bodyL r).length < 65536) (hk : r.kind = 12) {U : Nat → Prop} (hU : ∀ k, U k → k < w.heap.size ∧ k ≠ g ∧ k ≠ gm ∧ k ≠ bb) (hfp : FitP r) {vp : Value} (hp : LA PairEl lPair U w vp r.pairs)  :
  Ret PP 138 [.pointer (some ⟨bb, 0, none⟩), ag (rhSegs (bt r.name) typ r.cls r.ttl len), ag [[.int .u16 ((r.n1.toNat % 65536 : Nat) : Int)], nm (bt r.host), [vp]]] w (BldC w bb g gm n bs (packRec C n r).1 sec x0 x1 c cm (packRec C n r).2) := by
 obtain ⟨a0, c0, rfl, -⟩ := hR.form
 obtain ⟨ap0, cp0, rfl⟩ := hp.form
 have hf : Fr (fun k => k = g ∨ k = gm ∨ k = bb) w w := Fr.refl _ _
 have z_hb := hb.lt
 refine ret_of Tryz.func138 rfl rfl rfl [(0, _), (1, _), (2, _)] rfl ?_
 refine sreg ?_
 refine svK (xboxS (lens := [256, 1, 1, 1, 1]) rfl (by simp [rhSegs, nm_length])) ?_
 rintro _ w2 ⟨b4, rfl, m3, h4, e1, s1⟩
 have hb := hb.keep m3 id
 have hR := hR.keep m3 id
 have hC := hC.keep m3 nF
 have hG := hG.keep (fun k hk => by omega) m3 nF
 have hp := hp.keep pair_st (fun k hk => by have hk := hU k hk; omega) m3 nF
 have hf := hf.step0 m3
 refine svK (xboxS (lens := [1, 256, 1]) rfl (by simp [nm_length])) ?_
 rintro _ w5 ⟨b5, rfl, m6, h5, e4, s4⟩
 have hb := hb.keep m6 id
 have hR := hR.keep m6 id
 have hC := hC.keep m6 nF
 have hG := hG.keep (fun k hk => by omega) m6 nF
 have hp := hp.keep pair_st (fun k hk => by have hk := hU k hk; omega) m6 nF
 have hf := hf.step0 m6
 have h4 := h4.keep m6 id
 refine sA rfl (send (fg [(0, _), (4, _), (5, _)] ⟨rfl, rfl, rfl, ⟨⟩⟩ fun _ => (sreg ?_)))
 refine sc (xcall ca187 rfl) (c187r hk) ?_
 rintro _ w7 ⟨rfl, m8⟩
 have z9 := m8.size
 have hb := hb.keep m8 id
 have hR := hR.keep m8 id
 have hC := hC.keep m8 nF
 have hG := hG.keep (fun k hk => by omega) m8 nF
 have hp := hp.keep pair_st (fun k hk => by have hk := hU k hk; omega) m8 nF
 have hf := hf.step0 m8
 have h4 := h4.keep m8 id
 have h5 := h5.keep m8 id
 refine sv (xfld fl135_1 rfl) ?_
 refine suK (xstF 1 sz83 h4 rfl rfl rfl rfl rfl) ?_
 rintro w11 ⟨m12, h4, s10⟩
 have hb := hb.keep m12 (by show ¬ (bb = b4); omega)
 have hR := hR.keep m12 (by show ¬ (g = b4); omega)
 have hC := hC.keep m12 (fun b hb => by have hb := hm b hb; show ¬ (b = b4); omega)
 have hG := hG.keep (fun k hk => by omega) m12 (fun k hk hS => by have hk := hk; have hS : k = b4 := hS; omega)
 have hp := hp.keep pair_st (fun k hk => by have hk := hU k hk; omega) m12 (fun k hk hS => by have hk := hU k hk; have hS : k = b4 := hS; omega)
 have hf := hf.step m12 (fun k hk hS => by have hS : k = b4 := hS; show k = g ∨ k = gm ∨ k = bb; omega)
 have h5 := h5.keep m12 (by show ¬ (b5 = b4); omega)
 have h4 : SB w11 b4 lRH (rhSegs (bt r.name) (typeN r) r.cls r.ttl len) := h4
 refine send (fg [(0, _), (4, _), (5, _)] ⟨rfl, rfl, rfl, ⟨⟩⟩ fun _ => (sreg (sM rfl (sv (xldS (lens := [256, 1, 1, 1, 1]) ro135 rfl h4.r) (sv (xfld fl228_0 rfl) (sv (xldS (lens := [1, 256, 1]) ro224 rfl h5.r) ?_))))))
 refine sc (xcall ca185 rfl) (c185 (r := r) (U := U) hb hR hC hm hG (by omega) hn0 hl hc hs3 hs5 hlen hnm hlb (by omega) (fun k hk => by have hk := hU k hk; omega) hfp hp) ?_
 rintro _ w13 ⟨p13, q13, g13, rfl, hb, r13, hC, m14, a13, l13⟩
 have z15 := m14.size
 have hf := hf.step m14 (fun k hk hS => by have hS : k = g ∨ k = gm ∨ k = bb := hS; show k = g ∨ k = gm ∨ k = bb; omega)
 refine sA rfl (send (fg [(6, _)] ⟨rfl, ⟨⟩⟩ fun _ => (wp_ret ?_)))
 refine rp1 rfl rfl ?_
 exact ⟨p13, q13, g13, rfl, hb, r13, hC, hf, by omega, by omega⟩
set_option maxHeartbeats 4000000 in
set_option maxRecDepth 100000 in
theorem c78 {w : World} {bb g gm n sec x0 x1 : Nat} {v : Value} {bs : List UInt8} {c : Nat → Nat} {cm : Option Nat} {C : Option Ent} (hb : SB w bb lB (bSegs v sec x0 x1 c cm)) (hR : BR w v g n bs) (hC : Cmp w cm C) (hm : ∀ b, cm = some b → b = gm) (hG : GB w) (hz : 5 ≤ g ∧ g < w.heap.size ∧ 5 ≤ gm ∧ gm < w.heap.size ∧ gm ≠ g ∧ 5 ≤ bb ∧ bb ≠ g ∧ bb ≠ gm) (hn0 : 0 < n) (hl : n < 900000000) (hc : ∀ i, c i < 60000) {r : RecD} {vd vt vp : Value} (hs3 : 3 ≤ sec) (hs5 : sec ≤ 5) {U : Nat → Prop} (hU : ∀ k, U k → k < w.heap.size ∧ k ≠ g ∧ k ≠ gm ∧ k ≠ bb) (hok : PackOk r) (hd : BA U w vd r.data) (ht : LA TextEl [1] U w vt r.texts) (hp : LA PairEl lPair U w vp r.pairs)  :
  Ret PP 78 [.pointer (some ⟨bb, 0, none⟩), ag (recSegs r vd vt vp)] w (BldC w bb g gm n bs (packRec C n r).1 sec x0 x1 c cm (packRec C n r).2) := by
 obtain ⟨a0, c0, rfl, -⟩ := hR.form
 obtain ⟨at0, ct0, rfl⟩ := ht.form
 obtain ⟨ap0, cp0, rfl⟩ := hp.form
 obtain ⟨ad0, cd0, rfl, -⟩ := id hd
 have hfit := hok.1.2.2.2
 have hnm := hok.2.1
 have hfp := hok.2.2.1
 have hlb := hok.2.2.2
 have hk1 := hok.1.2.1
 have hk13 := hok.1.2.2.1
 have hU0 : ∀ k, U k → k < w.heap.size := fun k hk => (hU k hk).1
 have hf : Fr (fun k => k = g ∨ k = gm ∨ k = bb) w w := Fr.refl _ _
 have z_hb := hb.lt
 refine ret_of Tryz.func78 rfl rfl rfl [(0, _), (1, _)] rfl ?_
 refine sreg ?_
 refine svK (xboxS (lens := lRec) rfl rfl) ?_
 rintro _ w2 ⟨b3, rfl, m3, h3, e1, s1⟩
 have hb := hb.keep m3 id
 have hR := hR.keep m3 id
 have hC := hC.keep m3 nF
 have hG := hG.keep (fun k hk => by omega) m3 nF
 have hd := hd.keep (fun k hk => by have hk := hU k hk; omega) m3 nF
 have ht := ht.keep text_st (fun k hk => by have hk := hU k hk; omega) m3 nF
 have hp := hp.keep pair_st (fun k hk => by have hk := hU k hk; omega) m3 nF
 have hf := hf.step0 m3
 refine sA rfl (send (fg [(0, _), (3, _)] ⟨rfl, rfl, ⟨⟩⟩ fun _ => (sreg (sv (xldS (lens := lRec) ro112 rfl h3.r) ?_))))
 refine sc (xcall ca87 rfl) (c87 hok.1.1) ?_
 rintro _ w4 ⟨rfl, m5⟩
 have z6 := m5.size
 have hb := hb.keep m5 id
 have hR := hR.keep m5 id
 have hC := hC.keep m5 nF
 have hG := hG.keep (fun k hk => by omega) m5 nF
 have hd := hd.keep (fun k hk => by have hk := hU k hk; omega) m5 nF
 have ht := ht.keep text_st (fun k hk => by have hk := hU k hk; omega) m5 nF
 have hp := hp.keep pair_st (fun k hk => by have hk := hU k hk; omega) m5 nF
 have hf := hf.step0 m5
 have h3 := h3.keep m5 id
 refine svK (xallS (lens := [256, 1, 1, 1, 1]) in135 (by simp [nm_length])) ?_
 rintro _ w8 ⟨b5, rfl, m9, h5, e7, s7⟩
 have hb := hb.keep m9 id
 have hR := hR.keep m9 id
 have hC := hC.keep m9 nF
 have hG := hG.keep (fun k hk => by omega) m9 nF
 have hd := hd.keep (fun k hk => by have hk := hU k hk; omega) m9 nF
 have ht := ht.keep text_st (fun k hk => by have hk := hU k hk; omega) m9 nF
 have hp := hp.keep pair_st (fun k hk => by have hk := hU k hk; omega) m9 nF
 have hf := hf.step0 m9
 have h3 := h3.keep m9 id
 refine suK (xstW h5 (lens' := [256, 1, 1, 1, 1]) sz135 (by simp [rhSegs, nm_length]) rfl (by simp only [rhSegs, List.flatten_cons, List.flatten_nil, List.all_append, List.append_nil, nm_one, Bool.true_and] <;> rfl) rfl rfl) ?_
 rintro w11 ⟨m12, h5, s10⟩
 have hb := hb.keep m12 (by show ¬ (bb = b5); omega)
 have hR := hR.keep m12 (by show ¬ (g = b5); omega)
 have hC := hC.keep m12 (fun b hb => by have hb := hm b hb; show ¬ (b = b5); omega)
 have hG := hG.keep (fun k hk => by omega) m12 (fun k hk hS => by have hk := hk; have hS : k = b5 := hS; omega)
 have hd := hd.keep (fun k hk => by have hk := hU k hk; omega) m12 (fun k hk hS => by have hk := hU k hk; have hS : k = b5 := hS; omega)
 have ht := ht.keep text_st (fun k hk => by have hk := hU k hk; omega) m12 (fun k hk hS => by have hk := hU k hk; have hS : k = b5 := hS; omega)
 have hp := hp.keep pair_st (fun k hk => by have hk := hU k hk; omega) m12 (fun k hk hS => by have hk := hU k hk; have hS : k = b5 := hS; omega)
 have hf := hf.step m12 (fun k hk hS => by have hS : k = b5 := hS; show k = g ∨ k = gm ∨ k = bb; omega)
 have h3 := h3.keep m12 (by show ¬ (b3 = b5); omega)
 refine send (fg [(0, _), (3, _), (5, _)] ⟨rfl, rfl, rfl, ⟨⟩⟩ fun _ => (wp_seq (sreg (sv (xfld fl112_5 rfl) (sv (xld on3 rfl (h3.r.c 5 rfl rfl)) (send (fg [(0, _), (3, _), (5, _), (9, _)] ⟨rfl, rfl, rfl, rfl, ⟨⟩⟩ fun _ => (wp_block (sreg ?_)))))))))
 refine svP (xeql rfl rfl) (fun hc11 => ?_) (fun hc11 => ?_)
 ·
  refine sA rfl (send (fg [(0, _), (3, _), (5, _), (9, _), (10, _)] ⟨rfl, rfl, rfl, rfl, rfl, ⟨⟩⟩ fun _ => (cyes rfl ?_)))
  refine sdrawH (Fr (fun k => k = g ∨ k = gm ∨ k = bb) w11.drew) [(0, .rd), (1, .rd), (2, .rd), (3, .ld), (4, .ld), (5, .rd)] mixed (by kernel_rfl) (fun _ _ _ _ _ h => h) ?_
  have z13 : w11.drew.heap.size = w11.heap.size := rfl
  have hb := hb.drew
  have hR := hR.keep (fd w11) id
  have hC := hC.keep (fd w11) nF
  have hG := hG.keep (fun k hk => by omega) (fd w11) nF
  have hd := hd.keep (fun k hk => by have hk := hU k hk; omega) (fd w11) nF
  have ht := ht.keep text_st (fun k hk => by have hk := hU k hk; omega) (fd w11) nF
  have hp := hp.keep pair_st (fun k hk => by have hk := hU k hk; omega) (fd w11) nF
  have hf := hf.drew
  have h3 := h3.drew
  have h5 := h5.drew
  have zb_h3 := h3
  have zb_h5 := h5
  have hS14 : Fr (fun k => k = g ∨ k = gm ∨ k = bb) w11.drew w11.drew := Fr.refl _ _
  refine qqM rfl rfl hS14 (hvH rfl (fun w' hS => xldS (lens := [256, 1, 1, 1, 1]) ro135 rfl (zb_h5.keep hS (by show ¬ (b5 = g ∨ b5 = gm ∨ b5 = bb); omega)).r) hS14 (hvH rfl (fun w' hS => xldS (lens := lRec) ro112 rfl (zb_h3.keep hS (by show ¬ (b3 = g ∨ b3 = gm ∨ b3 = bb); omega)).r) hS14 ?_))
  refine hcH rfl (xcall ca117 rfl) (c117 (U := U) (fun k hk => by have hk := hU k hk; omega) hd) ?_
  rintro _ w15 ⟨rfl, m16⟩
  have z17 := m16.size
  have hb := hb.keep m16 id
  have hR := hR.keep m16 id
  have hC := hC.keep m16 nF
  have hG := hG.keep (fun k hk => by omega) m16 nF
  have hd := hd.keep (fun k hk => by have hk := hU k hk; omega) m16 nF
  have ht := ht.keep text_st (fun k hk => by have hk := hU k hk; omega) m16 nF
  have hp := hp.keep pair_st (fun k hk => by have hk := hU k hk; omega) m16 nF
  have hf := hf.step0 m16
  have h3 := h3.keep m16 id
  have h5 := h5.keep m16 id
  have hS18 := hS14.step0 m16
  refine ⟨hS18, ?_⟩
  refine hcH rfl (xcall ca116 rfl) (c116 (r := r) hb hR hC hm hG (by omega) hn0 hl hc hs3 hs5 (u16lt _) hnm hlb (by omega)) ?_
  rintro _ w19 ⟨p16, q16, g16, rfl, hb, r16, hC, m20, a16, l16⟩
  have z21 := m20.size
  have hG := hG.keep (fun k hk => by omega) m20 (fun k hk hS => by have hk := hk; have hS : k = g ∨ k = gm ∨ k = bb := hS; omega)
  have hf := hf.step m20 (fun k hk hS => by have hS : k = g ∨ k = gm ∨ k = bb := hS; show k = g ∨ k = gm ∨ k = bb; omega)
  have h3 := h3.keep m20 (by show ¬ (b3 = g ∨ b3 = gm ∨ b3 = bb); omega)
  have h5 := h5.keep m20 (by show ¬ (b5 = g ∨ b5 = gm ∨ b5 = bb); omega)
  have hS22 := hS18.step m20 (fun k hk hS => by have hS : k = g ∨ k = gm ∨ k = bb := hS; show k = g ∨ k = gm ∨ k = bb; omega)
  refine ⟨hS22, ?_⟩
  refine qqA rfl rfl hS22 (hendH (fg [(4, _)] ⟨rfl, ⟨⟩⟩ fun _ => (wp_ret (rBlock (rThen ?_)))))
  refine rp1 rfl rfl ?_
  exact ⟨p16, q16, g16, rfl, hb, r16, hC, hf, by omega, by omega⟩
 ·
  refine sA rfl (send (fg [(0, _), (3, _), (5, _), (9, _), (10, _)] ⟨rfl, rfl, rfl, rfl, rfl, ⟨⟩⟩ fun _ => (cno rfl (sreg ?_))))
  refine svP (xeql rfl rfl) (fun hc18 => ?_) (fun hc18 => ?_)
  ·
   refine sA rfl (send (fg [(0, _), (3, _), (5, _), (9, _), (17, _)] ⟨rfl, rfl, rfl, rfl, rfl, ⟨⟩⟩ fun _ => (cyes rfl ?_)))
   refine sdrawH (Fr (fun k => k = g ∨ k = gm ∨ k = bb) w11.drew) [(0, .rd), (1, .rd), (2, .rd), (3, .ld), (4, .ld), (5, .rd)] mixed (by kernel_rfl) (fun _ _ _ _ _ h => h) ?_
   have z23 : w11.drew.heap.size = w11.heap.size := rfl
   have hb := hb.drew
   have hR := hR.keep (fd w11) id
   have hC := hC.keep (fd w11) nF
   have hG := hG.keep (fun k hk => by omega) (fd w11) nF
   have hd := hd.keep (fun k hk => by have hk := hU k hk; omega) (fd w11) nF
   have ht := ht.keep text_st (fun k hk => by have hk := hU k hk; omega) (fd w11) nF
   have hp := hp.keep pair_st (fun k hk => by have hk := hU k hk; omega) (fd w11) nF
   have hf := hf.drew
   have h3 := h3.drew
   have h5 := h5.drew
   have zb_h3 := h3
   have zb_h5 := h5
   have hS24 : Fr (fun k => k = g ∨ k = gm ∨ k = bb) w11.drew w11.drew := Fr.refl _ _
   refine qqM rfl rfl hS24 (hvH rfl (fun w' hS => xldS (lens := [256, 1, 1, 1, 1]) ro135 rfl (zb_h5.keep hS (by show ¬ (b5 = g ∨ b5 = gm ∨ b5 = bb); omega)).r) hS24 (hvH rfl (fun w' hS => xldS (lens := lRec) ro112 rfl (zb_h3.keep hS (by show ¬ (b3 = g ∨ b3 = gm ∨ b3 = bb); omega)).r) hS24 ?_))
   refine hcH rfl (xcall ca119 rfl) (c119 (hfit.1 (by omega))) ?_
   rintro _ w25 ⟨rfl, m26⟩
   have z27 := m26.size
   have hb := hb.keep m26 id
   have hR := hR.keep m26 id
   have hC := hC.keep m26 nF
   have hG := hG.keep (fun k hk => by omega) m26 nF
   have hd := hd.keep (fun k hk => by have hk := hU k hk; omega) m26 nF
   have ht := ht.keep text_st (fun k hk => by have hk := hU k hk; omega) m26 nF
   have hp := hp.keep pair_st (fun k hk => by have hk := hU k hk; omega) m26 nF
   have hf := hf.step0 m26
   have h3 := h3.keep m26 id
   have h5 := h5.keep m26 id
   have hS28 := hS24.step0 m26
   refine ⟨hS28, ?_⟩
   refine hcH rfl (xcall ca118 rfl) (c118 (r := r) hb hR hC hm hG (by omega) hn0 hl hc hs3 hs5 (u16lt _) hnm hlb (by omega)) ?_
   rintro _ w29 ⟨p23, q23, g23, rfl, hb, r23, hC, m30, a23, l23⟩
   have z31 := m30.size
   have hG := hG.keep (fun k hk => by omega) m30 (fun k hk hS => by have hk := hk; have hS : k = g ∨ k = gm ∨ k = bb := hS; omega)
   have hf := hf.step m30 (fun k hk hS => by have hS : k = g ∨ k = gm ∨ k = bb := hS; show k = g ∨ k = gm ∨ k = bb; omega)
   have h3 := h3.keep m30 (by show ¬ (b3 = g ∨ b3 = gm ∨ b3 = bb); omega)
   have h5 := h5.keep m30 (by show ¬ (b5 = g ∨ b5 = gm ∨ b5 = bb); omega)
   have hS32 := hS28.step m30 (fun k hk hS => by have hS : k = g ∨ k = gm ∨ k = bb := hS; show k = g ∨ k = gm ∨ k = bb; omega)
   refine ⟨hS32, ?_⟩
   refine qqA rfl rfl hS32 (hendH (fg [(4, _)] ⟨rfl, ⟨⟩⟩ fun _ => (wp_ret (rBlock (rThen ?_)))))
   refine rp1 rfl rfl ?_
   exact ⟨p23, q23, g23, rfl, hb, r23, hC, hf, by omega, by omega⟩
  ·
   refine sA rfl (send (fg [(0, _), (3, _), (5, _), (9, _), (17, _)] ⟨rfl, rfl, rfl, rfl, rfl, ⟨⟩⟩ fun _ => (cno rfl (sreg ?_))))
   refine svP (xeql rfl rfl) (fun hc25 => ?_) (fun hc25 => ?_)
   ·
    refine sA rfl (send (fg [(0, _), (3, _), (5, _), (9, _), (24, _)] ⟨rfl, rfl, rfl, rfl, rfl, ⟨⟩⟩ fun _ => (cyes rfl ?_)))
    refine sdrawH (Fr (fun k => k = g ∨ k = gm ∨ k = bb) w11.drew) [(0, .rd), (1, .rd), (2, .rd), (3, .ld), (4, .ld), (5, .rd)] mixed (by kernel_rfl) (fun _ _ _ _ _ h => h) ?_
    have z33 : w11.drew.heap.size = w11.heap.size := rfl
    have hb := hb.drew
    have hR := hR.keep (fd w11) id
    have hC := hC.keep (fd w11) nF
    have hG := hG.keep (fun k hk => by omega) (fd w11) nF
    have hd := hd.keep (fun k hk => by have hk := hU k hk; omega) (fd w11) nF
    have ht := ht.keep text_st (fun k hk => by have hk := hU k hk; omega) (fd w11) nF
    have hp := hp.keep pair_st (fun k hk => by have hk := hU k hk; omega) (fd w11) nF
    have hf := hf.drew
    have h3 := h3.drew
    have h5 := h5.drew
    have zb_h3 := h3
    have zb_h5 := h5
    have hS34 : Fr (fun k => k = g ∨ k = gm ∨ k = bb) w11.drew w11.drew := Fr.refl _ _
    refine qqM rfl rfl hS34 (hvH rfl (fun w' hS => xldS (lens := [256, 1, 1, 1, 1]) ro135 rfl (zb_h5.keep hS (by show ¬ (b5 = g ∨ b5 = gm ∨ b5 = bb); omega)).r) hS34 (hvH rfl (fun w' hS => xldS (lens := lRec) ro112 rfl (zb_h3.keep hS (by show ¬ (b3 = g ∨ b3 = gm ∨ b3 = bb); omega)).r) hS34 ?_))
    refine hcH rfl (xcall ca121 rfl) (c121 (hfit.1 (by omega))) ?_
    rintro _ w35 ⟨rfl, m36⟩
    have z37 := m36.size
    have hb := hb.keep m36 id
    have hR := hR.keep m36 id
    have hC := hC.keep m36 nF
    have hG := hG.keep (fun k hk => by omega) m36 nF
    have hd := hd.keep (fun k hk => by have hk := hU k hk; omega) m36 nF
    have ht := ht.keep text_st (fun k hk => by have hk := hU k hk; omega) m36 nF
    have hp := hp.keep pair_st (fun k hk => by have hk := hU k hk; omega) m36 nF
    have hf := hf.step0 m36
    have h3 := h3.keep m36 id
    have h5 := h5.keep m36 id
    have hS38 := hS34.step0 m36
    refine ⟨hS38, ?_⟩
    refine hcH rfl (xcall ca120 rfl) (c120 (r := r) hb hR hC hm hG (by omega) hn0 hl hc hs3 hs5 (u16lt _) hnm hlb (by omega)) ?_
    rintro _ w39 ⟨p30, q30, g30, rfl, hb, r30, hC, m40, a30, l30⟩
    have z41 := m40.size
    have hG := hG.keep (fun k hk => by omega) m40 (fun k hk hS => by have hk := hk; have hS : k = g ∨ k = gm ∨ k = bb := hS; omega)
    have hf := hf.step m40 (fun k hk hS => by have hS : k = g ∨ k = gm ∨ k = bb := hS; show k = g ∨ k = gm ∨ k = bb; omega)
    have h3 := h3.keep m40 (by show ¬ (b3 = g ∨ b3 = gm ∨ b3 = bb); omega)
    have h5 := h5.keep m40 (by show ¬ (b5 = g ∨ b5 = gm ∨ b5 = bb); omega)
    have hS42 := hS38.step m40 (fun k hk hS => by have hS : k = g ∨ k = gm ∨ k = bb := hS; show k = g ∨ k = gm ∨ k = bb; omega)
    refine ⟨hS42, ?_⟩
    refine qqA rfl rfl hS42 (hendH (fg [(4, _)] ⟨rfl, ⟨⟩⟩ fun _ => (wp_ret (rBlock (rThen ?_)))))
    refine rp1 rfl rfl ?_
    exact ⟨p30, q30, g30, rfl, hb, r30, hC, hf, by omega, by omega⟩
   ·
    refine sA rfl (send (fg [(0, _), (3, _), (5, _), (9, _), (24, _)] ⟨rfl, rfl, rfl, rfl, rfl, ⟨⟩⟩ fun _ => (cno rfl (sreg ?_))))
    refine svP (xeql rfl rfl) (fun hc32 => ?_) (fun hc32 => ?_)
    ·
     refine sA rfl (send (fg [(0, _), (3, _), (5, _), (9, _), (31, _)] ⟨rfl, rfl, rfl, rfl, rfl, ⟨⟩⟩ fun _ => (cyes rfl ?_)))
     refine sdrawH (Fr (fun k => k = g ∨ k = gm ∨ k = bb) w11.drew) [(0, .rd), (1, .rd), (2, .rd), (3, .ld), (4, .ld), (5, .rd)] mixed (by kernel_rfl) (fun _ _ _ _ _ h => h) ?_
     have z43 : w11.drew.heap.size = w11.heap.size := rfl
     have hb := hb.drew
     have hR := hR.keep (fd w11) id
     have hC := hC.keep (fd w11) nF
     have hG := hG.keep (fun k hk => by omega) (fd w11) nF
     have hd := hd.keep (fun k hk => by have hk := hU k hk; omega) (fd w11) nF
     have ht := ht.keep text_st (fun k hk => by have hk := hU k hk; omega) (fd w11) nF
     have hp := hp.keep pair_st (fun k hk => by have hk := hU k hk; omega) (fd w11) nF
     have hf := hf.drew
     have h3 := h3.drew
     have h5 := h5.drew
     have zb_h3 := h3
     have zb_h5 := h5
     have hS44 : Fr (fun k => k = g ∨ k = gm ∨ k = bb) w11.drew w11.drew := Fr.refl _ _
     refine qqM rfl rfl hS44 (hvH rfl (fun w' hS => xldS (lens := [256, 1, 1, 1, 1]) ro135 rfl (zb_h5.keep hS (by show ¬ (b5 = g ∨ b5 = gm ∨ b5 = bb); omega)).r) hS44 (hvH rfl (fun w' hS => xldS (lens := lRec) ro112 rfl (zb_h3.keep hS (by show ¬ (b3 = g ∨ b3 = gm ∨ b3 = bb); omega)).r) hS44 ?_))
     refine hcH rfl (xcall ca123 rfl) (c123 (hfit.1 (by omega)) (hfit.2.1 (by omega))) ?_
     rintro _ w45 ⟨rfl, m46⟩
     have z47 := m46.size
     have hb := hb.keep m46 id
     have hR := hR.keep m46 id
     have hC := hC.keep m46 nF
     have hG := hG.keep (fun k hk => by omega) m46 nF
     have hd := hd.keep (fun k hk => by have hk := hU k hk; omega) m46 nF
     have ht := ht.keep text_st (fun k hk => by have hk := hU k hk; omega) m46 nF
     have hp := hp.keep pair_st (fun k hk => by have hk := hU k hk; omega) m46 nF
     have hf := hf.step0 m46
     have h3 := h3.keep m46 id
     have h5 := h5.keep m46 id
     have hS48 := hS44.step0 m46
     refine ⟨hS48, ?_⟩
     refine hcH rfl (xcall ca122 rfl) (c122 (r := r) hb hR hC hm hG (by omega) hn0 hl hc hs3 hs5 (u16lt _) hnm hlb (by omega)) ?_
     rintro _ w49 ⟨p37, q37, g37, rfl, hb, r37, hC, m50, a37, l37⟩
     have z51 := m50.size
     have hG := hG.keep (fun k hk => by omega) m50 (fun k hk hS => by have hk := hk; have hS : k = g ∨ k = gm ∨ k = bb := hS; omega)
     have hf := hf.step m50 (fun k hk hS => by have hS : k = g ∨ k = gm ∨ k = bb := hS; show k = g ∨ k = gm ∨ k = bb; omega)
     have h3 := h3.keep m50 (by show ¬ (b3 = g ∨ b3 = gm ∨ b3 = bb); omega)
     have h5 := h5.keep m50 (by show ¬ (b5 = g ∨ b5 = gm ∨ b5 = bb); omega)
     have hS52 := hS48.step m50 (fun k hk hS => by have hS : k = g ∨ k = gm ∨ k = bb := hS; show k = g ∨ k = gm ∨ k = bb; omega)
     refine ⟨hS52, ?_⟩
     refine qqA rfl rfl hS52 (hendH (fg [(4, _)] ⟨rfl, ⟨⟩⟩ fun _ => (wp_ret (rBlock (rThen ?_)))))
     refine rp1 rfl rfl ?_
     exact ⟨p37, q37, g37, rfl, hb, r37, hC, hf, by omega, by omega⟩
    ·
     refine sA rfl (send (fg [(0, _), (3, _), (5, _), (9, _), (31, _)] ⟨rfl, rfl, rfl, rfl, rfl, ⟨⟩⟩ fun _ => (cno rfl (sreg ?_))))
     refine svP (xeql rfl rfl) (fun hc39 => ?_) (fun hc39 => ?_)
     ·
      refine sA rfl (send (fg [(0, _), (3, _), (5, _), (9, _), (38, _)] ⟨rfl, rfl, rfl, rfl, rfl, ⟨⟩⟩ fun _ => (cyes rfl ?_)))
      refine sdrawH (Fr (fun k => k = g ∨ k = gm ∨ k = bb) w11.drew) [(0, .rd), (1, .rd), (2, .rd), (3, .ld), (4, .ld), (5, .rd)] mixed (by kernel_rfl) (fun _ _ _ _ _ h => h) ?_
      have z53 : w11.drew.heap.size = w11.heap.size := rfl
      have hb := hb.drew
      have hR := hR.keep (fd w11) id
      have hC := hC.keep (fd w11) nF
      have hG := hG.keep (fun k hk => by omega) (fd w11) nF
      have hd := hd.keep (fun k hk => by have hk := hU k hk; omega) (fd w11) nF
      have ht := ht.keep text_st (fun k hk => by have hk := hU k hk; omega) (fd w11) nF
      have hp := hp.keep pair_st (fun k hk => by have hk := hU k hk; omega) (fd w11) nF
      have hf := hf.drew
      have h3 := h3.drew
      have h5 := h5.drew
      have zb_h3 := h3
      have zb_h5 := h5
      have hS54 : Fr (fun k => k = g ∨ k = gm ∨ k = bb) w11.drew w11.drew := Fr.refl _ _
      refine qqM rfl rfl hS54 (hvH rfl (fun w' hS => xldS (lens := [256, 1, 1, 1, 1]) ro135 rfl (zb_h5.keep hS (by show ¬ (b5 = g ∨ b5 = gm ∨ b5 = bb); omega)).r) hS54 (hvH rfl (fun w' hS => xldS (lens := lRec) ro112 rfl (zb_h3.keep hS (by show ¬ (b3 = g ∨ b3 = gm ∨ b3 = bb); omega)).r) hS54 ?_))
      refine hcH rfl (xcall ca125 rfl) (c125 (hfit.1 (by omega))) ?_
      rintro _ w55 ⟨rfl, m56⟩
      have z57 := m56.size
      have hb := hb.keep m56 id
      have hR := hR.keep m56 id
      have hC := hC.keep m56 nF
      have hG := hG.keep (fun k hk => by omega) m56 nF
      have hd := hd.keep (fun k hk => by have hk := hU k hk; omega) m56 nF
      have ht := ht.keep text_st (fun k hk => by have hk := hU k hk; omega) m56 nF
      have hp := hp.keep pair_st (fun k hk => by have hk := hU k hk; omega) m56 nF
      have hf := hf.step0 m56
      have h3 := h3.keep m56 id
      have h5 := h5.keep m56 id
      have hS58 := hS54.step0 m56
      refine ⟨hS58, ?_⟩
      refine hcH rfl (xcall ca124 rfl) (c124 (r := r) hb hR hC hm hG (by omega) hn0 hl hc hs3 hs5 (u16lt _) hnm hlb (by omega)) ?_
      rintro _ w59 ⟨p44, q44, g44, rfl, hb, r44, hC, m60, a44, l44⟩
      have z61 := m60.size
      have hG := hG.keep (fun k hk => by omega) m60 (fun k hk hS => by have hk := hk; have hS : k = g ∨ k = gm ∨ k = bb := hS; omega)
      have hf := hf.step m60 (fun k hk hS => by have hS : k = g ∨ k = gm ∨ k = bb := hS; show k = g ∨ k = gm ∨ k = bb; omega)
      have h3 := h3.keep m60 (by show ¬ (b3 = g ∨ b3 = gm ∨ b3 = bb); omega)
      have h5 := h5.keep m60 (by show ¬ (b5 = g ∨ b5 = gm ∨ b5 = bb); omega)
      have hS62 := hS58.step m60 (fun k hk hS => by have hS : k = g ∨ k = gm ∨ k = bb := hS; show k = g ∨ k = gm ∨ k = bb; omega)
      refine ⟨hS62, ?_⟩
      refine qqA rfl rfl hS62 (hendH (fg [(4, _)] ⟨rfl, ⟨⟩⟩ fun _ => (wp_ret (rBlock (rThen ?_)))))
      refine rp1 rfl rfl ?_
      exact ⟨p44, q44, g44, rfl, hb, r44, hC, hf, by omega, by omega⟩
     ·
      refine sA rfl (send (fg [(0, _), (3, _), (5, _), (9, _), (38, _)] ⟨rfl, rfl, rfl, rfl, rfl, ⟨⟩⟩ fun _ => (cno rfl (sreg ?_))))
      refine svP (xeql rfl rfl) (fun hc46 => ?_) (fun hc46 => ?_)
      ·
       refine sA rfl (send (fg [(0, _), (3, _), (5, _), (9, _), (45, _)] ⟨rfl, rfl, rfl, rfl, rfl, ⟨⟩⟩ fun _ => (cyes rfl ?_)))
       refine sdrawH (Fr (fun k => k = g ∨ k = gm ∨ k = bb) w11.drew) [(0, .rd), (1, .rd), (2, .rd), (3, .ld), (4, .ld), (5, .rd)] mixed (by kernel_rfl) (fun _ _ _ _ _ h => h) ?_
       have z63 : w11.drew.heap.size = w11.heap.size := rfl
       have hb := hb.drew
       have hR := hR.keep (fd w11) id
       have hC := hC.keep (fd w11) nF
       have hG := hG.keep (fun k hk => by omega) (fd w11) nF
       have hd := hd.keep (fun k hk => by have hk := hU k hk; omega) (fd w11) nF
       have ht := ht.keep text_st (fun k hk => by have hk := hU k hk; omega) (fd w11) nF
       have hp := hp.keep pair_st (fun k hk => by have hk := hU k hk; omega) (fd w11) nF
       have hf := hf.drew
       have h3 := h3.drew
       have h5 := h5.drew
       have zb_h3 := h3
       have zb_h5 := h5
       have hS64 : Fr (fun k => k = g ∨ k = gm ∨ k = bb) w11.drew w11.drew := Fr.refl _ _
       refine qqM rfl rfl hS64 (hvH rfl (fun w' hS => xldS (lens := [256, 1, 1, 1, 1]) ro135 rfl (zb_h5.keep hS (by show ¬ (b5 = g ∨ b5 = gm ∨ b5 = bb); omega)).r) hS64 (hvH rfl (fun w' hS => xldS (lens := lRec) ro112 rfl (zb_h3.keep hS (by show ¬ (b3 = g ∨ b3 = gm ∨ b3 = bb); omega)).r) hS64 ?_))
       refine hcH rfl (xcall ca127 rfl) (c127 (hfit.1 (by omega))) ?_
       rintro _ w65 ⟨rfl, m66⟩
       have z67 := m66.size
       have hb := hb.keep m66 id
       have hR := hR.keep m66 id
       have hC := hC.keep m66 nF
       have hG := hG.keep (fun k hk => by omega) m66 nF
       have hd := hd.keep (fun k hk => by have hk := hU k hk; omega) m66 nF
       have ht := ht.keep text_st (fun k hk => by have hk := hU k hk; omega) m66 nF
       have hp := hp.keep pair_st (fun k hk => by have hk := hU k hk; omega) m66 nF
       have hf := hf.step0 m66
       have h3 := h3.keep m66 id
       have h5 := h5.keep m66 id
       have hS68 := hS64.step0 m66
       refine ⟨hS68, ?_⟩
       refine hcH rfl (xcall ca126 rfl) (c126 (r := r) hb hR hC hm hG (by omega) hn0 hl hc hs3 hs5 (u16lt _) hnm hlb (by omega)) ?_
       rintro _ w69 ⟨p51, q51, g51, rfl, hb, r51, hC, m70, a51, l51⟩
       have z71 := m70.size
       have hG := hG.keep (fun k hk => by omega) m70 (fun k hk hS => by have hk := hk; have hS : k = g ∨ k = gm ∨ k = bb := hS; omega)
       have hf := hf.step m70 (fun k hk hS => by have hS : k = g ∨ k = gm ∨ k = bb := hS; show k = g ∨ k = gm ∨ k = bb; omega)
       have h3 := h3.keep m70 (by show ¬ (b3 = g ∨ b3 = gm ∨ b3 = bb); omega)
       have h5 := h5.keep m70 (by show ¬ (b5 = g ∨ b5 = gm ∨ b5 = bb); omega)
       have hS72 := hS68.step m70 (fun k hk hS => by have hS : k = g ∨ k = gm ∨ k = bb := hS; show k = g ∨ k = gm ∨ k = bb; omega)
       refine ⟨hS72, ?_⟩
       refine qqA rfl rfl hS72 (hendH (fg [(4, _)] ⟨rfl, ⟨⟩⟩ fun _ => (wp_ret (rBlock (rThen ?_)))))
       refine rp1 rfl rfl ?_
       exact ⟨p51, q51, g51, rfl, hb, r51, hC, hf, by omega, by omega⟩
      ·
       refine sA rfl (send (fg [(0, _), (3, _), (5, _), (9, _), (45, _)] ⟨rfl, rfl, rfl, rfl, rfl, ⟨⟩⟩ fun _ => (cno rfl (sreg ?_))))
       refine svP (xeql rfl rfl) (fun hc53 => ?_) (fun hc53 => ?_)
       ·
        refine sA rfl (send (fg [(0, _), (3, _), (5, _), (9, _), (52, _)] ⟨rfl, rfl, rfl, rfl, rfl, ⟨⟩⟩ fun _ => (cyes rfl ?_)))
        refine sdrawH (Fr (fun k => k = g ∨ k = gm ∨ k = bb) w11.drew) [(0, .rd), (1, .rd), (2, .rd), (3, .ld), (4, .ld), (5, .rd)] mixed (by kernel_rfl) (fun _ _ _ _ _ h => h) ?_
        have z73 : w11.drew.heap.size = w11.heap.size := rfl
        have hb := hb.drew
        have hR := hR.keep (fd w11) id
        have hC := hC.keep (fd w11) nF
        have hG := hG.keep (fun k hk => by omega) (fd w11) nF
        have hd := hd.keep (fun k hk => by have hk := hU k hk; omega) (fd w11) nF
        have ht := ht.keep text_st (fun k hk => by have hk := hU k hk; omega) (fd w11) nF
        have hp := hp.keep pair_st (fun k hk => by have hk := hU k hk; omega) (fd w11) nF
        have hf := hf.drew
        have h3 := h3.drew
        have h5 := h5.drew
        have zb_h3 := h3
        have zb_h5 := h5
        have hS74 : Fr (fun k => k = g ∨ k = gm ∨ k = bb) w11.drew w11.drew := Fr.refl _ _
        refine qqM rfl rfl hS74 (hvH rfl (fun w' hS => xldS (lens := [256, 1, 1, 1, 1]) ro135 rfl (zb_h5.keep hS (by show ¬ (b5 = g ∨ b5 = gm ∨ b5 = bb); omega)).r) hS74 (hvH rfl (fun w' hS => xldS (lens := lRec) ro112 rfl (zb_h3.keep hS (by show ¬ (b3 = g ∨ b3 = gm ∨ b3 = bb); omega)).r) hS74 ?_))
        refine hcH rfl (xcall ca129 rfl) (c129 (U := U) (fun k hk => by have hk := hU k hk; omega) ht hfit.2.2.2.1) ?_
        rintro _ w75 ⟨v57, rfl, L57, m76⟩
        have z77 := m76.size
        have hb := hb.keep m76 id
        have hR := hR.keep m76 id
        have hC := hC.keep m76 nF
        have hG := hG.keep (fun k hk => by omega) m76 nF
        have hd := hd.keep (fun k hk => by have hk := hU k hk; omega) m76 nF
        have hp := hp.keep pair_st (fun k hk => by have hk := hU k hk; omega) m76 nF
        have hf := hf.step0 m76
        have h3 := h3.keep m76 id
        have h5 := h5.keep m76 id
        have hS78 := hS74.step0 m76
        obtain ⟨aq57, cq57, rfl⟩ := L57.form
        refine ⟨hS78, ?_⟩
        refine hcH rfl (xcall ca128 rfl) (c128 (r := r) hb hR hC hm hG (by omega) hn0 hl hc hs3 hs5 (u16lt _) hnm hlb (by omega) (fun k hk => hk.elim (fun h => by have h := hU k h; omega) (fun h => by omega)) hfp L57) ?_
        rintro _ w79 ⟨p58, q58, g58, rfl, hb, r58, hC, m80, a58, l58⟩
        have z81 := m80.size
        have hG := hG.keep (fun k hk => by omega) m80 (fun k hk hS => by have hk := hk; have hS : k = g ∨ k = gm ∨ k = bb := hS; omega)
        have hf := hf.step m80 (fun k hk hS => by have hS : k = g ∨ k = gm ∨ k = bb := hS; show k = g ∨ k = gm ∨ k = bb; omega)
        have h3 := h3.keep m80 (by show ¬ (b3 = g ∨ b3 = gm ∨ b3 = bb); omega)
        have h5 := h5.keep m80 (by show ¬ (b5 = g ∨ b5 = gm ∨ b5 = bb); omega)
        have hS82 := hS78.step m80 (fun k hk hS => by have hS : k = g ∨ k = gm ∨ k = bb := hS; show k = g ∨ k = gm ∨ k = bb; omega)
        refine ⟨hS82, ?_⟩
        refine qqA rfl rfl hS82 (hendH (fg [(4, _)] ⟨rfl, ⟨⟩⟩ fun _ => (wp_ret (rBlock (rThen ?_)))))
        refine rp1 rfl rfl ?_
        exact ⟨p58, q58, g58, rfl, hb, r58, hC, hf, by omega, by omega⟩
       ·
        refine sA rfl (send (fg [(0, _), (3, _), (5, _), (9, _), (52, _)] ⟨rfl, rfl, rfl, rfl, rfl, ⟨⟩⟩ fun _ => (cno rfl (sreg ?_))))
        refine svP (xeql rfl rfl) (fun hc60 => ?_) (fun hc60 => ?_)
        ·
         refine sA rfl (send (fg [(0, _), (3, _), (5, _), (9, _), (59, _)] ⟨rfl, rfl, rfl, rfl, rfl, ⟨⟩⟩ fun _ => (cyes rfl ?_)))
         refine sdrawH (Fr (fun k => k = g ∨ k = gm ∨ k = bb) w11.drew) [(0, .rd), (1, .rd), (2, .rd), (3, .ld), (4, .ld), (5, .rd)] mixed (by kernel_rfl) (fun _ _ _ _ _ h => h) ?_
         have z83 : w11.drew.heap.size = w11.heap.size := rfl
         have hb := hb.drew
         have hR := hR.keep (fd w11) id
         have hC := hC.keep (fd w11) nF
         have hG := hG.keep (fun k hk => by omega) (fd w11) nF
         have hd := hd.keep (fun k hk => by have hk := hU k hk; omega) (fd w11) nF
         have hp := hp.keep pair_st (fun k hk => by have hk := hU k hk; omega) (fd w11) nF
         have hf := hf.drew
         have h3 := h3.drew
         have h5 := h5.drew
         have zb_h3 := h3
         have zb_h5 := h5
         have hS84 : Fr (fun k => k = g ∨ k = gm ∨ k = bb) w11.drew w11.drew := Fr.refl _ _
         refine qqM rfl rfl hS84 (hvH rfl (fun w' hS => xldS (lens := [256, 1, 1, 1, 1]) ro135 rfl (zb_h5.keep hS (by show ¬ (b5 = g ∨ b5 = gm ∨ b5 = bb); omega)).r) hS84 (hvH rfl (fun w' hS => xldS (lens := lRec) ro112 rfl (zb_h3.keep hS (by show ¬ (b3 = g ∨ b3 = gm ∨ b3 = bb); omega)).r) hS84 ?_))
         refine hcH rfl (xcall ca131 rfl) (c131 (U := U) (fun k hk => by have hk := hU k hk; omega) hd) ?_
         rintro _ w85 ⟨rfl, m86⟩
         have z87 := m86.size
         have hb := hb.keep m86 id
         have hR := hR.keep m86 id
         have hC := hC.keep m86 nF
         have hG := hG.keep (fun k hk => by omega) m86 nF
         have hd := hd.keep (fun k hk => by have hk := hU k hk; omega) m86 nF
         have hp := hp.keep pair_st (fun k hk => by have hk := hU k hk; omega) m86 nF
         have hf := hf.step0 m86
         have h3 := h3.keep m86 id
         have h5 := h5.keep m86 id
         have hS88 := hS84.step0 m86
         refine ⟨hS88, ?_⟩
         refine hcH rfl (xcall ca130 rfl) (c130 (r := r) hb hR hC hm hG (by omega) hn0 hl hc hs3 hs5 (u16lt _) hnm hlb (by omega)) ?_
         rintro _ w89 ⟨p65, q65, g65, rfl, hb, r65, hC, m90, a65, l65⟩
         have z91 := m90.size
         have hG := hG.keep (fun k hk => by omega) m90 (fun k hk hS => by have hk := hk; have hS : k = g ∨ k = gm ∨ k = bb := hS; omega)
         have hf := hf.step m90 (fun k hk hS => by have hS : k = g ∨ k = gm ∨ k = bb := hS; show k = g ∨ k = gm ∨ k = bb; omega)
         have h3 := h3.keep m90 (by show ¬ (b3 = g ∨ b3 = gm ∨ b3 = bb); omega)
         have h5 := h5.keep m90 (by show ¬ (b5 = g ∨ b5 = gm ∨ b5 = bb); omega)
         have hS92 := hS88.step m90 (fun k hk hS => by have hS : k = g ∨ k = gm ∨ k = bb := hS; show k = g ∨ k = gm ∨ k = bb; omega)
         refine ⟨hS92, ?_⟩
         refine qqA rfl rfl hS92 (hendH (fg [(4, _)] ⟨rfl, ⟨⟩⟩ fun _ => (wp_ret (rBlock (rThen ?_)))))
         refine rp1 rfl rfl ?_
         exact ⟨p65, q65, g65, rfl, hb, r65, hC, hf, by omega, by omega⟩
        ·
         refine sA rfl (send (fg [(0, _), (3, _), (5, _), (9, _), (59, _)] ⟨rfl, rfl, rfl, rfl, rfl, ⟨⟩⟩ fun _ => (cno rfl (sreg ?_))))
         refine svP (xeql rfl rfl) (fun hc67 => ?_) (fun hc67 => ?_)
         ·
          refine sA rfl (send (fg [(0, _), (3, _), (5, _), (9, _), (66, _)] ⟨rfl, rfl, rfl, rfl, rfl, ⟨⟩⟩ fun _ => (cyes rfl ?_)))
          refine sdrawH (Fr (fun k => k = g ∨ k = gm ∨ k = bb) w11.drew) [(0, .rd), (1, .rd), (2, .rd), (3, .ld), (4, .ld), (5, .rd)] mixed (by kernel_rfl) (fun _ _ _ _ _ h => h) ?_
          have z93 : w11.drew.heap.size = w11.heap.size := rfl
          have hb := hb.drew
          have hR := hR.keep (fd w11) id
          have hC := hC.keep (fd w11) nF
          have hG := hG.keep (fun k hk => by omega) (fd w11) nF
          have hd := hd.keep (fun k hk => by have hk := hU k hk; omega) (fd w11) nF
          have hp := hp.keep pair_st (fun k hk => by have hk := hU k hk; omega) (fd w11) nF
          have hf := hf.drew
          have h3 := h3.drew
          have h5 := h5.drew
          have zb_h3 := h3
          have zb_h5 := h5
          have hS94 : Fr (fun k => k = g ∨ k = gm ∨ k = bb) w11.drew w11.drew := Fr.refl _ _
          refine qqM rfl rfl hS94 (hvH rfl (fun w' hS => xldS (lens := [256, 1, 1, 1, 1]) ro135 rfl (zb_h5.keep hS (by show ¬ (b5 = g ∨ b5 = gm ∨ b5 = bb); omega)).r) hS94 (hvH rfl (fun w' hS => xldS (lens := lRec) ro112 rfl (zb_h3.keep hS (by show ¬ (b3 = g ∨ b3 = gm ∨ b3 = bb); omega)).r) hS94 ?_))
          refine hcH rfl (xcall ca133 rfl) (c133 (hfit.1 (by omega))) ?_
          rintro _ w95 ⟨rfl, m96⟩
          have z97 := m96.size
          have hb := hb.keep m96 id
          have hR := hR.keep m96 id
          have hC := hC.keep m96 nF
          have hG := hG.keep (fun k hk => by omega) m96 nF
          have hd := hd.keep (fun k hk => by have hk := hU k hk; omega) m96 nF
          have hp := hp.keep pair_st (fun k hk => by have hk := hU k hk; omega) m96 nF
          have hf := hf.step0 m96
          have h3 := h3.keep m96 id
          have h5 := h5.keep m96 id
          have hS98 := hS94.step0 m96
          refine ⟨hS98, ?_⟩
          refine hcH rfl (xcall ca132 rfl) (c132 (r := r) hb hR hC hm hG (by omega) hn0 hl hc hs3 hs5 (u16lt _) hnm hlb (by omega)) ?_
          rintro _ w99 ⟨p72, q72, g72, rfl, hb, r72, hC, m100, a72, l72⟩
          have z101 := m100.size
          have hG := hG.keep (fun k hk => by omega) m100 (fun k hk hS => by have hk := hk; have hS : k = g ∨ k = gm ∨ k = bb := hS; omega)
          have hf := hf.step m100 (fun k hk hS => by have hS : k = g ∨ k = gm ∨ k = bb := hS; show k = g ∨ k = gm ∨ k = bb; omega)
          have h3 := h3.keep m100 (by show ¬ (b3 = g ∨ b3 = gm ∨ b3 = bb); omega)
          have h5 := h5.keep m100 (by show ¬ (b5 = g ∨ b5 = gm ∨ b5 = bb); omega)
          have hS102 := hS98.step m100 (fun k hk hS => by have hS : k = g ∨ k = gm ∨ k = bb := hS; show k = g ∨ k = gm ∨ k = bb; omega)
          refine ⟨hS102, ?_⟩
          refine qqA rfl rfl hS102 (hendH (fg [(4, _)] ⟨rfl, ⟨⟩⟩ fun _ => (wp_ret (rBlock (rThen ?_)))))
          refine rp1 rfl rfl ?_
          exact ⟨p72, q72, g72, rfl, hb, r72, hC, hf, by omega, by omega⟩
         ·
          refine sA rfl (send (fg [(0, _), (3, _), (5, _), (9, _), (66, _)] ⟨rfl, rfl, rfl, rfl, rfl, ⟨⟩⟩ fun _ => (cno rfl (sreg ?_))))
          refine svP (xeql rfl rfl) (fun hc74 => ?_) (fun hc74 => ?_)
          ·
           refine sA rfl (send (fg [(0, _), (3, _), (5, _), (9, _), (73, _)] ⟨rfl, rfl, rfl, rfl, rfl, ⟨⟩⟩ fun _ => (cyes rfl ?_)))
           refine sdrawH (Fr (fun k => k = g ∨ k = gm ∨ k = bb) w11.drew) [(0, .rd), (1, .rd), (2, .rd), (3, .ld), (4, .ld), (5, .rd)] mixed (by kernel_rfl) (fun _ _ _ _ _ h => h) ?_
           have z103 : w11.drew.heap.size = w11.heap.size := rfl
           have hb := hb.drew
           have hR := hR.keep (fd w11) id
           have hC := hC.keep (fd w11) nF
           have hG := hG.keep (fun k hk => by omega) (fd w11) nF
           have hd := hd.keep (fun k hk => by have hk := hU k hk; omega) (fd w11) nF
           have hp := hp.keep pair_st (fun k hk => by have hk := hU k hk; omega) (fd w11) nF
           have hf := hf.drew
           have h3 := h3.drew
           have h5 := h5.drew
           have zb_h3 := h3
           have zb_h5 := h5
           have hS104 : Fr (fun k => k = g ∨ k = gm ∨ k = bb) w11.drew w11.drew := Fr.refl _ _
           refine qqM rfl rfl hS104 (hvH rfl (fun w' hS => xldS (lens := [256, 1, 1, 1, 1]) ro135 rfl (zb_h5.keep hS (by show ¬ (b5 = g ∨ b5 = gm ∨ b5 = bb); omega)).r) hS104 (hvH rfl (fun w' hS => xldS (lens := lRec) ro112 rfl (zb_h3.keep hS (by show ¬ (b3 = g ∨ b3 = gm ∨ b3 = bb); omega)).r) hS104 ?_))
           refine hcH rfl (xcall ca135 rfl) (c135 (U := U) (fun k hk => by have hk := hU k hk; omega) hp hfit.2.2.2.2.1 hfit.2.2.2.2.2) ?_
           rintro _ w105 ⟨v78, rfl, L78, m106⟩
           have z107 := m106.size
           have hb := hb.keep m106 id
           have hR := hR.keep m106 id
           have hC := hC.keep m106 nF
           have hG := hG.keep (fun k hk => by omega) m106 nF
           have hd := hd.keep (fun k hk => by have hk := hU k hk; omega) m106 nF
           have hp := hp.keep pair_st (fun k hk => by have hk := hU k hk; omega) m106 nF
           have hf := hf.step0 m106
           have h3 := h3.keep m106 id
           have h5 := h5.keep m106 id
           have hS108 := hS104.step0 m106
           obtain ⟨aq78, cq78, rfl⟩ := L78.form
           refine ⟨hS108, ?_⟩
           refine hcH rfl (xcall ca134 rfl) (c134 (r := r) hb hR hC hm hG (by omega) hn0 hl hc hs3 hs5 (u16lt _) hnm hlb (by omega) (fun k hk => hk.elim (fun h => by have h := hU k h; omega) (fun h => by omega)) hfp L78) ?_
           rintro _ w109 ⟨p79, q79, g79, rfl, hb, r79, hC, m110, a79, l79⟩
           have z111 := m110.size
           have hG := hG.keep (fun k hk => by omega) m110 (fun k hk hS => by have hk := hk; have hS : k = g ∨ k = gm ∨ k = bb := hS; omega)
           have hf := hf.step m110 (fun k hk hS => by have hS : k = g ∨ k = gm ∨ k = bb := hS; show k = g ∨ k = gm ∨ k = bb; omega)
           have h3 := h3.keep m110 (by show ¬ (b3 = g ∨ b3 = gm ∨ b3 = bb); omega)
           have h5 := h5.keep m110 (by show ¬ (b5 = g ∨ b5 = gm ∨ b5 = bb); omega)
           have hS112 := hS108.step m110 (fun k hk hS => by have hS : k = g ∨ k = gm ∨ k = bb := hS; show k = g ∨ k = gm ∨ k = bb; omega)
           refine ⟨hS112, ?_⟩
           refine qqA rfl rfl hS112 (hendH (fg [(4, _)] ⟨rfl, ⟨⟩⟩ fun _ => (wp_ret (rBlock (rThen ?_)))))
           refine rp1 rfl rfl ?_
           exact ⟨p79, q79, g79, rfl, hb, r79, hC, hf, by omega, by omega⟩
          ·
           refine sA rfl (send (fg [(0, _), (3, _), (5, _), (9, _), (73, _)] ⟨rfl, rfl, rfl, rfl, rfl, ⟨⟩⟩ fun _ => (cno rfl (sreg ?_))))
           refine svP (xeql rfl rfl) (fun hc81 => ?_) (fun hc81 => ?_)
           ·
            refine sA rfl (send (fg [(0, _), (3, _), (5, _), (9, _), (80, _)] ⟨rfl, rfl, rfl, rfl, rfl, ⟨⟩⟩ fun _ => (cyes rfl ?_)))
            refine sdrawH (Fr (fun k => k = g ∨ k = gm ∨ k = bb) w11.drew) [(0, .rd), (1, .rd), (2, .rd), (3, .ld), (4, .ld), (5, .rd)] mixed (by kernel_rfl) (fun _ _ _ _ _ h => h) ?_
            have z113 : w11.drew.heap.size = w11.heap.size := rfl
            have hb := hb.drew
            have hR := hR.keep (fd w11) id
            have hC := hC.keep (fd w11) nF
            have hG := hG.keep (fun k hk => by omega) (fd w11) nF
            have hd := hd.keep (fun k hk => by have hk := hU k hk; omega) (fd w11) nF
            have hp := hp.keep pair_st (fun k hk => by have hk := hU k hk; omega) (fd w11) nF
            have hf := hf.drew
            have h3 := h3.drew
            have h5 := h5.drew
            have zb_h3 := h3
            have zb_h5 := h5
            have hS114 : Fr (fun k => k = g ∨ k = gm ∨ k = bb) w11.drew w11.drew := Fr.refl _ _
            refine qqM rfl rfl hS114 (hvH rfl (fun w' hS => xldS (lens := [256, 1, 1, 1, 1]) ro135 rfl (zb_h5.keep hS (by show ¬ (b5 = g ∨ b5 = gm ∨ b5 = bb); omega)).r) hS114 (hvH rfl (fun w' hS => xldS (lens := lRec) ro112 rfl (zb_h3.keep hS (by show ¬ (b3 = g ∨ b3 = gm ∨ b3 = bb); omega)).r) hS114 ?_))
            refine hcH rfl (xcall ca137 rfl) (c137 (U := U) (fun k hk => by have hk := hU k hk; omega) hp hfit.2.2.2.2.1 hfit.2.2.2.2.2 (hfit.1 (by omega))) ?_
            rintro _ w115 ⟨v85, rfl, L85, m116⟩
            have z117 := m116.size
            have hb := hb.keep m116 id
            have hR := hR.keep m116 id
            have hC := hC.keep m116 nF
            have hG := hG.keep (fun k hk => by omega) m116 nF
            have hd := hd.keep (fun k hk => by have hk := hU k hk; omega) m116 nF
            have hp := hp.keep pair_st (fun k hk => by have hk := hU k hk; omega) m116 nF
            have hf := hf.step0 m116
            have h3 := h3.keep m116 id
            have h5 := h5.keep m116 id
            have hS118 := hS114.step0 m116
            obtain ⟨aq85, cq85, rfl⟩ := L85.form
            refine ⟨hS118, ?_⟩
            refine hcH rfl (xcall ca136 rfl) (c136 (r := r) hb hR hC hm hG (by omega) hn0 hl hc hs3 hs5 (u16lt _) hnm hlb (by omega) (fun k hk => hk.elim (fun h => by have h := hU k h; omega) (fun h => by omega)) hfp L85) ?_
            rintro _ w119 ⟨p86, q86, g86, rfl, hb, r86, hC, m120, a86, l86⟩
            have z121 := m120.size
            have hG := hG.keep (fun k hk => by omega) m120 (fun k hk hS => by have hk := hk; have hS : k = g ∨ k = gm ∨ k = bb := hS; omega)
            have hf := hf.step m120 (fun k hk hS => by have hS : k = g ∨ k = gm ∨ k = bb := hS; show k = g ∨ k = gm ∨ k = bb; omega)
            have h3 := h3.keep m120 (by show ¬ (b3 = g ∨ b3 = gm ∨ b3 = bb); omega)
            have h5 := h5.keep m120 (by show ¬ (b5 = g ∨ b5 = gm ∨ b5 = bb); omega)
            have hS122 := hS118.step m120 (fun k hk hS => by have hS : k = g ∨ k = gm ∨ k = bb := hS; show k = g ∨ k = gm ∨ k = bb; omega)
            refine ⟨hS122, ?_⟩
            refine qqA rfl rfl hS122 (hendH (fg [(4, _)] ⟨rfl, ⟨⟩⟩ fun _ => (wp_ret (rBlock (rThen ?_)))))
            refine rp1 rfl rfl ?_
            exact ⟨p86, q86, g86, rfl, hb, r86, hC, hf, by omega, by omega⟩
           ·
            refine sA rfl (send (fg [(0, _), (3, _), (5, _), (9, _), (80, _)] ⟨rfl, rfl, rfl, rfl, rfl, ⟨⟩⟩ fun _ => (cno rfl (sreg ?_))))
            refine svP (xeql rfl rfl) (fun hc88 => ?_) (fun hc88 => ?_)
            ·
             refine sA rfl (send (fg [(0, _), (3, _), (5, _), (87, _)] ⟨rfl, rfl, rfl, rfl, ⟨⟩⟩ fun _ => (cyes rfl ?_)))
             refine sdrawH (Fr (fun k => k = g ∨ k = gm ∨ k = bb) w11.drew) [(0, .rd), (1, .rd), (2, .rd), (3, .ld), (4, .ld), (5, .rd)] mixed (by kernel_rfl) (fun _ _ _ _ _ h => h) ?_
             have z123 : w11.drew.heap.size = w11.heap.size := rfl
             have hb := hb.drew
             have hR := hR.keep (fd w11) id
             have hC := hC.keep (fd w11) nF
             have hG := hG.keep (fun k hk => by omega) (fd w11) nF
             have hd := hd.keep (fun k hk => by have hk := hU k hk; omega) (fd w11) nF
             have hp := hp.keep pair_st (fun k hk => by have hk := hU k hk; omega) (fd w11) nF
             have hf := hf.drew
             have h3 := h3.drew
             have h5 := h5.drew
             have zb_h3 := h3
             have zb_h5 := h5
             have hS124 : Fr (fun k => k = g ∨ k = gm ∨ k = bb) w11.drew w11.drew := Fr.refl _ _
             refine qqM rfl rfl hS124 (hvH rfl (fun w' hS => xldS (lens := [256, 1, 1, 1, 1]) ro135 rfl (zb_h5.keep hS (by show ¬ (b5 = g ∨ b5 = gm ∨ b5 = bb); omega)).r) hS124 (hvH rfl (fun w' hS => xldS (lens := lRec) ro112 rfl (zb_h3.keep hS (by show ¬ (b3 = g ∨ b3 = gm ∨ b3 = bb); omega)).r) hS124 ?_))
             refine hcH rfl (xcall ca139 rfl) (c139 (U := U) (fun k hk => by have hk := hU k hk; omega) hp hfit.2.2.2.2.1 hfit.2.2.2.2.2 (hfit.1 (by omega))) ?_
             rintro _ w125 ⟨v92, rfl, L92, m126⟩
             have z127 := m126.size
             have hb := hb.keep m126 id
             have hR := hR.keep m126 id
             have hC := hC.keep m126 nF
             have hG := hG.keep (fun k hk => by omega) m126 nF
             have hd := hd.keep (fun k hk => by have hk := hU k hk; omega) m126 nF
             have hf := hf.step0 m126
             have h3 := h3.keep m126 id
             have h5 := h5.keep m126 id
             have hS128 := hS124.step0 m126
             obtain ⟨aq92, cq92, rfl⟩ := L92.form
             refine ⟨hS128, ?_⟩
             refine hcH rfl (xcall ca138 rfl) (c138 (r := r) hb hR hC hm hG (by omega) hn0 hl hc hs3 hs5 (u16lt _) hnm hlb (by omega) (fun k hk => hk.elim (fun h => by have h := hU k h; omega) (fun h => by omega)) hfp L92) ?_
             rintro _ w129 ⟨p93, q93, g93, rfl, hb, r93, hC, m130, a93, l93⟩
             have z131 := m130.size
             have hG := hG.keep (fun k hk => by omega) m130 (fun k hk hS => by have hk := hk; have hS : k = g ∨ k = gm ∨ k = bb := hS; omega)
             have hf := hf.step m130 (fun k hk hS => by have hS : k = g ∨ k = gm ∨ k = bb := hS; show k = g ∨ k = gm ∨ k = bb; omega)
             have h3 := h3.keep m130 (by show ¬ (b3 = g ∨ b3 = gm ∨ b3 = bb); omega)
             have h5 := h5.keep m130 (by show ¬ (b5 = g ∨ b5 = gm ∨ b5 = bb); omega)
             have hS132 := hS128.step m130 (fun k hk hS => by have hS : k = g ∨ k = gm ∨ k = bb := hS; show k = g ∨ k = gm ∨ k = bb; omega)
             refine ⟨hS132, ?_⟩
             refine qqA rfl rfl hS132 (hendH (fg [(4, _)] ⟨rfl, ⟨⟩⟩ fun _ => (wp_ret (rBlock (rThen ?_)))))
             refine rp1 rfl rfl ?_
             exact ⟨p93, q93, g93, rfl, hb, r93, hC, hf, by omega, by omega⟩
            ·
             refine sA rfl (send (fg [(0, _), (3, _), (5, _), (87, _)] ⟨rfl, rfl, rfl, rfl, ⟨⟩⟩ fun _ => (cno rfl (wp_skip (nBlock (nThen (fg [(0, _), (3, _), (5, _)] ⟨rfl, rfl, rfl, ⟨⟩⟩ fun _ => ?_)))))))
             refine sdrawH (Fr (fun k => k = g ∨ k = gm ∨ k = bb) w11.drew) [(0, .rd), (1, .rd), (2, .rd), (3, .ld), (4, .ld), (5, .rd)] mixed (by kernel_rfl) (fun _ _ _ _ _ h => h) ?_
             have z133 : w11.drew.heap.size = w11.heap.size := rfl
             have hb := hb.drew
             have hR := hR.keep (fd w11) id
             have hC := hC.keep (fd w11) nF
             have hG := hG.keep (fun k hk => by omega) (fd w11) nF
             have hd := hd.keep (fun k hk => by have hk := hU k hk; omega) (fd w11) nF
             have hf := hf.drew
             have h3 := h3.drew
             have h5 := h5.drew
             have zb_h3 := h3
             have zb_h5 := h5
             have hS134 : Fr (fun k => k = g ∨ k = gm ∨ k = bb) w11.drew w11.drew := Fr.refl _ _
             refine qqM rfl rfl hS134 (hvH rfl (fun w' hS => xldS (lens := [256, 1, 1, 1, 1]) ro135 rfl (zb_h5.keep hS (by show ¬ (b5 = g ∨ b5 = gm ∨ b5 = bb); omega)).r) hS134 (hvH rfl (fun w' hS => xldS (lens := lRec) ro112 rfl (zb_h3.keep hS (by show ¬ (b3 = g ∨ b3 = gm ∨ b3 = bb); omega)).r) hS134 ?_))
             refine hcH rfl (xcall ca141 rfl) (c141 (U := U) (fun k hk => by have hk := hU k hk; omega) hd hfit.2.2.1) ?_
             rintro _ w135 ⟨v97, rfl, L97, m136⟩
             have z137 := m136.size
             have hb := hb.keep m136 id
             have hR := hR.keep m136 id
             have hC := hC.keep m136 nF
             have hG := hG.keep (fun k hk => by omega) m136 nF
             have hf := hf.step0 m136
             have hS138 := hS134.step0 m136
             obtain ⟨aq97, cq97, rfl, -⟩ := id L97
             refine ⟨hS138, ?_⟩
             have h13 : r.kind = 13 := by omega
             have et : r.typ = typeN r := by simp [typeN, h13]
             rw [et]
             refine hcH rfl (xcall ca140 rfl) (c140 (r := r) hb hR hC hm hG (by omega) hn0 hl hc hs3 hs5 (u16lt _) hnm hlb (by omega) (fun k hk => hk.elim (fun h => by have h := hU k h; omega) (fun h => by omega)) hfp L97) ?_
             rintro _ w139 ⟨p98, q98, g98, rfl, hb, r98, hC, m140, a98, l98⟩
             have z141 := m140.size
             have hf := hf.step m140 (fun k hk hS => by have hS : k = g ∨ k = gm ∨ k = bb := hS; show k = g ∨ k = gm ∨ k = bb; omega)
             have hS142 := hS138.step m140 (fun k hk hS => by have hS : k = g ∨ k = gm ∨ k = bb := hS; show k = g ∨ k = gm ∨ k = bb; omega)
             refine ⟨hS142, ?_⟩
             refine qqA rfl rfl hS142 (hendH (fg [(4, _)] ⟨rfl, ⟨⟩⟩ fun _ => (wp_ret ?_)))
             refine rp1 rfl rfl ?_
             exact ⟨p98, q98, g98, rfl, hb, r98, hC, hf, by omega, by omega⟩
set_option maxHeartbeats 4000000 in
set_option maxRecDepth 100000 in
theorem c71 {w : World} {h : HeadD} :
  Ret PP 71 [.slice none 0 0, ag (headSegs h)] w (fun u w' => ∃ a k g, u = ag (bSegs (.slice a 12 k) 1 h.id.toNat (hbits h).toNat (fun _ => 0) none) ∧ BR w' (.slice a 12 k) g 12 (List.replicate 12 (0 : UInt8)) ∧ Fr0 w w' ∧ w.heap.size < g ∧ g < w'.heap.size) := by
 have hf : Fr (fun _ => False) w w := Fr.refl _ _
 refine ret_of Tryz.func71 rfl rfl rfl [(0, _), (1, _)] rfl ?_
 refine sreg ?_
 refine svK (xboxS (lens := [1, 1, 1, 1, 1, 1, 1, 1, 1, 1]) rfl rfl) ?_
 rintro _ w2 ⟨b3, rfl, m3, h3, e1, s1⟩
 have hf := hf.step0 m3
 refine svK (xallS (lens := [1, 1, 1, 1, 1, 1, 1, 1, 1, 1]) in148 rfl) ?_
 rintro _ w5 ⟨b4, rfl, m6, h4, e4, s4⟩
 have hf := hf.step0 m6
 have h3 := h3.keep m6 id
 refine send (fg [(0, _), (3, _), (4, _)] ⟨rfl, rfl, rfl, ⟨⟩⟩ fun _ => (wp_seq (sreg (sM rfl (sv (xeqSl sl37 rfl) (send (fg [(0, _), (3, _), (4, _), (8, _)] ⟨rfl, rfl, rfl, rfl, ⟨⟩⟩ fun _ => (cyes rfl (lreg ?_)))))))))
 refine svK (xmake (lo := 0) (hi := 512) sl37 in5 rfl (by decide) rfl rfl rfl rfl (by omega) (by omega) (by simp only [maxLen]; omega) rfl) ?_
 rintro _ w7 ⟨b9, rfl, m8, h9, e9, s9, r9⟩
 have hf := hf.step0 m8
 have h3 := h3.keep m8 id
 have h4 := h4.keep m8 id
 have r9 : BR w7 _ b9 0 [] := r9
 refine sA rfl (lend (nThen (fg [(0, _), (3, _), (4, _)] ⟨rfl, rfl, rfl, ⟨⟩⟩ fun _ => (sreg (sM rfl (sM rfl (sv (xlen sl37 rfl) (sv (xbuildS (bSegs (.slice (some ⟨b9, 0, none⟩) 0 512) 0 0 0 (fun _ => 0) none) zr148 ly148 rfl (by simp [fitAll, zs148, Value.cells]) rfl) ?_))))))))
 refine svK (xallS (lens := [1, 1, 1, 1, 1, 1, 1, 1, 1, 1]) in148 rfl) ?_
 rintro _ w10 ⟨b5, rfl, m11, h5, e9, s9⟩
 have hf := hf.step0 m11
 have h3 := h3.keep m11 id
 have h4 := h4.keep m11 id
 have r9 := r9.keep m11 id
 refine suK (xstW h5 (lens' := [1, 1, 1, 1, 1, 1, 1, 1, 1, 1]) sz148 rfl rfl rfl rfl rfl) ?_
 rintro w13 ⟨m14, h5, s12⟩
 have hf := hf.step m14 (fun k hk hS => by have hS : k = b5 := hS; show False; omega)
 have h3 := h3.keep m14 (by show ¬ (b3 = b5); omega)
 have h4 := h4.keep m14 (by show ¬ (b4 = b5); omega)
 have r9 := r9.keep m14 (by show ¬ (b9 = b5); omega)
 refine send (fg [(3, _), (4, _), (5, _)] ⟨rfl, rfl, rfl, ⟨⟩⟩ fun _ => (sreg ?_))
 refine sc (xcall ca90 rfl) (c90 (h := h) h3.r (by omega)) ?_
 rintro _ w15 ⟨rfl, m16⟩
 have z17 := m16.size
 have hf := hf.step0 m16
 have h4 := h4.keep m16 id
 have r9 := r9.keep m16 id
 have h5 := h5.keep m16 id
 refine sM rfl (sv (xex20 rfl) (sv (xex21 rfl) (sv (xfld fl148_2 rfl) (sv (xfld fl121_0 rfl) ?_))))
 refine suK (xstF 2 sz22 h5 rfl rfl rfl rfl rfl) ?_
 rintro w19 ⟨m20, h5, s18⟩
 have hf := hf.step m20 (fun k hk hS => by have hS : k = b5 := hS; show False; omega)
 have h4 := h4.keep m20 (by show ¬ (b4 = b5); omega)
 have r9 := r9.keep m20 (by show ¬ (b9 = b5); omega)
 refine sv (xfld fl148_2 rfl) (sv (xfld fl121_1 rfl) ?_)
 refine suK (xstF 3 sz22 h5 rfl rfl rfl rfl rfl) ?_
 rintro w22 ⟨m23, h5, s21⟩
 have hf := hf.step m23 (fun k hk hS => by have hS : k = b5 := hS; show False; omega)
 have h4 := h4.keep m23 (by show ¬ (b4 = b5); omega)
 have r9 := r9.keep m23 (by show ¬ (b9 = b5); omega)
 refine send (fg [(4, _), (5, _)] ⟨rfl, rfl, ⟨⟩⟩ fun _ => (sreg ?_))
 refine svK (xallS (lens := [12]) in232 rfl) ?_
 rintro _ w25 ⟨b6, rfl, m26, h6, e24, s24⟩
 have hf := hf.step0 m26
 have h4 := h4.keep m26 id
 have r9 := r9.keep m26 id
 have h5 := h5.keep m26 id
 refine send (fg [(4, _), (5, _), (6, _)] ⟨rfl, rfl, rfl, ⟨⟩⟩ fun _ => ?_)
 refine sdrawH (Fr (fun k => k = b9) w25.drew) [(0, .rd), (1, .rd), (2, .rd), (3, .ld), (4, .rd), (5, .bh)] mixed (by kernel_rfl) (fun _ _ _ _ _ h => h) ?_
 have z27 : w25.drew.heap.size = w25.heap.size := rfl
 have hf := hf.drew
 have h4 := h4.drew
 have r9 := r9.keep (fd w25) id
 have h5 := h5.drew
 have h6 := h6.drew
 have zb_h5 := h5
 have hS28 : Fr (fun k => k = b9) w25.drew w25.drew := Fr.refl _ _
 refine hvH rfl (fun _ _ => xfld fl148_0 rfl) hS28 (hvH rfl (fun w' hS => xld on37 rfl ((zb_h5.keep hS (by show ¬ (b5 = b9); omega)).r.c 0 rfl rfl)) hS28 (hvH rfl (fun _ _ => xcutA ar232 sz5 rfl) hS28 ?_))
 refine hlKH rfl (xapp sl37 in5 rfl (by decide) rfl rfl r9 (src_rng (cs := bvs (List.replicate 12 0)) sl37 rfl (by have hq := h6.1.rng0; simpa using hq) (bvs_one _)) (by simp only [maxLen]; omega) (by omega)) ?_
 rintro _ w29 ⟨g25, r25, m30, a25, l25⟩
 have z31 := m30.size
 have hf := hf.step m30 (fun k hk hS => by have hS : k = b9 := hS; show False; omega)
 have h4 := h4.keep m30 (by show ¬ (b4 = b9); omega)
 have h5 := h5.keep m30 (by show ¬ (b5 = b9); omega)
 have hS32 := hS28.step m30 (fun k hk hS => by have hS : k = b9 := hS; show k = b9; omega)
 obtain ⟨p25, q25, rfl, -⟩ := r25.form
 refine ⟨hS32, ?_⟩
 refine hvH rfl (fun _ _ => xfld fl148_0 rfl) hS32 ?_
 refine bluKH rfl (xstF 0 sz37 h5 rfl rfl rfl rfl rfl) ?_
 rintro w34 ⟨m35, h5, s33⟩
 have hf := hf.step m35 (fun k hk hS => by have hS : k = b5 := hS; show False; omega)
 have h4 := h4.keep m35 (by show ¬ (b4 = b5); omega)
 have r25 := r25.keep m35 (by show ¬ (g25 = b5); omega)
 refine hendH (fg [(4, _), (5, _)] ⟨rfl, rfl, ⟨⟩⟩ fun _ => (sreg (sv (xfld fl148_1 rfl) ?_)))
 refine suK (xstF 1 sz122 h5 rfl rfl rfl rfl rfl) ?_
 rintro w37 ⟨m38, h5, s36⟩
 have hf := hf.step m38 (fun k hk hS => by have hS : k = b5 := hS; show False; omega)
 have h4 := h4.keep m38 (by show ¬ (b4 = b5); omega)
 have r25 := r25.keep m38 (by show ¬ (g25 = b5); omega)
 refine send (fg [(4, _), (5, _)] ⟨rfl, rfl, ⟨⟩⟩ fun _ => (sreg (sv (xldS (lens := [1, 1, 1, 1, 1, 1, 1, 1, 1, 1]) ro148 rfl h5.r) ?_)))
 refine suK (xstW h4 (lens' := [1, 1, 1, 1, 1, 1, 1, 1, 1, 1]) sz148 rfl rfl rfl rfl rfl) ?_
 rintro w40 ⟨m41, h4, s39⟩
 have hf := hf.step m41 (fun k hk hS => by have hS : k = b4 := hS; show False; omega)
 have r25 := r25.keep m41 (by show ¬ (g25 = b4); omega)
 refine send (fg [(4, _)] ⟨rfl, ⟨⟩⟩ fun _ => (wp_ret ?_))
 refine rp1 rfl ⟨_, rfl, ldS (lens := [1, 1, 1, 1, 1, 1, 1, 1, 1, 1]) ro148 h4.r⟩ ?_
 exact ⟨p25, q25, g25, rfl, br_cast r25 (by simp [bvs]) rfl, hf, by omega, by omega⟩
set_option maxHeartbeats 4000000 in
set_option maxRecDepth 100000 in
theorem c79 {w : World} {bb g n sec x0 x1 : Nat} {v : Value} {rest : List UInt8} {c : Nat → Nat} {cm : Option Nat} (hb : SB w bb lB (bSegs v sec x0 x1 c cm)) (hR : BR w v g n ((List.replicate 12 (0 : UInt8)) ++ rest)) (hz : g < w.heap.size ∧ bb ≠ g) (hn0 : 12 ≤ n) (hs1 : 1 ≤ sec) (hx : x0 < 65536 ∧ x1 < 65536) (hc : ∀ i, c i < 60000)  :
  Ret PP 79 [.pointer (some ⟨bb, 0, none⟩)] w (fun u w' => u = .tuple #[v, .nilIface] ∧ BR w' v g n (hdrL x0 x1 (c 2) (c 3) (c 4) (c 5) ++ rest) ∧ Fr (fun k => k = g ∨ k = bb) w w') := by
 obtain ⟨a0, c0, rfl, hcap, -, hsome, -⟩ := hR.form
 obtain rfl := hsome (by omega)
 have hc2 := hc 2
 have hc3 := hc 3
 have hc4 := hc 4
 have hc5 := hc 5
 have hf : Fr (fun k => k = g ∨ k = bb) w w := Fr.refl _ _
 have z_hb := hb.lt
 refine ret_of Tryz.func79 rfl rfl rfl [(0, _)] rfl ?_
 refine sreg (sA rfl (sA rfl (send (fg [(0, _)] ⟨rfl, ⟨⟩⟩ fun _ => (wp_seq (sreg (sM rfl (sN rfl (sv (xfld fl148_1 rfl) (sv (xld on122 rfl (hb.r.c 1 rfl rfl)) (sv (exF (xlss rfl rfl) (by omega)) (send (fg [(0, _), (8, _)] ⟨rfl, rfl, ⟨⟩⟩ fun _ => (cno rfl (wp_skip (nThen (fg [(0, _)] ⟨rfl, ⟨⟩⟩ fun _ => (sreg (sM rfl (sN rfl (sv (xfld fl148_1 rfl) ?_)))))))))))))))))))))
 refine suK (xstF 1 sz122 hb rfl rfl rfl rfl rfl) ?_
 rintro w2 ⟨m3, hb, s1⟩
 have hR := hR.keep m3 (by show ¬ (g = bb); omega)
 have hf := hf.step m3 (fun k hk hS => by have hS : k = bb := hS; show k = g ∨ k = bb; omega)
 refine send (fg [(0, _)] ⟨rfl, ⟨⟩⟩ fun _ => ?_)
 refine sdrawH (Fr (fun k => k = g) w2.drew) [(0, .rd), (1, .rd), (2, .rd), (3, .rd), (4, .rd), (5, .rd), (6, .rd), (7, .rd), (8, .rd), (9, .rd), (10, .rd), (11, .rd), (12, .rd), (13, .rd), (14, .rd), (15, .ld), (16, .bh)] mixed (by kernel_rfl) (fun _ _ _ _ _ h => h) ?_
 have z4 : w2.drew.heap.size = w2.heap.size := rfl
 have hb := hb.drew
 have hR := hR.keep (fd w2) id
 have hf := hf.drew
 have zb_hb := hb
 have hS5 : Fr (fun k => k = g) w2.drew w2.drew := Fr.refl _ _
 refine qqM rfl rfl hS5 (qqN rfl rfl hS5 (hvH rfl (fun _ _ => xfld fl148_2 rfl) hS5 (qqM rfl rfl hS5 (qqN rfl rfl hS5 (hvH rfl (fun _ _ => xfld fl148_0 rfl) hS5 (hvH rfl (fun w' hS => xld on37 rfl ((zb_hb.keep hS (by show ¬ (bb = g); omega)).r.c 0 rfl rfl)) hS5 (qqM rfl rfl hS5 (qqN rfl rfl hS5 (hvH rfl (fun _ _ => xfld fl148_3 rfl) hS5 (hvH rfl (fun w' hS => xld on3 rfl ((zb_hb.keep hS (by show ¬ (bb = g); omega)).r.c 8 rfl rfl)) hS5 (qqM rfl rfl hS5 (qqN rfl rfl hS5 (hvH rfl (fun _ _ => xfld fl148_3 rfl) hS5 (hvH rfl (fun w' hS => xld on3 rfl ((zb_hb.keep hS (by show ¬ (bb = g); omega)).r.c 8 rfl rfl)) hS5 ?_))))))))))))))
 refine hlKH rfl (xcutLH (lo := 0) (hi := 0) sl37 sz5 rfl rfl rfl (by omega) (by omega) (by omega) (by omega)) ?_
 rintro _ w2.drew ⟨o28, rfl, ho28, rfl⟩
 refine ⟨hS5, ?_⟩
 obtain rfl : o28 = 0 := by have := ho28 (by omega); omega
 have hR : BR w2.drew _ g n ([] ++ ([0, 0] ++ ([0, 0] ++ ([0, 0] ++ ([0, 0] ++ ([0, 0] ++ ([0, 0] ++ rest))))))) := hR
 refine bcH rfl (xcall ca91 rfl) (c91i (b1 := []) (lo := 0) (x0 := x0) (x1 := x1) (x2 := c 2) (x3 := c 3) (x4 := c 4) (x5 := c 5) hR rfl (by omega) (by omega) (SR.sub hb.r 2 6 rfl) (by omega) (by omega) ⟨hx.1, hx.2, by omega, by omega, by omega, by omega⟩) ?_
 rintro _ w7 ⟨hR, m8⟩
 have z9 := m8.size
 have hb := hb.keep m8 (by show ¬ (bb = g); omega)
 have hf := hf.step m8 (fun k hk hS => by have hS : k = g := hS; show k = g ∨ k = bb; omega)
 refine hendH (fg [(0, _)] ⟨rfl, ⟨⟩⟩ fun _ => (sreg (sM rfl (sN rfl (sv (xfld fl148_0 rfl) (sv (xld on37 rfl (hb.r.c 0 rfl rfl)) (sA rfl (sA rfl (send (fg [(2, _), (3, _)] ⟨rfl, rfl, ⟨⟩⟩ fun _ => (wp_ret ?_)))))))))))
 refine rp2 rfl rfl rfl ?_
 exact ⟨rfl, br_cast hR (by simp) rfl, hf⟩
end Go.Proofs.YtifnodoffgfpbaaGreatDoor

namespace Go.Proofs.YtifnodoffgfpbaaGreatDoor
open Go

abbrev Z12 : List UInt8 := List.replicate 12 0
/-- how many records of each section there are -/
def cntA (k : Nat) : Nat → Nat := fun j => if j = 2 then k else 0
def cnt (m : MsgD) (i k : Nat) : Nat → Nat := fun j => if j = 2 then m.asks.length else if j = 3 then (if i = 0 then k else m.one.length) else if j = 4 then (if i = 0 then 0 else if i = 1 then k else m.two.length) else if j = 5 then (if i ≤ 1 then 0 else if i = 2 then k else m.three.length) else 0
theorem bump_A (k : Nat) : bump (cntA k) 2 = cntA (k + 1) := by
  funext j; simp only [bump, cntA]; split <;> simp_all
theorem cnt_A (m : MsgD) : cntA m.asks.length = cnt m 0 0 := by
  funext j; simp [cntA, cnt]
theorem bump_cnt (m : MsgD) {i k : Nat} (hi : i < 3) : bump (cnt m i k) (3 + i) = cnt m i (k + 1) := by
  have : i = 0 ∨ i = 1 ∨ i = 2 := by omega
  funext j
  rcases this with rfl | rfl | rfl <;> simp only [bump, cnt] <;> repeat' split
  all_goals first | rfl | omega | simp_all
theorem cnt_next (m : MsgD) {i : Nat} {l : List RecD} (h : [m.one, m.two, m.three][i]? = some l) : cnt m i l.length = cnt m (i + 1) 0 := by
  have hi : i < 3 := (List.getElem?_eq_some_iff.1 h).1
  have : i = 0 ∨ i = 1 ∨ i = 2 := by omega
  funext j
  rcases this with rfl | rfl | rfl <;> simp at h <;> subst h <;> simp only [cnt] <;> repeat' split
  all_goals first | rfl | omega | simp_all
theorem cnt_le {m : MsgD} {i k : Nat} (hc : m.asks.length ≤ 40 ∧ m.one.length ≤ 40 ∧ m.two.length ≤ 40 ∧ m.three.length ≤ 40) (hk : k ≤ 40) (j : Nat) : cnt m i k j < 60000 := by
  simp only [cnt]; repeat' split
  all_goals omega
theorem cntA_le {k : Nat} (hk : k ≤ 40) (j : Nat) : cntA k j < 60000 := by
  simp only [cntA]; split <;> omega
/-- the first i lists -/
abbrev LLs (C : Option Ent) (m : MsgD) (i : Nat) : List UInt8 × Option Ent := packAll (packAll packRec) (packA C m).2 (12 + (packA C m).1.length) ([m.one, m.two, m.three].take i)
theorem LLs_all (C : Option Ent) (m : MsgD) : headL m.head (countsM m) ++ ((packA C m).1 ++ (LLs C m 3).1) = packM C m := by
  simp [LLs, packAll, packM, pack1, pack2, pack3, Nat.add_assoc]
theorem LLs_le {C : Option Ent} {m : MsgD} {i : Nat} (hpk : ∀ l ∈ [m.one, m.two, m.three], ∀ r ∈ l, PackOk r) (hc : m.asks.length ≤ 40 ∧ m.one.length ≤ 40 ∧ m.two.length ≤ 40 ∧ m.three.length ≤ 40) : (LLs C m i).1.length ≤ 9000000 := by
  have h := packAll_bound (f := packAll packRec) (B := 2680000) ([m.one, m.two, m.three].take i) (packA C m).2 (12 + (packA C m).1.length) (fun l hl C pos => by
    have hl := List.mem_of_mem_take hl
    refine packRecs_bound (fun r hr => (hpk l hl r hr).2) ?_ C pos
    simp only [List.mem_cons, List.not_mem_nil, or_false] at hl
    rcases hl with rfl | rfl | rfl <;> omega)
  have h3 : ([m.one, m.two, m.three].take i).length ≤ 3 := by simp only [List.length_take, List.length_cons, List.length_nil]; omega
  have h2 : (LLs C m i).1.length ≤ ([m.one, m.two, m.three].take i).length * 2680000 := h
  omega
theorem LLs_next {C : Option Ent} {m : MsgD} {i : Nat} {l : List RecD} (h : [m.one, m.two, m.three][i]? = some l) :
    LLs C m (i + 1) = ((LLs C m i).1 ++ (packAll packRec (LLs C m i).2 (12 + (packA C m).1.length + (LLs C m i).1.length) l).1, (packAll packRec (LLs C m i).2 (12 + (packA C m).1.length + (LLs C m i).1.length) l).2) := packAll_take h _ _

set_option maxHeartbeats 4000000 in
set_option maxRecDepth 100000 in
theorem c30t {w : World} {U : Nat → Prop} (hU : ∀ k, U k → k < w.heap.size) {m : MsgD} {va v1 v2 v3 : Value} (ha : LA AskEl lAsk U w va m.asks) (y1 : LA RecEl lRec U w v1 m.one) (y2 : LA RecEl lRec U w v2 m.two) (y3 : LA RecEl lRec U w v3 m.three) (hna : ∀ a ∈ m.asks, nameL (bt a.name)) (hpk : ∀ l ∈ [m.one, m.two, m.three], ∀ r ∈ l, PackOk r) (hcn : m.asks.length ≤ 40 ∧ m.one.length ≤ 40 ∧ m.two.length ≤ 40 ∧ m.three.length ≤ 40) (hG : GB w) (hsz : 5 ≤ w.heap.size)  :
  Ret PP 30 [.slice none 0 0, ag (msgSegs m.head va v1 v2 v3), .bool true] w (NewY w (packM (some []) m)) := by
 have hls : All2 (LA RecEl lRec U w) [v1, v2, v3] [m.one, m.two, m.three] := All2.cons y1 (All2.cons y2 (All2.cons y3 All2.nil))
 obtain ⟨aa, ca, rfl⟩ := ha.form
 obtain ⟨a1, c1, rfl⟩ := y1.form
 obtain ⟨a2, c2, rfl⟩ := y2.form
 obtain ⟨a3, c3, rfl⟩ := y3.form
 have hAb : (packA (some []) m).1.length ≤ 24000 := packAsks_bound hna hcn.1 (some []) 12
 have hf : Fr (fun _ => False) w w := Fr.refl _ _
 refine ret_of Tryz.func30 rfl rfl rfl [(0, _), (1, _), (2, _)] rfl ?_
 refine sreg ?_
 refine svK (xboxS (lens := lMsg) rfl rfl) ?_
 rintro _ w2 ⟨b4, rfl, m3, h4, e1, s1⟩
 have ha := ha.keep ask_st (lU hU (by omega)) m3 nF
 have hG := hG.keep (fun k hk => by omega) m3 nF
 have hf := hf.step0 m3
 refine sA rfl (sA rfl (send (fg [(0, _), (2, _), (4, _)] ⟨rfl, rfl, rfl, ⟨⟩⟩ fun _ => ?_)))
 refine sdrawI [(2, _), (4, _)] ⟨rfl, rfl, trivial⟩ (fun (x : Value × Nat × Nat × Nat) => match x with | (v, g23, bb, gm) => [(8, .pointer (some ⟨bb, 0, none⟩))]) (fun (x : Value × Nat × Nat × Nat) wx => match x with | (v, g23, bb, gm) => Fr (fun _ => False) w2 wx ∧ (SB wx bb lB (bSegs v 1 m.head.id.toNat (hbits m.head).toNat (fun _ => 0) none)) ∧ (BR wx v g23 12 Z12) ∧ (w2.heap.size ≤ g23 ∧ g23 < wx.heap.size ∧ w2.heap.size ≤ bb ∧ bb < wx.heap.size ∧ bb ≠ g23 ∧ w2.heap.size ≤ gm ∧ gm < wx.heap.size ∧ gm ≠ g23 ∧ gm ≠ bb)) (Fr (fun _ => False) w2.drew) (.rd 0 (.rd 1 (.rd 2 (.rd 3 (.two 4 (.two 5 (.lst [(6, .ld), (7, .bh)]) 6 (.lst [(5, .bh), (7, .bh)])) 6 (.lst [(4, .bh), (5, .bh), (7, .bh)])))))) mixed (by kernel_rfl) ?_ ?_
 ·
  have hC : Fr (fun _ => False) w2 w2 := Fr.refl _ _
  have z4 : w2.drew.heap.size = w2.heap.size := rfl
  have ha := ha.keep ask_st (lU hU (by omega)) (fd w2) nF
  have hG := hG.keep (fun k hk => by omega) (fd w2) nF
  have hf := hf.drew
  have h4 := h4.drew
  have hC := hC.drew
  have hS5 : Fr (fun _ => False) w2.drew w2.drew := Fr.refl _ _
  refine hvT rfl (fun _ _ => xmove rfl) hS5 ?_
  refine hvT rfl (fun _ _ => xapp00 sl37 sl37 in5 rfl rfl) hS5 ?_
  refine hvT rfl (fun _ _ => xfld fl28_0 rfl) hS5 ?_
  refine hvT rfl (fun w' hS => xldS (lens := [1, 1, 1, 1, 1, 1, 1, 1, 1, 1]) ro24 rfl ((h4.keep hS id).r.sub 0 10 rfl)) hS5 ?_
  refine twoT ?_ ?_
  ·
   refine hcT rfl (xcall ca36 rfl) (c36) ?_
   rintro _ w6 ⟨rfl, m7⟩
   have z8 := m7.size
   have ha := ha.keep ask_st (lU hU (by omega)) m7 nF
   have hG := hG.keep (fun k hk => by omega) m7 nF
   have hf := hf.step0 m7
   have h4 := h4.keep m7 id
   have hC := hC.step0 m7
   have hS9 := hS5.step0 m7
   refine ⟨hS9, ?_⟩
   refine twoT ?_ ?_
   ·
    refine hcT rfl (xcall ca71 rfl) (c71) ?_
    rintro _ w10 ⟨p23, q23, g23, rfl, r23, m11, a23, l23⟩
    have z12 := m11.size
    have ha := ha.keep ask_st (lU hU (by omega)) m11 nF
    have hG := hG.keep (fun k hk => by omega) m11 nF
    have hf := hf.step0 m11
    have h4 := h4.keep m11 id
    have hC := hC.step0 m11
    have hS13 := hS9.step0 m11
    refine ⟨hS13, ?_⟩
    obtain ⟨d23, hd23⟩ : ∃ x, x = w6.heap.size := ⟨_, rfl⟩
    refine lstT ?_
    refine hlK rfl (xallS (lens := [1, 1, 1, 1, 1, 1, 1, 1, 1, 1]) in148 (by simp [])) ?_
    rintro _ w15 ⟨b8, rfl, m16, h8, e14, s14⟩
    have ha := ha.keep ask_st (lU hU (by omega)) m16 nF
    have hG := hG.keep (fun k hk => by omega) m16 nF
    have hf := hf.step0 m16
    have h4 := h4.keep m16 id
    have hC := hC.step0 m16
    have r23 := r23.keep m16 id
    have hS17 := hS13.step0 m16
    refine ⟨hS17, ?_⟩
    refine bluK rfl (xstW h8 (lens' := [1, 1, 1, 1, 1, 1, 1, 1, 1, 1]) sz148 rfl rfl rfl rfl rfl) ?_
    rintro w19 ⟨m20, h8, s18⟩
    have ha := ha.keep ask_st (lU hU (by omega)) m20 (fun k hk hS => by have hk := hU k hk; have hS : k = b8 := hS; omega)
    have hG := hG.keep (fun k hk => by omega) m20 (fun k hk hS => by have hk := hk; have hS : k = b8 := hS; omega)
    have hf := hf.step m20 (fun k hk hS => by have hS : k = b8 := hS; show False; omega)
    have h4 := h4.keep m20 (by show ¬ (b4 = b8); omega)
    have hC := hC.step m20 (fun k hk hS => by have hS : k = b8 := hS; show False; omega)
    have r23 := r23.keep m20 (by show ¬ (g23 = b8); omega)
    exact ⟨rfl, (_, g23, b8, d23), _, env_okl ⟨rfl, rfl, rfl, trivial⟩, ⟨hC, (h8), (r23), (by omega)⟩⟩
   ·
    refine hlKT rfl (xallS (lens := [1, 1, 1, 1, 1, 1, 1, 1, 1, 1]) in148 (by simp [])) ?_
    rintro _ w22 ⟨b8, rfl, m23, h8, e21, s21⟩
    have ha := ha.keep ask_st (lU hU (by omega)) m23 nF
    have hG := hG.keep (fun k hk => by omega) m23 nF
    have hf := hf.step0 m23
    have h4 := h4.keep m23 id
    have hC := hC.step0 m23
    have hS24 := hS9.step0 m23
    refine ⟨hS24, ?_⟩
    refine lstT ?_
    refine bc rfl (xcall ca71 rfl) (c71) ?_
    rintro _ w25 ⟨p23, q23, g23, rfl, r23, m26, a23, l23⟩
    have z27 := m26.size
    have ha := ha.keep ask_st (lU hU (by omega)) m26 nF
    have hG := hG.keep (fun k hk => by omega) m26 nF
    have hf := hf.step0 m26
    have h4 := h4.keep m26 id
    have hC := hC.step0 m26
    have h8 := h8.keep m26 id
    obtain ⟨d23, hd23⟩ : ∃ x, x = w22.heap.size := ⟨_, rfl⟩
    refine bluK rfl (xstW h8 (lens' := [1, 1, 1, 1, 1, 1, 1, 1, 1, 1]) sz148 rfl rfl rfl rfl rfl) ?_
    rintro w29 ⟨m30, h8, s28⟩
    have ha := ha.keep ask_st (lU hU (by omega)) m30 (fun k hk hS => by have hk := hU k hk; have hS : k = b8 := hS; omega)
    have hG := hG.keep (fun k hk => by omega) m30 (fun k hk hS => by have hk := hk; have hS : k = b8 := hS; omega)
    have hf := hf.step m30 (fun k hk hS => by have hS : k = b8 := hS; show False; omega)
    have h4 := h4.keep m30 (by show ¬ (b4 = b8); omega)
    have hC := hC.step m30 (fun k hk hS => by have hS : k = b8 := hS; show False; omega)
    have r23 := r23.keep m30 (by show ¬ (g23 = b8); omega)
    exact ⟨rfl, (_, g23, b8, d23), _, env_okl ⟨rfl, rfl, rfl, trivial⟩, ⟨hC, (h8), (r23), (by omega)⟩⟩
  ·
   refine hlKT rfl (xallS (lens := [1, 1, 1, 1, 1, 1, 1, 1, 1, 1]) in148 (by simp [])) ?_
   rintro _ w32 ⟨b8, rfl, m33, h8, e31, s31⟩
   have ha := ha.keep ask_st (lU hU (by omega)) m33 nF
   have hG := hG.keep (fun k hk => by omega) m33 nF
   have hf := hf.step0 m33
   have h4 := h4.keep m33 id
   have hC := hC.step0 m33
   have hS34 := hS5.step0 m33
   refine ⟨hS34, ?_⟩
   refine lstT ?_
   refine bc rfl (xcall ca36 rfl) (c36) ?_
   rintro _ w35 ⟨rfl, m36⟩
   have z37 := m36.size
   have ha := ha.keep ask_st (lU hU (by omega)) m36 nF
   have hG := hG.keep (fun k hk => by omega) m36 nF
   have hf := hf.step0 m36
   have h4 := h4.keep m36 id
   have hC := hC.step0 m36
   have h8 := h8.keep m36 id
   refine bc rfl (xcall ca71 rfl) (c71) ?_
   rintro _ w38 ⟨p23, q23, g23, rfl, r23, m39, a23, l23⟩
   have z40 := m39.size
   have ha := ha.keep ask_st (lU hU (by omega)) m39 nF
   have hG := hG.keep (fun k hk => by omega) m39 nF
   have hf := hf.step0 m39
   have h4 := h4.keep m39 id
   have hC := hC.step0 m39
   have h8 := h8.keep m39 id
   obtain ⟨d23, hd23⟩ : ∃ x, x = w35.heap.size := ⟨_, rfl⟩
   refine bluK rfl (xstW h8 (lens' := [1, 1, 1, 1, 1, 1, 1, 1, 1, 1]) sz148 rfl rfl rfl rfl rfl) ?_
   rintro w42 ⟨m43, h8, s41⟩
   have ha := ha.keep ask_st (lU hU (by omega)) m43 (fun k hk hS => by have hk := hU k hk; have hS : k = b8 := hS; omega)
   have hG := hG.keep (fun k hk => by omega) m43 (fun k hk hS => by have hk := hk; have hS : k = b8 := hS; omega)
   have hf := hf.step m43 (fun k hk hS => by have hS : k = b8 := hS; show False; omega)
   have h4 := h4.keep m43 (by show ¬ (b4 = b8); omega)
   have hC := hC.step m43 (fun k hk hS => by have hS : k = b8 := hS; show False; omega)
   have r23 := r23.keep m43 (by show ¬ (g23 = b8); omega)
   exact ⟨rfl, (_, g23, b8, d23), _, env_okl ⟨rfl, rfl, rfl, trivial⟩, ⟨hC, (h8), (r23), (by omega)⟩⟩
 ·
  rintro ⟨v, g23, bb, gm0⟩ _ w44 ⟨hC, hb, hR, hbd⟩
  have z45 := hC.size
  have ha := ha.keep ask_st (lU hU (by omega)) hC nF
  have hG := hG.keep (fun k hk => by omega) hC nF
  have hf := hf.step0 hC
  have h4 := h4.keep hC id
  refine fg [(2, _), (4, _), (8, _)] ⟨rfl, rfl, rfl, ⟨⟩⟩ fun _ => (wp_seq (sreg (sM rfl (send (fg [(4, _), (8, _), (24, _)] ⟨rfl, rfl, rfl, ⟨⟩⟩ fun _ => (cyes rfl (lreg ?_)))))))
  refine sc (xcall ca72 rfl) (c72 hb) ?_
  rintro _ w46 ⟨gm, hb, hP, a25, l25, m47⟩
  have z48 := m47.size
  have ha := ha.keep ask_st (lU hU (by omega)) m47 (fun k hk hS => by have hk := hU k hk; have hS : k = bb := hS; omega)
  have hG := hG.keep (fun k hk => by omega) m47 (fun k hk hS => by have hk := hk; have hS : k = bb := hS; omega)
  have hf := hf.step m47 (fun k hk hS => by have hS : k = bb := hS; show False; omega)
  have h4 := h4.keep m47 (by show ¬ (b4 = bb); omega)
  have hR := hR.keep m47 (by show ¬ (g23 = bb); omega)
  have hC : Cmp w46 (some gm) (some []) := hP
  have hm : ∀ b, some gm = some b → b = gm := fun b hb => (Option.some.inj hb).symm
  refine lend (nThen (fg [(4, _), (8, _)] ⟨rfl, rfl, ⟨⟩⟩ fun _ => (wp_seq (sreg ?_))))
  refine sc (xcall ca73 rfl) (c73 hb (by omega) (by omega)) ?_
  rintro _ w49 ⟨rfl, hb, m50⟩
  have z51 := m50.size
  have ha := ha.keep ask_st (lU hU (by omega)) m50 (fun k hk hS => by have hk := hU k hk; have hS : k = bb := hS; omega)
  have hG := hG.keep (fun k hk => by omega) m50 (fun k hk hS => by have hk := hk; have hS : k = bb := hS; omega)
  have hf := hf.step m50 (fun k hk hS => by have hS : k = bb := hS; show False; omega)
  have h4 := h4.keep m50 (by show ¬ (b4 = bb); omega)
  have hR := hR.keep m50 (by show ¬ (g23 = bb); omega)
  have hC := hC.keep m50 (fun b hb => by have hb := hm b hb; show ¬ (b = bb); omega)
  refine sv (xneN if89 rfl) (send (fg [(4, _), (8, _), (27, _)] ⟨rfl, rfl, rfl, ⟨⟩⟩ fun _ => (cno rfl (wp_skip (nThen (fg [(4, _), (8, _)] ⟨rfl, rfl, ⟨⟩⟩ fun _ => (wp_seq (sreg (sv (xfld fl28_1 rfl) (sv (xld on25 rfl (h4.r.c 10 rfl rfl)) (sv (xlen sl25 rfl) (sM rfl (send (fg [(4, _), (8, _), (29, _), (30, _), (31, _)] ⟨rfl, rfl, rfl, rfl, rfl, ⟨⟩⟩ fun _ => (wp_block ?_)))))))))))))))
  refine lp [(4, _), (8, _), (29, _), (30, _)] (fun (x : Nat × Value × Nat) => match x with | (k, v, gk) => [(31, .int .i64 (k : Int))]) (fun (x : Nat × Value × Nat) wx => match x with | (k, v, gk) => Fr (fun k => k = g23 ∨ k = gm ∨ k = bb) w49 wx ∧ (k ≤ m.asks.length) ∧ (SB wx bb lB (bSegs v 2 m.head.id.toNat (hbits m.head).toNat (cntA k) (some gm))) ∧ (BR wx v gk (12 + (packAll packAsk (some []) 12 (m.asks.take k)).1.length) (Z12 ++ (packAll packAsk (some []) 12 (m.asks.take k)).1)) ∧ (Cmp wx (some gm) (packAll packAsk (some []) 12 (m.asks.take k)).2) ∧ (gk = g23 ∨ w49.heap.size ≤ gk) ∧ (gk < wx.heap.size)) (fun (x : Nat × Value × Nat) => match x with | (k, v, gk) => m.asks.length - k) (0, _, g23) ⟨rfl, rfl, rfl, rfl, rfl, trivial⟩ ⟨Fr.refl _ _, Nat.zero_le _, hb, br_cast hR (by simp [packAll]) (by simp [packAll]), hC, .inl rfl, by omega⟩ ?_
  rintro ⟨k, v, gk⟩ _ w53 ⟨hL52, hk, hb, hR, hC, hgk, hgk2⟩
  refine fg [(4, _), (8, _), (29, _), (30, _), (31, _)] ⟨rfl, rfl, rfl, rfl, rfl, ⟨⟩⟩ fun _ => ?_
  have z54 := hL52.size
  have ha := ha.keep ask_st (lU hU (by omega)) hL52 (fun k hk hS => by have hk := hU k hk; have hS : k = g23 ∨ k = gm ∨ k = bb := hS; omega)
  have hG := hG.keep (fun k hk => by omega) hL52 (fun k hk hS => by have hk := hk; have hS : k = g23 ∨ k = gm ∨ k = bb := hS; omega)
  have hf := hf.step hL52 (fun k hk hS => by have hS : k = g23 ∨ k = gm ∨ k = bb := hS; show False; omega)
  have h4 := h4.keep hL52 (by show ¬ (b4 = g23 ∨ b4 = gm ∨ b4 = bb); omega)
  obtain ⟨aR, cR, rfl, -⟩ := hR.form
  have hKb := packAsks_bound (take_all_mem hna k) (take_le40 hcn.1 k) (some []) 12
  refine sreg ?_
  refine svP (xlss rfl rfl) (fun hc32 => ?_) (fun hc32 => ?_)
  ·
   refine send (fg [(4, _), (8, _), (29, _), (30, _), (31, _), (32, _)] ⟨rfl, rfl, rfl, rfl, rfl, rfl, ⟨⟩⟩ fun _ => (wp_seq (cyes rfl (wp_skip (nThen (fg [(4, _), (8, _), (29, _), (30, _), (31, _)] ⟨rfl, rfl, rfl, rfl, rfl, ⟨⟩⟩ fun _ => (wp_seq (wp_block ?_))))))))
   obtain ⟨a, hak⟩ := some_of_lt (by omega : k < m.asks.length)
   have hna1 := hna a (List.mem_of_getElem? hak)
   have hna2 := (name_pos hna1).2
   rw [bt_length] at hna2
   refine sreg ?_
   obtain ⟨bE33, oE33, sgE33, rfl, uE33, hsE33, heE33⟩ := LA.get ha hak
   obtain rfl := heE33
   have zE33 := hU _ uE33
   refine sv (xidx sl25 sz58 rfl rfl rfl (by omega)) (sv (xldS (lens := [1, 1, 1]) ro58 rfl hsE33) ?_)
   refine svK (xallS (lens := [1, 1, 1]) in58 rfl) ?_
   rintro _ w56 ⟨b10, rfl, m57, h10, e55, s55⟩
   have hG := hG.keep (fun k hk => by omega) m57 nF
   have hf := hf.step0 m57
   have h4 := h4.keep m57 id
   have hb := hb.keep m57 id
   have hR := hR.keep m57 id
   have hC := hC.keep m57 nF
   have hL52 := hL52.step0 m57
   refine suK (xstW h10 (lens' := [1, 1, 1]) sz58 rfl rfl rfl rfl rfl) ?_
   rintro w59 ⟨m60, h10, s58⟩
   have hG := hG.keep (fun k hk => by omega) m60 (fun k hk hS => by have hk := hk; have hS : k = b10 := hS; omega)
   have hf := hf.step m60 (fun k hk hS => by have hS : k = b10 := hS; show False; omega)
   have h4 := h4.keep m60 (by show ¬ (b4 = b10); omega)
   have hb := hb.keep m60 (by show ¬ (bb = b10); omega)
   have hR := hR.keep m60 (by show ¬ (gk = b10); omega)
   have hC := hC.keep m60 (fun b hb => by have hb := hm b hb; show ¬ (b = b10); omega)
   have hL52 := hL52.step m60 (fun k hk hS => by have hS : k = b10 := hS; show k = g23 ∨ k = gm ∨ k = bb; omega)
   refine send (fg [(4, _), (8, _), (10, _), (29, _), (30, _), (31, _)] ⟨rfl, rfl, rfl, rfl, rfl, rfl, ⟨⟩⟩ fun _ => (sreg (sv (xldS (lens := [1, 1, 1]) ro58 rfl h10.r) ?_)))
   refine sc (xcall ca38 rfl) (c38 (by omega)) ?_
   rintro _ w61 ⟨rfl, m62⟩
   have z63 := m62.size
   have hG := hG.keep (fun k hk => by omega) m62 nF
   have hf := hf.step0 m62
   have h4 := h4.keep m62 id
   have hb := hb.keep m62 id
   have hR := hR.keep m62 id
   have hC := hC.keep m62 nF
   have hL52 := hL52.step0 m62
   refine sc (xcall ca74 rfl) (c74 (n := (12 + (packAll packAsk (some []) 12 (m.asks.take k)).1.length)) hb hR hC hm hG (by omega) (by omega) (by omega) (cntA_le (by omega)) hna1 rfl) ?_
   rintro _ w65 ⟨p37, q37, g37, rfl, hb, r37, hC, m66, a37, l37⟩
   have z67 := m66.size
   have hG := hG.keep (fun k hk => by omega) m66 (fun k hk hS => by have hk := hk; have hS : k = gk ∨ k = gm ∨ k = bb := hS; omega)
   have hf := hf.step m66 (fun k hk hS => by have hS : k = gk ∨ k = gm ∨ k = bb := hS; show False; omega)
   have h4 := h4.keep m66 (by show ¬ (b4 = gk ∨ b4 = gm ∨ b4 = bb); omega)
   have hL52 := hL52.step m66 (fun k hk hS => by have hS : k = gk ∨ k = gm ∨ k = bb := hS; show k = g23 ∨ k = gm ∨ k = bb; omega)
   refine sv (xneN if89 rfl) (send (fg [(4, _), (8, _), (29, _), (30, _), (31, _), (38, _)] ⟨rfl, rfl, rfl, rfl, rfl, rfl, ⟨⟩⟩ fun _ => (cno rfl (wp_skip (nBlock (nThen (fg [(4, _), (8, _), (29, _), (30, _), (31, _)] ⟨rfl, rfl, rfl, rfl, rfl, ⟨⟩⟩ fun _ => (lreg (sv (xadd rfl rfl (w64 (by omega) (by omega))) (sM rfl (lend (nThen ?_))))))))))))
   refine ⟨(k + 1, _, g37), _, env_okl ⟨rfl, rfl, rfl, rfl, rfl, trivial⟩, ⟨hL52, (by omega), (by rw [← bump_A]; exact hb), (by rw [packAll_take hak]; exact br_cast r37 (by simp) (by simp; omega)), (by rw [packAll_take hak]; exact hC), (by omega), (by omega)⟩, ?_⟩
   show m.asks.length - (k + 1) < m.asks.length - k; omega
  ·
   refine send (fg [(4, _), (8, _), (29, _), (30, _), (31, _), (32, _)] ⟨rfl, rfl, rfl, rfl, rfl, rfl, ⟨⟩⟩ fun _ => (wp_seq (cno rfl (wp_exit (eThen (eThen (eHit (nThen (fg [(4, _), (8, _)] ⟨rfl, rfl, ⟨⟩⟩ fun _ => (wp_seq ?_))))))))))
   have hka : m.asks.take k = m.asks := List.take_of_length_le (by omega)
   have hkk : k = m.asks.length := by omega
   rw [hka] at hR hC hb
   rw [hkk] at hb
   refine sreg (sv (xfld fl28_2 rfl) (sv (xld on26 rfl (h4.r.c 11 rfl rfl)) (sv (xfld fl28_3 rfl) (sv (xld on26 rfl (h4.r.c 12 rfl rfl)) (sv (xfld fl28_4 rfl) (sv (xld on26 rfl (h4.r.c 13 rfl rfl)) ?_))))))
   refine svK (xslit ([.slice a1 m.one.length c1, .slice a2 m.two.length c2, .slice a3 m.three.length c3]) sl133 in26 rfl (by decide) rfl rfl rfl rfl (by decide) rfl rfl) ?_
   rintro _ w69 ⟨b46, rfl, m70, h46, e46, s46, r46⟩
   have hG := hG.keep (fun k hk => by omega) m70 nF
   have hf := hf.step0 m70
   have hb := hb.keep m70 id
   have hR := hR.keep m70 id
   have hC := hC.keep m70 nF
   refine sv (xlen sl133 rfl) (sM rfl (send (fg [(8, _), (46, _), (47, _), (48, _)] ⟨rfl, rfl, rfl, rfl, ⟨⟩⟩ fun _ => (wp_block ?_))))
   refine lp [(8, _), (46, _), (47, _)] (fun (x : Nat × Value × Nat) => match x with | (i, v, gi) => [(48, .int .i64 (i : Int))]) (fun (x : Nat × Value × Nat) wx => match x with | (i, v, gi) => Fr (fun k => k = gk ∨ k = gm ∨ k = bb) w69 wx ∧ (i ≤ 3) ∧ (SB wx bb lB (bSegs v (2 + i) m.head.id.toNat (hbits m.head).toNat (cnt m i 0) (some gm))) ∧ (BR wx v gi (12 + (packA (some []) m).1.length + (LLs (some []) m i).1.length) (Z12 ++ ((packA (some []) m).1 ++ (LLs (some []) m i).1))) ∧ (Cmp wx (some gm) (LLs (some []) m i).2) ∧ (gi = gk ∨ w69.heap.size ≤ gi) ∧ (gi < wx.heap.size)) (fun (x : Nat × Value × Nat) => match x with | (i, v, gi) => 3 - i) (0, _, gk) ⟨rfl, rfl, rfl, rfl, trivial⟩ ⟨Fr.refl _ _, Nat.zero_le _, by rw [← cnt_A]; exact hb, br_cast hR (by simp [LLs, packAll, packA]) (by simp [LLs, packAll, packA]), by simpa [LLs, packAll, packA] using hC, .inl rfl, by omega⟩ ?_
   rintro ⟨i, v, gi⟩ _ w72 ⟨hL71, hi, hb, hR, hC, hgi, hgi2⟩
   refine fg [(8, _), (46, _), (47, _), (48, _)] ⟨rfl, rfl, rfl, rfl, ⟨⟩⟩ fun _ => ?_
   have z73 := hL71.size
   have hG := hG.keep (fun k hk => by omega) hL71 (fun k hk hS => by have hk := hk; have hS : k = gk ∨ k = gm ∨ k = bb := hS; omega)
   have hf := hf.step hL71 (fun k hk hS => by have hS : k = gk ∨ k = gm ∨ k = bb := hS; show False; omega)
   have r46 := r46.keep hL71 (by show ¬ (b46 = gk ∨ b46 = gm ∨ b46 = bb); omega)
   obtain ⟨aR, cR, rfl, -⟩ := hR.form
   have hLb := LLs_le (C := (some [])) (i := i) hpk hcn
   refine sreg ?_
   refine svP (xlss rfl rfl) (fun hc49 => ?_) (fun hc49 => ?_)
   ·
    refine send (fg [(8, _), (46, _), (47, _), (48, _), (49, _)] ⟨rfl, rfl, rfl, rfl, rfl, ⟨⟩⟩ fun _ => (wp_seq (cyes rfl (wp_skip (nThen (fg [(8, _), (46, _), (47, _), (48, _)] ⟨rfl, rfl, rfl, rfl, ⟨⟩⟩ fun _ => (wp_seq (wp_block (sreg (sM rfl ?_))))))))))
    obtain ⟨u, l, hu, hul, hL⟩ := hls.get (k := i) (by simp; omega)
    have hL := hL.keep rec_st hU hf nF
    have hlm : l ∈ [m.one, m.two, m.three] := List.mem_of_getElem? hul
    have hl40 : l.length ≤ 40 := by simp only [List.mem_cons, List.not_mem_nil, or_false] at hlm; rcases hlm with rfl | rfl | rfl <;> omega
    obtain ⟨au, cu, rfl⟩ := hL.form
    refine sv (xidx1 sl133 sz26 rfl rfl rfl (by omega)) (sv (xld on26 rfl (Rw.rng r46 i _ hu)) (sA rfl (sA rfl (send (fg [(8, _), (11, _), (12, _), (46, _), (47, _), (48, _)] ⟨rfl, rfl, rfl, rfl, rfl, rfl, ⟨⟩⟩ fun _ => (sreg ?_))))))
    by_cases hi2 : i = 2
    ·
     refine sc (xcall ca75 rfl) (c75b hb hG (by omega)) ?_
     rintro _ w74 ⟨⟨T53, a53, rfl⟩, m75⟩
     have z76 := m75.size
     have hG := hG.keep (fun k hk => by omega) m75 nF
     have hf := hf.step0 m75
     have hb := hb.keep m75 id
     have hR := hR.keep m75 id
     have hC := hC.keep m75 nF
     have hL71 := hL71.step0 m75
     have hL := hL.keep rec_st (lU hU (by omega)) m75 nF
     refine sA rfl (send (fg [(8, _), (11, _), (12, _), (13, _), (46, _), (47, _), (48, _)] ⟨rfl, rfl, rfl, rfl, rfl, rfl, rfl, ⟨⟩⟩ fun _ => (wp_seq (sreg (sM rfl (sv (exF (xeql rfl rfl) (by omega)) (send (fg [(8, _), (11, _), (12, _), (13, _), (46, _), (47, _), (48, _), (55, _)] ⟨rfl, rfl, rfl, rfl, rfl, rfl, rfl, rfl, ⟨⟩⟩ fun _ => (cno rfl (sreg (sM rfl (sv (exT (xeql rfl rfl) (by omega)) (send (fg [(8, _), (12, _), (13, _), (46, _), (47, _), (48, _), (58, _)] ⟨rfl, rfl, rfl, rfl, rfl, rfl, rfl, ⟨⟩⟩ fun _ => (cyes rfl (lreg ?_))))))))))))))))
     refine sc (xcall ca77 rfl) (c77 hb (by omega) (by omega)) ?_
     rintro _ w77 ⟨rfl, hb, m78⟩
     have z79 := m78.size
     have hG := hG.keep (fun k hk => by omega) m78 (fun k hk hS => by have hk := hk; have hS : k = bb := hS; omega)
     have hf := hf.step m78 (fun k hk hS => by have hS : k = bb := hS; show False; omega)
     have hR := hR.keep m78 (by show ¬ (gi = bb); omega)
     have hC := hC.keep m78 (fun b hb => by have hb := hm b hb; show ¬ (b = bb); omega)
     have hL71 := hL71.step m78 (fun k hk hS => by have hS : k = bb := hS; show k = gk ∨ k = gm ∨ k = bb; omega)
     have hL := hL.keep rec_st (lU hU (by omega)) m78 (fun k hk hS => by have hk := hU k hk; have hS : k = bb := hS; omega)
     refine sA rfl (lend (nThen (fg [(8, _), (12, _), (13, _), (46, _), (47, _), (48, _)] ⟨rfl, rfl, rfl, rfl, rfl, rfl, ⟨⟩⟩ fun _ => (wp_seq (sreg (sM rfl (sv (xneN if89 rfl) (send (fg [(8, _), (12, _), (46, _), (47, _), (48, _), (61, _)] ⟨rfl, rfl, rfl, rfl, rfl, rfl, ⟨⟩⟩ fun _ => (cno rfl (wp_skip (nThen (fg [(8, _), (12, _), (46, _), (47, _), (48, _)] ⟨rfl, rfl, rfl, rfl, rfl, ⟨⟩⟩ fun _ => (sreg (sM rfl (sv (xlen sl26 rfl) (sM rfl (send (fg [(8, _), (46, _), (47, _), (48, _), (62, _), (63, _), (64, _)] ⟨rfl, rfl, rfl, rfl, rfl, rfl, rfl, ⟨⟩⟩ fun _ => (wp_block ?_))))))))))))))))))))
     refine lp [(8, _), (46, _), (47, _), (48, _), (62, _), (63, _)] (fun (x : Nat × Value × Nat) => match x with | (k, v, gj) => [(64, .int .i64 (k : Int))]) (fun (x : Nat × Value × Nat) wx => match x with | (k, v, gj) => Fr (fun k => k = gi ∨ k = gm ∨ k = bb) w77 wx ∧ (k ≤ l.length) ∧ (SB wx bb lB (bSegs v (3 + i) m.head.id.toNat (hbits m.head).toNat (cnt m i k) (some gm))) ∧ (BR wx v gj ((12 + (packA (some []) m).1.length + (LLs (some []) m i).1.length) + (packAll packRec (LLs (some []) m i).2 (12 + (packA (some []) m).1.length + (LLs (some []) m i).1.length) (l.take k)).1.length) (Z12 ++ ((packA (some []) m).1 ++ ((LLs (some []) m i).1 ++ (packAll packRec (LLs (some []) m i).2 (12 + (packA (some []) m).1.length + (LLs (some []) m i).1.length) (l.take k)).1)))) ∧ (Cmp wx (some gm) (packAll packRec (LLs (some []) m i).2 (12 + (packA (some []) m).1.length + (LLs (some []) m i).1.length) (l.take k)).2) ∧ (gj = gi ∨ w77.heap.size ≤ gj) ∧ (gj < wx.heap.size)) (fun (x : Nat × Value × Nat) => match x with | (k, v, gj) => l.length - k) (0, _, gi) ⟨rfl, rfl, rfl, rfl, rfl, rfl, rfl, trivial⟩ ⟨Fr.refl _ _, Nat.zero_le _, sb_bump hb (by rw [show 3 + i = 5 by omega]), br_cast hR (by simp [packAll]) (by simp [packAll]), by simpa [packAll] using hC, .inl rfl, by omega⟩ ?_
     rintro ⟨k, v, gj⟩ _ w81 ⟨hL80, hk, hb, hR, hC, hgj, hgj2⟩
     refine fg [(8, _), (46, _), (47, _), (48, _), (62, _), (63, _), (64, _)] ⟨rfl, rfl, rfl, rfl, rfl, rfl, rfl, ⟨⟩⟩ fun _ => ?_
     have z82 := hL80.size
     have hG := hG.keep (fun k hk => by omega) hL80 (fun k hk hS => by have hk := hk; have hS : k = gi ∨ k = gm ∨ k = bb := hS; omega)
     have hf := hf.step hL80 (fun k hk hS => by have hS : k = gi ∨ k = gm ∨ k = bb := hS; show False; omega)
     have hL71 := hL71.step hL80 (fun k hk hS => by have hS : k = gi ∨ k = gm ∨ k = bb := hS; show k = gk ∨ k = gm ∨ k = bb; omega)
     have hL := hL.keep rec_st (lU hU (by omega)) hL80 (fun k hk hS => by have hk := hU k hk; have hS : k = gi ∨ k = gm ∨ k = bb := hS; omega)
     obtain ⟨aR, cR, rfl, -⟩ := hR.form
     have hKb := packRecs_bound (take_all_mem (fun r hr => (hpk l hlm r hr).2) k) (take_le40 hl40 k) (LLs (some []) m i).2 (12 + (packA (some []) m).1.length + (LLs (some []) m i).1.length)
     refine sreg ?_
     refine svP (xlss rfl rfl) (fun hc65 => ?_) (fun hc65 => ?_)
     ·
      refine send (fg [(8, _), (46, _), (47, _), (48, _), (62, _), (63, _), (64, _), (65, _)] ⟨rfl, rfl, rfl, rfl, rfl, rfl, rfl, rfl, ⟨⟩⟩ fun _ => (wp_seq (cyes rfl (wp_skip (nThen (fg [(8, _), (46, _), (47, _), (48, _), (62, _), (63, _), (64, _)] ⟨rfl, rfl, rfl, rfl, rfl, rfl, rfl, ⟨⟩⟩ fun _ => (wp_seq (wp_block ?_))))))))
      obtain ⟨r, hrk⟩ := some_of_lt (by omega : k < l.length)
      refine sreg ?_
      obtain ⟨bE66, oE66, sgE66, rfl, uE66, hsE66, heE66⟩ := LA.get hL hrk
      obtain ⟨vd, vt, vp, rfl, hd, ht, hp⟩ := heE66
      have zE66 := hU _ uE66
      obtain ⟨ad, cd, rfl, -⟩ := id hd
      obtain ⟨at1, ct1, rfl⟩ := ht.form
      obtain ⟨ap1, cp1, rfl⟩ := hp.form
      refine sv (xidx sl26 sz112 rfl rfl rfl (by omega)) (sv (xldS (lens := lRec) ro112 rfl hsE66) ?_)
      refine svK (xallS (lens := lRec) in112 rfl) ?_
      rintro _ w84 ⟨b15, rfl, m85, h15, e83, s83⟩
      have hG := hG.keep (fun k hk => by omega) m85 nF
      have hf := hf.step0 m85
      have hL71 := hL71.step0 m85
      have hL := hL.keep rec_st (lU hU (by omega)) m85 nF
      have hb := hb.keep m85 id
      have hR := hR.keep m85 id
      have hC := hC.keep m85 nF
      have hL80 := hL80.step0 m85
      have hd := hd.keep (lU hU (by omega)) m85 nF
      have ht := ht.keep text_st (lU hU (by omega)) m85 nF
      have hp := hp.keep pair_st (lU hU (by omega)) m85 nF
      refine suK (xstW h15 (lens' := lRec) sz112 rfl rfl rfl rfl rfl) ?_
      rintro w87 ⟨m88, h15, s86⟩
      have hG := hG.keep (fun k hk => by omega) m88 (fun k hk hS => by have hk := hk; have hS : k = b15 := hS; omega)
      have hf := hf.step m88 (fun k hk hS => by have hS : k = b15 := hS; show False; omega)
      have hL71 := hL71.step m88 (fun k hk hS => by have hS : k = b15 := hS; show k = gk ∨ k = gm ∨ k = bb; omega)
      have hL := hL.keep rec_st (lU hU (by omega)) m88 (fun k hk hS => by have hk := hU k hk; have hS : k = b15 := hS; omega)
      have hb := hb.keep m88 (by show ¬ (bb = b15); omega)
      have hR := hR.keep m88 (by show ¬ (gj = b15); omega)
      have hC := hC.keep m88 (fun b hb => by have hb := hm b hb; show ¬ (b = b15); omega)
      have hL80 := hL80.step m88 (fun k hk hS => by have hS : k = b15 := hS; show k = gi ∨ k = gm ∨ k = bb; omega)
      have hd := hd.keep (lU hU (by omega)) m88 (fun k hk hS => by have hk := hU k hk; have hS : k = b15 := hS; omega)
      have ht := ht.keep text_st (lU hU (by omega)) m88 (fun k hk hS => by have hk := hU k hk; have hS : k = b15 := hS; omega)
      have hp := hp.keep pair_st (lU hU (by omega)) m88 (fun k hk hS => by have hk := hU k hk; have hS : k = b15 := hS; omega)
      refine send (fg [(8, _), (15, _), (46, _), (47, _), (48, _), (62, _), (63, _), (64, _)] ⟨rfl, rfl, rfl, rfl, rfl, rfl, rfl, rfl, ⟨⟩⟩ fun _ => (sreg (sv (xldS (lens := lRec) ro112 rfl h15.r) ?_)))
      refine sc (xcall ca78 rfl) (c78 (U := U) (r := r) (n := (12 + (packA (some []) m).1.length + (LLs (some []) m i).1.length) + (packAll packRec (LLs (some []) m i).2 (12 + (packA (some []) m).1.length + (LLs (some []) m i).1.length) (l.take k)).1.length) hb hR hC hm hG (by omega) (by omega) (by omega) (cnt_le hcn (by omega)) (by omega) (by omega) (fun k hk => by have hk := hU k hk; omega) (hpk l hlm r (List.mem_of_getElem? hrk)) hd ht hp) ?_
      rintro _ w89 ⟨p69, q69, g69, rfl, hb, r69, hC, m90, a69, l69⟩
      have z91 := m90.size
      have hG := hG.keep (fun k hk => by omega) m90 (fun k hk hS => by have hk := hk; have hS : k = gj ∨ k = gm ∨ k = bb := hS; omega)
      have hf := hf.step m90 (fun k hk hS => by have hS : k = gj ∨ k = gm ∨ k = bb := hS; show False; omega)
      have hL71 := hL71.step m90 (fun k hk hS => by have hS : k = gj ∨ k = gm ∨ k = bb := hS; show k = gk ∨ k = gm ∨ k = bb; omega)
      have hL := hL.keep rec_st (lU hU (by omega)) m90 (fun k hk hS => by have hk := hU k hk; have hS : k = gj ∨ k = gm ∨ k = bb := hS; omega)
      have hL80 := hL80.step m90 (fun k hk hS => by have hS : k = gj ∨ k = gm ∨ k = bb := hS; show k = gi ∨ k = gm ∨ k = bb; omega)
      refine sv (xneN if89 rfl) (send (fg [(8, _), (46, _), (47, _), (48, _), (62, _), (63, _), (64, _), (70, _)] ⟨rfl, rfl, rfl, rfl, rfl, rfl, rfl, rfl, ⟨⟩⟩ fun _ => (cno rfl (wp_skip (nBlock (nThen (fg [(8, _), (46, _), (47, _), (48, _), (62, _), (63, _), (64, _)] ⟨rfl, rfl, rfl, rfl, rfl, rfl, rfl, ⟨⟩⟩ fun _ => (lreg (sv (xadd rfl rfl (w64 (by omega) (by omega))) (sM rfl (lend (nThen ?_))))))))))))
      refine ⟨(k + 1, _, g69), _, env_okl ⟨rfl, rfl, rfl, rfl, rfl, rfl, rfl, trivial⟩, ⟨hL80, (by omega), (by rw [← bump_cnt m (by omega)]; exact hb), (by rw [packAll_take hrk]; exact br_cast r69 (by simp) (by simp; omega)), (by rw [packAll_take hrk]; exact hC), (by omega), (by omega)⟩, ?_⟩
      show l.length - (k + 1) < l.length - k; omega
     ·
      refine send (fg [(8, _), (46, _), (47, _), (48, _), (62, _), (63, _), (64, _), (65, _)] ⟨rfl, rfl, rfl, rfl, rfl, rfl, rfl, rfl, ⟨⟩⟩ fun _ => (wp_seq (cno rfl (wp_exit (eThen (eThen (eHit (nBlock (nThen (fg [(8, _), (46, _), (47, _), (48, _)] ⟨rfl, rfl, rfl, rfl, ⟨⟩⟩ fun _ => (lreg (sv (xadd rfl rfl (w64 (by omega) (by omega))) (sM rfl (lend (nThen ?_)))))))))))))))
      have hkl : l.take k = l := List.take_of_length_le (by omega)
      have hkk : k = l.length := by omega
      rw [hkl] at hb hR hC
      rw [hkk] at hb
      have hb := sb_bump (segs' := bSegs _ (2 + (i + 1)) m.head.id.toNat (hbits m.head).toNat (cnt m i l.length) (some gm)) hb (by rw [show 3 + i = 2 + (i + 1) by omega])
      refine ⟨(i + 1, _, gj), _, env_okl ⟨rfl, rfl, rfl, rfl, trivial⟩, ⟨hL71, (by omega), (by rw [← cnt_next m hul]; exact hb), (by rw [LLs_next hul]; exact br_cast hR (by simp) (by simp; omega)), (by rw [LLs_next hul]; exact hC), (by omega), (by omega)⟩, ?_⟩
      show 3 - (i + 1) < 3 - i; omega
    ·
     refine sc (xcall ca75 rfl) (c75 hb (by omega) (by omega)) ?_
     rintro _ w92 ⟨rfl, hb, m93⟩
     have z94 := m93.size
     have hG := hG.keep (fun k hk => by omega) m93 (fun k hk hS => by have hk := hk; have hS : k = bb := hS; omega)
     have hf := hf.step m93 (fun k hk hS => by have hS : k = bb := hS; show False; omega)
     have hR := hR.keep m93 (by show ¬ (gi = bb); omega)
     have hC := hC.keep m93 (fun b hb => by have hb := hm b hb; show ¬ (b = bb); omega)
     have hL71 := hL71.step m93 (fun k hk hS => by have hS : k = bb := hS; show k = gk ∨ k = gm ∨ k = bb; omega)
     have hL := hL.keep rec_st (lU hU (by omega)) m93 (fun k hk hS => by have hk := hU k hk; have hS : k = bb := hS; omega)
     refine sA rfl (send (fg [(8, _), (11, _), (12, _), (13, _), (46, _), (47, _), (48, _)] ⟨rfl, rfl, rfl, rfl, rfl, rfl, rfl, ⟨⟩⟩ fun _ => (wp_seq (sreg (sM rfl ?_)))))
     refine svP (xeql rfl rfl) (fun hc55 => ?_) (fun hc55 => ?_)
     ·
      refine send (fg [(8, _), (11, _), (12, _), (13, _), (46, _), (47, _), (48, _), (55, _)] ⟨rfl, rfl, rfl, rfl, rfl, rfl, rfl, rfl, ⟨⟩⟩ fun _ => (cyes rfl (lreg ?_)))
      refine sc (xcall ca76 rfl) (c76 hb (by omega) (by omega)) ?_
      rintro _ w95 ⟨rfl, hb, m96⟩
      have z97 := m96.size
      have hG := hG.keep (fun k hk => by omega) m96 (fun k hk hS => by have hk := hk; have hS : k = bb := hS; omega)
      have hf := hf.step m96 (fun k hk hS => by have hS : k = bb := hS; show False; omega)
      have hR := hR.keep m96 (by show ¬ (gi = bb); omega)
      have hC := hC.keep m96 (fun b hb => by have hb := hm b hb; show ¬ (b = bb); omega)
      have hL71 := hL71.step m96 (fun k hk hS => by have hS : k = bb := hS; show k = gk ∨ k = gm ∨ k = bb; omega)
      have hL := hL.keep rec_st (lU hU (by omega)) m96 (fun k hk hS => by have hk := hU k hk; have hS : k = bb := hS; omega)
      refine sA rfl (lend (nThen (fg [(8, _), (12, _), (13, _), (46, _), (47, _), (48, _)] ⟨rfl, rfl, rfl, rfl, rfl, rfl, ⟨⟩⟩ fun _ => (wp_seq (sreg (sM rfl (sv (xneN if89 rfl) (send (fg [(8, _), (12, _), (46, _), (47, _), (48, _), (61, _)] ⟨rfl, rfl, rfl, rfl, rfl, rfl, ⟨⟩⟩ fun _ => (cno rfl (wp_skip (nThen (fg [(8, _), (12, _), (46, _), (47, _), (48, _)] ⟨rfl, rfl, rfl, rfl, rfl, ⟨⟩⟩ fun _ => (sreg (sM rfl (sv (xlen sl26 rfl) (sM rfl (send (fg [(8, _), (46, _), (47, _), (48, _), (62, _), (63, _), (64, _)] ⟨rfl, rfl, rfl, rfl, rfl, rfl, rfl, ⟨⟩⟩ fun _ => (wp_block ?_))))))))))))))))))))
      refine lp [(8, _), (46, _), (47, _), (48, _), (62, _), (63, _)] (fun (x : Nat × Value × Nat) => match x with | (k, v, gj) => [(64, .int .i64 (k : Int))]) (fun (x : Nat × Value × Nat) wx => match x with | (k, v, gj) => Fr (fun k => k = gi ∨ k = gm ∨ k = bb) w95 wx ∧ (k ≤ l.length) ∧ (SB wx bb lB (bSegs v (3 + i) m.head.id.toNat (hbits m.head).toNat (cnt m i k) (some gm))) ∧ (BR wx v gj ((12 + (packA (some []) m).1.length + (LLs (some []) m i).1.length) + (packAll packRec (LLs (some []) m i).2 (12 + (packA (some []) m).1.length + (LLs (some []) m i).1.length) (l.take k)).1.length) (Z12 ++ ((packA (some []) m).1 ++ ((LLs (some []) m i).1 ++ (packAll packRec (LLs (some []) m i).2 (12 + (packA (some []) m).1.length + (LLs (some []) m i).1.length) (l.take k)).1)))) ∧ (Cmp wx (some gm) (packAll packRec (LLs (some []) m i).2 (12 + (packA (some []) m).1.length + (LLs (some []) m i).1.length) (l.take k)).2) ∧ (gj = gi ∨ w95.heap.size ≤ gj) ∧ (gj < wx.heap.size)) (fun (x : Nat × Value × Nat) => match x with | (k, v, gj) => l.length - k) (0, _, gi) ⟨rfl, rfl, rfl, rfl, rfl, rfl, rfl, trivial⟩ ⟨Fr.refl _ _, Nat.zero_le _, sb_bump hb (by rw [show 3 + i = 4 by omega]), br_cast hR (by simp [packAll]) (by simp [packAll]), by simpa [packAll] using hC, .inl rfl, by omega⟩ ?_
      rintro ⟨k, v, gj⟩ _ w99 ⟨hL98, hk, hb, hR, hC, hgj, hgj2⟩
      refine fg [(8, _), (46, _), (47, _), (48, _), (62, _), (63, _), (64, _)] ⟨rfl, rfl, rfl, rfl, rfl, rfl, rfl, ⟨⟩⟩ fun _ => ?_
      have z100 := hL98.size
      have hG := hG.keep (fun k hk => by omega) hL98 (fun k hk hS => by have hk := hk; have hS : k = gi ∨ k = gm ∨ k = bb := hS; omega)
      have hf := hf.step hL98 (fun k hk hS => by have hS : k = gi ∨ k = gm ∨ k = bb := hS; show False; omega)
      have hL71 := hL71.step hL98 (fun k hk hS => by have hS : k = gi ∨ k = gm ∨ k = bb := hS; show k = gk ∨ k = gm ∨ k = bb; omega)
      have hL := hL.keep rec_st (lU hU (by omega)) hL98 (fun k hk hS => by have hk := hU k hk; have hS : k = gi ∨ k = gm ∨ k = bb := hS; omega)
      obtain ⟨aR, cR, rfl, -⟩ := hR.form
      have hKb := packRecs_bound (take_all_mem (fun r hr => (hpk l hlm r hr).2) k) (take_le40 hl40 k) (LLs (some []) m i).2 (12 + (packA (some []) m).1.length + (LLs (some []) m i).1.length)
      refine sreg ?_
      refine svP (xlss rfl rfl) (fun hc65 => ?_) (fun hc65 => ?_)
      ·
       refine send (fg [(8, _), (46, _), (47, _), (48, _), (62, _), (63, _), (64, _), (65, _)] ⟨rfl, rfl, rfl, rfl, rfl, rfl, rfl, rfl, ⟨⟩⟩ fun _ => (wp_seq (cyes rfl (wp_skip (nThen (fg [(8, _), (46, _), (47, _), (48, _), (62, _), (63, _), (64, _)] ⟨rfl, rfl, rfl, rfl, rfl, rfl, rfl, ⟨⟩⟩ fun _ => (wp_seq (wp_block ?_))))))))
       obtain ⟨r, hrk⟩ := some_of_lt (by omega : k < l.length)
       refine sreg ?_
       obtain ⟨bE66, oE66, sgE66, rfl, uE66, hsE66, heE66⟩ := LA.get hL hrk
       obtain ⟨vd, vt, vp, rfl, hd, ht, hp⟩ := heE66
       have zE66 := hU _ uE66
       obtain ⟨ad, cd, rfl, -⟩ := id hd
       obtain ⟨at1, ct1, rfl⟩ := ht.form
       obtain ⟨ap1, cp1, rfl⟩ := hp.form
       refine sv (xidx sl26 sz112 rfl rfl rfl (by omega)) (sv (xldS (lens := lRec) ro112 rfl hsE66) ?_)
       refine svK (xallS (lens := lRec) in112 rfl) ?_
       rintro _ w102 ⟨b15, rfl, m103, h15, e101, s101⟩
       have hG := hG.keep (fun k hk => by omega) m103 nF
       have hf := hf.step0 m103
       have hL71 := hL71.step0 m103
       have hL := hL.keep rec_st (lU hU (by omega)) m103 nF
       have hb := hb.keep m103 id
       have hR := hR.keep m103 id
       have hC := hC.keep m103 nF
       have hL98 := hL98.step0 m103
       have hd := hd.keep (lU hU (by omega)) m103 nF
       have ht := ht.keep text_st (lU hU (by omega)) m103 nF
       have hp := hp.keep pair_st (lU hU (by omega)) m103 nF
       refine suK (xstW h15 (lens' := lRec) sz112 rfl rfl rfl rfl rfl) ?_
       rintro w105 ⟨m106, h15, s104⟩
       have hG := hG.keep (fun k hk => by omega) m106 (fun k hk hS => by have hk := hk; have hS : k = b15 := hS; omega)
       have hf := hf.step m106 (fun k hk hS => by have hS : k = b15 := hS; show False; omega)
       have hL71 := hL71.step m106 (fun k hk hS => by have hS : k = b15 := hS; show k = gk ∨ k = gm ∨ k = bb; omega)
       have hL := hL.keep rec_st (lU hU (by omega)) m106 (fun k hk hS => by have hk := hU k hk; have hS : k = b15 := hS; omega)
       have hb := hb.keep m106 (by show ¬ (bb = b15); omega)
       have hR := hR.keep m106 (by show ¬ (gj = b15); omega)
       have hC := hC.keep m106 (fun b hb => by have hb := hm b hb; show ¬ (b = b15); omega)
       have hL98 := hL98.step m106 (fun k hk hS => by have hS : k = b15 := hS; show k = gi ∨ k = gm ∨ k = bb; omega)
       have hd := hd.keep (lU hU (by omega)) m106 (fun k hk hS => by have hk := hU k hk; have hS : k = b15 := hS; omega)
       have ht := ht.keep text_st (lU hU (by omega)) m106 (fun k hk hS => by have hk := hU k hk; have hS : k = b15 := hS; omega)
       have hp := hp.keep pair_st (lU hU (by omega)) m106 (fun k hk hS => by have hk := hU k hk; have hS : k = b15 := hS; omega)
       refine send (fg [(8, _), (15, _), (46, _), (47, _), (48, _), (62, _), (63, _), (64, _)] ⟨rfl, rfl, rfl, rfl, rfl, rfl, rfl, rfl, ⟨⟩⟩ fun _ => (sreg (sv (xldS (lens := lRec) ro112 rfl h15.r) ?_)))
       refine sc (xcall ca78 rfl) (c78 (U := U) (r := r) (n := (12 + (packA (some []) m).1.length + (LLs (some []) m i).1.length) + (packAll packRec (LLs (some []) m i).2 (12 + (packA (some []) m).1.length + (LLs (some []) m i).1.length) (l.take k)).1.length) hb hR hC hm hG (by omega) (by omega) (by omega) (cnt_le hcn (by omega)) (by omega) (by omega) (fun k hk => by have hk := hU k hk; omega) (hpk l hlm r (List.mem_of_getElem? hrk)) hd ht hp) ?_
       rintro _ w107 ⟨p69, q69, g69, rfl, hb, r69, hC, m108, a69, l69⟩
       have z109 := m108.size
       have hG := hG.keep (fun k hk => by omega) m108 (fun k hk hS => by have hk := hk; have hS : k = gj ∨ k = gm ∨ k = bb := hS; omega)
       have hf := hf.step m108 (fun k hk hS => by have hS : k = gj ∨ k = gm ∨ k = bb := hS; show False; omega)
       have hL71 := hL71.step m108 (fun k hk hS => by have hS : k = gj ∨ k = gm ∨ k = bb := hS; show k = gk ∨ k = gm ∨ k = bb; omega)
       have hL := hL.keep rec_st (lU hU (by omega)) m108 (fun k hk hS => by have hk := hU k hk; have hS : k = gj ∨ k = gm ∨ k = bb := hS; omega)
       have hL98 := hL98.step m108 (fun k hk hS => by have hS : k = gj ∨ k = gm ∨ k = bb := hS; show k = gi ∨ k = gm ∨ k = bb; omega)
       refine sv (xneN if89 rfl) (send (fg [(8, _), (46, _), (47, _), (48, _), (62, _), (63, _), (64, _), (70, _)] ⟨rfl, rfl, rfl, rfl, rfl, rfl, rfl, rfl, ⟨⟩⟩ fun _ => (cno rfl (wp_skip (nBlock (nThen (fg [(8, _), (46, _), (47, _), (48, _), (62, _), (63, _), (64, _)] ⟨rfl, rfl, rfl, rfl, rfl, rfl, rfl, ⟨⟩⟩ fun _ => (lreg (sv (xadd rfl rfl (w64 (by omega) (by omega))) (sM rfl (lend (nThen ?_))))))))))))
       refine ⟨(k + 1, _, g69), _, env_okl ⟨rfl, rfl, rfl, rfl, rfl, rfl, rfl, trivial⟩, ⟨hL98, (by omega), (by rw [← bump_cnt m (by omega)]; exact hb), (by rw [packAll_take hrk]; exact br_cast r69 (by simp) (by simp; omega)), (by rw [packAll_take hrk]; exact hC), (by omega), (by omega)⟩, ?_⟩
       show l.length - (k + 1) < l.length - k; omega
      ·
       refine send (fg [(8, _), (46, _), (47, _), (48, _), (62, _), (63, _), (64, _), (65, _)] ⟨rfl, rfl, rfl, rfl, rfl, rfl, rfl, rfl, ⟨⟩⟩ fun _ => (wp_seq (cno rfl (wp_exit (eThen (eThen (eHit (nBlock (nThen (fg [(8, _), (46, _), (47, _), (48, _)] ⟨rfl, rfl, rfl, rfl, ⟨⟩⟩ fun _ => (lreg (sv (xadd rfl rfl (w64 (by omega) (by omega))) (sM rfl (lend (nThen ?_)))))))))))))))
       have hkl : l.take k = l := List.take_of_length_le (by omega)
       have hkk : k = l.length := by omega
       rw [hkl] at hb hR hC
       rw [hkk] at hb
       have hb := sb_bump (segs' := bSegs _ (2 + (i + 1)) m.head.id.toNat (hbits m.head).toNat (cnt m i l.length) (some gm)) hb (by rw [show 3 + i = 2 + (i + 1) by omega])
       refine ⟨(i + 1, _, gj), _, env_okl ⟨rfl, rfl, rfl, rfl, trivial⟩, ⟨hL71, (by omega), (by rw [← cnt_next m hul]; exact hb), (by rw [LLs_next hul]; exact br_cast hR (by simp) (by simp; omega)), (by rw [LLs_next hul]; exact hC), (by omega), (by omega)⟩, ?_⟩
       show 3 - (i + 1) < 3 - i; omega
     ·
      refine send (fg [(8, _), (11, _), (12, _), (13, _), (46, _), (47, _), (48, _), (55, _)] ⟨rfl, rfl, rfl, rfl, rfl, rfl, rfl, rfl, ⟨⟩⟩ fun _ => (cno rfl (sreg (sM rfl (sv (exF (xeql rfl rfl) (by omega)) (send (fg [(8, _), (12, _), (13, _), (46, _), (47, _), (48, _), (58, _)] ⟨rfl, rfl, rfl, rfl, rfl, rfl, rfl, ⟨⟩⟩ fun _ => (cno rfl (wp_skip (nThen (fg [(8, _), (12, _), (13, _), (46, _), (47, _), (48, _)] ⟨rfl, rfl, rfl, rfl, rfl, rfl, ⟨⟩⟩ fun _ => (wp_seq (sreg (sM rfl (sv (xneN if89 rfl) (send (fg [(8, _), (12, _), (46, _), (47, _), (48, _), (61, _)] ⟨rfl, rfl, rfl, rfl, rfl, rfl, ⟨⟩⟩ fun _ => (cno rfl (wp_skip (nThen (fg [(8, _), (12, _), (46, _), (47, _), (48, _)] ⟨rfl, rfl, rfl, rfl, rfl, ⟨⟩⟩ fun _ => (sreg (sM rfl (sv (xlen sl26 rfl) ?_))))))))))))))))))))))))
      refine sM rfl (send (fg [(8, _), (46, _), (47, _), (48, _), (62, _), (63, _), (64, _)] ⟨rfl, rfl, rfl, rfl, rfl, rfl, rfl, ⟨⟩⟩ fun _ => (wp_block ?_)))
      refine lp [(8, _), (46, _), (47, _), (48, _), (62, _), (63, _)] (fun (x : Nat × Value × Nat) => match x with | (k, v, gj) => [(64, .int .i64 (k : Int))]) (fun (x : Nat × Value × Nat) wx => match x with | (k, v, gj) => Fr (fun k => k = gi ∨ k = gm ∨ k = bb) w92 wx ∧ (k ≤ l.length) ∧ (SB wx bb lB (bSegs v (3 + i) m.head.id.toNat (hbits m.head).toNat (cnt m i k) (some gm))) ∧ (BR wx v gj ((12 + (packA (some []) m).1.length + (LLs (some []) m i).1.length) + (packAll packRec (LLs (some []) m i).2 (12 + (packA (some []) m).1.length + (LLs (some []) m i).1.length) (l.take k)).1.length) (Z12 ++ ((packA (some []) m).1 ++ ((LLs (some []) m i).1 ++ (packAll packRec (LLs (some []) m i).2 (12 + (packA (some []) m).1.length + (LLs (some []) m i).1.length) (l.take k)).1)))) ∧ (Cmp wx (some gm) (packAll packRec (LLs (some []) m i).2 (12 + (packA (some []) m).1.length + (LLs (some []) m i).1.length) (l.take k)).2) ∧ (gj = gi ∨ w92.heap.size ≤ gj) ∧ (gj < wx.heap.size)) (fun (x : Nat × Value × Nat) => match x with | (k, v, gj) => l.length - k) (0, _, gi) ⟨rfl, rfl, rfl, rfl, rfl, rfl, rfl, trivial⟩ ⟨Fr.refl _ _, Nat.zero_le _, sb_bump hb (by rw [show 3 + i = 3 by omega]), br_cast hR (by simp [packAll]) (by simp [packAll]), by simpa [packAll] using hC, .inl rfl, by omega⟩ ?_
      rintro ⟨k, v, gj⟩ _ w111 ⟨hL110, hk, hb, hR, hC, hgj, hgj2⟩
      refine fg [(8, _), (46, _), (47, _), (48, _), (62, _), (63, _), (64, _)] ⟨rfl, rfl, rfl, rfl, rfl, rfl, rfl, ⟨⟩⟩ fun _ => ?_
      have z112 := hL110.size
      have hG := hG.keep (fun k hk => by omega) hL110 (fun k hk hS => by have hk := hk; have hS : k = gi ∨ k = gm ∨ k = bb := hS; omega)
      have hf := hf.step hL110 (fun k hk hS => by have hS : k = gi ∨ k = gm ∨ k = bb := hS; show False; omega)
      have hL71 := hL71.step hL110 (fun k hk hS => by have hS : k = gi ∨ k = gm ∨ k = bb := hS; show k = gk ∨ k = gm ∨ k = bb; omega)
      have hL := hL.keep rec_st (lU hU (by omega)) hL110 (fun k hk hS => by have hk := hU k hk; have hS : k = gi ∨ k = gm ∨ k = bb := hS; omega)
      obtain ⟨aR, cR, rfl, -⟩ := hR.form
      have hKb := packRecs_bound (take_all_mem (fun r hr => (hpk l hlm r hr).2) k) (take_le40 hl40 k) (LLs (some []) m i).2 (12 + (packA (some []) m).1.length + (LLs (some []) m i).1.length)
      refine sreg ?_
      refine svP (xlss rfl rfl) (fun hc65 => ?_) (fun hc65 => ?_)
      ·
       refine send (fg [(8, _), (46, _), (47, _), (48, _), (62, _), (63, _), (64, _), (65, _)] ⟨rfl, rfl, rfl, rfl, rfl, rfl, rfl, rfl, ⟨⟩⟩ fun _ => (wp_seq (cyes rfl (wp_skip (nThen (fg [(8, _), (46, _), (47, _), (48, _), (62, _), (63, _), (64, _)] ⟨rfl, rfl, rfl, rfl, rfl, rfl, rfl, ⟨⟩⟩ fun _ => (wp_seq (wp_block ?_))))))))
       obtain ⟨r, hrk⟩ := some_of_lt (by omega : k < l.length)
       refine sreg ?_
       obtain ⟨bE66, oE66, sgE66, rfl, uE66, hsE66, heE66⟩ := LA.get hL hrk
       obtain ⟨vd, vt, vp, rfl, hd, ht, hp⟩ := heE66
       have zE66 := hU _ uE66
       obtain ⟨ad, cd, rfl, -⟩ := id hd
       obtain ⟨at1, ct1, rfl⟩ := ht.form
       obtain ⟨ap1, cp1, rfl⟩ := hp.form
       refine sv (xidx sl26 sz112 rfl rfl rfl (by omega)) (sv (xldS (lens := lRec) ro112 rfl hsE66) ?_)
       refine svK (xallS (lens := lRec) in112 rfl) ?_
       rintro _ w114 ⟨b15, rfl, m115, h15, e113, s113⟩
       have hG := hG.keep (fun k hk => by omega) m115 nF
       have hf := hf.step0 m115
       have hL71 := hL71.step0 m115
       have hb := hb.keep m115 id
       have hR := hR.keep m115 id
       have hC := hC.keep m115 nF
       have hL110 := hL110.step0 m115
       have hd := hd.keep (lU hU (by omega)) m115 nF
       have ht := ht.keep text_st (lU hU (by omega)) m115 nF
       have hp := hp.keep pair_st (lU hU (by omega)) m115 nF
       refine suK (xstW h15 (lens' := lRec) sz112 rfl rfl rfl rfl rfl) ?_
       rintro w117 ⟨m118, h15, s116⟩
       have hG := hG.keep (fun k hk => by omega) m118 (fun k hk hS => by have hk := hk; have hS : k = b15 := hS; omega)
       have hf := hf.step m118 (fun k hk hS => by have hS : k = b15 := hS; show False; omega)
       have hL71 := hL71.step m118 (fun k hk hS => by have hS : k = b15 := hS; show k = gk ∨ k = gm ∨ k = bb; omega)
       have hb := hb.keep m118 (by show ¬ (bb = b15); omega)
       have hR := hR.keep m118 (by show ¬ (gj = b15); omega)
       have hC := hC.keep m118 (fun b hb => by have hb := hm b hb; show ¬ (b = b15); omega)
       have hL110 := hL110.step m118 (fun k hk hS => by have hS : k = b15 := hS; show k = gi ∨ k = gm ∨ k = bb; omega)
       have hd := hd.keep (lU hU (by omega)) m118 (fun k hk hS => by have hk := hU k hk; have hS : k = b15 := hS; omega)
       have ht := ht.keep text_st (lU hU (by omega)) m118 (fun k hk hS => by have hk := hU k hk; have hS : k = b15 := hS; omega)
       have hp := hp.keep pair_st (lU hU (by omega)) m118 (fun k hk hS => by have hk := hU k hk; have hS : k = b15 := hS; omega)
       refine send (fg [(8, _), (15, _), (46, _), (47, _), (48, _), (62, _), (63, _), (64, _)] ⟨rfl, rfl, rfl, rfl, rfl, rfl, rfl, rfl, ⟨⟩⟩ fun _ => (sreg (sv (xldS (lens := lRec) ro112 rfl h15.r) ?_)))
       refine sc (xcall ca78 rfl) (c78 (U := U) (r := r) (n := (12 + (packA (some []) m).1.length + (LLs (some []) m i).1.length) + (packAll packRec (LLs (some []) m i).2 (12 + (packA (some []) m).1.length + (LLs (some []) m i).1.length) (l.take k)).1.length) hb hR hC hm hG (by omega) (by omega) (by omega) (cnt_le hcn (by omega)) (by omega) (by omega) (fun k hk => by have hk := hU k hk; omega) (hpk l hlm r (List.mem_of_getElem? hrk)) hd ht hp) ?_
       rintro _ w119 ⟨p69, q69, g69, rfl, hb, r69, hC, m120, a69, l69⟩
       have z121 := m120.size
       have hf := hf.step m120 (fun k hk hS => by have hS : k = gj ∨ k = gm ∨ k = bb := hS; show False; omega)
       have hL71 := hL71.step m120 (fun k hk hS => by have hS : k = gj ∨ k = gm ∨ k = bb := hS; show k = gk ∨ k = gm ∨ k = bb; omega)
       have hL110 := hL110.step m120 (fun k hk hS => by have hS : k = gj ∨ k = gm ∨ k = bb := hS; show k = gi ∨ k = gm ∨ k = bb; omega)
       refine sv (xneN if89 rfl) (send (fg [(8, _), (46, _), (47, _), (48, _), (62, _), (63, _), (64, _), (70, _)] ⟨rfl, rfl, rfl, rfl, rfl, rfl, rfl, rfl, ⟨⟩⟩ fun _ => (cno rfl (wp_skip (nBlock (nThen (fg [(8, _), (46, _), (47, _), (48, _), (62, _), (63, _), (64, _)] ⟨rfl, rfl, rfl, rfl, rfl, rfl, rfl, ⟨⟩⟩ fun _ => (lreg (sv (xadd rfl rfl (w64 (by omega) (by omega))) (sM rfl (lend (nThen ?_))))))))))))
       refine ⟨(k + 1, _, g69), _, env_okl ⟨rfl, rfl, rfl, rfl, rfl, rfl, rfl, trivial⟩, ⟨hL110, (by omega), (by rw [← bump_cnt m (by omega)]; exact hb), (by rw [packAll_take hrk]; exact br_cast r69 (by simp) (by simp; omega)), (by rw [packAll_take hrk]; exact hC), (by omega), (by omega)⟩, ?_⟩
       show l.length - (k + 1) < l.length - k; omega
      ·
       refine send (fg [(8, _), (46, _), (47, _), (48, _), (62, _), (63, _), (64, _), (65, _)] ⟨rfl, rfl, rfl, rfl, rfl, rfl, rfl, rfl, ⟨⟩⟩ fun _ => (wp_seq (cno rfl (wp_exit (eThen (eThen (eHit (nBlock (nThen (fg [(8, _), (46, _), (47, _), (48, _)] ⟨rfl, rfl, rfl, rfl, ⟨⟩⟩ fun _ => (lreg (sv (xadd rfl rfl (w64 (by omega) (by omega))) (sM rfl (lend (nThen ?_)))))))))))))))
       have hkl : l.take k = l := List.take_of_length_le (by omega)
       have hkk : k = l.length := by omega
       rw [hkl] at hb hR hC
       rw [hkk] at hb
       have hb := sb_bump (segs' := bSegs _ (2 + (i + 1)) m.head.id.toNat (hbits m.head).toNat (cnt m i l.length) (some gm)) hb (by rw [show 3 + i = 2 + (i + 1) by omega])
       refine ⟨(i + 1, _, gj), _, env_okl ⟨rfl, rfl, rfl, rfl, trivial⟩, ⟨hL71, (by omega), (by rw [← cnt_next m hul]; exact hb), (by rw [LLs_next hul]; exact br_cast hR (by simp) (by simp; omega)), (by rw [LLs_next hul]; exact hC), (by omega), (by omega)⟩, ?_⟩
       show 3 - (i + 1) < 3 - i; omega
   ·
    refine send (fg [(8, _), (46, _), (47, _), (48, _), (49, _)] ⟨rfl, rfl, rfl, rfl, rfl, ⟨⟩⟩ fun _ => (wp_seq (cno rfl (wp_exit (eThen (eThen (eHit (nThen (fg [(8, _)] ⟨rfl, ⟨⟩⟩ fun _ => (sreg ?_))))))))))
    refine sc (xcall ca79 rfl) (c79 (rest := (packA (some []) m).1 ++ (LLs (some []) m i).1) hb hR (by omega) (by omega) (by omega) ⟨u16lt _, u16lt _⟩ (cnt_le hcn (by omega))) ?_
    rintro _ w122 ⟨rfl, hR, m123⟩
    have z124 := m123.size
    have hf := hf.step m123 (fun k hk hS => by have hS : k = gi ∨ k = bb := hS; show False; omega)
    refine sM rfl (sv (xex20 rfl) (sv (xex21 rfl) (sA rfl (sA rfl (send (fg [(16, _), (17, _)] ⟨rfl, rfl, ⟨⟩⟩ fun _ => ?_))))))
    refine sdrawH (Fr (fun _ => False) w122.drew) [(0, .rd), (1, .rd), (2, .rd), (3, .rd), (4, .rd)] mixed (by kernel_rfl) (fun _ _ _ _ _ h => h) ?_
    have z125 : w122.drew.heap.size = w122.heap.size := rfl
    have hf := hf.drew
    have hR := hR.keep (fd w122) id
    have hS126 : Fr (fun _ => False) w122.drew w122.drew := Fr.refl _ _
    refine qqM rfl rfl hS126 (qqM rfl rfl hS126 (hvH rfl (fun _ _ => xeqN if89 rfl) hS126 (qqA rfl rfl hS126 (qqA rfl rfl hS126 (hendH (fg [(6, _), (7, _)] ⟨rfl, rfl, ⟨⟩⟩ fun _ => (wp_ret ?_)))))))
    refine rp2 rfl rfl rfl ?_
    have ei : i = 3 := by omega
    subst ei
    have eN : 12 + (packA (some []) m).1.length + (LLs (some []) m 3).1.length = (packM (some []) m).length := by rw [← LLs_all]; simp only [List.length_append, headL_len]; omega
    rw [eN] at hR ⊢
    exact ⟨_, _, gi, rfl, br_cast hR (by rw [← LLs_all, headL_hdrL]; rfl) rfl, hf, by omega, by omega⟩
end Go.Proofs.YtifnodoffgfpbaaGreatDoor

namespace Go.Proofs.YtifnodoffgfpbaaGreatDoor
open Go

set_option maxHeartbeats 4000000 in
set_option maxRecDepth 100000 in
theorem c11 {w : World} {U : Nat → Prop} (hU : ∀ k, U k → k < w.heap.size) {m : MsgD} {va v1 v2 v3 : Value} (ha : LA AskEl lAsk U w va m.asks) (y1 : LA RecEl lRec U w v1 m.one) (y2 : LA RecEl lRec U w v2 m.two) (y3 : LA RecEl lRec U w v3 m.three) (hm : m.fits) (hG : GB w) (hsz : 5 ≤ w.heap.size)  :
  Ret PP 11 [ag (msgSegs m.head va v1 v2 v3)] w (fun u w' => u = .bool true ∧ Fr0 w w') := by
 obtain ⟨aa, ca, rfl⟩ := ha.form
 obtain ⟨a1, c1, rfl⟩ := y1.form
 obtain ⟨a2, c2, rfl⟩ := y2.form
 obtain ⟨a3, c3, rfl⟩ := y3.form
 have hfl := hm.lists
 have hf : Fr (fun _ => False) w w := Fr.refl _ _
 refine ret_of Tryz.func11 rfl rfl rfl [(0, _)] rfl ?_
 refine sreg ?_
 refine svK (xboxS (lens := lMsg) rfl rfl) ?_
 rintro _ w2 ⟨b1, rfl, m3, h1, e1, s1⟩
 have ha := ha.keep ask_st (lU hU (by omega)) m3 nF
 have y1 := y1.keep rec_st (lU hU (by omega)) m3 nF
 have y2 := y2.keep rec_st (lU hU (by omega)) m3 nF
 have y3 := y3.keep rec_st (lU hU (by omega)) m3 nF
 have hG := hG.keep (fun k hk => by omega) m3 nF
 have hf := hf.step0 m3
 refine sA rfl (send (fg [(1, _)] ⟨rfl, ⟨⟩⟩ fun _ => (wp_seq (sreg (sv (xldS (lens := lMsg) ro28 rfl h1.r) ?_)))))
 refine sc (xcall ca12 rfl) (c12 (lU hU (by omega)) ha y1 y2 y3 hm) ?_
 rintro _ w4 ⟨rfl, m5⟩
 have z6 := m5.size
 have ha := ha.keep ask_st (lU hU (by omega)) m5 nF
 have y1 := y1.keep rec_st (lU hU (by omega)) m5 nF
 have y2 := y2.keep rec_st (lU hU (by omega)) m5 nF
 have y3 := y3.keep rec_st (lU hU (by omega)) m5 nF
 have hG := hG.keep (fun k hk => by omega) m5 nF
 have hf := hf.step0 m5
 have h1 := h1.keep m5 id
 refine sv (xnot rfl) (send (fg [(1, _), (10, _)] ⟨rfl, rfl, ⟨⟩⟩ fun _ => (cno rfl (wp_skip (nThen (fg [(1, _)] ⟨rfl, ⟨⟩⟩ fun _ => (sreg (sv (xldS (lens := lMsg) ro28 rfl h1.r) ?_))))))))
 refine sc (xcall ca13 rfl) (c13 (U := U) (lU hU (by omega)) ha y1 y2 y3 hm.2.1 hfl.2 hfl.1 hm.1) ?_
 rintro _ w7 ⟨vc, vc1, vc2, vc3, rfl, ka, z1, z2, z3, m8⟩
 have z9 := m8.size
 have ha := ha.keep ask_st (lU hU (by omega)) m8 nF
 have y1 := y1.keep rec_st (lU hU (by omega)) m8 nF
 have y2 := y2.keep rec_st (lU hU (by omega)) m8 nF
 have y3 := y3.keep rec_st (lU hU (by omega)) m8 nF
 have hG := hG.keep (fun k hk => by omega) m8 nF
 have hf := hf.step0 m8
 have h1 := h1.keep m8 id
 obtain ⟨ac, cc, rfl⟩ := ka.form
 obtain ⟨ac1, cc1, rfl⟩ := z1.form
 obtain ⟨ac2, cc2, rfl⟩ := z2.form
 obtain ⟨ac3, cc3, rfl⟩ := z3.form
 refine svK (xallS (lens := lMsg) in34 rfl) ?_
 rintro _ w11 ⟨b3, rfl, m12, h3, e10, s10⟩
 have ha := ha.keep ask_st (lU hU (by omega)) m12 nF
 have y1 := y1.keep rec_st (lU hU (by omega)) m12 nF
 have y2 := y2.keep rec_st (lU hU (by omega)) m12 nF
 have y3 := y3.keep rec_st (lU hU (by omega)) m12 nF
 have hG := hG.keep (fun k hk => by omega) m12 nF
 have hf := hf.step0 m12
 have h1 := h1.keep m12 id
 have ka := ka.keep ask_st (lUb hU (by omega) (by omega)) m12 nF
 have z1 := z1.keep rec_st (lUb hU (by omega) (by omega)) m12 nF
 have z2 := z2.keep rec_st (lUb hU (by omega) (by omega)) m12 nF
 have z3 := z3.keep rec_st (lUb hU (by omega) (by omega)) m12 nF
 refine suK (xstW h3 (lens' := lMsg) sz34 rfl rfl rfl rfl rfl) ?_
 rintro w14 ⟨m15, h3, s13⟩
 have ha := ha.keep ask_st (lU hU (by omega)) m15 (fun k hk hS => by have hk := hU k hk; have hS : k = b3 := hS; omega)
 have y1 := y1.keep rec_st (lU hU (by omega)) m15 (fun k hk hS => by have hk := hU k hk; have hS : k = b3 := hS; omega)
 have y2 := y2.keep rec_st (lU hU (by omega)) m15 (fun k hk hS => by have hk := hU k hk; have hS : k = b3 := hS; omega)
 have y3 := y3.keep rec_st (lU hU (by omega)) m15 (fun k hk hS => by have hk := hU k hk; have hS : k = b3 := hS; omega)
 have hG := hG.keep (fun k hk => by omega) m15 (fun k hk hS => by have hk := hk; have hS : k = b3 := hS; omega)
 have hf := hf.step m15 (fun k hk hS => by have hS : k = b3 := hS; show False; omega)
 have h1 := h1.keep m15 (by show ¬ (b1 = b3); omega)
 have ka := ka.keep ask_st (lUb hU (by omega) (by omega)) m15 (fun k hk hS => by have hk := Ub.num hU hk; have hS : k = b3 := hS; omega)
 have z1 := z1.keep rec_st (lUb hU (by omega) (by omega)) m15 (fun k hk hS => by have hk := Ub.num hU hk; have hS : k = b3 := hS; omega)
 have z2 := z2.keep rec_st (lUb hU (by omega) (by omega)) m15 (fun k hk hS => by have hk := Ub.num hU hk; have hS : k = b3 := hS; omega)
 have z3 := z3.keep rec_st (lUb hU (by omega) (by omega)) m15 (fun k hk hS => by have hk := Ub.num hU hk; have hS : k = b3 := hS; omega)
 refine send (fg [(1, _), (3, _)] ⟨rfl, rfl, ⟨⟩⟩ fun _ => (wp_seq (sreg (sv (xldS (lens := lMsg) ro34 rfl h3.r) ?_))))
 refine sc (xcall ca14 rfl) (c14 (lUb hU (by omega) (by omega)) ka z1 z2 z3 hm.2.1 hfl.2 hfl.1 hm.1) ?_
 rintro _ w16 ⟨gb14, rfl, gp14, m17⟩
 have z18 := m17.size
 have ha := ha.keep ask_st (lU hU (by omega)) m17 nF
 have y1 := y1.keep rec_st (lU hU (by omega)) m17 nF
 have y2 := y2.keep rec_st (lU hU (by omega)) m17 nF
 have y3 := y3.keep rec_st (lU hU (by omega)) m17 nF
 have hG := hG.keep (fun k hk => by omega) m17 nF
 have hf := hf.step0 m17
 have h1 := h1.keep m17 id
 have ka := ka.keep ask_st (lUb hU (by omega) (by omega)) m17 nF
 have z1 := z1.keep rec_st (lUb hU (by omega) (by omega)) m17 nF
 have z2 := z2.keep rec_st (lUb hU (by omega) (by omega)) m17 nF
 have z3 := z3.keep rec_st (lUb hU (by omega) (by omega)) m17 nF
 have h3 := h3.keep m17 id
 rcases Bool.eq_false_or_eq_true gb14 with rfl | rfl
 ·
  have hfew := gp14 rfl
  obtain ⟨hna, hpk, hcn, hho⟩ := few_pack hfew
  have hpm := packM_ge (some []) m
  have hpM := packM_le hfew
  refine sv (xnot rfl) (sM rfl (gyes rfl rfl rfl (sv (xldS (lens := lMsg) ro34 rfl h3.r) (gyes rfl rfl rfl ?_))))
  refine sc (xcall ca15 rfl) (c15 (lUb hU (by omega) (by omega)) ka z1 z2 z3 hm.2.1 hm.1 hfl.2 hfl.1) ?_
  rintro _ w19 ⟨gb18, rfl, gp18, m20⟩
  have z21 := m20.size
  have ha := ha.keep ask_st (lU hU (by omega)) m20 nF
  have y1 := y1.keep rec_st (lU hU (by omega)) m20 nF
  have y2 := y2.keep rec_st (lU hU (by omega)) m20 nF
  have y3 := y3.keep rec_st (lU hU (by omega)) m20 nF
  have hG := hG.keep (fun k hk => by omega) m20 nF
  have hf := hf.step0 m20
  have h1 := h1.keep m20 id
  have ka := ka.keep ask_st (lUb hU (by omega) (by omega)) m20 nF
  have z1 := z1.keep rec_st (lUb hU (by omega) (by omega)) m20 nF
  have z2 := z2.keep rec_st (lUb hU (by omega) (by omega)) m20 nF
  have z3 := z3.keep rec_st (lUb hU (by omega) (by omega)) m20 nF
  have h3 := h3.keep m20 id
  rcases Bool.eq_false_or_eq_true gb18 with rfl | rfl
  ·
   refine gyes rfl rfl rfl (sv (xnot rfl) (sv (xpickF rfl rfl) (sM rfl (gyes rfl rfl rfl (sv (xldS (lens := lMsg) ro34 rfl h3.r) (gyes rfl rfl rfl ?_))))))
   refine sc (xcall ca16 rfl) (c16 (lUb hU (by omega) (by omega)) ka z1 z2 z3 hfl.2 hfl.1) ?_
   rintro _ w22 ⟨gb23, rfl, gp23, m23⟩
   have z24 := m23.size
   have ha := ha.keep ask_st (lU hU (by omega)) m23 nF
   have y1 := y1.keep rec_st (lU hU (by omega)) m23 nF
   have y2 := y2.keep rec_st (lU hU (by omega)) m23 nF
   have y3 := y3.keep rec_st (lU hU (by omega)) m23 nF
   have hG := hG.keep (fun k hk => by omega) m23 nF
   have hf := hf.step0 m23
   have h1 := h1.keep m23 id
   have ka := ka.keep ask_st (lUb hU (by omega) (by omega)) m23 nF
   have z1 := z1.keep rec_st (lUb hU (by omega) (by omega)) m23 nF
   have z2 := z2.keep rec_st (lUb hU (by omega) (by omega)) m23 nF
   have z3 := z3.keep rec_st (lUb hU (by omega) (by omega)) m23 nF
   have h3 := h3.keep m23 id
   rcases Bool.eq_false_or_eq_true gb23 with rfl | rfl
   ·
    have hpl := gp23 rfl
    have hrok : ∀ l ∈ [m.one, m.two, m.three], ∀ r ∈ l, ReadOk r := fun l hl r hr => readOk_of (hpk l hl r hr) (hpl l hl r hr)
    refine gyes rfl rfl rfl (sv (xnot rfl) (sv (xpickF rfl rfl) (send (fg [(1, _), (3, _), (25, _)] ⟨rfl, rfl, rfl, ⟨⟩⟩ fun _ => (cno rfl (wp_skip (nThen (fg [(1, _), (3, _)] ⟨rfl, rfl, ⟨⟩⟩ fun _ => ?_))))))))
    have hmL := msgL_le hfew
    have hsh := packM_short (few_names hfew).1 []
    refine sreg (sv (xldS (lens := lMsg) ro28 rfl h1.r) ?_)
    refine sc (xcall ca30 rfl) (c30t (lU hU (by omega)) ha y1 y2 y3 hna hpk hcn hG (by omega)) ?_
    rintro _ w25 ⟨p28, q28, g28, rfl, r28, m26, a28, l28⟩
    have z27 := m26.size
    have hf := hf.step0 m26
    have ka := ka.keep ask_st (lUb hU (by omega) (by omega)) m26 nF
    have z1 := z1.keep rec_st (lUb hU (by omega) (by omega)) m26 nF
    have z2 := z2.keep rec_st (lUb hU (by omega) (by omega)) m26 nF
    have z3 := z3.keep rec_st (lUb hU (by omega) (by omega)) m26 nF
    have h3 := h3.keep m26 id
    obtain ⟨x28, y28, hx28, hcap28, -, hsome28, -⟩ := Rw.form r28
    simp only [Value.slice.injEq] at hx28
    obtain ⟨rfl, -, rfl⟩ := hx28
    obtain rfl := hsome28 (by omega)
    refine sM rfl (sv (xex20 rfl) (sv (xex21 rfl) (sA rfl (sA rfl (send (fg [(3, _), (4, _), (5, _)] ⟨rfl, rfl, rfl, ⟨⟩⟩ fun _ => (sreg (sM rfl ?_))))))))
    refine sc (xcall ca18 rfl) (c18 (Kp := fun _ => True) (m := m) (b := packM (some []) m) (Rw.rng r28) (by omega) hcap28 (by omega) (packM_at (few_names hfew).1 (few_names hfew).2 (kmsg_all m)) hho hcn hna (hrok _ (by simp)) (hrok _ (by simp)) (hrok _ (by simp))) ?_
    rintro _ w28 ⟨l1, l2, l3, ua, u1, u2, u3, rfl, ja, ⟨j1, jl1⟩, ⟨j2, jl2⟩, ⟨j3, jl3⟩, m29⟩
    have z30 := m29.size
    have hf := hf.step0 m29
    have ka := ka.keep ask_st (lUb hU (by omega) (by omega)) m29 nF
    have z1 := z1.keep rec_st (lUb hU (by omega) (by omega)) m29 nF
    have z2 := z2.keep rec_st (lUb hU (by omega) (by omega)) m29 nF
    have z3 := z3.keep rec_st (lUb hU (by omega) (by omega)) m29 nF
    have h3 := h3.keep m29 id
    obtain ⟨ad, cd, rfl⟩ := ja.form
    obtain ⟨ad1, cd1, rfl⟩ := j1.form
    obtain ⟨ad2, cd2, rfl⟩ := j2.form
    obtain ⟨ad3, cd3, rfl⟩ := j3.form
    refine sM rfl (sv (xex20 rfl) (sv (xex21 rfl) ?_))
    refine svK (xallS (lens := lMsg) in34 rfl) ?_
    rintro _ w32 ⟨b6, rfl, m33, h6, e31, s31⟩
    have hf := hf.step0 m33
    have ka := ka.keep ask_st (lUb hU (by omega) (by omega)) m33 nF
    have z1 := z1.keep rec_st (lUb hU (by omega) (by omega)) m33 nF
    have z2 := z2.keep rec_st (lUb hU (by omega) (by omega)) m33 nF
    have z3 := z3.keep rec_st (lUb hU (by omega) (by omega)) m33 nF
    have h3 := h3.keep m33 id
    have ja := ja.keep ask_st (lNo (by omega)) m33 nF
    have j1 := j1.keep rec_st (lNo (by omega)) m33 nF
    have j2 := j2.keep rec_st (lNo (by omega)) m33 nF
    have j3 := j3.keep rec_st (lNo (by omega)) m33 nF
    refine suK (xstW h6 (lens' := lMsg) sz34 rfl rfl rfl rfl rfl) ?_
    rintro w35 ⟨m36, h6, s34⟩
    have hf := hf.step m36 (fun k hk hS => by have hS : k = b6 := hS; show False; omega)
    have ka := ka.keep ask_st (lUb hU (by omega) (by omega)) m36 (fun k hk hS => by have hk := Ub.num hU hk; have hS : k = b6 := hS; omega)
    have z1 := z1.keep rec_st (lUb hU (by omega) (by omega)) m36 (fun k hk hS => by have hk := Ub.num hU hk; have hS : k = b6 := hS; omega)
    have z2 := z2.keep rec_st (lUb hU (by omega) (by omega)) m36 (fun k hk hS => by have hk := Ub.num hU hk; have hS : k = b6 := hS; omega)
    have z3 := z3.keep rec_st (lUb hU (by omega) (by omega)) m36 (fun k hk hS => by have hk := Ub.num hU hk; have hS : k = b6 := hS; omega)
    have h3 := h3.keep m36 (by show ¬ (b3 = b6); omega)
    have ja := ja.keep ask_st (lNo (by omega)) m36 (fun k hk hS => by have hk := Ub.num (U := NoU) (n := 0) (fun _ h => h.elim) hk; have hS : k = b6 := hS; omega)
    have j1 := j1.keep rec_st (lNo (by omega)) m36 (fun k hk hS => by have hk := Ub.num (U := NoU) (n := 0) (fun _ h => h.elim) hk; have hS : k = b6 := hS; omega)
    have j2 := j2.keep rec_st (lNo (by omega)) m36 (fun k hk hS => by have hk := Ub.num (U := NoU) (n := 0) (fun _ h => h.elim) hk; have hS : k = b6 := hS; omega)
    have j3 := j3.keep rec_st (lNo (by omega)) m36 (fun k hk hS => by have hk := Ub.num (U := NoU) (n := 0) (fun _ h => h.elim) hk; have hS : k = b6 := hS; omega)
    refine sA rfl (send (fg [(3, _), (4, _), (5, _), (6, _), (7, _)] ⟨rfl, rfl, rfl, rfl, rfl, ⟨⟩⟩ fun _ => ?_))
    refine sdrawH (Fr (fun _ => False) w35.drew) [(0, .rd), (1, .rd), (2, .rd), (3, .rd), (4, .rd), (5, .rd), (7, .rd), (6, .ld), (8, .ld), (9, .ld), (10, .rd), (11, .rd), (12, .rd), (13, .rd), (14, .rd), (15, .ld), (16, .rd), (17, .rd), (18, .rd), (19, .rd)] mixed (by kernel_rfl) (fun _ _ _ _ _ h => h) ?_
    have z37 : w35.drew.heap.size = w35.heap.size := rfl
    have hf := hf.drew
    have ka := ka.keep ask_st (lUb hU (by omega) (by omega)) (fd w35) nF
    have z1 := z1.keep rec_st (lUb hU (by omega) (by omega)) (fd w35) nF
    have z2 := z2.keep rec_st (lUb hU (by omega) (by omega)) (fd w35) nF
    have z3 := z3.keep rec_st (lUb hU (by omega) (by omega)) (fd w35) nF
    have h3 := h3.drew
    have ja := ja.keep ask_st (lNo (by omega)) (fd w35) nF
    have j1 := j1.keep rec_st (lNo (by omega)) (fd w35) nF
    have j2 := j2.keep rec_st (lNo (by omega)) (fd w35) nF
    have j3 := j3.keep rec_st (lNo (by omega)) (fd w35) nF
    have h6 := h6.drew
    have zb_h3 := h3
    have zb_h6 := h6
    have hS38 : Fr (fun _ => False) w35.drew w35.drew := Fr.refl _ _
    refine qqM rfl rfl hS38 (qqM rfl rfl hS38 (hvgH rfl rfl rfl (fun _ _ => xmove rfl) hS38 (hvH rfl (fun _ _ => xpickT rfl rfl) hS38 (qqM rfl rfl hS38 (hvgH rfl rfl rfl (fun w' hS => xldS (lens := lMsg) ro34 rfl (zb_h6.keep hS id).r) hS38 (hvgH rfl rfl rfl (fun w' hS => xldS (lens := lMsg) ro34 rfl (zb_h3.keep hS id).r) hS38 ?_))))))
    refine hcgH rfl rfl rfl (xcall ca20 rfl) (c20b (lNo (by omega)) hm hfew ja j1 j2 j3 jl1 jl2 jl3) ?_
    rintro _ w39 ⟨p42, q42, g42, rfl, r42, m40, a42, l42⟩
    have z41 := m40.size
    have hf := hf.step0 m40
    have ka := ka.keep ask_st (lUb hU (by omega) (by omega)) m40 nF
    have z1 := z1.keep rec_st (lUb hU (by omega) (by omega)) m40 nF
    have z2 := z2.keep rec_st (lUb hU (by omega) (by omega)) m40 nF
    have z3 := z3.keep rec_st (lUb hU (by omega) (by omega)) m40 nF
    have hS42 := hS38.step0 m40
    refine ⟨hS42, ?_⟩
    refine hcgH rfl rfl rfl (xcall ca20 rfl) (c20f (lUb hU (by omega) (by omega)) hm hfew ka z1 z2 z3) ?_
    rintro _ w43 ⟨p44, q44, g44, rfl, r44, m44, a44, l44⟩
    have z45 := m44.size
    have hf := hf.step0 m44
    have ka := ka.keep ask_st (lUb hU (by omega) (by omega)) m44 nF
    have z1 := z1.keep rec_st (lUb hU (by omega) (by omega)) m44 nF
    have z2 := z2.keep rec_st (lUb hU (by omega) (by omega)) m44 nF
    have z3 := z3.keep rec_st (lUb hU (by omega) (by omega)) m44 nF
    have r42 := r42.keep m44 id
    have hS46 := hS42.step0 m44
    refine ⟨hS46, ?_⟩
    refine hcgH rfl rfl rfl (xcall ca19 rfl) (c19_eq (BR.ba (U := fun k => k = g42) r42 rfl) (BR.ba (U := fun k => k = g44) r44 rfl)) ?_
    rintro _ w47 ⟨rfl, m48⟩
    have z49 := m48.size
    have hf := hf.step0 m48
    have ka := ka.keep ask_st (lUb hU (by omega) (by omega)) m48 nF
    have z1 := z1.keep rec_st (lUb hU (by omega) (by omega)) m48 nF
    have z2 := z2.keep rec_st (lUb hU (by omega) (by omega)) m48 nF
    have z3 := z3.keep rec_st (lUb hU (by omega) (by omega)) m48 nF
    have hS50 := hS46.step0 m48
    refine ⟨hS50, ?_⟩
    refine hvH rfl (fun _ _ => xpickT rfl rfl) hS50 (qqM rfl rfl hS50 (hvgH rfl rfl rfl (fun _ _ => xmove rfl) hS50 (hvgH rfl rfl rfl (fun _ _ => xlen sl37 rfl) hS50 (hvgH rfl rfl rfl (fun w' hS => xldS (lens := lMsg) ro34 rfl (zb_h3.keep hS id).r) hS50 ?_))))
    refine hcgH rfl rfl rfl (xcall ca20 rfl) (c20f (lUb hU (by omega) (by omega)) hm hfew ka z1 z2 z3) ?_
    rintro _ w51 ⟨p51, q51, g51, rfl, r51, m52, a51, l51⟩
    have z53 := m52.size
    have hf := hf.step0 m52
    have hS54 := hS50.step0 m52
    refine ⟨hS54, ?_⟩
    refine hvgH rfl rfl rfl (fun _ _ => xlen sl37 rfl) hS54 (hvgH rfl rfl rfl (fun _ _ => exT (xleq rfl rfl) (by omega)) hS54 (hvH rfl (fun _ _ => xpickT rfl rfl) hS54 (qqA rfl rfl hS54 (hendH (fg [(2, _)] ⟨rfl, ⟨⟩⟩ fun _ => (wp_ret ?_))))))
    refine rp1 rfl rfl ?_
    first | exact ⟨rfl, hf⟩ | exact ⟨by simp, hf⟩
   ·
    refine gyes rfl rfl rfl (sv (xnot rfl) (sv (xpickF rfl rfl) (send (fg [(1, _), (3, _), (25, _)] ⟨rfl, rfl, rfl, ⟨⟩⟩ fun _ => (cyes rfl (sreg (sA rfl (send (fg [(2, _)] ⟨rfl, ⟨⟩⟩ fun _ => (wp_ret (rThen ?_)))))))))))
    refine rp1 rfl rfl ?_
    first | exact ⟨rfl, hf⟩ | exact ⟨by simp, hf⟩
  ·
   refine gyes rfl rfl rfl (sv (xnot rfl) (sv (xpickF rfl rfl) (sM rfl (gno rfl rfl rfl (gno rfl rfl rfl (gno rfl rfl rfl (sv (xpickT rfl rfl) (send (fg [(1, _), (3, _), (25, _)] ⟨rfl, rfl, rfl, ⟨⟩⟩ fun _ => (cyes rfl (sreg (sA rfl (send (fg [(2, _)] ⟨rfl, ⟨⟩⟩ fun _ => (wp_ret (rThen ?_))))))))))))))))
   refine rp1 rfl rfl ?_
   first | exact ⟨rfl, hf⟩ | exact ⟨by simp, hf⟩
 ·
  refine sv (xnot rfl) (sM rfl (gno rfl rfl rfl (gno rfl rfl rfl (gno rfl rfl rfl (sv (xpickT rfl rfl) (sM rfl (gno rfl rfl rfl (gno rfl rfl rfl (gno rfl rfl rfl (sv (xpickT rfl rfl) (send (fg [(1, _), (3, _), (25, _)] ⟨rfl, rfl, rfl, ⟨⟩⟩ fun _ => (cyes rfl (sreg (sA rfl (send (fg [(2, _)] ⟨rfl, ⟨⟩⟩ fun _ => (wp_ret (rThen ?_)))))))))))))))))))
  refine rp1 rfl rfl ?_
  first | exact ⟨rfl, hf⟩ | exact ⟨by simp, hf⟩
end Go.Proofs.YtifnodoffgfpbaaGreatDoor

namespace Go.Proofs.YtifnodoffgfpbaaGreatDoor
open Go Go.ChangeShapes Go.WideShapes

section
variable {P : Program}
def VarR (P : Program) (W : World) (n : String) (d : DataW Unit) : Prop :=
  ∃ g t cs fuel p, P.globalNamed n = some g ∧ (P.globals[g]?).map (·.type) = some t ∧ W.var? P n = some cs ∧ DataW.trod (fun _ => ()) P W 0 (fun _ => true) false fuel t cs.toList = some (d, p) ∧
    ∀ i u v, i < cs.size → W.cell? ⟨g, i, none⟩ = some (.iface u v) → Value.okWide P W .any 0 u v
theorem mem_row (g n i : Nat) (hi : i < n) : MemPlace.cell g i ∈ MemPlace.row ⟨g, 0, none⟩ n := by
  simp only [MemPlace.row]
  exact List.mem_map.2 ⟨i, List.mem_range.2 hi, by rw [Nat.zero_add]⟩
theorem laid_reads {W : World} : ∀ {l : List (String × DataW Unit)} {ps : List MemPlace}, DataW.LaidVars P W l ps → (∀ b off, MemPlace.cell b off ∈ ps → ∀ u v, W.cell? ⟨b, off, none⟩ = some (.iface u v) → Value.okWide P W .any 0 u v) → ∀ n d, (n, d) ∈ l → VarR P W n d
  | [], _, _, _, _, _, hm => by cases hm
  | (n', d') :: r, ps, h, hw, n, d, hm => by
    obtain ⟨g, t, cs, fuel, p, q, h1, h2, h3, h4, h5, rfl⟩ := h
    rcases List.mem_cons.1 hm with e | e
    · cases e
      exact ⟨g, t, cs, fuel, p, h1, h2, h3, h4, fun i u v hi hc => hw g i (List.mem_append_left _ (List.mem_append_left _ (mem_row g cs.size i hi))) u v hc⟩
    · exact laid_reads h5 (fun b off hb => hw b off (List.mem_append_right _ hb)) n d e
theorem laid_var {W : World} {l : List (String × DataW Unit)} (h : laidMet P l W) {n : String} {d : DataW Unit} (hm : (n, d) ∈ l) : VarR P W n d := by
  obtain ⟨ps, hv, _, hw⟩ := h
  exact laid_reads hv (fun b off hb => (hw b off hb).2) n d hm
theorem trod_if {W : World} {fuel : Nat} {t : TypeId} {cs : List Value} {nm : String} {d : DataW Unit} {p : List MemPlace} (ht : ifcB P t = true) (h : DataW.trod (fun _ => ()) P W 0 (fun _ => true) false fuel t cs = some (.iface nm d, p)) :
    ∃ u v n q, cs = [.iface u v] ∧ P.typeName? 3 u = some nm ∧ DataW.trod (fun _ => ()) P W 0 (fun _ => true) false n u v.cells.toList = some (d, q) := by
  cases fuel with
  | zero => simp [DataW.trod] at h
  | succ n =>
    have hu := ifcB_spec ht
    unfold DataW.trod at h
    rw [hu] at h
    match cs, h with
    | [.nilIface], h => simp at h
    | [.iface u v], h =>
      simp only [] at h
      cases hn : P.typeName? 3 u with
      | none => rw [hn] at h; simp at h
      | some name =>
        rw [hn] at h
        simp only [Option.map_eq_some_iff, Prod.mk.injEq, DataW.iface.injEq] at h
        obtain ⟨x, hx, ⟨h1, h2⟩, _⟩ := h
        exact ⟨u, v, n, x.2, rfl, by rw [hn, h1], by rw [hx, ← h2]⟩
theorem trod_ptr {W : World} {fuel : Nat} {t : TypeId} {cs : List Value} {d : DataW Unit} {p : List MemPlace} (h : DataW.trod (fun _ => ()) P W 0 (fun _ => true) false fuel t cs = some (.ptr d, p)) : ∃ e, P.underlying t = some (.pointer e) := by
  cases fuel with
  | zero => simp [DataW.trod] at h
  | succ n =>
    unfold DataW.trod at h
    split at h
    all_goals first
      | exact ⟨_, by assumption⟩
      | (exfalso; revert h; repeat' split
         all_goals (intro h; simp [Option.bind_eq_some_iff, Option.map_eq_some_iff] at h))
theorem err_ofP {ET : TypeId} (hif : ifcB P ET = true)
    {W : World} {l : List (String × DataW Unit)} (h : laidMet P l W) {n : String} {g : Nat} {d : DataW Unit} (hm : (n, .iface "*errors.errorString" (.ptr d)) ∈ l) (hg : P.globalNamed n = some g) (ht : (P.globals[g]?).map (·.type) = some ET) :
    ∃ u e x, W.cell? ⟨g, 0, none⟩ = some (.iface u (.pointer x)) ∧ P.typeName? 3 u = some "*errors.errorString" ∧ P.underlying u = some (.pointer e) := by
  obtain ⟨g', t, cs, fuel, p, h1, h2, h3, h4, h5⟩ := laid_var h hm
  obtain rfl : g = g' := Option.some.inj (hg.symm.trans h1)
  obtain rfl : ET = t := Option.some.inj (ht.symm.trans h2)
  obtain ⟨u, v, fu, q, hcs, hu, hv⟩ := trod_if hif h4
  have hc : W.cell? ⟨g, 0, none⟩ = some (.iface u v) := by
    rw [World.var?_cell h1 h3 0]
    have : cs.toList[0]? = some (.iface u v) := by rw [hcs]; rfl
    simpa using this
  have hsz : 0 < cs.size := by
    have : cs.toList.length = 1 := by rw [hcs]; rfl
    simp at this; omega
  have hw := h5 0 u v hsz hc
  obtain ⟨e, he⟩ := trod_ptr hv
  obtain ⟨x, rfl⟩ := okWide_pointer he hw
  exact ⟨u, e, x, hc, hu, he⟩
end
theorem cell_lt {w : World} {k : Nat} {v : Value} (h : w.cell? ⟨k, 0, none⟩ = some v) : k < w.heap.size := by
  rcases Nat.lt_or_ge k w.heap.size with h' | h'
  · exact h'
  · simp [World.cell?, Array.getElem?_eq_none h'] at h
theorem tn166 : PP.typeName? 3 166 = some "*loop.example/pub-messagesmixed/pub/dnsmessage.nestedError" := by kernel_rfl
/-- what an error variable holds -/
def ErrV (v : Value) : Prop := ∃ u e x, v = .iface u (.pointer x) ∧ u ≠ 166 ∧ PP.underlying u = some (.pointer e)
/-- AN ERROR VARIABLE -/
theorem err_of {W : World} {l : List (String × DataW Unit)} (h : laidMet PP l W) {n : String} {g : Nat} {d : DataW Unit} (hm : (n, .iface "*errors.errorString" (.ptr d)) ∈ l) (hg : PP.globalNamed n = some g) (ht : (PP.globals[g]?).map (·.type) = some 89) :
    ∃ v, W.cell? ⟨g, 0, none⟩ = some v ∧ ErrV v := by
  obtain ⟨u, e, x, hc, hu, he⟩ := err_ofP if89 h hm hg ht
  refine ⟨_, hc, u, e, x, rfl, ?_, he⟩
  intro h166
  rw [h166, tn166] at hu
  exact absurd (Option.some.inj hu) (by decide)
end Go.Proofs.YtifnodoffgfpbaaGreatDoor
