/- Part 6 of the texts for a law of this seat: walks, and plain laws about messages; conditions: none. -/
import Derived.Test.YtifnodoffgfpbaaGreatDoorPa5
set_option maxHeartbeats 4000000
set_option maxRecDepth 100000
namespace Go.Proofs.YtifnodoffgfpbaaGreatDoor
open Go

section
variable {α : Type} {El : (Nat → Prop) → World → List (List Value) → α → Prop} {lens : List Nat} {U : Nat → Prop} {w : World} {v : Value} {g E k n0 n1 nb b : Nat} {l : List α}
theorem RA.pick (h : RA El lens U w v g E k l) (hg : (v = .slice none 0 0 ∧ l = [] ∧ k = 0 ∧ g = b) ∨ (n0 ≤ g ∧ g < n1)) : ∃ g', RA El lens U w v g' E k l ∧ ((g' = w.heap.size ∧ k = 0) ∨ (g' = g ∧ n0 ≤ g ∧ g < n1)) := by
  rcases hg with ⟨rfl, rfl, rfl, -⟩ | hg
  · exact ⟨_, RA.nil _ _ _ _, .inl ⟨rfl, rfl⟩⟩
  · exact ⟨g, h, .inr ⟨rfl, hg⟩⟩
theorem RX.pick {m0 : Nat} (h : RX El lens U m0 nb w v g E k l) (hg : (v = .slice none 0 0 ∧ l = [] ∧ k = 0 ∧ g = b) ∨ (n0 ≤ g ∧ g < n1)) : ∃ g', RX El lens U m0 nb w v g' E k l ∧ ((g' = w.heap.size ∧ k = 0) ∨ (g' = g ∧ n0 ≤ g ∧ g < n1)) := by
  rcases hg with ⟨rfl, rfl, rfl, -⟩ | hg
  · exact ⟨_, RX.ofNil (Rw.nil _ _ _ _), .inl ⟨rfl, rfl⟩⟩
  · exact ⟨g, h, .inr ⟨rfl, hg⟩⟩
end
theorem LA.src {U : Nat → Prop} {w : World} {v : Value} {a : AskD} {T E : TypeId} (h : LA AskEl lAsk U w v [a]) (hT : slcB PP T E = true) : Src PP 3 T v 1 (askSegs a).flatten w := by
  obtain ⟨a', c, rfl, h⟩ := h
  obtain ⟨b, o, rfl, _, hr⟩ := h (by simp)
  obtain ⟨segs, hs, rfl⟩ := hr 0 a rfl
  have := hs.1
  rw [Nat.zero_mul, Nat.add_zero] at this
  exact src_rng hT rfl this rfl
theorem q_one {w : World} {v : Value} {g : Nat} {a : AskD} (h : Rw w v g 86 258 1 (questSegs a).flatten) : LA QEl lQ (fun k => k = g) w v [a] :=
  RA.la (U := NoU) ⟨[questSegs a], by simpa using h, All2.cons ⟨by simp [questSegs, nm_length], rfl⟩ All2.nil⟩ (by decide) q_gr (fun _ h => h.elim) rfl

theorem c158p {w : World} {bp : Nat} {vm : Value} {y0 y1 y2 y3 y4 y5 sec po idx ho ty ln : Int} {q : Int} (hP : SB w bp lPr (prSegs vm y0 y1 y2 y3 y4 y5 sec po idx false ho ty ln)) {Tz : TypeId} {xz : Option Addr} (hg0 : w.rangeAt 0 0 [.iface Tz (.pointer xz)]) (hG : GE w) (hsz : 21 ≤ w.heap.size) (hgp : 20 < bp) (hs0 : 0 ≤ q) (hq0 : 0 ≤ cntI q y2 y3 y4 y5) (hq1 : cntI q y2 y3 y4 y5 < 65536) (hlt : q < sec) (hs1 : sec ≤ 6)  :
  Ret PP 158 [.pointer (some ⟨bp, 0, none⟩), .int .u8 q] w (fun u w' => (u = .tuple #[ag ([nm [], [.int .u16 0], [.int .u16 0], [.int .u32 0], [.int .u16 0]]), .iface Tz (.pointer xz)] ∧ SB w' bp lPr (prSegs vm y0 y1 y2 y3 y4 y5 sec po idx false ho ty ln)) ∧ Fr (fun k => k = bp) w w') := by
 have hf : Fr (fun k => k = bp) w w := Fr.refl _ _
 have z_hP := hP.lt
 refine ret_of Tryz.func158 rfl rfl rfl [(0, _), (1, _)] rfl ?_
 refine sreg (svK (xallS (lens := [256, 1, 1, 1, 1]) in135 (by simp [nm_length])) ?_)
 rintro _ w2 ⟨b4, rfl, m3, h4, e1, s1⟩
 have hP := hP.k m3
 have hg0 := rng_fr hg0 m3 (by omega) id
 have hG := hG.k0 m3 (by omega)
 refine sA rfl (send ((wp_seq (sreg (sM rfl (sN rfl (sv (xfld fl124_5 rfl) (sv (xld on4 rfl (hP.r.c 10 rfl rfl)) (send ((cno rfl (wp_skip (nThen (fdg 0 1 4 rfl fun _ => wp_seq (sreg (sM rfl (sM rfl (sc (xcall ca104 rfl) (c104 (q := q) hP hg0 hG (by omega) hgp (by omega) (by omega) hq0 hq1) ?_))))))))))))))))))
 rintro _ w4 ⟨⟨h1, _⟩ | ⟨-, rfl, hP⟩ | ⟨h1, _⟩ | ⟨h1, _⟩, m5⟩
 · omega
 ·
  have z6 := m5.size
  have h4 := h4.keep m5 (nE (by omega))
  refine sA rfl (send ((sreg (sM rfl (sv (xneI if89 rfl) (send (feg 0 4 6 25 rfl fun _ => cyes rfl (sreg (sv (xbuildS [nm [], [.int .u16 0], [.int .u16 0], [.int .u32 0], [.int .u16 0]] zr135 ly135 rfl trivial (by simp [setAll, zs135])) (sM rfl (suK (xstW h4 (lens' := [256, 1, 1, 1, 1]) sz135 (by simp [nm_length]) rfl (by simp only [fC, fN, aA, aN, nm_one, bT] <;> rfl) rfl rfl) ?_)))))))))))
  rintro w8 ⟨m9, h4, s7⟩
  have hf := ((hf.s m3).step m5 nI).t m9 (by omega)
  have hP := hP.keep m9 (nE (by omega))
  refine sA rfl (send (fcg 4 5 rfl fun _ => wp_ret (rThen (rp2 rfl ⟨_, rfl, ldS (lens := [256, 1, 1, 1, 1]) ro135 h4.r⟩ rfl ?_))))
  exact ⟨⟨rfl, hP⟩, hf⟩
 · omega
 omega
theorem c108p {w : World} {bp : Nat} {vm : Value} {y0 y1 y2 y3 y4 y5 sec po idx ho ty ln : Int} {q : Int} (hP : SB w bp lPr (prSegs vm y0 y1 y2 y3 y4 y5 sec po idx false ho ty ln)) {Tz : TypeId} {xz : Option Addr} (hg0 : w.rangeAt 0 0 [.iface Tz (.pointer xz)]) (hG : GE w) (hsz : 21 ≤ w.heap.size) (hgp : 20 < bp) (hs0 : 0 ≤ q) (hq0 : 0 ≤ cntI q y2 y3 y4 y5) (hq1 : cntI q y2 y3 y4 y5 < 65536) (hlt : q < sec) (hs1 : sec ≤ 6)  :
  Ret PP 108 [.pointer (some ⟨bp, 0, none⟩), .int .u8 q] w (fun u w' => (u = .tuple #[ag ([nm [], [.int .u16 0], [.int .u16 0], [.int .u32 0], [.int .u16 0], [.nilIface]]), .iface Tz (.pointer xz)] ∧ SB w' bp lPr (prSegs vm y0 y1 y2 y3 y4 y5 sec po idx false ho ty ln)) ∧ Fr (fun k => k = bp) w w') := by
 have hf : Fr (fun k => k = bp) w w := Fr.refl _ _
 have z_hP := hP.lt
 refine ret_of Tryz.func108 rfl rfl rfl [(0, _), (1, _)] rfl ?_
 refine sreg (svK (xallS (lens := [256, 1, 1, 1, 1, 1]) in139 (by simp [nm_length])) ?_)
 rintro _ w2 ⟨b4, rfl, m3, h4, e1, s1⟩
 refine sA rfl (send (fdg 0 1 4 rfl fun _ => sreg (svK (xallS (lens := [256, 1, 1, 1, 1, 1]) in139 (by simp [nm_length])) ?_)))
 rintro _ w5 ⟨b6, rfl, m6, h6, e4, s4⟩
 have hP := (hP.k m3).k m6
 have hg0 := rng_fr (rng_fr hg0 m3 (by omega) id) m6 (by omega) id
 have hG := (hG.k0 m3 (by omega)).k0 m6 (by omega)
 refine send ((sreg (sA rfl (send (feg 0 1 4 6 rfl fun _ => sreg (sM rfl (sM rfl (sc (xcall ca158 rfl) (c158p (q := q) hP hg0 hG (by omega) hgp hs0 hq0 hq1 hlt hs1) ?_))))))))
 rintro _ w7 ⟨⟨rfl, hP⟩, m8⟩
 have z9 := m8.size
 have h6 := h6.keep m8 (nE (by omega))
 refine sM rfl (sE2 rfl (sv (xfld fl139_0 rfl) (suK (xstS 0 h6 (lens' := [256, 1, 1, 1, 1]) sz135 (by simp [nm_length]) rfl rfl (by simp only [fC, fN, aA, aN, nm_one, bT] <;> rfl) rfl rfl) ?_)))
 rintro w11 ⟨m12, h6, s10⟩
 have h4 := ((h4.k m6).keep m8 (nE (by omega))).keep m12 (nE (by omega))
 refine sA rfl (send ((wp_seq (sreg (sM rfl (sv (xneI if89 rfl) (send (fgg 0 1 4 6 7 16 rfl fun _ => cyes rfl (sreg (sv (xldS (lens := [256, 1, 1, 1, 1, 1]) ro139 rfl h6.r) (sM rfl (suK (xstW h4 (lens' := [256, 1, 1, 1, 1, 1]) sz139 (by simp [nm_length]) rfl (one6 _ _ _ _ _ _ rfl) rfl rfl) ?_))))))))))))
 rintro w14 ⟨m15, h4, s13⟩
 have hf := ((((hf.s m3).s m6).step m8 nI).t m12 (by omega)).t m15 (by omega)
 have hP := (hP.keep m12 (nE (by omega))).keep m15 (nE (by omega))
 refine sA rfl (send (fcg 4 5 rfl fun _ => wp_ret (rThen (rp2 rfl ⟨_, rfl, ldS (lens := [256, 1, 1, 1, 1, 1]) ro139 h4.r⟩ rfl ?_))))
 exact ⟨⟨rfl, hP⟩, hf⟩
theorem c61p {w : World} {bp : Nat} {vm : Value} {y0 y1 y2 y3 y4 y5 sec po idx ho ty ln : Int} (hP : SB w bp lPr (prSegs vm y0 y1 y2 y3 y4 y5 sec po idx false ho ty ln)) {Tz : TypeId} {xz : Option Addr} (hg0 : w.rangeAt 0 0 [.iface Tz (.pointer xz)]) (hG : GE w) (hsz : 21 ≤ w.heap.size) (hgp : 20 < bp) (hq0 : 0 ≤ cntI 3 y2 y3 y4 y5) (hq1 : cntI 3 y2 y3 y4 y5 < 65536) (hlt : 3 < sec) (hs1 : sec ≤ 6)  :
  Ret PP 61 [.pointer (some ⟨bp, 0, none⟩)] w (fun u w' => (u = .tuple #[ag ([nm [], [.int .u16 0], [.int .u16 0], [.int .u32 0], [.int .u16 0], [.nilIface]]), .iface Tz (.pointer xz)] ∧ SB w' bp lPr (prSegs vm y0 y1 y2 y3 y4 y5 sec po idx false ho ty ln)) ∧ Fr (fun k => k = bp) w w') := by
 have hf : Fr (fun k => k = bp) w w := Fr.refl _ _
 have z_hP := hP.lt
 refine ret_of Tryz.func61 rfl rfl rfl [(0, _)] rfl ?_
 refine sreg (svK (xallS (lens := [256, 1, 1, 1, 1, 1]) in139 (by simp [nm_length])) ?_)
 rintro _ w2 ⟨b2, rfl, m3, h2, e1, s1⟩
 have hP := hP.k m3
 have hg0 := rng_fr hg0 m3 (by omega) id
 have hG := hG.k0 m3 (by omega)
 refine sA rfl (send (fcg 0 2 rfl fun _ => sreg (sM rfl (sc (xcall ca108 rfl) (c108p (q := 3) hP hg0 hG (by omega) hgp (by decide) hq0 hq1 hlt hs1) ?_))))
 rintro _ w4 ⟨⟨rfl, hP⟩, m5⟩
 have z6 := m5.size
 have h2 := h2.keep m5 (nE (by omega))
 refine sE2 rfl (suK (xstW h2 (lens' := [256, 1, 1, 1, 1, 1]) sz139 (by simp [nm_length]) rfl (by simp only [fC, fN, aA, aN, nm_one, bT] <;> rfl) rfl rfl) ?_)
 rintro w8 ⟨m9, h2, s7⟩
 have hf := ((hf.s m3).step m5 nI).t m9 (by omega)
 have hP := hP.keep m9 (nE (by omega))
 refine sA rfl (send (fcg 2 3 rfl fun _ => wp_ret (rp2 rfl ⟨_, rfl, ldS (lens := [256, 1, 1, 1, 1, 1]) ro139 h2.r⟩ rfl ?_)))
 exact ⟨⟨rfl, hP⟩, hf⟩
theorem c27 {w : World} {U : Nat → Prop} (hU : ∀ k, U k → k < w.heap.size) {v : Value} {b : List UInt8} {n : Nat} {m : MsgD} (hd : BA U w v (b.take n)) (hnb : n ≤ b.length) (hfn : b.length ≤ n) (hbl : b.length < 100000000) (hG : GE w) (hsz : 21 ≤ w.heap.size) {Kp : Nat → Prop} (hMR : MsgR Kp b m) (hKp : ∀ k, Kp k → k ≤ 10 ∧ (k = 0 ∨ n = b.length)) (hho : m.head.ok) (l0 : m.asks.length < 65536) (l1 : m.one.length < 65536) (l2 : m.two.length < 65536) (l3 : m.three.length < 65536) (hna : ∀ a ∈ m.asks, nameL (bt a.name)) (hr1 : ∀ r ∈ m.one, ReadOk r ∧ (r.kind = 11 ∨ r.kind = 12 → asc r.pairs)) (hr2 : ∀ r ∈ m.two, ReadOk r ∧ (r.kind = 11 ∨ r.kind = 12 → asc r.pairs)) (hr3 : ∀ r ∈ m.three, ReadOk r ∧ (r.kind = 11 ∨ r.kind = 12 → asc r.pairs)) {Tz : TypeId} {xz : Option Addr} (hg0 : w.rangeAt 0 0 [.iface Tz (.pointer xz)]) (hCT : CmpT Tz) (hb1 : ∀ r ∈ m.one, NamesOk r ∧ r.pairs.length ≤ 1048576 ∧ r.texts.length ≤ 1048576 ∧ r.data.length ≤ 1048576 ∧ ∀ q ∈ r.pairs, q.data.length ≤ 65535) (hb2 : ∀ r ∈ m.two, NamesOk r ∧ r.pairs.length ≤ 1048576 ∧ r.texts.length ≤ 1048576 ∧ r.data.length ≤ 1048576 ∧ ∀ q ∈ r.pairs, q.data.length ≤ 65535) (hb3 : ∀ r ∈ m.three, NamesOk r ∧ r.pairs.length ≤ 1048576 ∧ r.texts.length ≤ 1048576 ∧ r.data.length ≤ 1048576 ∧ ∀ q ∈ r.pairs, q.data.length ≤ 65535)  :
  Ret PP 27 [v] w (fun u w' => (∃ (l1 l2 l3 : List RecD) (va v1 v2 v3 : Value), u = .tuple #[ag (msgSegs m.head va v1 v2 v3), .bool true] ∧ All2 Like l1 m.one ∧ All2 Like l2 m.two ∧ All2 Like l3 m.three ∧ LA AskEl lAsk (Ub NoU w w') w' va m.asks ∧ LA RecEl lRec (Ub NoU w w') w' v1 l1 ∧ LA RecEl lRec (Ub NoU w w') w' v2 l2 ∧ LA RecEl lRec (Ub NoU w w') w' v3 l3) ∧ Fr0 w w') := by
 obtain ⟨ad0, cd0, rfl, -⟩ := id hd
 have htl : (b.take n).length = n := by rw [List.length_take]; omega
 obtain ⟨hst, ea, eb, ec, hla, hl1, hl2, hl3⟩ := hMR
 have hz0 := listR_le hla (fun _ _ _ _ h => ask_le h)
 have hz1 := listR_le hl1 (fun _ _ _ _ h => rec_le h)
 have hz2 := listR_le hl2 (fun _ _ _ _ h => rec_le h)
 have hz3 := listR_le hl3 (fun _ _ _ _ h => rec_le h)
 have hst : Std b 0 (headL m.head [m.asks.length, m.one.length, m.two.length, m.three.length]) := hst
 have hf : Fr (fun _ => False) w w := Fr.refl _ _
 refine ret_of Tryz.func27 rfl rfl rfl [(0, _)] rfl ?_
 refine sreg (svK (xallS (lens := lMsg) in28 rfl) ?_)
 rintro _ w2 ⟨b2, rfl, m3, h2, e1, s1⟩
 refine sA rfl (send (fcg 0 2 rfl fun _ => sreg (sv (xbuildS [[.slice none 0 0], [.int .u16 0], [.int .u16 0], [.int .u16 0], [.int .u16 0], [.int .u16 0], [.int .u16 0], [.int .u8 0], [.int .i64 0], [.int .i64 0], [.bool false], [.int .i64 0], [.int .u16 0], [.int .u16 0]] zr124 ly124 rfl trivial (by simp [setAll, zs124])) (svK (xallS (lens := lMsg) in124 rfl) ?_))))
 rintro _ w5 ⟨b4, rfl, m6, h4, e4, s4⟩
 refine suK (xstW h4 (lens' := lMsg) sz124 rfl rfl rfl rfl rfl) ?_
 rintro w8 ⟨m9, h4, s7⟩
 have hd := ((hd.keep (lU hU (by omega)) m3 nF).keep (lU hU (by omega)) m6 nF).keep (lU hU (by omega)) m9 (nU hU (by omega))
 refine send (fdg 0 2 4 rfl fun _ => sreg (sM rfl (svK (xapp sl37 in5 rfl (by decide) rfl rfl (Rw.nil _ w8.heap.size _ _) (hd.src sl37) (by simp only [maxLen]; omega) (by omega)) ?_)))
 rintro v17 w10 ⟨g17, r17, m11, a17, l17⟩
 have z12 := m11.size
 obtain ⟨ma, mc, bm, rfl, hkm, hms, hm, hbm, hbg⟩ := msg_of (n := n) (xs := b.take n) (show Rw _ _ _ _ _ _ (bvs (b.take n)) from r17) htl (by omega) (by omega) (fun h => l17 (.inr (by omega)))
 have hd := hd.keep (lU hU (by omega)) m11 (fun k hk hS => by have hk := hU k hk; have hS : k = w8.heap.size := hS; omega)
 have hU : ∀ k, NoU k → k < w.heap.size := fun _ h => h.elim
 have hG := (((hG.k0 m3 (by omega)).k0 m6 (by omega)).k1 m9 (by omega) (by omega)).keep (fun k hk => by omega) m11 (fun k hk hS => by have hk := hk; have hS : k = w8.heap.size := hS; omega)
 have h4 := h4.keep m11 (by show ¬ (b4 = w8.heap.size); omega)
 refine sc (xcall ca55 rfl) (c55 (b := b) (hd := m.head) hms hm (by omega) hnb hkm hbl hG (by omega) h4 (by omega) (by omega) hho hst l0 l1 l2 l3 (by omega)) ?_
 rintro _ w13 ⟨⟨hle18, rfl, hP⟩ | ⟨hgt18, -⟩, m14⟩
 rotate_left
 · exact absurd hgt18 (by omega)
 have z15 := m14.size
 have hP : PrAt w13 b4 (.slice ma n mc) (m.head.id.toNat : Int) ((hbits m.head).toNat : Int) (m.asks.length : Int) (m.one.length : Int) (m.two.length : Int) (m.three.length : Int) 2 ((12 : Nat) : Int) 0 := ⟨_, _, _, hP⟩
 refine sM rfl (sE2 rfl (svK (xallS (lens := [1, 1, 1, 1, 1, 1, 1, 1, 1, 1]) in73 rfl) ?_))
 rintro _ w17 ⟨b5, rfl, m18, h5, e16, s16⟩
 refine suK (xstW h5 (lens' := [1, 1, 1, 1, 1, 1, 1, 1, 1, 1]) sz73 rfl rfl rfl rfl rfl) ?_
 rintro w20 ⟨m21, h5, s19⟩
 refine sA rfl (send ((wp_seq (sreg (sM rfl (sv (xneN if89 rfl) (send ((cno rfl (wp_skip (nThen (fdg 2 4 5 rfl fun _ => sreg (sv (xldS (lens := [1, 1, 1, 1, 1, 1, 1, 1, 1, 1]) ro73 rfl h5.r) (sc (xcall ca48 rfl) (c48) ?_))))))))))))))
 rintro _ w22 ⟨rfl, m23⟩
 have z24 := m23.size
 refine sv (xbuildS (msgSegs m.head (.slice none 0 0) (.slice none 0 0) (.slice none 0 0) (.slice none 0 0)) zr28 ly28 rfl (by simp [fitAll, zs28, Value.cells, headSegs]) rfl) (svK (xallS (lens := lMsg) in28 rfl) ?_)
 rintro _ w26 ⟨b7, rfl, m27, h7, e25, s25⟩
 refine suK (xstW h7 (lens' := lMsg) sz28 rfl rfl rfl rfl rfl) ?_
 rintro w29 ⟨m30, h7, s28⟩
 have hP := ((((hP.k m18).keep m21 (nE (by omega))).k m23).k m27).keep m30 (nE (by omega))
 have hf := (((((((((hf.s m3).s m6).t m9 (by omega)).step m11 (fun k hk hS => by have hS : k = w8.heap.size := hS; show False; omega)).t m14 (by omega)).s m18).t m21 (by omega)).s m23).s m27).t m30 (by omega)
 have hG := (((((hG.k1 m14 (by omega) (by omega)).k0 m18 (by omega)).k1 m21 (by omega) (by omega)).k0 m23 (by omega)).k0 m27 (by omega)).k1 m30 (by omega) (by omega)
 refine send (fdg 2 4 7 rfl fun _ => wp_seq (wp_block (lp [(2, _), (4, _), (7, _)] (fun (x : Nat × Nat × Value × Nat) => match x with | (k, o, v, g) => []) (fun (x : Nat × Nat × Value × Nat) wx => match x with | (k, o, v, g) => Fr (fun k => k = b4 ∨ k = b7) w29 wx ∧ (k ≤ m.asks.length) ∧ (ListR (AskR Kp b) o (m.asks.drop k) ea) ∧ (PrAt wx b4 (.slice ma n mc) (m.head.id.toNat : Int) ((hbits m.head).toNat : Int) (m.asks.length : Int) (m.one.length : Int) (m.two.length : Int) (m.three.length : Int) 2 (o : Int) (k : Int)) ∧ (SB wx b7 lMsg (msgSegs m.head (v) (.slice none 0 0) (.slice none 0 0) (.slice none 0 0))) ∧ (RA AskEl lAsk NoU wx v g 58 k (m.asks.take k)) ∧ ((v = .slice none 0 0 ∧ m.asks.take k = [] ∧ k = 0 ∧ g = b5) ∨ (w29.heap.size ≤ g ∧ g < wx.heap.size))) (fun (x : Nat × Nat × Value × Nat) => match x with | (k, o, v, g) => m.asks.length - k) (0, 12, .slice none 0 0, b5) ⟨rfl, rfl, rfl, trivial⟩ ⟨Fr.refl _ _, Nat.zero_le _, hla, hP, h7, RA.nil _ _ _ _, .inl ⟨rfl, rfl, rfl, rfl⟩⟩ ?_)))
 rintro ⟨k, o, v, g⟩ _ w32 ⟨hL31, hk, hls, hP, h7, hv, hg3⟩
 refine fdg 2 4 7 rfl fun _ => ?_
 have z33 := hL31.size
 obtain ⟨av, cv, rfl⟩ := RA.form hv
 have hg0 := rng_fr (rng_fr (rng_fr (rng_fr (rng_fr (rng_fr (rng_fr (rng_fr (rng_fr (rng_fr (rng_fr hg0 m3 (by omega) id) m6 (by omega) id) m9 (by omega) (nE (by omega))) m11 (by omega) (by show ¬ (0 = w8.heap.size); omega)) m14 (by omega) (nE (by omega))) m18 (by omega) id) m21 (by omega) (nE (by omega))) m23 (by omega) id) m27 (by omega) id) m30 (by omega) (nE (by omega))) hL31 (by omega) (by show ¬ (0 = b4 ∨ 0 = b7); omega)
 have h2 := (((((((((h2.k m6).keep m9 (nE (by omega))).keep m11 (by show ¬ (b2 = w8.heap.size); omega)).keep m14 (nE (by omega))).k m18).keep m21 (nE (by omega))).k m23).k m27).keep m30 (nE (by omega))).keep hL31 (by show ¬ (b2 = b4 ∨ b2 = b7); omega)
 have hm := rng_fr (rng_fr (rng_fr (rng_fr (rng_fr (rng_fr (rng_fr hm m14 (by omega) (nE (by omega))) m18 (by omega) id) m21 (by omega) (nE (by omega))) m23 (by omega) id) m27 (by omega) id) m30 (by omega) (nE (by omega))) hL31 (by omega) (by show ¬ (bm = b4 ∨ bm = b7); omega)
 have hG := hG.keep (fun k hk => by omega) hL31 (fun k hk hS => by have hk := hk; have hS : k = b4 ∨ k = b7 := hS; omega)
 have hf := hf.step hL31 (fun k hk hS => by have hS : k = b4 ∨ k = b7 := hS; show False; omega)
 rcases Nat.lt_or_ge k m.asks.length with hlt | hge
 ·
  obtain ⟨a, hak⟩ := some_of_lt hlt
  obtain ⟨o1, hRa, hls1⟩ := listR_drop hls hak
  have hoe := listR_le hls1 (fun _ _ _ _ h => ask_le h)
  obtain ⟨e0, ⟨kk, hkk, hN⟩, hst2, rfl⟩ := hRa
  have hNl := (show NameR b o kk o (txt (bt a.name)) e0 from hN).le
  refine wp_block (sreg ?_)
  obtain ⟨ho, ty, ln, hP⟩ := hP
  refine sc (xcall ca60 rfl) (c60g (b := b) (K := kk) (off := o) (e := e0) (S := bt a.name) (ka := a.typ.toNat) (kb := a.cls.toNat) hms hm (by omega) hnb hkm hbl hP hg0 hG (by omega) (by omega) (by rw [cnt2]; omega) (by rw [cnt2]; omega) (by omega) (by rw [cnt2]; omega) (by omega) (by omega) hN (hna _ (List.mem_of_getElem? hak)) (hKp kk hkk).1 (hKp kk hkk).2 (u16lt _) (u16lt _) hst2.left (hst2.right' rfl) (by omega)) ?_
  rintro _ w34 ⟨⟨hle28, rfl, hP⟩ | ⟨hgt28, -⟩, m35⟩
  rotate_left
  · exact absurd hgt28 (by omega)
  have z36 := m35.size
  refine sM rfl (sE2 rfl (svK (xallS (lens := [256, 1, 1]) in86 (by simp [nm_length])) ?_))
  rintro _ w38 ⟨b8, rfl, m39, h8, e37, s37⟩
  refine suK (xstW h8 (lens' := [256, 1, 1]) sz86 (by simp [nm_length]) rfl (by simp only [fC, fN, aA, aN, nm_one, bT] <;> rfl) rfl rfl) ?_
  rintro w41 ⟨m42, h8, s40⟩
  have hg0 := rng_fr (rng_fr (rng_fr hg0 m35 (by omega) (nE (by omega))) m39 (by omega) id) m42 (by omega) (nE (by omega))
  refine sA rfl (send ((wp_seq (sreg (sM rfl (sv (xld on89 rfl (hg0 0 _ rfl)) (sv (xeqEN if89 rfl rfl) (send ((cno rfl (wp_skip (nThen ((wp_seq (sreg (sM rfl (sv (xneN if89 rfl) (send (ffg 2 4 7 8 35 rfl fun _ => cno rfl (wp_skip (nThen (feg 2 4 7 8 rfl fun _ => ?_))))))))))))))))))))))
  refine ldrawH (Fr (fun k => k = g) w41.drew) [rd0, rd1, rd2, ld3, ld4, ld5, rd6, bh7] mixed (by kernel_rfl) (fun _ _ _ _ _ h => h) ?_
  have z43 : w41.drew.heap.size = w41.heap.size := rfl
  have h7 := (((h7.keep m35 (nE (by omega))).k m39).keep m42 (nE (by omega))).drew
  have zb_h7 := h7
  have h8 := h8.drew
  have zb_h8 := h8
  have hS44 : Fr (fun k => k = g) w41.drew w41.drew := Fr.refl _ _
  refine hvH rfl (fun _ _ => xfld fl28_1 rfl) hS44 (hvH rfl (fun w' hS => xld on25 rfl ((zb_h7.keep hS (nE (by omega))).r.c 10 rfl rfl)) hS44 (hvH rfl (fun w' hS => xldS (lens := [256, 1, 1]) ro86 rfl (zb_h8.keep hS (nE (by omega))).r) hS44 ?_))
  refine hlKH rfl (xslit ((questSegs a).flatten) sl77 in86 rfl (by decide) rfl rfl rfl (by simp [nm_length, Value.cells]) (by decide) (ag_flat _) (by simp only [questSegs, fC, fN, aA, aN, nm_one, bT] <;> rfl)) ?_
  rintro _ w46 ⟨b40, rfl, m47, h40, e40, s40, r40⟩
  have hS48 := hS44.s m47
  refine ⟨hS48, ?_⟩
  refine hcH rfl (xcall ca49 rfl) (c49 (U := fun k => k = b40) (l := [a]) (fun k hk => by have hk : k = b40 := hk; omega) (q_one r40) (by simp) (fun a1 h1 => by have h1 := List.mem_singleton.1 h1; subst h1; have := (name_pos (hna _ (List.mem_of_getElem? hak))).2; omega)) ?_
  rintro v41 w49 ⟨L41, m50⟩
  have z51 := m50.size
  have hS52 := hS48.s m50
  refine ⟨hS52, ?_⟩
  obtain ⟨aq41, cq41, rfl⟩ := L41.form
  have hv := (((((hv.keep ask_st (fun k hk => by have hk := (show k + 1 ≤ 0 from (show False from hk).elim); omega) m35 (fun k hk hS => by have hk := (show k + 1 ≤ 0 from (show False from hk).elim); have hS : k = b4 := hS; omega) (nE (by omega))).keep ask_st (fun k hk => by have hk := (show k + 1 ≤ 0 from (show False from hk).elim); omega) m39 nF id).keep ask_st (fun k hk => by have hk := (show k + 1 ≤ 0 from (show False from hk).elim); omega) m42 (fun k hk hS => by have hk := (show k + 1 ≤ 0 from (show False from hk).elim); have hS : k = b8 := hS; omega) (nE (by omega))).keep ask_st (fun k hk => by have hk := (show k + 1 ≤ 0 from (show False from hk).elim); omega) (fd w41) nF id).keep ask_st (fun k hk => by have hk := (show k + 1 ≤ 0 from (show False from hk).elim); omega) m47 nF id).keep ask_st (fun k hk => by have hk := (show k + 1 ≤ 0 from (show False from hk).elim); omega) m50 nF id
  obtain ⟨gp, hv, hgp⟩ := RA.pick hv hg3
  obtain ⟨ss42, hR42, hA42⟩ := hv
  refine hlKH rfl (xapp sl25 in58 rfl (by decide) rfl rfl hR42 (L41.src sl25) (by simp only [maxLen]; omega) (by omega)) ?_
  rintro v42 w53 ⟨g42, r42, m54, a42, l42⟩
  have z55 := m54.size
  have hS56 := hS52.step m54 (fun k hk hS => by have hS : k = gp := hS; show k = g; omega)
  have hv := RA.snoc (x := a) hA42 ask_st ask_gr (fun k hk => by have hk := (show k + 1 ≤ 0 from (show False from hk).elim); omega) m54 (fun k hk hS => by have hk := (show k + 1 ≤ 0 from (show False from hk).elim); have hS : k = gp := hS; omega) (fun _ h => h) r42 rfl (rfl)
  have h7 := ((h7.k m47).k m50).keep m54 (nE (by omega))
  refine ⟨hS56, ?_⟩
  refine hvH rfl (fun _ _ => xfld fl28_1 rfl) hS56 ?_
  refine bluKH rfl (xstF 10 sz25 h7 rfl rfl rfl rfl (by obtain ⟨_, _, rfl⟩ := RA.form hv; rfl)) ?_
  rintro w58 ⟨m59, h7, s57⟩
  have hL31 := (((((((hL31.step m35 (fun k hk hS => by have hS : k = b4 := hS; show k = b4 ∨ k = b7; omega)).s m39).step m42 (fun k hk hS => by have hS : k = b8 := hS; show k = b4 ∨ k = b7; omega)).drew).s m47).s m50).step m54 (fun k hk hS => by have hS : k = gp := hS; show k = b4 ∨ k = b7; omega)).step m59 (fun k hk hS => by have hS : k = b7 := hS; show k = b4 ∨ k = b7; omega)
  have hP := ((((((hP.k m39).keep m42 (nE (by omega))).drew).k m47).k m50).keep m54 (nE (by omega))).keep m59 (nE (by omega))
  have hv := hv.keep ask_st (fun k hk => by have hk := (show k + 1 ≤ 0 from (show False from hk).elim); omega) m59 (fun k hk hS => by have hk := (show k + 1 ≤ 0 from (show False from hk).elim); have hS : k = b7 := hS; omega) (nE (by omega))
  refine lhendH (nBlock (nThen ?_))
  refine ⟨(k + 1, e0 + 4, _, g42), _, env_okl ⟨rfl, rfl, rfl, trivial⟩, ⟨hL31, (by omega), (hls1), (⟨_, _, _, hP⟩), (h7), (by rw [take_snoc hak]; exact hv), (.inr ⟨by omega, by have := l42 (by omega); omega⟩)⟩, ?_⟩
  show m.asks.length - (k + 1) < m.asks.length - k; omega
 refine wp_block (sreg ?_)
 obtain ⟨ho, ty, ln, hP⟩ := hP
 refine sc (xcall ca60 rfl) (c60d hP hg0 hG (by omega) (by omega) (by rw [cnt2]; omega) (by rw [cnt2]; omega) (by rw [cnt2]; omega)) ?_
 rintro _ w60 ⟨⟨rfl, hP⟩, m61⟩
 have z62 := m61.size
 refine sM rfl (sE2 rfl (svK (xallS (lens := [256, 1, 1]) in86 (by simp [nm_length])) ?_))
 rintro _ w65 ⟨b8, rfl, m66, h8, e63, s63⟩
 refine suK (xstW h8 (lens' := [256, 1, 1]) sz86 (by simp [nm_length]) rfl (by simp only [fC, fN, aA, aN, nm_one, bT] <;> rfl) rfl rfl) ?_
 rintro w68 ⟨m69, h8, s67⟩
 have hg0 := rng_fr (rng_fr (rng_fr hg0 m61 (by omega) (nE (by omega))) m66 (by omega) id) m69 (by omega) (nE (by omega))
 refine sA rfl (send ((wp_seq (sreg (sM rfl (sv (xld on89 rfl (hg0 0 _ rfl)) (sv (xeqES if89 hCT rfl rfl) (send ((cyes rfl (wp_exit (eThen (eMiss (by decide) (eThen (eHit (nThen (fdg 2 4 7 rfl fun _ => ?_)))))))))))))))))
 have hoe := listR_end hls hge
 have hP := (hP.k m66).keep m69 (nE (by omega))
 rw [hoe] at hP
 have hP : PrAt w68 b4 (.slice ma n mc) (m.head.id.toNat : Int) ((hbits m.head).toNat : Int) (m.asks.length : Int) (m.one.length : Int) (m.two.length : Int) (m.three.length : Int) 3 (ea : Int) 0 := ⟨_, _, _, hP⟩
 have hke : m.asks.take k = m.asks := List.take_of_length_le hge
 have hv := ((hv.keep ask_st (fun k hk => by have hk := (show k + 1 ≤ 0 from (show False from hk).elim); omega) m61 (fun k hk hS => by have hk := (show k + 1 ≤ 0 from (show False from hk).elim); have hS : k = b4 := hS; omega) (nE (by omega))).keep ask_st (fun k hk => by have hk := (show k + 1 ≤ 0 from (show False from hk).elim); omega) m66 nF id).keep ask_st (fun k hk => by have hk := (show k + 1 ≤ 0 from (show False from hk).elim); omega) m69 (fun k hk hS => by have hk := (show k + 1 ≤ 0 from (show False from hk).elim); have hS : k = b8 := hS; omega) (nE (by omega))
 rw [hke] at hv
 have h2 := ((h2.keep m61 (nE (by omega))).k m66).keep m69 (nE (by omega))
 have hLa : LA AskEl lAsk (Ub NoU w29 w68) w68 (.slice av k cv) m.asks := RA.la0 hv (by decide) ask_gr (fun _ h => h.elim) (by rcases hg3 with ⟨-, -, h, -⟩ | ⟨h1, h2⟩; exact .inl h; exact .inr (.inr ⟨by omega, by omega⟩))
 refine sreg (svK (xslit ([.slice none 0 0, .slice none 0 0, .slice none 0 0]) sl133 in26 rfl (by decide) rfl rfl rfl rfl (by decide) rfl rfl) ?_)
 rintro _ w71 ⟨b44, rfl, m72, h44, e44, s44, r44⟩
 have h44 : SB w71 b44 [1, 1, 1] [[.slice none 0 0], [.slice none 0 0], [.slice none 0 0]] := ⟨h44, rfl⟩
 have hP := hP.k m72
 refine sA rfl (send ((wp_seq (sreg (sM rfl (sv (xlen sl133 rfl) (sM rfl (send (fgg 2 4 7 10 46 47 rfl fun _ => wp_block (lp [(2, _), (4, _), (7, _), (10, _), (46, _)] (fun (x : Nat × List RecD × List RecD × List RecD × Value × Value × Value) => match x with | (i, la, lb, lc, u0, u1, u2) => [(47, .int .i64 (i : Int))]) (fun (x : Nat × List RecD × List RecD × List RecD × Value × Value × Value) wx => match x with | (i, la, lb, lc, u0, u1, u2) => Fr (fun k => k = b4 ∨ k = b44) w71 wx ∧ (i ≤ 3) ∧ (SB wx b44 [1, 1, 1] [[u0], [u1], [u2]]) ∧ ((i = 0 ∧ u0 = .slice none 0 0 ∧ u1 = .slice none 0 0 ∧ u2 = .slice none 0 0 ∧ PrAt wx b4 (.slice ma n mc) (m.head.id.toNat : Int) ((hbits m.head).toNat : Int) (m.asks.length : Int) (m.one.length : Int) (m.two.length : Int) (m.three.length : Int) 3 (ea : Int) 0) ∨ (i = 1 ∧ LA RecEl lRec (Ub NoU w71 wx) wx u0 la ∧ All2 Like la m.one ∧ u1 = .slice none 0 0 ∧ u2 = .slice none 0 0 ∧ PrAt wx b4 (.slice ma n mc) (m.head.id.toNat : Int) ((hbits m.head).toNat : Int) (m.asks.length : Int) (m.one.length : Int) (m.two.length : Int) (m.three.length : Int) 4 (eb : Int) 0) ∨ (i = 2 ∧ LA RecEl lRec (Ub NoU w71 wx) wx u0 la ∧ All2 Like la m.one ∧ LA RecEl lRec (Ub NoU w71 wx) wx u1 lb ∧ All2 Like lb m.two ∧ u2 = .slice none 0 0 ∧ PrAt wx b4 (.slice ma n mc) (m.head.id.toNat : Int) ((hbits m.head).toNat : Int) (m.asks.length : Int) (m.one.length : Int) (m.two.length : Int) (m.three.length : Int) 5 (ec : Int) 0) ∨ (i = 3 ∧ LA RecEl lRec (Ub NoU w71 wx) wx u0 la ∧ All2 Like la m.one ∧ LA RecEl lRec (Ub NoU w71 wx) wx u1 lb ∧ All2 Like lb m.two ∧ LA RecEl lRec (Ub NoU w71 wx) wx u2 lc ∧ All2 Like lc m.three))) (fun (x : Nat × List RecD × List RecD × List RecD × Value × Value × Value) => match x with | (i, la, lb, lc, u0, u1, u2) => 3 - i) (0, [], [], [], .slice none 0 0, .slice none 0 0, .slice none 0 0) ⟨rfl, rfl, rfl, rfl, rfl, rfl, trivial⟩ ⟨Fr.refl _ _, by omega, h44, .inl ⟨rfl, rfl, rfl, rfl, hP⟩⟩ ?_))))))))))
 rintro ⟨i, la, lb, lc, u0, u1, u2⟩ _ w74 ⟨hL73, hi, h44, hD⟩
 refine fgg 2 4 7 10 46 47 rfl fun _ => ?_
 have z75 := hL73.size
 have hG := ((((hG.k1 m61 (by omega) (by omega)).k0 m66 (by omega)).k1 m69 (by omega) (by omega)).k0 m72 (by omega)).keep (fun k hk => by omega) hL73 (fun k hk hS => by have hk := hk; have hS : k = b4 ∨ k = b44 := hS; omega)
 have hf := ((((hf.t m61 (by omega)).s m66).t m69 (by omega)).s m72).step hL73 (fun k hk hS => by have hS : k = b4 ∨ k = b44 := hS; show False; omega)
 have hm := rng_fr (rng_fr (rng_fr (rng_fr (rng_fr hm m61 (by omega) (nE (by omega))) m66 (by omega) id) m69 (by omega) (nE (by omega))) m72 (by omega) id) hL73 (by omega) (by show ¬ (bm = b4 ∨ bm = b44); omega)
 have h7 := ((((h7.keep m61 (nE (by omega))).k m66).keep m69 (nE (by omega))).k m72).keep hL73 (by show ¬ (b7 = b4 ∨ b7 = b44); omega)
 have hg0 := rng_fr (rng_fr hg0 m72 (by omega) id) hL73 (by omega) (by show ¬ (0 = b4 ∨ 0 = b44); omega)
 have h2 := (h2.k m72).keep hL73 (by show ¬ (b2 = b4 ∨ b2 = b44); omega)
 have hLa := (hLa.keep ask_st (lNo (by omega)) m72 nF).keep ask_st (lNo (by omega)) hL73 (fun k hk hS => by have hk := Ub.num (U := NoU) (n := 0) (fun _ h => h.elim) hk; have hS : k = b4 ∨ k = b44 := hS; omega)
 rcases hD with ⟨rfl, rfl, rfl, rfl, hP⟩ | ⟨rfl, k1, hA1, rfl, rfl, hP⟩ | ⟨rfl, k1, hA1, k2, hA2, rfl, hP⟩ | ⟨rfl, k1, hA1, k2, hA2, k3, hA3⟩
 ·
  refine sreg (sv (exT (xlss rfl rfl) (by omega)) (send ((wp_seq (cyes rfl (wp_skip (nThen ((wp_seq (wp_block (sreg (sM rfl (sA rfl (send (fhg 2 4 7 10 11 46 47 rfl fun _ => wp_block (lp [(2, _), (4, _), (7, _), (10, _), (11, _), (46, _), (47, _)] (fun (x : Nat × Nat × Value × Nat × List RecD) => match x with | (j, o2, x, g2, lx) => []) (fun (x : Nat × Nat × Value × Nat × List RecD) wx => match x with | (j, o2, x, g2, lx) => Fr (fun k => k = b4 ∨ k = b44) w74 wx ∧ (j ≤ m.one.length) ∧ (ListR (RecR Kp b) o2 (m.one.drop j) eb) ∧ (PrAt wx b4 (.slice ma n mc) (m.head.id.toNat : Int) ((hbits m.head).toNat : Int) (m.asks.length : Int) (m.one.length : Int) (m.two.length : Int) (m.three.length : Int) 3 (o2 : Int) (j : Int)) ∧ (SB wx b44 [1, 1, 1] [[x], [.slice none 0 0], [.slice none 0 0]]) ∧ (All2 Like lx (m.one.take j)) ∧ (RX RecEl lRec NoU w74.heap.size wx.heap.size wx x g2 112 j lx) ∧ ((x = .slice none 0 0 ∧ lx = [] ∧ j = 0 ∧ g2 = b5) ∨ (w74.heap.size ≤ g2 ∧ g2 < wx.heap.size))) (fun (x : Nat × Nat × Value × Nat × List RecD) => match x with | (j, o2, x, g2, lx) => m.one.length - j) (0, ea, .slice none 0 0, b5, []) ⟨rfl, rfl, rfl, rfl, rfl, rfl, rfl, trivial⟩ ⟨Fr.refl _ _, Nat.zero_le _, hl1, hP, h44, All2.nil, RX.ofNil (Rw.nil _ _ _ _), .inl ⟨rfl, rfl, rfl, rfl⟩⟩ ?_))))))))))))))))
  rintro ⟨j, o2, x, g2, lx⟩ _ w77 ⟨hL76, hj, hls2, hP, h44, hA, hv2, hg4⟩
  refine fhg 2 4 7 10 11 46 47 rfl fun _ => ?_
  have z78 := hL76.size
  obtain ⟨ax, cx, rfl⟩ := RA.form hv2
  have hG := hG.keep (fun k hk => by omega) hL76 (fun k hk hS => by have hk := hk; have hS : k = b4 ∨ k = b44 := hS; omega)
  have hg0 := rng_fr hg0 hL76 (by omega) (by show ¬ (0 = b4 ∨ 0 = b44); omega)
  have hf := hf.step hL76 (fun k hk hS => by have hS : k = b4 ∨ k = b44 := hS; show False; omega)
  have h2 := h2.keep hL76 (by show ¬ (b2 = b4 ∨ b2 = b44); omega)
  have hm := rng_fr hm hL76 (by omega) (by show ¬ (bm = b4 ∨ bm = b44); omega)
  have h7 := h7.keep hL76 (by show ¬ (b7 = b4 ∨ b7 = b44); omega)
  have hLa := hLa.keep ask_st (lNo (by omega)) hL76 (fun k hk hS => by have hk := Ub.num (U := NoU) (n := 0) (fun _ h => h.elim) hk; have hS : k = b4 ∨ k = b44 := hS; omega)
  have hL73 := hL73.step hL76 (fun k hk hS => by have hS : k = b4 ∨ k = b44 := hS; show k = b4 ∨ k = b44; omega)
  rcases Nat.lt_or_ge j m.one.length with hlt | hge
  rotate_left
  ·
   refine wp_block (sreg ?_)
   obtain ⟨ho, ty, ln, hP⟩ := hP
   refine sc (xcall ca61 rfl) (c61d hP hg0 hG (by omega) (by omega) (by rw [cnt3]; omega) (by rw [cnt3]; omega) (by rw [cnt3]; omega)) ?_
   rintro _ w105 ⟨⟨rfl, hP⟩, m106⟩
   have z107 := m106.size
   have hLa := hLa.keep ask_st (lNo (by omega)) m106 (lN1 (by omega))
   refine sM rfl (sE2 rfl (svK (xallS (lens := [256, 1, 1, 1, 1, 1]) in139 (by simp [nm_length])) ?_))
   rintro _ w109 ⟨b12, rfl, m110, h12, e108, s108⟩
   refine suK (xstW h12 (lens' := [256, 1, 1, 1, 1, 1]) sz139 (by simp [nm_length]) rfl (by simp only [List.cons_append, List.nil_append, fC, fN, aA, aN, nm_one, bT] <;> rfl) rfl rfl) ?_
   rintro w112 ⟨m113, h12, s111⟩
   have hg0 := rng_fr (rng_fr (rng_fr hg0 m106 (by omega) (nE (by omega))) m110 (by omega) id) m113 (by omega) (nE (by omega))
   refine sA rfl (send ((wp_seq (sreg (sM rfl (sv (exF (xeql rfl rfl) (by omega)) (send ((cno rfl (sreg (sM rfl (sv (exF (xeql rfl rfl) (by omega)) (send ((cno rfl (wp_skip (nThen (fjg 2 4 7 10 11 12 13 46 47 rfl fun _ => wp_seq (sreg (sM rfl (sv (xld on89 rfl (hg0 0 _ rfl)) (sv (xeqES if89 hCT rfl rfl) (send ((cyes rfl (wp_exit (eThen (eMiss (by decide) (eThen (eHit (nBlock (nThen (fgg 2 4 7 10 46 47 rfl fun _ => ?_)))))))))))))))))))))))))))))))))
   have hoe := listR_end hls2 hge
   have hP := (hP.k m110).keep m113 (nE (by omega))
   rw [hoe] at hP
   have hke : m.one.take j = m.one := List.take_of_length_le hge
   rw [hke] at hA
   have h2 := ((h2.keep m106 (nE (by omega))).k m110).keep m113 (nE (by omega))
   have hv2 := RX.keep (RX.keep (RX.keep hv2 rec_st (lU hU (by omega)) (by omega) m106 (fun k hk hk3 hS => by have hS : k = b4 := hS; rcases hk with hk | hk <;> first | omega | (have := hU k hk; omega)) (nE (by omega))) rec_st (lU hU (by omega)) (by omega) m110 (fun _ _ _ h => h) id) rec_st (lU hU (by omega)) (by omega) m113 (fun k hk hk3 hS => by have hS : k = b12 := hS; rcases hk with hk | hk <;> first | omega | (have := hU k hk; omega)) (nE (by omega))
   have hLx : LA RecEl lRec (Ub NoU w71 w112) w112 (.slice ax j cx) lx := RA.la0 hv2 (by decide) rec_gr (fun k hk => hk.1.elim (fun h => h.elim) (fun h => .inr ⟨by omega, by omega⟩)) (by rcases hg4 with ⟨-, -, h, -⟩ | ⟨h1, h2⟩; exact .inl h; exact .inr (.inr ⟨by omega, by omega⟩))
   have hL73 := ((hL73.step m106 (fun k hk hS => by have hS : k = b4 := hS; show k = b4 ∨ k = b44; omega)).s m110).step m113 (fun k hk hS => by have hS : k = b12 := hS; show k = b4 ∨ k = b44; omega)
   have h44 := ((h44.keep m106 (nE (by omega))).k m110).keep m113 (nE (by omega))
   refine lreg (sv (xadd rfl rfl (w64 (by omega) (by omega))) (sM rfl (lend (nThen ?_))))
   refine ⟨(1, lx, [], [], _, .slice none 0 0, .slice none 0 0), _, env_okl ⟨rfl, rfl, rfl, rfl, rfl, rfl, trivial⟩, ⟨hL73, (by omega), (h44), (.inr (.inl ⟨rfl, hLx, hA, rfl, rfl, ⟨_, _, _, hP⟩⟩))⟩, ?_⟩
   show 3 - (_ + 1) < 3 - _; omega
  obtain ⟨r, hrk⟩ := some_of_lt hlt
  obtain ⟨o1, hRa, hls1⟩ := listR_drop hls2 hrk
  have hoe := listR_le hls1 (fun _ _ _ _ h => rec_le h)
  refine wp_block (sreg ?_)
  obtain ⟨ho, ty, ln, hP⟩ := hP
  refine sc (xcall ca61 rfl) (c61g (Kp := Kp) (e := o1) (r := r) (B := 0) (mb := 0) (sf := fun _ => emptyB) hms hm (by omega) hnb hkm hbl hP hg0 hG (by omega) (by omega) (by rw [cnt3]; omega) (by rw [cnt3]; omega) (by omega) (by rw [cnt3]; omega) (by omega) (by omega) (Nat.zero_le _) hKp hRa (hr1 r (List.mem_of_getElem? hrk)).1 (hr1 r (List.mem_of_getElem? hrk)).2 (by omega) (.inl (by omega))) ?_
  rintro _ w79 ⟨⟨hle51, sg51, rfl, hV, hP⟩ | ⟨hgt51, -⟩, m80⟩
  rotate_left
  · exact absurd hgt51 (by omega)
  have z81 := m80.size
  obtain ⟨len, vb, hl16, rfl, hbe⟩ := hV
  obtain ⟨bB, TB, lB, sB, rfl, -⟩ := id hbe
  obtain ⟨l0, rfl⟩ := u16_of hl16
  have hLa := hLa.keep ask_st (lNo (by omega)) m80 (lN1 (by omega))
  refine sM rfl (sE2 rfl (svK (xallS (lens := [256, 1, 1, 1, 1, 1]) in139 (by simp [nm_length])) ?_))
  rintro _ w83 ⟨b12, rfl, m84, h12, e82, s82⟩
  refine suK (xstW h12 (lens' := [256, 1, 1, 1, 1, 1]) sz139 (by simp [rhSegs, nm_length]) rfl (by simp only [rhSegs, List.cons_append, List.nil_append, fC, fN, aA, aN, nm_one, bT] <;> rfl) rfl rfl) ?_
  rintro w86 ⟨m87, h12, s85⟩
  have hg0 := rng_fr (rng_fr (rng_fr hg0 m80 (by omega) (nE (by omega))) m84 (by omega) id) m87 (by omega) (nE (by omega))
  refine sA rfl (send ((wp_seq (sreg (sM rfl (sv (exF (xeql rfl rfl) (by omega)) (send ((cno rfl (sreg (sM rfl (sv (exF (xeql rfl rfl) (by omega)) (send ((cno rfl (wp_skip (nThen (fjg 2 4 7 10 11 12 13 46 47 rfl fun _ => wp_seq (sreg (sM rfl (sv (xld on89 rfl (hg0 0 _ rfl)) (sv (xeqEN if89 rfl rfl) (send ((cno rfl (wp_skip (nThen ((wp_seq (sreg (sM rfl (sv (xneN if89 rfl) (send ((cno rfl (wp_skip (nThen (fig 2 4 7 10 11 12 46 47 rfl fun _ => ?_))))))))))))))))))))))))))))))))))))))
  refine ldrawH (Fr (fun k => k = g2) w86.drew) [rd0, rd1, rd2, rd3, rd4, rd5, rd6, ld7, ld8, ld9, rd10, bh11] mixed (by kernel_rfl) (fun _ _ _ _ _ h => h) ?_
  have z88 : w86.drew.heap.size = w86.heap.size := rfl
  have h44 := (((h44.keep m80 (nE (by omega))).k m84).keep m87 (nE (by omega))).drew
  have zb_h44 := h44
  have h12 := h12.drew
  have zb_h12 := h12
  have hS89 : Fr (fun k => k = g2) w86.drew w86.drew := Fr.refl _ _
  have hbe := ((hbe.keep (lNo (by omega)) m84 nF).keep (lNo (by omega)) m87 (lN1 (by omega))).keep (lNo (by omega)) (fd w86) nF
  have hv2 := RX.keep (RX.keep (RX.keep (RX.keep hv2 rec_st (lU hU (by omega)) (by omega) m80 (fun k hk hk3 hS => by have hS : k = b4 := hS; rcases hk with hk | hk <;> first | omega | (have := hU k hk; omega)) (nE (by omega))) rec_st (lU hU (by omega)) (by omega) m84 (fun _ _ _ h => h) id) rec_st (lU hU (by omega)) (by omega) m87 (fun k hk hk3 hS => by have hS : k = b12 := hS; rcases hk with hk | hk <;> first | omega | (have := hU k hk; omega)) (nE (by omega))) rec_st (lU hU (by omega)) (by omega) (fd w86) (fun _ _ _ h => h) id
  have hLa := ((hLa.keep ask_st (lNo (by omega)) m84 nF).keep ask_st (lNo (by omega)) m87 (lN1 (by omega))).keep ask_st (lNo (by omega)) (fd w86) nF
  refine qqM rfl rfl hS89 (qqM rfl rfl hS89 (qqM rfl rfl hS89 (qqM rfl rfl hS89 (hvH rfl (fun _ _ => xidx1 (i := 0) sl133 sz26 rfl rfl rfl (by omega)) hS89 (hvH rfl (fun w' hS => xld on26 rfl ((zb_h44.keep hS (nE (by omega))).r.c 0 rfl rfl)) hS89 (hvH rfl (fun w' hS => xldS (lens := [256, 1, 1, 1, 1, 1]) ro139 rfl (zb_h12.keep hS (nE (by omega))).r) hS89 ?_))))))
  refine hcH rfl (xcall ca64 rfl) (c64 (U := Ub NoU w77 w79) (lNo (by omega)) hbe (hb1 r (List.mem_of_getElem? hrk)).1 (hb1 r (List.mem_of_getElem? hrk)).2.1 (hb1 r (List.mem_of_getElem? hrk)).2.2.1 (hb1 r (List.mem_of_getElem? hrk)).2.2.2.1 (hb1 r (List.mem_of_getElem? hrk)).2.2.2.2) ?_
  rintro _ w90 ⟨vd, vt, vp, rfl, hd, ht, hp, m91⟩
  have z92 := m91.size
  have hS93 := hS89.s m91
  obtain ⟨ad, cd, rfl, -⟩ := id hd
  obtain ⟨at1, ct1, rfl⟩ := ht.form
  obtain ⟨ap1, cp1, rfl⟩ := hp.form
  have hv2 := RX.keep hv2 rec_st (lU hU (by omega)) (by omega) m91 (fun _ _ _ h => h) id
  refine ⟨hS93, ?_⟩
  refine hlKH rfl (xslit ((recSegs (normR r l0) (.slice ad (normR r l0).data.length cd) (.slice at1 (normR r l0).texts.length ct1) (.slice ap1 (normR r l0).pairs.length cp1)).flatten) sl26 in112 rfl (by decide) rfl rfl rfl rfl (by decide) (ag_flat _) rfl) ?_
  rintro _ w95 ⟨b80, rfl, m96, h80, e80, s80, r80⟩
  have hS97 := hS93.s m96
  have hv2 := RX.keep hv2 rec_st (lU hU (by omega)) (by omega) m96 (fun _ _ _ h => h) id
  refine ⟨hS97, ?_⟩
  obtain ⟨gp, hv2, hgp⟩ := RX.pick hv2 hg4
  obtain ⟨ss81, hR81, hA81⟩ := hv2
  refine hlKH rfl (xapp sl26 in112 rfl (by decide) rfl rfl hR81 (r80.src sl26) (by simp only [maxLen]; omega) (by omega)) ?_
  rintro v81 w98 ⟨g81, r81, m99, a81, l81⟩
  have z100 := m99.size
  have hS101 := hS97.step m99 (fun k hk hS => by have hS : k = gp := hS; show k = g2; omega)
  have hd := (hd.keep (fun k hk => by have hk := (show (w77.heap.size ≤ k ∧ k < w79.heap.size) ∨ (w86.drew.heap.size ≤ k ∧ k < w90.heap.size) from hk.imp_left (fun h => h.elim (fun h => h.elim) id)); omega) m96 nF).keep (fun k hk => by have hk := (show (w77.heap.size ≤ k ∧ k < w79.heap.size) ∨ (w86.drew.heap.size ≤ k ∧ k < w90.heap.size) from hk.imp_left (fun h => h.elim (fun h => h.elim) id)); omega) m99 (fun k hk hS => by have hk := (show (w77.heap.size ≤ k ∧ k < w79.heap.size) ∨ (w86.drew.heap.size ≤ k ∧ k < w90.heap.size) from hk.imp_left (fun h => h.elim (fun h => h.elim) id)); have hS : k = gp := hS; omega)
  have ht := (ht.keep text_st (fun k hk => by have hk := (show (w77.heap.size ≤ k ∧ k < w79.heap.size) ∨ (w86.drew.heap.size ≤ k ∧ k < w90.heap.size) from hk.imp_left (fun h => h.elim (fun h => h.elim) id)); omega) m96 nF).keep text_st (fun k hk => by have hk := (show (w77.heap.size ≤ k ∧ k < w79.heap.size) ∨ (w86.drew.heap.size ≤ k ∧ k < w90.heap.size) from hk.imp_left (fun h => h.elim (fun h => h.elim) id)); omega) m99 (fun k hk hS => by have hk := (show (w77.heap.size ≤ k ∧ k < w79.heap.size) ∨ (w86.drew.heap.size ≤ k ∧ k < w90.heap.size) from hk.imp_left (fun h => h.elim (fun h => h.elim) id)); have hS : k = gp := hS; omega)
  have hp := (hp.keep pair_st (fun k hk => by have hk := (show (w77.heap.size ≤ k ∧ k < w79.heap.size) ∨ (w86.drew.heap.size ≤ k ∧ k < w90.heap.size) from hk.imp_left (fun h => h.elim (fun h => h.elim) id)); omega) m96 nF).keep pair_st (fun k hk => by have hk := (show (w77.heap.size ≤ k ∧ k < w79.heap.size) ∨ (w86.drew.heap.size ≤ k ∧ k < w90.heap.size) from hk.imp_left (fun h => h.elim (fun h => h.elim) id)); omega) m99 (fun k hk hS => by have hk := (show (w77.heap.size ≤ k ∧ k < w79.heap.size) ∨ (w86.drew.heap.size ≤ k ∧ k < w90.heap.size) from hk.imp_left (fun h => h.elim (fun h => h.elim) id)); have hS : k = gp := hS; omega)
  have hv2 := RX.snoc (x := (normR r l0)) w98.heap.size hA81 rec_st rec_gr (lU hU (by omega)) (by omega) (by omega) m99 a81 r81 rfl (⟨_, _, _, rfl, hd.mono (fun k h => by have h := (show (w77.heap.size ≤ k ∧ k < w79.heap.size) ∨ (w86.drew.heap.size ≤ k ∧ k < w90.heap.size) from h.imp_left (fun h => h.elim (fun h => h.elim) id)); exact ⟨.inr ⟨by omega, by omega⟩, by omega⟩), ht.mono text_gr (fun k h => by have h := (show (w77.heap.size ≤ k ∧ k < w79.heap.size) ∨ (w86.drew.heap.size ≤ k ∧ k < w90.heap.size) from h.imp_left (fun h => h.elim (fun h => h.elim) id)); exact ⟨.inr ⟨by omega, by omega⟩, by omega⟩), hp.mono pair_gr (fun k h => by have h := (show (w77.heap.size ≤ k ∧ k < w79.heap.size) ∨ (w86.drew.heap.size ≤ k ∧ k < w90.heap.size) from h.imp_left (fun h => h.elim (fun h => h.elim) id)); exact ⟨.inr ⟨by omega, by omega⟩, by omega⟩)⟩)
  have h44 := ((h44.k m91).k m96).keep m99 (nE (by omega))
  refine ⟨hS101, ?_⟩
  refine hvH rfl (fun _ _ => xidx1 (i := 0) sl133 sz26 rfl rfl rfl (by omega)) hS101 ?_
  refine bluKH rfl (xstF 0 sz26 h44 rfl rfl rfl rfl (by obtain ⟨_, _, rfl⟩ := RA.form hv2; rfl)) ?_
  rintro w103 ⟨m104, h44, s102⟩
  have hL76 := (((((((hL76.step m80 (fun k hk hS => by have hS : k = b4 := hS; show k = b4 ∨ k = b44; omega)).s m84).step m87 (fun k hk hS => by have hS : k = b12 := hS; show k = b4 ∨ k = b44; omega)).drew).s m91).s m96).step m99 (fun k hk hS => by have hS : k = gp := hS; show k = b4 ∨ k = b44; omega)).step m104 (fun k hk hS => by have hS : k = b44 := hS; show k = b4 ∨ k = b44; omega)
  have hP := ((((((hP.k m84).keep m87 (nE (by omega))).k (fd w86)).k m91).k m96).keep m99 (nE (by omega))).keep m104 (nE (by omega))
  have hv2 := RX.keep hv2 rec_st (lU hU (by omega)) (by omega) m104 (fun k hk hk3 hS => by have hS : k = b44 := hS; rcases hk with hk | hk <;> first | omega | (have := hU k hk; omega)) (nE (by omega))
  refine lhendH (nBlock (nThen ?_))
  refine ⟨(j + 1, o1, _, g81, lx ++ [normR r l0]), _, env_okl ⟨rfl, rfl, rfl, rfl, rfl, rfl, rfl, trivial⟩, ⟨hL76, (by omega), (hls1), (prat_cast hP rfl (by omega)), (h44), (by rw [take_snoc hrk]; exact hA.snoc ⟨l0, rfl⟩), (RX.up rec_gr hv2 (by omega)), (.inr ⟨by omega, by have := l81 (by omega); omega⟩)⟩, ?_⟩
  show m.one.length - (j + 1) < m.one.length - j; omega
 ·
  obtain ⟨x0, y0, rfl⟩ := k1.form
  refine sreg (sv (exT (xlss rfl rfl) (by omega)) (send ((wp_seq (cyes rfl (wp_skip (nThen ((wp_seq (wp_block (sreg (sM rfl (sA rfl (send (fhg 2 4 7 10 11 46 47 rfl fun _ => wp_block (lp [(2, _), (4, _), (7, _), (10, _), (11, _), (46, _), (47, _)] (fun (x : Nat × Nat × Value × Nat × List RecD) => match x with | (j, o2, x, g2, lx) => []) (fun (x : Nat × Nat × Value × Nat × List RecD) wx => match x with | (j, o2, x, g2, lx) => Fr (fun k => k = b4 ∨ k = b44) w74 wx ∧ (j ≤ m.two.length) ∧ (ListR (RecR Kp b) o2 (m.two.drop j) ec) ∧ (PrAt wx b4 (.slice ma n mc) (m.head.id.toNat : Int) ((hbits m.head).toNat : Int) (m.asks.length : Int) (m.one.length : Int) (m.two.length : Int) (m.three.length : Int) 4 (o2 : Int) (j : Int)) ∧ (SB wx b44 [1, 1, 1] [[(.slice x0 la.length y0)], [x], [.slice none 0 0]]) ∧ (All2 Like lx (m.two.take j)) ∧ (RX RecEl lRec NoU w74.heap.size wx.heap.size wx x g2 112 j lx) ∧ ((x = .slice none 0 0 ∧ lx = [] ∧ j = 0 ∧ g2 = b5) ∨ (w74.heap.size ≤ g2 ∧ g2 < wx.heap.size))) (fun (x : Nat × Nat × Value × Nat × List RecD) => match x with | (j, o2, x, g2, lx) => m.two.length - j) (0, eb, .slice none 0 0, b5, []) ⟨rfl, rfl, rfl, rfl, rfl, rfl, rfl, trivial⟩ ⟨Fr.refl _ _, Nat.zero_le _, hl2, hP, h44, All2.nil, RX.ofNil (Rw.nil _ _ _ _), .inl ⟨rfl, rfl, rfl, rfl⟩⟩ ?_))))))))))))))))
  rintro ⟨j, o2, x, g2, lx⟩ _ w115 ⟨hL114, hj, hls2, hP, h44, hA, hv2, hg4⟩
  refine fhg 2 4 7 10 11 46 47 rfl fun _ => ?_
  have z116 := hL114.size
  obtain ⟨ax, cx, rfl⟩ := RA.form hv2
  have hG := hG.keep (fun k hk => by omega) hL114 (fun k hk hS => by have hk := hk; have hS : k = b4 ∨ k = b44 := hS; omega)
  have hg0 := rng_fr hg0 hL114 (by omega) (by show ¬ (0 = b4 ∨ 0 = b44); omega)
  have hf := hf.step hL114 (fun k hk hS => by have hS : k = b4 ∨ k = b44 := hS; show False; omega)
  have h2 := h2.keep hL114 (by show ¬ (b2 = b4 ∨ b2 = b44); omega)
  have hm := rng_fr hm hL114 (by omega) (by show ¬ (bm = b4 ∨ bm = b44); omega)
  have h7 := h7.keep hL114 (by show ¬ (b7 = b4 ∨ b7 = b44); omega)
  have hLa := hLa.keep ask_st (lNo (by omega)) hL114 (fun k hk hS => by have hk := Ub.num (U := NoU) (n := 0) (fun _ h => h.elim) hk; have hS : k = b4 ∨ k = b44 := hS; omega)
  have hL73 := hL73.step hL114 (fun k hk hS => by have hS : k = b4 ∨ k = b44 := hS; show k = b4 ∨ k = b44; omega)
  have k1 := k1.keep rec_st (lNo (by omega)) hL114 (fun k hk hS => by have hk := Ub.num (U := NoU) (n := 0) (fun _ h => h.elim) hk; have hS : k = b4 ∨ k = b44 := hS; omega)
  rcases Nat.lt_or_ge j m.two.length with hlt | hge
  rotate_left
  ·
   refine wp_block (sreg ?_)
   obtain ⟨ho, ty, ln, hP⟩ := hP
   refine sc (xcall ca61 rfl) (c61p hP hg0 hG (by omega) (by omega) (by rw [cnt3]; omega) (by rw [cnt3]; omega) (by decide) (by decide)) ?_
   rintro _ w149 ⟨⟨rfl, hP⟩, m150⟩
   have z151 := m150.size
   have hP := (show PrAt _ b4 _ _ _ _ _ _ _ _ _ _ from ⟨_, _, _, hP⟩)
   have hLa := hLa.keep ask_st (lNo (by omega)) m150 (lN1 (by omega))
   have k1 := k1.keep rec_st (lNo (by omega)) m150 (lN1 (by omega))
   refine sM rfl (sE2 rfl (svK (xallS (lens := [256, 1, 1, 1, 1, 1]) in139 (by simp [nm_length])) ?_))
   rintro _ w153 ⟨b12, rfl, m154, h12, e152, s152⟩
   refine suK (xstW h12 (lens' := [256, 1, 1, 1, 1, 1]) sz139 (by simp [nm_length]) rfl (by simp only [List.cons_append, List.nil_append, fC, fN, aA, aN, nm_one, bT] <;> rfl) rfl rfl) ?_
   rintro w156 ⟨m157, h12, s155⟩
   have hP := (hP.k m154).keep m157 (nE (by omega))
   refine sA rfl (send ((wp_seq (sreg (sM rfl (sv (exT (xeql rfl rfl) (by omega)) (send (fkg 2 4 7 10 11 12 13 46 47 55 rfl fun _ => cyes rfl (lreg ?_)))))))))
   obtain ⟨ho, ty, ln, hP⟩ := hP
   have hG := ((hG.k1 m150 (by omega) (by omega)).k0 m154 (by omega)).k1 m157 (by omega) (by omega)
   have hg0 := rng_fr (rng_fr (rng_fr hg0 m150 (by omega) (nE (by omega))) m154 (by omega) id) m157 (by omega) (nE (by omega))
   have hv2 := RX.keep (RX.keep (RX.keep hv2 rec_st (lU hU (by omega)) (by omega) m150 (fun k hk hk3 hS => by have hS : k = b4 := hS; rcases hk with hk | hk <;> first | omega | (have := hU k hk; omega)) (nE (by omega))) rec_st (lU hU (by omega)) (by omega) m154 (fun _ _ _ h => h) id) rec_st (lU hU (by omega)) (by omega) m157 (fun k hk hk3 hS => by have hS : k = b12 := hS; rcases hk with hk | hk <;> first | omega | (have := hU k hk; omega)) (nE (by omega))
   have hLa := (hLa.keep ask_st (lNo (by omega)) m154 nF).keep ask_st (lNo (by omega)) m157 (lN1 (by omega))
   have k1 := (k1.keep rec_st (lNo (by omega)) m154 nF).keep rec_st (lNo (by omega)) m157 (lN1 (by omega))
   refine sc (xcall ca62 rfl) (c62d hP hg0 hG (by omega) (by omega) (by rw [cnt4]; omega) (by rw [cnt4]; omega) (by rw [cnt4]; omega)) ?_
   rintro _ w158 ⟨⟨rfl, hP⟩, m159⟩
   have z160 := m159.size
   have h12 := h12.keep m159 (nE (by omega))
   refine sM rfl (sE2 rfl (suK (xstW h12 (lens' := [256, 1, 1, 1, 1, 1]) sz139 (by simp [nm_length]) rfl (by simp only [List.cons_append, List.nil_append, fC, fN, aA, aN, nm_one, bT] <;> rfl) rfl rfl) ?_))
   rintro w162 ⟨m163, h12, s161⟩
   have hg0 := rng_fr (rng_fr hg0 m159 (by omega) (nE (by omega))) m163 (by omega) (nE (by omega))
   refine sA rfl (lend (nThen ((wp_seq (sreg (sM rfl (sv (xld on89 rfl (hg0 0 _ rfl)) (sv (xeqES if89 hCT rfl rfl) (send ((cyes rfl (wp_exit (eThen (eMiss (by decide) (eThen (eHit (nBlock (nThen (fgg 2 4 7 10 46 47 rfl fun _ => ?_)))))))))))))))))))
   have hoe := listR_end hls2 hge
   have hP := hP.keep m163 (nE (by omega))
   rw [hoe] at hP
   have hke : m.two.take j = m.two := List.take_of_length_le hge
   rw [hke] at hA
   have h2 := ((((h2.keep m150 (nE (by omega))).k m154).keep m157 (nE (by omega))).keep m159 (nE (by omega))).keep m163 (nE (by omega))
   have hv2 := RX.keep (RX.keep hv2 rec_st (lU hU (by omega)) (by omega) m159 (fun k hk hk3 hS => by have hS : k = b4 := hS; rcases hk with hk | hk <;> first | omega | (have := hU k hk; omega)) (nE (by omega))) rec_st (lU hU (by omega)) (by omega) m163 (fun k hk hk3 hS => by have hS : k = b12 := hS; rcases hk with hk | hk <;> first | omega | (have := hU k hk; omega)) (nE (by omega))
   have hLx : LA RecEl lRec (Ub NoU w71 w162) w162 (.slice ax j cx) lx := RA.la0 hv2 (by decide) rec_gr (fun k hk => hk.1.elim (fun h => h.elim) (fun h => .inr ⟨by omega, by omega⟩)) (by rcases hg4 with ⟨-, -, h, -⟩ | ⟨h1, h2⟩; exact .inl h; exact .inr (.inr ⟨by omega, by omega⟩))
   have hL73 := ((((hL73.step m150 (fun k hk hS => by have hS : k = b4 := hS; show k = b4 ∨ k = b44; omega)).s m154).step m157 (fun k hk hS => by have hS : k = b12 := hS; show k = b4 ∨ k = b44; omega)).step m159 (fun k hk hS => by have hS : k = b4 := hS; show k = b4 ∨ k = b44; omega)).step m163 (fun k hk hS => by have hS : k = b12 := hS; show k = b4 ∨ k = b44; omega)
   have h44 := ((((h44.keep m150 (nE (by omega))).k m154).keep m157 (nE (by omega))).keep m159 (nE (by omega))).keep m163 (nE (by omega))
   have k1 := (k1.keep rec_st (lNo (by omega)) m159 (lN1 (by omega))).keep rec_st (lNo (by omega)) m163 (lN1 (by omega))
   refine lreg (sv (xadd rfl rfl (w64 (by omega) (by omega))) (sM rfl (lend (nThen ?_))))
   refine ⟨(2, la, lx, [], _, _, .slice none 0 0), _, env_okl ⟨rfl, rfl, rfl, rfl, rfl, rfl, trivial⟩, ⟨hL73, (by omega), (h44), (.inr (.inr (.inl ⟨rfl, (k1.mono rec_gr (fun k hk => hk.elim (fun h => h.elim) (fun h => .inr ⟨h.1, by omega⟩))), hA1, hLx, hA, rfl, ⟨_, _, _, hP⟩⟩)))⟩, ?_⟩
   show 3 - (_ + 1) < 3 - _; omega
  obtain ⟨r, hrk⟩ := some_of_lt hlt
  obtain ⟨o1, hRa, hls1⟩ := listR_drop hls2 hrk
  have hoe := listR_le hls1 (fun _ _ _ _ h => rec_le h)
  refine wp_block (sreg ?_)
  obtain ⟨ho, ty, ln, hP⟩ := hP
  refine sc (xcall ca61 rfl) (c61p hP hg0 hG (by omega) (by omega) (by rw [cnt3]; omega) (by rw [cnt3]; omega) (by decide) (by decide)) ?_
  rintro _ w117 ⟨⟨rfl, hP⟩, m118⟩
  have z119 := m118.size
  have hP := (show PrAt _ b4 _ _ _ _ _ _ _ _ _ _ from ⟨_, _, _, hP⟩)
  have hLa := hLa.keep ask_st (lNo (by omega)) m118 (lN1 (by omega))
  have k1 := k1.keep rec_st (lNo (by omega)) m118 (lN1 (by omega))
  refine sM rfl (sE2 rfl (svK (xallS (lens := [256, 1, 1, 1, 1, 1]) in139 (by simp [nm_length])) ?_))
  rintro _ w121 ⟨b12, rfl, m122, h12, e120, s120⟩
  refine suK (xstW h12 (lens' := [256, 1, 1, 1, 1, 1]) sz139 (by simp [nm_length]) rfl (by simp only [List.cons_append, List.nil_append, fC, fN, aA, aN, nm_one, bT] <;> rfl) rfl rfl) ?_
  rintro w124 ⟨m125, h12, s123⟩
  have hP := (hP.k m122).keep m125 (nE (by omega))
  refine sA rfl (send ((wp_seq (sreg (sM rfl (sv (exT (xeql rfl rfl) (by omega)) (send (fkg 2 4 7 10 11 12 13 46 47 55 rfl fun _ => cyes rfl (lreg ?_)))))))))
  obtain ⟨ho, ty, ln, hP⟩ := hP
  have hG := ((hG.k1 m118 (by omega) (by omega)).k0 m122 (by omega)).k1 m125 (by omega) (by omega)
  have hg0 := rng_fr (rng_fr (rng_fr hg0 m118 (by omega) (nE (by omega))) m122 (by omega) id) m125 (by omega) (nE (by omega))
  have hm := rng_fr (rng_fr (rng_fr hm m118 (by omega) (nE (by omega))) m122 (by omega) id) m125 (by omega) (nE (by omega))
  have hv2 := RX.keep (RX.keep (RX.keep hv2 rec_st (lU hU (by omega)) (by omega) m118 (fun k hk hk3 hS => by have hS : k = b4 := hS; rcases hk with hk | hk <;> first | omega | (have := hU k hk; omega)) (nE (by omega))) rec_st (lU hU (by omega)) (by omega) m122 (fun _ _ _ h => h) id) rec_st (lU hU (by omega)) (by omega) m125 (fun k hk hk3 hS => by have hS : k = b12 := hS; rcases hk with hk | hk <;> first | omega | (have := hU k hk; omega)) (nE (by omega))
  have hLa := (hLa.keep ask_st (lNo (by omega)) m122 nF).keep ask_st (lNo (by omega)) m125 (lN1 (by omega))
  have k1 := (k1.keep rec_st (lNo (by omega)) m122 nF).keep rec_st (lNo (by omega)) m125 (lN1 (by omega))
  refine sc (xcall ca62 rfl) (c62g (Kp := Kp) (e := o1) (r := r) (B := 0) (mb := 0) (sf := fun _ => emptyB) hms hm (by omega) hnb hkm hbl hP hg0 hG (by omega) (by omega) (by rw [cnt4]; omega) (by rw [cnt4]; omega) (by omega) (by rw [cnt4]; omega) (by omega) (by omega) (Nat.zero_le _) hKp hRa (hr2 r (List.mem_of_getElem? hrk)).1 (hr2 r (List.mem_of_getElem? hrk)).2 (by omega) (.inl (by omega))) ?_
  rintro _ w126 ⟨⟨hle57, sg57, rfl, hV, hP⟩ | ⟨hgt57, -⟩, m127⟩
  rotate_left
  · exact absurd hgt57 (by omega)
  have z128 := m127.size
  obtain ⟨len, vb, hl16, rfl, hbe⟩ := hV
  obtain ⟨bB, TB, lB, sB, rfl, -⟩ := id hbe
  obtain ⟨l0, rfl⟩ := u16_of hl16
  have h12 := h12.keep m127 (nE (by omega))
  refine sM rfl (sE2 rfl (suK (xstW h12 (lens' := [256, 1, 1, 1, 1, 1]) sz139 (by simp [rhSegs, nm_length]) rfl (by simp only [rhSegs, List.cons_append, List.nil_append, fC, fN, aA, aN, nm_one, bT] <;> rfl) rfl rfl) ?_))
  rintro w130 ⟨m131, h12, s129⟩
  have hg0 := rng_fr (rng_fr hg0 m127 (by omega) (nE (by omega))) m131 (by omega) (nE (by omega))
  refine sA rfl (lend (nThen ((wp_seq (sreg (sM rfl (sv (xld on89 rfl (hg0 0 _ rfl)) (sv (xeqEN if89 rfl rfl) (send ((cno rfl (wp_skip (nThen ((wp_seq (sreg (sM rfl (sv (xneN if89 rfl) (send (fjg 2 4 7 10 11 12 46 47 70 rfl fun _ => cno rfl (wp_skip (nThen (fig 2 4 7 10 11 12 46 47 rfl fun _ => ?_)))))))))))))))))))))))
  refine ldrawH (Fr (fun k => k = g2) w130.drew) [rd0, rd1, rd2, rd3, rd4, rd5, rd6, ld7, ld8, ld9, rd10, bh11] mixed (by kernel_rfl) (fun _ _ _ _ _ h => h) ?_
  have z132 : w130.drew.heap.size = w130.heap.size := rfl
  have h44 := (((((h44.keep m118 (nE (by omega))).k m122).keep m125 (nE (by omega))).keep m127 (nE (by omega))).keep m131 (nE (by omega))).drew
  have zb_h44 := h44
  have h12 := h12.drew
  have zb_h12 := h12
  have hS133 : Fr (fun k => k = g2) w130.drew w130.drew := Fr.refl _ _
  have hbe := (hbe.keep (lNo (by omega)) m131 (lN1 (by omega))).keep (lNo (by omega)) (fd w130) nF
  have hLa := ((hLa.keep ask_st (lNo (by omega)) m127 (lN1 (by omega))).keep ask_st (lNo (by omega)) m131 (lN1 (by omega))).keep ask_st (lNo (by omega)) (fd w130) nF
  have k1 := ((k1.keep rec_st (lNo (by omega)) m127 (lN1 (by omega))).keep rec_st (lNo (by omega)) m131 (lN1 (by omega))).keep rec_st (lNo (by omega)) (fd w130) nF
  have hv2 := RX.keep (RX.keep (RX.keep hv2 rec_st (lU hU (by omega)) (by omega) m127 (fun k hk hk3 hS => by have hS : k = b4 := hS; rcases hk with hk | hk <;> first | omega | (have := hU k hk; omega)) (nE (by omega))) rec_st (lU hU (by omega)) (by omega) m131 (fun k hk hk3 hS => by have hS : k = b12 := hS; rcases hk with hk | hk <;> first | omega | (have := hU k hk; omega)) (nE (by omega))) rec_st (lU hU (by omega)) (by omega) (fd w130) (fun _ _ _ h => h) id
  refine qqM rfl rfl hS133 (qqM rfl rfl hS133 (qqM rfl rfl hS133 (qqM rfl rfl hS133 (hvH rfl (fun _ _ => xidx1 (i := 1) sl133 sz26 rfl rfl rfl (by omega)) hS133 (hvH rfl (fun w' hS => xld on26 rfl ((zb_h44.keep hS (nE (by omega))).r.c 1 rfl rfl)) hS133 (hvH rfl (fun w' hS => xldS (lens := [256, 1, 1, 1, 1, 1]) ro139 rfl (zb_h12.keep hS (nE (by omega))).r) hS133 ?_))))))
  refine hcH rfl (xcall ca64 rfl) (c64 (U := Ub NoU w124 w126) (lNo (by omega)) hbe (hb2 r (List.mem_of_getElem? hrk)).1 (hb2 r (List.mem_of_getElem? hrk)).2.1 (hb2 r (List.mem_of_getElem? hrk)).2.2.1 (hb2 r (List.mem_of_getElem? hrk)).2.2.2.1 (hb2 r (List.mem_of_getElem? hrk)).2.2.2.2) ?_
  rintro _ w134 ⟨vd, vt, vp, rfl, hd, ht, hp, m135⟩
  have z136 := m135.size
  have hS137 := hS133.s m135
  obtain ⟨ad, cd, rfl, -⟩ := id hd
  obtain ⟨at1, ct1, rfl⟩ := ht.form
  obtain ⟨ap1, cp1, rfl⟩ := hp.form
  have hv2 := RX.keep hv2 rec_st (lU hU (by omega)) (by omega) m135 (fun _ _ _ h => h) id
  refine ⟨hS137, ?_⟩
  refine hlKH rfl (xslit ((recSegs (normR r l0) (.slice ad (normR r l0).data.length cd) (.slice at1 (normR r l0).texts.length ct1) (.slice ap1 (normR r l0).pairs.length cp1)).flatten) sl26 in112 rfl (by decide) rfl rfl rfl rfl (by decide) (ag_flat _) rfl) ?_
  rintro _ w139 ⟨b80, rfl, m140, h80, e80, s80, r80⟩
  have hS141 := hS137.s m140
  have hv2 := RX.keep hv2 rec_st (lU hU (by omega)) (by omega) m140 (fun _ _ _ h => h) id
  refine ⟨hS141, ?_⟩
  obtain ⟨gp, hv2, hgp⟩ := RX.pick hv2 hg4
  obtain ⟨ss81, hR81, hA81⟩ := hv2
  refine hlKH rfl (xapp sl26 in112 rfl (by decide) rfl rfl hR81 (r80.src sl26) (by simp only [maxLen]; omega) (by omega)) ?_
  rintro v81 w142 ⟨g81, r81, m143, a81, l81⟩
  have z144 := m143.size
  have hS145 := hS141.step m143 (fun k hk hS => by have hS : k = gp := hS; show k = g2; omega)
  have hd := (hd.keep (fun k hk => by have hk := (show (w124.heap.size ≤ k ∧ k < w126.heap.size) ∨ (w130.drew.heap.size ≤ k ∧ k < w134.heap.size) from hk.imp_left (fun h => h.elim (fun h => h.elim) id)); omega) m140 nF).keep (fun k hk => by have hk := (show (w124.heap.size ≤ k ∧ k < w126.heap.size) ∨ (w130.drew.heap.size ≤ k ∧ k < w134.heap.size) from hk.imp_left (fun h => h.elim (fun h => h.elim) id)); omega) m143 (fun k hk hS => by have hk := (show (w124.heap.size ≤ k ∧ k < w126.heap.size) ∨ (w130.drew.heap.size ≤ k ∧ k < w134.heap.size) from hk.imp_left (fun h => h.elim (fun h => h.elim) id)); have hS : k = gp := hS; omega)
  have ht := (ht.keep text_st (fun k hk => by have hk := (show (w124.heap.size ≤ k ∧ k < w126.heap.size) ∨ (w130.drew.heap.size ≤ k ∧ k < w134.heap.size) from hk.imp_left (fun h => h.elim (fun h => h.elim) id)); omega) m140 nF).keep text_st (fun k hk => by have hk := (show (w124.heap.size ≤ k ∧ k < w126.heap.size) ∨ (w130.drew.heap.size ≤ k ∧ k < w134.heap.size) from hk.imp_left (fun h => h.elim (fun h => h.elim) id)); omega) m143 (fun k hk hS => by have hk := (show (w124.heap.size ≤ k ∧ k < w126.heap.size) ∨ (w130.drew.heap.size ≤ k ∧ k < w134.heap.size) from hk.imp_left (fun h => h.elim (fun h => h.elim) id)); have hS : k = gp := hS; omega)
  have hp := (hp.keep pair_st (fun k hk => by have hk := (show (w124.heap.size ≤ k ∧ k < w126.heap.size) ∨ (w130.drew.heap.size ≤ k ∧ k < w134.heap.size) from hk.imp_left (fun h => h.elim (fun h => h.elim) id)); omega) m140 nF).keep pair_st (fun k hk => by have hk := (show (w124.heap.size ≤ k ∧ k < w126.heap.size) ∨ (w130.drew.heap.size ≤ k ∧ k < w134.heap.size) from hk.imp_left (fun h => h.elim (fun h => h.elim) id)); omega) m143 (fun k hk hS => by have hk := (show (w124.heap.size ≤ k ∧ k < w126.heap.size) ∨ (w130.drew.heap.size ≤ k ∧ k < w134.heap.size) from hk.imp_left (fun h => h.elim (fun h => h.elim) id)); have hS : k = gp := hS; omega)
  have hv2 := RX.snoc (x := (normR r l0)) w142.heap.size hA81 rec_st rec_gr (lU hU (by omega)) (by omega) (by omega) m143 a81 r81 rfl (⟨_, _, _, rfl, hd.mono (fun k h => by have h := (show (w124.heap.size ≤ k ∧ k < w126.heap.size) ∨ (w130.drew.heap.size ≤ k ∧ k < w134.heap.size) from h.imp_left (fun h => h.elim (fun h => h.elim) id)); exact ⟨.inr ⟨by omega, by omega⟩, by omega⟩), ht.mono text_gr (fun k h => by have h := (show (w124.heap.size ≤ k ∧ k < w126.heap.size) ∨ (w130.drew.heap.size ≤ k ∧ k < w134.heap.size) from h.imp_left (fun h => h.elim (fun h => h.elim) id)); exact ⟨.inr ⟨by omega, by omega⟩, by omega⟩), hp.mono pair_gr (fun k h => by have h := (show (w124.heap.size ≤ k ∧ k < w126.heap.size) ∨ (w130.drew.heap.size ≤ k ∧ k < w134.heap.size) from h.imp_left (fun h => h.elim (fun h => h.elim) id)); exact ⟨.inr ⟨by omega, by omega⟩, by omega⟩)⟩)
  have h44 := ((h44.k m135).k m140).keep m143 (nE (by omega))
  refine ⟨hS145, ?_⟩
  refine hvH rfl (fun _ _ => xidx1 (i := 1) sl133 sz26 rfl rfl rfl (by omega)) hS145 ?_
  refine bluKH rfl (xstF 1 sz26 h44 rfl rfl rfl rfl (by obtain ⟨_, _, rfl⟩ := RA.form hv2; rfl)) ?_
  rintro w147 ⟨m148, h44, s146⟩
  have hL114 := (((((((((hL114.step m118 (fun k hk hS => by have hS : k = b4 := hS; show k = b4 ∨ k = b44; omega)).s m122).step m125 (fun k hk hS => by have hS : k = b12 := hS; show k = b4 ∨ k = b44; omega)).step m127 (fun k hk hS => by have hS : k = b4 := hS; show k = b4 ∨ k = b44; omega)).step m131 (fun k hk hS => by have hS : k = b12 := hS; show k = b4 ∨ k = b44; omega)).drew).s m135).s m140).step m143 (fun k hk hS => by have hS : k = gp := hS; show k = b4 ∨ k = b44; omega)).step m148 (fun k hk hS => by have hS : k = b44 := hS; show k = b4 ∨ k = b44; omega)
  have hP := (((((hP.keep m131 (nE (by omega))).k (fd w130)).k m135).k m140).keep m143 (nE (by omega))).keep m148 (nE (by omega))
  have hv2 := RX.keep hv2 rec_st (lU hU (by omega)) (by omega) m148 (fun k hk hk3 hS => by have hS : k = b44 := hS; rcases hk with hk | hk <;> first | omega | (have := hU k hk; omega)) (nE (by omega))
  refine lhendH (nBlock (nThen ?_))
  refine ⟨(j + 1, o1, _, g81, lx ++ [normR r l0]), _, env_okl ⟨rfl, rfl, rfl, rfl, rfl, rfl, rfl, trivial⟩, ⟨hL114, (by omega), (hls1), (prat_cast hP rfl (by omega)), (h44), (by rw [take_snoc hrk]; exact hA.snoc ⟨l0, rfl⟩), (RX.up rec_gr hv2 (by omega)), (.inr ⟨by omega, by have := l81 (by omega); omega⟩)⟩, ?_⟩
  show m.two.length - (j + 1) < m.two.length - j; omega
 ·
  obtain ⟨x0, y0, rfl⟩ := k1.form
  obtain ⟨x1, y1, rfl⟩ := k2.form
  refine sreg (sv (exT (xlss rfl rfl) (by omega)) (send ((wp_seq (cyes rfl (wp_skip (nThen ((wp_seq (wp_block (sreg (sM rfl (sA rfl (send (fhg 2 4 7 10 11 46 47 rfl fun _ => wp_block (lp [(2, _), (4, _), (7, _), (10, _), (11, _), (46, _), (47, _)] (fun (x : Nat × Nat × Value × Nat × List RecD) => match x with | (j, o2, x, g2, lx) => []) (fun (x : Nat × Nat × Value × Nat × List RecD) wx => match x with | (j, o2, x, g2, lx) => Fr (fun k => k = b4 ∨ k = b44) w74 wx ∧ (j ≤ m.three.length) ∧ (ListR (RecR Kp b) o2 (m.three.drop j) b.length) ∧ (PrAt wx b4 (.slice ma n mc) (m.head.id.toNat : Int) ((hbits m.head).toNat : Int) (m.asks.length : Int) (m.one.length : Int) (m.two.length : Int) (m.three.length : Int) 5 (o2 : Int) (j : Int)) ∧ (SB wx b44 [1, 1, 1] [[(.slice x0 la.length y0)], [(.slice x1 lb.length y1)], [x]]) ∧ (All2 Like lx (m.three.take j)) ∧ (RX RecEl lRec NoU w74.heap.size wx.heap.size wx x g2 112 j lx) ∧ ((x = .slice none 0 0 ∧ lx = [] ∧ j = 0 ∧ g2 = b5) ∨ (w74.heap.size ≤ g2 ∧ g2 < wx.heap.size))) (fun (x : Nat × Nat × Value × Nat × List RecD) => match x with | (j, o2, x, g2, lx) => m.three.length - j) (0, ec, .slice none 0 0, b5, []) ⟨rfl, rfl, rfl, rfl, rfl, rfl, rfl, trivial⟩ ⟨Fr.refl _ _, Nat.zero_le _, hl3, hP, h44, All2.nil, RX.ofNil (Rw.nil _ _ _ _), .inl ⟨rfl, rfl, rfl, rfl⟩⟩ ?_))))))))))))))))
  rintro ⟨j, o2, x, g2, lx⟩ _ w165 ⟨hL164, hj, hls2, hP, h44, hA, hv2, hg4⟩
  refine fhg 2 4 7 10 11 46 47 rfl fun _ => ?_
  have z166 := hL164.size
  obtain ⟨ax, cx, rfl⟩ := RA.form hv2
  have hG := hG.keep (fun k hk => by omega) hL164 (fun k hk hS => by have hk := hk; have hS : k = b4 ∨ k = b44 := hS; omega)
  have hg0 := rng_fr hg0 hL164 (by omega) (by show ¬ (0 = b4 ∨ 0 = b44); omega)
  have hf := hf.step hL164 (fun k hk hS => by have hS : k = b4 ∨ k = b44 := hS; show False; omega)
  have h2 := h2.keep hL164 (by show ¬ (b2 = b4 ∨ b2 = b44); omega)
  have h7 := h7.keep hL164 (by show ¬ (b7 = b4 ∨ b7 = b44); omega)
  have hLa := hLa.keep ask_st (lNo (by omega)) hL164 (fun k hk hS => by have hk := Ub.num (U := NoU) (n := 0) (fun _ h => h.elim) hk; have hS : k = b4 ∨ k = b44 := hS; omega)
  have hL73 := hL73.step hL164 (fun k hk hS => by have hS : k = b4 ∨ k = b44 := hS; show k = b4 ∨ k = b44; omega)
  have k1 := k1.keep rec_st (lNo (by omega)) hL164 (fun k hk hS => by have hk := Ub.num (U := NoU) (n := 0) (fun _ h => h.elim) hk; have hS : k = b4 ∨ k = b44 := hS; omega)
  have k2 := k2.keep rec_st (lNo (by omega)) hL164 (fun k hk hS => by have hk := Ub.num (U := NoU) (n := 0) (fun _ h => h.elim) hk; have hS : k = b4 ∨ k = b44 := hS; omega)
  rcases Nat.lt_or_ge j m.three.length with hlt | hge
  rotate_left
  ·
   refine wp_block (sreg ?_)
   obtain ⟨ho, ty, ln, hP⟩ := hP
   refine sc (xcall ca61 rfl) (c61p hP hg0 hG (by omega) (by omega) (by rw [cnt3]; omega) (by rw [cnt3]; omega) (by decide) (by decide)) ?_
   rintro _ w199 ⟨⟨rfl, hP⟩, m200⟩
   have z201 := m200.size
   have hP := (show PrAt _ b4 _ _ _ _ _ _ _ _ _ _ from ⟨_, _, _, hP⟩)
   have hLa := hLa.keep ask_st (lNo (by omega)) m200 (lN1 (by omega))
   have k1 := k1.keep rec_st (lNo (by omega)) m200 (lN1 (by omega))
   have k2 := k2.keep rec_st (lNo (by omega)) m200 (lN1 (by omega))
   refine sM rfl (sE2 rfl (svK (xallS (lens := [256, 1, 1, 1, 1, 1]) in139 (by simp [nm_length])) ?_))
   rintro _ w203 ⟨b12, rfl, m204, h12, e202, s202⟩
   refine suK (xstW h12 (lens' := [256, 1, 1, 1, 1, 1]) sz139 (by simp [nm_length]) rfl (by simp only [List.cons_append, List.nil_append, fC, fN, aA, aN, nm_one, bT] <;> rfl) rfl rfl) ?_
   rintro w206 ⟨m207, h12, s205⟩
   have hP := (hP.k m204).keep m207 (nE (by omega))
   refine sA rfl (send ((wp_seq (sreg (sM rfl (sv (exF (xeql rfl rfl) (by omega)) (send ((cno rfl (sreg (sM rfl (sv (exT (xeql rfl rfl) (by omega)) (send (fkg 2 4 7 10 11 12 13 46 47 61 rfl fun _ => cyes rfl (lreg ?_)))))))))))))))
   obtain ⟨ho, ty, ln, hP⟩ := hP
   have hG := ((hG.k1 m200 (by omega) (by omega)).k0 m204 (by omega)).k1 m207 (by omega) (by omega)
   have hg0 := rng_fr (rng_fr (rng_fr hg0 m200 (by omega) (nE (by omega))) m204 (by omega) id) m207 (by omega) (nE (by omega))
   have hv2 := RX.keep (RX.keep (RX.keep hv2 rec_st (lU hU (by omega)) (by omega) m200 (fun k hk hk3 hS => by have hS : k = b4 := hS; rcases hk with hk | hk <;> first | omega | (have := hU k hk; omega)) (nE (by omega))) rec_st (lU hU (by omega)) (by omega) m204 (fun _ _ _ h => h) id) rec_st (lU hU (by omega)) (by omega) m207 (fun k hk hk3 hS => by have hS : k = b12 := hS; rcases hk with hk | hk <;> first | omega | (have := hU k hk; omega)) (nE (by omega))
   have hLa := (hLa.keep ask_st (lNo (by omega)) m204 nF).keep ask_st (lNo (by omega)) m207 (lN1 (by omega))
   have k1 := (k1.keep rec_st (lNo (by omega)) m204 nF).keep rec_st (lNo (by omega)) m207 (lN1 (by omega))
   have k2 := (k2.keep rec_st (lNo (by omega)) m204 nF).keep rec_st (lNo (by omega)) m207 (lN1 (by omega))
   refine sc (xcall ca63 rfl) (c63d hP hg0 hG (by omega) (by omega) (by rw [cnt5]; omega) (by rw [cnt5]; omega) (by rw [cnt5]; omega)) ?_
   rintro _ w208 ⟨⟨rfl, hP⟩, m209⟩
   have z210 := m209.size
   have h12 := h12.keep m209 (nE (by omega))
   refine sM rfl (sE2 rfl (suK (xstW h12 (lens' := [256, 1, 1, 1, 1, 1]) sz139 (by simp [nm_length]) rfl (by simp only [List.cons_append, List.nil_append, fC, fN, aA, aN, nm_one, bT] <;> rfl) rfl rfl) ?_))
   rintro w212 ⟨m213, h12, s211⟩
   have hg0 := rng_fr (rng_fr hg0 m209 (by omega) (nE (by omega))) m213 (by omega) (nE (by omega))
   refine sA rfl (lend (nThen ((wp_seq (sreg (sM rfl (sv (xld on89 rfl (hg0 0 _ rfl)) (sv (xeqES if89 hCT rfl rfl) (send ((cyes rfl (wp_exit (eThen (eMiss (by decide) (eThen (eHit (nBlock (nThen (fgg 2 4 7 10 46 47 rfl fun _ => ?_)))))))))))))))))))
   have hoe := listR_end hls2 hge
   have hP := hP.keep m213 (nE (by omega))
   rw [hoe] at hP
   have hke : m.three.take j = m.three := List.take_of_length_le hge
   rw [hke] at hA
   have h2 := ((((h2.keep m200 (nE (by omega))).k m204).keep m207 (nE (by omega))).keep m209 (nE (by omega))).keep m213 (nE (by omega))
   have hv2 := RX.keep (RX.keep hv2 rec_st (lU hU (by omega)) (by omega) m209 (fun k hk hk3 hS => by have hS : k = b4 := hS; rcases hk with hk | hk <;> first | omega | (have := hU k hk; omega)) (nE (by omega))) rec_st (lU hU (by omega)) (by omega) m213 (fun k hk hk3 hS => by have hS : k = b12 := hS; rcases hk with hk | hk <;> first | omega | (have := hU k hk; omega)) (nE (by omega))
   have hLx : LA RecEl lRec (Ub NoU w71 w212) w212 (.slice ax j cx) lx := RA.la0 hv2 (by decide) rec_gr (fun k hk => hk.1.elim (fun h => h.elim) (fun h => .inr ⟨by omega, by omega⟩)) (by rcases hg4 with ⟨-, -, h, -⟩ | ⟨h1, h2⟩; exact .inl h; exact .inr (.inr ⟨by omega, by omega⟩))
   have hL73 := ((((hL73.step m200 (fun k hk hS => by have hS : k = b4 := hS; show k = b4 ∨ k = b44; omega)).s m204).step m207 (fun k hk hS => by have hS : k = b12 := hS; show k = b4 ∨ k = b44; omega)).step m209 (fun k hk hS => by have hS : k = b4 := hS; show k = b4 ∨ k = b44; omega)).step m213 (fun k hk hS => by have hS : k = b12 := hS; show k = b4 ∨ k = b44; omega)
   have h44 := ((((h44.keep m200 (nE (by omega))).k m204).keep m207 (nE (by omega))).keep m209 (nE (by omega))).keep m213 (nE (by omega))
   have k1 := (k1.keep rec_st (lNo (by omega)) m209 (lN1 (by omega))).keep rec_st (lNo (by omega)) m213 (lN1 (by omega))
   have k2 := (k2.keep rec_st (lNo (by omega)) m209 (lN1 (by omega))).keep rec_st (lNo (by omega)) m213 (lN1 (by omega))
   refine lreg (sv (xadd rfl rfl (w64 (by omega) (by omega))) (sM rfl (lend (nThen ?_))))
   refine ⟨(3, la, lb, lx, _, _, _), _, env_okl ⟨rfl, rfl, rfl, rfl, rfl, rfl, trivial⟩, ⟨hL73, (by omega), (h44), (.inr (.inr (.inr ⟨rfl, (k1.mono rec_gr (fun k hk => hk.elim (fun h => h.elim) (fun h => .inr ⟨h.1, by omega⟩))), hA1, (k2.mono rec_gr (fun k hk => hk.elim (fun h => h.elim) (fun h => .inr ⟨h.1, by omega⟩))), hA2, hLx, hA⟩)))⟩, ?_⟩
   show 3 - (_ + 1) < 3 - _; omega
  obtain ⟨r, hrk⟩ := some_of_lt hlt
  obtain ⟨o1, hRa, hls1⟩ := listR_drop hls2 hrk
  have hoe := listR_le hls1 (fun _ _ _ _ h => rec_le h)
  refine wp_block (sreg ?_)
  obtain ⟨ho, ty, ln, hP⟩ := hP
  refine sc (xcall ca61 rfl) (c61p hP hg0 hG (by omega) (by omega) (by rw [cnt3]; omega) (by rw [cnt3]; omega) (by decide) (by decide)) ?_
  rintro _ w167 ⟨⟨rfl, hP⟩, m168⟩
  have z169 := m168.size
  have hP := (show PrAt _ b4 _ _ _ _ _ _ _ _ _ _ from ⟨_, _, _, hP⟩)
  have hLa := hLa.keep ask_st (lNo (by omega)) m168 (lN1 (by omega))
  have k1 := k1.keep rec_st (lNo (by omega)) m168 (lN1 (by omega))
  have k2 := k2.keep rec_st (lNo (by omega)) m168 (lN1 (by omega))
  refine sM rfl (sE2 rfl (svK (xallS (lens := [256, 1, 1, 1, 1, 1]) in139 (by simp [nm_length])) ?_))
  rintro _ w171 ⟨b12, rfl, m172, h12, e170, s170⟩
  refine suK (xstW h12 (lens' := [256, 1, 1, 1, 1, 1]) sz139 (by simp [nm_length]) rfl (by simp only [List.cons_append, List.nil_append, fC, fN, aA, aN, nm_one, bT] <;> rfl) rfl rfl) ?_
  rintro w174 ⟨m175, h12, s173⟩
  have hP := (hP.k m172).keep m175 (nE (by omega))
  refine sA rfl (send ((wp_seq (sreg (sM rfl (sv (exF (xeql rfl rfl) (by omega)) (send ((cno rfl (sreg (sM rfl (sv (exT (xeql rfl rfl) (by omega)) (send (fkg 2 4 7 10 11 12 13 46 47 61 rfl fun _ => cyes rfl (lreg ?_)))))))))))))))
  obtain ⟨ho, ty, ln, hP⟩ := hP
  have hm := rng_fr (rng_fr (rng_fr (rng_fr hm hL164 (by omega) (by show ¬ (bm = b4 ∨ bm = b44); omega)) m168 (by omega) (nE (by omega))) m172 (by omega) id) m175 (by omega) (nE (by omega))
  have hG := ((hG.k1 m168 (by omega) (by omega)).k0 m172 (by omega)).k1 m175 (by omega) (by omega)
  have hg0 := rng_fr (rng_fr (rng_fr hg0 m168 (by omega) (nE (by omega))) m172 (by omega) id) m175 (by omega) (nE (by omega))
  have hv2 := RX.keep (RX.keep (RX.keep hv2 rec_st (lU hU (by omega)) (by omega) m168 (fun k hk hk3 hS => by have hS : k = b4 := hS; rcases hk with hk | hk <;> first | omega | (have := hU k hk; omega)) (nE (by omega))) rec_st (lU hU (by omega)) (by omega) m172 (fun _ _ _ h => h) id) rec_st (lU hU (by omega)) (by omega) m175 (fun k hk hk3 hS => by have hS : k = b12 := hS; rcases hk with hk | hk <;> first | omega | (have := hU k hk; omega)) (nE (by omega))
  have hLa := (hLa.keep ask_st (lNo (by omega)) m172 nF).keep ask_st (lNo (by omega)) m175 (lN1 (by omega))
  have k1 := (k1.keep rec_st (lNo (by omega)) m172 nF).keep rec_st (lNo (by omega)) m175 (lN1 (by omega))
  have k2 := (k2.keep rec_st (lNo (by omega)) m172 nF).keep rec_st (lNo (by omega)) m175 (lN1 (by omega))
  refine sc (xcall ca63 rfl) (c63g (Kp := Kp) (e := o1) (r := r) (B := 0) (mb := 0) (sf := fun _ => emptyB) hms hm (by omega) hnb hkm hbl hP hg0 hG (by omega) (by omega) (by rw [cnt5]; omega) (by rw [cnt5]; omega) (by omega) (by rw [cnt5]; omega) (by omega) (by omega) (Nat.zero_le _) hKp hRa (hr3 r (List.mem_of_getElem? hrk)).1 (hr3 r (List.mem_of_getElem? hrk)).2 (by omega) (.inl (by omega))) ?_
  rintro _ w176 ⟨⟨hle63, sg63, rfl, hV, hP⟩ | ⟨hgt63, -⟩, m177⟩
  rotate_left
  · exact absurd hgt63 (by omega)
  have z178 := m177.size
  obtain ⟨len, vb, hl16, rfl, hbe⟩ := hV
  obtain ⟨bB, TB, lB, sB, rfl, -⟩ := id hbe
  obtain ⟨l0, rfl⟩ := u16_of hl16
  have h12 := h12.keep m177 (nE (by omega))
  refine sM rfl (sE2 rfl (suK (xstW h12 (lens' := [256, 1, 1, 1, 1, 1]) sz139 (by simp [rhSegs, nm_length]) rfl (by simp only [rhSegs, List.cons_append, List.nil_append, fC, fN, aA, aN, nm_one, bT] <;> rfl) rfl rfl) ?_))
  rintro w180 ⟨m181, h12, s179⟩
  have hg0 := rng_fr (rng_fr hg0 m177 (by omega) (nE (by omega))) m181 (by omega) (nE (by omega))
  refine sA rfl (lend (nThen ((wp_seq (sreg (sM rfl (sv (xld on89 rfl (hg0 0 _ rfl)) (sv (xeqEN if89 rfl rfl) (send ((cno rfl (wp_skip (nThen ((wp_seq (sreg (sM rfl (sv (xneN if89 rfl) (send (fjg 2 4 7 10 11 12 46 47 70 rfl fun _ => cno rfl (wp_skip (nThen (fig 2 4 7 10 11 12 46 47 rfl fun _ => ?_)))))))))))))))))))))))
  refine ldrawH (Fr (fun k => k = g2) w180.drew) [rd0, rd1, rd2, rd3, rd4, rd5, rd6, ld7, ld8, ld9, rd10, bh11] mixed (by kernel_rfl) (fun _ _ _ _ _ h => h) ?_
  have z182 : w180.drew.heap.size = w180.heap.size := rfl
  have h44 := (((((h44.keep m168 (nE (by omega))).k m172).keep m175 (nE (by omega))).keep m177 (nE (by omega))).keep m181 (nE (by omega))).drew
  have zb_h44 := h44
  have h12 := h12.drew
  have zb_h12 := h12
  have hS183 : Fr (fun k => k = g2) w180.drew w180.drew := Fr.refl _ _
  have hbe := (hbe.keep (lNo (by omega)) m181 (lN1 (by omega))).keep (lNo (by omega)) (fd w180) nF
  have hLa := ((hLa.keep ask_st (lNo (by omega)) m177 (lN1 (by omega))).keep ask_st (lNo (by omega)) m181 (lN1 (by omega))).keep ask_st (lNo (by omega)) (fd w180) nF
  have k1 := ((k1.keep rec_st (lNo (by omega)) m177 (lN1 (by omega))).keep rec_st (lNo (by omega)) m181 (lN1 (by omega))).keep rec_st (lNo (by omega)) (fd w180) nF
  have k2 := ((k2.keep rec_st (lNo (by omega)) m177 (lN1 (by omega))).keep rec_st (lNo (by omega)) m181 (lN1 (by omega))).keep rec_st (lNo (by omega)) (fd w180) nF
  have hv2 := RX.keep (RX.keep (RX.keep hv2 rec_st (lU hU (by omega)) (by omega) m177 (fun k hk hk3 hS => by have hS : k = b4 := hS; rcases hk with hk | hk <;> first | omega | (have := hU k hk; omega)) (nE (by omega))) rec_st (lU hU (by omega)) (by omega) m181 (fun k hk hk3 hS => by have hS : k = b12 := hS; rcases hk with hk | hk <;> first | omega | (have := hU k hk; omega)) (nE (by omega))) rec_st (lU hU (by omega)) (by omega) (fd w180) (fun _ _ _ h => h) id
  refine qqM rfl rfl hS183 (qqM rfl rfl hS183 (qqM rfl rfl hS183 (qqM rfl rfl hS183 (hvH rfl (fun _ _ => xidx1 (i := 2) sl133 sz26 rfl rfl rfl (by omega)) hS183 (hvH rfl (fun w' hS => xld on26 rfl ((zb_h44.keep hS (nE (by omega))).r.c 2 rfl rfl)) hS183 (hvH rfl (fun w' hS => xldS (lens := [256, 1, 1, 1, 1, 1]) ro139 rfl (zb_h12.keep hS (nE (by omega))).r) hS183 ?_))))))
  refine hcH rfl (xcall ca64 rfl) (c64 (U := Ub NoU w174 w176) (lNo (by omega)) hbe (hb3 r (List.mem_of_getElem? hrk)).1 (hb3 r (List.mem_of_getElem? hrk)).2.1 (hb3 r (List.mem_of_getElem? hrk)).2.2.1 (hb3 r (List.mem_of_getElem? hrk)).2.2.2.1 (hb3 r (List.mem_of_getElem? hrk)).2.2.2.2) ?_
  rintro _ w184 ⟨vd, vt, vp, rfl, hd, ht, hp, m185⟩
  have z186 := m185.size
  have hS187 := hS183.s m185
  obtain ⟨ad, cd, rfl, -⟩ := id hd
  obtain ⟨at1, ct1, rfl⟩ := ht.form
  obtain ⟨ap1, cp1, rfl⟩ := hp.form
  have hv2 := RX.keep hv2 rec_st (lU hU (by omega)) (by omega) m185 (fun _ _ _ h => h) id
  refine ⟨hS187, ?_⟩
  refine hlKH rfl (xslit ((recSegs (normR r l0) (.slice ad (normR r l0).data.length cd) (.slice at1 (normR r l0).texts.length ct1) (.slice ap1 (normR r l0).pairs.length cp1)).flatten) sl26 in112 rfl (by decide) rfl rfl rfl rfl (by decide) (ag_flat _) rfl) ?_
  rintro _ w189 ⟨b80, rfl, m190, h80, e80, s80, r80⟩
  have hS191 := hS187.s m190
  have hv2 := RX.keep hv2 rec_st (lU hU (by omega)) (by omega) m190 (fun _ _ _ h => h) id
  refine ⟨hS191, ?_⟩
  obtain ⟨gp, hv2, hgp⟩ := RX.pick hv2 hg4
  obtain ⟨ss81, hR81, hA81⟩ := hv2
  refine hlKH rfl (xapp sl26 in112 rfl (by decide) rfl rfl hR81 (r80.src sl26) (by simp only [maxLen]; omega) (by omega)) ?_
  rintro v81 w192 ⟨g81, r81, m193, a81, l81⟩
  have z194 := m193.size
  have hS195 := hS191.step m193 (fun k hk hS => by have hS : k = gp := hS; show k = g2; omega)
  have hd := (hd.keep (fun k hk => by have hk := (show (w174.heap.size ≤ k ∧ k < w176.heap.size) ∨ (w180.drew.heap.size ≤ k ∧ k < w184.heap.size) from hk.imp_left (fun h => h.elim (fun h => h.elim) id)); omega) m190 nF).keep (fun k hk => by have hk := (show (w174.heap.size ≤ k ∧ k < w176.heap.size) ∨ (w180.drew.heap.size ≤ k ∧ k < w184.heap.size) from hk.imp_left (fun h => h.elim (fun h => h.elim) id)); omega) m193 (fun k hk hS => by have hk := (show (w174.heap.size ≤ k ∧ k < w176.heap.size) ∨ (w180.drew.heap.size ≤ k ∧ k < w184.heap.size) from hk.imp_left (fun h => h.elim (fun h => h.elim) id)); have hS : k = gp := hS; omega)
  have ht := (ht.keep text_st (fun k hk => by have hk := (show (w174.heap.size ≤ k ∧ k < w176.heap.size) ∨ (w180.drew.heap.size ≤ k ∧ k < w184.heap.size) from hk.imp_left (fun h => h.elim (fun h => h.elim) id)); omega) m190 nF).keep text_st (fun k hk => by have hk := (show (w174.heap.size ≤ k ∧ k < w176.heap.size) ∨ (w180.drew.heap.size ≤ k ∧ k < w184.heap.size) from hk.imp_left (fun h => h.elim (fun h => h.elim) id)); omega) m193 (fun k hk hS => by have hk := (show (w174.heap.size ≤ k ∧ k < w176.heap.size) ∨ (w180.drew.heap.size ≤ k ∧ k < w184.heap.size) from hk.imp_left (fun h => h.elim (fun h => h.elim) id)); have hS : k = gp := hS; omega)
  have hp := (hp.keep pair_st (fun k hk => by have hk := (show (w174.heap.size ≤ k ∧ k < w176.heap.size) ∨ (w180.drew.heap.size ≤ k ∧ k < w184.heap.size) from hk.imp_left (fun h => h.elim (fun h => h.elim) id)); omega) m190 nF).keep pair_st (fun k hk => by have hk := (show (w174.heap.size ≤ k ∧ k < w176.heap.size) ∨ (w180.drew.heap.size ≤ k ∧ k < w184.heap.size) from hk.imp_left (fun h => h.elim (fun h => h.elim) id)); omega) m193 (fun k hk hS => by have hk := (show (w174.heap.size ≤ k ∧ k < w176.heap.size) ∨ (w180.drew.heap.size ≤ k ∧ k < w184.heap.size) from hk.imp_left (fun h => h.elim (fun h => h.elim) id)); have hS : k = gp := hS; omega)
  have hv2 := RX.snoc (x := (normR r l0)) w192.heap.size hA81 rec_st rec_gr (lU hU (by omega)) (by omega) (by omega) m193 a81 r81 rfl (⟨_, _, _, rfl, hd.mono (fun k h => by have h := (show (w174.heap.size ≤ k ∧ k < w176.heap.size) ∨ (w180.drew.heap.size ≤ k ∧ k < w184.heap.size) from h.imp_left (fun h => h.elim (fun h => h.elim) id)); exact ⟨.inr ⟨by omega, by omega⟩, by omega⟩), ht.mono text_gr (fun k h => by have h := (show (w174.heap.size ≤ k ∧ k < w176.heap.size) ∨ (w180.drew.heap.size ≤ k ∧ k < w184.heap.size) from h.imp_left (fun h => h.elim (fun h => h.elim) id)); exact ⟨.inr ⟨by omega, by omega⟩, by omega⟩), hp.mono pair_gr (fun k h => by have h := (show (w174.heap.size ≤ k ∧ k < w176.heap.size) ∨ (w180.drew.heap.size ≤ k ∧ k < w184.heap.size) from h.imp_left (fun h => h.elim (fun h => h.elim) id)); exact ⟨.inr ⟨by omega, by omega⟩, by omega⟩)⟩)
  have h44 := ((h44.k m185).k m190).keep m193 (nE (by omega))
  refine ⟨hS195, ?_⟩
  refine hvH rfl (fun _ _ => xidx1 (i := 2) sl133 sz26 rfl rfl rfl (by omega)) hS195 ?_
  refine bluKH rfl (xstF 2 sz26 h44 rfl rfl rfl rfl (by obtain ⟨_, _, rfl⟩ := RA.form hv2; rfl)) ?_
  rintro w197 ⟨m198, h44, s196⟩
  have hL164 := (((((((((hL164.step m168 (fun k hk hS => by have hS : k = b4 := hS; show k = b4 ∨ k = b44; omega)).s m172).step m175 (fun k hk hS => by have hS : k = b12 := hS; show k = b4 ∨ k = b44; omega)).step m177 (fun k hk hS => by have hS : k = b4 := hS; show k = b4 ∨ k = b44; omega)).step m181 (fun k hk hS => by have hS : k = b12 := hS; show k = b4 ∨ k = b44; omega)).drew).s m185).s m190).step m193 (fun k hk hS => by have hS : k = gp := hS; show k = b4 ∨ k = b44; omega)).step m198 (fun k hk hS => by have hS : k = b44 := hS; show k = b4 ∨ k = b44; omega)
  have hP := (((((hP.keep m181 (nE (by omega))).k (fd w180)).k m185).k m190).keep m193 (nE (by omega))).keep m198 (nE (by omega))
  have hv2 := RX.keep hv2 rec_st (lU hU (by omega)) (by omega) m198 (fun k hk hk3 hS => by have hS : k = b44 := hS; rcases hk with hk | hk <;> first | omega | (have := hU k hk; omega)) (nE (by omega))
  refine lhendH (nBlock (nThen ?_))
  refine ⟨(j + 1, o1, _, g81, lx ++ [normR r l0]), _, env_okl ⟨rfl, rfl, rfl, rfl, rfl, rfl, rfl, trivial⟩, ⟨hL164, (by omega), (hls1), (prat_cast hP rfl (by omega)), (h44), (by rw [take_snoc hrk]; exact hA.snoc ⟨l0, rfl⟩), (RX.up rec_gr hv2 (by omega)), (.inr ⟨by omega, by have := l81 (by omega); omega⟩)⟩, ?_⟩
  show m.three.length - (j + 1) < m.three.length - j; omega
 obtain ⟨x0, y0, rfl⟩ := k1.form
 obtain ⟨x1, y1, rfl⟩ := k2.form
 obtain ⟨x2, y2, rfl⟩ := k3.form
 refine sreg (sv (exF (xlss rfl rfl) (by omega)) (send ((wp_seq (cno rfl (wp_exit (eThen (eThen (eHit (nThen (fdg 2 7 10 rfl fun _ => ?_)))))))))))
 refine sdrawH (Fr (fun k => k = b7) w74.drew) [rd0, rd1, rd2, rd3, rd4, rd5, rd6, rd7, rd8, rd9, ld10, rd11, ld12, rd13, bh14] mixed (by kernel_rfl) (fun _ _ _ _ _ h => h) ?_
 have z214 : w74.drew.heap.size = w74.heap.size := rfl
 have h44 := h44.drew
 have zb_h44 := h44
 have hS215 : Fr (fun k => k = b7) w74.drew w74.drew := Fr.refl _ _
 have h7 := h7.drew
 refine qqM rfl rfl hS215 (hvH rfl (fun _ _ => xidx1 (i := 0) sl133 sz26 rfl rfl rfl (by omega)) hS215 (hvH rfl (fun w' hS => xld on26 rfl ((zb_h44.keep hS (nE (by omega))).r.c 0 rfl rfl)) hS215 (qqM rfl rfl hS215 (hvH rfl (fun _ _ => xidx1 (i := 1) sl133 sz26 rfl rfl rfl (by omega)) hS215 (hvH rfl (fun w' hS => xld on26 rfl ((zb_h44.keep hS (nE (by omega))).r.c 1 rfl rfl)) hS215 (qqM rfl rfl hS215 (hvH rfl (fun _ _ => xidx1 (i := 2) sl133 sz26 rfl rfl rfl (by omega)) hS215 (hvH rfl (fun w' hS => xld on26 rfl ((zb_h44.keep hS (nE (by omega))).r.c 2 rfl rfl)) hS215 (hvH rfl (fun _ _ => xfld fl28_2 rfl) hS215 ?_)))))))))
 refine hluKH rfl (xstF 11 sz26 h7 rfl rfl rfl rfl rfl) ?_
 rintro w217 ⟨m218, h7, s216⟩
 have hS219 := hS215.step m218 nI
 refine ⟨hS219, ?_⟩
 refine hvH rfl (fun _ _ => xfld fl28_3 rfl) hS219 ?_
 refine hluKH rfl (xstF 12 sz26 h7 rfl rfl rfl rfl rfl) ?_
 rintro w221 ⟨m222, h7, s220⟩
 have hS223 := hS219.step m222 nI
 refine ⟨hS223, ?_⟩
 refine hvH rfl (fun _ _ => xfld fl28_4 rfl) hS223 ?_
 refine bluKH rfl (xstF 13 sz26 h7 rfl rfl rfl rfl rfl) ?_
 rintro w225 ⟨m226, h7, s224⟩
 have h2 := (((h2.drew).keep m218 (nE (by omega))).keep m222 (nE (by omega))).keep m226 (nE (by omega))
 refine hendH (fcg 2 7 rfl fun _ => sreg (sv (xldS (lens := lMsg) ro28 rfl h7.r) (suK (xstW h2 (lens' := lMsg) sz28 rfl rfl rfl rfl rfl) ?_)))
 rintro w228 ⟨m229, h2, s227⟩
 have hf := ((((hf.drew).t m218 (by omega)).t m222 (by omega)).t m226 (by omega)).t m229 (by omega)
 have hLa := ((((hLa.keep ask_st (lNo (by omega)) (fd w74) nF).keep ask_st (lNo (by omega)) m218 (lN1 (by omega))).keep ask_st (lNo (by omega)) m222 (lN1 (by omega))).keep ask_st (lNo (by omega)) m226 (lN1 (by omega))).keep ask_st (lNo (by omega)) m229 (lN1 (by omega))
 have k1 := ((((k1.keep rec_st (lNo (by omega)) (fd w74) nF).keep rec_st (lNo (by omega)) m218 (lN1 (by omega))).keep rec_st (lNo (by omega)) m222 (lN1 (by omega))).keep rec_st (lNo (by omega)) m226 (lN1 (by omega))).keep rec_st (lNo (by omega)) m229 (lN1 (by omega))
 have k2 := ((((k2.keep rec_st (lNo (by omega)) (fd w74) nF).keep rec_st (lNo (by omega)) m218 (lN1 (by omega))).keep rec_st (lNo (by omega)) m222 (lN1 (by omega))).keep rec_st (lNo (by omega)) m226 (lN1 (by omega))).keep rec_st (lNo (by omega)) m229 (lN1 (by omega))
 have k3 := ((((k3.keep rec_st (lNo (by omega)) (fd w74) nF).keep rec_st (lNo (by omega)) m218 (lN1 (by omega))).keep rec_st (lNo (by omega)) m222 (lN1 (by omega))).keep rec_st (lNo (by omega)) m226 (lN1 (by omega))).keep rec_st (lNo (by omega)) m229 (lN1 (by omega))
 refine sA rfl (send (fcg 2 3 rfl fun _ => wp_ret (rp2 rfl ⟨_, rfl, ldS (lens := lMsg) ro28 h2.r⟩ rfl ?_)))
 exact ⟨⟨la, lb, lc, _, _, _, _, rfl, hA1, hA2, hA3, hLa.mono ask_gr (fun k hk => hk.elim (fun h => h.elim) (fun h => .inr ⟨by omega, by omega⟩)), k1.mono rec_gr (fun k hk => hk.elim (fun h => h.elim) (fun h => .inr ⟨by omega, by omega⟩)), k2.mono rec_gr (fun k hk => hk.elim (fun h => h.elim) (fun h => .inr ⟨by omega, by omega⟩)), k3.mono rec_gr (fun k hk => hk.elim (fun h => h.elim) (fun h => .inr ⟨by omega, by omega⟩))⟩, hf⟩
end Go.Proofs.YtifnodoffgfpbaaGreatDoor

namespace Go.Proofs.YtifnodoffgfpbaaGreatDoor
open Go

theorem asc_of {r : RecD} (h : PackOk r) : r.kind = 11 ∨ r.kind = 12 → asc r.pairs := h.2.2.1.2.2.2.2.2.2.2
theorem back_of {r : RecD} (h : PackOk r) (hf : r.fits) : NamesOk r ∧ r.pairs.length ≤ 1048576 ∧ r.texts.length ≤ 1048576 ∧ r.data.length ≤ 1048576 ∧ ∀ q ∈ r.pairs, q.data.length ≤ 65535 :=
  ⟨h.2.1, hf.2.2.2.2.2.2.2.1, hf.2.2.2.2.1, hf.2.1, h.2.2.1.2.2.2.2.1⟩

end Go.Proofs.YtifnodoffgfpbaaGreatDoor

namespace Go.Proofs.YtifnodoffgfpbaaGreatDoor
open Go

theorem packGo_run : ∀ (lab' lab rest : List UInt8) (C : Option Ent) (pos : Nat), lab ≠ [] → (∀ c ∈ lab', c ≠ 46) →
    packGo C pos lab (lab' ++ 46 :: rest) = pkE (UInt8.ofNat (lab ++ lab').length :: (lab ++ lab')) (packGo C (pos + ((lab ++ lab').length + 1)) [] rest)
  | [], lab, rest, C, pos, _, _ => by simp [packGo, pkE]
  | c :: cs, lab, rest, C, pos, h0, hd => by
    rw [List.cons_append, pk_mid (hd c (by simp)) h0, packGo_run cs (lab ++ [c]) rest C pos (by simp) (fun x hx => hd x (by simp [hx]))]
    simp
theorem packGo_hit {M : Ent} {pos : Nat} {lab rest : List UInt8} {p : UInt16} (h0 : lab ≠ []) (hd : ∀ c ∈ lab, c ≠ 46) (hl : look M (mkB (lab ++ 46 :: rest)) = some p) :
    packGo (some M) pos [] (lab ++ 46 :: rest) = (ptrL p, some M) := by
  cases lab with
  | nil => exact absurd rfl h0
  | cons c cs => exact pk_hit (hd c (by simp)) hl
theorem packGo_miss {M : Ent} {pos : Nat} {lab rest : List UInt8} (h0 : lab ≠ []) (hd : ∀ c ∈ lab, c ≠ 46) (hl : look M (mkB (lab ++ 46 :: rest)) = none) :
    packGo (some M) pos [] (lab ++ 46 :: rest) = pkE (UInt8.ofNat lab.length :: lab) (packGo (some (if pos ≤ 16383 then M ++ [(mkB (lab ++ 46 :: rest), UInt16.ofNat pos)] else M)) (pos + (lab.length + 1)) [] rest) := by
  cases lab with
  | nil => exact absurd rfl h0
  | cons c cs =>
    rw [List.cons_append, pk_miss (hd c (by simp)) (by rw [List.cons_append] at hl; exact hl), packGo_run cs [c] rest _ pos (by simp) (fun x hx => hd x (by simp [hx]))]
    simp
theorem nameGo_split : ∀ {s : List UInt8} {n : Nat}, nameGo n s = true → s ≠ [] → ∃ lab rest, s = lab ++ 46 :: rest ∧ (∀ c ∈ lab, c ≠ 46) ∧ 1 ≤ n + lab.length ∧ n + lab.length ≤ 63 ∧ nameGo 0 rest = true
  | [], _, _, h => absurd rfl h
  | c :: cs, n, hn, _ => by
    by_cases hc : c = 46
    · subst hc
      obtain ⟨h1, h2, h3⟩ := nameGo_dot hn
      exact ⟨[], cs, rfl, by simp, by simpa using h1, by simpa using h2, h3⟩
    · have hn' := nameGo_let hn hc
      have hne : cs ≠ [] := by intro e; subst e; simp [nameGo] at hn'
      obtain ⟨lab, rest, rfl, hd, h1, h2, h3⟩ := nameGo_split hn' hne
      exact ⟨c :: lab, rest, rfl, by
        intro x hx
        rcases List.mem_cons.1 hx with rfl | hx
        · exact hc
        · exact hd x hx, by simp; omega, by simp; omega, h3⟩
theorem nameGo_first' {s : List UInt8} (h : nameGo 0 s = true) (h0 : s ≠ []) : ∃ lab rest, s = lab ++ 46 :: rest ∧ lab ≠ [] ∧ (∀ c ∈ lab, c ≠ 46) ∧ lab.length ≤ 63 ∧ nameGo 0 rest = true := by
  obtain ⟨lab, rest, e, hd, h1, h2, h3⟩ := nameGo_split h h0
  exact ⟨lab, rest, e, by intro hl; subst hl; simp at h1, hd, by omega, h3⟩
end Go.Proofs.YtifnodoffgfpbaaGreatDoor

namespace Go.Proofs.YtifnodoffgfpbaaGreatDoor
open Go

def ints (xs : List UInt16) : List Value := xs.map fun p => .int .i64 (p.toNat : Int)
def RN (w : World) (v : Value) (g e n : Nat) (cs : List Value) : Prop := (v = .slice none 0 0 ∧ n = 0 ∧ cs = []) ∨ (0 < n ∧ Rw w v g e 1 n cs)
section
variable {w w' : World} {v : Value} {g e n : Nat} {cs : List Value}
theorem RN.keep {S : Nat → Prop} (h : RN w v g e n cs) (m : Fr S w w') (hn : 0 < n → ¬ S g) : RN w' v g e n cs := h.imp_right fun ⟨h0, h⟩ => ⟨h0, h.keep m (hn h0)⟩
theorem RN.form (h : RN w v g e n cs) : ∃ a c, v = .slice a n c ∧ (0 < n → a = some ⟨g, 0, none⟩) := by
  rcases h with ⟨rfl, rfl, _⟩ | ⟨h0, h⟩
  · exact ⟨none, 0, rfl, fun h => absurd h (by omega)⟩
  · obtain ⟨a, c, rfl, _, _, h5, _⟩ := h.form
    exact ⟨a, c, rfl, h5⟩
theorem RN.rng (h : RN w v g e n cs) : w.rangeAt g 0 cs := by
  rcases h with ⟨_, _, rfl⟩ | ⟨_, h⟩
  · intro j u hu; simp at hu
  · exact h.rng
end
def lookI (M : Ent) (s : ByteArray) : Int := match look M s with | none => -1 | some p => (p.toNat : Int)
theorem lookI_some {M : Ent} {s : ByteArray} {p : UInt16} (h : look M s = some p) : lookI M s = (p.toNat : Int) := by simp [lookI, h]
theorem lookI_none {M : Ent} {s : ByteArray} (h : look M s = none) : lookI M s = -1 := by simp [lookI, h]
theorem look_of {M : Ent} {s : ByteArray} (h : 0 ≤ lookI M s) : ∃ p, look M s = some p := by
  cases hl : look M s with
  | none => rw [lookI_none hl] at h; omega
  | some p => exact ⟨p, rfl⟩
theorem look_no {M : Ent} {s : ByteArray} (h : ¬ 0 ≤ lookI M s) : look M s = none := by
  cases hl : look M s with
  | none => rfl
  | some p => rw [lookI_some hl] at h; omega
theorem look_drop {M : Ent} {s : ByteArray} {k : Nat} {q : ByteArray × UInt16} (h : M[k]? = some q) : look (M.drop k) s = if s = q.1 then some q.2 else look (M.drop (k + 1)) s := by
  have hk : k < M.length := (List.getElem?_eq_some_iff.1 h).1
  have he : M[k] = q := (List.getElem?_eq_some_iff.1 h).2
  rw [List.drop_eq_getElem_cons hk, he]
  obtain ⟨a, b⟩ := q
  rfl
abbrev lSh : List Nat := [1, 1, 1]
theorem map_at {α : Type} {f : α → Value} {l : List α} {k : Nat} {x : α} (h : l[k]? = some x) : (l.map f)[k]? = some (f x) := by rw [List.getElem?_map, h]; rfl

theorem c101 {w : World} {bw g1 g2 : Nat} {v0 v1 v2 : Value} {M : Ent} {s : ByteArray} (hW : SB w bw lSh [[v0], [v1], [v2]]) (q1 : RN w v1 g1 9 M.length (strs (M.map Prod.fst))) (q2 : RN w v2 g2 3 M.length (ints (M.map Prod.snd))) (hM : M.length < 1000000) :
  Ret PP 101 [.pointer (some ⟨bw, 0, none⟩), .string s] w (fun u w' => u = .int .i64 (lookI M s) ∧ Fr0 w w') := by
 obtain ⟨a1, c1, rfl, hs1⟩ := q1.form
 obtain ⟨a2, c2, rfl, hs2⟩ := q2.form
 have hf : Fr (fun _ => False) w w := Fr.refl _ _
 have z_hW := hW.lt
 refine ret_of Tryz.func101 rfl rfl rfl [(0, _), (1, _)] rfl ?_
 refine sreg (sA rfl (send ((wp_seq (sreg (sM rfl (sN rfl (sv (xfld fl116_1 rfl) (sv (xld on62 rfl (hW.r.c 1 rfl rfl)) (sv (xlen sl62 rfl) (sM rfl (send (ffg 0 1 10 11 12 rfl fun _ => wp_block (lp [(0, _), (1, _), (10, _), (11, _)] (fun (k : Nat) => [(12, .int .i64 (k : Int))]) (fun (k : Nat) wx => Fr (fun _ => False) w wx ∧ (k ≤ M.length) ∧ (look M s = look (M.drop k) s)) (fun (k : Nat) => M.length - k) 0 ⟨rfl, rfl, rfl, rfl, rfl, trivial⟩ ⟨Fr.refl _ _, Nat.zero_le _, rfl⟩ ?_))))))))))))))
 rintro k _ w2 ⟨hL1, hk, hlk⟩
 refine ffg 0 1 10 11 12 rfl fun _ => ?_
 have z3 := hL1.size
 have hf := hf.s hL1
 refine sreg (svP (xlss rfl rfl) (fun hc13 => ?_) (fun hc13 => ?_))
 ·
  refine send ((wp_seq (cyes rfl (wp_skip (nThen (ffg 0 1 10 11 12 rfl fun _ => wp_seq (wp_block ?_)))))))
  obtain ⟨q, hqk⟩ := some_of_lt (by omega : k < M.length)
  have hld := look_drop (s := s) hqk
  obtain rfl := hs1 (by omega)
  have q1 := q1.keep hL1 (fun h0 => id)
  refine sreg (sM rfl (sv (xidx1 (i := k) sl62 sz9 rfl rfl rfl (by omega)) (sv (xld (v := .string q.1) on9 rfl (by have hq := q1.rng k (.string q.1) (by rw [strs, List.map_map]; exact map_at hqk); rwa [Nat.zero_add] at hq ⊢)) (sA rfl (sA rfl (send (fhg 0 1 5 6 10 11 12 rfl fun _ => sreg (sM rfl (sM rfl (svP (xeqs rfl rfl) (fun hc19 => ?_) (fun hc19 => ?_)))))))))))
  ·
   refine send (fhg 0 1 5 10 11 12 19 rfl fun _ => cyes rfl ?_)
   obtain rfl := hs2 (by omega)
   rw [if_pos hc19.symm, ← hlk] at hld
   have hW := hW.k hL1
   have q2 := q2.keep hL1 (fun h0 => id)
   refine sreg (sM rfl (sN rfl (sv (xfld fl116_2 rfl) (sv (xld on99 rfl (hW.r.c 2 rfl rfl)) (sM rfl (sv (xidx1 (i := k) sl99 sz3 rfl rfl rfl (by omega)) (sv (xld (v := .int .i64 (q.2.toNat : Int)) on3 rfl (by have hq := q2.rng k (.int .i64 (q.2.toNat : Int)) (by rw [ints, List.map_map]; exact map_at hqk); rwa [Nat.zero_add] at hq ⊢)) (sA rfl (send (fbg 4 rfl fun _ => wp_ret (rBlock (rThen (rThen (rBlock (rThen (rp1 rfl rfl ?_))))))))))))))))
   exact ⟨by rw [lookI_some hld], hf⟩
  refine send ((cno rfl (wp_skip (nBlock (nThen (ffg 0 1 10 11 12 rfl fun _ => lreg (sv (xadd rfl rfl (w64 (by omega) (by omega))) (sM rfl (lend (nThen ?_))))))))))
  refine ⟨k + 1, _, env_okl ⟨rfl, rfl, rfl, rfl, rfl, trivial⟩, ⟨hL1, (by omega), (by rw [hlk, hld, if_neg (fun e => hc19 e.symm)])⟩, ?_⟩
  show M.length - (k + 1) < M.length - k; omega
 refine send ((wp_seq (cno rfl (wp_exit (eThen (eThen (eHit (nThen (fg [] trivial fun _ => sreg (sA rfl (send (fbg 4 rfl fun _ => wp_ret (rp1 rfl rfl ?_)))))))))))))
 have hkl : M.drop k = [] := List.drop_of_length_le (by omega)
 rw [hkl] at hlk
 exact ⟨by rw [lookI_none hlk], hf⟩
end Go.Proofs.YtifnodoffgfpbaaGreatDoor

namespace Go.Proofs.YtifnodoffgfpbaaGreatDoor
open Go

def Sh (w : World) (bw : Nat) (bs : List UInt8) (M : Ent) (g0 g1 g2 : Nat) : Prop :=
  ∃ v0 v1 v2, SB w bw lSh [[v0], [v1], [v2]] ∧ BR w v0 g0 bs.length bs ∧ RN w v1 g1 9 M.length (strs (M.map Prod.fst)) ∧ RN w v2 g2 3 M.length (ints (M.map Prod.snd)) ∧ g0 < w.heap.size ∧ g1 < w.heap.size ∧ g2 < w.heap.size ∧ g0 ≠ bw ∧
    ((M.length = 0 ∧ g1 = bw ∧ g2 = bw) ∨ (0 < M.length ∧ g1 ≠ bw ∧ g2 ≠ bw ∧ g1 ≠ g2 ∧ g1 ≠ g0 ∧ g2 ≠ g0))
theorem Sh.keep {S : Nat → Prop} {w w' : World} {bw g0 g1 g2 : Nat} {bs : List UInt8} {M : Ent} (h : Sh w bw bs M g0 g1 g2) (m : Fr S w w') (hb : ¬ S bw) (h0 : ¬ S g0) (h1 : ¬ S g1) (h2 : ¬ S g2) : Sh w' bw bs M g0 g1 g2 := by
  obtain ⟨v0, v1, v2, a, b, c, d, e, f, g, i, j⟩ := h
  have hs := m.size
  exact ⟨v0, v1, v2, a.keep m hb, b.keep m h0, c.keep m (fun _ => h1), d.keep m (fun _ => h2), by omega, by omega, by omega, i, j⟩
def PkJ (M : Ent) (n : Nat) (s : ByteArray) (rest out : List UInt8) (M1 : Ent) : Prop :=
  (rest = [46] ∧ out = [] ∧ M1 = M ∧ bt s = [46]) ∨ (nameGo 0 rest = true ∧ packName (some M) n (bt s) = (out ++ (packGo (some M1) (n + out.length) [] rest).1, (packGo (some M1) (n + out.length) [] rest).2))
theorem pk_start {M : Ent} {n : Nat} {s : ByteArray} (h : nameL (bt s)) : PkJ M n s (bt s) [] M := by
  by_cases hd : bt s = [46]
  · exact .inl ⟨hd, rfl, rfl, hd⟩
  · rcases h with h | ⟨_, h, _⟩
    · exact absurd h hd
    · exact .inr ⟨h, by rw [packName, if_neg hd]; rfl⟩
theorem pk_fin {M M1 : Ent} {n : Nat} {s : ByteArray} {rest out : List UInt8} (h : PkJ M n s rest out M1) (hx : rest = [] ∨ rest = [46]) : packName (some M) n (bt s) = (out ++ [0], some M1) := by
  rcases h with ⟨_, rfl, rfl, hs⟩ | ⟨hn, hp⟩
  · rw [packName, if_pos hs]; rfl
  · rcases hx with rfl | rfl
    · rw [hp]; rfl
    · simp [nameGo] at hn
theorem pk_go {M M1 : Ent} {n : Nat} {s : ByteArray} {rest out : List UInt8} (h : PkJ M n s rest out M1) (h1 : rest ≠ []) (h2 : rest ≠ [46]) :
    ∃ lab rest', rest = lab ++ 46 :: rest' ∧ lab ≠ [] ∧ (∀ c ∈ lab, c ≠ 46) ∧ lab.length ≤ 63 ∧ nameGo 0 rest' = true ∧ packName (some M) n (bt s) = (out ++ (packGo (some M1) (n + out.length) [] rest).1, (packGo (some M1) (n + out.length) [] rest).2) := by
  rcases h with ⟨h, _⟩ | ⟨hn, hp⟩
  · exact absurd h h2
  · obtain ⟨lab, rest', e, h0, hd, hl, hn'⟩ := nameGo_first' hn h1
    exact ⟨lab, rest', e, h0, hd, hl, hn', hp⟩
theorem pk_hitJ {M M1 : Ent} {n : Nat} {s : ByteArray} {lab rest out : List UInt8} {p : UInt16} (h0 : lab ≠ []) (hd : ∀ c ∈ lab, c ≠ 46) (hl : look M1 (mkB (lab ++ 46 :: rest)) = some p)
    (hp : packName (some M) n (bt s) = (out ++ (packGo (some M1) (n + out.length) [] (lab ++ 46 :: rest)).1, (packGo (some M1) (n + out.length) [] (lab ++ 46 :: rest)).2)) : packName (some M) n (bt s) = (out ++ ptrL p, some M1) := by
  rw [hp, packGo_hit h0 hd hl]
theorem pk_missJ {M M1 : Ent} {n : Nat} {s : ByteArray} {lab rest out : List UInt8} (h0 : lab ≠ []) (hd : ∀ c ∈ lab, c ≠ 46) (hl : look M1 (mkB (lab ++ 46 :: rest)) = none) (hn : nameGo 0 rest = true)
    (hp : packName (some M) n (bt s) = (out ++ (packGo (some M1) (n + out.length) [] (lab ++ 46 :: rest)).1, (packGo (some M1) (n + out.length) [] (lab ++ 46 :: rest)).2)) :
    PkJ M n s rest (out ++ (UInt8.ofNat lab.length :: lab)) (if n + out.length ≤ 16383 then M1 ++ [(mkB (lab ++ 46 :: rest), UInt16.ofNat (n + out.length))] else M1) := by
  refine .inr ⟨hn, ?_⟩
  rw [hp, packGo_miss h0 hd hl]
  simp only [pkE, List.append_assoc, List.length_append, List.length_cons, Nat.add_assoc]
theorem ptr_be {p : UInt16} (h : p.toNat ≤ 16383) : ptrL p = be16 (p.toNat + 49152) := by
  have e1 : (p >>> 8 ||| 192).toNat = p.toNat / 256 + 192 := by
    rw [UInt16.toNat_or, UInt16.toNat_shiftRight]
    have h8 : (8 : UInt16).toNat % 16 = 8 := rfl
    have h192 : (192 : UInt16).toNat = 192 := rfl
    rw [h8, h192, Nat.shiftRight_eq_div_pow, Nat.or_comm]
    have := or_add (i := 6) (a := 3) (b := p.toNat / 256) (by omega)
    rw [show 2 ^ 6 * 3 = 192 by decide] at this
    rw [show (2 : Nat) ^ 8 = 256 by decide, this]; omega
  simp only [ptrL, be16]
  rw [e1]
  congr 1
  · congr 1; omega
  · congr 1
    exact (ofNat_mod (a := p.toNat + 49152) (b := p.toNat) (by omega)).symm
theorem or_49152 {p : Nat} (h : p ≤ 16383) : p ||| 49152 = p + 49152 := by
  rw [Nat.or_comm]
  have := or_add (i := 14) (a := 3) (b := p) (by omega)
  rw [show 2 ^ 14 * 3 = 49152 by decide] at this
  omega
theorem look_mem {M : Ent} {s : ByteArray} {p : UInt16} (h : look M s = some p) : ∃ a, (a, p) ∈ M := by
  induction M with
  | nil => simp [look] at h
  | cons x M ih =>
    obtain ⟨a, b⟩ := x
    simp only [look] at h
    split at h
    · simp only [Option.some.injEq] at h; subst h; exact ⟨a, by simp⟩
    · obtain ⟨c, hc⟩ := ih h; exact ⟨c, by simp [hc]⟩
theorem mkB_get {l : List UInt8} {i : Nat} (_h : i < (mkB l).size) (h2 : i < l.length) : (mkB l)[i] = l[i] := by
  show (mkB l).data[i] = _
  simp
theorem sep_at {lab rest : List UInt8} {i : Nat} (h : i < (mkB (lab ++ 46 :: rest)).size) (hi : i = lab.length) : ((mkB (lab ++ 46 :: rest))[i]).toNat = 46 := by
  subst hi
  rw [mkB_get h (by simp), List.getElem_append_right (by omega)]
  simp
theorem let_at {lab rest : List UInt8} {i : Nat} (h : i < (mkB (lab ++ 46 :: rest)).size) (hi : i < lab.length) (hd : ∀ c ∈ lab, c ≠ 46) : ((mkB (lab ++ 46 :: rest))[i]).toNat ≠ 46 := by
  rw [mkB_get h (by simp; omega), List.getElem_append_left hi]
  intro e
  exact hd _ (List.getElem_mem hi) (u8eq (by rw [e]; rfl))
theorem mkB_pre (xs ys : List UInt8) : (mkB (xs ++ ys)).extract 0 xs.length = mkB xs := by
  apply ByteArray.ext
  simp [ByteArray.data_extract]
theorem mkB_suf (xs ys : List UInt8) : (mkB (xs ++ ys)).extract xs.length (mkB (xs ++ ys)).size = mkB ys := by
  apply ByteArray.ext
  rw [mkB_size]
  simp [ByteArray.data_extract]
section
variable {P : Program} {n : Nat} {l : List (Nat × Value)} {w : World} {ty : TypeId} {x y : Operand}
theorem xor16N {T U : TypeId} {a b c : Nat} (hx : ev n l x = some (.int .u16 (a : Int))) (hy : ev n l y = some (.int .u16 (b : Int))) (ha : a < 65536) (hb : b < 65536) (hc : a ||| b = c) : Ex P n l (.binOp .or T x y U) ty w (.int .u16 (c : Int)) w :=
  xbin hx hy rfl (by rw [binOp_or, intBits_or, or16 a b ha hb, hc]; rfl)
theorem xcutSHb {T : TypeId} {xs ys : List UInt8} {k : IntKind} {j : Int} {q : Operand} (hT : strB P T = true) (hx : ev n l x = some (.string (mkB (xs ++ ys)))) (hq : ev n l q = some (.int k j)) (hj : j = (xs.length : Int)) : Ex P n l (.slice T x none (some q) none) ty w (.string (mkB xs)) w := by
  have := xcutSH (w := w) (ty := ty) hT hx hq hj (by rw [mkB_size]; simp)
  rwa [mkB_pre] at this
theorem xcutSLb {T : TypeId} {xs ys : List UInt8} {k : IntKind} {i : Int} {p : Operand} (hT : strB P T = true) (hx : ev n l x = some (.string (mkB (xs ++ ys)))) (hp : ev n l p = some (.int k i)) (hi : i = (xs.length : Int)) : Ex P n l (.slice T x (some p) none none) ty w (.string (mkB ys)) w := by
  have := xcutSL (w := w) (ty := ty) hT hx hp hi (by rw [mkB_size]; simp)
  rwa [mkB_suf] at this
end
theorem RN.rw0 {w : World} {v : Value} {g e n : Nat} {cs : List Value} (h : RN w v g e n cs) (h0 : n = 0) : Rw w v w.heap.size e 1 n cs := by
  rcases h with ⟨rfl, rfl, rfl⟩ | ⟨h1, h⟩
  · exact Rw.nil _ _ _ _
  · omega
theorem RN.rw1 {w : World} {v : Value} {g e n : Nat} {cs : List Value} (h : RN w v g e n cs) (h0 : 0 < n) : Rw w v g e 1 n cs := by
  rcases h with ⟨rfl, rfl, rfl⟩ | ⟨h1, h⟩
  · omega
  · exact h
theorem sh_mk {w : World} {bw g0 g1 g2 n : Nat} {v0 v1 v2 : Value} {bs : List UInt8} {M : Ent} (hW : SB w bw lSh [[v0], [v1], [v2]]) (r0 : BR w v0 g0 n bs) (q1 : RN w v1 g1 9 M.length (strs (M.map Prod.fst))) (q2 : RN w v2 g2 3 M.length (ints (M.map Prod.snd)))
    (h0 : g0 < w.heap.size) (h1 : g1 < w.heap.size) (h2 : g2 < w.heap.size) (hn : g0 ≠ bw) (hg : (M.length = 0 ∧ g1 = bw ∧ g2 = bw) ∨ (0 < M.length ∧ g1 ≠ bw ∧ g2 ≠ bw ∧ g1 ≠ g2 ∧ g1 ≠ g0 ∧ g2 ≠ g0)) : Sh w bw bs M g0 g1 g2 := by
  have hl := r0.len
  exact ⟨v0, v1, v2, hW, hl ▸ r0, q1, q2, h0, h1, h2, hn, hg⟩

theorem c52 {w : World} {bw g0 g1 g2 : Nat} {bs : List UInt8} {M : Ent} {s : ByteArray} (hSh : Sh w bw bs M g0 g1 g2) (hs : nameL (bt s)) (hbl : bs.length ≤ 20000000) (hMl : M.length ≤ 100000) (hMle : ∀ q ∈ M, q.2.toNat ≤ 16383) {K : Nat → Prop} (hK : ∀ k, K k → k < w.heap.size ∧ k ≠ bw ∧ k ≠ g0 ∧ k ≠ g1 ∧ k ≠ g2) :
  Ret PP 52 [.pointer (some ⟨bw, 0, none⟩), .string s] w (fun _ w' => ∃ M' g0' g1' g2', (packName (some M) bs.length (bt s)).2 = some M' ∧ Sh w' bw (bs ++ (packName (some M) bs.length (bt s)).1) M' g0' g1' g2' ∧ M'.length ≤ M.length + s.size ∧ (∀ q ∈ M', q.2.toNat ≤ 16383) ∧ (∀ k, K k → k ≠ g0' ∧ k ≠ g1' ∧ k ≠ g2') ∧ Fr (fun k => ¬ K k) w w') := by
 have hnp := (name_pos hs).2
 rw [bt_length] at hnp
 have hf : Fr (fun k => ¬ K k) w w := Fr.refl _ _
 refine ret_of Tryz.func52 rfl rfl rfl [(0, _), (1, _)] rfl ?_
 refine wp_seq (wp_block (lp [(0, _)] (fun (x : List UInt8 × List UInt8 × Ent × Nat × Nat × Nat) => match x with | (rest, out, M1, y0, y1, y2) => [(1, .string (mkB rest))]) (fun (x : List UInt8 × List UInt8 × Ent × Nat × Nat × Nat) wx => match x with | (rest, out, M1, y0, y1, y2) => Fr (fun k => ¬ K k) w wx ∧ (Sh wx bw (bs ++ out) M1 y0 y1 y2) ∧ (PkJ M bs.length s rest out M1) ∧ (out.length + rest.length = s.size) ∧ (M1.length ≤ M.length + out.length) ∧ (∀ q ∈ M1, q.2.toNat ≤ 16383) ∧ (∀ k, K k → k < w.heap.size ∧ k ≠ bw ∧ k ≠ y0 ∧ k ≠ y1 ∧ k ≠ y2)) (fun (x : List UInt8 × List UInt8 × Ent × Nat × Nat × Nat) => match x with | (rest, out, M1, y0, y1, y2) => rest.length) (bt s, [], M, g0, g1, g2) ⟨rfl, rfl, trivial⟩ ⟨Fr.refl _ _, by rw [aN]; exact hSh, pk_start hs, by rw [bt_length]; exact Nat.zero_add _, Nat.le_refl _, hMle, hK⟩ ?_))
 rintro ⟨rest, out, M1, y0, y1, y2⟩ _ w2 ⟨hL1, hSh, hpk, hor, hm1, hm2, hKy⟩
 refine fcg 0 1 rfl fun _ => ?_
 have z3 := hL1.size
 obtain ⟨v0, v1, v2, hW, r0, q1, q2, hl0, hl1, hl2, hne, hgs⟩ := hSh
 obtain ⟨p0, c0, rfl, -⟩ := Rw.form r0
 obtain ⟨a1, c1, rfl, hs1⟩ := q1.form
 obtain ⟨a2, c2, rfl, hs2⟩ := q2.form
 have hzw := hW.lt
 have hf := hf.step hL1 (fun k hk hS hk2 => hS hk2)
 rcases hgs with ⟨hM0, hE1, hE2⟩ | ⟨hMp, hn1b, hn2b, hn12, hn10, hn20⟩
 ·
  refine wp_seq (sreg (sM rfl (svP (xnes rfl rfl) (fun hc7 => ?_) (fun hc7 => ?_))))
  rotate_left
  ·
   refine sM rfl (gno rfl rfl rfl (gno rfl rfl rfl (sv (xpickF rfl rfl) (send ((cno rfl (wp_exit (eThen (eThen (eHit (nThen (fbg 0 rfl fun _ => ?_))))))))))))
   have hrx : rest = [] ∨ rest = [46] := .inl (by have hq := Decidable.not_not.1 hc7; have hq2 := congrArg bt hq; rw [bt_mkB] at hq2; exact hq2)
   refine lreg (sM rfl (sM rfl (sN rfl (sv (xfld fl116_0 rfl) (sv (xld on37 rfl (hW.r.c 0 rfl rfl)) (svK (xslit (bvs [0]) sl37 in5 rfl (by decide) rfl rfl rfl rfl (by decide) rfl (bvs_one _)) ?_))))))
   rintro _ w92 ⟨b89, rfl, m93, h89, e89, s89, r89⟩
   have r0 := r0.k m93
   refine svK (xapp sl37 in5 rfl (by decide) rfl rfl r0 (r89.src sl37) (by simp only [maxLen, List.length_append]; omega) (by simp only [List.length_append]; omega)) ?_
   rintro _ w94 ⟨g90, r90, m95, a90, l90⟩
   have z96 := m95.size
   obtain ⟨p90, q90, rfl, -⟩ := r90.form
   have hW := (hW.k m93).keep m95 (nE (by omega))
   refine sN rfl (sv (xfld fl116_0 rfl) (suK (xstF 0 sz37 hW rfl rfl rfl rfl rfl) ?_))
   rintro w98 ⟨m99, hW, s97⟩
   refine lend ?_
   refine rp0n rfl ?_
   have hpf := pk_fin hpk hrx
   have hf := ((hf.s m93).step m95 (fun k hk hS hk2 => by have hS : k = y0 := hS; have hk3 := hKy k hk2; omega)).step m99 (fun k hk hS hk2 => by have hS : k = bw := hS; have hk3 := hKy k hk2; omega)
   refine ⟨M1, g90, y1, y2, by rw [hpf], ?_, by omega, hm2, fun k hk => by have hq := hKy k hk; omega, hf⟩
   rw [hpf, ← List.append_assoc]
   have q1 := ((q1.keep m93 (fun h0 => id)).keep m95 (fun h0 => by have h0 := h0; show ¬ (y1 = y0); omega)).keep m99 (fun h0 => by have h0 := h0; show ¬ (y1 = bw); omega)
   have q2 := ((q2.keep m93 (fun h0 => id)).keep m95 (fun h0 => by have h0 := h0; show ¬ (y2 = y0); omega)).keep m99 (fun h0 => by have h0 := h0; show ¬ (y2 = bw); omega)
   have r90 := r90.keep m99 (nE (by omega))
   exact sh_mk hW (br_cast r90 (by simp only [bvs_app]) rfl) q1 q2 (by have hq := l90 (by simp); omega) (by omega) (by omega) (by omega) (by omega)
  refine sM rfl (gyes rfl rfl rfl (sM rfl (gyes rfl rfl rfl (svP (xnes rfl rfl) (fun hc10 => ?_) (fun hc10 => ?_)))))
  rotate_left
  ·
   refine sv (xpickT rfl rfl) (send ((cno rfl (wp_exit (eThen (eThen (eHit (nThen (fbg 0 rfl fun _ => ?_)))))))))
   have hrx : rest = [] ∨ rest = [46] := .inr (by have hq := Decidable.not_not.1 hc10; have hq2 := congrArg bt hq; rw [bt_mkB] at hq2; exact hq2)
   refine lreg (sM rfl (sM rfl (sN rfl (sv (xfld fl116_0 rfl) (sv (xld on37 rfl (hW.r.c 0 rfl rfl)) (svK (xslit (bvs [0]) sl37 in5 rfl (by decide) rfl rfl rfl rfl (by decide) rfl (bvs_one _)) ?_))))))
   rintro _ w83 ⟨b89, rfl, m84, h89, e89, s89, r89⟩
   have r0 := r0.k m84
   refine svK (xapp sl37 in5 rfl (by decide) rfl rfl r0 (r89.src sl37) (by simp only [maxLen, List.length_append]; omega) (by simp only [List.length_append]; omega)) ?_
   rintro _ w85 ⟨g90, r90, m86, a90, l90⟩
   have z87 := m86.size
   obtain ⟨p90, q90, rfl, -⟩ := r90.form
   have hW := (hW.k m84).keep m86 (nE (by omega))
   refine sN rfl (sv (xfld fl116_0 rfl) (suK (xstF 0 sz37 hW rfl rfl rfl rfl rfl) ?_))
   rintro w89 ⟨m90, hW, s88⟩
   refine lend ?_
   refine rp0n rfl ?_
   have hpf := pk_fin hpk hrx
   have hf := ((hf.s m84).step m86 (fun k hk hS hk2 => by have hS : k = y0 := hS; have hk3 := hKy k hk2; omega)).step m90 (fun k hk hS hk2 => by have hS : k = bw := hS; have hk3 := hKy k hk2; omega)
   refine ⟨M1, g90, y1, y2, by rw [hpf], ?_, by omega, hm2, fun k hk => by have hq := hKy k hk; omega, hf⟩
   rw [hpf, ← List.append_assoc]
   have q1 := ((q1.keep m84 (fun h0 => id)).keep m86 (fun h0 => by have h0 := h0; show ¬ (y1 = y0); omega)).keep m90 (fun h0 => by have h0 := h0; show ¬ (y1 = bw); omega)
   have q2 := ((q2.keep m84 (fun h0 => id)).keep m86 (fun h0 => by have h0 := h0; show ¬ (y2 = y0); omega)).keep m90 (fun h0 => by have h0 := h0; show ¬ (y2 = bw); omega)
   have r90 := r90.keep m90 (nE (by omega))
   exact sh_mk hW (br_cast r90 (by simp only [bvs_app]) rfl) q1 q2 (by have hq := l90 (by simp); omega) (by omega) (by omega) (by omega) (by omega)
  refine sv (xpickT rfl rfl) (send ((cyes rfl (wp_skip (nThen (fcg 0 1 rfl fun _ => wp_block (wp_seq ?_)))))))
  obtain ⟨lab, rest1, rfl, hlab0, hlabd, hlab63, hn1, hpk1⟩ := pk_go hpk (fun e => hc7 (by rw [e])) (fun e => hc10 (by rw [e]))
  have hlpos := List.length_pos_iff.2 hlab0
  simp only [List.length_append, List.length_cons] at hor
  have hbo : (bs ++ out).length = bs.length + out.length := List.length_append
  refine sreg (sM rfl (sM rfl (sc (xcall ca101 rfl) (c101 (M := M1) (s := (mkB (lab ++ 46 :: rest1))) hW q1 q2 (by omega)) ?_)))
  rintro _ w4 ⟨rfl, m5⟩
  have z6 := m5.size
  have hf := hf.s m5
  have hW := hW.k m5
  have r0 := r0.k m5
  have q1 := q1.keep m5 (fun h0 => id)
  have q2 := q2.keep m5 (fun h0 => id)
  have hL1 := hL1.s m5
  refine sA rfl (send (fdg 0 1 4 rfl fun _ => sreg (sM rfl (svP (xgeq rfl rfl) (fun hc16 => ?_) (fun hc16 => ?_)))))
  ·
   refine send (feg 0 1 4 16 rfl fun _ => cyes rfl ?_)
   obtain ⟨p, hp⟩ := look_of hc16
   obtain ⟨pk, hpm⟩ := look_mem hp
   have hple := hm2 _ hpm
   simp only at hple
   refine sdrawH (Fr (fun k => k = y0) w4.drew) [rd0, rd1, rd2, rd3, rd4, rd5, rd6, rd7, ld8, ld9, rd10, rd11, bh12] mixed (by kernel_rfl) (fun _ _ _ _ _ h => h) ?_
   have z7 : w4.drew.heap.size = w4.heap.size := rfl
   have hW := hW.drew
   have zb_hW := hW
   have hS8 : Fr (fun k => k = y0) w4.drew w4.drew := Fr.refl _ _
   refine qqM rfl rfl hS8 (qqM rfl rfl hS8 (qqN rfl rfl hS8 (hvH rfl (fun _ _ => xfld fl116_0 rfl) hS8 (hvH rfl (fun w' hS => xld on37 rfl ((zb_hW.keep hS (nE (by omega))).r.c 0 rfl rfl)) hS8 (qqM rfl rfl hS8 (hvH rfl (fun _ _ => xconv hs3 ki22 rfl (wu16n p.toNat (by rw [lookI_some hp]; have := u16lt p; omega))) hS8 (hvH rfl (fun _ _ => xor16N (a := p.toNat) (b := 49152) (c := p.toNat + 49152) rfl rfl (by omega) (by decide) (or_49152 hple)) hS8 ?_)))))))
   refine hcH rfl (xcall ca53 rfl) (c53 (by first | omega | exact u16lt _)) ?_
   rintro _ w9 ⟨p25, q25, g25, rfl, r25, m10, a25, l25⟩
   have z11 := m10.size
   have hS12 := hS8.s m10
   have r0 := (r0.k (fd w4)).k m10
   refine ⟨hS12, ?_⟩
   refine hlKH rfl (xapp sl37 in5 rfl (by decide) rfl rfl r0 (r25.src sl37) (by simp only [maxLen]; omega) (by omega)) ?_
   rintro _ w13 ⟨g26, r26, m14, a26, l26⟩
   have z15 := m14.size
   have hS16 := hS12.step m14 nI
   obtain ⟨p26, q26, rfl, -⟩ := r26.form
   have hW := (hW.k m10).keep m14 (nE (by omega))
   refine ⟨hS16, ?_⟩
   refine qqN rfl rfl hS16 (hvH rfl (fun _ _ => xfld fl116_0 rfl) hS16 ?_)
   refine bluKH rfl (xstF 0 sz37 hW rfl rfl rfl rfl rfl) ?_
   rintro w18 ⟨m19, hW, s17⟩
   refine hendH (fg [] trivial fun _ => wp_ret (rThen (rBlock (rThen (rBlock (rThen ?_))))))
   refine rp0 rfl ?_
   have hpf := pk_hitJ hlab0 hlabd hp hpk1
   have hf := (((hf.drew).s m10).step m14 (fun k hk hS hk2 => by have hS : k = y0 := hS; have hk3 := hKy k hk2; omega)).step m19 (fun k hk hS hk2 => by have hS : k = bw := hS; have hk3 := hKy k hk2; omega)
   refine ⟨M1, g26, y1, y2, by rw [hpf], ?_, by omega, hm2, fun k hk => by have hq := hKy k hk; omega, hf⟩
   rw [hpf, ← List.append_assoc, ptr_be hple]
   have q1 := (((q1.keep (fd w4) (fun h0 => id)).keep m10 (fun h0 => id)).keep m14 (fun h0 => by have h0 := h0; show ¬ (y1 = y0); omega)).keep m19 (fun h0 => by have h0 := h0; show ¬ (y1 = bw); omega)
   have q2 := (((q2.keep (fd w4) (fun h0 => id)).keep m10 (fun h0 => id)).keep m14 (fun h0 => by have h0 := h0; show ¬ (y2 = y0); omega)).keep m19 (fun h0 => by have h0 := h0; show ¬ (y2 = bw); omega)
   have r26 := r26.keep m19 (nE (by omega))
   exact sh_mk hW (br_cast r26 (by simp only [bvs_app]) rfl) q1 q2 (by have hq := l26 (by simp []); omega) (by omega) (by omega) (by omega) (by omega)
  refine send ((cno rfl (wp_skip (nThen (fcg 0 1 rfl fun _ => wp_seq ?_)))))
  have hno := look_no hc16
  refine sreg (sM rfl (sN rfl (sv (xfld fl116_0 rfl) (sv (xld on37 rfl (hW.r.c 0 rfl rfl)) (sv (xlen sl37 rfl) (svP (xlss rfl rfl) (fun hc34 => ?_) (fun hc34 => ?_)))))))
  rotate_left
  ·
   refine send ((cno rfl (wp_skip (nThen ((sreg (sA rfl (send (fdg 0 1 5 rfl fun _ => wp_seq (wp_block (lp [(0, _), (1, _)] (fun (i : Nat) => [(5, .int .i64 (i : Int))]) (fun (i : Nat) wx => Fr (fun _ => False) w4 wx ∧ (i ≤ lab.length)) (fun (i : Nat) => lab.length - i) 0 ⟨rfl, rfl, rfl, trivial⟩ ⟨Fr.refl _ _, Nat.zero_le _⟩ ?_)))))))))))
   rintro i _ w63 ⟨hL62, hi⟩
   refine fdg 0 1 5 rfl fun _ => ?_
   have z64 := hL62.size
   refine wp_seq (sreg (sM rfl (sM rfl (sv (xidxS st9 rfl rfl rfl (by rw [mkB_size]; simp; omega)) (svP (xneq rfl rfl) (fun hc62 => ?_) (fun hc62 => ?_))))))
   ·
    refine send ((cyes rfl (wp_skip (nThen (fdg 0 1 5 rfl fun _ => wp_block ?_)))))
    have hil : i < lab.length := by rcases Nat.lt_or_ge i lab.length with h | h; exact h; exact absurd (congrArg Int.ofNat (sep_at (by rw [mkB_size]; simp; omega) (by omega))) hc62
    refine lreg (sM rfl (sv (xadd rfl rfl (w64n (i + 1) (by omega) (by omega))) (sA rfl (lend (nBlock (nThen ?_))))))
    refine ⟨i + 1, _, env_okl ⟨rfl, rfl, rfl, trivial⟩, ⟨hL62, (by omega)⟩, ?_⟩
    show lab.length - (i + 1) < lab.length - i; omega
   refine send ((cno rfl (wp_exit (eThen (eThen (eHit (nThen (fdg 0 1 5 rfl fun _ => ?_))))))))
   have hie : i = lab.length := by rcases Nat.lt_or_ge i lab.length with h | h; exact absurd (fun e => let_at (by rw [mkB_size]; simp; omega) h hlabd (by exact Int.ofNat.inj e)) hc62; omega
   refine sdrawH (Fr (fun k => k = y0) w63.drew) [rd0, rd1, rd2, rd3, rd4, rd5, rd6, rd9, rd10, rd11, ld7, ld8, ld12, rd13, rd14, bh15] mixed (by kernel_rfl) (fun _ _ _ _ _ h => h) ?_
   have z65 : w63.drew.heap.size = w63.heap.size := rfl
   have hW := (hW.k hL62).drew
   have zb_hW := hW
   have hS66 : Fr (fun k => k = y0) w63.drew w63.drew := Fr.refl _ _
   refine qqM rfl rfl hS66 (qqM rfl rfl hS66 (qqN rfl rfl hS66 (hvH rfl (fun _ _ => xfld fl116_0 rfl) hS66 (hvH rfl (fun w' hS => xld on37 rfl ((zb_hW.keep hS (nE (by omega))).r.c 0 rfl rfl)) hS66 (qqM rfl rfl hS66 (hvH rfl (fun _ _ => xconv hs3 ki5 rfl (wu8n lab.length (by omega))) hS66 (qqM rfl rfl hS66 (qqM rfl rfl hS66 (hvH rfl (fun _ _ => xcutSHb st9 rfl rfl (by omega)) hS66 ?_)))))))))
   refine hlKH rfl (xslit (bvs [UInt8.ofNat lab.length]) sl37 in5 rfl (by decide) rfl rfl rfl rfl (by decide) (by simp [bvs, bv, Value.cells, UInt8.toNat_ofNat']; omega) (bvs_one _)) ?_
   rintro _ w68 ⟨b72, rfl, m69, h72, e72, s72, r72⟩
   have hS70 := hS66.s m69
   have r0 := ((r0.k hL62).k (fd w63)).k m69
   refine ⟨hS70, ?_⟩
   refine hlKH rfl (xapp sl37 in5 rfl (by decide) rfl rfl r0 (r72.src sl37) (by simp only [maxLen]; omega) (by omega)) ?_
   rintro _ w71 ⟨g73, r73, m72, a73, l73⟩
   have z73 := m72.size
   have hS74 := hS70.step m72 nI
   obtain ⟨p73, q73, rfl, -⟩ := r73.form
   refine ⟨hS74, ?_⟩
   refine hlKH rfl (xapp sl37 in5 rfl (by decide) rfl rfl r73 (src_str st9 (mkB lab)) (by simp only [maxLen, mkB_size]; omega) (by simp only [mkB_size]; omega)) ?_
   rintro _ w75 ⟨g77, r77, m76, a77, l77⟩
   have z77 := m76.size
   have hS78 := hS74.step m76 (fun k hk hS => by have hS : k = g73 := hS; show k = y0; omega)
   obtain ⟨p77, q77, rfl, -⟩ := r77.form
   have hW := ((hW.k m69).keep m72 (nE (by omega))).keep m76 (nE (by omega))
   refine ⟨hS78, ?_⟩
   refine qqN rfl rfl hS78 (hvH rfl (fun _ _ => xfld fl116_0 rfl) hS78 ?_)
   refine bluKH rfl (xstF 0 sz37 hW rfl rfl rfl rfl rfl) ?_
   rintro w80 ⟨m81, hW, s79⟩
   have q1 := (((((q1.keep hL62 (fun h0 => id)).keep (fd w63) (fun h0 => id)).keep m69 (fun h0 => id)).keep m72 (fun h0 => by have h0 := h0; show ¬ (y1 = y0); omega)).keep m76 (fun h0 => by have h0 := h0; show ¬ (y1 = g73); omega)).keep m81 (fun h0 => by have h0 := h0; show ¬ (y1 = bw); omega)
   have q2 := (((((q2.keep hL62 (fun h0 => id)).keep (fd w63) (fun h0 => id)).keep m69 (fun h0 => id)).keep m72 (fun h0 => by have h0 := h0; show ¬ (y2 = y0); omega)).keep m76 (fun h0 => by have h0 := h0; show ¬ (y2 = g73); omega)).keep m81 (fun h0 => by have h0 := h0; show ¬ (y2 = bw); omega)
   have hL1 := (((((hL1.s hL62).drew).s m69).step m72 (fun k hk hS hk2 => by have hS : k = y0 := hS; have hk3 := hKy k hk2; omega)).step m76 (fun k hk hS hk2 => by have hS : k = g73 := hS; have hk3 := hKy k hk2; omega)).step m81 (fun k hk hS hk2 => by have hS : k = bw := hS; have hk3 := hKy k hk2; omega)
   have r77 := r77.keep m81 (nE (by omega))
   refine hendH (fdg 0 1 5 rfl fun _ => lreg (sM rfl (sM rfl (sv (xadd rfl rfl (w64n (lab.length + 1) (by omega) (by omega))) (sv ((xcutSLb (xs := lab ++ [46]) st9 (by rw [List.append_assoc]; rfl) rfl (by simp))) (sA rfl (lend (nBlock (nThen ?_)))))))))
   refine ⟨(rest1, out ++ (UInt8.ofNat lab.length :: lab), M1, g77, y1, y2), _, env_okl ⟨rfl, rfl, trivial⟩, ⟨hL1, (by rw [← List.append_assoc]; exact sh_mk hW (br_cast r77 (by simp [bvs, bv]) rfl) q1 q2 (by have hq := l77 (by omega); omega) (by omega) (by omega) (by omega) (by omega)), (by have hq := pk_missJ hlab0 hlabd hno hn1 hpk1; rw [if_neg (by omega)] at hq; exact hq), (by simp only [List.length_append, List.length_cons]; omega), (by simp only [List.length_append, List.length_cons]; omega), (hm2), (fun k hk => by have hq := hKy k hk; omega)⟩, ?_⟩
   show rest1.length < (lab ++ 46 :: rest1).length; simp; omega
  refine send (fdg 0 1 34 rfl fun _ => cyes rfl (sreg (sM rfl (sM rfl (sN rfl (sv (xfld fl116_1 rfl) (sv (xld on62 rfl (hW.r.c 1 rfl rfl)) (sM rfl (svK (xslit ([.string (mkB (lab ++ 46 :: rest1))]) sl62 in9 rfl (by decide) rfl rfl rfl rfl (by decide) rfl rfl) ?_)))))))))
  rintro _ w21 ⟨b41, rfl, m22, h41, e41, s41, r41⟩
  have q1 := q1.keep m22 (fun h0 => id)
  have rq42 := q1.rw0 hM0
  refine svK (xapp sl62 in9 rfl (by decide) rfl rfl rq42 (r41.src sl62) (by simp only [maxLen]; omega) (by omega)) ?_
  rintro _ w23 ⟨g42, r42, m24, a42, l42⟩
  have z25 := m24.size
  obtain ⟨p42, q42, rfl, -⟩ := r42.form
  have hW := (hW.k m22).keep m24 (by show ¬ (bw = w21.heap.size); omega)
  refine sN rfl (sv (xfld fl116_1 rfl) (suK (xstF 1 sz62 hW rfl rfl rfl rfl rfl) ?_))
  rintro w27 ⟨m28, hW, s26⟩
  refine send (fcg 0 1 rfl fun _ => ?_)
  have hpos2 : (UInt16.ofNat (bs.length + out.length)).toNat = bs.length + out.length := by rw [UInt16.toNat_ofNat']; omega
  refine ldrawH (Fr (fun _ => False) w27.drew) [rd0, rd1, rd2, rd3, rd4, rd5, rd6, rd7, rd8, rd9, ld10, ld11, rd12, rd13, bh14] mixed (by kernel_rfl) (fun _ _ _ _ _ h => h) ?_
  have z29 : w27.drew.heap.size = w27.heap.size := rfl
  have hW := hW.drew
  have zb_hW := hW
  have hS30 : Fr (fun _ => False) w27.drew w27.drew := Fr.refl _ _
  refine qqM rfl rfl hS30 (qqM rfl rfl hS30 (qqN rfl rfl hS30 (hvH rfl (fun _ _ => xfld fl116_2 rfl) hS30 (hvH rfl (fun w' hS => xld on99 rfl ((zb_hW.k hS).r.c 2 rfl rfl)) hS30 (qqM rfl rfl hS30 (qqN rfl rfl hS30 (hvH rfl (fun _ _ => xfld fl116_0 rfl) hS30 (hvH rfl (fun w' hS => xld on37 rfl ((zb_hW.k hS).r.c 0 rfl rfl)) hS30 (hvH rfl (fun _ _ => xlen sl37 rfl) hS30 ?_)))))))))
  refine hlKH rfl (xslit ([.int .i64 ((UInt16.ofNat (bs.length + out.length)).toNat : Int)]) sl99 in3 rfl (by decide) rfl rfl rfl rfl (by decide) (by rw [hpos2, ← hbo]; rfl) rfl) ?_
  rintro _ w32 ⟨b55, rfl, m33, h55, e55, s55, r55⟩
  have hS34 := hS30.s m33
  have q2 := ((((q2.keep m22 (fun h0 => id)).keep m24 (fun h0 => by have h0 := h0; show ¬ (y2 = w21.heap.size); omega)).keep m28 (fun h0 => by have h0 := h0; show ¬ (y2 = bw); omega)).keep (fd w27) (fun h0 => id)).keep m33 (fun h0 => id)
  refine ⟨hS34, ?_⟩
  have rq56 := q2.rw0 hM0
  refine hlKH rfl (xapp sl99 in3 rfl (by decide) rfl rfl rq56 (r55.src sl99) (by simp only [maxLen]; omega) (by omega)) ?_
  rintro _ w35 ⟨g56, r56, m36, a56, l56⟩
  have z37 := m36.size
  have hS38 := hS34.step m36 (fun k hk hS => by have hS : k = w32.heap.size := hS; show False; omega)
  obtain ⟨p56, q56, rfl, -⟩ := r56.form
  have hW := (hW.k m33).keep m36 (by show ¬ (bw = w32.heap.size); omega)
  refine ⟨hS38, ?_⟩
  refine qqN rfl rfl hS38 (hvH rfl (fun _ _ => xfld fl116_2 rfl) hS38 ?_)
  refine bluKH rfl (xstF 2 sz99 hW rfl rfl rfl rfl rfl) ?_
  rintro w40 ⟨m41, hW, s39⟩
  refine lhendH (nThen ((sreg (sA rfl (send (fdg 0 1 5 rfl fun _ => wp_seq (wp_block (lp [(0, _), (1, _)] (fun (i : Nat) => [(5, .int .i64 (i : Int))]) (fun (i : Nat) wx => Fr (fun _ => False) w40 wx ∧ (i ≤ lab.length)) (fun (i : Nat) => lab.length - i) 0 ⟨rfl, rfl, rfl, trivial⟩ ⟨Fr.refl _ _, Nat.zero_le _⟩ ?_))))))))
  rintro i _ w43 ⟨hL42, hi⟩
  refine fdg 0 1 5 rfl fun _ => ?_
  have z44 := hL42.size
  refine wp_seq (sreg (sM rfl (sM rfl (sv (xidxS st9 rfl rfl rfl (by rw [mkB_size]; simp; omega)) (svP (xneq rfl rfl) (fun hc62 => ?_) (fun hc62 => ?_))))))
  ·
   refine send ((cyes rfl (wp_skip (nThen (fdg 0 1 5 rfl fun _ => wp_block ?_)))))
   have hil : i < lab.length := by rcases Nat.lt_or_ge i lab.length with h | h; exact h; exact absurd (congrArg Int.ofNat (sep_at (by rw [mkB_size]; simp; omega) (by omega))) hc62
   refine lreg (sM rfl (sv (xadd rfl rfl (w64n (i + 1) (by omega) (by omega))) (sA rfl (lend (nBlock (nThen ?_))))))
   refine ⟨i + 1, _, env_okl ⟨rfl, rfl, rfl, trivial⟩, ⟨hL42, (by omega)⟩, ?_⟩
   show lab.length - (i + 1) < lab.length - i; omega
  refine send ((cno rfl (wp_exit (eThen (eThen (eHit (nThen (fdg 0 1 5 rfl fun _ => ?_))))))))
  have hie : i = lab.length := by rcases Nat.lt_or_ge i lab.length with h | h; exact absurd (fun e => let_at (by rw [mkB_size]; simp; omega) h hlabd (by exact Int.ofNat.inj e)) hc62; omega
  refine sdrawH (Fr (fun k => k = y0) w43.drew) [rd0, rd1, rd2, rd3, rd4, rd5, rd6, rd9, rd10, rd11, ld7, ld8, ld12, rd13, rd14, bh15] mixed (by kernel_rfl) (fun _ _ _ _ _ h => h) ?_
  have z45 : w43.drew.heap.size = w43.heap.size := rfl
  have hW := (hW.k hL42).drew
  have zb_hW := hW
  have hS46 : Fr (fun k => k = y0) w43.drew w43.drew := Fr.refl _ _
  refine qqM rfl rfl hS46 (qqM rfl rfl hS46 (qqN rfl rfl hS46 (hvH rfl (fun _ _ => xfld fl116_0 rfl) hS46 (hvH rfl (fun w' hS => xld on37 rfl ((zb_hW.keep hS (nE (by omega))).r.c 0 rfl rfl)) hS46 (qqM rfl rfl hS46 (hvH rfl (fun _ _ => xconv hs3 ki5 rfl (wu8n lab.length (by omega))) hS46 (qqM rfl rfl hS46 (qqM rfl rfl hS46 (hvH rfl (fun _ _ => xcutSHb st9 rfl rfl (by omega)) hS46 ?_)))))))))
  refine hlKH rfl (xslit (bvs [UInt8.ofNat lab.length]) sl37 in5 rfl (by decide) rfl rfl rfl rfl (by decide) (by simp [bvs, bv, Value.cells, UInt8.toNat_ofNat']; omega) (bvs_one _)) ?_
  rintro _ w48 ⟨b72, rfl, m49, h72, e72, s72, r72⟩
  have hS50 := hS46.s m49
  have r0 := (((((((((r0.k m22).keep m24 (by show ¬ (y0 = w21.heap.size); omega)).keep m28 (nE (by omega))).k (fd w27)).k m33).keep m36 (by show ¬ (y0 = w32.heap.size); omega)).keep m41 (nE (by omega))).k hL42).k (fd w43)).k m49
  refine ⟨hS50, ?_⟩
  refine hlKH rfl (xapp sl37 in5 rfl (by decide) rfl rfl r0 (r72.src sl37) (by simp only [maxLen]; omega) (by omega)) ?_
  rintro _ w51 ⟨g73, r73, m52, a73, l73⟩
  have z53 := m52.size
  have hS54 := hS50.step m52 nI
  obtain ⟨p73, q73, rfl, -⟩ := r73.form
  refine ⟨hS54, ?_⟩
  refine hlKH rfl (xapp sl37 in5 rfl (by decide) rfl rfl r73 (src_str st9 (mkB lab)) (by simp only [maxLen, mkB_size]; omega) (by simp only [mkB_size]; omega)) ?_
  rintro _ w55 ⟨g77, r77, m56, a77, l77⟩
  have z57 := m56.size
  have hS58 := hS54.step m56 (fun k hk hS => by have hS : k = g73 := hS; show k = y0; omega)
  obtain ⟨p77, q77, rfl, -⟩ := r77.form
  have hW := ((hW.k m49).keep m52 (nE (by omega))).keep m56 (nE (by omega))
  refine ⟨hS58, ?_⟩
  refine qqN rfl rfl hS58 (hvH rfl (fun _ _ => xfld fl116_0 rfl) hS58 ?_)
  refine bluKH rfl (xstF 0 sz37 hW rfl rfl rfl rfl rfl) ?_
  rintro w60 ⟨m61, hW, s59⟩
  have hL1 := ((((((((((((hL1.s m22).step m24 (fun k hk hS hk2 => by have hS : k = w21.heap.size := hS; have hk3 := hKy k hk2; omega)).step m28 (fun k hk hS hk2 => by have hS : k = bw := hS; have hk3 := hKy k hk2; omega)).drew).s m33).step m36 (fun k hk hS hk2 => by have hS : k = w32.heap.size := hS; have hk3 := hKy k hk2; omega)).step m41 (fun k hk hS hk2 => by have hS : k = bw := hS; have hk3 := hKy k hk2; omega)).s hL42).drew).s m49).step m52 (fun k hk hS hk2 => by have hS : k = y0 := hS; have hk3 := hKy k hk2; omega)).step m56 (fun k hk hS hk2 => by have hS : k = g73 := hS; have hk3 := hKy k hk2; omega)).step m61 (fun k hk hS hk2 => by have hS : k = bw := hS; have hk3 := hKy k hk2; omega)
  have r42 := ((((((((((r42.keep m28 (nE (by omega))).k (fd w27)).k m33).keep m36 (by show ¬ (g42 = w32.heap.size); omega)).keep m41 (nE (by omega))).k hL42).k (fd w43)).k m49).keep m52 (nE (by omega))).keep m56 (nE (by omega))).keep m61 (nE (by omega))
  have r56 := ((((((r56.keep m41 (nE (by omega))).k hL42).k (fd w43)).k m49).keep m52 (nE (by omega))).keep m56 (nE (by omega))).keep m61 (nE (by omega))
  have r77 := r77.keep m61 (nE (by omega))
  refine hendH (fdg 0 1 5 rfl fun _ => lreg (sM rfl (sM rfl (sv (xadd rfl rfl (w64n (lab.length + 1) (by omega) (by omega))) (sv ((xcutSLb (xs := lab ++ [46]) st9 (by rw [List.append_assoc]; rfl) rfl (by simp))) (sA rfl (lend (nBlock (nThen ?_)))))))))
  refine ⟨(rest1, out ++ (UInt8.ofNat lab.length :: lab), M1 ++ [((mkB (lab ++ 46 :: rest1)), UInt16.ofNat (bs.length + out.length))], g77, g42, g56), _, env_okl ⟨rfl, rfl, trivial⟩, ⟨hL1, (by rw [← List.append_assoc]; exact sh_mk hW (br_cast r77 (by simp [bvs, bv]) rfl) (.inr ⟨by simp, by simpa [strs] using r42⟩) (.inr ⟨by simp, by simpa [ints] using r56⟩) (by have hq := l77 (by omega); omega) (by omega) (by omega) (by omega) (by simp only [List.length_append, List.length_cons, List.length_nil]; omega)), (by have hq := pk_missJ hlab0 hlabd hno hn1 hpk1; rw [if_pos (by omega)] at hq; exact hq), (by simp only [List.length_append, List.length_cons]; omega), (by simp only [List.length_append, List.length_cons, List.length_nil]; omega), (by intro q hq; rcases List.mem_append.1 hq with hq | hq; exact hm2 q hq; simp only [List.mem_singleton] at hq; subst hq; rw [hpos2]; omega), (fun k hk => by have hq := hKy k hk; omega)⟩, ?_⟩
  show rest1.length < (lab ++ 46 :: rest1).length; simp; omega
 refine wp_seq (sreg (sM rfl (svP (xnes rfl rfl) (fun hc7 => ?_) (fun hc7 => ?_))))
 rotate_left
 ·
  refine sM rfl (gno rfl rfl rfl (gno rfl rfl rfl (sv (xpickF rfl rfl) (send ((cno rfl (wp_exit (eThen (eThen (eHit (nThen (fbg 0 rfl fun _ => ?_))))))))))))
  have hrx : rest = [] ∨ rest = [46] := .inl (by have hq := Decidable.not_not.1 hc7; have hq2 := congrArg bt hq; rw [bt_mkB] at hq2; exact hq2)
  refine lreg (sM rfl (sM rfl (sN rfl (sv (xfld fl116_0 rfl) (sv (xld on37 rfl (hW.r.c 0 rfl rfl)) (svK (xslit (bvs [0]) sl37 in5 rfl (by decide) rfl rfl rfl rfl (by decide) rfl (bvs_one _)) ?_))))))
  rintro _ w188 ⟨b89, rfl, m189, h89, e89, s89, r89⟩
  have r0 := r0.k m189
  refine svK (xapp sl37 in5 rfl (by decide) rfl rfl r0 (r89.src sl37) (by simp only [maxLen, List.length_append]; omega) (by simp only [List.length_append]; omega)) ?_
  rintro _ w190 ⟨g90, r90, m191, a90, l90⟩
  have z192 := m191.size
  obtain ⟨p90, q90, rfl, -⟩ := r90.form
  have hW := (hW.k m189).keep m191 (nE (by omega))
  refine sN rfl (sv (xfld fl116_0 rfl) (suK (xstF 0 sz37 hW rfl rfl rfl rfl rfl) ?_))
  rintro w194 ⟨m195, hW, s193⟩
  refine lend ?_
  refine rp0n rfl ?_
  have hpf := pk_fin hpk hrx
  have hf := ((hf.s m189).step m191 (fun k hk hS hk2 => by have hS : k = y0 := hS; have hk3 := hKy k hk2; omega)).step m195 (fun k hk hS hk2 => by have hS : k = bw := hS; have hk3 := hKy k hk2; omega)
  refine ⟨M1, g90, y1, y2, by rw [hpf], ?_, by omega, hm2, fun k hk => by have hq := hKy k hk; omega, hf⟩
  rw [hpf, ← List.append_assoc]
  have q1 := ((q1.keep m189 (fun h0 => id)).keep m191 (fun h0 => by have h0 := h0; show ¬ (y1 = y0); omega)).keep m195 (fun h0 => by have h0 := h0; show ¬ (y1 = bw); omega)
  have q2 := ((q2.keep m189 (fun h0 => id)).keep m191 (fun h0 => by have h0 := h0; show ¬ (y2 = y0); omega)).keep m195 (fun h0 => by have h0 := h0; show ¬ (y2 = bw); omega)
  have r90 := r90.keep m195 (nE (by omega))
  exact sh_mk hW (br_cast r90 (by simp only [bvs_app]) rfl) q1 q2 (by have hq := l90 (by simp); omega) (by omega) (by omega) (by omega) (by omega)
 refine sM rfl (gyes rfl rfl rfl (sM rfl (gyes rfl rfl rfl (svP (xnes rfl rfl) (fun hc10 => ?_) (fun hc10 => ?_)))))
 rotate_left
 ·
  refine sv (xpickT rfl rfl) (send ((cno rfl (wp_exit (eThen (eThen (eHit (nThen (fbg 0 rfl fun _ => ?_)))))))))
  have hrx : rest = [] ∨ rest = [46] := .inr (by have hq := Decidable.not_not.1 hc10; have hq2 := congrArg bt hq; rw [bt_mkB] at hq2; exact hq2)
  refine lreg (sM rfl (sM rfl (sN rfl (sv (xfld fl116_0 rfl) (sv (xld on37 rfl (hW.r.c 0 rfl rfl)) (svK (xslit (bvs [0]) sl37 in5 rfl (by decide) rfl rfl rfl rfl (by decide) rfl (bvs_one _)) ?_))))))
  rintro _ w179 ⟨b89, rfl, m180, h89, e89, s89, r89⟩
  have r0 := r0.k m180
  refine svK (xapp sl37 in5 rfl (by decide) rfl rfl r0 (r89.src sl37) (by simp only [maxLen, List.length_append]; omega) (by simp only [List.length_append]; omega)) ?_
  rintro _ w181 ⟨g90, r90, m182, a90, l90⟩
  have z183 := m182.size
  obtain ⟨p90, q90, rfl, -⟩ := r90.form
  have hW := (hW.k m180).keep m182 (nE (by omega))
  refine sN rfl (sv (xfld fl116_0 rfl) (suK (xstF 0 sz37 hW rfl rfl rfl rfl rfl) ?_))
  rintro w185 ⟨m186, hW, s184⟩
  refine lend ?_
  refine rp0n rfl ?_
  have hpf := pk_fin hpk hrx
  have hf := ((hf.s m180).step m182 (fun k hk hS hk2 => by have hS : k = y0 := hS; have hk3 := hKy k hk2; omega)).step m186 (fun k hk hS hk2 => by have hS : k = bw := hS; have hk3 := hKy k hk2; omega)
  refine ⟨M1, g90, y1, y2, by rw [hpf], ?_, by omega, hm2, fun k hk => by have hq := hKy k hk; omega, hf⟩
  rw [hpf, ← List.append_assoc]
  have q1 := ((q1.keep m180 (fun h0 => id)).keep m182 (fun h0 => by have h0 := h0; show ¬ (y1 = y0); omega)).keep m186 (fun h0 => by have h0 := h0; show ¬ (y1 = bw); omega)
  have q2 := ((q2.keep m180 (fun h0 => id)).keep m182 (fun h0 => by have h0 := h0; show ¬ (y2 = y0); omega)).keep m186 (fun h0 => by have h0 := h0; show ¬ (y2 = bw); omega)
  have r90 := r90.keep m186 (nE (by omega))
  exact sh_mk hW (br_cast r90 (by simp only [bvs_app]) rfl) q1 q2 (by have hq := l90 (by simp); omega) (by omega) (by omega) (by omega) (by omega)
 refine sv (xpickT rfl rfl) (send ((cyes rfl (wp_skip (nThen (fcg 0 1 rfl fun _ => wp_block (wp_seq ?_)))))))
 obtain ⟨lab, rest1, rfl, hlab0, hlabd, hlab63, hn1, hpk1⟩ := pk_go hpk (fun e => hc7 (by rw [e])) (fun e => hc10 (by rw [e]))
 have hlpos := List.length_pos_iff.2 hlab0
 simp only [List.length_append, List.length_cons] at hor
 have hbo : (bs ++ out).length = bs.length + out.length := List.length_append
 refine sreg (sM rfl (sM rfl (sc (xcall ca101 rfl) (c101 (M := M1) (s := (mkB (lab ++ 46 :: rest1))) hW q1 q2 (by omega)) ?_)))
 rintro _ w100 ⟨rfl, m101⟩
 have z102 := m101.size
 have hf := hf.s m101
 have hW := hW.k m101
 have r0 := r0.k m101
 have q1 := q1.keep m101 (fun h0 => id)
 have q2 := q2.keep m101 (fun h0 => id)
 have hL1 := hL1.s m101
 refine sA rfl (send (fdg 0 1 4 rfl fun _ => sreg (sM rfl (svP (xgeq rfl rfl) (fun hc16 => ?_) (fun hc16 => ?_)))))
 ·
  refine send (feg 0 1 4 16 rfl fun _ => cyes rfl ?_)
  obtain ⟨p, hp⟩ := look_of hc16
  obtain ⟨pk, hpm⟩ := look_mem hp
  have hple := hm2 _ hpm
  simp only at hple
  refine sdrawH (Fr (fun k => k = y0) w100.drew) [rd0, rd1, rd2, rd3, rd4, rd5, rd6, rd7, ld8, ld9, rd10, rd11, bh12] mixed (by kernel_rfl) (fun _ _ _ _ _ h => h) ?_
  have z103 : w100.drew.heap.size = w100.heap.size := rfl
  have hW := hW.drew
  have zb_hW := hW
  have hS104 : Fr (fun k => k = y0) w100.drew w100.drew := Fr.refl _ _
  refine qqM rfl rfl hS104 (qqM rfl rfl hS104 (qqN rfl rfl hS104 (hvH rfl (fun _ _ => xfld fl116_0 rfl) hS104 (hvH rfl (fun w' hS => xld on37 rfl ((zb_hW.keep hS (nE (by omega))).r.c 0 rfl rfl)) hS104 (qqM rfl rfl hS104 (hvH rfl (fun _ _ => xconv hs3 ki22 rfl (wu16n p.toNat (by rw [lookI_some hp]; have := u16lt p; omega))) hS104 (hvH rfl (fun _ _ => xor16N (a := p.toNat) (b := 49152) (c := p.toNat + 49152) rfl rfl (by omega) (by decide) (or_49152 hple)) hS104 ?_)))))))
  refine hcH rfl (xcall ca53 rfl) (c53 (by first | omega | exact u16lt _)) ?_
  rintro _ w105 ⟨p25, q25, g25, rfl, r25, m106, a25, l25⟩
  have z107 := m106.size
  have hS108 := hS104.s m106
  have r0 := (r0.k (fd w100)).k m106
  refine ⟨hS108, ?_⟩
  refine hlKH rfl (xapp sl37 in5 rfl (by decide) rfl rfl r0 (r25.src sl37) (by simp only [maxLen]; omega) (by omega)) ?_
  rintro _ w109 ⟨g26, r26, m110, a26, l26⟩
  have z111 := m110.size
  have hS112 := hS108.step m110 nI
  obtain ⟨p26, q26, rfl, -⟩ := r26.form
  have hW := (hW.k m106).keep m110 (nE (by omega))
  refine ⟨hS112, ?_⟩
  refine qqN rfl rfl hS112 (hvH rfl (fun _ _ => xfld fl116_0 rfl) hS112 ?_)
  refine bluKH rfl (xstF 0 sz37 hW rfl rfl rfl rfl rfl) ?_
  rintro w114 ⟨m115, hW, s113⟩
  refine hendH (fg [] trivial fun _ => wp_ret (rThen (rBlock (rThen (rBlock (rThen ?_))))))
  refine rp0 rfl ?_
  have hpf := pk_hitJ hlab0 hlabd hp hpk1
  have hf := (((hf.drew).s m106).step m110 (fun k hk hS hk2 => by have hS : k = y0 := hS; have hk3 := hKy k hk2; omega)).step m115 (fun k hk hS hk2 => by have hS : k = bw := hS; have hk3 := hKy k hk2; omega)
  refine ⟨M1, g26, y1, y2, by rw [hpf], ?_, by omega, hm2, fun k hk => by have hq := hKy k hk; omega, hf⟩
  rw [hpf, ← List.append_assoc, ptr_be hple]
  have q1 := (((q1.keep (fd w100) (fun h0 => id)).keep m106 (fun h0 => id)).keep m110 (fun h0 => by have h0 := h0; show ¬ (y1 = y0); omega)).keep m115 (fun h0 => by have h0 := h0; show ¬ (y1 = bw); omega)
  have q2 := (((q2.keep (fd w100) (fun h0 => id)).keep m106 (fun h0 => id)).keep m110 (fun h0 => by have h0 := h0; show ¬ (y2 = y0); omega)).keep m115 (fun h0 => by have h0 := h0; show ¬ (y2 = bw); omega)
  have r26 := r26.keep m115 (nE (by omega))
  exact sh_mk hW (br_cast r26 (by simp only [bvs_app]) rfl) q1 q2 (by have hq := l26 (by simp []); omega) (by omega) (by omega) (by omega) (by omega)
 refine send ((cno rfl (wp_skip (nThen (fcg 0 1 rfl fun _ => wp_seq ?_)))))
 have hno := look_no hc16
 refine sreg (sM rfl (sN rfl (sv (xfld fl116_0 rfl) (sv (xld on37 rfl (hW.r.c 0 rfl rfl)) (sv (xlen sl37 rfl) (svP (xlss rfl rfl) (fun hc34 => ?_) (fun hc34 => ?_)))))))
 rotate_left
 ·
  refine send ((cno rfl (wp_skip (nThen ((sreg (sA rfl (send (fdg 0 1 5 rfl fun _ => wp_seq (wp_block (lp [(0, _), (1, _)] (fun (i : Nat) => [(5, .int .i64 (i : Int))]) (fun (i : Nat) wx => Fr (fun _ => False) w100 wx ∧ (i ≤ lab.length)) (fun (i : Nat) => lab.length - i) 0 ⟨rfl, rfl, rfl, trivial⟩ ⟨Fr.refl _ _, Nat.zero_le _⟩ ?_)))))))))))
  rintro i _ w159 ⟨hL158, hi⟩
  refine fdg 0 1 5 rfl fun _ => ?_
  have z160 := hL158.size
  refine wp_seq (sreg (sM rfl (sM rfl (sv (xidxS st9 rfl rfl rfl (by rw [mkB_size]; simp; omega)) (svP (xneq rfl rfl) (fun hc62 => ?_) (fun hc62 => ?_))))))
  ·
   refine send ((cyes rfl (wp_skip (nThen (fdg 0 1 5 rfl fun _ => wp_block ?_)))))
   have hil : i < lab.length := by rcases Nat.lt_or_ge i lab.length with h | h; exact h; exact absurd (congrArg Int.ofNat (sep_at (by rw [mkB_size]; simp; omega) (by omega))) hc62
   refine lreg (sM rfl (sv (xadd rfl rfl (w64n (i + 1) (by omega) (by omega))) (sA rfl (lend (nBlock (nThen ?_))))))
   refine ⟨i + 1, _, env_okl ⟨rfl, rfl, rfl, trivial⟩, ⟨hL158, (by omega)⟩, ?_⟩
   show lab.length - (i + 1) < lab.length - i; omega
  refine send ((cno rfl (wp_exit (eThen (eThen (eHit (nThen (fdg 0 1 5 rfl fun _ => ?_))))))))
  have hie : i = lab.length := by rcases Nat.lt_or_ge i lab.length with h | h; exact absurd (fun e => let_at (by rw [mkB_size]; simp; omega) h hlabd (by exact Int.ofNat.inj e)) hc62; omega
  refine sdrawH (Fr (fun k => k = y0) w159.drew) [rd0, rd1, rd2, rd3, rd4, rd5, rd6, rd9, rd10, rd11, ld7, ld8, ld12, rd13, rd14, bh15] mixed (by kernel_rfl) (fun _ _ _ _ _ h => h) ?_
  have z161 : w159.drew.heap.size = w159.heap.size := rfl
  have hW := (hW.k hL158).drew
  have zb_hW := hW
  have hS162 : Fr (fun k => k = y0) w159.drew w159.drew := Fr.refl _ _
  refine qqM rfl rfl hS162 (qqM rfl rfl hS162 (qqN rfl rfl hS162 (hvH rfl (fun _ _ => xfld fl116_0 rfl) hS162 (hvH rfl (fun w' hS => xld on37 rfl ((zb_hW.keep hS (nE (by omega))).r.c 0 rfl rfl)) hS162 (qqM rfl rfl hS162 (hvH rfl (fun _ _ => xconv hs3 ki5 rfl (wu8n lab.length (by omega))) hS162 (qqM rfl rfl hS162 (qqM rfl rfl hS162 (hvH rfl (fun _ _ => xcutSHb st9 rfl rfl (by omega)) hS162 ?_)))))))))
  refine hlKH rfl (xslit (bvs [UInt8.ofNat lab.length]) sl37 in5 rfl (by decide) rfl rfl rfl rfl (by decide) (by simp [bvs, bv, Value.cells, UInt8.toNat_ofNat']; omega) (bvs_one _)) ?_
  rintro _ w164 ⟨b72, rfl, m165, h72, e72, s72, r72⟩
  have hS166 := hS162.s m165
  have r0 := ((r0.k hL158).k (fd w159)).k m165
  refine ⟨hS166, ?_⟩
  refine hlKH rfl (xapp sl37 in5 rfl (by decide) rfl rfl r0 (r72.src sl37) (by simp only [maxLen]; omega) (by omega)) ?_
  rintro _ w167 ⟨g73, r73, m168, a73, l73⟩
  have z169 := m168.size
  have hS170 := hS166.step m168 nI
  obtain ⟨p73, q73, rfl, -⟩ := r73.form
  refine ⟨hS170, ?_⟩
  refine hlKH rfl (xapp sl37 in5 rfl (by decide) rfl rfl r73 (src_str st9 (mkB lab)) (by simp only [maxLen, mkB_size]; omega) (by simp only [mkB_size]; omega)) ?_
  rintro _ w171 ⟨g77, r77, m172, a77, l77⟩
  have z173 := m172.size
  have hS174 := hS170.step m172 (fun k hk hS => by have hS : k = g73 := hS; show k = y0; omega)
  obtain ⟨p77, q77, rfl, -⟩ := r77.form
  have hW := ((hW.k m165).keep m168 (nE (by omega))).keep m172 (nE (by omega))
  refine ⟨hS174, ?_⟩
  refine qqN rfl rfl hS174 (hvH rfl (fun _ _ => xfld fl116_0 rfl) hS174 ?_)
  refine bluKH rfl (xstF 0 sz37 hW rfl rfl rfl rfl rfl) ?_
  rintro w176 ⟨m177, hW, s175⟩
  have q1 := (((((q1.keep hL158 (fun h0 => id)).keep (fd w159) (fun h0 => id)).keep m165 (fun h0 => id)).keep m168 (fun h0 => by have h0 := h0; show ¬ (y1 = y0); omega)).keep m172 (fun h0 => by have h0 := h0; show ¬ (y1 = g73); omega)).keep m177 (fun h0 => by have h0 := h0; show ¬ (y1 = bw); omega)
  have q2 := (((((q2.keep hL158 (fun h0 => id)).keep (fd w159) (fun h0 => id)).keep m165 (fun h0 => id)).keep m168 (fun h0 => by have h0 := h0; show ¬ (y2 = y0); omega)).keep m172 (fun h0 => by have h0 := h0; show ¬ (y2 = g73); omega)).keep m177 (fun h0 => by have h0 := h0; show ¬ (y2 = bw); omega)
  have hL1 := (((((hL1.s hL158).drew).s m165).step m168 (fun k hk hS hk2 => by have hS : k = y0 := hS; have hk3 := hKy k hk2; omega)).step m172 (fun k hk hS hk2 => by have hS : k = g73 := hS; have hk3 := hKy k hk2; omega)).step m177 (fun k hk hS hk2 => by have hS : k = bw := hS; have hk3 := hKy k hk2; omega)
  have r77 := r77.keep m177 (nE (by omega))
  refine hendH (fdg 0 1 5 rfl fun _ => lreg (sM rfl (sM rfl (sv (xadd rfl rfl (w64n (lab.length + 1) (by omega) (by omega))) (sv ((xcutSLb (xs := lab ++ [46]) st9 (by rw [List.append_assoc]; rfl) rfl (by simp))) (sA rfl (lend (nBlock (nThen ?_)))))))))
  refine ⟨(rest1, out ++ (UInt8.ofNat lab.length :: lab), M1, g77, y1, y2), _, env_okl ⟨rfl, rfl, trivial⟩, ⟨hL1, (by rw [← List.append_assoc]; exact sh_mk hW (br_cast r77 (by simp [bvs, bv]) rfl) q1 q2 (by have hq := l77 (by omega); omega) (by omega) (by omega) (by omega) (by omega)), (by have hq := pk_missJ hlab0 hlabd hno hn1 hpk1; rw [if_neg (by omega)] at hq; exact hq), (by simp only [List.length_append, List.length_cons]; omega), (by simp only [List.length_append, List.length_cons]; omega), (hm2), (fun k hk => by have hq := hKy k hk; omega)⟩, ?_⟩
  show rest1.length < (lab ++ 46 :: rest1).length; simp; omega
 refine send (fdg 0 1 34 rfl fun _ => cyes rfl (sreg (sM rfl (sM rfl (sN rfl (sv (xfld fl116_1 rfl) (sv (xld on62 rfl (hW.r.c 1 rfl rfl)) (sM rfl (svK (xslit ([.string (mkB (lab ++ 46 :: rest1))]) sl62 in9 rfl (by decide) rfl rfl rfl rfl (by decide) rfl rfl) ?_)))))))))
 rintro _ w117 ⟨b41, rfl, m118, h41, e41, s41, r41⟩
 have q1 := q1.keep m118 (fun h0 => id)
 have rq42 := q1.rw1 hMp
 refine svK (xapp sl62 in9 rfl (by decide) rfl rfl rq42 (r41.src sl62) (by simp only [maxLen]; omega) (by omega)) ?_
 rintro _ w119 ⟨g42, r42, m120, a42, l42⟩
 have z121 := m120.size
 obtain ⟨p42, q42, rfl, -⟩ := r42.form
 have hW := (hW.k m118).keep m120 (nE (by omega))
 refine sN rfl (sv (xfld fl116_1 rfl) (suK (xstF 1 sz62 hW rfl rfl rfl rfl rfl) ?_))
 rintro w123 ⟨m124, hW, s122⟩
 refine send (fcg 0 1 rfl fun _ => ?_)
 have hpos2 : (UInt16.ofNat (bs.length + out.length)).toNat = bs.length + out.length := by rw [UInt16.toNat_ofNat']; omega
 refine ldrawH (Fr (fun k => k = y2) w123.drew) [rd0, rd1, rd2, rd3, rd4, rd5, rd6, rd7, rd8, rd9, ld10, ld11, rd12, rd13, bh14] mixed (by kernel_rfl) (fun _ _ _ _ _ h => h) ?_
 have z125 : w123.drew.heap.size = w123.heap.size := rfl
 have hW := hW.drew
 have zb_hW := hW
 have hS126 : Fr (fun k => k = y2) w123.drew w123.drew := Fr.refl _ _
 refine qqM rfl rfl hS126 (qqM rfl rfl hS126 (qqN rfl rfl hS126 (hvH rfl (fun _ _ => xfld fl116_2 rfl) hS126 (hvH rfl (fun w' hS => xld on99 rfl ((zb_hW.keep hS (nE (by omega))).r.c 2 rfl rfl)) hS126 (qqM rfl rfl hS126 (qqN rfl rfl hS126 (hvH rfl (fun _ _ => xfld fl116_0 rfl) hS126 (hvH rfl (fun w' hS => xld on37 rfl ((zb_hW.keep hS (nE (by omega))).r.c 0 rfl rfl)) hS126 (hvH rfl (fun _ _ => xlen sl37 rfl) hS126 ?_)))))))))
 refine hlKH rfl (xslit ([.int .i64 ((UInt16.ofNat (bs.length + out.length)).toNat : Int)]) sl99 in3 rfl (by decide) rfl rfl rfl rfl (by decide) (by rw [hpos2, ← hbo]; rfl) rfl) ?_
 rintro _ w128 ⟨b55, rfl, m129, h55, e55, s55, r55⟩
 have hS130 := hS126.s m129
 have q2 := ((((q2.keep m118 (fun h0 => id)).keep m120 (fun h0 => by have h0 := h0; show ¬ (y2 = y1); omega)).keep m124 (fun h0 => by have h0 := h0; show ¬ (y2 = bw); omega)).keep (fd w123) (fun h0 => id)).keep m129 (fun h0 => id)
 refine ⟨hS130, ?_⟩
 have rq56 := q2.rw1 hMp
 refine hlKH rfl (xapp sl99 in3 rfl (by decide) rfl rfl rq56 (r55.src sl99) (by simp only [maxLen]; omega) (by omega)) ?_
 rintro _ w131 ⟨g56, r56, m132, a56, l56⟩
 have z133 := m132.size
 have hS134 := hS130.step m132 nI
 obtain ⟨p56, q56, rfl, -⟩ := r56.form
 have hW := (hW.k m129).keep m132 (nE (by omega))
 refine ⟨hS134, ?_⟩
 refine qqN rfl rfl hS134 (hvH rfl (fun _ _ => xfld fl116_2 rfl) hS134 ?_)
 refine bluKH rfl (xstF 2 sz99 hW rfl rfl rfl rfl rfl) ?_
 rintro w136 ⟨m137, hW, s135⟩
 refine lhendH (nThen ((sreg (sA rfl (send (fdg 0 1 5 rfl fun _ => wp_seq (wp_block (lp [(0, _), (1, _)] (fun (i : Nat) => [(5, .int .i64 (i : Int))]) (fun (i : Nat) wx => Fr (fun _ => False) w136 wx ∧ (i ≤ lab.length)) (fun (i : Nat) => lab.length - i) 0 ⟨rfl, rfl, rfl, trivial⟩ ⟨Fr.refl _ _, Nat.zero_le _⟩ ?_))))))))
 rintro i _ w139 ⟨hL138, hi⟩
 refine fdg 0 1 5 rfl fun _ => ?_
 have z140 := hL138.size
 refine wp_seq (sreg (sM rfl (sM rfl (sv (xidxS st9 rfl rfl rfl (by rw [mkB_size]; simp; omega)) (svP (xneq rfl rfl) (fun hc62 => ?_) (fun hc62 => ?_))))))
 ·
  refine send ((cyes rfl (wp_skip (nThen (fdg 0 1 5 rfl fun _ => wp_block ?_)))))
  have hil : i < lab.length := by rcases Nat.lt_or_ge i lab.length with h | h; exact h; exact absurd (congrArg Int.ofNat (sep_at (by rw [mkB_size]; simp; omega) (by omega))) hc62
  refine lreg (sM rfl (sv (xadd rfl rfl (w64n (i + 1) (by omega) (by omega))) (sA rfl (lend (nBlock (nThen ?_))))))
  refine ⟨i + 1, _, env_okl ⟨rfl, rfl, rfl, trivial⟩, ⟨hL138, (by omega)⟩, ?_⟩
  show lab.length - (i + 1) < lab.length - i; omega
 refine send ((cno rfl (wp_exit (eThen (eThen (eHit (nThen (fdg 0 1 5 rfl fun _ => ?_))))))))
 have hie : i = lab.length := by rcases Nat.lt_or_ge i lab.length with h | h; exact absurd (fun e => let_at (by rw [mkB_size]; simp; omega) h hlabd (by exact Int.ofNat.inj e)) hc62; omega
 refine sdrawH (Fr (fun k => k = y0) w139.drew) [rd0, rd1, rd2, rd3, rd4, rd5, rd6, rd9, rd10, rd11, ld7, ld8, ld12, rd13, rd14, bh15] mixed (by kernel_rfl) (fun _ _ _ _ _ h => h) ?_
 have z141 : w139.drew.heap.size = w139.heap.size := rfl
 have hW := (hW.k hL138).drew
 have zb_hW := hW
 have hS142 : Fr (fun k => k = y0) w139.drew w139.drew := Fr.refl _ _
 refine qqM rfl rfl hS142 (qqM rfl rfl hS142 (qqN rfl rfl hS142 (hvH rfl (fun _ _ => xfld fl116_0 rfl) hS142 (hvH rfl (fun w' hS => xld on37 rfl ((zb_hW.keep hS (nE (by omega))).r.c 0 rfl rfl)) hS142 (qqM rfl rfl hS142 (hvH rfl (fun _ _ => xconv hs3 ki5 rfl (wu8n lab.length (by omega))) hS142 (qqM rfl rfl hS142 (qqM rfl rfl hS142 (hvH rfl (fun _ _ => xcutSHb st9 rfl rfl (by omega)) hS142 ?_)))))))))
 refine hlKH rfl (xslit (bvs [UInt8.ofNat lab.length]) sl37 in5 rfl (by decide) rfl rfl rfl rfl (by decide) (by simp [bvs, bv, Value.cells, UInt8.toNat_ofNat']; omega) (bvs_one _)) ?_
 rintro _ w144 ⟨b72, rfl, m145, h72, e72, s72, r72⟩
 have hS146 := hS142.s m145
 have r0 := (((((((((r0.k m118).keep m120 (nE (by omega))).keep m124 (nE (by omega))).k (fd w123)).k m129).keep m132 (nE (by omega))).keep m137 (nE (by omega))).k hL138).k (fd w139)).k m145
 refine ⟨hS146, ?_⟩
 refine hlKH rfl (xapp sl37 in5 rfl (by decide) rfl rfl r0 (r72.src sl37) (by simp only [maxLen]; omega) (by omega)) ?_
 rintro _ w147 ⟨g73, r73, m148, a73, l73⟩
 have z149 := m148.size
 have hS150 := hS146.step m148 nI
 obtain ⟨p73, q73, rfl, -⟩ := r73.form
 refine ⟨hS150, ?_⟩
 refine hlKH rfl (xapp sl37 in5 rfl (by decide) rfl rfl r73 (src_str st9 (mkB lab)) (by simp only [maxLen, mkB_size]; omega) (by simp only [mkB_size]; omega)) ?_
 rintro _ w151 ⟨g77, r77, m152, a77, l77⟩
 have z153 := m152.size
 have hS154 := hS150.step m152 (fun k hk hS => by have hS : k = g73 := hS; show k = y0; omega)
 obtain ⟨p77, q77, rfl, -⟩ := r77.form
 have hW := ((hW.k m145).keep m148 (nE (by omega))).keep m152 (nE (by omega))
 refine ⟨hS154, ?_⟩
 refine qqN rfl rfl hS154 (hvH rfl (fun _ _ => xfld fl116_0 rfl) hS154 ?_)
 refine bluKH rfl (xstF 0 sz37 hW rfl rfl rfl rfl rfl) ?_
 rintro w156 ⟨m157, hW, s155⟩
 have hL1 := ((((((((((((hL1.s m118).step m120 (fun k hk hS hk2 => by have hS : k = y1 := hS; have hk3 := hKy k hk2; omega)).step m124 (fun k hk hS hk2 => by have hS : k = bw := hS; have hk3 := hKy k hk2; omega)).drew).s m129).step m132 (fun k hk hS hk2 => by have hS : k = y2 := hS; have hk3 := hKy k hk2; omega)).step m137 (fun k hk hS hk2 => by have hS : k = bw := hS; have hk3 := hKy k hk2; omega)).s hL138).drew).s m145).step m148 (fun k hk hS hk2 => by have hS : k = y0 := hS; have hk3 := hKy k hk2; omega)).step m152 (fun k hk hS hk2 => by have hS : k = g73 := hS; have hk3 := hKy k hk2; omega)).step m157 (fun k hk hS hk2 => by have hS : k = bw := hS; have hk3 := hKy k hk2; omega)
 have r42 := ((((((((((r42.keep m124 (nE (by omega))).k (fd w123)).k m129).keep m132 (nE (by omega))).keep m137 (nE (by omega))).k hL138).k (fd w139)).k m145).keep m148 (nE (by omega))).keep m152 (nE (by omega))).keep m157 (nE (by omega))
 have r56 := ((((((r56.keep m137 (nE (by omega))).k hL138).k (fd w139)).k m145).keep m148 (nE (by omega))).keep m152 (nE (by omega))).keep m157 (nE (by omega))
 have r77 := r77.keep m157 (nE (by omega))
 refine hendH (fdg 0 1 5 rfl fun _ => lreg (sM rfl (sM rfl (sv (xadd rfl rfl (w64n (lab.length + 1) (by omega) (by omega))) (sv ((xcutSLb (xs := lab ++ [46]) st9 (by rw [List.append_assoc]; rfl) rfl (by simp))) (sA rfl (lend (nBlock (nThen ?_)))))))))
 refine ⟨(rest1, out ++ (UInt8.ofNat lab.length :: lab), M1 ++ [((mkB (lab ++ 46 :: rest1)), UInt16.ofNat (bs.length + out.length))], g77, g42, g56), _, env_okl ⟨rfl, rfl, trivial⟩, ⟨hL1, (by rw [← List.append_assoc]; exact sh_mk hW (br_cast r77 (by simp [bvs, bv]) rfl) (.inr ⟨by simp, by simpa [strs] using r42⟩) (.inr ⟨by simp, by simpa [ints] using r56⟩) (by have hq := l77 (by omega); omega) (by omega) (by omega) (by omega) (by simp only [List.length_append, List.length_cons, List.length_nil]; omega)), (by have hq := pk_missJ hlab0 hlabd hno hn1 hpk1; rw [if_pos (by omega)] at hq; exact hq), (by simp only [List.length_append, List.length_cons]; omega), (by simp only [List.length_append, List.length_cons, List.length_nil]; omega), (by intro q hq; rcases List.mem_append.1 hq with hq | hq; exact hm2 q hq; simp only [List.mem_singleton] at hq; subst hq; rw [hpos2]; omega), (fun k hk => by have hq := hKy k hk; omega)⟩, ?_⟩
 show rest1.length < (lab ++ 46 :: rest1).length; simp; omega
end Go.Proofs.YtifnodoffgfpbaaGreatDoor

namespace Go.Proofs.YtifnodoffgfpbaaGreatDoor
open Go

theorem Sh.lts {w : World} {bw g0 g1 g2 : Nat} {bs : List UInt8} {M : Ent} (h : Sh w bw bs M g0 g1 g2) : bw < w.heap.size ∧ g0 < w.heap.size ∧ g1 < w.heap.size ∧ g2 < w.heap.size := by
  obtain ⟨v0, v1, v2, a, b, c, d, e, f, g, _⟩ := h
  exact ⟨a.lt, e, f, g⟩
def KN (y : Bool) (r : RecD) : Prop := y = true ↔ (r.kind = 2 ∨ r.kind = 3 ∨ r.kind = 5)
theorem KN.t {y : Bool} {r : RecD} (h : KN y r) (e : y = true) : r.kind = 2 ∨ r.kind = 3 ∨ r.kind = 5 := h.1 e
theorem KN.f {y : Bool} {r : RecD} (h : KN y r) (e : y = false) : ¬ (r.kind = 2 ∨ r.kind = 3 ∨ r.kind = 5) := fun q => Bool.noConfusion ((h.2 q).symm.trans e)
def Gd (n bw g0 g1 g2 : Nat) : Prop := (n = 0 ∧ g1 = bw ∧ g2 = bw) ∨ (0 < n ∧ g1 ≠ bw ∧ g2 ≠ bw ∧ g1 ≠ g2 ∧ g1 ≠ g0 ∧ g2 ≠ g0)
theorem Gd.ne1 {n bw g0 g1 g2 : Nat} (h : Gd n bw g0 g1 g2) (h0 : 0 < n) : g1 ≠ bw ∧ g1 ≠ g0 := by rcases h with h | h; exact absurd h.1 (by omega); exact ⟨h.2.1, h.2.2.2.2.1⟩
theorem Gd.ne2 {n bw g0 g1 g2 : Nat} (h : Gd n bw g0 g1 g2) (h0 : 0 < n) : g2 ≠ bw ∧ g2 ≠ g0 := by rcases h with h | h; exact absurd h.1 (by omega); exact ⟨h.2.2.1, h.2.2.2.2.2⟩
theorem Gd.up {n bw g0 g0' g1 g2 S : Nat} (h : Gd n bw g0 g1 g2) (hs : g0' = g0 ∨ S ≤ g0') (h1 : g1 < S) (h2 : g2 < S) : Gd n bw g0' g1 g2 := by
  rcases hs with rfl | hs
  · exact h
  · rcases h with h | ⟨a, b, c, d, _, _⟩
    · exact .inl h
    · exact .inr ⟨a, b, c, d, by omega, by omega⟩
theorem pb_mxJ {M M1 : Ent} {p : Nat} {r : RecD} {P : List UInt8} (h : r.kind = 6) (h1 : packName (some M) (p + 2) (bt r.host) = (P, some M1)) : packBody (some M) p r = (be16 r.n1.toNat ++ P, some M1) := by
  rw [pb_mx h, packMx, h1]
theorem pb_soaJ {M M1 M2 : Ent} {p : Nat} {r : RecD} {P Q : List UInt8} (h : r.kind = 4) (h1 : packName (some M) p (bt r.host) = (P, some M1)) (h2 : packName (some M1) (p + P.length) (bt r.box) = (Q, some M2)) : packBody (some M) p r = (P ++ (Q ++ soaL r), some M2) := by
  rw [pb_soa h, packSoa, h1]
  simp only []
  rw [h2]
theorem pr_J {M M1 M2 : Ent} {p : Nat} {r : RecD} {P B : List UInt8} (h1 : packName (some M) p (bt r.name) = (P, some M1)) (h2 : packBody (some M1) (p + P.length + 10) r = (B, some M2)) : packRec (some M) p r = (P ++ packTail r B, some M2) := by
  rw [packRec, h1]
  simp only []
  rw [h2]
theorem br_mid {w : World} {v : Value} {g n : Nat} {X Y x B : List UInt8} (h : BR w v g n (X ++ B)) (e : X = Y ++ x) : Rw w v g 5 1 n (bvs Y ++ (bvs x ++ bvs B)) := by
  subst e
  simpa only [BR, bvs_app, List.append_assoc] using h
section
variable {P : Program} {n : Nat} {l : List (Nat × Value)} {w : World} {ty : TypeId} {x y : Operand}
theorem xcutLe {T E : TypeId} {sz b o m c lo : Nat} {k : IntKind} {i : Int} {p : Operand} (hT : slcB P T E = true) (hE : szB P E sz = true) (hx : ev n l x = some (.slice (some ⟨b, o, none⟩) m c)) (hp : ev n l p = some (.int k i)) (hi' : i = (lo : Int)) (h1 : lo ≤ m) (h2 : lo < c) :
    Ex P n l (.slice T x (some p) none none) ty w (.slice (some ⟨b, o + lo * sz, none⟩) (m - lo) (c - lo)) w := by
  obtain ⟨v, w', h, o', rfl, ho, rfl⟩ := xcutL (ty := ty) (w := w) hT hE hx hp hi' h1
  rw [ho h2] at h
  exact h
theorem xcopyIn {T TX E : TypeId} {g o m c N : Nat} {V u : Value} {pre mid post : List Value} {xs : List UInt8} (hT : slcB P T E = true) (hE : szB P E 1 = true) (hx : ev n l x = some (.slice (some ⟨g, o, none⟩) m c)) (hy : ev n l y = some u) (hc : Cpy P w u xs)
    (hR : Rw w V g E 1 N (pre ++ (mid ++ post))) (hp : pre.length = o) (hmid : mid.length = xs.length) (hm : xs.length ≤ m) (h0 : 0 < N) :
    ExK P n l (.call { callee := .builtin .copy, args := #[x, y], argTypes := #[T, TX] }) ty w (fun _ w' => Fr (· = g) w w' ∧ Rw w' V g E 1 N (pre ++ (bvs xs ++ post)) ∧ w'.heap.size = w.heap.size) := by
  obtain ⟨⟨hlen, hown⟩, hblk, hone⟩ := hR
  rcases hown with ⟨_, hn0⟩ | ⟨g', cap, cur, rfl, hb0, hheap, hnc, hcm, hcs, htake⟩
  · omega
  · obtain rfl := hblk g' rfl
    subst hp
    rw [Nat.mul_one] at hcs htake hlen
    have hcur : cur.toList = pre ++ (mid ++ (post ++ cur.toList.drop N)) := by
      have h1 := List.take_append_drop N cur.toList
      rw [htake] at h1
      exact h1.symm.trans (by simp only [List.append_assoc])
    have hheap' : w.heap[g']? = some (.cells (pre ++ (mid ++ (post ++ cur.toList.drop N))).toArray E (0, 0)) := by rw [hheap, ← hcur]
    have hbl : (bvs xs).length = xs.length := bvs_length _
    have hfit : pre.length + (bvs xs).length ≤ (pre ++ (mid ++ (post ++ cur.toList.drop N))).length := by simp only [List.length_append]; omega
    have hsets := heap_sets (bvs xs) pre.length hheap' hfit
    rw [splice_mid _ _ _ _ (by rw [hbl, hmid])] at hsets
    have hB : Blk w g' (pre ++ (mid ++ (post ++ cur.toList.drop N))) := ⟨E, hheap'⟩
    have hst := run_storeCells_cells (P := P) g' pre.length (bvs xs) 0 w (fun j hj => by rw [Nat.add_zero]; exact (hB.there hfit j hj).1) (fun j hj => by rw [Nat.add_zero]; exact (hB.there hfit j hj).2) (by simpa using bvs_one xs)
    simp only [Nat.add_zero] at hst
    have hmin : min xs.length m = xs.length := Nat.min_eq_left hm
    have hfc := hc.2 xs.length (Nat.le_refl _)
    rw [List.take_length] at hfc
    have hs := szB_spec hE
    cases hi' : P.info? E with
    | none => rw [hi'] at hs; cases hs
    | some j =>
    rw [hi'] at hs
    simp only [Option.map_some, Option.some.injEq] at hs
    refine ⟨.int .i64 (xs.length : Int), w.setCells g' pre.length (bvs xs), fun r _ _ _ _ => ?_, hsets.2.1, ⟨⟨?_, .inr ⟨g', cap, _, rfl, hb0, hsets.1, hnc, hcm, ?_, ?_⟩⟩, hblk, ?_⟩, hsets.2.2⟩
    · simp only [execOp]
      simp [resolve, invoke, builtin, ev_eval r hx, ev_eval r hy, Builtin.copy_, run_underlying (slcB_spec hT), hc.1, sizeOf, typeInfo, hi', hs, hfc, hst, goInt, hmin]
    · rw [Nat.mul_one]; simp only [List.length_append] at hlen ⊢; omega
    · have := congrArg List.length hcur
      simp only [Array.length_toList, List.length_append] at this
      simp only [List.size_toArray, List.length_append]; omega
    · rw [Nat.mul_one]
      simp only [List.length_append] at hlen
      have e : pre ++ (bvs xs ++ (post ++ cur.toList.drop N)) = (pre ++ (bvs xs ++ post)) ++ cur.toList.drop N := by simp
      show (pre ++ (bvs xs ++ (post ++ cur.toList.drop N))).take N = _
      rw [e, List.take_left' (by simp only [List.length_append]; omega)]
    · simp only [List.all_append, Bool.and_eq_true] at hone ⊢
      exact ⟨hone.1, bvs_one _, hone.2.2⟩
end

theorem c54 {w : World} {bw g0 g1 g2 : Nat} {bs : List UInt8} {M : Ent} {U K : Nat → Prop} {r : RecD} {vd vt vp : Value} (hd : BA U w vd r.data) (ht : LA TextEl [1] U w vt r.texts) (hp : LA PairEl lPair U w vp r.pairs) (hSh : Sh w bw bs M g0 g1 g2) (hr : r.fits) (h0 : 0 ≤ r.kind) (h1 : r.kind ≤ 13) (hn : NamesOk r) (hbl : bs.length ≤ 9000000) (hMl : M.length ≤ 90000) (hm2 : ∀ q ∈ M, q.2.toNat ≤ 16383) (hK : ∀ k, K k → k < w.heap.size ∧ k ≠ bw ∧ k ≠ g0 ∧ k ≠ g1 ∧ k ≠ g2) (hUK : ∀ k, U k → K k) :
  Ret PP 54 [.pointer (some ⟨bw, 0, none⟩), ag (recSegs r vd vt vp)] w (fun _ w' => ∃ M' g0' g1' g2', (packRec (some M) bs.length r).2 = some M' ∧ Sh w' bw (bs ++ (packRec (some M) bs.length r).1) M' g0' g1' g2' ∧ M'.length ≤ M.length + 762 ∧ (∀ q ∈ M', q.2.toNat ≤ 16383) ∧ (∀ k, K k → k ≠ g0' ∧ k ≠ g1' ∧ k ≠ g2') ∧ Fr (fun k => ¬ K k) w w') := by
 have hU : ∀ k, U k → k < w.heap.size := fun k hk => (hK k (hUK k hk)).1
 have hlt := hSh.lts
 have hbod := bodyL_fits hr
 obtain ⟨at0, ct0, rfl⟩ := ht.form
 obtain ⟨ap0, cp0, rfl⟩ := hp.form
 obtain ⟨ad0, cd0, rfl, -⟩ := id hd
 have hf : Fr (fun k => ¬ K k) w w := Fr.refl _ _
 refine ret_of Tryz.func54 rfl rfl rfl [(0, _), (1, _)] rfl ?_
 refine sreg (svK (xboxS (lens := lRec) rfl rfl) ?_)
 rintro _ w2 ⟨b3, rfl, m3, h3, e1, s1⟩
 have hd := hd.keep (fun k hk => by have hk := hK k (hUK k hk); omega) m3 nF
 have ht := ht.keep text_st (fun k hk => by have hk := hK k (hUK k hk); omega) m3 nF
 have hp := hp.keep pair_st (fun k hk => by have hk := hK k (hUK k hk); omega) m3 nF
 refine send (fcg 0 3 rfl fun _ => ?_)
 obtain ⟨K3, hK3d⟩ : ∃ K3 : Nat → Prop, K3 = fun k => K k ∨ k = b3 := ⟨_, rfl⟩
 have hK3l : ∀ k, K k → K3 k := fun k hk => by rw [hK3d]; exact .inl hk
 have hK3b : K3 b3 := by rw [hK3d]; exact .inr rfl
 have hKy : ∀ k, K3 k → k < w2.heap.size ∧ k ≠ bw ∧ k ≠ g0 ∧ k ≠ g1 ∧ k ≠ g2 := fun k hk => by rw [hK3d] at hk; rcases hk with hk | hk; (have hq := hK k hk; omega); omega
 refine sreg (sM rfl (sv (xfld fl65_0 rfl) (sv (xld on9 rfl (h3.r.c 0 rfl rfl)) ?_)))
 have hnp8 := name_pos (hn.1)
 rw [bt_length] at hnp8
 have hSh := hSh.keep m3 id id id id
 refine sc (xcall ca52 rfl) (c52 (K := K3) hSh (hn.1) (by first | omega | (simp only [List.length_append, be16_length]; omega)) (by omega) hm2 hKy) ?_
 rintro _ w4 ⟨M8, ya8, yb8, yc8, hpk8, hSh, hml8, hm2, hKq, m5⟩
 have z6 := m5.size
 have hps8 : (bs).length = bs.length := rfl
 obtain ⟨P8, hP8⟩ : ∃ P, packName (some M) (bs.length) (bt r.name) = (P, some M8) := ⟨_, Prod.ext rfl (by rw [hps8] at hpk8; exact hpk8)⟩
 have hSh : Sh w4 bw (bs ++ P8) M8 ya8 yb8 yc8 := by rw [hps8, hP8] at hSh; exact hSh
 have hPl8 := packName_le (some M) (bs.length) (bt r.name)
 rw [hP8, bt_length] at hPl8
 simp only at hPl8
 have hd := hd.keep (fun k hk => by have hk := hKy k (hK3l k (hUK k hk)); omega) m5 (fun k hk h => h (hK3l k (hUK k hk)))
 have ht := ht.keep text_st (fun k hk => by have hk := hKy k (hK3l k (hUK k hk)); omega) m5 (fun k hk h => h (hK3l k (hUK k hk)))
 have hp := hp.keep pair_st (fun k hk => by have hk := hKy k (hK3l k (hUK k hk)); omega) m5 (fun k hk h => h (hK3l k (hUK k hk)))
 have hKy : ∀ k, K3 k → k < w4.heap.size ∧ k ≠ bw ∧ k ≠ ya8 ∧ k ≠ yb8 ∧ k ≠ yc8 := fun k hk => by have hq := hKy k hk; have hq2 := hKq k hk; omega
 refine send (fcg 0 3 rfl fun _ => ?_)
 obtain ⟨u0, u1, u2, hW, r0, q1, q2, hl0, hl1, hl2, hne, hgs⟩ := hSh
 have hgs : Gd _ bw ya8 yb8 yc8 := hgs
 obtain ⟨p0, c0, rfl, -⟩ := Rw.form r0
 obtain ⟨a1, c1, rfl, hs1⟩ := q1.form
 obtain ⟨a2, c2, rfl, hs2⟩ := q2.form
 refine sdrawH (Fr (fun k => k = ya8) w4.drew) [rd0, rd1, rd2, rd3, rd4, rd5, rd8, rd9, rd11, rd12, ld6, ld7, ld10, ld13, ld14, ld15, (16, .ld), (17, .ld), rd18, rd19, (20, .bh)] mixed (by kernel_rfl) (fun _ _ _ _ _ h => h) ?_
 have z7 : w4.drew.heap.size = w4.heap.size := rfl
 have h3 := (h3.keep m5 (fun h => h hK3b)).drew
 have zb_h3 := h3
 have hW := hW.drew
 have zb_hW := hW
 have hS8 : Fr (fun k => k = ya8) w4.drew w4.drew := Fr.refl _ _
 refine qqM rfl rfl hS8 (qqM rfl rfl hS8 (qqN rfl rfl hS8 (hvH rfl (fun _ _ => xfld fl116_0 rfl) hS8 (hvH rfl (fun w' hS => xld on37 rfl ((zb_hW.keep hS (nE (by omega))).r.c 0 rfl rfl)) hS8 (hvH rfl (fun w' hS => xldS (lens := lRec) ro65 rfl (zb_h3.keep hS (by have hq := hKy b3 hK3b; show ¬ (b3 = ya8); omega)).r) hS8 (hvH rfl (fun _ _ => xfld fl65_2 rfl) hS8 (hvH rfl (fun w' hS => xld on22 rfl ((zb_h3.keep hS (by have hq := hKy b3 hK3b; show ¬ (b3 = ya8); omega)).r.c 2 rfl rfl)) hS8 (hvH rfl (fun _ _ => xfld fl65_3 rfl) hS8 (hvH rfl (fun w' hS => xld on61 rfl ((zb_h3.keep hS (by have hq := hKy b3 hK3b; show ¬ (b3 = ya8); omega)).r.c 3 rfl rfl)) hS8 ?_)))))))))
 refine hcH rfl (xcall ca86 rfl) (c86 (by omega) (by omega)) ?_
 rintro _ w9 ⟨rfl, m10⟩
 have z11 := m10.size
 have hS12 := hS8.s m10
 refine ⟨hS12, ?_⟩
 refine hcH rfl (xcall ca53 rfl) (c53 (by first | omega | exact u16lt _)) ?_
 rintro _ w13 ⟨p16, q16, g16, rfl, r16, m14, a16, l16⟩
 have z15 := m14.size
 have hS16 := hS12.s m14
 refine ⟨hS16, ?_⟩
 refine hcH rfl (xcall ca53 rfl) (c53 (by first | omega | exact u16lt _)) ?_
 rintro _ w17 ⟨p19, q19, g19, rfl, r19, m18, a19, l19⟩
 have z19 := m18.size
 have hS20 := hS16.s m18
 refine ⟨hS20, ?_⟩
 refine hcH rfl (xcall ca99 rfl) (c99 (by first | omega | exact u32lt _)) ?_
 rintro _ w21 ⟨p22, q22, g22, rfl, r22, m22, a22, l22⟩
 have z23 := m22.size
 have hS24 := hS20.s m22
 refine ⟨hS24, ?_⟩
 refine hcH rfl (xcall ca53 rfl) (c53 (x := 0) (by decide)) ?_
 rintro _ w25 ⟨p23, q23, g23, rfl, r23, m26, a23, l23⟩
 have z27 := m26.size
 have hS28 := hS24.s m26
 refine ⟨hS28, ?_⟩
 refine hlKH rfl (xslit [_, _, _, _] sl105 in37 rfl (by decide) rfl rfl rfl rfl (by decide) rfl rfl) ?_
 rintro _ w30 ⟨b24, rfl, m31, h24, e24, s24, r24⟩
 have hS32 := hS28.s m31
 have r16 := (((r16.k m18).k m22).k m26).k m31
 have r19 := ((r19.k m22).k m26).k m31
 have r22 := (r22.k m26).k m31
 have r23 := r23.k m31
 refine ⟨hS32, ?_⟩
 refine hcH rfl (xcall ca21 rfl) (c21 (U := fun k => k = g16 ∨ k = g19 ∨ k = g22 ∨ k = g23) (Rw.rng r24) (by omega) rfl (fun k hk => by have hk : k = g16 ∨ k = g19 ∨ k = g22 ∨ k = g23 := hk; rcases hk with hk | hk | hk | hk <;> first | omega | (have := hU k hk; omega)) (All2.cons (BR.ba r16 (.inl rfl)) (All2.cons (BR.ba r19 (.inr (.inl rfl))) (All2.cons (BR.ba r22 (.inr (.inr (.inl rfl)))) (All2.cons (BR.ba r23 (.inr (.inr (.inr rfl)))) All2.nil)))) (by simp only [fC, fN, List.length_append, be16_length, be32_length, List.length_nil]; omega) (by decide)) ?_
 rintro _ w33 ⟨p25, q25, g25, rfl, r25, m34, a25, l25⟩
 have z35 := m34.size
 have hS36 := hS32.s m34
 have r0 := (((((((r0.k (fd w4)).k m10).k m14).k m18).k m22).k m26).k m31).k m34
 refine ⟨hS36, ?_⟩
 refine hlKH rfl (xapp sl37 in5 rfl (by decide) rfl rfl r0 (r25.src sl37) (by simp only [maxLen]; simp [be16_length, be32_length]; omega) (by simp [be16_length, be32_length]; omega)) ?_
 rintro _ w37 ⟨g26, r26, m38, a26, l26⟩
 have z39 := m38.size
 have hS40 := hS36.step m38 nI
 obtain ⟨p26, q26, rfl, -⟩ := r26.form
 have hN26 := ((Nat.mul_one _).symm.trans (Rw.len r26).symm).trans (show _ = bs.length + P8.length + 10 by simp [bvs_length, be16_length, be32_length]; try omega)
 obtain ⟨X1, hX1⟩ : ∃ X, X = (bs ++ (P8 ++ (be16 (typeN r).toNat ++ (be16 r.cls.toNat ++ be32 r.ttl.toNat)))) ++ be16 0 := ⟨_, rfl⟩
 have hX1l : X1.length = bs.length + P8.length + 10 := by rw [hX1]; simp [be16_length, be32_length]; omega
 have r26 : BR _ _ g26 (bs.length + P8.length + 10) X1 := br_cast r26 (by rw [hX1]; simp [bvs_app]) hN26
 have hW := (((((((hW.k m10).k m14).k m18).k m22).k m26).k m31).k m34).keep m38 (nE (by omega))
 refine ⟨hS40, ?_⟩
 refine qqN rfl rfl hS40 (hvH rfl (fun _ _ => xfld fl116_0 rfl) hS40 ?_)
 refine bluKH rfl (xstF 0 sz37 hW rfl rfl rfl rfl rfl) ?_
 rintro w42 ⟨m43, hW, s41⟩
 have q1 := (((((((((q1.keep (fd w4) (fun h0 => id)).keep m10 (fun h0 => id)).keep m14 (fun h0 => id)).keep m18 (fun h0 => id)).keep m22 (fun h0 => id)).keep m26 (fun h0 => id)).keep m31 (fun h0 => id)).keep m34 (fun h0 => id)).keep m38 (fun h0 => by have h0 := h0; have hq := hgs.ne1 h0; show ¬ (yb8 = ya8); omega)).keep m43 (fun h0 => by have h0 := h0; have hq := hgs.ne1 h0; show ¬ (yb8 = bw); omega)
 have q2 := (((((((((q2.keep (fd w4) (fun h0 => id)).keep m10 (fun h0 => id)).keep m14 (fun h0 => id)).keep m18 (fun h0 => id)).keep m22 (fun h0 => id)).keep m26 (fun h0 => id)).keep m31 (fun h0 => id)).keep m34 (fun h0 => id)).keep m38 (fun h0 => by have h0 := h0; have hq := hgs.ne2 h0; show ¬ (yc8 = ya8); omega)).keep m43 (fun h0 => by have h0 := h0; have hq := hgs.ne2 h0; show ¬ (yc8 = bw); omega)
 have hgs := hgs.up a26 (by omega) (by omega)
 have hf := (((((((((((hf.s m3).step m5 (fun k hk hS hk2 => hS (hK3l k hk2))).drew).s m10).s m14).s m18).s m22).s m26).s m31).s m34).step m38 (fun k hk hS hk2 => by have hS : k = ya8 := hS; have hk3 := hKy k (hK3l k hk2); omega)).step m43 (fun k hk hS hk2 => by have hS : k = bw := hS; have hk3 := hKy k (hK3l k hk2); omega)
 have hd := (((((((((hd.keep (fun k hk => by have hk := hKy k (hK3l k (hUK k hk)); omega) (fd w4) nF).keep (fun k hk => by have hk := hKy k (hK3l k (hUK k hk)); omega) m10 nF).keep (fun k hk => by have hk := hKy k (hK3l k (hUK k hk)); omega) m14 nF).keep (fun k hk => by have hk := hKy k (hK3l k (hUK k hk)); omega) m18 nF).keep (fun k hk => by have hk := hKy k (hK3l k (hUK k hk)); omega) m22 nF).keep (fun k hk => by have hk := hKy k (hK3l k (hUK k hk)); omega) m26 nF).keep (fun k hk => by have hk := hKy k (hK3l k (hUK k hk)); omega) m31 nF).keep (fun k hk => by have hk := hKy k (hK3l k (hUK k hk)); omega) m34 nF).keep (fun k hk => by have hk := hKy k (hK3l k (hUK k hk)); omega) m38 (fun k hk hS => by have hk := hKy k (hK3l k (hUK k hk)); have hS : k = ya8 := hS; omega)).keep (fun k hk => by have hk := hKy k (hK3l k (hUK k hk)); omega) m43 (fun k hk hS => by have hk := hKy k (hK3l k (hUK k hk)); have hS : k = bw := hS; omega)
 have ht := (((((((((ht.keep text_st (fun k hk => by have hk := hKy k (hK3l k (hUK k hk)); omega) (fd w4) nF).keep text_st (fun k hk => by have hk := hKy k (hK3l k (hUK k hk)); omega) m10 nF).keep text_st (fun k hk => by have hk := hKy k (hK3l k (hUK k hk)); omega) m14 nF).keep text_st (fun k hk => by have hk := hKy k (hK3l k (hUK k hk)); omega) m18 nF).keep text_st (fun k hk => by have hk := hKy k (hK3l k (hUK k hk)); omega) m22 nF).keep text_st (fun k hk => by have hk := hKy k (hK3l k (hUK k hk)); omega) m26 nF).keep text_st (fun k hk => by have hk := hKy k (hK3l k (hUK k hk)); omega) m31 nF).keep text_st (fun k hk => by have hk := hKy k (hK3l k (hUK k hk)); omega) m34 nF).keep text_st (fun k hk => by have hk := hKy k (hK3l k (hUK k hk)); omega) m38 (fun k hk hS => by have hk := hKy k (hK3l k (hUK k hk)); have hS : k = ya8 := hS; omega)).keep text_st (fun k hk => by have hk := hKy k (hK3l k (hUK k hk)); omega) m43 (fun k hk hS => by have hk := hKy k (hK3l k (hUK k hk)); have hS : k = bw := hS; omega)
 have hp := (((((((((hp.keep pair_st (fun k hk => by have hk := hKy k (hK3l k (hUK k hk)); omega) (fd w4) nF).keep pair_st (fun k hk => by have hk := hKy k (hK3l k (hUK k hk)); omega) m10 nF).keep pair_st (fun k hk => by have hk := hKy k (hK3l k (hUK k hk)); omega) m14 nF).keep pair_st (fun k hk => by have hk := hKy k (hK3l k (hUK k hk)); omega) m18 nF).keep pair_st (fun k hk => by have hk := hKy k (hK3l k (hUK k hk)); omega) m22 nF).keep pair_st (fun k hk => by have hk := hKy k (hK3l k (hUK k hk)); omega) m26 nF).keep pair_st (fun k hk => by have hk := hKy k (hK3l k (hUK k hk)); omega) m31 nF).keep pair_st (fun k hk => by have hk := hKy k (hK3l k (hUK k hk)); omega) m34 nF).keep pair_st (fun k hk => by have hk := hKy k (hK3l k (hUK k hk)); omega) m38 (fun k hk hS => by have hk := hKy k (hK3l k (hUK k hk)); have hS : k = ya8 := hS; omega)).keep pair_st (fun k hk => by have hk := hKy k (hK3l k (hUK k hk)); omega) m43 (fun k hk hS => by have hk := hKy k (hK3l k (hUK k hk)); have hS : k = bw := hS; omega)
 have h3 := ((((((((h3.k m10).k m14).k m18).k m22).k m26).k m31).k m34).keep m38 (by have hq := hKy b3 hK3b; show ¬ (b3 = ya8); omega)).keep m43 (by have hq := hKy b3 hK3b; show ¬ (b3 = bw); omega)
 have hKy : ∀ k, K3 k → k < w42.heap.size ∧ k ≠ bw ∧ k ≠ g26 ∧ k ≠ yb8 ∧ k ≠ yc8 := fun k hk => by have hq := hKy k hk; omega
 have hne : g26 ≠ bw := by omega
 have l26 := l26 (.inl (by omega))
 clear a26
 refine hendH ((sreg (sM rfl (sN rfl (sv (xfld fl116_0 rfl) (sv (xld on37 rfl (hW.r.c 0 rfl rfl)) (sv (xlen sl37 rfl) (sA rfl (send ((wp_seq (sreg (sv (xfld fl65_5 rfl) (sv (xld on3 rfl (h3.r.c 5 rfl rfl)) (send ((wp_block (wp_seq (sreg (sv (xeql rfl rfl) (sA rfl (send (ffg 0 3 4 35 46 rfl fun _ => ?_)))))))))))))))))))))))
 refine jcut [(0, _), (3, _), (4, _), (35, _)] ⟨rfl, rfl, rfl, rfl, trivial⟩ (fun (x : Bool) => match x with | y => [(46, .bool y)]) (fun (x : Bool) wx => match x with | y => Fr (fun _ => False) w42 wx ∧ (KN y r)) ?_ ?_
 ·
  have hJ44 : Fr (fun _ => False) w42 w42 := Fr.refl _ _
  refine cB rfl (fun hb => ?_) (fun hb => ?_)
  ·
   refine wp_skip ?_
   exact ⟨rfl, _, _, env_okl ⟨rfl, rfl, rfl, rfl, rfl, trivial⟩, ⟨hJ44, (⟨fun _ => by have := of_decide_eq_true hb; omega, fun _ => hb⟩)⟩⟩
  have hk2 := of_decide_eq_false hb
  refine sreg (sv (xeql rfl rfl) (sA rfl (send (ffg 0 3 4 35 46 rfl fun _ => ?_))))
  refine cB rfl (fun hb => ?_) (fun hb => ?_)
  ·
   refine wp_skip ?_
   exact ⟨rfl, _, _, env_okl ⟨rfl, rfl, rfl, rfl, rfl, trivial⟩, ⟨hJ44, (⟨fun _ => by have := of_decide_eq_true hb; omega, fun _ => hb⟩)⟩⟩
  have hk3 := of_decide_eq_false hb
  refine lreg (sv (xeql rfl rfl) (sA rfl (lend ?_)))
  exact ⟨rfl, _, _, env_okl ⟨rfl, rfl, rfl, rfl, rfl, trivial⟩, ⟨hJ44, (by rw [KN, decide_eq_true_iff]; omega)⟩⟩
 rintro y _ w45 ⟨hJ44, hyk⟩
 have z46 := hJ44.size
 have hf := hf.s hJ44
 have hW := hW.k hJ44
 have q1 := q1.keep hJ44 (fun h0 => id)
 have q2 := q2.keep hJ44 (fun h0 => id)
 refine nThen (ffg 0 3 4 35 46 rfl fun _ => ?_)
 refine jcut [(0, _), (4, _)] ⟨rfl, rfl, trivial⟩ (fun (x : List UInt8 × Ent × Nat × Nat × Nat) => match x with | (B, M2, z0, z1, z2) => []) (fun (x : List UInt8 × Ent × Nat × Nat × Nat) wx => match x with | (B, M2, z0, z1, z2) => Fr (fun k => ¬ K3 k) w45 wx ∧ (Sh wx bw (X1 ++ B) M2 z0 z1 z2) ∧ (packBody (some M8) (bs.length + P8.length + 10) r = (B, some M2)) ∧ (M2.length ≤ M8.length + 508) ∧ (∀ q ∈ M2, q.2.toNat ≤ 16383) ∧ (∀ k, K3 k → k < wx.heap.size ∧ k ≠ bw ∧ k ≠ z0 ∧ k ≠ z1 ∧ k ≠ z2)) ?_ ?_
 rotate_left
 ·
  rintro ⟨B, M2, z0, z1, z2⟩ _ w124 ⟨hJ47, hSh, hB, hml, hm2, hKy⟩
  have z125 := hJ47.size
  refine nBlock (nThen (fcg 0 4 rfl fun _ => ?_))
  obtain ⟨u0, u1, u2, hW, r0, q1, q2, hl0, hl1, hl2, hne, hgs⟩ := hSh
  have hgs : Gd _ bw z0 z1 z2 := hgs
  obtain ⟨p0, c0, rfl, hcc, hcm, hpa, -⟩ := Rw.form r0
  obtain ⟨a1, c1, rfl, hs1⟩ := q1.form
  obtain ⟨a2, c2, rfl, hs2⟩ := q2.form
  obtain rfl := hpa (by simp; omega)
  rw [List.length_append, hX1l] at hcc
  simp only [maxLen] at hcm
  refine ldrawH (Fr (fun _ => False) w124.drew) [rd0, rd1, rd2, rd3, rd4, rd5, rd6, rd7, rd8, rd9, rd10, rd11, rd12, rd13, rd14, ld15, (16, .bh)] mixed (by kernel_rfl) (fun _ _ _ _ _ h => h) ?_
  have z126 : w124.drew.heap.size = w124.heap.size := rfl
  have hW := hW.drew
  have zb_hW := hW
  have hS127 : Fr (fun _ => False) w124.drew w124.drew := Fr.refl _ _
  refine qqM rfl rfl hS127 (qqN rfl rfl hS127 (hvH rfl (fun _ _ => xfld fl116_0 rfl) hS127 (hvH rfl (fun w' hS => xld on37 rfl ((zb_hW.k hS).r.c 0 rfl rfl)) hS127 (qqM rfl rfl hS127 (hvH rfl (fun _ _ => xsub rfl rfl (w64n (bs.length + P8.length + 8) (by omega) (by omega))) hS127 (hvH rfl (fun _ _ => xcutLe (lo := bs.length + P8.length + 8) sl37 sz5 rfl rfl (by rfl) (by simp; omega) (by omega)) hS127 (qqM rfl rfl hS127 (qqN rfl rfl hS127 (hvH rfl (fun _ _ => xfld fl116_0 rfl) hS127 (hvH rfl (fun w' hS => xld on37 rfl ((zb_hW.k hS).r.c 0 rfl rfl)) hS127 (hvH rfl (fun _ _ => xlen sl37 rfl) hS127 (qqM rfl rfl hS127 (hvH rfl (fun _ _ => xsub rfl rfl (w64n B.length (by rw [List.length_append, hX1l]; omega) (by omega))) hS127 (hvH rfl (fun _ _ => xconv hs3 ki22 rfl (wu16n (B.length % 65536) (by omega))) hS127 ?_))))))))))))))
  refine hcH rfl (xcall ca53 rfl) (c53 (by first | omega | exact u16lt _)) ?_
  rintro _ w128 ⟨p122, q122, g122, rfl, r122, m129, a122, l122⟩
  have z130 := m129.size
  have hS131 := hS127.s m129
  have r0 := (r0.k (fd w124)).k m129
  refine ⟨hS131, ?_⟩
  refine blKH rfl (xcopyIn sl37 sz5 rfl rfl (cpy_ba (BR.ba r122 (U := fun _ => True) trivial)) (br_mid r0 hX1) (by simp [bvs_length, be16_length, be32_length]; omega) (by simp [bvs_length, be16_length]) (by simp [be16_length]; omega) (by simp; omega)) ?_
  rintro _ w132 ⟨m133, r0, s123⟩
  refine lhendH ?_
  refine rp0n rfl ?_
  have hR := pr_J hP8 hB
  rw [hR]
  have hf := (((hf.step hJ47 (fun k hk hS hk2 => hS (hK3l k hk2))).drew).s m129).step m133 (fun k hk hS hk2 => by have hS : k = z0 := hS; have hk3 := hKy k (hK3l k hk2); omega)
  have q1 := ((q1.keep (fd w124) (fun h0 => id)).keep m129 (fun h0 => id)).keep m133 (fun h0 => by have h0 := h0; have hq := hgs.ne1 h0; show ¬ (z1 = z0); omega)
  have q2 := ((q2.keep (fd w124) (fun h0 => id)).keep m129 (fun h0 => id)).keep m133 (fun h0 => by have h0 := h0; have hq := hgs.ne2 h0; show ¬ (z2 = z0); omega)
  have hW := (hW.k m129).keep m133 (nE (by omega))
  refine ⟨M2, z0, z1, z2, rfl, ?_, by omega, hm2, fun k hk => by have hq := hKy k (hK3l k hk); omega, hf⟩
  exact sh_mk hW (br_cast r0 (by simp only [packTail, bvs_app, two16, List.append_assoc]) rfl) q1 q2 (by omega) (by omega) (by omega) (by omega) hgs
 have hJ47 : Fr (fun k => ¬ K3 k) w45 w45 := Fr.refl _ _
 have r26 := (r26.keep m43 (nE (by omega))).k hJ44
 have hd := hd.keep (fun k hk => by have hk := hKy k (hK3l k (hUK k hk)); omega) hJ44 nF
 have ht := ht.keep text_st (fun k hk => by have hk := hKy k (hK3l k (hUK k hk)); omega) hJ44 nF
 have hp := hp.keep pair_st (fun k hk => by have hk := hKy k (hK3l k (hUK k hk)); omega) hJ44 nF
 have h3 := h3.k hJ44
 refine cB rfl (fun hb => ?_) (fun hb => ?_)
 ·
  refine lreg (sM rfl (sv (xfld fl65_7 rfl) (sv (xld on9 rfl (h3.r.c 7 rfl rfl)) ?_)))
  have hSh := sh_mk hW r26 q1 q2 (by omega) (by omega) (by omega) (by omega) hgs
  have hKy : ∀ k, K3 k → k < w45.heap.size ∧ k ≠ bw ∧ k ≠ g26 ∧ k ≠ yb8 ∧ k ≠ yc8 := fun k hk => by have hq := hKy k hk; omega
  have hnp53 := name_pos (hn.2.1 (by have hq := hyk.t hb; omega))
  rw [bt_length] at hnp53
  refine sc (xcall ca52 rfl) (c52 (K := K3) hSh (hn.2.1 (by have hq := hyk.t hb; omega)) (by first | omega | (simp only [List.length_append, be16_length]; omega)) (by omega) hm2 hKy) ?_
  rintro _ w48 ⟨M53, ya53, yb53, yc53, hpk53, hSh, hml53, hm2, hKq, m49⟩
  have z50 := m49.size
  have hps53 : (X1).length = bs.length + P8.length + 10 := hX1l
  obtain ⟨P53, hP53⟩ : ∃ P, packName (some M8) (bs.length + P8.length + 10) (bt r.host) = (P, some M53) := ⟨_, Prod.ext rfl (by rw [hps53] at hpk53; exact hpk53)⟩
  have hSh : Sh w48 bw (X1 ++ P53) M53 ya53 yb53 yc53 := by rw [hps53, hP53] at hSh; exact hSh
  have hPl53 := packName_le (some M8) (bs.length + P8.length + 10) (bt r.host)
  rw [hP53, bt_length] at hPl53
  simp only at hPl53
  have hd := hd.keep (fun k hk => by have hk := hKy k (hK3l k (hUK k hk)); omega) m49 (fun k hk h => h (hK3l k (hUK k hk)))
  have ht := ht.keep text_st (fun k hk => by have hk := hKy k (hK3l k (hUK k hk)); omega) m49 (fun k hk h => h (hK3l k (hUK k hk)))
  have hp := hp.keep pair_st (fun k hk => by have hk := hKy k (hK3l k (hUK k hk)); omega) m49 (fun k hk h => h (hK3l k (hUK k hk)))
  have hKy : ∀ k, K3 k → k < w48.heap.size ∧ k ≠ bw ∧ k ≠ ya53 ∧ k ≠ yb53 ∧ k ≠ yc53 := fun k hk => by have hq := hKy k hk; have hq2 := hKq k hk; omega
  have hJ47 := hJ47.step m49 (fun k hk hS hk2 => hS hk2)
  refine lend ?_
  exact ⟨rfl, (P53, M53, ya53, yb53, yc53), _, env_okl ⟨rfl, rfl, trivial⟩, ⟨hJ47, (hSh), (by rw [pb_name (hyk.t hb)]; exact hP53), (by omega), (hm2), (fun k hk => by have hq := hKy k hk; omega)⟩⟩
 refine sreg (svP (xeql rfl rfl) (fun hc55 => ?_) (fun hc55 => ?_))
 ·
  refine sA rfl (send (ffg 0 3 4 35 54 rfl fun _ => cyes rfl ?_))
  refine sdrawH (Fr (fun k => k = g26) w45.drew) [rd0, rd1, rd2, rd3, rd4, rd5, rd6, rd7, ld8, ld9, rd10, rd11, bh12] mixed (by kernel_rfl) (fun _ _ _ _ _ h => by cases h.1) ?_
  have z51 : w45.drew.heap.size = w45.heap.size := rfl
  have h3 := h3.drew
  have zb_h3 := h3
  have hW := hW.drew
  have zb_hW := hW
  have hS52 : Fr (fun k => k = g26) w45.drew w45.drew := Fr.refl _ _
  refine qqM rfl rfl hS52 (qqM rfl rfl hS52 (qqN rfl rfl hS52 (hvH rfl (fun _ _ => xfld fl116_0 rfl) hS52 (hvH rfl (fun w' hS => xld on37 rfl ((zb_hW.keep hS (nE (by omega))).r.c 0 rfl rfl)) hS52 (hvH rfl (fun _ _ => xfld fl65_9 rfl) hS52 (hvH rfl (fun w' hS => xld on61 rfl ((zb_h3.keep hS (by have hq := hKy b3 hK3b; show ¬ (b3 = g26); omega)).r.c 9 rfl rfl)) hS52 (hvH rfl (fun _ _ => xconv hs61 ki22 rfl (wu16n (r.n1.toNat % 65536) (by omega))) hS52 ?_)))))))
  refine hcH rfl (xcall ca53 rfl) (c53 (by first | omega | exact u16lt _)) ?_
  rintro _ w53 ⟨p64, q64, g64, rfl, r64, m54, a64, l64⟩
  have z55 := m54.size
  have hS56 := hS52.s m54
  have r26 := (r26.k (fd w45)).k m54
  refine ⟨hS56, ?_⟩
  refine hlKH rfl (xapp sl37 in5 rfl (by decide) rfl rfl r26 (r64.src sl37) (by simp only [maxLen]; simp []; omega) (by simp []; omega)) ?_
  rintro _ w57 ⟨g65, r65, m58, a65, l65⟩
  have z59 := m58.size
  have hS60 := hS56.step m58 nI
  obtain ⟨p65, q65, rfl, -⟩ := r65.form
  have r65 : BR _ _ g65 (X1 ++ be16 r.n1.toNat).length (X1 ++ be16 r.n1.toNat) := br_cast r65 (by simp [bvs_app, two16]) (by simp [be16_length]; try omega)
  have hW := (hW.k m54).keep m58 (nE (by omega))
  refine ⟨hS60, ?_⟩
  refine qqN rfl rfl hS60 (hvH rfl (fun _ _ => xfld fl116_0 rfl) hS60 ?_)
  refine bluKH rfl (xstF 0 sz37 hW rfl rfl rfl rfl rfl) ?_
  rintro w62 ⟨m63, hW, s61⟩
  have q1 := (((q1.keep (fd w45) (fun h0 => id)).keep m54 (fun h0 => id)).keep m58 (fun h0 => by have h0 := h0; have hq := hgs.ne1 h0; show ¬ (yb8 = g26); omega)).keep m63 (fun h0 => by have h0 := h0; have hq := hgs.ne1 h0; show ¬ (yb8 = bw); omega)
  have q2 := (((q2.keep (fd w45) (fun h0 => id)).keep m54 (fun h0 => id)).keep m58 (fun h0 => by have h0 := h0; have hq := hgs.ne2 h0; show ¬ (yc8 = g26); omega)).keep m63 (fun h0 => by have h0 := h0; have hq := hgs.ne2 h0; show ¬ (yc8 = bw); omega)
  have hgs := hgs.up a65 (by omega) (by omega)
  have hd := (((hd.keep (fun k hk => by have hk := hKy k (hK3l k (hUK k hk)); omega) (fd w45) nF).keep (fun k hk => by have hk := hKy k (hK3l k (hUK k hk)); omega) m54 nF).keep (fun k hk => by have hk := hKy k (hK3l k (hUK k hk)); omega) m58 (fun k hk hS => by have hk := hKy k (hK3l k (hUK k hk)); have hS : k = g26 := hS; omega)).keep (fun k hk => by have hk := hKy k (hK3l k (hUK k hk)); omega) m63 (fun k hk hS => by have hk := hKy k (hK3l k (hUK k hk)); have hS : k = bw := hS; omega)
  have ht := (((ht.keep text_st (fun k hk => by have hk := hKy k (hK3l k (hUK k hk)); omega) (fd w45) nF).keep text_st (fun k hk => by have hk := hKy k (hK3l k (hUK k hk)); omega) m54 nF).keep text_st (fun k hk => by have hk := hKy k (hK3l k (hUK k hk)); omega) m58 (fun k hk hS => by have hk := hKy k (hK3l k (hUK k hk)); have hS : k = g26 := hS; omega)).keep text_st (fun k hk => by have hk := hKy k (hK3l k (hUK k hk)); omega) m63 (fun k hk hS => by have hk := hKy k (hK3l k (hUK k hk)); have hS : k = bw := hS; omega)
  have hp := (((hp.keep pair_st (fun k hk => by have hk := hKy k (hK3l k (hUK k hk)); omega) (fd w45) nF).keep pair_st (fun k hk => by have hk := hKy k (hK3l k (hUK k hk)); omega) m54 nF).keep pair_st (fun k hk => by have hk := hKy k (hK3l k (hUK k hk)); omega) m58 (fun k hk hS => by have hk := hKy k (hK3l k (hUK k hk)); have hS : k = g26 := hS; omega)).keep pair_st (fun k hk => by have hk := hKy k (hK3l k (hUK k hk)); omega) m63 (fun k hk hS => by have hk := hKy k (hK3l k (hUK k hk)); have hS : k = bw := hS; omega)
  have hf := (((hf.drew).s m54).step m58 (fun k hk hS hk2 => by have hS : k = g26 := hS; have hk3 := hKy k (hK3l k hk2); omega)).step m63 (fun k hk hS hk2 => by have hS : k = bw := hS; have hk3 := hKy k (hK3l k hk2); omega)
  have hJ47 := (((hJ47.drew).s m54).step m58 (fun k hk hS hk2 => by have hS : k = g26 := hS; have hk3 := hKy k hk2; omega)).step m63 (fun k hk hS hk2 => by have hS : k = bw := hS; have hk3 := hKy k hk2; omega)
  have h3 := ((h3.k m54).keep m58 (by have hq := hKy b3 hK3b; show ¬ (b3 = g26); omega)).keep m63 (by have hq := hKy b3 hK3b; show ¬ (b3 = bw); omega)
  have hKy : ∀ k, K3 k → k < w62.heap.size ∧ k ≠ bw ∧ k ≠ g65 ∧ k ≠ yb8 ∧ k ≠ yc8 := fun k hk => by have hq := hKy k hk; omega
  have hne : g65 ≠ bw := by omega
  have l65 := l65 (.inl (by omega))
  clear a65
  have r65 := r65.keep m63 (nE (by omega))
  refine hendH (fdg 0 3 4 rfl fun _ => lreg (sM rfl (sv (xfld fl65_7 rfl) (sv (xld on9 rfl (h3.r.c 7 rfl rfl)) ?_))))
  have hSh := sh_mk hW r65 q1 q2 (by omega) (by omega) (by omega) (by omega) hgs
  have hKy : ∀ k, K3 k → k < w62.heap.size ∧ k ≠ bw ∧ k ≠ g65 ∧ k ≠ yb8 ∧ k ≠ yc8 := fun k hk => by have hq := hKy k hk; omega
  have hnp71 := name_pos (hn.2.1 (by omega))
  rw [bt_length] at hnp71
  refine sc (xcall ca52 rfl) (c52 (K := K3) hSh (hn.2.1 (by omega)) (by first | omega | (simp only [List.length_append, be16_length]; omega)) (by omega) hm2 hKy) ?_
  rintro _ w65 ⟨M71, ya71, yb71, yc71, hpk71, hSh, hml71, hm2, hKq, m66⟩
  have z67 := m66.size
  have hps71 : (X1 ++ be16 r.n1.toNat).length = bs.length + P8.length + 10 + 2 := by rw [List.length_append, hX1l, be16_length]
  obtain ⟨P71, hP71⟩ : ∃ P, packName (some M8) (bs.length + P8.length + 10 + 2) (bt r.host) = (P, some M71) := ⟨_, Prod.ext rfl (by rw [hps71] at hpk71; exact hpk71)⟩
  have hSh : Sh w65 bw (X1 ++ be16 r.n1.toNat ++ P71) M71 ya71 yb71 yc71 := by rw [hps71, hP71] at hSh; exact hSh
  have hPl71 := packName_le (some M8) (bs.length + P8.length + 10 + 2) (bt r.host)
  rw [hP71, bt_length] at hPl71
  simp only at hPl71
  have hd := hd.keep (fun k hk => by have hk := hKy k (hK3l k (hUK k hk)); omega) m66 (fun k hk h => h (hK3l k (hUK k hk)))
  have ht := ht.keep text_st (fun k hk => by have hk := hKy k (hK3l k (hUK k hk)); omega) m66 (fun k hk h => h (hK3l k (hUK k hk)))
  have hp := hp.keep pair_st (fun k hk => by have hk := hKy k (hK3l k (hUK k hk)); omega) m66 (fun k hk h => h (hK3l k (hUK k hk)))
  have hKy : ∀ k, K3 k → k < w65.heap.size ∧ k ≠ bw ∧ k ≠ ya71 ∧ k ≠ yb71 ∧ k ≠ yc71 := fun k hk => by have hq := hKy k hk; have hq2 := hKq k hk; omega
  have hJ47 := hJ47.step m66 (fun k hk hS hk2 => hS hk2)
  refine lend ?_
  exact ⟨rfl, (be16 r.n1.toNat ++ P71, M71, ya71, yb71, yc71), _, env_okl ⟨rfl, rfl, trivial⟩, ⟨hJ47, (by rw [← List.append_assoc]; exact hSh), (pb_mxJ hc55 hP71), (by omega), (hm2), (fun k hk => by have hq := hKy k hk; omega)⟩⟩
 refine sA rfl (send (ffg 0 3 4 35 54 rfl fun _ => cno rfl (sreg (svP (xeql rfl rfl) (fun hc73 => ?_) (fun hc73 => ?_)))))
 rotate_left
 ·
  refine sA rfl (send (feg 0 3 4 72 rfl fun _ => cno rfl ?_))
  refine ldrawH (Fr (fun k => k = g26) w45.drew) [rd0, rd1, rd2, rd3, rd4, rd5, ld6, ld7, rd8, rd9, bh10] mixed (by kernel_rfl) (fun _ _ _ _ _ h => by cases h.1) ?_
  have z111 : w45.drew.heap.size = w45.heap.size := rfl
  have h3 := h3.drew
  have zb_h3 := h3
  have hW := hW.drew
  have zb_hW := hW
  have hS112 : Fr (fun k => k = g26) w45.drew w45.drew := Fr.refl _ _
  have hd := hd.keep (fun k hk => by have hk := hKy k (hK3l k (hUK k hk)); omega) (fd w45) nF
  have ht := ht.keep text_st (fun k hk => by have hk := hKy k (hK3l k (hUK k hk)); omega) (fd w45) nF
  have hp := hp.keep pair_st (fun k hk => by have hk := hKy k (hK3l k (hUK k hk)); omega) (fd w45) nF
  refine qqM rfl rfl hS112 (qqM rfl rfl hS112 (qqN rfl rfl hS112 (hvH rfl (fun _ _ => xfld fl116_0 rfl) hS112 (hvH rfl (fun w' hS => xld on37 rfl ((zb_hW.keep hS (nE (by omega))).r.c 0 rfl rfl)) hS112 (hvH rfl (fun w' hS => xldS (lens := lRec) ro65 rfl (zb_h3.keep hS (by have hq := hKy b3 hK3b; show ¬ (b3 = g26); omega)).r) hS112 ?_)))))
  refine hcH rfl (xcall ca84 rfl) (c84 (fun k hk => by have hk := hU k hk; omega) hd ht hp hr) ?_
  rintro _ w113 ⟨p42, q42, g42, rfl, r42, m114, a42, l42⟩
  have z115 := m114.size
  have hS116 := hS112.s m114
  have r26 := (r26.k (fd w45)).k m114
  refine ⟨hS116, ?_⟩
  refine hlKH rfl (xapp sl37 in5 rfl (by decide) rfl rfl r26 (r42.src sl37) (by simp only [maxLen]; simp []; omega) (by simp []; omega)) ?_
  rintro _ w117 ⟨g43, r43, m118, a43, l43⟩
  have z119 := m118.size
  have hS120 := hS116.step m118 nI
  obtain ⟨p43, q43, rfl, -⟩ := r43.form
  have r43 : BR _ _ g43 (X1 ++ bodyL r).length (X1 ++ bodyL r) := br_cast r43 (by simp [bvs_app]) (by simp []; try omega)
  have hW := (hW.k m114).keep m118 (nE (by omega))
  refine ⟨hS120, ?_⟩
  refine qqN rfl rfl hS120 (hvH rfl (fun _ _ => xfld fl116_0 rfl) hS120 ?_)
  refine bluKH rfl (xstF 0 sz37 hW rfl rfl rfl rfl rfl) ?_
  rintro w122 ⟨m123, hW, s121⟩
  have q1 := (((q1.keep (fd w45) (fun h0 => id)).keep m114 (fun h0 => id)).keep m118 (fun h0 => by have h0 := h0; have hq := hgs.ne1 h0; show ¬ (yb8 = g26); omega)).keep m123 (fun h0 => by have h0 := h0; have hq := hgs.ne1 h0; show ¬ (yb8 = bw); omega)
  have q2 := (((q2.keep (fd w45) (fun h0 => id)).keep m114 (fun h0 => id)).keep m118 (fun h0 => by have h0 := h0; have hq := hgs.ne2 h0; show ¬ (yc8 = g26); omega)).keep m123 (fun h0 => by have h0 := h0; have hq := hgs.ne2 h0; show ¬ (yc8 = bw); omega)
  have hgs := hgs.up a43 (by omega) (by omega)
  have hf := (((hf.drew).s m114).step m118 (fun k hk hS hk2 => by have hS : k = g26 := hS; have hk3 := hKy k (hK3l k hk2); omega)).step m123 (fun k hk hS hk2 => by have hS : k = bw := hS; have hk3 := hKy k (hK3l k hk2); omega)
  have hJ47 := (((hJ47.drew).s m114).step m118 (fun k hk hS hk2 => by have hS : k = g26 := hS; have hk3 := hKy k hk2; omega)).step m123 (fun k hk hS hk2 => by have hS : k = bw := hS; have hk3 := hKy k hk2; omega)
  have hKy : ∀ k, K3 k → k < w122.heap.size ∧ k ≠ bw ∧ k ≠ g43 ∧ k ≠ yb8 ∧ k ≠ yc8 := fun k hk => by have hq := hKy k hk; omega
  have hne : g43 ≠ bw := by omega
  have l43 := l43 (.inl (by omega))
  clear a43
  have r43 := r43.keep m123 (nE (by omega))
  refine lhendH ?_
  have hSh := sh_mk hW r43 q1 q2 (by omega) (by omega) (by omega) (by omega) hgs
  have hKy : ∀ k, K3 k → k < w122.heap.size ∧ k ≠ bw ∧ k ≠ g43 ∧ k ≠ yb8 ∧ k ≠ yc8 := fun k hk => by have hq := hKy k hk; omega
  exact ⟨rfl, (bodyL r, M8, g43, yb8, yc8), _, env_okl ⟨rfl, rfl, trivial⟩, ⟨hJ47, (hSh), (pb_rest (by have hq := hyk.f hb; omega)), (by omega), (hm2), (fun k hk => by have hq := hKy k hk; omega)⟩⟩
 refine sA rfl (send (feg 0 3 4 72 rfl fun _ => cyes rfl (sreg (sM rfl (sv (xfld fl65_7 rfl) (sv (xld on9 rfl (h3.r.c 7 rfl rfl)) ?_))))))
 have hSh := sh_mk hW r26 q1 q2 (by omega) (by omega) (by omega) (by omega) hgs
 have hKy : ∀ k, K3 k → k < w45.heap.size ∧ k ≠ bw ∧ k ≠ g26 ∧ k ≠ yb8 ∧ k ≠ yc8 := fun k hk => by have hq := hKy k hk; omega
 have hnp77 := name_pos (hn.2.1 (by omega))
 rw [bt_length] at hnp77
 refine sc (xcall ca52 rfl) (c52 (K := K3) hSh (hn.2.1 (by omega)) (by first | omega | (simp only [List.length_append, be16_length]; omega)) (by omega) hm2 hKy) ?_
 rintro _ w68 ⟨M77, ya77, yb77, yc77, hpk77, hSh, hml77, hm2, hKq, m69⟩
 have z70 := m69.size
 have hps77 : (X1).length = bs.length + P8.length + 10 := hX1l
 obtain ⟨P77, hP77⟩ : ∃ P, packName (some M8) (bs.length + P8.length + 10) (bt r.host) = (P, some M77) := ⟨_, Prod.ext rfl (by rw [hps77] at hpk77; exact hpk77)⟩
 have hSh : Sh w68 bw (X1 ++ P77) M77 ya77 yb77 yc77 := by rw [hps77, hP77] at hSh; exact hSh
 have hPl77 := packName_le (some M8) (bs.length + P8.length + 10) (bt r.host)
 rw [hP77, bt_length] at hPl77
 simp only at hPl77
 have hd := hd.keep (fun k hk => by have hk := hKy k (hK3l k (hUK k hk)); omega) m69 (fun k hk h => h (hK3l k (hUK k hk)))
 have ht := ht.keep text_st (fun k hk => by have hk := hKy k (hK3l k (hUK k hk)); omega) m69 (fun k hk h => h (hK3l k (hUK k hk)))
 have hp := hp.keep pair_st (fun k hk => by have hk := hKy k (hK3l k (hUK k hk)); omega) m69 (fun k hk h => h (hK3l k (hUK k hk)))
 have hKy : ∀ k, K3 k → k < w68.heap.size ∧ k ≠ bw ∧ k ≠ ya77 ∧ k ≠ yb77 ∧ k ≠ yc77 := fun k hk => by have hq := hKy k hk; have hq2 := hKq k hk; omega
 have h3 := h3.keep m69 (fun h => h hK3b)
 refine send (fdg 0 3 4 rfl fun _ => sreg (sM rfl (sv (xfld fl65_8 rfl) (sv (xld on9 rfl (h3.r.c 8 rfl rfl)) ?_))))
 have hnp81 := name_pos (hn.2.2 hc73)
 rw [bt_length] at hnp81
 refine sc (xcall ca52 rfl) (c52 (K := K3) hSh (hn.2.2 hc73) (by first | omega | (simp only [List.length_append]; omega)) (by omega) hm2 hKy) ?_
 rintro _ w71 ⟨M81, ya81, yb81, yc81, hpk81, hSh, hml81, hm2, hKq, m72⟩
 have z73 := m72.size
 have hps81 : (X1 ++ P77).length = bs.length + P8.length + 10 + P77.length := by rw [List.length_append, hX1l]
 obtain ⟨P81, hP81⟩ : ∃ P, packName (some M77) (bs.length + P8.length + 10 + P77.length) (bt r.box) = (P, some M81) := ⟨_, Prod.ext rfl (by rw [hps81] at hpk81; exact hpk81)⟩
 have hSh : Sh w71 bw (X1 ++ P77 ++ P81) M81 ya81 yb81 yc81 := by rw [hps81, hP81] at hSh; exact hSh
 have hPl81 := packName_le (some M77) (bs.length + P8.length + 10 + P77.length) (bt r.box)
 rw [hP81, bt_length] at hPl81
 simp only at hPl81
 have hd := hd.keep (fun k hk => by have hk := hKy k (hK3l k (hUK k hk)); omega) m72 (fun k hk h => h (hK3l k (hUK k hk)))
 have ht := ht.keep text_st (fun k hk => by have hk := hKy k (hK3l k (hUK k hk)); omega) m72 (fun k hk h => h (hK3l k (hUK k hk)))
 have hp := hp.keep pair_st (fun k hk => by have hk := hKy k (hK3l k (hUK k hk)); omega) m72 (fun k hk h => h (hK3l k (hUK k hk)))
 have hKy : ∀ k, K3 k → k < w71.heap.size ∧ k ≠ bw ∧ k ≠ ya81 ∧ k ≠ yb81 ∧ k ≠ yc81 := fun k hk => by have hq := hKy k hk; have hq2 := hKq k hk; omega
 refine send (fdg 0 3 4 rfl fun _ => ?_)
 obtain ⟨u0, u1, u2, hW, r0, q1, q2, hl0, hl1, hl2, hne, hgs⟩ := hSh
 have hgs : Gd _ bw ya81 yb81 yc81 := hgs
 obtain ⟨p0, c0, rfl, -⟩ := Rw.form r0
 obtain ⟨a1, c1, rfl, hs1⟩ := q1.form
 obtain ⟨a2, c2, rfl, hs2⟩ := q2.form
 refine ldrawH (Fr (fun k => k = ya81) w71.drew) [rd0, rd1, rd2, rd3, rd4, rd5, rd6, rd8, rd9, rd11, rd12, rd14, rd15, rd17, rd18, ld7, ld10, ld13, (16, .ld), (19, .ld), (20, .ld), (21, .ld), (22, .ld), rd23, rd24, (25, .bh)] mixed (by kernel_rfl) (fun _ _ _ _ _ h => by cases h.1) ?_
 have z74 : w71.drew.heap.size = w71.heap.size := rfl
 have h3 := (h3.keep m72 (fun h => h hK3b)).drew
 have zb_h3 := h3
 have hW := hW.drew
 have zb_hW := hW
 have hS75 : Fr (fun k => k = ya81) w71.drew w71.drew := Fr.refl _ _
 refine qqM rfl rfl hS75 (qqM rfl rfl hS75 (qqN rfl rfl hS75 (hvH rfl (fun _ _ => xfld fl116_0 rfl) hS75 (hvH rfl (fun w' hS => xld on37 rfl ((zb_hW.keep hS (nE (by omega))).r.c 0 rfl rfl)) hS75 (hvH rfl (fun _ _ => xfld fl65_9 rfl) hS75 (hvH rfl (fun w' hS => xld on61 rfl ((zb_h3.keep hS (by have hq := hKy b3 hK3b; show ¬ (b3 = ya81); omega)).r.c 9 rfl rfl)) hS75 (hvH rfl (fun _ _ => xfld fl65_10 rfl) hS75 (hvH rfl (fun w' hS => xld on61 rfl ((zb_h3.keep hS (by have hq := hKy b3 hK3b; show ¬ (b3 = ya81); omega)).r.c 10 rfl rfl)) hS75 (hvH rfl (fun _ _ => xfld fl65_11 rfl) hS75 (hvH rfl (fun w' hS => xld on61 rfl ((zb_h3.keep hS (by have hq := hKy b3 hK3b; show ¬ (b3 = ya81); omega)).r.c 11 rfl rfl)) hS75 (hvH rfl (fun _ _ => xfld fl65_12 rfl) hS75 (hvH rfl (fun w' hS => xld on61 rfl ((zb_h3.keep hS (by have hq := hKy b3 hK3b; show ¬ (b3 = ya81); omega)).r.c 12 rfl rfl)) hS75 (hvH rfl (fun _ _ => xfld fl65_13 rfl) hS75 (hvH rfl (fun w' hS => xld on61 rfl ((zb_h3.keep hS (by have hq := hKy b3 hK3b; show ¬ (b3 = ya81); omega)).r.c 13 rfl rfl)) hS75 ?_))))))))))))))
 refine hcH rfl (xcall ca99 rfl) (c99 (by first | omega | exact u32lt _)) ?_
 rintro _ w76 ⟨p89, q89, g89, rfl, r89, m77, a89, l89⟩
 have z78 := m77.size
 have hS79 := hS75.s m77
 refine ⟨hS79, ?_⟩
 refine hcH rfl (xcall ca99 rfl) (c99 (by first | omega | exact u32lt _)) ?_
 rintro _ w80 ⟨p92, q92, g92, rfl, r92, m81, a92, l92⟩
 have z82 := m81.size
 have hS83 := hS79.s m81
 refine ⟨hS83, ?_⟩
 refine hcH rfl (xcall ca99 rfl) (c99 (by first | omega | exact u32lt _)) ?_
 rintro _ w84 ⟨p95, q95, g95, rfl, r95, m85, a95, l95⟩
 have z86 := m85.size
 have hS87 := hS83.s m85
 refine ⟨hS87, ?_⟩
 refine hcH rfl (xcall ca99 rfl) (c99 (by first | omega | exact u32lt _)) ?_
 rintro _ w88 ⟨p98, q98, g98, rfl, r98, m89, a98, l98⟩
 have z90 := m89.size
 have hS91 := hS87.s m89
 refine ⟨hS91, ?_⟩
 refine hcH rfl (xcall ca99 rfl) (c99 (by first | omega | exact u32lt _)) ?_
 rintro _ w92 ⟨p101, q101, g101, rfl, r101, m93, a101, l101⟩
 have z94 := m93.size
 have hS95 := hS91.s m93
 refine ⟨hS95, ?_⟩
 refine hlKH rfl (xslit [_, _, _, _, _] sl105 in37 rfl (by decide) rfl rfl rfl rfl (by decide) rfl rfl) ?_
 rintro _ w97 ⟨b102, rfl, m98, h102, e102, s102, r102⟩
 have hS99 := hS95.s m98
 have r89 := ((((r89.k m81).k m85).k m89).k m93).k m98
 have r92 := (((r92.k m85).k m89).k m93).k m98
 have r95 := ((r95.k m89).k m93).k m98
 have r98 := (r98.k m93).k m98
 have r101 := r101.k m98
 refine ⟨hS99, ?_⟩
 refine hcH rfl (xcall ca21 rfl) (c21 (U := fun k => k = g89 ∨ k = g92 ∨ k = g95 ∨ k = g98 ∨ k = g101) (Rw.rng r102) (by omega) rfl (fun k hk => by have hk : k = g89 ∨ k = g92 ∨ k = g95 ∨ k = g98 ∨ k = g101 := hk; rcases hk with hk | hk | hk | hk | hk <;> first | omega | (have := hU k hk; omega)) (All2.cons (BR.ba r89 (.inl rfl)) (All2.cons (BR.ba r92 (.inr (.inl rfl))) (All2.cons (BR.ba r95 (.inr (.inr (.inl rfl)))) (All2.cons (BR.ba r98 (.inr (.inr (.inr (.inl rfl))))) (All2.cons (BR.ba r101 (.inr (.inr (.inr (.inr rfl))))) All2.nil))))) (by simp only [fC, fN, List.length_append, be32_length, List.length_nil]; omega) (by decide)) ?_
 rintro _ w100 ⟨p103, q103, g103, rfl, r103, m101, a103, l103⟩
 have z102 := m101.size
 have hS103 := hS99.s m101
 have r0 := (((((((r0.k (fd w71)).k m77).k m81).k m85).k m89).k m93).k m98).k m101
 refine ⟨hS103, ?_⟩
 refine hlKH rfl (xapp sl37 in5 rfl (by decide) rfl rfl r0 (r103.src sl37) (by simp only [maxLen]; simp [be32_length]; omega) (by simp [be32_length]; omega)) ?_
 rintro _ w104 ⟨g104, r104, m105, a104, l104⟩
 have z106 := m105.size
 have hS107 := hS103.step m105 nI
 obtain ⟨p104, q104, rfl, -⟩ := r104.form
 have r104 : BR _ _ g104 (X1 ++ P77 ++ P81 ++ soaL r).length (X1 ++ P77 ++ P81 ++ soaL r) := br_cast r104 (by simp [bvs_app, soaL]) (by simp [be32_length, soaL_length]; try omega)
 have hW := (((((((hW.k m77).k m81).k m85).k m89).k m93).k m98).k m101).keep m105 (nE (by omega))
 refine ⟨hS107, ?_⟩
 refine qqN rfl rfl hS107 (hvH rfl (fun _ _ => xfld fl116_0 rfl) hS107 ?_)
 refine bluKH rfl (xstF 0 sz37 hW rfl rfl rfl rfl rfl) ?_
 rintro w109 ⟨m110, hW, s108⟩
 have q1 := (((((((((q1.keep (fd w71) (fun h0 => id)).keep m77 (fun h0 => id)).keep m81 (fun h0 => id)).keep m85 (fun h0 => id)).keep m89 (fun h0 => id)).keep m93 (fun h0 => id)).keep m98 (fun h0 => id)).keep m101 (fun h0 => id)).keep m105 (fun h0 => by have h0 := h0; have hq := hgs.ne1 h0; show ¬ (yb81 = ya81); omega)).keep m110 (fun h0 => by have h0 := h0; have hq := hgs.ne1 h0; show ¬ (yb81 = bw); omega)
 have q2 := (((((((((q2.keep (fd w71) (fun h0 => id)).keep m77 (fun h0 => id)).keep m81 (fun h0 => id)).keep m85 (fun h0 => id)).keep m89 (fun h0 => id)).keep m93 (fun h0 => id)).keep m98 (fun h0 => id)).keep m101 (fun h0 => id)).keep m105 (fun h0 => by have h0 := h0; have hq := hgs.ne2 h0; show ¬ (yc81 = ya81); omega)).keep m110 (fun h0 => by have h0 := h0; have hq := hgs.ne2 h0; show ¬ (yc81 = bw); omega)
 have hgs := hgs.up a104 (by omega) (by omega)
 have hf := (((((((((((hf.step m69 (fun k hk hS hk2 => hS (hK3l k hk2))).step m72 (fun k hk hS hk2 => hS (hK3l k hk2))).drew).s m77).s m81).s m85).s m89).s m93).s m98).s m101).step m105 (fun k hk hS hk2 => by have hS : k = ya81 := hS; have hk3 := hKy k (hK3l k hk2); omega)).step m110 (fun k hk hS hk2 => by have hS : k = bw := hS; have hk3 := hKy k (hK3l k hk2); omega)
 have hJ47 := (((((((((((hJ47.step m69 (fun k hk hS hk2 => hS hk2)).step m72 (fun k hk hS hk2 => hS hk2)).drew).s m77).s m81).s m85).s m89).s m93).s m98).s m101).step m105 (fun k hk hS hk2 => by have hS : k = ya81 := hS; have hk3 := hKy k hk2; omega)).step m110 (fun k hk hS hk2 => by have hS : k = bw := hS; have hk3 := hKy k hk2; omega)
 have hd := (((((((((hd.keep (fun k hk => by have hk := hKy k (hK3l k (hUK k hk)); omega) (fd w71) nF).keep (fun k hk => by have hk := hKy k (hK3l k (hUK k hk)); omega) m77 nF).keep (fun k hk => by have hk := hKy k (hK3l k (hUK k hk)); omega) m81 nF).keep (fun k hk => by have hk := hKy k (hK3l k (hUK k hk)); omega) m85 nF).keep (fun k hk => by have hk := hKy k (hK3l k (hUK k hk)); omega) m89 nF).keep (fun k hk => by have hk := hKy k (hK3l k (hUK k hk)); omega) m93 nF).keep (fun k hk => by have hk := hKy k (hK3l k (hUK k hk)); omega) m98 nF).keep (fun k hk => by have hk := hKy k (hK3l k (hUK k hk)); omega) m101 nF).keep (fun k hk => by have hk := hKy k (hK3l k (hUK k hk)); omega) m105 (fun k hk hS => by have hk := hKy k (hK3l k (hUK k hk)); have hS : k = ya81 := hS; omega)).keep (fun k hk => by have hk := hKy k (hK3l k (hUK k hk)); omega) m110 (fun k hk hS => by have hk := hKy k (hK3l k (hUK k hk)); have hS : k = bw := hS; omega)
 have ht := (((((((((ht.keep text_st (fun k hk => by have hk := hKy k (hK3l k (hUK k hk)); omega) (fd w71) nF).keep text_st (fun k hk => by have hk := hKy k (hK3l k (hUK k hk)); omega) m77 nF).keep text_st (fun k hk => by have hk := hKy k (hK3l k (hUK k hk)); omega) m81 nF).keep text_st (fun k hk => by have hk := hKy k (hK3l k (hUK k hk)); omega) m85 nF).keep text_st (fun k hk => by have hk := hKy k (hK3l k (hUK k hk)); omega) m89 nF).keep text_st (fun k hk => by have hk := hKy k (hK3l k (hUK k hk)); omega) m93 nF).keep text_st (fun k hk => by have hk := hKy k (hK3l k (hUK k hk)); omega) m98 nF).keep text_st (fun k hk => by have hk := hKy k (hK3l k (hUK k hk)); omega) m101 nF).keep text_st (fun k hk => by have hk := hKy k (hK3l k (hUK k hk)); omega) m105 (fun k hk hS => by have hk := hKy k (hK3l k (hUK k hk)); have hS : k = ya81 := hS; omega)).keep text_st (fun k hk => by have hk := hKy k (hK3l k (hUK k hk)); omega) m110 (fun k hk hS => by have hk := hKy k (hK3l k (hUK k hk)); have hS : k = bw := hS; omega)
 have hp := (((((((((hp.keep pair_st (fun k hk => by have hk := hKy k (hK3l k (hUK k hk)); omega) (fd w71) nF).keep pair_st (fun k hk => by have hk := hKy k (hK3l k (hUK k hk)); omega) m77 nF).keep pair_st (fun k hk => by have hk := hKy k (hK3l k (hUK k hk)); omega) m81 nF).keep pair_st (fun k hk => by have hk := hKy k (hK3l k (hUK k hk)); omega) m85 nF).keep pair_st (fun k hk => by have hk := hKy k (hK3l k (hUK k hk)); omega) m89 nF).keep pair_st (fun k hk => by have hk := hKy k (hK3l k (hUK k hk)); omega) m93 nF).keep pair_st (fun k hk => by have hk := hKy k (hK3l k (hUK k hk)); omega) m98 nF).keep pair_st (fun k hk => by have hk := hKy k (hK3l k (hUK k hk)); omega) m101 nF).keep pair_st (fun k hk => by have hk := hKy k (hK3l k (hUK k hk)); omega) m105 (fun k hk hS => by have hk := hKy k (hK3l k (hUK k hk)); have hS : k = ya81 := hS; omega)).keep pair_st (fun k hk => by have hk := hKy k (hK3l k (hUK k hk)); omega) m110 (fun k hk hS => by have hk := hKy k (hK3l k (hUK k hk)); have hS : k = bw := hS; omega)
 have h3 := ((((((((h3.k m77).k m81).k m85).k m89).k m93).k m98).k m101).keep m105 (by have hq := hKy b3 hK3b; show ¬ (b3 = ya81); omega)).keep m110 (by have hq := hKy b3 hK3b; show ¬ (b3 = bw); omega)
 have hKy : ∀ k, K3 k → k < w109.heap.size ∧ k ≠ bw ∧ k ≠ g104 ∧ k ≠ yb81 ∧ k ≠ yc81 := fun k hk => by have hq := hKy k hk; omega
 have hne : g104 ≠ bw := by omega
 have l104 := l104 (.inl (by omega))
 clear a104
 have r104 := r104.keep m110 (nE (by omega))
 refine lhendH ?_
 have hSh := sh_mk hW r104 q1 q2 (by omega) (by omega) (by omega) (by omega) hgs
 have hKy : ∀ k, K3 k → k < w109.heap.size ∧ k ≠ bw ∧ k ≠ g104 ∧ k ≠ yb81 ∧ k ≠ yc81 := fun k hk => by have hq := hKy k hk; omega
 exact ⟨rfl, (P77 ++ (P81 ++ soaL r), M81, g104, yb81, yc81), _, env_okl ⟨rfl, rfl, trivial⟩, ⟨hJ47, (by rw [← List.append_assoc, ← List.append_assoc]; exact hSh), (pb_soaJ hc73 hP77 hP81), (by omega), (hm2), (fun k hk => by have hq := hKy k hk; omega)⟩⟩
end Go.Proofs.YtifnodoffgfpbaaGreatDoor
