/- Part 4 of the texts for a law of this seat: walks, and plain laws about messages; conditions: none. -/
import Derived.Test.YtifnodoffgfpbaaGreatDoorSk3
set_option maxHeartbeats 4000000
set_option maxRecDepth 100000
namespace Go.Proofs.YtifnodoffgfpbaaGreatDoor
open Go

abbrev lPr : List Nat := [1, 1, 1, 1, 1, 1, 1, 1, 1, 1, 1, 1, 1, 1]
def prSegs (vm : Value) (y0 y1 y2 y3 y4 y5 sec off idx : Int) (val : Bool) (ho ty ln : Int) : List (List Value) :=
  [[vm], [.int .u16 y0], [.int .u16 y1], [.int .u16 y2], [.int .u16 y3], [.int .u16 y4], [.int .u16 y5], [.int .u8 sec], [.int .i64 off], [.int .i64 idx], [.bool val], [.int .i64 ho], [.int .u16 ty], [.int .u16 ln]]
abbrev lRh : List Nat := [256, 1, 1, 1, 1]

theorem c102 {w : World} {a : Option Addr} {bm om km n : Nat} {b : List UInt8} (hms : n ≠ 0 → a = some ⟨bm, om, none⟩) (hm : w.rangeAt bm om (bvs (b.take n))) (hbm : bm < w.heap.size) (hnb : n ≤ b.length) (hkm : n ≤ km) (hbl : b.length < 100000000) (hG : GE w) (hsz : 21 ≤ w.heap.size) {bp : Nat} {vm : Value} {y0 y1 y2 y3 y4 y5 sec po idx ho ty ln : Int} {val : Bool} (hP : SB w bp lPr (prSegs vm y0 y1 y2 y3 y4 y5 sec po idx val ho ty ln)) (hbp : bp ≠ bm) (hgp : 20 < bp) {ka kb kc kd ke kf : Nat} (la : ka < 65536) (lb : kb < 65536) (lc : kc < 65536) (ld : kd < 65536) (le : ke < 65536) (lf : kf < 65536) (ha : Std b 0 (be16 ka)) (hb : Std b (0 + 2) (be16 kb)) (hc : Std b (0 + 2 + 2) (be16 kc)) (hd : Std b (0 + 2 + 2 + 2) (be16 kd)) (he : Std b (0 + 2 + 2 + 2 + 2) (be16 ke)) (hff : Std b (0 + 2 + 2 + 2 + 2 + 2) (be16 kf)) (hbl12 : 12 ≤ b.length) :
  Ret PP 102 [.pointer (some ⟨bp, 0 + 1, none⟩), .slice a n km, .int .i64 ((0 : Nat) : Int)] w (fun u w' => ((12 ≤ n ∧ u = .tuple #[.int .i64 ((0 + 2 + 2 + 2 + 2 + 2 + 2 : Nat) : Int), .nilIface] ∧ SB w' bp lPr (prSegs vm ka kb kc kd ke kf sec po idx val ho ty ln)) ∨ (n < 12 ∧ (∃ (T : TypeId) (x : Option Addr), u = .tuple #[.int .i64 ((0 : Nat) : Int), .iface T (.pointer x)]) ∧ ∃ i0 i1 i2 i3 i4 i5 : Int, SB w' bp lPr (prSegs vm i0 i1 i2 i3 i4 i5 sec po idx val ho ty ln))) ∧ Fr (fun k => k = bp) w w') := by
 have hf : Fr (fun k => k = bp) w w := Fr.refl _ _
 have z_hP := hP.lt
 refine ret_of Tryz.func102 rfl rfl rfl [(0, _), (1, _), (2, _)] rfl ?_
 refine sreg (sA rfl (sA rfl (send ((sreg (sM rfl (sA rfl (send ((sreg (sA rfl (send (feg 0 1 2 8 rfl fun _ => wp_seq (sreg (sM rfl (sM rfl (sM rfl (sc (xcall ca156 rfl) (c156 (b := b) (off := 0) (x := ka) hms hm (by omega) hnb hkm hbl hG (by omega) la (ha) (by omega)) ?_))))))))))))))))))
 rintro _ w1 ⟨⟨hle15, rfl⟩ | ⟨hgt15, T15, x15, rfl⟩, m2⟩
 rotate_left
 ·
  have z72 := m2.size
  have hP := hP.k m2
  refine sM rfl (sE3 rfl (sN rfl (sv (xfld fl121_0 rfl) (suK (xstF 1 sz22 hP rfl rfl rfl rfl rfl) ?_))))
  rintro w74 ⟨m75, hP, s73⟩
  refine sA rfl (sA rfl (send ((sreg (sM rfl (sv (xneI if89 rfl) (send (fgg 0 1 2 8 9 22 rfl fun _ => cyes rfl (sreg (sM rfl (sM rfl (sv (xbuildS [[_], [_]] zr168 ly168 rfl (by simp [fitAll, zs168, Value.cells]) rfl) (svK (xboxS (lens := [1, 1]) rfl (by simp [])) ?_)))))))))))))
  rintro _ w77 ⟨b26, rfl, m78, h26, e76, s76⟩
  have hf := ((hf.s m2).step m75 nI).s m78
  have hP := hP.k m78
  refine sv (xmkif ni166 rfl) (sA rfl (sA rfl (send (fcg 6 7 rfl fun _ => wp_ret (rThen (rp2 rfl rfl rfl ?_))))))
  exact ⟨.inr ⟨by omega, ⟨_, _, rfl⟩, _, _, _, _, _, _, hP⟩, hf⟩
 have z3 := m2.size
 have hP := hP.k m2
 refine sM rfl (sE3 rfl (sN rfl (sv (xfld fl121_0 rfl) (suK (xstF 1 sz22 hP rfl rfl rfl rfl rfl) ?_))))
 rintro w5 ⟨m6, hP, s4⟩
 have hm := rng_fr (rng_fr hm m2 (by omega) id) m6 (by omega) (nE (by omega))
 have hG := (hG.k0 m2 (by omega)).k1 m6 (by omega) (by omega)
 refine sA rfl (sA rfl (send ((sreg (sM rfl (sv (xneN if89 rfl) (send ((cno rfl (wp_skip (nThen (feg 0 1 2 8 rfl fun _ => wp_seq (sreg (sM rfl (sM rfl (sM rfl (sc (xcall ca156 rfl) (c156 (b := b) (off := 0 + 2) (x := kb) hms hm (by omega) hnb hkm hbl hG (by omega) lb (hb) (by omega)) ?_)))))))))))))))))
 have hf := (hf.s m2).step m6 nI
 rintro _ w7 ⟨⟨hle32, rfl⟩ | ⟨hgt32, T32, x32, rfl⟩, m8⟩
 rotate_left
 ·
  have z65 := m8.size
  have hP := hP.k m8
  refine sM rfl (sE3 rfl (sN rfl (sv (xfld fl121_1 rfl) (suK (xstF 2 sz22 hP rfl rfl rfl rfl rfl) ?_))))
  rintro w67 ⟨m68, hP, s66⟩
  refine sA rfl (sA rfl (send ((sreg (sM rfl (sv (xneI if89 rfl) (send (fgg 0 1 2 8 9 39 rfl fun _ => cyes rfl (sreg (sM rfl (sM rfl (sv (xbuildS [[_], [_]] zr168 ly168 rfl (by simp [fitAll, zs168, Value.cells]) rfl) (svK (xboxS (lens := [1, 1]) rfl (by simp [])) ?_)))))))))))))
  rintro _ w70 ⟨b43, rfl, m71, h43, e69, s69⟩
  have hf := ((hf.s m8).step m68 nI).s m71
  have hP := hP.k m71
  refine sv (xmkif ni166 rfl) (sA rfl (sA rfl (send (fcg 6 7 rfl fun _ => wp_ret (rThen (rp2 rfl rfl rfl ?_))))))
  exact ⟨.inr ⟨by omega, ⟨_, _, rfl⟩, _, _, _, _, _, _, hP⟩, hf⟩
 have z9 := m8.size
 have hP := hP.k m8
 refine sM rfl (sE3 rfl (sN rfl (sv (xfld fl121_1 rfl) (suK (xstF 2 sz22 hP rfl rfl rfl rfl rfl) ?_))))
 rintro w11 ⟨m12, hP, s10⟩
 have hm := rng_fr (rng_fr hm m8 (by omega) id) m12 (by omega) (nE (by omega))
 have hG := (hG.k0 m8 (by omega)).k1 m12 (by omega) (by omega)
 refine sA rfl (sA rfl (send ((sreg (sM rfl (sv (xneN if89 rfl) (send ((cno rfl (wp_skip (nThen (feg 0 1 2 8 rfl fun _ => wp_seq (sreg (sM rfl (sM rfl (sM rfl (sc (xcall ca156 rfl) (c156 (b := b) (off := 0 + 2 + 2) (x := kc) hms hm (by omega) hnb hkm hbl hG (by omega) lc (hc) (by omega)) ?_)))))))))))))))))
 have hf := (hf.s m8).step m12 nI
 rintro _ w13 ⟨⟨hle49, rfl⟩ | ⟨hgt49, T49, x49, rfl⟩, m14⟩
 rotate_left
 ·
  have z58 := m14.size
  have hP := hP.k m14
  refine sM rfl (sE3 rfl (sN rfl (sv (xfld fl121_2 rfl) (suK (xstF 3 sz22 hP rfl rfl rfl rfl rfl) ?_))))
  rintro w60 ⟨m61, hP, s59⟩
  refine sA rfl (sA rfl (send ((sreg (sM rfl (sv (xneI if89 rfl) (send (fgg 0 1 2 8 9 56 rfl fun _ => cyes rfl (sreg (sM rfl (sM rfl (sv (xbuildS [[_], [_]] zr168 ly168 rfl (by simp [fitAll, zs168, Value.cells]) rfl) (svK (xboxS (lens := [1, 1]) rfl (by simp [])) ?_)))))))))))))
  rintro _ w63 ⟨b60, rfl, m64, h60, e62, s62⟩
  have hf := ((hf.s m14).step m61 nI).s m64
  have hP := hP.k m64
  refine sv (xmkif ni166 rfl) (sA rfl (sA rfl (send (fcg 6 7 rfl fun _ => wp_ret (rThen (rp2 rfl rfl rfl ?_))))))
  exact ⟨.inr ⟨by omega, ⟨_, _, rfl⟩, _, _, _, _, _, _, hP⟩, hf⟩
 have z15 := m14.size
 have hP := hP.k m14
 refine sM rfl (sE3 rfl (sN rfl (sv (xfld fl121_2 rfl) (suK (xstF 3 sz22 hP rfl rfl rfl rfl rfl) ?_))))
 rintro w17 ⟨m18, hP, s16⟩
 have hm := rng_fr (rng_fr hm m14 (by omega) id) m18 (by omega) (nE (by omega))
 have hG := (hG.k0 m14 (by omega)).k1 m18 (by omega) (by omega)
 refine sA rfl (sA rfl (send ((sreg (sM rfl (sv (xneN if89 rfl) (send ((cno rfl (wp_skip (nThen (feg 0 1 2 8 rfl fun _ => wp_seq (sreg (sM rfl (sM rfl (sM rfl (sc (xcall ca156 rfl) (c156 (b := b) (off := 0 + 2 + 2 + 2) (x := kd) hms hm (by omega) hnb hkm hbl hG (by omega) ld (hd) (by omega)) ?_)))))))))))))))))
 have hf := (hf.s m14).step m18 nI
 rintro _ w19 ⟨⟨hle66, rfl⟩ | ⟨hgt66, T66, x66, rfl⟩, m20⟩
 rotate_left
 ·
  have z51 := m20.size
  have hP := hP.k m20
  refine sM rfl (sE3 rfl (sN rfl (sv (xfld fl121_3 rfl) (suK (xstF 4 sz22 hP rfl rfl rfl rfl rfl) ?_))))
  rintro w53 ⟨m54, hP, s52⟩
  refine sA rfl (sA rfl (send ((sreg (sM rfl (sv (xneI if89 rfl) (send (fgg 0 1 2 8 9 73 rfl fun _ => cyes rfl (sreg (sM rfl (sM rfl (sv (xbuildS [[_], [_]] zr168 ly168 rfl (by simp [fitAll, zs168, Value.cells]) rfl) (svK (xboxS (lens := [1, 1]) rfl (by simp [])) ?_)))))))))))))
  rintro _ w56 ⟨b77, rfl, m57, h77, e55, s55⟩
  have hf := ((hf.s m20).step m54 nI).s m57
  have hP := hP.k m57
  refine sv (xmkif ni166 rfl) (sA rfl (sA rfl (send (fcg 6 7 rfl fun _ => wp_ret (rThen (rp2 rfl rfl rfl ?_))))))
  exact ⟨.inr ⟨by omega, ⟨_, _, rfl⟩, _, _, _, _, _, _, hP⟩, hf⟩
 have z21 := m20.size
 have hP := hP.k m20
 refine sM rfl (sE3 rfl (sN rfl (sv (xfld fl121_3 rfl) (suK (xstF 4 sz22 hP rfl rfl rfl rfl rfl) ?_))))
 rintro w23 ⟨m24, hP, s22⟩
 have hm := rng_fr (rng_fr hm m20 (by omega) id) m24 (by omega) (nE (by omega))
 have hG := (hG.k0 m20 (by omega)).k1 m24 (by omega) (by omega)
 refine sA rfl (sA rfl (send ((sreg (sM rfl (sv (xneN if89 rfl) (send ((cno rfl (wp_skip (nThen (feg 0 1 2 8 rfl fun _ => wp_seq (sreg (sM rfl (sM rfl (sM rfl (sc (xcall ca156 rfl) (c156 (b := b) (off := 0 + 2 + 2 + 2 + 2) (x := ke) hms hm (by omega) hnb hkm hbl hG (by omega) le (he) (by omega)) ?_)))))))))))))))))
 have hf := (hf.s m20).step m24 nI
 rintro _ w25 ⟨⟨hle83, rfl⟩ | ⟨hgt83, T83, x83, rfl⟩, m26⟩
 rotate_left
 ·
  have z44 := m26.size
  have hP := hP.k m26
  refine sM rfl (sE3 rfl (sN rfl (sv (xfld fl121_4 rfl) (suK (xstF 5 sz22 hP rfl rfl rfl rfl rfl) ?_))))
  rintro w46 ⟨m47, hP, s45⟩
  refine sA rfl (sA rfl (send ((sreg (sM rfl (sv (xneI if89 rfl) (send (fgg 0 1 2 8 9 90 rfl fun _ => cyes rfl (sreg (sM rfl (sM rfl (sv (xbuildS [[_], [_]] zr168 ly168 rfl (by simp [fitAll, zs168, Value.cells]) rfl) (svK (xboxS (lens := [1, 1]) rfl (by simp [])) ?_)))))))))))))
  rintro _ w49 ⟨b94, rfl, m50, h94, e48, s48⟩
  have hf := ((hf.s m26).step m47 nI).s m50
  have hP := hP.k m50
  refine sv (xmkif ni166 rfl) (sA rfl (sA rfl (send (fcg 6 7 rfl fun _ => wp_ret (rThen (rp2 rfl rfl rfl ?_))))))
  exact ⟨.inr ⟨by omega, ⟨_, _, rfl⟩, _, _, _, _, _, _, hP⟩, hf⟩
 have z27 := m26.size
 have hP := hP.k m26
 refine sM rfl (sE3 rfl (sN rfl (sv (xfld fl121_4 rfl) (suK (xstF 5 sz22 hP rfl rfl rfl rfl rfl) ?_))))
 rintro w29 ⟨m30, hP, s28⟩
 have hm := rng_fr (rng_fr hm m26 (by omega) id) m30 (by omega) (nE (by omega))
 have hG := (hG.k0 m26 (by omega)).k1 m30 (by omega) (by omega)
 refine sA rfl (sA rfl (send ((sreg (sM rfl (sv (xneN if89 rfl) (send ((cno rfl (wp_skip (nThen (feg 0 1 2 8 rfl fun _ => wp_seq (sreg (sM rfl (sM rfl (sM rfl (sc (xcall ca156 rfl) (c156 (b := b) (off := 0 + 2 + 2 + 2 + 2 + 2) (x := kf) hms hm (by omega) hnb hkm hbl hG (by omega) lf (hff) (by omega)) ?_)))))))))))))))))
 have hf := (hf.s m26).step m30 nI
 rintro _ w31 ⟨⟨hle100, rfl⟩ | ⟨hgt100, T100, x100, rfl⟩, m32⟩
 ·
  have z33 := m32.size
  have hP := hP.k m32
  refine sM rfl (sE3 rfl (sN rfl (sv (xfld fl121_5 rfl) (suK (xstF 6 sz22 hP rfl rfl rfl rfl rfl) ?_))))
  rintro w35 ⟨m36, hP, s34⟩
  have hf := (hf.s m32).step m36 nI
  refine sA rfl (sA rfl (send ((sreg (sM rfl (sv (xneN if89 rfl) (send ((cno rfl (wp_skip (nThen ((sreg (sM rfl (sA rfl (sA rfl (send (fcg 6 7 rfl fun _ => wp_ret (rp2 rfl rfl rfl ?_)))))))))))))))))))
  exact ⟨.inl ⟨by omega, rfl, hP⟩, hf⟩
 have z37 := m32.size
 have hP := hP.k m32
 refine sM rfl (sE3 rfl (sN rfl (sv (xfld fl121_5 rfl) (suK (xstF 6 sz22 hP rfl rfl rfl rfl rfl) ?_))))
 rintro w39 ⟨m40, hP, s38⟩
 refine sA rfl (sA rfl (send ((sreg (sM rfl (sv (xneI if89 rfl) (send (feg 2 8 9 107 rfl fun _ => cyes rfl (sreg (sM rfl (sM rfl (sv (xbuildS [[_], [_]] zr168 ly168 rfl (by simp [fitAll, zs168, Value.cells]) rfl) (svK (xboxS (lens := [1, 1]) rfl (by simp [])) ?_)))))))))))))
 rintro _ w42 ⟨b111, rfl, m43, h111, e41, s41⟩
 have hf := ((hf.s m32).step m40 nI).s m43
 have hP := hP.k m43
 refine sv (xmkif ni166 rfl) (sA rfl (sA rfl (send (fcg 6 7 rfl fun _ => wp_ret (rThen (rp2 rfl rfl rfl ?_))))))
 exact ⟨.inr ⟨by omega, ⟨_, _, rfl⟩, _, _, _, _, _, _, hP⟩, hf⟩
theorem c103 {w : World} {bp : Nat} {vm : Value} {y2 y3 y4 y5 sec po idx ho ty ln : Int} {val : Bool} {hd : HeadD} (hho : hd.ok) (hP : SB w bp lPr (prSegs vm hd.id.toNat (hbits hd).toNat y2 y3 y4 y5 sec po idx val ho ty ln)) :
  Ret PP 103 [.pointer (some ⟨bp, 0 + 1, none⟩)] w (fun u w' => u = ag (headSegs hd) ∧ Fr0 w w') := by
 obtain ⟨an1, an2, an3, an4, an5, an6, an7, an8, an9, an10⟩ := hbits_and hho
 have hf : Fr (fun _ => False) w w := Fr.refl _ _
 have z_hP := hP.lt
 refine ret_of Tryz.func103 rfl rfl rfl [(0, _)] rfl ?_
 refine sreg (svK (xallS (lens := [1, 1, 1, 1, 1, 1, 1, 1, 1, 1]) in73 rfl) ?_)
 rintro _ w2 ⟨b2, rfl, m3, h2, e1, s1⟩
 refine send (fcg 0 2 rfl fun _ => ?_)
 refine sdrawH (Fr (fun k => k = b2) w2.drew) [rd0, rd1, rd2, rd3, rd4, rd5, rd6, rd7, rd8, rd9, rd10, rd11, rd12, rd13, rd14, rd15, rd16, rd17, rd18, rd19, rd20, rd21, rd22, rd23, rd24, rd25, rd26, rd27, rd28, rd29, rd30, rd31, rd32, rd33, rd34, rd35, rd36, rd37, rd38, rd39, (40, .rd), (41, .rd), (42, .rd), (43, .rd), (44, .rd), (45, .rd), (46, .rd), (47, .rd), (48, .rd), (49, .rd), (50, .rd), (51, .rd), (52, .rd), (53, .rd), (54, .rd), (55, .rd), (56, .rd), (57, .rd), (58, .bh)] mixed (by kernel_rfl) (fun _ _ _ _ _ h => h) ?_
 have z4 : w2.drew.heap.size = w2.heap.size := rfl
 have hS5 : Fr (fun k => k = b2) w2.drew w2.drew := Fr.refl _ _
 have hP := (hP.k m3).drew
 have h2 := h2.drew
 refine qqM rfl rfl hS5 (qqN rfl rfl hS5 (hvH rfl (fun _ _ => xfld fl121_0 rfl) hS5 (hvH rfl (fun w' hS => xld on22 rfl ((hP.keep hS (nE (by omega))).r.c 1 rfl rfl)) hS5 (qqM rfl rfl hS5 (qqN rfl rfl hS5 (hvH rfl (fun _ _ => xfld fl121_1 rfl) hS5 (hvH rfl (fun w' hS => xld on22 rfl ((hP.keep hS (nE (by omega))).r.c 2 rfl rfl)) hS5 (hvH rfl (fun _ _ => xand16N (a := (hbits hd).toNat) (c := 32768 * bN hd.resp) rfl rfl (by have hq := u16lt (hbits hd); omega) (by decide) an1) hS5 (hvH rfl (fun _ _ => xbit (c := 32768) rfl rfl (by decide)) hS5 (qqM rfl rfl hS5 (qqN rfl rfl hS5 (hvH rfl (fun _ _ => xfld fl121_1 rfl) hS5 (hvH rfl (fun w' hS => xld on22 rfl ((hP.keep hS (nE (by omega))).r.c 2 rfl rfl)) hS5 (hvH rfl (fun _ _ => xshrN 11 (by decide) rfl rfl rfl) hS5 (hvH rfl (fun _ _ => xand16N (a := (hbits hd).toNat / 2 ^ 11) (c := hd.op.toNat) rfl rfl (by have hq := u16lt (hbits hd); omega) (by decide) an9) hS5 (qqM rfl rfl hS5 (qqN rfl rfl hS5 (hvH rfl (fun _ _ => xfld fl121_1 rfl) hS5 (hvH rfl (fun w' hS => xld on22 rfl ((hP.keep hS (nE (by omega))).r.c 2 rfl rfl)) hS5 (hvH rfl (fun _ _ => xand16N (a := (hbits hd).toNat) (c := 1024 * bN hd.auth) rfl rfl (by have hq := u16lt (hbits hd); omega) (by decide) an2) hS5 (hvH rfl (fun _ _ => xbit (c := 1024) rfl rfl (by decide)) hS5 (qqM rfl rfl hS5 (qqN rfl rfl hS5 (hvH rfl (fun _ _ => xfld fl121_1 rfl) hS5 (hvH rfl (fun w' hS => xld on22 rfl ((hP.keep hS (nE (by omega))).r.c 2 rfl rfl)) hS5 (hvH rfl (fun _ _ => xand16N (a := (hbits hd).toNat) (c := 512 * bN hd.cut) rfl rfl (by have hq := u16lt (hbits hd); omega) (by decide) an3) hS5 (hvH rfl (fun _ _ => xbit (c := 512) rfl rfl (by decide)) hS5 (qqM rfl rfl hS5 (qqN rfl rfl hS5 (hvH rfl (fun _ _ => xfld fl121_1 rfl) hS5 (hvH rfl (fun w' hS => xld on22 rfl ((hP.keep hS (nE (by omega))).r.c 2 rfl rfl)) hS5 (hvH rfl (fun _ _ => xand16N (a := (hbits hd).toNat) (c := 256 * bN hd.des) rfl rfl (by have hq := u16lt (hbits hd); omega) (by decide) an4) hS5 (hvH rfl (fun _ _ => xbit (c := 256) rfl rfl (by decide)) hS5 (qqM rfl rfl hS5 (qqN rfl rfl hS5 (hvH rfl (fun _ _ => xfld fl121_1 rfl) hS5 (hvH rfl (fun w' hS => xld on22 rfl ((hP.keep hS (nE (by omega))).r.c 2 rfl rfl)) hS5 (hvH rfl (fun _ _ => xand16N (a := (hbits hd).toNat) (c := 128 * bN hd.avail) rfl rfl (by have hq := u16lt (hbits hd); omega) (by decide) an5) hS5 (hvH rfl (fun _ _ => xbit (c := 128) rfl rfl (by decide)) hS5 (qqM rfl rfl hS5 (qqN rfl rfl hS5 (hvH rfl (fun _ _ => xfld fl121_1 rfl) hS5 (hvH rfl (fun w' hS => xld on22 rfl ((hP.keep hS (nE (by omega))).r.c 2 rfl rfl)) hS5 (hvH rfl (fun _ _ => xand16N (a := (hbits hd).toNat) (c := 32 * bN hd.authc) rfl rfl (by have hq := u16lt (hbits hd); omega) (by decide) an6) hS5 (hvH rfl (fun _ _ => xbit (c := 32) rfl rfl (by decide)) hS5 (qqM rfl rfl hS5 (qqN rfl rfl hS5 (hvH rfl (fun _ _ => xfld fl121_1 rfl) hS5 (hvH rfl (fun w' hS => xld on22 rfl ((hP.keep hS (nE (by omega))).r.c 2 rfl rfl)) hS5 (hvH rfl (fun _ _ => xand16N (a := (hbits hd).toNat) (c := 16 * bN hd.unch) rfl rfl (by have hq := u16lt (hbits hd); omega) (by decide) an7) hS5 (hvH rfl (fun _ _ => xbit (c := 16) rfl rfl (by decide)) hS5 (qqM rfl rfl hS5 (qqN rfl rfl hS5 (hvH rfl (fun _ _ => xfld fl121_1 rfl) hS5 (hvH rfl (fun w' hS => xld on22 rfl ((hP.keep hS (nE (by omega))).r.c 2 rfl rfl)) hS5 (hvH rfl (fun _ _ => xand16N (a := (hbits hd).toNat) (c := hd.code.toNat) rfl rfl (by have hq := u16lt (hbits hd); omega) (by decide) an8) hS5 (hvH rfl (fun _ _ => xbuildS (headSegs hd) zr73 ly73 rfl (by simp [fitAll, zs73, Value.cells]) rfl) hS5 ?_)))))))))))))))))))))))))))))))))))))))))))))))))))))))))
 refine bluKH rfl (xstW h2 (lens' := [1, 1, 1, 1, 1, 1, 1, 1, 1, 1]) sz73 rfl rfl rfl rfl rfl) ?_
 rintro w7 ⟨m8, h2, s6⟩
 have hf := ((hf.s m3).drew).t m8 (by omega)
 refine hendH (fbg 2 rfl fun _ => wp_ret (rp1 rfl ⟨_, rfl, ldS (lens := [1, 1, 1, 1, 1, 1, 1, 1, 1, 1]) ro73 h2.r⟩ ?_))
 exact ⟨rfl, hf⟩
theorem c194 {w : World} {a : Option Addr} {bm om km n : Nat} {b : List UInt8} (hms : n ≠ 0 → a = some ⟨bm, om, none⟩) (hm : w.rangeAt bm om (bvs (b.take n))) (hbm : bm < w.heap.size) (hnb : n ≤ b.length) (hkm : n ≤ km) (hbl : b.length < 100000000) (hG : GE w) (hsz : 21 ≤ w.heap.size) {bp : Nat} (hP : SB w bp lRh [nm [], [.int .u16 0], [.int .u16 0], [.int .u32 0], [.int .u16 0]]) (hbp : bp ≠ bm) (hgp : 20 < bp) {K off e : Nat} {S : List UInt8} (hN : NameAt b K off S e) (hS0 : nameL S) (hK : K ≤ 10) (hKn : K = 0 ∨ n = b.length) {ka kb kc kd : Nat} (la : ka < 65536) (lb : kb < 65536) (lc : kc < 4294967296) (ld : kd < 65536) (ha : Std b e (be16 ka)) (hb : Std b (e + 2) (be16 kb)) (hc : Std b (e + 2 + 2) (be32 kc)) (hd : Std b (e + 2 + 2 + 4) (be16 kd)) (hel : e + 10 ≤ b.length) :
  Ret PP 194 [.pointer (some ⟨bp, 0, none⟩), .slice a n km, .int .i64 (off : Int)] w (fun u w' => ((e + 10 ≤ n ∧ u = .tuple #[.int .i64 ((e + 2 + 2 + 4 + 2 : Nat) : Int), .nilIface] ∧ SB w' bp lRh [nm S, [.int .u16 (ka : Int)], [.int .u16 (kb : Int)], [.int .u32 (kc : Int)], [.int .u16 (kd : Int)]]) ∨ (n < e + 10 ∧ (∃ (x : Option Addr), u = .tuple #[.int .i64 (off : Int), .iface 166 (.pointer x)]))) ∧ Fr (fun k => k = bp) w w') := by
 have hf : Fr (fun k => k = bp) w w := Fr.refl _ _
 have z_hP := hP.lt
 refine ret_of Tryz.func194 rfl rfl rfl [(0, _), (1, _), (2, _)] rfl ?_
 refine sreg (sA rfl (sA rfl (send ((sreg (sM rfl (sA rfl (send ((sreg (sA rfl (send (feg 0 1 2 8 rfl fun _ => wp_seq (sreg (sM rfl (sN rfl (sv (xfld fl135_0 rfl) (sM rfl (sM rfl (sc (xcall ca105 rfl) (c105 (b := b) (bp := bp) (q := 0) (ip := 0) (K := K) (off := off) (e := e) (S := S) hms hm (by omega) hnb hkm hbl hG (by omega) hP hbp hgp rfl rfl hN hS0 hK hKn) ?_))))))))))))))))))))
 rintro _ w1 ⟨⟨hle17, rfl, hP⟩ | ⟨hgt17, ⟨T17, x17, rfl⟩, o17, hP⟩, m2⟩
 rotate_left
 ·
  have z56 := m2.size
  refine sM rfl (sE2 rfl (sA rfl (sA rfl (send ((sreg (sM rfl (sv (xneI if89 rfl) (send (fgg 0 1 2 8 9 21 rfl fun _ => cyes rfl (sreg (sM rfl (sM rfl (sv (xbuildS [[_], [_]] zr168 ly168 rfl (by simp [fitAll, zs168, Value.cells]) rfl) (svK (xboxS (lens := [1, 1]) rfl (by simp [])) ?_)))))))))))))))
  rintro _ w58 ⟨b25, rfl, m59, h25, e57, s57⟩
  have hf := (hf.step m2 nI).s m59
  refine sv (xmkif ni166 rfl) (sA rfl (sA rfl (send (fcg 6 7 rfl fun _ => wp_ret (rThen (rp2 rfl rfl rfl ?_))))))
  exact ⟨.inr ⟨by omega, _, rfl⟩, hf⟩
 have z3 := m2.size
 have hP : SB w1 bp lRh ([nm S, [.int .u16 0], [.int .u16 0], [.int .u32 0], [.int .u16 0]]) := hP
 have hm := rng_fr hm m2 (by omega) (nE (by omega))
 have hG := hG.k1 m2 (by omega) (by omega)
 refine sM rfl (sE2 rfl (sA rfl (sA rfl (send ((sreg (sM rfl (sv (xneN if89 rfl) (send ((cno rfl (wp_skip (nThen (feg 0 1 2 8 rfl fun _ => wp_seq (sreg (sM rfl (sM rfl (sM rfl (sc (xcall ca106 rfl) (c106 (b := b) (off := e) (x := ka) hms hm (by omega) hnb hkm hbl hG (by omega) la (ha) (by omega)) ?_)))))))))))))))))))
 have hf := hf.step m2 nI
 rintro _ w4 ⟨⟨hle31, rfl⟩ | ⟨hgt31, T31, x31, rfl⟩, m5⟩
 rotate_left
 ·
  have z49 := m5.size
  have hP := hP.k m5
  refine sM rfl (sE3 rfl (sN rfl (sv (xfld fl135_1 rfl) (suK (xstF 1 sz83 hP rfl rfl rfl rfl rfl) ?_))))
  rintro w51 ⟨m52, hP, s50⟩
  refine sA rfl (sA rfl (send ((sreg (sM rfl (sv (xneI if89 rfl) (send (fgg 0 1 2 8 9 38 rfl fun _ => cyes rfl (sreg (sM rfl (sM rfl (sv (xbuildS [[_], [_]] zr168 ly168 rfl (by simp [fitAll, zs168, Value.cells]) rfl) (svK (xboxS (lens := [1, 1]) rfl (by simp [])) ?_)))))))))))))
  rintro _ w54 ⟨b42, rfl, m55, h42, e53, s53⟩
  have hf := ((hf.s m5).step m52 nI).s m55
  refine sv (xmkif ni166 rfl) (sA rfl (sA rfl (send (fcg 6 7 rfl fun _ => wp_ret (rThen (rp2 rfl rfl rfl ?_))))))
  exact ⟨.inr ⟨by omega, _, rfl⟩, hf⟩
 have z6 := m5.size
 have hP := hP.k m5
 refine sM rfl (sE3 rfl (sN rfl (sv (xfld fl135_1 rfl) (suK (xstF 1 sz83 hP rfl rfl rfl rfl rfl) ?_))))
 rintro w8 ⟨m9, hP, s7⟩
 have hm := rng_fr (rng_fr hm m5 (by omega) id) m9 (by omega) (nE (by omega))
 have hG := (hG.k0 m5 (by omega)).k1 m9 (by omega) (by omega)
 refine sA rfl (sA rfl (send ((sreg (sM rfl (sv (xneN if89 rfl) (send ((cno rfl (wp_skip (nThen (feg 0 1 2 8 rfl fun _ => wp_seq (sreg (sM rfl (sM rfl (sM rfl (sc (xcall ca107 rfl) (c107 (b := b) (off := e + 2) (x := kb) hms hm (by omega) hnb hkm hbl hG (by omega) lb (hb) (by omega)) ?_)))))))))))))))))
 have hf := (hf.s m5).step m9 nI
 rintro _ w10 ⟨⟨hle48, rfl⟩ | ⟨hgt48, T48, x48, rfl⟩, m11⟩
 rotate_left
 ·
  have z42 := m11.size
  have hP := hP.k m11
  refine sM rfl (sE3 rfl (sN rfl (sv (xfld fl135_2 rfl) (suK (xstF 2 sz84 hP rfl rfl rfl rfl rfl) ?_))))
  rintro w44 ⟨m45, hP, s43⟩
  refine sA rfl (sA rfl (send ((sreg (sM rfl (sv (xneI if89 rfl) (send (fgg 0 1 2 8 9 55 rfl fun _ => cyes rfl (sreg (sM rfl (sM rfl (sv (xbuildS [[_], [_]] zr168 ly168 rfl (by simp [fitAll, zs168, Value.cells]) rfl) (svK (xboxS (lens := [1, 1]) rfl (by simp [])) ?_)))))))))))))
  rintro _ w47 ⟨b59, rfl, m48, h59, e46, s46⟩
  have hf := ((hf.s m11).step m45 nI).s m48
  refine sv (xmkif ni166 rfl) (sA rfl (sA rfl (send (fcg 6 7 rfl fun _ => wp_ret (rThen (rp2 rfl rfl rfl ?_))))))
  exact ⟨.inr ⟨by omega, _, rfl⟩, hf⟩
 have z12 := m11.size
 have hP := hP.k m11
 refine sM rfl (sE3 rfl (sN rfl (sv (xfld fl135_2 rfl) (suK (xstF 2 sz84 hP rfl rfl rfl rfl rfl) ?_))))
 rintro w14 ⟨m15, hP, s13⟩
 have hm := rng_fr (rng_fr hm m11 (by omega) id) m15 (by omega) (nE (by omega))
 have hG := (hG.k0 m11 (by omega)).k1 m15 (by omega) (by omega)
 refine sA rfl (sA rfl (send ((sreg (sM rfl (sv (xneN if89 rfl) (send ((cno rfl (wp_skip (nThen (feg 0 1 2 8 rfl fun _ => wp_seq (sreg (sM rfl (sM rfl (sM rfl (sc (xcall ca211 rfl) (c211 (b := b) (off := e + 2 + 2) (x := kc) hms hm (by omega) hnb hkm hbl hG (by omega) lc (hc) (by omega)) ?_)))))))))))))))))
 have hf := (hf.s m11).step m15 nI
 rintro _ w16 ⟨⟨hle65, rfl⟩ | ⟨hgt65, T65, x65, rfl⟩, m17⟩
 rotate_left
 ·
  have z35 := m17.size
  have hP := hP.k m17
  refine sM rfl (sE3 rfl (sN rfl (sv (xfld fl135_3 rfl) (suK (xstF 3 sz61 hP rfl rfl rfl rfl rfl) ?_))))
  rintro w37 ⟨m38, hP, s36⟩
  refine sA rfl (sA rfl (send ((sreg (sM rfl (sv (xneI if89 rfl) (send (fgg 0 1 2 8 9 72 rfl fun _ => cyes rfl (sreg (sM rfl (sM rfl (sv (xbuildS [[_], [_]] zr168 ly168 rfl (by simp [fitAll, zs168, Value.cells]) rfl) (svK (xboxS (lens := [1, 1]) rfl (by simp [])) ?_)))))))))))))
  rintro _ w40 ⟨b76, rfl, m41, h76, e39, s39⟩
  have hf := ((hf.s m17).step m38 nI).s m41
  refine sv (xmkif ni166 rfl) (sA rfl (sA rfl (send (fcg 6 7 rfl fun _ => wp_ret (rThen (rp2 rfl rfl rfl ?_))))))
  exact ⟨.inr ⟨by omega, _, rfl⟩, hf⟩
 have z18 := m17.size
 have hP := hP.k m17
 refine sM rfl (sE3 rfl (sN rfl (sv (xfld fl135_3 rfl) (suK (xstF 3 sz61 hP rfl rfl rfl rfl rfl) ?_))))
 rintro w20 ⟨m21, hP, s19⟩
 have hm := rng_fr (rng_fr hm m17 (by omega) id) m21 (by omega) (nE (by omega))
 have hG := (hG.k0 m17 (by omega)).k1 m21 (by omega) (by omega)
 refine sA rfl (sA rfl (send ((sreg (sM rfl (sv (xneN if89 rfl) (send ((cno rfl (wp_skip (nThen (feg 0 1 2 8 rfl fun _ => wp_seq (sreg (sM rfl (sM rfl (sM rfl (sc (xcall ca156 rfl) (c156 (b := b) (off := e + 2 + 2 + 4) (x := kd) hms hm (by omega) hnb hkm hbl hG (by omega) ld (hd) (by omega)) ?_)))))))))))))))))
 have hf := (hf.s m17).step m21 nI
 rintro _ w22 ⟨⟨hle82, rfl⟩ | ⟨hgt82, T82, x82, rfl⟩, m23⟩
 ·
  have z24 := m23.size
  have hP := hP.k m23
  refine sM rfl (sE3 rfl (sN rfl (sv (xfld fl135_4 rfl) (suK (xstF 4 sz22 hP rfl rfl rfl rfl rfl) ?_))))
  rintro w26 ⟨m27, hP, s25⟩
  have hf := (hf.s m23).step m27 nI
  refine sA rfl (sA rfl (send ((sreg (sM rfl (sv (xneN if89 rfl) (send ((cno rfl (wp_skip (nThen ((sreg (sM rfl (sA rfl (sA rfl (send (fcg 6 7 rfl fun _ => wp_ret (rp2 rfl rfl rfl ?_)))))))))))))))))))
  exact ⟨.inl ⟨by omega, rfl, hP⟩, hf⟩
 have z28 := m23.size
 have hP := hP.k m23
 refine sM rfl (sE3 rfl (sN rfl (sv (xfld fl135_4 rfl) (suK (xstF 4 sz22 hP rfl rfl rfl rfl rfl) ?_))))
 rintro w30 ⟨m31, hP, s29⟩
 refine sA rfl (sA rfl (send ((sreg (sM rfl (sv (xneI if89 rfl) (send (feg 2 8 9 89 rfl fun _ => cyes rfl (sreg (sM rfl (sM rfl (sv (xbuildS [[_], [_]] zr168 ly168 rfl (by simp [fitAll, zs168, Value.cells]) rfl) (svK (xboxS (lens := [1, 1]) rfl (by simp [])) ?_)))))))))))))
 rintro _ w33 ⟨b93, rfl, m34, h93, e32, s32⟩
 have hf := ((hf.s m23).step m31 nI).s m34
 refine sv (xmkif ni166 rfl) (sA rfl (sA rfl (send (fcg 6 7 rfl fun _ => wp_ret (rThen (rp2 rfl rfl rfl ?_))))))
 exact ⟨.inr ⟨by omega, _, rfl⟩, hf⟩
theorem c195 {w : World} {a : Option Addr} {bm om km n : Nat} {b : List UInt8} (hms : n ≠ 0 → a = some ⟨bm, om, none⟩) (hm : w.rangeAt bm om (bvs (b.take n))) (hbm : bm < w.heap.size) (hnb : n ≤ b.length) (hkm : n ≤ km) (hbl : b.length < 100000000) (hG : GE w) (hsz : 21 ≤ w.heap.size) {off : Nat} {xs : List UInt8} (hx : xs.length = 4) (hs : Std b off xs) (hle : off + 4 ≤ b.length) (h0 : n ≠ 0) :
  Ret PP 195 [.slice a n km, .int .i64 (off : Int)] w (fun u w' => ((off + 4 ≤ n ∧ u = .tuple #[ag ([bvs xs]), .nilIface]) ∨ (n < off + 4 ∧ ∃ (T : TypeId) (x : Option Addr), u = .tuple #[ag ([bvs (List.replicate 4 0)]), .iface T (.pointer x)])) ∧ Fr0 w w') := by
 have hf : Fr (fun _ => False) w w := Fr.refl _ _
 refine ret_of Tryz.func195 rfl rfl rfl [(0, _), (1, _)] rfl ?_
 refine sreg (svK (xallS (lens := [4]) in189 (by simp [bvs_length])) ?_)
 rintro _ w2 ⟨b4, rfl, m3, h4, e1, s1⟩
 refine sA rfl (send (fdg 0 1 4 rfl fun _ => sreg (svK (xallS (lens := [4]) in187 (by simp [bvs_length])) ?_)))
 rintro _ w5 ⟨b6, rfl, m6, h6, e4, s4⟩
 have hm := rng_fr (rng_fr hm m3 (by omega) id) m6 (by omega) id
 have hG := (hG.k0 m3 (by omega)).k0 m6 (by omega)
 refine send (feg 0 1 4 6 rfl fun _ => wp_seq (sreg (sM rfl (sM rfl (sv (xcutA ar187 sz5 rfl) (sc (xcall ca212 rfl) (c212 (b := b) (bp := b6) (q := 0) (ip := 0) (off := off) (d := 4) (xs := xs) hms hm (by omega) hnb hkm hbl hG (by omega) h6 (by omega) (by omega) rfl rfl hs (by omega) hx (by simp [bvs_length]) hle h0) ?_))))))
 have hf := (hf.s m3).s m6
 have h4 := h4.k m6
 rintro _ w7 ⟨⟨hle13, rfl, h6⟩ | ⟨hgt13, ⟨T13, x13, rfl⟩, o13, h6⟩, m8⟩
 ·
  have z9 := m8.size
  have h6 : SB w7 b6 [4] [bvs xs] := h6
  have h4 := h4.keep m8 (nE (by omega))
  refine sM rfl (sE2 rfl (sA rfl (sA rfl (send ((sreg (sM rfl (sv (xneN if89 rfl) (send ((cno rfl (wp_skip (nThen (fcg 4 6 rfl fun _ => sreg (sv (xldS (lens := [4]) ro187 rfl h6.r) (sv (xbuildS [bvs xs] zr189 ly189 rfl (by simp [fitAll, zs189, Value.cells, bvs_length, hx]) (by simp [setAll, zs189, Value.cells])) (suK (xstW h4 (lens' := [4]) sz189 (by simp [bvs_length, hx]) rfl (by simp only [fC, fN, aN, bvs_one] <;> rfl) rfl rfl) ?_)))))))))))))))))
  rintro w11 ⟨m12, h4, s10⟩
  have hf := (hf.t m8 (by omega)).t m12 (by omega)
  refine sA rfl (send (fcg 4 5 rfl fun _ => wp_ret (rp2 rfl ⟨_, rfl, ldS (lens := [4]) ro189 h4.r⟩ rfl ?_)))
  exact ⟨.inl ⟨by omega, rfl⟩, hf⟩
 have z13 := m8.size
 have h4 := h4.keep m8 (nE (by omega))
 refine sM rfl (sE2 rfl (sA rfl (sA rfl (send ((sreg (sM rfl (sv (xneI if89 rfl) (send (feg 4 6 8 17 rfl fun _ => cyes rfl (sreg (sv (xbuildS [bvs (List.replicate 4 0)] zr189 ly189 rfl trivial (by simp [setAll, zs189])) (sM rfl (suK (xstW h4 (lens' := [4]) sz189 (by simp [bvs_length]) rfl (by simp only [fC, fN, aN, bvs_one] <;> rfl) rfl rfl) ?_))))))))))))))
 rintro w15 ⟨m16, h4, s14⟩
 have hf := (hf.t m8 (by omega)).t m16 (by omega)
 refine sA rfl (send (fcg 4 5 rfl fun _ => wp_ret (rThen (rp2 rfl ⟨_, rfl, ldS (lens := [4]) ro189 h4.r⟩ rfl ?_))))
 exact ⟨.inr ⟨by omega, _, _, rfl⟩, hf⟩
theorem c202 {w : World} {a : Option Addr} {bm om km n : Nat} {b : List UInt8} (hms : n ≠ 0 → a = some ⟨bm, om, none⟩) (hm : w.rangeAt bm om (bvs (b.take n))) (hbm : bm < w.heap.size) (hnb : n ≤ b.length) (hkm : n ≤ km) (hbl : b.length < 100000000) (hG : GE w) (hsz : 21 ≤ w.heap.size) {off : Nat} {xs : List UInt8} (hx : xs.length = 16) (hs : Std b off xs) (hle : off + 16 ≤ b.length) (h0 : n ≠ 0) :
  Ret PP 202 [.slice a n km, .int .i64 (off : Int)] w (fun u w' => ((off + 16 ≤ n ∧ u = .tuple #[ag ([bvs xs]), .nilIface]) ∨ (n < off + 16 ∧ ∃ (T : TypeId) (x : Option Addr), u = .tuple #[ag ([bvs (List.replicate 16 0)]), .iface T (.pointer x)])) ∧ Fr0 w w') := by
 have hf : Fr (fun _ => False) w w := Fr.refl _ _
 refine ret_of Tryz.func202 rfl rfl rfl [(0, _), (1, _)] rfl ?_
 refine sreg (svK (xallS (lens := [16]) in211 (by simp [bvs_length])) ?_)
 rintro _ w2 ⟨b4, rfl, m3, h4, e1, s1⟩
 refine sA rfl (send (fdg 0 1 4 rfl fun _ => sreg (svK (xallS (lens := [16]) in209 (by simp [bvs_length])) ?_)))
 rintro _ w5 ⟨b6, rfl, m6, h6, e4, s4⟩
 have hm := rng_fr (rng_fr hm m3 (by omega) id) m6 (by omega) id
 have hG := (hG.k0 m3 (by omega)).k0 m6 (by omega)
 refine send (feg 0 1 4 6 rfl fun _ => wp_seq (sreg (sM rfl (sM rfl (sv (xcutA ar209 sz5 rfl) (sc (xcall ca212 rfl) (c212 (b := b) (bp := b6) (q := 0) (ip := 0) (off := off) (d := 16) (xs := xs) hms hm (by omega) hnb hkm hbl hG (by omega) h6 (by omega) (by omega) rfl rfl hs (by omega) hx (by simp [bvs_length]) hle h0) ?_))))))
 have hf := (hf.s m3).s m6
 have h4 := h4.k m6
 rintro _ w7 ⟨⟨hle13, rfl, h6⟩ | ⟨hgt13, ⟨T13, x13, rfl⟩, o13, h6⟩, m8⟩
 ·
  have z9 := m8.size
  have h6 : SB w7 b6 [16] [bvs xs] := h6
  have h4 := h4.keep m8 (nE (by omega))
  refine sM rfl (sE2 rfl (sA rfl (sA rfl (send ((sreg (sM rfl (sv (xneN if89 rfl) (send ((cno rfl (wp_skip (nThen (fcg 4 6 rfl fun _ => sreg (sv (xldS (lens := [16]) ro209 rfl h6.r) (sv (xbuildS [bvs xs] zr211 ly211 rfl (by simp [fitAll, zs211, Value.cells, bvs_length, hx]) (by simp [setAll, zs211, Value.cells])) (suK (xstW h4 (lens' := [16]) sz211 (by simp [bvs_length, hx]) rfl (by simp only [fC, fN, aN, bvs_one] <;> rfl) rfl rfl) ?_)))))))))))))))))
  rintro w11 ⟨m12, h4, s10⟩
  have hf := (hf.t m8 (by omega)).t m12 (by omega)
  refine sA rfl (send (fcg 4 5 rfl fun _ => wp_ret (rp2 rfl ⟨_, rfl, ldS (lens := [16]) ro211 h4.r⟩ rfl ?_)))
  exact ⟨.inl ⟨by omega, rfl⟩, hf⟩
 have z13 := m8.size
 have h4 := h4.keep m8 (nE (by omega))
 refine sM rfl (sE2 rfl (sA rfl (sA rfl (send ((sreg (sM rfl (sv (xneI if89 rfl) (send (feg 4 6 8 17 rfl fun _ => cyes rfl (sreg (sv (xbuildS [bvs (List.replicate 16 0)] zr211 ly211 rfl trivial (by simp [setAll, zs211])) (sM rfl (suK (xstW h4 (lens' := [16]) sz211 (by simp [bvs_length]) rfl (by simp only [fC, fN, aN, bvs_one] <;> rfl) rfl rfl) ?_))))))))))))))
 rintro w15 ⟨m16, h4, s14⟩
 have hf := (hf.t m8 (by omega)).t m16 (by omega)
 refine sA rfl (send (fcg 4 5 rfl fun _ => wp_ret (rThen (rp2 rfl ⟨_, rfl, ldS (lens := [16]) ro211 h4.r⟩ rfl ?_))))
 exact ⟨.inr ⟨by omega, _, _, rfl⟩, hf⟩
theorem c196 {w : World} {a : Option Addr} {bm om km n : Nat} {b : List UInt8} (hms : n ≠ 0 → a = some ⟨bm, om, none⟩) (hm : w.rangeAt bm om (bvs (b.take n))) (hbm : bm < w.heap.size) (hnb : n ≤ b.length) (hkm : n ≤ km) (hbl : b.length < 100000000) (hG : GE w) (hsz : 21 ≤ w.heap.size) {K off e : Nat} {S : List UInt8} (hN : NameAt b K off S e) (hS0 : nameL S) (hK : K ≤ 10) (hKn : K = 0 ∨ n = b.length)  :
  Ret PP 196 [.slice a n km, .int .i64 (off : Int)] w (fun u w' => ((e ≤ n ∧ u = .tuple #[ag ([nm S]), .nilIface]) ∨ (n < e ∧ ∃ (T : TypeId) (x : Option Addr), u = .tuple #[ag ([nm []]), .iface T (.pointer x)])) ∧ Fr0 w w') := by
 have hf : Fr (fun _ => False) w w := Fr.refl _ _
 refine ret_of Tryz.func196 rfl rfl rfl [(0, _), (1, _)] rfl ?_
 refine sreg (svK (xallS (lens := [256]) in192 (by simp [nm_length])) ?_)
 rintro _ w2 ⟨b4, rfl, m3, h4, e1, s1⟩
 refine sA rfl (send (fdg 0 1 4 rfl fun _ => sreg (svK (xallS (lens := [256]) in82 (by simp [nm_length])) ?_)))
 rintro _ w5 ⟨b6, rfl, m6, h6, e4, s4⟩
 have hm := rng_fr (rng_fr hm m3 (by omega) id) m6 (by omega) id
 have hG := (hG.k0 m3 (by omega)).k0 m6 (by omega)
 refine send (feg 0 1 4 6 rfl fun _ => wp_seq (sreg (sM rfl (sM rfl (sc (xcall ca105 rfl) (c105 (b := b) (bp := b6) (q := 0) (ip := 0) (K := K) (off := off) (e := e) (S := S) hms hm (by omega) hnb hkm hbl hG (by omega) h6 (by omega) (by omega) rfl rfl hN hS0 hK hKn) ?_)))))
 have hf := (hf.s m3).s m6
 have h4 := h4.k m6
 rintro _ w7 ⟨⟨hle12, rfl, h6⟩ | ⟨hgt12, ⟨T12, x12, rfl⟩, o12, h6⟩, m8⟩
 ·
  have z9 := m8.size
  have h6 : SB w7 b6 [256] ([nm (S)]) := h6
  have h4 := h4.keep m8 (nE (by omega))
  refine sM rfl (sE2 rfl (sA rfl (sA rfl (send ((sreg (sM rfl (sv (xneN if89 rfl) (send ((cno rfl (wp_skip (nThen (fcg 4 6 rfl fun _ => sreg (sv (xldS (lens := [256]) ro82 rfl h6.r) (sv (xbuildS [nm S] zr192 ly192 rfl (by simp [fitAll, zs192, Value.cells, nm_length]) (by simp [setAll, zs192, Value.cells])) (suK (xstW h4 (lens' := [256]) sz192 (by simp [nm_length]) rfl (by simp only [fC, fN, aN, nm_one] <;> rfl) rfl rfl) ?_)))))))))))))))))
  rintro w11 ⟨m12, h4, s10⟩
  have hf := (hf.t m8 (by omega)).t m12 (by omega)
  refine sA rfl (send (fcg 4 5 rfl fun _ => wp_ret (rp2 rfl ⟨_, rfl, ldS (lens := [256]) ro192 h4.r⟩ rfl ?_)))
  exact ⟨.inl ⟨by omega, rfl⟩, hf⟩
 have z13 := m8.size
 have h4 := h4.keep m8 (nE (by omega))
 refine sM rfl (sE2 rfl (sA rfl (sA rfl (send ((sreg (sM rfl (sv (xneI if89 rfl) (send (feg 4 6 8 16 rfl fun _ => cyes rfl (sreg (sv (xbuildS [nm []] zr192 ly192 rfl trivial (by simp [setAll, zs192])) (sM rfl (suK (xstW h4 (lens' := [256]) sz192 (by simp [nm_length]) rfl (by simp only [fC, fN, aN, nm_one] <;> rfl) rfl rfl) ?_))))))))))))))
 rintro w15 ⟨m16, h4, s14⟩
 have hf := (hf.t m8 (by omega)).t m16 (by omega)
 refine sA rfl (send (fcg 4 5 rfl fun _ => wp_ret (rThen (rp2 rfl ⟨_, rfl, ldS (lens := [256]) ro192 h4.r⟩ rfl ?_))))
 exact ⟨.inr ⟨by omega, _, _, rfl⟩, hf⟩
theorem c197 {w : World} {a : Option Addr} {bm om km n : Nat} {b : List UInt8} (hms : n ≠ 0 → a = some ⟨bm, om, none⟩) (hm : w.rangeAt bm om (bvs (b.take n))) (hbm : bm < w.heap.size) (hnb : n ≤ b.length) (hkm : n ≤ km) (hbl : b.length < 100000000) (hG : GE w) (hsz : 21 ≤ w.heap.size) {K off e : Nat} {S : List UInt8} (hN : NameAt b K off S e) (hS0 : nameL S) (hK : K ≤ 10) (hKn : K = 0 ∨ n = b.length)  :
  Ret PP 197 [.slice a n km, .int .i64 (off : Int)] w (fun u w' => ((e ≤ n ∧ u = .tuple #[ag ([nm S]), .nilIface]) ∨ (n < e ∧ ∃ (T : TypeId) (x : Option Addr), u = .tuple #[ag ([nm []]), .iface T (.pointer x)])) ∧ Fr0 w w') := by
 have hf : Fr (fun _ => False) w w := Fr.refl _ _
 refine ret_of Tryz.func197 rfl rfl rfl [(0, _), (1, _)] rfl ?_
 refine sreg (svK (xallS (lens := [256]) in195 (by simp [nm_length])) ?_)
 rintro _ w2 ⟨b4, rfl, m3, h4, e1, s1⟩
 refine sA rfl (send (fdg 0 1 4 rfl fun _ => sreg (svK (xallS (lens := [256]) in82 (by simp [nm_length])) ?_)))
 rintro _ w5 ⟨b6, rfl, m6, h6, e4, s4⟩
 have hm := rng_fr (rng_fr hm m3 (by omega) id) m6 (by omega) id
 have hG := (hG.k0 m3 (by omega)).k0 m6 (by omega)
 refine send (feg 0 1 4 6 rfl fun _ => wp_seq (sreg (sM rfl (sM rfl (sc (xcall ca105 rfl) (c105 (b := b) (bp := b6) (q := 0) (ip := 0) (K := K) (off := off) (e := e) (S := S) hms hm (by omega) hnb hkm hbl hG (by omega) h6 (by omega) (by omega) rfl rfl hN hS0 hK hKn) ?_)))))
 have hf := (hf.s m3).s m6
 have h4 := h4.k m6
 rintro _ w7 ⟨⟨hle12, rfl, h6⟩ | ⟨hgt12, ⟨T12, x12, rfl⟩, o12, h6⟩, m8⟩
 ·
  have z9 := m8.size
  have h6 : SB w7 b6 [256] ([nm (S)]) := h6
  have h4 := h4.keep m8 (nE (by omega))
  refine sM rfl (sE2 rfl (sA rfl (sA rfl (send ((sreg (sM rfl (sv (xneN if89 rfl) (send ((cno rfl (wp_skip (nThen (fcg 4 6 rfl fun _ => sreg (sv (xldS (lens := [256]) ro82 rfl h6.r) (sv (xbuildS [nm S] zr195 ly195 rfl (by simp [fitAll, zs195, Value.cells, nm_length]) (by simp [setAll, zs195, Value.cells])) (suK (xstW h4 (lens' := [256]) sz195 (by simp [nm_length]) rfl (by simp only [fC, fN, aN, nm_one] <;> rfl) rfl rfl) ?_)))))))))))))))))
  rintro w11 ⟨m12, h4, s10⟩
  have hf := (hf.t m8 (by omega)).t m12 (by omega)
  refine sA rfl (send (fcg 4 5 rfl fun _ => wp_ret (rp2 rfl ⟨_, rfl, ldS (lens := [256]) ro195 h4.r⟩ rfl ?_)))
  exact ⟨.inl ⟨by omega, rfl⟩, hf⟩
 have z13 := m8.size
 have h4 := h4.keep m8 (nE (by omega))
 refine sM rfl (sE2 rfl (sA rfl (sA rfl (send ((sreg (sM rfl (sv (xneI if89 rfl) (send (feg 4 6 8 16 rfl fun _ => cyes rfl (sreg (sv (xbuildS [nm []] zr195 ly195 rfl trivial (by simp [setAll, zs195])) (sM rfl (suK (xstW h4 (lens' := [256]) sz195 (by simp [nm_length]) rfl (by simp only [fC, fN, aN, nm_one] <;> rfl) rfl rfl) ?_))))))))))))))
 rintro w15 ⟨m16, h4, s14⟩
 have hf := (hf.t m8 (by omega)).t m16 (by omega)
 refine sA rfl (send (fcg 4 5 rfl fun _ => wp_ret (rThen (rp2 rfl ⟨_, rfl, ldS (lens := [256]) ro195 h4.r⟩ rfl ?_))))
 exact ⟨.inr ⟨by omega, _, _, rfl⟩, hf⟩
theorem c199 {w : World} {a : Option Addr} {bm om km n : Nat} {b : List UInt8} (hms : n ≠ 0 → a = some ⟨bm, om, none⟩) (hm : w.rangeAt bm om (bvs (b.take n))) (hbm : bm < w.heap.size) (hnb : n ≤ b.length) (hkm : n ≤ km) (hbl : b.length < 100000000) (hG : GE w) (hsz : 21 ≤ w.heap.size) {K off e : Nat} {S : List UInt8} (hN : NameAt b K off S e) (hS0 : nameL S) (hK : K ≤ 10) (hKn : K = 0 ∨ n = b.length)  :
  Ret PP 199 [.slice a n km, .int .i64 (off : Int)] w (fun u w' => ((e ≤ n ∧ u = .tuple #[ag ([nm S]), .nilIface]) ∨ (n < e ∧ ∃ (T : TypeId) (x : Option Addr), u = .tuple #[ag ([nm []]), .iface T (.pointer x)])) ∧ Fr0 w w') := by
 have hf : Fr (fun _ => False) w w := Fr.refl _ _
 refine ret_of Tryz.func199 rfl rfl rfl [(0, _), (1, _)] rfl ?_
 refine sreg (svK (xallS (lens := [256]) in201 (by simp [nm_length])) ?_)
 rintro _ w2 ⟨b4, rfl, m3, h4, e1, s1⟩
 refine sA rfl (send (fdg 0 1 4 rfl fun _ => sreg (svK (xallS (lens := [256]) in82 (by simp [nm_length])) ?_)))
 rintro _ w5 ⟨b6, rfl, m6, h6, e4, s4⟩
 have hm := rng_fr (rng_fr hm m3 (by omega) id) m6 (by omega) id
 have hG := (hG.k0 m3 (by omega)).k0 m6 (by omega)
 refine send (feg 0 1 4 6 rfl fun _ => wp_seq (sreg (sM rfl (sM rfl (sc (xcall ca105 rfl) (c105 (b := b) (bp := b6) (q := 0) (ip := 0) (K := K) (off := off) (e := e) (S := S) hms hm (by omega) hnb hkm hbl hG (by omega) h6 (by omega) (by omega) rfl rfl hN hS0 hK hKn) ?_)))))
 have hf := (hf.s m3).s m6
 have h4 := h4.k m6
 rintro _ w7 ⟨⟨hle12, rfl, h6⟩ | ⟨hgt12, ⟨T12, x12, rfl⟩, o12, h6⟩, m8⟩
 ·
  have z9 := m8.size
  have h6 : SB w7 b6 [256] ([nm (S)]) := h6
  have h4 := h4.keep m8 (nE (by omega))
  refine sM rfl (sE2 rfl (sA rfl (sA rfl (send ((sreg (sM rfl (sv (xneN if89 rfl) (send ((cno rfl (wp_skip (nThen (fcg 4 6 rfl fun _ => sreg (sv (xldS (lens := [256]) ro82 rfl h6.r) (sv (xbuildS [nm S] zr201 ly201 rfl (by simp [fitAll, zs201, Value.cells, nm_length]) (by simp [setAll, zs201, Value.cells])) (suK (xstW h4 (lens' := [256]) sz201 (by simp [nm_length]) rfl (by simp only [fC, fN, aN, nm_one] <;> rfl) rfl rfl) ?_)))))))))))))))))
  rintro w11 ⟨m12, h4, s10⟩
  have hf := (hf.t m8 (by omega)).t m12 (by omega)
  refine sA rfl (send (fcg 4 5 rfl fun _ => wp_ret (rp2 rfl ⟨_, rfl, ldS (lens := [256]) ro201 h4.r⟩ rfl ?_)))
  exact ⟨.inl ⟨by omega, rfl⟩, hf⟩
 have z13 := m8.size
 have h4 := h4.keep m8 (nE (by omega))
 refine sM rfl (sE2 rfl (sA rfl (sA rfl (send ((sreg (sM rfl (sv (xneI if89 rfl) (send (feg 4 6 8 16 rfl fun _ => cyes rfl (sreg (sv (xbuildS [nm []] zr201 ly201 rfl trivial (by simp [setAll, zs201])) (sM rfl (suK (xstW h4 (lens' := [256]) sz201 (by simp [nm_length]) rfl (by simp only [fC, fN, aN, nm_one] <;> rfl) rfl rfl) ?_))))))))))))))
 rintro w15 ⟨m16, h4, s14⟩
 have hf := (hf.t m8 (by omega)).t m16 (by omega)
 refine sA rfl (send (fcg 4 5 rfl fun _ => wp_ret (rThen (rp2 rfl ⟨_, rfl, ldS (lens := [256]) ro201 h4.r⟩ rfl ?_))))
 exact ⟨.inr ⟨by omega, _, _, rfl⟩, hf⟩
theorem c198 {w : World} {a : Option Addr} {bm om km n : Nat} {b : List UInt8} (hms : n ≠ 0 → a = some ⟨bm, om, none⟩) (hm : w.rangeAt bm om (bvs (b.take n))) (hbm : bm < w.heap.size) (hnb : n ≤ b.length) (hkm : n ≤ km) (hbl : b.length < 100000000) (hG : GE w) (hsz : 21 ≤ w.heap.size) {Ka Kb off ea eb : Nat} {Sa Sb : List UInt8} (hNa : NameAt b Ka off Sa ea) (hSa : nameL Sa) (hKa : Ka ≤ 10) (hKna : Ka = 0 ∨ n = b.length) (hNb : NameAt b Kb ea Sb eb) (hSb : nameL Sb) (hKb : Kb ≤ 10) (hKnb : Kb = 0 ∨ n = b.length) {ka kb kc kd ke : Nat} (la : ka < 4294967296) (lb : kb < 4294967296) (lc : kc < 4294967296) (ld : kd < 4294967296) (le : ke < 4294967296) (hs : Std b eb (be32 ka ++ (be32 kb ++ (be32 kc ++ (be32 kd ++ be32 ke))))) (hle : eb + 20 ≤ b.length) :
  Ret PP 198 [.slice a n km, .int .i64 (off : Int)] w (fun u w' => ((eb + 20 ≤ n ∧ u = .tuple #[ag ([nm Sa, nm Sb, [.int .u32 (ka : Int)], [.int .u32 (kb : Int)], [.int .u32 (kc : Int)], [.int .u32 (kd : Int)], [.int .u32 (ke : Int)]]), .nilIface]) ∨ (n < eb + 20 ∧ ∃ (T : TypeId) (x : Option Addr), u = .tuple #[ag ([nm [], nm [], [.int .u32 0], [.int .u32 0], [.int .u32 0], [.int .u32 0], [.int .u32 0]]), .iface T (.pointer x)])) ∧ Fr0 w w') := by
 have hNbl := (show NameR b ea Kb ea (txt Sb) eb from hNb).le
 have hf : Fr (fun _ => False) w w := Fr.refl _ _
 refine ret_of Tryz.func198 rfl rfl rfl [(0, _), (1, _)] rfl ?_
 refine sreg (svK (xallS (lens := [256, 256, 1, 1, 1, 1, 1]) in198 (by simp [nm_length])) ?_)
 rintro _ w2 ⟨b4, rfl, m3, h4, e1, s1⟩
 refine sA rfl (send (fdg 0 1 4 rfl fun _ => sreg (svK (xallS (lens := [256]) in82 (by simp [nm_length])) ?_)))
 rintro _ w5 ⟨b6, rfl, m6, h6, e4, s4⟩
 have hm := rng_fr (rng_fr hm m3 (by omega) id) m6 (by omega) id
 have hG := (hG.k0 m3 (by omega)).k0 m6 (by omega)
 refine send (feg 0 1 4 6 rfl fun _ => sreg (sM rfl (sM rfl (sc (xcall ca105 rfl) (c105 (b := b) (bp := b6) (q := 0) (ip := 0) (K := Ka) (off := off) (e := ea) (S := Sa) hms hm (by omega) hnb hkm hbl hG (by omega) h6 (by omega) (by omega) rfl rfl hNa hSa hKa hKna) ?_))))
 have hf := (hf.s m3).s m6
 have h4 := h4.k m6
 rintro _ w7 ⟨⟨hle18, rfl, h6⟩ | ⟨hgt18, ⟨T18, x18, rfl⟩, o18, h6⟩, m8⟩
 rotate_left
 ·
  have z77 := m8.size
  refine sM rfl (sE2 rfl (sA rfl (sA rfl (send ((wp_seq (sreg (sM rfl (sv (xneI if89 rfl) (send (fgg 0 1 4 6 7 22 rfl fun _ => cyes rfl (sreg (sv (xbuildS [nm [], nm [], [.int .u32 0], [.int .u32 0], [.int .u32 0], [.int .u32 0], [.int .u32 0]] zr198 ly198 rfl trivial (by simp [setAll, zs198])) (sM rfl (sv (xbuildS [[_], [_]] zr168 ly168 rfl (by simp [fitAll, zs168, Value.cells]) rfl) (svK (xboxS (lens := [1, 1]) rfl (by simp [])) ?_))))))))))))))))
  rintro _ w79 ⟨b26, rfl, m80, h26, e78, s78⟩
  have h4 := (h4.keep m8 (nE (by omega))).k m80
  refine sv (xmkif ni166 rfl) (suK (xstW h4 (lens' := [256, 256, 1, 1, 1, 1, 1]) sz198 (by simp [nm_length]) rfl (by simp only [fC, fN, aA, aN, nm_one, bT] <;> rfl) rfl rfl) ?_)
  rintro w82 ⟨m83, h4, s81⟩
  have hf := ((hf.t m8 (by omega)).s m80).t m83 (by omega)
  refine sA rfl (send (fcg 4 5 rfl fun _ => wp_ret (rThen (rp2 rfl ⟨_, rfl, ldS (lens := [256, 256, 1, 1, 1, 1, 1]) ro198 h4.r⟩ rfl ?_))))
  exact ⟨.inr ⟨by omega, _, _, rfl⟩, hf⟩
 have z9 := m8.size
 have h6 : SB w7 b6 [256] ([nm (Sa)]) := h6
 refine sM rfl (sE2 rfl (sA rfl (sA rfl (send ((wp_seq (sreg (sM rfl (sv (xneN if89 rfl) (send ((cno rfl (wp_skip (nThen (feg 0 1 4 6 rfl fun _ => sreg (svK (xallS (lens := [256]) in82 (by simp [nm_length])) ?_))))))))))))))))
 rintro _ w11 ⟨b8, rfl, m12, h8, e10, s10⟩
 have hm := rng_fr (rng_fr hm m8 (by omega) (nE (by omega))) m12 (by omega) id
 have hG := (hG.k1 m8 (by omega) (by omega)).k0 m12 (by omega)
 refine send (ffg 0 1 4 6 8 rfl fun _ => wp_seq (sreg (sM rfl (sM rfl (sc (xcall ca105 rfl) (c105 (b := b) (bp := b8) (q := 0) (ip := 0) (K := Kb) (off := ea) (e := eb) (S := Sb) hms hm (by omega) hnb hkm hbl hG (by omega) h8 (by omega) (by omega) rfl rfl hNb hSb hKb hKnb) ?_)))))
 have hf := (hf.t m8 (by omega)).s m12
 have h4 := (h4.keep m8 (nE (by omega))).k m12
 rintro _ w13 ⟨⟨hle31, rfl, h8⟩ | ⟨hgt31, ⟨T31, x31, rfl⟩, o31, h8⟩, m14⟩
 rotate_left
 ·
  have z70 := m14.size
  refine sM rfl (sE2 rfl (sA rfl (sA rfl (send ((sreg (sM rfl (sv (xneI if89 rfl) (send (fhg 0 1 4 6 7 8 35 rfl fun _ => cyes rfl (sreg (sv (xbuildS [nm [], nm [], [.int .u32 0], [.int .u32 0], [.int .u32 0], [.int .u32 0], [.int .u32 0]] zr198 ly198 rfl trivial (by simp [setAll, zs198])) (sM rfl (sv (xbuildS [[_], [_]] zr168 ly168 rfl (by simp [fitAll, zs168, Value.cells]) rfl) (svK (xboxS (lens := [1, 1]) rfl (by simp [])) ?_)))))))))))))))
  rintro _ w72 ⟨b39, rfl, m73, h39, e71, s71⟩
  have h4 := (h4.keep m14 (nE (by omega))).k m73
  refine sv (xmkif ni166 rfl) (suK (xstW h4 (lens' := [256, 256, 1, 1, 1, 1, 1]) sz198 (by simp [nm_length]) rfl (by simp only [fC, fN, aA, aN, nm_one, bT] <;> rfl) rfl rfl) ?_)
  rintro w75 ⟨m76, h4, s74⟩
  have hf := ((hf.t m14 (by omega)).s m73).t m76 (by omega)
  refine sA rfl (send (fcg 4 5 rfl fun _ => wp_ret (rThen (rp2 rfl ⟨_, rfl, ldS (lens := [256, 256, 1, 1, 1, 1, 1]) ro198 h4.r⟩ rfl ?_))))
  exact ⟨.inr ⟨by omega, _, _, rfl⟩, hf⟩
 have z15 := m14.size
 have h8 : SB w13 b8 [256] ([nm (Sb)]) := h8
 have hm := rng_fr hm m14 (by omega) (nE (by omega))
 have hG := hG.k1 m14 (by omega) (by omega)
 refine sM rfl (sE2 rfl (sA rfl (sA rfl (send ((sreg (sM rfl (sv (xneN if89 rfl) (send ((cno rfl (wp_skip (nThen (ffg 0 1 4 6 8 rfl fun _ => sreg (sM rfl (sM rfl (sc (xcall ca211 rfl) (c211 (b := b) (off := eb) (x := ka) hms hm (by omega) hnb hkm hbl hG (by omega) la (hs.left) (by omega)) ?_)))))))))))))))))
 have hf := hf.t m14 (by omega)
 have h4 := h4.keep m14 (nE (by omega))
 rintro _ w16 ⟨⟨hle44, rfl⟩ | ⟨hgt44, T44, x44, rfl⟩, m17⟩
 rotate_left
 ·
  have z62 := m17.size
  refine sM rfl (sE3 rfl (sA rfl (sA rfl (sA rfl (send ((wp_seq (sreg (sM rfl (sv (xneI if89 rfl) (send (fig 0 1 4 6 7 8 9 49 rfl fun _ => cyes rfl (sreg (sv (xbuildS [nm [], nm [], [.int .u32 0], [.int .u32 0], [.int .u32 0], [.int .u32 0], [.int .u32 0]] zr198 ly198 rfl trivial (by simp [setAll, zs198])) (sM rfl (sv (xbuildS [[_], [_]] zr168 ly168 rfl (by simp [fitAll, zs168, Value.cells]) rfl) (svK (xboxS (lens := [1, 1]) rfl (by simp [])) ?_)))))))))))))))))
  rintro _ w65 ⟨b53, rfl, m66, h53, e63, s63⟩
  have h4 := (h4.k m17).k m66
  refine sv (xmkif ni166 rfl) (suK (xstW h4 (lens' := [256, 256, 1, 1, 1, 1, 1]) sz198 (by simp [nm_length]) rfl (by simp only [fC, fN, aA, aN, nm_one, bT] <;> rfl) rfl rfl) ?_)
  rintro w68 ⟨m69, h4, s67⟩
  have hf := ((hf.s m17).s m66).t m69 (by omega)
  refine sA rfl (send (fcg 4 5 rfl fun _ => wp_ret (rThen (rp2 rfl ⟨_, rfl, ldS (lens := [256, 256, 1, 1, 1, 1, 1]) ro198 h4.r⟩ rfl ?_))))
  exact ⟨.inr ⟨by omega, _, _, rfl⟩, hf⟩
 have z18 := m17.size
 have hm := rng_fr hm m17 (by omega) id
 have hG := hG.k0 m17 (by omega)
 refine sM rfl (sE3 rfl (sA rfl (sA rfl (sA rfl (send ((wp_seq (sreg (sM rfl (sv (xneN if89 rfl) (send ((cno rfl (wp_skip (nThen (fgg 0 1 4 6 8 9 rfl fun _ => sreg (sM rfl (sM rfl (sc (xcall ca211 rfl) (c211 (b := b) (off := eb + 4) (x := kb) hms hm (by omega) hnb hkm hbl hG (by omega) lb ((hs.right' rfl).left) (by omega)) ?_)))))))))))))))))))
 have hf := hf.s m17
 have h4 := h4.k m17
 rintro _ w19 ⟨⟨hle58, rfl⟩ | ⟨hgt58, T58, x58, rfl⟩, m20⟩
 rotate_left
 ·
  have z55 := m20.size
  refine sM rfl (sE3 rfl (sA rfl (sA rfl (sA rfl (send ((wp_seq (sreg (sM rfl (sv (xneI if89 rfl) (send (fjg 0 1 4 6 7 8 9 10 63 rfl fun _ => cyes rfl (sreg (sv (xbuildS [nm [], nm [], [.int .u32 0], [.int .u32 0], [.int .u32 0], [.int .u32 0], [.int .u32 0]] zr198 ly198 rfl trivial (by simp [setAll, zs198])) (sM rfl (sv (xbuildS [[_], [_]] zr168 ly168 rfl (by simp [fitAll, zs168, Value.cells]) rfl) (svK (xboxS (lens := [1, 1]) rfl (by simp [])) ?_)))))))))))))))))
  rintro _ w57 ⟨b67, rfl, m58, h67, e56, s56⟩
  have h4 := (h4.k m20).k m58
  refine sv (xmkif ni166 rfl) (suK (xstW h4 (lens' := [256, 256, 1, 1, 1, 1, 1]) sz198 (by simp [nm_length]) rfl (by simp only [fC, fN, aA, aN, nm_one, bT] <;> rfl) rfl rfl) ?_)
  rintro w60 ⟨m61, h4, s59⟩
  have hf := ((hf.s m20).s m58).t m61 (by omega)
  refine sA rfl (send (fcg 4 5 rfl fun _ => wp_ret (rThen (rp2 rfl ⟨_, rfl, ldS (lens := [256, 256, 1, 1, 1, 1, 1]) ro198 h4.r⟩ rfl ?_))))
  exact ⟨.inr ⟨by omega, _, _, rfl⟩, hf⟩
 have z21 := m20.size
 have hm := rng_fr hm m20 (by omega) id
 have hG := hG.k0 m20 (by omega)
 refine sM rfl (sE3 rfl (sA rfl (sA rfl (sA rfl (send ((wp_seq (sreg (sM rfl (sv (xneN if89 rfl) (send ((cno rfl (wp_skip (nThen (fhg 0 1 4 6 8 9 10 rfl fun _ => sreg (sM rfl (sM rfl (sc (xcall ca211 rfl) (c211 (b := b) (off := eb + 4 + 4) (x := kc) hms hm (by omega) hnb hkm hbl hG (by omega) lc (((hs.right' rfl).right' rfl).left) (by omega)) ?_)))))))))))))))))))
 have hf := hf.s m20
 have h4 := h4.k m20
 rintro _ w22 ⟨⟨hle72, rfl⟩ | ⟨hgt72, T72, x72, rfl⟩, m23⟩
 rotate_left
 ·
  have z48 := m23.size
  refine sM rfl (sE3 rfl (sA rfl (sA rfl (sA rfl (send ((wp_seq (sreg (sM rfl (sv (xneI if89 rfl) (send (fkg 0 1 4 6 7 8 9 10 11 77 rfl fun _ => cyes rfl (sreg (sv (xbuildS [nm [], nm [], [.int .u32 0], [.int .u32 0], [.int .u32 0], [.int .u32 0], [.int .u32 0]] zr198 ly198 rfl trivial (by simp [setAll, zs198])) (sM rfl (sv (xbuildS [[_], [_]] zr168 ly168 rfl (by simp [fitAll, zs168, Value.cells]) rfl) (svK (xboxS (lens := [1, 1]) rfl (by simp [])) ?_)))))))))))))))))
  rintro _ w50 ⟨b81, rfl, m51, h81, e49, s49⟩
  have h4 := (h4.k m23).k m51
  refine sv (xmkif ni166 rfl) (suK (xstW h4 (lens' := [256, 256, 1, 1, 1, 1, 1]) sz198 (by simp [nm_length]) rfl (by simp only [fC, fN, aA, aN, nm_one, bT] <;> rfl) rfl rfl) ?_)
  rintro w53 ⟨m54, h4, s52⟩
  have hf := ((hf.s m23).s m51).t m54 (by omega)
  refine sA rfl (send (fcg 4 5 rfl fun _ => wp_ret (rThen (rp2 rfl ⟨_, rfl, ldS (lens := [256, 256, 1, 1, 1, 1, 1]) ro198 h4.r⟩ rfl ?_))))
  exact ⟨.inr ⟨by omega, _, _, rfl⟩, hf⟩
 have z24 := m23.size
 have hm := rng_fr hm m23 (by omega) id
 have hG := hG.k0 m23 (by omega)
 refine sM rfl (sE3 rfl (sA rfl (sA rfl (sA rfl (send ((wp_seq (sreg (sM rfl (sv (xneN if89 rfl) (send ((cno rfl (wp_skip (nThen (fig 0 1 4 6 8 9 10 11 rfl fun _ => sreg (sM rfl (sM rfl (sc (xcall ca211 rfl) (c211 (b := b) (off := eb + 4 + 4 + 4) (x := kd) hms hm (by omega) hnb hkm hbl hG (by omega) ld ((((hs.right' rfl).right' rfl).right' rfl).left) (by omega)) ?_)))))))))))))))))))
 have hf := hf.s m23
 have h4 := h4.k m23
 rintro _ w25 ⟨⟨hle86, rfl⟩ | ⟨hgt86, T86, x86, rfl⟩, m26⟩
 rotate_left
 ·
  have z41 := m26.size
  refine sM rfl (sE3 rfl (sA rfl (sA rfl (sA rfl (send ((wp_seq (sreg (sM rfl (sv (xneI if89 rfl) (send (flg 0 1 4 6 7 8 9 10 11 12 91 rfl fun _ => cyes rfl (sreg (sv (xbuildS [nm [], nm [], [.int .u32 0], [.int .u32 0], [.int .u32 0], [.int .u32 0], [.int .u32 0]] zr198 ly198 rfl trivial (by simp [setAll, zs198])) (sM rfl (sv (xbuildS [[_], [_]] zr168 ly168 rfl (by simp [fitAll, zs168, Value.cells]) rfl) (svK (xboxS (lens := [1, 1]) rfl (by simp [])) ?_)))))))))))))))))
  rintro _ w43 ⟨b95, rfl, m44, h95, e42, s42⟩
  have h4 := (h4.k m26).k m44
  refine sv (xmkif ni166 rfl) (suK (xstW h4 (lens' := [256, 256, 1, 1, 1, 1, 1]) sz198 (by simp [nm_length]) rfl (by simp only [fC, fN, aA, aN, nm_one, bT] <;> rfl) rfl rfl) ?_)
  rintro w46 ⟨m47, h4, s45⟩
  have hf := ((hf.s m26).s m44).t m47 (by omega)
  refine sA rfl (send (fcg 4 5 rfl fun _ => wp_ret (rThen (rp2 rfl ⟨_, rfl, ldS (lens := [256, 256, 1, 1, 1, 1, 1]) ro198 h4.r⟩ rfl ?_))))
  exact ⟨.inr ⟨by omega, _, _, rfl⟩, hf⟩
 have z27 := m26.size
 have hm := rng_fr hm m26 (by omega) id
 have hG := hG.k0 m26 (by omega)
 refine sM rfl (sE3 rfl (sA rfl (sA rfl (sA rfl (send ((wp_seq (sreg (sM rfl (sv (xneN if89 rfl) (send ((cno rfl (wp_skip (nThen (fjg 0 1 4 6 8 9 10 11 12 rfl fun _ => sreg (sM rfl (sM rfl (sc (xcall ca211 rfl) (c211 (b := b) (off := eb + 4 + 4 + 4 + 4) (x := ke) hms hm (by omega) hnb hkm hbl hG (by omega) le (((((hs.right' rfl).right' rfl).right' rfl).right' rfl)) (by omega)) ?_)))))))))))))))))))
 have hf := hf.s m26
 have h4 := h4.k m26
 rintro _ w28 ⟨⟨hle100, rfl⟩ | ⟨hgt100, T100, x100, rfl⟩, m29⟩
 ·
  have z30 := m29.size
  have h6 := ((((((h6.k m12).keep m14 (nE (by omega))).k m17).k m20).k m23).k m26).k m29
  have h8 := ((((h8.k m17).k m20).k m23).k m26).k m29
  have h4 := h4.k m29
  refine sM rfl (sE3 rfl (sA rfl (sA rfl (sA rfl (send ((wp_seq (sreg (sM rfl (sv (xneN if89 rfl) (send ((cno rfl (wp_skip (nThen (fig 4 6 8 9 10 11 12 13 rfl fun _ => sreg (sv (xldS (lens := [256]) ro82 rfl h6.r) (sv (xldS (lens := [256]) ro82 rfl h8.r) (sM rfl (sM rfl (sM rfl (sM rfl (sM rfl (sv (xbuildS [nm Sa, nm Sb, [.int .u32 (ka : Int)], [.int .u32 (kb : Int)], [.int .u32 (kc : Int)], [.int .u32 (kd : Int)], [.int .u32 (ke : Int)]] zr198 ly198 rfl (by simp [fitAll, zs198, Value.cells, nm_length]) (by simp [setAll, zs198, Value.cells])) (suK (xstW h4 (lens' := [256, 256, 1, 1, 1, 1, 1]) sz198 (by simp [nm_length]) rfl (by simp only [fC, fN, aA, aN, nm_one, bT] <;> rfl) rfl rfl) ?_)))))))))))))))))))))))))
  rintro w32 ⟨m33, h4, s31⟩
  have hf := (hf.s m29).t m33 (by omega)
  refine sA rfl (send (fcg 4 5 rfl fun _ => wp_ret (rp2 rfl ⟨_, rfl, ldS (lens := [256, 256, 1, 1, 1, 1, 1]) ro198 h4.r⟩ rfl ?_)))
  exact ⟨.inl ⟨by omega, rfl⟩, hf⟩
 have z34 := m29.size
 refine sM rfl (sE3 rfl (sA rfl (sA rfl (sA rfl (send ((wp_seq (sreg (sM rfl (sv (xneI if89 rfl) (send (fkg 4 6 7 8 9 10 11 12 13 105 rfl fun _ => cyes rfl (sreg (sv (xbuildS [nm [], nm [], [.int .u32 0], [.int .u32 0], [.int .u32 0], [.int .u32 0], [.int .u32 0]] zr198 ly198 rfl trivial (by simp [setAll, zs198])) (sM rfl (sv (xbuildS [[_], [_]] zr168 ly168 rfl (by simp [fitAll, zs168, Value.cells]) rfl) (svK (xboxS (lens := [1, 1]) rfl (by simp [])) ?_)))))))))))))))))
 rintro _ w36 ⟨b109, rfl, m37, h109, e35, s35⟩
 have h4 := (h4.k m29).k m37
 refine sv (xmkif ni166 rfl) (suK (xstW h4 (lens' := [256, 256, 1, 1, 1, 1, 1]) sz198 (by simp [nm_length]) rfl (by simp only [fC, fN, aA, aN, nm_one, bT] <;> rfl) rfl rfl) ?_)
 rintro w39 ⟨m40, h4, s38⟩
 have hf := ((hf.s m29).s m37).t m40 (by omega)
 refine sA rfl (send (fcg 4 5 rfl fun _ => wp_ret (rThen (rp2 rfl ⟨_, rfl, ldS (lens := [256, 256, 1, 1, 1, 1, 1]) ro198 h4.r⟩ rfl ?_))))
 exact ⟨.inr ⟨by omega, _, _, rfl⟩, hf⟩
theorem c200 {w : World} {a : Option Addr} {bm om km n : Nat} {b : List UInt8} (hms : n ≠ 0 → a = some ⟨bm, om, none⟩) (hm : w.rangeAt bm om (bvs (b.take n))) (hbm : bm < w.heap.size) (hnb : n ≤ b.length) (hkm : n ≤ km) (hbl : b.length < 100000000) (hG : GE w) (hsz : 21 ≤ w.heap.size) {K off e : Nat} {S : List UInt8} {ka : Nat} (la : ka < 65536) (hs : Std b off (be16 ka)) (hN : NameAt b K (off + 2) S e) (hS0 : nameL S) (hK : K ≤ 10) (hKn : K = 0 ∨ n = b.length) :
  Ret PP 200 [.slice a n km, .int .i64 (off : Int)] w (fun u w' => ((e ≤ n ∧ u = .tuple #[ag ([[.int .u16 (ka : Int)], nm S]), .nilIface]) ∨ (n < e ∧ ∃ (T : TypeId) (x : Option Addr), u = .tuple #[ag ([[.int .u16 0], nm []]), .iface T (.pointer x)])) ∧ Fr0 w w') := by
 have hNl := (show NameR b (off + 2) K (off + 2) (txt S) e from hN).le
 have hf : Fr (fun _ => False) w w := Fr.refl _ _
 refine ret_of Tryz.func200 rfl rfl rfl [(0, _), (1, _)] rfl ?_
 refine sreg (svK (xallS (lens := [1, 256]) in204 (by simp [nm_length])) ?_)
 rintro _ w2 ⟨b4, rfl, m3, h4, e1, s1⟩
 have hm := rng_fr hm m3 (by omega) id
 have hG := hG.k0 m3 (by omega)
 refine sA rfl (send (fdg 0 1 4 rfl fun _ => sreg (sM rfl (sM rfl (sc (xcall ca156 rfl) (c156 (b := b) (off := off) (x := ka) hms hm (by omega) hnb hkm hbl hG (by omega) la (hs) (by omega)) ?_)))))
 have hf := hf.s m3
 rintro _ w4 ⟨⟨hle14, rfl⟩ | ⟨hgt14, T14, x14, rfl⟩, m5⟩
 rotate_left
 ·
  have z23 := m5.size
  refine sM rfl (sE3 rfl (sA rfl (sA rfl (sA rfl (send ((wp_seq (sreg (sM rfl (sv (xneI if89 rfl) (send (fgg 0 1 4 6 7 19 rfl fun _ => cyes rfl (sreg (sv (xbuildS [[.int .u16 0], nm []] zr204 ly204 rfl trivial (by simp [setAll, zs204])) (sM rfl (sv (xbuildS [[_], [_]] zr168 ly168 rfl (by simp [fitAll, zs168, Value.cells]) rfl) (svK (xboxS (lens := [1, 1]) rfl (by simp [])) ?_)))))))))))))))))
  rintro _ w25 ⟨b23, rfl, m26, h23, e24, s24⟩
  have h4 := (h4.k m5).k m26
  refine sv (xmkif ni166 rfl) (suK (xstW h4 (lens' := [1, 256]) sz204 (by simp [nm_length]) rfl (by simp only [fC, fN, aA, aN, nm_one] <;> rfl) rfl rfl) ?_)
  rintro w28 ⟨m29, h4, s27⟩
  have hf := ((hf.s m5).s m26).t m29 (by omega)
  refine sA rfl (send (fcg 4 5 rfl fun _ => wp_ret (rThen (rp2 rfl ⟨_, rfl, ldS (lens := [1, 256]) ro204 h4.r⟩ rfl ?_))))
  exact ⟨.inr ⟨by omega, _, _, rfl⟩, hf⟩
 have z6 := m5.size
 refine sM rfl (sE3 rfl (sA rfl (sA rfl (sA rfl (send ((wp_seq (sreg (sM rfl (sv (xneN if89 rfl) (send ((cno rfl (wp_skip (nThen (feg 0 1 4 6 rfl fun _ => sreg (svK (xallS (lens := [256]) in82 (by simp [nm_length])) ?_)))))))))))))))))
 rintro _ w8 ⟨b8, rfl, m9, h8, e7, s7⟩
 have hm := rng_fr (rng_fr hm m5 (by omega) id) m9 (by omega) id
 have hG := (hG.k0 m5 (by omega)).k0 m9 (by omega)
 refine send (ffg 0 1 4 6 8 rfl fun _ => wp_seq (sreg (sM rfl (sM rfl (sc (xcall ca105 rfl) (c105 (b := b) (bp := b8) (q := 0) (ip := 0) (K := K) (off := off + 2) (e := e) (S := S) hms hm (by omega) hnb hkm hbl hG (by omega) h8 (by omega) (by omega) rfl rfl hN hS0 hK hKn) ?_)))))
 have hf := (hf.s m5).s m9
 have h4 := (h4.k m5).k m9
 rintro _ w10 ⟨⟨hle28, rfl, h8⟩ | ⟨hgt28, ⟨T28, x28, rfl⟩, o28, h8⟩, m11⟩
 ·
  have z12 := m11.size
  have h8 : SB w10 b8 [256] ([nm (S)]) := h8
  have h4 := h4.keep m11 (nE (by omega))
  refine sM rfl (sE2 rfl (sA rfl (sA rfl (send ((sreg (sM rfl (sv (xneN if89 rfl) (send ((cno rfl (wp_skip (nThen (fdg 4 6 8 rfl fun _ => sreg (sM rfl (sv (xldS (lens := [256]) ro82 rfl h8.r) (sv (xbuildS [[.int .u16 (ka : Int)], nm S] zr204 ly204 rfl (by simp [fitAll, zs204, Value.cells, nm_length]) (by simp [setAll, zs204, Value.cells])) (suK (xstW h4 (lens' := [1, 256]) sz204 (by simp [nm_length]) rfl (by simp only [fC, fN, aA, aN, nm_one] <;> rfl) rfl rfl) ?_))))))))))))))))))
  rintro w14 ⟨m15, h4, s13⟩
  have hf := (hf.t m11 (by omega)).t m15 (by omega)
  refine sA rfl (send (fcg 4 5 rfl fun _ => wp_ret (rp2 rfl ⟨_, rfl, ldS (lens := [1, 256]) ro204 h4.r⟩ rfl ?_)))
  exact ⟨.inl ⟨by omega, rfl⟩, hf⟩
 have z16 := m11.size
 refine sM rfl (sE2 rfl (sA rfl (sA rfl (send ((sreg (sM rfl (sv (xneI if89 rfl) (send (ffg 4 6 8 10 32 rfl fun _ => cyes rfl (sreg (sv (xbuildS [[.int .u16 0], nm []] zr204 ly204 rfl trivial (by simp [setAll, zs204])) (sM rfl (sv (xbuildS [[_], [_]] zr168 ly168 rfl (by simp [fitAll, zs168, Value.cells]) rfl) (svK (xboxS (lens := [1, 1]) rfl (by simp [])) ?_)))))))))))))))
 rintro _ w18 ⟨b36, rfl, m19, h36, e17, s17⟩
 have h4 := (h4.keep m11 (nE (by omega))).k m19
 refine sv (xmkif ni166 rfl) (suK (xstW h4 (lens' := [1, 256]) sz204 (by simp [nm_length]) rfl (by simp only [fC, fN, aA, aN, nm_one] <;> rfl) rfl rfl) ?_)
 rintro w21 ⟨m22, h4, s20⟩
 have hf := ((hf.t m11 (by omega)).s m19).t m22 (by omega)
 refine sA rfl (send (fcg 4 5 rfl fun _ => wp_ret (rThen (rp2 rfl ⟨_, rfl, ldS (lens := [1, 256]) ro204 h4.r⟩ rfl ?_))))
 exact ⟨.inr ⟨by omega, _, _, rfl⟩, hf⟩
theorem c203 {w : World} {a : Option Addr} {bm om km n : Nat} {b : List UInt8} (hms : n ≠ 0 → a = some ⟨bm, om, none⟩) (hm : w.rangeAt bm om (bvs (b.take n))) (hbm : bm < w.heap.size) (hnb : n ≤ b.length) (hkm : n ≤ km) (hbl : b.length < 100000000) (hG : GE w) (hsz : 21 ≤ w.heap.size) {K off e : Nat} {S : List UInt8} {ka kb kc : Nat} (la : ka < 65536) (lb : kb < 65536) (lc : kc < 65536) (hs : Std b off (be16 ka ++ (be16 kb ++ be16 kc))) (hN : NameAt b K (off + 2 + 2 + 2) S e) (hS0 : nameL S) (hK : K ≤ 10) (hKn : K = 0 ∨ n = b.length) :
  Ret PP 203 [.slice a n km, .int .i64 (off : Int)] w (fun u w' => ((e ≤ n ∧ u = .tuple #[ag ([[.int .u16 (ka : Int)], [.int .u16 (kb : Int)], [.int .u16 (kc : Int)], nm S]), .nilIface]) ∨ (n < e ∧ ∃ (T : TypeId) (x : Option Addr), u = .tuple #[ag ([[.int .u16 0], [.int .u16 0], [.int .u16 0], nm []]), .iface T (.pointer x)])) ∧ Fr0 w w') := by
 have hNl := (show NameR b (off + 2 + 2 + 2) K (off + 2 + 2 + 2) (txt S) e from hN).le
 have hf : Fr (fun _ => False) w w := Fr.refl _ _
 refine ret_of Tryz.func203 rfl rfl rfl [(0, _), (1, _)] rfl ?_
 refine sreg (svK (xallS (lens := [1, 1, 1, 256]) in214 (by simp [nm_length])) ?_)
 rintro _ w2 ⟨b4, rfl, m3, h4, e1, s1⟩
 have hm := rng_fr hm m3 (by omega) id
 have hG := hG.k0 m3 (by omega)
 refine sA rfl (send (fdg 0 1 4 rfl fun _ => sreg (sM rfl (sM rfl (sc (xcall ca156 rfl) (c156 (b := b) (off := off) (x := ka) hms hm (by omega) hnb hkm hbl hG (by omega) la (hs.left) (by omega)) ?_)))))
 have hf := hf.s m3
 rintro _ w4 ⟨⟨hle16, rfl⟩ | ⟨hgt16, T16, x16, rfl⟩, m5⟩
 rotate_left
 ·
  have z43 := m5.size
  refine sM rfl (sE3 rfl (sA rfl (sA rfl (sA rfl (send ((wp_seq (sreg (sM rfl (sv (xneI if89 rfl) (send (fgg 0 1 4 6 7 21 rfl fun _ => cyes rfl (sreg (sv (xbuildS [[.int .u16 0], [.int .u16 0], [.int .u16 0], nm []] zr214 ly214 rfl trivial (by simp [setAll, zs214])) (sM rfl (sv (xbuildS [[_], [_]] zr168 ly168 rfl (by simp [fitAll, zs168, Value.cells]) rfl) (svK (xboxS (lens := [1, 1]) rfl (by simp [])) ?_)))))))))))))))))
  rintro _ w45 ⟨b25, rfl, m46, h25, e44, s44⟩
  have h4 := (h4.k m5).k m46
  refine sv (xmkif ni166 rfl) (suK (xstW h4 (lens' := [1, 1, 1, 256]) sz214 (by simp [nm_length]) rfl (by simp only [fC, fN, aA, aN, nm_one] <;> rfl) rfl rfl) ?_)
  rintro w48 ⟨m49, h4, s47⟩
  have hf := ((hf.s m5).s m46).t m49 (by omega)
  refine sA rfl (send (fcg 4 5 rfl fun _ => wp_ret (rThen (rp2 rfl ⟨_, rfl, ldS (lens := [1, 1, 1, 256]) ro214 h4.r⟩ rfl ?_))))
  exact ⟨.inr ⟨by omega, _, _, rfl⟩, hf⟩
 have z6 := m5.size
 have hm := rng_fr hm m5 (by omega) id
 have hG := hG.k0 m5 (by omega)
 refine sM rfl (sE3 rfl (sA rfl (sA rfl (sA rfl (send ((wp_seq (sreg (sM rfl (sv (xneN if89 rfl) (send ((cno rfl (wp_skip (nThen (feg 0 1 4 6 rfl fun _ => sreg (sM rfl (sM rfl (sc (xcall ca156 rfl) (c156 (b := b) (off := off + 2) (x := kb) hms hm (by omega) hnb hkm hbl hG (by omega) lb ((hs.right' rfl).left) (by omega)) ?_)))))))))))))))))))
 have hf := hf.s m5
 have h4 := h4.k m5
 rintro _ w7 ⟨⟨hle30, rfl⟩ | ⟨hgt30, T30, x30, rfl⟩, m8⟩
 rotate_left
 ·
  have z36 := m8.size
  refine sM rfl (sE3 rfl (sA rfl (sA rfl (sA rfl (send ((wp_seq (sreg (sM rfl (sv (xneI if89 rfl) (send (fhg 0 1 4 6 7 8 35 rfl fun _ => cyes rfl (sreg (sv (xbuildS [[.int .u16 0], [.int .u16 0], [.int .u16 0], nm []] zr214 ly214 rfl trivial (by simp [setAll, zs214])) (sM rfl (sv (xbuildS [[_], [_]] zr168 ly168 rfl (by simp [fitAll, zs168, Value.cells]) rfl) (svK (xboxS (lens := [1, 1]) rfl (by simp [])) ?_)))))))))))))))))
  rintro _ w38 ⟨b39, rfl, m39, h39, e37, s37⟩
  have h4 := (h4.k m8).k m39
  refine sv (xmkif ni166 rfl) (suK (xstW h4 (lens' := [1, 1, 1, 256]) sz214 (by simp [nm_length]) rfl (by simp only [fC, fN, aA, aN, nm_one] <;> rfl) rfl rfl) ?_)
  rintro w41 ⟨m42, h4, s40⟩
  have hf := ((hf.s m8).s m39).t m42 (by omega)
  refine sA rfl (send (fcg 4 5 rfl fun _ => wp_ret (rThen (rp2 rfl ⟨_, rfl, ldS (lens := [1, 1, 1, 256]) ro214 h4.r⟩ rfl ?_))))
  exact ⟨.inr ⟨by omega, _, _, rfl⟩, hf⟩
 have z9 := m8.size
 have hm := rng_fr hm m8 (by omega) id
 have hG := hG.k0 m8 (by omega)
 refine sM rfl (sE3 rfl (sA rfl (sA rfl (sA rfl (send ((wp_seq (sreg (sM rfl (sv (xneN if89 rfl) (send ((cno rfl (wp_skip (nThen (ffg 0 1 4 6 8 rfl fun _ => sreg (sM rfl (sM rfl (sc (xcall ca156 rfl) (c156 (b := b) (off := off + 2 + 2) (x := kc) hms hm (by omega) hnb hkm hbl hG (by omega) lc ((hs.right' rfl).right' rfl) (by omega)) ?_)))))))))))))))))))
 have hf := hf.s m8
 have h4 := h4.k m8
 rintro _ w10 ⟨⟨hle44, rfl⟩ | ⟨hgt44, T44, x44, rfl⟩, m11⟩
 rotate_left
 ·
  have z29 := m11.size
  refine sM rfl (sE3 rfl (sA rfl (sA rfl (sA rfl (send ((wp_seq (sreg (sM rfl (sv (xneI if89 rfl) (send (fig 0 1 4 6 7 8 9 49 rfl fun _ => cyes rfl (sreg (sv (xbuildS [[.int .u16 0], [.int .u16 0], [.int .u16 0], nm []] zr214 ly214 rfl trivial (by simp [setAll, zs214])) (sM rfl (sv (xbuildS [[_], [_]] zr168 ly168 rfl (by simp [fitAll, zs168, Value.cells]) rfl) (svK (xboxS (lens := [1, 1]) rfl (by simp [])) ?_)))))))))))))))))
  rintro _ w31 ⟨b53, rfl, m32, h53, e30, s30⟩
  have h4 := (h4.k m11).k m32
  refine sv (xmkif ni166 rfl) (suK (xstW h4 (lens' := [1, 1, 1, 256]) sz214 (by simp [nm_length]) rfl (by simp only [fC, fN, aA, aN, nm_one] <;> rfl) rfl rfl) ?_)
  rintro w34 ⟨m35, h4, s33⟩
  have hf := ((hf.s m11).s m32).t m35 (by omega)
  refine sA rfl (send (fcg 4 5 rfl fun _ => wp_ret (rThen (rp2 rfl ⟨_, rfl, ldS (lens := [1, 1, 1, 256]) ro214 h4.r⟩ rfl ?_))))
  exact ⟨.inr ⟨by omega, _, _, rfl⟩, hf⟩
 have z12 := m11.size
 refine sM rfl (sE3 rfl (sA rfl (sA rfl (sA rfl (send ((wp_seq (sreg (sM rfl (sv (xneN if89 rfl) (send ((cno rfl (wp_skip (nThen (fgg 0 1 4 6 8 9 rfl fun _ => sreg (svK (xallS (lens := [256]) in82 (by simp [nm_length])) ?_)))))))))))))))))
 rintro _ w14 ⟨b10, rfl, m15, h10, e13, s13⟩
 have hm := rng_fr (rng_fr hm m11 (by omega) id) m15 (by omega) id
 have hG := (hG.k0 m11 (by omega)).k0 m15 (by omega)
 refine send (fhg 0 1 4 6 8 9 10 rfl fun _ => wp_seq (sreg (sM rfl (sM rfl (sc (xcall ca105 rfl) (c105 (b := b) (bp := b10) (q := 0) (ip := 0) (K := K) (off := off + 2 + 2 + 2) (e := e) (S := S) hms hm (by omega) hnb hkm hbl hG (by omega) h10 (by omega) (by omega) rfl rfl hN hS0 hK hKn) ?_)))))
 have hf := (hf.s m11).s m15
 have h4 := (h4.k m11).k m15
 rintro _ w16 ⟨⟨hle58, rfl, h10⟩ | ⟨hgt58, ⟨T58, x58, rfl⟩, o58, h10⟩, m17⟩
 ·
  have z18 := m17.size
  have h10 : SB w16 b10 [256] ([nm (S)]) := h10
  have h4 := h4.keep m17 (nE (by omega))
  refine sM rfl (sE2 rfl (sA rfl (sA rfl (send ((sreg (sM rfl (sv (xneN if89 rfl) (send ((cno rfl (wp_skip (nThen (ffg 4 6 8 9 10 rfl fun _ => sreg (sM rfl (sM rfl (sM rfl (sv (xldS (lens := [256]) ro82 rfl h10.r) (sv (xbuildS [[.int .u16 (ka : Int)], [.int .u16 (kb : Int)], [.int .u16 (kc : Int)], nm S] zr214 ly214 rfl (by simp [fitAll, zs214, Value.cells, nm_length]) (by simp [setAll, zs214, Value.cells])) (suK (xstW h4 (lens' := [1, 1, 1, 256]) sz214 (by simp [nm_length]) rfl (by simp only [fC, fN, aA, aN, nm_one] <;> rfl) rfl rfl) ?_))))))))))))))))))))
  rintro w20 ⟨m21, h4, s19⟩
  have hf := (hf.t m17 (by omega)).t m21 (by omega)
  refine sA rfl (send (fcg 4 5 rfl fun _ => wp_ret (rp2 rfl ⟨_, rfl, ldS (lens := [1, 1, 1, 256]) ro214 h4.r⟩ rfl ?_)))
  exact ⟨.inl ⟨by omega, rfl⟩, hf⟩
 have z22 := m17.size
 refine sM rfl (sE2 rfl (sA rfl (sA rfl (send ((sreg (sM rfl (sv (xneI if89 rfl) (send (fhg 4 6 8 9 10 12 62 rfl fun _ => cyes rfl (sreg (sv (xbuildS [[.int .u16 0], [.int .u16 0], [.int .u16 0], nm []] zr214 ly214 rfl trivial (by simp [setAll, zs214])) (sM rfl (sv (xbuildS [[_], [_]] zr168 ly168 rfl (by simp [fitAll, zs168, Value.cells]) rfl) (svK (xboxS (lens := [1, 1]) rfl (by simp [])) ?_)))))))))))))))
 rintro _ w24 ⟨b66, rfl, m25, h66, e23, s23⟩
 have h4 := (h4.keep m17 (nE (by omega))).k m25
 refine sv (xmkif ni166 rfl) (suK (xstW h4 (lens' := [1, 1, 1, 256]) sz214 (by simp [nm_length]) rfl (by simp only [fC, fN, aA, aN, nm_one] <;> rfl) rfl rfl) ?_)
 rintro w27 ⟨m28, h4, s26⟩
 have hf := ((hf.t m17 (by omega)).s m25).t m28 (by omega)
 refine sA rfl (send (fcg 4 5 rfl fun _ => wp_ret (rThen (rp2 rfl ⟨_, rfl, ldS (lens := [1, 1, 1, 256]) ro214 h4.r⟩ rfl ?_))))
 exact ⟨.inr ⟨by omega, _, _, rfl⟩, hf⟩
end Go.Proofs.YtifnodoffgfpbaaGreatDoor

namespace Go.Proofs.YtifnodoffgfpbaaGreatDoor
open Go

def cntI (q y2 y3 y4 y5 : Int) : Int := if q = 2 then y2 else if q = 3 then y3 else if q = 4 then y4 else if q = 5 then y5 else 0

theorem c157 {w : World} {bp : Nat} {vm : Value} {y0 y1 y2 y3 y4 y5 sec po idx ho ty ln : Int} {val : Bool} {q : Int} (hP : SB w bp lPr (prSegs vm y0 y1 y2 y3 y4 y5 sec po idx val ho ty ln))  :
  Ret PP 157 [.pointer (some ⟨bp, 0 + 1, none⟩), .int .u8 q] w (fun u w' => u = .int .u16 (cntI q y2 y3 y4 y5) ∧ Fr0 w w') := by
 have hf : Fr (fun _ => False) w w := Fr.refl _ _
 have z_hP := hP.lt
 refine ret_of Tryz.func157 rfl rfl rfl [(0, _), (1, _)] rfl ?_
 refine sreg (sA rfl (send ((wp_seq (sreg (sM rfl (send (fcg 0 5 rfl fun _ => wp_block (sreg (svP (xeql rfl rfl) (fun hc7 => ?_) (fun hc7 => ?_)))))))))))
 ·
  refine sA rfl (send ((cyes rfl (sreg (sM rfl (sN rfl (sv (xfld fl121_2 rfl) (sv (xld on22 rfl (hP.r.c 3 rfl rfl)) (sA rfl (send (fbg 4 rfl fun _ => wp_ret (rBlock (rThen (rp1 rfl rfl ?_))))))))))))))
  exact ⟨by rw [cntI, if_pos hc7], hf⟩
 refine sA rfl (send (fdg 0 5 6 rfl fun _ => cno rfl (sreg (svP (xeql rfl rfl) (fun hc13 => ?_) (fun hc13 => ?_)))))
 ·
  refine sA rfl (send ((cyes rfl (sreg (sM rfl (sN rfl (sv (xfld fl121_3 rfl) (sv (xld on22 rfl (hP.r.c 4 rfl rfl)) (sA rfl (send (fbg 4 rfl fun _ => wp_ret (rBlock (rThen (rp1 rfl rfl ?_))))))))))))))
  exact ⟨by rw [cntI, if_neg hc7, if_pos hc13], hf⟩
 refine sA rfl (send (fdg 0 5 12 rfl fun _ => cno rfl (sreg (svP (xeql rfl rfl) (fun hc19 => ?_) (fun hc19 => ?_)))))
 ·
  refine sA rfl (send ((cyes rfl (sreg (sM rfl (sN rfl (sv (xfld fl121_4 rfl) (sv (xld on22 rfl (hP.r.c 5 rfl rfl)) (sA rfl (send (fbg 4 rfl fun _ => wp_ret (rBlock (rThen (rp1 rfl rfl ?_))))))))))))))
  exact ⟨by rw [cntI, if_neg hc7, if_neg hc13, if_pos hc19], hf⟩
 refine sA rfl (send (fdg 0 5 18 rfl fun _ => cno rfl (sreg (svP (xeql rfl rfl) (fun hc25 => ?_) (fun hc25 => ?_)))))
 ·
  refine sA rfl (send ((cyes rfl (sreg (sM rfl (sN rfl (sv (xfld fl121_5 rfl) (sv (xld on22 rfl (hP.r.c 6 rfl rfl)) (sA rfl (send (fbg 4 rfl fun _ => wp_ret (rBlock (rThen (rp1 rfl rfl ?_))))))))))))))
  exact ⟨by rw [cntI, if_neg hc7, if_neg hc13, if_neg hc19, if_pos hc25], hf⟩
 refine sA rfl (send ((cno rfl (wp_skip (nBlock (nThen (fg [] trivial fun _ => sreg (sA rfl (send (fbg 4 rfl fun _ => wp_ret (rp1 rfl rfl ?_)))))))))))
 exact ⟨by rw [cntI, if_neg hc7, if_neg hc13, if_neg hc19, if_neg hc25], hf⟩
theorem c104 {w : World} {bp : Nat} {vm : Value} {y0 y1 y2 y3 y4 y5 sec po idx ho ty ln : Int} {val : Bool} {q : Int} (hP : SB w bp lPr (prSegs vm y0 y1 y2 y3 y4 y5 sec po idx val ho ty ln)) {Tz : TypeId} {xz : Option Addr} (hg0 : w.rangeAt 0 0 [.iface Tz (.pointer xz)]) (hG : GE w) (hsz : 21 ≤ w.heap.size) (hgp : 20 < bp) (hs0 : 0 ≤ sec) (hs1 : sec ≤ 6) (hq0 : 0 ≤ cntI q y2 y3 y4 y5) (hq1 : cntI q y2 y3 y4 y5 < 65536) :
  Ret PP 104 [.pointer (some ⟨bp, 0, none⟩), .int .u8 q] w (fun u w' => ((sec < q ∧ (∃ (T : TypeId) (x : Option Addr), u = .iface T (.pointer x)) ∧ SB w' bp lPr (prSegs vm y0 y1 y2 y3 y4 y5 sec po idx val ho ty ln)) ∨ (q < sec ∧ u = .iface Tz (.pointer xz) ∧ SB w' bp lPr (prSegs vm y0 y1 y2 y3 y4 y5 sec po idx val ho ty ln)) ∨ (sec = q ∧ idx = cntI q y2 y3 y4 y5 ∧ u = .iface Tz (.pointer xz) ∧ SB w' bp lPr (prSegs vm y0 y1 y2 y3 y4 y5 (sec + 1) po 0 false ho ty ln)) ∨ (sec = q ∧ idx ≠ cntI q y2 y3 y4 y5 ∧ u = .nilIface ∧ SB w' bp lPr (prSegs vm y0 y1 y2 y3 y4 y5 sec po idx false ho ty ln))) ∧ Fr (fun k => k = bp) w w') := by
 have hf : Fr (fun k => k = bp) w w := Fr.refl _ _
 have z_hP := hP.lt
 refine ret_of Tryz.func104 rfl rfl rfl [(0, _), (1, _)] rfl ?_
 refine sreg (sA rfl (send (fcg 0 1 rfl fun _ => wp_seq (sreg (sM rfl (sN rfl (sv (xfld fl124_2 rfl) (sv (xld on122 rfl (hP.r.c 7 rfl rfl)) (sM rfl (svP (xlss rfl rfl) (fun hc10 => ?_) (fun hc10 => ?_)))))))))))
 ·
  refine send (fdg 0 1 10 rfl fun _ => cyes rfl (sreg ?_))
  obtain ⟨Tg11, xg11, eg11, hgc11, hgn11, hge11⟩ := hG.get 5 (by omega) (by omega)
  refine sv (xld on89 rfl hgc11) (sA rfl (send (fbg 4 rfl fun _ => wp_ret (rThen (rp1 rfl rfl ?_)))))
  exact ⟨.inl ⟨by omega, ⟨_, _, rfl⟩, hP⟩, hf⟩
 refine send ((cno rfl (wp_skip (nThen (fcg 0 1 rfl fun _ => wp_seq (sreg (sM rfl (sN rfl (sv (xfld fl124_2 rfl) (sv (xld on122 rfl (hP.r.c 7 rfl rfl)) (sM rfl (svP (xgtr rfl rfl) (fun hc17 => ?_) (fun hc17 => ?_)))))))))))))
 ·
  refine send ((cyes rfl (sreg (sv (xld on89 rfl (hg0 0 _ rfl)) (sA rfl (send (fbg 4 rfl fun _ => wp_ret (rThen (rp1 rfl rfl ?_)))))))))
  exact ⟨.inr (.inl ⟨by omega, rfl, hP⟩), hf⟩
 refine send ((cno rfl (wp_skip (nThen (fcg 0 1 rfl fun _ => sreg (sM rfl (sN rfl (sv (xfld fl124_5 rfl) (suK (xstF 10 sz4 hP rfl rfl rfl rfl rfl) ?_)))))))))
 rintro w2 ⟨m3, hP, s1⟩
 refine send (fcg 0 1 rfl fun _ => wp_seq ?_)
 refine sdrawH (Fr (fun _ => False) w2.drew) [rd0, rd1, rd2, rd3, rd4, rd5, rd6, rd7, ld8, rd9, rd10] mixed (by kernel_rfl) (fun _ _ _ _ _ h => h) ?_
 have z4 : w2.drew.heap.size = w2.heap.size := rfl
 have hP := hP.drew
 have zb_hP := hP
 have hS5 : Fr (fun _ => False) w2.drew w2.drew := Fr.refl _ _
 refine qqM rfl rfl hS5 (qqN rfl rfl hS5 (hvH rfl (fun _ _ => xfld fl124_4 rfl) hS5 (hvH rfl (fun w' hS => xld on3 rfl ((zb_hP.k hS).r.c 9 rfl rfl)) hS5 (qqM rfl rfl hS5 (qqN rfl rfl hS5 (hvH rfl (fun _ _ => xfld fl124_1 rfl) hS5 (qqM rfl rfl hS5 ?_)))))))
 refine hcH rfl (xcall ca157 rfl) (c157 (q := q) hP) ?_
 rintro _ w6 ⟨rfl, m7⟩
 have z8 := m7.size
 have hS9 := hS5.s m7
 have hf := ((hf.step m3 nI).drew).s m7
 have hP := hP.k m7
 refine ⟨hS9, ?_⟩
 refine hvH rfl (fun _ _ => xconv hs22 ki3 rfl (w64 (by omega) (by omega))) hS9 ?_
 refine hvPH rfl (fun _ _ => xeql rfl rfl) hS9 (fun hc32 => ?_) (fun hc32 => ?_)
 ·
  refine hendH (fcg 0 32 rfl fun _ => cyes rfl (sreg (sM rfl (sN rfl (sv (xfld fl124_4 rfl) (suK (xstF 9 sz3 hP rfl rfl rfl rfl rfl) ?_))))))
  rintro w11 ⟨m12, hP, s10⟩
  refine send (fbg 0 rfl fun _ => sreg (sM rfl (sN rfl (sv (xfld fl124_2 rfl) (sv (xld on122 rfl (hP.r.c 7 rfl rfl)) (sv (xadd rfl rfl (wu8 (by omega) (by omega))) (sN rfl (sv (xfld fl124_2 rfl) (suK (xstF 7 sz122 hP rfl rfl rfl rfl rfl) ?_)))))))))
  rintro w14 ⟨m15, hP, s13⟩
  have hg0 := rng_fr (rng_fr (rng_fr (rng_fr (rng_fr hg0 m3 (by omega) (nE (by omega))) (fd w2) (by omega) id) m7 (by omega) id) m12 (by omega) (nE (by omega))) m15 (by omega) (nE (by omega))
  have hf := (hf.step m12 nI).step m15 nI
  refine send (fg [] trivial fun _ => sreg (sv (xld on89 rfl (hg0 0 _ rfl)) (sA rfl (send (fbg 4 rfl fun _ => wp_ret (rThen (rp1 rfl rfl ?_)))))))
  exact ⟨.inr (.inr (.inl ⟨by omega, hc32, rfl, hP⟩)), hf⟩
 refine hendH ((cno rfl (wp_skip (nThen (fg [] trivial fun _ => sreg (sA rfl (send (fbg 4 rfl fun _ => wp_ret (rp1 rfl rfl ?_)))))))))
 exact ⟨.inr (.inr (.inr ⟨by omega, hc32, rfl, hP⟩)), hf⟩
end Go.Proofs.YtifnodoffgfpbaaGreatDoor

namespace Go.Proofs.YtifnodoffgfpbaaGreatDoor
open Go

theorem c158d {w : World} {bp : Nat} {vm : Value} {y0 y1 y2 y3 y4 y5 po idx ho ty ln : Int} {q : Int} (hP : SB w bp lPr (prSegs vm y0 y1 y2 y3 y4 y5 q po idx false ho ty ln)) {Tz : TypeId} {xz : Option Addr} (hg0 : w.rangeAt 0 0 [.iface Tz (.pointer xz)]) (hG : GE w) (hsz : 21 ≤ w.heap.size) (hgp : 20 < bp) (hs0 : 0 ≤ q) (hs1 : q ≤ 6) (hq0 : 0 ≤ cntI q y2 y3 y4 y5) (hq1 : cntI q y2 y3 y4 y5 < 65536) (hie : idx = cntI q y2 y3 y4 y5)  :
  Ret PP 158 [.pointer (some ⟨bp, 0, none⟩), .int .u8 q] w (fun u w' => (u = .tuple #[ag ([nm [], [.int .u16 0], [.int .u16 0], [.int .u32 0], [.int .u16 0]]), .iface Tz (.pointer xz)] ∧ SB w' bp lPr (prSegs vm y0 y1 y2 y3 y4 y5 (q + 1) po 0 false ho ty ln)) ∧ Fr (fun k => k = bp) w w') := by
 have hf : Fr (fun k => k = bp) w w := Fr.refl _ _
 have z_hP := hP.lt
 refine ret_of Tryz.func158 rfl rfl rfl [(0, _), (1, _)] rfl ?_
 refine sreg (svK (xallS (lens := [256, 1, 1, 1, 1]) in135 (by simp [nm_length])) ?_)
 rintro _ w2 ⟨b4, rfl, m3, h4, e1, s1⟩
 have hP := hP.k m3
 have hg0 := rng_fr hg0 m3 (by omega) id
 have hG := hG.k0 m3 (by omega)
 refine sA rfl (send ((wp_seq (sreg (sM rfl (sN rfl (sv (xfld fl124_5 rfl) (sv (xld on4 rfl (hP.r.c 10 rfl rfl)) (send ((cno rfl (wp_skip (nThen (fdg 0 1 4 rfl fun _ => wp_seq (sreg (sM rfl (sM rfl (sc (xcall ca104 rfl) (c104 (q := q) hP hg0 hG (by omega) hgp hs0 hs1 hq0 hq1) ?_))))))))))))))))))
 rintro _ w4 ⟨⟨hlt, _⟩ | ⟨hlt, _⟩ | ⟨-, hix, rfl, hP⟩ | ⟨-, hix, rfl, hP⟩, m5⟩
 · omega
 · omega
 ·
  have z6 := m5.size
  have h4 := h4.keep m5 (nE (by omega))
  refine sA rfl (send ((sreg (sM rfl (sv (xneI if89 rfl) (send (feg 0 4 6 25 rfl fun _ => cyes rfl (sreg (sv (xbuildS [nm [], [.int .u16 0], [.int .u16 0], [.int .u32 0], [.int .u16 0]] zr135 ly135 rfl trivial (by simp [setAll, zs135])) (sM rfl (suK (xstW h4 (lens' := [256, 1, 1, 1, 1]) sz135 (by simp [nm_length]) rfl (by simp only [fC, fN, aA, aN, nm_one, bT] <;> rfl) rfl rfl) ?_)))))))))))
  rintro w8 ⟨m9, h4, s7⟩
  have hf := ((hf.s m3).step m5 nI).t m9 (by omega)
  have hP := hP.keep m9 (nE (by omega))
  refine sA rfl (send (fcg 4 5 rfl fun _ => wp_ret (rThen (rp2 rfl ⟨_, rfl, ldS (lens := [256, 1, 1, 1, 1]) ro135 h4.r⟩ rfl ?_))))
  exact ⟨⟨rfl, hP⟩, hf⟩
 exact absurd hie hix
theorem c158g {w : World} {a : Option Addr} {bm om km n : Nat} {b : List UInt8} (hms : n ≠ 0 → a = some ⟨bm, om, none⟩) (hm : w.rangeAt bm om (bvs (b.take n))) (hbm : bm < w.heap.size) (hnb : n ≤ b.length) (hkm : n ≤ km) (hbl : b.length < 100000000) {bp : Nat} {y0 y1 y2 y3 y4 y5 idx ho ty ln : Int} {q : Int} {K off e : Nat} {S : List UInt8} {ka kb kc kd : Nat} (hP : SB w bp lPr (prSegs (.slice a n km) y0 y1 y2 y3 y4 y5 q (off : Int) idx false ho ty ln)) {Tz : TypeId} {xz : Option Addr} (hg0 : w.rangeAt 0 0 [.iface Tz (.pointer xz)]) (hG : GE w) (hsz : 21 ≤ w.heap.size) (hgp : 20 < bp) (hs0 : 0 ≤ q) (hs1 : q ≤ 6) (hq0 : 0 ≤ cntI q y2 y3 y4 y5) (hq1 : cntI q y2 y3 y4 y5 < 65536) (hbp : bp ≠ bm) (hne : idx ≠ cntI q y2 y3 y4 y5) (hN : NameAt b K off S e) (hS0 : nameL S) (hK : K ≤ 10) (hKn : K = 0 ∨ n = b.length) (la : ka < 65536) (lb : kb < 65536) (lc : kc < 4294967296) (ld : kd < 65536) (ha : Std b e (be16 ka)) (hb : Std b (e + 2) (be16 kb)) (hc : Std b (e + 2 + 2) (be32 kc)) (hd : Std b (e + 2 + 2 + 4) (be16 kd)) (hel : e + 10 ≤ b.length)  :
  Ret PP 158 [.pointer (some ⟨bp, 0, none⟩), .int .u8 q] w (fun u w' => ((e + 10 ≤ n ∧ u = .tuple #[ag ([nm S, [.int .u16 (ka : Int)], [.int .u16 (kb : Int)], [.int .u32 (kc : Int)], [.int .u16 (kd : Int)]]), .nilIface] ∧ SB w' bp lPr (prSegs (.slice a n km) y0 y1 y2 y3 y4 y5 q ((e + 2 + 2 + 4 + 2 : Nat) : Int) idx true (off : Int) (ka : Int) (kd : Int))) ∨ (n < e + 10 ∧ ∃ (x : Option Addr), u = .tuple #[ag ([nm [], [.int .u16 0], [.int .u16 0], [.int .u32 0], [.int .u16 0]]), .iface 166 (.pointer x)])) ∧ Fr (fun k => k = bp) w w') := by
 have hf : Fr (fun k => k = bp) w w := Fr.refl _ _
 have z_hP := hP.lt
 refine ret_of Tryz.func158 rfl rfl rfl [(0, _), (1, _)] rfl ?_
 refine sreg (svK (xallS (lens := [256, 1, 1, 1, 1]) in135 (by simp [nm_length])) ?_)
 rintro _ w2 ⟨b4, rfl, m3, h4, e1, s1⟩
 have hP := hP.k m3
 have hg0 := rng_fr hg0 m3 (by omega) id
 have hG := hG.k0 m3 (by omega)
 refine sA rfl (send ((wp_seq (sreg (sM rfl (sN rfl (sv (xfld fl124_5 rfl) (sv (xld on4 rfl (hP.r.c 10 rfl rfl)) (send ((cno rfl (wp_skip (nThen (fdg 0 1 4 rfl fun _ => wp_seq (sreg (sM rfl (sM rfl (sc (xcall ca104 rfl) (c104 (q := q) hP hg0 hG (by omega) hgp hs0 hs1 hq0 hq1) ?_))))))))))))))))))
 rintro _ w4 ⟨⟨hlt, _⟩ | ⟨hlt, _⟩ | ⟨-, hix, rfl, hP⟩ | ⟨-, hix, rfl, hP⟩, m5⟩
 · omega
 · omega
 · exact absurd hix hne
 have z6 := m5.size
 refine sA rfl (send ((sreg (sM rfl (sv (xneN if89 rfl) (send ((cno rfl (wp_skip (nThen (fcg 0 4 rfl fun _ => sreg (svK (xallS (lens := [256, 1, 1, 1, 1]) in135 (by simp [nm_length])) ?_))))))))))))
 rintro _ w8 ⟨b7, rfl, m9, h7, e7, s7⟩
 refine send (fdg 0 4 7 rfl fun _ => ?_)
 refine sdrawH (Fr (fun k => k = b7) w8.drew) [rd0, rd1, rd2, rd3, rd4, rd5, rd6, rd7, ld8, rd9, rd10, rd11, rd12, rd13] mixed (by kernel_rfl) (fun _ _ _ _ _ h => h) ?_
 have z10 : w8.drew.heap.size = w8.heap.size := rfl
 have hP := (hP.k m9).drew
 have zb_hP := hP
 have hS11 : Fr (fun k => k = b7) w8.drew w8.drew := Fr.refl _ _
 have hm := rng_fr (rng_fr (rng_fr (rng_fr hm m3 (by omega) id) m5 (by omega) (nE (by omega))) m9 (by omega) id) (fd w8) (by omega) id
 have hG := ((hG.k1 m5 (by omega) (by omega)).k0 m9 (by omega)).k0 (fd w8) (by omega)
 have h7 := h7.drew
 refine qqM rfl rfl hS11 (qqN rfl rfl hS11 (hvH rfl (fun _ _ => xfld fl124_0 rfl) hS11 (hvH rfl (fun w' hS => xld on37 rfl ((zb_hP.keep hS (nE (by omega))).r.c 0 rfl rfl)) hS11 (qqM rfl rfl hS11 (qqN rfl rfl hS11 (hvH rfl (fun _ _ => xfld fl124_3 rfl) hS11 (hvH rfl (fun w' hS => xld on3 rfl ((zb_hP.keep hS (nE (by omega))).r.c 8 rfl rfl)) hS11 ?_)))))))
 refine hcH rfl (xcall ca194 rfl) (c194 (b := b) (bp := b7) (K := K) (off := off) (e := e) (S := S) hms hm (by omega) hnb hkm hbl hG (by omega) h7 (by omega) (by omega) hN hS0 hK hKn la lb lc ld ha hb hc hd hel) ?_
 have hf := (((hf.s m3).step m5 nI).s m9).drew
 have h4 := ((h4.keep m5 (nE (by omega))).k m9).drew
 rintro _ w12 ⟨⟨hle37, rfl, h7⟩ | ⟨hgt37, x37, rfl⟩, m13⟩
 rotate_left
 ·
  have z34 := m13.size
  have hS35 := hS11.step m13 nI
  have h4 := h4.keep m13 (nE (by omega))
  refine ⟨hS35, ?_⟩
  refine qqM rfl rfl hS35 (hvH rfl (fun _ _ => xex20 rfl) hS35 (hvH rfl (fun _ _ => xex21 rfl) hS35 (qqA rfl rfl hS35 (qqA rfl rfl hS35 (hendH ((wp_seq (sreg (sM rfl (sv (xneI if89 rfl) (send (fgg 0 4 7 8 9 41 rfl fun _ => cyes rfl (sreg (sv (xbuildS [nm [], [.int .u16 0], [.int .u16 0], [.int .u32 0], [.int .u16 0]] zr135 ly135 rfl trivial (by simp [setAll, zs135])) (sM rfl (suK (xstW h4 (lens' := [256, 1, 1, 1, 1]) sz135 (by simp [nm_length]) rfl (by simp only [fC, fN, aA, aN, nm_one, bT] <;> rfl) rfl rfl) ?_))))))))))))))))
  rintro w37 ⟨m38, h4, s36⟩
  have hf := (hf.t m13 (by omega)).t m38 (by omega)
  refine sA rfl (send (fcg 4 5 rfl fun _ => wp_ret (rThen (rp2 rfl ⟨_, rfl, ldS (lens := [256, 1, 1, 1, 1]) ro135 h4.r⟩ rfl ?_))))
  exact ⟨.inr ⟨by omega, _, rfl⟩, hf⟩
 have z14 := m13.size
 have hS15 := hS11.step m13 nI
 have h7 : SB w12 b7 lRh ([nm S, [.int .u16 (ka : Int)], [.int .u16 (kb : Int)], [.int .u32 (kc : Int)], [.int .u16 (kd : Int)]]) := h7
 have hP := hP.keep m13 (nE (by omega))
 refine ⟨hS15, ?_⟩
 refine qqM rfl rfl hS15 (hvH rfl (fun _ _ => xex20 rfl) hS15 (hvH rfl (fun _ _ => xex21 rfl) hS15 (qqA rfl rfl hS15 (qqA rfl rfl hS15 (hendH ((wp_seq (sreg (sM rfl (sv (xneN if89 rfl) (send ((cno rfl (wp_skip (nThen (feg 0 4 7 8 rfl fun _ => sreg (sM rfl (sN rfl (sv (xfld fl124_5 rfl) (suK (xstF 10 sz4 hP rfl rfl rfl rfl rfl) ?_))))))))))))))))))))
 rintro w17 ⟨m18, hP, s16⟩
 refine send (feg 0 4 7 8 rfl fun _ => sreg (sM rfl (sM rfl (sN rfl (sv (xfld fl124_3 rfl) (sv (xld on3 rfl (hP.r.c 8 rfl rfl)) (sN rfl (sv (xfld fl124_6 rfl) (suK (xstF 11 sz3 hP rfl rfl rfl rfl rfl) ?_)))))))))
 rintro w20 ⟨m21, hP, s19⟩
 have h7 := (h7.keep m18 (nE (by omega))).keep m21 (nE (by omega))
 refine send (feg 0 4 7 8 rfl fun _ => sreg (sM rfl (sv (xfld fl135_1 rfl) (sv (xld on83 rfl (h7.r.c 1 rfl rfl)) (sN rfl (sv (xfld fl124_7 rfl) (suK (xstF 12 sz83 hP rfl rfl rfl rfl rfl) ?_)))))))
 rintro w23 ⟨m24, hP, s22⟩
 have h7 := h7.keep m24 (nE (by omega))
 refine send (feg 0 4 7 8 rfl fun _ => sreg (sM rfl (sv (xfld fl135_4 rfl) (sv (xld on22 rfl (h7.r.c 4 rfl rfl)) (sN rfl (sv (xfld fl124_8 rfl) (suK (xstF 13 sz22 hP rfl rfl rfl rfl rfl) ?_)))))))
 rintro w26 ⟨m27, hP, s25⟩
 refine send (feg 0 4 7 8 rfl fun _ => sreg (sM rfl (sM rfl (sN rfl (sv (xfld fl124_3 rfl) (suK (xstF 8 sz3 hP rfl rfl rfl rfl rfl) ?_))))))
 rintro w29 ⟨m30, hP, s28⟩
 have h7 := (h7.keep m27 (nE (by omega))).keep m30 (nE (by omega))
 have h4 := (((((h4.keep m13 (nE (by omega))).keep m18 (nE (by omega))).keep m21 (nE (by omega))).keep m24 (nE (by omega))).keep m27 (nE (by omega))).keep m30 (nE (by omega))
 refine send (fcg 4 7 rfl fun _ => sreg (sv (xldS (lens := [256, 1, 1, 1, 1]) ro135 rfl h7.r) (suK (xstW h4 (lens' := [256, 1, 1, 1, 1]) sz135 (by simp [nm_length]) rfl (by simp only [fC, fN, aA, aN, nm_one, bT] <;> rfl) rfl rfl) ?_)))
 rintro w32 ⟨m33, h4, s31⟩
 have hf := ((((((hf.t m13 (by omega)).step m18 nI).step m21 nI).step m24 nI).step m27 nI).step m30 nI).t m33 (by omega)
 have hP := hP.keep m33 (nE (by omega))
 refine sA rfl (send (fcg 4 5 rfl fun _ => wp_ret (rp2 rfl ⟨_, rfl, ldS (lens := [256, 1, 1, 1, 1]) ro135 h4.r⟩ rfl ?_)))
 exact ⟨.inl ⟨by omega, rfl, hP⟩, hf⟩
end Go.Proofs.YtifnodoffgfpbaaGreatDoor

namespace Go.Proofs.YtifnodoffgfpbaaGreatDoor
open Go
theorem c206 {w : World} {a : Option Addr} {bm om km n : Nat} {b : List UInt8} (hms : n ≠ 0 → a = some ⟨bm, om, none⟩) (hm : w.rangeAt bm om (bvs (b.take n))) (hbm : bm < w.heap.size) (hnb : n ≤ b.length) (hkm : n ≤ km) (hbl : b.length < 100000000) (hG : GE w) (hsz : 21 ≤ w.heap.size) {tv : Int} {off : Nat} {xs : List UInt8} (hxl : xs.length < 65536) (hs : Std b off xs) (hle : off + xs.length ≤ b.length) (h0 : n ≠ 0) :
  Ret PP 206 [.int .u16 tv, .slice a n km, .int .i64 (off : Int), .int .u16 (xs.length : Int)] w (fun u w' => ((off + xs.length ≤ n ∧ ∃ v, u = .tuple #[ag [[.int .u16 tv], [v]], .nilIface] ∧ BA (Ub NoU w w') w' v xs) ∨ (n < off + xs.length ∧ ∃ (T : TypeId) (x : Option Addr), u = .tuple #[ag [[.int .u16 0], [.slice none 0 0]], .iface T (.pointer x)])) ∧ Fr0 w w') := by
 have hf : Fr (fun _ => False) w w := Fr.refl _ _
 refine ret_of Tryz.func206 rfl rfl rfl [(0, _), (1, _), (2, _), (3, _)] rfl ?_
 refine sreg (svK (xallS (lens := [1, 1]) in231 (by simp [])) ?_)
 rintro _ w2 ⟨b8, rfl, m3, h8, e1, s1⟩
 refine sA rfl (send (ffg 0 1 2 3 8 rfl fun _ => sreg (sM rfl (sM rfl (svK (xmake (lo := xs.length) (hi := xs.length) sl37 in5 rfl (by decide) rfl rfl rfl rfl (by omega) (by omega) (by simp only [maxLen]; omega) rfl) ?_)))))
 rintro _ w4 ⟨b15, rfl, m5, hk15, e15, s15, -⟩
 rw [rep_zero] at hk15
 have h15 : SB w4 b15 [xs.length] [bvs (List.replicate xs.length 0)] := ⟨by rw [fC, fN, aN]; exact hk15, by simp [bvs_length]⟩
 refine sv (xbuildS [[.int .u16 tv], [.slice (some ⟨b15, 0, none⟩) xs.length xs.length]] zr231 ly231 rfl (by simp [fitAll, zs231, Value.cells]) rfl) (svK (xallS (lens := [1, 1]) in231 (by simp [])) ?_)
 rintro _ w7 ⟨b10, rfl, m8, h10, e6, s6⟩
 refine suK (xstW h10 (lens' := [1, 1]) sz231 (by simp []) rfl rfl rfl rfl) ?_
 rintro w10 ⟨m11, h10, s9⟩
 have hm := rng_fr (rng_fr (rng_fr (rng_fr hm m3 (by omega) id) m5 (by omega) id) m8 (by omega) id) m11 (by omega) (nE (by omega))
 have hG := (((hG.k0 m3 (by omega)).k0 m5 (by omega)).k0 m8 (by omega)).k1 m11 (by omega) (by omega)
 have h15 := (h15.k m8).keep m11 (nE (by omega))
 refine send (feg 1 2 8 10 rfl fun _ => wp_seq (sreg (sM rfl (sM rfl (sv (xfld fl231_1 rfl) (sv (xld on37 rfl (h10.r.c 1 rfl rfl)) (sc (xcall ca212 rfl) (c212 (b := b) (bp := b15) (q := 0) (ip := 0) (off := off) (d := xs.length) (xs := xs) hms hm (by omega) hnb hkm hbl hG (by omega) h15 (by omega) (by omega) rfl rfl hs (by omega) rfl (by simp [bvs_length]) hle h0) ?_)))))))
 have hf := (((hf.s m3).s m5).s m8).t m11 (by omega)
 have h8 := ((h8.k m5).k m8).keep m11 (nE (by omega))
 rintro _ w12 ⟨⟨hle22, rfl, h15⟩ | ⟨hgt22, ⟨T22, x22, rfl⟩, o22, h15⟩, m13⟩
 ·
  have z14 := m13.size
  have h15 : SB w12 b15 [xs.length] [bvs xs] := h15
  have h10 := h10.keep m13 (nE (by omega))
  have h8 := h8.keep m13 (nE (by omega))
  refine sM rfl (sE2 rfl (sA rfl (sA rfl (send ((sreg (sM rfl (sv (xneN if89 rfl) (send ((cno rfl (wp_skip (nThen (fcg 8 10 rfl fun _ => sreg (sv (xldS (lens := [1, 1]) ro231 rfl h10.r) (suK (xstW h8 (lens' := [1, 1]) sz231 (by simp []) rfl rfl rfl rfl) ?_))))))))))))))))
  rintro w16 ⟨m17, h8, s15⟩
  have h15 := h15.keep m17 (nE (by omega))
  refine sA rfl (send (fcg 8 9 rfl fun _ => wp_ret (rp2 rfl ⟨_, rfl, ldS (lens := [1, 1]) ro231 h8.r⟩ rfl ?_)))
  have hr15 := h15.r.seg (i := 0) (k := 0) rfl rfl
  have hf := (hf.t m13 (by omega)).t m17 (by omega)
  exact ⟨.inl ⟨by omega, _, rfl, _, _, rfl, fun _ => ⟨b15, 0, rfl, .inr ⟨by omega, by omega⟩, hr15⟩⟩, hf⟩
 have z18 := m13.size
 have h8 := h8.keep m13 (nE (by omega))
 refine sM rfl (sE2 rfl (sA rfl (sA rfl (send ((sreg (sM rfl (sv (xneI if89 rfl) (send (feg 8 10 12 26 rfl fun _ => cyes rfl (sreg (sv (xbuildS [[.int .u16 0], [.slice none 0 0]] zr231 ly231 rfl trivial (by simp [setAll, zs231])) (sM rfl (suK (xstW h8 (lens' := [1, 1]) sz231 (by simp []) rfl rfl rfl rfl) ?_))))))))))))))
 rintro w20 ⟨m21, h8, s19⟩
 have hf := (hf.t m13 (by omega)).t m21 (by omega)
 refine sA rfl (send (fcg 8 9 rfl fun _ => wp_ret (rThen (rp2 rfl ⟨_, rfl, ldS (lens := [1, 1]) ro231 h8.r⟩ rfl ?_))))
 exact ⟨.inr ⟨by omega, _, _, rfl⟩, hf⟩
end Go.Proofs.YtifnodoffgfpbaaGreatDoor

namespace Go.Proofs.YtifnodoffgfpbaaGreatDoor
open Go

theorem wu16c {c : Int} (n : Nat) (h : c = (n : Int)) (hl : n < 65536) : IntKind.u16.wrap c = (n : Int) := by rw [h]; exact wu16 (by omega) (by omega)

theorem c201 {w : World} {a : Option Addr} {bm om km n : Nat} {b : List UInt8} (hms : n ≠ 0 → a = some ⟨bm, om, none⟩) (hm : w.rangeAt bm om (bvs (b.take n))) (hbm : bm < w.heap.size) (hnb : n ≤ b.length) (hkm : n ≤ km) (hbl : b.length < 100000000) (hG : GE w) (hsz : 21 ≤ w.heap.size) {off : Nat} {ts : List ByteArray} (htd : ∀ t ∈ ts, t.size ≤ 255) (hs : Std b off (textsL ts)) (hL : (textsL ts).length < 65536) (hle : off + (textsL ts).length ≤ b.length) (hon : off ≤ n) :
  Ret PP 201 [.slice a n km, .int .i64 (off : Int), .int .u16 ((textsL ts).length : Int)] w (fun u w' => ((off + (textsL ts).length ≤ n ∧ ∃ v, u = .tuple #[ag [[v]], .nilIface] ∧ LA TextEl [1] (Ub NoU w w') w' v ts) ∨ (n < off + (textsL ts).length ∧ ∃ (T : TypeId) (x : Option Addr), u = .tuple #[ag [[.slice none 0 0]], .iface T (.pointer x)])) ∧ Fr0 w w') := by
 have htn := textsL_length ts
 have hf : Fr (fun _ => False) w w := Fr.refl _ _
 refine ret_of Tryz.func201 rfl rfl rfl [(0, _), (1, _), (2, _)] rfl ?_
 refine sreg (svK (xallS (lens := [1]) in207 (by simp [])) ?_)
 rintro _ w2 ⟨b6, rfl, m3, h6, e1, s1⟩
 refine sA rfl (send (feg 0 1 2 6 rfl fun _ => sreg (svK (xmake (lo := 0) (hi := 1) sl62 in9 rfl (by decide) rfl rfl rfl rfl (by omega) (by omega) (by simp only [maxLen]; omega) rfl) ?_)))
 rintro _ w4 ⟨b12, rfl, m5, h12, e12, s12, r12⟩
 have r12 : Rw w4 _ b12 9 1 0 (strs (ts.take 0)) := r12
 have h6 := h6.k m5
 have hG := (hG.k0 m3 (by omega)).k0 m5 (by omega)
 refine sA rfl (send ((wp_seq (sreg (sA rfl (send (fgg 0 1 2 6 8 9 rfl fun _ => wp_block (lp [(0, _), (2, _), (6, _)] (fun (x : Nat × Value × Nat) => match x with | (k, v, g) => [(1, .int .i64 ((off + (textsL (ts.take k)).length : Nat) : Int)), (8, v), (9, .int .u16 ((textsL (ts.take k)).length : Int))]) (fun (x : Nat × Value × Nat) wx => match x with | (k, v, g) => Fr (fun k => k = b12 ∨ k = b6) w4 wx ∧ (k ≤ ts.length) ∧ (off + (textsL (ts.take k)).length ≤ n) ∧ (Rw wx v g 9 1 k (strs (ts.take k))) ∧ (g = b12 ∨ w4.heap.size ≤ g) ∧ (g < wx.heap.size) ∧ (SB wx b6 [1] [[.slice none 0 0]]) ∧ (g ≠ b6)) (fun (x : Nat × Value × Nat) => match x with | (k, v, g) => ts.length - k) (0, _, b12) ⟨rfl, rfl, rfl, rfl, rfl, rfl, trivial⟩ ⟨Fr.refl _ _, Nat.zero_le _, hon, r12, .inl rfl, by omega, h6, by omega⟩ ?_))))))))
 rintro ⟨k, v, g⟩ _ w7 ⟨hL6, hk, hkn, hvt, hg, hg2, h6, hg3⟩
 refine fgg 0 1 2 6 8 9 rfl fun _ => ?_
 have z8 := hL6.size
 obtain ⟨av, cv, rfl, -⟩ := hvt.form
 have hf := ((hf.s m3).s m5).step hL6 (fun k hk hS => by have hS : k = b12 ∨ k = b6 := hS; show False; omega)
 refine wp_seq (sreg (sM rfl (sM rfl (svP (xlss rfl rfl) (fun hc15 => ?_) (fun hc15 => ?_)))))
 rotate_left
 ·
  refine send ((cno rfl (wp_exit (eThen (eThen (eHit (nThen (fcg 6 8 rfl fun _ => sreg (sM rfl (sv (xbuildS [[.slice av k cv]] zr207 ly207 rfl (by simp [fitAll, zs207, Value.cells]) (by simp [setAll, zs207, Value.cells])) (suK (xstW h6 (lens' := [1]) sz207 (by simp []) rfl rfl rfl rfl) ?_)))))))))))
  rintro w26 ⟨m27, h6, s25⟩
  refine sA rfl (send (fcg 6 7 rfl fun _ => wp_ret (rp2 rfl ⟨_, rfl, ldS (lens := [1]) ro207 h6.r⟩ rfl ?_)))
  have hkl : ts.length ≤ k := by rcases Nat.lt_or_ge k ts.length with h | h; exact absurd (texts_take_lt (List.getElem?_eq_getElem h)) (by omega); exact h
  have hke : k = ts.length := by omega
  have e1 : ts.take k = ts := List.take_of_length_le hkl
  have hvt := hvt.keep m27 (nE (by omega))
  rw [e1] at hvt hkn
  have hf := hf.t m27 (by omega)
  exact ⟨.inl ⟨hkn, _, rfl, la_texts hvt hke (fun h => .inr ⟨by omega, by omega⟩)⟩, hf⟩
 refine send ((cyes rfl (wp_skip (nThen (fgg 0 1 2 6 8 9 rfl fun _ => wp_block ?_)))))
 have hkl : k < ts.length := by rcases Nat.lt_or_ge k ts.length with h | h; exact h; rw [List.take_of_length_le h] at hc15; omega
 obtain ⟨t, htk⟩ := some_of_lt hkl
 have hts := texts_at hs htk
 have htt := texts_take_lt htk
 have htz := htd t (List.mem_of_getElem? htk)
 have htk1 : (textsL (ts.take (k + 1))).length = (textsL (ts.take k)).length + 1 + t.size := by rw [texts_snoc htk]; simp only [textL, List.length_append, List.length_cons, bt_length]; omega
 have hts : Std b (off + (textsL (ts.take k)).length) (UInt8.ofNat (bt t).length :: bt t) := by rw [bt_length]; exact hts
 have hm := rng_fr (rng_fr (rng_fr hm m3 (by omega) id) m5 (by omega) id) hL6 (by omega) (by show ¬ (bm = b12 ∨ bm = b6); omega)
 have hG := hG.keep (fun k hk => by omega) hL6 (fun k hk hS => by have hk := hk; have hS : k = b12 ∨ k = b6 := hS; omega)
 refine sreg (sA rfl (send ((sreg (sA rfl (send (fgg 0 1 2 6 8 9 rfl fun _ => wp_seq (sreg (sM rfl (sM rfl (sc (xcall ca213 rfl) (c213 (b := b) (off := off + (textsL (ts.take k)).length) (xs := bt t) hms hm (by omega) hnb hkm hbl hG (by omega) (by rw [bt_length]; omega) hts (by rw [bt_length]; omega)) ?_)))))))))))
 rintro _ w9 ⟨⟨hle19, hu19⟩ | ⟨hgt19, T19, x19, rfl⟩, m10⟩
 ·
  have z11 := m10.size
  have hbt := bt_length t
  have hmz : (mkB (bt t)).size = t.size := rfl
  rw [show off + (textsL (ts.take k)).length + 1 + (bt t).length = off + (textsL (ts.take (k + 1))).length by omega] at hu19
  subst hu19
  refine sM rfl (sE3 rfl (sA rfl (sA rfl (sA rfl (send ((sreg (sM rfl (sv (xneN if89 rfl) (send ((cno rfl (wp_skip (nThen ((wp_seq (sreg (sM rfl (sM rfl (sv (xsub rfl rfl (wu16 (by omega) (by omega))) (sM rfl (sv (xlenS st9 rfl) (sv (xconv hs3 ki22 rfl (wu16 (by omega) (by omega))) (sv (xadd rfl rfl (wu16 (by omega) (by omega))) (sv (exF (xlss rfl rfl) (by omega)) (send (fig 0 1 2 6 8 9 10 37 rfl fun _ => cno rfl (wp_skip (nThen ((sreg (sM rfl (sM rfl (sv (xlenS st9 rfl) (sv (xconv hs3 ki22 rfl (wu16 (by omega) (by omega))) (sv (xadd rfl rfl (wu16 (by omega) (by omega))) (sv (xadd rfl rfl (wu16c (textsL (ts.take (k + 1))).length (by omega) (by omega))) (sA rfl (send (fhg 0 1 2 6 8 9 10 rfl fun _ => lreg (sM rfl (sM rfl (svK (xslit ([.string t]) sl62 in9 rfl (by decide) rfl rfl rfl rfl (by decide) rfl rfl) ?_)))))))))))))))))))))))))))))))))))))))))))
  rintro _ w13 ⟨b48, rfl, m14, h48, e48, s48, r48⟩
  have hvt := (hvt.k m10).k m14
  refine svK (xapp sl62 in9 rfl (by decide) rfl rfl hvt (r48.src sl62) (by simp only [maxLen]; omega) (by omega)) ?_
  rintro _ w15 ⟨g49, r49, m16, a49, l49⟩
  have z17 := m16.size
  obtain ⟨p49, q49, rfl, -⟩ := r49.form
  have h6 := ((h6.k m10).k m14).keep m16 (nE (by omega))
  have hL6 := ((hL6.s m10).s m14).step m16 (fun k hk hS => by have hS : k = g := hS; show k = b12 ∨ k = b6; omega)
  refine sA rfl (lend (nBlock (nThen ?_)))
  refine ⟨(k + 1, _, g49), _, env_okl ⟨rfl, rfl, rfl, rfl, rfl, rfl, trivial⟩, ⟨hL6, (by omega), (by omega), (by rw [strs_snoc htk]; exact r49), (by omega), (by have hq := l49 (by omega); omega), (h6), (by omega)⟩, ?_⟩
  show ts.length - (k + 1) < ts.length - k; omega
 have z18 := m10.size
 have hbt := bt_length t
 have hmz : (mkB (bt t)).size = t.size := rfl
 refine sM rfl (sE3 rfl (sA rfl (sA rfl (sA rfl (send ((sreg (sM rfl (sv (xneI if89 rfl) (send (fjg 0 1 2 6 8 9 10 11 24 rfl fun _ => cyes rfl (sreg (sv (xbuildS [[.slice none 0 0]] zr207 ly207 rfl trivial (by simp [setAll, zs207])) (sM rfl (sv (xbuildS [[_], [_]] zr168 ly168 rfl (by simp [fitAll, zs168, Value.cells]) rfl) (svK (xboxS (lens := [1, 1]) rfl (by simp [])) ?_))))))))))))))))
 rintro _ w20 ⟨b28, rfl, m21, h28, e19, s19⟩
 have h6 := (h6.k m10).k m21
 refine sv (xmkif ni166 rfl) (suK (xstW h6 (lens' := [1]) sz207 (by simp []) rfl rfl rfl rfl) ?_)
 rintro w23 ⟨m24, h6, s22⟩
 have hf := ((hf.s m10).s m21).t m24 (by omega)
 refine sA rfl (send (fcg 6 7 rfl fun _ => wp_ret (rThen (rBlock (rThen (rBlock (rThen (rp2 rfl ⟨_, rfl, ldS (lens := [1]) ro207 h6.r⟩ rfl ?_))))))))
 exact ⟨.inr ⟨by omega, _, _, rfl⟩, hf⟩
end Go.Proofs.YtifnodoffgfpbaaGreatDoor

namespace Go.Proofs.YtifnodoffgfpbaaGreatDoor
open Go

theorem std_drop (b : List UInt8) (i : Nat) : Std b i (b.drop i) := fun j c h => by
  rw [List.getElem?_drop] at h; exact h
theorem drop_take {b xs : List UInt8} {n i : Nat} (h : Std b i xs) (hn : i + xs.length ≤ n) : ((b.take n).drop i).take xs.length = xs := by
  apply List.ext_getElem?
  intro j
  by_cases hj : j < xs.length
  · rw [List.getElem?_take, if_pos hj, List.getElem?_drop, List.getElem?_take, if_pos (by omega), List.getElem?_eq_getElem hj]
    exact h j _ (List.getElem?_eq_getElem hj)
  · rw [List.getElem?_eq_none (by simp; omega), List.getElem?_eq_none (by omega)]
theorem drop_len {b : List UInt8} {n : Nat} (i : Nat) (hnb : n ≤ b.length) : ((b.take n).drop i).length = n - i := by simp [Nat.min_eq_left hnb]
theorem rest_ba {w : World} {bm om o' n i c : Nat} {b : List UInt8} (hm : w.rangeAt bm om (bvs (b.take n))) (hnb : n ≤ b.length) (ho : i < c → o' = om + i * 1) (hi : i ≤ n) (hc : n ≤ c) : BA (fun k => k = bm) w (.slice (some ⟨bm, o', none⟩) (n - i) (c - i)) ((b.take n).drop i) :=
  take_ba (cut_rng hm (std_drop _ i) ho (by rw [drop_len i hnb]; omega)) (drop_len i hnb)
section
variable {P : Program} {n : Nat} {l : List (Nat × Value)} {w : World} {ty : TypeId} {x y : Operand}
theorem xcopyM {T TX E : TypeId} {bp o' c i d m : Nat} {lens : List Nat} {segs : List (List Value)} {zs : List Value} {ys : List UInt8} {u : Value} (hT : slcB P T E = true) (hE : szB P E 1 = true) (hx : ev n l x = some (.slice (some ⟨bp, o', none⟩) d c)) (hy : ev n l y = some u)
    (hc : Cpy P w u ys) (hm : ys.length = m) (hP : SB w bp lens segs) (hi : segs[i]? = some zs) (hz : zs.length = d) (hq : (lens.take i).sum = o') :
    ExK P n l (.call { callee := .builtin .copy, args := #[x, y], argTypes := #[T, TX] }) ty w (fun v w' => v = .int .i64 ((min m d : Nat) : Int) ∧ Fr (· = bp) w w' ∧ (d ≤ m → SB w' bp lens (segs.set i (bvs (ys.take d)))) ∧ w'.heap.size = w.heap.size) := by
  subst hm
  have hlt : i < segs.length := (List.getElem?_eq_some_iff.1 hi).1
  have he : segs[i] = zs := (List.getElem?_eq_some_iff.1 hi).2
  have hof := offs_lens hP.2 i
  have hle := offs_le segs i hlt
  rw [he, hz] at hle
  have hbl : (bvs (ys.take (min ys.length d))).length = min ys.length d := by rw [bvs_length, List.length_take]; omega
  obtain ⟨v, w', h, h1, h2, h3, h4⟩ := xcopy (TX := TX) (ty := ty) hT hE hx hy (sn := ys.length) (news := bvs (ys.take (min ys.length d))) hc.1 hbl (hc.2 _ (Nat.min_le_left _ _)) (bvs_one _) hP.1 (by omega)
  refine ⟨v, w', h, by rw [h1, hbl], h2, fun hd => ?_, h4⟩
  rw [Nat.min_eq_right hd] at h3 hbl
  refine ⟨?_, ?_⟩
  · have e := splice_flat segs i (bvs (ys.take d)) hlt (by rw [he, hbl, hz])
    rw [show offs segs i = o' by omega] at e
    rw [← e]; exact h3
  · rw [set_lens hlt (by rw [he, hbl, hz])]; exact hP.2
theorem xcopyV {T TX E : TypeId} {bp o r c : Nat} {D xs : List UInt8} {u : Value} (hT : slcB P T E = true) (hE : szB P E 1 = true) (hx : ev n l x = some (.slice (some ⟨bp, o, none⟩) r c)) (hy : ev n l y = some u)
    (hc : Cpy P w u xs) (hle : xs.length ≤ r) (hP : Blk w bp (bvs D ++ bvs (List.replicate r 0))) (ho : 0 < r → o = D.length) (ho2 : o ≤ D.length + r) :
    ExK P n l (.call { callee := .builtin .copy, args := #[x, y], argTypes := #[T, TX] }) ty w (fun v w' => v = .int .i64 (xs.length : Int) ∧ Fr (· = bp) w w' ∧ Blk w' bp (bvs (D ++ xs) ++ bvs (List.replicate (r - xs.length) 0)) ∧ w'.heap.size = w.heap.size) := by
  have hbl : (bvs xs).length = xs.length := bvs_length _
  have hml : min xs.length r = xs.length := Nat.min_eq_left hle
  have hfit : o + (bvs xs).length ≤ (bvs D ++ bvs (List.replicate r 0)).length := by
    rw [List.length_append, bvs_length, bvs_length, bvs_length, List.length_replicate]
    by_cases hr : 0 < r
    · rw [ho hr]; omega
    · omega
  obtain ⟨v, w', h, h1, h2, h3, h4⟩ := xcopy (TX := TX) (ty := ty) hT hE hx hy (sn := xs.length) (news := bvs xs) hc.1 (by rw [hbl]; exact hml.symm) (by have := hc.2 xs.length (Nat.le_refl _); rw [List.take_length] at this; show (Builtin.firstCells 1 (min xs.length r) u).run P w = _; rw [hml]; exact this) (bvs_one _) hP hfit
  refine ⟨v, w', h, by rw [h1, hbl], h2, ?_, h4⟩
  have e : splice (bvs D ++ bvs (List.replicate r 0)) o (bvs xs) = bvs (D ++ xs) ++ bvs (List.replicate (r - xs.length) 0) := by
    have er : List.replicate r (0 : UInt8) = List.replicate xs.length 0 ++ List.replicate (r - xs.length) 0 := by
      rw [List.replicate_append_replicate]; congr 1; omega
    by_cases hr : 0 < r
    · rw [ho hr, er, bvs_app, bvs_app]
      have h5 := splice_mid (bvs D) (bvs (List.replicate xs.length 0)) (bvs (List.replicate (r - xs.length) 0)) (bvs xs) (by simp [bvs])
      rw [bvs_length] at h5
      rw [h5, List.append_assoc]
    · obtain rfl : xs = [] := List.eq_nil_of_length_eq_zero (by omega)
      simp [splice, bvs]
  rw [e] at h3; exact h3
theorem xcutHM {T E : TypeId} {sz m c hi mx : Nat} {a : Option Addr} {k k' : IntKind} {j j' : Int} {q q' : Operand} (hT : slcB P T E = true) (hE : szB P E sz = true) (hx : ev n l x = some (.slice a m c))
    (hq : ev n l q = some (.int k j)) (hq' : ev n l q' = some (.int k' j')) (hj : j = (hi : Int)) (hj' : j' = (mx : Int)) (h1 : hi ≤ mx) (h2 : mx ≤ c) :
    Ex P n l (.slice T x none (some q) (some q')) ty w (.slice a hi mx) w := fun r _ _ _ _ => by
  subst hj hj'
  have hs := szB_spec hE
  cases hi' : P.info? E with
  | none => rw [hi'] at hs; cases hs
  | some u =>
    rw [hi'] at hs
    simp only [Option.map_some, Option.some.injEq] at hs
    simp only [execOp, ev_eval r hx]
    simp [Instr.sliceAt, Instr.slice, run_underlying (slcB_spec hT), Instr.sliceBounds, ev_eval r hq, ev_eval r hq', run_sb h1, run_sb h2, sizeOf, typeInfo, hi']
    cases a with
    | none => simp
    | some a => simp [Addr.add]
end

theorem c205 {w : World} {a : Option Addr} {bm om km n : Nat} {b : List UInt8} (hms : n ≠ 0 → a = some ⟨bm, om, none⟩) (hm : w.rangeAt bm om (bvs (b.take n))) (hbm : bm < w.heap.size) (hnb : n ≤ b.length) (hkm : n ≤ km) (hbl : b.length < 100000000) (hG : GE w) (hsz : 21 ≤ w.heap.size) {off : Nat} {ps : List PairD} (hs : Std b off (pairsL ps)) (hL : (pairsL ps).length < 65536) (hle : off + (pairsL ps).length ≤ b.length) (hon : off ≤ n) :
  Ret PP 205 [.slice a n km, .int .i64 (off : Int), .int .u16 ((pairsL ps).length : Int)] w (fun u w' => ((off + (pairsL ps).length ≤ n ∧ ∃ v, u = .tuple #[ag [[v]], .nilIface] ∧ LA PairEl lPair (Ub NoU w w') w' v ps) ∨ (n < off + (pairsL ps).length ∧ ∃ (T : TypeId) (x : Option Addr), u = .tuple #[ag [[.slice none 0 0]], .iface T (.pointer x)])) ∧ Fr0 w w') := by
 have hU : ∀ k, NoU k → k < w.heap.size := fun _ h => h.elim
 have hpn := pairsL_length ps
 have hf : Fr (fun _ => False) w w := Fr.refl _ _
 refine ret_of Tryz.func205 rfl rfl rfl [(0, _), (1, _), (2, _)] rfl ?_
 refine sreg (svK (xallS (lens := [1]) in218 (by simp [])) ?_)
 rintro _ w2 ⟨b6, rfl, m3, h6, e1, s1⟩
 have hG := hG.k0 m3 (by omega)
 refine sA rfl (send ((sreg (sA rfl (send ((wp_seq (sreg (sM rfl (sA rfl (send (fgg 0 1 2 6 8 9 rfl fun _ => wp_block (lp [(0, _), (2, _), (6, _), (9, _)] (fun (x : Nat × Value × Nat) => match x with | (k, v, g) => [(1, .int .i64 ((off + (pairsL (ps.take k)).length : Nat) : Int)), (8, v)]) (fun (x : Nat × Value × Nat) wx => match x with | (k, v, g) => Fr (fun k => k = b6) w2 wx ∧ (k ≤ ps.length) ∧ (off + (pairsL (ps.take k)).length ≤ n) ∧ ((v = .slice none 0 0 ∧ k = 0) ∨ (RX PairEl lPair NoU (b6 + 1) wx.heap.size wx v g 220 k (ps.take k) ∧ b6 < g ∧ g < wx.heap.size)) ∧ (SB wx b6 [1] [[.slice none 0 0]])) (fun (x : Nat × Value × Nat) => match x with | (k, v, g) => ps.length - k) (0, .slice none 0 0, 0) ⟨rfl, rfl, rfl, rfl, rfl, rfl, trivial⟩ ⟨Fr.refl _ _, Nat.zero_le _, hon, .inl ⟨rfl, rfl⟩, h6⟩ ?_)))))))))))))
 rintro ⟨k, v, g⟩ _ w5 ⟨hL4, hk, hkn, hnv, h6⟩
 refine fgg 0 1 2 6 8 9 rfl fun _ => ?_
 have z6 := hL4.size
 have hm := rng_fr (rng_fr hm m3 (by omega) id) hL4 (by omega) (nE (by omega))
 have hf := (hf.s m3).t hL4 (by omega)
 have hG := hG.k1 hL4 (by omega) (by omega)
 rcases hnv with ⟨rfl, hk0⟩ | ⟨hv3, hg1, hg2⟩
 ·
  refine wp_seq (sreg (sM rfl (sM rfl (sM rfl (sv (xconv hs22 ki3 rfl (w64 (by omega) (by omega))) (sv (xadd rfl rfl (w64n (off + (pairsL ps).length) (by omega) (by omega))) (svP (xlss rfl rfl) (fun hc19 => ?_) (fun hc19 => ?_))))))))
  rotate_left
  ·
   refine send ((cno rfl (wp_exit (eThen (eThen (eHit (nThen (fcg 6 8 rfl fun _ => sreg (sM rfl (sv (xbuildS [[.slice none 0 0]] zr218 ly218 rfl (by simp [fitAll, zs218, Value.cells]) (by simp [setAll, zs218, Value.cells])) (suK (xstW h6 (lens' := [1]) sz218 (by simp []) rfl rfl rfl rfl) ?_)))))))))))
   rintro w74 ⟨m75, h6, s73⟩
   refine sA rfl (send (fcg 6 7 rfl fun _ => wp_ret (rp2 rfl ⟨_, rfl, ldS (lens := [1]) ro218 h6.r⟩ rfl ?_)))
   have hkl : ps.length ≤ k := by rcases Nat.lt_or_ge k ps.length with h | h; exact absurd (pairs_take_lt (List.getElem?_eq_getElem h)) (by omega); exact h
   have hke : ps.take k = ps := List.take_of_length_le hkl
   obtain rfl : ps = [] := List.eq_nil_of_length_eq_zero (by omega)
   have hf := hf.t m75 (by omega)
   exact ⟨.inl ⟨by omega, _, rfl, LA.nil⟩, hf⟩
  refine send ((cyes rfl (wp_skip (nThen (fgg 0 1 2 6 8 9 rfl fun _ => wp_block ?_)))))
  have hkl : k < ps.length := by rcases Nat.lt_or_ge k ps.length with h | h; exact h; rw [List.take_of_length_le h] at hc19; omega
  obtain ⟨p, hpk⟩ := some_of_lt hkl
  have hpt := pairs_at hs hpk
  have hptl := pairs_take_lt hpk
  have hpk16 := u16lt p.key
  have hps1 : (pairsL (ps.take (k + 1))).length = (pairsL (ps.take k)).length + 4 + p.data.length := by rw [pairs_snoc hpk]; simp only [pairL, List.length_append, be16_length]; omega
  simp only [pairL] at hpt
  have hdd : Std b (off + (pairsL (ps.take k)).length + 2 + 2) p.data := (hpt.right' rfl).right' rfl
  refine sreg (sA rfl (send (fgg 0 1 2 6 8 9 rfl fun _ => sreg (svK (xallS (lens := [1, 1]) in220 (by simp [])) ?_))))
  rintro _ w8 ⟨b11, rfl, m9, h11, e7, s7⟩
  have hm := rng_fr hm m9 (by omega) id
  have hG := hG.k0 m9 (by omega)
  refine send (fhg 0 1 2 6 8 9 11 rfl fun _ => sreg (sM rfl (sM rfl (sc (xcall ca156 rfl) (c156 (b := b) (off := off + (pairsL (ps.take k)).length) (x := p.key.toNat) hms hm (by omega) hnb hkm hbl hG (by omega) hpk16 (hpt.left) (by omega)) ?_))))
  have hf := hf.s m9
  have h6 := h6.k m9
  have hL4 := hL4.s m9
  rintro _ w10 ⟨⟨hle23, rfl⟩ | ⟨hgt23, T23, x23, rfl⟩, m11⟩
  rotate_left
  ·
   have z63 := m11.size
   have h11 := h11.k m11
   refine sM rfl (sE3 rfl (sv (xfld fl220_0 rfl) (suK (xstF 0 sz22 h11 rfl rfl rfl rfl rfl) ?_)))
   rintro w65 ⟨m66, h11, s64⟩
   refine sA rfl (sA rfl (send ((wp_seq (sreg (sM rfl (sv (xneI if89 rfl) (send (fjg 0 1 2 6 8 9 10 11 29 rfl fun _ => cyes rfl (sreg (sv (xbuildS [[.slice none 0 0]] zr218 ly218 rfl trivial (by simp [setAll, zs218])) (sM rfl (sv (xbuildS [[_], [_]] zr168 ly168 rfl (by simp [fitAll, zs168, Value.cells]) rfl) (svK (xboxS (lens := [1, 1]) rfl (by simp [])) ?_))))))))))))))
   rintro _ w68 ⟨b33, rfl, m69, h33, e67, s67⟩
   have h6 := ((h6.k m11).keep m66 (nE (by omega))).k m69
   refine sv (xmkif ni166 rfl) (suK (xstW h6 (lens' := [1]) sz218 (by simp []) rfl rfl rfl rfl) ?_)
   rintro w71 ⟨m72, h6, s70⟩
   have hf := (((hf.s m11).t m66 (by omega)).s m69).t m72 (by omega)
   refine sA rfl (send (fcg 6 7 rfl fun _ => wp_ret (rThen (rBlock (rThen (rBlock (rThen (rp2 rfl ⟨_, rfl, ldS (lens := [1]) ro218 h6.r⟩ rfl ?_))))))))
   exact ⟨.inr ⟨by omega, _, _, rfl⟩, hf⟩
  have z12 := m11.size
  have h11 := h11.k m11
  refine sM rfl (sE3 rfl (sv (xfld fl220_0 rfl) (suK (xstF 0 sz22 h11 rfl rfl rfl rfl rfl) ?_)))
  rintro w14 ⟨m15, h11, s13⟩
  have hm := rng_fr (rng_fr hm m11 (by omega) id) m15 (by omega) (nE (by omega))
  have hG := (hG.k0 m11 (by omega)).k1 m15 (by omega) (by omega)
  refine sA rfl (sA rfl (send ((wp_seq (sreg (sM rfl (sv (xneN if89 rfl) (send ((cno rfl (wp_skip (nThen ((sreg (sA rfl (send (fhg 0 1 2 6 8 9 11 rfl fun _ => sreg (sM rfl (sM rfl (sc (xcall ca156 rfl) (c156 (b := b) (off := off + (pairsL (ps.take k)).length + 2) (x := p.data.length) hms hm (by omega) hnb hkm hbl hG (by omega) (by omega) ((hpt.right' rfl).left) (by omega)) ?_))))))))))))))))))))
  have hf := (hf.s m11).t m15 (by omega)
  have h6 := (h6.k m11).keep m15 (nE (by omega))
  have hL4 := (hL4.s m11).step m15 (fun k hk hS => by have hS : k = b11 := hS; show k = b6; omega)
  rintro _ w16 ⟨⟨hle38, rfl⟩ | ⟨hgt38, T38, x38, rfl⟩, m17⟩
  rotate_left
  ·
   have z56 := m17.size
   refine sM rfl (sE3 rfl (sA rfl (sA rfl (sA rfl (send ((wp_seq (sreg (sM rfl (sv (xneI if89 rfl) (send (fkg 0 1 2 6 8 9 10 11 12 43 rfl fun _ => cyes rfl (sreg (sv (xbuildS [[.slice none 0 0]] zr218 ly218 rfl trivial (by simp [setAll, zs218])) (sM rfl (sv (xbuildS [[_], [_]] zr168 ly168 rfl (by simp [fitAll, zs168, Value.cells]) rfl) (svK (xboxS (lens := [1, 1]) rfl (by simp [])) ?_)))))))))))))))))
   rintro _ w58 ⟨b47, rfl, m59, h47, e57, s57⟩
   have h6 := (h6.k m17).k m59
   refine sv (xmkif ni166 rfl) (suK (xstW h6 (lens' := [1]) sz218 (by simp []) rfl rfl rfl rfl) ?_)
   rintro w61 ⟨m62, h6, s60⟩
   have hf := ((hf.s m17).s m59).t m62 (by omega)
   refine sA rfl (send (fcg 6 7 rfl fun _ => wp_ret (rThen (rBlock (rThen (rBlock (rThen (rp2 rfl ⟨_, rfl, ldS (lens := [1]) ro218 h6.r⟩ rfl ?_))))))))
   exact ⟨.inr ⟨by omega, _, _, rfl⟩, hf⟩
  have z18 := m17.size
  refine sM rfl (sE3 rfl (sA rfl (sA rfl (sA rfl (send ((wp_seq (sreg (sM rfl (sv (xneN if89 rfl) (send ((cno rfl (wp_skip (nThen (fig 0 1 2 6 8 9 11 12 rfl fun _ => sreg (sM rfl (svK (xmake (lo := p.data.length) (hi := p.data.length) sl37 in5 rfl (by decide) rfl rfl (by omega) (by omega) (by omega) (by omega) (by simp only [maxLen]; omega) rfl) ?_))))))))))))))))))
  rintro _ w19 ⟨b50, rfl, m20, hk50, e50, s50, -⟩
  rw [rep_zero] at hk50
  have h50 : SB w19 b50 [p.data.length] [bvs (List.replicate p.data.length 0)] := ⟨by rw [fC, fN, aN]; exact hk50, by simp [bvs_length]⟩
  have h11 := (h11.k m17).k m20
  refine sv (xfld fl220_1 rfl) (suK (xstF 1 sz37 h11 rfl rfl rfl rfl rfl) ?_)
  rintro w22 ⟨m23, h11, s21⟩
  refine send (fig 0 1 2 6 8 9 11 12 rfl fun _ => wp_seq ?_)
  obtain rfl := hms (by omega)
  refine sdrawH (Fr (fun k => k = b50) w22.drew) [rd0, rd1, rd2, rd3, rd6, rd7, ld4, ld5, rd8] mixed (by kernel_rfl) (fun _ _ _ _ _ h => h) ?_
  have z24 : w22.drew.heap.size = w22.heap.size := rfl
  have h11 := h11.drew
  have zb_h11 := h11
  have hS25 : Fr (fun k => k = b50) w22.drew w22.drew := Fr.refl _ _
  have hm := rng_fr (rng_fr (rng_fr (rng_fr hm m17 (by omega) id) m20 (by omega) id) m23 (by omega) (nE (by omega))) (fd w22) (by omega) id
  have hG := (((hG.k0 m17 (by omega)).k0 m20 (by omega)).k1 m23 (by omega) (by omega)).k0 (fd w22) (by omega)
  have hf := (((hf.s m17).s m20).t m23 (by omega)).drew
  have h6 := (((h6.k m17).k m20).keep m23 (nE (by omega))).drew
  have hL4 := (((hL4.s m17).s m20).step m23 (fun k hk hS => by have hS : k = b11 := hS; show k = b6; omega)).drew
  have h50 := (h50.keep m23 (nE (by omega))).drew
  refine hvH rfl (fun _ _ => xfld fl220_1 rfl) hS25 (hvH rfl (fun w' hS => xld on37 rfl ((zb_h11.keep hS (nE (by omega))).r.c 1 rfl rfl)) hS25 (qqM rfl rfl hS25 (qqM rfl rfl hS25 (qqM rfl rfl hS25 (hvH rfl (fun _ _ => xconv hs22 ki3 rfl (w64 (by omega) (by omega))) hS25 ?_)))))
  refine hlKH rfl (xcutL (lo := off + (pairsL (ps.take k)).length + 2 + 2) sl37 sz5 rfl rfl (by omega) (by omega)) ?_
  rintro _ w22.drew ⟨o56, rfl, ho56, rfl⟩
  refine ⟨hS25, ?_⟩
  refine hlKH rfl (xcopyM (i := 0) sl37 sz5 rfl rfl (cpy_ba (rest_ba hm hnb ho56 (by omega) (by omega))) (drop_len _ hnb) h50 rfl (by simp [bvs_length]) rfl) ?_
  rintro _ w27 ⟨rfl, m28, hq57, hz57⟩
  have hS29 := hS25.step m28 nI
  have hm := rng_fr hm m28 (by omega) (nE (by omega))
  have hG := hG.k1 m28 (by omega) (by omega)
  have hf := hf.t m28 (by omega)
  have h6 := h6.keep m28 (nE (by omega))
  have hL4 := hL4.step m28 (fun k hk hS => by have hS : k = b50 := hS; show k = b6; omega)
  have h11 := h11.keep m28 (nE (by omega))
  refine ⟨hS29, ?_⟩
  refine hvPH rfl (fun _ _ => xneq rfl rfl) hS29 (fun hc60 => ?_) (fun hc60 => ?_)
  rotate_left
  ·
   refine hendH ((cno rfl (wp_skip (nThen (fig 0 1 2 6 8 9 11 12 rfl fun _ => ?_)))))
   have h50 := hq57 (by omega)
   rw [drop_take hdd (by omega)] at h50
   refine sreg (sM rfl (sM rfl (sv (xconv hs22 ki3 rfl (w64 (by omega) (by omega))) (sv (xadd rfl rfl (w64n (off + (pairsL (ps.take (k + 1))).length) (by omega) (by omega))) (sA rfl (send (fhg 0 1 2 6 8 9 11 rfl fun _ => ?_)))))))
   have hv3 : RX PairEl lPair NoU (b6 + 1) w27.heap.size w27 (.slice none 0 0) w27.heap.size 220 k (ps.take k) := by rw [hk0]; exact RX.ofNil (Rw.nil _ _ _ _)
   refine lreg (sM rfl (sv (xldS (lens := [1, 1]) ro220 rfl h11.r) (svK (xslit ((pairSegs p (.slice (some ⟨b50, 0, none⟩) p.data.length p.data.length)).flatten) sl216 in220 rfl (by decide) rfl rfl rfl rfl (by decide) rfl rfl) ?_)))
   rintro _ w51 ⟨b72, rfl, m52, h72, e72, s72, r72⟩
   have hv3 := RX.keep hv3 pair_st (fun k hk => by have hk := hU k hk; omega) (by omega) m52 (fun _ _ _ h => h) id
   obtain ⟨ss73, hR73, hA73⟩ := hv3
   refine svK (xapp sl216 in220 rfl (by decide) rfl rfl hR73 (r72.src sl216) (by simp only [maxLen]; omega) (by omega)) ?_
   rintro v73 w53 ⟨g73, r73, m54, a73, l73⟩
   have z55 := m54.size
   have h50 := (h50.k m52).keep m54 (by show ¬ (b50 = w27.heap.size); omega)
   have hv3 := RX.snoc (x := p) w53.heap.size hA73 pair_st pair_gr (fun k hk => by have hk := hU k hk; omega) (by omega) (by omega) m54 a73 r73 rfl (⟨_, rfl, _, _, rfl, fun _ => ⟨b50, 0, rfl, ⟨.inr ⟨by omega, by omega⟩, by omega⟩, h50.r.seg (i := 0) (k := 0) rfl rfl⟩⟩)
   have h6 := (h6.k m52).keep m54 (by show ¬ (b6 = w27.heap.size); omega)
   have hL4 := (hL4.s m52).step m54 (fun k hk hS => by have hS : k = w27.heap.size := hS; show k = b6; omega)
   refine sA rfl (lend (nBlock (nThen ?_)))
   refine ⟨(k + 1, _, g73), _, env_okl ⟨rfl, rfl, rfl, rfl, rfl, rfl, trivial⟩, ⟨hL4, (by omega), (by omega), (.inr ⟨by rw [take_snoc hpk]; exact RX.up pair_gr hv3 (by omega), by omega, l73 (by omega)⟩), (h6)⟩, ?_⟩
   show ps.length - (k + 1) < ps.length - k; omega
  refine hendH (fjg 0 1 2 6 8 9 11 12 60 rfl fun _ => cyes rfl ?_)
  refine sdrawI [(6, _)] ⟨rfl, trivial⟩ (fun (x : Option Addr) => match x with | xq => [(7, .iface 166 (.pointer xq))]) (fun (x : Option Addr) wx => match x with | xq => Fr (fun k => k = b6) w27 wx ∧ (SB wx b6 [1] [[.slice none 0 0]])) (Fr (fun k => k = b6) w27.drew) (.rd 0 (.rd 1 (.rd 2 (.two 3 (.lst [rd4, ld5, rd6]) 5 (.lst [ld3, rd4, rd6]))))) mixed (by kernel_rfl) ?_ ?_
  rotate_left
  ·
   rintro xq _ w48 ⟨hC, h6⟩
   have z49 := hC.size
   have hf := hf.t hC (by omega)
   refine fcg 6 7 rfl fun _ => wp_ret (rThen (rBlock (rThen (rBlock (rThen ?_)))))
   refine rp2 rfl ⟨_, rfl, ldS (lens := [1]) ro218 h6.r⟩ rfl ?_
   exact ⟨.inr ⟨by omega, _, _, rfl⟩, hf⟩
  have hC : Fr (fun k => k = b6) w27 w27 := Fr.refl _ _
  have z30 : w27.drew.heap.size = w27.heap.size := rfl
  have hS31 : Fr (fun k => k = b6) w27.drew w27.drew := Fr.refl _ _
  have hG := hG.k0 (fd w27) (by omega)
  refine hvT rfl (fun _ _ => xbuildS [[.slice none 0 0]] zr218 ly218 rfl trivial (by simp [setAll, zs218])) hS31 ?_
  obtain ⟨Tg62, xg62, eg62, hgc62, hgn62, hge62⟩ := hG.get 8 (by omega) (by omega)
  have hm := rng_fr hm (fd w27) (by omega) id
  have hf := hf.drew
  have h6 := h6.drew
  have hL4 := hL4.drew
  have h11 := h11.drew
  have hC := hC.drew
  refine hvT rfl (fun w' hS => xld on89 rfl (cell_keep hgc62 hS (by omega) (nE (by omega)))) hS31 ?_
  refine hvT rfl (fun _ _ => xbuildS [[_], [_]] zr168 ly168 rfl (by simp [fitAll, zs168, Value.cells]) rfl) hS31 ?_
  refine twoT ?_ ?_
  ·
   refine hlKT rfl (xboxS (lens := [1, 1]) rfl (by simp [])) ?_
   rintro _ w33 ⟨b64, rfl, m34, h64, e32, s32⟩
   have hS35 := hS31.s m34
   have h6 := h6.k m34
   refine ⟨hS35, ?_⟩
   refine lstT (hv rfl (fun _ _ => xmkif ni166 rfl) hS35 ?_)
   refine hluK rfl (xstW h6 (lens' := [1]) sz218 (by simp []) rfl rfl rfl rfl) ?_
   rintro w37 ⟨m38, h6, s36⟩
   have hS39 := hS35.step m38 nI
   have hC := (hC.s m34).step m38 nI
   refine ⟨hS39, ?_⟩
   refine ggA rfl rfl hS39 ?_
   exact ⟨rfl, _, _, env_okl ⟨rfl, rfl, trivial⟩, ⟨hC, (h6)⟩⟩
  refine hluKT rfl (xstW h6 (lens' := [1]) sz218 (by simp []) rfl rfl rfl rfl) ?_
  rintro w41 ⟨m42, h6, s40⟩
  have hS43 := hS31.step m42 nI
  refine ⟨hS43, ?_⟩
  refine lstT (hlK rfl (xboxS (lens := [1, 1]) rfl (by simp [])) ?_)
  rintro _ w45 ⟨b64, rfl, m46, h64, e44, s44⟩
  have hS47 := hS43.s m46
  have hC := (hC.step m42 nI).s m46
  have h6 := h6.k m46
  refine ⟨hS47, ?_⟩
  refine hv rfl (fun _ _ => xmkif ni166 rfl) hS47 (ggA rfl rfl hS47 ?_)
  exact ⟨rfl, _, _, env_okl ⟨rfl, rfl, trivial⟩, ⟨hC, (h6)⟩⟩
 obtain ⟨a3, c3, rfl⟩ := RA.form hv3
 refine wp_seq (sreg (sM rfl (sM rfl (sM rfl (sv (xconv hs22 ki3 rfl (w64 (by omega) (by omega))) (sv (xadd rfl rfl (w64n (off + (pairsL ps).length) (by omega) (by omega))) (svP (xlss rfl rfl) (fun hc19 => ?_) (fun hc19 => ?_))))))))
 rotate_left
 ·
  refine send ((cno rfl (wp_exit (eThen (eThen (eHit (nThen (fcg 6 8 rfl fun _ => sreg (sM rfl (sv (xbuildS [[.slice a3 k c3]] zr218 ly218 rfl (by simp [fitAll, zs218, Value.cells]) (by simp [setAll, zs218, Value.cells])) (suK (xstW h6 (lens' := [1]) sz218 (by simp []) rfl rfl rfl rfl) ?_)))))))))))
  rintro w143 ⟨m144, h6, s142⟩
  refine sA rfl (send (fcg 6 7 rfl fun _ => wp_ret (rp2 rfl ⟨_, rfl, ldS (lens := [1]) ro218 h6.r⟩ rfl ?_)))
  have hkl : ps.length ≤ k := by rcases Nat.lt_or_ge k ps.length with h | h; exact absurd (pairs_take_lt (List.getElem?_eq_getElem h)) (by omega); exact h
  have hke : ps.take k = ps := List.take_of_length_le hkl
  have hv3 := RX.keep hv3 pair_st (fun k hk => by have hk := hU k hk; omega) (by omega) m144 (fun k hk hk3 hS => by have hS : k = b6 := hS; rcases hk with hk | hk <;> first | omega | (have := hU k hk; omega)) (nE (by omega))
  rw [hke] at hv3 hkn
  have hf := hf.t m144 (by omega)
  exact ⟨.inl ⟨hkn, _, rfl, RX.la hv3 (by decide) pair_gr (fun k hk => hk.elim .inl (fun h => .inr ⟨by omega, by omega⟩)) (.inr ⟨by omega, by omega⟩)⟩, hf⟩
 refine send ((cyes rfl (wp_skip (nThen (fgg 0 1 2 6 8 9 rfl fun _ => wp_block ?_)))))
 have hkl : k < ps.length := by rcases Nat.lt_or_ge k ps.length with h | h; exact h; rw [List.take_of_length_le h] at hc19; omega
 obtain ⟨p, hpk⟩ := some_of_lt hkl
 have hpt := pairs_at hs hpk
 have hptl := pairs_take_lt hpk
 have hpk16 := u16lt p.key
 have hps1 : (pairsL (ps.take (k + 1))).length = (pairsL (ps.take k)).length + 4 + p.data.length := by rw [pairs_snoc hpk]; simp only [pairL, List.length_append, be16_length]; omega
 simp only [pairL] at hpt
 have hdd : Std b (off + (pairsL (ps.take k)).length + 2 + 2) p.data := (hpt.right' rfl).right' rfl
 refine sreg (sA rfl (send (fgg 0 1 2 6 8 9 rfl fun _ => sreg (svK (xallS (lens := [1, 1]) in220 (by simp [])) ?_))))
 rintro _ w77 ⟨b11, rfl, m78, h11, e76, s76⟩
 have hm := rng_fr hm m78 (by omega) id
 have hG := hG.k0 m78 (by omega)
 have hv3 := RX.keep hv3 pair_st (fun k hk => by have hk := hU k hk; omega) (by omega) m78 (fun _ _ _ h => h) id
 refine send (fhg 0 1 2 6 8 9 11 rfl fun _ => sreg (sM rfl (sM rfl (sc (xcall ca156 rfl) (c156 (b := b) (off := off + (pairsL (ps.take k)).length) (x := p.key.toNat) hms hm (by omega) hnb hkm hbl hG (by omega) hpk16 (hpt.left) (by omega)) ?_))))
 have hf := hf.s m78
 have h6 := h6.k m78
 rintro _ w79 ⟨⟨hle23, rfl⟩ | ⟨hgt23, T23, x23, rfl⟩, m80⟩
 rotate_left
 ·
  have z132 := m80.size
  have h11 := h11.k m80
  refine sM rfl (sE3 rfl (sv (xfld fl220_0 rfl) (suK (xstF 0 sz22 h11 rfl rfl rfl rfl rfl) ?_)))
  rintro w134 ⟨m135, h11, s133⟩
  have hv3 := RX.keep (RX.keep hv3 pair_st (fun k hk => by have hk := hU k hk; omega) (by omega) m80 (fun _ _ _ h => h) id) pair_st (fun k hk => by have hk := hU k hk; omega) (by omega) m135 (fun k hk hk3 hS => by have hS : k = b11 := hS; rcases hk with hk | hk <;> first | omega | (have := hU k hk; omega)) (nE (by omega))
  refine sA rfl (sA rfl (send ((wp_seq (sreg (sM rfl (sv (xneI if89 rfl) (send (fjg 0 1 2 6 8 9 10 11 29 rfl fun _ => cyes rfl (sreg (sv (xbuildS [[.slice none 0 0]] zr218 ly218 rfl trivial (by simp [setAll, zs218])) (sM rfl (sv (xbuildS [[_], [_]] zr168 ly168 rfl (by simp [fitAll, zs168, Value.cells]) rfl) (svK (xboxS (lens := [1, 1]) rfl (by simp [])) ?_))))))))))))))
  rintro _ w137 ⟨b33, rfl, m138, h33, e136, s136⟩
  have h6 := ((h6.k m80).keep m135 (nE (by omega))).k m138
  refine sv (xmkif ni166 rfl) (suK (xstW h6 (lens' := [1]) sz218 (by simp []) rfl rfl rfl rfl) ?_)
  rintro w140 ⟨m141, h6, s139⟩
  have hf := (((hf.s m80).t m135 (by omega)).s m138).t m141 (by omega)
  refine sA rfl (send (fcg 6 7 rfl fun _ => wp_ret (rThen (rBlock (rThen (rBlock (rThen (rp2 rfl ⟨_, rfl, ldS (lens := [1]) ro218 h6.r⟩ rfl ?_))))))))
  exact ⟨.inr ⟨by omega, _, _, rfl⟩, hf⟩
 have z81 := m80.size
 have h11 := h11.k m80
 refine sM rfl (sE3 rfl (sv (xfld fl220_0 rfl) (suK (xstF 0 sz22 h11 rfl rfl rfl rfl rfl) ?_)))
 rintro w83 ⟨m84, h11, s82⟩
 have hm := rng_fr (rng_fr hm m80 (by omega) id) m84 (by omega) (nE (by omega))
 have hG := (hG.k0 m80 (by omega)).k1 m84 (by omega) (by omega)
 have hv3 := RX.keep (RX.keep hv3 pair_st (fun k hk => by have hk := hU k hk; omega) (by omega) m80 (fun _ _ _ h => h) id) pair_st (fun k hk => by have hk := hU k hk; omega) (by omega) m84 (fun k hk hk3 hS => by have hS : k = b11 := hS; rcases hk with hk | hk <;> first | omega | (have := hU k hk; omega)) (nE (by omega))
 refine sA rfl (sA rfl (send ((wp_seq (sreg (sM rfl (sv (xneN if89 rfl) (send ((cno rfl (wp_skip (nThen ((sreg (sA rfl (send (fhg 0 1 2 6 8 9 11 rfl fun _ => sreg (sM rfl (sM rfl (sc (xcall ca156 rfl) (c156 (b := b) (off := off + (pairsL (ps.take k)).length + 2) (x := p.data.length) hms hm (by omega) hnb hkm hbl hG (by omega) (by omega) ((hpt.right' rfl).left) (by omega)) ?_))))))))))))))))))))
 have hf := (hf.s m80).t m84 (by omega)
 have h6 := (h6.k m80).keep m84 (nE (by omega))
 rintro _ w85 ⟨⟨hle38, rfl⟩ | ⟨hgt38, T38, x38, rfl⟩, m86⟩
 rotate_left
 ·
  have z125 := m86.size
  have hv3 := RX.keep hv3 pair_st (fun k hk => by have hk := hU k hk; omega) (by omega) m86 (fun _ _ _ h => h) id
  refine sM rfl (sE3 rfl (sA rfl (sA rfl (sA rfl (send ((wp_seq (sreg (sM rfl (sv (xneI if89 rfl) (send (fkg 0 1 2 6 8 9 10 11 12 43 rfl fun _ => cyes rfl (sreg (sv (xbuildS [[.slice none 0 0]] zr218 ly218 rfl trivial (by simp [setAll, zs218])) (sM rfl (sv (xbuildS [[_], [_]] zr168 ly168 rfl (by simp [fitAll, zs168, Value.cells]) rfl) (svK (xboxS (lens := [1, 1]) rfl (by simp [])) ?_)))))))))))))))))
  rintro _ w127 ⟨b47, rfl, m128, h47, e126, s126⟩
  have h6 := (h6.k m86).k m128
  refine sv (xmkif ni166 rfl) (suK (xstW h6 (lens' := [1]) sz218 (by simp []) rfl rfl rfl rfl) ?_)
  rintro w130 ⟨m131, h6, s129⟩
  have hf := ((hf.s m86).s m128).t m131 (by omega)
  refine sA rfl (send (fcg 6 7 rfl fun _ => wp_ret (rThen (rBlock (rThen (rBlock (rThen (rp2 rfl ⟨_, rfl, ldS (lens := [1]) ro218 h6.r⟩ rfl ?_))))))))
  exact ⟨.inr ⟨by omega, _, _, rfl⟩, hf⟩
 have z87 := m86.size
 have hv3 := RX.keep hv3 pair_st (fun k hk => by have hk := hU k hk; omega) (by omega) m86 (fun _ _ _ h => h) id
 refine sM rfl (sE3 rfl (sA rfl (sA rfl (sA rfl (send ((wp_seq (sreg (sM rfl (sv (xneN if89 rfl) (send ((cno rfl (wp_skip (nThen (fig 0 1 2 6 8 9 11 12 rfl fun _ => sreg (sM rfl (svK (xmake (lo := p.data.length) (hi := p.data.length) sl37 in5 rfl (by decide) rfl rfl (by omega) (by omega) (by omega) (by omega) (by simp only [maxLen]; omega) rfl) ?_))))))))))))))))))
 rintro _ w88 ⟨b50, rfl, m89, hk50, e50, s50, -⟩
 rw [rep_zero] at hk50
 have h50 : SB w88 b50 [p.data.length] [bvs (List.replicate p.data.length 0)] := ⟨by rw [fC, fN, aN]; exact hk50, by simp [bvs_length]⟩
 have h11 := (h11.k m86).k m89
 refine sv (xfld fl220_1 rfl) (suK (xstF 1 sz37 h11 rfl rfl rfl rfl rfl) ?_)
 rintro w91 ⟨m92, h11, s90⟩
 refine send (fig 0 1 2 6 8 9 11 12 rfl fun _ => wp_seq ?_)
 obtain rfl := hms (by omega)
 refine sdrawH (Fr (fun k => k = b50) w91.drew) [rd0, rd1, rd2, rd3, rd6, rd7, ld4, ld5, rd8] mixed (by kernel_rfl) (fun _ _ _ _ _ h => h) ?_
 have z93 : w91.drew.heap.size = w91.heap.size := rfl
 have h11 := h11.drew
 have zb_h11 := h11
 have hS94 : Fr (fun k => k = b50) w91.drew w91.drew := Fr.refl _ _
 have hL4 := ((((((hL4.s m78).s m80).step m84 (fun k hk hS => by have hS : k = b11 := hS; show k = b6; omega)).s m86).s m89).step m92 (fun k hk hS => by have hS : k = b11 := hS; show k = b6; omega)).drew
 have hm := rng_fr (rng_fr (rng_fr (rng_fr hm m86 (by omega) id) m89 (by omega) id) m92 (by omega) (nE (by omega))) (fd w91) (by omega) id
 have hG := (((hG.k0 m86 (by omega)).k0 m89 (by omega)).k1 m92 (by omega) (by omega)).k0 (fd w91) (by omega)
 have hf := (((hf.s m86).s m89).t m92 (by omega)).drew
 have h6 := (((h6.k m86).k m89).keep m92 (nE (by omega))).drew
 have hv3 := RX.keep (RX.keep (RX.keep hv3 pair_st (fun k hk => by have hk := hU k hk; omega) (by omega) m89 (fun _ _ _ h => h) id) pair_st (fun k hk => by have hk := hU k hk; omega) (by omega) m92 (fun k hk hk3 hS => by have hS : k = b11 := hS; rcases hk with hk | hk <;> first | omega | (have := hU k hk; omega)) (nE (by omega))) pair_st (fun k hk => by have hk := hU k hk; omega) (by omega) (fd w91) (fun _ _ _ h => h) id
 have h50 := (h50.keep m92 (nE (by omega))).drew
 refine hvH rfl (fun _ _ => xfld fl220_1 rfl) hS94 (hvH rfl (fun w' hS => xld on37 rfl ((zb_h11.keep hS (nE (by omega))).r.c 1 rfl rfl)) hS94 (qqM rfl rfl hS94 (qqM rfl rfl hS94 (qqM rfl rfl hS94 (hvH rfl (fun _ _ => xconv hs22 ki3 rfl (w64 (by omega) (by omega))) hS94 ?_)))))
 refine hlKH rfl (xcutL (lo := off + (pairsL (ps.take k)).length + 2 + 2) sl37 sz5 rfl rfl (by omega) (by omega)) ?_
 rintro _ w91.drew ⟨o56, rfl, ho56, rfl⟩
 refine ⟨hS94, ?_⟩
 refine hlKH rfl (xcopyM (i := 0) sl37 sz5 rfl rfl (cpy_ba (rest_ba hm hnb ho56 (by omega) (by omega))) (drop_len _ hnb) h50 rfl (by simp [bvs_length]) rfl) ?_
 rintro _ w96 ⟨rfl, m97, hq57, hz57⟩
 have hS98 := hS94.step m97 nI
 have hf := hf.t m97 (by omega)
 have h6 := h6.keep m97 (nE (by omega))
 have hL4 := hL4.step m97 (fun k hk hS => by have hS : k = b50 := hS; show k = b6; omega)
 have hv3 := RX.keep hv3 pair_st (fun k hk => by have hk := hU k hk; omega) (by omega) m97 (fun k hk hk3 hS => by have hS : k = b50 := hS; rcases hk with hk | hk <;> first | omega | (have := hU k hk; omega)) (nE (by omega))
 have h11 := h11.keep m97 (nE (by omega))
 refine ⟨hS98, ?_⟩
 refine hvPH rfl (fun _ _ => xneq rfl rfl) hS98 (fun hc60 => ?_) (fun hc60 => ?_)
 rotate_left
 ·
  refine hendH ((cno rfl (wp_skip (nThen (fig 0 1 2 6 8 9 11 12 rfl fun _ => ?_)))))
  have h50 := hq57 (by omega)
  rw [drop_take hdd (by omega)] at h50
  refine sreg (sM rfl (sM rfl (sv (xconv hs22 ki3 rfl (w64 (by omega) (by omega))) (sv (xadd rfl rfl (w64n (off + (pairsL (ps.take (k + 1))).length) (by omega) (by omega))) (sA rfl (send (fhg 0 1 2 6 8 9 11 rfl fun _ => lreg (sM rfl (sv (xldS (lens := [1, 1]) ro220 rfl h11.r) (svK (xslit ((pairSegs p (.slice (some ⟨b50, 0, none⟩) p.data.length p.data.length)).flatten) sl216 in220 rfl (by decide) rfl rfl rfl rfl (by decide) rfl rfl) ?_))))))))))
  rintro _ w120 ⟨b72, rfl, m121, h72, e72, s72, r72⟩
  have hv3 := RX.keep hv3 pair_st (fun k hk => by have hk := hU k hk; omega) (by omega) m121 (fun _ _ _ h => h) id
  obtain ⟨ss73, hR73, hA73⟩ := hv3
  refine svK (xapp sl216 in220 rfl (by decide) rfl rfl hR73 (r72.src sl216) (by simp only [maxLen]; omega) (by omega)) ?_
  rintro v73 w122 ⟨g73, r73, m123, a73, l73⟩
  have z124 := m123.size
  have h50 := (h50.k m121).keep m123 (nE (by omega))
  have hv3 := RX.snoc (x := p) w122.heap.size hA73 pair_st pair_gr (fun k hk => by have hk := hU k hk; omega) (by omega) (by omega) m123 a73 r73 rfl (⟨_, rfl, _, _, rfl, fun _ => ⟨b50, 0, rfl, ⟨.inr ⟨by omega, by omega⟩, by omega⟩, h50.r.seg (i := 0) (k := 0) rfl rfl⟩⟩)
  have h6 := (h6.k m121).keep m123 (nE (by omega))
  have hL4 := (hL4.s m121).step m123 (fun k hk hS => by have hS : k = g := hS; show k = b6; omega)
  refine sA rfl (lend (nBlock (nThen ?_)))
  refine ⟨(k + 1, _, g73), _, env_okl ⟨rfl, rfl, rfl, rfl, rfl, rfl, trivial⟩, ⟨hL4, (by omega), (by omega), (.inr ⟨by rw [take_snoc hpk]; exact RX.up pair_gr hv3 (by omega), by omega, l73 (by omega)⟩), (h6)⟩, ?_⟩
  show ps.length - (k + 1) < ps.length - k; omega
 refine hendH (fjg 0 1 2 6 8 9 11 12 60 rfl fun _ => cyes rfl ?_)
 refine sdrawI [(6, _)] ⟨rfl, trivial⟩ (fun (x : Option Addr) => match x with | xq => [(7, .iface 166 (.pointer xq))]) (fun (x : Option Addr) wx => match x with | xq => Fr (fun k => k = b6) w96 wx ∧ (SB wx b6 [1] [[.slice none 0 0]])) (Fr (fun k => k = b6) w96.drew) (.rd 0 (.rd 1 (.rd 2 (.two 3 (.lst [rd4, ld5, rd6]) 5 (.lst [ld3, rd4, rd6]))))) mixed (by kernel_rfl) ?_ ?_
 rotate_left
 ·
  rintro xq _ w117 ⟨hC, h6⟩
  have z118 := hC.size
  have hf := hf.t hC (by omega)
  refine fcg 6 7 rfl fun _ => wp_ret (rThen (rBlock (rThen (rBlock (rThen ?_)))))
  refine rp2 rfl ⟨_, rfl, ldS (lens := [1]) ro218 h6.r⟩ rfl ?_
  exact ⟨.inr ⟨by omega, _, _, rfl⟩, hf⟩
 have hC : Fr (fun k => k = b6) w96 w96 := Fr.refl _ _
 have z99 : w96.drew.heap.size = w96.heap.size := rfl
 have hS100 : Fr (fun k => k = b6) w96.drew w96.drew := Fr.refl _ _
 have hG := (hG.k1 m97 (by omega) (by omega)).k0 (fd w96) (by omega)
 refine hvT rfl (fun _ _ => xbuildS [[.slice none 0 0]] zr218 ly218 rfl trivial (by simp [setAll, zs218])) hS100 ?_
 obtain ⟨Tg62, xg62, eg62, hgc62, hgn62, hge62⟩ := hG.get 8 (by omega) (by omega)
 have hf := hf.drew
 have h6 := h6.drew
 have hL4 := hL4.drew
 have hv3 := RX.keep hv3 pair_st (fun k hk => by have hk := hU k hk; omega) (by omega) (fd w96) (fun _ _ _ h => h) id
 have h11 := h11.drew
 have hC := hC.drew
 refine hvT rfl (fun w' hS => xld on89 rfl (cell_keep hgc62 hS (by omega) (nE (by omega)))) hS100 ?_
 refine hvT rfl (fun _ _ => xbuildS [[_], [_]] zr168 ly168 rfl (by simp [fitAll, zs168, Value.cells]) rfl) hS100 ?_
 refine twoT ?_ ?_
 ·
  refine hlKT rfl (xboxS (lens := [1, 1]) rfl (by simp [])) ?_
  rintro _ w102 ⟨b64, rfl, m103, h64, e101, s101⟩
  have hS104 := hS100.s m103
  have h6 := h6.k m103
  refine ⟨hS104, ?_⟩
  refine lstT (hv rfl (fun _ _ => xmkif ni166 rfl) hS104 ?_)
  refine hluK rfl (xstW h6 (lens' := [1]) sz218 (by simp []) rfl rfl rfl rfl) ?_
  rintro w106 ⟨m107, h6, s105⟩
  have hS108 := hS104.step m107 nI
  have hC := (hC.s m103).step m107 nI
  refine ⟨hS108, ?_⟩
  refine ggA rfl rfl hS108 ?_
  exact ⟨rfl, _, _, env_okl ⟨rfl, rfl, trivial⟩, ⟨hC, (h6)⟩⟩
 refine hluKT rfl (xstW h6 (lens' := [1]) sz218 (by simp []) rfl rfl rfl rfl) ?_
 rintro w110 ⟨m111, h6, s109⟩
 have hS112 := hS100.step m111 nI
 refine ⟨hS112, ?_⟩
 refine lstT (hlK rfl (xboxS (lens := [1, 1]) rfl (by simp [])) ?_)
 rintro _ w114 ⟨b64, rfl, m115, h64, e113, s113⟩
 have hS116 := hS112.s m115
 have hC := (hC.step m111 nI).s m115
 have h6 := h6.k m115
 refine ⟨hS116, ?_⟩
 refine hv rfl (fun _ _ => xmkif ni166 rfl) hS116 (ggA rfl rfl hS116 ?_)
 exact ⟨rfl, _, _, env_okl ⟨rfl, rfl, trivial⟩, ⟨hC, (h6)⟩⟩
end Go.Proofs.YtifnodoffgfpbaaGreatDoor

namespace Go.Proofs.YtifnodoffgfpbaaGreatDoor
open Go

def dataL (ps : List PairD) : List UInt8 := (ps.map (·.data)).flatten
theorem dataL_snoc {ps : List PairD} {k : Nat} {p : PairD} (h : ps[k]? = some p) : dataL (ps.take (k + 1)) = dataL (ps.take k) ++ p.data := by
  rw [dataL, take_snoc h, List.map_append, List.flatten_append]; simp [dataL]
theorem dataL_le (ps : List PairD) : (dataL ps).length + 4 * ps.length = (pairsL ps).length := by
  rw [pairsL_length, dataL, List.length_flatten, List.map_map]; simp [Function.comp_def]; omega
theorem dataL_split {ps : List PairD} {k : Nat} {p : PairD} (h : ps[k]? = some p) : dataL ps = dataL (ps.take k) ++ (p.data ++ dataL (ps.drop (k + 1))) := by
  have e : ps = ps.take k ++ (p :: ps.drop (k + 1)) := by
    have h1 : k < ps.length := (List.getElem?_eq_some_iff.1 h).1
    have h2 : ps[k] = p := (List.getElem?_eq_some_iff.1 h).2
    rw [← h2, List.getElem_cons_drop, List.take_append_drop]
  conv => lhs; rw [e]
  simp [dataL]
theorem one3 (x : Int) (S : List UInt8) (v : Value) (h : v.oneCell' = true) : ([[Value.int .u16 x], nm S, [v]].flatten.all (·.oneCell')) = true := by
  simp only [List.flatten_cons, List.flatten_nil, List.all_append, List.append_nil, nm_one, Bool.true_and, List.all_cons, List.all_nil, h]; rfl
def PDone (bv : Nat) (ps : List PairD) (k : Nat) (ss : List (List (List Value))) : Prop :=
  ss.length = k ∧ ∀ (j : Nat) s p, ss[j]? = some s → ps[j]? = some p → ∃ o, s = pairSegs p (.slice (some ⟨bv, o, none⟩) p.data.length p.data.length) ∧ (p.data ≠ [] → o = (dataL (ps.take j)).length)
theorem PDone.nil (bv : Nat) (ps : List PairD) : PDone bv ps 0 [] := ⟨rfl, fun j s p h => by simp at h⟩
theorem PDone.snoc {bv k o : Nat} {ps : List PairD} {p : PairD} {ss : List (List (List Value))} (h : PDone bv ps k ss) (hp : ps[k]? = some p) (ho : p.data ≠ [] → o = (dataL (ps.take k)).length) :
    PDone bv ps (k + 1) (ss ++ [pairSegs p (.slice (some ⟨bv, o, none⟩) p.data.length p.data.length)]) := by
  refine ⟨by simp [h.1], fun j s q hs hq => ?_⟩
  by_cases hj : j < ss.length
  · rw [List.getElem?_append_left hj] at hs
    exact h.2 j s q hs hq
  · rw [List.getElem?_append_right (by omega)] at hs
    have hjk : j = k := by
      have := (List.getElem?_eq_some_iff.1 hs).1
      simp at this; have := h.1; omega
    subst hjk
    rw [h.1, Nat.sub_self] at hs
    simp only [List.getElem?_cons_zero, Option.some.injEq] at hs
    rw [hp] at hq
    simp only [Option.some.injEq] at hq
    subst hq
    exact ⟨o, hs.symm, ho⟩
theorem PDone.len {bv k : Nat} {ps : List PairD} {ss : List (List (List Value))} (h : PDone bv ps k ss) (hk : k ≤ ps.length) : ∀ s ∈ ss, s.map List.length = lPair := fun s hs => by
  obtain ⟨j, hj, rfl⟩ := List.mem_iff_getElem.1 hs
  have := h.1
  obtain ⟨o, e, -⟩ := h.2 j _ _ (List.getElem?_eq_getElem hj) (List.getElem?_eq_getElem (show j < ps.length by omega))
  rw [e]; rfl
def PRow (w : World) (bp bv : Nat) (ps : List PairD) (k : Nat) : Prop :=
  ∃ ss T, PDone bv ps k ss ∧ w.heap[bp]? = some (.cells ((ss.map List.flatten).flatten ++ (List.replicate (ps.length - k) [Value.int .u16 0, .slice none 0 0]).flatten).toArray T (0, 0))
theorem PRow.keep {S : Nat → Prop} {w w' : World} {bp bv k : Nat} {ps : List PairD} (h : PRow w bp bv ps k) (m : Fr S w w') (hn : ¬ S bp) : PRow w' bp bv ps k := by
  obtain ⟨ss, T, h1, h2⟩ := h
  exact ⟨ss, T, h1, (m.block bp (Array.getElem?_eq_some_iff.1 h2).1 hn).trans h2⟩
theorem PRow.k {w w' : World} {bp bv k : Nat} {ps : List PairD} (h : PRow w bp bv ps k) (m : Fr0 w w') : PRow w' bp bv ps k := h.keep m id
theorem PRow.open {w : World} {bp bv k : Nat} {ps : List PairD} (h : PRow w bp bv ps k) (hk : k < ps.length) :
    ∃ ss T, PDone bv ps k ss ∧ (ss.map List.flatten).flatten.length = 0 + k * 2 ∧ SE w bp T (ss.map List.flatten).flatten lPair [[.int .u16 0], [.slice none 0 0]] (List.replicate (ps.length - (k + 1)) [Value.int .u16 0, .slice none 0 0]).flatten := by
  obtain ⟨ss, T, h1, h2⟩ := h
  refine ⟨ss, T, h1, ?_, ?_, rfl⟩
  · rw [flat_len (h1.len (by omega)), h1.1]; simp
  · rw [h2, show ps.length - k = (ps.length - (k + 1)) + 1 by omega, List.replicate_succ, List.flatten_cons]; rfl
theorem PRow.close {w : World} {bp bv k o T : Nat} {ps : List PairD} {p : PairD} {ss : List (List (List Value))} (h1 : PDone bv ps k ss) (hp : ps[k]? = some p) (ho : p.data ≠ [] → o = (dataL (ps.take k)).length)
    (h : SE w bp T (ss.map List.flatten).flatten lPair (pairSegs p (.slice (some ⟨bv, o, none⟩) p.data.length p.data.length)) (List.replicate (ps.length - (k + 1)) [Value.int .u16 0, .slice none 0 0]).flatten) : PRow w bp bv ps (k + 1) := by
  refine ⟨_, T, h1.snoc hp ho, ?_⟩
  rw [h.1]
  simp only [List.map_append, List.map_cons, List.map_nil, List.flatten_append, List.flatten_cons, List.flatten_nil, List.append_nil, List.append_assoc]
theorem PRow.new {w : World} {bp bv : Nat} {ps : List PairD} (h : Blk w bp (List.replicate ps.length [Value.int .u16 0, .slice none 0 0]).flatten) : PRow w bp bv ps 0 := by
  obtain ⟨T, h⟩ := h
  exact ⟨[], T, PDone.nil _ _, by simpa using h⟩
theorem PRow.la {U : Nat → Prop} {w : World} {bp bv c : Nat} {ps : List PairD} (h : PRow w bp bv ps ps.length) (hV : Blk w bv (bvs (dataL ps))) (hp : U bp) (hv : U bv) : LA PairEl lPair U w (.slice (some ⟨bp, 0, none⟩) ps.length c) ps := by
  obtain ⟨ss, T, h1, h2⟩ := h
  refine ⟨_, c, rfl, fun _ => ⟨bp, 0, rfl, hp, fun i x hx => ?_⟩⟩
  have hi : i < ps.length := (List.getElem?_eq_some_iff.1 hx).1
  have hil : i < ss.length := by rw [h1.1]; exact hi
  obtain ⟨o, e1, ho⟩ := h1.2 i _ x (List.getElem?_eq_getElem hil) hx
  have e : ss = ss.take i ++ (ss[i] :: ss.drop (i + 1)) := by rw [List.getElem_cons_drop, List.take_append_drop]
  have hpre : ((ss.take i).map List.flatten).flatten.length = 0 + i * lPair.sum := by
    rw [flat_len (fun s hs => h1.len (Nat.le_refl _) s (List.mem_of_mem_take hs)), List.length_take, Nat.min_eq_left (by omega)]; omega
  have hB : Blk w bp (((ss.take i).map List.flatten).flatten ++ (ss[i].flatten ++ (((ss.drop (i + 1)).map List.flatten).flatten ++ (List.replicate (ps.length - ps.length) [Value.int .u16 0, .slice none 0 0]).flatten))) := by
    refine ⟨T, ?_⟩
    rw [h2]
    conv => lhs; rw [e]
    simp only [List.map_append, List.map_cons, List.flatten_append, List.flatten_cons, List.append_assoc]
  refine ⟨ss[i], ⟨hB.mid hpre, by rw [e1]; rfl⟩, _, e1, ?_⟩
  refine ⟨_, _, rfl, fun hne => ⟨bv, o, rfl, hv, ?_⟩⟩
  rw [ho hne]
  rw [dataL_split hx, bvs_app, bvs_app] at hV
  exact hV.mid (by rw [bvs_length])
section
variable {P : Program} {n : Nat} {l : List (Nat × Value)} {w : World} {ty : TypeId} {x y : Operand}
theorem xcutLx {T E : TypeId} {sz b o m c lo : Nat} {k : IntKind} {i : Int} {p : Operand} (hT : slcB P T E = true) (hE : szB P E sz = true) (hx : ev n l x = some (.slice (some ⟨b, o, none⟩) m c))
    (hp : ev n l p = some (.int k i)) (hi' : i = (lo : Int)) (h1 : lo ≤ m) :
    ExK P n l (.slice T x (some p) none none) ty w (fun u w' => ∃ o', u = .slice (some ⟨b, o', none⟩) (m - lo) (c - lo) ∧ (lo < c → o' = o + lo * sz) ∧ (c = lo → o' = o) ∧ w' = w) := by
  subst hi'
  have hs := szB_spec hE
  cases hi' : P.info? E with
  | none => rw [hi'] at hs; cases hs
  | some u =>
    rw [hi'] at hs
    simp only [Option.map_some, Option.some.injEq] at hs
    refine ⟨.slice (some ⟨b, if c = lo then o else o + lo * sz, none⟩) (m - lo) (c - lo), w, fun r _ _ _ _ => ?_, _, rfl, fun h => if_neg (by omega), fun h => if_pos h, rfl⟩
    simp only [execOp, ev_eval r hx]
    simp [Instr.sliceAt, Instr.slice, run_underlying (slcB_spec hT), Instr.sliceBounds, ev_eval r hp, run_sb h1, sizeOf, typeInfo, hi', hs, addr_add]
    split <;> simp_all
end

theorem c204 {w : World} {a : Option Addr} {bm om km n : Nat} {b : List UInt8} (hms : n ≠ 0 → a = some ⟨bm, om, none⟩) (hm : w.rangeAt bm om (bvs (b.take n))) (hbm : bm < w.heap.size) (hnb : n ≤ b.length) (hkm : n ≤ km) (hbl : b.length < 100000000) (hG : GE w) (hsz : 21 ≤ w.heap.size) {K off e : Nat} {S : List UInt8} {ka : Nat} (la : ka < 65536) (hs : Std b off (be16 ka)) (hN : NameAt b K (off + 2) S e) (hS0 : nameL S) (hK : K ≤ 10) (hKn : K = 0 ∨ n = b.length) {ps : List PairD} {len : Nat} (hps : Std b e (pairsL ps)) (hasc : asc ps) (hlen : off + len = e + (pairsL ps).length) (hl16 : len < 65536) (hL : (pairsL ps).length < 65536) (hle : e + (pairsL ps).length ≤ b.length) :
  Ret PP 204 [.slice a n km, .int .i64 (off : Int), .int .u16 (len : Int)] w (fun u w' => ((e + (pairsL ps).length ≤ n ∧ ∃ v, u = .tuple #[ag [[.int .u16 (ka : Int)], nm S, [v]], .nilIface] ∧ LA PairEl lPair (Ub NoU w w') w' v ps) ∨ (n < e + (pairsL ps).length ∧ ∃ (T : TypeId) (x : Option Addr), u = .tuple #[ag [[.int .u16 0], nm [], [.slice none 0 0]], .iface T (.pointer x)])) ∧ Fr0 w w') := by
 have hNl := (show NameR b (off + 2) K (off + 2) (txt S) e from hN).le
 have hdl := dataL_le ps
 have hf : Fr (fun _ => False) w w := Fr.refl _ _
 refine ret_of Tryz.func204 rfl rfl rfl [(0, _), (1, _), (2, _)] rfl ?_
 refine sreg (svK (xallS (lens := [1, 256, 1]) in224 (by simp [nm_length])) ?_)
 rintro _ w2 ⟨b6, rfl, m3, h6, e1, s1⟩
 refine sA rfl (send (feg 0 1 2 6 rfl fun _ => sreg (sv (xbuildS [[.int .u16 0], nm [], [.slice none 0 0]] zr224 ly224 rfl trivial (by simp [setAll, zs224])) (svK (xallS (lens := [1, 256, 1]) in224 (by simp [nm_length])) ?_))))
 rintro _ w5 ⟨b8, rfl, m6, h8, e4, s4⟩
 refine suK (xstW h8 (lens' := [1, 256, 1]) sz224 (by simp [nm_length]) rfl (by simp only [fC, fN, aA, aN, nm_one, bT] <;> rfl) rfl rfl) ?_
 rintro w8 ⟨m9, h8, s7⟩
 have hm := rng_fr (rng_fr (rng_fr hm m3 (by omega) id) m6 (by omega) id) m9 (by omega) (nE (by omega))
 have hG := ((hG.k0 m3 (by omega)).k0 m6 (by omega)).k1 m9 (by omega) (by omega)
 refine send ((sreg (sM rfl (sA rfl (send ((sreg (sM rfl (sM rfl (sv (xconv hs22 ki3 rfl (w64 (by omega) (by omega))) (sv (xadd rfl rfl (w64n (e + (pairsL ps).length) (by omega) (by omega))) (sA rfl (send ((sreg (sA rfl (send (ffg 0 6 8 9 10 rfl fun _ => wp_seq (sreg (sM rfl (sM rfl (sc (xcall ca156 rfl) (c156 (b := b) (off := off) (x := ka) hms hm (by omega) hnb hkm hbl hG (by omega) la (hs) (by omega)) ?_))))))))))))))))))))))
 have hf := ((hf.s m3).s m6).t m9 (by omega)
 have h6 := (h6.k m6).keep m9 (nE (by omega))
 rintro _ w10 ⟨⟨hle31, rfl⟩ | ⟨hgt31, T31, x31, rfl⟩, m11⟩
 rotate_left
 ·
  have z123 := m11.size
  have h8 := h8.k m11
  refine sM rfl (sE3 rfl (sv (xfld fl224_0 rfl) (suK (xstF 0 sz22 h8 rfl rfl rfl rfl rfl) ?_)))
  rintro w125 ⟨m126, h8, s124⟩
  refine sA rfl (sA rfl (send ((sreg (sM rfl (sv (xneI if89 rfl) (send (fhg 0 6 8 9 10 11 37 rfl fun _ => cyes rfl (sreg (sv (xbuildS [[.int .u16 0], nm [], [.slice none 0 0]] zr224 ly224 rfl trivial (by simp [setAll, zs224])) (sM rfl (sv (xbuildS [[_], [_]] zr168 ly168 rfl (by simp [fitAll, zs168, Value.cells]) rfl) (svK (xboxS (lens := [1, 1]) rfl (by simp [])) ?_)))))))))))))
  rintro _ w128 ⟨b41, rfl, m129, h41, e127, s127⟩
  have h6 := ((h6.k m11).keep m126 (nE (by omega))).k m129
  refine sv (xmkif ni166 rfl) (suK (xstW h6 (lens' := [1, 256, 1]) sz224 (by simp [nm_length]) rfl (by simp only [fC, fN, aA, aN, nm_one, bT] <;> rfl) rfl rfl) ?_)
  rintro w131 ⟨m132, h6, s130⟩
  have hf := (((hf.s m11).t m126 (by omega)).s m129).t m132 (by omega)
  refine sA rfl (send (fcg 6 7 rfl fun _ => wp_ret (rThen (rp2 rfl ⟨_, rfl, ldS (lens := [1, 256, 1]) ro224 h6.r⟩ rfl ?_))))
  exact ⟨.inr ⟨by omega, _, _, rfl⟩, hf⟩
 have z12 := m11.size
 have h8 := h8.k m11
 refine sM rfl (sE3 rfl (sv (xfld fl224_0 rfl) (suK (xstF 0 sz22 h8 rfl rfl rfl rfl rfl) ?_)))
 rintro w14 ⟨m15, h8, s13⟩
 have hm := rng_fr (rng_fr hm m11 (by omega) id) m15 (by omega) (nE (by omega))
 have hG := (hG.k0 m11 (by omega)).k1 m15 (by omega) (by omega)
 refine sA rfl (sA rfl (send ((sreg (sM rfl (sv (xneN if89 rfl) (send ((cno rfl (wp_skip (nThen (ffg 0 6 8 9 10 rfl fun _ => wp_seq (sreg (sv (xfld fl224_1 rfl) (sM rfl (sM rfl (sc (xcall ca105 rfl) (c105 (b := b) (bp := b8) (q := 1) (ip := 1) (K := K) (off := off + 2) (e := e) (S := S) hms hm (by omega) hnb hkm hbl hG (by omega) h8 (by omega) (by omega) rfl rfl hN hS0 hK hKn) ?_)))))))))))))))))
 have hf := (hf.s m11).t m15 (by omega)
 have h6 := (h6.k m11).keep m15 (nE (by omega))
 rintro _ w16 ⟨⟨hle47, rfl, h8⟩ | ⟨hgt47, ⟨T47, x47, rfl⟩, o47, h8⟩, m17⟩
 rotate_left
 ·
  have z116 := m17.size
  refine sM rfl (sE2 rfl (sA rfl (sA rfl (send ((sreg (sM rfl (sv (xneI if89 rfl) (send (fhg 0 6 8 9 10 11 51 rfl fun _ => cyes rfl (sreg (sv (xbuildS [[.int .u16 0], nm [], [.slice none 0 0]] zr224 ly224 rfl trivial (by simp [setAll, zs224])) (sM rfl (sv (xbuildS [[_], [_]] zr168 ly168 rfl (by simp [fitAll, zs168, Value.cells]) rfl) (svK (xboxS (lens := [1, 1]) rfl (by simp [])) ?_)))))))))))))))
  rintro _ w118 ⟨b55, rfl, m119, h55, e117, s117⟩
  have h6 := (h6.keep m17 (nE (by omega))).k m119
  refine sv (xmkif ni166 rfl) (suK (xstW h6 (lens' := [1, 256, 1]) sz224 (by simp [nm_length]) rfl (by simp only [fC, fN, aA, aN, nm_one, bT] <;> rfl) rfl rfl) ?_)
  rintro w121 ⟨m122, h6, s120⟩
  have hf := ((hf.t m17 (by omega)).s m119).t m122 (by omega)
  refine sA rfl (send (fcg 6 7 rfl fun _ => wp_ret (rThen (rp2 rfl ⟨_, rfl, ldS (lens := [1, 256, 1]) ro224 h6.r⟩ rfl ?_))))
  exact ⟨.inr ⟨by omega, _, _, rfl⟩, hf⟩
 have z18 := m17.size
 have h8 : SB w16 b8 [1, 256, 1] ([[.int .u16 (ka : Int)], nm S, [.slice none 0 0]]) := h8
 have h6 := h6.keep m17 (nE (by omega))
 have hG := hG.k1 m17 (by omega) (by omega)
 refine sM rfl (sE2 rfl (sA rfl (sA rfl (send ((sreg (sM rfl (sv (xneN if89 rfl) (send ((cno rfl (wp_skip (nThen ((sreg (sA rfl (send (fgg 0 6 8 9 10 12 rfl fun _ => sreg (sA rfl (send ((sreg (sM rfl (sA rfl (send ((sreg (sA rfl (send (fjg 0 1 6 8 9 10 12 13 14 rfl fun _ => wp_seq (wp_block (lp [(0, _), (6, _), (8, _), (9, _), (10, _), (14, _)] (fun (k : Nat) => [(1, .int .i64 ((e + (pairsL (ps.take k)).length : Nat) : Int)), (12, .int .i64 (k : Int)), (13, .int .u16 ((dataL (ps.take k)).length : Int))]) (fun (k : Nat) wx => Fr (fun k => k = b6) w16 wx ∧ (k ≤ ps.length) ∧ (SB wx b6 [1, 256, 1] [[.int .u16 0], nm [], [.slice none 0 0]])) (fun (k : Nat) => ps.length - k) 0 ⟨rfl, rfl, rfl, rfl, rfl, rfl, rfl, rfl, rfl, trivial⟩ ⟨Fr.refl _ _, Nat.zero_le _, h6⟩ ?_))))))))))))))))))))))))))))))))
 rintro k _ w20 ⟨hL19, hk, h6⟩
 refine fjg 0 1 6 8 9 10 12 13 14 rfl fun _ => ?_
 have z21 := hL19.size
 have hdk := dataL_le (ps.take k)
 have hm := rng_fr (rng_fr hm m17 (by omega) (nE (by omega))) hL19 (by omega) (nE (by omega))
 have hf := (hf.t m17 (by omega)).t hL19 (by omega)
 have hG := hG.k1 hL19 (by omega) (by omega)
 have h8 := h8.keep hL19 (nE (by omega))
 refine wp_seq (sreg (sM rfl (sM rfl (svP (xlss rfl rfl) (fun hc60 => ?_) (fun hc60 => ?_)))))
 ·
  refine send ((cyes rfl (wp_skip (nThen (fjg 0 1 6 8 9 10 12 13 14 rfl fun _ => wp_block ?_)))))
  have hkl : k < ps.length := by rcases Nat.lt_or_ge k ps.length with h | h; exact h; rw [List.take_of_length_le h] at hc60; omega
  obtain ⟨p, hpk⟩ := some_of_lt hkl
  have hpt := pairs_at hps hpk
  have hptl := pairs_take_lt hpk
  have hpk16 := u16lt p.key
  have hps1 : (pairsL (ps.take (k + 1))).length = (pairsL (ps.take k)).length + 4 + p.data.length := by rw [pairs_snoc hpk]; simp only [pairL, List.length_append, be16_length]; omega
  have hds1 : (dataL (ps.take (k + 1))).length = (dataL (ps.take k)).length + p.data.length := by rw [dataL_snoc hpk, List.length_append]
  have hdl1 := dataL_le (ps.take (k + 1))
  have hdsp := congrArg List.length (dataL_split hpk)
  simp only [List.length_append] at hdsp
  simp only [pairL] at hpt
  have hdd : Std b (e + (pairsL (ps.take k)).length + 2 + 2) p.data := (hpt.right' rfl).right' rfl
  refine sreg (sA rfl (sA rfl (send (fjg 0 1 6 8 9 10 12 13 14 rfl fun _ => wp_seq (sreg (sM rfl (sM rfl (sc (xcall ca156 rfl) (c156 (b := b) (off := e + (pairsL (ps.take k)).length) (x := p.key.toNat) hms hm (by omega) hnb hkm hbl hG (by omega) hpk16 (hpt.left) (by omega)) ?_))))))))
  rintro _ w22 ⟨⟨hle64, rfl⟩ | ⟨hgt64, T64, x64, rfl⟩, m23⟩
  rotate_left
  ·
   have z45 := m23.size
   refine sM rfl (sE3 rfl (sA rfl (sA rfl (sA rfl (send ((sreg (sM rfl (sv (xneI if89 rfl) (send (fmg 0 1 6 8 9 10 11 12 13 14 15 69 rfl fun _ => cyes rfl (sreg (sv (xbuildS [[.int .u16 0], nm [], [.slice none 0 0]] zr224 ly224 rfl trivial (by simp [setAll, zs224])) (sM rfl (sv (xbuildS [[_], [_]] zr168 ly168 rfl (by simp [fitAll, zs168, Value.cells]) rfl) (svK (xboxS (lens := [1, 1]) rfl (by simp [])) ?_))))))))))))))))
   rintro _ w47 ⟨b73, rfl, m48, h73, e46, s46⟩
   have h6 := (h6.k m23).k m48
   refine sv (xmkif ni166 rfl) (suK (xstW h6 (lens' := [1, 256, 1]) sz224 (by simp [nm_length]) rfl (by simp only [fC, fN, aA, aN, nm_one, bT] <;> rfl) rfl rfl) ?_)
   rintro w50 ⟨m51, h6, s49⟩
   have hf := ((hf.s m23).s m48).t m51 (by omega)
   refine sA rfl (send (fcg 6 7 rfl fun _ => wp_ret (rThen (rBlock (rThen (rBlock (rThen (rp2 rfl ⟨_, rfl, ldS (lens := [1, 256, 1]) ro224 h6.r⟩ rfl ?_))))))))
   exact ⟨.inr ⟨by omega, _, _, rfl⟩, hf⟩
  have z24 := m23.size
  have hm := rng_fr hm m23 (by omega) id
  have hG := hG.k0 m23 (by omega)
  have hf := hf.s m23
  have h8 := h8.k m23
  have h6 := h6.k m23
  have hL19 := hL19.s m23
  refine sM rfl (sE3 rfl (sA rfl (sA rfl (sA rfl (send ((sreg (sM rfl (sv (xneN if89 rfl) (send ((cno rfl (wp_skip (nThen (fkg 0 1 6 8 9 10 12 13 14 15 rfl fun _ => wp_seq (sreg (sM rfl (svP (xgtr rfl rfl) (fun hc76 => ?_) (fun hc76 => ?_)))))))))))))))))))
  ·
   refine sM rfl (gyes rfl rfl rfl (sM rfl (gyes rfl rfl rfl (sM rfl (gyes rfl rfl rfl (sv (exF (xleq rfl rfl) (by have := asc_pos hasc hpk (by omega); omega)) (sv (xpickT rfl rfl) (send ((cno rfl (wp_skip (nThen (fjg 0 1 6 8 9 10 12 13 14 rfl fun _ => wp_seq (sreg (sM rfl (sM rfl (sc (xcall ca156 rfl) (c156 (b := b) (off := e + (pairsL (ps.take k)).length + 2) (x := p.data.length) hms hm (by omega) hnb hkm hbl hG (by omega) (by omega) ((hpt.right' rfl).left) (by omega)) ?_)))))))))))))))))
   rintro _ w25 ⟨⟨hle90, rfl⟩ | ⟨hgt90, T90, x90, rfl⟩, m26⟩
   ·
    have z27 := m26.size
    have h6 := h6.k m26
    have hL19 := hL19.s m26
    refine sM rfl (sE3 rfl (sA rfl (sA rfl (sA rfl (send ((sreg (sM rfl (sv (xneN if89 rfl) (send ((cno rfl (wp_skip (nThen ((wp_seq (sreg (sM rfl (sM rfl (sv (xconv hs22 ki3 rfl (w64 (by omega) (by omega))) (sv (xadd rfl rfl (w64n (e + (pairsL (ps.take (k + 1))).length) (by omega) (by omega))) (sM rfl (sv (exF (xgtr rfl rfl) (by omega)) (send (flg 0 1 6 8 9 10 12 13 14 16 106 rfl fun _ => cno rfl (wp_skip (nThen ((sreg (sM rfl (sM rfl (sv (xadd rfl rfl (wu16c (dataL (ps.take (k + 1))).length (by omega) (by omega))) (sA rfl (send ((sreg (sM rfl (sM rfl (sv (xconv hs22 ki3 rfl (w64 (by omega) (by omega))) (sv (xadd rfl rfl (w64n (e + (pairsL (ps.take (k + 1))).length) (by omega) (by omega))) (sA rfl (send (fjg 0 1 6 8 9 10 12 13 14 rfl fun _ => lreg (sM rfl (sv (xadd rfl rfl (w64n (k + 1) (by omega) (by omega))) (sA rfl (lend (nBlock (nThen ?_)))))))))))))))))))))))))))))))))))))))))))))))))
    refine ⟨k + 1, _, env_okl ⟨rfl, rfl, rfl, rfl, rfl, rfl, rfl, rfl, rfl, trivial⟩, ⟨hL19, (by omega), (h6)⟩, ?_⟩
    show ps.length - (k + 1) < ps.length - k; omega
   have z28 := m26.size
   refine sM rfl (sE3 rfl (sA rfl (sA rfl (sA rfl (send ((sreg (sM rfl (sv (xneI if89 rfl) (send (fmg 0 1 6 8 9 10 11 12 13 14 16 95 rfl fun _ => cyes rfl (sreg (sv (xbuildS [[.int .u16 0], nm [], [.slice none 0 0]] zr224 ly224 rfl trivial (by simp [setAll, zs224])) (sM rfl (sv (xbuildS [[_], [_]] zr168 ly168 rfl (by simp [fitAll, zs168, Value.cells]) rfl) (svK (xboxS (lens := [1, 1]) rfl (by simp [])) ?_))))))))))))))))
   rintro _ w30 ⟨b99, rfl, m31, h99, e29, s29⟩
   have h6 := (h6.k m26).k m31
   refine sv (xmkif ni166 rfl) (suK (xstW h6 (lens' := [1, 256, 1]) sz224 (by simp [nm_length]) rfl (by simp only [fC, fN, aA, aN, nm_one, bT] <;> rfl) rfl rfl) ?_)
   rintro w33 ⟨m34, h6, s32⟩
   have hf := ((hf.s m26).s m31).t m34 (by omega)
   refine sA rfl (send (fcg 6 7 rfl fun _ => wp_ret (rThen (rBlock (rThen (rBlock (rThen (rp2 rfl ⟨_, rfl, ldS (lens := [1, 256, 1]) ro224 h6.r⟩ rfl ?_))))))))
   exact ⟨.inr ⟨by omega, _, _, rfl⟩, hf⟩
  refine sM rfl (gno rfl rfl rfl (gno rfl rfl rfl (gno rfl rfl rfl (sv (xpickF rfl rfl) (send ((cno rfl (wp_skip (nThen (fjg 0 1 6 8 9 10 12 13 14 rfl fun _ => wp_seq (sreg (sM rfl (sM rfl (sc (xcall ca156 rfl) (c156 (b := b) (off := e + (pairsL (ps.take k)).length + 2) (x := p.data.length) hms hm (by omega) hnb hkm hbl hG (by omega) (by omega) ((hpt.right' rfl).left) (by omega)) ?_))))))))))))))
  rintro _ w35 ⟨⟨hle90, rfl⟩ | ⟨hgt90, T90, x90, rfl⟩, m36⟩
  ·
   have z37 := m36.size
   have h6 := h6.k m36
   have hL19 := hL19.s m36
   refine sM rfl (sE3 rfl (sA rfl (sA rfl (sA rfl (send ((sreg (sM rfl (sv (xneN if89 rfl) (send ((cno rfl (wp_skip (nThen ((wp_seq (sreg (sM rfl (sM rfl (sv (xconv hs22 ki3 rfl (w64 (by omega) (by omega))) (sv (xadd rfl rfl (w64n (e + (pairsL (ps.take (k + 1))).length) (by omega) (by omega))) (sM rfl (sv (exF (xgtr rfl rfl) (by omega)) (send (flg 0 1 6 8 9 10 12 13 14 16 106 rfl fun _ => cno rfl (wp_skip (nThen ((sreg (sM rfl (sM rfl (sv (xadd rfl rfl (wu16c (dataL (ps.take (k + 1))).length (by omega) (by omega))) (sA rfl (send ((sreg (sM rfl (sM rfl (sv (xconv hs22 ki3 rfl (w64 (by omega) (by omega))) (sv (xadd rfl rfl (w64n (e + (pairsL (ps.take (k + 1))).length) (by omega) (by omega))) (sA rfl (send (fjg 0 1 6 8 9 10 12 13 14 rfl fun _ => lreg (sM rfl (sv (xadd rfl rfl (w64n (k + 1) (by omega) (by omega))) (sA rfl (lend (nBlock (nThen ?_)))))))))))))))))))))))))))))))))))))))))))))))))
   refine ⟨k + 1, _, env_okl ⟨rfl, rfl, rfl, rfl, rfl, rfl, rfl, rfl, rfl, trivial⟩, ⟨hL19, (by omega), (h6)⟩, ?_⟩
   show ps.length - (k + 1) < ps.length - k; omega
  have z38 := m36.size
  refine sM rfl (sE3 rfl (sA rfl (sA rfl (sA rfl (send ((sreg (sM rfl (sv (xneI if89 rfl) (send (fmg 0 1 6 8 9 10 11 12 13 14 16 95 rfl fun _ => cyes rfl (sreg (sv (xbuildS [[.int .u16 0], nm [], [.slice none 0 0]] zr224 ly224 rfl trivial (by simp [setAll, zs224])) (sM rfl (sv (xbuildS [[_], [_]] zr168 ly168 rfl (by simp [fitAll, zs168, Value.cells]) rfl) (svK (xboxS (lens := [1, 1]) rfl (by simp [])) ?_))))))))))))))))
  rintro _ w40 ⟨b99, rfl, m41, h99, e39, s39⟩
  have h6 := (h6.k m36).k m41
  refine sv (xmkif ni166 rfl) (suK (xstW h6 (lens' := [1, 256, 1]) sz224 (by simp [nm_length]) rfl (by simp only [fC, fN, aA, aN, nm_one, bT] <;> rfl) rfl rfl) ?_)
  rintro w43 ⟨m44, h6, s42⟩
  have hf := ((hf.s m36).s m41).t m44 (by omega)
  refine sA rfl (send (fcg 6 7 rfl fun _ => wp_ret (rThen (rBlock (rThen (rBlock (rThen (rp2 rfl ⟨_, rfl, ldS (lens := [1, 256, 1]) ro224 h6.r⟩ rfl ?_))))))))
  exact ⟨.inr ⟨by omega, _, _, rfl⟩, hf⟩
 refine send ((cno rfl (wp_exit (eThen (eThen (eHit (nThen ((wp_seq (sreg (sM rfl (sM rfl (sv (exF (xneq rfl rfl) (by have := pairs_take_le ps k; omega)) (send ((cno rfl (wp_skip (nThen (fgg 0 6 8 9 12 13 rfl fun _ => ?_)))))))))))))))))))
 have hkE : k = ps.length := by have := pairs_take_le ps k; rcases Nat.lt_or_ge k ps.length with h | h; exact absurd (pairs_take_lt (List.getElem?_eq_getElem h)) (by omega); omega
 have hdE : (dataL (ps.take k)).length = (dataL ps).length := by rw [hkE, List.take_length]
 refine sreg (sM rfl (svK (xmake (lo := ps.length) (hi := ps.length) sl222 in291 rfl (by decide) rfl rfl (by omega) (by omega) (by omega) (by omega) (by simp only [maxLen]; omega) rfl) ?_))
 rintro _ w52 ⟨b124, rfl, m53, hk124, ez124, sz124, -⟩
 have hR : ∀ bv, PRow w52 b124 bv ps 0 := fun bv => PRow.new hk124
 have h8 := h8.k m53
 refine sv (xfld fl224_2 rfl) (suK (xstF 2 sz222 h8 rfl rfl rfl rfl rfl) ?_)
 rintro w55 ⟨m56, h8, s54⟩
 have hR := fun bv => (hR bv).keep m56 (nE (by omega))
 refine send (fgg 0 6 8 9 12 13 rfl fun _ => sreg (sM rfl (svK (xmake (lo := (dataL ps).length) (hi := (dataL ps).length) sl37 in5 rfl (by decide) rfl rfl (by omega) (by omega) (by omega) (by omega) (by simp only [maxLen]; omega) rfl) ?_)))
 rintro _ w57 ⟨b127, rfl, m58, hV, ez127, sz127, -⟩
 have hR := fun bv => (hR bv).k m58
 rw [rep_zero] at hV
 have hR := hR b127
 have hV : Blk w57 b127 (bvs (dataL (ps.take 0)) ++ bvs (List.replicate (dataL ps).length 0)) := hV
 have h6 := ((h6.k m53).keep m56 (nE (by omega))).k m58
 have hG := ((hG.k0 m53 (by omega)).k1 m56 (by omega) (by omega)).k0 m58 (by omega)
 refine sA rfl (send ((sreg (sM rfl (sA rfl (send ((wp_seq (sreg (sA rfl (send (fhg 0 1 6 8 12 17 18 rfl fun _ => wp_block (lp [(0, _), (6, _), (8, _), (12, _)] (fun (x : Nat × Nat × Nat) => match x with | (k, ov, rm) => [(1, .int .i64 ((e + (pairsL (ps.take k)).length : Nat) : Int)), (17, .slice (some ⟨b127, ov, none⟩) rm rm), (18, .int .i64 (k : Int))]) (fun (x : Nat × Nat × Nat) wx => match x with | (k, ov, rm) => Fr (fun k => k = b6 ∨ k = b124 ∨ k = b127) w57 wx ∧ (k ≤ ps.length) ∧ (SB wx b6 [1, 256, 1] [[.int .u16 0], nm [], [.slice none 0 0]]) ∧ (PRow wx b124 b127 ps k) ∧ (Blk wx b127 (bvs (dataL (ps.take k)) ++ bvs (List.replicate rm 0))) ∧ ((dataL (ps.take k)).length + rm = (dataL ps).length) ∧ (0 < rm → ov = (dataL (ps.take k)).length) ∧ (ov ≤ (dataL (ps.take k)).length + rm) ∧ (e + (pairsL (ps.take k)).length ≤ n)) (fun (x : Nat × Nat × Nat) => match x with | (k, ov, rm) => ps.length - k) (0, 0, (dataL ps).length) ⟨rfl, rfl, rfl, rfl, rfl, rfl, rfl, trivial⟩ ⟨Fr.refl _ _, Nat.zero_le _, h6, hR, hV, Nat.zero_add _, fun _ => rfl, Nat.zero_le _, by simpa [pairsL] using hle47⟩ ?_)))))))))))))
 rintro ⟨k, ov, rm⟩ _ w60 ⟨hL59, hk, h6, hR, hV, hrd, hov, hov2, hnk⟩
 refine fhg 0 1 6 8 12 17 18 rfl fun _ => ?_
 have z61 := hL59.size
 have hdk := dataL_le (ps.take k)
 have hdkl := (show (dataL (ps.take k)).length ≤ (dataL ps).length by omega)
 have hf := (((hf.s m53).t m56 (by omega)).s m58).step hL59 (fun k hk hS => by have hS : k = b6 ∨ k = b124 ∨ k = b127 := hS; show False; omega)
 have h8 := (h8.k m58).keep hL59 (by show ¬ (b8 = b6 ∨ b8 = b124 ∨ b8 = b127); omega)
 refine wp_seq (sreg (sM rfl (sM rfl (svP (xlss rfl rfl) (fun hc131 => ?_) (fun hc131 => ?_)))))
 rotate_left
 ·
  refine send ((cno rfl (wp_exit (eThen (eThen (eHit (nThen (fcg 6 8 rfl fun _ => sreg (sv (xldS (lens := [1, 256, 1]) ro224 rfl h8.r) (suK (xstW h6 (lens' := [1, 256, 1]) sz224 (by simp [nm_length]) rfl (one3 _ _ _ rfl) rfl rfl) ?_))))))))))
  rintro w114 ⟨m115, h6, s113⟩
  refine sA rfl (send (fcg 6 7 rfl fun _ => wp_ret (rp2 rfl ⟨_, rfl, ldS (lens := [1, 256, 1]) ro224 h6.r⟩ rfl ?_)))
  have hke : k = ps.length := by omega
  subst hke
  have hV := hV.keep m115 (nE (by omega))
  rw [List.take_length] at hV hrd hnk
  obtain rfl : rm = 0 := by omega
  have hV : Blk w114 b127 (bvs (dataL ps)) := by rw [show bvs (List.replicate 0 0) = [] from rfl, aN] at hV; exact hV
  have hf := hf.t m115 (by omega)
  have hR := hR.keep m115 (nE (by omega))
  exact ⟨.inl ⟨hnk, _, rfl, PRow.la hR hV (.inr ⟨by omega, by omega⟩) (.inr ⟨by omega, by omega⟩)⟩, hf⟩
 refine send ((cyes rfl (wp_skip (nThen (fhg 0 1 6 8 12 17 18 rfl fun _ => wp_seq (wp_block ?_))))))
 have hkl : k < ps.length := by rcases Nat.lt_or_ge k ps.length with h | h; exact h; omega
 obtain ⟨p, hpk⟩ := some_of_lt hkl
 have hpt := pairs_at hps hpk
 have hptl := pairs_take_lt hpk
 have hpk16 := u16lt p.key
 have hps1 : (pairsL (ps.take (k + 1))).length = (pairsL (ps.take k)).length + 4 + p.data.length := by rw [pairs_snoc hpk]; simp only [pairL, List.length_append, be16_length]; omega
 have hds1 : (dataL (ps.take (k + 1))).length = (dataL (ps.take k)).length + p.data.length := by rw [dataL_snoc hpk, List.length_append]
 have hdl1 := dataL_le (ps.take (k + 1))
 have hdsp := congrArg List.length (dataL_split hpk)
 simp only [List.length_append] at hdsp
 simp only [pairL] at hpt
 have hdd : Std b (e + (pairsL (ps.take k)).length + 2 + 2) p.data := (hpt.right' rfl).right' rfl
 obtain ⟨ss, T124, hPD, hpl, hE⟩ := hR.open hkl
 have hm := rng_fr (rng_fr (rng_fr (rng_fr hm m53 (by omega) id) m56 (by omega) (nE (by omega))) m58 (by omega) id) hL59 (by omega) (by show ¬ (bm = b6 ∨ bm = b124 ∨ bm = b127); omega)
 have hG := hG.keep (fun k hk => by omega) hL59 (fun k hk hS => by have hk := hk; have hS : k = b6 ∨ k = b124 ∨ k = b127 := hS; omega)
 refine sreg (sv (xfld fl224_2 rfl) (sv (xld on222 rfl (h8.r.c 2 rfl rfl)) (sM rfl (sv (xidx sl222 sz291 rfl rfl rfl (by omega)) (sA rfl (send ((sreg (sA rfl (sA rfl (send (fig 0 1 6 8 12 17 18 19 rfl fun _ => wp_seq (sreg (sM rfl (sM rfl (sc (xcall ca156 rfl) (c156 (b := b) (off := e + (pairsL (ps.take k)).length) (x := p.key.toNat) hms hm (by omega) hnb hkm hbl hG (by omega) hpk16 (hpt.left) (by omega)) ?_))))))))))))))))
 rintro _ w62 ⟨⟨hle141, rfl⟩ | ⟨hgt141, T141, x141, rfl⟩, m63⟩
 rotate_left
 ·
  have z106 := m63.size
  refine sM rfl (sE3 rfl (sA rfl (sA rfl (sA rfl (send ((sreg (sM rfl (sv (xneI if89 rfl) (send (flg 0 1 6 8 11 12 17 18 19 20 146 rfl fun _ => cyes rfl (sreg (sv (xbuildS [[.int .u16 0], nm [], [.slice none 0 0]] zr224 ly224 rfl trivial (by simp [setAll, zs224])) (sM rfl (sv (xbuildS [[_], [_]] zr168 ly168 rfl (by simp [fitAll, zs168, Value.cells]) rfl) (svK (xboxS (lens := [1, 1]) rfl (by simp [])) ?_))))))))))))))))
  rintro _ w108 ⟨b150, rfl, m109, h150, e107, s107⟩
  have h6 := (h6.k m63).k m109
  refine sv (xmkif ni166 rfl) (suK (xstW h6 (lens' := [1, 256, 1]) sz224 (by simp [nm_length]) rfl (by simp only [fC, fN, aA, aN, nm_one, bT] <;> rfl) rfl rfl) ?_)
  rintro w111 ⟨m112, h6, s110⟩
  have hf := ((hf.s m63).s m109).t m112 (by omega)
  refine sA rfl (send (fcg 6 7 rfl fun _ => wp_ret (rThen (rBlock (rThen (rThen (rBlock (rThen (rp2 rfl ⟨_, rfl, ldS (lens := [1, 256, 1]) ro224 h6.r⟩ rfl ?_)))))))))
  exact ⟨.inr ⟨by omega, _, _, rfl⟩, hf⟩
 have z64 := m63.size
 have hE := hE.k m63
 refine sM rfl (sE3 rfl (sA rfl (sA rfl (sA rfl (send ((sreg (sM rfl (sv (xneN if89 rfl) (send ((cno rfl (wp_skip (nThen (fjg 0 1 6 8 12 17 18 19 20 rfl fun _ => sreg (sM rfl (sM rfl (sN rfl (sv (xfld fl291_0 rfl) (suK (xstE 0 sz289 hE hpl rfl rfl rfl rfl rfl) ?_))))))))))))))))))))
 rintro w66 ⟨m67, hE, s65⟩
 have hm := rng_fr (rng_fr hm m63 (by omega) id) m67 (by omega) (nE (by omega))
 have hG := (hG.k0 m63 (by omega)).k1 m67 (by omega) (by omega)
 refine send (fig 0 1 6 8 12 17 18 19 rfl fun _ => wp_seq (sreg (sM rfl (sM rfl (sc (xcall ca156 rfl) (c156 (b := b) (off := e + (pairsL (ps.take k)).length + 2) (x := p.data.length) hms hm (by omega) hnb hkm hbl hG (by omega) (by omega) ((hpt.right' rfl).left) (by omega)) ?_)))))
 have hf := (hf.s m63).t m67 (by omega)
 have h8 := (h8.k m63).keep m67 (nE (by omega))
 have h6 := (h6.k m63).keep m67 (nE (by omega))
 have hV := (hV.k m63).keep m67 (nE (by omega))
 rintro _ w68 ⟨⟨hle159, rfl⟩ | ⟨hgt159, T159, x159, rfl⟩, m69⟩
 rotate_left
 ·
  have z99 := m69.size
  refine sM rfl (sE3 rfl (sA rfl (sA rfl (sA rfl (send ((sreg (sM rfl (sv (xneI if89 rfl) (send (flg 0 1 6 8 11 12 17 18 19 21 164 rfl fun _ => cyes rfl (sreg (sv (xbuildS [[.int .u16 0], nm [], [.slice none 0 0]] zr224 ly224 rfl trivial (by simp [setAll, zs224])) (sM rfl (sv (xbuildS [[_], [_]] zr168 ly168 rfl (by simp [fitAll, zs168, Value.cells]) rfl) (svK (xboxS (lens := [1, 1]) rfl (by simp [])) ?_))))))))))))))))
  rintro _ w101 ⟨b168, rfl, m102, h168, e100, s100⟩
  have h6 := (h6.k m69).k m102
  refine sv (xmkif ni166 rfl) (suK (xstW h6 (lens' := [1, 256, 1]) sz224 (by simp [nm_length]) rfl (by simp only [fC, fN, aA, aN, nm_one, bT] <;> rfl) rfl rfl) ?_)
  rintro w104 ⟨m105, h6, s103⟩
  have hf := ((hf.s m69).s m102).t m105 (by omega)
  refine sA rfl (send (fcg 6 7 rfl fun _ => wp_ret (rThen (rBlock (rThen (rThen (rBlock (rThen (rp2 rfl ⟨_, rfl, ldS (lens := [1, 256, 1]) ro224 h6.r⟩ rfl ?_)))))))))
  exact ⟨.inr ⟨by omega, _, _, rfl⟩, hf⟩
 have z70 := m69.size
 refine sM rfl (sE3 rfl (sA rfl (sA rfl (sA rfl (send ((sreg (sM rfl (sv (xneN if89 rfl) (send ((cno rfl (wp_skip (nThen (fjg 0 1 6 8 12 17 18 19 21 rfl fun _ => wp_seq ?_)))))))))))))))
 obtain rfl := hms (by omega)
 refine sreg (sM rfl (sM rfl (svK (xcutL (lo := e + (pairsL (ps.take k)).length + 2 + 2) sl37 sz5 rfl rfl (by omega) (by omega)) ?_)))
 rintro _ w68 ⟨o172, rfl, ho172, rfl⟩
 have hL59 := ((hL59.s m63).step m67 (fun k hk hS => by have hS : k = b124 := hS; show k = b6 ∨ k = b124 ∨ k = b127; omega)).s m69
 have hm := rng_fr hm m69 (by omega) id
 have hf := hf.s m69
 have h8 := h8.k m69
 have h6 := h6.k m69
 have hV := hV.k m69
 have hE := hE.k m69
 refine sv (xlen sl37 rfl) (sM rfl (sv (xconv hs22 ki3 rfl (w64 (by omega) (by omega))) (svP (xlss rfl rfl) (fun hc176 => ?_) (fun hc176 => ?_))))
 rotate_left
 ·
  refine send ((cno rfl (wp_skip (nThen (fjg 0 1 6 8 12 17 18 19 21 rfl fun _ => wp_seq (sreg (sM rfl (sM rfl (sM rfl (svK (xcutL (lo := e + (pairsL (ps.take k)).length + 2 + 2) sl37 sz5 rfl rfl (by omega) (by omega)) ?_))))))))))
  rintro _ w68 ⟨o185, rfl, ho185, rfl⟩
  refine sM rfl (sv (xconv hs22 ki3 rfl (w64 (by omega) (by omega))) (sv (xcutH (hi := p.data.length) sl37 sz5 rfl rfl rfl (by omega)) (svK (xcopyV sl37 sz5 rfl rfl (cpy_ba (take_ba (cut_rng hm (ms_std hdd (by omega)) ho185 (by omega)) rfl)) (by omega) hV hov (by omega)) ?_)))
  rintro _ w93 ⟨rfl, m94, hV, hz189⟩
  have hE := hE.keep m94 (nE (by omega))
  refine sM rfl (sv (xconv hs22 ki3 rfl (w64 (by omega) (by omega))) (sv (exF (xneq rfl rfl) (by omega)) (send ((cno rfl (wp_skip (nThen (fjg 0 1 6 8 12 17 18 19 21 rfl fun _ => sreg (sM rfl (sM rfl (sM rfl (sM rfl (sv (xcutHM (hi := p.data.length) (mx := p.data.length) sl37 sz5 rfl rfl rfl rfl rfl (by omega) (by omega)) (sN rfl (sv (xfld fl291_1 rfl) (suK (xstE 1 sz37 hE hpl rfl rfl rfl rfl rfl) ?_))))))))))))))))
  rintro w96 ⟨m97, hE, s95⟩
  refine send (fig 0 1 6 8 12 17 18 21 rfl fun _ => sreg (sM rfl (sM rfl (svK (xcutLx (lo := p.data.length) sl37 sz5 rfl rfl (by omega) (by omega)) ?_))))
  rintro _ w96 ⟨o207, rfl, ho207, hoq207, rfl⟩
  refine sA rfl (send ((lreg (sM rfl (sM rfl (sv (xconv hs22 ki3 rfl (w64 (by omega) (by omega))) (sv (xadd rfl rfl (w64n (e + (pairsL (ps.take (k + 1))).length) (by omega) (by omega))) (sA rfl (lend (nBlock (nThen (fhg 0 1 6 8 12 17 18 rfl fun _ => lreg (sM rfl (sv (xadd rfl rfl (w64n (k + 1) (by omega) (by omega))) (sA rfl (lend (nThen ?_)))))))))))))))))
  have hov207 : o207 ≤ (dataL (ps.take (k + 1))).length + (rm - p.data.length) := by rcases Nat.lt_or_ge p.data.length rm with h | h; (have := ho207 h; have := hov (by omega); omega); (have := hoq207 (by omega); omega)
  have h6 := (h6.keep m94 (nE (by omega))).keep m97 (nE (by omega))
  have hL59 := (hL59.step m94 (fun k hk hS => by have hS : k = b127 := hS; show k = b6 ∨ k = b124 ∨ k = b127; omega)).step m97 (fun k hk hS => by have hS : k = b124 := hS; show k = b6 ∨ k = b124 ∨ k = b127; omega)
  have hV := hV.keep m97 (nE (by omega))
  refine ⟨(k + 1, o207, rm - p.data.length), _, env_okl ⟨rfl, rfl, rfl, rfl, rfl, rfl, rfl, trivial⟩, ⟨hL59, (by omega), (h6), (PRow.close (o := ov) hPD hpk (fun hne => hov (by have := List.length_pos_iff.2 hne; omega)) hE), (by rw [dataL_snoc hpk]; exact hV), (by omega), (fun h => by have := ho207 (by omega); have := hov (by omega); omega), (hov207), (by omega)⟩, ?_⟩
  show ps.length - (k + 1) < ps.length - k; omega
 refine send (fkg 0 1 6 8 12 17 18 19 21 176 rfl fun _ => cyes rfl ?_)
 refine sdrawI [(6, _)] ⟨rfl, trivial⟩ (fun (x : Option Addr) => match x with | xq => [(7, .iface 166 (.pointer xq))]) (fun (x : Option Addr) wx => match x with | xq => Fr (fun k => k = b6) w68 wx ∧ (SB wx b6 [1, 256, 1] [[.int .u16 0], nm [], [.slice none 0 0]])) (Fr (fun k => k = b6) w68.drew) (.rd 0 (.rd 1 (.rd 2 (.two 3 (.lst [rd4, ld5, rd6]) 5 (.lst [ld3, rd4, rd6]))))) mixed (by kernel_rfl) ?_ ?_
 rotate_left
 ·
  rintro xq _ w90 ⟨hC, h6⟩
  have z91 := hC.size
  have hf := hf.t hC (by omega)
  refine fcg 6 7 rfl fun _ => wp_ret (rThen (rBlock (rThen (rThen (rBlock (rThen ?_))))))
  refine rp2 rfl ⟨_, rfl, ldS (lens := [1, 256, 1]) ro224 h6.r⟩ rfl ?_
  exact ⟨.inr ⟨by omega, _, _, rfl⟩, hf⟩
 have hC : Fr (fun k => k = b6) w68 w68 := Fr.refl _ _
 have z72 : w68.drew.heap.size = w68.heap.size := rfl
 have hS73 : Fr (fun k => k = b6) w68.drew w68.drew := Fr.refl _ _
 have hG := (hG.k0 m69 (by omega)).k0 (fd w68) (by omega)
 refine hvT rfl (fun _ _ => xbuildS [[.int .u16 0], nm [], [.slice none 0 0]] zr224 ly224 rfl trivial (by simp [setAll, zs224])) hS73 ?_
 obtain ⟨Tg178, xg178, eg178, hgc178, hgn178, hge178⟩ := hG.get 8 (by omega) (by omega)
 have hm := rng_fr hm (fd w68) (by omega) id
 have hf := hf.drew
 have h8 := h8.drew
 have h6 := h6.drew
 have hV := hV.k (fd w68)
 have hL59 := hL59.drew
 have hE := hE.k (fd w68)
 have hC := hC.drew
 refine hvT rfl (fun w' hS => xld on89 rfl (cell_keep hgc178 hS (by omega) (nE (by omega)))) hS73 ?_
 refine hvT rfl (fun _ _ => xbuildS [[_], [_]] zr168 ly168 rfl (by simp [fitAll, zs168, Value.cells]) rfl) hS73 ?_
 refine twoT ?_ ?_
 ·
  refine hlKT rfl (xboxS (lens := [1, 1]) rfl (by simp [])) ?_
  rintro _ w75 ⟨b180, rfl, m76, h180, e74, s74⟩
  have hS77 := hS73.s m76
  have h6 := h6.k m76
  refine ⟨hS77, ?_⟩
  refine lstT (hv rfl (fun _ _ => xmkif ni166 rfl) hS77 ?_)
  refine hluK rfl (xstW h6 (lens' := [1, 256, 1]) sz224 (by simp [nm_length]) rfl (by simp only [fC, fN, aA, aN, nm_one, bT] <;> rfl) rfl rfl) ?_
  rintro w79 ⟨m80, h6, s78⟩
  have hS81 := hS77.step m80 nI
  have hC := (hC.s m76).step m80 nI
  refine ⟨hS81, ?_⟩
  refine ggA rfl rfl hS81 ?_
  exact ⟨rfl, _, _, env_okl ⟨rfl, rfl, trivial⟩, ⟨hC, (h6)⟩⟩
 refine hluKT rfl (xstW h6 (lens' := [1, 256, 1]) sz224 (by simp [nm_length]) rfl (by simp only [fC, fN, aA, aN, nm_one, bT] <;> rfl) rfl rfl) ?_
 rintro w83 ⟨m84, h6, s82⟩
 have hS85 := hS73.step m84 nI
 refine ⟨hS85, ?_⟩
 refine lstT (hlK rfl (xboxS (lens := [1, 1]) rfl (by simp [])) ?_)
 rintro _ w87 ⟨b180, rfl, m88, h180, e86, s86⟩
 have hS89 := hS85.s m88
 have hC := (hC.step m84 nI).s m88
 have h6 := h6.k m88
 refine ⟨hS89, ?_⟩
 refine hv rfl (fun _ _ => xmkif ni166 rfl) hS89 (ggA rfl rfl hS89 ?_)
 exact ⟨rfl, _, _, env_okl ⟨rfl, rfl, trivial⟩, ⟨hC, (h6)⟩⟩
end Go.Proofs.YtifnodoffgfpbaaGreatDoor

namespace Go.Proofs.YtifnodoffgfpbaaGreatDoor
open Go

theorem type_of_kind {r : RecD} {j : Nat} (h1 : 1 ≤ j) (h12 : j ≤ 12) (h : r.kind = (j : Int)) : typeN r = typeN (kR j) := by
  have hj : j = 1 ∨ j = 2 ∨ j = 3 ∨ j = 4 ∨ j = 5 ∨ j = 6 ∨ j = 7 ∨ j = 8 ∨ j = 9 ∨ j = 10 ∨ j = 11 ∨ j = 12 := by omega
  rcases hj with rfl | rfl | rfl | rfl | rfl | rfl | rfl | rfl | rfl | rfl | rfl | rfl <;> simp [typeN, h, kR]
theorem kind_of_type {r : RecD} (j : Nat) {c : Int} (hr : ReadOk r) (hc : ((typeN r).toNat : Int) = c) (h1 : 1 ≤ j := by decide) (h12 : j ≤ 12 := by decide) (ht : ((typeN (kR j)).toNat : Int) = c := by decide) : r.kind = (j : Int) := by
  have inj : ∀ i j : Fin 13, 1 ≤ i.val → 1 ≤ j.val → typeN (kR i) = typeN (kR j) → i = j := by decide
  have e : typeN r = typeN (kR j) := UInt16.toNat_inj.1 (by omega)
  by_cases h : r.kind = 13
  · have hq : typeN r = r.typ := by simp [typeN, h]
    obtain ⟨_, _, _, q⟩ := hr.2.2.2.2.2 h
    exact absurd e.symm (by rw [hq]; exact q j h1 (by omega))
  · obtain ⟨i, hi⟩ := Int.eq_ofNat_of_zero_le (show 0 ≤ r.kind by have := hr.1; omega)
    have k1 := hr.1
    have k2 := hr.2.1
    have h2 := type_of_kind (r := r) (j := i) (by omega) (by omega) hi
    have := inj ⟨i, by omega⟩ ⟨j, by omega⟩ (by show 1 ≤ i; omega) h1 (h2.symm.trans e)
    have : i = j := congrArg Fin.val this
    omega
theorem kind13 {r : RecD} (hr : ReadOk r) (h : ∀ j : Nat, 1 ≤ j → j ≤ 12 → ((typeN r).toNat : Int) ≠ ((typeN (kR j)).toNat : Int)) : r.kind = 13 := by
  by_cases h13 : r.kind = 13
  · exact h13
  · obtain ⟨i, hi⟩ := Int.eq_ofNat_of_zero_le (show 0 ≤ r.kind by have := hr.1; omega)
    have k1 := hr.1
    have k2 := hr.2.1
    exact absurd (by rw [type_of_kind (r := r) (j := i) (by omega) (by omega) hi]) (h i (by omega) (by omega))
section
variable {K : Nat → Prop} {b : List UInt8} {i e : Nat} {r : RecD}
theorem BodyR.simple (h : BodyR K b i r e) {xs : List UInt8} (hk : r.kind = 1 ∨ r.kind = 7 ∨ r.kind = 8 ∨ r.kind = 10 ∨ r.kind = 13) (he : bodyL r = xs) : Std b i xs ∧ e = i + xs.length := by
  subst he; exact h.2.2.2.2.2 hk
theorem bodyL1 (h : r.kind = 1) : bodyL r = fixedL r.data 4 := by simp [bodyL, h]
theorem bodyL8 (h : r.kind = 8) : bodyL r = fixedL r.data 16 := by simp [bodyL, h]
theorem bodyL7 (h : r.kind = 7) : bodyL r = textsL r.texts := by simp [bodyL, h]
theorem bodyL10 (h : r.kind = 10) : bodyL r = pairsL r.pairs := by simp [bodyL, h]
theorem bodyL13 (h : r.kind = 13) : bodyL r = r.data := by simp [bodyL, h]
end
theorem m65 (x : Nat) : x % 65536 < 65536 := Nat.mod_lt _ (by decide)

theorem c159 {w : World} {a : Option Addr} {bm om km n : Nat} {b : List UInt8} (hms : n ≠ 0 → a = some ⟨bm, om, none⟩) (hm : w.rangeAt bm om (bvs (b.take n))) (hbm : bm < w.heap.size) (hnb : n ≤ b.length) (hkm : n ≤ km) (hbl : b.length < 100000000) (hG : GE w) (hsz : 21 ≤ w.heap.size) {off e len : Nat} {N : List UInt8} {kb kc : Int} {r : RecD} {Kp : Nat → Prop} (hKp : ∀ k, Kp k → k ≤ 10 ∧ (k = 0 ∨ n = b.length)) (hbody : BodyR Kp b off r e) (he : e = off + len) (hl16 : len < 65536) (heb : e ≤ b.length) (hon : off ≤ n) (h0 : n ≠ 0) (hr : ReadOk r) (hasc : r.kind = 11 ∨ r.kind = 12 → asc r.pairs) :
  Ret PP 159 [.slice a n km, .int .i64 (off : Int), ag ([nm N, [.int .u16 ((typeN r).toNat : Int)], [.int .u16 kb], [.int .u32 kc], [.int .u16 (len : Int)]])] w (fun u w' => ((e ≤ n ∧ ∃ v, u = .tuple #[v, .int .i64 (e : Int), .nilIface] ∧ BodyEl (Ub NoU w w') w' v r) ∨ (n < e ∧ ∃ (x : Option Addr), u = .tuple #[.nilIface, .int .i64 (off : Int), .iface 166 (.pointer x)])) ∧ Fr0 w w') := by
 subst he
 have hf : Fr (fun _ => False) w w := Fr.refl _ _
 refine ret_of Tryz.func159 rfl rfl rfl [(0, _), (1, _), (2, _)] rfl ?_
 refine sreg (svK (xboxS (lens := [256, 1, 1, 1, 1]) rfl (by simp [nm_length])) ?_)
 rintro _ w2 ⟨b5, rfl, m3, h5, e1, s1⟩
 have hm := rng_fr hm m3 (by omega) id
 have hG := hG.k0 m3 (by omega)
 have hf := hf.s m3
 refine sA rfl (sA rfl (sA rfl (send ((sreg (sA rfl (send ((sreg (sA rfl (send ((sreg (sA rfl (send (fdg 0 1 5 rfl fun _ => wp_seq (sreg (sv (xfld fl135_1 rfl) (sv (xld on83 rfl (h5.r.c 1 rfl rfl)) (send (feg 0 1 5 26 rfl fun _ => wp_block (sreg (svP (xeql rfl rfl) (fun hc39 => ?_) (fun hc39 => ?_))))))))))))))))))))))))
 ·
  refine sA rfl (send (ffg 0 1 5 26 38 rfl fun _ => cyes rfl ?_))
  have hk : r.kind = 1 := kind_of_type 1 hr hc39
  obtain ⟨hsb, hbe⟩ := hbody.simple (.inl hk) (bodyL1 hk)
  rw [fixedL_length] at hbe
  refine sreg (svK (xallS (lens := [4]) in189 (by simp [bvs_length])) ?_)
  rintro _ w5 ⟨b12, rfl, m6, h12, e4, s4⟩
  have hm := rng_fr hm m6 (by omega) id
  have hG := hG.k0 m6 (by omega)
  refine send (feg 0 1 5 12 rfl fun _ => sreg (sM rfl (sM rfl (sc (xcall ca195 rfl) (c195 (b := b) (off := off) (xs := fixedL r.data 4) hms hm (by omega) hnb hkm hbl hG (by omega) (fixedL_length _ _) hsb (by omega) h0) ?_))))
  have hf := hf.s m6
  have h5 := h5.k m6
  rintro _ w7 ⟨⟨hle43, rfl⟩ | ⟨hgt43, T43, x43, rfl⟩, m8⟩
  ·
   have z9 := m8.size
   have h12 := h12.k m8
   refine sM rfl (sE2 rfl (suK (xstW h12 (lens' := [4]) sz189 (by simp [bvs_length, fixedL_length]) rfl (by simp only [fC, fN, aN, bvs_one] <;> rfl) rfl rfl) ?_))
   rintro w11 ⟨m12, h12, s10⟩
   refine sA rfl (send ((sreg (sv (xmkif ni186 rfl) (sA rfl (send ((lreg (sA rfl (lend (nBlock (nThen ((wp_seq (sreg (sM rfl (sv (xneN if89 rfl) (send (fgg 1 5 9 10 11 156 rfl fun _ => cno rfl (wp_skip (nThen (fdg 1 5 9 rfl fun _ => ?_))))))))))))))))))))))
   refine sdrawH (Fr (fun _ => False) w11.drew) [rd0, rd1, rd2, rd3, rd4, rd5, rd6, rd7, rd8] mixed (by kernel_rfl) (fun _ _ _ _ _ h => h) ?_
   have z13 : w11.drew.heap.size = w11.heap.size := rfl
   have hS14 : Fr (fun _ => False) w11.drew w11.drew := Fr.refl _ _
   have h5 := ((h5.k m8).keep m12 (nE (by omega))).drew
   have hf := ((hf.s m8).t m12 (by omega)).drew
   have h12 := h12.drew
   refine qqM rfl rfl hS14 (qqM rfl rfl hS14 (hvH rfl (fun _ _ => xfld fl135_4 rfl) hS14 (hvH rfl (fun w' hS => xld on22 rfl ((h5.k hS).r.c 4 rfl rfl)) hS14 (hvH rfl (fun _ _ => xconv hs22 ki3 rfl (w64 (by omega) (by omega))) hS14 (hvH rfl (fun _ _ => xadd rfl rfl (w64 (by omega) (by omega))) hS14 (qqA rfl rfl hS14 (qqA rfl rfl hS14 (qqA rfl rfl hS14 (hendH (fdg 6 7 8 rfl fun _ => wp_ret (rp3 rfl rfl rfl rfl ?_)))))))))))
   exact ⟨.inl ⟨by omega, _, rfl, ⟨b12, _, _, _, rfl, .inr ⟨by omega, by omega⟩, h12.r, .a hk⟩⟩, hf⟩
  have z15 := m8.size
  have h12 := h12.k m8
  refine sM rfl (sE2 rfl (suK (xstW h12 (lens' := [4]) sz189 (by simp [bvs_length]) rfl (by simp only [fC, fN, aN, bvs_one] <;> rfl) rfl rfl) ?_))
  rintro w17 ⟨m18, h12, s16⟩
  refine sA rfl (send ((sreg (sv (xmkif ni186 rfl) (sA rfl (send ((lreg (sA rfl (lend (nBlock (nThen ((wp_seq (sreg (sM rfl (sv (xneI if89 rfl) (send (fgg 1 5 9 10 11 156 rfl fun _ => cyes rfl (sreg (sM rfl (sM rfl (sv (xadds rfl rfl (by decide) (by decide)) (sM rfl (sv (xbuildS [[_], [_]] zr168 ly168 rfl (by simp [fitAll, zs168, Value.cells]) rfl) (svK (xboxS (lens := [1, 1]) rfl (by simp [])) ?_))))))))))))))))))))))))))
  rintro _ w20 ⟨b162, rfl, m21, h162, e19, s19⟩
  have hf := ((hf.s m8).t m18 (by omega)).s m21
  refine sv (xmkif ni166 rfl) (sA rfl (sA rfl (sA rfl (send (fdg 6 7 8 rfl fun _ => wp_ret (rThen (rp3 rfl rfl rfl rfl ?_)))))))
  exact ⟨.inr ⟨by omega, _, rfl⟩, hf⟩
 refine sA rfl (send (ffg 0 1 5 26 38 rfl fun _ => cno rfl (sreg (svP (xeql rfl rfl) (fun hc48 => ?_) (fun hc48 => ?_)))))
 ·
  refine sA rfl (send (ffg 0 1 5 26 47 rfl fun _ => cyes rfl ?_))
  have hk : r.kind = 2 := kind_of_type 2 hr hc48
  obtain ⟨kk, hkk, hNa⟩ := hbody.1 (.inl hk)
  have hkk := hKp kk hkk
  have hnh := hr.2.2.1.2.1 (by omega)
  refine sreg (svK (xallS (lens := [256]) in192 (by simp [nm_length])) ?_)
  rintro _ w23 ⟨b13, rfl, m24, h13, e22, s22⟩
  have hm := rng_fr hm m24 (by omega) id
  have hG := hG.k0 m24 (by omega)
  refine send (feg 0 1 5 13 rfl fun _ => sreg (sM rfl (sM rfl (sc (xcall ca196 rfl) (c196 (b := b) (K := kk) (off := off) (e := off + len) (S := bt r.host) hms hm (by omega) hnb hkm hbl hG (by omega) hNa hnh hkk.1 hkk.2) ?_))))
  have hf := hf.s m24
  have h5 := h5.k m24
  rintro _ w25 ⟨⟨hle52, rfl⟩ | ⟨hgt52, T52, x52, rfl⟩, m26⟩
  ·
   have z27 := m26.size
   have h13 := h13.k m26
   refine sM rfl (sE2 rfl (suK (xstW h13 (lens' := [256]) sz192 (by simp [nm_length]) rfl (by simp only [fC, fN, aN, nm_one] <;> rfl) rfl rfl) ?_))
   rintro w29 ⟨m30, h13, s28⟩
   refine sA rfl (send ((sreg (sv (xmkif ni190 rfl) (sA rfl (send ((lreg (sA rfl (lend (nBlock (nThen ((wp_seq (sreg (sM rfl (sv (xneN if89 rfl) (send (fgg 1 5 9 10 11 156 rfl fun _ => cno rfl (wp_skip (nThen (fdg 1 5 9 rfl fun _ => ?_))))))))))))))))))))))
   refine sdrawH (Fr (fun _ => False) w29.drew) [rd0, rd1, rd2, rd3, rd4, rd5, rd6, rd7, rd8] mixed (by kernel_rfl) (fun _ _ _ _ _ h => h) ?_
   have z31 : w29.drew.heap.size = w29.heap.size := rfl
   have hS32 : Fr (fun _ => False) w29.drew w29.drew := Fr.refl _ _
   have h5 := ((h5.k m26).keep m30 (nE (by omega))).drew
   have hf := ((hf.s m26).t m30 (by omega)).drew
   have h13 := h13.drew
   refine qqM rfl rfl hS32 (qqM rfl rfl hS32 (hvH rfl (fun _ _ => xfld fl135_4 rfl) hS32 (hvH rfl (fun w' hS => xld on22 rfl ((h5.k hS).r.c 4 rfl rfl)) hS32 (hvH rfl (fun _ _ => xconv hs22 ki3 rfl (w64 (by omega) (by omega))) hS32 (hvH rfl (fun _ _ => xadd rfl rfl (w64 (by omega) (by omega))) hS32 (qqA rfl rfl hS32 (qqA rfl rfl hS32 (qqA rfl rfl hS32 (hendH (fdg 6 7 8 rfl fun _ => wp_ret (rp3 rfl rfl rfl rfl ?_)))))))))))
   exact ⟨.inl ⟨by omega, _, rfl, ⟨b13, _, _, _, rfl, .inr ⟨by omega, by omega⟩, h13.r, .ns hk⟩⟩, hf⟩
  have z33 := m26.size
  have h13 := h13.k m26
  refine sM rfl (sE2 rfl (suK (xstW h13 (lens' := [256]) sz192 (by simp [nm_length]) rfl (by simp only [fC, fN, aN, nm_one] <;> rfl) rfl rfl) ?_))
  rintro w35 ⟨m36, h13, s34⟩
  refine sA rfl (send ((sreg (sv (xmkif ni190 rfl) (sA rfl (send ((lreg (sA rfl (lend (nBlock (nThen ((wp_seq (sreg (sM rfl (sv (xneI if89 rfl) (send (fgg 1 5 9 10 11 156 rfl fun _ => cyes rfl (sreg (sM rfl (sM rfl (sv (xadds rfl rfl (by decide) (by decide)) (sM rfl (sv (xbuildS [[_], [_]] zr168 ly168 rfl (by simp [fitAll, zs168, Value.cells]) rfl) (svK (xboxS (lens := [1, 1]) rfl (by simp [])) ?_))))))))))))))))))))))))))
  rintro _ w38 ⟨b162, rfl, m39, h162, e37, s37⟩
  have hf := ((hf.s m26).t m36 (by omega)).s m39
  refine sv (xmkif ni166 rfl) (sA rfl (sA rfl (sA rfl (send (fdg 6 7 8 rfl fun _ => wp_ret (rThen (rp3 rfl rfl rfl rfl ?_)))))))
  exact ⟨.inr ⟨by omega, _, rfl⟩, hf⟩
 refine sA rfl (send (ffg 0 1 5 26 47 rfl fun _ => cno rfl (sreg (svP (xeql rfl rfl) (fun hc57 => ?_) (fun hc57 => ?_)))))
 ·
  refine sA rfl (send (ffg 0 1 5 26 56 rfl fun _ => cyes rfl ?_))
  have hk : r.kind = 3 := kind_of_type 3 hr hc57
  obtain ⟨kk, hkk, hNa⟩ := hbody.1 (.inr (.inl hk))
  have hkk := hKp kk hkk
  have hnh := hr.2.2.1.2.1 (by omega)
  refine sreg (svK (xallS (lens := [256]) in195 (by simp [nm_length])) ?_)
  rintro _ w41 ⟨b14, rfl, m42, h14, e40, s40⟩
  have hm := rng_fr hm m42 (by omega) id
  have hG := hG.k0 m42 (by omega)
  refine send (feg 0 1 5 14 rfl fun _ => sreg (sM rfl (sM rfl (sc (xcall ca197 rfl) (c197 (b := b) (K := kk) (off := off) (e := off + len) (S := bt r.host) hms hm (by omega) hnb hkm hbl hG (by omega) hNa hnh hkk.1 hkk.2) ?_))))
  have hf := hf.s m42
  have h5 := h5.k m42
  rintro _ w43 ⟨⟨hle61, rfl⟩ | ⟨hgt61, T61, x61, rfl⟩, m44⟩
  ·
   have z45 := m44.size
   have h14 := h14.k m44
   refine sM rfl (sE2 rfl (suK (xstW h14 (lens' := [256]) sz195 (by simp [nm_length]) rfl (by simp only [fC, fN, aN, nm_one] <;> rfl) rfl rfl) ?_))
   rintro w47 ⟨m48, h14, s46⟩
   refine sA rfl (send ((sreg (sv (xmkif ni193 rfl) (sA rfl (send ((lreg (sA rfl (lend (nBlock (nThen ((wp_seq (sreg (sM rfl (sv (xneN if89 rfl) (send (fgg 1 5 9 10 11 156 rfl fun _ => cno rfl (wp_skip (nThen (fdg 1 5 9 rfl fun _ => ?_))))))))))))))))))))))
   refine sdrawH (Fr (fun _ => False) w47.drew) [rd0, rd1, rd2, rd3, rd4, rd5, rd6, rd7, rd8] mixed (by kernel_rfl) (fun _ _ _ _ _ h => h) ?_
   have z49 : w47.drew.heap.size = w47.heap.size := rfl
   have hS50 : Fr (fun _ => False) w47.drew w47.drew := Fr.refl _ _
   have h5 := ((h5.k m44).keep m48 (nE (by omega))).drew
   have hf := ((hf.s m44).t m48 (by omega)).drew
   have h14 := h14.drew
   refine qqM rfl rfl hS50 (qqM rfl rfl hS50 (hvH rfl (fun _ _ => xfld fl135_4 rfl) hS50 (hvH rfl (fun w' hS => xld on22 rfl ((h5.k hS).r.c 4 rfl rfl)) hS50 (hvH rfl (fun _ _ => xconv hs22 ki3 rfl (w64 (by omega) (by omega))) hS50 (hvH rfl (fun _ _ => xadd rfl rfl (w64 (by omega) (by omega))) hS50 (qqA rfl rfl hS50 (qqA rfl rfl hS50 (qqA rfl rfl hS50 (hendH (fdg 6 7 8 rfl fun _ => wp_ret (rp3 rfl rfl rfl rfl ?_)))))))))))
   exact ⟨.inl ⟨by omega, _, rfl, ⟨b14, _, _, _, rfl, .inr ⟨by omega, by omega⟩, h14.r, .cname hk⟩⟩, hf⟩
  have z51 := m44.size
  have h14 := h14.k m44
  refine sM rfl (sE2 rfl (suK (xstW h14 (lens' := [256]) sz195 (by simp [nm_length]) rfl (by simp only [fC, fN, aN, nm_one] <;> rfl) rfl rfl) ?_))
  rintro w53 ⟨m54, h14, s52⟩
  refine sA rfl (send ((sreg (sv (xmkif ni193 rfl) (sA rfl (send ((lreg (sA rfl (lend (nBlock (nThen ((wp_seq (sreg (sM rfl (sv (xneI if89 rfl) (send (fgg 1 5 9 10 11 156 rfl fun _ => cyes rfl (sreg (sM rfl (sM rfl (sv (xadds rfl rfl (by decide) (by decide)) (sM rfl (sv (xbuildS [[_], [_]] zr168 ly168 rfl (by simp [fitAll, zs168, Value.cells]) rfl) (svK (xboxS (lens := [1, 1]) rfl (by simp [])) ?_))))))))))))))))))))))))))
  rintro _ w56 ⟨b162, rfl, m57, h162, e55, s55⟩
  have hf := ((hf.s m44).t m54 (by omega)).s m57
  refine sv (xmkif ni166 rfl) (sA rfl (sA rfl (sA rfl (send (fdg 6 7 8 rfl fun _ => wp_ret (rThen (rp3 rfl rfl rfl rfl ?_)))))))
  exact ⟨.inr ⟨by omega, _, rfl⟩, hf⟩
 refine sA rfl (send (ffg 0 1 5 26 56 rfl fun _ => cno rfl (sreg (svP (xeql rfl rfl) (fun hc66 => ?_) (fun hc66 => ?_)))))
 ·
  refine sA rfl (send (ffg 0 1 5 26 65 rfl fun _ => cyes rfl ?_))
  have hk : r.kind = 4 := kind_of_type 4 hr hc66
  obtain ⟨ea, eb, ⟨kk, hkk, hNa⟩, ⟨kl, hkl, hNb⟩, hsb, hbe⟩ := hbody.2.2.1 hk
  have hkk := hKp kk hkk
  have hkl := hKp kl hkl
  have hnh := hr.2.2.1.2.1 (by omega)
  have hnx := hr.2.2.1.2.2 hk
  refine sreg (svK (xallS (lens := [256, 256, 1, 1, 1, 1, 1]) in198 (by simp [nm_length])) ?_)
  rintro _ w59 ⟨b15, rfl, m60, h15, e58, s58⟩
  have hm := rng_fr hm m60 (by omega) id
  have hG := hG.k0 m60 (by omega)
  refine send (feg 0 1 5 15 rfl fun _ => sreg (sM rfl (sM rfl (sc (xcall ca198 rfl) (c198 (b := b) (Ka := kk) (Kb := kl) (off := off) (ea := ea) (eb := eb) (Sa := bt r.host) (Sb := bt r.box) hms hm (by omega) hnb hkm hbl hG (by omega) hNa hnh hkk.1 hkk.2 hNb hnx hkl.1 hkl.2 (u32lt _) (u32lt _) (u32lt _) (u32lt _) (u32lt _) hsb (by omega)) ?_))))
  have hf := hf.s m60
  have h5 := h5.k m60
  rintro _ w61 ⟨⟨hle70, rfl⟩ | ⟨hgt70, T70, x70, rfl⟩, m62⟩
  ·
   have z63 := m62.size
   have h15 := h15.k m62
   refine sM rfl (sE2 rfl (suK (xstW h15 (lens' := [256, 256, 1, 1, 1, 1, 1]) sz198 (by simp [nm_length]) rfl (by simp only [fC, fN, aA, aN, nm_one, bT] <;> rfl) rfl rfl) ?_))
   rintro w65 ⟨m66, h15, s64⟩
   refine sA rfl (send ((sreg (sv (xmkif ni196 rfl) (sA rfl (send ((lreg (sA rfl (lend (nBlock (nThen ((wp_seq (sreg (sM rfl (sv (xneN if89 rfl) (send (fgg 1 5 9 10 11 156 rfl fun _ => cno rfl (wp_skip (nThen (fdg 1 5 9 rfl fun _ => ?_))))))))))))))))))))))
   refine sdrawH (Fr (fun _ => False) w65.drew) [rd0, rd1, rd2, rd3, rd4, rd5, rd6, rd7, rd8] mixed (by kernel_rfl) (fun _ _ _ _ _ h => h) ?_
   have z67 : w65.drew.heap.size = w65.heap.size := rfl
   have hS68 : Fr (fun _ => False) w65.drew w65.drew := Fr.refl _ _
   have h5 := ((h5.k m62).keep m66 (nE (by omega))).drew
   have hf := ((hf.s m62).t m66 (by omega)).drew
   have h15 := h15.drew
   refine qqM rfl rfl hS68 (qqM rfl rfl hS68 (hvH rfl (fun _ _ => xfld fl135_4 rfl) hS68 (hvH rfl (fun w' hS => xld on22 rfl ((h5.k hS).r.c 4 rfl rfl)) hS68 (hvH rfl (fun _ _ => xconv hs22 ki3 rfl (w64 (by omega) (by omega))) hS68 (hvH rfl (fun _ _ => xadd rfl rfl (w64 (by omega) (by omega))) hS68 (qqA rfl rfl hS68 (qqA rfl rfl hS68 (qqA rfl rfl hS68 (hendH (fdg 6 7 8 rfl fun _ => wp_ret (rp3 rfl rfl rfl rfl ?_)))))))))))
   exact ⟨.inl ⟨by omega, _, rfl, ⟨b15, _, _, _, rfl, .inr ⟨by omega, by omega⟩, h15.r, .soa hk⟩⟩, hf⟩
  have z69 := m62.size
  have h15 := h15.k m62
  refine sM rfl (sE2 rfl (suK (xstW h15 (lens' := [256, 256, 1, 1, 1, 1, 1]) sz198 (by simp [nm_length]) rfl (by simp only [fC, fN, aA, aN, nm_one, bT] <;> rfl) rfl rfl) ?_))
  rintro w71 ⟨m72, h15, s70⟩
  refine sA rfl (send ((sreg (sv (xmkif ni196 rfl) (sA rfl (send ((lreg (sA rfl (lend (nBlock (nThen ((wp_seq (sreg (sM rfl (sv (xneI if89 rfl) (send (fgg 1 5 9 10 11 156 rfl fun _ => cyes rfl (sreg (sM rfl (sM rfl (sv (xadds rfl rfl (by decide) (by decide)) (sM rfl (sv (xbuildS [[_], [_]] zr168 ly168 rfl (by simp [fitAll, zs168, Value.cells]) rfl) (svK (xboxS (lens := [1, 1]) rfl (by simp [])) ?_))))))))))))))))))))))))))
  rintro _ w74 ⟨b162, rfl, m75, h162, e73, s73⟩
  have hf := ((hf.s m62).t m72 (by omega)).s m75
  refine sv (xmkif ni166 rfl) (sA rfl (sA rfl (sA rfl (send (fdg 6 7 8 rfl fun _ => wp_ret (rThen (rp3 rfl rfl rfl rfl ?_)))))))
  exact ⟨.inr ⟨by omega, _, rfl⟩, hf⟩
 refine sA rfl (send (ffg 0 1 5 26 65 rfl fun _ => cno rfl (sreg (svP (xeql rfl rfl) (fun hc75 => ?_) (fun hc75 => ?_)))))
 ·
  refine sA rfl (send (ffg 0 1 5 26 74 rfl fun _ => cyes rfl ?_))
  have hk : r.kind = 5 := kind_of_type 5 hr hc75
  obtain ⟨kk, hkk, hNa⟩ := hbody.1 (.inr (.inr hk))
  have hkk := hKp kk hkk
  have hnh := hr.2.2.1.2.1 (by omega)
  refine sreg (svK (xallS (lens := [256]) in201 (by simp [nm_length])) ?_)
  rintro _ w77 ⟨b16, rfl, m78, h16, e76, s76⟩
  have hm := rng_fr hm m78 (by omega) id
  have hG := hG.k0 m78 (by omega)
  refine send (feg 0 1 5 16 rfl fun _ => sreg (sM rfl (sM rfl (sc (xcall ca199 rfl) (c199 (b := b) (K := kk) (off := off) (e := off + len) (S := bt r.host) hms hm (by omega) hnb hkm hbl hG (by omega) hNa hnh hkk.1 hkk.2) ?_))))
  have hf := hf.s m78
  have h5 := h5.k m78
  rintro _ w79 ⟨⟨hle79, rfl⟩ | ⟨hgt79, T79, x79, rfl⟩, m80⟩
  ·
   have z81 := m80.size
   have h16 := h16.k m80
   refine sM rfl (sE2 rfl (suK (xstW h16 (lens' := [256]) sz201 (by simp [nm_length]) rfl (by simp only [fC, fN, aN, nm_one] <;> rfl) rfl rfl) ?_))
   rintro w83 ⟨m84, h16, s82⟩
   refine sA rfl (send ((sreg (sv (xmkif ni199 rfl) (sA rfl (send ((lreg (sA rfl (lend (nBlock (nThen ((wp_seq (sreg (sM rfl (sv (xneN if89 rfl) (send (fgg 1 5 9 10 11 156 rfl fun _ => cno rfl (wp_skip (nThen (fdg 1 5 9 rfl fun _ => ?_))))))))))))))))))))))
   refine sdrawH (Fr (fun _ => False) w83.drew) [rd0, rd1, rd2, rd3, rd4, rd5, rd6, rd7, rd8] mixed (by kernel_rfl) (fun _ _ _ _ _ h => h) ?_
   have z85 : w83.drew.heap.size = w83.heap.size := rfl
   have hS86 : Fr (fun _ => False) w83.drew w83.drew := Fr.refl _ _
   have h5 := ((h5.k m80).keep m84 (nE (by omega))).drew
   have hf := ((hf.s m80).t m84 (by omega)).drew
   have h16 := h16.drew
   refine qqM rfl rfl hS86 (qqM rfl rfl hS86 (hvH rfl (fun _ _ => xfld fl135_4 rfl) hS86 (hvH rfl (fun w' hS => xld on22 rfl ((h5.k hS).r.c 4 rfl rfl)) hS86 (hvH rfl (fun _ _ => xconv hs22 ki3 rfl (w64 (by omega) (by omega))) hS86 (hvH rfl (fun _ _ => xadd rfl rfl (w64 (by omega) (by omega))) hS86 (qqA rfl rfl hS86 (qqA rfl rfl hS86 (qqA rfl rfl hS86 (hendH (fdg 6 7 8 rfl fun _ => wp_ret (rp3 rfl rfl rfl rfl ?_)))))))))))
   exact ⟨.inl ⟨by omega, _, rfl, ⟨b16, _, _, _, rfl, .inr ⟨by omega, by omega⟩, h16.r, .ptr hk⟩⟩, hf⟩
  have z87 := m80.size
  have h16 := h16.k m80
  refine sM rfl (sE2 rfl (suK (xstW h16 (lens' := [256]) sz201 (by simp [nm_length]) rfl (by simp only [fC, fN, aN, nm_one] <;> rfl) rfl rfl) ?_))
  rintro w89 ⟨m90, h16, s88⟩
  refine sA rfl (send ((sreg (sv (xmkif ni199 rfl) (sA rfl (send ((lreg (sA rfl (lend (nBlock (nThen ((wp_seq (sreg (sM rfl (sv (xneI if89 rfl) (send (fgg 1 5 9 10 11 156 rfl fun _ => cyes rfl (sreg (sM rfl (sM rfl (sv (xadds rfl rfl (by decide) (by decide)) (sM rfl (sv (xbuildS [[_], [_]] zr168 ly168 rfl (by simp [fitAll, zs168, Value.cells]) rfl) (svK (xboxS (lens := [1, 1]) rfl (by simp [])) ?_))))))))))))))))))))))))))
  rintro _ w92 ⟨b162, rfl, m93, h162, e91, s91⟩
  have hf := ((hf.s m80).t m90 (by omega)).s m93
  refine sv (xmkif ni166 rfl) (sA rfl (sA rfl (sA rfl (send (fdg 6 7 8 rfl fun _ => wp_ret (rThen (rp3 rfl rfl rfl rfl ?_)))))))
  exact ⟨.inr ⟨by omega, _, rfl⟩, hf⟩
 refine sA rfl (send (ffg 0 1 5 26 74 rfl fun _ => cno rfl (sreg (svP (xeql rfl rfl) (fun hc84 => ?_) (fun hc84 => ?_)))))
 ·
  refine sA rfl (send (ffg 0 1 5 26 83 rfl fun _ => cyes rfl ?_))
  have hk : r.kind = 6 := kind_of_type 6 hr hc84
  obtain ⟨hsb, hN0⟩ := hbody.2.1 hk
  rw [← be16_mod] at hsb
  obtain ⟨kk, hkk, hNa⟩ := hN0
  have hkk := hKp kk hkk
  have hnh := hr.2.2.1.2.1 (by omega)
  refine sreg (svK (xallS (lens := [1, 256]) in204 (by simp [nm_length])) ?_)
  rintro _ w95 ⟨b17, rfl, m96, h17, e94, s94⟩
  have hm := rng_fr hm m96 (by omega) id
  have hG := hG.k0 m96 (by omega)
  refine send (feg 0 1 5 17 rfl fun _ => sreg (sM rfl (sM rfl (sc (xcall ca200 rfl) (c200 (b := b) (K := kk) (off := off) (e := off + len) (S := bt r.host) (ka := r.n1.toNat % 65536) hms hm (by omega) hnb hkm hbl hG (by omega) (m65 _) hsb hNa hnh hkk.1 hkk.2) ?_))))
  have hf := hf.s m96
  have h5 := h5.k m96
  rintro _ w97 ⟨⟨hle88, rfl⟩ | ⟨hgt88, T88, x88, rfl⟩, m98⟩
  ·
   have z99 := m98.size
   have h17 := h17.k m98
   refine sM rfl (sE2 rfl (suK (xstW h17 (lens' := [1, 256]) sz204 (by simp [nm_length]) rfl (by simp only [fC, fN, aA, aN, nm_one] <;> rfl) rfl rfl) ?_))
   rintro w101 ⟨m102, h17, s100⟩
   refine sA rfl (send ((sreg (sv (xmkif ni202 rfl) (sA rfl (send ((lreg (sA rfl (lend (nBlock (nThen ((wp_seq (sreg (sM rfl (sv (xneN if89 rfl) (send (fgg 1 5 9 10 11 156 rfl fun _ => cno rfl (wp_skip (nThen (fdg 1 5 9 rfl fun _ => ?_))))))))))))))))))))))
   refine sdrawH (Fr (fun _ => False) w101.drew) [rd0, rd1, rd2, rd3, rd4, rd5, rd6, rd7, rd8] mixed (by kernel_rfl) (fun _ _ _ _ _ h => h) ?_
   have z103 : w101.drew.heap.size = w101.heap.size := rfl
   have hS104 : Fr (fun _ => False) w101.drew w101.drew := Fr.refl _ _
   have h5 := ((h5.k m98).keep m102 (nE (by omega))).drew
   have hf := ((hf.s m98).t m102 (by omega)).drew
   have h17 := h17.drew
   refine qqM rfl rfl hS104 (qqM rfl rfl hS104 (hvH rfl (fun _ _ => xfld fl135_4 rfl) hS104 (hvH rfl (fun w' hS => xld on22 rfl ((h5.k hS).r.c 4 rfl rfl)) hS104 (hvH rfl (fun _ _ => xconv hs22 ki3 rfl (w64 (by omega) (by omega))) hS104 (hvH rfl (fun _ _ => xadd rfl rfl (w64 (by omega) (by omega))) hS104 (qqA rfl rfl hS104 (qqA rfl rfl hS104 (qqA rfl rfl hS104 (hendH (fdg 6 7 8 rfl fun _ => wp_ret (rp3 rfl rfl rfl rfl ?_)))))))))))
   exact ⟨.inl ⟨by omega, _, rfl, ⟨b17, _, _, _, rfl, .inr ⟨by omega, by omega⟩, h17.r, .mx hk⟩⟩, hf⟩
  have z105 := m98.size
  have h17 := h17.k m98
  refine sM rfl (sE2 rfl (suK (xstW h17 (lens' := [1, 256]) sz204 (by simp [nm_length]) rfl (by simp only [fC, fN, aA, aN, nm_one] <;> rfl) rfl rfl) ?_))
  rintro w107 ⟨m108, h17, s106⟩
  refine sA rfl (send ((sreg (sv (xmkif ni202 rfl) (sA rfl (send ((lreg (sA rfl (lend (nBlock (nThen ((wp_seq (sreg (sM rfl (sv (xneI if89 rfl) (send (fgg 1 5 9 10 11 156 rfl fun _ => cyes rfl (sreg (sM rfl (sM rfl (sv (xadds rfl rfl (by decide) (by decide)) (sM rfl (sv (xbuildS [[_], [_]] zr168 ly168 rfl (by simp [fitAll, zs168, Value.cells]) rfl) (svK (xboxS (lens := [1, 1]) rfl (by simp [])) ?_))))))))))))))))))))))))))
  rintro _ w110 ⟨b162, rfl, m111, h162, e109, s109⟩
  have hf := ((hf.s m98).t m108 (by omega)).s m111
  refine sv (xmkif ni166 rfl) (sA rfl (sA rfl (sA rfl (send (fdg 6 7 8 rfl fun _ => wp_ret (rThen (rp3 rfl rfl rfl rfl ?_)))))))
  exact ⟨.inr ⟨by omega, _, rfl⟩, hf⟩
 refine sA rfl (send (ffg 0 1 5 26 83 rfl fun _ => cno rfl (sreg (svP (xeql rfl rfl) (fun hc93 => ?_) (fun hc93 => ?_)))))
 ·
  refine sA rfl (send (ffg 0 1 5 26 92 rfl fun _ => cyes rfl ?_))
  have hk : r.kind = 7 := kind_of_type 7 hr hc93
  obtain ⟨hsb, hbe⟩ := hbody.simple (.inr (.inl hk)) (bodyL7 hk)
  obtain rfl : len = (textsL r.texts).length := by omega
  refine sreg (svK (xallS (lens := [1]) in207 (by simp [])) ?_)
  rintro _ w113 ⟨b18, rfl, m114, h18, e112, s112⟩
  have h5 := h5.k m114
  have hm := rng_fr hm m114 (by omega) id
  have hG := hG.k0 m114 (by omega)
  refine send (feg 0 1 5 18 rfl fun _ => sreg (sM rfl (sM rfl (sv (xfld fl135_4 rfl) (sv (xld on22 rfl (h5.r.c 4 rfl rfl)) (sc (xcall ca201 rfl) (c201 (b := b) (off := off) (ts := r.texts) hms hm (by omega) hnb hkm hbl hG (by omega) (hr.2.2.2.2.1 hk) hsb (by omega) (by omega) hon) ?_))))))
  have hf := hf.s m114
  rintro _ w115 ⟨⟨hle99, v99, rfl, L99⟩ | ⟨hgt99, T99, x99, rfl⟩, m116⟩
  ·
   have z117 := m116.size
   obtain ⟨aq99, cq99, rfl⟩ := L99.form
   have h18 := h18.k m116
   refine sM rfl (sE2 rfl (suK (xstW h18 (lens' := [1]) sz207 (by simp []) rfl (by simp only [fC, fN, aN] <;> rfl) rfl rfl) ?_))
   rintro w119 ⟨m120, h18, s118⟩
   refine sA rfl (send ((sreg (sv (xmkif ni205 rfl) (sA rfl (send ((lreg (sA rfl (lend (nBlock (nThen ((wp_seq (sreg (sM rfl (sv (xneN if89 rfl) (send (fgg 1 5 9 10 11 156 rfl fun _ => cno rfl (wp_skip (nThen (fdg 1 5 9 rfl fun _ => ?_))))))))))))))))))))))
   refine sdrawH (Fr (fun _ => False) w119.drew) [rd0, rd1, rd2, rd3, rd4, rd5, rd6, rd7, rd8] mixed (by kernel_rfl) (fun _ _ _ _ _ h => h) ?_
   have z121 : w119.drew.heap.size = w119.heap.size := rfl
   have hS122 : Fr (fun _ => False) w119.drew w119.drew := Fr.refl _ _
   have h5 := ((h5.k m116).keep m120 (nE (by omega))).drew
   have hf := ((hf.s m116).t m120 (by omega)).drew
   have L99 := (L99.keep text_st (lNo (by omega)) m120 (lN1 (by omega))).keep text_st (lNo (by omega)) (fd w119) nF
   have h18 := h18.drew
   refine qqM rfl rfl hS122 (qqM rfl rfl hS122 (hvH rfl (fun _ _ => xfld fl135_4 rfl) hS122 (hvH rfl (fun w' hS => xld on22 rfl ((h5.k hS).r.c 4 rfl rfl)) hS122 (hvH rfl (fun _ _ => xconv hs22 ki3 rfl (w64 (by omega) (by omega))) hS122 (hvH rfl (fun _ _ => xadd rfl rfl (w64 (by omega) (by omega))) hS122 (qqA rfl rfl hS122 (qqA rfl rfl hS122 (qqA rfl rfl hS122 (hendH (fdg 6 7 8 rfl fun _ => wp_ret (rp3 rfl rfl rfl rfl ?_)))))))))))
   exact ⟨.inl ⟨by omega, _, rfl, ⟨b18, _, _, _, rfl, .inr ⟨by omega, by omega⟩, h18.r, .txt hk (L99.mono text_gr (fun k hk => hk.elim .inl (fun h => .inr ⟨by omega, by omega⟩)))⟩⟩, hf⟩
  have z123 := m116.size
  have h18 := h18.k m116
  refine sM rfl (sE2 rfl (suK (xstW h18 (lens' := [1]) sz207 (by simp []) rfl (by simp only [fC, fN, aN] <;> rfl) rfl rfl) ?_))
  rintro w125 ⟨m126, h18, s124⟩
  refine sA rfl (send ((sreg (sv (xmkif ni205 rfl) (sA rfl (send ((lreg (sA rfl (lend (nBlock (nThen ((wp_seq (sreg (sM rfl (sv (xneI if89 rfl) (send (fgg 1 5 9 10 11 156 rfl fun _ => cyes rfl (sreg (sM rfl (sM rfl (sv (xadds rfl rfl (by decide) (by decide)) (sM rfl (sv (xbuildS [[_], [_]] zr168 ly168 rfl (by simp [fitAll, zs168, Value.cells]) rfl) (svK (xboxS (lens := [1, 1]) rfl (by simp [])) ?_))))))))))))))))))))))))))
  rintro _ w128 ⟨b162, rfl, m129, h162, e127, s127⟩
  have hf := ((hf.s m116).t m126 (by omega)).s m129
  refine sv (xmkif ni166 rfl) (sA rfl (sA rfl (sA rfl (send (fdg 6 7 8 rfl fun _ => wp_ret (rThen (rp3 rfl rfl rfl rfl ?_)))))))
  exact ⟨.inr ⟨by omega, _, rfl⟩, hf⟩
 refine sA rfl (send (ffg 0 1 5 26 92 rfl fun _ => cno rfl (sreg (svP (xeql rfl rfl) (fun hc104 => ?_) (fun hc104 => ?_)))))
 ·
  refine sA rfl (send (ffg 0 1 5 26 103 rfl fun _ => cyes rfl ?_))
  have hk : r.kind = 8 := kind_of_type 8 hr hc104
  obtain ⟨hsb, hbe⟩ := hbody.simple (.inr (.inr (.inl hk))) (bodyL8 hk)
  rw [fixedL_length] at hbe
  refine sreg (svK (xallS (lens := [16]) in211 (by simp [bvs_length])) ?_)
  rintro _ w131 ⟨b19, rfl, m132, h19, e130, s130⟩
  have hm := rng_fr hm m132 (by omega) id
  have hG := hG.k0 m132 (by omega)
  refine send (feg 0 1 5 19 rfl fun _ => sreg (sM rfl (sM rfl (sc (xcall ca202 rfl) (c202 (b := b) (off := off) (xs := fixedL r.data 16) hms hm (by omega) hnb hkm hbl hG (by omega) (fixedL_length _ _) hsb (by omega) h0) ?_))))
  have hf := hf.s m132
  have h5 := h5.k m132
  rintro _ w133 ⟨⟨hle108, rfl⟩ | ⟨hgt108, T108, x108, rfl⟩, m134⟩
  ·
   have z135 := m134.size
   have h19 := h19.k m134
   refine sM rfl (sE2 rfl (suK (xstW h19 (lens' := [16]) sz211 (by simp [bvs_length, fixedL_length]) rfl (by simp only [fC, fN, aN, bvs_one] <;> rfl) rfl rfl) ?_))
   rintro w137 ⟨m138, h19, s136⟩
   refine sA rfl (send ((sreg (sv (xmkif ni208 rfl) (sA rfl (send ((lreg (sA rfl (lend (nBlock (nThen ((wp_seq (sreg (sM rfl (sv (xneN if89 rfl) (send (fgg 1 5 9 10 11 156 rfl fun _ => cno rfl (wp_skip (nThen (fdg 1 5 9 rfl fun _ => ?_))))))))))))))))))))))
   refine sdrawH (Fr (fun _ => False) w137.drew) [rd0, rd1, rd2, rd3, rd4, rd5, rd6, rd7, rd8] mixed (by kernel_rfl) (fun _ _ _ _ _ h => h) ?_
   have z139 : w137.drew.heap.size = w137.heap.size := rfl
   have hS140 : Fr (fun _ => False) w137.drew w137.drew := Fr.refl _ _
   have h5 := ((h5.k m134).keep m138 (nE (by omega))).drew
   have hf := ((hf.s m134).t m138 (by omega)).drew
   have h19 := h19.drew
   refine qqM rfl rfl hS140 (qqM rfl rfl hS140 (hvH rfl (fun _ _ => xfld fl135_4 rfl) hS140 (hvH rfl (fun w' hS => xld on22 rfl ((h5.k hS).r.c 4 rfl rfl)) hS140 (hvH rfl (fun _ _ => xconv hs22 ki3 rfl (w64 (by omega) (by omega))) hS140 (hvH rfl (fun _ _ => xadd rfl rfl (w64 (by omega) (by omega))) hS140 (qqA rfl rfl hS140 (qqA rfl rfl hS140 (qqA rfl rfl hS140 (hendH (fdg 6 7 8 rfl fun _ => wp_ret (rp3 rfl rfl rfl rfl ?_)))))))))))
   exact ⟨.inl ⟨by omega, _, rfl, ⟨b19, _, _, _, rfl, .inr ⟨by omega, by omega⟩, h19.r, .aaaa hk⟩⟩, hf⟩
  have z141 := m134.size
  have h19 := h19.k m134
  refine sM rfl (sE2 rfl (suK (xstW h19 (lens' := [16]) sz211 (by simp [bvs_length]) rfl (by simp only [fC, fN, aN, bvs_one] <;> rfl) rfl rfl) ?_))
  rintro w143 ⟨m144, h19, s142⟩
  refine sA rfl (send ((sreg (sv (xmkif ni208 rfl) (sA rfl (send ((lreg (sA rfl (lend (nBlock (nThen ((wp_seq (sreg (sM rfl (sv (xneI if89 rfl) (send (fgg 1 5 9 10 11 156 rfl fun _ => cyes rfl (sreg (sM rfl (sM rfl (sv (xadds rfl rfl (by decide) (by decide)) (sM rfl (sv (xbuildS [[_], [_]] zr168 ly168 rfl (by simp [fitAll, zs168, Value.cells]) rfl) (svK (xboxS (lens := [1, 1]) rfl (by simp [])) ?_))))))))))))))))))))))))))
  rintro _ w146 ⟨b162, rfl, m147, h162, e145, s145⟩
  have hf := ((hf.s m134).t m144 (by omega)).s m147
  refine sv (xmkif ni166 rfl) (sA rfl (sA rfl (sA rfl (send (fdg 6 7 8 rfl fun _ => wp_ret (rThen (rp3 rfl rfl rfl rfl ?_)))))))
  exact ⟨.inr ⟨by omega, _, rfl⟩, hf⟩
 refine sA rfl (send (ffg 0 1 5 26 103 rfl fun _ => cno rfl (sreg (svP (xeql rfl rfl) (fun hc113 => ?_) (fun hc113 => ?_)))))
 ·
  refine sA rfl (send (ffg 0 1 5 26 112 rfl fun _ => cyes rfl ?_))
  have hk : r.kind = 9 := kind_of_type 9 hr hc113
  obtain ⟨hsb, hNa⟩ := hbody.2.2.2.1 hk
  rw [← be16_mod r.n1.toNat, ← be16_mod r.n2.toNat, ← be16_mod r.n3.toNat] at hsb
  have hnh := hr.2.2.1.2.1 (by omega)
  refine sreg (svK (xallS (lens := [1, 1, 1, 256]) in214 (by simp [nm_length])) ?_)
  rintro _ w149 ⟨b20, rfl, m150, h20, e148, s148⟩
  have hm := rng_fr hm m150 (by omega) id
  have hG := hG.k0 m150 (by omega)
  refine send (feg 0 1 5 20 rfl fun _ => sreg (sM rfl (sM rfl (sc (xcall ca203 rfl) (c203 (b := b) (K := 0) (off := off) (e := off + len) (S := bt r.host) (ka := r.n1.toNat % 65536) (kb := r.n2.toNat % 65536) (kc := r.n3.toNat % 65536) hms hm (by omega) hnb hkm hbl hG (by omega) (m65 _) (m65 _) (m65 _) hsb hNa hnh (by omega) (.inl rfl)) ?_))))
  have hf := hf.s m150
  have h5 := h5.k m150
  rintro _ w151 ⟨⟨hle117, rfl⟩ | ⟨hgt117, T117, x117, rfl⟩, m152⟩
  ·
   have z153 := m152.size
   have h20 := h20.k m152
   refine sM rfl (sE2 rfl (suK (xstW h20 (lens' := [1, 1, 1, 256]) sz214 (by simp [nm_length]) rfl (by simp only [fC, fN, aA, aN, nm_one] <;> rfl) rfl rfl) ?_))
   rintro w155 ⟨m156, h20, s154⟩
   refine sA rfl (send ((sreg (sv (xmkif ni212 rfl) (sA rfl (send ((lreg (sA rfl (lend (nBlock (nThen ((wp_seq (sreg (sM rfl (sv (xneN if89 rfl) (send (fgg 1 5 9 10 11 156 rfl fun _ => cno rfl (wp_skip (nThen (fdg 1 5 9 rfl fun _ => ?_))))))))))))))))))))))
   refine sdrawH (Fr (fun _ => False) w155.drew) [rd0, rd1, rd2, rd3, rd4, rd5, rd6, rd7, rd8] mixed (by kernel_rfl) (fun _ _ _ _ _ h => h) ?_
   have z157 : w155.drew.heap.size = w155.heap.size := rfl
   have hS158 : Fr (fun _ => False) w155.drew w155.drew := Fr.refl _ _
   have h5 := ((h5.k m152).keep m156 (nE (by omega))).drew
   have hf := ((hf.s m152).t m156 (by omega)).drew
   have h20 := h20.drew
   refine qqM rfl rfl hS158 (qqM rfl rfl hS158 (hvH rfl (fun _ _ => xfld fl135_4 rfl) hS158 (hvH rfl (fun w' hS => xld on22 rfl ((h5.k hS).r.c 4 rfl rfl)) hS158 (hvH rfl (fun _ _ => xconv hs22 ki3 rfl (w64 (by omega) (by omega))) hS158 (hvH rfl (fun _ _ => xadd rfl rfl (w64 (by omega) (by omega))) hS158 (qqA rfl rfl hS158 (qqA rfl rfl hS158 (qqA rfl rfl hS158 (hendH (fdg 6 7 8 rfl fun _ => wp_ret (rp3 rfl rfl rfl rfl ?_)))))))))))
   exact ⟨.inl ⟨by omega, _, rfl, ⟨b20, _, _, _, rfl, .inr ⟨by omega, by omega⟩, h20.r, .srv hk⟩⟩, hf⟩
  have z159 := m152.size
  have h20 := h20.k m152
  refine sM rfl (sE2 rfl (suK (xstW h20 (lens' := [1, 1, 1, 256]) sz214 (by simp [nm_length]) rfl (by simp only [fC, fN, aA, aN, nm_one] <;> rfl) rfl rfl) ?_))
  rintro w161 ⟨m162, h20, s160⟩
  refine sA rfl (send ((sreg (sv (xmkif ni212 rfl) (sA rfl (send ((lreg (sA rfl (lend (nBlock (nThen ((wp_seq (sreg (sM rfl (sv (xneI if89 rfl) (send (fgg 1 5 9 10 11 156 rfl fun _ => cyes rfl (sreg (sM rfl (sM rfl (sv (xadds rfl rfl (by decide) (by decide)) (sM rfl (sv (xbuildS [[_], [_]] zr168 ly168 rfl (by simp [fitAll, zs168, Value.cells]) rfl) (svK (xboxS (lens := [1, 1]) rfl (by simp [])) ?_))))))))))))))))))))))))))
  rintro _ w164 ⟨b162, rfl, m165, h162, e163, s163⟩
  have hf := ((hf.s m152).t m162 (by omega)).s m165
  refine sv (xmkif ni166 rfl) (sA rfl (sA rfl (sA rfl (send (fdg 6 7 8 rfl fun _ => wp_ret (rThen (rp3 rfl rfl rfl rfl ?_)))))))
  exact ⟨.inr ⟨by omega, _, rfl⟩, hf⟩
 refine sA rfl (send (ffg 0 1 5 26 112 rfl fun _ => cno rfl (sreg (svP (xeql rfl rfl) (fun hc122 => ?_) (fun hc122 => ?_)))))
 ·
  refine sA rfl (send (ffg 0 1 5 26 121 rfl fun _ => cyes rfl ?_))
  have hk : r.kind = 11 := kind_of_type 11 hr hc122
  obtain ⟨hsb, e1, hNa, hps, hbe⟩ := hbody.2.2.2.2.1 (.inl hk)
  rw [← be16_mod] at hsb
  have hnh := hr.2.2.1.2.1 (by omega)
  have hNl := (show NameR b (off + 2) 0 (off + 2) (txt (bt r.host)) e1 from hNa).le
  refine sreg (svK (xallS (lens := [1, 256, 1]) in224 (by simp [nm_length])) ?_)
  rintro _ w167 ⟨b21, rfl, m168, h21, e166, s166⟩
  have h5 := h5.k m168
  have hm := rng_fr hm m168 (by omega) id
  have hG := hG.k0 m168 (by omega)
  refine send (feg 0 1 5 21 rfl fun _ => sreg (sM rfl (sM rfl (sv (xfld fl135_4 rfl) (sv (xld on22 rfl (h5.r.c 4 rfl rfl)) (sc (xcall ca204 rfl) (c204 (b := b) (K := 0) (off := off) (e := e1) (S := bt r.host) (ka := r.n1.toNat % 65536) (ps := r.pairs) (len := len) hms hm (by omega) hnb hkm hbl hG (by omega) (m65 _) hsb hNa hnh (by omega) (.inl rfl) hps (hasc (.inl hk)) hbe hl16 (by omega) (by omega)) ?_))))))
  have hf := hf.s m168
  rintro _ w169 ⟨⟨hle128, v128, rfl, L128⟩ | ⟨hgt128, T128, x128, rfl⟩, m170⟩
  ·
   have z171 := m170.size
   obtain ⟨aq128, cq128, rfl⟩ := L128.form
   have h21 := h21.k m170
   refine sM rfl (sE2 rfl (suK (xstW h21 (lens' := [1, 256, 1]) sz224 (by simp [nm_length]) rfl (by simp only [fC, fN, aA, aN, nm_one, bT] <;> rfl) rfl rfl) ?_))
   rintro w173 ⟨m174, h21, s172⟩
   refine sA rfl (send ((sreg (sv (xmkif ni221 rfl) (sA rfl (send ((lreg (sA rfl (lend (nBlock (nThen ((wp_seq (sreg (sM rfl (sv (xneN if89 rfl) (send (fgg 1 5 9 10 11 156 rfl fun _ => cno rfl (wp_skip (nThen (fdg 1 5 9 rfl fun _ => ?_))))))))))))))))))))))
   refine sdrawH (Fr (fun _ => False) w173.drew) [rd0, rd1, rd2, rd3, rd4, rd5, rd6, rd7, rd8] mixed (by kernel_rfl) (fun _ _ _ _ _ h => h) ?_
   have z175 : w173.drew.heap.size = w173.heap.size := rfl
   have hS176 : Fr (fun _ => False) w173.drew w173.drew := Fr.refl _ _
   have h5 := ((h5.k m170).keep m174 (nE (by omega))).drew
   have hf := ((hf.s m170).t m174 (by omega)).drew
   have L128 := (L128.keep pair_st (lNo (by omega)) m174 (lN1 (by omega))).keep pair_st (lNo (by omega)) (fd w173) nF
   have h21 := h21.drew
   refine qqM rfl rfl hS176 (qqM rfl rfl hS176 (hvH rfl (fun _ _ => xfld fl135_4 rfl) hS176 (hvH rfl (fun w' hS => xld on22 rfl ((h5.k hS).r.c 4 rfl rfl)) hS176 (hvH rfl (fun _ _ => xconv hs22 ki3 rfl (w64 (by omega) (by omega))) hS176 (hvH rfl (fun _ _ => xadd rfl rfl (w64 (by omega) (by omega))) hS176 (qqA rfl rfl hS176 (qqA rfl rfl hS176 (qqA rfl rfl hS176 (hendH (fdg 6 7 8 rfl fun _ => wp_ret (rp3 rfl rfl rfl rfl ?_)))))))))))
   exact ⟨.inl ⟨by omega, _, rfl, ⟨b21, _, _, _, rfl, .inr ⟨by omega, by omega⟩, h21.r, .svcb hk (L128.mono pair_gr (fun k hk => hk.elim .inl (fun h => .inr ⟨by omega, by omega⟩)))⟩⟩, hf⟩
  have z177 := m170.size
  have h21 := h21.k m170
  refine sM rfl (sE2 rfl (suK (xstW h21 (lens' := [1, 256, 1]) sz224 (by simp [nm_length]) rfl (by simp only [fC, fN, aA, aN, nm_one, bT] <;> rfl) rfl rfl) ?_))
  rintro w179 ⟨m180, h21, s178⟩
  refine sA rfl (send ((sreg (sv (xmkif ni221 rfl) (sA rfl (send ((lreg (sA rfl (lend (nBlock (nThen ((wp_seq (sreg (sM rfl (sv (xneI if89 rfl) (send (fgg 1 5 9 10 11 156 rfl fun _ => cyes rfl (sreg (sM rfl (sM rfl (sv (xadds rfl rfl (by decide) (by decide)) (sM rfl (sv (xbuildS [[_], [_]] zr168 ly168 rfl (by simp [fitAll, zs168, Value.cells]) rfl) (svK (xboxS (lens := [1, 1]) rfl (by simp [])) ?_))))))))))))))))))))))))))
  rintro _ w182 ⟨b162, rfl, m183, h162, e181, s181⟩
  have hf := ((hf.s m170).t m180 (by omega)).s m183
  refine sv (xmkif ni166 rfl) (sA rfl (sA rfl (sA rfl (send (fdg 6 7 8 rfl fun _ => wp_ret (rThen (rp3 rfl rfl rfl rfl ?_)))))))
  exact ⟨.inr ⟨by omega, _, rfl⟩, hf⟩
 refine sA rfl (send (ffg 0 1 5 26 121 rfl fun _ => cno rfl (sreg (svP (xeql rfl rfl) (fun hc133 => ?_) (fun hc133 => ?_)))))
 ·
  refine sA rfl (send (ffg 0 1 5 26 132 rfl fun _ => cyes rfl ?_))
  have hk : r.kind = 12 := kind_of_type 12 hr hc133
  obtain ⟨hsb, e1, hNa, hps, hbe⟩ := hbody.2.2.2.2.1 (.inr hk)
  rw [← be16_mod] at hsb
  have hnh := hr.2.2.1.2.1 (by omega)
  have hNl := (show NameR b (off + 2) 0 (off + 2) (txt (bt r.host)) e1 from hNa).le
  refine sreg (svK (xallS (lens := [1, 256, 1]) in228 (by simp [nm_length])) ?_)
  rintro _ w185 ⟨b22, rfl, m186, h22, e184, s184⟩
  have h5 := h5.k m186
  have hm := rng_fr hm m186 (by omega) id
  have hG := hG.k0 m186 (by omega)
  refine send (feg 0 1 5 22 rfl fun _ => sreg (sM rfl (sM rfl (sv (xfld fl135_4 rfl) (sv (xld on22 rfl (h5.r.c 4 rfl rfl)) (sc (xcall ca204 rfl) (c204 (b := b) (K := 0) (off := off) (e := e1) (S := bt r.host) (ka := r.n1.toNat % 65536) (ps := r.pairs) (len := len) hms hm (by omega) hnb hkm hbl hG (by omega) (m65 _) hsb hNa hnh (by omega) (.inl rfl) hps (hasc (.inr hk)) hbe hl16 (by omega) (by omega)) ?_))))))
  have hf := hf.s m186
  rintro _ w187 ⟨⟨hle139, v139, rfl, L139⟩ | ⟨hgt139, T139, x139, rfl⟩, m188⟩
  ·
   have z189 := m188.size
   obtain ⟨aq139, cq139, rfl⟩ := L139.form
   have h22 := h22.k m188
   refine sM rfl (sE2 rfl (sv (xfld fl228_0 rfl) (suK (xstW h22 (lens' := [1, 256, 1]) sz224 (by simp [nm_length]) rfl (by simp only [fC, fN, aA, aN, nm_one, bT] <;> rfl) rfl rfl) ?_)))
   rintro w191 ⟨m192, h22, s190⟩
   refine sA rfl (send ((sreg (sv (xmkif ni226 rfl) (sA rfl (send ((lreg (sA rfl (lend (nBlock (nThen ((wp_seq (sreg (sM rfl (sv (xneN if89 rfl) (send (fgg 1 5 9 10 11 156 rfl fun _ => cno rfl (wp_skip (nThen (fdg 1 5 9 rfl fun _ => ?_))))))))))))))))))))))
   refine sdrawH (Fr (fun _ => False) w191.drew) [rd0, rd1, rd2, rd3, rd4, rd5, rd6, rd7, rd8] mixed (by kernel_rfl) (fun _ _ _ _ _ h => h) ?_
   have z193 : w191.drew.heap.size = w191.heap.size := rfl
   have hS194 : Fr (fun _ => False) w191.drew w191.drew := Fr.refl _ _
   have h5 := ((h5.k m188).keep m192 (nE (by omega))).drew
   have hf := ((hf.s m188).t m192 (by omega)).drew
   have L139 := (L139.keep pair_st (lNo (by omega)) m192 (lN1 (by omega))).keep pair_st (lNo (by omega)) (fd w191) nF
   have h22 := h22.drew
   refine qqM rfl rfl hS194 (qqM rfl rfl hS194 (hvH rfl (fun _ _ => xfld fl135_4 rfl) hS194 (hvH rfl (fun w' hS => xld on22 rfl ((h5.k hS).r.c 4 rfl rfl)) hS194 (hvH rfl (fun _ _ => xconv hs22 ki3 rfl (w64 (by omega) (by omega))) hS194 (hvH rfl (fun _ _ => xadd rfl rfl (w64 (by omega) (by omega))) hS194 (qqA rfl rfl hS194 (qqA rfl rfl hS194 (qqA rfl rfl hS194 (hendH (fdg 6 7 8 rfl fun _ => wp_ret (rp3 rfl rfl rfl rfl ?_)))))))))))
   exact ⟨.inl ⟨by omega, _, rfl, ⟨b22, _, _, _, rfl, .inr ⟨by omega, by omega⟩, h22.r, .https hk (L139.mono pair_gr (fun k hk => hk.elim .inl (fun h => .inr ⟨by omega, by omega⟩)))⟩⟩, hf⟩
  have z195 := m188.size
  have h22 := h22.k m188
  refine sM rfl (sE2 rfl (sv (xfld fl228_0 rfl) (suK (xstW h22 (lens' := [1, 256, 1]) sz224 (by simp [nm_length]) rfl (by simp only [fC, fN, aA, aN, nm_one, bT] <;> rfl) rfl rfl) ?_)))
  rintro w197 ⟨m198, h22, s196⟩
  refine sA rfl (send ((sreg (sv (xmkif ni226 rfl) (sA rfl (send ((lreg (sA rfl (lend (nBlock (nThen ((wp_seq (sreg (sM rfl (sv (xneI if89 rfl) (send (fgg 1 5 9 10 11 156 rfl fun _ => cyes rfl (sreg (sM rfl (sM rfl (sv (xadds rfl rfl (by decide) (by decide)) (sM rfl (sv (xbuildS [[_], [_]] zr168 ly168 rfl (by simp [fitAll, zs168, Value.cells]) rfl) (svK (xboxS (lens := [1, 1]) rfl (by simp [])) ?_))))))))))))))))))))))))))
  rintro _ w200 ⟨b162, rfl, m201, h162, e199, s199⟩
  have hf := ((hf.s m188).t m198 (by omega)).s m201
  refine sv (xmkif ni166 rfl) (sA rfl (sA rfl (sA rfl (send (fdg 6 7 8 rfl fun _ => wp_ret (rThen (rp3 rfl rfl rfl rfl ?_)))))))
  exact ⟨.inr ⟨by omega, _, rfl⟩, hf⟩
 refine sA rfl (send (ffg 0 1 5 26 132 rfl fun _ => cno rfl (sreg (svP (xeql rfl rfl) (fun hc145 => ?_) (fun hc145 => ?_)))))
 ·
  refine sA rfl (send (feg 0 1 5 144 rfl fun _ => cyes rfl ?_))
  have hk : r.kind = 10 := kind_of_type 10 hr hc145
  obtain ⟨hsb, hbe⟩ := hbody.simple (.inr (.inr (.inr (.inl hk)))) (bodyL10 hk)
  obtain rfl : len = (pairsL r.pairs).length := by omega
  refine sreg (svK (xallS (lens := [1]) in218 (by simp [])) ?_)
  rintro _ w203 ⟨b23, rfl, m204, h23, e202, s202⟩
  have h5 := h5.k m204
  have hm := rng_fr hm m204 (by omega) id
  have hG := hG.k0 m204 (by omega)
  refine send (feg 0 1 5 23 rfl fun _ => sreg (sM rfl (sM rfl (sv (xfld fl135_4 rfl) (sv (xld on22 rfl (h5.r.c 4 rfl rfl)) (sc (xcall ca205 rfl) (c205 (b := b) (off := off) (ps := r.pairs) hms hm (by omega) hnb hkm hbl hG (by omega) hsb (by omega) (by omega) hon) ?_))))))
  have hf := hf.s m204
  rintro _ w205 ⟨⟨hle151, v151, rfl, L151⟩ | ⟨hgt151, T151, x151, rfl⟩, m206⟩
  ·
   have z207 := m206.size
   obtain ⟨aq151, cq151, rfl⟩ := L151.form
   have h23 := h23.k m206
   refine sM rfl (sE2 rfl (suK (xstW h23 (lens' := [1]) sz218 (by simp []) rfl (by simp only [fC, fN, aN] <;> rfl) rfl rfl) ?_))
   rintro w209 ⟨m210, h23, s208⟩
   refine sA rfl (send ((sreg (sv (xmkif ni215 rfl) (sA rfl (send ((lreg (sA rfl (lend (nBlock (nThen ((wp_seq (sreg (sM rfl (sv (xneN if89 rfl) (send (fgg 1 5 9 10 11 156 rfl fun _ => cno rfl (wp_skip (nThen (fdg 1 5 9 rfl fun _ => ?_))))))))))))))))))))))
   refine sdrawH (Fr (fun _ => False) w209.drew) [rd0, rd1, rd2, rd3, rd4, rd5, rd6, rd7, rd8] mixed (by kernel_rfl) (fun _ _ _ _ _ h => h) ?_
   have z211 : w209.drew.heap.size = w209.heap.size := rfl
   have hS212 : Fr (fun _ => False) w209.drew w209.drew := Fr.refl _ _
   have h5 := ((h5.k m206).keep m210 (nE (by omega))).drew
   have hf := ((hf.s m206).t m210 (by omega)).drew
   have L151 := (L151.keep pair_st (lNo (by omega)) m210 (lN1 (by omega))).keep pair_st (lNo (by omega)) (fd w209) nF
   have h23 := h23.drew
   refine qqM rfl rfl hS212 (qqM rfl rfl hS212 (hvH rfl (fun _ _ => xfld fl135_4 rfl) hS212 (hvH rfl (fun w' hS => xld on22 rfl ((h5.k hS).r.c 4 rfl rfl)) hS212 (hvH rfl (fun _ _ => xconv hs22 ki3 rfl (w64 (by omega) (by omega))) hS212 (hvH rfl (fun _ _ => xadd rfl rfl (w64 (by omega) (by omega))) hS212 (qqA rfl rfl hS212 (qqA rfl rfl hS212 (qqA rfl rfl hS212 (hendH (fdg 6 7 8 rfl fun _ => wp_ret (rp3 rfl rfl rfl rfl ?_)))))))))))
   exact ⟨.inl ⟨by omega, _, rfl, ⟨b23, _, _, _, rfl, .inr ⟨by omega, by omega⟩, h23.r, .opt hk (L151.mono pair_gr (fun k hk => hk.elim .inl (fun h => .inr ⟨by omega, by omega⟩)))⟩⟩, hf⟩
  have z213 := m206.size
  have h23 := h23.k m206
  refine sM rfl (sE2 rfl (suK (xstW h23 (lens' := [1]) sz218 (by simp []) rfl (by simp only [fC, fN, aN] <;> rfl) rfl rfl) ?_))
  rintro w215 ⟨m216, h23, s214⟩
  refine sA rfl (send ((sreg (sv (xmkif ni215 rfl) (sA rfl (send ((lreg (sA rfl (lend (nBlock (nThen ((wp_seq (sreg (sM rfl (sv (xneI if89 rfl) (send (fgg 1 5 9 10 11 156 rfl fun _ => cyes rfl (sreg (sM rfl (sM rfl (sv (xadds rfl rfl (by decide) (by decide)) (sM rfl (sv (xbuildS [[_], [_]] zr168 ly168 rfl (by simp [fitAll, zs168, Value.cells]) rfl) (svK (xboxS (lens := [1, 1]) rfl (by simp [])) ?_))))))))))))))))))))))))))
  rintro _ w218 ⟨b162, rfl, m219, h162, e217, s217⟩
  have hf := ((hf.s m206).t m216 (by omega)).s m219
  refine sv (xmkif ni166 rfl) (sA rfl (sA rfl (sA rfl (send (fdg 6 7 8 rfl fun _ => wp_ret (rThen (rp3 rfl rfl rfl rfl ?_)))))))
  exact ⟨.inr ⟨by omega, _, rfl⟩, hf⟩
 refine sA rfl (send (feg 0 1 5 144 rfl fun _ => cno rfl ?_))
 have hk : r.kind = 13 := kind13 hr (fun j h1 h12 => by
  have hj : j = 1 ∨ j = 2 ∨ j = 3 ∨ j = 4 ∨ j = 5 ∨ j = 6 ∨ j = 7 ∨ j = 8 ∨ j = 9 ∨ j = 10 ∨ j = 11 ∨ j = 12 := by omega
  rcases hj with rfl | rfl | rfl | rfl | rfl | rfl | rfl | rfl | rfl | rfl | rfl | rfl
  · exact hc39
  · exact hc48
  · exact hc57
  · exact hc66
  · exact hc75
  · exact hc84
  · exact hc93
  · exact hc104
  · exact hc113
  · exact hc145
  · exact hc122
  · exact hc133)
 obtain ⟨hsb, hbe⟩ := hbody.simple (.inr (.inr (.inr (.inr hk)))) (bodyL13 hk)
 obtain rfl : len = r.data.length := by omega
 refine sreg (svK (xallS (lens := [1, 1]) in231 (by simp [])) ?_)
 rintro _ w221 ⟨b24, rfl, m222, h24, e220, s220⟩
 have h5 := h5.k m222
 have hm := rng_fr hm m222 (by omega) id
 have hG := hG.k0 m222 (by omega)
 refine send (feg 0 1 5 24 rfl fun _ => sreg (sv (xfld fl135_1 rfl) (sv (xld on83 rfl (h5.r.c 1 rfl rfl)) (sM rfl (sM rfl (sv (xfld fl135_4 rfl) (sv (xld on22 rfl (h5.r.c 4 rfl rfl)) (sc (xcall ca206 rfl) (c206 (b := b) (tv := ((typeN r).toNat : Int)) (off := off) (xs := r.data) hms hm (by omega) hnb hkm hbl hG (by omega) (by omega) hsb (by omega) h0) ?_))))))))
 have hf := hf.s m222
 rintro _ w223 ⟨⟨hle34, v34, rfl, L34⟩ | ⟨hgt34, T34, x34, rfl⟩, m224⟩
 ·
  have z225 := m224.size
  obtain ⟨aq34, cq34, rfl, -⟩ := id L34
  have h24 := h24.k m224
  refine sM rfl (sE2 rfl (suK (xstW h24 (lens' := [1, 1]) sz231 (by simp []) rfl (by simp only [fC, fN, aA, aN] <;> rfl) rfl rfl) ?_))
  rintro w227 ⟨m228, h24, s226⟩
  refine sA rfl (send ((sreg (sv (xmkif ni229 rfl) (sA rfl (send ((lreg (sA rfl (lend (nBlock (nThen ((wp_seq (sreg (sM rfl (sv (xneN if89 rfl) (send (fgg 1 5 9 10 11 156 rfl fun _ => cno rfl (wp_skip (nThen (fdg 1 5 9 rfl fun _ => ?_))))))))))))))))))))))
  refine sdrawH (Fr (fun _ => False) w227.drew) [rd0, rd1, rd2, rd3, rd4, rd5, rd6, rd7, rd8] mixed (by kernel_rfl) (fun _ _ _ _ _ h => h) ?_
  have z229 : w227.drew.heap.size = w227.heap.size := rfl
  have hS230 : Fr (fun _ => False) w227.drew w227.drew := Fr.refl _ _
  have h5 := ((h5.k m224).keep m228 (nE (by omega))).drew
  have hf := ((hf.s m224).t m228 (by omega)).drew
  have L34 := (L34.keep (lNo (by omega)) m228 (lN1 (by omega))).keep (lNo (by omega)) (fd w227) nF
  have h24 := h24.drew
  refine qqM rfl rfl hS230 (qqM rfl rfl hS230 (hvH rfl (fun _ _ => xfld fl135_4 rfl) hS230 (hvH rfl (fun w' hS => xld on22 rfl ((h5.k hS).r.c 4 rfl rfl)) hS230 (hvH rfl (fun _ _ => xconv hs22 ki3 rfl (w64 (by omega) (by omega))) hS230 (hvH rfl (fun _ _ => xadd rfl rfl (w64 (by omega) (by omega))) hS230 (qqA rfl rfl hS230 (qqA rfl rfl hS230 (qqA rfl rfl hS230 (hendH (fdg 6 7 8 rfl fun _ => wp_ret (rp3 rfl rfl rfl rfl ?_)))))))))))
  exact ⟨.inl ⟨by omega, _, rfl, ⟨b24, _, _, _, rfl, .inr ⟨by omega, by omega⟩, h24.r, .other hk (L34.mono (fun k hk => hk.elim .inl (fun h => .inr ⟨by omega, by omega⟩)))⟩⟩, hf⟩
 have z231 := m224.size
 have h24 := h24.k m224
 refine sM rfl (sE2 rfl (suK (xstW h24 (lens' := [1, 1]) sz231 (by simp []) rfl (by simp only [fC, fN, aA, aN] <;> rfl) rfl rfl) ?_))
 rintro w233 ⟨m234, h24, s232⟩
 refine sA rfl (send ((sreg (sv (xmkif ni229 rfl) (sA rfl (send ((lreg (sA rfl (lend (nBlock (nThen ((wp_seq (sreg (sM rfl (sv (xneI if89 rfl) (send (fgg 1 5 9 10 11 156 rfl fun _ => cyes rfl (sreg (sM rfl (sM rfl (sv (xadds rfl rfl (by decide) (by decide)) (sM rfl (sv (xbuildS [[_], [_]] zr168 ly168 rfl (by simp [fitAll, zs168, Value.cells]) rfl) (svK (xboxS (lens := [1, 1]) rfl (by simp [])) ?_))))))))))))))))))))))))))
 rintro _ w236 ⟨b162, rfl, m237, h162, e235, s235⟩
 have hf := ((hf.s m224).t m234 (by omega)).s m237
 refine sv (xmkif ni166 rfl) (sA rfl (sA rfl (sA rfl (send (fdg 6 7 8 rfl fun _ => wp_ret (rThen (rp3 rfl rfl rfl rfl ?_)))))))
 exact ⟨.inr ⟨by omega, _, rfl⟩, hf⟩
end Go.Proofs.YtifnodoffgfpbaaGreatDoor
