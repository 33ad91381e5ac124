/- Part 4 of the texts for a law of this seat: walks, and plain laws about messages; conditions: none. -/
import Derived.Test.YtifnodoffgfpbaaGreatDoorCt3
namespace Go.Proofs.YtifnodoffgfpbaaGreatDoor
open Go

abbrev lPr : List Nat := [1, 1, 1, 1, 1, 1, 1, 1, 1, 1, 1, 1, 1, 1]
/-- the parser: its message, the header's six numbers, section, place, index, whether a header is held, its place, type and length -/
def prSegs (vm : Value) (y0 y1 y2 y3 y4 y5 sec off idx : Int) (val : Bool) (ho ty ln : Int) : List (List Value) :=
  [[vm], [.int .u16 y0], [.int .u16 y1], [.int .u16 y2], [.int .u16 y3], [.int .u16 y4], [.int .u16 y5], [.int .u8 sec], [.int .i64 off], [.int .i64 idx], [.bool val], [.int .i64 ho], [.int .u16 ty], [.int .u16 ln]]
abbrev lRh : List Nat := [256, 1, 1, 1, 1]

set_option maxHeartbeats 4000000 in
set_option maxRecDepth 100000 in
theorem c102 {w : World} {a : Option Addr} {bm om km n : Nat} {b : List UInt8} (hms : n ≠ 0 → a = some ⟨bm, om, none⟩) (hm : w.rangeAt bm om (bvs (b.take n))) (hbm : bm < w.heap.size) (hnb : n ≤ b.length) (hkm : n ≤ km) (hbl : b.length < 100000000) (hG : GE w) (hsz : 21 ≤ w.heap.size) {bp : Nat} {vm : Value} {y0 y1 y2 y3 y4 y5 sec po idx ho ty ln : Int} {val : Bool} (hP : SB w bp lPr (prSegs vm y0 y1 y2 y3 y4 y5 sec po idx val ho ty ln)) (hbp : bp ≠ bm) (hgp : 20 < bp) {ka kb kc kd ke kf : Nat} (la : ka < 65536) (lb : kb < 65536) (lc : kc < 65536) (ld : kd < 65536) (le : ke < 65536) (lf : kf < 65536) (ha : Std b 0 (be16 ka)) (hb : Std b (0 + 2) (be16 kb)) (hc : Std b (0 + 2 + 2) (be16 kc)) (hd : Std b (0 + 2 + 2 + 2) (be16 kd)) (he : Std b (0 + 2 + 2 + 2 + 2) (be16 ke)) (hff : Std b (0 + 2 + 2 + 2 + 2 + 2) (be16 kf)) (hbl12 : 12 ≤ b.length) :
  Ret PP 102 [.pointer (some ⟨bp, 0 + 1, none⟩), .slice a n km, .int .i64 ((0 : Nat) : Int)] w (fun u w' => ((12 ≤ n ∧ u = .tuple #[.int .i64 ((0 + 2 + 2 + 2 + 2 + 2 + 2 : Nat) : Int), .nilIface] ∧ SB w' bp lPr (prSegs vm ka kb kc kd ke kf sec po idx val ho ty ln)) ∨ (n < 12 ∧ (∃ (T : TypeId) (x : Option Addr), u = .tuple #[.int .i64 ((0 : Nat) : Int), .iface T (.pointer x)]) ∧ ∃ i0 i1 i2 i3 i4 i5 : Int, SB w' bp lPr (prSegs vm i0 i1 i2 i3 i4 i5 sec po idx val ho ty ln))) ∧ Fr (fun k => k = bp) w w') := by
 have hf : Fr (fun k => k = bp) w w := Fr.refl _ _
 have z_hP := hP.lt
 refine ret_of Tryz.func102 rfl rfl rfl [(0, _), (1, _), (2, _)] rfl ?_
 refine sreg (sA rfl (sA rfl (send (fg [(0, _), (1, _), (2, _)] ⟨rfl, rfl, rfl, ⟨⟩⟩ fun _ => (sreg (sM rfl (sA rfl (send (fg [(0, _), (1, _), (2, _), (8, _)] ⟨rfl, rfl, rfl, rfl, ⟨⟩⟩ fun _ => (sreg (sA rfl (send (fg [(0, _), (1, _), (2, _), (8, _)] ⟨rfl, rfl, rfl, rfl, ⟨⟩⟩ fun _ => (wp_seq (sreg (sM rfl (sM rfl (sM rfl ?_))))))))))))))))))
 refine sc (xcall ca156 rfl) (c156 (b := b) (off := 0) (x := ka) hms hm (by omega) hnb hkm hbl hG (by omega) la (ha) (by omega)) ?_
 rintro _ w1 ⟨⟨hle15, rfl⟩ | ⟨hgt15, T15, x15, rfl⟩, m2⟩
 ·
  have z3 := m2.size
  have hm := rng_fr hm m2 (by omega) id
  have hG := hG.keep (fun k hk => by omega) m2 nF
  have hP := hP.keep m2 id
  have hf := hf.step0 m2
  refine sM rfl (sv (xex30 rfl) (sv (xex31 rfl) (sv (xex32 rfl) (sN rfl (sv (xfld fl121_0 rfl) ?_)))))
  refine suK (xstF 1 sz22 hP rfl rfl rfl rfl rfl) ?_
  rintro w5 ⟨m6, hP, s4⟩
  have hm := rng_fr hm m6 (by omega) (by show ¬ (bm = bp); omega)
  have hG := hG.keep (fun k hk => by omega) m6 (fun k hk hS => by have hk := hk; have hS : k = bp := hS; omega)
  have hf := hf.step m6 (fun k hk hS => by have hS : k = bp := hS; show k = bp; omega)
  refine sA rfl (sA rfl (send (fg [(0, _), (1, _), (2, _), (8, _), (9, _)] ⟨rfl, rfl, rfl, rfl, rfl, ⟨⟩⟩ fun _ => (sreg (sM rfl (sv (xneN if89 rfl) (send (fg [(0, _), (1, _), (2, _), (8, _), (9, _), (22, _)] ⟨rfl, rfl, rfl, rfl, rfl, rfl, ⟨⟩⟩ fun _ => (cno rfl (wp_skip (nThen (fg [(0, _), (1, _), (2, _), (8, _)] ⟨rfl, rfl, rfl, rfl, ⟨⟩⟩ fun _ => (wp_seq (sreg (sM rfl (sM rfl (sM rfl ?_)))))))))))))))))
  refine sc (xcall ca156 rfl) (c156 (b := b) (off := 0 + 2) (x := kb) hms hm (by omega) hnb hkm hbl hG (by omega) lb (hb) (by omega)) ?_
  rintro _ w7 ⟨⟨hle32, rfl⟩ | ⟨hgt32, T32, x32, rfl⟩, m8⟩
  ·
   have z9 := m8.size
   have hm := rng_fr hm m8 (by omega) id
   have hG := hG.keep (fun k hk => by omega) m8 nF
   have hP := hP.keep m8 id
   have hf := hf.step0 m8
   refine sM rfl (sv (xex30 rfl) (sv (xex31 rfl) (sv (xex32 rfl) (sN rfl (sv (xfld fl121_1 rfl) ?_)))))
   refine suK (xstF 2 sz22 hP rfl rfl rfl rfl rfl) ?_
   rintro w11 ⟨m12, hP, s10⟩
   have hm := rng_fr hm m12 (by omega) (by show ¬ (bm = bp); omega)
   have hG := hG.keep (fun k hk => by omega) m12 (fun k hk hS => by have hk := hk; have hS : k = bp := hS; omega)
   have hf := hf.step m12 (fun k hk hS => by have hS : k = bp := hS; show k = bp; omega)
   refine sA rfl (sA rfl (send (fg [(0, _), (1, _), (2, _), (8, _), (9, _)] ⟨rfl, rfl, rfl, rfl, rfl, ⟨⟩⟩ fun _ => (sreg (sM rfl (sv (xneN if89 rfl) (send (fg [(0, _), (1, _), (2, _), (8, _), (9, _), (39, _)] ⟨rfl, rfl, rfl, rfl, rfl, rfl, ⟨⟩⟩ fun _ => (cno rfl (wp_skip (nThen (fg [(0, _), (1, _), (2, _), (8, _)] ⟨rfl, rfl, rfl, rfl, ⟨⟩⟩ fun _ => (wp_seq (sreg (sM rfl (sM rfl (sM rfl ?_)))))))))))))))))
   refine sc (xcall ca156 rfl) (c156 (b := b) (off := 0 + 2 + 2) (x := kc) hms hm (by omega) hnb hkm hbl hG (by omega) lc (hc) (by omega)) ?_
   rintro _ w13 ⟨⟨hle49, rfl⟩ | ⟨hgt49, T49, x49, rfl⟩, m14⟩
   ·
    have z15 := m14.size
    have hm := rng_fr hm m14 (by omega) id
    have hG := hG.keep (fun k hk => by omega) m14 nF
    have hP := hP.keep m14 id
    have hf := hf.step0 m14
    refine sM rfl (sv (xex30 rfl) (sv (xex31 rfl) (sv (xex32 rfl) (sN rfl (sv (xfld fl121_2 rfl) ?_)))))
    refine suK (xstF 3 sz22 hP rfl rfl rfl rfl rfl) ?_
    rintro w17 ⟨m18, hP, s16⟩
    have hm := rng_fr hm m18 (by omega) (by show ¬ (bm = bp); omega)
    have hG := hG.keep (fun k hk => by omega) m18 (fun k hk hS => by have hk := hk; have hS : k = bp := hS; omega)
    have hf := hf.step m18 (fun k hk hS => by have hS : k = bp := hS; show k = bp; omega)
    refine sA rfl (sA rfl (send (fg [(0, _), (1, _), (2, _), (8, _), (9, _)] ⟨rfl, rfl, rfl, rfl, rfl, ⟨⟩⟩ fun _ => (sreg (sM rfl (sv (xneN if89 rfl) (send (fg [(0, _), (1, _), (2, _), (8, _), (9, _), (56, _)] ⟨rfl, rfl, rfl, rfl, rfl, rfl, ⟨⟩⟩ fun _ => (cno rfl (wp_skip (nThen (fg [(0, _), (1, _), (2, _), (8, _)] ⟨rfl, rfl, rfl, rfl, ⟨⟩⟩ fun _ => (wp_seq (sreg (sM rfl (sM rfl (sM rfl ?_)))))))))))))))))
    refine sc (xcall ca156 rfl) (c156 (b := b) (off := 0 + 2 + 2 + 2) (x := kd) hms hm (by omega) hnb hkm hbl hG (by omega) ld (hd) (by omega)) ?_
    rintro _ w19 ⟨⟨hle66, rfl⟩ | ⟨hgt66, T66, x66, rfl⟩, m20⟩
    ·
     have z21 := m20.size
     have hm := rng_fr hm m20 (by omega) id
     have hG := hG.keep (fun k hk => by omega) m20 nF
     have hP := hP.keep m20 id
     have hf := hf.step0 m20
     refine sM rfl (sv (xex30 rfl) (sv (xex31 rfl) (sv (xex32 rfl) (sN rfl (sv (xfld fl121_3 rfl) ?_)))))
     refine suK (xstF 4 sz22 hP rfl rfl rfl rfl rfl) ?_
     rintro w23 ⟨m24, hP, s22⟩
     have hm := rng_fr hm m24 (by omega) (by show ¬ (bm = bp); omega)
     have hG := hG.keep (fun k hk => by omega) m24 (fun k hk hS => by have hk := hk; have hS : k = bp := hS; omega)
     have hf := hf.step m24 (fun k hk hS => by have hS : k = bp := hS; show k = bp; omega)
     refine sA rfl (sA rfl (send (fg [(0, _), (1, _), (2, _), (8, _), (9, _)] ⟨rfl, rfl, rfl, rfl, rfl, ⟨⟩⟩ fun _ => (sreg (sM rfl (sv (xneN if89 rfl) (send (fg [(0, _), (1, _), (2, _), (8, _), (9, _), (73, _)] ⟨rfl, rfl, rfl, rfl, rfl, rfl, ⟨⟩⟩ fun _ => (cno rfl (wp_skip (nThen (fg [(0, _), (1, _), (2, _), (8, _)] ⟨rfl, rfl, rfl, rfl, ⟨⟩⟩ fun _ => (wp_seq (sreg (sM rfl (sM rfl (sM rfl ?_)))))))))))))))))
     refine sc (xcall ca156 rfl) (c156 (b := b) (off := 0 + 2 + 2 + 2 + 2) (x := ke) hms hm (by omega) hnb hkm hbl hG (by omega) le (he) (by omega)) ?_
     rintro _ w25 ⟨⟨hle83, rfl⟩ | ⟨hgt83, T83, x83, rfl⟩, m26⟩
     ·
      have z27 := m26.size
      have hm := rng_fr hm m26 (by omega) id
      have hG := hG.keep (fun k hk => by omega) m26 nF
      have hP := hP.keep m26 id
      have hf := hf.step0 m26
      refine sM rfl (sv (xex30 rfl) (sv (xex31 rfl) (sv (xex32 rfl) (sN rfl (sv (xfld fl121_4 rfl) ?_)))))
      refine suK (xstF 5 sz22 hP rfl rfl rfl rfl rfl) ?_
      rintro w29 ⟨m30, hP, s28⟩
      have hm := rng_fr hm m30 (by omega) (by show ¬ (bm = bp); omega)
      have hG := hG.keep (fun k hk => by omega) m30 (fun k hk hS => by have hk := hk; have hS : k = bp := hS; omega)
      have hf := hf.step m30 (fun k hk hS => by have hS : k = bp := hS; show k = bp; omega)
      refine sA rfl (sA rfl (send (fg [(0, _), (1, _), (2, _), (8, _), (9, _)] ⟨rfl, rfl, rfl, rfl, rfl, ⟨⟩⟩ fun _ => (sreg (sM rfl (sv (xneN if89 rfl) (send (fg [(0, _), (1, _), (2, _), (8, _), (9, _), (90, _)] ⟨rfl, rfl, rfl, rfl, rfl, rfl, ⟨⟩⟩ fun _ => (cno rfl (wp_skip (nThen (fg [(0, _), (1, _), (2, _), (8, _)] ⟨rfl, rfl, rfl, rfl, ⟨⟩⟩ fun _ => (wp_seq (sreg (sM rfl (sM rfl (sM rfl ?_)))))))))))))))))
      refine sc (xcall ca156 rfl) (c156 (b := b) (off := 0 + 2 + 2 + 2 + 2 + 2) (x := kf) hms hm (by omega) hnb hkm hbl hG (by omega) lf (hff) (by omega)) ?_
      rintro _ w31 ⟨⟨hle100, rfl⟩ | ⟨hgt100, T100, x100, rfl⟩, m32⟩
      ·
       have z33 := m32.size
       have hP := hP.keep m32 id
       have hf := hf.step0 m32
       refine sM rfl (sv (xex30 rfl) (sv (xex31 rfl) (sv (xex32 rfl) (sN rfl (sv (xfld fl121_5 rfl) ?_)))))
       refine suK (xstF 6 sz22 hP rfl rfl rfl rfl rfl) ?_
       rintro w35 ⟨m36, hP, s34⟩
       have hf := hf.step m36 (fun k hk hS => by have hS : k = bp := hS; show k = bp; omega)
       refine sA rfl (sA rfl (send (fg [(2, _), (8, _), (9, _)] ⟨rfl, rfl, rfl, ⟨⟩⟩ fun _ => (sreg (sM rfl (sv (xneN if89 rfl) (send (fg [(2, _), (8, _), (9, _), (107, _)] ⟨rfl, rfl, rfl, rfl, ⟨⟩⟩ fun _ => (cno rfl (wp_skip (nThen (fg [(8, _)] ⟨rfl, ⟨⟩⟩ fun _ => (sreg (sM rfl (sA rfl (sA rfl (send (fg [(6, _), (7, _)] ⟨rfl, rfl, ⟨⟩⟩ fun _ => (wp_ret ?_)))))))))))))))))))
       refine rp2 rfl rfl rfl ?_
       exact ⟨.inl ⟨by omega, rfl, hP⟩, hf⟩
      ·
       have z37 := m32.size
       have hP := hP.keep m32 id
       have hf := hf.step0 m32
       refine sM rfl (sv (xex30 rfl) (sv (xex31 rfl) (sv (xex32 rfl) (sN rfl (sv (xfld fl121_5 rfl) ?_)))))
       refine suK (xstF 6 sz22 hP rfl rfl rfl rfl rfl) ?_
       rintro w39 ⟨m40, hP, s38⟩
       have hf := hf.step m40 (fun k hk hS => by have hS : k = bp := hS; show k = bp; omega)
       refine sA rfl (sA rfl (send (fg [(2, _), (8, _), (9, _)] ⟨rfl, rfl, rfl, ⟨⟩⟩ fun _ => (sreg (sM rfl (sv (xneI if89 rfl) (send (fg [(2, _), (8, _), (9, _), (107, _)] ⟨rfl, rfl, rfl, rfl, ⟨⟩⟩ fun _ => (cyes rfl (sreg (sM rfl (sM rfl (sv (xbuildS [[_], [_]] zr168 ly168 rfl (by simp [fitAll, zs168, Value.cells]) rfl) ?_)))))))))))))
       refine svK (xboxS (lens := [1, 1]) rfl (by simp [])) ?_
       rintro _ w42 ⟨b111, rfl, m43, h111, e41, s41⟩
       have hP := hP.keep m43 id
       have hf := hf.step0 m43
       refine sv (xmkif ni166 rfl) (sA rfl (sA rfl (send (fg [(6, _), (7, _)] ⟨rfl, rfl, ⟨⟩⟩ fun _ => (wp_ret (rThen ?_))))))
       refine rp2 rfl rfl rfl ?_
       exact ⟨.inr ⟨by omega, ⟨_, _, rfl⟩, _, _, _, _, _, _, hP⟩, hf⟩
     ·
      have z44 := m26.size
      have hP := hP.keep m26 id
      have hf := hf.step0 m26
      refine sM rfl (sv (xex30 rfl) (sv (xex31 rfl) (sv (xex32 rfl) (sN rfl (sv (xfld fl121_4 rfl) ?_)))))
      refine suK (xstF 5 sz22 hP rfl rfl rfl rfl rfl) ?_
      rintro w46 ⟨m47, hP, s45⟩
      have hf := hf.step m47 (fun k hk hS => by have hS : k = bp := hS; show k = bp; omega)
      refine sA rfl (sA rfl (send (fg [(0, _), (1, _), (2, _), (8, _), (9, _)] ⟨rfl, rfl, rfl, rfl, rfl, ⟨⟩⟩ fun _ => (sreg (sM rfl (sv (xneI if89 rfl) (send (fg [(0, _), (1, _), (2, _), (8, _), (9, _), (90, _)] ⟨rfl, rfl, rfl, rfl, rfl, rfl, ⟨⟩⟩ fun _ => (cyes rfl (sreg (sM rfl (sM rfl (sv (xbuildS [[_], [_]] zr168 ly168 rfl (by simp [fitAll, zs168, Value.cells]) rfl) ?_)))))))))))))
      refine svK (xboxS (lens := [1, 1]) rfl (by simp [])) ?_
      rintro _ w49 ⟨b94, rfl, m50, h94, e48, s48⟩
      have hP := hP.keep m50 id
      have hf := hf.step0 m50
      refine sv (xmkif ni166 rfl) (sA rfl (sA rfl (send (fg [(6, _), (7, _)] ⟨rfl, rfl, ⟨⟩⟩ fun _ => (wp_ret (rThen ?_))))))
      refine rp2 rfl rfl rfl ?_
      exact ⟨.inr ⟨by omega, ⟨_, _, rfl⟩, _, _, _, _, _, _, hP⟩, hf⟩
    ·
     have z51 := m20.size
     have hP := hP.keep m20 id
     have hf := hf.step0 m20
     refine sM rfl (sv (xex30 rfl) (sv (xex31 rfl) (sv (xex32 rfl) (sN rfl (sv (xfld fl121_3 rfl) ?_)))))
     refine suK (xstF 4 sz22 hP rfl rfl rfl rfl rfl) ?_
     rintro w53 ⟨m54, hP, s52⟩
     have hf := hf.step m54 (fun k hk hS => by have hS : k = bp := hS; show k = bp; omega)
     refine sA rfl (sA rfl (send (fg [(0, _), (1, _), (2, _), (8, _), (9, _)] ⟨rfl, rfl, rfl, rfl, rfl, ⟨⟩⟩ fun _ => (sreg (sM rfl (sv (xneI if89 rfl) (send (fg [(0, _), (1, _), (2, _), (8, _), (9, _), (73, _)] ⟨rfl, rfl, rfl, rfl, rfl, rfl, ⟨⟩⟩ fun _ => (cyes rfl (sreg (sM rfl (sM rfl (sv (xbuildS [[_], [_]] zr168 ly168 rfl (by simp [fitAll, zs168, Value.cells]) rfl) ?_)))))))))))))
     refine svK (xboxS (lens := [1, 1]) rfl (by simp [])) ?_
     rintro _ w56 ⟨b77, rfl, m57, h77, e55, s55⟩
     have hP := hP.keep m57 id
     have hf := hf.step0 m57
     refine sv (xmkif ni166 rfl) (sA rfl (sA rfl (send (fg [(6, _), (7, _)] ⟨rfl, rfl, ⟨⟩⟩ fun _ => (wp_ret (rThen ?_))))))
     refine rp2 rfl rfl rfl ?_
     exact ⟨.inr ⟨by omega, ⟨_, _, rfl⟩, _, _, _, _, _, _, hP⟩, hf⟩
   ·
    have z58 := m14.size
    have hP := hP.keep m14 id
    have hf := hf.step0 m14
    refine sM rfl (sv (xex30 rfl) (sv (xex31 rfl) (sv (xex32 rfl) (sN rfl (sv (xfld fl121_2 rfl) ?_)))))
    refine suK (xstF 3 sz22 hP rfl rfl rfl rfl rfl) ?_
    rintro w60 ⟨m61, hP, s59⟩
    have hf := hf.step m61 (fun k hk hS => by have hS : k = bp := hS; show k = bp; omega)
    refine sA rfl (sA rfl (send (fg [(0, _), (1, _), (2, _), (8, _), (9, _)] ⟨rfl, rfl, rfl, rfl, rfl, ⟨⟩⟩ fun _ => (sreg (sM rfl (sv (xneI if89 rfl) (send (fg [(0, _), (1, _), (2, _), (8, _), (9, _), (56, _)] ⟨rfl, rfl, rfl, rfl, rfl, rfl, ⟨⟩⟩ fun _ => (cyes rfl (sreg (sM rfl (sM rfl (sv (xbuildS [[_], [_]] zr168 ly168 rfl (by simp [fitAll, zs168, Value.cells]) rfl) ?_)))))))))))))
    refine svK (xboxS (lens := [1, 1]) rfl (by simp [])) ?_
    rintro _ w63 ⟨b60, rfl, m64, h60, e62, s62⟩
    have hP := hP.keep m64 id
    have hf := hf.step0 m64
    refine sv (xmkif ni166 rfl) (sA rfl (sA rfl (send (fg [(6, _), (7, _)] ⟨rfl, rfl, ⟨⟩⟩ fun _ => (wp_ret (rThen ?_))))))
    refine rp2 rfl rfl rfl ?_
    exact ⟨.inr ⟨by omega, ⟨_, _, rfl⟩, _, _, _, _, _, _, hP⟩, hf⟩
  ·
   have z65 := m8.size
   have hP := hP.keep m8 id
   have hf := hf.step0 m8
   refine sM rfl (sv (xex30 rfl) (sv (xex31 rfl) (sv (xex32 rfl) (sN rfl (sv (xfld fl121_1 rfl) ?_)))))
   refine suK (xstF 2 sz22 hP rfl rfl rfl rfl rfl) ?_
   rintro w67 ⟨m68, hP, s66⟩
   have hf := hf.step m68 (fun k hk hS => by have hS : k = bp := hS; show k = bp; omega)
   refine sA rfl (sA rfl (send (fg [(0, _), (1, _), (2, _), (8, _), (9, _)] ⟨rfl, rfl, rfl, rfl, rfl, ⟨⟩⟩ fun _ => (sreg (sM rfl (sv (xneI if89 rfl) (send (fg [(0, _), (1, _), (2, _), (8, _), (9, _), (39, _)] ⟨rfl, rfl, rfl, rfl, rfl, rfl, ⟨⟩⟩ fun _ => (cyes rfl (sreg (sM rfl (sM rfl (sv (xbuildS [[_], [_]] zr168 ly168 rfl (by simp [fitAll, zs168, Value.cells]) rfl) ?_)))))))))))))
   refine svK (xboxS (lens := [1, 1]) rfl (by simp [])) ?_
   rintro _ w70 ⟨b43, rfl, m71, h43, e69, s69⟩
   have hP := hP.keep m71 id
   have hf := hf.step0 m71
   refine sv (xmkif ni166 rfl) (sA rfl (sA rfl (send (fg [(6, _), (7, _)] ⟨rfl, rfl, ⟨⟩⟩ fun _ => (wp_ret (rThen ?_))))))
   refine rp2 rfl rfl rfl ?_
   exact ⟨.inr ⟨by omega, ⟨_, _, rfl⟩, _, _, _, _, _, _, hP⟩, hf⟩
 ·
  have z72 := m2.size
  have hP := hP.keep m2 id
  have hf := hf.step0 m2
  refine sM rfl (sv (xex30 rfl) (sv (xex31 rfl) (sv (xex32 rfl) (sN rfl (sv (xfld fl121_0 rfl) ?_)))))
  refine suK (xstF 1 sz22 hP rfl rfl rfl rfl rfl) ?_
  rintro w74 ⟨m75, hP, s73⟩
  have hf := hf.step m75 (fun k hk hS => by have hS : k = bp := hS; show k = bp; omega)
  refine sA rfl (sA rfl (send (fg [(0, _), (1, _), (2, _), (8, _), (9, _)] ⟨rfl, rfl, rfl, rfl, rfl, ⟨⟩⟩ fun _ => (sreg (sM rfl (sv (xneI if89 rfl) (send (fg [(0, _), (1, _), (2, _), (8, _), (9, _), (22, _)] ⟨rfl, rfl, rfl, rfl, rfl, rfl, ⟨⟩⟩ fun _ => (cyes rfl (sreg (sM rfl (sM rfl (sv (xbuildS [[_], [_]] zr168 ly168 rfl (by simp [fitAll, zs168, Value.cells]) rfl) ?_)))))))))))))
  refine svK (xboxS (lens := [1, 1]) rfl (by simp [])) ?_
  rintro _ w77 ⟨b26, rfl, m78, h26, e76, s76⟩
  have hP := hP.keep m78 id
  have hf := hf.step0 m78
  refine sv (xmkif ni166 rfl) (sA rfl (sA rfl (send (fg [(6, _), (7, _)] ⟨rfl, rfl, ⟨⟩⟩ fun _ => (wp_ret (rThen ?_))))))
  refine rp2 rfl rfl rfl ?_
  exact ⟨.inr ⟨by omega, ⟨_, _, rfl⟩, _, _, _, _, _, _, hP⟩, hf⟩
set_option maxHeartbeats 4000000 in
set_option maxRecDepth 100000 in
theorem c103 {w : World} {bp : Nat} {vm : Value} {_y0 _y1 y2 y3 y4 y5 sec po idx ho ty ln : Int} {val : Bool} {hd : HeadD} (hho : hd.ok) (hP : SB w bp lPr (prSegs vm hd.id.toNat (hbits hd).toNat y2 y3 y4 y5 sec po idx val ho ty ln)) :
  Ret PP 103 [.pointer (some ⟨bp, 0 + 1, none⟩)] w (fun u w' => u = ag (headSegs hd) ∧ Fr0 w w') := by
 obtain ⟨an1, an2, an3, an4, an5, an6, an7, an8, an9, an10⟩ := hbits_and hho
 have hf : Fr (fun _ => False) w w := Fr.refl _ _
 have z_hP := hP.lt
 refine ret_of Tryz.func103 rfl rfl rfl [(0, _)] rfl ?_
 refine sreg ?_
 refine svK (xallS (lens := [1, 1, 1, 1, 1, 1, 1, 1, 1, 1]) in73 rfl) ?_
 rintro _ w2 ⟨b2, rfl, m3, h2, e1, s1⟩
 have hP := hP.keep m3 id
 have hf := hf.step0 m3
 refine send (fg [(0, _), (2, _)] ⟨rfl, rfl, ⟨⟩⟩ fun _ => ?_)
 refine sdrawH (Fr (fun k => k = b2) w2.drew) [(0, .rd), (1, .rd), (2, .rd), (3, .rd), (4, .rd), (5, .rd), (6, .rd), (7, .rd), (8, .rd), (9, .rd), (10, .rd), (11, .rd), (12, .rd), (13, .rd), (14, .rd), (15, .rd), (16, .rd), (17, .rd), (18, .rd), (19, .rd), (20, .rd), (21, .rd), (22, .rd), (23, .rd), (24, .rd), (25, .rd), (26, .rd), (27, .rd), (28, .rd), (29, .rd), (30, .rd), (31, .rd), (32, .rd), (33, .rd), (34, .rd), (35, .rd), (36, .rd), (37, .rd), (38, .rd), (39, .rd), (40, .rd), (41, .rd), (42, .rd), (43, .rd), (44, .rd), (45, .rd), (46, .rd), (47, .rd), (48, .rd), (49, .rd), (50, .rd), (51, .rd), (52, .rd), (53, .rd), (54, .rd), (55, .rd), (56, .rd), (57, .rd), (58, .bh)] mixed (by kernel_rfl) (fun _ _ _ _ _ h => h) ?_
 have z4 : w2.drew.heap.size = w2.heap.size := rfl
 have hP := hP.drew
 have hf := hf.drew
 have h2 := h2.drew
 have hS5 : Fr (fun k => k = b2) w2.drew w2.drew := Fr.refl _ _
 refine qqM rfl rfl hS5 (qqN rfl rfl hS5 (hvH rfl (fun _ _ => xfld fl121_0 rfl) hS5 (hvH rfl (fun w' hS => xld on22 rfl ((hP.keep hS (by show ¬ (bp = b2); omega)).r.c 1 rfl rfl)) hS5 (qqM rfl rfl hS5 (qqN rfl rfl hS5 (hvH rfl (fun _ _ => xfld fl121_1 rfl) hS5 (hvH rfl (fun w' hS => xld on22 rfl ((hP.keep hS (by show ¬ (bp = b2); omega)).r.c 2 rfl rfl)) hS5 (hvH rfl (fun _ _ => xand16N (a := (hbits hd).toNat) (c := 32768 * bN hd.resp) rfl rfl (by have hq := u16lt (hbits hd); omega) (by decide) an1) hS5 (hvH rfl (fun _ _ => xbit (c := 32768) rfl rfl (by decide)) hS5 (qqM rfl rfl hS5 (qqN rfl rfl hS5 (hvH rfl (fun _ _ => xfld fl121_1 rfl) hS5 (hvH rfl (fun w' hS => xld on22 rfl ((hP.keep hS (by show ¬ (bp = b2); omega)).r.c 2 rfl rfl)) hS5 (hvH rfl (fun _ _ => xshrN 11 (by decide) rfl rfl rfl) hS5 (hvH rfl (fun _ _ => xand16N (a := (hbits hd).toNat / 2 ^ 11) (c := hd.op.toNat) rfl rfl (by have hq := u16lt (hbits hd); omega) (by decide) an9) hS5 (qqM rfl rfl hS5 (qqN rfl rfl hS5 (hvH rfl (fun _ _ => xfld fl121_1 rfl) hS5 (hvH rfl (fun w' hS => xld on22 rfl ((hP.keep hS (by show ¬ (bp = b2); omega)).r.c 2 rfl rfl)) hS5 (hvH rfl (fun _ _ => xand16N (a := (hbits hd).toNat) (c := 1024 * bN hd.auth) rfl rfl (by have hq := u16lt (hbits hd); omega) (by decide) an2) hS5 (hvH rfl (fun _ _ => xbit (c := 1024) rfl rfl (by decide)) hS5 (qqM rfl rfl hS5 (qqN rfl rfl hS5 (hvH rfl (fun _ _ => xfld fl121_1 rfl) hS5 ?_))))))))))))))))))))))))
 refine hvH rfl (fun w' hS => xld on22 rfl ((hP.keep hS (by show ¬ (bp = b2); omega)).r.c 2 rfl rfl)) hS5 (hvH rfl (fun _ _ => xand16N (a := (hbits hd).toNat) (c := 512 * bN hd.cut) rfl rfl (by have hq := u16lt (hbits hd); omega) (by decide) an3) hS5 (hvH rfl (fun _ _ => xbit (c := 512) rfl rfl (by decide)) hS5 (qqM rfl rfl hS5 (qqN rfl rfl hS5 (hvH rfl (fun _ _ => xfld fl121_1 rfl) hS5 (hvH rfl (fun w' hS => xld on22 rfl ((hP.keep hS (by show ¬ (bp = b2); omega)).r.c 2 rfl rfl)) hS5 (hvH rfl (fun _ _ => xand16N (a := (hbits hd).toNat) (c := 256 * bN hd.des) rfl rfl (by have hq := u16lt (hbits hd); omega) (by decide) an4) hS5 (hvH rfl (fun _ _ => xbit (c := 256) rfl rfl (by decide)) hS5 (qqM rfl rfl hS5 (qqN rfl rfl hS5 (hvH rfl (fun _ _ => xfld fl121_1 rfl) hS5 (hvH rfl (fun w' hS => xld on22 rfl ((hP.keep hS (by show ¬ (bp = b2); omega)).r.c 2 rfl rfl)) hS5 (hvH rfl (fun _ _ => xand16N (a := (hbits hd).toNat) (c := 128 * bN hd.avail) rfl rfl (by have hq := u16lt (hbits hd); omega) (by decide) an5) hS5 (hvH rfl (fun _ _ => xbit (c := 128) rfl rfl (by decide)) hS5 (qqM rfl rfl hS5 (qqN rfl rfl hS5 (hvH rfl (fun _ _ => xfld fl121_1 rfl) hS5 (hvH rfl (fun w' hS => xld on22 rfl ((hP.keep hS (by show ¬ (bp = b2); omega)).r.c 2 rfl rfl)) hS5 (hvH rfl (fun _ _ => xand16N (a := (hbits hd).toNat) (c := 32 * bN hd.authc) rfl rfl (by have hq := u16lt (hbits hd); omega) (by decide) an6) hS5 (hvH rfl (fun _ _ => xbit (c := 32) rfl rfl (by decide)) hS5 (qqM rfl rfl hS5 (qqN rfl rfl hS5 (hvH rfl (fun _ _ => xfld fl121_1 rfl) hS5 (hvH rfl (fun w' hS => xld on22 rfl ((hP.keep hS (by show ¬ (bp = b2); omega)).r.c 2 rfl rfl)) hS5 ?_))))))))))))))))))))))))
 refine hvH rfl (fun _ _ => xand16N (a := (hbits hd).toNat) (c := 16 * bN hd.unch) rfl rfl (by have hq := u16lt (hbits hd); omega) (by decide) an7) hS5 (hvH rfl (fun _ _ => xbit (c := 16) rfl rfl (by decide)) hS5 (qqM rfl rfl hS5 (qqN rfl rfl hS5 (hvH rfl (fun _ _ => xfld fl121_1 rfl) hS5 (hvH rfl (fun w' hS => xld on22 rfl ((hP.keep hS (by show ¬ (bp = b2); omega)).r.c 2 rfl rfl)) hS5 (hvH rfl (fun _ _ => xand16N (a := (hbits hd).toNat) (c := hd.code.toNat) rfl rfl (by have hq := u16lt (hbits hd); omega) (by decide) an8) hS5 (hvH rfl (fun _ _ => xbuildS (headSegs hd) zr73 ly73 rfl (by simp [fitAll, zs73, Value.cells]) rfl) hS5 ?_)))))))
 refine bluKH rfl (xstW h2 (lens' := [1, 1, 1, 1, 1, 1, 1, 1, 1, 1]) sz73 rfl rfl rfl rfl rfl) ?_
 rintro w7 ⟨m8, h2, s6⟩
 have hf := hf.step m8 (nB (by omega))
 refine hendH (fg [(2, _)] ⟨rfl, ⟨⟩⟩ fun _ => (wp_ret ?_))
 refine rp1 rfl ⟨_, rfl, ldS (lens := [1, 1, 1, 1, 1, 1, 1, 1, 1, 1]) ro73 h2.r⟩ ?_
 exact ⟨rfl, hf⟩
set_option maxHeartbeats 4000000 in
set_option maxRecDepth 100000 in
theorem c194 {w : World} {a : Option Addr} {bm om km n : Nat} {b : List UInt8} (hms : n ≠ 0 → a = some ⟨bm, om, none⟩) (hm : w.rangeAt bm om (bvs (b.take n))) (hbm : bm < w.heap.size) (hnb : n ≤ b.length) (hkm : n ≤ km) (hbl : b.length < 100000000) (hG : GE w) (hsz : 21 ≤ w.heap.size) {bp : Nat} (hP : SB w bp lRh [nm [], [.int .u16 0], [.int .u16 0], [.int .u32 0], [.int .u16 0]]) (hbp : bp ≠ bm) (hgp : 20 < bp) {K off e : Nat} {S : List UInt8} (hN : NameAt b K off S e) (hS0 : nameL S) (hK : K ≤ 10) (hKn : K = 0 ∨ n = b.length) {ka kb kc kd : Nat} (la : ka < 65536) (lb : kb < 65536) (lc : kc < 4294967296) (ld : kd < 65536) (ha : Std b e (be16 ka)) (hb : Std b (e + 2) (be16 kb)) (hc : Std b (e + 2 + 2) (be32 kc)) (hd : Std b (e + 2 + 2 + 4) (be16 kd)) (hel : e + 10 ≤ b.length) :
  Ret PP 194 [.pointer (some ⟨bp, 0, none⟩), .slice a n km, .int .i64 (off : Int)] w (fun u w' => ((e + 10 ≤ n ∧ u = .tuple #[.int .i64 ((e + 2 + 2 + 4 + 2 : Nat) : Int), .nilIface] ∧ SB w' bp lRh [nm S, [.int .u16 (ka : Int)], [.int .u16 (kb : Int)], [.int .u32 (kc : Int)], [.int .u16 (kd : Int)]]) ∨ (n < e + 10 ∧ (∃ (x : Option Addr), u = .tuple #[.int .i64 (off : Int), .iface 166 (.pointer x)]))) ∧ Fr (fun k => k = bp) w w') := by
 have hf : Fr (fun k => k = bp) w w := Fr.refl _ _
 have z_hP := hP.lt
 refine ret_of Tryz.func194 rfl rfl rfl [(0, _), (1, _), (2, _)] rfl ?_
 refine sreg (sA rfl (sA rfl (send (fg [(0, _), (1, _), (2, _)] ⟨rfl, rfl, rfl, ⟨⟩⟩ fun _ => (sreg (sM rfl (sA rfl (send (fg [(0, _), (1, _), (2, _), (8, _)] ⟨rfl, rfl, rfl, rfl, ⟨⟩⟩ fun _ => (sreg (sA rfl (send (fg [(0, _), (1, _), (2, _), (8, _)] ⟨rfl, rfl, rfl, rfl, ⟨⟩⟩ fun _ => (wp_seq (sreg (sM rfl (sN rfl (sv (xfld fl135_0 rfl) (sM rfl (sM rfl ?_))))))))))))))))))))
 refine sc (xcall ca105 rfl) (c105 (b := b) (bp := bp) (q := 0) (ip := 0) (K := K) (off := off) (e := e) (S := S) hms hm (by omega) hnb hkm hbl hG (by omega) hP hbp hgp rfl rfl hN hS0 hK hKn) ?_
 rintro _ w1 ⟨⟨hle17, rfl, hP⟩ | ⟨hgt17, ⟨T17, x17, rfl⟩, o17, hP⟩, m2⟩
 ·
  have z3 := m2.size
  have hm := rng_fr hm m2 (by omega) (by show ¬ (bm = bp); omega)
  have hG := hG.keep (fun k hk => by omega) m2 (fun k hk hS => by have hk := hk; have hS : k = bp := hS; omega)
  have hf := hf.step m2 (fun k hk hS => by have hS : k = bp := hS; show k = bp; omega)
  have hP : SB w1 bp lRh ([nm S, [.int .u16 0], [.int .u16 0], [.int .u32 0], [.int .u16 0]]) := hP
  refine sM rfl (sv (xex20 rfl) (sv (xex21 rfl) (sA rfl (sA rfl (send (fg [(0, _), (1, _), (2, _), (8, _), (9, _)] ⟨rfl, rfl, rfl, rfl, rfl, ⟨⟩⟩ fun _ => (sreg (sM rfl (sv (xneN if89 rfl) (send (fg [(0, _), (1, _), (2, _), (8, _), (9, _), (21, _)] ⟨rfl, rfl, rfl, rfl, rfl, rfl, ⟨⟩⟩ fun _ => (cno rfl (wp_skip (nThen (fg [(0, _), (1, _), (2, _), (8, _)] ⟨rfl, rfl, rfl, rfl, ⟨⟩⟩ fun _ => (wp_seq (sreg (sM rfl (sM rfl (sM rfl ?_))))))))))))))))))))
  refine sc (xcall ca106 rfl) (c106 (b := b) (off := e) (x := ka) hms hm (by omega) hnb hkm hbl hG (by omega) la (ha) (by omega)) ?_
  rintro _ w4 ⟨⟨hle31, rfl⟩ | ⟨hgt31, T31, x31, rfl⟩, m5⟩
  ·
   have z6 := m5.size
   have hm := rng_fr hm m5 (by omega) id
   have hG := hG.keep (fun k hk => by omega) m5 nF
   have hf := hf.step0 m5
   have hP := hP.keep m5 id
   refine sM rfl (sv (xex30 rfl) (sv (xex31 rfl) (sv (xex32 rfl) (sN rfl (sv (xfld fl135_1 rfl) ?_)))))
   refine suK (xstF 1 sz83 hP rfl rfl rfl rfl rfl) ?_
   rintro w8 ⟨m9, hP, s7⟩
   have hm := rng_fr hm m9 (by omega) (by show ¬ (bm = bp); omega)
   have hG := hG.keep (fun k hk => by omega) m9 (fun k hk hS => by have hk := hk; have hS : k = bp := hS; omega)
   have hf := hf.step m9 (fun k hk hS => by have hS : k = bp := hS; show k = bp; omega)
   refine sA rfl (sA rfl (send (fg [(0, _), (1, _), (2, _), (8, _), (9, _)] ⟨rfl, rfl, rfl, rfl, rfl, ⟨⟩⟩ fun _ => (sreg (sM rfl (sv (xneN if89 rfl) (send (fg [(0, _), (1, _), (2, _), (8, _), (9, _), (38, _)] ⟨rfl, rfl, rfl, rfl, rfl, rfl, ⟨⟩⟩ fun _ => (cno rfl (wp_skip (nThen (fg [(0, _), (1, _), (2, _), (8, _)] ⟨rfl, rfl, rfl, rfl, ⟨⟩⟩ fun _ => (wp_seq (sreg (sM rfl (sM rfl (sM rfl ?_)))))))))))))))))
   refine sc (xcall ca107 rfl) (c107 (b := b) (off := e + 2) (x := kb) hms hm (by omega) hnb hkm hbl hG (by omega) lb (hb) (by omega)) ?_
   rintro _ w10 ⟨⟨hle48, rfl⟩ | ⟨hgt48, T48, x48, rfl⟩, m11⟩
   ·
    have z12 := m11.size
    have hm := rng_fr hm m11 (by omega) id
    have hG := hG.keep (fun k hk => by omega) m11 nF
    have hf := hf.step0 m11
    have hP := hP.keep m11 id
    refine sM rfl (sv (xex30 rfl) (sv (xex31 rfl) (sv (xex32 rfl) (sN rfl (sv (xfld fl135_2 rfl) ?_)))))
    refine suK (xstF 2 sz84 hP rfl rfl rfl rfl rfl) ?_
    rintro w14 ⟨m15, hP, s13⟩
    have hm := rng_fr hm m15 (by omega) (by show ¬ (bm = bp); omega)
    have hG := hG.keep (fun k hk => by omega) m15 (fun k hk hS => by have hk := hk; have hS : k = bp := hS; omega)
    have hf := hf.step m15 (fun k hk hS => by have hS : k = bp := hS; show k = bp; omega)
    refine sA rfl (sA rfl (send (fg [(0, _), (1, _), (2, _), (8, _), (9, _)] ⟨rfl, rfl, rfl, rfl, rfl, ⟨⟩⟩ fun _ => (sreg (sM rfl (sv (xneN if89 rfl) (send (fg [(0, _), (1, _), (2, _), (8, _), (9, _), (55, _)] ⟨rfl, rfl, rfl, rfl, rfl, rfl, ⟨⟩⟩ fun _ => (cno rfl (wp_skip (nThen (fg [(0, _), (1, _), (2, _), (8, _)] ⟨rfl, rfl, rfl, rfl, ⟨⟩⟩ fun _ => (wp_seq (sreg (sM rfl (sM rfl (sM rfl ?_)))))))))))))))))
    refine sc (xcall ca211 rfl) (c211 (b := b) (off := e + 2 + 2) (x := kc) hms hm (by omega) hnb hkm hbl hG (by omega) lc (hc) (by omega)) ?_
    rintro _ w16 ⟨⟨hle65, rfl⟩ | ⟨hgt65, T65, x65, rfl⟩, m17⟩
    ·
     have z18 := m17.size
     have hm := rng_fr hm m17 (by omega) id
     have hG := hG.keep (fun k hk => by omega) m17 nF
     have hf := hf.step0 m17
     have hP := hP.keep m17 id
     refine sM rfl (sv (xex30 rfl) (sv (xex31 rfl) (sv (xex32 rfl) (sN rfl (sv (xfld fl135_3 rfl) ?_)))))
     refine suK (xstF 3 sz61 hP rfl rfl rfl rfl rfl) ?_
     rintro w20 ⟨m21, hP, s19⟩
     have hm := rng_fr hm m21 (by omega) (by show ¬ (bm = bp); omega)
     have hG := hG.keep (fun k hk => by omega) m21 (fun k hk hS => by have hk := hk; have hS : k = bp := hS; omega)
     have hf := hf.step m21 (fun k hk hS => by have hS : k = bp := hS; show k = bp; omega)
     refine sA rfl (sA rfl (send (fg [(0, _), (1, _), (2, _), (8, _), (9, _)] ⟨rfl, rfl, rfl, rfl, rfl, ⟨⟩⟩ fun _ => (sreg (sM rfl (sv (xneN if89 rfl) (send (fg [(0, _), (1, _), (2, _), (8, _), (9, _), (72, _)] ⟨rfl, rfl, rfl, rfl, rfl, rfl, ⟨⟩⟩ fun _ => (cno rfl (wp_skip (nThen (fg [(0, _), (1, _), (2, _), (8, _)] ⟨rfl, rfl, rfl, rfl, ⟨⟩⟩ fun _ => (wp_seq (sreg (sM rfl (sM rfl (sM rfl ?_)))))))))))))))))
     refine sc (xcall ca156 rfl) (c156 (b := b) (off := e + 2 + 2 + 4) (x := kd) hms hm (by omega) hnb hkm hbl hG (by omega) ld (hd) (by omega)) ?_
     rintro _ w22 ⟨⟨hle82, rfl⟩ | ⟨hgt82, T82, x82, rfl⟩, m23⟩
     ·
      have z24 := m23.size
      have hf := hf.step0 m23
      have hP := hP.keep m23 id
      refine sM rfl (sv (xex30 rfl) (sv (xex31 rfl) (sv (xex32 rfl) (sN rfl (sv (xfld fl135_4 rfl) ?_)))))
      refine suK (xstF 4 sz22 hP rfl rfl rfl rfl rfl) ?_
      rintro w26 ⟨m27, hP, s25⟩
      have hf := hf.step m27 (fun k hk hS => by have hS : k = bp := hS; show k = bp; omega)
      refine sA rfl (sA rfl (send (fg [(2, _), (8, _), (9, _)] ⟨rfl, rfl, rfl, ⟨⟩⟩ fun _ => (sreg (sM rfl (sv (xneN if89 rfl) (send (fg [(2, _), (8, _), (9, _), (89, _)] ⟨rfl, rfl, rfl, rfl, ⟨⟩⟩ fun _ => (cno rfl (wp_skip (nThen (fg [(8, _)] ⟨rfl, ⟨⟩⟩ fun _ => (sreg (sM rfl (sA rfl (sA rfl (send (fg [(6, _), (7, _)] ⟨rfl, rfl, ⟨⟩⟩ fun _ => (wp_ret ?_)))))))))))))))))))
      refine rp2 rfl rfl rfl ?_
      exact ⟨.inl ⟨by omega, rfl, hP⟩, hf⟩
     ·
      have z28 := m23.size
      have hf := hf.step0 m23
      have hP := hP.keep m23 id
      refine sM rfl (sv (xex30 rfl) (sv (xex31 rfl) (sv (xex32 rfl) (sN rfl (sv (xfld fl135_4 rfl) ?_)))))
      refine suK (xstF 4 sz22 hP rfl rfl rfl rfl rfl) ?_
      rintro w30 ⟨m31, hP, s29⟩
      have hf := hf.step m31 (fun k hk hS => by have hS : k = bp := hS; show k = bp; omega)
      refine sA rfl (sA rfl (send (fg [(2, _), (8, _), (9, _)] ⟨rfl, rfl, rfl, ⟨⟩⟩ fun _ => (sreg (sM rfl (sv (xneI if89 rfl) (send (fg [(2, _), (8, _), (9, _), (89, _)] ⟨rfl, rfl, rfl, rfl, ⟨⟩⟩ fun _ => (cyes rfl (sreg (sM rfl (sM rfl (sv (xbuildS [[_], [_]] zr168 ly168 rfl (by simp [fitAll, zs168, Value.cells]) rfl) ?_)))))))))))))
      refine svK (xboxS (lens := [1, 1]) rfl (by simp [])) ?_
      rintro _ w33 ⟨b93, rfl, m34, h93, e32, s32⟩
      have hf := hf.step0 m34
      have hP := hP.keep m34 id
      refine sv (xmkif ni166 rfl) (sA rfl (sA rfl (send (fg [(6, _), (7, _)] ⟨rfl, rfl, ⟨⟩⟩ fun _ => (wp_ret (rThen ?_))))))
      refine rp2 rfl rfl rfl ?_
      exact ⟨.inr ⟨by omega, _, rfl⟩, hf⟩
    ·
     have z35 := m17.size
     have hf := hf.step0 m17
     have hP := hP.keep m17 id
     refine sM rfl (sv (xex30 rfl) (sv (xex31 rfl) (sv (xex32 rfl) (sN rfl (sv (xfld fl135_3 rfl) ?_)))))
     refine suK (xstF 3 sz61 hP rfl rfl rfl rfl rfl) ?_
     rintro w37 ⟨m38, hP, s36⟩
     have hf := hf.step m38 (fun k hk hS => by have hS : k = bp := hS; show k = bp; omega)
     refine sA rfl (sA rfl (send (fg [(0, _), (1, _), (2, _), (8, _), (9, _)] ⟨rfl, rfl, rfl, rfl, rfl, ⟨⟩⟩ fun _ => (sreg (sM rfl (sv (xneI if89 rfl) (send (fg [(0, _), (1, _), (2, _), (8, _), (9, _), (72, _)] ⟨rfl, rfl, rfl, rfl, rfl, rfl, ⟨⟩⟩ fun _ => (cyes rfl (sreg (sM rfl (sM rfl (sv (xbuildS [[_], [_]] zr168 ly168 rfl (by simp [fitAll, zs168, Value.cells]) rfl) ?_)))))))))))))
     refine svK (xboxS (lens := [1, 1]) rfl (by simp [])) ?_
     rintro _ w40 ⟨b76, rfl, m41, h76, e39, s39⟩
     have hf := hf.step0 m41
     have hP := hP.keep m41 id
     refine sv (xmkif ni166 rfl) (sA rfl (sA rfl (send (fg [(6, _), (7, _)] ⟨rfl, rfl, ⟨⟩⟩ fun _ => (wp_ret (rThen ?_))))))
     refine rp2 rfl rfl rfl ?_
     exact ⟨.inr ⟨by omega, _, rfl⟩, hf⟩
   ·
    have z42 := m11.size
    have hf := hf.step0 m11
    have hP := hP.keep m11 id
    refine sM rfl (sv (xex30 rfl) (sv (xex31 rfl) (sv (xex32 rfl) (sN rfl (sv (xfld fl135_2 rfl) ?_)))))
    refine suK (xstF 2 sz84 hP rfl rfl rfl rfl rfl) ?_
    rintro w44 ⟨m45, hP, s43⟩
    have hf := hf.step m45 (fun k hk hS => by have hS : k = bp := hS; show k = bp; omega)
    refine sA rfl (sA rfl (send (fg [(0, _), (1, _), (2, _), (8, _), (9, _)] ⟨rfl, rfl, rfl, rfl, rfl, ⟨⟩⟩ fun _ => (sreg (sM rfl (sv (xneI if89 rfl) (send (fg [(0, _), (1, _), (2, _), (8, _), (9, _), (55, _)] ⟨rfl, rfl, rfl, rfl, rfl, rfl, ⟨⟩⟩ fun _ => (cyes rfl (sreg (sM rfl (sM rfl (sv (xbuildS [[_], [_]] zr168 ly168 rfl (by simp [fitAll, zs168, Value.cells]) rfl) ?_)))))))))))))
    refine svK (xboxS (lens := [1, 1]) rfl (by simp [])) ?_
    rintro _ w47 ⟨b59, rfl, m48, h59, e46, s46⟩
    have hf := hf.step0 m48
    have hP := hP.keep m48 id
    refine sv (xmkif ni166 rfl) (sA rfl (sA rfl (send (fg [(6, _), (7, _)] ⟨rfl, rfl, ⟨⟩⟩ fun _ => (wp_ret (rThen ?_))))))
    refine rp2 rfl rfl rfl ?_
    exact ⟨.inr ⟨by omega, _, rfl⟩, hf⟩
  ·
   have z49 := m5.size
   have hf := hf.step0 m5
   have hP := hP.keep m5 id
   refine sM rfl (sv (xex30 rfl) (sv (xex31 rfl) (sv (xex32 rfl) (sN rfl (sv (xfld fl135_1 rfl) ?_)))))
   refine suK (xstF 1 sz83 hP rfl rfl rfl rfl rfl) ?_
   rintro w51 ⟨m52, hP, s50⟩
   have hf := hf.step m52 (fun k hk hS => by have hS : k = bp := hS; show k = bp; omega)
   refine sA rfl (sA rfl (send (fg [(0, _), (1, _), (2, _), (8, _), (9, _)] ⟨rfl, rfl, rfl, rfl, rfl, ⟨⟩⟩ fun _ => (sreg (sM rfl (sv (xneI if89 rfl) (send (fg [(0, _), (1, _), (2, _), (8, _), (9, _), (38, _)] ⟨rfl, rfl, rfl, rfl, rfl, rfl, ⟨⟩⟩ fun _ => (cyes rfl (sreg (sM rfl (sM rfl (sv (xbuildS [[_], [_]] zr168 ly168 rfl (by simp [fitAll, zs168, Value.cells]) rfl) ?_)))))))))))))
   refine svK (xboxS (lens := [1, 1]) rfl (by simp [])) ?_
   rintro _ w54 ⟨b42, rfl, m55, h42, e53, s53⟩
   have hf := hf.step0 m55
   refine sv (xmkif ni166 rfl) (sA rfl (sA rfl (send (fg [(6, _), (7, _)] ⟨rfl, rfl, ⟨⟩⟩ fun _ => (wp_ret (rThen ?_))))))
   refine rp2 rfl rfl rfl ?_
   exact ⟨.inr ⟨by omega, _, rfl⟩, hf⟩
 ·
  have z56 := m2.size
  have hf := hf.step m2 (fun k hk hS => by have hS : k = bp := hS; show k = bp; omega)
  refine sM rfl (sv (xex20 rfl) (sv (xex21 rfl) (sA rfl (sA rfl (send (fg [(0, _), (1, _), (2, _), (8, _), (9, _)] ⟨rfl, rfl, rfl, rfl, rfl, ⟨⟩⟩ fun _ => (sreg (sM rfl (sv (xneI if89 rfl) (send (fg [(0, _), (1, _), (2, _), (8, _), (9, _), (21, _)] ⟨rfl, rfl, rfl, rfl, rfl, rfl, ⟨⟩⟩ fun _ => (cyes rfl (sreg (sM rfl (sM rfl (sv (xbuildS [[_], [_]] zr168 ly168 rfl (by simp [fitAll, zs168, Value.cells]) rfl) ?_))))))))))))))))
  refine svK (xboxS (lens := [1, 1]) rfl (by simp [])) ?_
  rintro _ w58 ⟨b25, rfl, m59, h25, e57, s57⟩
  have hf := hf.step0 m59
  refine sv (xmkif ni166 rfl) (sA rfl (sA rfl (send (fg [(6, _), (7, _)] ⟨rfl, rfl, ⟨⟩⟩ fun _ => (wp_ret (rThen ?_))))))
  refine rp2 rfl rfl rfl ?_
  exact ⟨.inr ⟨by omega, _, rfl⟩, hf⟩
set_option maxHeartbeats 4000000 in
set_option maxRecDepth 100000 in
theorem c195 {w : World} {a : Option Addr} {bm om km n : Nat} {b : List UInt8} (hms : n ≠ 0 → a = some ⟨bm, om, none⟩) (hm : w.rangeAt bm om (bvs (b.take n))) (hbm : bm < w.heap.size) (hnb : n ≤ b.length) (hkm : n ≤ km) (hbl : b.length < 100000000) (hG : GE w) (hsz : 21 ≤ w.heap.size) {off : Nat} {xs : List UInt8} (hx : xs.length = 4) (hs : Std b off xs) (hle : off + 4 ≤ b.length) (h0 : n ≠ 0) :
  Ret PP 195 [.slice a n km, .int .i64 (off : Int)] w (fun u w' => ((off + 4 ≤ n ∧ u = .tuple #[ag ([bvs xs]), .nilIface]) ∨ (n < off + 4 ∧ ∃ (T : TypeId) (x : Option Addr), u = .tuple #[ag ([bvs (List.replicate 4 0)]), .iface T (.pointer x)])) ∧ Fr0 w w') := by
 have hf : Fr (fun _ => False) w w := Fr.refl _ _
 refine ret_of Tryz.func195 rfl rfl rfl [(0, _), (1, _)] rfl ?_
 refine sreg ?_
 refine svK (xallS (lens := [4]) in189 (by simp [bvs_length])) ?_
 rintro _ w2 ⟨b4, rfl, m3, h4, e1, s1⟩
 have hm := rng_fr hm m3 (by omega) id
 have hG := hG.keep (fun k hk => by omega) m3 nF
 have hf := hf.step0 m3
 refine sA rfl (send (fg [(0, _), (1, _), (4, _)] ⟨rfl, rfl, rfl, ⟨⟩⟩ fun _ => (sreg ?_)))
 refine svK (xallS (lens := [4]) in187 (by simp [bvs_length])) ?_
 rintro _ w5 ⟨b6, rfl, m6, h6, e4, s4⟩
 have hm := rng_fr hm m6 (by omega) id
 have hG := hG.keep (fun k hk => by omega) m6 nF
 have hf := hf.step0 m6
 have h4 := h4.keep m6 id
 refine send (fg [(0, _), (1, _), (4, _), (6, _)] ⟨rfl, rfl, rfl, rfl, ⟨⟩⟩ fun _ => (wp_seq (sreg (sM rfl (sM rfl (sv (xcutA ar187 sz5 rfl) ?_))))))
 refine sc (xcall ca212 rfl) (c212 (b := b) (bp := b6) (q := 0) (ip := 0) (off := off) (d := 4) (xs := xs) hms hm (by omega) hnb hkm hbl hG (by omega) h6 (by omega) (by omega) rfl rfl hs (by omega) hx (by simp [bvs_length]) hle h0) ?_
 rintro _ w7 ⟨⟨hle13, rfl, h6⟩ | ⟨hgt13, ⟨T13, x13, rfl⟩, o13, h6⟩, m8⟩
 ·
  have z9 := m8.size
  have hf := hf.step m8 (nB (by omega))
  have h4 := h4.keep m8 (by show ¬ (b4 = b6); omega)
  have h6 : SB w7 b6 [4] [bvs xs] := h6
  refine sM rfl (sv (xex20 rfl) (sv (xex21 rfl) (sA rfl (sA rfl (send (fg [(4, _), (6, _), (8, _)] ⟨rfl, rfl, rfl, ⟨⟩⟩ fun _ => (sreg (sM rfl (sv (xneN if89 rfl) (send (fg [(4, _), (6, _), (8, _), (17, _)] ⟨rfl, rfl, rfl, rfl, ⟨⟩⟩ fun _ => (cno rfl (wp_skip (nThen (fg [(4, _), (6, _)] ⟨rfl, rfl, ⟨⟩⟩ fun _ => (sreg (sv (xldS (lens := [4]) ro187 rfl h6.r) (sv (xbuildS [bvs xs] zr189 ly189 rfl (by simp [fitAll, zs189, Value.cells, bvs_length, hx]) (by simp [setAll, zs189, Value.cells])) ?_))))))))))))))))))
  refine suK (xstW h4 (lens' := [4]) sz189 (by simp [bvs_length, hx]) rfl (by simp only [List.flatten_cons, List.flatten_nil, List.append_nil, bvs_one] <;> rfl) rfl rfl) ?_
  rintro w11 ⟨m12, h4, s10⟩
  have hf := hf.step m12 (nB (by omega))
  refine sA rfl (send (fg [(4, _), (5, _)] ⟨rfl, rfl, ⟨⟩⟩ fun _ => (wp_ret ?_)))
  refine rp2 rfl ⟨_, rfl, ldS (lens := [4]) ro189 h4.r⟩ rfl ?_
  exact ⟨.inl ⟨by omega, rfl⟩, hf⟩
 ·
  have z13 := m8.size
  have hf := hf.step m8 (nB (by omega))
  have h4 := h4.keep m8 (by show ¬ (b4 = b6); omega)
  refine sM rfl (sv (xex20 rfl) (sv (xex21 rfl) (sA rfl (sA rfl (send (fg [(4, _), (6, _), (8, _)] ⟨rfl, rfl, rfl, ⟨⟩⟩ fun _ => (sreg (sM rfl (sv (xneI if89 rfl) (send (fg [(4, _), (6, _), (8, _), (17, _)] ⟨rfl, rfl, rfl, rfl, ⟨⟩⟩ fun _ => (cyes rfl (sreg (sv (xbuildS [bvs (List.replicate 4 0)] zr189 ly189 rfl trivial (by simp [setAll, zs189])) (sM rfl ?_)))))))))))))))
  refine suK (xstW h4 (lens' := [4]) sz189 (by simp [bvs_length]) rfl (by simp only [List.flatten_cons, List.flatten_nil, List.append_nil, bvs_one] <;> rfl) rfl rfl) ?_
  rintro w15 ⟨m16, h4, s14⟩
  have hf := hf.step m16 (nB (by omega))
  refine sA rfl (send (fg [(4, _), (5, _)] ⟨rfl, rfl, ⟨⟩⟩ fun _ => (wp_ret (rThen ?_))))
  refine rp2 rfl ⟨_, rfl, ldS (lens := [4]) ro189 h4.r⟩ rfl ?_
  exact ⟨.inr ⟨by omega, _, _, rfl⟩, hf⟩
set_option maxHeartbeats 4000000 in
set_option maxRecDepth 100000 in
theorem c202 {w : World} {a : Option Addr} {bm om km n : Nat} {b : List UInt8} (hms : n ≠ 0 → a = some ⟨bm, om, none⟩) (hm : w.rangeAt bm om (bvs (b.take n))) (hbm : bm < w.heap.size) (hnb : n ≤ b.length) (hkm : n ≤ km) (hbl : b.length < 100000000) (hG : GE w) (hsz : 21 ≤ w.heap.size) {off : Nat} {xs : List UInt8} (hx : xs.length = 16) (hs : Std b off xs) (hle : off + 16 ≤ b.length) (h0 : n ≠ 0) :
  Ret PP 202 [.slice a n km, .int .i64 (off : Int)] w (fun u w' => ((off + 16 ≤ n ∧ u = .tuple #[ag ([bvs xs]), .nilIface]) ∨ (n < off + 16 ∧ ∃ (T : TypeId) (x : Option Addr), u = .tuple #[ag ([bvs (List.replicate 16 0)]), .iface T (.pointer x)])) ∧ Fr0 w w') := by
 have hf : Fr (fun _ => False) w w := Fr.refl _ _
 refine ret_of Tryz.func202 rfl rfl rfl [(0, _), (1, _)] rfl ?_
 refine sreg ?_
 refine svK (xallS (lens := [16]) in211 (by simp [bvs_length])) ?_
 rintro _ w2 ⟨b4, rfl, m3, h4, e1, s1⟩
 have hm := rng_fr hm m3 (by omega) id
 have hG := hG.keep (fun k hk => by omega) m3 nF
 have hf := hf.step0 m3
 refine sA rfl (send (fg [(0, _), (1, _), (4, _)] ⟨rfl, rfl, rfl, ⟨⟩⟩ fun _ => (sreg ?_)))
 refine svK (xallS (lens := [16]) in209 (by simp [bvs_length])) ?_
 rintro _ w5 ⟨b6, rfl, m6, h6, e4, s4⟩
 have hm := rng_fr hm m6 (by omega) id
 have hG := hG.keep (fun k hk => by omega) m6 nF
 have hf := hf.step0 m6
 have h4 := h4.keep m6 id
 refine send (fg [(0, _), (1, _), (4, _), (6, _)] ⟨rfl, rfl, rfl, rfl, ⟨⟩⟩ fun _ => (wp_seq (sreg (sM rfl (sM rfl (sv (xcutA ar209 sz5 rfl) ?_))))))
 refine sc (xcall ca212 rfl) (c212 (b := b) (bp := b6) (q := 0) (ip := 0) (off := off) (d := 16) (xs := xs) hms hm (by omega) hnb hkm hbl hG (by omega) h6 (by omega) (by omega) rfl rfl hs (by omega) hx (by simp [bvs_length]) hle h0) ?_
 rintro _ w7 ⟨⟨hle13, rfl, h6⟩ | ⟨hgt13, ⟨T13, x13, rfl⟩, o13, h6⟩, m8⟩
 ·
  have z9 := m8.size
  have hf := hf.step m8 (nB (by omega))
  have h4 := h4.keep m8 (by show ¬ (b4 = b6); omega)
  have h6 : SB w7 b6 [16] [bvs xs] := h6
  refine sM rfl (sv (xex20 rfl) (sv (xex21 rfl) (sA rfl (sA rfl (send (fg [(4, _), (6, _), (8, _)] ⟨rfl, rfl, rfl, ⟨⟩⟩ fun _ => (sreg (sM rfl (sv (xneN if89 rfl) (send (fg [(4, _), (6, _), (8, _), (17, _)] ⟨rfl, rfl, rfl, rfl, ⟨⟩⟩ fun _ => (cno rfl (wp_skip (nThen (fg [(4, _), (6, _)] ⟨rfl, rfl, ⟨⟩⟩ fun _ => (sreg (sv (xldS (lens := [16]) ro209 rfl h6.r) (sv (xbuildS [bvs xs] zr211 ly211 rfl (by simp [fitAll, zs211, Value.cells, bvs_length, hx]) (by simp [setAll, zs211, Value.cells])) ?_))))))))))))))))))
  refine suK (xstW h4 (lens' := [16]) sz211 (by simp [bvs_length, hx]) rfl (by simp only [List.flatten_cons, List.flatten_nil, List.append_nil, bvs_one] <;> rfl) rfl rfl) ?_
  rintro w11 ⟨m12, h4, s10⟩
  have hf := hf.step m12 (nB (by omega))
  refine sA rfl (send (fg [(4, _), (5, _)] ⟨rfl, rfl, ⟨⟩⟩ fun _ => (wp_ret ?_)))
  refine rp2 rfl ⟨_, rfl, ldS (lens := [16]) ro211 h4.r⟩ rfl ?_
  exact ⟨.inl ⟨by omega, rfl⟩, hf⟩
 ·
  have z13 := m8.size
  have hf := hf.step m8 (nB (by omega))
  have h4 := h4.keep m8 (by show ¬ (b4 = b6); omega)
  refine sM rfl (sv (xex20 rfl) (sv (xex21 rfl) (sA rfl (sA rfl (send (fg [(4, _), (6, _), (8, _)] ⟨rfl, rfl, rfl, ⟨⟩⟩ fun _ => (sreg (sM rfl (sv (xneI if89 rfl) (send (fg [(4, _), (6, _), (8, _), (17, _)] ⟨rfl, rfl, rfl, rfl, ⟨⟩⟩ fun _ => (cyes rfl (sreg (sv (xbuildS [bvs (List.replicate 16 0)] zr211 ly211 rfl trivial (by simp [setAll, zs211])) (sM rfl ?_)))))))))))))))
  refine suK (xstW h4 (lens' := [16]) sz211 (by simp [bvs_length]) rfl (by simp only [List.flatten_cons, List.flatten_nil, List.append_nil, bvs_one] <;> rfl) rfl rfl) ?_
  rintro w15 ⟨m16, h4, s14⟩
  have hf := hf.step m16 (nB (by omega))
  refine sA rfl (send (fg [(4, _), (5, _)] ⟨rfl, rfl, ⟨⟩⟩ fun _ => (wp_ret (rThen ?_))))
  refine rp2 rfl ⟨_, rfl, ldS (lens := [16]) ro211 h4.r⟩ rfl ?_
  exact ⟨.inr ⟨by omega, _, _, rfl⟩, hf⟩
set_option maxHeartbeats 4000000 in
set_option maxRecDepth 100000 in
theorem c196 {w : World} {a : Option Addr} {bm om km n : Nat} {b : List UInt8} (hms : n ≠ 0 → a = some ⟨bm, om, none⟩) (hm : w.rangeAt bm om (bvs (b.take n))) (hbm : bm < w.heap.size) (hnb : n ≤ b.length) (hkm : n ≤ km) (hbl : b.length < 100000000) (hG : GE w) (hsz : 21 ≤ w.heap.size) {K off e : Nat} {S : List UInt8} (hN : NameAt b K off S e) (hS0 : nameL S) (hK : K ≤ 10) (hKn : K = 0 ∨ n = b.length)  :
  Ret PP 196 [.slice a n km, .int .i64 (off : Int)] w (fun u w' => ((e ≤ n ∧ u = .tuple #[ag ([nm S]), .nilIface]) ∨ (n < e ∧ ∃ (T : TypeId) (x : Option Addr), u = .tuple #[ag ([nm []]), .iface T (.pointer x)])) ∧ Fr0 w w') := by
 have hf : Fr (fun _ => False) w w := Fr.refl _ _
 refine ret_of Tryz.func196 rfl rfl rfl [(0, _), (1, _)] rfl ?_
 refine sreg ?_
 refine svK (xallS (lens := [256]) in192 (by simp [nm_length])) ?_
 rintro _ w2 ⟨b4, rfl, m3, h4, e1, s1⟩
 have hm := rng_fr hm m3 (by omega) id
 have hG := hG.keep (fun k hk => by omega) m3 nF
 have hf := hf.step0 m3
 refine sA rfl (send (fg [(0, _), (1, _), (4, _)] ⟨rfl, rfl, rfl, ⟨⟩⟩ fun _ => (sreg ?_)))
 refine svK (xallS (lens := [256]) in82 (by simp [nm_length])) ?_
 rintro _ w5 ⟨b6, rfl, m6, h6, e4, s4⟩
 have hm := rng_fr hm m6 (by omega) id
 have hG := hG.keep (fun k hk => by omega) m6 nF
 have hf := hf.step0 m6
 have h4 := h4.keep m6 id
 refine send (fg [(0, _), (1, _), (4, _), (6, _)] ⟨rfl, rfl, rfl, rfl, ⟨⟩⟩ fun _ => (wp_seq (sreg (sM rfl (sM rfl ?_)))))
 refine sc (xcall ca105 rfl) (c105 (b := b) (bp := b6) (q := 0) (ip := 0) (K := K) (off := off) (e := e) (S := S) hms hm (by omega) hnb hkm hbl hG (by omega) h6 (by omega) (by omega) rfl rfl hN hS0 hK hKn) ?_
 rintro _ w7 ⟨⟨hle12, rfl, h6⟩ | ⟨hgt12, ⟨T12, x12, rfl⟩, o12, h6⟩, m8⟩
 ·
  have z9 := m8.size
  have hf := hf.step m8 (nB (by omega))
  have h4 := h4.keep m8 (by show ¬ (b4 = b6); omega)
  have h6 : SB w7 b6 [256] ([nm (S)]) := h6
  refine sM rfl (sv (xex20 rfl) (sv (xex21 rfl) (sA rfl (sA rfl (send (fg [(4, _), (6, _), (8, _)] ⟨rfl, rfl, rfl, ⟨⟩⟩ fun _ => (sreg (sM rfl (sv (xneN if89 rfl) (send (fg [(4, _), (6, _), (8, _), (16, _)] ⟨rfl, rfl, rfl, rfl, ⟨⟩⟩ fun _ => (cno rfl (wp_skip (nThen (fg [(4, _), (6, _)] ⟨rfl, rfl, ⟨⟩⟩ fun _ => (sreg (sv (xldS (lens := [256]) ro82 rfl h6.r) (sv (xbuildS [nm S] zr192 ly192 rfl (by simp [fitAll, zs192, Value.cells, nm_length]) (by simp [setAll, zs192, Value.cells])) ?_))))))))))))))))))
  refine suK (xstW h4 (lens' := [256]) sz192 (by simp [nm_length]) rfl (by simp only [List.flatten_cons, List.flatten_nil, List.append_nil, nm_one] <;> rfl) rfl rfl) ?_
  rintro w11 ⟨m12, h4, s10⟩
  have hf := hf.step m12 (nB (by omega))
  refine sA rfl (send (fg [(4, _), (5, _)] ⟨rfl, rfl, ⟨⟩⟩ fun _ => (wp_ret ?_)))
  refine rp2 rfl ⟨_, rfl, ldS (lens := [256]) ro192 h4.r⟩ rfl ?_
  exact ⟨.inl ⟨by omega, rfl⟩, hf⟩
 ·
  have z13 := m8.size
  have hf := hf.step m8 (nB (by omega))
  have h4 := h4.keep m8 (by show ¬ (b4 = b6); omega)
  refine sM rfl (sv (xex20 rfl) (sv (xex21 rfl) (sA rfl (sA rfl (send (fg [(4, _), (6, _), (8, _)] ⟨rfl, rfl, rfl, ⟨⟩⟩ fun _ => (sreg (sM rfl (sv (xneI if89 rfl) (send (fg [(4, _), (6, _), (8, _), (16, _)] ⟨rfl, rfl, rfl, rfl, ⟨⟩⟩ fun _ => (cyes rfl (sreg (sv (xbuildS [nm []] zr192 ly192 rfl trivial (by simp [setAll, zs192])) (sM rfl ?_)))))))))))))))
  refine suK (xstW h4 (lens' := [256]) sz192 (by simp [nm_length]) rfl (by simp only [List.flatten_cons, List.flatten_nil, List.append_nil, nm_one] <;> rfl) rfl rfl) ?_
  rintro w15 ⟨m16, h4, s14⟩
  have hf := hf.step m16 (nB (by omega))
  refine sA rfl (send (fg [(4, _), (5, _)] ⟨rfl, rfl, ⟨⟩⟩ fun _ => (wp_ret (rThen ?_))))
  refine rp2 rfl ⟨_, rfl, ldS (lens := [256]) ro192 h4.r⟩ rfl ?_
  exact ⟨.inr ⟨by omega, _, _, rfl⟩, hf⟩
set_option maxHeartbeats 4000000 in
set_option maxRecDepth 100000 in
theorem c197 {w : World} {a : Option Addr} {bm om km n : Nat} {b : List UInt8} (hms : n ≠ 0 → a = some ⟨bm, om, none⟩) (hm : w.rangeAt bm om (bvs (b.take n))) (hbm : bm < w.heap.size) (hnb : n ≤ b.length) (hkm : n ≤ km) (hbl : b.length < 100000000) (hG : GE w) (hsz : 21 ≤ w.heap.size) {K off e : Nat} {S : List UInt8} (hN : NameAt b K off S e) (hS0 : nameL S) (hK : K ≤ 10) (hKn : K = 0 ∨ n = b.length)  :
  Ret PP 197 [.slice a n km, .int .i64 (off : Int)] w (fun u w' => ((e ≤ n ∧ u = .tuple #[ag ([nm S]), .nilIface]) ∨ (n < e ∧ ∃ (T : TypeId) (x : Option Addr), u = .tuple #[ag ([nm []]), .iface T (.pointer x)])) ∧ Fr0 w w') := by
 have hf : Fr (fun _ => False) w w := Fr.refl _ _
 refine ret_of Tryz.func197 rfl rfl rfl [(0, _), (1, _)] rfl ?_
 refine sreg ?_
 refine svK (xallS (lens := [256]) in195 (by simp [nm_length])) ?_
 rintro _ w2 ⟨b4, rfl, m3, h4, e1, s1⟩
 have hm := rng_fr hm m3 (by omega) id
 have hG := hG.keep (fun k hk => by omega) m3 nF
 have hf := hf.step0 m3
 refine sA rfl (send (fg [(0, _), (1, _), (4, _)] ⟨rfl, rfl, rfl, ⟨⟩⟩ fun _ => (sreg ?_)))
 refine svK (xallS (lens := [256]) in82 (by simp [nm_length])) ?_
 rintro _ w5 ⟨b6, rfl, m6, h6, e4, s4⟩
 have hm := rng_fr hm m6 (by omega) id
 have hG := hG.keep (fun k hk => by omega) m6 nF
 have hf := hf.step0 m6
 have h4 := h4.keep m6 id
 refine send (fg [(0, _), (1, _), (4, _), (6, _)] ⟨rfl, rfl, rfl, rfl, ⟨⟩⟩ fun _ => (wp_seq (sreg (sM rfl (sM rfl ?_)))))
 refine sc (xcall ca105 rfl) (c105 (b := b) (bp := b6) (q := 0) (ip := 0) (K := K) (off := off) (e := e) (S := S) hms hm (by omega) hnb hkm hbl hG (by omega) h6 (by omega) (by omega) rfl rfl hN hS0 hK hKn) ?_
 rintro _ w7 ⟨⟨hle12, rfl, h6⟩ | ⟨hgt12, ⟨T12, x12, rfl⟩, o12, h6⟩, m8⟩
 ·
  have z9 := m8.size
  have hf := hf.step m8 (nB (by omega))
  have h4 := h4.keep m8 (by show ¬ (b4 = b6); omega)
  have h6 : SB w7 b6 [256] ([nm (S)]) := h6
  refine sM rfl (sv (xex20 rfl) (sv (xex21 rfl) (sA rfl (sA rfl (send (fg [(4, _), (6, _), (8, _)] ⟨rfl, rfl, rfl, ⟨⟩⟩ fun _ => (sreg (sM rfl (sv (xneN if89 rfl) (send (fg [(4, _), (6, _), (8, _), (16, _)] ⟨rfl, rfl, rfl, rfl, ⟨⟩⟩ fun _ => (cno rfl (wp_skip (nThen (fg [(4, _), (6, _)] ⟨rfl, rfl, ⟨⟩⟩ fun _ => (sreg (sv (xldS (lens := [256]) ro82 rfl h6.r) (sv (xbuildS [nm S] zr195 ly195 rfl (by simp [fitAll, zs195, Value.cells, nm_length]) (by simp [setAll, zs195, Value.cells])) ?_))))))))))))))))))
  refine suK (xstW h4 (lens' := [256]) sz195 (by simp [nm_length]) rfl (by simp only [List.flatten_cons, List.flatten_nil, List.append_nil, nm_one] <;> rfl) rfl rfl) ?_
  rintro w11 ⟨m12, h4, s10⟩
  have hf := hf.step m12 (nB (by omega))
  refine sA rfl (send (fg [(4, _), (5, _)] ⟨rfl, rfl, ⟨⟩⟩ fun _ => (wp_ret ?_)))
  refine rp2 rfl ⟨_, rfl, ldS (lens := [256]) ro195 h4.r⟩ rfl ?_
  exact ⟨.inl ⟨by omega, rfl⟩, hf⟩
 ·
  have z13 := m8.size
  have hf := hf.step m8 (nB (by omega))
  have h4 := h4.keep m8 (by show ¬ (b4 = b6); omega)
  refine sM rfl (sv (xex20 rfl) (sv (xex21 rfl) (sA rfl (sA rfl (send (fg [(4, _), (6, _), (8, _)] ⟨rfl, rfl, rfl, ⟨⟩⟩ fun _ => (sreg (sM rfl (sv (xneI if89 rfl) (send (fg [(4, _), (6, _), (8, _), (16, _)] ⟨rfl, rfl, rfl, rfl, ⟨⟩⟩ fun _ => (cyes rfl (sreg (sv (xbuildS [nm []] zr195 ly195 rfl trivial (by simp [setAll, zs195])) (sM rfl ?_)))))))))))))))
  refine suK (xstW h4 (lens' := [256]) sz195 (by simp [nm_length]) rfl (by simp only [List.flatten_cons, List.flatten_nil, List.append_nil, nm_one] <;> rfl) rfl rfl) ?_
  rintro w15 ⟨m16, h4, s14⟩
  have hf := hf.step m16 (nB (by omega))
  refine sA rfl (send (fg [(4, _), (5, _)] ⟨rfl, rfl, ⟨⟩⟩ fun _ => (wp_ret (rThen ?_))))
  refine rp2 rfl ⟨_, rfl, ldS (lens := [256]) ro195 h4.r⟩ rfl ?_
  exact ⟨.inr ⟨by omega, _, _, rfl⟩, hf⟩
set_option maxHeartbeats 4000000 in
set_option maxRecDepth 100000 in
theorem c199 {w : World} {a : Option Addr} {bm om km n : Nat} {b : List UInt8} (hms : n ≠ 0 → a = some ⟨bm, om, none⟩) (hm : w.rangeAt bm om (bvs (b.take n))) (hbm : bm < w.heap.size) (hnb : n ≤ b.length) (hkm : n ≤ km) (hbl : b.length < 100000000) (hG : GE w) (hsz : 21 ≤ w.heap.size) {K off e : Nat} {S : List UInt8} (hN : NameAt b K off S e) (hS0 : nameL S) (hK : K ≤ 10) (hKn : K = 0 ∨ n = b.length)  :
  Ret PP 199 [.slice a n km, .int .i64 (off : Int)] w (fun u w' => ((e ≤ n ∧ u = .tuple #[ag ([nm S]), .nilIface]) ∨ (n < e ∧ ∃ (T : TypeId) (x : Option Addr), u = .tuple #[ag ([nm []]), .iface T (.pointer x)])) ∧ Fr0 w w') := by
 have hf : Fr (fun _ => False) w w := Fr.refl _ _
 refine ret_of Tryz.func199 rfl rfl rfl [(0, _), (1, _)] rfl ?_
 refine sreg ?_
 refine svK (xallS (lens := [256]) in201 (by simp [nm_length])) ?_
 rintro _ w2 ⟨b4, rfl, m3, h4, e1, s1⟩
 have hm := rng_fr hm m3 (by omega) id
 have hG := hG.keep (fun k hk => by omega) m3 nF
 have hf := hf.step0 m3
 refine sA rfl (send (fg [(0, _), (1, _), (4, _)] ⟨rfl, rfl, rfl, ⟨⟩⟩ fun _ => (sreg ?_)))
 refine svK (xallS (lens := [256]) in82 (by simp [nm_length])) ?_
 rintro _ w5 ⟨b6, rfl, m6, h6, e4, s4⟩
 have hm := rng_fr hm m6 (by omega) id
 have hG := hG.keep (fun k hk => by omega) m6 nF
 have hf := hf.step0 m6
 have h4 := h4.keep m6 id
 refine send (fg [(0, _), (1, _), (4, _), (6, _)] ⟨rfl, rfl, rfl, rfl, ⟨⟩⟩ fun _ => (wp_seq (sreg (sM rfl (sM rfl ?_)))))
 refine sc (xcall ca105 rfl) (c105 (b := b) (bp := b6) (q := 0) (ip := 0) (K := K) (off := off) (e := e) (S := S) hms hm (by omega) hnb hkm hbl hG (by omega) h6 (by omega) (by omega) rfl rfl hN hS0 hK hKn) ?_
 rintro _ w7 ⟨⟨hle12, rfl, h6⟩ | ⟨hgt12, ⟨T12, x12, rfl⟩, o12, h6⟩, m8⟩
 ·
  have z9 := m8.size
  have hf := hf.step m8 (nB (by omega))
  have h4 := h4.keep m8 (by show ¬ (b4 = b6); omega)
  have h6 : SB w7 b6 [256] ([nm (S)]) := h6
  refine sM rfl (sv (xex20 rfl) (sv (xex21 rfl) (sA rfl (sA rfl (send (fg [(4, _), (6, _), (8, _)] ⟨rfl, rfl, rfl, ⟨⟩⟩ fun _ => (sreg (sM rfl (sv (xneN if89 rfl) (send (fg [(4, _), (6, _), (8, _), (16, _)] ⟨rfl, rfl, rfl, rfl, ⟨⟩⟩ fun _ => (cno rfl (wp_skip (nThen (fg [(4, _), (6, _)] ⟨rfl, rfl, ⟨⟩⟩ fun _ => (sreg (sv (xldS (lens := [256]) ro82 rfl h6.r) (sv (xbuildS [nm S] zr201 ly201 rfl (by simp [fitAll, zs201, Value.cells, nm_length]) (by simp [setAll, zs201, Value.cells])) ?_))))))))))))))))))
  refine suK (xstW h4 (lens' := [256]) sz201 (by simp [nm_length]) rfl (by simp only [List.flatten_cons, List.flatten_nil, List.append_nil, nm_one] <;> rfl) rfl rfl) ?_
  rintro w11 ⟨m12, h4, s10⟩
  have hf := hf.step m12 (nB (by omega))
  refine sA rfl (send (fg [(4, _), (5, _)] ⟨rfl, rfl, ⟨⟩⟩ fun _ => (wp_ret ?_)))
  refine rp2 rfl ⟨_, rfl, ldS (lens := [256]) ro201 h4.r⟩ rfl ?_
  exact ⟨.inl ⟨by omega, rfl⟩, hf⟩
 ·
  have z13 := m8.size
  have hf := hf.step m8 (nB (by omega))
  have h4 := h4.keep m8 (by show ¬ (b4 = b6); omega)
  refine sM rfl (sv (xex20 rfl) (sv (xex21 rfl) (sA rfl (sA rfl (send (fg [(4, _), (6, _), (8, _)] ⟨rfl, rfl, rfl, ⟨⟩⟩ fun _ => (sreg (sM rfl (sv (xneI if89 rfl) (send (fg [(4, _), (6, _), (8, _), (16, _)] ⟨rfl, rfl, rfl, rfl, ⟨⟩⟩ fun _ => (cyes rfl (sreg (sv (xbuildS [nm []] zr201 ly201 rfl trivial (by simp [setAll, zs201])) (sM rfl ?_)))))))))))))))
  refine suK (xstW h4 (lens' := [256]) sz201 (by simp [nm_length]) rfl (by simp only [List.flatten_cons, List.flatten_nil, List.append_nil, nm_one] <;> rfl) rfl rfl) ?_
  rintro w15 ⟨m16, h4, s14⟩
  have hf := hf.step m16 (nB (by omega))
  refine sA rfl (send (fg [(4, _), (5, _)] ⟨rfl, rfl, ⟨⟩⟩ fun _ => (wp_ret (rThen ?_))))
  refine rp2 rfl ⟨_, rfl, ldS (lens := [256]) ro201 h4.r⟩ rfl ?_
  exact ⟨.inr ⟨by omega, _, _, rfl⟩, hf⟩
set_option maxHeartbeats 4000000 in
set_option maxRecDepth 100000 in
theorem c198 {w : World} {a : Option Addr} {bm om km n : Nat} {b : List UInt8} (hms : n ≠ 0 → a = some ⟨bm, om, none⟩) (hm : w.rangeAt bm om (bvs (b.take n))) (hbm : bm < w.heap.size) (hnb : n ≤ b.length) (hkm : n ≤ km) (hbl : b.length < 100000000) (hG : GE w) (hsz : 21 ≤ w.heap.size) {Ka Kb off ea eb : Nat} {Sa Sb : List UInt8} (hNa : NameAt b Ka off Sa ea) (hSa : nameL Sa) (hKa : Ka ≤ 10) (hKna : Ka = 0 ∨ n = b.length) (hNb : NameAt b Kb ea Sb eb) (hSb : nameL Sb) (hKb : Kb ≤ 10) (hKnb : Kb = 0 ∨ n = b.length) {ka kb kc kd ke : Nat} (la : ka < 4294967296) (lb : kb < 4294967296) (lc : kc < 4294967296) (ld : kd < 4294967296) (le : ke < 4294967296) (hs : Std b eb (be32 ka ++ (be32 kb ++ (be32 kc ++ (be32 kd ++ be32 ke))))) (hle : eb + 20 ≤ b.length) :
  Ret PP 198 [.slice a n km, .int .i64 (off : Int)] w (fun u w' => ((eb + 20 ≤ n ∧ u = .tuple #[ag ([nm Sa, nm Sb, [.int .u32 (ka : Int)], [.int .u32 (kb : Int)], [.int .u32 (kc : Int)], [.int .u32 (kd : Int)], [.int .u32 (ke : Int)]]), .nilIface]) ∨ (n < eb + 20 ∧ ∃ (T : TypeId) (x : Option Addr), u = .tuple #[ag ([nm [], nm [], [.int .u32 0], [.int .u32 0], [.int .u32 0], [.int .u32 0], [.int .u32 0]]), .iface T (.pointer x)])) ∧ Fr0 w w') := by
 have hNbl := (show NameR b ea Kb ea (txt Sb) eb from hNb).le
 have hf : Fr (fun _ => False) w w := Fr.refl _ _
 refine ret_of Tryz.func198 rfl rfl rfl [(0, _), (1, _)] rfl ?_
 refine sreg ?_
 refine svK (xallS (lens := [256, 256, 1, 1, 1, 1, 1]) in198 (by simp [nm_length])) ?_
 rintro _ w2 ⟨b4, rfl, m3, h4, e1, s1⟩
 have hm := rng_fr hm m3 (by omega) id
 have hG := hG.keep (fun k hk => by omega) m3 nF
 have hf := hf.step0 m3
 refine sA rfl (send (fg [(0, _), (1, _), (4, _)] ⟨rfl, rfl, rfl, ⟨⟩⟩ fun _ => (sreg ?_)))
 refine svK (xallS (lens := [256]) in82 (by simp [nm_length])) ?_
 rintro _ w5 ⟨b6, rfl, m6, h6, e4, s4⟩
 have hm := rng_fr hm m6 (by omega) id
 have hG := hG.keep (fun k hk => by omega) m6 nF
 have hf := hf.step0 m6
 have h4 := h4.keep m6 id
 refine send (fg [(0, _), (1, _), (4, _), (6, _)] ⟨rfl, rfl, rfl, rfl, ⟨⟩⟩ fun _ => (sreg (sM rfl (sM rfl ?_))))
 refine sc (xcall ca105 rfl) (c105 (b := b) (bp := b6) (q := 0) (ip := 0) (K := Ka) (off := off) (e := ea) (S := Sa) hms hm (by omega) hnb hkm hbl hG (by omega) h6 (by omega) (by omega) rfl rfl hNa hSa hKa hKna) ?_
 rintro _ w7 ⟨⟨hle18, rfl, h6⟩ | ⟨hgt18, ⟨T18, x18, rfl⟩, o18, h6⟩, m8⟩
 ·
  have z9 := m8.size
  have hm := rng_fr hm m8 (by omega) (by show ¬ (bm = b6); omega)
  have hG := hG.keep (fun k hk => by omega) m8 (fun k hk hS => by have hk := hk; have hS : k = b6 := hS; omega)
  have hf := hf.step m8 (nB (by omega))
  have h4 := h4.keep m8 (by show ¬ (b4 = b6); omega)
  have h6 : SB w7 b6 [256] ([nm (Sa)]) := h6
  refine sM rfl (sv (xex20 rfl) (sv (xex21 rfl) (sA rfl (sA rfl (send (fg [(0, _), (1, _), (4, _), (6, _), (7, _)] ⟨rfl, rfl, rfl, rfl, rfl, ⟨⟩⟩ fun _ => (wp_seq (sreg (sM rfl (sv (xneN if89 rfl) (send (fg [(0, _), (1, _), (4, _), (6, _), (7, _), (22, _)] ⟨rfl, rfl, rfl, rfl, rfl, rfl, ⟨⟩⟩ fun _ => (cno rfl (wp_skip (nThen (fg [(0, _), (1, _), (4, _), (6, _)] ⟨rfl, rfl, rfl, rfl, ⟨⟩⟩ fun _ => (sreg ?_)))))))))))))))))
  refine svK (xallS (lens := [256]) in82 (by simp [nm_length])) ?_
  rintro _ w11 ⟨b8, rfl, m12, h8, e10, s10⟩
  have hm := rng_fr hm m12 (by omega) id
  have hG := hG.keep (fun k hk => by omega) m12 nF
  have hf := hf.step0 m12
  have h4 := h4.keep m12 id
  have h6 := h6.keep m12 id
  refine send (fg [(0, _), (1, _), (4, _), (6, _), (8, _)] ⟨rfl, rfl, rfl, rfl, rfl, ⟨⟩⟩ fun _ => (wp_seq (sreg (sM rfl (sM rfl ?_)))))
  refine sc (xcall ca105 rfl) (c105 (b := b) (bp := b8) (q := 0) (ip := 0) (K := Kb) (off := ea) (e := eb) (S := Sb) hms hm (by omega) hnb hkm hbl hG (by omega) h8 (by omega) (by omega) rfl rfl hNb hSb hKb hKnb) ?_
  rintro _ w13 ⟨⟨hle31, rfl, h8⟩ | ⟨hgt31, ⟨T31, x31, rfl⟩, o31, h8⟩, m14⟩
  ·
   have z15 := m14.size
   have hm := rng_fr hm m14 (by omega) (by show ¬ (bm = b8); omega)
   have hG := hG.keep (fun k hk => by omega) m14 (fun k hk hS => by have hk := hk; have hS : k = b8 := hS; omega)
   have hf := hf.step m14 (nB (by omega))
   have h4 := h4.keep m14 (by show ¬ (b4 = b8); omega)
   have h6 := h6.keep m14 (by show ¬ (b6 = b8); omega)
   have h8 : SB w13 b8 [256] ([nm (Sb)]) := h8
   refine sM rfl (sv (xex20 rfl) (sv (xex21 rfl) (sA rfl (sA rfl (send (fg [(0, _), (1, _), (4, _), (6, _), (7, _), (8, _)] ⟨rfl, rfl, rfl, rfl, rfl, rfl, ⟨⟩⟩ fun _ => (sreg (sM rfl (sv (xneN if89 rfl) (send (fg [(0, _), (1, _), (4, _), (6, _), (7, _), (8, _), (35, _)] ⟨rfl, rfl, rfl, rfl, rfl, rfl, rfl, ⟨⟩⟩ fun _ => (cno rfl (wp_skip (nThen (fg [(0, _), (1, _), (4, _), (6, _), (8, _)] ⟨rfl, rfl, rfl, rfl, rfl, ⟨⟩⟩ fun _ => (sreg (sM rfl (sM rfl ?_))))))))))))))))))
   refine sc (xcall ca211 rfl) (c211 (b := b) (off := eb) (x := ka) hms hm (by omega) hnb hkm hbl hG (by omega) la (hs.left) (by omega)) ?_
   rintro _ w16 ⟨⟨hle44, rfl⟩ | ⟨hgt44, T44, x44, rfl⟩, m17⟩
   ·
    have z18 := m17.size
    have hm := rng_fr hm m17 (by omega) id
    have hG := hG.keep (fun k hk => by omega) m17 nF
    have hf := hf.step0 m17
    have h4 := h4.keep m17 id
    have h6 := h6.keep m17 id
    have h8 := h8.keep m17 id
    refine sM rfl (sv (xex30 rfl) (sv (xex31 rfl) (sv (xex32 rfl) (sA rfl (sA rfl (sA rfl (send (fg [(0, _), (1, _), (4, _), (6, _), (7, _), (8, _), (9, _)] ⟨rfl, rfl, rfl, rfl, rfl, rfl, rfl, ⟨⟩⟩ fun _ => (wp_seq (sreg (sM rfl (sv (xneN if89 rfl) (send (fg [(0, _), (1, _), (4, _), (6, _), (7, _), (8, _), (9, _), (49, _)] ⟨rfl, rfl, rfl, rfl, rfl, rfl, rfl, rfl, ⟨⟩⟩ fun _ => (cno rfl (wp_skip (nThen (fg [(0, _), (1, _), (4, _), (6, _), (8, _), (9, _)] ⟨rfl, rfl, rfl, rfl, rfl, rfl, ⟨⟩⟩ fun _ => (sreg (sM rfl (sM rfl ?_)))))))))))))))))))))
    refine sc (xcall ca211 rfl) (c211 (b := b) (off := eb + 4) (x := kb) hms hm (by omega) hnb hkm hbl hG (by omega) lb ((hs.right' rfl).left) (by omega)) ?_
    rintro _ w19 ⟨⟨hle58, rfl⟩ | ⟨hgt58, T58, x58, rfl⟩, m20⟩
    ·
     have z21 := m20.size
     have hm := rng_fr hm m20 (by omega) id
     have hG := hG.keep (fun k hk => by omega) m20 nF
     have hf := hf.step0 m20
     have h4 := h4.keep m20 id
     have h6 := h6.keep m20 id
     have h8 := h8.keep m20 id
     refine sM rfl (sv (xex30 rfl) (sv (xex31 rfl) (sv (xex32 rfl) (sA rfl (sA rfl (sA rfl (send (fg [(0, _), (1, _), (4, _), (6, _), (7, _), (8, _), (9, _), (10, _)] ⟨rfl, rfl, rfl, rfl, rfl, rfl, rfl, rfl, ⟨⟩⟩ fun _ => (wp_seq (sreg (sM rfl (sv (xneN if89 rfl) (send (fg [(0, _), (1, _), (4, _), (6, _), (7, _), (8, _), (9, _), (10, _), (63, _)] ⟨rfl, rfl, rfl, rfl, rfl, rfl, rfl, rfl, rfl, ⟨⟩⟩ fun _ => (cno rfl (wp_skip (nThen (fg [(0, _), (1, _), (4, _), (6, _), (8, _), (9, _), (10, _)] ⟨rfl, rfl, rfl, rfl, rfl, rfl, rfl, ⟨⟩⟩ fun _ => (sreg (sM rfl (sM rfl ?_)))))))))))))))))))))
     refine sc (xcall ca211 rfl) (c211 (b := b) (off := eb + 4 + 4) (x := kc) hms hm (by omega) hnb hkm hbl hG (by omega) lc (((hs.right' rfl).right' rfl).left) (by omega)) ?_
     rintro _ w22 ⟨⟨hle72, rfl⟩ | ⟨hgt72, T72, x72, rfl⟩, m23⟩
     ·
      have z24 := m23.size
      have hm := rng_fr hm m23 (by omega) id
      have hG := hG.keep (fun k hk => by omega) m23 nF
      have hf := hf.step0 m23
      have h4 := h4.keep m23 id
      have h6 := h6.keep m23 id
      have h8 := h8.keep m23 id
      refine sM rfl (sv (xex30 rfl) (sv (xex31 rfl) (sv (xex32 rfl) (sA rfl (sA rfl (sA rfl (send (fg [(0, _), (1, _), (4, _), (6, _), (7, _), (8, _), (9, _), (10, _), (11, _)] ⟨rfl, rfl, rfl, rfl, rfl, rfl, rfl, rfl, rfl, ⟨⟩⟩ fun _ => (wp_seq (sreg (sM rfl (sv (xneN if89 rfl) (send (fg [(0, _), (1, _), (4, _), (6, _), (7, _), (8, _), (9, _), (10, _), (11, _), (77, _)] ⟨rfl, rfl, rfl, rfl, rfl, rfl, rfl, rfl, rfl, rfl, ⟨⟩⟩ fun _ => (cno rfl (wp_skip (nThen (fg [(0, _), (1, _), (4, _), (6, _), (8, _), (9, _), (10, _), (11, _)] ⟨rfl, rfl, rfl, rfl, rfl, rfl, rfl, rfl, ⟨⟩⟩ fun _ => (sreg (sM rfl (sM rfl ?_)))))))))))))))))))))
      refine sc (xcall ca211 rfl) (c211 (b := b) (off := eb + 4 + 4 + 4) (x := kd) hms hm (by omega) hnb hkm hbl hG (by omega) ld ((((hs.right' rfl).right' rfl).right' rfl).left) (by omega)) ?_
      rintro _ w25 ⟨⟨hle86, rfl⟩ | ⟨hgt86, T86, x86, rfl⟩, m26⟩
      ·
       have z27 := m26.size
       have hm := rng_fr hm m26 (by omega) id
       have hG := hG.keep (fun k hk => by omega) m26 nF
       have hf := hf.step0 m26
       have h4 := h4.keep m26 id
       have h6 := h6.keep m26 id
       have h8 := h8.keep m26 id
       refine sM rfl (sv (xex30 rfl) (sv (xex31 rfl) (sv (xex32 rfl) (sA rfl (sA rfl (sA rfl (send (fg [(0, _), (1, _), (4, _), (6, _), (7, _), (8, _), (9, _), (10, _), (11, _), (12, _)] ⟨rfl, rfl, rfl, rfl, rfl, rfl, rfl, rfl, rfl, rfl, ⟨⟩⟩ fun _ => (wp_seq (sreg (sM rfl (sv (xneN if89 rfl) (send (fg [(0, _), (1, _), (4, _), (6, _), (7, _), (8, _), (9, _), (10, _), (11, _), (12, _), (91, _)] ⟨rfl, rfl, rfl, rfl, rfl, rfl, rfl, rfl, rfl, rfl, rfl, ⟨⟩⟩ fun _ => (cno rfl (wp_skip (nThen (fg [(0, _), (1, _), (4, _), (6, _), (8, _), (9, _), (10, _), (11, _), (12, _)] ⟨rfl, rfl, rfl, rfl, rfl, rfl, rfl, rfl, rfl, ⟨⟩⟩ fun _ => (sreg (sM rfl (sM rfl ?_)))))))))))))))))))))
       refine sc (xcall ca211 rfl) (c211 (b := b) (off := eb + 4 + 4 + 4 + 4) (x := ke) hms hm (by omega) hnb hkm hbl hG (by omega) le (((((hs.right' rfl).right' rfl).right' rfl).right' rfl)) (by omega)) ?_
       rintro _ w28 ⟨⟨hle100, rfl⟩ | ⟨hgt100, T100, x100, rfl⟩, m29⟩
       ·
        have z30 := m29.size
        have hf := hf.step0 m29
        have h4 := h4.keep m29 id
        have h6 := h6.keep m29 id
        have h8 := h8.keep m29 id
        refine sM rfl (sv (xex30 rfl) (sv (xex31 rfl) (sv (xex32 rfl) (sA rfl (sA rfl (sA rfl (send (fg [(4, _), (6, _), (7, _), (8, _), (9, _), (10, _), (11, _), (12, _), (13, _)] ⟨rfl, rfl, rfl, rfl, rfl, rfl, rfl, rfl, rfl, ⟨⟩⟩ fun _ => (wp_seq (sreg (sM rfl (sv (xneN if89 rfl) (send (fg [(4, _), (6, _), (7, _), (8, _), (9, _), (10, _), (11, _), (12, _), (13, _), (105, _)] ⟨rfl, rfl, rfl, rfl, rfl, rfl, rfl, rfl, rfl, rfl, ⟨⟩⟩ fun _ => (cno rfl (wp_skip (nThen (fg [(4, _), (6, _), (8, _), (9, _), (10, _), (11, _), (12, _), (13, _)] ⟨rfl, rfl, rfl, rfl, rfl, rfl, rfl, rfl, ⟨⟩⟩ fun _ => (sreg (sv (xldS (lens := [256]) ro82 rfl h6.r) (sv (xldS (lens := [256]) ro82 rfl h8.r) (sM rfl (sM rfl (sM rfl ?_))))))))))))))))))))))))
        refine sM rfl (sM rfl (sv (xbuildS [nm Sa, nm Sb, [.int .u32 (ka : Int)], [.int .u32 (kb : Int)], [.int .u32 (kc : Int)], [.int .u32 (kd : Int)], [.int .u32 (ke : Int)]] zr198 ly198 rfl (by simp [fitAll, zs198, Value.cells, nm_length]) (by simp [setAll, zs198, Value.cells])) ?_))
        refine suK (xstW h4 (lens' := [256, 256, 1, 1, 1, 1, 1]) sz198 (by simp [nm_length]) rfl (by simp only [List.flatten_cons, List.flatten_nil, List.all_append, List.append_nil, nm_one, Bool.true_and] <;> rfl) rfl rfl) ?_
        rintro w32 ⟨m33, h4, s31⟩
        have hf := hf.step m33 (nB (by omega))
        refine sA rfl (send (fg [(4, _), (5, _)] ⟨rfl, rfl, ⟨⟩⟩ fun _ => (wp_ret ?_)))
        refine rp2 rfl ⟨_, rfl, ldS (lens := [256, 256, 1, 1, 1, 1, 1]) ro198 h4.r⟩ rfl ?_
        exact ⟨.inl ⟨by omega, rfl⟩, hf⟩
       ·
        have z34 := m29.size
        have hf := hf.step0 m29
        have h4 := h4.keep m29 id
        refine sM rfl (sv (xex30 rfl) (sv (xex31 rfl) (sv (xex32 rfl) (sA rfl (sA rfl (sA rfl (send (fg [(4, _), (6, _), (7, _), (8, _), (9, _), (10, _), (11, _), (12, _), (13, _)] ⟨rfl, rfl, rfl, rfl, rfl, rfl, rfl, rfl, rfl, ⟨⟩⟩ fun _ => (wp_seq (sreg (sM rfl (sv (xneI if89 rfl) (send (fg [(4, _), (6, _), (7, _), (8, _), (9, _), (10, _), (11, _), (12, _), (13, _), (105, _)] ⟨rfl, rfl, rfl, rfl, rfl, rfl, rfl, rfl, rfl, rfl, ⟨⟩⟩ fun _ => (cyes rfl (sreg (sv (xbuildS [nm [], nm [], [.int .u32 0], [.int .u32 0], [.int .u32 0], [.int .u32 0], [.int .u32 0]] zr198 ly198 rfl trivial (by simp [setAll, zs198])) (sM rfl (sv (xbuildS [[_], [_]] zr168 ly168 rfl (by simp [fitAll, zs168, Value.cells]) rfl) ?_)))))))))))))))))))
        refine svK (xboxS (lens := [1, 1]) rfl (by simp [])) ?_
        rintro _ w36 ⟨b109, rfl, m37, h109, e35, s35⟩
        have hf := hf.step0 m37
        have h4 := h4.keep m37 id
        refine sv (xmkif ni166 rfl) ?_
        refine suK (xstW h4 (lens' := [256, 256, 1, 1, 1, 1, 1]) sz198 (by simp [nm_length]) rfl (by simp only [List.flatten_cons, List.flatten_nil, List.all_append, List.append_nil, nm_one, Bool.true_and] <;> rfl) rfl rfl) ?_
        rintro w39 ⟨m40, h4, s38⟩
        have hf := hf.step m40 (nB (by omega))
        refine sA rfl (send (fg [(4, _), (5, _)] ⟨rfl, rfl, ⟨⟩⟩ fun _ => (wp_ret (rThen ?_))))
        refine rp2 rfl ⟨_, rfl, ldS (lens := [256, 256, 1, 1, 1, 1, 1]) ro198 h4.r⟩ rfl ?_
        exact ⟨.inr ⟨by omega, _, _, rfl⟩, hf⟩
      ·
       have z41 := m26.size
       have hf := hf.step0 m26
       have h4 := h4.keep m26 id
       refine sM rfl (sv (xex30 rfl) (sv (xex31 rfl) (sv (xex32 rfl) (sA rfl (sA rfl (sA rfl (send (fg [(0, _), (1, _), (4, _), (6, _), (7, _), (8, _), (9, _), (10, _), (11, _), (12, _)] ⟨rfl, rfl, rfl, rfl, rfl, rfl, rfl, rfl, rfl, rfl, ⟨⟩⟩ fun _ => (wp_seq (sreg (sM rfl (sv (xneI if89 rfl) (send (fg [(0, _), (1, _), (4, _), (6, _), (7, _), (8, _), (9, _), (10, _), (11, _), (12, _), (91, _)] ⟨rfl, rfl, rfl, rfl, rfl, rfl, rfl, rfl, rfl, rfl, rfl, ⟨⟩⟩ fun _ => (cyes rfl (sreg (sv (xbuildS [nm [], nm [], [.int .u32 0], [.int .u32 0], [.int .u32 0], [.int .u32 0], [.int .u32 0]] zr198 ly198 rfl trivial (by simp [setAll, zs198])) (sM rfl (sv (xbuildS [[_], [_]] zr168 ly168 rfl (by simp [fitAll, zs168, Value.cells]) rfl) ?_)))))))))))))))))))
       refine svK (xboxS (lens := [1, 1]) rfl (by simp [])) ?_
       rintro _ w43 ⟨b95, rfl, m44, h95, e42, s42⟩
       have hf := hf.step0 m44
       have h4 := h4.keep m44 id
       refine sv (xmkif ni166 rfl) ?_
       refine suK (xstW h4 (lens' := [256, 256, 1, 1, 1, 1, 1]) sz198 (by simp [nm_length]) rfl (by simp only [List.flatten_cons, List.flatten_nil, List.all_append, List.append_nil, nm_one, Bool.true_and] <;> rfl) rfl rfl) ?_
       rintro w46 ⟨m47, h4, s45⟩
       have hf := hf.step m47 (nB (by omega))
       refine sA rfl (send (fg [(4, _), (5, _)] ⟨rfl, rfl, ⟨⟩⟩ fun _ => (wp_ret (rThen ?_))))
       refine rp2 rfl ⟨_, rfl, ldS (lens := [256, 256, 1, 1, 1, 1, 1]) ro198 h4.r⟩ rfl ?_
       exact ⟨.inr ⟨by omega, _, _, rfl⟩, hf⟩
     ·
      have z48 := m23.size
      have hf := hf.step0 m23
      have h4 := h4.keep m23 id
      refine sM rfl (sv (xex30 rfl) (sv (xex31 rfl) (sv (xex32 rfl) (sA rfl (sA rfl (sA rfl (send (fg [(0, _), (1, _), (4, _), (6, _), (7, _), (8, _), (9, _), (10, _), (11, _)] ⟨rfl, rfl, rfl, rfl, rfl, rfl, rfl, rfl, rfl, ⟨⟩⟩ fun _ => (wp_seq (sreg (sM rfl (sv (xneI if89 rfl) (send (fg [(0, _), (1, _), (4, _), (6, _), (7, _), (8, _), (9, _), (10, _), (11, _), (77, _)] ⟨rfl, rfl, rfl, rfl, rfl, rfl, rfl, rfl, rfl, rfl, ⟨⟩⟩ fun _ => (cyes rfl (sreg (sv (xbuildS [nm [], nm [], [.int .u32 0], [.int .u32 0], [.int .u32 0], [.int .u32 0], [.int .u32 0]] zr198 ly198 rfl trivial (by simp [setAll, zs198])) (sM rfl (sv (xbuildS [[_], [_]] zr168 ly168 rfl (by simp [fitAll, zs168, Value.cells]) rfl) ?_)))))))))))))))))))
      refine svK (xboxS (lens := [1, 1]) rfl (by simp [])) ?_
      rintro _ w50 ⟨b81, rfl, m51, h81, e49, s49⟩
      have hf := hf.step0 m51
      have h4 := h4.keep m51 id
      refine sv (xmkif ni166 rfl) ?_
      refine suK (xstW h4 (lens' := [256, 256, 1, 1, 1, 1, 1]) sz198 (by simp [nm_length]) rfl (by simp only [List.flatten_cons, List.flatten_nil, List.all_append, List.append_nil, nm_one, Bool.true_and] <;> rfl) rfl rfl) ?_
      rintro w53 ⟨m54, h4, s52⟩
      have hf := hf.step m54 (nB (by omega))
      refine sA rfl (send (fg [(4, _), (5, _)] ⟨rfl, rfl, ⟨⟩⟩ fun _ => (wp_ret (rThen ?_))))
      refine rp2 rfl ⟨_, rfl, ldS (lens := [256, 256, 1, 1, 1, 1, 1]) ro198 h4.r⟩ rfl ?_
      exact ⟨.inr ⟨by omega, _, _, rfl⟩, hf⟩
    ·
     have z55 := m20.size
     have hf := hf.step0 m20
     have h4 := h4.keep m20 id
     refine sM rfl (sv (xex30 rfl) (sv (xex31 rfl) (sv (xex32 rfl) (sA rfl (sA rfl (sA rfl (send (fg [(0, _), (1, _), (4, _), (6, _), (7, _), (8, _), (9, _), (10, _)] ⟨rfl, rfl, rfl, rfl, rfl, rfl, rfl, rfl, ⟨⟩⟩ fun _ => (wp_seq (sreg (sM rfl (sv (xneI if89 rfl) (send (fg [(0, _), (1, _), (4, _), (6, _), (7, _), (8, _), (9, _), (10, _), (63, _)] ⟨rfl, rfl, rfl, rfl, rfl, rfl, rfl, rfl, rfl, ⟨⟩⟩ fun _ => (cyes rfl (sreg (sv (xbuildS [nm [], nm [], [.int .u32 0], [.int .u32 0], [.int .u32 0], [.int .u32 0], [.int .u32 0]] zr198 ly198 rfl trivial (by simp [setAll, zs198])) (sM rfl (sv (xbuildS [[_], [_]] zr168 ly168 rfl (by simp [fitAll, zs168, Value.cells]) rfl) ?_)))))))))))))))))))
     refine svK (xboxS (lens := [1, 1]) rfl (by simp [])) ?_
     rintro _ w57 ⟨b67, rfl, m58, h67, e56, s56⟩
     have hf := hf.step0 m58
     have h4 := h4.keep m58 id
     refine sv (xmkif ni166 rfl) ?_
     refine suK (xstW h4 (lens' := [256, 256, 1, 1, 1, 1, 1]) sz198 (by simp [nm_length]) rfl (by simp only [List.flatten_cons, List.flatten_nil, List.all_append, List.append_nil, nm_one, Bool.true_and] <;> rfl) rfl rfl) ?_
     rintro w60 ⟨m61, h4, s59⟩
     have hf := hf.step m61 (nB (by omega))
     refine sA rfl (send (fg [(4, _), (5, _)] ⟨rfl, rfl, ⟨⟩⟩ fun _ => (wp_ret (rThen ?_))))
     refine rp2 rfl ⟨_, rfl, ldS (lens := [256, 256, 1, 1, 1, 1, 1]) ro198 h4.r⟩ rfl ?_
     exact ⟨.inr ⟨by omega, _, _, rfl⟩, hf⟩
   ·
    have z62 := m17.size
    have hf := hf.step0 m17
    have h4 := h4.keep m17 id
    refine sM rfl (sv (xex30 rfl) (sv (xex31 rfl) (sv (xex32 rfl) (sA rfl (sA rfl (sA rfl (send (fg [(0, _), (1, _), (4, _), (6, _), (7, _), (8, _), (9, _)] ⟨rfl, rfl, rfl, rfl, rfl, rfl, rfl, ⟨⟩⟩ fun _ => (wp_seq (sreg (sM rfl (sv (xneI if89 rfl) (send (fg [(0, _), (1, _), (4, _), (6, _), (7, _), (8, _), (9, _), (49, _)] ⟨rfl, rfl, rfl, rfl, rfl, rfl, rfl, rfl, ⟨⟩⟩ fun _ => (cyes rfl (sreg (sv (xbuildS [nm [], nm [], [.int .u32 0], [.int .u32 0], [.int .u32 0], [.int .u32 0], [.int .u32 0]] zr198 ly198 rfl trivial (by simp [setAll, zs198])) (sM rfl (sv (xbuildS [[_], [_]] zr168 ly168 rfl (by simp [fitAll, zs168, Value.cells]) rfl) ?_)))))))))))))))))))
    refine svK (xboxS (lens := [1, 1]) rfl (by simp [])) ?_
    rintro _ w65 ⟨b53, rfl, m66, h53, e63, s63⟩
    have hf := hf.step0 m66
    have h4 := h4.keep m66 id
    refine sv (xmkif ni166 rfl) ?_
    refine suK (xstW h4 (lens' := [256, 256, 1, 1, 1, 1, 1]) sz198 (by simp [nm_length]) rfl (by simp only [List.flatten_cons, List.flatten_nil, List.all_append, List.append_nil, nm_one, Bool.true_and] <;> rfl) rfl rfl) ?_
    rintro w68 ⟨m69, h4, s67⟩
    have hf := hf.step m69 (nB (by omega))
    refine sA rfl (send (fg [(4, _), (5, _)] ⟨rfl, rfl, ⟨⟩⟩ fun _ => (wp_ret (rThen ?_))))
    refine rp2 rfl ⟨_, rfl, ldS (lens := [256, 256, 1, 1, 1, 1, 1]) ro198 h4.r⟩ rfl ?_
    exact ⟨.inr ⟨by omega, _, _, rfl⟩, hf⟩
  ·
   have z70 := m14.size
   have hf := hf.step m14 (nB (by omega))
   have h4 := h4.keep m14 (by show ¬ (b4 = b8); omega)
   refine sM rfl (sv (xex20 rfl) (sv (xex21 rfl) (sA rfl (sA rfl (send (fg [(0, _), (1, _), (4, _), (6, _), (7, _), (8, _)] ⟨rfl, rfl, rfl, rfl, rfl, rfl, ⟨⟩⟩ fun _ => (sreg (sM rfl (sv (xneI if89 rfl) (send (fg [(0, _), (1, _), (4, _), (6, _), (7, _), (8, _), (35, _)] ⟨rfl, rfl, rfl, rfl, rfl, rfl, rfl, ⟨⟩⟩ fun _ => (cyes rfl (sreg (sv (xbuildS [nm [], nm [], [.int .u32 0], [.int .u32 0], [.int .u32 0], [.int .u32 0], [.int .u32 0]] zr198 ly198 rfl trivial (by simp [setAll, zs198])) (sM rfl (sv (xbuildS [[_], [_]] zr168 ly168 rfl (by simp [fitAll, zs168, Value.cells]) rfl) ?_))))))))))))))))
   refine svK (xboxS (lens := [1, 1]) rfl (by simp [])) ?_
   rintro _ w72 ⟨b39, rfl, m73, h39, e71, s71⟩
   have hf := hf.step0 m73
   have h4 := h4.keep m73 id
   refine sv (xmkif ni166 rfl) ?_
   refine suK (xstW h4 (lens' := [256, 256, 1, 1, 1, 1, 1]) sz198 (by simp [nm_length]) rfl (by simp only [List.flatten_cons, List.flatten_nil, List.all_append, List.append_nil, nm_one, Bool.true_and] <;> rfl) rfl rfl) ?_
   rintro w75 ⟨m76, h4, s74⟩
   have hf := hf.step m76 (nB (by omega))
   refine sA rfl (send (fg [(4, _), (5, _)] ⟨rfl, rfl, ⟨⟩⟩ fun _ => (wp_ret (rThen ?_))))
   refine rp2 rfl ⟨_, rfl, ldS (lens := [256, 256, 1, 1, 1, 1, 1]) ro198 h4.r⟩ rfl ?_
   exact ⟨.inr ⟨by omega, _, _, rfl⟩, hf⟩
 ·
  have z77 := m8.size
  have hf := hf.step m8 (nB (by omega))
  have h4 := h4.keep m8 (by show ¬ (b4 = b6); omega)
  refine sM rfl (sv (xex20 rfl) (sv (xex21 rfl) (sA rfl (sA rfl (send (fg [(0, _), (1, _), (4, _), (6, _), (7, _)] ⟨rfl, rfl, rfl, rfl, rfl, ⟨⟩⟩ fun _ => (wp_seq (sreg (sM rfl (sv (xneI if89 rfl) (send (fg [(0, _), (1, _), (4, _), (6, _), (7, _), (22, _)] ⟨rfl, rfl, rfl, rfl, rfl, rfl, ⟨⟩⟩ fun _ => (cyes rfl (sreg (sv (xbuildS [nm [], nm [], [.int .u32 0], [.int .u32 0], [.int .u32 0], [.int .u32 0], [.int .u32 0]] zr198 ly198 rfl trivial (by simp [setAll, zs198])) (sM rfl (sv (xbuildS [[_], [_]] zr168 ly168 rfl (by simp [fitAll, zs168, Value.cells]) rfl) ?_)))))))))))))))))
  refine svK (xboxS (lens := [1, 1]) rfl (by simp [])) ?_
  rintro _ w79 ⟨b26, rfl, m80, h26, e78, s78⟩
  have hf := hf.step0 m80
  have h4 := h4.keep m80 id
  refine sv (xmkif ni166 rfl) ?_
  refine suK (xstW h4 (lens' := [256, 256, 1, 1, 1, 1, 1]) sz198 (by simp [nm_length]) rfl (by simp only [List.flatten_cons, List.flatten_nil, List.all_append, List.append_nil, nm_one, Bool.true_and] <;> rfl) rfl rfl) ?_
  rintro w82 ⟨m83, h4, s81⟩
  have hf := hf.step m83 (nB (by omega))
  refine sA rfl (send (fg [(4, _), (5, _)] ⟨rfl, rfl, ⟨⟩⟩ fun _ => (wp_ret (rThen ?_))))
  refine rp2 rfl ⟨_, rfl, ldS (lens := [256, 256, 1, 1, 1, 1, 1]) ro198 h4.r⟩ rfl ?_
  exact ⟨.inr ⟨by omega, _, _, rfl⟩, hf⟩
set_option maxHeartbeats 4000000 in
set_option maxRecDepth 100000 in
theorem c200 {w : World} {a : Option Addr} {bm om km n : Nat} {b : List UInt8} (hms : n ≠ 0 → a = some ⟨bm, om, none⟩) (hm : w.rangeAt bm om (bvs (b.take n))) (hbm : bm < w.heap.size) (hnb : n ≤ b.length) (hkm : n ≤ km) (hbl : b.length < 100000000) (hG : GE w) (hsz : 21 ≤ w.heap.size) {K off e : Nat} {S : List UInt8} {ka : Nat} (la : ka < 65536) (hs : Std b off (be16 ka)) (hN : NameAt b K (off + 2) S e) (hS0 : nameL S) (hK : K ≤ 10) (hKn : K = 0 ∨ n = b.length) :
  Ret PP 200 [.slice a n km, .int .i64 (off : Int)] w (fun u w' => ((e ≤ n ∧ u = .tuple #[ag ([[.int .u16 (ka : Int)], nm S]), .nilIface]) ∨ (n < e ∧ ∃ (T : TypeId) (x : Option Addr), u = .tuple #[ag ([[.int .u16 0], nm []]), .iface T (.pointer x)])) ∧ Fr0 w w') := by
 have hNl := (show NameR b (off + 2) K (off + 2) (txt S) e from hN).le
 have hf : Fr (fun _ => False) w w := Fr.refl _ _
 refine ret_of Tryz.func200 rfl rfl rfl [(0, _), (1, _)] rfl ?_
 refine sreg ?_
 refine svK (xallS (lens := [1, 256]) in204 (by simp [nm_length])) ?_
 rintro _ w2 ⟨b4, rfl, m3, h4, e1, s1⟩
 have hm := rng_fr hm m3 (by omega) id
 have hG := hG.keep (fun k hk => by omega) m3 nF
 have hf := hf.step0 m3
 refine sA rfl (send (fg [(0, _), (1, _), (4, _)] ⟨rfl, rfl, rfl, ⟨⟩⟩ fun _ => (sreg (sM rfl (sM rfl ?_)))))
 refine sc (xcall ca156 rfl) (c156 (b := b) (off := off) (x := ka) hms hm (by omega) hnb hkm hbl hG (by omega) la (hs) (by omega)) ?_
 rintro _ w4 ⟨⟨hle14, rfl⟩ | ⟨hgt14, T14, x14, rfl⟩, m5⟩
 ·
  have z6 := m5.size
  have hm := rng_fr hm m5 (by omega) id
  have hG := hG.keep (fun k hk => by omega) m5 nF
  have hf := hf.step0 m5
  have h4 := h4.keep m5 id
  refine sM rfl (sv (xex30 rfl) (sv (xex31 rfl) (sv (xex32 rfl) (sA rfl (sA rfl (sA rfl (send (fg [(0, _), (1, _), (4, _), (6, _), (7, _)] ⟨rfl, rfl, rfl, rfl, rfl, ⟨⟩⟩ fun _ => (wp_seq (sreg (sM rfl (sv (xneN if89 rfl) (send (fg [(0, _), (1, _), (4, _), (6, _), (7, _), (19, _)] ⟨rfl, rfl, rfl, rfl, rfl, rfl, ⟨⟩⟩ fun _ => (cno rfl (wp_skip (nThen (fg [(0, _), (1, _), (4, _), (6, _)] ⟨rfl, rfl, rfl, rfl, ⟨⟩⟩ fun _ => (sreg ?_)))))))))))))))))))
  refine svK (xallS (lens := [256]) in82 (by simp [nm_length])) ?_
  rintro _ w8 ⟨b8, rfl, m9, h8, e7, s7⟩
  have hm := rng_fr hm m9 (by omega) id
  have hG := hG.keep (fun k hk => by omega) m9 nF
  have hf := hf.step0 m9
  have h4 := h4.keep m9 id
  refine send (fg [(0, _), (1, _), (4, _), (6, _), (8, _)] ⟨rfl, rfl, rfl, rfl, rfl, ⟨⟩⟩ fun _ => (wp_seq (sreg (sM rfl (sM rfl ?_)))))
  refine sc (xcall ca105 rfl) (c105 (b := b) (bp := b8) (q := 0) (ip := 0) (K := K) (off := off + 2) (e := e) (S := S) hms hm (by omega) hnb hkm hbl hG (by omega) h8 (by omega) (by omega) rfl rfl hN hS0 hK hKn) ?_
  rintro _ w10 ⟨⟨hle28, rfl, h8⟩ | ⟨hgt28, ⟨T28, x28, rfl⟩, o28, h8⟩, m11⟩
  ·
   have z12 := m11.size
   have hf := hf.step m11 (nB (by omega))
   have h4 := h4.keep m11 (by show ¬ (b4 = b8); omega)
   have h8 : SB w10 b8 [256] ([nm (S)]) := h8
   refine sM rfl (sv (xex20 rfl) (sv (xex21 rfl) (sA rfl (sA rfl (send (fg [(4, _), (6, _), (8, _), (10, _)] ⟨rfl, rfl, rfl, rfl, ⟨⟩⟩ fun _ => (sreg (sM rfl (sv (xneN if89 rfl) (send (fg [(4, _), (6, _), (8, _), (10, _), (32, _)] ⟨rfl, rfl, rfl, rfl, rfl, ⟨⟩⟩ fun _ => (cno rfl (wp_skip (nThen (fg [(4, _), (6, _), (8, _)] ⟨rfl, rfl, rfl, ⟨⟩⟩ fun _ => (sreg (sM rfl (sv (xldS (lens := [256]) ro82 rfl h8.r) (sv (xbuildS [[.int .u16 (ka : Int)], nm S] zr204 ly204 rfl (by simp [fitAll, zs204, Value.cells, nm_length]) (by simp [setAll, zs204, Value.cells])) ?_)))))))))))))))))))
   refine suK (xstW h4 (lens' := [1, 256]) sz204 (by simp [nm_length]) rfl (by simp only [List.flatten_cons, List.flatten_nil, List.all_append, List.append_nil, nm_one] <;> rfl) rfl rfl) ?_
   rintro w14 ⟨m15, h4, s13⟩
   have hf := hf.step m15 (nB (by omega))
   refine sA rfl (send (fg [(4, _), (5, _)] ⟨rfl, rfl, ⟨⟩⟩ fun _ => (wp_ret ?_)))
   refine rp2 rfl ⟨_, rfl, ldS (lens := [1, 256]) ro204 h4.r⟩ rfl ?_
   exact ⟨.inl ⟨by omega, rfl⟩, hf⟩
  ·
   have z16 := m11.size
   have hf := hf.step m11 (nB (by omega))
   have h4 := h4.keep m11 (by show ¬ (b4 = b8); omega)
   refine sM rfl (sv (xex20 rfl) (sv (xex21 rfl) (sA rfl (sA rfl (send (fg [(4, _), (6, _), (8, _), (10, _)] ⟨rfl, rfl, rfl, rfl, ⟨⟩⟩ fun _ => (sreg (sM rfl (sv (xneI if89 rfl) (send (fg [(4, _), (6, _), (8, _), (10, _), (32, _)] ⟨rfl, rfl, rfl, rfl, rfl, ⟨⟩⟩ fun _ => (cyes rfl (sreg (sv (xbuildS [[.int .u16 0], nm []] zr204 ly204 rfl trivial (by simp [setAll, zs204])) (sM rfl (sv (xbuildS [[_], [_]] zr168 ly168 rfl (by simp [fitAll, zs168, Value.cells]) rfl) ?_))))))))))))))))
   refine svK (xboxS (lens := [1, 1]) rfl (by simp [])) ?_
   rintro _ w18 ⟨b36, rfl, m19, h36, e17, s17⟩
   have hf := hf.step0 m19
   have h4 := h4.keep m19 id
   refine sv (xmkif ni166 rfl) ?_
   refine suK (xstW h4 (lens' := [1, 256]) sz204 (by simp [nm_length]) rfl (by simp only [List.flatten_cons, List.flatten_nil, List.all_append, List.append_nil, nm_one] <;> rfl) rfl rfl) ?_
   rintro w21 ⟨m22, h4, s20⟩
   have hf := hf.step m22 (nB (by omega))
   refine sA rfl (send (fg [(4, _), (5, _)] ⟨rfl, rfl, ⟨⟩⟩ fun _ => (wp_ret (rThen ?_))))
   refine rp2 rfl ⟨_, rfl, ldS (lens := [1, 256]) ro204 h4.r⟩ rfl ?_
   exact ⟨.inr ⟨by omega, _, _, rfl⟩, hf⟩
 ·
  have z23 := m5.size
  have hf := hf.step0 m5
  have h4 := h4.keep m5 id
  refine sM rfl (sv (xex30 rfl) (sv (xex31 rfl) (sv (xex32 rfl) (sA rfl (sA rfl (sA rfl (send (fg [(0, _), (1, _), (4, _), (6, _), (7, _)] ⟨rfl, rfl, rfl, rfl, rfl, ⟨⟩⟩ fun _ => (wp_seq (sreg (sM rfl (sv (xneI if89 rfl) (send (fg [(0, _), (1, _), (4, _), (6, _), (7, _), (19, _)] ⟨rfl, rfl, rfl, rfl, rfl, rfl, ⟨⟩⟩ fun _ => (cyes rfl (sreg (sv (xbuildS [[.int .u16 0], nm []] zr204 ly204 rfl trivial (by simp [setAll, zs204])) (sM rfl (sv (xbuildS [[_], [_]] zr168 ly168 rfl (by simp [fitAll, zs168, Value.cells]) rfl) ?_)))))))))))))))))))
  refine svK (xboxS (lens := [1, 1]) rfl (by simp [])) ?_
  rintro _ w25 ⟨b23, rfl, m26, h23, e24, s24⟩
  have hf := hf.step0 m26
  have h4 := h4.keep m26 id
  refine sv (xmkif ni166 rfl) ?_
  refine suK (xstW h4 (lens' := [1, 256]) sz204 (by simp [nm_length]) rfl (by simp only [List.flatten_cons, List.flatten_nil, List.all_append, List.append_nil, nm_one] <;> rfl) rfl rfl) ?_
  rintro w28 ⟨m29, h4, s27⟩
  have hf := hf.step m29 (nB (by omega))
  refine sA rfl (send (fg [(4, _), (5, _)] ⟨rfl, rfl, ⟨⟩⟩ fun _ => (wp_ret (rThen ?_))))
  refine rp2 rfl ⟨_, rfl, ldS (lens := [1, 256]) ro204 h4.r⟩ rfl ?_
  exact ⟨.inr ⟨by omega, _, _, rfl⟩, hf⟩
set_option maxHeartbeats 4000000 in
set_option maxRecDepth 100000 in
theorem c203 {w : World} {a : Option Addr} {bm om km n : Nat} {b : List UInt8} (hms : n ≠ 0 → a = some ⟨bm, om, none⟩) (hm : w.rangeAt bm om (bvs (b.take n))) (hbm : bm < w.heap.size) (hnb : n ≤ b.length) (hkm : n ≤ km) (hbl : b.length < 100000000) (hG : GE w) (hsz : 21 ≤ w.heap.size) {K off e : Nat} {S : List UInt8} {ka kb kc : Nat} (la : ka < 65536) (lb : kb < 65536) (lc : kc < 65536) (hs : Std b off (be16 ka ++ (be16 kb ++ be16 kc))) (hN : NameAt b K (off + 2 + 2 + 2) S e) (hS0 : nameL S) (hK : K ≤ 10) (hKn : K = 0 ∨ n = b.length) :
  Ret PP 203 [.slice a n km, .int .i64 (off : Int)] w (fun u w' => ((e ≤ n ∧ u = .tuple #[ag ([[.int .u16 (ka : Int)], [.int .u16 (kb : Int)], [.int .u16 (kc : Int)], nm S]), .nilIface]) ∨ (n < e ∧ ∃ (T : TypeId) (x : Option Addr), u = .tuple #[ag ([[.int .u16 0], [.int .u16 0], [.int .u16 0], nm []]), .iface T (.pointer x)])) ∧ Fr0 w w') := by
 have hNl := (show NameR b (off + 2 + 2 + 2) K (off + 2 + 2 + 2) (txt S) e from hN).le
 have hf : Fr (fun _ => False) w w := Fr.refl _ _
 refine ret_of Tryz.func203 rfl rfl rfl [(0, _), (1, _)] rfl ?_
 refine sreg ?_
 refine svK (xallS (lens := [1, 1, 1, 256]) in214 (by simp [nm_length])) ?_
 rintro _ w2 ⟨b4, rfl, m3, h4, e1, s1⟩
 have hm := rng_fr hm m3 (by omega) id
 have hG := hG.keep (fun k hk => by omega) m3 nF
 have hf := hf.step0 m3
 refine sA rfl (send (fg [(0, _), (1, _), (4, _)] ⟨rfl, rfl, rfl, ⟨⟩⟩ fun _ => (sreg (sM rfl (sM rfl ?_)))))
 refine sc (xcall ca156 rfl) (c156 (b := b) (off := off) (x := ka) hms hm (by omega) hnb hkm hbl hG (by omega) la (hs.left) (by omega)) ?_
 rintro _ w4 ⟨⟨hle16, rfl⟩ | ⟨hgt16, T16, x16, rfl⟩, m5⟩
 ·
  have z6 := m5.size
  have hm := rng_fr hm m5 (by omega) id
  have hG := hG.keep (fun k hk => by omega) m5 nF
  have hf := hf.step0 m5
  have h4 := h4.keep m5 id
  refine sM rfl (sv (xex30 rfl) (sv (xex31 rfl) (sv (xex32 rfl) (sA rfl (sA rfl (sA rfl (send (fg [(0, _), (1, _), (4, _), (6, _), (7, _)] ⟨rfl, rfl, rfl, rfl, rfl, ⟨⟩⟩ fun _ => (wp_seq (sreg (sM rfl (sv (xneN if89 rfl) (send (fg [(0, _), (1, _), (4, _), (6, _), (7, _), (21, _)] ⟨rfl, rfl, rfl, rfl, rfl, rfl, ⟨⟩⟩ fun _ => (cno rfl (wp_skip (nThen (fg [(0, _), (1, _), (4, _), (6, _)] ⟨rfl, rfl, rfl, rfl, ⟨⟩⟩ fun _ => (sreg (sM rfl (sM rfl ?_)))))))))))))))))))))
  refine sc (xcall ca156 rfl) (c156 (b := b) (off := off + 2) (x := kb) hms hm (by omega) hnb hkm hbl hG (by omega) lb ((hs.right' rfl).left) (by omega)) ?_
  rintro _ w7 ⟨⟨hle30, rfl⟩ | ⟨hgt30, T30, x30, rfl⟩, m8⟩
  ·
   have z9 := m8.size
   have hm := rng_fr hm m8 (by omega) id
   have hG := hG.keep (fun k hk => by omega) m8 nF
   have hf := hf.step0 m8
   have h4 := h4.keep m8 id
   refine sM rfl (sv (xex30 rfl) (sv (xex31 rfl) (sv (xex32 rfl) (sA rfl (sA rfl (sA rfl (send (fg [(0, _), (1, _), (4, _), (6, _), (7, _), (8, _)] ⟨rfl, rfl, rfl, rfl, rfl, rfl, ⟨⟩⟩ fun _ => (wp_seq (sreg (sM rfl (sv (xneN if89 rfl) (send (fg [(0, _), (1, _), (4, _), (6, _), (7, _), (8, _), (35, _)] ⟨rfl, rfl, rfl, rfl, rfl, rfl, rfl, ⟨⟩⟩ fun _ => (cno rfl (wp_skip (nThen (fg [(0, _), (1, _), (4, _), (6, _), (8, _)] ⟨rfl, rfl, rfl, rfl, rfl, ⟨⟩⟩ fun _ => (sreg (sM rfl (sM rfl ?_)))))))))))))))))))))
   refine sc (xcall ca156 rfl) (c156 (b := b) (off := off + 2 + 2) (x := kc) hms hm (by omega) hnb hkm hbl hG (by omega) lc ((hs.right' rfl).right' rfl) (by omega)) ?_
   rintro _ w10 ⟨⟨hle44, rfl⟩ | ⟨hgt44, T44, x44, rfl⟩, m11⟩
   ·
    have z12 := m11.size
    have hm := rng_fr hm m11 (by omega) id
    have hG := hG.keep (fun k hk => by omega) m11 nF
    have hf := hf.step0 m11
    have h4 := h4.keep m11 id
    refine sM rfl (sv (xex30 rfl) (sv (xex31 rfl) (sv (xex32 rfl) (sA rfl (sA rfl (sA rfl (send (fg [(0, _), (1, _), (4, _), (6, _), (7, _), (8, _), (9, _)] ⟨rfl, rfl, rfl, rfl, rfl, rfl, rfl, ⟨⟩⟩ fun _ => (wp_seq (sreg (sM rfl (sv (xneN if89 rfl) (send (fg [(0, _), (1, _), (4, _), (6, _), (7, _), (8, _), (9, _), (49, _)] ⟨rfl, rfl, rfl, rfl, rfl, rfl, rfl, rfl, ⟨⟩⟩ fun _ => (cno rfl (wp_skip (nThen (fg [(0, _), (1, _), (4, _), (6, _), (8, _), (9, _)] ⟨rfl, rfl, rfl, rfl, rfl, rfl, ⟨⟩⟩ fun _ => (sreg ?_)))))))))))))))))))
    refine svK (xallS (lens := [256]) in82 (by simp [nm_length])) ?_
    rintro _ w14 ⟨b10, rfl, m15, h10, e13, s13⟩
    have hm := rng_fr hm m15 (by omega) id
    have hG := hG.keep (fun k hk => by omega) m15 nF
    have hf := hf.step0 m15
    have h4 := h4.keep m15 id
    refine send (fg [(0, _), (1, _), (4, _), (6, _), (8, _), (9, _), (10, _)] ⟨rfl, rfl, rfl, rfl, rfl, rfl, rfl, ⟨⟩⟩ fun _ => (wp_seq (sreg (sM rfl (sM rfl ?_)))))
    refine sc (xcall ca105 rfl) (c105 (b := b) (bp := b10) (q := 0) (ip := 0) (K := K) (off := off + 2 + 2 + 2) (e := e) (S := S) hms hm (by omega) hnb hkm hbl hG (by omega) h10 (by omega) (by omega) rfl rfl hN hS0 hK hKn) ?_
    rintro _ w16 ⟨⟨hle58, rfl, h10⟩ | ⟨hgt58, ⟨T58, x58, rfl⟩, o58, h10⟩, m17⟩
    ·
     have z18 := m17.size
     have hf := hf.step m17 (nB (by omega))
     have h4 := h4.keep m17 (by show ¬ (b4 = b10); omega)
     have h10 : SB w16 b10 [256] ([nm (S)]) := h10
     refine sM rfl (sv (xex20 rfl) (sv (xex21 rfl) (sA rfl (sA rfl (send (fg [(4, _), (6, _), (8, _), (9, _), (10, _), (12, _)] ⟨rfl, rfl, rfl, rfl, rfl, rfl, ⟨⟩⟩ fun _ => (sreg (sM rfl (sv (xneN if89 rfl) (send (fg [(4, _), (6, _), (8, _), (9, _), (10, _), (12, _), (62, _)] ⟨rfl, rfl, rfl, rfl, rfl, rfl, rfl, ⟨⟩⟩ fun _ => (cno rfl (wp_skip (nThen (fg [(4, _), (6, _), (8, _), (9, _), (10, _)] ⟨rfl, rfl, rfl, rfl, rfl, ⟨⟩⟩ fun _ => (sreg (sM rfl (sM rfl (sM rfl (sv (xldS (lens := [256]) ro82 rfl h10.r) (sv (xbuildS [[.int .u16 (ka : Int)], [.int .u16 (kb : Int)], [.int .u16 (kc : Int)], nm S] zr214 ly214 rfl (by simp [fitAll, zs214, Value.cells, nm_length]) (by simp [setAll, zs214, Value.cells])) ?_)))))))))))))))))))))
     refine suK (xstW h4 (lens' := [1, 1, 1, 256]) sz214 (by simp [nm_length]) rfl (by simp only [List.flatten_cons, List.flatten_nil, List.all_append, List.append_nil, nm_one] <;> rfl) rfl rfl) ?_
     rintro w20 ⟨m21, h4, s19⟩
     have hf := hf.step m21 (nB (by omega))
     refine sA rfl (send (fg [(4, _), (5, _)] ⟨rfl, rfl, ⟨⟩⟩ fun _ => (wp_ret ?_)))
     refine rp2 rfl ⟨_, rfl, ldS (lens := [1, 1, 1, 256]) ro214 h4.r⟩ rfl ?_
     exact ⟨.inl ⟨by omega, rfl⟩, hf⟩
    ·
     have z22 := m17.size
     have hf := hf.step m17 (nB (by omega))
     have h4 := h4.keep m17 (by show ¬ (b4 = b10); omega)
     refine sM rfl (sv (xex20 rfl) (sv (xex21 rfl) (sA rfl (sA rfl (send (fg [(4, _), (6, _), (8, _), (9, _), (10, _), (12, _)] ⟨rfl, rfl, rfl, rfl, rfl, rfl, ⟨⟩⟩ fun _ => (sreg (sM rfl (sv (xneI if89 rfl) (send (fg [(4, _), (6, _), (8, _), (9, _), (10, _), (12, _), (62, _)] ⟨rfl, rfl, rfl, rfl, rfl, rfl, rfl, ⟨⟩⟩ fun _ => (cyes rfl (sreg (sv (xbuildS [[.int .u16 0], [.int .u16 0], [.int .u16 0], nm []] zr214 ly214 rfl trivial (by simp [setAll, zs214])) (sM rfl (sv (xbuildS [[_], [_]] zr168 ly168 rfl (by simp [fitAll, zs168, Value.cells]) rfl) ?_))))))))))))))))
     refine svK (xboxS (lens := [1, 1]) rfl (by simp [])) ?_
     rintro _ w24 ⟨b66, rfl, m25, h66, e23, s23⟩
     have hf := hf.step0 m25
     have h4 := h4.keep m25 id
     refine sv (xmkif ni166 rfl) ?_
     refine suK (xstW h4 (lens' := [1, 1, 1, 256]) sz214 (by simp [nm_length]) rfl (by simp only [List.flatten_cons, List.flatten_nil, List.all_append, List.append_nil, nm_one] <;> rfl) rfl rfl) ?_
     rintro w27 ⟨m28, h4, s26⟩
     have hf := hf.step m28 (nB (by omega))
     refine sA rfl (send (fg [(4, _), (5, _)] ⟨rfl, rfl, ⟨⟩⟩ fun _ => (wp_ret (rThen ?_))))
     refine rp2 rfl ⟨_, rfl, ldS (lens := [1, 1, 1, 256]) ro214 h4.r⟩ rfl ?_
     exact ⟨.inr ⟨by omega, _, _, rfl⟩, hf⟩
   ·
    have z29 := m11.size
    have hf := hf.step0 m11
    have h4 := h4.keep m11 id
    refine sM rfl (sv (xex30 rfl) (sv (xex31 rfl) (sv (xex32 rfl) (sA rfl (sA rfl (sA rfl (send (fg [(0, _), (1, _), (4, _), (6, _), (7, _), (8, _), (9, _)] ⟨rfl, rfl, rfl, rfl, rfl, rfl, rfl, ⟨⟩⟩ fun _ => (wp_seq (sreg (sM rfl (sv (xneI if89 rfl) (send (fg [(0, _), (1, _), (4, _), (6, _), (7, _), (8, _), (9, _), (49, _)] ⟨rfl, rfl, rfl, rfl, rfl, rfl, rfl, rfl, ⟨⟩⟩ fun _ => (cyes rfl (sreg (sv (xbuildS [[.int .u16 0], [.int .u16 0], [.int .u16 0], nm []] zr214 ly214 rfl trivial (by simp [setAll, zs214])) (sM rfl (sv (xbuildS [[_], [_]] zr168 ly168 rfl (by simp [fitAll, zs168, Value.cells]) rfl) ?_)))))))))))))))))))
    refine svK (xboxS (lens := [1, 1]) rfl (by simp [])) ?_
    rintro _ w31 ⟨b53, rfl, m32, h53, e30, s30⟩
    have hf := hf.step0 m32
    have h4 := h4.keep m32 id
    refine sv (xmkif ni166 rfl) ?_
    refine suK (xstW h4 (lens' := [1, 1, 1, 256]) sz214 (by simp [nm_length]) rfl (by simp only [List.flatten_cons, List.flatten_nil, List.all_append, List.append_nil, nm_one] <;> rfl) rfl rfl) ?_
    rintro w34 ⟨m35, h4, s33⟩
    have hf := hf.step m35 (nB (by omega))
    refine sA rfl (send (fg [(4, _), (5, _)] ⟨rfl, rfl, ⟨⟩⟩ fun _ => (wp_ret (rThen ?_))))
    refine rp2 rfl ⟨_, rfl, ldS (lens := [1, 1, 1, 256]) ro214 h4.r⟩ rfl ?_
    exact ⟨.inr ⟨by omega, _, _, rfl⟩, hf⟩
  ·
   have z36 := m8.size
   have hf := hf.step0 m8
   have h4 := h4.keep m8 id
   refine sM rfl (sv (xex30 rfl) (sv (xex31 rfl) (sv (xex32 rfl) (sA rfl (sA rfl (sA rfl (send (fg [(0, _), (1, _), (4, _), (6, _), (7, _), (8, _)] ⟨rfl, rfl, rfl, rfl, rfl, rfl, ⟨⟩⟩ fun _ => (wp_seq (sreg (sM rfl (sv (xneI if89 rfl) (send (fg [(0, _), (1, _), (4, _), (6, _), (7, _), (8, _), (35, _)] ⟨rfl, rfl, rfl, rfl, rfl, rfl, rfl, ⟨⟩⟩ fun _ => (cyes rfl (sreg (sv (xbuildS [[.int .u16 0], [.int .u16 0], [.int .u16 0], nm []] zr214 ly214 rfl trivial (by simp [setAll, zs214])) (sM rfl (sv (xbuildS [[_], [_]] zr168 ly168 rfl (by simp [fitAll, zs168, Value.cells]) rfl) ?_)))))))))))))))))))
   refine svK (xboxS (lens := [1, 1]) rfl (by simp [])) ?_
   rintro _ w38 ⟨b39, rfl, m39, h39, e37, s37⟩
   have hf := hf.step0 m39
   have h4 := h4.keep m39 id
   refine sv (xmkif ni166 rfl) ?_
   refine suK (xstW h4 (lens' := [1, 1, 1, 256]) sz214 (by simp [nm_length]) rfl (by simp only [List.flatten_cons, List.flatten_nil, List.all_append, List.append_nil, nm_one] <;> rfl) rfl rfl) ?_
   rintro w41 ⟨m42, h4, s40⟩
   have hf := hf.step m42 (nB (by omega))
   refine sA rfl (send (fg [(4, _), (5, _)] ⟨rfl, rfl, ⟨⟩⟩ fun _ => (wp_ret (rThen ?_))))
   refine rp2 rfl ⟨_, rfl, ldS (lens := [1, 1, 1, 256]) ro214 h4.r⟩ rfl ?_
   exact ⟨.inr ⟨by omega, _, _, rfl⟩, hf⟩
 ·
  have z43 := m5.size
  have hf := hf.step0 m5
  have h4 := h4.keep m5 id
  refine sM rfl (sv (xex30 rfl) (sv (xex31 rfl) (sv (xex32 rfl) (sA rfl (sA rfl (sA rfl (send (fg [(0, _), (1, _), (4, _), (6, _), (7, _)] ⟨rfl, rfl, rfl, rfl, rfl, ⟨⟩⟩ fun _ => (wp_seq (sreg (sM rfl (sv (xneI if89 rfl) (send (fg [(0, _), (1, _), (4, _), (6, _), (7, _), (21, _)] ⟨rfl, rfl, rfl, rfl, rfl, rfl, ⟨⟩⟩ fun _ => (cyes rfl (sreg (sv (xbuildS [[.int .u16 0], [.int .u16 0], [.int .u16 0], nm []] zr214 ly214 rfl trivial (by simp [setAll, zs214])) (sM rfl (sv (xbuildS [[_], [_]] zr168 ly168 rfl (by simp [fitAll, zs168, Value.cells]) rfl) ?_)))))))))))))))))))
  refine svK (xboxS (lens := [1, 1]) rfl (by simp [])) ?_
  rintro _ w45 ⟨b25, rfl, m46, h25, e44, s44⟩
  have hf := hf.step0 m46
  have h4 := h4.keep m46 id
  refine sv (xmkif ni166 rfl) ?_
  refine suK (xstW h4 (lens' := [1, 1, 1, 256]) sz214 (by simp [nm_length]) rfl (by simp only [List.flatten_cons, List.flatten_nil, List.all_append, List.append_nil, nm_one] <;> rfl) rfl rfl) ?_
  rintro w48 ⟨m49, h4, s47⟩
  have hf := hf.step m49 (nB (by omega))
  refine sA rfl (send (fg [(4, _), (5, _)] ⟨rfl, rfl, ⟨⟩⟩ fun _ => (wp_ret (rThen ?_))))
  refine rp2 rfl ⟨_, rfl, ldS (lens := [1, 1, 1, 256]) ro214 h4.r⟩ rfl ?_
  exact ⟨.inr ⟨by omega, _, _, rfl⟩, hf⟩
end Go.Proofs.YtifnodoffgfpbaaGreatDoor

namespace Go.Proofs.YtifnodoffgfpbaaGreatDoor
open Go

/-- how many of section q the header tells -/
def cntI (q y2 y3 y4 y5 : Int) : Int := if q = 2 then y2 else if q = 3 then y3 else if q = 4 then y4 else if q = 5 then y5 else 0

set_option maxHeartbeats 4000000 in
set_option maxRecDepth 100000 in
theorem c157 {w : World} {bp : Nat} {vm : Value} {y0 y1 y2 y3 y4 y5 sec po idx ho ty ln : Int} {val : Bool} {q : Int} (hP : SB w bp lPr (prSegs vm y0 y1 y2 y3 y4 y5 sec po idx val ho ty ln))  :
  Ret PP 157 [.pointer (some ⟨bp, 0 + 1, none⟩), .int .u8 q] w (fun u w' => u = .int .u16 (cntI q y2 y3 y4 y5) ∧ Fr0 w w') := by
 have hf : Fr (fun _ => False) w w := Fr.refl _ _
 have z_hP := hP.lt
 refine ret_of Tryz.func157 rfl rfl rfl [(0, _), (1, _)] rfl ?_
 refine sreg (sA rfl (send (fg [(0, _), (1, _)] ⟨rfl, rfl, ⟨⟩⟩ fun _ => (wp_seq (sreg (sM rfl (send (fg [(0, _), (5, _)] ⟨rfl, rfl, ⟨⟩⟩ fun _ => (wp_block (sreg ?_))))))))))
 refine svP (xeql rfl rfl) (fun hc7 => ?_) (fun hc7 => ?_)
 ·
  refine sA rfl (send (fg [(0, _), (5, _), (6, _)] ⟨rfl, rfl, rfl, ⟨⟩⟩ fun _ => (cyes rfl (sreg (sM rfl (sN rfl (sv (xfld fl121_2 rfl) (sv (xld on22 rfl (hP.r.c 3 rfl rfl)) (sA rfl (send (fg [(4, _)] ⟨rfl, ⟨⟩⟩ fun _ => (wp_ret (rBlock (rThen ?_))))))))))))))
  refine rp1 rfl rfl ?_
  exact ⟨by rw [cntI, if_pos hc7], hf⟩
 ·
  refine sA rfl (send (fg [(0, _), (5, _), (6, _)] ⟨rfl, rfl, rfl, ⟨⟩⟩ fun _ => (cno rfl (sreg ?_))))
  refine svP (xeql rfl rfl) (fun hc13 => ?_) (fun hc13 => ?_)
  ·
   refine sA rfl (send (fg [(0, _), (5, _), (12, _)] ⟨rfl, rfl, rfl, ⟨⟩⟩ fun _ => (cyes rfl (sreg (sM rfl (sN rfl (sv (xfld fl121_3 rfl) (sv (xld on22 rfl (hP.r.c 4 rfl rfl)) (sA rfl (send (fg [(4, _)] ⟨rfl, ⟨⟩⟩ fun _ => (wp_ret (rBlock (rThen ?_))))))))))))))
   refine rp1 rfl rfl ?_
   exact ⟨by rw [cntI, if_neg hc7, if_pos hc13], hf⟩
  ·
   refine sA rfl (send (fg [(0, _), (5, _), (12, _)] ⟨rfl, rfl, rfl, ⟨⟩⟩ fun _ => (cno rfl (sreg ?_))))
   refine svP (xeql rfl rfl) (fun hc19 => ?_) (fun hc19 => ?_)
   ·
    refine sA rfl (send (fg [(0, _), (5, _), (18, _)] ⟨rfl, rfl, rfl, ⟨⟩⟩ fun _ => (cyes rfl (sreg (sM rfl (sN rfl (sv (xfld fl121_4 rfl) (sv (xld on22 rfl (hP.r.c 5 rfl rfl)) (sA rfl (send (fg [(4, _)] ⟨rfl, ⟨⟩⟩ fun _ => (wp_ret (rBlock (rThen ?_))))))))))))))
    refine rp1 rfl rfl ?_
    exact ⟨by rw [cntI, if_neg hc7, if_neg hc13, if_pos hc19], hf⟩
   ·
    refine sA rfl (send (fg [(0, _), (5, _), (18, _)] ⟨rfl, rfl, rfl, ⟨⟩⟩ fun _ => (cno rfl (sreg ?_))))
    refine svP (xeql rfl rfl) (fun hc25 => ?_) (fun hc25 => ?_)
    ·
     refine sA rfl (send (fg [(0, _), (24, _)] ⟨rfl, rfl, ⟨⟩⟩ fun _ => (cyes rfl (sreg (sM rfl (sN rfl (sv (xfld fl121_5 rfl) (sv (xld on22 rfl (hP.r.c 6 rfl rfl)) (sA rfl (send (fg [(4, _)] ⟨rfl, ⟨⟩⟩ fun _ => (wp_ret (rBlock (rThen ?_))))))))))))))
     refine rp1 rfl rfl ?_
     exact ⟨by rw [cntI, if_neg hc7, if_neg hc13, if_neg hc19, if_pos hc25], hf⟩
    ·
     refine sA rfl (send (fg [(0, _), (24, _)] ⟨rfl, rfl, ⟨⟩⟩ fun _ => (cno rfl (wp_skip (nBlock (nThen (fg [] trivial fun _ => (sreg (sA rfl (send (fg [(4, _)] ⟨rfl, ⟨⟩⟩ fun _ => (wp_ret ?_))))))))))))
     refine rp1 rfl rfl ?_
     exact ⟨by rw [cntI, if_neg hc7, if_neg hc13, if_neg hc19, if_neg hc25], hf⟩
set_option maxHeartbeats 4000000 in
set_option maxRecDepth 100000 in
theorem c104 {w : World} {bp : Nat} {vm : Value} {y0 y1 y2 y3 y4 y5 sec po idx ho ty ln : Int} {val : Bool} {q : Int} (hP : SB w bp lPr (prSegs vm y0 y1 y2 y3 y4 y5 sec po idx val ho ty ln)) {Tz : TypeId} {xz : Option Addr} (hg0 : w.rangeAt 0 0 [.iface Tz (.pointer xz)]) (hG : GE w) (hsz : 21 ≤ w.heap.size) (hgp : 20 < bp) (hs0 : 0 ≤ sec) (hs1 : sec ≤ 6) (hq0 : 0 ≤ cntI q y2 y3 y4 y5) (hq1 : cntI q y2 y3 y4 y5 < 65536) :
  Ret PP 104 [.pointer (some ⟨bp, 0, none⟩), .int .u8 q] w (fun u w' => ((sec < q ∧ (∃ (T : TypeId) (x : Option Addr), u = .iface T (.pointer x)) ∧ SB w' bp lPr (prSegs vm y0 y1 y2 y3 y4 y5 sec po idx val ho ty ln)) ∨ (q < sec ∧ u = .iface Tz (.pointer xz) ∧ SB w' bp lPr (prSegs vm y0 y1 y2 y3 y4 y5 sec po idx val ho ty ln)) ∨ (sec = q ∧ idx = cntI q y2 y3 y4 y5 ∧ u = .iface Tz (.pointer xz) ∧ SB w' bp lPr (prSegs vm y0 y1 y2 y3 y4 y5 (sec + 1) po 0 false ho ty ln)) ∨ (sec = q ∧ idx ≠ cntI q y2 y3 y4 y5 ∧ u = .nilIface ∧ SB w' bp lPr (prSegs vm y0 y1 y2 y3 y4 y5 sec po idx false ho ty ln))) ∧ Fr (fun k => k = bp) w w') := by
 have hf : Fr (fun k => k = bp) w w := Fr.refl _ _
 have z_hP := hP.lt
 refine ret_of Tryz.func104 rfl rfl rfl [(0, _), (1, _)] rfl ?_
 refine sreg (sA rfl (send (fg [(0, _), (1, _)] ⟨rfl, rfl, ⟨⟩⟩ fun _ => (wp_seq (sreg (sM rfl (sN rfl (sv (xfld fl124_2 rfl) (sv (xld on122 rfl (hP.r.c 7 rfl rfl)) (sM rfl ?_))))))))))
 refine svP (xlss rfl rfl) (fun hc10 => ?_) (fun hc10 => ?_)
 ·
  refine send (fg [(0, _), (1, _), (10, _)] ⟨rfl, rfl, rfl, ⟨⟩⟩ fun _ => (cyes rfl (sreg ?_)))
  obtain ⟨Tg11, xg11, eg11, hgc11, hgn11, hge11⟩ := hG.get 5 (by omega) (by omega)
  refine sv (xld on89 rfl hgc11) (sA rfl (send (fg [(4, _)] ⟨rfl, ⟨⟩⟩ fun _ => (wp_ret (rThen ?_)))))
  refine rp1 rfl rfl ?_
  exact ⟨.inl ⟨by omega, ⟨_, _, rfl⟩, hP⟩, hf⟩
 ·
  refine send (fg [(0, _), (1, _), (10, _)] ⟨rfl, rfl, rfl, ⟨⟩⟩ fun _ => (cno rfl (wp_skip (nThen (fg [(0, _), (1, _)] ⟨rfl, rfl, ⟨⟩⟩ fun _ => (wp_seq (sreg (sM rfl (sN rfl (sv (xfld fl124_2 rfl) (sv (xld on122 rfl (hP.r.c 7 rfl rfl)) (sM rfl ?_))))))))))))
  refine svP (xgtr rfl rfl) (fun hc17 => ?_) (fun hc17 => ?_)
  ·
   refine send (fg [(0, _), (1, _), (17, _)] ⟨rfl, rfl, rfl, ⟨⟩⟩ fun _ => (cyes rfl (sreg (sv (xld on89 rfl (hg0 0 _ rfl)) (sA rfl (send (fg [(4, _)] ⟨rfl, ⟨⟩⟩ fun _ => (wp_ret (rThen ?_)))))))))
   refine rp1 rfl rfl ?_
   exact ⟨.inr (.inl ⟨by omega, rfl, hP⟩), hf⟩
  ·
   refine send (fg [(0, _), (1, _), (17, _)] ⟨rfl, rfl, rfl, ⟨⟩⟩ fun _ => (cno rfl (wp_skip (nThen (fg [(0, _), (1, _)] ⟨rfl, rfl, ⟨⟩⟩ fun _ => (sreg (sM rfl (sN rfl (sv (xfld fl124_5 rfl) ?_)))))))))
   refine suK (xstF 10 sz4 hP rfl rfl rfl rfl rfl) ?_
   rintro w2 ⟨m3, hP, s1⟩
   have hg0 := rng_fr hg0 m3 (by omega) (by show ¬ (0 = bp); omega)
   have hf := hf.step m3 (fun k hk hS => by have hS : k = bp := hS; show k = bp; omega)
   refine send (fg [(0, _), (1, _)] ⟨rfl, rfl, ⟨⟩⟩ fun _ => (wp_seq ?_))
   refine sdrawH (Fr (fun _ => False) w2.drew) [(0, .rd), (1, .rd), (2, .rd), (3, .rd), (4, .rd), (5, .rd), (6, .rd), (7, .rd), (8, .ld), (9, .rd), (10, .rd)] mixed (by kernel_rfl) (fun _ _ _ _ _ h => h) ?_
   have z4 : w2.drew.heap.size = w2.heap.size := rfl
   have hP := hP.drew
   have hg0 := rng_fr hg0 (fd w2) (by omega) id
   have hf := hf.drew
   have zb_hP := hP
   have hS5 : Fr (fun _ => False) w2.drew w2.drew := Fr.refl _ _
   refine qqM rfl rfl hS5 (qqN rfl rfl hS5 (hvH rfl (fun _ _ => xfld fl124_4 rfl) hS5 (hvH rfl (fun w' hS => xld on3 rfl ((zb_hP.keep hS id).r.c 9 rfl rfl)) hS5 (qqM rfl rfl hS5 (qqN rfl rfl hS5 (hvH rfl (fun _ _ => xfld fl124_1 rfl) hS5 (qqM rfl rfl hS5 ?_)))))))
   refine hcH rfl (xcall ca157 rfl) (c157 (q := q) hP) ?_
   rintro _ w6 ⟨rfl, m7⟩
   have z8 := m7.size
   have hP := hP.keep m7 id
   have hg0 := rng_fr hg0 m7 (by omega) id
   have hf := hf.step0 m7
   have hS9 := hS5.step0 m7
   refine ⟨hS9, ?_⟩
   refine hvH rfl (fun _ _ => xconv hs22 ki3 rfl (w64 (by omega) (by omega))) hS9 ?_
   refine hvPH rfl (fun _ _ => xeql rfl rfl) hS9 (fun hc32 => ?_) (fun hc32 => ?_)
   ·
    refine hendH (fg [(0, _), (32, _)] ⟨rfl, rfl, ⟨⟩⟩ fun _ => (cyes rfl (sreg (sM rfl (sN rfl (sv (xfld fl124_4 rfl) ?_))))))
    refine suK (xstF 9 sz3 hP rfl rfl rfl rfl rfl) ?_
    rintro w11 ⟨m12, hP, s10⟩
    have hg0 := rng_fr hg0 m12 (by omega) (by show ¬ (0 = bp); omega)
    have hf := hf.step m12 (fun k hk hS => by have hS : k = bp := hS; show k = bp; omega)
    refine send (fg [(0, _)] ⟨rfl, ⟨⟩⟩ fun _ => (sreg (sM rfl (sN rfl (sv (xfld fl124_2 rfl) (sv (xld on122 rfl (hP.r.c 7 rfl rfl)) (sv (xadd rfl rfl (wu8 (by omega) (by omega))) (sN rfl (sv (xfld fl124_2 rfl) ?_)))))))))
    refine suK (xstF 7 sz122 hP rfl rfl rfl rfl rfl) ?_
    rintro w14 ⟨m15, hP, s13⟩
    have hg0 := rng_fr hg0 m15 (by omega) (by show ¬ (0 = bp); omega)
    have hf := hf.step m15 (fun k hk hS => by have hS : k = bp := hS; show k = bp; omega)
    refine send (fg [] trivial fun _ => (sreg (sv (xld on89 rfl (hg0 0 _ rfl)) (sA rfl (send (fg [(4, _)] ⟨rfl, ⟨⟩⟩ fun _ => (wp_ret (rThen ?_))))))))
    refine rp1 rfl rfl ?_
    exact ⟨.inr (.inr (.inl ⟨by omega, hc32, rfl, hP⟩)), hf⟩
   ·
    refine hendH (fg [(0, _), (32, _)] ⟨rfl, rfl, ⟨⟩⟩ fun _ => (cno rfl (wp_skip (nThen (fg [] trivial fun _ => (sreg (sA rfl (send (fg [(4, _)] ⟨rfl, ⟨⟩⟩ fun _ => (wp_ret ?_))))))))))
    refine rp1 rfl rfl ?_
    exact ⟨.inr (.inr (.inr ⟨by omega, hc32, rfl, hP⟩)), hf⟩
end Go.Proofs.YtifnodoffgfpbaaGreatDoor

namespace Go.Proofs.YtifnodoffgfpbaaGreatDoor
open Go

set_option maxHeartbeats 4000000 in
set_option maxRecDepth 100000 in
theorem c158d {w : World} {bp : Nat} {vm : Value} {y0 y1 y2 y3 y4 y5 _sec po idx ho ty ln : Int} {_val : Bool} {q : Int} (hP : SB w bp lPr (prSegs vm y0 y1 y2 y3 y4 y5 q po idx false ho ty ln)) {Tz : TypeId} {xz : Option Addr} (hg0 : w.rangeAt 0 0 [.iface Tz (.pointer xz)]) (hG : GE w) (hsz : 21 ≤ w.heap.size) (hgp : 20 < bp) (hs0 : 0 ≤ q) (hs1 : q ≤ 6) (hq0 : 0 ≤ cntI q y2 y3 y4 y5) (hq1 : cntI q y2 y3 y4 y5 < 65536) (hie : idx = cntI q y2 y3 y4 y5)  :
  Ret PP 158 [.pointer (some ⟨bp, 0, none⟩), .int .u8 q] w (fun u w' => (u = .tuple #[ag ([nm [], [.int .u16 0], [.int .u16 0], [.int .u32 0], [.int .u16 0]]), .iface Tz (.pointer xz)] ∧ SB w' bp lPr (prSegs vm y0 y1 y2 y3 y4 y5 (q + 1) po 0 false ho ty ln)) ∧ Fr (fun k => k = bp) w w') := by
 have hf : Fr (fun k => k = bp) w w := Fr.refl _ _
 have z_hP := hP.lt
 refine ret_of Tryz.func158 rfl rfl rfl [(0, _), (1, _)] rfl ?_
 refine sreg ?_
 refine svK (xallS (lens := [256, 1, 1, 1, 1]) in135 (by simp [nm_length])) ?_
 rintro _ w2 ⟨b4, rfl, m3, h4, e1, s1⟩
 have hP := hP.keep m3 id
 have hg0 := rng_fr hg0 m3 (by omega) id
 have hG := hG.keep (fun k hk => by omega) m3 nF
 have hf := hf.step0 m3
 refine sA rfl (send (fg [(0, _), (1, _), (4, _)] ⟨rfl, rfl, rfl, ⟨⟩⟩ fun _ => (wp_seq (sreg (sM rfl (sN rfl (sv (xfld fl124_5 rfl) (sv (xld on4 rfl (hP.r.c 10 rfl rfl)) (send (fg [(0, _), (1, _), (4, _), (13, _)] ⟨rfl, rfl, rfl, rfl, ⟨⟩⟩ fun _ => (cno rfl (wp_skip (nThen (fg [(0, _), (1, _), (4, _)] ⟨rfl, rfl, rfl, ⟨⟩⟩ fun _ => (wp_seq (sreg (sM rfl (sM rfl ?_))))))))))))))))))
 refine sc (xcall ca104 rfl) (c104 (q := q) hP hg0 hG (by omega) hgp hs0 hs1 hq0 hq1) ?_
 rintro _ w4 ⟨⟨hlt, _⟩ | ⟨hlt, _⟩ | ⟨-, hix, rfl, hP⟩ | ⟨-, hix, rfl, hP⟩, m5⟩
 · omega
 · omega
 ·
  have z6 := m5.size
  have hf := hf.step m5 (fun k hk hS => by have hS : k = bp := hS; show k = bp; omega)
  have h4 := h4.keep m5 (by show ¬ (b4 = bp); omega)
  refine sA rfl (send (fg [(0, _), (4, _), (6, _)] ⟨rfl, rfl, rfl, ⟨⟩⟩ fun _ => (sreg (sM rfl (sv (xneI if89 rfl) (send (fg [(0, _), (4, _), (6, _), (25, _)] ⟨rfl, rfl, rfl, rfl, ⟨⟩⟩ fun _ => (cyes rfl (sreg (sv (xbuildS [nm [], [.int .u16 0], [.int .u16 0], [.int .u32 0], [.int .u16 0]] zr135 ly135 rfl trivial (by simp [setAll, zs135])) (sM rfl ?_)))))))))))
  refine suK (xstW h4 (lens' := [256, 1, 1, 1, 1]) sz135 (by simp [nm_length]) rfl (by simp only [List.flatten_cons, List.flatten_nil, List.all_append, List.append_nil, nm_one, Bool.true_and] <;> rfl) rfl rfl) ?_
  rintro w8 ⟨m9, h4, s7⟩
  have hf := hf.step m9 (nB (by omega))
  have hP := hP.keep m9 (by show ¬ (bp = b4); omega)
  refine sA rfl (send (fg [(4, _), (5, _)] ⟨rfl, rfl, ⟨⟩⟩ fun _ => (wp_ret (rThen ?_))))
  refine rp2 rfl ⟨_, rfl, ldS (lens := [256, 1, 1, 1, 1]) ro135 h4.r⟩ rfl ?_
  exact ⟨⟨rfl, hP⟩, hf⟩
 · exact absurd hie hix
set_option maxHeartbeats 4000000 in
set_option maxRecDepth 100000 in
theorem c158g {w : World} {a : Option Addr} {bm om km n : Nat} {b : List UInt8} (hms : n ≠ 0 → a = some ⟨bm, om, none⟩) (hm : w.rangeAt bm om (bvs (b.take n))) (hbm : bm < w.heap.size) (hnb : n ≤ b.length) (hkm : n ≤ km) (hbl : b.length < 100000000) {bp : Nat} {_vm : Value} {y0 y1 y2 y3 y4 y5 _sec idx ho ty ln : Int} {_val : Bool} {q : Int} {K off e : Nat} {S : List UInt8} {ka kb kc kd : Nat} (hP : SB w bp lPr (prSegs (.slice a n km) y0 y1 y2 y3 y4 y5 q (off : Int) idx false ho ty ln)) {Tz : TypeId} {xz : Option Addr} (hg0 : w.rangeAt 0 0 [.iface Tz (.pointer xz)]) (hG : GE w) (hsz : 21 ≤ w.heap.size) (hgp : 20 < bp) (hs0 : 0 ≤ q) (hs1 : q ≤ 6) (hq0 : 0 ≤ cntI q y2 y3 y4 y5) (hq1 : cntI q y2 y3 y4 y5 < 65536) (hbp : bp ≠ bm) (hne : idx ≠ cntI q y2 y3 y4 y5) (hN : NameAt b K off S e) (hS0 : nameL S) (hK : K ≤ 10) (hKn : K = 0 ∨ n = b.length) (la : ka < 65536) (lb : kb < 65536) (lc : kc < 4294967296) (ld : kd < 65536) (ha : Std b e (be16 ka)) (hb : Std b (e + 2) (be16 kb)) (hc : Std b (e + 2 + 2) (be32 kc)) (hd : Std b (e + 2 + 2 + 4) (be16 kd)) (hel : e + 10 ≤ b.length)  :
  Ret PP 158 [.pointer (some ⟨bp, 0, none⟩), .int .u8 q] w (fun u w' => ((e + 10 ≤ n ∧ u = .tuple #[ag ([nm S, [.int .u16 (ka : Int)], [.int .u16 (kb : Int)], [.int .u32 (kc : Int)], [.int .u16 (kd : Int)]]), .nilIface] ∧ SB w' bp lPr (prSegs (.slice a n km) y0 y1 y2 y3 y4 y5 q ((e + 2 + 2 + 4 + 2 : Nat) : Int) idx true (off : Int) (ka : Int) (kd : Int))) ∨ (n < e + 10 ∧ ∃ (x : Option Addr), u = .tuple #[ag ([nm [], [.int .u16 0], [.int .u16 0], [.int .u32 0], [.int .u16 0]]), .iface 166 (.pointer x)])) ∧ Fr (fun k => k = bp) w w') := by
 have hf : Fr (fun k => k = bp) w w := Fr.refl _ _
 have z_hP := hP.lt
 refine ret_of Tryz.func158 rfl rfl rfl [(0, _), (1, _)] rfl ?_
 refine sreg ?_
 refine svK (xallS (lens := [256, 1, 1, 1, 1]) in135 (by simp [nm_length])) ?_
 rintro _ w2 ⟨b4, rfl, m3, h4, e1, s1⟩
 have hP := hP.keep m3 id
 have hg0 := rng_fr hg0 m3 (by omega) id
 have hG := hG.keep (fun k hk => by omega) m3 nF
 have hm := rng_fr hm m3 (by omega) id
 have hf := hf.step0 m3
 refine sA rfl (send (fg [(0, _), (1, _), (4, _)] ⟨rfl, rfl, rfl, ⟨⟩⟩ fun _ => (wp_seq (sreg (sM rfl (sN rfl (sv (xfld fl124_5 rfl) (sv (xld on4 rfl (hP.r.c 10 rfl rfl)) (send (fg [(0, _), (1, _), (4, _), (13, _)] ⟨rfl, rfl, rfl, rfl, ⟨⟩⟩ fun _ => (cno rfl (wp_skip (nThen (fg [(0, _), (1, _), (4, _)] ⟨rfl, rfl, rfl, ⟨⟩⟩ fun _ => (wp_seq (sreg (sM rfl (sM rfl ?_))))))))))))))))))
 refine sc (xcall ca104 rfl) (c104 (q := q) hP hg0 hG (by omega) hgp hs0 hs1 hq0 hq1) ?_
 rintro _ w4 ⟨⟨hlt, _⟩ | ⟨hlt, _⟩ | ⟨-, hix, rfl, hP⟩ | ⟨-, hix, rfl, hP⟩, m5⟩
 · omega
 · omega
 · exact absurd hix hne
 ·
  have z6 := m5.size
  have hG := hG.keep (fun k hk => by omega) m5 (fun k hk hS => by have hk := hk; have hS : k = bp := hS; omega)
  have hm := rng_fr hm m5 (by omega) (by show ¬ (bm = bp); omega)
  have hf := hf.step m5 (fun k hk hS => by have hS : k = bp := hS; show k = bp; omega)
  have h4 := h4.keep m5 (by show ¬ (b4 = bp); omega)
  refine sA rfl (send (fg [(0, _), (4, _), (6, _)] ⟨rfl, rfl, rfl, ⟨⟩⟩ fun _ => (sreg (sM rfl (sv (xneN if89 rfl) (send (fg [(0, _), (4, _), (6, _), (25, _)] ⟨rfl, rfl, rfl, rfl, ⟨⟩⟩ fun _ => (cno rfl (wp_skip (nThen (fg [(0, _), (4, _)] ⟨rfl, rfl, ⟨⟩⟩ fun _ => (sreg ?_))))))))))))
  refine svK (xallS (lens := [256, 1, 1, 1, 1]) in135 (by simp [nm_length])) ?_
  rintro _ w8 ⟨b7, rfl, m9, h7, e7, s7⟩
  have hG := hG.keep (fun k hk => by omega) m9 nF
  have hm := rng_fr hm m9 (by omega) id
  have hf := hf.step0 m9
  have h4 := h4.keep m9 id
  have hP := hP.keep m9 id
  refine send (fg [(0, _), (4, _), (7, _)] ⟨rfl, rfl, rfl, ⟨⟩⟩ fun _ => ?_)
  refine sdrawH (Fr (fun k => k = b7) w8.drew) [(0, .rd), (1, .rd), (2, .rd), (3, .rd), (4, .rd), (5, .rd), (6, .rd), (7, .rd), (8, .ld), (9, .rd), (10, .rd), (11, .rd), (12, .rd), (13, .rd)] mixed (by kernel_rfl) (fun _ _ _ _ _ h => h) ?_
  have z10 : w8.drew.heap.size = w8.heap.size := rfl
  have hG := hG.keep (fun k hk => by omega) (fd w8) nF
  have hm := rng_fr hm (fd w8) (by omega) id
  have hf := hf.drew
  have h4 := h4.drew
  have hP := hP.drew
  have h7 := h7.drew
  have zb_hP := hP
  have hS11 : Fr (fun k => k = b7) w8.drew w8.drew := Fr.refl _ _
  refine qqM rfl rfl hS11 (qqN rfl rfl hS11 (hvH rfl (fun _ _ => xfld fl124_0 rfl) hS11 (hvH rfl (fun w' hS => xld on37 rfl ((zb_hP.keep hS (by show ¬ (bp = b7); omega)).r.c 0 rfl rfl)) hS11 (qqM rfl rfl hS11 (qqN rfl rfl hS11 (hvH rfl (fun _ _ => xfld fl124_3 rfl) hS11 (hvH rfl (fun w' hS => xld on3 rfl ((zb_hP.keep hS (by show ¬ (bp = b7); omega)).r.c 8 rfl rfl)) hS11 ?_)))))))
  refine hcH rfl (xcall ca194 rfl) (c194 (b := b) (bp := b7) (K := K) (off := off) (e := e) (S := S) hms hm (by omega) hnb hkm hbl hG (by omega) h7 (by omega) (by omega) hN hS0 hK hKn la lb lc ld ha hb hc hd hel) ?_
  rintro _ w12 ⟨⟨hle37, rfl, h7⟩ | ⟨hgt37, x37, rfl⟩, m13⟩
  ·
   have z14 := m13.size
   have hf := hf.step m13 (nB (by omega))
   have h4 := h4.keep m13 (by show ¬ (b4 = b7); omega)
   have hP := hP.keep m13 (by show ¬ (bp = b7); omega)
   have hS15 := hS11.step m13 (fun k hk hS => by have hS : k = b7 := hS; show k = b7; omega)
   have h7 : SB w12 b7 lRh ([nm S, [.int .u16 (ka : Int)], [.int .u16 (kb : Int)], [.int .u32 (kc : Int)], [.int .u16 (kd : Int)]]) := h7
   refine ⟨hS15, ?_⟩
   refine qqM rfl rfl hS15 (hvH rfl (fun _ _ => xex20 rfl) hS15 (hvH rfl (fun _ _ => xex21 rfl) hS15 (qqA rfl rfl hS15 (qqA rfl rfl hS15 (hendH (fg [(0, _), (4, _), (7, _), (8, _), (9, _)] ⟨rfl, rfl, rfl, rfl, rfl, ⟨⟩⟩ fun _ => (wp_seq (sreg (sM rfl (sv (xneN if89 rfl) (send (fg [(0, _), (4, _), (7, _), (8, _), (9, _), (41, _)] ⟨rfl, rfl, rfl, rfl, rfl, rfl, ⟨⟩⟩ fun _ => (cno rfl (wp_skip (nThen (fg [(0, _), (4, _), (7, _), (8, _)] ⟨rfl, rfl, rfl, rfl, ⟨⟩⟩ fun _ => (sreg (sM rfl (sN rfl (sv (xfld fl124_5 rfl) ?_))))))))))))))))))))
   refine suK (xstF 10 sz4 hP rfl rfl rfl rfl rfl) ?_
   rintro w17 ⟨m18, hP, s16⟩
   have hf := hf.step m18 (fun k hk hS => by have hS : k = bp := hS; show k = bp; omega)
   have h4 := h4.keep m18 (by show ¬ (b4 = bp); omega)
   have h7 := h7.keep m18 (by show ¬ (b7 = bp); omega)
   refine send (fg [(0, _), (4, _), (7, _), (8, _)] ⟨rfl, rfl, rfl, rfl, ⟨⟩⟩ fun _ => (sreg (sM rfl (sM rfl (sN rfl (sv (xfld fl124_3 rfl) (sv (xld on3 rfl (hP.r.c 8 rfl rfl)) (sN rfl (sv (xfld fl124_6 rfl) ?_)))))))))
   refine suK (xstF 11 sz3 hP rfl rfl rfl rfl rfl) ?_
   rintro w20 ⟨m21, hP, s19⟩
   have hf := hf.step m21 (fun k hk hS => by have hS : k = bp := hS; show k = bp; omega)
   have h4 := h4.keep m21 (by show ¬ (b4 = bp); omega)
   have h7 := h7.keep m21 (by show ¬ (b7 = bp); omega)
   refine send (fg [(0, _), (4, _), (7, _), (8, _)] ⟨rfl, rfl, rfl, rfl, ⟨⟩⟩ fun _ => (sreg (sM rfl (sv (xfld fl135_1 rfl) (sv (xld on83 rfl (h7.r.c 1 rfl rfl)) (sN rfl (sv (xfld fl124_7 rfl) ?_)))))))
   refine suK (xstF 12 sz83 hP rfl rfl rfl rfl rfl) ?_
   rintro w23 ⟨m24, hP, s22⟩
   have hf := hf.step m24 (fun k hk hS => by have hS : k = bp := hS; show k = bp; omega)
   have h4 := h4.keep m24 (by show ¬ (b4 = bp); omega)
   have h7 := h7.keep m24 (by show ¬ (b7 = bp); omega)
   refine send (fg [(0, _), (4, _), (7, _), (8, _)] ⟨rfl, rfl, rfl, rfl, ⟨⟩⟩ fun _ => (sreg (sM rfl (sv (xfld fl135_4 rfl) (sv (xld on22 rfl (h7.r.c 4 rfl rfl)) (sN rfl (sv (xfld fl124_8 rfl) ?_)))))))
   refine suK (xstF 13 sz22 hP rfl rfl rfl rfl rfl) ?_
   rintro w26 ⟨m27, hP, s25⟩
   have hf := hf.step m27 (fun k hk hS => by have hS : k = bp := hS; show k = bp; omega)
   have h4 := h4.keep m27 (by show ¬ (b4 = bp); omega)
   have h7 := h7.keep m27 (by show ¬ (b7 = bp); omega)
   refine send (fg [(0, _), (4, _), (7, _), (8, _)] ⟨rfl, rfl, rfl, rfl, ⟨⟩⟩ fun _ => (sreg (sM rfl (sM rfl (sN rfl (sv (xfld fl124_3 rfl) ?_))))))
   refine suK (xstF 8 sz3 hP rfl rfl rfl rfl rfl) ?_
   rintro w29 ⟨m30, hP, s28⟩
   have hf := hf.step m30 (fun k hk hS => by have hS : k = bp := hS; show k = bp; omega)
   have h4 := h4.keep m30 (by show ¬ (b4 = bp); omega)
   have h7 := h7.keep m30 (by show ¬ (b7 = bp); omega)
   refine send (fg [(4, _), (7, _)] ⟨rfl, rfl, ⟨⟩⟩ fun _ => (sreg (sv (xldS (lens := [256, 1, 1, 1, 1]) ro135 rfl h7.r) ?_)))
   refine suK (xstW h4 (lens' := [256, 1, 1, 1, 1]) sz135 (by simp [nm_length]) rfl (by simp only [List.flatten_cons, List.flatten_nil, List.all_append, List.append_nil, nm_one, Bool.true_and] <;> rfl) rfl rfl) ?_
   rintro w32 ⟨m33, h4, s31⟩
   have hf := hf.step m33 (nB (by omega))
   have hP := hP.keep m33 (by show ¬ (bp = b4); omega)
   refine sA rfl (send (fg [(4, _), (5, _)] ⟨rfl, rfl, ⟨⟩⟩ fun _ => (wp_ret ?_)))
   refine rp2 rfl ⟨_, rfl, ldS (lens := [256, 1, 1, 1, 1]) ro135 h4.r⟩ rfl ?_
   exact ⟨.inl ⟨by omega, rfl, hP⟩, hf⟩
  ·
   have z34 := m13.size
   have hf := hf.step m13 (nB (by omega))
   have h4 := h4.keep m13 (by show ¬ (b4 = b7); omega)
   have hS35 := hS11.step m13 (fun k hk hS => by have hS : k = b7 := hS; show k = b7; omega)
   refine ⟨hS35, ?_⟩
   refine qqM rfl rfl hS35 (hvH rfl (fun _ _ => xex20 rfl) hS35 (hvH rfl (fun _ _ => xex21 rfl) hS35 (qqA rfl rfl hS35 (qqA rfl rfl hS35 (hendH (fg [(0, _), (4, _), (7, _), (8, _), (9, _)] ⟨rfl, rfl, rfl, rfl, rfl, ⟨⟩⟩ fun _ => (wp_seq (sreg (sM rfl (sv (xneI if89 rfl) (send (fg [(0, _), (4, _), (7, _), (8, _), (9, _), (41, _)] ⟨rfl, rfl, rfl, rfl, rfl, rfl, ⟨⟩⟩ fun _ => (cyes rfl (sreg (sv (xbuildS [nm [], [.int .u16 0], [.int .u16 0], [.int .u32 0], [.int .u16 0]] zr135 ly135 rfl trivial (by simp [setAll, zs135])) (sM rfl ?_))))))))))))))))
   refine suK (xstW h4 (lens' := [256, 1, 1, 1, 1]) sz135 (by simp [nm_length]) rfl (by simp only [List.flatten_cons, List.flatten_nil, List.all_append, List.append_nil, nm_one, Bool.true_and] <;> rfl) rfl rfl) ?_
   rintro w37 ⟨m38, h4, s36⟩
   have hf := hf.step m38 (nB (by omega))
   refine sA rfl (send (fg [(4, _), (5, _)] ⟨rfl, rfl, ⟨⟩⟩ fun _ => (wp_ret (rThen ?_))))
   refine rp2 rfl ⟨_, rfl, ldS (lens := [256, 1, 1, 1, 1]) ro135 h4.r⟩ rfl ?_
   exact ⟨.inr ⟨by omega, _, rfl⟩, hf⟩
end Go.Proofs.YtifnodoffgfpbaaGreatDoor

namespace Go.Proofs.YtifnodoffgfpbaaGreatDoor
open Go
set_option maxHeartbeats 4000000 in
set_option maxRecDepth 100000 in
theorem c60d {w : World} {bp : Nat} {vm : Value} {y0 y1 y2 y3 y4 y5 _sec po idx ho ty ln : Int} {_val : Bool} (hP : SB w bp lPr (prSegs vm y0 y1 y2 y3 y4 y5 2 po idx false ho ty ln)) {Tz : TypeId} {xz : Option Addr} (hg0 : w.rangeAt 0 0 [.iface Tz (.pointer xz)]) (hG : GE w) (hsz : 21 ≤ w.heap.size) (hgp : 20 < bp) (hq0 : 0 ≤ cntI 2 y2 y3 y4 y5) (hq1 : cntI 2 y2 y3 y4 y5 < 65536) (hie : idx = cntI 2 y2 y3 y4 y5)  :
  Ret PP 60 [.pointer (some ⟨bp, 0, none⟩)] w (fun u w' => (u = .tuple #[ag ([nm [], [.int .u16 0], [.int .u16 0]]), .iface Tz (.pointer xz)] ∧ SB w' bp lPr (prSegs vm y0 y1 y2 y3 y4 y5 (2 + 1) po 0 false ho ty ln)) ∧ Fr (fun k => k = bp) w w') := by
 have hf : Fr (fun k => k = bp) w w := Fr.refl _ _
 have z_hP := hP.lt
 refine ret_of Tryz.func60 rfl rfl rfl [(0, _)] rfl ?_
 refine sreg ?_
 refine svK (xallS (lens := [256, 1, 1]) in86 (by simp [nm_length])) ?_
 rintro _ w2 ⟨b2, rfl, m3, h2, e1, s1⟩
 have hP := hP.keep m3 id
 have hg0 := rng_fr hg0 m3 (by omega) id
 have hG := hG.keep (fun k hk => by omega) m3 nF
 have hf := hf.step0 m3
 refine sA rfl (send (fg [(0, _), (2, _)] ⟨rfl, rfl, ⟨⟩⟩ fun _ => (wp_seq (sreg (sM rfl ?_)))))
 refine sc (xcall ca104 rfl) (c104 (q := 2) hP hg0 hG (by omega) hgp (by decide) (by decide) hq0 hq1) ?_
 rintro _ w4 ⟨⟨hlt, _⟩ | ⟨hlt, _⟩ | ⟨-, hix, rfl, hP⟩ | ⟨-, hix, rfl, hP⟩, m5⟩
 · omega
 · omega
 ·
  have z6 := m5.size
  have hf := hf.step m5 (fun k hk hS => by have hS : k = bp := hS; show k = bp; omega)
  have h2 := h2.keep m5 (by show ¬ (b2 = bp); omega)
  refine sA rfl (send (fg [(0, _), (2, _), (4, _)] ⟨rfl, rfl, rfl, ⟨⟩⟩ fun _ => (sreg (sM rfl (sv (xneI if89 rfl) (send (fg [(0, _), (2, _), (4, _), (13, _)] ⟨rfl, rfl, rfl, rfl, ⟨⟩⟩ fun _ => (cyes rfl (sreg (sv (xbuildS [nm [], [.int .u16 0], [.int .u16 0]] zr86 ly86 rfl trivial (by simp [setAll, zs86])) (sM rfl ?_)))))))))))
  refine suK (xstW h2 (lens' := [256, 1, 1]) sz86 (by simp [nm_length]) rfl (by simp only [List.flatten_cons, List.flatten_nil, List.all_append, List.append_nil, nm_one, Bool.true_and] <;> rfl) rfl rfl) ?_
  rintro w8 ⟨m9, h2, s7⟩
  have hf := hf.step m9 (nB (by omega))
  have hP := hP.keep m9 (by show ¬ (bp = b2); omega)
  refine sA rfl (send (fg [(2, _), (3, _)] ⟨rfl, rfl, ⟨⟩⟩ fun _ => (wp_ret (rThen ?_))))
  refine rp2 rfl ⟨_, rfl, ldS (lens := [256, 1, 1]) ro86 h2.r⟩ rfl ?_
  exact ⟨⟨rfl, hP⟩, hf⟩
 · exact absurd hie hix
set_option maxHeartbeats 4000000 in
set_option maxRecDepth 100000 in
theorem c60g {w : World} {a : Option Addr} {bm om km n : Nat} {b : List UInt8} (hms : n ≠ 0 → a = some ⟨bm, om, none⟩) (hm : w.rangeAt bm om (bvs (b.take n))) (hbm : bm < w.heap.size) (hnb : n ≤ b.length) (hkm : n ≤ km) (hbl : b.length < 100000000) {bp : Nat} {_vm : Value} {y0 y1 y2 y3 y4 y5 _sec idx ho ty ln : Int} {_val : Bool} {K off e : Nat} {S : List UInt8} {ka kb : Nat} (hP : SB w bp lPr (prSegs (.slice a n km) y0 y1 y2 y3 y4 y5 2 (off : Int) idx false ho ty ln)) {Tz : TypeId} {xz : Option Addr} (hg0 : w.rangeAt 0 0 [.iface Tz (.pointer xz)]) (hG : GE w) (hsz : 21 ≤ w.heap.size) (hgp : 20 < bp) (hq0 : 0 ≤ cntI 2 y2 y3 y4 y5) (hq1 : cntI 2 y2 y3 y4 y5 < 65536) (hbp : bp ≠ bm) (hne : idx ≠ cntI 2 y2 y3 y4 y5) (hi0 : 0 ≤ idx) (hi1 : idx < 65536) (hN : NameAt b K off S e) (hS0 : nameL S) (hK : K ≤ 10) (hKn : K = 0 ∨ n = b.length) (la : ka < 65536) (lb : kb < 65536) (ha : Std b e (be16 ka)) (hb : Std b (e + 2) (be16 kb)) (hel : e + 4 ≤ b.length)  :
  Ret PP 60 [.pointer (some ⟨bp, 0, none⟩)] w (fun u w' => ((e + 4 ≤ n ∧ u = .tuple #[ag ([nm S, [.int .u16 (ka : Int)], [.int .u16 (kb : Int)]]), .nilIface] ∧ SB w' bp lPr (prSegs (.slice a n km) y0 y1 y2 y3 y4 y5 2 ((e + 2 + 2 : Nat) : Int) (idx + 1) false ho ty ln)) ∨ (n < e + 4 ∧ ∃ (x : Option Addr), u = .tuple #[ag ([nm [], [.int .u16 0], [.int .u16 0]]), .iface 166 (.pointer x)])) ∧ Fr (fun k => k = bp) w w') := by
 have hf : Fr (fun k => k = bp) w w := Fr.refl _ _
 have z_hP := hP.lt
 refine ret_of Tryz.func60 rfl rfl rfl [(0, _)] rfl ?_
 refine sreg ?_
 refine svK (xallS (lens := [256, 1, 1]) in86 (by simp [nm_length])) ?_
 rintro _ w2 ⟨b2, rfl, m3, h2, e1, s1⟩
 have hP := hP.keep m3 id
 have hg0 := rng_fr hg0 m3 (by omega) id
 have hG := hG.keep (fun k hk => by omega) m3 nF
 have hm := rng_fr hm m3 (by omega) id
 have hf := hf.step0 m3
 refine sA rfl (send (fg [(0, _), (2, _)] ⟨rfl, rfl, ⟨⟩⟩ fun _ => (wp_seq (sreg (sM rfl ?_)))))
 refine sc (xcall ca104 rfl) (c104 (q := 2) hP hg0 hG (by omega) hgp (by decide) (by decide) hq0 hq1) ?_
 rintro _ w4 ⟨⟨hlt, _⟩ | ⟨hlt, _⟩ | ⟨-, hix, rfl, hP⟩ | ⟨-, hix, rfl, hP⟩, m5⟩
 · omega
 · omega
 · exact absurd hix hne
 ·
  have z6 := m5.size
  have hG := hG.keep (fun k hk => by omega) m5 (fun k hk hS => by have hk := hk; have hS : k = bp := hS; omega)
  have hm := rng_fr hm m5 (by omega) (by show ¬ (bm = bp); omega)
  have hf := hf.step m5 (fun k hk hS => by have hS : k = bp := hS; show k = bp; omega)
  have h2 := h2.keep m5 (by show ¬ (b2 = bp); omega)
  refine sA rfl (send (fg [(0, _), (2, _), (4, _)] ⟨rfl, rfl, rfl, ⟨⟩⟩ fun _ => (sreg (sM rfl (sv (xneN if89 rfl) (send (fg [(0, _), (2, _), (4, _), (13, _)] ⟨rfl, rfl, rfl, rfl, ⟨⟩⟩ fun _ => (cno rfl (wp_skip (nThen (fg [(0, _), (2, _)] ⟨rfl, rfl, ⟨⟩⟩ fun _ => (sreg ?_))))))))))))
  refine svK (xallS (lens := [256]) in82 (by simp [nm_length])) ?_
  rintro _ w8 ⟨b5, rfl, m9, h5, e7, s7⟩
  have hG := hG.keep (fun k hk => by omega) m9 nF
  have hm := rng_fr hm m9 (by omega) id
  have hf := hf.step0 m9
  have h2 := h2.keep m9 id
  have hP := hP.keep m9 id
  refine send (fg [(0, _), (2, _), (5, _)] ⟨rfl, rfl, rfl, ⟨⟩⟩ fun _ => ?_)
  refine sdrawH (Fr (fun k => k = b5) w8.drew) [(0, .rd), (1, .rd), (2, .rd), (3, .rd), (4, .rd), (5, .rd), (6, .rd), (7, .rd), (8, .ld), (9, .rd), (10, .rd), (11, .rd), (12, .rd), (13, .rd)] mixed (by kernel_rfl) (fun _ _ _ _ _ h => h) ?_
  have z10 : w8.drew.heap.size = w8.heap.size := rfl
  have hG := hG.keep (fun k hk => by omega) (fd w8) nF
  have hm := rng_fr hm (fd w8) (by omega) id
  have hf := hf.drew
  have h2 := h2.drew
  have hP := hP.drew
  have h5 := h5.drew
  have zb_hP := hP
  have hS11 : Fr (fun k => k = b5) w8.drew w8.drew := Fr.refl _ _
  refine qqM rfl rfl hS11 (qqN rfl rfl hS11 (hvH rfl (fun _ _ => xfld fl124_0 rfl) hS11 (hvH rfl (fun w' hS => xld on37 rfl ((zb_hP.keep hS (by show ¬ (bp = b5); omega)).r.c 0 rfl rfl)) hS11 (qqM rfl rfl hS11 (qqN rfl rfl hS11 (hvH rfl (fun _ _ => xfld fl124_3 rfl) hS11 (hvH rfl (fun w' hS => xld on3 rfl ((zb_hP.keep hS (by show ¬ (bp = b5); omega)).r.c 8 rfl rfl)) hS11 ?_)))))))
  refine hcH rfl (xcall ca105 rfl) (c105 (b := b) (bp := b5) (q := 0) (ip := 0) (K := K) (off := off) (e := e) (S := S) hms hm (by omega) hnb hkm hbl hG (by omega) h5 (by omega) (by omega) rfl rfl hN hS0 hK hKn) ?_
  rintro _ w12 ⟨⟨hle25, rfl, h5⟩ | ⟨hgt25, ⟨T25, x25, rfl⟩, o25, h5⟩, m13⟩
  ·
   have z14 := m13.size
   have hG := hG.keep (fun k hk => by omega) m13 (fun k hk hS => by have hk := hk; have hS : k = b5 := hS; omega)
   have hm := rng_fr hm m13 (by omega) (by show ¬ (bm = b5); omega)
   have hf := hf.step m13 (nB (by omega))
   have h2 := h2.keep m13 (by show ¬ (b2 = b5); omega)
   have hP := hP.keep m13 (by show ¬ (bp = b5); omega)
   have hS15 := hS11.step m13 (fun k hk hS => by have hS : k = b5 := hS; show k = b5; omega)
   have h5 : SB w12 b5 [256] ([nm (S)]) := h5
   refine ⟨hS15, ?_⟩
   refine qqM rfl rfl hS15 (hvH rfl (fun _ _ => xex20 rfl) hS15 (hvH rfl (fun _ _ => xex21 rfl) hS15 (qqA rfl rfl hS15 (qqA rfl rfl hS15 (hendH (fg [(0, _), (2, _), (5, _), (6, _), (7, _)] ⟨rfl, rfl, rfl, rfl, rfl, ⟨⟩⟩ fun _ => (wp_seq (sreg (sM rfl (sv (xneN if89 rfl) (send (fg [(0, _), (2, _), (5, _), (6, _), (7, _), (29, _)] ⟨rfl, rfl, rfl, rfl, rfl, rfl, ⟨⟩⟩ fun _ => (cno rfl (wp_skip (nThen (fg [(0, _), (2, _), (5, _), (6, _)] ⟨rfl, rfl, rfl, rfl, ⟨⟩⟩ fun _ => (sreg (sM rfl (sN rfl (sv (xfld fl124_0 rfl) (sv (xld on37 rfl (hP.r.c 0 rfl rfl)) (sM rfl ?_))))))))))))))))))))))
   refine sc (xcall ca106 rfl) (c106 (b := b) (off := e) (x := ka) hms hm (by omega) hnb hkm hbl hG (by omega) la (ha) (by omega)) ?_
   rintro _ w16 ⟨⟨hle41, rfl⟩ | ⟨hgt41, T41, x41, rfl⟩, m17⟩
   ·
    have z18 := m17.size
    have hG := hG.keep (fun k hk => by omega) m17 nF
    have hm := rng_fr hm m17 (by omega) id
    have hf := hf.step0 m17
    have h2 := h2.keep m17 id
    have hP := hP.keep m17 id
    have h5 := h5.keep m17 id
    refine sM rfl (sv (xex30 rfl) (sv (xex31 rfl) (sv (xex32 rfl) (sA rfl (sA rfl (sA rfl (send (fg [(0, _), (2, _), (5, _), (6, _), (7, _), (8, _)] ⟨rfl, rfl, rfl, rfl, rfl, rfl, ⟨⟩⟩ fun _ => (wp_seq (sreg (sM rfl (sv (xneN if89 rfl) (send (fg [(0, _), (2, _), (5, _), (6, _), (7, _), (8, _), (46, _)] ⟨rfl, rfl, rfl, rfl, rfl, rfl, rfl, ⟨⟩⟩ fun _ => (cno rfl (wp_skip (nThen (fg [(0, _), (2, _), (5, _), (6, _), (8, _)] ⟨rfl, rfl, rfl, rfl, rfl, ⟨⟩⟩ fun _ => (sreg (sM rfl (sN rfl (sv (xfld fl124_0 rfl) (sv (xld on37 rfl (hP.r.c 0 rfl rfl)) (sM rfl ?_))))))))))))))))))))))))
    refine sc (xcall ca107 rfl) (c107 (b := b) (off := e + 2) (x := kb) hms hm (by omega) hnb hkm hbl hG (by omega) lb (hb) (by omega)) ?_
    rintro _ w19 ⟨⟨hle58, rfl⟩ | ⟨hgt58, T58, x58, rfl⟩, m20⟩
    ·
     have z21 := m20.size
     have hf := hf.step0 m20
     have h2 := h2.keep m20 id
     have hP := hP.keep m20 id
     have h5 := h5.keep m20 id
     refine sM rfl (sv (xex30 rfl) (sv (xex31 rfl) (sv (xex32 rfl) (sA rfl (sA rfl (sA rfl (send (fg [(0, _), (2, _), (5, _), (6, _), (7, _), (8, _), (9, _)] ⟨rfl, rfl, rfl, rfl, rfl, rfl, rfl, ⟨⟩⟩ fun _ => (wp_seq (sreg (sM rfl (sv (xneN if89 rfl) (send (fg [(0, _), (2, _), (5, _), (6, _), (7, _), (8, _), (9, _), (63, _)] ⟨rfl, rfl, rfl, rfl, rfl, rfl, rfl, rfl, ⟨⟩⟩ fun _ => (cno rfl (wp_skip (nThen (fg [(0, _), (2, _), (5, _), (6, _), (8, _), (9, _)] ⟨rfl, rfl, rfl, rfl, rfl, rfl, ⟨⟩⟩ fun _ => (sreg (sM rfl (sM rfl (sN rfl (sv (xfld fl124_3 rfl) ?_)))))))))))))))))))))))
     refine suK (xstF 8 sz3 hP rfl rfl rfl rfl rfl) ?_
     rintro w23 ⟨m24, hP, s22⟩
     have hf := hf.step m24 (fun k hk hS => by have hS : k = bp := hS; show k = bp; omega)
     have h2 := h2.keep m24 (by show ¬ (b2 = bp); omega)
     have h5 := h5.keep m24 (by show ¬ (b5 = bp); omega)
     refine send (fg [(0, _), (2, _), (5, _), (8, _), (9, _)] ⟨rfl, rfl, rfl, rfl, rfl, ⟨⟩⟩ fun _ => (sreg (sM rfl (sN rfl (sv (xfld fl124_4 rfl) (sv (xld on3 rfl (hP.r.c 9 rfl rfl)) (sv (xadd rfl rfl (w64 (by omega) (by omega))) (sN rfl (sv (xfld fl124_4 rfl) ?_)))))))))
     refine suK (xstF 9 sz3 hP rfl rfl rfl rfl rfl) ?_
     rintro w26 ⟨m27, hP, s25⟩
     have hf := hf.step m27 (fun k hk hS => by have hS : k = bp := hS; show k = bp; omega)
     have h2 := h2.keep m27 (by show ¬ (b2 = bp); omega)
     have h5 := h5.keep m27 (by show ¬ (b5 = bp); omega)
     refine send (fg [(2, _), (5, _), (8, _), (9, _)] ⟨rfl, rfl, rfl, rfl, ⟨⟩⟩ fun _ => (sreg (sv (xldS (lens := [256]) ro82 rfl h5.r) (sM rfl (sM rfl (sv (xbuildS [nm S, [.int .u16 (ka : Int)], [.int .u16 (kb : Int)]] zr86 ly86 rfl (by simp [fitAll, zs86, Value.cells, nm_length]) (by simp [setAll, zs86, Value.cells])) ?_))))))
     refine suK (xstW h2 (lens' := [256, 1, 1]) sz86 (by simp [nm_length]) rfl (by simp only [List.flatten_cons, List.flatten_nil, List.all_append, List.append_nil, nm_one, Bool.true_and] <;> rfl) rfl rfl) ?_
     rintro w29 ⟨m30, h2, s28⟩
     have hf := hf.step m30 (nB (by omega))
     have hP := hP.keep m30 (by show ¬ (bp = b2); omega)
     refine sA rfl (send (fg [(2, _), (3, _)] ⟨rfl, rfl, ⟨⟩⟩ fun _ => (wp_ret ?_)))
     refine rp2 rfl ⟨_, rfl, ldS (lens := [256, 1, 1]) ro86 h2.r⟩ rfl ?_
     exact ⟨.inl ⟨by omega, rfl, hP⟩, hf⟩
    ·
     have z31 := m20.size
     have hf := hf.step0 m20
     have h2 := h2.keep m20 id
     refine sM rfl (sv (xex30 rfl) (sv (xex31 rfl) (sv (xex32 rfl) (sA rfl (sA rfl (sA rfl (send (fg [(0, _), (2, _), (5, _), (6, _), (7, _), (8, _), (9, _)] ⟨rfl, rfl, rfl, rfl, rfl, rfl, rfl, ⟨⟩⟩ fun _ => (wp_seq (sreg (sM rfl (sv (xneI if89 rfl) (send (fg [(0, _), (2, _), (5, _), (6, _), (7, _), (8, _), (9, _), (63, _)] ⟨rfl, rfl, rfl, rfl, rfl, rfl, rfl, rfl, ⟨⟩⟩ fun _ => (cyes rfl (sreg (sv (xbuildS [nm [], [.int .u16 0], [.int .u16 0]] zr86 ly86 rfl trivial (by simp [setAll, zs86])) (sM rfl (sv (xbuildS [[_], [_]] zr168 ly168 rfl (by simp [fitAll, zs168, Value.cells]) rfl) ?_)))))))))))))))))))
     refine svK (xboxS (lens := [1, 1]) rfl (by simp [])) ?_
     rintro _ w33 ⟨b67, rfl, m34, h67, e32, s32⟩
     have hf := hf.step0 m34
     have h2 := h2.keep m34 id
     refine sv (xmkif ni166 rfl) ?_
     refine suK (xstW h2 (lens' := [256, 1, 1]) sz86 (by simp [nm_length]) rfl (by simp only [List.flatten_cons, List.flatten_nil, List.all_append, List.append_nil, nm_one, Bool.true_and] <;> rfl) rfl rfl) ?_
     rintro w36 ⟨m37, h2, s35⟩
     have hf := hf.step m37 (nB (by omega))
     refine sA rfl (send (fg [(2, _), (3, _)] ⟨rfl, rfl, ⟨⟩⟩ fun _ => (wp_ret (rThen ?_))))
     refine rp2 rfl ⟨_, rfl, ldS (lens := [256, 1, 1]) ro86 h2.r⟩ rfl ?_
     exact ⟨.inr ⟨by omega, _, rfl⟩, hf⟩
   ·
    have z38 := m17.size
    have hf := hf.step0 m17
    have h2 := h2.keep m17 id
    refine sM rfl (sv (xex30 rfl) (sv (xex31 rfl) (sv (xex32 rfl) (sA rfl (sA rfl (sA rfl (send (fg [(0, _), (2, _), (5, _), (6, _), (7, _), (8, _)] ⟨rfl, rfl, rfl, rfl, rfl, rfl, ⟨⟩⟩ fun _ => (wp_seq (sreg (sM rfl (sv (xneI if89 rfl) (send (fg [(0, _), (2, _), (5, _), (6, _), (7, _), (8, _), (46, _)] ⟨rfl, rfl, rfl, rfl, rfl, rfl, rfl, ⟨⟩⟩ fun _ => (cyes rfl (sreg (sv (xbuildS [nm [], [.int .u16 0], [.int .u16 0]] zr86 ly86 rfl trivial (by simp [setAll, zs86])) (sM rfl (sv (xbuildS [[_], [_]] zr168 ly168 rfl (by simp [fitAll, zs168, Value.cells]) rfl) ?_)))))))))))))))))))
    refine svK (xboxS (lens := [1, 1]) rfl (by simp [])) ?_
    rintro _ w40 ⟨b50, rfl, m41, h50, e39, s39⟩
    have hf := hf.step0 m41
    have h2 := h2.keep m41 id
    refine sv (xmkif ni166 rfl) ?_
    refine suK (xstW h2 (lens' := [256, 1, 1]) sz86 (by simp [nm_length]) rfl (by simp only [List.flatten_cons, List.flatten_nil, List.all_append, List.append_nil, nm_one, Bool.true_and] <;> rfl) rfl rfl) ?_
    rintro w43 ⟨m44, h2, s42⟩
    have hf := hf.step m44 (nB (by omega))
    refine sA rfl (send (fg [(2, _), (3, _)] ⟨rfl, rfl, ⟨⟩⟩ fun _ => (wp_ret (rThen ?_))))
    refine rp2 rfl ⟨_, rfl, ldS (lens := [256, 1, 1]) ro86 h2.r⟩ rfl ?_
    exact ⟨.inr ⟨by omega, _, rfl⟩, hf⟩
  ·
   have z45 := m13.size
   have hf := hf.step m13 (nB (by omega))
   have h2 := h2.keep m13 (by show ¬ (b2 = b5); omega)
   have hS46 := hS11.step m13 (fun k hk hS => by have hS : k = b5 := hS; show k = b5; omega)
   refine ⟨hS46, ?_⟩
   refine qqM rfl rfl hS46 (hvH rfl (fun _ _ => xex20 rfl) hS46 (hvH rfl (fun _ _ => xex21 rfl) hS46 (qqA rfl rfl hS46 (qqA rfl rfl hS46 (hendH (fg [(0, _), (2, _), (5, _), (6, _), (7, _)] ⟨rfl, rfl, rfl, rfl, rfl, ⟨⟩⟩ fun _ => (wp_seq (sreg (sM rfl (sv (xneI if89 rfl) (send (fg [(0, _), (2, _), (5, _), (6, _), (7, _), (29, _)] ⟨rfl, rfl, rfl, rfl, rfl, rfl, ⟨⟩⟩ fun _ => (cyes rfl (sreg (sv (xbuildS [nm [], [.int .u16 0], [.int .u16 0]] zr86 ly86 rfl trivial (by simp [setAll, zs86])) (sM rfl (sv (xbuildS [[_], [_]] zr168 ly168 rfl (by simp [fitAll, zs168, Value.cells]) rfl) ?_)))))))))))))))))
   refine svK (xboxS (lens := [1, 1]) rfl (by simp [])) ?_
   rintro _ w48 ⟨b33, rfl, m49, h33, e47, s47⟩
   have hf := hf.step0 m49
   have h2 := h2.keep m49 id
   refine sv (xmkif ni166 rfl) ?_
   refine suK (xstW h2 (lens' := [256, 1, 1]) sz86 (by simp [nm_length]) rfl (by simp only [List.flatten_cons, List.flatten_nil, List.all_append, List.append_nil, nm_one, Bool.true_and] <;> rfl) rfl rfl) ?_
   rintro w51 ⟨m52, h2, s50⟩
   have hf := hf.step m52 (nB (by omega))
   refine sA rfl (send (fg [(2, _), (3, _)] ⟨rfl, rfl, ⟨⟩⟩ fun _ => (wp_ret (rThen ?_))))
   refine rp2 rfl ⟨_, rfl, ldS (lens := [256, 1, 1]) ro86 h2.r⟩ rfl ?_
   exact ⟨.inr ⟨by omega, _, rfl⟩, hf⟩
end Go.Proofs.YtifnodoffgfpbaaGreatDoor

namespace Go.Proofs.YtifnodoffgfpbaaGreatDoor
open Go
set_option maxHeartbeats 4000000 in
set_option maxRecDepth 100000 in
theorem c206 {w : World} {a : Option Addr} {bm om km n : Nat} {b : List UInt8} (hms : n ≠ 0 → a = some ⟨bm, om, none⟩) (hm : w.rangeAt bm om (bvs (b.take n))) (hbm : bm < w.heap.size) (hnb : n ≤ b.length) (hkm : n ≤ km) (hbl : b.length < 100000000) (hG : GE w) (hsz : 21 ≤ w.heap.size) {tv : Int} {off : Nat} {xs : List UInt8} (hxl : xs.length < 65536) (hs : Std b off xs) (hle : off + xs.length ≤ b.length) (h0 : n ≠ 0) :
  Ret PP 206 [.int .u16 tv, .slice a n km, .int .i64 (off : Int), .int .u16 (xs.length : Int)] w (fun u w' => ((off + xs.length ≤ n ∧ ∃ v, u = .tuple #[ag [[.int .u16 tv], [v]], .nilIface] ∧ BA (Ub NoU w w') w' v xs) ∨ (n < off + xs.length ∧ ∃ (T : TypeId) (x : Option Addr), u = .tuple #[ag [[.int .u16 0], [.slice none 0 0]], .iface T (.pointer x)])) ∧ Fr0 w w') := by
 have hf : Fr (fun _ => False) w w := Fr.refl _ _
 refine ret_of Tryz.func206 rfl rfl rfl [(0, _), (1, _), (2, _), (3, _)] rfl ?_
 refine sreg ?_
 refine svK (xallS (lens := [1, 1]) in231 (by simp [])) ?_
 rintro _ w2 ⟨b8, rfl, m3, h8, e1, s1⟩
 have hm := rng_fr hm m3 (by omega) id
 have hG := hG.keep (fun k hk => by omega) m3 nF
 have hf := hf.step0 m3
 refine sA rfl (send (fg [(0, _), (1, _), (2, _), (3, _), (8, _)] ⟨rfl, rfl, rfl, rfl, rfl, ⟨⟩⟩ fun _ => (sreg (sM rfl (sM rfl ?_)))))
 refine svK (xmake (lo := xs.length) (hi := xs.length) sl37 in5 rfl (by decide) rfl rfl rfl rfl (by omega) (by omega) (by simp only [maxLen]; omega) rfl) ?_
 rintro _ w4 ⟨b15, rfl, m5, hk15, e15, s15, -⟩
 have hm := rng_fr hm m5 (by omega) id
 have hG := hG.keep (fun k hk => by omega) m5 nF
 have hf := hf.step0 m5
 have h8 := h8.keep m5 id
 rw [rep_zero] at hk15
 have h15 : SB w4 b15 [xs.length] [bvs (List.replicate xs.length 0)] := ⟨by rw [List.flatten_cons, List.flatten_nil, List.append_nil]; exact hk15, by simp [bvs_length]⟩
 refine sv (xbuildS [[.int .u16 tv], [.slice (some ⟨b15, 0, none⟩) xs.length xs.length]] zr231 ly231 rfl (by simp [fitAll, zs231, Value.cells]) rfl) ?_
 refine svK (xallS (lens := [1, 1]) in231 (by simp [])) ?_
 rintro _ w7 ⟨b10, rfl, m8, h10, e6, s6⟩
 have hm := rng_fr hm m8 (by omega) id
 have hG := hG.keep (fun k hk => by omega) m8 nF
 have hf := hf.step0 m8
 have h8 := h8.keep m8 id
 have h15 := h15.keep m8 id
 refine suK (xstW h10 (lens' := [1, 1]) sz231 (by simp []) rfl rfl rfl rfl) ?_
 rintro w10 ⟨m11, h10, s9⟩
 have hm := rng_fr hm m11 (by omega) (by show ¬ (bm = b10); omega)
 have hG := hG.keep (fun k hk => by omega) m11 (fun k hk hS => by have hk := hk; have hS : k = b10 := hS; omega)
 have hf := hf.step m11 (nB (by omega))
 have h8 := h8.keep m11 (by show ¬ (b8 = b10); omega)
 have h15 := h15.keep m11 (by show ¬ (b15 = b10); omega)
 refine send (fg [(1, _), (2, _), (8, _), (10, _)] ⟨rfl, rfl, rfl, rfl, ⟨⟩⟩ fun _ => (wp_seq (sreg (sM rfl (sM rfl (sv (xfld fl231_1 rfl) (sv (xld on37 rfl (h10.r.c 1 rfl rfl)) ?_)))))))
 refine sc (xcall ca212 rfl) (c212 (b := b) (bp := b15) (q := 0) (ip := 0) (off := off) (d := xs.length) (xs := xs) hms hm (by omega) hnb hkm hbl hG (by omega) h15 (by omega) (by omega) rfl rfl hs (by omega) rfl (by simp [bvs_length]) hle h0) ?_
 rintro _ w12 ⟨⟨hle22, rfl, h15⟩ | ⟨hgt22, ⟨T22, x22, rfl⟩, o22, h15⟩, m13⟩
 ·
  have z14 := m13.size
  have hf := hf.step m13 (nB (by omega))
  have h8 := h8.keep m13 (by show ¬ (b8 = b15); omega)
  have h10 := h10.keep m13 (by show ¬ (b10 = b15); omega)
  have h15 : SB w12 b15 [xs.length] [bvs xs] := h15
  refine sM rfl (sv (xex20 rfl) (sv (xex21 rfl) (sA rfl (sA rfl (send (fg [(8, _), (10, _), (12, _)] ⟨rfl, rfl, rfl, ⟨⟩⟩ fun _ => (sreg (sM rfl (sv (xneN if89 rfl) (send (fg [(8, _), (10, _), (12, _), (26, _)] ⟨rfl, rfl, rfl, rfl, ⟨⟩⟩ fun _ => (cno rfl (wp_skip (nThen (fg [(8, _), (10, _)] ⟨rfl, rfl, ⟨⟩⟩ fun _ => (sreg (sv (xldS (lens := [1, 1]) ro231 rfl h10.r) ?_)))))))))))))))))
  refine suK (xstW h8 (lens' := [1, 1]) sz231 (by simp []) rfl rfl rfl rfl) ?_
  rintro w16 ⟨m17, h8, s15⟩
  have hf := hf.step m17 (nB (by omega))
  have h15 := h15.keep m17 (by show ¬ (b15 = b8); omega)
  refine sA rfl (send (fg [(8, _), (9, _)] ⟨rfl, rfl, ⟨⟩⟩ fun _ => (wp_ret ?_)))
  refine rp2 rfl ⟨_, rfl, ldS (lens := [1, 1]) ro231 h8.r⟩ rfl ?_
  have hr15 := h15.r.seg (i := 0) (k := 0) rfl rfl
  exact ⟨.inl ⟨by omega, _, rfl, _, _, rfl, fun _ => ⟨b15, 0, rfl, .inr ⟨by omega, by omega⟩, hr15⟩⟩, hf⟩
 ·
  have z18 := m13.size
  have hf := hf.step m13 (nB (by omega))
  have h8 := h8.keep m13 (by show ¬ (b8 = b15); omega)
  refine sM rfl (sv (xex20 rfl) (sv (xex21 rfl) (sA rfl (sA rfl (send (fg [(8, _), (10, _), (12, _)] ⟨rfl, rfl, rfl, ⟨⟩⟩ fun _ => (sreg (sM rfl (sv (xneI if89 rfl) (send (fg [(8, _), (10, _), (12, _), (26, _)] ⟨rfl, rfl, rfl, rfl, ⟨⟩⟩ fun _ => (cyes rfl (sreg (sv (xbuildS [[.int .u16 0], [.slice none 0 0]] zr231 ly231 rfl trivial (by simp [setAll, zs231])) (sM rfl ?_)))))))))))))))
  refine suK (xstW h8 (lens' := [1, 1]) sz231 (by simp []) rfl rfl rfl rfl) ?_
  rintro w20 ⟨m21, h8, s19⟩
  have hf := hf.step m21 (nB (by omega))
  refine sA rfl (send (fg [(8, _), (9, _)] ⟨rfl, rfl, ⟨⟩⟩ fun _ => (wp_ret (rThen ?_))))
  refine rp2 rfl ⟨_, rfl, ldS (lens := [1, 1]) ro231 h8.r⟩ rfl ?_
  exact ⟨.inr ⟨by omega, _, _, rfl⟩, hf⟩
end Go.Proofs.YtifnodoffgfpbaaGreatDoor

namespace Go.Proofs.YtifnodoffgfpbaaGreatDoor
open Go

theorem wu16c {c : Int} (n : Nat) (h : c = (n : Int)) (hl : n < 65536) : IntKind.u16.wrap c = (n : Int) := by rw [h]; exact wu16 (by omega) (by omega)

set_option maxHeartbeats 4000000 in
set_option maxRecDepth 100000 in
theorem c201 {w : World} {a : Option Addr} {bm om km n : Nat} {b : List UInt8} (hms : n ≠ 0 → a = some ⟨bm, om, none⟩) (hm : w.rangeAt bm om (bvs (b.take n))) (hbm : bm < w.heap.size) (hnb : n ≤ b.length) (hkm : n ≤ km) (hbl : b.length < 100000000) (hG : GE w) (hsz : 21 ≤ w.heap.size) {off : Nat} {ts : List ByteArray} (htd : ∀ t ∈ ts, t.size ≤ 255) (hs : Std b off (textsL ts)) (hL : (textsL ts).length < 65536) (hle : off + (textsL ts).length ≤ b.length) (hon : off ≤ n) :
  Ret PP 201 [.slice a n km, .int .i64 (off : Int), .int .u16 ((textsL ts).length : Int)] w (fun u w' => ((off + (textsL ts).length ≤ n ∧ ∃ v, u = .tuple #[ag [[v]], .nilIface] ∧ LA TextEl [1] (Ub NoU w w') w' v ts) ∨ (n < off + (textsL ts).length ∧ ∃ (T : TypeId) (x : Option Addr), u = .tuple #[ag [[.slice none 0 0]], .iface T (.pointer x)])) ∧ Fr0 w w') := by
 have htn := textsL_length ts
 have hf : Fr (fun _ => False) w w := Fr.refl _ _
 refine ret_of Tryz.func201 rfl rfl rfl [(0, _), (1, _), (2, _)] rfl ?_
 refine sreg ?_
 refine svK (xallS (lens := [1]) in207 (by simp [])) ?_
 rintro _ w2 ⟨b6, rfl, m3, h6, e1, s1⟩
 have hm := rng_fr hm m3 (by omega) id
 have hG := hG.keep (fun k hk => by omega) m3 nF
 have hf := hf.step0 m3
 refine sA rfl (send (fg [(0, _), (1, _), (2, _), (6, _)] ⟨rfl, rfl, rfl, rfl, ⟨⟩⟩ fun _ => (sreg ?_)))
 refine svK (xmake (lo := 0) (hi := 1) sl62 in9 rfl (by decide) rfl rfl rfl rfl (by omega) (by omega) (by simp only [maxLen]; omega) rfl) ?_
 rintro _ w4 ⟨b12, rfl, m5, h12, e12, s12, r12⟩
 have hm := rng_fr hm m5 (by omega) id
 have hG := hG.keep (fun k hk => by omega) m5 nF
 have hf := hf.step0 m5
 have h6 := h6.keep m5 id
 have r12 : Rw w4 _ b12 9 1 0 (strs (ts.take 0)) := r12
 refine sA rfl (send (fg [(0, _), (1, _), (2, _), (6, _), (8, _)] ⟨rfl, rfl, rfl, rfl, rfl, ⟨⟩⟩ fun _ => (wp_seq (sreg (sA rfl (send (fg [(0, _), (1, _), (2, _), (6, _), (8, _), (9, _)] ⟨rfl, rfl, rfl, rfl, rfl, rfl, ⟨⟩⟩ fun _ => (wp_block ?_))))))))
 refine lp [(0, _), (2, _), (6, _)] (fun (x : Nat × Value × Nat) => match x with | (k, v, g) => [(1, .int .i64 ((off + (textsL (ts.take k)).length : Nat) : Int)), (8, v), (9, .int .u16 ((textsL (ts.take k)).length : Int))]) (fun (x : Nat × Value × Nat) wx => match x with | (k, v, g) => Fr (fun k => k = b12 ∨ k = b6) w4 wx ∧ (k ≤ ts.length) ∧ (off + (textsL (ts.take k)).length ≤ n) ∧ (Rw wx v g 9 1 k (strs (ts.take k))) ∧ (g = b12 ∨ w4.heap.size ≤ g) ∧ (g < wx.heap.size) ∧ (SB wx b6 [1] [[.slice none 0 0]]) ∧ (g ≠ b6)) (fun (x : Nat × Value × Nat) => match x with | (k, v, g) => ts.length - k) (0, _, b12) ⟨rfl, rfl, rfl, rfl, rfl, rfl, trivial⟩ ⟨Fr.refl _ _, Nat.zero_le _, hon, r12, .inl rfl, by omega, h6, by omega⟩ ?_
 rintro ⟨k, v, g⟩ _ w7 ⟨hL6, hk, hkn, hvt, hg, hg2, h6, hg3⟩
 refine fg [(0, _), (1, _), (2, _), (6, _), (8, _), (9, _)] ⟨rfl, rfl, rfl, rfl, rfl, rfl, ⟨⟩⟩ fun _ => ?_
 have z8 := hL6.size
 have hm := rng_fr hm hL6 (by omega) (by show ¬ (bm = b12 ∨ bm = b6); omega)
 have hG := hG.keep (fun k hk => by omega) hL6 (fun k hk hS => by have hk := hk; have hS : k = b12 ∨ k = b6 := hS; omega)
 have hf := hf.step hL6 (fun k hk hS => by have hS : k = b12 ∨ k = b6 := hS; show False; omega)
 obtain ⟨av, cv, rfl, -⟩ := hvt.form
 refine wp_seq (sreg (sM rfl (sM rfl ?_)))
 refine svP (xlss rfl rfl) (fun hc15 => ?_) (fun hc15 => ?_)
 ·
  refine send (fg [(0, _), (1, _), (2, _), (6, _), (8, _), (9, _), (15, _)] ⟨rfl, rfl, rfl, rfl, rfl, rfl, rfl, ⟨⟩⟩ fun _ => (cyes rfl (wp_skip (nThen (fg [(0, _), (1, _), (2, _), (6, _), (8, _), (9, _)] ⟨rfl, rfl, rfl, rfl, rfl, rfl, ⟨⟩⟩ fun _ => (wp_block ?_))))))
  have hkl : k < ts.length := by rcases Nat.lt_or_ge k ts.length with h | h; exact h; rw [List.take_of_length_le h] at hc15; omega
  obtain ⟨t, htk⟩ := some_of_lt hkl
  have hts := texts_at hs htk
  have htt := texts_take_lt htk
  have htz := htd t (List.mem_of_getElem? htk)
  have htk1 : (textsL (ts.take (k + 1))).length = (textsL (ts.take k)).length + 1 + t.size := by rw [texts_snoc htk]; simp only [textL, List.length_append, List.length_cons, bt_length]; omega
  have hts : Std b (off + (textsL (ts.take k)).length) (UInt8.ofNat (bt t).length :: bt t) := by rw [bt_length]; exact hts
  refine sreg (sA rfl (send (fg [(0, _), (1, _), (2, _), (6, _), (8, _), (9, _)] ⟨rfl, rfl, rfl, rfl, rfl, rfl, ⟨⟩⟩ fun _ => (sreg (sA rfl (send (fg [(0, _), (1, _), (2, _), (6, _), (8, _), (9, _)] ⟨rfl, rfl, rfl, rfl, rfl, rfl, ⟨⟩⟩ fun _ => (wp_seq (sreg (sM rfl (sM rfl ?_)))))))))))
  refine sc (xcall ca213 rfl) (c213 (b := b) (off := off + (textsL (ts.take k)).length) (xs := bt t) hms hm (by omega) hnb hkm hbl hG (by omega) (by rw [bt_length]; omega) hts (by rw [bt_length]; omega)) ?_
  rintro _ w9 ⟨⟨hle19, hu19⟩ | ⟨hgt19, T19, x19, rfl⟩, m10⟩
  ·
   have z11 := m10.size
   have hf := hf.step0 m10
   have hvt := hvt.keep m10 id
   have h6 := h6.keep m10 id
   have hL6 := hL6.step0 m10
   have hbt := bt_length t
   have hmz : (mkB (bt t)).size = t.size := rfl
   rw [show off + (textsL (ts.take k)).length + 1 + (bt t).length = off + (textsL (ts.take (k + 1))).length by omega] at hu19
   subst hu19
   refine sM rfl (sv (xex30 rfl) (sv (xex31 rfl) (sv (xex32 rfl) (sA rfl (sA rfl (sA rfl (send (fg [(0, _), (1, _), (2, _), (6, _), (8, _), (9, _), (10, _), (11, _)] ⟨rfl, rfl, rfl, rfl, rfl, rfl, rfl, rfl, ⟨⟩⟩ fun _ => (sreg (sM rfl (sv (xneN if89 rfl) (send (fg [(0, _), (1, _), (2, _), (6, _), (8, _), (9, _), (10, _), (11, _), (24, _)] ⟨rfl, rfl, rfl, rfl, rfl, rfl, rfl, rfl, rfl, ⟨⟩⟩ fun _ => (cno rfl (wp_skip (nThen (fg [(0, _), (1, _), (2, _), (6, _), (8, _), (9, _), (10, _)] ⟨rfl, rfl, rfl, rfl, rfl, rfl, rfl, ⟨⟩⟩ fun _ => (wp_seq (sreg (sM rfl (sM rfl (sv (xsub rfl rfl (wu16 (by omega) (by omega))) (sM rfl (sv (xlenS st9 rfl) ?_))))))))))))))))))))))))
   refine sv (xconv hs3 ki22 rfl (wu16 (by omega) (by omega))) (sv (xadd rfl rfl (wu16 (by omega) (by omega))) (sv (exF (xlss rfl rfl) (by omega)) (send (fg [(0, _), (1, _), (2, _), (6, _), (8, _), (9, _), (10, _), (37, _)] ⟨rfl, rfl, rfl, rfl, rfl, rfl, rfl, rfl, ⟨⟩⟩ fun _ => (cno rfl (wp_skip (nThen (fg [(0, _), (1, _), (2, _), (6, _), (8, _), (9, _), (10, _)] ⟨rfl, rfl, rfl, rfl, rfl, rfl, rfl, ⟨⟩⟩ fun _ => (sreg (sM rfl (sM rfl (sv (xlenS st9 rfl) (sv (xconv hs3 ki22 rfl (wu16 (by omega) (by omega))) (sv (xadd rfl rfl (wu16 (by omega) (by omega))) (sv (xadd rfl rfl (wu16c (textsL (ts.take (k + 1))).length (by omega) (by omega))) (sA rfl (send (fg [(0, _), (1, _), (2, _), (6, _), (8, _), (9, _), (10, _)] ⟨rfl, rfl, rfl, rfl, rfl, rfl, rfl, ⟨⟩⟩ fun _ => (lreg (sM rfl (sM rfl ?_)))))))))))))))))))))
   refine svK (xslit ([.string t]) sl62 in9 rfl (by decide) rfl rfl rfl rfl (by decide) rfl rfl) ?_
   rintro _ w13 ⟨b48, rfl, m14, h48, e48, s48, r48⟩
   have hf := hf.step0 m14
   have hvt := hvt.keep m14 id
   have h6 := h6.keep m14 id
   have hL6 := hL6.step0 m14
   refine svK (xapp sl62 in9 rfl (by decide) rfl rfl hvt (r48.src sl62) (by simp only [maxLen]; omega) (by omega)) ?_
   rintro _ w15 ⟨g49, r49, m16, a49, l49⟩
   have z17 := m16.size
   have hf := hf.step m16 (nB (by omega))
   have h6 := h6.keep m16 (by show ¬ (b6 = g); omega)
   have hL6 := hL6.step m16 (fun k hk hS => by have hS : k = g := hS; show k = b12 ∨ k = b6; omega)
   obtain ⟨p49, q49, rfl, -⟩ := r49.form
   refine sA rfl (lend (nBlock (nThen ?_)))
   refine ⟨(k + 1, _, g49), _, env_okl ⟨rfl, rfl, rfl, rfl, rfl, rfl, trivial⟩, ⟨hL6, (by omega), (by omega), (by rw [strs_snoc htk]; exact r49), (by omega), (by have hq := l49 (by omega); omega), (h6), (by omega)⟩, ?_⟩
   show ts.length - (k + 1) < ts.length - k; omega
  ·
   have z18 := m10.size
   have hf := hf.step0 m10
   have hvt := hvt.keep m10 id
   have h6 := h6.keep m10 id
   have hbt := bt_length t
   have hmz : (mkB (bt t)).size = t.size := rfl
   refine sM rfl (sv (xex30 rfl) (sv (xex31 rfl) (sv (xex32 rfl) (sA rfl (sA rfl (sA rfl (send (fg [(0, _), (1, _), (2, _), (6, _), (8, _), (9, _), (10, _), (11, _)] ⟨rfl, rfl, rfl, rfl, rfl, rfl, rfl, rfl, ⟨⟩⟩ fun _ => (sreg (sM rfl (sv (xneI if89 rfl) (send (fg [(0, _), (1, _), (2, _), (6, _), (8, _), (9, _), (10, _), (11, _), (24, _)] ⟨rfl, rfl, rfl, rfl, rfl, rfl, rfl, rfl, rfl, ⟨⟩⟩ fun _ => (cyes rfl (sreg (sv (xbuildS [[.slice none 0 0]] zr207 ly207 rfl trivial (by simp [setAll, zs207])) (sM rfl (sv (xbuildS [[_], [_]] zr168 ly168 rfl (by simp [fitAll, zs168, Value.cells]) rfl) ?_))))))))))))))))))
   refine svK (xboxS (lens := [1, 1]) rfl (by simp [])) ?_
   rintro _ w20 ⟨b28, rfl, m21, h28, e19, s19⟩
   have hf := hf.step0 m21
   have hvt := hvt.keep m21 id
   have h6 := h6.keep m21 id
   refine sv (xmkif ni166 rfl) ?_
   refine suK (xstW h6 (lens' := [1]) sz207 (by simp []) rfl rfl rfl rfl) ?_
   rintro w23 ⟨m24, h6, s22⟩
   have hf := hf.step m24 (nB (by omega))
   have hvt := hvt.keep m24 (by show ¬ (g = b6); omega)
   refine sA rfl (send (fg [(6, _), (7, _)] ⟨rfl, rfl, ⟨⟩⟩ fun _ => (wp_ret (rThen (rBlock (rThen (rBlock (rThen ?_))))))))
   refine rp2 rfl ⟨_, rfl, ldS (lens := [1]) ro207 h6.r⟩ rfl ?_
   exact ⟨.inr ⟨by omega, _, _, rfl⟩, hf⟩
 ·
  refine send (fg [(0, _), (1, _), (2, _), (6, _), (8, _), (9, _), (15, _)] ⟨rfl, rfl, rfl, rfl, rfl, rfl, rfl, ⟨⟩⟩ fun _ => (cno rfl (wp_exit (eThen (eThen (eHit (nThen (fg [(6, _), (8, _)] ⟨rfl, rfl, ⟨⟩⟩ fun _ => (sreg (sM rfl (sv (xbuildS [[.slice av k cv]] zr207 ly207 rfl (by simp [fitAll, zs207, Value.cells]) (by simp [setAll, zs207, Value.cells])) ?_)))))))))))
  refine suK (xstW h6 (lens' := [1]) sz207 (by simp []) rfl rfl rfl rfl) ?_
  rintro w26 ⟨m27, h6, s25⟩
  have hf := hf.step m27 (nB (by omega))
  have hvt := hvt.keep m27 (by show ¬ (g = b6); omega)
  refine sA rfl (send (fg [(6, _), (7, _)] ⟨rfl, rfl, ⟨⟩⟩ fun _ => (wp_ret ?_)))
  refine rp2 rfl ⟨_, rfl, ldS (lens := [1]) ro207 h6.r⟩ rfl ?_
  have hkl : ts.length ≤ k := by rcases Nat.lt_or_ge k ts.length with h | h; exact absurd (texts_take_lt (List.getElem?_eq_getElem h)) (by omega); exact h
  have hke : k = ts.length := by omega
  have e1 : ts.take k = ts := List.take_of_length_le hkl
  rw [e1] at hvt hkn
  exact ⟨.inl ⟨hkn, _, rfl, la_texts hvt hke (fun h => .inr ⟨by omega, by omega⟩)⟩, hf⟩
end Go.Proofs.YtifnodoffgfpbaaGreatDoor

namespace Go.Proofs.YtifnodoffgfpbaaGreatDoor
open Go

theorem std_drop (b : List UInt8) (i : Nat) : Std b i (b.drop i) := fun j c h => by
  rw [List.getElem?_drop] at h; exact h
theorem drop_take {b xs : List UInt8} {n i : Nat} (h : Std b i xs) (hn : i + xs.length ≤ n) : ((b.take n).drop i).take xs.length = xs := by
  apply List.ext_getElem?
  intro j
  by_cases hj : j < xs.length
  · rw [List.getElem?_take, if_pos hj, List.getElem?_drop, List.getElem?_take, if_pos (by omega), List.getElem?_eq_getElem hj]
    exact h j _ (List.getElem?_eq_getElem hj)
  · rw [List.getElem?_eq_none (by simp; omega), List.getElem?_eq_none (by omega)]
theorem drop_len {b : List UInt8} {n : Nat} (i : Nat) (hnb : n ≤ b.length) : ((b.take n).drop i).length = n - i := by simp [Nat.min_eq_left hnb]
/-- the message from a place on -/
theorem rest_ba {w : World} {bm om o' n i c : Nat} {b : List UInt8} (hm : w.rangeAt bm om (bvs (b.take n))) (hnb : n ≤ b.length) (ho : i < c → o' = om + i * 1) (hi : i ≤ n) (hc : n ≤ c) : BA (fun k => k = bm) w (.slice (some ⟨bm, o', none⟩) (n - i) (c - i)) ((b.take n).drop i) :=
  take_ba (cut_rng hm (std_drop _ i) ho (by rw [drop_len i hnb]; omega)) (drop_len i hnb)
section
variable {P : Program} {n : Nat} {l : List (Nat × Value)} {w : World} {ty : TypeId} {x y : Operand}
/-- copy into a part, that may be longer than what is copied -/
theorem xcopyM {T TX E : TypeId} {bp o' c i d m : Nat} {lens : List Nat} {segs : List (List Value)} {zs : List Value} {ys : List UInt8} {u : Value} (hT : slcB P T E = true) (hE : szB P E 1 = true) (hx : ev n l x = some (.slice (some ⟨bp, o', none⟩) d c)) (hy : ev n l y = some u)
    (hc : Cpy P w u ys) (hm : ys.length = m) (hP : SB w bp lens segs) (hi : segs[i]? = some zs) (hz : zs.length = d) (hq : (lens.take i).sum = o') :
    ExK P n l (.call { callee := .builtin .copy, args := #[x, y], argTypes := #[T, TX] }) ty w (fun v w' => v = .int .i64 ((min m d : Nat) : Int) ∧ Fr (· = bp) w w' ∧ (d ≤ m → SB w' bp lens (segs.set i (bvs (ys.take d)))) ∧ w'.heap.size = w.heap.size) := by
  subst hm
  have hlt : i < segs.length := (List.getElem?_eq_some_iff.1 hi).1
  have he : segs[i] = zs := (List.getElem?_eq_some_iff.1 hi).2
  have hof := offs_lens hP.2 i
  have hle := offs_le segs i hlt
  rw [he, hz] at hle
  have hbl : (bvs (ys.take (min ys.length d))).length = min ys.length d := by rw [bvs_length, List.length_take]; omega
  obtain ⟨v, w', h, h1, h2, h3, h4⟩ := xcopy (TX := TX) (ty := ty) hT hE hx hy (sn := ys.length) (news := bvs (ys.take (min ys.length d))) hc.1 hbl (hc.2 _ (Nat.min_le_left _ _)) (bvs_one _) hP.1 (by omega)
  refine ⟨v, w', h, by rw [h1, hbl], h2, fun hd => ?_, h4⟩
  rw [Nat.min_eq_right hd] at h3 hbl
  refine ⟨?_, ?_⟩
  · have e := splice_flat segs i (bvs (ys.take d)) hlt (by rw [he, hbl, hz])
    rw [show offs segs i = o' by omega] at e
    rw [← e]; exact h3
  · rw [set_lens hlt (by rw [he, hbl, hz])]; exact hP.2
/-- copy behind what has been copied -/
theorem xcopyV {T TX E : TypeId} {bp o r c : Nat} {D xs : List UInt8} {u : Value} (hT : slcB P T E = true) (hE : szB P E 1 = true) (hx : ev n l x = some (.slice (some ⟨bp, o, none⟩) r c)) (hy : ev n l y = some u)
    (hc : Cpy P w u xs) (hle : xs.length ≤ r) (hP : Blk w bp (bvs D ++ bvs (List.replicate r 0))) (ho : 0 < r → o = D.length) (ho2 : o ≤ D.length + r) :
    ExK P n l (.call { callee := .builtin .copy, args := #[x, y], argTypes := #[T, TX] }) ty w (fun v w' => v = .int .i64 (xs.length : Int) ∧ Fr (· = bp) w w' ∧ Blk w' bp (bvs (D ++ xs) ++ bvs (List.replicate (r - xs.length) 0)) ∧ w'.heap.size = w.heap.size) := by
  have hbl : (bvs xs).length = xs.length := bvs_length _
  have hml : min xs.length r = xs.length := Nat.min_eq_left hle
  have hfit : o + (bvs xs).length ≤ (bvs D ++ bvs (List.replicate r 0)).length := by
    rw [List.length_append, bvs_length, bvs_length, bvs_length, List.length_replicate]
    by_cases hr : 0 < r
    · rw [ho hr]; omega
    · omega
  obtain ⟨v, w', h, h1, h2, h3, h4⟩ := xcopy (TX := TX) (ty := ty) hT hE hx hy (sn := xs.length) (news := bvs xs) hc.1 (by rw [hbl]; exact hml.symm) (by have := hc.2 xs.length (Nat.le_refl _); rw [List.take_length] at this; show (Builtin.firstCells 1 (min xs.length r) u).run P w = _; rw [hml]; exact this) (bvs_one _) hP hfit
  refine ⟨v, w', h, by rw [h1, hbl], h2, ?_, h4⟩
  have e : splice (bvs D ++ bvs (List.replicate r 0)) o (bvs xs) = bvs (D ++ xs) ++ bvs (List.replicate (r - xs.length) 0) := by
    have er : List.replicate r (0 : UInt8) = List.replicate xs.length 0 ++ List.replicate (r - xs.length) 0 := by
      rw [List.replicate_append_replicate]; congr 1; omega
    by_cases hr : 0 < r
    · rw [ho hr, er, bvs_app, bvs_app]
      have h5 := splice_mid (bvs D) (bvs (List.replicate xs.length 0)) (bvs (List.replicate (r - xs.length) 0)) (bvs xs) (by simp [bvs])
      rw [bvs_length] at h5
      rw [h5, List.append_assoc]
    · obtain rfl : xs = [] := List.eq_nil_of_length_eq_zero (by omega)
      simp [splice, bvs]
  rw [e] at h3; exact h3
/-- x[:hi:max] of a slice -/
theorem xcutHM {T E : TypeId} {sz m c hi mx : Nat} {a : Option Addr} {k k' : IntKind} {j j' : Int} {q q' : Operand} (hT : slcB P T E = true) (hE : szB P E sz = true) (hx : ev n l x = some (.slice a m c))
    (hq : ev n l q = some (.int k j)) (hq' : ev n l q' = some (.int k' j')) (hj : j = (hi : Int)) (hj' : j' = (mx : Int)) (h1 : hi ≤ mx) (h2 : mx ≤ c) :
    Ex P n l (.slice T x none (some q) (some q')) ty w (.slice a hi mx) w := fun r _ _ _ _ => by
  subst hj hj'
  have hs := szB_spec hE
  cases hi' : P.info? E with
  | none => rw [hi'] at hs; cases hs
  | some u =>
    rw [hi'] at hs
    simp only [Option.map_some, Option.some.injEq] at hs
    simp only [execOp, ev_eval r hx]
    simp [Instr.sliceAt, Instr.slice, run_underlying (slcB_spec hT), Instr.sliceBounds, ev_eval r hq, ev_eval r hq', run_sb h1, run_sb h2, sizeOf, typeInfo, hi']
    cases a with
    | none => simp
    | some a => simp [Addr.add]
end

set_option maxHeartbeats 4000000 in
set_option maxRecDepth 100000 in
theorem c205 {w : World} {a : Option Addr} {bm om km n : Nat} {b : List UInt8} (hms : n ≠ 0 → a = some ⟨bm, om, none⟩) (hm : w.rangeAt bm om (bvs (b.take n))) (hbm : bm < w.heap.size) (hnb : n ≤ b.length) (hkm : n ≤ km) (hbl : b.length < 100000000) (hG : GE w) (hsz : 21 ≤ w.heap.size) {off : Nat} {ps : List PairD} (hs : Std b off (pairsL ps)) (hL : (pairsL ps).length < 65536) (hle : off + (pairsL ps).length ≤ b.length) (hon : off ≤ n) :
  Ret PP 205 [.slice a n km, .int .i64 (off : Int), .int .u16 ((pairsL ps).length : Int)] w (fun u w' => ((off + (pairsL ps).length ≤ n ∧ ∃ v, u = .tuple #[ag [[v]], .nilIface] ∧ LA PairEl lPair (Ub NoU w w') w' v ps) ∨ (n < off + (pairsL ps).length ∧ ∃ (T : TypeId) (x : Option Addr), u = .tuple #[ag [[.slice none 0 0]], .iface T (.pointer x)])) ∧ Fr0 w w') := by
 have hU : ∀ k, NoU k → k < w.heap.size := fun _ h => h.elim
 have hpn := pairsL_length ps
 have hf : Fr (fun _ => False) w w := Fr.refl _ _
 refine ret_of Tryz.func205 rfl rfl rfl [(0, _), (1, _), (2, _)] rfl ?_
 refine sreg ?_
 refine svK (xallS (lens := [1]) in218 (by simp [])) ?_
 rintro _ w2 ⟨b6, rfl, m3, h6, e1, s1⟩
 have hm := rng_fr hm m3 (by omega) id
 have hG := hG.keep (fun k hk => by omega) m3 nF
 have hf := hf.step0 m3
 refine sA rfl (send (fg [(0, _), (1, _), (2, _), (6, _)] ⟨rfl, rfl, rfl, rfl, ⟨⟩⟩ fun _ => (sreg (sA rfl (send (fg [(0, _), (1, _), (2, _), (6, _), (8, _)] ⟨rfl, rfl, rfl, rfl, rfl, ⟨⟩⟩ fun _ => (wp_seq (sreg (sM rfl (sA rfl (send (fg [(0, _), (1, _), (2, _), (6, _), (8, _), (9, _)] ⟨rfl, rfl, rfl, rfl, rfl, rfl, ⟨⟩⟩ fun _ => (wp_block ?_)))))))))))))
 refine lp [(0, _), (2, _), (6, _), (9, _)] (fun (x : Nat × Value × Nat) => match x with | (k, v, g) => [(1, .int .i64 ((off + (pairsL (ps.take k)).length : Nat) : Int)), (8, v)]) (fun (x : Nat × Value × Nat) wx => match x with | (k, v, g) => Fr (fun k => k = b6) w2 wx ∧ (k ≤ ps.length) ∧ (off + (pairsL (ps.take k)).length ≤ n) ∧ ((v = .slice none 0 0 ∧ k = 0) ∨ (RX PairEl lPair NoU (b6 + 1) wx.heap.size wx v g 220 k (ps.take k) ∧ b6 < g ∧ g < wx.heap.size)) ∧ (SB wx b6 [1] [[.slice none 0 0]])) (fun (x : Nat × Value × Nat) => match x with | (k, v, g) => ps.length - k) (0, .slice none 0 0, 0) ⟨rfl, rfl, rfl, rfl, rfl, rfl, trivial⟩ ⟨Fr.refl _ _, Nat.zero_le _, hon, .inl ⟨rfl, rfl⟩, h6⟩ ?_
 rintro ⟨k, v, g⟩ _ w5 ⟨hL4, hk, hkn, hnv, h6⟩
 refine fg [(0, _), (1, _), (2, _), (6, _), (8, _), (9, _)] ⟨rfl, rfl, rfl, rfl, rfl, rfl, ⟨⟩⟩ fun _ => ?_
 have z6 := hL4.size
 have hm := rng_fr hm hL4 (by omega) (by show ¬ (bm = b6); omega)
 have hG := hG.keep (fun k hk => by omega) hL4 (fun k hk hS => by have hk := hk; have hS : k = b6 := hS; omega)
 have hf := hf.step hL4 (nB (by omega))
 rcases hnv with ⟨rfl, hk0⟩ | ⟨hv3, hg1, hg2⟩
 ·
  refine wp_seq (sreg (sM rfl (sM rfl (sM rfl (sv (xconv hs22 ki3 rfl (w64 (by omega) (by omega))) (sv (xadd rfl rfl (w64n (off + (pairsL ps).length) (by omega) (by omega))) ?_))))))
  refine svP (xlss rfl rfl) (fun hc19 => ?_) (fun hc19 => ?_)
  ·
   refine send (fg [(0, _), (1, _), (2, _), (6, _), (8, _), (9, _), (19, _)] ⟨rfl, rfl, rfl, rfl, rfl, rfl, rfl, ⟨⟩⟩ fun _ => (cyes rfl (wp_skip (nThen (fg [(0, _), (1, _), (2, _), (6, _), (8, _), (9, _)] ⟨rfl, rfl, rfl, rfl, rfl, rfl, ⟨⟩⟩ fun _ => (wp_block ?_))))))
   have hkl : k < ps.length := by rcases Nat.lt_or_ge k ps.length with h | h; exact h; rw [List.take_of_length_le h] at hc19; omega
   obtain ⟨p, hpk⟩ := some_of_lt hkl
   have hpt := pairs_at hs hpk
   have hptl := pairs_take_lt hpk
   have hpk16 := u16lt p.key
   have hps1 : (pairsL (ps.take (k + 1))).length = (pairsL (ps.take k)).length + 4 + p.data.length := by rw [pairs_snoc hpk]; simp only [pairL, List.length_append, be16_length]; omega
   simp only [pairL] at hpt
   have hdd : Std b (off + (pairsL (ps.take k)).length + 2 + 2) p.data := (hpt.right' rfl).right' rfl
   refine sreg (sA rfl (send (fg [(0, _), (1, _), (2, _), (6, _), (8, _), (9, _)] ⟨rfl, rfl, rfl, rfl, rfl, rfl, ⟨⟩⟩ fun _ => (sreg ?_))))
   refine svK (xallS (lens := [1, 1]) in220 (by simp [])) ?_
   rintro _ w8 ⟨b11, rfl, m9, h11, e7, s7⟩
   have hm := rng_fr hm m9 (by omega) id
   have hG := hG.keep (fun k hk => by omega) m9 nF
   have hf := hf.step0 m9
   have h6 := h6.keep m9 id
   have hL4 := hL4.step0 m9
   refine send (fg [(0, _), (1, _), (2, _), (6, _), (8, _), (9, _), (11, _)] ⟨rfl, rfl, rfl, rfl, rfl, rfl, rfl, ⟨⟩⟩ fun _ => (sreg (sM rfl (sM rfl ?_))))
   refine sc (xcall ca156 rfl) (c156 (b := b) (off := off + (pairsL (ps.take k)).length) (x := p.key.toNat) hms hm (by omega) hnb hkm hbl hG (by omega) hpk16 (hpt.left) (by omega)) ?_
   rintro _ w10 ⟨⟨hle23, rfl⟩ | ⟨hgt23, T23, x23, rfl⟩, m11⟩
   ·
    have z12 := m11.size
    have hm := rng_fr hm m11 (by omega) id
    have hG := hG.keep (fun k hk => by omega) m11 nF
    have hf := hf.step0 m11
    have h6 := h6.keep m11 id
    have hL4 := hL4.step0 m11
    have h11 := h11.keep m11 id
    refine sM rfl (sv (xex30 rfl) (sv (xex31 rfl) (sv (xex32 rfl) (sv (xfld fl220_0 rfl) ?_))))
    refine suK (xstF 0 sz22 h11 rfl rfl rfl rfl rfl) ?_
    rintro w14 ⟨m15, h11, s13⟩
    have hm := rng_fr hm m15 (by omega) (by show ¬ (bm = b11); omega)
    have hG := hG.keep (fun k hk => by omega) m15 (fun k hk hS => by have hk := hk; have hS : k = b11 := hS; omega)
    have hf := hf.step m15 (nB (by omega))
    have h6 := h6.keep m15 (by show ¬ (b6 = b11); omega)
    have hL4 := hL4.step m15 (fun k hk hS => by have hS : k = b11 := hS; show k = b6; omega)
    refine sA rfl (sA rfl (send (fg [(0, _), (1, _), (2, _), (6, _), (8, _), (9, _), (10, _), (11, _)] ⟨rfl, rfl, rfl, rfl, rfl, rfl, rfl, rfl, ⟨⟩⟩ fun _ => (wp_seq (sreg (sM rfl (sv (xneN if89 rfl) (send (fg [(0, _), (1, _), (2, _), (6, _), (8, _), (9, _), (10, _), (11, _), (29, _)] ⟨rfl, rfl, rfl, rfl, rfl, rfl, rfl, rfl, rfl, ⟨⟩⟩ fun _ => (cno rfl (wp_skip (nThen (fg [(0, _), (1, _), (2, _), (6, _), (8, _), (9, _), (11, _)] ⟨rfl, rfl, rfl, rfl, rfl, rfl, rfl, ⟨⟩⟩ fun _ => (sreg (sA rfl (send (fg [(0, _), (1, _), (2, _), (6, _), (8, _), (9, _), (11, _)] ⟨rfl, rfl, rfl, rfl, rfl, rfl, rfl, ⟨⟩⟩ fun _ => (sreg (sM rfl (sM rfl ?_))))))))))))))))))))
    refine sc (xcall ca156 rfl) (c156 (b := b) (off := off + (pairsL (ps.take k)).length + 2) (x := p.data.length) hms hm (by omega) hnb hkm hbl hG (by omega) (by omega) ((hpt.right' rfl).left) (by omega)) ?_
    rintro _ w16 ⟨⟨hle38, rfl⟩ | ⟨hgt38, T38, x38, rfl⟩, m17⟩
    ·
     have z18 := m17.size
     have hm := rng_fr hm m17 (by omega) id
     have hG := hG.keep (fun k hk => by omega) m17 nF
     have hf := hf.step0 m17
     have h6 := h6.keep m17 id
     have hL4 := hL4.step0 m17
     have h11 := h11.keep m17 id
     refine sM rfl (sv (xex30 rfl) (sv (xex31 rfl) (sv (xex32 rfl) (sA rfl (sA rfl (sA rfl (send (fg [(0, _), (1, _), (2, _), (6, _), (8, _), (9, _), (10, _), (11, _), (12, _)] ⟨rfl, rfl, rfl, rfl, rfl, rfl, rfl, rfl, rfl, ⟨⟩⟩ fun _ => (wp_seq (sreg (sM rfl (sv (xneN if89 rfl) (send (fg [(0, _), (1, _), (2, _), (6, _), (8, _), (9, _), (10, _), (11, _), (12, _), (43, _)] ⟨rfl, rfl, rfl, rfl, rfl, rfl, rfl, rfl, rfl, rfl, ⟨⟩⟩ fun _ => (cno rfl (wp_skip (nThen (fg [(0, _), (1, _), (2, _), (6, _), (8, _), (9, _), (11, _), (12, _)] ⟨rfl, rfl, rfl, rfl, rfl, rfl, rfl, rfl, ⟨⟩⟩ fun _ => (sreg (sM rfl ?_))))))))))))))))))))
     refine svK (xmake (lo := p.data.length) (hi := p.data.length) sl37 in5 rfl (by decide) rfl rfl (by omega) (by omega) (by omega) (by omega) (by simp only [maxLen]; omega) rfl) ?_
     rintro _ w19 ⟨b50, rfl, m20, hk50, e50, s50, -⟩
     have hm := rng_fr hm m20 (by omega) id
     have hG := hG.keep (fun k hk => by omega) m20 nF
     have hf := hf.step0 m20
     have h6 := h6.keep m20 id
     have hL4 := hL4.step0 m20
     have h11 := h11.keep m20 id
     rw [rep_zero] at hk50
     have h50 : SB w19 b50 [p.data.length] [bvs (List.replicate p.data.length 0)] := ⟨by rw [List.flatten_cons, List.flatten_nil, List.append_nil]; exact hk50, by simp [bvs_length]⟩
     refine sv (xfld fl220_1 rfl) ?_
     refine suK (xstF 1 sz37 h11 rfl rfl rfl rfl rfl) ?_
     rintro w22 ⟨m23, h11, s21⟩
     have hm := rng_fr hm m23 (by omega) (by show ¬ (bm = b11); omega)
     have hG := hG.keep (fun k hk => by omega) m23 (fun k hk hS => by have hk := hk; have hS : k = b11 := hS; omega)
     have hf := hf.step m23 (nB (by omega))
     have h6 := h6.keep m23 (by show ¬ (b6 = b11); omega)
     have hL4 := hL4.step m23 (fun k hk hS => by have hS : k = b11 := hS; show k = b6; omega)
     have h50 := h50.keep m23 (by show ¬ (b50 = b11); omega)
     refine send (fg [(0, _), (1, _), (2, _), (6, _), (8, _), (9, _), (11, _), (12, _)] ⟨rfl, rfl, rfl, rfl, rfl, rfl, rfl, rfl, ⟨⟩⟩ fun _ => (wp_seq ?_))
     obtain rfl := hms (by omega)
     refine sdrawH (Fr (fun k => k = b50) w22.drew) [(0, .rd), (1, .rd), (2, .rd), (3, .rd), (6, .rd), (7, .rd), (4, .ld), (5, .ld), (8, .rd)] mixed (by kernel_rfl) (fun _ _ _ _ _ h => h) ?_
     have z24 : w22.drew.heap.size = w22.heap.size := rfl
     have hm := rng_fr hm (fd w22) (by omega) id
     have hG := hG.keep (fun k hk => by omega) (fd w22) nF
     have hf := hf.drew
     have h6 := h6.drew
     have hL4 := hL4.drew
     have h11 := h11.drew
     have h50 := h50.drew
     have zb_h11 := h11
     have hS25 : Fr (fun k => k = b50) w22.drew w22.drew := Fr.refl _ _
     refine hvH rfl (fun _ _ => xfld fl220_1 rfl) hS25 (hvH rfl (fun w' hS => xld on37 rfl ((zb_h11.keep hS (by show ¬ (b11 = b50); omega)).r.c 1 rfl rfl)) hS25 (qqM rfl rfl hS25 (qqM rfl rfl hS25 (qqM rfl rfl hS25 (hvH rfl (fun _ _ => xconv hs22 ki3 rfl (w64 (by omega) (by omega))) hS25 ?_)))))
     refine hlKH rfl (xcutL (lo := off + (pairsL (ps.take k)).length + 2 + 2) sl37 sz5 rfl rfl (by omega) (by omega)) ?_
     rintro _ w22.drew ⟨o56, rfl, ho56, rfl⟩
     refine ⟨hS25, ?_⟩
     refine hlKH rfl (xcopyM (i := 0) sl37 sz5 rfl rfl (cpy_ba (rest_ba hm hnb ho56 (by omega) (by omega))) (drop_len _ hnb) h50 rfl (by simp [bvs_length]) rfl) ?_
     rintro _ w27 ⟨rfl, m28, hq57, hz57⟩
     have hm := rng_fr hm m28 (by omega) (by show ¬ (bm = b50); omega)
     have hG := hG.keep (fun k hk => by omega) m28 (fun k hk hS => by have hk := hk; have hS : k = b50 := hS; omega)
     have hf := hf.step m28 (nB (by omega))
     have h6 := h6.keep m28 (by show ¬ (b6 = b50); omega)
     have hL4 := hL4.step m28 (fun k hk hS => by have hS : k = b50 := hS; show k = b6; omega)
     have h11 := h11.keep m28 (by show ¬ (b11 = b50); omega)
     have hS29 := hS25.step m28 (fun k hk hS => by have hS : k = b50 := hS; show k = b50; omega)
     refine ⟨hS29, ?_⟩
     refine hvPH rfl (fun _ _ => xneq rfl rfl) hS29 (fun hc60 => ?_) (fun hc60 => ?_)
     ·
      refine hendH (fg [(0, _), (1, _), (2, _), (6, _), (8, _), (9, _), (11, _), (12, _), (60, _)] ⟨rfl, rfl, rfl, rfl, rfl, rfl, rfl, rfl, rfl, ⟨⟩⟩ fun _ => (cyes rfl ?_))
      refine sdrawI [(6, _)] ⟨rfl, trivial⟩ (fun (x : Option Addr) => match x with | xq => [(7, .iface 166 (.pointer xq))]) (fun (x : Option Addr) wx => match x with | xq => Fr (fun k => k = b6) w27 wx ∧ (SB wx b6 [1] [[.slice none 0 0]])) (Fr (fun k => k = b6) w27.drew) (.rd 0 (.rd 1 (.rd 2 (.two 3 (.lst [(4, .rd), (5, .ld), (6, .rd)]) 5 (.lst [(3, .ld), (4, .rd), (6, .rd)]))))) mixed (by kernel_rfl) ?_ ?_
      ·
       have hC : Fr (fun k => k = b6) w27 w27 := Fr.refl _ _
       have z30 : w27.drew.heap.size = w27.heap.size := rfl
       have hm := rng_fr hm (fd w27) (by omega) id
       have hG := hG.keep (fun k hk => by omega) (fd w27) nF
       have hf := hf.drew
       have h6 := h6.drew
       have hL4 := hL4.drew
       have h11 := h11.drew
       have hC := hC.drew
       have hS31 : Fr (fun k => k = b6) w27.drew w27.drew := Fr.refl _ _
       refine hvT rfl (fun _ _ => xbuildS [[.slice none 0 0]] zr218 ly218 rfl trivial (by simp [setAll, zs218])) hS31 ?_
       obtain ⟨Tg62, xg62, eg62, hgc62, hgn62, hge62⟩ := hG.get 8 (by omega) (by omega)
       refine hvT rfl (fun w' hS => xld on89 rfl (cell_keep hgc62 hS (by omega) (by show ¬ (8 = b6); omega))) hS31 ?_
       refine hvT rfl (fun _ _ => xbuildS [[_], [_]] zr168 ly168 rfl (by simp [fitAll, zs168, Value.cells]) rfl) hS31 ?_
       refine twoT ?_ ?_
       ·
        refine hlKT rfl (xboxS (lens := [1, 1]) rfl (by simp [])) ?_
        rintro _ w33 ⟨b64, rfl, m34, h64, e32, s32⟩
        have hm := rng_fr hm m34 (by omega) id
        have hG := hG.keep (fun k hk => by omega) m34 nF
        have hf := hf.step0 m34
        have h6 := h6.keep m34 id
        have hL4 := hL4.step0 m34
        have h11 := h11.keep m34 id
        have hC := hC.step0 m34
        have hS35 := hS31.step0 m34
        refine ⟨hS35, ?_⟩
        refine lstT (hv rfl (fun _ _ => xmkif ni166 rfl) hS35 ?_)
        refine hluK rfl (xstW h6 (lens' := [1]) sz218 (by simp []) rfl rfl rfl rfl) ?_
        rintro w37 ⟨m38, h6, s36⟩
        have hm := rng_fr hm m38 (by omega) (by show ¬ (bm = b6); omega)
        have hG := hG.keep (fun k hk => by omega) m38 (fun k hk hS => by have hk := hk; have hS : k = b6 := hS; omega)
        have hf := hf.step m38 (nB (by omega))
        have hL4 := hL4.step m38 (fun k hk hS => by have hS : k = b6 := hS; show k = b6; omega)
        have h11 := h11.keep m38 (by show ¬ (b11 = b6); omega)
        have hC := hC.step m38 (fun k hk hS => by have hS : k = b6 := hS; show k = b6; omega)
        have hS39 := hS35.step m38 (fun k hk hS => by have hS : k = b6 := hS; show k = b6; omega)
        refine ⟨hS39, ?_⟩
        refine ggA rfl rfl hS39 ?_
        exact ⟨rfl, _, _, env_okl ⟨rfl, rfl, trivial⟩, ⟨hC, (h6)⟩⟩
       ·
        refine hluKT rfl (xstW h6 (lens' := [1]) sz218 (by simp []) rfl rfl rfl rfl) ?_
        rintro w41 ⟨m42, h6, s40⟩
        have hm := rng_fr hm m42 (by omega) (by show ¬ (bm = b6); omega)
        have hG := hG.keep (fun k hk => by omega) m42 (fun k hk hS => by have hk := hk; have hS : k = b6 := hS; omega)
        have hf := hf.step m42 (nB (by omega))
        have hL4 := hL4.step m42 (fun k hk hS => by have hS : k = b6 := hS; show k = b6; omega)
        have h11 := h11.keep m42 (by show ¬ (b11 = b6); omega)
        have hC := hC.step m42 (fun k hk hS => by have hS : k = b6 := hS; show k = b6; omega)
        have hS43 := hS31.step m42 (fun k hk hS => by have hS : k = b6 := hS; show k = b6; omega)
        refine ⟨hS43, ?_⟩
        refine lstT ?_
        refine hlK rfl (xboxS (lens := [1, 1]) rfl (by simp [])) ?_
        rintro _ w45 ⟨b64, rfl, m46, h64, e44, s44⟩
        have hm := rng_fr hm m46 (by omega) id
        have hG := hG.keep (fun k hk => by omega) m46 nF
        have hf := hf.step0 m46
        have h6 := h6.keep m46 id
        have hL4 := hL4.step0 m46
        have h11 := h11.keep m46 id
        have hC := hC.step0 m46
        have hS47 := hS43.step0 m46
        refine ⟨hS47, ?_⟩
        refine hv rfl (fun _ _ => xmkif ni166 rfl) hS47 (ggA rfl rfl hS47 ?_)
        exact ⟨rfl, _, _, env_okl ⟨rfl, rfl, trivial⟩, ⟨hC, (h6)⟩⟩
      ·
       rintro xq _ w48 ⟨hC, h6⟩
       have z49 := hC.size
       have hm := rng_fr hm hC (by omega) (by show ¬ (bm = b6); omega)
       have hG := hG.keep (fun k hk => by omega) hC (fun k hk hS => by have hk := hk; have hS : k = b6 := hS; omega)
       have hf := hf.step hC (nB (by omega))
       have hL4 := hL4.step hC (fun k hk hS => by have hS : k = b6 := hS; show k = b6; omega)
       have h11 := h11.keep hC (by show ¬ (b11 = b6); omega)
       refine fg [(6, _), (7, _)] ⟨rfl, rfl, ⟨⟩⟩ fun _ => (wp_ret (rThen (rBlock (rThen (rBlock (rThen ?_))))))
       refine rp2 rfl ⟨_, rfl, ldS (lens := [1]) ro218 h6.r⟩ rfl ?_
       exact ⟨.inr ⟨by omega, _, _, rfl⟩, hf⟩
     ·
      refine hendH (fg [(0, _), (1, _), (2, _), (6, _), (8, _), (9, _), (11, _), (12, _), (60, _)] ⟨rfl, rfl, rfl, rfl, rfl, rfl, rfl, rfl, rfl, ⟨⟩⟩ fun _ => (cno rfl (wp_skip (nThen (fg [(0, _), (1, _), (2, _), (6, _), (8, _), (9, _), (11, _), (12, _)] ⟨rfl, rfl, rfl, rfl, rfl, rfl, rfl, rfl, ⟨⟩⟩ fun _ => ?_)))))
      have h50 := hq57 (by omega)
      rw [drop_take hdd (by omega)] at h50
      refine sreg (sM rfl (sM rfl (sv (xconv hs22 ki3 rfl (w64 (by omega) (by omega))) (sv (xadd rfl rfl (w64n (off + (pairsL (ps.take (k + 1))).length) (by omega) (by omega))) (sA rfl (send (fg [(0, _), (1, _), (2, _), (6, _), (8, _), (9, _), (11, _)] ⟨rfl, rfl, rfl, rfl, rfl, rfl, rfl, ⟨⟩⟩ fun _ => ?_)))))))
      have hv3 : RX PairEl lPair NoU (b6 + 1) w27.heap.size w27 (.slice none 0 0) w27.heap.size 220 k (ps.take k) := by rw [hk0]; exact RX.ofNil (Rw.nil _ _ _ _)
      refine lreg (sM rfl (sv (xldS (lens := [1, 1]) ro220 rfl h11.r) ?_))
      refine svK (xslit ((pairSegs p (.slice (some ⟨b50, 0, none⟩) p.data.length p.data.length)).flatten) sl216 in220 rfl (by decide) rfl rfl rfl rfl (by decide) rfl rfl) ?_
      rintro _ w51 ⟨b72, rfl, m52, h72, e72, s72, r72⟩
      have hm := rng_fr hm m52 (by omega) id
      have hG := hG.keep (fun k hk => by omega) m52 nF
      have hf := hf.step0 m52
      have h6 := h6.keep m52 id
      have hL4 := hL4.step0 m52
      have h11 := h11.keep m52 id
      have h50 := h50.keep m52 id
      have hv3 := RX.keep hv3 pair_st (fun k hk => by have hk := hU k hk; omega) (by omega) m52 (fun _ _ _ h => h) id
      obtain ⟨ss73, hR73, hA73⟩ := hv3
      refine svK (xapp sl216 in220 rfl (by decide) rfl rfl hR73 (r72.src sl216) (by simp only [maxLen]; omega) (by omega)) ?_
      rintro v73 w53 ⟨g73, r73, m54, a73, l73⟩
      have z55 := m54.size
      have hm := rng_fr hm m54 (by omega) (by show ¬ (bm = w27.heap.size); omega)
      have hG := hG.keep (fun k hk => by omega) m54 (fun k hk hS => by have hk := hk; have hS : k = w27.heap.size := hS; omega)
      have hf := hf.step m54 (fun k hk hS => by have hS : k = w27.heap.size := hS; show False; omega)
      have h6 := h6.keep m54 (by show ¬ (b6 = w27.heap.size); omega)
      have hL4 := hL4.step m54 (fun k hk hS => by have hS : k = w27.heap.size := hS; show k = b6; omega)
      have h11 := h11.keep m54 (by show ¬ (b11 = w27.heap.size); omega)
      have h50 := h50.keep m54 (by show ¬ (b50 = w27.heap.size); omega)
      have hv3 := RX.snoc (x := p) w53.heap.size hA73 pair_st pair_gr (fun k hk => by have hk := hU k hk; omega) (by omega) (by omega) m54 a73 r73 rfl (⟨_, rfl, _, _, rfl, fun _ => ⟨b50, 0, rfl, ⟨.inr ⟨by omega, by omega⟩, by omega⟩, h50.r.seg (i := 0) (k := 0) rfl rfl⟩⟩)
      refine sA rfl (lend (nBlock (nThen ?_)))
      refine ⟨(k + 1, _, g73), _, env_okl ⟨rfl, rfl, rfl, rfl, rfl, rfl, trivial⟩, ⟨hL4, (by omega), (by omega), (.inr ⟨by rw [take_snoc hpk]; exact RX.up pair_gr hv3 (by omega), by omega, l73 (by omega)⟩), (h6)⟩, ?_⟩
      show ps.length - (k + 1) < ps.length - k; omega
    ·
     have z56 := m17.size
     have hm := rng_fr hm m17 (by omega) id
     have hG := hG.keep (fun k hk => by omega) m17 nF
     have hf := hf.step0 m17
     have h6 := h6.keep m17 id
     have hL4 := hL4.step0 m17
     have h11 := h11.keep m17 id
     refine sM rfl (sv (xex30 rfl) (sv (xex31 rfl) (sv (xex32 rfl) (sA rfl (sA rfl (sA rfl (send (fg [(0, _), (1, _), (2, _), (6, _), (8, _), (9, _), (10, _), (11, _), (12, _)] ⟨rfl, rfl, rfl, rfl, rfl, rfl, rfl, rfl, rfl, ⟨⟩⟩ fun _ => (wp_seq (sreg (sM rfl (sv (xneI if89 rfl) (send (fg [(0, _), (1, _), (2, _), (6, _), (8, _), (9, _), (10, _), (11, _), (12, _), (43, _)] ⟨rfl, rfl, rfl, rfl, rfl, rfl, rfl, rfl, rfl, rfl, ⟨⟩⟩ fun _ => (cyes rfl (sreg (sv (xbuildS [[.slice none 0 0]] zr218 ly218 rfl trivial (by simp [setAll, zs218])) (sM rfl (sv (xbuildS [[_], [_]] zr168 ly168 rfl (by simp [fitAll, zs168, Value.cells]) rfl) ?_)))))))))))))))))))
     refine svK (xboxS (lens := [1, 1]) rfl (by simp [])) ?_
     rintro _ w58 ⟨b47, rfl, m59, h47, e57, s57⟩
     have hm := rng_fr hm m59 (by omega) id
     have hG := hG.keep (fun k hk => by omega) m59 nF
     have hf := hf.step0 m59
     have h6 := h6.keep m59 id
     have hL4 := hL4.step0 m59
     have h11 := h11.keep m59 id
     refine sv (xmkif ni166 rfl) ?_
     refine suK (xstW h6 (lens' := [1]) sz218 (by simp []) rfl rfl rfl rfl) ?_
     rintro w61 ⟨m62, h6, s60⟩
     have hm := rng_fr hm m62 (by omega) (by show ¬ (bm = b6); omega)
     have hG := hG.keep (fun k hk => by omega) m62 (fun k hk hS => by have hk := hk; have hS : k = b6 := hS; omega)
     have hf := hf.step m62 (nB (by omega))
     have hL4 := hL4.step m62 (fun k hk hS => by have hS : k = b6 := hS; show k = b6; omega)
     have h11 := h11.keep m62 (by show ¬ (b11 = b6); omega)
     refine sA rfl (send (fg [(6, _), (7, _)] ⟨rfl, rfl, ⟨⟩⟩ fun _ => (wp_ret (rThen (rBlock (rThen (rBlock (rThen ?_))))))))
     refine rp2 rfl ⟨_, rfl, ldS (lens := [1]) ro218 h6.r⟩ rfl ?_
     exact ⟨.inr ⟨by omega, _, _, rfl⟩, hf⟩
   ·
    have z63 := m11.size
    have hm := rng_fr hm m11 (by omega) id
    have hG := hG.keep (fun k hk => by omega) m11 nF
    have hf := hf.step0 m11
    have h6 := h6.keep m11 id
    have hL4 := hL4.step0 m11
    have h11 := h11.keep m11 id
    refine sM rfl (sv (xex30 rfl) (sv (xex31 rfl) (sv (xex32 rfl) (sv (xfld fl220_0 rfl) ?_))))
    refine suK (xstF 0 sz22 h11 rfl rfl rfl rfl rfl) ?_
    rintro w65 ⟨m66, h11, s64⟩
    have hm := rng_fr hm m66 (by omega) (by show ¬ (bm = b11); omega)
    have hG := hG.keep (fun k hk => by omega) m66 (fun k hk hS => by have hk := hk; have hS : k = b11 := hS; omega)
    have hf := hf.step m66 (nB (by omega))
    have h6 := h6.keep m66 (by show ¬ (b6 = b11); omega)
    have hL4 := hL4.step m66 (fun k hk hS => by have hS : k = b11 := hS; show k = b6; omega)
    refine sA rfl (sA rfl (send (fg [(0, _), (1, _), (2, _), (6, _), (8, _), (9, _), (10, _), (11, _)] ⟨rfl, rfl, rfl, rfl, rfl, rfl, rfl, rfl, ⟨⟩⟩ fun _ => (wp_seq (sreg (sM rfl (sv (xneI if89 rfl) (send (fg [(0, _), (1, _), (2, _), (6, _), (8, _), (9, _), (10, _), (11, _), (29, _)] ⟨rfl, rfl, rfl, rfl, rfl, rfl, rfl, rfl, rfl, ⟨⟩⟩ fun _ => (cyes rfl (sreg (sv (xbuildS [[.slice none 0 0]] zr218 ly218 rfl trivial (by simp [setAll, zs218])) (sM rfl (sv (xbuildS [[_], [_]] zr168 ly168 rfl (by simp [fitAll, zs168, Value.cells]) rfl) ?_))))))))))))))
    refine svK (xboxS (lens := [1, 1]) rfl (by simp [])) ?_
    rintro _ w68 ⟨b33, rfl, m69, h33, e67, s67⟩
    have hm := rng_fr hm m69 (by omega) id
    have hG := hG.keep (fun k hk => by omega) m69 nF
    have hf := hf.step0 m69
    have h6 := h6.keep m69 id
    have hL4 := hL4.step0 m69
    refine sv (xmkif ni166 rfl) ?_
    refine suK (xstW h6 (lens' := [1]) sz218 (by simp []) rfl rfl rfl rfl) ?_
    rintro w71 ⟨m72, h6, s70⟩
    have hm := rng_fr hm m72 (by omega) (by show ¬ (bm = b6); omega)
    have hG := hG.keep (fun k hk => by omega) m72 (fun k hk hS => by have hk := hk; have hS : k = b6 := hS; omega)
    have hf := hf.step m72 (nB (by omega))
    have hL4 := hL4.step m72 (fun k hk hS => by have hS : k = b6 := hS; show k = b6; omega)
    refine sA rfl (send (fg [(6, _), (7, _)] ⟨rfl, rfl, ⟨⟩⟩ fun _ => (wp_ret (rThen (rBlock (rThen (rBlock (rThen ?_))))))))
    refine rp2 rfl ⟨_, rfl, ldS (lens := [1]) ro218 h6.r⟩ rfl ?_
    exact ⟨.inr ⟨by omega, _, _, rfl⟩, hf⟩
  ·
   refine send (fg [(0, _), (1, _), (2, _), (6, _), (8, _), (9, _), (19, _)] ⟨rfl, rfl, rfl, rfl, rfl, rfl, rfl, ⟨⟩⟩ fun _ => (cno rfl (wp_exit (eThen (eThen (eHit (nThen (fg [(6, _), (8, _)] ⟨rfl, rfl, ⟨⟩⟩ fun _ => (sreg (sM rfl (sv (xbuildS [[.slice none 0 0]] zr218 ly218 rfl (by simp [fitAll, zs218, Value.cells]) (by simp [setAll, zs218, Value.cells])) ?_)))))))))))
   refine suK (xstW h6 (lens' := [1]) sz218 (by simp []) rfl rfl rfl rfl) ?_
   rintro w74 ⟨m75, h6, s73⟩
   have hm := rng_fr hm m75 (by omega) (by show ¬ (bm = b6); omega)
   have hG := hG.keep (fun k hk => by omega) m75 (fun k hk hS => by have hk := hk; have hS : k = b6 := hS; omega)
   have hf := hf.step m75 (nB (by omega))
   refine sA rfl (send (fg [(6, _), (7, _)] ⟨rfl, rfl, ⟨⟩⟩ fun _ => (wp_ret ?_)))
   refine rp2 rfl ⟨_, rfl, ldS (lens := [1]) ro218 h6.r⟩ rfl ?_
   have hkl : ps.length ≤ k := by rcases Nat.lt_or_ge k ps.length with h | h; exact absurd (pairs_take_lt (List.getElem?_eq_getElem h)) (by omega); exact h
   have hke : ps.take k = ps := List.take_of_length_le hkl
   obtain rfl : ps = [] := List.eq_nil_of_length_eq_zero (by omega)
   exact ⟨.inl ⟨by omega, _, rfl, LA.nil⟩, hf⟩
 ·
  obtain ⟨a3, c3, rfl⟩ := RA.form hv3
  refine wp_seq (sreg (sM rfl (sM rfl (sM rfl (sv (xconv hs22 ki3 rfl (w64 (by omega) (by omega))) (sv (xadd rfl rfl (w64n (off + (pairsL ps).length) (by omega) (by omega))) ?_))))))
  refine svP (xlss rfl rfl) (fun hc19 => ?_) (fun hc19 => ?_)
  ·
   refine send (fg [(0, _), (1, _), (2, _), (6, _), (8, _), (9, _), (19, _)] ⟨rfl, rfl, rfl, rfl, rfl, rfl, rfl, ⟨⟩⟩ fun _ => (cyes rfl (wp_skip (nThen (fg [(0, _), (1, _), (2, _), (6, _), (8, _), (9, _)] ⟨rfl, rfl, rfl, rfl, rfl, rfl, ⟨⟩⟩ fun _ => (wp_block ?_))))))
   have hkl : k < ps.length := by rcases Nat.lt_or_ge k ps.length with h | h; exact h; rw [List.take_of_length_le h] at hc19; omega
   obtain ⟨p, hpk⟩ := some_of_lt hkl
   have hpt := pairs_at hs hpk
   have hptl := pairs_take_lt hpk
   have hpk16 := u16lt p.key
   have hps1 : (pairsL (ps.take (k + 1))).length = (pairsL (ps.take k)).length + 4 + p.data.length := by rw [pairs_snoc hpk]; simp only [pairL, List.length_append, be16_length]; omega
   simp only [pairL] at hpt
   have hdd : Std b (off + (pairsL (ps.take k)).length + 2 + 2) p.data := (hpt.right' rfl).right' rfl
   refine sreg (sA rfl (send (fg [(0, _), (1, _), (2, _), (6, _), (8, _), (9, _)] ⟨rfl, rfl, rfl, rfl, rfl, rfl, ⟨⟩⟩ fun _ => (sreg ?_))))
   refine svK (xallS (lens := [1, 1]) in220 (by simp [])) ?_
   rintro _ w77 ⟨b11, rfl, m78, h11, e76, s76⟩
   have hm := rng_fr hm m78 (by omega) id
   have hG := hG.keep (fun k hk => by omega) m78 nF
   have hf := hf.step0 m78
   have h6 := h6.keep m78 id
   have hL4 := hL4.step0 m78
   have hv3 := RX.keep hv3 pair_st (fun k hk => by have hk := hU k hk; omega) (by omega) m78 (fun _ _ _ h => h) id
   refine send (fg [(0, _), (1, _), (2, _), (6, _), (8, _), (9, _), (11, _)] ⟨rfl, rfl, rfl, rfl, rfl, rfl, rfl, ⟨⟩⟩ fun _ => (sreg (sM rfl (sM rfl ?_))))
   refine sc (xcall ca156 rfl) (c156 (b := b) (off := off + (pairsL (ps.take k)).length) (x := p.key.toNat) hms hm (by omega) hnb hkm hbl hG (by omega) hpk16 (hpt.left) (by omega)) ?_
   rintro _ w79 ⟨⟨hle23, rfl⟩ | ⟨hgt23, T23, x23, rfl⟩, m80⟩
   ·
    have z81 := m80.size
    have hm := rng_fr hm m80 (by omega) id
    have hG := hG.keep (fun k hk => by omega) m80 nF
    have hf := hf.step0 m80
    have h6 := h6.keep m80 id
    have hL4 := hL4.step0 m80
    have hv3 := RX.keep hv3 pair_st (fun k hk => by have hk := hU k hk; omega) (by omega) m80 (fun _ _ _ h => h) id
    have h11 := h11.keep m80 id
    refine sM rfl (sv (xex30 rfl) (sv (xex31 rfl) (sv (xex32 rfl) (sv (xfld fl220_0 rfl) ?_))))
    refine suK (xstF 0 sz22 h11 rfl rfl rfl rfl rfl) ?_
    rintro w83 ⟨m84, h11, s82⟩
    have hm := rng_fr hm m84 (by omega) (by show ¬ (bm = b11); omega)
    have hG := hG.keep (fun k hk => by omega) m84 (fun k hk hS => by have hk := hk; have hS : k = b11 := hS; omega)
    have hf := hf.step m84 (nB (by omega))
    have h6 := h6.keep m84 (by show ¬ (b6 = b11); omega)
    have hL4 := hL4.step m84 (fun k hk hS => by have hS : k = b11 := hS; show k = b6; omega)
    have hv3 := RX.keep hv3 pair_st (fun k hk => by have hk := hU k hk; omega) (by omega) m84 (fun k hk hk3 hS => by have hS : k = b11 := hS; rcases hk with hk | hk <;> first | omega | (have := hU k hk; omega)) (by show ¬ (g = b11); omega)
    refine sA rfl (sA rfl (send (fg [(0, _), (1, _), (2, _), (6, _), (8, _), (9, _), (10, _), (11, _)] ⟨rfl, rfl, rfl, rfl, rfl, rfl, rfl, rfl, ⟨⟩⟩ fun _ => (wp_seq (sreg (sM rfl (sv (xneN if89 rfl) (send (fg [(0, _), (1, _), (2, _), (6, _), (8, _), (9, _), (10, _), (11, _), (29, _)] ⟨rfl, rfl, rfl, rfl, rfl, rfl, rfl, rfl, rfl, ⟨⟩⟩ fun _ => (cno rfl (wp_skip (nThen (fg [(0, _), (1, _), (2, _), (6, _), (8, _), (9, _), (11, _)] ⟨rfl, rfl, rfl, rfl, rfl, rfl, rfl, ⟨⟩⟩ fun _ => (sreg (sA rfl (send (fg [(0, _), (1, _), (2, _), (6, _), (8, _), (9, _), (11, _)] ⟨rfl, rfl, rfl, rfl, rfl, rfl, rfl, ⟨⟩⟩ fun _ => (sreg (sM rfl (sM rfl ?_))))))))))))))))))))
    refine sc (xcall ca156 rfl) (c156 (b := b) (off := off + (pairsL (ps.take k)).length + 2) (x := p.data.length) hms hm (by omega) hnb hkm hbl hG (by omega) (by omega) ((hpt.right' rfl).left) (by omega)) ?_
    rintro _ w85 ⟨⟨hle38, rfl⟩ | ⟨hgt38, T38, x38, rfl⟩, m86⟩
    ·
     have z87 := m86.size
     have hm := rng_fr hm m86 (by omega) id
     have hG := hG.keep (fun k hk => by omega) m86 nF
     have hf := hf.step0 m86
     have h6 := h6.keep m86 id
     have hL4 := hL4.step0 m86
     have hv3 := RX.keep hv3 pair_st (fun k hk => by have hk := hU k hk; omega) (by omega) m86 (fun _ _ _ h => h) id
     have h11 := h11.keep m86 id
     refine sM rfl (sv (xex30 rfl) (sv (xex31 rfl) (sv (xex32 rfl) (sA rfl (sA rfl (sA rfl (send (fg [(0, _), (1, _), (2, _), (6, _), (8, _), (9, _), (10, _), (11, _), (12, _)] ⟨rfl, rfl, rfl, rfl, rfl, rfl, rfl, rfl, rfl, ⟨⟩⟩ fun _ => (wp_seq (sreg (sM rfl (sv (xneN if89 rfl) (send (fg [(0, _), (1, _), (2, _), (6, _), (8, _), (9, _), (10, _), (11, _), (12, _), (43, _)] ⟨rfl, rfl, rfl, rfl, rfl, rfl, rfl, rfl, rfl, rfl, ⟨⟩⟩ fun _ => (cno rfl (wp_skip (nThen (fg [(0, _), (1, _), (2, _), (6, _), (8, _), (9, _), (11, _), (12, _)] ⟨rfl, rfl, rfl, rfl, rfl, rfl, rfl, rfl, ⟨⟩⟩ fun _ => (sreg (sM rfl ?_))))))))))))))))))))
     refine svK (xmake (lo := p.data.length) (hi := p.data.length) sl37 in5 rfl (by decide) rfl rfl (by omega) (by omega) (by omega) (by omega) (by simp only [maxLen]; omega) rfl) ?_
     rintro _ w88 ⟨b50, rfl, m89, hk50, e50, s50, -⟩
     have hm := rng_fr hm m89 (by omega) id
     have hG := hG.keep (fun k hk => by omega) m89 nF
     have hf := hf.step0 m89
     have h6 := h6.keep m89 id
     have hL4 := hL4.step0 m89
     have hv3 := RX.keep hv3 pair_st (fun k hk => by have hk := hU k hk; omega) (by omega) m89 (fun _ _ _ h => h) id
     have h11 := h11.keep m89 id
     rw [rep_zero] at hk50
     have h50 : SB w88 b50 [p.data.length] [bvs (List.replicate p.data.length 0)] := ⟨by rw [List.flatten_cons, List.flatten_nil, List.append_nil]; exact hk50, by simp [bvs_length]⟩
     refine sv (xfld fl220_1 rfl) ?_
     refine suK (xstF 1 sz37 h11 rfl rfl rfl rfl rfl) ?_
     rintro w91 ⟨m92, h11, s90⟩
     have hm := rng_fr hm m92 (by omega) (by show ¬ (bm = b11); omega)
     have hG := hG.keep (fun k hk => by omega) m92 (fun k hk hS => by have hk := hk; have hS : k = b11 := hS; omega)
     have hf := hf.step m92 (nB (by omega))
     have h6 := h6.keep m92 (by show ¬ (b6 = b11); omega)
     have hL4 := hL4.step m92 (fun k hk hS => by have hS : k = b11 := hS; show k = b6; omega)
     have hv3 := RX.keep hv3 pair_st (fun k hk => by have hk := hU k hk; omega) (by omega) m92 (fun k hk hk3 hS => by have hS : k = b11 := hS; rcases hk with hk | hk <;> first | omega | (have := hU k hk; omega)) (by show ¬ (g = b11); omega)
     have h50 := h50.keep m92 (by show ¬ (b50 = b11); omega)
     refine send (fg [(0, _), (1, _), (2, _), (6, _), (8, _), (9, _), (11, _), (12, _)] ⟨rfl, rfl, rfl, rfl, rfl, rfl, rfl, rfl, ⟨⟩⟩ fun _ => (wp_seq ?_))
     obtain rfl := hms (by omega)
     refine sdrawH (Fr (fun k => k = b50) w91.drew) [(0, .rd), (1, .rd), (2, .rd), (3, .rd), (6, .rd), (7, .rd), (4, .ld), (5, .ld), (8, .rd)] mixed (by kernel_rfl) (fun _ _ _ _ _ h => h) ?_
     have z93 : w91.drew.heap.size = w91.heap.size := rfl
     have hm := rng_fr hm (fd w91) (by omega) id
     have hG := hG.keep (fun k hk => by omega) (fd w91) nF
     have hf := hf.drew
     have h6 := h6.drew
     have hL4 := hL4.drew
     have hv3 := RX.keep hv3 pair_st (fun k hk => by have hk := hU k hk; omega) (by omega) (fd w91) (fun _ _ _ h => h) id
     have h11 := h11.drew
     have h50 := h50.drew
     have zb_h11 := h11
     have hS94 : Fr (fun k => k = b50) w91.drew w91.drew := Fr.refl _ _
     refine hvH rfl (fun _ _ => xfld fl220_1 rfl) hS94 (hvH rfl (fun w' hS => xld on37 rfl ((zb_h11.keep hS (by show ¬ (b11 = b50); omega)).r.c 1 rfl rfl)) hS94 (qqM rfl rfl hS94 (qqM rfl rfl hS94 (qqM rfl rfl hS94 (hvH rfl (fun _ _ => xconv hs22 ki3 rfl (w64 (by omega) (by omega))) hS94 ?_)))))
     refine hlKH rfl (xcutL (lo := off + (pairsL (ps.take k)).length + 2 + 2) sl37 sz5 rfl rfl (by omega) (by omega)) ?_
     rintro _ w91.drew ⟨o56, rfl, ho56, rfl⟩
     refine ⟨hS94, ?_⟩
     refine hlKH rfl (xcopyM (i := 0) sl37 sz5 rfl rfl (cpy_ba (rest_ba hm hnb ho56 (by omega) (by omega))) (drop_len _ hnb) h50 rfl (by simp [bvs_length]) rfl) ?_
     rintro _ w96 ⟨rfl, m97, hq57, hz57⟩
     have hG := hG.keep (fun k hk => by omega) m97 (fun k hk hS => by have hk := hk; have hS : k = b50 := hS; omega)
     have hf := hf.step m97 (nB (by omega))
     have h6 := h6.keep m97 (by show ¬ (b6 = b50); omega)
     have hL4 := hL4.step m97 (fun k hk hS => by have hS : k = b50 := hS; show k = b6; omega)
     have hv3 := RX.keep hv3 pair_st (fun k hk => by have hk := hU k hk; omega) (by omega) m97 (fun k hk hk3 hS => by have hS : k = b50 := hS; rcases hk with hk | hk <;> first | omega | (have := hU k hk; omega)) (by show ¬ (g = b50); omega)
     have h11 := h11.keep m97 (by show ¬ (b11 = b50); omega)
     have hS98 := hS94.step m97 (fun k hk hS => by have hS : k = b50 := hS; show k = b50; omega)
     refine ⟨hS98, ?_⟩
     refine hvPH rfl (fun _ _ => xneq rfl rfl) hS98 (fun hc60 => ?_) (fun hc60 => ?_)
     ·
      refine hendH (fg [(0, _), (1, _), (2, _), (6, _), (8, _), (9, _), (11, _), (12, _), (60, _)] ⟨rfl, rfl, rfl, rfl, rfl, rfl, rfl, rfl, rfl, ⟨⟩⟩ fun _ => (cyes rfl ?_))
      refine sdrawI [(6, _)] ⟨rfl, trivial⟩ (fun (x : Option Addr) => match x with | xq => [(7, .iface 166 (.pointer xq))]) (fun (x : Option Addr) wx => match x with | xq => Fr (fun k => k = b6) w96 wx ∧ (SB wx b6 [1] [[.slice none 0 0]])) (Fr (fun k => k = b6) w96.drew) (.rd 0 (.rd 1 (.rd 2 (.two 3 (.lst [(4, .rd), (5, .ld), (6, .rd)]) 5 (.lst [(3, .ld), (4, .rd), (6, .rd)]))))) mixed (by kernel_rfl) ?_ ?_
      ·
       have hC : Fr (fun k => k = b6) w96 w96 := Fr.refl _ _
       have z99 : w96.drew.heap.size = w96.heap.size := rfl
       have hG := hG.keep (fun k hk => by omega) (fd w96) nF
       have hf := hf.drew
       have h6 := h6.drew
       have hL4 := hL4.drew
       have hv3 := RX.keep hv3 pair_st (fun k hk => by have hk := hU k hk; omega) (by omega) (fd w96) (fun _ _ _ h => h) id
       have h11 := h11.drew
       have hC := hC.drew
       have hS100 : Fr (fun k => k = b6) w96.drew w96.drew := Fr.refl _ _
       refine hvT rfl (fun _ _ => xbuildS [[.slice none 0 0]] zr218 ly218 rfl trivial (by simp [setAll, zs218])) hS100 ?_
       obtain ⟨Tg62, xg62, eg62, hgc62, hgn62, hge62⟩ := hG.get 8 (by omega) (by omega)
       refine hvT rfl (fun w' hS => xld on89 rfl (cell_keep hgc62 hS (by omega) (by show ¬ (8 = b6); omega))) hS100 ?_
       refine hvT rfl (fun _ _ => xbuildS [[_], [_]] zr168 ly168 rfl (by simp [fitAll, zs168, Value.cells]) rfl) hS100 ?_
       refine twoT ?_ ?_
       ·
        refine hlKT rfl (xboxS (lens := [1, 1]) rfl (by simp [])) ?_
        rintro _ w102 ⟨b64, rfl, m103, h64, e101, s101⟩
        have hf := hf.step0 m103
        have h6 := h6.keep m103 id
        have hL4 := hL4.step0 m103
        have hv3 := RX.keep hv3 pair_st (fun k hk => by have hk := hU k hk; omega) (by omega) m103 (fun _ _ _ h => h) id
        have h11 := h11.keep m103 id
        have hC := hC.step0 m103
        have hS104 := hS100.step0 m103
        refine ⟨hS104, ?_⟩
        refine lstT (hv rfl (fun _ _ => xmkif ni166 rfl) hS104 ?_)
        refine hluK rfl (xstW h6 (lens' := [1]) sz218 (by simp []) rfl rfl rfl rfl) ?_
        rintro w106 ⟨m107, h6, s105⟩
        have hf := hf.step m107 (nB (by omega))
        have hL4 := hL4.step m107 (fun k hk hS => by have hS : k = b6 := hS; show k = b6; omega)
        have hv3 := RX.keep hv3 pair_st (fun k hk => by have hk := hU k hk; omega) (by omega) m107 (fun k hk hk3 hS => by have hS : k = b6 := hS; rcases hk with hk | hk <;> first | omega | (have := hU k hk; omega)) (by show ¬ (g = b6); omega)
        have h11 := h11.keep m107 (by show ¬ (b11 = b6); omega)
        have hC := hC.step m107 (fun k hk hS => by have hS : k = b6 := hS; show k = b6; omega)
        have hS108 := hS104.step m107 (fun k hk hS => by have hS : k = b6 := hS; show k = b6; omega)
        refine ⟨hS108, ?_⟩
        refine ggA rfl rfl hS108 ?_
        exact ⟨rfl, _, _, env_okl ⟨rfl, rfl, trivial⟩, ⟨hC, (h6)⟩⟩
       ·
        refine hluKT rfl (xstW h6 (lens' := [1]) sz218 (by simp []) rfl rfl rfl rfl) ?_
        rintro w110 ⟨m111, h6, s109⟩
        have hf := hf.step m111 (nB (by omega))
        have hL4 := hL4.step m111 (fun k hk hS => by have hS : k = b6 := hS; show k = b6; omega)
        have hv3 := RX.keep hv3 pair_st (fun k hk => by have hk := hU k hk; omega) (by omega) m111 (fun k hk hk3 hS => by have hS : k = b6 := hS; rcases hk with hk | hk <;> first | omega | (have := hU k hk; omega)) (by show ¬ (g = b6); omega)
        have h11 := h11.keep m111 (by show ¬ (b11 = b6); omega)
        have hC := hC.step m111 (fun k hk hS => by have hS : k = b6 := hS; show k = b6; omega)
        have hS112 := hS100.step m111 (fun k hk hS => by have hS : k = b6 := hS; show k = b6; omega)
        refine ⟨hS112, ?_⟩
        refine lstT ?_
        refine hlK rfl (xboxS (lens := [1, 1]) rfl (by simp [])) ?_
        rintro _ w114 ⟨b64, rfl, m115, h64, e113, s113⟩
        have hf := hf.step0 m115
        have h6 := h6.keep m115 id
        have hL4 := hL4.step0 m115
        have hv3 := RX.keep hv3 pair_st (fun k hk => by have hk := hU k hk; omega) (by omega) m115 (fun _ _ _ h => h) id
        have h11 := h11.keep m115 id
        have hC := hC.step0 m115
        have hS116 := hS112.step0 m115
        refine ⟨hS116, ?_⟩
        refine hv rfl (fun _ _ => xmkif ni166 rfl) hS116 (ggA rfl rfl hS116 ?_)
        exact ⟨rfl, _, _, env_okl ⟨rfl, rfl, trivial⟩, ⟨hC, (h6)⟩⟩
      ·
       rintro xq _ w117 ⟨hC, h6⟩
       have z118 := hC.size
       have hf := hf.step hC (nB (by omega))
       have hL4 := hL4.step hC (fun k hk hS => by have hS : k = b6 := hS; show k = b6; omega)
       have hv3 := RX.keep hv3 pair_st (fun k hk => by have hk := hU k hk; omega) (by omega) hC (fun k hk hk3 hS => by have hS : k = b6 := hS; rcases hk with hk | hk <;> first | omega | (have := hU k hk; omega)) (by show ¬ (g = b6); omega)
       have h11 := h11.keep hC (by show ¬ (b11 = b6); omega)
       refine fg [(6, _), (7, _)] ⟨rfl, rfl, ⟨⟩⟩ fun _ => (wp_ret (rThen (rBlock (rThen (rBlock (rThen ?_))))))
       refine rp2 rfl ⟨_, rfl, ldS (lens := [1]) ro218 h6.r⟩ rfl ?_
       exact ⟨.inr ⟨by omega, _, _, rfl⟩, hf⟩
     ·
      refine hendH (fg [(0, _), (1, _), (2, _), (6, _), (8, _), (9, _), (11, _), (12, _), (60, _)] ⟨rfl, rfl, rfl, rfl, rfl, rfl, rfl, rfl, rfl, ⟨⟩⟩ fun _ => (cno rfl (wp_skip (nThen (fg [(0, _), (1, _), (2, _), (6, _), (8, _), (9, _), (11, _), (12, _)] ⟨rfl, rfl, rfl, rfl, rfl, rfl, rfl, rfl, ⟨⟩⟩ fun _ => ?_)))))
      have h50 := hq57 (by omega)
      rw [drop_take hdd (by omega)] at h50
      refine sreg (sM rfl (sM rfl (sv (xconv hs22 ki3 rfl (w64 (by omega) (by omega))) (sv (xadd rfl rfl (w64n (off + (pairsL (ps.take (k + 1))).length) (by omega) (by omega))) (sA rfl (send (fg [(0, _), (1, _), (2, _), (6, _), (8, _), (9, _), (11, _)] ⟨rfl, rfl, rfl, rfl, rfl, rfl, rfl, ⟨⟩⟩ fun _ => (lreg (sM rfl (sv (xldS (lens := [1, 1]) ro220 rfl h11.r) ?_))))))))))
      refine svK (xslit ((pairSegs p (.slice (some ⟨b50, 0, none⟩) p.data.length p.data.length)).flatten) sl216 in220 rfl (by decide) rfl rfl rfl rfl (by decide) rfl rfl) ?_
      rintro _ w120 ⟨b72, rfl, m121, h72, e72, s72, r72⟩
      have hf := hf.step0 m121
      have h6 := h6.keep m121 id
      have hL4 := hL4.step0 m121
      have hv3 := RX.keep hv3 pair_st (fun k hk => by have hk := hU k hk; omega) (by omega) m121 (fun _ _ _ h => h) id
      have h11 := h11.keep m121 id
      have h50 := h50.keep m121 id
      obtain ⟨ss73, hR73, hA73⟩ := hv3
      refine svK (xapp sl216 in220 rfl (by decide) rfl rfl hR73 (r72.src sl216) (by simp only [maxLen]; omega) (by omega)) ?_
      rintro v73 w122 ⟨g73, r73, m123, a73, l73⟩
      have z124 := m123.size
      have hf := hf.step m123 (nB (by omega))
      have h6 := h6.keep m123 (by show ¬ (b6 = g); omega)
      have hL4 := hL4.step m123 (fun k hk hS => by have hS : k = g := hS; show k = b6; omega)
      have h11 := h11.keep m123 (by show ¬ (b11 = g); omega)
      have h50 := h50.keep m123 (by show ¬ (b50 = g); omega)
      have hv3 := RX.snoc (x := p) w122.heap.size hA73 pair_st pair_gr (fun k hk => by have hk := hU k hk; omega) (by omega) (by omega) m123 a73 r73 rfl (⟨_, rfl, _, _, rfl, fun _ => ⟨b50, 0, rfl, ⟨.inr ⟨by omega, by omega⟩, by omega⟩, h50.r.seg (i := 0) (k := 0) rfl rfl⟩⟩)
      refine sA rfl (lend (nBlock (nThen ?_)))
      refine ⟨(k + 1, _, g73), _, env_okl ⟨rfl, rfl, rfl, rfl, rfl, rfl, trivial⟩, ⟨hL4, (by omega), (by omega), (.inr ⟨by rw [take_snoc hpk]; exact RX.up pair_gr hv3 (by omega), by omega, l73 (by omega)⟩), (h6)⟩, ?_⟩
      show ps.length - (k + 1) < ps.length - k; omega
    ·
     have z125 := m86.size
     have hf := hf.step0 m86
     have h6 := h6.keep m86 id
     have hv3 := RX.keep hv3 pair_st (fun k hk => by have hk := hU k hk; omega) (by omega) m86 (fun _ _ _ h => h) id
     have h11 := h11.keep m86 id
     refine sM rfl (sv (xex30 rfl) (sv (xex31 rfl) (sv (xex32 rfl) (sA rfl (sA rfl (sA rfl (send (fg [(0, _), (1, _), (2, _), (6, _), (8, _), (9, _), (10, _), (11, _), (12, _)] ⟨rfl, rfl, rfl, rfl, rfl, rfl, rfl, rfl, rfl, ⟨⟩⟩ fun _ => (wp_seq (sreg (sM rfl (sv (xneI if89 rfl) (send (fg [(0, _), (1, _), (2, _), (6, _), (8, _), (9, _), (10, _), (11, _), (12, _), (43, _)] ⟨rfl, rfl, rfl, rfl, rfl, rfl, rfl, rfl, rfl, rfl, ⟨⟩⟩ fun _ => (cyes rfl (sreg (sv (xbuildS [[.slice none 0 0]] zr218 ly218 rfl trivial (by simp [setAll, zs218])) (sM rfl (sv (xbuildS [[_], [_]] zr168 ly168 rfl (by simp [fitAll, zs168, Value.cells]) rfl) ?_)))))))))))))))))))
     refine svK (xboxS (lens := [1, 1]) rfl (by simp [])) ?_
     rintro _ w127 ⟨b47, rfl, m128, h47, e126, s126⟩
     have hf := hf.step0 m128
     have h6 := h6.keep m128 id
     have hv3 := RX.keep hv3 pair_st (fun k hk => by have hk := hU k hk; omega) (by omega) m128 (fun _ _ _ h => h) id
     have h11 := h11.keep m128 id
     refine sv (xmkif ni166 rfl) ?_
     refine suK (xstW h6 (lens' := [1]) sz218 (by simp []) rfl rfl rfl rfl) ?_
     rintro w130 ⟨m131, h6, s129⟩
     have hf := hf.step m131 (nB (by omega))
     have hv3 := RX.keep hv3 pair_st (fun k hk => by have hk := hU k hk; omega) (by omega) m131 (fun k hk hk3 hS => by have hS : k = b6 := hS; rcases hk with hk | hk <;> first | omega | (have := hU k hk; omega)) (by show ¬ (g = b6); omega)
     have h11 := h11.keep m131 (by show ¬ (b11 = b6); omega)
     refine sA rfl (send (fg [(6, _), (7, _)] ⟨rfl, rfl, ⟨⟩⟩ fun _ => (wp_ret (rThen (rBlock (rThen (rBlock (rThen ?_))))))))
     refine rp2 rfl ⟨_, rfl, ldS (lens := [1]) ro218 h6.r⟩ rfl ?_
     exact ⟨.inr ⟨by omega, _, _, rfl⟩, hf⟩
   ·
    have z132 := m80.size
    have hf := hf.step0 m80
    have h6 := h6.keep m80 id
    have hv3 := RX.keep hv3 pair_st (fun k hk => by have hk := hU k hk; omega) (by omega) m80 (fun _ _ _ h => h) id
    have h11 := h11.keep m80 id
    refine sM rfl (sv (xex30 rfl) (sv (xex31 rfl) (sv (xex32 rfl) (sv (xfld fl220_0 rfl) ?_))))
    refine suK (xstF 0 sz22 h11 rfl rfl rfl rfl rfl) ?_
    rintro w134 ⟨m135, h11, s133⟩
    have hf := hf.step m135 (nB (by omega))
    have h6 := h6.keep m135 (by show ¬ (b6 = b11); omega)
    have hv3 := RX.keep hv3 pair_st (fun k hk => by have hk := hU k hk; omega) (by omega) m135 (fun k hk hk3 hS => by have hS : k = b11 := hS; rcases hk with hk | hk <;> first | omega | (have := hU k hk; omega)) (by show ¬ (g = b11); omega)
    refine sA rfl (sA rfl (send (fg [(0, _), (1, _), (2, _), (6, _), (8, _), (9, _), (10, _), (11, _)] ⟨rfl, rfl, rfl, rfl, rfl, rfl, rfl, rfl, ⟨⟩⟩ fun _ => (wp_seq (sreg (sM rfl (sv (xneI if89 rfl) (send (fg [(0, _), (1, _), (2, _), (6, _), (8, _), (9, _), (10, _), (11, _), (29, _)] ⟨rfl, rfl, rfl, rfl, rfl, rfl, rfl, rfl, rfl, ⟨⟩⟩ fun _ => (cyes rfl (sreg (sv (xbuildS [[.slice none 0 0]] zr218 ly218 rfl trivial (by simp [setAll, zs218])) (sM rfl (sv (xbuildS [[_], [_]] zr168 ly168 rfl (by simp [fitAll, zs168, Value.cells]) rfl) ?_))))))))))))))
    refine svK (xboxS (lens := [1, 1]) rfl (by simp [])) ?_
    rintro _ w137 ⟨b33, rfl, m138, h33, e136, s136⟩
    have hf := hf.step0 m138
    have h6 := h6.keep m138 id
    have hv3 := RX.keep hv3 pair_st (fun k hk => by have hk := hU k hk; omega) (by omega) m138 (fun _ _ _ h => h) id
    refine sv (xmkif ni166 rfl) ?_
    refine suK (xstW h6 (lens' := [1]) sz218 (by simp []) rfl rfl rfl rfl) ?_
    rintro w140 ⟨m141, h6, s139⟩
    have hf := hf.step m141 (nB (by omega))
    have hv3 := RX.keep hv3 pair_st (fun k hk => by have hk := hU k hk; omega) (by omega) m141 (fun k hk hk3 hS => by have hS : k = b6 := hS; rcases hk with hk | hk <;> first | omega | (have := hU k hk; omega)) (by show ¬ (g = b6); omega)
    refine sA rfl (send (fg [(6, _), (7, _)] ⟨rfl, rfl, ⟨⟩⟩ fun _ => (wp_ret (rThen (rBlock (rThen (rBlock (rThen ?_))))))))
    refine rp2 rfl ⟨_, rfl, ldS (lens := [1]) ro218 h6.r⟩ rfl ?_
    exact ⟨.inr ⟨by omega, _, _, rfl⟩, hf⟩
  ·
   refine send (fg [(0, _), (1, _), (2, _), (6, _), (8, _), (9, _), (19, _)] ⟨rfl, rfl, rfl, rfl, rfl, rfl, rfl, ⟨⟩⟩ fun _ => (cno rfl (wp_exit (eThen (eThen (eHit (nThen (fg [(6, _), (8, _)] ⟨rfl, rfl, ⟨⟩⟩ fun _ => (sreg (sM rfl (sv (xbuildS [[.slice a3 k c3]] zr218 ly218 rfl (by simp [fitAll, zs218, Value.cells]) (by simp [setAll, zs218, Value.cells])) ?_)))))))))))
   refine suK (xstW h6 (lens' := [1]) sz218 (by simp []) rfl rfl rfl rfl) ?_
   rintro w143 ⟨m144, h6, s142⟩
   have hf := hf.step m144 (nB (by omega))
   have hv3 := RX.keep hv3 pair_st (fun k hk => by have hk := hU k hk; omega) (by omega) m144 (fun k hk hk3 hS => by have hS : k = b6 := hS; rcases hk with hk | hk <;> first | omega | (have := hU k hk; omega)) (by show ¬ (g = b6); omega)
   refine sA rfl (send (fg [(6, _), (7, _)] ⟨rfl, rfl, ⟨⟩⟩ fun _ => (wp_ret ?_)))
   refine rp2 rfl ⟨_, rfl, ldS (lens := [1]) ro218 h6.r⟩ rfl ?_
   have hkl : ps.length ≤ k := by rcases Nat.lt_or_ge k ps.length with h | h; exact absurd (pairs_take_lt (List.getElem?_eq_getElem h)) (by omega); exact h
   have hke : ps.take k = ps := List.take_of_length_le hkl
   rw [hke] at hv3 hkn
   exact ⟨.inl ⟨hkn, _, rfl, RX.la hv3 (by decide) pair_gr (fun k hk => hk.elim .inl (fun h => .inr ⟨by omega, by omega⟩)) (.inr ⟨by omega, by omega⟩)⟩, hf⟩
end Go.Proofs.YtifnodoffgfpbaaGreatDoor
