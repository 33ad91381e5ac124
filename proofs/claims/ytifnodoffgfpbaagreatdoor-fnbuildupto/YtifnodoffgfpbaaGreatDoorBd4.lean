/- Part 4 of the texts for a law of this seat: walks, and plain laws about messages; conditions: none. -/
import Derived.Test.YtifnodoffgfpbaaGreatDoorBd3
namespace Go.Proofs.YtifnodoffgfpbaaGreatDoor
open Go

theorem xcut1 {P : Program} {n : Nat} {l : List (Nat × Value)} {w : World} {ty : TypeId} {x : Operand} {T E : TypeId} {b o m c lo hi : Nat} {k k' : IntKind} {i j : Int} {p q : Operand} (hT : slcB P T E = true) (hE : szB P E 1 = true) (hx : ev n l x = some (.slice (some ⟨b, o, none⟩) m c))
    (hp : ev n l p = some (.int k i)) (hq : ev n l q = some (.int k' j)) (hi' : i = (lo : Int)) (hj : j = (hi : Int)) (h1 : lo ≤ hi) (h2 : hi ≤ c) (h3 : lo < c) : Ex P n l (.slice T x (some p) (some q) none) ty w (.slice (some ⟨b, o + lo, none⟩) (hi - lo) (c - lo)) w := by
  obtain ⟨v, w', h, o', rfl, ho, rfl⟩ := xcutLH (P := P) (w := w) (ty := ty) hT hE hx hp hq hi' hj h1 h2
  rw [ho h3, Nat.mul_one] at h
  exact h
theorem ba_fix {w : World} {b o n c : Nat} {d : List UInt8} (h : SR w b o [n] [bvs (fixedL d n)]) : BA (· = b) w (.slice (some ⟨b, o + 0, none⟩) n c) (fixedL d n) := by
  have := h.seg (i := 0) (k := 0) rfl rfl
  have := ba_rng (c := c) this
  rw [fixedL_length] at this
  exact this
def hdrL (a b c d e f : Nat) : List UInt8 := be16 a ++ (be16 b ++ (be16 c ++ (be16 d ++ (be16 e ++ be16 f))))
def hdTail (typ cls : UInt16) (ttl : UInt32) (len : Nat) : List UInt8 := be16 typ.toNat ++ (be16 cls.toNat ++ (be32 ttl.toNat ++ be16 len))
theorem hdTail_length (typ cls : UInt16) (ttl : UInt32) (len : Nat) : (hdTail typ cls ttl len).length = 10 := rfl
/-- what the packing of a record's header gives back -/
def HdrC (w : World) (g gm : Nat) (cm : Option Nat) (n k : Nat) (bs out : List UInt8) (C' : Option Ent) (u : Value) (w' : World) : Prop :=
  ∃ a c g', u = .tuple #[.slice a (n + out.length) c, .int .i64 (k : Int), .nilIface] ∧ BR w' (.slice a (n + out.length) c) g' (n + out.length) (bs ++ out) ∧ Fr (fun k => k = g ∨ k = gm) w w' ∧ (g' = g ∨ w.heap.size ≤ g') ∧ g' < w'.heap.size ∧ Cmp w' cm C'
theorem hdr_of {w w' : World} {g gm n m k : Nat} {cm : Option Nat} {bs out : List UInt8} {C' : Option Ent} {a : Option Addr} {c g' : Nat} {cs : List Value} {z : Int} (h : Rw w' (.slice a m c) g' 5 1 m cs) (hm : m = n + out.length) (hcs : cs = bvs (bs ++ out)) (hz : z = (k : Int)) (hf : Fr (fun k => k = g ∨ k = gm) w w') (hg : g' = g ∨ w.heap.size ≤ g') (hl : g' < w'.heap.size) (hC : Cmp w' cm C') :
    HdrC w g gm cm n k bs out C' (.tuple #[.slice a m c, .int .i64 z, .nilIface]) w' := by
  subst hm hcs hz
  exact ⟨a, c, g', rfl, h, hf, hg, hl, hC⟩
theorem n16 (x : UInt32) : be16 (x.toNat % 65536) = be16 x.toNat := be16_mod _
theorem packName_bound {C : Option Ent} {pos : Nat} {s : List UInt8} (hs : nameL s) : (packName C pos s).1.length ≤ 510 := by
  have := packName_le C pos s
  have := (name_pos hs).2
  omega

set_option maxHeartbeats 4000000 in
set_option maxRecDepth 100000 in
theorem c91i {w : World} {V : Value} {g c N b o lo : Nat} {b1 b3 : List UInt8} {y0a y0b y1a y1b y2a y2b y3a y3b y4a y4b y5a y5b : UInt8} {x0 x1 x2 x3 x4 x5 : Nat} (hR : BR w V g N (b1 ++ ([y0a, y0b] ++ ([y1a, y1b] ++ ([y2a, y2b] ++ ([y3a, y3b] ++ ([y4a, y4b] ++ ([y5a, y5b] ++ b3)))))))) (hb1 : b1.length = lo) (hc : 12 ≤ c) (_hg : g < w.heap.size) (hN : SR w b o lHdr6 (hdrSegs x0 x1 x2 x3 x4 x5)) (hb0 : b < w.heap.size) (hbg : b ≠ g) (hx : x0 < 65536 ∧ x1 < 65536 ∧ x2 < 65536 ∧ x3 < 65536 ∧ x4 < 65536 ∧ x5 < 65536) :
  Ret PP 91 [.pointer (some ⟨b, o, none⟩), .slice (some ⟨g, lo, none⟩) 0 c] w (fun _u w' => BR w' V g N (b1 ++ (hdrL x0 x1 x2 x3 x4 x5 ++ b3)) ∧ Fr (fun k => k = g) w w') := by
 have hf : Fr (fun k => k = g) w w := Fr.refl _ _
 refine ret_of Tryz.func91 rfl rfl rfl [(0, _), (1, _)] rfl ?_
 refine sreg (sA rfl (send (fg [(0, _), (1, _)] ⟨rfl, rfl, ⟨⟩⟩ fun _ => (sreg (sM rfl (sM rfl (sN rfl (sv (xfld fl121_0 rfl) (sv (xld on22 rfl (hN.c 0 rfl rfl)) ?_)))))))))
 refine sc (xcall ca148 rfl) (c148i (V := V) (N := N) (b1 := b1) (x2 := [y0a, y0b]) (b3 := ([y1a, y1b] ++ ([y2a, y2b] ++ ([y3a, y3b] ++ ([y4a, y4b] ++ ([y5a, y5b] ++ b3)))))) hR (by simp []; omega) rfl (by omega) (by omega)) ?_
 rintro _ w1 ⟨rfl, hR, m2⟩
 have z3 := m2.size
 have hN := hN.keep m2 (by omega) (by show ¬ (b = g); omega)
 have hf := hf.step m2 (fun k hk hS => by have hS : k = g := hS; show k = g; omega)
 rw [← List.append_assoc] at hR
 refine sA rfl (send (fg [(0, _), (1, _)] ⟨rfl, rfl, ⟨⟩⟩ fun _ => (sreg (sM rfl (sM rfl (sN rfl (sv (xfld fl121_1 rfl) (sv (xld on22 rfl (hN.c 1 rfl rfl)) ?_))))))))
 refine sc (xcall ca148 rfl) (c148i (V := V) (N := N) (b1 := (b1 ++ be16 x0)) (x2 := [y1a, y1b]) (b3 := ([y2a, y2b] ++ ([y3a, y3b] ++ ([y4a, y4b] ++ ([y5a, y5b] ++ b3))))) hR (by simp [be16]; omega) rfl (by omega) (by omega)) ?_
 rintro _ w4 ⟨rfl, hR, m5⟩
 have z6 := m5.size
 have hN := hN.keep m5 (by omega) (by show ¬ (b = g); omega)
 have hf := hf.step m5 (fun k hk hS => by have hS : k = g := hS; show k = g; omega)
 rw [← List.append_assoc] at hR
 refine sA rfl (send (fg [(0, _), (1, _)] ⟨rfl, rfl, ⟨⟩⟩ fun _ => (sreg (sM rfl (sM rfl (sN rfl (sv (xfld fl121_2 rfl) (sv (xld on22 rfl (hN.c 2 rfl rfl)) ?_))))))))
 refine sc (xcall ca148 rfl) (c148i (V := V) (N := N) (b1 := ((b1 ++ be16 x0) ++ be16 x1)) (x2 := [y2a, y2b]) (b3 := ([y3a, y3b] ++ ([y4a, y4b] ++ ([y5a, y5b] ++ b3)))) hR (by simp [be16]; omega) rfl (by omega) (by omega)) ?_
 rintro _ w7 ⟨rfl, hR, m8⟩
 have z9 := m8.size
 have hN := hN.keep m8 (by omega) (by show ¬ (b = g); omega)
 have hf := hf.step m8 (fun k hk hS => by have hS : k = g := hS; show k = g; omega)
 rw [← List.append_assoc] at hR
 refine sA rfl (send (fg [(0, _), (1, _)] ⟨rfl, rfl, ⟨⟩⟩ fun _ => (sreg (sM rfl (sM rfl (sN rfl (sv (xfld fl121_3 rfl) (sv (xld on22 rfl (hN.c 3 rfl rfl)) ?_))))))))
 refine sc (xcall ca148 rfl) (c148i (V := V) (N := N) (b1 := (((b1 ++ be16 x0) ++ be16 x1) ++ be16 x2)) (x2 := [y3a, y3b]) (b3 := ([y4a, y4b] ++ ([y5a, y5b] ++ b3))) hR (by simp [be16]; omega) rfl (by omega) (by omega)) ?_
 rintro _ w10 ⟨rfl, hR, m11⟩
 have z12 := m11.size
 have hN := hN.keep m11 (by omega) (by show ¬ (b = g); omega)
 have hf := hf.step m11 (fun k hk hS => by have hS : k = g := hS; show k = g; omega)
 rw [← List.append_assoc] at hR
 refine sA rfl (send (fg [(0, _), (1, _)] ⟨rfl, rfl, ⟨⟩⟩ fun _ => (sreg (sM rfl (sM rfl (sN rfl (sv (xfld fl121_4 rfl) (sv (xld on22 rfl (hN.c 4 rfl rfl)) ?_))))))))
 refine sc (xcall ca148 rfl) (c148i (V := V) (N := N) (b1 := ((((b1 ++ be16 x0) ++ be16 x1) ++ be16 x2) ++ be16 x3)) (x2 := [y4a, y4b]) (b3 := ([y5a, y5b] ++ b3)) hR (by simp [be16]; omega) rfl (by omega) (by omega)) ?_
 rintro _ w13 ⟨rfl, hR, m14⟩
 have z15 := m14.size
 have hN := hN.keep m14 (by omega) (by show ¬ (b = g); omega)
 have hf := hf.step m14 (fun k hk hS => by have hS : k = g := hS; show k = g; omega)
 rw [← List.append_assoc] at hR
 refine sA rfl (send (fg [(0, _), (1, _)] ⟨rfl, rfl, ⟨⟩⟩ fun _ => (sreg (sM rfl (sM rfl (sN rfl (sv (xfld fl121_5 rfl) (sv (xld on22 rfl (hN.c 5 rfl rfl)) ?_))))))))
 refine sc (xcall ca148 rfl) (c148i (V := V) (N := N) (b1 := (((((b1 ++ be16 x0) ++ be16 x1) ++ be16 x2) ++ be16 x3) ++ be16 x4)) (x2 := [y5a, y5b]) (b3 := b3) hR (by simp [be16]; omega) rfl (by omega) (by omega)) ?_
 rintro _ w16 ⟨rfl, hR, m17⟩
 have z18 := m17.size
 have hf := hf.step m17 (fun k hk hS => by have hS : k = g := hS; show k = g; omega)
 refine sA rfl (send (fg [(4, _)] ⟨rfl, ⟨⟩⟩ fun _ => (wp_ret ?_)))
 refine rp1 rfl rfl ?_
 refine ⟨br_cast hR (by simp [hdrL]) rfl, hf⟩
set_option maxHeartbeats 4000000 in
set_option maxRecDepth 100000 in
theorem c92 {w : World} {v : Value} {g gm n start pos : Nat} {bs : List UInt8} {cm : Option Nat} {C : Option Ent} (hR : BR w v g n bs) (hg : g < w.heap.size) {bo o : Nat} (hbo : bo < w.heap.size) (hbg : bo ≠ g) (hbm : bo ≠ gm) {a : AskD} (hN : SR w bo o lQ (questSegs a)) (hs : nameL (bt a.name)) (hC : Cmp w cm C) (hm : ∀ b, cm = some b → b = gm ∧ gm ≠ g ∧ gm < w.heap.size) (hp : n = start + pos) (hl : n < 999000000)  :
  Ret PP 92 [.pointer (some ⟨bo, o, none⟩), v, .map cm, .int .i64 (start : Int)] w (AppC w g gm cm n bs (packAsk C pos a).1 (packAsk C pos a).2) := by
 obtain ⟨a0, c0, rfl, -⟩ := hR.form
 have hf : Fr (fun k => k = g ∨ k = gm) w w := Fr.refl _ _
 refine ret_of Tryz.func92 rfl rfl rfl [(0, _), (1, _), (2, _), (3, _)] rfl ?_
 refine sreg (sA rfl (sA rfl (send (fg [(0, _), (1, _), (2, _), (3, _)] ⟨rfl, rfl, rfl, rfl, ⟨⟩⟩ fun _ => (sreg (sM rfl (sN rfl (sv (xfld fl86_0 rfl) (sM rfl (sM rfl (sM rfl ?_)))))))))))
 refine sc (xcall ca149 rfl) (c149 (gm := gm) (pos := pos) (s := bt a.name) hR (by omega) (SR.sub hN 0 1 rfl) (by omega) (by omega) (by omega) hC (fun b hb => by have hb := hm b hb; omega) (by omega) (by omega) hs) ?_
 rintro _ w1 ⟨p18, q18, g18, rfl, r18, m2, a18, l18, hC⟩
 have z3 := m2.size
 have hN := hN.keep m2 (by omega) (by show ¬ (bo = g ∨ bo = gm); omega)
 have hf := hf.step m2 (fun k hk hS => by have hS : k = g ∨ k = gm := hS; show k = g ∨ k = gm; omega)
 have hpl18 := packName_bound (C := C) (pos := pos) (s := bt a.name) hs
 refine sM rfl (sv (xextr rfl rfl) (sv (xextr rfl rfl) (sA rfl (sA rfl (send (fg [(0, _), (1, _), (10, _)] ⟨rfl, rfl, rfl, ⟨⟩⟩ fun _ => (wp_seq (sreg (sM rfl (sv (xneN if89 rfl) (send (fg [(0, _), (1, _), (10, _), (22, _)] ⟨rfl, rfl, rfl, rfl, ⟨⟩⟩ fun _ => (cno rfl (wp_skip (nThen (fg [(0, _), (1, _)] ⟨rfl, rfl, ⟨⟩⟩ fun _ => (sreg (sM rfl (sM rfl (sN rfl (sv (xfld fl86_1 rfl) (sv (xld on83 rfl (hN.c 1 rfl rfl)) ?_))))))))))))))))))))))
 refine sc (xcall ca150 rfl) (c150 r18 (by omega) (by first | omega | exact u16lt _) (by omega)) ?_
 rintro _ w4 ⟨p33, q33, g33, rfl, r33, m5, a33, l33⟩
 have z6 := m5.size
 have hN := hN.keep m5 (by omega) (by show ¬ (bo = g18); omega)
 have hf := hf.step m5 (fun k hk hS => by have hS : k = g18 := hS; show k = g ∨ k = gm; omega)
 have hC := hC.keep m5 (fun b hb => by have hb := hm b hb; show ¬ (b = g18); omega)
 refine sA rfl (send (fg [(0, _), (1, _)] ⟨rfl, rfl, ⟨⟩⟩ fun _ => (sreg (sM rfl (sM rfl (sN rfl (sv (xfld fl86_2 rfl) (sv (xld on84 rfl (hN.c 2 rfl rfl)) ?_))))))))
 refine sc (xcall ca151 rfl) (c151 r33 (by omega) (by first | omega | exact u16lt _) (by omega)) ?_
 rintro _ w7 ⟨p39, q39, g39, rfl, r39, m8, a39, l39⟩
 have z9 := m8.size
 have hf := hf.step m8 (fun k hk hS => by have hS : k = g33 := hS; show k = g ∨ k = gm; omega)
 have hC := hC.keep m8 (fun b hb => by have hb := hm b hb; show ¬ (b = g33); omega)
 refine sA rfl (sA rfl (send (fg [(8, _), (9, _)] ⟨rfl, rfl, ⟨⟩⟩ fun _ => (wp_ret ?_))))
 refine rp2 rfl rfl rfl ?_
 exact app_ofC r39 (by simp [packAsk, be16_length]; omega) (by simp [packAsk, bvs_app]) hf (by omega) (by omega) hC
set_option maxHeartbeats 4000000 in
set_option maxRecDepth 100000 in
theorem c152 {w : World} {v : Value} {g gm n start pos : Nat} {bs : List UInt8} {cm : Option Nat} {C : Option Ent} (hR : BR w v g n bs) (hg : g < w.heap.size) {bo o : Nat} (hbo : bo < w.heap.size) (hbg : bo ≠ g) (hbm : bo ≠ gm) {s : List UInt8} {typ cls : UInt16} {ttl : UInt32} {len : Nat} (hN : SR w bo o lRH (rhSegs s typ cls ttl len)) (hs : nameL s) (hlen : len < 65536) (hC : Cmp w cm C) (hm : ∀ b, cm = some b → b = gm ∧ gm ≠ g ∧ gm < w.heap.size) (hp : n = start + pos) (hl : n < 999000000)  :
  Ret PP 152 [.pointer (some ⟨bo, o, none⟩), v, .map cm, .int .i64 (start : Int)] w (HdrC w g gm cm n (n + (packName C pos s).1.length + 8) bs ((packName C pos s).1 ++ hdTail typ cls ttl len) (packName C pos s).2) := by
 obtain ⟨a0, c0, rfl, -⟩ := hR.form
 have hf : Fr (fun k => k = g ∨ k = gm) w w := Fr.refl _ _
 refine ret_of Tryz.func152 rfl rfl rfl [(0, _), (1, _), (2, _), (3, _)] rfl ?_
 refine sreg (sA rfl (sA rfl (sA rfl (send (fg [(0, _), (1, _), (2, _), (3, _)] ⟨rfl, rfl, rfl, rfl, ⟨⟩⟩ fun _ => (sreg (sM rfl (sA rfl (send (fg [(0, _), (1, _), (2, _), (3, _), (8, _)] ⟨rfl, rfl, rfl, rfl, rfl, ⟨⟩⟩ fun _ => (wp_seq (sreg (sM rfl (sN rfl (sv (xfld fl135_0 rfl) (sM rfl (sM rfl (sM rfl ?_))))))))))))))))))
 refine sc (xcall ca149 rfl) (c149 (gm := gm) (pos := pos) (s := s) hR (by omega) (SR.sub hN 0 1 rfl) (by omega) (by omega) (by omega) hC (fun b hb => by have hb := hm b hb; omega) (by omega) (by omega) hs) ?_
 rintro _ w1 ⟨p19, q19, g19, rfl, r19, m2, a19, l19, hC⟩
 have z3 := m2.size
 have hN := hN.keep m2 (by omega) (by show ¬ (bo = g ∨ bo = gm); omega)
 have hf := hf.step m2 (fun k hk hS => by have hS : k = g ∨ k = gm := hS; show k = g ∨ k = gm; omega)
 have hpl19 := packName_bound (C := C) (pos := pos) (s := s) hs
 refine sM rfl (sv (xextr rfl rfl) (sv (xextr rfl rfl) (sA rfl (sA rfl (send (fg [(0, _), (1, _), (8, _), (10, _)] ⟨rfl, rfl, rfl, rfl, ⟨⟩⟩ fun _ => (sreg (sM rfl (sv (xneN if89 rfl) (send (fg [(0, _), (1, _), (8, _), (10, _), (23, _)] ⟨rfl, rfl, rfl, rfl, rfl, ⟨⟩⟩ fun _ => (cno rfl (wp_skip (nThen (fg [(0, _), (8, _)] ⟨rfl, rfl, ⟨⟩⟩ fun _ => (sreg (sM rfl (sM rfl (sN rfl (sv (xfld fl135_1 rfl) (sv (xld on83 rfl (hN.c 1 rfl rfl)) ?_)))))))))))))))))))))
 refine sc (xcall ca150 rfl) (c150 r19 (by omega) (by first | omega | exact u16lt _) (by omega)) ?_
 rintro _ w4 ⟨p34, q34, g34, rfl, r34, m5, a34, l34⟩
 have z6 := m5.size
 have hN := hN.keep m5 (by omega) (by show ¬ (bo = g19); omega)
 have hf := hf.step m5 (fun k hk hS => by have hS : k = g19 := hS; show k = g ∨ k = gm; omega)
 have hC := hC.keep m5 (fun b hb => by have hb := hm b hb; show ¬ (b = g19); omega)
 refine sA rfl (send (fg [(0, _), (8, _)] ⟨rfl, rfl, ⟨⟩⟩ fun _ => (sreg (sM rfl (sM rfl (sN rfl (sv (xfld fl135_2 rfl) (sv (xld on84 rfl (hN.c 2 rfl rfl)) ?_))))))))
 refine sc (xcall ca151 rfl) (c151 r34 (by omega) (by first | omega | exact u16lt _) (by omega)) ?_
 rintro _ w7 ⟨p40, q40, g40, rfl, r40, m8, a40, l40⟩
 have z9 := m8.size
 have hN := hN.keep m8 (by omega) (by show ¬ (bo = g34); omega)
 have hf := hf.step m8 (fun k hk hS => by have hS : k = g34 := hS; show k = g ∨ k = gm; omega)
 have hC := hC.keep m8 (fun b hb => by have hb := hm b hb; show ¬ (b = g34); omega)
 refine sA rfl (send (fg [(0, _), (8, _)] ⟨rfl, rfl, ⟨⟩⟩ fun _ => (sreg (sM rfl (sM rfl (sN rfl (sv (xfld fl135_3 rfl) (sv (xld on61 rfl (hN.c 3 rfl rfl)) ?_))))))))
 refine sc (xcall ca191 rfl) (c191 r40 (by omega) (by first | omega | exact u32lt _) (by omega)) ?_
 rintro _ w10 ⟨p46, q46, g46, rfl, r46, m11, a46, l46⟩
 have z12 := m11.size
 have hN := hN.keep m11 (by omega) (by show ¬ (bo = g40); omega)
 have hf := hf.step m11 (fun k hk hS => by have hS : k = g40 := hS; show k = g ∨ k = gm; omega)
 have hC := hC.keep m11 (fun b hb => by have hb := hm b hb; show ¬ (b = g40); omega)
 refine sA rfl (send (fg [(0, _), (8, _)] ⟨rfl, rfl, ⟨⟩⟩ fun _ => (sreg (sM rfl (sv (xlen sl37 rfl) (sA rfl (send (fg [(0, _), (8, _), (9, _)] ⟨rfl, rfl, rfl, ⟨⟩⟩ fun _ => (sreg (sM rfl (sM rfl (sN rfl (sv (xfld fl135_4 rfl) (sv (xld on22 rfl (hN.c 4 rfl rfl)) ?_))))))))))))))
 refine sc (xcall ca148 rfl) (c148 r46 (by omega) (by first | omega | exact u16lt _) (by omega)) ?_
 rintro _ w13 ⟨p54, q54, g54, rfl, r54, m14, a54, l54⟩
 have z15 := m14.size
 have hf := hf.step m14 (fun k hk hS => by have hS : k = g46 := hS; show k = g ∨ k = gm; omega)
 have hC := hC.keep m14 (fun b hb => by have hb := hm b hb; show ¬ (b = g46); omega)
 refine sA rfl (send (fg [(8, _), (9, _)] ⟨rfl, rfl, ⟨⟩⟩ fun _ => (sreg (sM rfl (sM rfl (sA rfl (sA rfl (sA rfl (send (fg [(8, _), (9, _), (10, _)] ⟨rfl, rfl, rfl, ⟨⟩⟩ fun _ => (wp_ret ?_)))))))))))
 refine rp3 rfl rfl rfl rfl ?_
 exact hdr_of r54 (by simp [hdTail_length]; omega) (by simp [hdTail, bvs_app]) (by omega) hf (by omega) (by omega) hC
set_option maxHeartbeats 4000000 in
set_option maxRecDepth 100000 in
theorem c153 {w : World} {V : Value} {g N bh o lo preLen len : Nat} {T : TypeId} {pre post : List Value} {s : List UInt8} {typ cls : UInt16} {ttl : UInt32} {b1 x2 b3 : List UInt8} (hR : BR w V g N (b1 ++ (x2 ++ b3))) (_hg : g < w.heap.size) (hx2 : x2.length = 2) (hE : SE w bh T pre lRH (rhSegs s typ cls ttl len) post) (hpo : pre.length = o) (hbg : bh ≠ g) (hlo : b1.length = lo) (hpl : preLen ≤ N) (hcl : N - preLen < 65536) (hN9 : N < 1000000000) :
  Ret PP 153 [.pointer (some ⟨bh, o, none⟩), V, .int .i64 (lo : Int), .int .i64 (preLen : Int)] w (fun u w' => u = .nilIface ∧ BR w' V g N (b1 ++ (be16 (N - preLen) ++ b3)) ∧ SE w' bh T pre lRH (rhSegs s typ cls ttl (N - preLen)) post ∧ Fr (fun k => k = g ∨ k = bh) w w') := by
 have hz0 := hE.lt
 have hNl := hR.len
 simp only [List.length_append, hx2] at hNl
 obtain ⟨a0, c0, rfl, hnc, hcm, ha, -⟩ := hR.form
 obtain rfl := ha (by omega)
 obtain ⟨V, hV⟩ : ∃ V, V = Value.slice (some ⟨g, 0, none⟩) N c0 := ⟨_, rfl⟩
 have hf : Fr (fun k => k = g ∨ k = bh) w w := Fr.refl _ _
 refine ret_of Tryz.func153 rfl rfl rfl [(0, _), (1, _), (2, _), (3, _)] rfl ?_
 refine sreg (sA rfl (send (fg [(0, _), (1, _), (2, _), (3, _)] ⟨rfl, rfl, rfl, rfl, ⟨⟩⟩ fun _ => (sreg (sM rfl (sv (xlen sl37 rfl) (sM rfl (sv (xsub rfl rfl (w64 (by omega) (by omega))) (sA rfl (send (fg [(0, _), (1, _), (2, _), (9, _)] ⟨rfl, rfl, rfl, rfl, ⟨⟩⟩ fun _ => (wp_seq (sreg (sM rfl (sv (exF (xgtr rfl rfl) (by omega)) (send (fg [(0, _), (1, _), (2, _), (9, _), (15, _)] ⟨rfl, rfl, rfl, rfl, rfl, ⟨⟩⟩ fun _ => (cno rfl (wp_skip (nThen (fg [(0, _), (1, _), (2, _), (9, _)] ⟨rfl, rfl, rfl, rfl, ⟨⟩⟩ fun _ => (sreg (sM rfl (sM rfl ?_))))))))))))))))))))))))
 refine sM rfl (sv (xcut1 (lo := lo) (hi := lo) sl37 sz5 rfl rfl rfl rfl rfl (by omega) (by omega) (by omega)) (sM rfl (sv (xconv hs3 ki22 rfl (wu16n (N - preLen) (by omega))) ?_)))
 refine sc (xcall ca148 rfl) (c148i (V := .slice (some ⟨g, 0, none⟩) N c0) (N := N) (b1 := b1) (x2 := x2) (b3 := b3) hR (by omega) hx2 (by omega) (by omega)) ?_
 rintro _ w1 ⟨rfl, hR, m2⟩
 have z3 := m2.size
 have hE := hE.keep m2 (by show ¬ (bh = g); omega)
 have hf := hf.step m2 (fun k hk hS => by have hS : k = g := hS; show k = g ∨ k = bh; omega)
 refine send (fg [(0, _), (9, _)] ⟨rfl, rfl, ⟨⟩⟩ fun _ => (sreg (sM rfl (sM rfl (sv (xconv hs3 ki22 rfl (wu16n (N - preLen) (by omega))) (sN rfl (sv (xfld fl135_4 rfl) ?_)))))))
 refine suK (xstE 4 sz22 hE hpo rfl rfl rfl rfl rfl) ?_
 rintro w5 ⟨m6, hE, s4⟩
 have hf := hf.step m6 (fun k hk hS => by have hS : k = bh := hS; show k = g ∨ k = bh; omega)
 have hR := hR.keep m6 (by show ¬ (g = bh); omega)
 refine send (fg [] trivial fun _ => (sreg (sA rfl (send (fg [(8, _)] ⟨rfl, ⟨⟩⟩ fun _ => (wp_ret ?_))))))
 refine rp1 rfl rfl ?_
 exact ⟨rfl, hR, hE, hf⟩
set_option maxHeartbeats 4000000 in
set_option maxRecDepth 100000 in
theorem c164 {w : World} {v : Value} {g gm n start pos : Nat} {bs : List UInt8} {cm : Option Nat} {C : Option Ent} (hR : BR w v g n bs) (hg : g < w.heap.size) {bo o : Nat} (_hbo : bo < w.heap.size) (_hbg : bo ≠ g) (_hbm : bo ≠ gm) {r : RecD} (hk : r.kind = 1) (hN : SR w bo o [4] [bvs (fixedL r.data 4)]) (hn0 : 0 < n) (hC : Cmp w cm C) (hm : ∀ b, cm = some b → b = gm ∧ gm ≠ g ∧ gm < w.heap.size) (hp : n = start + pos) (hl : n < 999000000)  :
  Ret PP 164 [.pointer (some ⟨bo, o, none⟩), v, .map cm, .int .i64 (start : Int)] w (AppC w g gm cm n bs (packBody C pos r).1 (packBody C pos r).2) := by
 obtain ⟨a0, c0, rfl, -⟩ := hR.form
 have hf : Fr (fun k => k = g ∨ k = gm) w w := Fr.refl _ _
 refine ret_of Tryz.func164 rfl rfl rfl [(0, _), (1, _), (2, _), (3, _)] rfl ?_
 refine sreg (sA rfl (sA rfl (send (fg [(0, _), (1, _)] ⟨rfl, rfl, ⟨⟩⟩ fun _ => (sreg (sM rfl (sM rfl (sN rfl (sv (xfld fl189_0 rfl) (sv (xcutA ar187 sz5 rfl) ?_))))))))))
 refine sc (xcall ca208 rfl) (c208 hR (by omega) (ba_fix hN) (by rw [fixedL_length]; omega) (by omega) (by omega)) ?_
 rintro _ w1 ⟨p15, q15, g15, rfl, r15, m2, a15, l15⟩
 have z3 := m2.size
 have hC := hC.keep m2 (fun b hb => by have hb := hm b hb; show ¬ (b = g); omega)
 have hf := hf.step m2 (fun k hk hS => by have hS : k = g := hS; show k = g ∨ k = gm; omega)
 refine sA rfl (sA rfl (send (fg [(8, _), (9, _)] ⟨rfl, rfl, ⟨⟩⟩ fun _ => (wp_ret ?_))))
 refine rp2 rfl rfl rfl ?_
 rw [pb_rest (by omega), bodyL_simp.1 hk]
 exact app_ofC r15 (by simp [fixedL_length]) (by simp [bvs_app]) hf (by omega) (by omega) hC
set_option maxHeartbeats 4000000 in
set_option maxRecDepth 100000 in
theorem c178 {w : World} {v : Value} {g gm n start pos : Nat} {bs : List UInt8} {cm : Option Nat} {C : Option Ent} (hR : BR w v g n bs) (hg : g < w.heap.size) {bo o : Nat} (_hbo : bo < w.heap.size) (_hbg : bo ≠ g) (_hbm : bo ≠ gm) {r : RecD} (hk : r.kind = 8) (hN : SR w bo o [16] [bvs (fixedL r.data 16)]) (hn0 : 0 < n) (hC : Cmp w cm C) (hm : ∀ b, cm = some b → b = gm ∧ gm ≠ g ∧ gm < w.heap.size) (hp : n = start + pos) (hl : n < 999000000)  :
  Ret PP 178 [.pointer (some ⟨bo, o, none⟩), v, .map cm, .int .i64 (start : Int)] w (AppC w g gm cm n bs (packBody C pos r).1 (packBody C pos r).2) := by
 obtain ⟨a0, c0, rfl, -⟩ := hR.form
 have hf : Fr (fun k => k = g ∨ k = gm) w w := Fr.refl _ _
 refine ret_of Tryz.func178 rfl rfl rfl [(0, _), (1, _), (2, _), (3, _)] rfl ?_
 refine sreg (sA rfl (sA rfl (send (fg [(0, _), (1, _)] ⟨rfl, rfl, ⟨⟩⟩ fun _ => (sreg (sM rfl (sM rfl (sN rfl (sv (xfld fl211_0 rfl) (sv (xcutA ar209 sz5 rfl) ?_))))))))))
 refine sc (xcall ca208 rfl) (c208 hR (by omega) (ba_fix hN) (by rw [fixedL_length]; omega) (by omega) (by omega)) ?_
 rintro _ w1 ⟨p15, q15, g15, rfl, r15, m2, a15, l15⟩
 have z3 := m2.size
 have hC := hC.keep m2 (fun b hb => by have hb := hm b hb; show ¬ (b = g); omega)
 have hf := hf.step m2 (fun k hk hS => by have hS : k = g := hS; show k = g ∨ k = gm; omega)
 refine sA rfl (sA rfl (send (fg [(8, _), (9, _)] ⟨rfl, rfl, ⟨⟩⟩ fun _ => (wp_ret ?_))))
 refine rp2 rfl rfl rfl ?_
 rw [pb_rest (by omega), bodyL_simp.2.1 hk]
 exact app_ofC r15 (by simp [fixedL_length]) (by simp [bvs_app]) hf (by omega) (by omega) hC
end Go.Proofs.YtifnodoffgfpbaaGreatDoor

namespace Go.Proofs.YtifnodoffgfpbaaGreatDoor
open Go

theorem xcutF {P : Program} {n : Nat} {l : List (Nat × Value)} {w : World} {ty : TypeId} {x : Operand} {T E : TypeId} {sz m c : Nat} {a : Option Addr} (hT : slcB P T E = true) (hE : szB P E sz = true) (hx : ev n l x = some (.slice a m c)) :
    Ex P n l (.slice T x none none none) ty w (.slice a m c) w := fun r _ _ _ _ => by
  have hs := szB_spec hE
  cases hi' : P.info? E with
  | none => rw [hi'] at hs; cases hs
  | some u =>
    rw [hi'] at hs
    simp only [Option.map_some, Option.some.injEq] at hs
    simp only [execOp, ev_eval r hx]
    simp [Instr.sliceAt, Instr.slice, run_underlying (slcB_spec hT), Instr.sliceBounds, sizeOf, typeInfo, hi']
    cases a with
    | none => simp
    | some a => simp [Addr.add]
theorem asc_pos {ps : List PairD} (h : asc ps) {k : Nat} {p : PairD} (hp : ps[k]? = some p) (hk : 0 < k) : 0 < p.key.toNat := by
  obtain ⟨q, hq⟩ := some_of_lt (l := ps) (k := k - 1) (by have := (List.getElem?_eq_some_iff.1 hp).1; omega)
  have := h (k - 1) q p hq (by rw [show k - 1 + 1 = k by omega]; exact hp)
  omega
theorem pairs_take_le (ps : List PairD) (k : Nat) : (pairsL (ps.take k)).length ≤ (pairsL ps).length := by
  conv => rhs; rw [← List.take_append_drop k ps]
  simp only [pairsL, List.map_append, List.flatten_append, List.length_append]; omega
theorem texts_take_le (ps : List ByteArray) (k : Nat) : (textsL (ps.take k)).length ≤ (textsL ps).length := by
  conv => rhs; rw [← List.take_append_drop k ps]
  simp only [textsL, List.map_append, List.flatten_append, List.length_append]; omega

set_option maxHeartbeats 4000000 in
set_option maxRecDepth 100000 in
theorem c166 {w : World} {v : Value} {g gm n start pos : Nat} {bs : List UInt8} {cm : Option Nat} {C : Option Ent} (hR : BR w v g n bs) (hg : g < w.heap.size) {bo o : Nat} (hbo : bo < w.heap.size) (hbg : bo ≠ g) (hbm : bo ≠ gm) {r : RecD} (hk : r.kind = 2) (hN : SR w bo o [256] [nm (bt r.host)]) (hn0 : 0 < n) (hsh : nameL (bt r.host)) (hC : Cmp w cm C) (hm : ∀ b, cm = some b → b = gm ∧ gm ≠ g ∧ gm < w.heap.size) (hp : n = start + pos) (hl : n < 999000000)  :
  Ret PP 166 [.pointer (some ⟨bo, o, none⟩), v, .map cm, .int .i64 (start : Int)] w (AppC w g gm cm n bs (packBody C pos r).1 (packBody C pos r).2) := by
 obtain ⟨a0, c0, rfl, -⟩ := hR.form
 have hf : Fr (fun k => k = g ∨ k = gm) w w := Fr.refl _ _
 refine ret_of Tryz.func166 rfl rfl rfl [(0, _), (1, _), (2, _), (3, _)] rfl ?_
 refine sreg (sA rfl (sA rfl (send (fg [(0, _), (1, _), (2, _), (3, _)] ⟨rfl, rfl, rfl, rfl, ⟨⟩⟩ fun _ => (sreg (sM rfl (sN rfl (sv (xfld fl192_0 rfl) (sM rfl (sM rfl (sM rfl ?_)))))))))))
 refine sc (xcall ca149 rfl) (c149 (gm := gm) (pos := pos) (s := bt r.host) hR (by omega) (SR.sub hN 0 1 rfl) (by omega) (by omega) (by omega) hC (fun b hb => by have hb := hm b hb; omega) (by omega) (by omega) hsh) ?_
 rintro _ w1 ⟨p16, q16, g16, rfl, r16, m2, a16, l16, hC⟩
 have z3 := m2.size
 have hf := hf.step m2 (fun k hk hS => by have hS : k = g ∨ k = gm := hS; show k = g ∨ k = gm; omega)
 have hpl16 := packName_bound (C := C) (pos := pos) (s := bt r.host) hsh
 refine sv (xextr rfl rfl) (sv (xextr rfl rfl) (sA rfl (sA rfl (send (fg [(8, _), (9, _)] ⟨rfl, rfl, ⟨⟩⟩ fun _ => (wp_ret ?_))))))
 refine rp2 rfl rfl rfl ?_
 rw [pb_name (by omega)]
 exact app_ofC r16 rfl rfl hf (by omega) (by omega) hC
set_option maxHeartbeats 4000000 in
set_option maxRecDepth 100000 in
theorem c168 {w : World} {v : Value} {g gm n start pos : Nat} {bs : List UInt8} {cm : Option Nat} {C : Option Ent} (hR : BR w v g n bs) (hg : g < w.heap.size) {bo o : Nat} (hbo : bo < w.heap.size) (hbg : bo ≠ g) (hbm : bo ≠ gm) {r : RecD} (hk : r.kind = 3) (hN : SR w bo o [256] [nm (bt r.host)]) (hn0 : 0 < n) (hsh : nameL (bt r.host)) (hC : Cmp w cm C) (hm : ∀ b, cm = some b → b = gm ∧ gm ≠ g ∧ gm < w.heap.size) (hp : n = start + pos) (hl : n < 999000000)  :
  Ret PP 168 [.pointer (some ⟨bo, o, none⟩), v, .map cm, .int .i64 (start : Int)] w (AppC w g gm cm n bs (packBody C pos r).1 (packBody C pos r).2) := by
 obtain ⟨a0, c0, rfl, -⟩ := hR.form
 have hf : Fr (fun k => k = g ∨ k = gm) w w := Fr.refl _ _
 refine ret_of Tryz.func168 rfl rfl rfl [(0, _), (1, _), (2, _), (3, _)] rfl ?_
 refine sreg (sA rfl (sA rfl (send (fg [(0, _), (1, _), (2, _), (3, _)] ⟨rfl, rfl, rfl, rfl, ⟨⟩⟩ fun _ => (sreg (sM rfl (sN rfl (sv (xfld fl195_0 rfl) (sM rfl (sM rfl (sM rfl ?_)))))))))))
 refine sc (xcall ca149 rfl) (c149 (gm := gm) (pos := pos) (s := bt r.host) hR (by omega) (SR.sub hN 0 1 rfl) (by omega) (by omega) (by omega) hC (fun b hb => by have hb := hm b hb; omega) (by omega) (by omega) hsh) ?_
 rintro _ w1 ⟨p16, q16, g16, rfl, r16, m2, a16, l16, hC⟩
 have z3 := m2.size
 have hf := hf.step m2 (fun k hk hS => by have hS : k = g ∨ k = gm := hS; show k = g ∨ k = gm; omega)
 have hpl16 := packName_bound (C := C) (pos := pos) (s := bt r.host) hsh
 refine sv (xextr rfl rfl) (sv (xextr rfl rfl) (sA rfl (sA rfl (send (fg [(8, _), (9, _)] ⟨rfl, rfl, ⟨⟩⟩ fun _ => (wp_ret ?_))))))
 refine rp2 rfl rfl rfl ?_
 rw [pb_name (by omega)]
 exact app_ofC r16 rfl rfl hf (by omega) (by omega) hC
set_option maxHeartbeats 4000000 in
set_option maxRecDepth 100000 in
theorem c172 {w : World} {v : Value} {g gm n start pos : Nat} {bs : List UInt8} {cm : Option Nat} {C : Option Ent} (hR : BR w v g n bs) (hg : g < w.heap.size) {bo o : Nat} (hbo : bo < w.heap.size) (hbg : bo ≠ g) (hbm : bo ≠ gm) {r : RecD} (hk : r.kind = 5) (hN : SR w bo o [256] [nm (bt r.host)]) (hn0 : 0 < n) (hsh : nameL (bt r.host)) (hC : Cmp w cm C) (hm : ∀ b, cm = some b → b = gm ∧ gm ≠ g ∧ gm < w.heap.size) (hp : n = start + pos) (hl : n < 999000000)  :
  Ret PP 172 [.pointer (some ⟨bo, o, none⟩), v, .map cm, .int .i64 (start : Int)] w (AppC w g gm cm n bs (packBody C pos r).1 (packBody C pos r).2) := by
 obtain ⟨a0, c0, rfl, -⟩ := hR.form
 have hf : Fr (fun k => k = g ∨ k = gm) w w := Fr.refl _ _
 refine ret_of Tryz.func172 rfl rfl rfl [(0, _), (1, _), (2, _), (3, _)] rfl ?_
 refine sreg (sA rfl (sA rfl (send (fg [(0, _), (1, _), (2, _), (3, _)] ⟨rfl, rfl, rfl, rfl, ⟨⟩⟩ fun _ => (sreg (sM rfl (sN rfl (sv (xfld fl201_0 rfl) (sM rfl (sM rfl (sM rfl ?_)))))))))))
 refine sc (xcall ca149 rfl) (c149 (gm := gm) (pos := pos) (s := bt r.host) hR (by omega) (SR.sub hN 0 1 rfl) (by omega) (by omega) (by omega) hC (fun b hb => by have hb := hm b hb; omega) (by omega) (by omega) hsh) ?_
 rintro _ w1 ⟨p16, q16, g16, rfl, r16, m2, a16, l16, hC⟩
 have z3 := m2.size
 have hf := hf.step m2 (fun k hk hS => by have hS : k = g ∨ k = gm := hS; show k = g ∨ k = gm; omega)
 have hpl16 := packName_bound (C := C) (pos := pos) (s := bt r.host) hsh
 refine sv (xextr rfl rfl) (sv (xextr rfl rfl) (sA rfl (sA rfl (send (fg [(8, _), (9, _)] ⟨rfl, rfl, ⟨⟩⟩ fun _ => (wp_ret ?_))))))
 refine rp2 rfl rfl rfl ?_
 rw [pb_name (by omega)]
 exact app_ofC r16 rfl rfl hf (by omega) (by omega) hC
set_option maxHeartbeats 4000000 in
set_option maxRecDepth 100000 in
theorem c174 {w : World} {v : Value} {g gm n start pos : Nat} {bs : List UInt8} {cm : Option Nat} {C : Option Ent} (hR : BR w v g n bs) (hg : g < w.heap.size) {bo o : Nat} (hbo : bo < w.heap.size) (hbg : bo ≠ g) (hbm : bo ≠ gm) {r : RecD} (hk : r.kind = 6) (hN : SR w bo o [1, 256] [[.int .u16 ((r.n1.toNat % 65536 : Nat) : Int)], nm (bt r.host)]) (hn0 : 0 < n) (hsh : nameL (bt r.host)) (hC : Cmp w cm C) (hm : ∀ b, cm = some b → b = gm ∧ gm ≠ g ∧ gm < w.heap.size) (hp : n = start + pos) (hl : n < 999000000)  :
  Ret PP 174 [.pointer (some ⟨bo, o, none⟩), v, .map cm, .int .i64 (start : Int)] w (AppC w g gm cm n bs (packBody C pos r).1 (packBody C pos r).2) := by
 obtain ⟨a0, c0, rfl, -⟩ := hR.form
 have hf : Fr (fun k => k = g ∨ k = gm) w w := Fr.refl _ _
 refine ret_of Tryz.func174 rfl rfl rfl [(0, _), (1, _), (2, _), (3, _)] rfl ?_
 refine sreg (sA rfl (sA rfl (send (fg [(0, _), (1, _), (2, _), (3, _)] ⟨rfl, rfl, rfl, rfl, ⟨⟩⟩ fun _ => (sreg (sM rfl (sA rfl (send (fg [(0, _), (1, _), (2, _), (3, _), (10, _)] ⟨rfl, rfl, rfl, rfl, rfl, ⟨⟩⟩ fun _ => (sreg (sM rfl (sM rfl (sN rfl (sv (xfld fl204_0 rfl) (sv (xld on22 rfl (hN.c 0 rfl rfl)) ?_)))))))))))))))
 refine sc (xcall ca148 rfl) (c148 hR (by omega) (by first | omega | exact u16lt _) (by omega)) ?_
 rintro _ w1 ⟨p18, q18, g18, rfl, r18, m2, a18, l18⟩
 have z3 := m2.size
 have hC := hC.keep m2 (fun b hb => by have hb := hm b hb; show ¬ (b = g); omega)
 have hN := hN.keep m2 (by omega) (by show ¬ (bo = g); omega)
 have hf := hf.step m2 (fun k hk hS => by have hS : k = g := hS; show k = g ∨ k = gm; omega)
 refine sA rfl (send (fg [(0, _), (1, _), (2, _), (3, _), (10, _)] ⟨rfl, rfl, rfl, rfl, rfl, ⟨⟩⟩ fun _ => (sreg (sM rfl (sN rfl (sv (xfld fl204_1 rfl) (sM rfl (sM rfl (sM rfl ?_)))))))))
 refine sc (xcall ca149 rfl) (c149 (gm := gm) (pos := pos + 2) (s := bt r.host) r18 (by omega) (SR.sub hN 1 1 rfl) (by omega) (by omega) (by omega) hC (fun b hb => by have hb := hm b hb; omega) (by omega) (by omega) hsh) ?_
 rintro _ w4 ⟨p26, q26, g26, rfl, r26, m5, a26, l26, hC⟩
 have z6 := m5.size
 have hf := hf.step m5 (fun k hk hS => by have hS : k = g18 ∨ k = gm := hS; show k = g ∨ k = gm; omega)
 have hpl26 := packName_bound (C := C) (pos := pos + 2) (s := bt r.host) hsh
 refine sM rfl (sv (xextr rfl rfl) (sv (xextr rfl rfl) (sA rfl (sA rfl (send (fg [(1, _), (10, _), (11, _)] ⟨rfl, rfl, rfl, ⟨⟩⟩ fun _ => (wp_seq (sreg (sM rfl (sv (xneN if89 rfl) (send (fg [(1, _), (10, _), (11, _), (30, _)] ⟨rfl, rfl, rfl, rfl, ⟨⟩⟩ fun _ => (cno rfl (wp_skip (nThen (fg [(1, _)] ⟨rfl, ⟨⟩⟩ fun _ => (sreg (sM rfl (sA rfl (sA rfl (send (fg [(8, _), (9, _)] ⟨rfl, rfl, ⟨⟩⟩ fun _ => (wp_ret ?_)))))))))))))))))))))))
 refine rp2 rfl rfl rfl ?_
 rw [pb_mx hk]
 exact app_ofC r26 (by simp [packMx, be16_length]; omega) (by simp [packMx, bvs_app, n16]) hf (by omega) (by omega) hC
set_option maxHeartbeats 4000000 in
set_option maxRecDepth 100000 in
theorem c170 {w : World} {v : Value} {g gm n start pos : Nat} {bs : List UInt8} {cm : Option Nat} {C : Option Ent} (hR : BR w v g n bs) (hg : g < w.heap.size) {bo o : Nat} (hbo : bo < w.heap.size) (hbg : bo ≠ g) (hbm : bo ≠ gm) {r : RecD} (hk : r.kind = 4) (hN : SR w bo o [256, 256, 1, 1, 1, 1, 1] [nm (bt r.host), nm (bt r.box), [.int .u32 (r.n1.toNat : Int)], [.int .u32 (r.n2.toNat : Int)], [.int .u32 (r.n3.toNat : Int)], [.int .u32 (r.n4.toNat : Int)], [.int .u32 (r.n5.toNat : Int)]]) (hn0 : 0 < n) (hsh : nameL (bt r.host)) (hsb : nameL (bt r.box)) (hC : Cmp w cm C) (hm : ∀ b, cm = some b → b = gm ∧ gm ≠ g ∧ gm < w.heap.size) (hp : n = start + pos) (hl : n < 999000000)  :
  Ret PP 170 [.pointer (some ⟨bo, o, none⟩), v, .map cm, .int .i64 (start : Int)] w (AppC w g gm cm n bs (packBody C pos r).1 (packBody C pos r).2) := by
 obtain ⟨a0, c0, rfl, -⟩ := hR.form
 have hf : Fr (fun k => k = g ∨ k = gm) w w := Fr.refl _ _
 refine ret_of Tryz.func170 rfl rfl rfl [(0, _), (1, _), (2, _), (3, _)] rfl ?_
 refine sreg (sA rfl (sA rfl (send (fg [(0, _), (1, _), (2, _), (3, _)] ⟨rfl, rfl, rfl, rfl, ⟨⟩⟩ fun _ => (sreg (sM rfl (sA rfl (send (fg [(0, _), (1, _), (2, _), (3, _), (10, _)] ⟨rfl, rfl, rfl, rfl, rfl, ⟨⟩⟩ fun _ => (sreg (sM rfl (sN rfl (sv (xfld fl198_0 rfl) (sM rfl (sM rfl (sM rfl ?_))))))))))))))))
 refine sc (xcall ca149 rfl) (c149 (gm := gm) (pos := pos) (s := bt r.host) hR (by omega) (SR.sub hN 0 1 rfl) (by omega) (by omega) (by omega) hC (fun b hb => by have hb := hm b hb; omega) (by omega) (by omega) hsh) ?_
 rintro _ w1 ⟨p20, q20, g20, rfl, r20, m2, a20, l20, hC⟩
 have z3 := m2.size
 have hN := hN.keep m2 (by omega) (by show ¬ (bo = g ∨ bo = gm); omega)
 have hf := hf.step m2 (fun k hk hS => by have hS : k = g ∨ k = gm := hS; show k = g ∨ k = gm; omega)
 have hpl20 := packName_bound (C := C) (pos := pos) (s := bt r.host) hsh
 refine sM rfl (sv (xextr rfl rfl) (sv (xextr rfl rfl) (sA rfl (sA rfl (send (fg [(0, _), (1, _), (2, _), (3, _), (10, _), (11, _)] ⟨rfl, rfl, rfl, rfl, rfl, rfl, ⟨⟩⟩ fun _ => (wp_seq (sreg (sM rfl (sv (xneN if89 rfl) (send (fg [(0, _), (1, _), (2, _), (3, _), (10, _), (11, _), (24, _)] ⟨rfl, rfl, rfl, rfl, rfl, rfl, rfl, ⟨⟩⟩ fun _ => (cno rfl (wp_skip (nThen (fg [(0, _), (1, _), (2, _), (3, _), (10, _)] ⟨rfl, rfl, rfl, rfl, rfl, ⟨⟩⟩ fun _ => (sreg (sM rfl (sN rfl (sv (xfld fl198_1 rfl) (sM rfl (sM rfl (sM rfl ?_)))))))))))))))))))))))
 refine sc (xcall ca149 rfl) (c149 (gm := gm) (pos := pos + (packName C pos (bt r.host)).1.length) (s := bt r.box) r20 (by omega) (SR.sub hN 1 1 rfl) (by omega) (by omega) (by omega) hC (fun b hb => by have hb := hm b hb; omega) (by omega) (by omega) hsb) ?_
 rintro _ w4 ⟨p37, q37, g37, rfl, r37, m5, a37, l37, hC⟩
 have z6 := m5.size
 have hN := hN.keep m5 (by omega) (by show ¬ (bo = g20 ∨ bo = gm); omega)
 have hf := hf.step m5 (fun k hk hS => by have hS : k = g20 ∨ k = gm := hS; show k = g ∨ k = gm; omega)
 have hpl37 := packName_bound (C := (packName C pos (bt r.host)).2) (pos := pos + (packName C pos (bt r.host)).1.length) (s := bt r.box) hsb
 refine sM rfl (sv (xextr rfl rfl) (sv (xextr rfl rfl) (sA rfl (sA rfl (send (fg [(0, _), (1, _), (10, _), (11, _)] ⟨rfl, rfl, rfl, rfl, ⟨⟩⟩ fun _ => (wp_seq (sreg (sM rfl (sv (xneN if89 rfl) (send (fg [(0, _), (1, _), (10, _), (11, _), (41, _)] ⟨rfl, rfl, rfl, rfl, rfl, ⟨⟩⟩ fun _ => (cno rfl (wp_skip (nThen (fg [(0, _), (1, _)] ⟨rfl, rfl, ⟨⟩⟩ fun _ => (sreg (sM rfl (sM rfl (sN rfl (sv (xfld fl198_2 rfl) (sv (xld on61 rfl (hN.c 2 rfl rfl)) ?_))))))))))))))))))))))
 refine sc (xcall ca191 rfl) (c191 r37 (by omega) (by first | omega | exact u32lt _) (by omega)) ?_
 rintro _ w7 ⟨p52, q52, g52, rfl, r52, m8, a52, l52⟩
 have z9 := m8.size
 have hN := hN.keep m8 (by omega) (by show ¬ (bo = g37); omega)
 have hf := hf.step m8 (fun k hk hS => by have hS : k = g37 := hS; show k = g ∨ k = gm; omega)
 have hC := hC.keep m8 (fun b hb => by have hb := hm b hb; show ¬ (b = g37); omega)
 refine sA rfl (send (fg [(0, _), (1, _)] ⟨rfl, rfl, ⟨⟩⟩ fun _ => (sreg (sM rfl (sM rfl (sN rfl (sv (xfld fl198_3 rfl) (sv (xld on61 rfl (hN.c 3 rfl rfl)) ?_))))))))
 refine sc (xcall ca191 rfl) (c191 r52 (by omega) (by first | omega | exact u32lt _) (by omega)) ?_
 rintro _ w10 ⟨p58, q58, g58, rfl, r58, m11, a58, l58⟩
 have z12 := m11.size
 have hN := hN.keep m11 (by omega) (by show ¬ (bo = g52); omega)
 have hf := hf.step m11 (fun k hk hS => by have hS : k = g52 := hS; show k = g ∨ k = gm; omega)
 have hC := hC.keep m11 (fun b hb => by have hb := hm b hb; show ¬ (b = g52); omega)
 refine sA rfl (send (fg [(0, _), (1, _)] ⟨rfl, rfl, ⟨⟩⟩ fun _ => (sreg (sM rfl (sM rfl (sN rfl (sv (xfld fl198_4 rfl) (sv (xld on61 rfl (hN.c 4 rfl rfl)) ?_))))))))
 refine sc (xcall ca191 rfl) (c191 r58 (by omega) (by first | omega | exact u32lt _) (by omega)) ?_
 rintro _ w13 ⟨p64, q64, g64, rfl, r64, m14, a64, l64⟩
 have z15 := m14.size
 have hN := hN.keep m14 (by omega) (by show ¬ (bo = g58); omega)
 have hf := hf.step m14 (fun k hk hS => by have hS : k = g58 := hS; show k = g ∨ k = gm; omega)
 have hC := hC.keep m14 (fun b hb => by have hb := hm b hb; show ¬ (b = g58); omega)
 refine sA rfl (send (fg [(0, _), (1, _)] ⟨rfl, rfl, ⟨⟩⟩ fun _ => (sreg (sM rfl (sM rfl (sN rfl (sv (xfld fl198_5 rfl) (sv (xld on61 rfl (hN.c 5 rfl rfl)) ?_))))))))
 refine sc (xcall ca191 rfl) (c191 r64 (by omega) (by first | omega | exact u32lt _) (by omega)) ?_
 rintro _ w16 ⟨p70, q70, g70, rfl, r70, m17, a70, l70⟩
 have z18 := m17.size
 have hN := hN.keep m17 (by omega) (by show ¬ (bo = g64); omega)
 have hf := hf.step m17 (fun k hk hS => by have hS : k = g64 := hS; show k = g ∨ k = gm; omega)
 have hC := hC.keep m17 (fun b hb => by have hb := hm b hb; show ¬ (b = g64); omega)
 refine sA rfl (send (fg [(0, _), (1, _)] ⟨rfl, rfl, ⟨⟩⟩ fun _ => (sreg (sM rfl (sM rfl (sN rfl (sv (xfld fl198_6 rfl) (sv (xld on61 rfl (hN.c 6 rfl rfl)) ?_))))))))
 refine sc (xcall ca191 rfl) (c191 r70 (by omega) (by first | omega | exact u32lt _) (by omega)) ?_
 rintro _ w19 ⟨p76, q76, g76, rfl, r76, m20, a76, l76⟩
 have z21 := m20.size
 have hf := hf.step m20 (fun k hk hS => by have hS : k = g70 := hS; show k = g ∨ k = gm; omega)
 have hC := hC.keep m20 (fun b hb => by have hb := hm b hb; show ¬ (b = g70); omega)
 refine sA rfl (sA rfl (send (fg [(8, _), (9, _)] ⟨rfl, rfl, ⟨⟩⟩ fun _ => (wp_ret ?_))))
 refine rp2 rfl rfl rfl ?_
 rw [pb_soa hk]
 exact app_ofC r76 (by simp [packSoa, soaL_length]; omega) (by simp [packSoa, soaL, bvs_app]) hf (by omega) (by omega) hC
set_option maxHeartbeats 4000000 in
set_option maxRecDepth 100000 in
theorem c180 {w : World} {v : Value} {g gm n start pos : Nat} {bs : List UInt8} {cm : Option Nat} {C : Option Ent} (hR : BR w v g n bs) (hg : g < w.heap.size) {bo o : Nat} (hbo : bo < w.heap.size) (hbg : bo ≠ g) (hbm : bo ≠ gm) {r : RecD} (hk : r.kind = 9) (hN : SR w bo o [1, 1, 1, 256] [[.int .u16 ((r.n1.toNat % 65536 : Nat) : Int)], [.int .u16 ((r.n2.toNat % 65536 : Nat) : Int)], [.int .u16 ((r.n3.toNat % 65536 : Nat) : Int)], nm (bt r.host)]) (hn0 : 0 < n) (hsh : nameL (bt r.host)) (hC : Cmp w cm C) (hm : ∀ b, cm = some b → b = gm ∧ gm ≠ g ∧ gm < w.heap.size) (hp : n = start + pos) (hl : n < 999000000)  :
  Ret PP 180 [.pointer (some ⟨bo, o, none⟩), v, .map cm, .int .i64 (start : Int)] w (AppC w g gm cm n bs (packBody C pos r).1 (packBody C pos r).2) := by
 obtain ⟨a0, c0, rfl, -⟩ := hR.form
 have hf : Fr (fun k => k = g ∨ k = gm) w w := Fr.refl _ _
 refine ret_of Tryz.func180 rfl rfl rfl [(0, _), (1, _), (2, _), (3, _)] rfl ?_
 refine sreg (sA rfl (sA rfl (send (fg [(0, _), (1, _), (3, _)] ⟨rfl, rfl, rfl, ⟨⟩⟩ fun _ => (sreg (sM rfl (sA rfl (send (fg [(0, _), (1, _), (3, _), (10, _)] ⟨rfl, rfl, rfl, rfl, ⟨⟩⟩ fun _ => (sreg (sM rfl (sM rfl (sN rfl (sv (xfld fl214_0 rfl) (sv (xld on22 rfl (hN.c 0 rfl rfl)) ?_)))))))))))))))
 refine sc (xcall ca148 rfl) (c148 hR (by omega) (by first | omega | exact u16lt _) (by omega)) ?_
 rintro _ w1 ⟨p18, q18, g18, rfl, r18, m2, a18, l18⟩
 have z3 := m2.size
 have hC := hC.keep m2 (fun b hb => by have hb := hm b hb; show ¬ (b = g); omega)
 have hN := hN.keep m2 (by omega) (by show ¬ (bo = g); omega)
 have hf := hf.step m2 (fun k hk hS => by have hS : k = g := hS; show k = g ∨ k = gm; omega)
 refine sA rfl (send (fg [(0, _), (1, _), (3, _), (10, _)] ⟨rfl, rfl, rfl, rfl, ⟨⟩⟩ fun _ => (sreg (sM rfl (sM rfl (sN rfl (sv (xfld fl214_1 rfl) (sv (xld on22 rfl (hN.c 1 rfl rfl)) ?_))))))))
 refine sc (xcall ca148 rfl) (c148 r18 (by omega) (by first | omega | exact u16lt _) (by omega)) ?_
 rintro _ w4 ⟨p24, q24, g24, rfl, r24, m5, a24, l24⟩
 have z6 := m5.size
 have hC := hC.keep m5 (fun b hb => by have hb := hm b hb; show ¬ (b = g18); omega)
 have hN := hN.keep m5 (by omega) (by show ¬ (bo = g18); omega)
 have hf := hf.step m5 (fun k hk hS => by have hS : k = g18 := hS; show k = g ∨ k = gm; omega)
 refine sA rfl (send (fg [(0, _), (1, _), (3, _), (10, _)] ⟨rfl, rfl, rfl, rfl, ⟨⟩⟩ fun _ => (sreg (sM rfl (sM rfl (sN rfl (sv (xfld fl214_2 rfl) (sv (xld on22 rfl (hN.c 2 rfl rfl)) ?_))))))))
 refine sc (xcall ca148 rfl) (c148 r24 (by omega) (by first | omega | exact u16lt _) (by omega)) ?_
 rintro _ w7 ⟨p30, q30, g30, rfl, r30, m8, a30, l30⟩
 have z9 := m8.size
 have hC := hC.keep m8 (fun b hb => by have hb := hm b hb; show ¬ (b = g24); omega)
 have hN := hN.keep m8 (by omega) (by show ¬ (bo = g24); omega)
 have hf := hf.step m8 (fun k hk hS => by have hS : k = g24 := hS; show k = g ∨ k = gm; omega)
 refine sA rfl (send (fg [(0, _), (1, _), (3, _), (10, _)] ⟨rfl, rfl, rfl, rfl, ⟨⟩⟩ fun _ => (sreg (sM rfl (sN rfl (sv (xfld fl214_3 rfl) (sM rfl (sM rfl ?_))))))))
 refine sc (xcall ca149 rfl) (c149n (start := start) (pos := pos + 6) (s := bt r.host) r30 (by omega) (SR.sub hN 3 1 rfl) (by omega) (by omega) (by omega) (by omega) hsh) ?_
 rintro _ w10 ⟨_, rfl, p37, q37, g37, rfl, r37, m11, a37, l37⟩
 have z12 := m11.size
 have hC := hC.keep m11 (fun b hb => by have hb := hm b hb; show ¬ (b = g30); omega)
 have hf := hf.step m11 (fun k hk hS => by have hS : k = g30 := hS; show k = g ∨ k = gm; omega)
 have hpl37 := wire_bound hsh
 refine sM rfl (sv (xextr rfl rfl) (sv (xextr rfl rfl) (sA rfl (sA rfl (send (fg [(1, _), (10, _), (11, _)] ⟨rfl, rfl, rfl, ⟨⟩⟩ fun _ => (wp_seq (sreg (sM rfl (sv (xneN if89 rfl) (send (fg [(1, _), (10, _), (11, _), (41, _)] ⟨rfl, rfl, rfl, rfl, ⟨⟩⟩ fun _ => (cno rfl (wp_skip (nThen (fg [(1, _)] ⟨rfl, ⟨⟩⟩ fun _ => (sreg (sM rfl (sA rfl (sA rfl (send (fg [(8, _), (9, _)] ⟨rfl, rfl, ⟨⟩⟩ fun _ => (wp_ret ?_)))))))))))))))))))))))
 refine rp2 rfl rfl rfl ?_
 rw [pb_rest (by omega), bodyL_simp.2.2.2.1 hk]
 exact app_ofC r37 (by simp [be16_length]; omega) (by simp [bvs_app, n16]) hf (by omega) (by omega) hC
set_option maxHeartbeats 4000000 in
set_option maxRecDepth 100000 in
theorem c189 {w : World} {v : Value} {g gm n start pos : Nat} {bs : List UInt8} {cm : Option Nat} {C : Option Ent} (hR : BR w v g n bs) (hg : g < w.heap.size) {bo o : Nat} (_hbo : bo < w.heap.size) (_hbg : bo ≠ g) (_hbm : bo ≠ gm) {r : RecD} {vd : Value} (hk : r.kind = 13) (hN : SR w bo o [1, 1] [[.int .u16 ((typeN r).toNat : Int)], [vd]]) (hn0 : 0 < n) {U : Nat → Prop} (_hU : ∀ k, U k → k < w.heap.size ∧ k ≠ g ∧ k ≠ gm) (hd : BA U w vd r.data) (hdl : r.data.length ≤ 900000) (hC : Cmp w cm C) (hm : ∀ b, cm = some b → b = gm ∧ gm ≠ g ∧ gm < w.heap.size) (hp : n = start + pos) (hl : n < 999000000)  :
  Ret PP 189 [.pointer (some ⟨bo, o, none⟩), v, .map cm, .int .i64 (start : Int)] w (AppC w g gm cm n bs (packBody C pos r).1 (packBody C pos r).2) := by
 obtain ⟨a0, c0, rfl, -⟩ := hR.form
 obtain ⟨ad0, cd0, rfl, -⟩ := id hd
 have hf : Fr (fun k => k = g ∨ k = gm) w w := Fr.refl _ _
 refine ret_of Tryz.func189 rfl rfl rfl [(0, _), (1, _), (2, _), (3, _)] rfl ?_
 refine sreg (sA rfl (sA rfl (send (fg [(0, _), (1, _)] ⟨rfl, rfl, ⟨⟩⟩ fun _ => (sreg (sM rfl (sM rfl (sN rfl (sv (xfld fl231_1 rfl) (sv (xld on37 rfl (hN.c 1 rfl rfl)) (sv (xcutF sl37 sz5 rfl) ?_)))))))))))
 refine sc (xcall ca208 rfl) (c208 hR (by omega) hd (by omega) (by omega) (by omega)) ?_
 rintro _ w1 ⟨p16, q16, g16, rfl, r16, m2, a16, l16⟩
 have z3 := m2.size
 have hC := hC.keep m2 (fun b hb => by have hb := hm b hb; show ¬ (b = g); omega)
 have hf := hf.step m2 (fun k hk hS => by have hS : k = g := hS; show k = g ∨ k = gm; omega)
 refine sA rfl (sA rfl (send (fg [(8, _), (9, _)] ⟨rfl, rfl, ⟨⟩⟩ fun _ => (wp_ret ?_))))
 refine rp2 rfl rfl rfl ?_
 rw [pb_rest (by omega), bodyL_simp.2.2.2.2.2.2 hk]
 exact app_ofC r16 rfl (by rw [bvs_app]) hf (by omega) (by omega) hC
set_option maxHeartbeats 4000000 in
set_option maxRecDepth 100000 in
theorem c176 {w : World} {v : Value} {g gm n start pos : Nat} {bs : List UInt8} {cm : Option Nat} {C : Option Ent} (hR : BR w v g n bs) (hg : g < w.heap.size) {bo o : Nat} (_hbo : bo < w.heap.size) (_hbg : bo ≠ g) (_hbm : bo ≠ gm) {r : RecD} {vt : Value} (hk : r.kind = 7) (hN : SR w bo o [1] [[vt]]) (hn0 : 0 < n) {U : Nat → Prop} (hU : ∀ k, U k → k < w.heap.size ∧ k ≠ g ∧ k ≠ gm) (ht : LA TextEl [1] U w vt r.texts) (htl : ∀ s ∈ r.texts, s.size ≤ 255) (htn : r.texts.length ≤ 1048576) (hpl : (textsL r.texts).length ≤ 900000) (hC : Cmp w cm C) (hm : ∀ b, cm = some b → b = gm ∧ gm ≠ g ∧ gm < w.heap.size) (hp : n = start + pos) (hl : n < 999000000)  :
  Ret PP 176 [.pointer (some ⟨bo, o, none⟩), v, .map cm, .int .i64 (start : Int)] w (AppC w g gm cm n bs (packBody C pos r).1 (packBody C pos r).2) := by
 obtain ⟨a0, c0, rfl, -⟩ := hR.form
 obtain ⟨at0, ct0, rfl⟩ := ht.form
 have hf : Fr (fun k => k = g ∨ k = gm) w w := Fr.refl _ _
 refine ret_of Tryz.func176 rfl rfl rfl [(0, _), (1, _), (2, _), (3, _)] rfl ?_
 refine sreg (sA rfl (sA rfl (send (fg [(0, _), (1, _)] ⟨rfl, rfl, ⟨⟩⟩ fun _ => (sreg (sM rfl (sA rfl (send (fg [(0, _), (1, _), (10, _)] ⟨rfl, rfl, rfl, ⟨⟩⟩ fun _ => (wp_seq (sreg (sM rfl (sN rfl (sv (xfld fl207_0 rfl) (sv (xld on62 rfl (hN.c 0 rfl rfl)) (sv (xlen sl62 rfl) (sM rfl (send (fg [(1, _), (10, _), (18, _), (19, _), (20, _)] ⟨rfl, rfl, rfl, rfl, rfl, ⟨⟩⟩ fun _ => (wp_block ?_))))))))))))))))))))
 refine lp [(10, _), (18, _), (19, _)] (fun (x : Nat × Value × Nat) => match x with | (k, v, gk) => [(1, v), (20, .int .i64 (k : Int))]) (fun (x : Nat × Value × Nat) wx => match x with | (k, v, gk) => Fr (fun k => k = g) w wx ∧ (k ≤ r.texts.length) ∧ (BR wx v gk (n + (textsL (r.texts.take k)).length) (bs ++ textsL (r.texts.take k))) ∧ (gk = g ∨ w.heap.size ≤ gk) ∧ (gk < wx.heap.size)) (fun (x : Nat × Value × Nat) => match x with | (k, v, gk) => r.texts.length - k) (0, _, g) ⟨rfl, rfl, rfl, rfl, rfl, trivial⟩ ⟨Fr.refl _ _, Nat.zero_le _, by simpa [textsL] using hR, .inl rfl, by omega⟩ ?_
 rintro ⟨k, v, gk⟩ _ w2 ⟨hL1, hk2, hR, hgk, hgk2⟩
 refine fg [(1, _), (10, _), (18, _), (19, _), (20, _)] ⟨rfl, rfl, rfl, rfl, rfl, ⟨⟩⟩ fun _ => ?_
 have z3 := hL1.size
 have hC := hC.keep hL1 (fun b hb => by have hb := hm b hb; show ¬ (b = g); omega)
 have ht := ht.keep text_st (fun k hk => by have hk := hU k hk; omega) hL1 (fun k hk hS => by have hk := hU k hk; have hS : k = g := hS; omega)
 have hf := hf.step hL1 (fun k hk hS => by have hS : k = g := hS; show k = g ∨ k = gm; omega)
 obtain ⟨a1, c1, rfl, -⟩ := hR.form
 have htt := texts_take_le r.texts k
 refine sreg ?_
 refine svP (xlss rfl rfl) (fun hc21 => ?_) (fun hc21 => ?_)
 ·
  refine send (fg [(1, _), (10, _), (18, _), (19, _), (20, _), (21, _)] ⟨rfl, rfl, rfl, rfl, rfl, rfl, ⟨⟩⟩ fun _ => (wp_seq (cyes rfl (wp_skip (nThen (fg [(1, _), (10, _), (18, _), (19, _), (20, _)] ⟨rfl, rfl, rfl, rfl, rfl, ⟨⟩⟩ fun _ => (wp_seq (wp_block ?_))))))))
  obtain ⟨t, htk⟩ := some_of_lt (by omega : k < r.texts.length)
  have hts := htl _ (List.mem_of_getElem? htk)
  have htt := texts_take_le r.texts k
  refine sreg ?_
  obtain ⟨bE22, oE22, sgE22, rfl, uE22, hsE22, heE22⟩ := LA.get ht htk
  obtain rfl := heE22
  have zE22 := hU _ uE22
  refine sv (xidx sl62 sz9 rfl rfl rfl (by omega)) (sv (xld on9 rfl (hsE22.c 0 rfl rfl)) (sA rfl (send (fg [(1, _), (10, _), (12, _), (18, _), (19, _), (20, _)] ⟨rfl, rfl, rfl, rfl, rfl, rfl, ⟨⟩⟩ fun _ => (sreg (sA rfl (send (fg [(1, _), (10, _), (12, _), (18, _), (19, _), (20, _)] ⟨rfl, rfl, rfl, rfl, rfl, rfl, ⟨⟩⟩ fun _ => (sreg (sM rfl (sM rfl ?_)))))))))))
  refine sc (xcall ca209 rfl) (c209 hR (by omega) (by omega) (by omega)) ?_
  rintro _ w4 ⟨_, rfl, p27, q27, g27, rfl, r27, m5, a27, l27⟩
  have z6 := m5.size
  have hC := hC.keep m5 (fun b hb => by have hb := hm b hb; show ¬ (b = gk); omega)
  have hf := hf.step m5 (fun k hk hS => by have hS : k = gk := hS; show k = g ∨ k = gm; omega)
  have hL1 := hL1.step m5 (fun k hk hS => by have hS : k = gk := hS; show k = g; omega)
  refine sM rfl (sv (xextr rfl rfl) (sv (xextr rfl rfl) (sA rfl (sA rfl (send (fg [(1, _), (10, _), (13, _), (18, _), (19, _), (20, _)] ⟨rfl, rfl, rfl, rfl, rfl, rfl, ⟨⟩⟩ fun _ => (sreg (sM rfl (sv (xneN if89 rfl) (send (fg [(1, _), (10, _), (13, _), (18, _), (19, _), (20, _), (31, _)] ⟨rfl, rfl, rfl, rfl, rfl, rfl, rfl, ⟨⟩⟩ fun _ => (cno rfl (wp_skip (nBlock (nThen (fg [(1, _), (10, _), (18, _), (19, _), (20, _)] ⟨rfl, rfl, rfl, rfl, rfl, ⟨⟩⟩ fun _ => (lreg (sv (xadd rfl rfl (w64 (by omega) (by omega))) (sM rfl (lend (nThen ?_)))))))))))))))))))))
  refine ⟨(k + 1, _, g27), _, env_okl ⟨rfl, rfl, rfl, rfl, rfl, trivial⟩, ⟨hL1, (by omega), (by rw [texts_snoc htk]; exact br_cast r27 (by simp [textL]) (by simp [textL]; omega)), (by omega), (l27)⟩, ?_⟩
  show r.texts.length - (k + 1) < r.texts.length - k; omega
 ·
  refine send (fg [(1, _), (10, _), (18, _), (19, _), (20, _), (21, _)] ⟨rfl, rfl, rfl, rfl, rfl, rfl, ⟨⟩⟩ fun _ => (wp_seq (cno rfl (wp_exit (eThen (eThen (eHit (nThen (fg [(1, _)] ⟨rfl, ⟨⟩⟩ fun _ => (sreg (sM rfl (sA rfl (sA rfl (send (fg [(8, _), (9, _)] ⟨rfl, rfl, ⟨⟩⟩ fun _ => (wp_ret ?_))))))))))))))))
  refine rp2 rfl rfl rfl ?_
  have e : r.texts.take k = r.texts := List.take_of_length_le (by omega)
  rw [e] at hR ⊢
  rw [pb_rest (by omega), bodyL_simp.2.2.1 hk]
  exact app_ofC hR rfl rfl hf (by omega) (by omega) hC
set_option maxHeartbeats 4000000 in
set_option maxRecDepth 100000 in
theorem c182 {w : World} {v : Value} {g gm n start pos : Nat} {bs : List UInt8} {cm : Option Nat} {C : Option Ent} (hR : BR w v g n bs) (hg : g < w.heap.size) {bo o : Nat} (_hbo : bo < w.heap.size) (_hbg : bo ≠ g) (_hbm : bo ≠ gm) {r : RecD} {vp : Value} (hk : r.kind = 10) (hN : SR w bo o [1] [[vp]]) (hn0 : 0 < n) {U : Nat → Prop} (hU : ∀ k, U k → k < w.heap.size ∧ k ≠ g ∧ k ≠ gm) (hpr : LA PairEl lPair U w vp r.pairs) (hpd : ∀ p ∈ r.pairs, p.data.length ≤ 65535) (hpn : r.pairs.length ≤ 1048576) (hpl : (pairsL r.pairs).length ≤ 900000) (hC : Cmp w cm C) (hm : ∀ b, cm = some b → b = gm ∧ gm ≠ g ∧ gm < w.heap.size) (hp : n = start + pos) (hl : n < 999000000)  :
  Ret PP 182 [.pointer (some ⟨bo, o, none⟩), v, .map cm, .int .i64 (start : Int)] w (AppC w g gm cm n bs (packBody C pos r).1 (packBody C pos r).2) := by
 obtain ⟨a0, c0, rfl, -⟩ := hR.form
 obtain ⟨ap0, cp0, rfl⟩ := hpr.form
 have hf : Fr (fun k => k = g ∨ k = gm) w w := Fr.refl _ _
 refine ret_of Tryz.func182 rfl rfl rfl [(0, _), (1, _), (2, _), (3, _)] rfl ?_
 refine sreg (sA rfl (sA rfl (send (fg [(0, _), (1, _)] ⟨rfl, rfl, ⟨⟩⟩ fun _ => (wp_seq (sreg (sM rfl (sN rfl (sv (xfld fl218_0 rfl) (sv (xld on216 rfl (hN.c 0 rfl rfl)) (sv (xlen sl216 rfl) (sM rfl (send (fg [(1, _), (16, _), (17, _), (18, _)] ⟨rfl, rfl, rfl, rfl, ⟨⟩⟩ fun _ => (wp_block ?_)))))))))))))))
 refine lp [(16, _), (17, _)] (fun (x : Nat × Value × Nat) => match x with | (k, v, gk) => [(1, v), (18, .int .i64 (k : Int))]) (fun (x : Nat × Value × Nat) wx => match x with | (k, v, gk) => Fr (fun k => k = g) w wx ∧ (k ≤ r.pairs.length) ∧ (BR wx v gk (n + (pairsL (r.pairs.take k)).length) (bs ++ pairsL (r.pairs.take k))) ∧ (gk = g ∨ w.heap.size ≤ gk) ∧ (gk < wx.heap.size)) (fun (x : Nat × Value × Nat) => match x with | (k, v, gk) => r.pairs.length - k) (0, _, g) ⟨rfl, rfl, rfl, rfl, trivial⟩ ⟨Fr.refl _ _, Nat.zero_le _, by simpa [pairsL] using hR, .inl rfl, by omega⟩ ?_
 rintro ⟨k, v, gk⟩ _ w2 ⟨hL1, hk2, hR, hgk, hgk2⟩
 refine fg [(1, _), (16, _), (17, _), (18, _)] ⟨rfl, rfl, rfl, rfl, ⟨⟩⟩ fun _ => ?_
 have z3 := hL1.size
 have hC := hC.keep hL1 (fun b hb => by have hb := hm b hb; show ¬ (b = g); omega)
 have hpr := hpr.keep pair_st (fun k hk => by have hk := hU k hk; omega) hL1 (fun k hk hS => by have hk := hU k hk; have hS : k = g := hS; omega)
 have hf := hf.step hL1 (fun k hk hS => by have hS : k = g := hS; show k = g ∨ k = gm; omega)
 obtain ⟨a1, c1, rfl, -⟩ := hR.form
 have htt := pairs_take_le r.pairs k
 refine sreg ?_
 refine svP (xlss rfl rfl) (fun hc19 => ?_) (fun hc19 => ?_)
 ·
  refine send (fg [(1, _), (16, _), (17, _), (18, _), (19, _)] ⟨rfl, rfl, rfl, rfl, rfl, ⟨⟩⟩ fun _ => (wp_seq (cyes rfl (wp_skip (nThen (fg [(1, _), (16, _), (17, _), (18, _)] ⟨rfl, rfl, rfl, rfl, ⟨⟩⟩ fun _ => (wp_seq (wp_block ?_))))))))
  obtain ⟨p, hpk⟩ := some_of_lt (by omega : k < r.pairs.length)
  have hpz := hpd _ (List.mem_of_getElem? hpk)
  have htt := pairs_take_le r.pairs k
  refine sreg ?_
  obtain ⟨bE20, oE20, sgE20, rfl, uE20, hsE20, heE20⟩ := LA.get hpr hpk
  obtain ⟨vd, rfl, hd⟩ := heE20
  have zE20 := hU _ uE20
  obtain ⟨ad, cd, rfl, -⟩ := id hd
  refine sv (xidx sl216 sz220 rfl rfl rfl (by omega)) (sv (xldS (lens := [1, 1]) ro220 rfl hsE20) ?_)
  refine svK (xallS (lens := [1, 1]) in220 rfl) ?_
  rintro _ w5 ⟨b11, rfl, m6, h11, e4, s4⟩
  have hC := hC.keep m6 nF
  have hf := hf.step0 m6
  have hR := hR.keep m6 id
  have hL1 := hL1.step0 m6
  have hd := hd.keep (fun k hk => by have hk := hU k hk; omega) m6 nF
  refine suK (xstW h11 (lens' := [1, 1]) sz220 rfl rfl rfl rfl rfl) ?_
  rintro w8 ⟨m9, h11, s7⟩
  have hC := hC.keep m9 (fun b hb => by have hb := hm b hb; show ¬ (b = b11); omega)
  have hf := hf.step m9 (fun k hk hS => by have hS : k = b11 := hS; show k = g ∨ k = gm; omega)
  have hR := hR.keep m9 (by show ¬ (gk = b11); omega)
  have hL1 := hL1.step m9 (fun k hk hS => by have hS : k = b11 := hS; show k = g; omega)
  have hd := hd.keep (fun k hk => by have hk := hU k hk; omega) m9 (fun k hk hS => by have hk := hU k hk; have hS : k = b11 := hS; omega)
  refine send (fg [(1, _), (11, _), (16, _), (17, _), (18, _)] ⟨rfl, rfl, rfl, rfl, rfl, ⟨⟩⟩ fun _ => (sreg (sM rfl (sv (xfld fl220_0 rfl) (sv (xld on22 rfl (h11.r.c 0 rfl rfl)) ?_)))))
  refine sc (xcall ca148 rfl) (c148 hR (by omega) (by first | omega | exact u16lt _) (by omega)) ?_
  rintro _ w10 ⟨p25, q25, g25, rfl, r25, m11, a25, l25⟩
  have z12 := m11.size
  have hC := hC.keep m11 (fun b hb => by have hb := hm b hb; show ¬ (b = gk); omega)
  have hf := hf.step m11 (fun k hk hS => by have hS : k = gk := hS; show k = g ∨ k = gm; omega)
  have hL1 := hL1.step m11 (fun k hk hS => by have hS : k = gk := hS; show k = g; omega)
  have hd := hd.keep (fun k hk => by have hk := hU k hk; omega) m11 (fun k hk hS => by have hk := hU k hk; have hS : k = gk := hS; omega)
  have h11 := h11.keep m11 (by show ¬ (b11 = gk); omega)
  refine sA rfl (send (fg [(1, _), (11, _), (16, _), (17, _), (18, _)] ⟨rfl, rfl, rfl, rfl, rfl, ⟨⟩⟩ fun _ => (sreg (sv (xfld fl220_1 rfl) (sv (xld on37 rfl (h11.r.c 1 rfl rfl)) (sv (xlen sl37 rfl) (sv (xconv hs3 ki22 rfl (wu16n p.data.length (by omega))) (sA rfl (send (fg [(1, _), (11, _), (12, _), (16, _), (17, _), (18, _)] ⟨rfl, rfl, rfl, rfl, rfl, rfl, ⟨⟩⟩ fun _ => (sreg (sM rfl (sM rfl ?_)))))))))))))
  refine sc (xcall ca148 rfl) (c148 r25 (by omega) (by first | omega | exact u16lt _) (by omega)) ?_
  rintro _ w13 ⟨p32, q32, g32, rfl, r32, m14, a32, l32⟩
  have z15 := m14.size
  have hC := hC.keep m14 (fun b hb => by have hb := hm b hb; show ¬ (b = g25); omega)
  have hf := hf.step m14 (fun k hk hS => by have hS : k = g25 := hS; show k = g ∨ k = gm; omega)
  have hL1 := hL1.step m14 (fun k hk hS => by have hS : k = g25 := hS; show k = g; omega)
  have hd := hd.keep (fun k hk => by have hk := hU k hk; omega) m14 (fun k hk hS => by have hk := hU k hk; have hS : k = g25 := hS; omega)
  have h11 := h11.keep m14 (by show ¬ (b11 = g25); omega)
  refine sA rfl (send (fg [(1, _), (11, _), (16, _), (17, _), (18, _)] ⟨rfl, rfl, rfl, rfl, rfl, ⟨⟩⟩ fun _ => (lreg (sM rfl (sv (xfld fl220_1 rfl) (sv (xld on37 rfl (h11.r.c 1 rfl rfl)) ?_))))))
  refine sc (xcall ca208 rfl) (c208 r32 (by omega) hd (by omega) (by omega) (by omega)) ?_
  rintro _ w16 ⟨p36, q36, g36, rfl, r36, m17, a36, l36⟩
  have z18 := m17.size
  have hC := hC.keep m17 (fun b hb => by have hb := hm b hb; show ¬ (b = g32); omega)
  have hf := hf.step m17 (fun k hk hS => by have hS : k = g32 := hS; show k = g ∨ k = gm; omega)
  have hL1 := hL1.step m17 (fun k hk hS => by have hS : k = g32 := hS; show k = g; omega)
  refine sA rfl (lend (nBlock (nThen (fg [(1, _), (16, _), (17, _), (18, _)] ⟨rfl, rfl, rfl, rfl, ⟨⟩⟩ fun _ => (lreg (sv (xadd rfl rfl (w64 (by omega) (by omega))) (sM rfl (lend (nThen ?_)))))))))
  refine ⟨(k + 1, _, g36), _, env_okl ⟨rfl, rfl, rfl, rfl, trivial⟩, ⟨hL1, (by omega), (by rw [pairs_snoc hpk]; exact br_cast r36 (by simp [pairL, bvs_app]) (by simp [pairL, be16_length]; omega)), (by omega), (l36)⟩, ?_⟩
  show r.pairs.length - (k + 1) < r.pairs.length - k; omega
 ·
  refine send (fg [(1, _), (16, _), (17, _), (18, _), (19, _)] ⟨rfl, rfl, rfl, rfl, rfl, ⟨⟩⟩ fun _ => (wp_seq (cno rfl (wp_exit (eThen (eThen (eHit (nThen (fg [(1, _)] ⟨rfl, ⟨⟩⟩ fun _ => (sreg (sM rfl (sA rfl (sA rfl (send (fg [(8, _), (9, _)] ⟨rfl, rfl, ⟨⟩⟩ fun _ => (wp_ret ?_))))))))))))))))
  refine rp2 rfl rfl rfl ?_
  have e : r.pairs.take k = r.pairs := List.take_of_length_le (by omega)
  rw [e] at hR ⊢
  rw [pb_rest (by omega), bodyL_simp.2.2.2.2.1 hk]
  exact app_ofC hR rfl rfl hf (by omega) (by omega) hC
set_option maxHeartbeats 4000000 in
set_option maxRecDepth 100000 in
theorem c210 {w : World} {v : Value} {g gm n start pos : Nat} {bs : List UInt8} {cm : Option Nat} {C : Option Ent} (hR : BR w v g n bs) (hg : g < w.heap.size) {bo o : Nat} (hbo : bo < w.heap.size) (hbg : bo ≠ g) (hbm : bo ≠ gm) {r : RecD} {vp : Value} (hk : r.kind = 11 ∨ r.kind = 12) (hN : SR w bo o [1, 256, 1] [[.int .u16 ((r.n1.toNat % 65536 : Nat) : Int)], nm (bt r.host), [vp]]) (hn0 : 0 < n) (hsh : nameL (bt r.host)) {U : Nat → Prop} (hU : ∀ k, U k → k < w.heap.size ∧ k ≠ g ∧ k ≠ gm) (hpr : LA PairEl lPair U w vp r.pairs) (hasc : asc r.pairs) (hpd : ∀ p ∈ r.pairs, p.data.length ≤ 65535) (hpn : r.pairs.length ≤ 1048576) (hpl : (pairsL r.pairs).length ≤ 900000) (hC : Cmp w cm C) (hm : ∀ b, cm = some b → b = gm ∧ gm ≠ g ∧ gm < w.heap.size) (hp : n = start + pos) (hl : n < 999000000)  :
  Ret PP 210 [.pointer (some ⟨bo, o, none⟩), v, .map cm, .int .i64 (start : Int)] w (AppC w g gm cm n bs (packBody C pos r).1 (packBody C pos r).2) := by
 obtain ⟨a0, c0, rfl, -⟩ := hR.form
 obtain ⟨ap0, cp0, rfl⟩ := hpr.form
 have hf : Fr (fun k => k = g ∨ k = gm) w w := Fr.refl _ _
 refine ret_of Tryz.func210 rfl rfl rfl [(0, _), (1, _), (2, _), (3, _)] rfl ?_
 refine sreg (sA rfl (sA rfl (send (fg [(0, _), (1, _)] ⟨rfl, rfl, ⟨⟩⟩ fun _ => (sreg (sM rfl (sA rfl (send (fg [(0, _), (1, _), (10, _)] ⟨rfl, rfl, rfl, ⟨⟩⟩ fun _ => (sreg (sM rfl (sM rfl (sN rfl (sv (xfld fl224_0 rfl) (sv (xld on22 rfl (hN.c 0 rfl rfl)) ?_)))))))))))))))
 refine sc (xcall ca148 rfl) (c148 hR (by omega) (by first | omega | exact u16lt _) (by omega)) ?_
 rintro _ w1 ⟨p21, q21, g21, rfl, r21, m2, a21, l21⟩
 have z3 := m2.size
 have hC := hC.keep m2 (fun b hb => by have hb := hm b hb; show ¬ (b = g); omega)
 have hN := hN.keep m2 (by omega) (by show ¬ (bo = g); omega)
 have hpr := hpr.keep pair_st (fun k hk => by have hk := hU k hk; omega) m2 (fun k hk hS => by have hk := hU k hk; have hS : k = g := hS; omega)
 have hf := hf.step m2 (fun k hk hS => by have hS : k = g := hS; show k = g ∨ k = gm; omega)
 refine sA rfl (send (fg [(0, _), (1, _), (10, _)] ⟨rfl, rfl, rfl, ⟨⟩⟩ fun _ => (sreg (sM rfl (sN rfl (sv (xfld fl224_1 rfl) (sM rfl ?_)))))))
 refine sc (xcall ca149 rfl) (c149n (start := 0) (pos := n + 2) (s := bt r.host) r21 (by omega) (SR.sub hN 1 1 rfl) (by omega) (by omega) (by omega) (by omega) hsh) ?_
 rintro _ w4 ⟨_, rfl, p27, q27, g27, rfl, r27, m5, a27, l27⟩
 have z6 := m5.size
 have hC := hC.keep m5 (fun b hb => by have hb := hm b hb; show ¬ (b = g21); omega)
 have hN := hN.keep m5 (by omega) (by show ¬ (bo = g21); omega)
 have hpr := hpr.keep pair_st (fun k hk => by have hk := hU k hk; omega) m5 (fun k hk hS => by have hk := hU k hk; have hS : k = g21 := hS; omega)
 have hf := hf.step m5 (fun k hk hS => by have hS : k = g21 := hS; show k = g ∨ k = gm; omega)
 have hpl27 := wire_bound hsh
 refine sM rfl (sv (xextr rfl rfl) (sv (xextr rfl rfl) (sA rfl (sA rfl (send (fg [(0, _), (1, _), (10, _), (11, _)] ⟨rfl, rfl, rfl, rfl, ⟨⟩⟩ fun _ => (wp_seq (sreg (sM rfl (sv (xneN if89 rfl) (send (fg [(0, _), (1, _), (10, _), (11, _), (31, _)] ⟨rfl, rfl, rfl, rfl, rfl, ⟨⟩⟩ fun _ => (cno rfl (wp_skip (nThen (fg [(0, _), (1, _), (10, _)] ⟨rfl, rfl, rfl, ⟨⟩⟩ fun _ => (sreg (sA rfl (send (fg [(0, _), (1, _), (10, _), (12, _)] ⟨rfl, rfl, rfl, rfl, ⟨⟩⟩ fun _ => (wp_seq (sreg (sM rfl (sN rfl ?_))))))))))))))))))))))))
 refine sv (xfld fl224_2 rfl) (sv (xld on222 rfl (hN.c 2 rfl rfl)) (sv (xlen sl222 rfl) (sM rfl (send (fg [(1, _), (10, _), (12, _), (40, _), (41, _), (42, _)] ⟨rfl, rfl, rfl, rfl, rfl, rfl, ⟨⟩⟩ fun _ => (wp_block ?_))))))
 refine lp [(10, _), (12, _), (40, _), (41, _)] (fun (x : Nat × Value × Nat) => match x with | (k, v, gk) => [(1, v), (42, .int .i64 (k : Int))]) (fun (x : Nat × Value × Nat) wx => match x with | (k, v, gk) => Fr (fun k => k = g27) w4 wx ∧ (k ≤ r.pairs.length) ∧ (BR wx v gk (n + 2 + (wire (bt r.host)).length + (pairsL (r.pairs.take k)).length) (bs ++ be16 r.n1.toNat ++ wire (bt r.host) ++ pairsL (r.pairs.take k))) ∧ (gk = g27 ∨ w4.heap.size ≤ gk) ∧ (gk < wx.heap.size)) (fun (x : Nat × Value × Nat) => match x with | (k, v, gk) => r.pairs.length - k) (0, _, g27) ⟨rfl, rfl, rfl, rfl, rfl, rfl, trivial⟩ ⟨Fr.refl _ _, Nat.zero_le _, br_cast r27 (by simp [bvs_app, pairsL, n16]) (by simp [pairsL]), .inl rfl, by omega⟩ ?_
 rintro ⟨k, v, gk⟩ _ w8 ⟨hL7, hk2, hR, hgk, hgk2⟩
 refine fg [(1, _), (10, _), (12, _), (40, _), (41, _), (42, _)] ⟨rfl, rfl, rfl, rfl, rfl, rfl, ⟨⟩⟩ fun _ => ?_
 have z9 := hL7.size
 have hC := hC.keep hL7 (fun b hb => by have hb := hm b hb; show ¬ (b = g27); omega)
 have hpr := hpr.keep pair_st (fun k hk => by have hk := hU k hk; omega) hL7 (fun k hk hS => by have hk := hU k hk; have hS : k = g27 := hS; omega)
 have hf := hf.step hL7 (fun k hk hS => by have hS : k = g27 := hS; show k = g ∨ k = gm; omega)
 obtain ⟨a1, c1, rfl, -⟩ := hR.form
 have htt := pairs_take_le r.pairs k
 refine sreg ?_
 refine svP (xlss rfl rfl) (fun hc43 => ?_) (fun hc43 => ?_)
 ·
  refine send (fg [(1, _), (10, _), (12, _), (40, _), (41, _), (42, _), (43, _)] ⟨rfl, rfl, rfl, rfl, rfl, rfl, rfl, ⟨⟩⟩ fun _ => (wp_seq (cyes rfl (wp_skip (nThen (fg [(1, _), (10, _), (12, _), (40, _), (41, _), (42, _)] ⟨rfl, rfl, rfl, rfl, rfl, rfl, ⟨⟩⟩ fun _ => (wp_seq (wp_block ?_))))))))
  obtain ⟨p, hpk⟩ := some_of_lt (by omega : k < r.pairs.length)
  have hpz := hpd _ (List.mem_of_getElem? hpk)
  have htt := pairs_take_le r.pairs k
  have hky := asc_pos hasc hpk
  refine sreg (sM rfl ?_)
  obtain ⟨bE45, oE45, sgE45, rfl, uE45, hsE45, heE45⟩ := LA.get hpr hpk
  obtain ⟨vd, rfl, hd⟩ := heE45
  have zE45 := hU _ uE45
  obtain ⟨ad, cd, rfl, -⟩ := id hd
  refine sv (xidx sl222 sz291 rfl rfl rfl (by omega)) (sv (xldS (lens := [1, 1]) ro291 rfl hsE45) ?_)
  refine svK (xallS (lens := [1, 1]) in291 rfl) ?_
  rintro _ w11 ⟨b14, rfl, m12, h14, e10, s10⟩
  have hC := hC.keep m12 nF
  have hf := hf.step0 m12
  have hR := hR.keep m12 id
  have hL7 := hL7.step0 m12
  have hd := hd.keep (fun k hk => by have hk := hU k hk; omega) m12 nF
  refine sA rfl ?_
  refine suK (xstW h14 (lens' := [1, 1]) sz291 rfl rfl rfl rfl rfl) ?_
  rintro w14 ⟨m15, h14, s13⟩
  have hC := hC.keep m15 (fun b hb => by have hb := hm b hb; show ¬ (b = b14); omega)
  have hf := hf.step m15 (fun k hk hS => by have hS : k = b14 := hS; show k = g ∨ k = gm; omega)
  have hR := hR.keep m15 (by show ¬ (gk = b14); omega)
  have hL7 := hL7.step m15 (fun k hk hS => by have hS : k = b14 := hS; show k = g27; omega)
  have hd := hd.keep (fun k hk => by have hk := hU k hk; omega) m15 (fun k hk hS => by have hk := hU k hk; have hS : k = b14 := hS; omega)
  refine send (fg [(1, _), (10, _), (12, _), (13, _), (14, _), (40, _), (41, _), (42, _)] ⟨rfl, rfl, rfl, rfl, rfl, rfl, rfl, rfl, ⟨⟩⟩ fun _ => (wp_seq (sreg (sM rfl ?_))))
  refine svP (xgtr rfl rfl) (fun hc48 => ?_) (fun hc48 => ?_)
  ·
   refine sM rfl (gyes rfl rfl rfl (sv (xfld fl291_0 rfl) (gyes rfl rfl rfl (sv (xld on289 rfl (h14.r.c 0 rfl rfl)) (gyes rfl rfl rfl (sM rfl (gyes rfl rfl rfl (sv (exF (xleq rfl rfl) (by omega)) (sv (xpickT rfl rfl) (send (fg [(1, _), (10, _), (12, _), (14, _), (40, _), (41, _), (42, _), (54, _)] ⟨rfl, rfl, rfl, rfl, rfl, rfl, rfl, rfl, ⟨⟩⟩ fun _ => (cno rfl (wp_skip (nThen (fg [(1, _), (10, _), (12, _), (14, _), (40, _), (41, _), (42, _)] ⟨rfl, rfl, rfl, rfl, rfl, rfl, rfl, ⟨⟩⟩ fun _ => (wp_seq (sreg (sv (xfld fl291_1 rfl) (sv (xld on37 rfl (h14.r.c 1 rfl rfl)) (sv (xlen sl37 rfl) (sv (exF (xgtr rfl rfl) (by omega)) (send (fg [(1, _), (10, _), (12, _), (14, _), (40, _), (41, _), (42, _), (63, _)] ⟨rfl, rfl, rfl, rfl, rfl, rfl, rfl, rfl, ⟨⟩⟩ fun _ => (cno rfl ?_))))))))))))))))))))))))
   refine wp_skip (nThen (fg [(1, _), (10, _), (12, _), (14, _), (40, _), (41, _), (42, _)] ⟨rfl, rfl, rfl, rfl, rfl, rfl, rfl, ⟨⟩⟩ fun _ => (sreg (sM rfl (sv (xfld fl291_0 rfl) (sv (xld on289 rfl (h14.r.c 0 rfl rfl)) ?_))))))
   refine sc (xcall ca148 rfl) (c148 hR (by omega) (by first | omega | exact u16lt _) (by omega)) ?_
   rintro _ w16 ⟨p72, q72, g72, rfl, r72, m17, a72, l72⟩
   have z18 := m17.size
   have hC := hC.keep m17 (fun b hb => by have hb := hm b hb; show ¬ (b = gk); omega)
   have hf := hf.step m17 (fun k hk hS => by have hS : k = gk := hS; show k = g ∨ k = gm; omega)
   have hL7 := hL7.step m17 (fun k hk hS => by have hS : k = gk := hS; show k = g27; omega)
   have hd := hd.keep (fun k hk => by have hk := hU k hk; omega) m17 (fun k hk hS => by have hk := hU k hk; have hS : k = gk := hS; omega)
   have h14 := h14.keep m17 (by show ¬ (b14 = gk); omega)
   refine sA rfl (send (fg [(1, _), (10, _), (12, _), (14, _), (40, _), (41, _), (42, _)] ⟨rfl, rfl, rfl, rfl, rfl, rfl, rfl, ⟨⟩⟩ fun _ => (sreg (sM rfl (sv (xfld fl291_1 rfl) (sv (xld on37 rfl (h14.r.c 1 rfl rfl)) (sv (xlen sl37 rfl) (sv (xconv hs3 ki22 rfl (wu16n p.data.length (by omega))) ?_))))))))
   refine sc (xcall ca148 rfl) (c148 r72 (by omega) (by first | omega | exact u16lt _) (by omega)) ?_
   rintro _ w19 ⟨p78, q78, g78, rfl, r78, m20, a78, l78⟩
   have z21 := m20.size
   have hC := hC.keep m20 (fun b hb => by have hb := hm b hb; show ¬ (b = g72); omega)
   have hf := hf.step m20 (fun k hk hS => by have hS : k = g72 := hS; show k = g ∨ k = gm; omega)
   have hL7 := hL7.step m20 (fun k hk hS => by have hS : k = g72 := hS; show k = g27; omega)
   have hd := hd.keep (fun k hk => by have hk := hU k hk; omega) m20 (fun k hk hS => by have hk := hU k hk; have hS : k = g72 := hS; omega)
   have h14 := h14.keep m20 (by show ¬ (b14 = g72); omega)
   refine sA rfl (send (fg [(1, _), (10, _), (12, _), (14, _), (40, _), (41, _), (42, _)] ⟨rfl, rfl, rfl, rfl, rfl, rfl, rfl, ⟨⟩⟩ fun _ => (lreg (sM rfl (sv (xfld fl291_1 rfl) (sv (xld on37 rfl (h14.r.c 1 rfl rfl)) ?_))))))
   refine svK (xapp sl37 in5 rfl (by decide) rfl rfl r78 (hd.src sl37) (by simp only [maxLen]; omega) (by omega)) ?_
   rintro _ w22 ⟨g82, r82, m23, a82, l82⟩
   have z24 := m23.size
   have hC := hC.keep m23 (fun b hb => by have hb := hm b hb; show ¬ (b = g78); omega)
   have hf := hf.step m23 (fun k hk hS => by have hS : k = g78 := hS; show k = g ∨ k = gm; omega)
   have hL7 := hL7.step m23 (fun k hk hS => by have hS : k = g78 := hS; show k = g27; omega)
   have hd := hd.keep (fun k hk => by have hk := hU k hk; omega) m23 (fun k hk hS => by have hk := hU k hk; have hS : k = g78 := hS; omega)
   have h14 := h14.keep m23 (by show ¬ (b14 = g78); omega)
   obtain ⟨p82, q82, rfl, -⟩ := r82.form
   refine sA rfl (lend (nBlock (nThen (fg [(1, _), (10, _), (12, _), (40, _), (41, _), (42, _)] ⟨rfl, rfl, rfl, rfl, rfl, rfl, ⟨⟩⟩ fun _ => (lreg (sv (xadd rfl rfl (w64 (by omega) (by omega))) (sM rfl (lend (nThen ?_)))))))))
   refine ⟨(k + 1, _, g82), _, env_okl ⟨rfl, rfl, rfl, rfl, rfl, rfl, trivial⟩, ⟨hL7, (by omega), (by rw [pairs_snoc hpk]; exact br_cast r82 (by simp [pairL, bvs_app]) (by simp [pairL, be16_length]; omega)), (by omega), (l82 (by omega))⟩, ?_⟩
   show r.pairs.length - (k + 1) < r.pairs.length - k; omega
  ·
   refine sM rfl (gno rfl rfl rfl (gno rfl rfl rfl (gno rfl rfl rfl (gno rfl rfl rfl (sv (xpickF rfl rfl) (send (fg [(1, _), (10, _), (12, _), (14, _), (40, _), (41, _), (42, _), (54, _)] ⟨rfl, rfl, rfl, rfl, rfl, rfl, rfl, rfl, ⟨⟩⟩ fun _ => (cno rfl (wp_skip (nThen (fg [(1, _), (10, _), (12, _), (14, _), (40, _), (41, _), (42, _)] ⟨rfl, rfl, rfl, rfl, rfl, rfl, rfl, ⟨⟩⟩ fun _ => (wp_seq (sreg (sv (xfld fl291_1 rfl) (sv (xld on37 rfl (h14.r.c 1 rfl rfl)) (sv (xlen sl37 rfl) (sv (exF (xgtr rfl rfl) (by omega)) (send (fg [(1, _), (10, _), (12, _), (14, _), (40, _), (41, _), (42, _), (63, _)] ⟨rfl, rfl, rfl, rfl, rfl, rfl, rfl, rfl, ⟨⟩⟩ fun _ => (cno rfl (wp_skip (nThen (fg [(1, _), (10, _), (12, _), (14, _), (40, _), (41, _), (42, _)] ⟨rfl, rfl, rfl, rfl, rfl, rfl, rfl, ⟨⟩⟩ fun _ => (sreg ?_))))))))))))))))))))))))
   refine sM rfl (sv (xfld fl291_0 rfl) (sv (xld on289 rfl (h14.r.c 0 rfl rfl)) ?_))
   refine sc (xcall ca148 rfl) (c148 hR (by omega) (by first | omega | exact u16lt _) (by omega)) ?_
   rintro _ w25 ⟨p72, q72, g72, rfl, r72, m26, a72, l72⟩
   have z27 := m26.size
   have hC := hC.keep m26 (fun b hb => by have hb := hm b hb; show ¬ (b = gk); omega)
   have hf := hf.step m26 (fun k hk hS => by have hS : k = gk := hS; show k = g ∨ k = gm; omega)
   have hL7 := hL7.step m26 (fun k hk hS => by have hS : k = gk := hS; show k = g27; omega)
   have hd := hd.keep (fun k hk => by have hk := hU k hk; omega) m26 (fun k hk hS => by have hk := hU k hk; have hS : k = gk := hS; omega)
   have h14 := h14.keep m26 (by show ¬ (b14 = gk); omega)
   refine sA rfl (send (fg [(1, _), (10, _), (12, _), (14, _), (40, _), (41, _), (42, _)] ⟨rfl, rfl, rfl, rfl, rfl, rfl, rfl, ⟨⟩⟩ fun _ => (sreg (sM rfl (sv (xfld fl291_1 rfl) (sv (xld on37 rfl (h14.r.c 1 rfl rfl)) (sv (xlen sl37 rfl) (sv (xconv hs3 ki22 rfl (wu16n p.data.length (by omega))) ?_))))))))
   refine sc (xcall ca148 rfl) (c148 r72 (by omega) (by first | omega | exact u16lt _) (by omega)) ?_
   rintro _ w28 ⟨p78, q78, g78, rfl, r78, m29, a78, l78⟩
   have z30 := m29.size
   have hC := hC.keep m29 (fun b hb => by have hb := hm b hb; show ¬ (b = g72); omega)
   have hf := hf.step m29 (fun k hk hS => by have hS : k = g72 := hS; show k = g ∨ k = gm; omega)
   have hL7 := hL7.step m29 (fun k hk hS => by have hS : k = g72 := hS; show k = g27; omega)
   have hd := hd.keep (fun k hk => by have hk := hU k hk; omega) m29 (fun k hk hS => by have hk := hU k hk; have hS : k = g72 := hS; omega)
   have h14 := h14.keep m29 (by show ¬ (b14 = g72); omega)
   refine sA rfl (send (fg [(1, _), (10, _), (12, _), (14, _), (40, _), (41, _), (42, _)] ⟨rfl, rfl, rfl, rfl, rfl, rfl, rfl, ⟨⟩⟩ fun _ => (lreg (sM rfl (sv (xfld fl291_1 rfl) (sv (xld on37 rfl (h14.r.c 1 rfl rfl)) ?_))))))
   refine svK (xapp sl37 in5 rfl (by decide) rfl rfl r78 (hd.src sl37) (by simp only [maxLen]; omega) (by omega)) ?_
   rintro _ w31 ⟨g82, r82, m32, a82, l82⟩
   have z33 := m32.size
   have hC := hC.keep m32 (fun b hb => by have hb := hm b hb; show ¬ (b = g78); omega)
   have hf := hf.step m32 (fun k hk hS => by have hS : k = g78 := hS; show k = g ∨ k = gm; omega)
   have hL7 := hL7.step m32 (fun k hk hS => by have hS : k = g78 := hS; show k = g27; omega)
   obtain ⟨p82, q82, rfl, -⟩ := r82.form
   refine sA rfl (lend (nBlock (nThen (fg [(1, _), (10, _), (12, _), (40, _), (41, _), (42, _)] ⟨rfl, rfl, rfl, rfl, rfl, rfl, ⟨⟩⟩ fun _ => (lreg (sv (xadd rfl rfl (w64 (by omega) (by omega))) (sM rfl (lend (nThen ?_)))))))))
   refine ⟨(k + 1, _, g82), _, env_okl ⟨rfl, rfl, rfl, rfl, rfl, rfl, trivial⟩, ⟨hL7, (by omega), (by rw [pairs_snoc hpk]; exact br_cast r82 (by simp [pairL, bvs_app]) (by simp [pairL, be16_length]; omega)), (by omega), (l82 (by omega))⟩, ?_⟩
   show r.pairs.length - (k + 1) < r.pairs.length - k; omega
 ·
  refine send (fg [(1, _), (10, _), (12, _), (40, _), (41, _), (42, _), (43, _)] ⟨rfl, rfl, rfl, rfl, rfl, rfl, rfl, ⟨⟩⟩ fun _ => (wp_seq (cno rfl (wp_exit (eThen (eThen (eHit (nThen (fg [(1, _)] ⟨rfl, ⟨⟩⟩ fun _ => (sreg (sM rfl (sA rfl (sA rfl (send (fg [(8, _), (9, _)] ⟨rfl, rfl, ⟨⟩⟩ fun _ => (wp_ret ?_))))))))))))))))
  refine rp2 rfl rfl rfl ?_
  have e : r.pairs.take k = r.pairs := List.take_of_length_le (by omega)
  rw [e] at hR ⊢
  rw [pb_rest (by omega), bodyL_simp.2.2.2.2.2.1 hk]
  exact app_ofC hR (by simp [be16_length]; omega) (by simp) hf (by omega) (by omega) hC
end Go.Proofs.YtifnodoffgfpbaaGreatDoor

namespace Go.Proofs.YtifnodoffgfpbaaGreatDoor
open Go
set_option maxRecDepth 100000
set_option maxHeartbeats 4000000 in
set_option maxRecDepth 100000 in
theorem c163 {w : World} {v : Value} :
  Ret PP 163 [v] w (fun u w' => u = .int .u16 1 ∧ Fr0 w w') := by
 have hf : Fr (fun _ => False) w w := Fr.refl _ _
 refine ret_of Tryz.func163 rfl rfl rfl [(0, _)] rfl ?_
 refine sreg (sA rfl (send (fg [] trivial fun _ => (sreg (sA rfl (send (fg [(2, _)] ⟨rfl, ⟨⟩⟩ fun _ => (wp_ret ?_))))))))
 refine rp1 rfl rfl ?_
 exact ⟨rfl, hf⟩
set_option maxHeartbeats 4000000 in
set_option maxRecDepth 100000 in
theorem c165 {w : World} {v : Value} :
  Ret PP 165 [v] w (fun u w' => u = .int .u16 2 ∧ Fr0 w w') := by
 have hf : Fr (fun _ => False) w w := Fr.refl _ _
 refine ret_of Tryz.func165 rfl rfl rfl [(0, _)] rfl ?_
 refine sreg (sA rfl (send (fg [] trivial fun _ => (sreg (sA rfl (send (fg [(2, _)] ⟨rfl, ⟨⟩⟩ fun _ => (wp_ret ?_))))))))
 refine rp1 rfl rfl ?_
 exact ⟨rfl, hf⟩
set_option maxHeartbeats 4000000 in
set_option maxRecDepth 100000 in
theorem c167 {w : World} {v : Value} :
  Ret PP 167 [v] w (fun u w' => u = .int .u16 5 ∧ Fr0 w w') := by
 have hf : Fr (fun _ => False) w w := Fr.refl _ _
 refine ret_of Tryz.func167 rfl rfl rfl [(0, _)] rfl ?_
 refine sreg (sA rfl (send (fg [] trivial fun _ => (sreg (sA rfl (send (fg [(2, _)] ⟨rfl, ⟨⟩⟩ fun _ => (wp_ret ?_))))))))
 refine rp1 rfl rfl ?_
 exact ⟨rfl, hf⟩
set_option maxHeartbeats 4000000 in
set_option maxRecDepth 100000 in
theorem c169 {w : World} {v : Value} :
  Ret PP 169 [v] w (fun u w' => u = .int .u16 6 ∧ Fr0 w w') := by
 have hf : Fr (fun _ => False) w w := Fr.refl _ _
 refine ret_of Tryz.func169 rfl rfl rfl [(0, _)] rfl ?_
 refine sreg (sA rfl (send (fg [] trivial fun _ => (sreg (sA rfl (send (fg [(2, _)] ⟨rfl, ⟨⟩⟩ fun _ => (wp_ret ?_))))))))
 refine rp1 rfl rfl ?_
 exact ⟨rfl, hf⟩
set_option maxHeartbeats 4000000 in
set_option maxRecDepth 100000 in
theorem c171 {w : World} {v : Value} :
  Ret PP 171 [v] w (fun u w' => u = .int .u16 12 ∧ Fr0 w w') := by
 have hf : Fr (fun _ => False) w w := Fr.refl _ _
 refine ret_of Tryz.func171 rfl rfl rfl [(0, _)] rfl ?_
 refine sreg (sA rfl (send (fg [] trivial fun _ => (sreg (sA rfl (send (fg [(2, _)] ⟨rfl, ⟨⟩⟩ fun _ => (wp_ret ?_))))))))
 refine rp1 rfl rfl ?_
 exact ⟨rfl, hf⟩
set_option maxHeartbeats 4000000 in
set_option maxRecDepth 100000 in
theorem c173 {w : World} {v : Value} :
  Ret PP 173 [v] w (fun u w' => u = .int .u16 15 ∧ Fr0 w w') := by
 have hf : Fr (fun _ => False) w w := Fr.refl _ _
 refine ret_of Tryz.func173 rfl rfl rfl [(0, _)] rfl ?_
 refine sreg (sA rfl (send (fg [] trivial fun _ => (sreg (sA rfl (send (fg [(2, _)] ⟨rfl, ⟨⟩⟩ fun _ => (wp_ret ?_))))))))
 refine rp1 rfl rfl ?_
 exact ⟨rfl, hf⟩
set_option maxHeartbeats 4000000 in
set_option maxRecDepth 100000 in
theorem c175 {w : World} {v : Value} :
  Ret PP 175 [v] w (fun u w' => u = .int .u16 16 ∧ Fr0 w w') := by
 have hf : Fr (fun _ => False) w w := Fr.refl _ _
 refine ret_of Tryz.func175 rfl rfl rfl [(0, _)] rfl ?_
 refine sreg (sA rfl (send (fg [] trivial fun _ => (sreg (sA rfl (send (fg [(2, _)] ⟨rfl, ⟨⟩⟩ fun _ => (wp_ret ?_))))))))
 refine rp1 rfl rfl ?_
 exact ⟨rfl, hf⟩
set_option maxHeartbeats 4000000 in
set_option maxRecDepth 100000 in
theorem c177 {w : World} {v : Value} :
  Ret PP 177 [v] w (fun u w' => u = .int .u16 28 ∧ Fr0 w w') := by
 have hf : Fr (fun _ => False) w w := Fr.refl _ _
 refine ret_of Tryz.func177 rfl rfl rfl [(0, _)] rfl ?_
 refine sreg (sA rfl (send (fg [] trivial fun _ => (sreg (sA rfl (send (fg [(2, _)] ⟨rfl, ⟨⟩⟩ fun _ => (wp_ret ?_))))))))
 refine rp1 rfl rfl ?_
 exact ⟨rfl, hf⟩
set_option maxHeartbeats 4000000 in
set_option maxRecDepth 100000 in
theorem c179 {w : World} {v : Value} :
  Ret PP 179 [v] w (fun u w' => u = .int .u16 33 ∧ Fr0 w w') := by
 have hf : Fr (fun _ => False) w w := Fr.refl _ _
 refine ret_of Tryz.func179 rfl rfl rfl [(0, _)] rfl ?_
 refine sreg (sA rfl (send (fg [] trivial fun _ => (sreg (sA rfl (send (fg [(2, _)] ⟨rfl, ⟨⟩⟩ fun _ => (wp_ret ?_))))))))
 refine rp1 rfl rfl ?_
 exact ⟨rfl, hf⟩
set_option maxHeartbeats 4000000 in
set_option maxRecDepth 100000 in
theorem c181 {w : World} {v : Value} :
  Ret PP 181 [v] w (fun u w' => u = .int .u16 41 ∧ Fr0 w w') := by
 have hf : Fr (fun _ => False) w w := Fr.refl _ _
 refine ret_of Tryz.func181 rfl rfl rfl [(0, _)] rfl ?_
 refine sreg (sA rfl (send (fg [] trivial fun _ => (sreg (sA rfl (send (fg [(2, _)] ⟨rfl, ⟨⟩⟩ fun _ => (wp_ret ?_))))))))
 refine rp1 rfl rfl ?_
 exact ⟨rfl, hf⟩
set_option maxHeartbeats 4000000 in
set_option maxRecDepth 100000 in
theorem c184 {w : World} {v : Value} :
  Ret PP 184 [v] w (fun u w' => u = .int .u16 64 ∧ Fr0 w w') := by
 have hf : Fr (fun _ => False) w w := Fr.refl _ _
 refine ret_of Tryz.func184 rfl rfl rfl [(0, _)] rfl ?_
 refine sreg (sA rfl (send (fg [] trivial fun _ => (sreg (sA rfl (send (fg [(2, _)] ⟨rfl, ⟨⟩⟩ fun _ => (wp_ret ?_))))))))
 refine rp1 rfl rfl ?_
 exact ⟨rfl, hf⟩
set_option maxHeartbeats 4000000 in
set_option maxRecDepth 100000 in
theorem c187 {w : World} {v : Value} :
  Ret PP 187 [v] w (fun u w' => u = .int .u16 65 ∧ Fr0 w w') := by
 have hf : Fr (fun _ => False) w w := Fr.refl _ _
 refine ret_of Tryz.func187 rfl rfl rfl [(0, _)] rfl ?_
 refine sreg (sA rfl (send (fg [] trivial fun _ => (sreg (sA rfl (send (fg [(2, _)] ⟨rfl, ⟨⟩⟩ fun _ => (wp_ret ?_))))))))
 refine rp1 rfl rfl ?_
 exact ⟨rfl, hf⟩
set_option maxHeartbeats 4000000 in
set_option maxRecDepth 100000 in
theorem c188 {w : World} {bo o : Nat} {x : UInt16} {vd : Value} (hN : SR w bo o [1, 1] [[.int .u16 (x.toNat : Int)], [vd]]) :
  Ret PP 188 [.pointer (some ⟨bo, o, none⟩)] w (fun u w' => u = .int .u16 (x.toNat : Int) ∧ Fr0 w w') := by
 have hf : Fr (fun _ => False) w w := Fr.refl _ _
 refine ret_of Tryz.func188 rfl rfl rfl [(0, _)] rfl ?_
 refine sreg (sA rfl (send (fg [(0, _)] ⟨rfl, ⟨⟩⟩ fun _ => (sreg (sM rfl (sN rfl (sv (xfld fl231_0 rfl) (sv (xld on83 rfl (hN.c 0 rfl rfl)) (sA rfl (send (fg [(2, _)] ⟨rfl, ⟨⟩⟩ fun _ => (wp_ret ?_))))))))))))
 refine rp1 rfl rfl ?_
 exact ⟨rfl, hf⟩

theorem typeN_of {r : RecD} : (r.kind = 1 → typeN r = 1) ∧ (r.kind = 2 → typeN r = 2) ∧ (r.kind = 3 → typeN r = 5) ∧ (r.kind = 4 → typeN r = 6) ∧ (r.kind = 5 → typeN r = 12) ∧ (r.kind = 6 → typeN r = 15) ∧ (r.kind = 7 → typeN r = 16) ∧ (r.kind = 8 → typeN r = 28) ∧ (r.kind = 9 → typeN r = 33) ∧ (r.kind = 10 → typeN r = 41) ∧ (r.kind = 11 → typeN r = 64) ∧ (r.kind = 12 → typeN r = 65) := by
  refine ⟨fun h => ?_, fun h => ?_, fun h => ?_, fun h => ?_, fun h => ?_, fun h => ?_, fun h => ?_, fun h => ?_, fun h => ?_, fun h => ?_, fun h => ?_, fun h => ?_⟩ <;> simp [typeN, h]
/-- what a body must be so that it can be packed -/
def FitP (r : RecD) : Prop := r.data.length ≤ 900000 ∧ (r.kind = 7 → ∀ s ∈ r.texts, s.size ≤ 255) ∧ r.texts.length ≤ 1048576 ∧ (textsL r.texts).length ≤ 900000 ∧ (∀ p ∈ r.pairs, p.data.length ≤ 65535) ∧ r.pairs.length ≤ 1048576 ∧ (pairsL r.pairs).length ≤ 900000 ∧ (r.kind = 11 ∨ r.kind = 12 → asc r.pairs)
end Go.Proofs.YtifnodoffgfpbaaGreatDoor

namespace Go.Proofs.YtifnodoffgfpbaaGreatDoor
open Go

theorem packBody_len {C : Option Ent} {pos : Nat} {r : RecD} (h : NamesOk r) (hl : (bodyL r).length < 65536) : (packBody C pos r).1.length < 65536 := by
  cases C with
  | none => rw [packBody_non h]; exact hl
  | some M => have := (packBody_short h M pos).1; omega

end Go.Proofs.YtifnodoffgfpbaaGreatDoor

namespace Go.Proofs.YtifnodoffgfpbaaGreatDoor
open Go

theorem packAll_bound {α : Type} {f : Option Ent → Nat → α → List UInt8 × Option Ent} {B : Nat} : ∀ (xs : List α) (C : Option Ent) (pos : Nat), (∀ x ∈ xs, ∀ C pos, (f C pos x).1.length ≤ B) → (packAll f C pos xs).1.length ≤ xs.length * B
  | [], C, pos, _ => by simp [packAll]
  | x :: xs, C, pos, h => by
    simp only [packAll, List.length_append, List.length_cons, Nat.add_mul, Nat.one_mul]
    have h1 := h x (by simp) C pos
    have h2 := packAll_bound xs (f C pos x).2 (pos + (f C pos x).1.length) (fun y hy => h y (by simp [hy]))
    omega
theorem packAsk_bound {a : AskD} (h : nameL (bt a.name)) (C : Option Ent) (pos : Nat) : (packAsk C pos a).1.length ≤ 600 := by
  have := packName_bound (C := C) (pos := pos) h
  simp only [packAsk, List.length_append, be16_length]; omega
theorem packRec_bound {r : RecD} (h : NamesOk r) (hl : (bodyL r).length < 65536) (C : Option Ent) (pos : Nat) : (packRec C pos r).1.length ≤ 67000 := by
  have h1 := packName_bound (C := C) (pos := pos) h.1
  have h2 := packBody_len (C := (packName C pos (bt r.name)).2) (pos := pos + (packName C pos (bt r.name)).1.length + 10) h hl
  simp only [packRec, packTail, List.length_append, be16_length, be32_length]; omega
/-- records that can be packed -/
def GoodP (r : RecD) : Prop := NamesOk r ∧ FitP r ∧ (bodyL r).length < 65536
theorem packRecs_bound {rs : List RecD} (h : ∀ r ∈ rs, GoodP r) (hn : rs.length ≤ 40) (C : Option Ent) (pos : Nat) : (packAll packRec C pos rs).1.length ≤ 2680000 := by
  have := packAll_bound (f := packRec) (B := 67000) rs C pos (fun r hr => packRec_bound (h r hr).1 (h r hr).2.2)
  omega
theorem packAsks_bound {xs : List AskD} (h : ∀ a ∈ xs, nameL (bt a.name)) (hn : xs.length ≤ 40) (C : Option Ent) (pos : Nat) : (packAll packAsk C pos xs).1.length ≤ 24000 := by
  have := packAll_bound (f := packAsk) (B := 600) xs C pos (fun a ha => packAsk_bound (h a ha))
  omega
theorem take_all_mem {α : Type} {p : α → Prop} {l : List α} (h : ∀ x ∈ l, p x) (k : Nat) : ∀ x ∈ l.take k, p x := fun x hx => h x (List.mem_of_mem_take hx)
theorem take_le40 {α : Type} {l : List α} (h : l.length ≤ 40) (k : Nat) : (l.take k).length ≤ 40 := by rw [List.length_take]; omega
theorem packAll_take {α : Type} {f : Option Ent → Nat → α → List UInt8 × Option Ent} {l : List α} {k : Nat} {x : α} (hx : l[k]? = some x) (C : Option Ent) (pos : Nat) :
    packAll f C pos (l.take (k + 1)) = ((packAll f C pos (l.take k)).1 ++ (f (packAll f C pos (l.take k)).2 (pos + (packAll f C pos (l.take k)).1.length) x).1, (f (packAll f C pos (l.take k)).2 (pos + (packAll f C pos (l.take k)).1.length) x).2) := by
  rw [take_snoc hx, packAll_snoc]
theorem headL_hdrL (m : MsgD) : headL m.head (countsM m) = hdrL m.head.id.toNat (hbits m.head).toNat m.asks.length m.one.length m.two.length m.three.length := by
  simp [headL, countsM, hdrL]
end Go.Proofs.YtifnodoffgfpbaaGreatDoor

namespace Go.Proofs.YtifnodoffgfpbaaGreatDoor
open Go

def NewY (w : World) (out : List UInt8) (u : Value) (w' : World) : Prop :=
  ∃ a c g', u = .tuple #[.slice a out.length c, .bool true] ∧ BR w' (.slice a out.length c) g' out.length out ∧ Fr0 w w' ∧ w.heap.size ≤ g' ∧ g' < w'.heap.size
def PackOk (r : RecD) : Prop := (r.name.size ≤ 255 ∧ 1 ≤ r.kind ∧ r.kind ≤ 13 ∧ FitB r) ∧ GoodP r

end Go.Proofs.YtifnodoffgfpbaaGreatDoor

namespace Go.Proofs.YtifnodoffgfpbaaGreatDoor
open Go

theorem MsgD.fits.lists {m : MsgD} (h : m.fits) : (∀ l ∈ [m.one, m.two, m.three], l.length ≤ 1048576) ∧ (∀ l ∈ [m.one, m.two, m.three], ∀ r ∈ l, r.fits) := by
  obtain ⟨h1, h2, h3, h4, h5, h6, h7, h8⟩ := h
  constructor
  · intro l hl
    simp only [List.mem_cons, List.not_mem_nil, or_false] at hl
    rcases hl with rfl | rfl | rfl <;> assumption
  · intro l hl
    simp only [List.mem_cons, List.not_mem_nil, or_false] at hl
    rcases hl with rfl | rfl | rfl <;> assumption
theorem nameOk_le {s : ByteArray} (h : nameOk s = true) : s.size ≤ 254 ∧ nameL (bt s) := ⟨nameOk_size h, nameL_of h⟩
theorem mem_sum_le {α : Type} {f : α → Nat} {l : List α} {a : α} (h : a ∈ l) : f a ≤ (l.map f).sum := by
  induction l with
  | nil => cases h
  | cons x xs ih =>
    simp only [List.map_cons, List.sum_cons]
    rcases List.mem_cons.1 h with rfl | h
    · omega
    · have := ih h; omega
theorem few_body {r : RecD} (hs : smallR r) (hg : goodR r) : PackOk r := by
  obtain ⟨k1, k13, hz⟩ := hs
  obtain ⟨hn, h7, h11, hh, hb⟩ := hg
  simp only [sizeR] at hz
  have hz2 := sum_add4 r.pairs
  have hnl := nameOk_le hn
  have hhost : r.kind = 2 ∨ r.kind = 3 ∨ r.kind = 5 ∨ r.kind = 6 ∨ r.kind = 9 ∨ r.kind = 11 ∨ r.kind = 12 ∨ r.kind = 4 → r.host.size ≤ 254 ∧ nameL (bt r.host) := fun h => nameOk_le (hh h)
  have hbox : r.kind = 4 → r.box.size ≤ 254 ∧ nameL (bt r.box) := fun h => nameOk_le (hb h)
  have hp : ∀ p ∈ r.pairs, p.data.length ≤ 2000 := fun p hp => by
    have := mem_sum_le (f := fun p : PairD => p.data.length + 4) hp
    omega
  have hpl := pairsL_length r.pairs
  have htl := textsL_length r.texts
  refine ⟨⟨by omega, k1, k13, fun h => by have := hhost h; omega, fun h => by have := hbox h; omega, by omega, by omega, by omega, fun p h => by have := hp p h; omega⟩, ⟨hnl.2, fun h => (hhost h).2, fun h => (hbox h).2⟩,
    ⟨by omega, fun h => (h7 h).2, by omega, by omega, fun p h => by have := hp p h; omega, by omega, by omega, h11⟩, ?_⟩
  have hw1 := wire_le (bt r.host)
  have hw2 := wire_le (bt r.box)
  rw [bt_length] at hw1 hw2
  have hk : r.kind = 1 ∨ r.kind = 2 ∨ r.kind = 3 ∨ r.kind = 4 ∨ r.kind = 5 ∨ r.kind = 6 ∨ r.kind = 7 ∨ r.kind = 8 ∨ r.kind = 9 ∨ r.kind = 10 ∨ r.kind = 11 ∨ r.kind = 12 ∨ r.kind = 13 := by omega
  rcases hk with h | h | h | h | h | h | h | h | h | h | h | h | h <;> simp [bodyL, h, fixedL_length, be16_length, be32_length]
  · have := hhost (by omega); omega
  · have := hhost (by omega); omega
  · have := hhost (by omega); have := hbox h; omega
  · have := hhost (by omega); omega
  · have := hhost (by omega); omega
  · omega
  · have := hhost (by omega); omega
  · omega
  · have := hhost (by omega); omega
  · have := hhost (by omega); omega
  · omega
/-- what Few tells of a message, for the packing of it -/
theorem few_pack {m : MsgD} (h : fewM m) : (∀ a ∈ m.asks, nameL (bt a.name)) ∧ (∀ l ∈ [m.one, m.two, m.three], ∀ r ∈ l, PackOk r) ∧ (m.asks.length ≤ 40 ∧ m.one.length ≤ 40 ∧ m.two.length ≤ 40 ∧ m.three.length ≤ 40) ∧ m.head.ok := by
  obtain ⟨hc, hs, ha, hg, hh⟩ := h
  exact ⟨fun a h => nameL_of (ha a h), fun l hl r hr => few_body (hs l hl r hr) (hg l hl r hr), by omega, hh⟩
theorem packM_ge (C : Option Ent) (m : MsgD) : 12 ≤ (packM C m).length := by
  simp only [packM, List.length_append, headL_len]; omega
theorem packM_le {m : MsgD} (h : fewM m) : (packM (some []) m).length ≤ 10000000 := by
  obtain ⟨hna, hpk, hc, _⟩ := few_pack h
  have h0 := packAsks_bound hna (by omega) (some []) 12
  have h1 := packRecs_bound (fun r hr => (hpk m.one (by simp) r hr).2) (by omega) (packA (some []) m).2 (12 + (packA (some []) m).1.length)
  have h2 := packRecs_bound (fun r hr => (hpk m.two (by simp) r hr).2) (by omega) (pack1 (some []) m).2 (12 + (packA (some []) m).1.length + (pack1 (some []) m).1.length)
  have h3 := packRecs_bound (fun r hr => (hpk m.three (by simp) r hr).2) (by omega) (pack2 (some []) m).2 (12 + (packA (some []) m).1.length + (pack1 (some []) m).1.length + (pack2 (some []) m).1.length)
  have e0 : (packA (some []) m).1.length ≤ 24000 := h0
  have e1 : (pack1 (some []) m).1.length ≤ 2680000 := h1
  have e2 : (pack2 (some []) m).1.length ≤ 2680000 := h2
  have e3 : (pack3 (some []) m).1.length ≤ 2680000 := h3
  simp only [packM, List.length_append, headL_len]; omega

end Go.Proofs.YtifnodoffgfpbaaGreatDoor

namespace Go.Proofs.YtifnodoffgfpbaaGreatDoor
open Go

section
variable {P : Program} {n : Nat} {l : List (Nat × Value)} {w : World} {ty : TypeId} {x y : Operand}
theorem xex20 {a b : Value} (hx : ev n l x = some (.tuple #[a, b])) : Ex P n l (.extract x 0) ty w a w := xextr hx rfl
theorem xex21 {a b : Value} (hx : ev n l x = some (.tuple #[a, b])) : Ex P n l (.extract x 1) ty w b w := xextr hx rfl
theorem xex30 {a b c : Value} (hx : ev n l x = some (.tuple #[a, b, c])) : Ex P n l (.extract x 0) ty w a w := xextr hx rfl
theorem xex31 {a b c : Value} (hx : ev n l x = some (.tuple #[a, b, c])) : Ex P n l (.extract x 1) ty w b w := xextr hx rfl
theorem xex32 {a b c : Value} (hx : ev n l x = some (.tuple #[a, b, c])) : Ex P n l (.extract x 2) ty w c w := xextr hx rfl
end
end Go.Proofs.YtifnodoffgfpbaaGreatDoor

namespace Go.Proofs.YtifnodoffgfpbaaGreatDoor
open Go

structure RH (P : Program) (ops : Array Oper) (Q : Exit → Act → World → Prop) (S : World → Prop) (o : List (Nat × Kd)) (a : Act) (w : World) : Prop where
  out : runH P ops Q S o a w

section
variable {P : Program} {ops : Array Oper} {Q : Exit → Act → World → Prop} {S : World → Prop} {rest : List (Nat × Kd)} {n : Nat} {l : List (Nat × Value)} {r : Nat → Value} {w w' : World}
  {op : Op} {ty : TypeId} {pos : String} {af : Array Edge} {v : Value} {d i : Nat} {a : Act}

theorem hvH (ho : ops[i]? = some ⟨some d, op, ty, pos, af, none⟩) (h : ∀ w, S w → Ex P n l op ty w v w) (hS : S w)
    (k : RH P ops Q S rest (env n ((d, v) :: l) r) w) : RH P ops Q S ((i, .rd) :: rest) (env n l r) w := ⟨hv ho h hS k.out⟩
theorem hlKH {R : Value → World → Prop} (ho : ops[i]? = some ⟨some d, op, ty, pos, af, none⟩) (h : ExK P n l op ty w R)
    (k : ∀ v w', R v w' → S w' ∧ RH P ops Q S rest (env n ((d, v) :: l) r) w') : RH P ops Q S ((i, .ld) :: rest) (env n l r) w := ⟨hlK ho h fun v w' hR => ⟨(k v w' hR).1, (k v w' hR).2.out⟩⟩
theorem bluKH {R : World → Prop} (ho : ops[i]? = some ⟨none, op, ty, pos, af, none⟩) (h : ExUK P n l op ty w R)
    (k : ∀ w', R w' → RH P ops Q S rest (env n l r) w') : RH P ops Q S ((i, .bh) :: rest) (env n l r) w := ⟨bluK ho h fun w' hR => (k w' hR).out⟩
theorem hcH {f : FuncId} {vs : List Value} {R : Value → World → Prop} (ho : ops[i]? = some ⟨some d, op, ty, pos, af, none⟩) (h : ExC P n l op ty w f vs) (hc' : Ret P f vs w R)
    (k : ∀ v w', R v w' → S w' ∧ RH P ops Q S rest (env n ((d, v) :: l) r) w') : RH P ops Q S ((i, .ld) :: rest) (env n l r) w := ⟨hc ho h hc' fun v w' hR => ⟨(k v w' hR).1, (k v w' hR).2.out⟩⟩
theorem bcH {f : FuncId} {vs : List Value} {R : Value → World → Prop} (ho : ops[i]? = some ⟨some d, op, ty, pos, af, none⟩) (h : ExC P n l op ty w f vs) (hc' : Ret P f vs w R)
    (k : ∀ v w', R v w' → RH P ops Q S rest (env n ((d, v) :: l) r) w') : RH P ops Q S ((i, .bh) :: rest) (env n l r) w := ⟨bc ho h hc' fun v w' hR => (k v w' hR).out⟩
theorem hendH {y : Code} (h : y.wp P Q a w) : RH P ops (Exit.then (y.wp P Q) Q) S [] a w := ⟨h⟩
theorem sdrawH {id : Nat} {y : Code} (S : World → Prop) (order : List (Nat × Kd)) (hm : P.follows .mixedOrders = true)
    (hk : (Region.noSelect ops && okRun ops (reads order) (Array.replicate ops.size false) order && order.length.ble ops.size) = true)
    (hQ : ∀ c d v a w, Q (.panic c) (a.put d v) w → Q (.panic c) a w)
    (h : RH P ops (Exit.then (y.wp P Q) Q) S order a w.drew) : (Code.seq (.region id ops true) y).wp P Q a w := sdraw S order hm hk hQ h.out
end
section
variable {P : Program} {ops : Array Oper} {Q : Exit → Act → World → Prop} {n : Nat} {l : List (Nat × Value)} {r : Nat → Value} {w : World} {ty : TypeId} {pos : String} {af : Array Edge} {v : Value} {d i : Nat} {S : World → Prop} {more : List (Nat × Kd)} {x : Operand} {a : Addr}
theorem qqM (ho : ops[i]? = some ⟨some d, .move x, ty, pos, af, none⟩) (h : ev n l x = some v) (hS : S w) (k : RH P ops Q S more (env n ((d, v) :: l) r) w) : RH P ops Q S ((i, .rd) :: more) (env n l r) w := hvH ho (fun _ _ => xmove h) hS k
theorem qqA (ho : ops[i]? = some ⟨some d, .assign x, ty, pos, af, none⟩) (h : ev n l x = some v) (hS : S w) (k : RH P ops Q S more (env n ((d, v) :: l) r) w) : RH P ops Q S ((i, .rd) :: more) (env n l r) w := hvH ho (fun _ _ => xassign h) hS k
theorem qqN (ho : ops[i]? = some ⟨some d, .nilCheck x, ty, pos, af, none⟩) (h : ev n l x = some (.pointer (some a))) (hS : S w) (k : RH P ops Q S more (env n ((d, .pointer (some a)) :: l) r) w) : RH P ops Q S ((i, .rd) :: more) (env n l r) w := hvH ho (fun _ _ => xnilc h) hS k
end
end Go.Proofs.YtifnodoffgfpbaaGreatDoor

namespace Go.Proofs.YtifnodoffgfpbaaGreatDoor
open Go

theorem packM_leC {m : MsgD} (h : fewM m) (C : Option Ent) : (packM C m).length ≤ 10000000 := by
  obtain ⟨hna, hpk, hc, _⟩ := few_pack h
  have h0 := packAsks_bound hna (by omega) C 12
  have h1 := packRecs_bound (fun r hr => (hpk m.one (by simp) r hr).2) (by omega) (packA C m).2 (12 + (packA C m).1.length)
  have h2 := packRecs_bound (fun r hr => (hpk m.two (by simp) r hr).2) (by omega) (pack1 C m).2 (12 + (packA C m).1.length + (pack1 C m).1.length)
  have h3 := packRecs_bound (fun r hr => (hpk m.three (by simp) r hr).2) (by omega) (pack2 C m).2 (12 + (packA C m).1.length + (pack1 C m).1.length + (pack2 C m).1.length)
  have e0 : (packA C m).1.length ≤ 24000 := h0
  have e1 : (pack1 C m).1.length ≤ 2680000 := h1
  have e2 : (pack2 C m).1.length ≤ 2680000 := h2
  have e3 : (pack3 C m).1.length ≤ 2680000 := h3
  simp only [packM, List.length_append, headL_len]; omega
theorem few_names {m : MsgD} (h : fewM m) : MsgNames m ∧ ∀ r, r ∈ m.one ∨ r ∈ m.two ∨ r ∈ m.three → (bodyL r).length < 65536 := by
  obtain ⟨hna, hpk, hc, _⟩ := few_pack h
  refine ⟨⟨hna, fun r hr => (hpk m.one (by simp) r hr).2.1, fun r hr => (hpk m.two (by simp) r hr).2.1, fun r hr => (hpk m.three (by simp) r hr).2.1⟩, fun r hr => ?_⟩
  rcases hr with hr | hr | hr
  · exact (hpk m.one (by simp) r hr).2.2.2
  · exact (hpk m.two (by simp) r hr).2.2.2
  · exact (hpk m.three (by simp) r hr).2.2.2
theorem msgL_le {m : MsgD} (h : fewM m) : (msgL m).length ≤ 10000000 := by
  rw [← packM_non (few_names h).1]; exact packM_leC h none
theorem c20f {w : World} {U : Nat → Prop} (hU : ∀ k, U k → k < w.heap.size) {m : MsgD} {va v1 v2 v3 : Value} (hm : m.fits) (hf : fewM m) (ja : LA AskEl lAsk U w va m.asks) (j1 : LA RecEl lRec U w v1 m.one) (j2 : LA RecEl lRec U w v2 m.two) (j3 : LA RecEl lRec U w v3 m.three) :
    Ret PP 20 [ag (msgSegs m.head va v1 v2 v3)] w (New w (msgL m).length (msgL m)) := by
  have hl := msgL_le hf
  have hfl := hm.lists
  have hpk := (few_pack hf).2.1
  exact c20 hU ja j1 j2 j3 hm.2.1 (fun l hl r hr => ⟨hfl.2 l hl r hr, Int.le_trans (by decide) (hpk l hl r hr).1.2.1, (hpk l hl r hr).1.2.2.1⟩) hm.1 hfl.1 (by omega)
theorem c19_eq {w : World} {U V : Nat → Prop} {a b : Value} {cs : List UInt8} (ha : BA U w a cs) (hb : BA V w b cs) : Ret PP 19 [a, b] w (fun u w' => u = .bool true ∧ Fr0 w w') :=
  Ret.mono (c19 ha hb) fun u w' ⟨h, hf⟩ => ⟨by rw [h]; simp, hf⟩
end Go.Proofs.YtifnodoffgfpbaaGreatDoor
