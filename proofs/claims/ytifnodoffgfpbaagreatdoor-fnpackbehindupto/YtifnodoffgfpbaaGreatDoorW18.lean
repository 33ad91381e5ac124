/- Walks: how headers are packed. Conditions: none. -/
import Derived.Test.YtifnodoffgfpbaaGreatDoorW17
namespace Go.Proofs.YtifnodoffgfpbaaGreatDoor
open Go

theorem xcut1 {P : Program} {n : Nat} {l : List (Nat × Value)} {w : World} {ty : TypeId} {x : Operand} {T E : TypeId} {b o m c lo hi : Nat} {k k' : IntKind} {i j : Int} {p q : Operand} (hT : slcB P T E = true) (hE : szB P E 1 = true) (hx : ev n l x = some (.slice (some ⟨b, o, none⟩) m c))
    (hp : ev n l p = some (.int k i)) (hq : ev n l q = some (.int k' j)) (hi' : i = (lo : Int)) (hj : j = (hi : Int)) (h1 : lo ≤ hi) (h2 : hi ≤ c) (h3 : lo < c) : Ex P n l (.slice T x (some p) (some q) none) ty w (.slice (some ⟨b, o + lo, none⟩) (hi - lo) (c - lo)) w := by
  obtain ⟨v, w', h, o', rfl, ho, rfl⟩ := xcutLH (P := P) (w := w) (ty := ty) hT hE hx hp hq hi' hj h1 h2
  rw [ho h3, Nat.mul_one] at h
  exact h
theorem app_fin {w w' : World} {a : Option Addr} {c g g' m n' : Nat} {cs : List Value} {bs' : List UInt8} (h : Rw w' (.slice a m c) g' 5 1 m cs) (hm : m = n') (hcs : cs = bvs bs') (hf : Fr (fun k => k = g) w w') (hg : g' = g ∨ w.heap.size ≤ g') (hl : g' < w'.heap.size) : AppTo w g n' bs' (.slice a m c) w' := by
  subst hm hcs
  exact ⟨a, c, g', rfl, h, hf, hg, hl⟩
theorem ba_fix {w : World} {b o n c : Nat} {d : List UInt8} (h : SR w b o [n] [bvs (fixedL d n)]) : BA (· = b) w (.slice (some ⟨b, o + 0, none⟩) n c) (fixedL d n) := by
  have := h.seg (i := 0) (k := 0) rfl rfl
  have := ba_rng (c := c) this
  rw [fixedL_length] at this
  exact this
def hdrL (a b c d e f : Nat) : List UInt8 := be16 a ++ (be16 b ++ (be16 c ++ (be16 d ++ (be16 e ++ be16 f))))
def hdTail (typ cls : UInt16) (ttl : UInt32) (len : Nat) : List UInt8 := be16 typ.toNat ++ (be16 cls.toNat ++ (be32 ttl.toNat ++ be16 len))
theorem hdTail_length (typ cls : UInt16) (ttl : UInt32) (len : Nat) : (hdTail typ cls ttl len).length = 10 := rfl
/-- what the packing of a record's header gives back -/
def HdrC (w : World) (g gm : Nat) (cm : Option Nat) (n k : Nat) (bs out : List UInt8) (C' : Option Ent) (u : Value) (w' : World) : Prop :=
  ∃ a c g', u = .tuple #[.slice a (n + out.length) c, .int .i64 (k : Int), .nilIface] ∧ BR w' (.slice a (n + out.length) c) g' (n + out.length) (bs ++ out) ∧ Fr (fun k => k = g ∨ k = gm) w w' ∧ (g' = g ∨ w.heap.size ≤ g') ∧ g' < w'.heap.size ∧ Cmp w' cm C'
theorem hdr_of {w w' : World} {g gm n m k : Nat} {cm : Option Nat} {bs out : List UInt8} {C' : Option Ent} {a : Option Addr} {c g' : Nat} {cs : List Value} {z : Int} (h : Rw w' (.slice a m c) g' 5 1 m cs) (hm : m = n + out.length) (hcs : cs = bvs (bs ++ out)) (hz : z = (k : Int)) (hf : Fr (fun k => k = g ∨ k = gm) w w') (hg : g' = g ∨ w.heap.size ≤ g') (hl : g' < w'.heap.size) (hC : Cmp w' cm C') :
    HdrC w g gm cm n k bs out C' (.tuple #[.slice a m c, .int .i64 z, .nilIface]) w' := by
  subst hm hcs hz
  exact ⟨a, c, g', rfl, h, hf, hg, hl, hC⟩
theorem n16 (x : UInt32) : be16 (x.toNat % 65536) = be16 x.toNat := be16_mod _
theorem packName_bound {C : Option Ent} {pos : Nat} {s : List UInt8} (hs : nameL s) : (packName C pos s).1.length ≤ 510 := by
  have := packName_le C pos s
  have := (name_pos hs).2
  omega

set_option maxHeartbeats 4000000 in
set_option maxRecDepth 100000 in
theorem c91 {w : World} {v : Value} {g n b o : Nat} {bs : List UInt8} {x0 x1 x2 x3 x4 x5 : Nat} (hR : BR w v g n bs) (hg : g < w.heap.size) (hN : SR w b o lHdr6 (hdrSegs x0 x1 x2 x3 x4 x5)) (hb0 : b < w.heap.size) (hbg : b ≠ g) (hx : x0 < 65536 ∧ x1 < 65536 ∧ x2 < 65536 ∧ x3 < 65536 ∧ x4 < 65536 ∧ x5 < 65536) (hl : n < 999000000) :
    Ret PP 91 [.pointer (some ⟨b, o, none⟩), v] w (fun u w' => AppTo w g (n + 12) (bs ++ hdrL x0 x1 x2 x3 x4 x5) u w') := by
  obtain ⟨a0, c0, rfl, -⟩ := hR.form
  have hf : Fr (fun k => k = g) w w := Fr.refl _ _
  refine ret_of Tryz.func91 rfl rfl rfl [(0, _), (1, _)] rfl ?_
  refine sreg ?_
  refine sv (xassign rfl) ?_
  refine send ?_
  refine forget_wp [(0, _), (1, _)] ⟨rfl, rfl, trivial⟩ fun _ => ?_
  refine sreg ?_
  refine sv (xmove rfl) ?_
  refine sv (xmove rfl) ?_
  refine sv (xnilc rfl) ?_
  refine sv (xfld fl121_0 rfl) ?_
  refine sv (xld on22 rfl (hN.c 0 rfl rfl)) ?_
  refine sc (xcall ca148 rfl) (c148 hR (by omega) (by first | omega | exact u16lt _) (by omega)) ?_
  rintro _ w1 ⟨p10, q10, g10, rfl, r10, m2, a10, l10⟩
  have z3 := m2.size
  have hN := hN.keep m2 (by omega) (by show ¬ (b = g); omega)
  have hf := hf.step m2 (fun k hk hS => by have hS : k = g := hS; show k = g; omega)
  refine sv (xassign rfl) ?_
  refine send ?_
  refine forget_wp [(0, _), (1, _)] ⟨rfl, rfl, trivial⟩ fun _ => ?_
  refine sreg ?_
  refine sv (xmove rfl) ?_
  refine sv (xmove rfl) ?_
  refine sv (xnilc rfl) ?_
  refine sv (xfld fl121_1 rfl) ?_
  refine sv (xld on22 rfl (hN.c 1 rfl rfl)) ?_
  refine sc (xcall ca148 rfl) (c148 r10 (by omega) (by first | omega | exact u16lt _) (by omega)) ?_
  rintro _ w4 ⟨p16, q16, g16, rfl, r16, m5, a16, l16⟩
  have z6 := m5.size
  have hN := hN.keep m5 (by omega) (by show ¬ (b = g10); omega)
  have hf := hf.step m5 (fun k hk hS => by have hS : k = g10 := hS; show k = g; omega)
  refine sv (xassign rfl) ?_
  refine send ?_
  refine forget_wp [(0, _), (1, _)] ⟨rfl, rfl, trivial⟩ fun _ => ?_
  refine sreg ?_
  refine sv (xmove rfl) ?_
  refine sv (xmove rfl) ?_
  refine sv (xnilc rfl) ?_
  refine sv (xfld fl121_2 rfl) ?_
  refine sv (xld on22 rfl (hN.c 2 rfl rfl)) ?_
  refine sc (xcall ca148 rfl) (c148 r16 (by omega) (by first | omega | exact u16lt _) (by omega)) ?_
  rintro _ w7 ⟨p22, q22, g22, rfl, r22, m8, a22, l22⟩
  have z9 := m8.size
  have hN := hN.keep m8 (by omega) (by show ¬ (b = g16); omega)
  have hf := hf.step m8 (fun k hk hS => by have hS : k = g16 := hS; show k = g; omega)
  refine sv (xassign rfl) ?_
  refine send ?_
  refine forget_wp [(0, _), (1, _)] ⟨rfl, rfl, trivial⟩ fun _ => ?_
  refine sreg ?_
  refine sv (xmove rfl) ?_
  refine sv (xmove rfl) ?_
  refine sv (xnilc rfl) ?_
  refine sv (xfld fl121_3 rfl) ?_
  refine sv (xld on22 rfl (hN.c 3 rfl rfl)) ?_
  refine sc (xcall ca148 rfl) (c148 r22 (by omega) (by first | omega | exact u16lt _) (by omega)) ?_
  rintro _ w10 ⟨p28, q28, g28, rfl, r28, m11, a28, l28⟩
  have z12 := m11.size
  have hN := hN.keep m11 (by omega) (by show ¬ (b = g22); omega)
  have hf := hf.step m11 (fun k hk hS => by have hS : k = g22 := hS; show k = g; omega)
  refine sv (xassign rfl) ?_
  refine send ?_
  refine forget_wp [(0, _), (1, _)] ⟨rfl, rfl, trivial⟩ fun _ => ?_
  refine sreg ?_
  refine sv (xmove rfl) ?_
  refine sv (xmove rfl) ?_
  refine sv (xnilc rfl) ?_
  refine sv (xfld fl121_4 rfl) ?_
  refine sv (xld on22 rfl (hN.c 4 rfl rfl)) ?_
  refine sc (xcall ca148 rfl) (c148 r28 (by omega) (by first | omega | exact u16lt _) (by omega)) ?_
  rintro _ w13 ⟨p34, q34, g34, rfl, r34, m14, a34, l34⟩
  have z15 := m14.size
  have hN := hN.keep m14 (by omega) (by show ¬ (b = g28); omega)
  have hf := hf.step m14 (fun k hk hS => by have hS : k = g28 := hS; show k = g; omega)
  refine sv (xassign rfl) ?_
  refine send ?_
  refine forget_wp [(0, _), (1, _)] ⟨rfl, rfl, trivial⟩ fun _ => ?_
  refine sreg ?_
  refine sv (xmove rfl) ?_
  refine sv (xmove rfl) ?_
  refine sv (xnilc rfl) ?_
  refine sv (xfld fl121_5 rfl) ?_
  refine sv (xld on22 rfl (hN.c 5 rfl rfl)) ?_
  refine sc (xcall ca148 rfl) (c148 r34 (by omega) (by first | omega | exact u16lt _) (by omega)) ?_
  rintro _ w16 ⟨p40, q40, g40, rfl, r40, m17, a40, l40⟩
  have z18 := m17.size
  have hN := hN.keep m17 (by omega) (by show ¬ (b = g34); omega)
  have hf := hf.step m17 (fun k hk hS => by have hS : k = g34 := hS; show k = g; omega)
  refine sv (xassign rfl) ?_
  refine send ?_
  refine forget_wp [(4, _)] ⟨rfl, trivial⟩ fun _ => ?_
  refine wp_ret ?_
  refine rp1 rfl rfl ?_
  exact app_fin r40 (by omega) (by simp [bvs_app, hdrL]) hf (by omega) (by omega)
set_option maxHeartbeats 4000000 in
set_option maxRecDepth 100000 in
theorem c91i {w : World} {V : Value} {g c N b o lo : Nat} {b1 b3 : List UInt8} {y0a y0b y1a y1b y2a y2b y3a y3b y4a y4b y5a y5b : UInt8} {x0 x1 x2 x3 x4 x5 : Nat} (hR : BR w V g N (b1 ++ ([y0a, y0b] ++ ([y1a, y1b] ++ ([y2a, y2b] ++ ([y3a, y3b] ++ ([y4a, y4b] ++ ([y5a, y5b] ++ b3)))))))) (hb1 : b1.length = lo) (hc : 12 ≤ c) (_hg : g < w.heap.size) (hN : SR w b o lHdr6 (hdrSegs x0 x1 x2 x3 x4 x5)) (hb0 : b < w.heap.size) (hbg : b ≠ g) (hx : x0 < 65536 ∧ x1 < 65536 ∧ x2 < 65536 ∧ x3 < 65536 ∧ x4 < 65536 ∧ x5 < 65536) :
    Ret PP 91 [.pointer (some ⟨b, o, none⟩), .slice (some ⟨g, lo, none⟩) 0 c] w (fun _u w' => BR w' V g N (b1 ++ (hdrL x0 x1 x2 x3 x4 x5 ++ b3)) ∧ Fr (fun k => k = g) w w') := by
  have hf : Fr (fun k => k = g) w w := Fr.refl _ _
  refine ret_of Tryz.func91 rfl rfl rfl [(0, _), (1, _)] rfl ?_
  refine sreg ?_
  refine sv (xassign rfl) ?_
  refine send ?_
  refine forget_wp [(0, _), (1, _)] ⟨rfl, rfl, trivial⟩ fun _ => ?_
  refine sreg ?_
  refine sv (xmove rfl) ?_
  refine sv (xmove rfl) ?_
  refine sv (xnilc rfl) ?_
  refine sv (xfld fl121_0 rfl) ?_
  refine sv (xld on22 rfl (hN.c 0 rfl rfl)) ?_
  refine sc (xcall ca148 rfl) (c148i (V := V) (N := N) (b1 := b1) (x2 := [y0a, y0b]) (b3 := ([y1a, y1b] ++ ([y2a, y2b] ++ ([y3a, y3b] ++ ([y4a, y4b] ++ ([y5a, y5b] ++ b3)))))) hR (by simp []; omega) rfl (by omega) (by omega)) ?_
  rintro _ w1 ⟨rfl, hR, m2⟩
  have z3 := m2.size
  have hN := hN.keep m2 (by omega) (by show ¬ (b = g); omega)
  have hf := hf.step m2 (fun k hk hS => by have hS : k = g := hS; show k = g; omega)
  rw [← List.append_assoc] at hR
  refine sv (xassign rfl) ?_
  refine send ?_
  refine forget_wp [(0, _), (1, _)] ⟨rfl, rfl, trivial⟩ fun _ => ?_
  refine sreg ?_
  refine sv (xmove rfl) ?_
  refine sv (xmove rfl) ?_
  refine sv (xnilc rfl) ?_
  refine sv (xfld fl121_1 rfl) ?_
  refine sv (xld on22 rfl (hN.c 1 rfl rfl)) ?_
  refine sc (xcall ca148 rfl) (c148i (V := V) (N := N) (b1 := (b1 ++ be16 x0)) (x2 := [y1a, y1b]) (b3 := ([y2a, y2b] ++ ([y3a, y3b] ++ ([y4a, y4b] ++ ([y5a, y5b] ++ b3))))) hR (by simp [be16]; omega) rfl (by omega) (by omega)) ?_
  rintro _ w4 ⟨rfl, hR, m5⟩
  have z6 := m5.size
  have hN := hN.keep m5 (by omega) (by show ¬ (b = g); omega)
  have hf := hf.step m5 (fun k hk hS => by have hS : k = g := hS; show k = g; omega)
  rw [← List.append_assoc] at hR
  refine sv (xassign rfl) ?_
  refine send ?_
  refine forget_wp [(0, _), (1, _)] ⟨rfl, rfl, trivial⟩ fun _ => ?_
  refine sreg ?_
  refine sv (xmove rfl) ?_
  refine sv (xmove rfl) ?_
  refine sv (xnilc rfl) ?_
  refine sv (xfld fl121_2 rfl) ?_
  refine sv (xld on22 rfl (hN.c 2 rfl rfl)) ?_
  refine sc (xcall ca148 rfl) (c148i (V := V) (N := N) (b1 := ((b1 ++ be16 x0) ++ be16 x1)) (x2 := [y2a, y2b]) (b3 := ([y3a, y3b] ++ ([y4a, y4b] ++ ([y5a, y5b] ++ b3)))) hR (by simp [be16]; omega) rfl (by omega) (by omega)) ?_
  rintro _ w7 ⟨rfl, hR, m8⟩
  have z9 := m8.size
  have hN := hN.keep m8 (by omega) (by show ¬ (b = g); omega)
  have hf := hf.step m8 (fun k hk hS => by have hS : k = g := hS; show k = g; omega)
  rw [← List.append_assoc] at hR
  refine sv (xassign rfl) ?_
  refine send ?_
  refine forget_wp [(0, _), (1, _)] ⟨rfl, rfl, trivial⟩ fun _ => ?_
  refine sreg ?_
  refine sv (xmove rfl) ?_
  refine sv (xmove rfl) ?_
  refine sv (xnilc rfl) ?_
  refine sv (xfld fl121_3 rfl) ?_
  refine sv (xld on22 rfl (hN.c 3 rfl rfl)) ?_
  refine sc (xcall ca148 rfl) (c148i (V := V) (N := N) (b1 := (((b1 ++ be16 x0) ++ be16 x1) ++ be16 x2)) (x2 := [y3a, y3b]) (b3 := ([y4a, y4b] ++ ([y5a, y5b] ++ b3))) hR (by simp [be16]; omega) rfl (by omega) (by omega)) ?_
  rintro _ w10 ⟨rfl, hR, m11⟩
  have z12 := m11.size
  have hN := hN.keep m11 (by omega) (by show ¬ (b = g); omega)
  have hf := hf.step m11 (fun k hk hS => by have hS : k = g := hS; show k = g; omega)
  rw [← List.append_assoc] at hR
  refine sv (xassign rfl) ?_
  refine send ?_
  refine forget_wp [(0, _), (1, _)] ⟨rfl, rfl, trivial⟩ fun _ => ?_
  refine sreg ?_
  refine sv (xmove rfl) ?_
  refine sv (xmove rfl) ?_
  refine sv (xnilc rfl) ?_
  refine sv (xfld fl121_4 rfl) ?_
  refine sv (xld on22 rfl (hN.c 4 rfl rfl)) ?_
  refine sc (xcall ca148 rfl) (c148i (V := V) (N := N) (b1 := ((((b1 ++ be16 x0) ++ be16 x1) ++ be16 x2) ++ be16 x3)) (x2 := [y4a, y4b]) (b3 := ([y5a, y5b] ++ b3)) hR (by simp [be16]; omega) rfl (by omega) (by omega)) ?_
  rintro _ w13 ⟨rfl, hR, m14⟩
  have z15 := m14.size
  have hN := hN.keep m14 (by omega) (by show ¬ (b = g); omega)
  have hf := hf.step m14 (fun k hk hS => by have hS : k = g := hS; show k = g; omega)
  rw [← List.append_assoc] at hR
  refine sv (xassign rfl) ?_
  refine send ?_
  refine forget_wp [(0, _), (1, _)] ⟨rfl, rfl, trivial⟩ fun _ => ?_
  refine sreg ?_
  refine sv (xmove rfl) ?_
  refine sv (xmove rfl) ?_
  refine sv (xnilc rfl) ?_
  refine sv (xfld fl121_5 rfl) ?_
  refine sv (xld on22 rfl (hN.c 5 rfl rfl)) ?_
  refine sc (xcall ca148 rfl) (c148i (V := V) (N := N) (b1 := (((((b1 ++ be16 x0) ++ be16 x1) ++ be16 x2) ++ be16 x3) ++ be16 x4)) (x2 := [y5a, y5b]) (b3 := b3) hR (by simp [be16]; omega) rfl (by omega) (by omega)) ?_
  rintro _ w16 ⟨rfl, hR, m17⟩
  have z18 := m17.size
  have hN := hN.keep m17 (by omega) (by show ¬ (b = g); omega)
  have hf := hf.step m17 (fun k hk hS => by have hS : k = g := hS; show k = g; omega)
  refine sv (xassign rfl) ?_
  refine send ?_
  refine forget_wp [(4, _)] ⟨rfl, trivial⟩ fun _ => ?_
  refine wp_ret ?_
  refine rp1 rfl rfl ?_
  refine ⟨br_cast hR (by simp [hdrL]) rfl, hf⟩
set_option maxHeartbeats 4000000 in
set_option maxRecDepth 100000 in
theorem c92 {w : World} {v : Value} {g gm n start pos : Nat} {bs : List UInt8} {cm : Option Nat} {C : Option Ent} (hR : BR w v g n bs) (hg : g < w.heap.size) {bo o : Nat} (hbo : bo < w.heap.size) (hbg : bo ≠ g) (hbm : bo ≠ gm) {a : AskD} (hN : SR w bo o lQ (questSegs a)) (hs : nameL (bt a.name)) (hC : Cmp w cm C) (hm : ∀ b, cm = some b → b = gm ∧ gm ≠ g ∧ gm < w.heap.size) (hp : n = start + pos) (hl : n < 999000000)  :
    Ret PP 92 [.pointer (some ⟨bo, o, none⟩), v, .map cm, .int .i64 (start : Int)] w (AppC w g gm cm n bs (packAsk C pos a).1 (packAsk C pos a).2) := by
  obtain ⟨a0, c0, rfl, -⟩ := hR.form
  have hf : Fr (fun k => k = g ∨ k = gm) w w := Fr.refl _ _
  refine ret_of Tryz.func92 rfl rfl rfl [(0, _), (1, _), (2, _), (3, _)] rfl ?_
  refine sreg ?_
  refine sv (xassign rfl) ?_
  refine sv (xassign rfl) ?_
  refine send ?_
  refine forget_wp [(0, _), (1, _), (2, _), (3, _)] ⟨rfl, rfl, rfl, rfl, trivial⟩ fun _ => ?_
  refine sreg ?_
  refine sv (xmove rfl) ?_
  refine sv (xnilc rfl) ?_
  refine sv (xfld fl86_0 rfl) ?_
  refine sv (xmove rfl) ?_
  refine sv (xmove rfl) ?_
  refine sv (xmove rfl) ?_
  refine sc (xcall ca149 rfl) (c149 (gm := gm) (pos := pos) (s := bt a.name) hR (by omega) (SR.sub hN 0 1 rfl) (by omega) (by omega) (by omega) hC (fun b hb => by have hb := hm b hb; omega) (by omega) (by omega) hs) ?_
  rintro _ w1 ⟨p18, q18, g18, rfl, r18, m2, a18, l18, hC⟩
  have z3 := m2.size
  have hN := hN.keep m2 (by omega) (by show ¬ (bo = g ∨ bo = gm); omega)
  have hf := hf.step m2 (fun k hk hS => by have hS : k = g ∨ k = gm := hS; show k = g ∨ k = gm; omega)
  have hpl18 := packName_bound (C := C) (pos := pos) (s := bt a.name) hs
  refine sv (xmove rfl) ?_
  refine sv (xextr rfl rfl) ?_
  refine sv (xextr rfl rfl) ?_
  refine sv (xassign rfl) ?_
  refine sv (xassign rfl) ?_
  refine send ?_
  refine forget_wp [(0, _), (1, _), (10, _)] ⟨rfl, rfl, rfl, trivial⟩ fun _ => ?_
  refine wp_seq ?_
  refine sreg ?_
  refine sv (xmove rfl) ?_
  refine sv (xneN if89 rfl) ?_
  refine send ?_
  refine forget_wp [(0, _), (1, _), (10, _), (22, _)] ⟨rfl, rfl, rfl, rfl, trivial⟩ fun _ => ?_
  refine cno rfl ?_
  refine wp_skip ?_
  refine nThen ?_
  refine forget_wp [(0, _), (1, _)] ⟨rfl, rfl, trivial⟩ fun _ => ?_
  refine sreg ?_
  refine sv (xmove rfl) ?_
  refine sv (xmove rfl) ?_
  refine sv (xnilc rfl) ?_
  refine sv (xfld fl86_1 rfl) ?_
  refine sv (xld on83 rfl (hN.c 1 rfl rfl)) ?_
  refine sc (xcall ca150 rfl) (c150 r18 (by omega) (by first | omega | exact u16lt _) (by omega)) ?_
  rintro _ w4 ⟨p33, q33, g33, rfl, r33, m5, a33, l33⟩
  have z6 := m5.size
  have hN := hN.keep m5 (by omega) (by show ¬ (bo = g18); omega)
  have hf := hf.step m5 (fun k hk hS => by have hS : k = g18 := hS; show k = g ∨ k = gm; omega)
  have hC := hC.keep m5 (fun b hb => by have hb := hm b hb; show ¬ (b = g18); omega)
  refine sv (xassign rfl) ?_
  refine send ?_
  refine forget_wp [(0, _), (1, _)] ⟨rfl, rfl, trivial⟩ fun _ => ?_
  refine sreg ?_
  refine sv (xmove rfl) ?_
  refine sv (xmove rfl) ?_
  refine sv (xnilc rfl) ?_
  refine sv (xfld fl86_2 rfl) ?_
  refine sv (xld on84 rfl (hN.c 2 rfl rfl)) ?_
  refine sc (xcall ca151 rfl) (c151 r33 (by omega) (by first | omega | exact u16lt _) (by omega)) ?_
  rintro _ w7 ⟨p39, q39, g39, rfl, r39, m8, a39, l39⟩
  have z9 := m8.size
  have hN := hN.keep m8 (by omega) (by show ¬ (bo = g33); omega)
  have hf := hf.step m8 (fun k hk hS => by have hS : k = g33 := hS; show k = g ∨ k = gm; omega)
  have hC := hC.keep m8 (fun b hb => by have hb := hm b hb; show ¬ (b = g33); omega)
  refine sv (xassign rfl) ?_
  refine sv (xassign rfl) ?_
  refine send ?_
  refine forget_wp [(8, _), (9, _)] ⟨rfl, rfl, trivial⟩ fun _ => ?_
  refine wp_ret ?_
  refine rp2 rfl rfl rfl ?_
  exact app_ofC r39 (by simp [packAsk, be16_length]; omega) (by simp [packAsk, bvs_app]) hf (by omega) (by omega) hC
set_option maxHeartbeats 4000000 in
set_option maxRecDepth 100000 in
theorem c152 {w : World} {v : Value} {g gm n start pos : Nat} {bs : List UInt8} {cm : Option Nat} {C : Option Ent} (hR : BR w v g n bs) (hg : g < w.heap.size) {bo o : Nat} (hbo : bo < w.heap.size) (hbg : bo ≠ g) (hbm : bo ≠ gm) {s : List UInt8} {typ cls : UInt16} {ttl : UInt32} {len : Nat} (hN : SR w bo o lRH (rhSegs s typ cls ttl len)) (hs : nameL s) (hlen : len < 65536) (hC : Cmp w cm C) (hm : ∀ b, cm = some b → b = gm ∧ gm ≠ g ∧ gm < w.heap.size) (hp : n = start + pos) (hl : n < 999000000)  :
    Ret PP 152 [.pointer (some ⟨bo, o, none⟩), v, .map cm, .int .i64 (start : Int)] w (HdrC w g gm cm n (n + (packName C pos s).1.length + 8) bs ((packName C pos s).1 ++ hdTail typ cls ttl len) (packName C pos s).2) := by
  obtain ⟨a0, c0, rfl, -⟩ := hR.form
  have hf : Fr (fun k => k = g ∨ k = gm) w w := Fr.refl _ _
  refine ret_of Tryz.func152 rfl rfl rfl [(0, _), (1, _), (2, _), (3, _)] rfl ?_
  refine sreg ?_
  refine sv (xassign rfl) ?_
  refine sv (xassign rfl) ?_
  refine sv (xassign rfl) ?_
  refine send ?_
  refine forget_wp [(0, _), (1, _), (2, _), (3, _)] ⟨rfl, rfl, rfl, rfl, trivial⟩ fun _ => ?_
  refine sreg ?_
  refine sv (xmove rfl) ?_
  refine sv (xassign rfl) ?_
  refine send ?_
  refine forget_wp [(0, _), (1, _), (2, _), (3, _), (8, _)] ⟨rfl, rfl, rfl, rfl, rfl, trivial⟩ fun _ => ?_
  refine wp_seq ?_
  refine sreg ?_
  refine sv (xmove rfl) ?_
  refine sv (xnilc rfl) ?_
  refine sv (xfld fl135_0 rfl) ?_
  refine sv (xmove rfl) ?_
  refine sv (xmove rfl) ?_
  refine sv (xmove rfl) ?_
  refine sc (xcall ca149 rfl) (c149 (gm := gm) (pos := pos) (s := s) hR (by omega) (SR.sub hN 0 1 rfl) (by omega) (by omega) (by omega) hC (fun b hb => by have hb := hm b hb; omega) (by omega) (by omega) hs) ?_
  rintro _ w1 ⟨p19, q19, g19, rfl, r19, m2, a19, l19, hC⟩
  have z3 := m2.size
  have hN := hN.keep m2 (by omega) (by show ¬ (bo = g ∨ bo = gm); omega)
  have hf := hf.step m2 (fun k hk hS => by have hS : k = g ∨ k = gm := hS; show k = g ∨ k = gm; omega)
  have hpl19 := packName_bound (C := C) (pos := pos) (s := s) hs
  refine sv (xmove rfl) ?_
  refine sv (xextr rfl rfl) ?_
  refine sv (xextr rfl rfl) ?_
  refine sv (xassign rfl) ?_
  refine sv (xassign rfl) ?_
  refine send ?_
  refine forget_wp [(0, _), (1, _), (8, _), (10, _)] ⟨rfl, rfl, rfl, rfl, trivial⟩ fun _ => ?_
  refine sreg ?_
  refine sv (xmove rfl) ?_
  refine sv (xneN if89 rfl) ?_
  refine send ?_
  refine forget_wp [(0, _), (1, _), (8, _), (10, _), (23, _)] ⟨rfl, rfl, rfl, rfl, rfl, trivial⟩ fun _ => ?_
  refine cno rfl ?_
  refine wp_skip ?_
  refine nThen ?_
  refine forget_wp [(0, _), (8, _)] ⟨rfl, rfl, trivial⟩ fun _ => ?_
  refine sreg ?_
  refine sv (xmove rfl) ?_
  refine sv (xmove rfl) ?_
  refine sv (xnilc rfl) ?_
  refine sv (xfld fl135_1 rfl) ?_
  refine sv (xld on83 rfl (hN.c 1 rfl rfl)) ?_
  refine sc (xcall ca150 rfl) (c150 r19 (by omega) (by first | omega | exact u16lt _) (by omega)) ?_
  rintro _ w4 ⟨p34, q34, g34, rfl, r34, m5, a34, l34⟩
  have z6 := m5.size
  have hN := hN.keep m5 (by omega) (by show ¬ (bo = g19); omega)
  have hf := hf.step m5 (fun k hk hS => by have hS : k = g19 := hS; show k = g ∨ k = gm; omega)
  have hC := hC.keep m5 (fun b hb => by have hb := hm b hb; show ¬ (b = g19); omega)
  refine sv (xassign rfl) ?_
  refine send ?_
  refine forget_wp [(0, _), (8, _)] ⟨rfl, rfl, trivial⟩ fun _ => ?_
  refine sreg ?_
  refine sv (xmove rfl) ?_
  refine sv (xmove rfl) ?_
  refine sv (xnilc rfl) ?_
  refine sv (xfld fl135_2 rfl) ?_
  refine sv (xld on84 rfl (hN.c 2 rfl rfl)) ?_
  refine sc (xcall ca151 rfl) (c151 r34 (by omega) (by first | omega | exact u16lt _) (by omega)) ?_
  rintro _ w7 ⟨p40, q40, g40, rfl, r40, m8, a40, l40⟩
  have z9 := m8.size
  have hN := hN.keep m8 (by omega) (by show ¬ (bo = g34); omega)
  have hf := hf.step m8 (fun k hk hS => by have hS : k = g34 := hS; show k = g ∨ k = gm; omega)
  have hC := hC.keep m8 (fun b hb => by have hb := hm b hb; show ¬ (b = g34); omega)
  refine sv (xassign rfl) ?_
  refine send ?_
  refine forget_wp [(0, _), (8, _)] ⟨rfl, rfl, trivial⟩ fun _ => ?_
  refine sreg ?_
  refine sv (xmove rfl) ?_
  refine sv (xmove rfl) ?_
  refine sv (xnilc rfl) ?_
  refine sv (xfld fl135_3 rfl) ?_
  refine sv (xld on61 rfl (hN.c 3 rfl rfl)) ?_
  refine sc (xcall ca191 rfl) (c191 r40 (by omega) (by first | omega | exact u32lt _) (by omega)) ?_
  rintro _ w10 ⟨p46, q46, g46, rfl, r46, m11, a46, l46⟩
  have z12 := m11.size
  have hN := hN.keep m11 (by omega) (by show ¬ (bo = g40); omega)
  have hf := hf.step m11 (fun k hk hS => by have hS : k = g40 := hS; show k = g ∨ k = gm; omega)
  have hC := hC.keep m11 (fun b hb => by have hb := hm b hb; show ¬ (b = g40); omega)
  refine sv (xassign rfl) ?_
  refine send ?_
  refine forget_wp [(0, _), (8, _)] ⟨rfl, rfl, trivial⟩ fun _ => ?_
  refine sreg ?_
  refine sv (xmove rfl) ?_
  refine sv (xlen sl37 rfl) ?_
  refine sv (xassign rfl) ?_
  refine send ?_
  refine forget_wp [(0, _), (8, _), (9, _)] ⟨rfl, rfl, rfl, trivial⟩ fun _ => ?_
  refine sreg ?_
  refine sv (xmove rfl) ?_
  refine sv (xmove rfl) ?_
  refine sv (xnilc rfl) ?_
  refine sv (xfld fl135_4 rfl) ?_
  refine sv (xld on22 rfl (hN.c 4 rfl rfl)) ?_
  refine sc (xcall ca148 rfl) (c148 r46 (by omega) (by first | omega | exact u16lt _) (by omega)) ?_
  rintro _ w13 ⟨p54, q54, g54, rfl, r54, m14, a54, l54⟩
  have z15 := m14.size
  have hN := hN.keep m14 (by omega) (by show ¬ (bo = g46); omega)
  have hf := hf.step m14 (fun k hk hS => by have hS : k = g46 := hS; show k = g ∨ k = gm; omega)
  have hC := hC.keep m14 (fun b hb => by have hb := hm b hb; show ¬ (b = g46); omega)
  refine sv (xassign rfl) ?_
  refine send ?_
  refine forget_wp [(8, _), (9, _)] ⟨rfl, rfl, trivial⟩ fun _ => ?_
  refine sreg ?_
  refine sv (xmove rfl) ?_
  refine sv (xmove rfl) ?_
  refine sv (xassign rfl) ?_
  refine sv (xassign rfl) ?_
  refine sv (xassign rfl) ?_
  refine send ?_
  refine forget_wp [(8, _), (9, _), (10, _)] ⟨rfl, rfl, rfl, trivial⟩ fun _ => ?_
  refine wp_ret ?_
  refine rp3 rfl rfl rfl rfl ?_
  exact hdr_of r54 (by simp [hdTail_length]; omega) (by simp [hdTail, bvs_app]) (by omega) hf (by omega) (by omega) hC
set_option maxHeartbeats 4000000 in
set_option maxRecDepth 100000 in
theorem c153 {w : World} {V : Value} {g N bh o lo preLen len : Nat} {T : TypeId} {pre post : List Value} {s : List UInt8} {typ cls : UInt16} {ttl : UInt32} {b1 x2 b3 : List UInt8} (hR : BR w V g N (b1 ++ (x2 ++ b3))) (_hg : g < w.heap.size) (hx2 : x2.length = 2) (hE : SE w bh T pre lRH (rhSegs s typ cls ttl len) post) (hpo : pre.length = o) (hbg : bh ≠ g) (hlo : b1.length = lo) (hpl : preLen ≤ N) (hcl : N - preLen < 65536) (hN9 : N < 1000000000) :
    Ret PP 153 [.pointer (some ⟨bh, o, none⟩), V, .int .i64 (lo : Int), .int .i64 (preLen : Int)] w (fun u w' => u = .nilIface ∧ BR w' V g N (b1 ++ (be16 (N - preLen) ++ b3)) ∧ SE w' bh T pre lRH (rhSegs s typ cls ttl (N - preLen)) post ∧ Fr (fun k => k = g ∨ k = bh) w w') := by
  have hz0 := hE.lt
  have hNl := hR.len
  simp only [List.length_append, hx2] at hNl
  obtain ⟨a0, c0, rfl, hnc, hcm, ha, -⟩ := hR.form
  obtain rfl := ha (by omega)
  obtain ⟨V, hV⟩ : ∃ V, V = Value.slice (some ⟨g, 0, none⟩) N c0 := ⟨_, rfl⟩
  have hf : Fr (fun k => k = g ∨ k = bh) w w := Fr.refl _ _
  refine ret_of Tryz.func153 rfl rfl rfl [(0, _), (1, _), (2, _), (3, _)] rfl ?_
  refine sreg ?_
  refine sv (xassign rfl) ?_
  refine send ?_
  refine forget_wp [(0, _), (1, _), (2, _), (3, _)] ⟨rfl, rfl, rfl, rfl, trivial⟩ fun _ => ?_
  refine sreg ?_
  refine sv (xmove rfl) ?_
  refine sv (xlen sl37 rfl) ?_
  refine sv (xmove rfl) ?_
  refine sv (xsub rfl rfl (w64 (by omega) (by omega))) ?_
  refine sv (xassign rfl) ?_
  refine send ?_
  refine forget_wp [(0, _), (1, _), (2, _), (9, _)] ⟨rfl, rfl, rfl, rfl, trivial⟩ fun _ => ?_
  refine wp_seq ?_
  refine sreg ?_
  refine sv (xmove rfl) ?_
  refine sv (exF (xgtr rfl rfl) (by omega)) ?_
  refine send ?_
  refine forget_wp [(0, _), (1, _), (2, _), (9, _), (15, _)] ⟨rfl, rfl, rfl, rfl, rfl, trivial⟩ fun _ => ?_
  refine cno rfl ?_
  refine wp_skip ?_
  refine nThen ?_
  refine forget_wp [(0, _), (1, _), (2, _), (9, _)] ⟨rfl, rfl, rfl, rfl, trivial⟩ fun _ => ?_
  refine sreg ?_
  refine sv (xmove rfl) ?_
  refine sv (xmove rfl) ?_
  refine sv (xmove rfl) ?_
  refine sv (xcut1 (lo := lo) (hi := lo) sl37 sz5 rfl rfl rfl rfl rfl (by omega) (by omega) (by omega)) ?_
  refine sv (xmove rfl) ?_
  refine sv (xconv hs3 ki22 rfl (wu16n (N - preLen) (by omega))) ?_
  refine sc (xcall ca148 rfl) (c148i (V := .slice (some ⟨g, 0, none⟩) N c0) (N := N) (b1 := b1) (x2 := x2) (b3 := b3) hR (by omega) hx2 (by omega) (by omega)) ?_
  rintro _ w1 ⟨rfl, hR, m2⟩
  have z3 := m2.size
  have hE := hE.keep m2 (by show ¬ (bh = g); omega)
  have hf := hf.step m2 (fun k hk hS => by have hS : k = g := hS; show k = g ∨ k = bh; omega)
  refine send ?_
  refine forget_wp [(0, _), (9, _)] ⟨rfl, rfl, trivial⟩ fun _ => ?_
  refine sreg ?_
  refine sv (xmove rfl) ?_
  refine sv (xmove rfl) ?_
  refine sv (xconv hs3 ki22 rfl (wu16n (N - preLen) (by omega))) ?_
  refine sv (xnilc rfl) ?_
  refine sv (xfld fl135_4 rfl) ?_
  refine suK (xstE 4 sz22 hE hpo rfl rfl rfl rfl rfl) ?_
  rintro w5 ⟨m6, hE, s4⟩
  have hf := hf.step m6 (fun k hk hS => by have hS : k = bh := hS; show k = g ∨ k = bh; omega)
  have hR := hR.keep m6 (by show ¬ (g = bh); omega)
  refine send ?_
  refine forget_wp [] trivial fun _ => ?_
  refine sreg ?_
  refine sv (xassign rfl) ?_
  refine send ?_
  refine forget_wp [(8, _)] ⟨rfl, trivial⟩ fun _ => ?_
  refine wp_ret ?_
  refine rp1 rfl rfl ?_
  exact ⟨rfl, hR, hE, hf⟩
set_option maxHeartbeats 4000000 in
set_option maxRecDepth 100000 in
theorem c164 {w : World} {v : Value} {g gm n start pos : Nat} {bs : List UInt8} {cm : Option Nat} {C : Option Ent} (hR : BR w v g n bs) (hg : g < w.heap.size) {bo o : Nat} (hbo : bo < w.heap.size) (hbg : bo ≠ g) (_hbm : bo ≠ gm) {r : RecD} (hk : r.kind = 1) (hN : SR w bo o [4] [bvs (fixedL r.data 4)]) (hn0 : 0 < n) (hC : Cmp w cm C) (hm : ∀ b, cm = some b → b = gm ∧ gm ≠ g ∧ gm < w.heap.size) (hp : n = start + pos) (hl : n < 999000000)  :
    Ret PP 164 [.pointer (some ⟨bo, o, none⟩), v, .map cm, .int .i64 (start : Int)] w (AppC w g gm cm n bs (packBody C pos r).1 (packBody C pos r).2) := by
  obtain ⟨a0, c0, rfl, -⟩ := hR.form
  have hf : Fr (fun k => k = g ∨ k = gm) w w := Fr.refl _ _
  refine ret_of Tryz.func164 rfl rfl rfl [(0, _), (1, _), (2, _), (3, _)] rfl ?_
  refine sreg ?_
  refine sv (xassign rfl) ?_
  refine sv (xassign rfl) ?_
  refine send ?_
  refine forget_wp [(0, _), (1, _)] ⟨rfl, rfl, trivial⟩ fun _ => ?_
  refine sreg ?_
  refine sv (xmove rfl) ?_
  refine sv (xmove rfl) ?_
  refine sv (xnilc rfl) ?_
  refine sv (xfld fl189_0 rfl) ?_
  refine sv (xcutA ar187 sz5 rfl) ?_
  refine sc (xcall ca208 rfl) (c208 hR (by omega) (ba_fix hN) (by rw [fixedL_length]; omega) (by omega) (by omega)) ?_
  rintro _ w1 ⟨p15, q15, g15, rfl, r15, m2, a15, l15⟩
  have z3 := m2.size
  have hC := hC.keep m2 (fun b hb => by have hb := hm b hb; show ¬ (b = g); omega)
  have hN := hN.keep m2 (by omega) (by show ¬ (bo = g); omega)
  have hf := hf.step m2 (fun k hk hS => by have hS : k = g := hS; show k = g ∨ k = gm; omega)
  refine sv (xassign rfl) ?_
  refine sv (xassign rfl) ?_
  refine send ?_
  refine forget_wp [(8, _), (9, _)] ⟨rfl, rfl, trivial⟩ fun _ => ?_
  refine wp_ret ?_
  refine rp2 rfl rfl rfl ?_
  rw [pb_rest (by omega), bodyL_simp.1 hk]
  exact app_ofC r15 (by simp [fixedL_length]) (by simp [bvs_app]) hf (by omega) (by omega) hC
set_option maxHeartbeats 4000000 in
set_option maxRecDepth 100000 in
theorem c178 {w : World} {v : Value} {g gm n start pos : Nat} {bs : List UInt8} {cm : Option Nat} {C : Option Ent} (hR : BR w v g n bs) (hg : g < w.heap.size) {bo o : Nat} (hbo : bo < w.heap.size) (hbg : bo ≠ g) (_hbm : bo ≠ gm) {r : RecD} (hk : r.kind = 8) (hN : SR w bo o [16] [bvs (fixedL r.data 16)]) (hn0 : 0 < n) (hC : Cmp w cm C) (hm : ∀ b, cm = some b → b = gm ∧ gm ≠ g ∧ gm < w.heap.size) (hp : n = start + pos) (hl : n < 999000000)  :
    Ret PP 178 [.pointer (some ⟨bo, o, none⟩), v, .map cm, .int .i64 (start : Int)] w (AppC w g gm cm n bs (packBody C pos r).1 (packBody C pos r).2) := by
  obtain ⟨a0, c0, rfl, -⟩ := hR.form
  have hf : Fr (fun k => k = g ∨ k = gm) w w := Fr.refl _ _
  refine ret_of Tryz.func178 rfl rfl rfl [(0, _), (1, _), (2, _), (3, _)] rfl ?_
  refine sreg ?_
  refine sv (xassign rfl) ?_
  refine sv (xassign rfl) ?_
  refine send ?_
  refine forget_wp [(0, _), (1, _)] ⟨rfl, rfl, trivial⟩ fun _ => ?_
  refine sreg ?_
  refine sv (xmove rfl) ?_
  refine sv (xmove rfl) ?_
  refine sv (xnilc rfl) ?_
  refine sv (xfld fl211_0 rfl) ?_
  refine sv (xcutA ar209 sz5 rfl) ?_
  refine sc (xcall ca208 rfl) (c208 hR (by omega) (ba_fix hN) (by rw [fixedL_length]; omega) (by omega) (by omega)) ?_
  rintro _ w1 ⟨p15, q15, g15, rfl, r15, m2, a15, l15⟩
  have z3 := m2.size
  have hC := hC.keep m2 (fun b hb => by have hb := hm b hb; show ¬ (b = g); omega)
  have hN := hN.keep m2 (by omega) (by show ¬ (bo = g); omega)
  have hf := hf.step m2 (fun k hk hS => by have hS : k = g := hS; show k = g ∨ k = gm; omega)
  refine sv (xassign rfl) ?_
  refine sv (xassign rfl) ?_
  refine send ?_
  refine forget_wp [(8, _), (9, _)] ⟨rfl, rfl, trivial⟩ fun _ => ?_
  refine wp_ret ?_
  refine rp2 rfl rfl rfl ?_
  rw [pb_rest (by omega), bodyL_simp.2.1 hk]
  exact app_ofC r15 (by simp [fixedL_length]) (by simp [bvs_app]) hf (by omega) (by omega) hC
end Go.Proofs.YtifnodoffgfpbaaGreatDoor
