/- Walks: how bodies of all kinds are packed. Conditions: none. -/
import Derived.Test.YtifnodoffgfpbaaGreatDoorW18
namespace Go.Proofs.YtifnodoffgfpbaaGreatDoor
open Go

theorem xcutF {P : Program} {n : Nat} {l : List (Nat × Value)} {w : World} {ty : TypeId} {x : Operand} {T E : TypeId} {sz m c : Nat} {a : Option Addr} (hT : slcB P T E = true) (hE : szB P E sz = true) (hx : ev n l x = some (.slice a m c)) :
    Ex P n l (.slice T x none none none) ty w (.slice a m c) w := fun r _ _ _ _ => by
  have hs := szB_spec hE
  cases hi' : P.info? E with
  | none => rw [hi'] at hs; cases hs
  | some u =>
    rw [hi'] at hs
    simp only [Option.map_some, Option.some.injEq] at hs
    simp only [execOp, ev_eval r hx]
    simp [Instr.sliceAt, Instr.slice, run_underlying (slcB_spec hT), Instr.sliceBounds, sizeOf, typeInfo, hi']
    cases a with
    | none => simp
    | some a => simp [Addr.add]
theorem asc_pos {ps : List PairD} (h : asc ps) {k : Nat} {p : PairD} (hp : ps[k]? = some p) (hk : 0 < k) : 0 < p.key.toNat := by
  obtain ⟨q, hq⟩ := some_of_lt (l := ps) (k := k - 1) (by have := (List.getElem?_eq_some_iff.1 hp).1; omega)
  have := h (k - 1) q p hq (by rw [show k - 1 + 1 = k by omega]; exact hp)
  omega
theorem pairs_take_le (ps : List PairD) (k : Nat) : (pairsL (ps.take k)).length ≤ (pairsL ps).length := by
  conv => rhs; rw [← List.take_append_drop k ps]
  simp only [pairsL, List.map_append, List.flatten_append, List.length_append]; omega
theorem texts_take_le (ps : List ByteArray) (k : Nat) : (textsL (ps.take k)).length ≤ (textsL ps).length := by
  conv => rhs; rw [← List.take_append_drop k ps]
  simp only [textsL, List.map_append, List.flatten_append, List.length_append]; omega

set_option maxHeartbeats 4000000 in
set_option maxRecDepth 100000 in
theorem c166 {w : World} {v : Value} {g gm n start pos : Nat} {bs : List UInt8} {cm : Option Nat} {C : Option Ent} (hR : BR w v g n bs) (hg : g < w.heap.size) {bo o : Nat} (hbo : bo < w.heap.size) (hbg : bo ≠ g) (hbm : bo ≠ gm) {r : RecD} (hk : r.kind = 2) (hN : SR w bo o [256] [nm (bt r.host)]) (hn0 : 0 < n) (hsh : nameL (bt r.host)) (hC : Cmp w cm C) (hm : ∀ b, cm = some b → b = gm ∧ gm ≠ g ∧ gm < w.heap.size) (hp : n = start + pos) (hl : n < 999000000)  :
    Ret PP 166 [.pointer (some ⟨bo, o, none⟩), v, .map cm, .int .i64 (start : Int)] w (AppC w g gm cm n bs (packBody C pos r).1 (packBody C pos r).2) := by
  obtain ⟨a0, c0, rfl, -⟩ := hR.form
  have hf : Fr (fun k => k = g ∨ k = gm) w w := Fr.refl _ _
  refine ret_of Tryz.func166 rfl rfl rfl [(0, _), (1, _), (2, _), (3, _)] rfl ?_
  refine sreg ?_
  refine sv (xassign rfl) ?_
  refine sv (xassign rfl) ?_
  refine send ?_
  refine forget_wp [(0, _), (1, _), (2, _), (3, _)] ⟨rfl, rfl, rfl, rfl, trivial⟩ fun _ => ?_
  refine sreg ?_
  refine sv (xmove rfl) ?_
  refine sv (xnilc rfl) ?_
  refine sv (xfld fl192_0 rfl) ?_
  refine sv (xmove rfl) ?_
  refine sv (xmove rfl) ?_
  refine sv (xmove rfl) ?_
  refine sc (xcall ca149 rfl) (c149 (gm := gm) (pos := pos) (s := bt r.host) hR (by omega) (SR.sub hN 0 1 rfl) (by omega) (by omega) (by omega) hC (fun b hb => by have hb := hm b hb; omega) (by omega) (by omega) hsh) ?_
  rintro _ w1 ⟨p16, q16, g16, rfl, r16, m2, a16, l16, hC⟩
  have z3 := m2.size
  have hN := hN.keep m2 (by omega) (by show ¬ (bo = g ∨ bo = gm); omega)
  have hf := hf.step m2 (fun k hk hS => by have hS : k = g ∨ k = gm := hS; show k = g ∨ k = gm; omega)
  have hpl16 := packName_bound (C := C) (pos := pos) (s := bt r.host) hsh
  refine sv (xextr rfl rfl) ?_
  refine sv (xextr rfl rfl) ?_
  refine sv (xassign rfl) ?_
  refine sv (xassign rfl) ?_
  refine send ?_
  refine forget_wp [(8, _), (9, _)] ⟨rfl, rfl, trivial⟩ fun _ => ?_
  refine wp_ret ?_
  refine rp2 rfl rfl rfl ?_
  rw [pb_name (by omega)]
  exact app_ofC r16 rfl rfl hf (by omega) (by omega) hC
set_option maxHeartbeats 4000000 in
set_option maxRecDepth 100000 in
theorem c168 {w : World} {v : Value} {g gm n start pos : Nat} {bs : List UInt8} {cm : Option Nat} {C : Option Ent} (hR : BR w v g n bs) (hg : g < w.heap.size) {bo o : Nat} (hbo : bo < w.heap.size) (hbg : bo ≠ g) (hbm : bo ≠ gm) {r : RecD} (hk : r.kind = 3) (hN : SR w bo o [256] [nm (bt r.host)]) (hn0 : 0 < n) (hsh : nameL (bt r.host)) (hC : Cmp w cm C) (hm : ∀ b, cm = some b → b = gm ∧ gm ≠ g ∧ gm < w.heap.size) (hp : n = start + pos) (hl : n < 999000000)  :
    Ret PP 168 [.pointer (some ⟨bo, o, none⟩), v, .map cm, .int .i64 (start : Int)] w (AppC w g gm cm n bs (packBody C pos r).1 (packBody C pos r).2) := by
  obtain ⟨a0, c0, rfl, -⟩ := hR.form
  have hf : Fr (fun k => k = g ∨ k = gm) w w := Fr.refl _ _
  refine ret_of Tryz.func168 rfl rfl rfl [(0, _), (1, _), (2, _), (3, _)] rfl ?_
  refine sreg ?_
  refine sv (xassign rfl) ?_
  refine sv (xassign rfl) ?_
  refine send ?_
  refine forget_wp [(0, _), (1, _), (2, _), (3, _)] ⟨rfl, rfl, rfl, rfl, trivial⟩ fun _ => ?_
  refine sreg ?_
  refine sv (xmove rfl) ?_
  refine sv (xnilc rfl) ?_
  refine sv (xfld fl195_0 rfl) ?_
  refine sv (xmove rfl) ?_
  refine sv (xmove rfl) ?_
  refine sv (xmove rfl) ?_
  refine sc (xcall ca149 rfl) (c149 (gm := gm) (pos := pos) (s := bt r.host) hR (by omega) (SR.sub hN 0 1 rfl) (by omega) (by omega) (by omega) hC (fun b hb => by have hb := hm b hb; omega) (by omega) (by omega) hsh) ?_
  rintro _ w1 ⟨p16, q16, g16, rfl, r16, m2, a16, l16, hC⟩
  have z3 := m2.size
  have hN := hN.keep m2 (by omega) (by show ¬ (bo = g ∨ bo = gm); omega)
  have hf := hf.step m2 (fun k hk hS => by have hS : k = g ∨ k = gm := hS; show k = g ∨ k = gm; omega)
  have hpl16 := packName_bound (C := C) (pos := pos) (s := bt r.host) hsh
  refine sv (xextr rfl rfl) ?_
  refine sv (xextr rfl rfl) ?_
  refine sv (xassign rfl) ?_
  refine sv (xassign rfl) ?_
  refine send ?_
  refine forget_wp [(8, _), (9, _)] ⟨rfl, rfl, trivial⟩ fun _ => ?_
  refine wp_ret ?_
  refine rp2 rfl rfl rfl ?_
  rw [pb_name (by omega)]
  exact app_ofC r16 rfl rfl hf (by omega) (by omega) hC
set_option maxHeartbeats 4000000 in
set_option maxRecDepth 100000 in
theorem c172 {w : World} {v : Value} {g gm n start pos : Nat} {bs : List UInt8} {cm : Option Nat} {C : Option Ent} (hR : BR w v g n bs) (hg : g < w.heap.size) {bo o : Nat} (hbo : bo < w.heap.size) (hbg : bo ≠ g) (hbm : bo ≠ gm) {r : RecD} (hk : r.kind = 5) (hN : SR w bo o [256] [nm (bt r.host)]) (hn0 : 0 < n) (hsh : nameL (bt r.host)) (hC : Cmp w cm C) (hm : ∀ b, cm = some b → b = gm ∧ gm ≠ g ∧ gm < w.heap.size) (hp : n = start + pos) (hl : n < 999000000)  :
    Ret PP 172 [.pointer (some ⟨bo, o, none⟩), v, .map cm, .int .i64 (start : Int)] w (AppC w g gm cm n bs (packBody C pos r).1 (packBody C pos r).2) := by
  obtain ⟨a0, c0, rfl, -⟩ := hR.form
  have hf : Fr (fun k => k = g ∨ k = gm) w w := Fr.refl _ _
  refine ret_of Tryz.func172 rfl rfl rfl [(0, _), (1, _), (2, _), (3, _)] rfl ?_
  refine sreg ?_
  refine sv (xassign rfl) ?_
  refine sv (xassign rfl) ?_
  refine send ?_
  refine forget_wp [(0, _), (1, _), (2, _), (3, _)] ⟨rfl, rfl, rfl, rfl, trivial⟩ fun _ => ?_
  refine sreg ?_
  refine sv (xmove rfl) ?_
  refine sv (xnilc rfl) ?_
  refine sv (xfld fl201_0 rfl) ?_
  refine sv (xmove rfl) ?_
  refine sv (xmove rfl) ?_
  refine sv (xmove rfl) ?_
  refine sc (xcall ca149 rfl) (c149 (gm := gm) (pos := pos) (s := bt r.host) hR (by omega) (SR.sub hN 0 1 rfl) (by omega) (by omega) (by omega) hC (fun b hb => by have hb := hm b hb; omega) (by omega) (by omega) hsh) ?_
  rintro _ w1 ⟨p16, q16, g16, rfl, r16, m2, a16, l16, hC⟩
  have z3 := m2.size
  have hN := hN.keep m2 (by omega) (by show ¬ (bo = g ∨ bo = gm); omega)
  have hf := hf.step m2 (fun k hk hS => by have hS : k = g ∨ k = gm := hS; show k = g ∨ k = gm; omega)
  have hpl16 := packName_bound (C := C) (pos := pos) (s := bt r.host) hsh
  refine sv (xextr rfl rfl) ?_
  refine sv (xextr rfl rfl) ?_
  refine sv (xassign rfl) ?_
  refine sv (xassign rfl) ?_
  refine send ?_
  refine forget_wp [(8, _), (9, _)] ⟨rfl, rfl, trivial⟩ fun _ => ?_
  refine wp_ret ?_
  refine rp2 rfl rfl rfl ?_
  rw [pb_name (by omega)]
  exact app_ofC r16 rfl rfl hf (by omega) (by omega) hC
set_option maxHeartbeats 4000000 in
set_option maxRecDepth 100000 in
theorem c174 {w : World} {v : Value} {g gm n start pos : Nat} {bs : List UInt8} {cm : Option Nat} {C : Option Ent} (hR : BR w v g n bs) (hg : g < w.heap.size) {bo o : Nat} (hbo : bo < w.heap.size) (hbg : bo ≠ g) (hbm : bo ≠ gm) {r : RecD} (hk : r.kind = 6) (hN : SR w bo o [1, 256] [[.int .u16 ((r.n1.toNat % 65536 : Nat) : Int)], nm (bt r.host)]) (hn0 : 0 < n) (hsh : nameL (bt r.host)) (hC : Cmp w cm C) (hm : ∀ b, cm = some b → b = gm ∧ gm ≠ g ∧ gm < w.heap.size) (hp : n = start + pos) (hl : n < 999000000)  :
    Ret PP 174 [.pointer (some ⟨bo, o, none⟩), v, .map cm, .int .i64 (start : Int)] w (AppC w g gm cm n bs (packBody C pos r).1 (packBody C pos r).2) := by
  obtain ⟨a0, c0, rfl, -⟩ := hR.form
  have hf : Fr (fun k => k = g ∨ k = gm) w w := Fr.refl _ _
  refine ret_of Tryz.func174 rfl rfl rfl [(0, _), (1, _), (2, _), (3, _)] rfl ?_
  refine sreg ?_
  refine sv (xassign rfl) ?_
  refine sv (xassign rfl) ?_
  refine send ?_
  refine forget_wp [(0, _), (1, _), (2, _), (3, _)] ⟨rfl, rfl, rfl, rfl, trivial⟩ fun _ => ?_
  refine sreg ?_
  refine sv (xmove rfl) ?_
  refine sv (xassign rfl) ?_
  refine send ?_
  refine forget_wp [(0, _), (1, _), (2, _), (3, _), (10, _)] ⟨rfl, rfl, rfl, rfl, rfl, trivial⟩ fun _ => ?_
  refine sreg ?_
  refine sv (xmove rfl) ?_
  refine sv (xmove rfl) ?_
  refine sv (xnilc rfl) ?_
  refine sv (xfld fl204_0 rfl) ?_
  refine sv (xld on22 rfl (hN.c 0 rfl rfl)) ?_
  refine sc (xcall ca148 rfl) (c148 hR (by omega) (by first | omega | exact u16lt _) (by omega)) ?_
  rintro _ w1 ⟨p18, q18, g18, rfl, r18, m2, a18, l18⟩
  have z3 := m2.size
  have hC := hC.keep m2 (fun b hb => by have hb := hm b hb; show ¬ (b = g); omega)
  have hN := hN.keep m2 (by omega) (by show ¬ (bo = g); omega)
  have hf := hf.step m2 (fun k hk hS => by have hS : k = g := hS; show k = g ∨ k = gm; omega)
  refine sv (xassign rfl) ?_
  refine send ?_
  refine forget_wp [(0, _), (1, _), (2, _), (3, _), (10, _)] ⟨rfl, rfl, rfl, rfl, rfl, trivial⟩ fun _ => ?_
  refine sreg ?_
  refine sv (xmove rfl) ?_
  refine sv (xnilc rfl) ?_
  refine sv (xfld fl204_1 rfl) ?_
  refine sv (xmove rfl) ?_
  refine sv (xmove rfl) ?_
  refine sv (xmove rfl) ?_
  refine sc (xcall ca149 rfl) (c149 (gm := gm) (pos := pos + 2) (s := bt r.host) r18 (by omega) (SR.sub hN 1 1 rfl) (by omega) (by omega) (by omega) hC (fun b hb => by have hb := hm b hb; omega) (by omega) (by omega) hsh) ?_
  rintro _ w4 ⟨p26, q26, g26, rfl, r26, m5, a26, l26, hC⟩
  have z6 := m5.size
  have hN := hN.keep m5 (by omega) (by show ¬ (bo = g18 ∨ bo = gm); omega)
  have hf := hf.step m5 (fun k hk hS => by have hS : k = g18 ∨ k = gm := hS; show k = g ∨ k = gm; omega)
  have hpl26 := packName_bound (C := C) (pos := pos + 2) (s := bt r.host) hsh
  refine sv (xmove rfl) ?_
  refine sv (xextr rfl rfl) ?_
  refine sv (xextr rfl rfl) ?_
  refine sv (xassign rfl) ?_
  refine sv (xassign rfl) ?_
  refine send ?_
  refine forget_wp [(1, _), (10, _), (11, _)] ⟨rfl, rfl, rfl, trivial⟩ fun _ => ?_
  refine wp_seq ?_
  refine sreg ?_
  refine sv (xmove rfl) ?_
  refine sv (xneN if89 rfl) ?_
  refine send ?_
  refine forget_wp [(1, _), (10, _), (11, _), (30, _)] ⟨rfl, rfl, rfl, rfl, trivial⟩ fun _ => ?_
  refine cno rfl ?_
  refine wp_skip ?_
  refine nThen ?_
  refine forget_wp [(1, _)] ⟨rfl, trivial⟩ fun _ => ?_
  refine sreg ?_
  refine sv (xmove rfl) ?_
  refine sv (xassign rfl) ?_
  refine sv (xassign rfl) ?_
  refine send ?_
  refine forget_wp [(8, _), (9, _)] ⟨rfl, rfl, trivial⟩ fun _ => ?_
  refine wp_ret ?_
  refine rp2 rfl rfl rfl ?_
  rw [pb_mx hk]
  exact app_ofC r26 (by simp [packMx, be16_length]; omega) (by simp [packMx, bvs_app, n16]) hf (by omega) (by omega) hC
set_option maxHeartbeats 4000000 in
set_option maxRecDepth 100000 in
theorem c170 {w : World} {v : Value} {g gm n start pos : Nat} {bs : List UInt8} {cm : Option Nat} {C : Option Ent} (hR : BR w v g n bs) (hg : g < w.heap.size) {bo o : Nat} (hbo : bo < w.heap.size) (hbg : bo ≠ g) (hbm : bo ≠ gm) {r : RecD} (hk : r.kind = 4) (hN : SR w bo o [256, 256, 1, 1, 1, 1, 1] [nm (bt r.host), nm (bt r.box), [.int .u32 (r.n1.toNat : Int)], [.int .u32 (r.n2.toNat : Int)], [.int .u32 (r.n3.toNat : Int)], [.int .u32 (r.n4.toNat : Int)], [.int .u32 (r.n5.toNat : Int)]]) (hn0 : 0 < n) (hsh : nameL (bt r.host)) (hsb : nameL (bt r.box)) (hC : Cmp w cm C) (hm : ∀ b, cm = some b → b = gm ∧ gm ≠ g ∧ gm < w.heap.size) (hp : n = start + pos) (hl : n < 999000000)  :
    Ret PP 170 [.pointer (some ⟨bo, o, none⟩), v, .map cm, .int .i64 (start : Int)] w (AppC w g gm cm n bs (packBody C pos r).1 (packBody C pos r).2) := by
  obtain ⟨a0, c0, rfl, -⟩ := hR.form
  have hf : Fr (fun k => k = g ∨ k = gm) w w := Fr.refl _ _
  refine ret_of Tryz.func170 rfl rfl rfl [(0, _), (1, _), (2, _), (3, _)] rfl ?_
  refine sreg ?_
  refine sv (xassign rfl) ?_
  refine sv (xassign rfl) ?_
  refine send ?_
  refine forget_wp [(0, _), (1, _), (2, _), (3, _)] ⟨rfl, rfl, rfl, rfl, trivial⟩ fun _ => ?_
  refine sreg ?_
  refine sv (xmove rfl) ?_
  refine sv (xassign rfl) ?_
  refine send ?_
  refine forget_wp [(0, _), (1, _), (2, _), (3, _), (10, _)] ⟨rfl, rfl, rfl, rfl, rfl, trivial⟩ fun _ => ?_
  refine sreg ?_
  refine sv (xmove rfl) ?_
  refine sv (xnilc rfl) ?_
  refine sv (xfld fl198_0 rfl) ?_
  refine sv (xmove rfl) ?_
  refine sv (xmove rfl) ?_
  refine sv (xmove rfl) ?_
  refine sc (xcall ca149 rfl) (c149 (gm := gm) (pos := pos) (s := bt r.host) hR (by omega) (SR.sub hN 0 1 rfl) (by omega) (by omega) (by omega) hC (fun b hb => by have hb := hm b hb; omega) (by omega) (by omega) hsh) ?_
  rintro _ w1 ⟨p20, q20, g20, rfl, r20, m2, a20, l20, hC⟩
  have z3 := m2.size
  have hN := hN.keep m2 (by omega) (by show ¬ (bo = g ∨ bo = gm); omega)
  have hf := hf.step m2 (fun k hk hS => by have hS : k = g ∨ k = gm := hS; show k = g ∨ k = gm; omega)
  have hpl20 := packName_bound (C := C) (pos := pos) (s := bt r.host) hsh
  refine sv (xmove rfl) ?_
  refine sv (xextr rfl rfl) ?_
  refine sv (xextr rfl rfl) ?_
  refine sv (xassign rfl) ?_
  refine sv (xassign rfl) ?_
  refine send ?_
  refine forget_wp [(0, _), (1, _), (2, _), (3, _), (10, _), (11, _)] ⟨rfl, rfl, rfl, rfl, rfl, rfl, trivial⟩ fun _ => ?_
  refine wp_seq ?_
  refine sreg ?_
  refine sv (xmove rfl) ?_
  refine sv (xneN if89 rfl) ?_
  refine send ?_
  refine forget_wp [(0, _), (1, _), (2, _), (3, _), (10, _), (11, _), (24, _)] ⟨rfl, rfl, rfl, rfl, rfl, rfl, rfl, trivial⟩ fun _ => ?_
  refine cno rfl ?_
  refine wp_skip ?_
  refine nThen ?_
  refine forget_wp [(0, _), (1, _), (2, _), (3, _), (10, _)] ⟨rfl, rfl, rfl, rfl, rfl, trivial⟩ fun _ => ?_
  refine sreg ?_
  refine sv (xmove rfl) ?_
  refine sv (xnilc rfl) ?_
  refine sv (xfld fl198_1 rfl) ?_
  refine sv (xmove rfl) ?_
  refine sv (xmove rfl) ?_
  refine sv (xmove rfl) ?_
  refine sc (xcall ca149 rfl) (c149 (gm := gm) (pos := pos + (packName C pos (bt r.host)).1.length) (s := bt r.box) r20 (by omega) (SR.sub hN 1 1 rfl) (by omega) (by omega) (by omega) hC (fun b hb => by have hb := hm b hb; omega) (by omega) (by omega) hsb) ?_
  rintro _ w4 ⟨p37, q37, g37, rfl, r37, m5, a37, l37, hC⟩
  have z6 := m5.size
  have hN := hN.keep m5 (by omega) (by show ¬ (bo = g20 ∨ bo = gm); omega)
  have hf := hf.step m5 (fun k hk hS => by have hS : k = g20 ∨ k = gm := hS; show k = g ∨ k = gm; omega)
  have hpl37 := packName_bound (C := (packName C pos (bt r.host)).2) (pos := pos + (packName C pos (bt r.host)).1.length) (s := bt r.box) hsb
  refine sv (xmove rfl) ?_
  refine sv (xextr rfl rfl) ?_
  refine sv (xextr rfl rfl) ?_
  refine sv (xassign rfl) ?_
  refine sv (xassign rfl) ?_
  refine send ?_
  refine forget_wp [(0, _), (1, _), (10, _), (11, _)] ⟨rfl, rfl, rfl, rfl, trivial⟩ fun _ => ?_
  refine wp_seq ?_
  refine sreg ?_
  refine sv (xmove rfl) ?_
  refine sv (xneN if89 rfl) ?_
  refine send ?_
  refine forget_wp [(0, _), (1, _), (10, _), (11, _), (41, _)] ⟨rfl, rfl, rfl, rfl, rfl, trivial⟩ fun _ => ?_
  refine cno rfl ?_
  refine wp_skip ?_
  refine nThen ?_
  refine forget_wp [(0, _), (1, _)] ⟨rfl, rfl, trivial⟩ fun _ => ?_
  refine sreg ?_
  refine sv (xmove rfl) ?_
  refine sv (xmove rfl) ?_
  refine sv (xnilc rfl) ?_
  refine sv (xfld fl198_2 rfl) ?_
  refine sv (xld on61 rfl (hN.c 2 rfl rfl)) ?_
  refine sc (xcall ca191 rfl) (c191 r37 (by omega) (by first | omega | exact u32lt _) (by omega)) ?_
  rintro _ w7 ⟨p52, q52, g52, rfl, r52, m8, a52, l52⟩
  have z9 := m8.size
  have hN := hN.keep m8 (by omega) (by show ¬ (bo = g37); omega)
  have hf := hf.step m8 (fun k hk hS => by have hS : k = g37 := hS; show k = g ∨ k = gm; omega)
  have hC := hC.keep m8 (fun b hb => by have hb := hm b hb; show ¬ (b = g37); omega)
  refine sv (xassign rfl) ?_
  refine send ?_
  refine forget_wp [(0, _), (1, _)] ⟨rfl, rfl, trivial⟩ fun _ => ?_
  refine sreg ?_
  refine sv (xmove rfl) ?_
  refine sv (xmove rfl) ?_
  refine sv (xnilc rfl) ?_
  refine sv (xfld fl198_3 rfl) ?_
  refine sv (xld on61 rfl (hN.c 3 rfl rfl)) ?_
  refine sc (xcall ca191 rfl) (c191 r52 (by omega) (by first | omega | exact u32lt _) (by omega)) ?_
  rintro _ w10 ⟨p58, q58, g58, rfl, r58, m11, a58, l58⟩
  have z12 := m11.size
  have hN := hN.keep m11 (by omega) (by show ¬ (bo = g52); omega)
  have hf := hf.step m11 (fun k hk hS => by have hS : k = g52 := hS; show k = g ∨ k = gm; omega)
  have hC := hC.keep m11 (fun b hb => by have hb := hm b hb; show ¬ (b = g52); omega)
  refine sv (xassign rfl) ?_
  refine send ?_
  refine forget_wp [(0, _), (1, _)] ⟨rfl, rfl, trivial⟩ fun _ => ?_
  refine sreg ?_
  refine sv (xmove rfl) ?_
  refine sv (xmove rfl) ?_
  refine sv (xnilc rfl) ?_
  refine sv (xfld fl198_4 rfl) ?_
  refine sv (xld on61 rfl (hN.c 4 rfl rfl)) ?_
  refine sc (xcall ca191 rfl) (c191 r58 (by omega) (by first | omega | exact u32lt _) (by omega)) ?_
  rintro _ w13 ⟨p64, q64, g64, rfl, r64, m14, a64, l64⟩
  have z15 := m14.size
  have hN := hN.keep m14 (by omega) (by show ¬ (bo = g58); omega)
  have hf := hf.step m14 (fun k hk hS => by have hS : k = g58 := hS; show k = g ∨ k = gm; omega)
  have hC := hC.keep m14 (fun b hb => by have hb := hm b hb; show ¬ (b = g58); omega)
  refine sv (xassign rfl) ?_
  refine send ?_
  refine forget_wp [(0, _), (1, _)] ⟨rfl, rfl, trivial⟩ fun _ => ?_
  refine sreg ?_
  refine sv (xmove rfl) ?_
  refine sv (xmove rfl) ?_
  refine sv (xnilc rfl) ?_
  refine sv (xfld fl198_5 rfl) ?_
  refine sv (xld on61 rfl (hN.c 5 rfl rfl)) ?_
  refine sc (xcall ca191 rfl) (c191 r64 (by omega) (by first | omega | exact u32lt _) (by omega)) ?_
  rintro _ w16 ⟨p70, q70, g70, rfl, r70, m17, a70, l70⟩
  have z18 := m17.size
  have hN := hN.keep m17 (by omega) (by show ¬ (bo = g64); omega)
  have hf := hf.step m17 (fun k hk hS => by have hS : k = g64 := hS; show k = g ∨ k = gm; omega)
  have hC := hC.keep m17 (fun b hb => by have hb := hm b hb; show ¬ (b = g64); omega)
  refine sv (xassign rfl) ?_
  refine send ?_
  refine forget_wp [(0, _), (1, _)] ⟨rfl, rfl, trivial⟩ fun _ => ?_
  refine sreg ?_
  refine sv (xmove rfl) ?_
  refine sv (xmove rfl) ?_
  refine sv (xnilc rfl) ?_
  refine sv (xfld fl198_6 rfl) ?_
  refine sv (xld on61 rfl (hN.c 6 rfl rfl)) ?_
  refine sc (xcall ca191 rfl) (c191 r70 (by omega) (by first | omega | exact u32lt _) (by omega)) ?_
  rintro _ w19 ⟨p76, q76, g76, rfl, r76, m20, a76, l76⟩
  have z21 := m20.size
  have hN := hN.keep m20 (by omega) (by show ¬ (bo = g70); omega)
  have hf := hf.step m20 (fun k hk hS => by have hS : k = g70 := hS; show k = g ∨ k = gm; omega)
  have hC := hC.keep m20 (fun b hb => by have hb := hm b hb; show ¬ (b = g70); omega)
  refine sv (xassign rfl) ?_
  refine sv (xassign rfl) ?_
  refine send ?_
  refine forget_wp [(8, _), (9, _)] ⟨rfl, rfl, trivial⟩ fun _ => ?_
  refine wp_ret ?_
  refine rp2 rfl rfl rfl ?_
  rw [pb_soa hk]
  exact app_ofC r76 (by simp [packSoa, soaL_length]; omega) (by simp [packSoa, soaL, bvs_app]) hf (by omega) (by omega) hC
set_option maxHeartbeats 4000000 in
set_option maxRecDepth 100000 in
theorem c180 {w : World} {v : Value} {g gm n start pos : Nat} {bs : List UInt8} {cm : Option Nat} {C : Option Ent} (hR : BR w v g n bs) (hg : g < w.heap.size) {bo o : Nat} (hbo : bo < w.heap.size) (hbg : bo ≠ g) (hbm : bo ≠ gm) {r : RecD} (hk : r.kind = 9) (hN : SR w bo o [1, 1, 1, 256] [[.int .u16 ((r.n1.toNat % 65536 : Nat) : Int)], [.int .u16 ((r.n2.toNat % 65536 : Nat) : Int)], [.int .u16 ((r.n3.toNat % 65536 : Nat) : Int)], nm (bt r.host)]) (hn0 : 0 < n) (hsh : nameL (bt r.host)) (hC : Cmp w cm C) (hm : ∀ b, cm = some b → b = gm ∧ gm ≠ g ∧ gm < w.heap.size) (hp : n = start + pos) (hl : n < 999000000)  :
    Ret PP 180 [.pointer (some ⟨bo, o, none⟩), v, .map cm, .int .i64 (start : Int)] w (AppC w g gm cm n bs (packBody C pos r).1 (packBody C pos r).2) := by
  obtain ⟨a0, c0, rfl, -⟩ := hR.form
  have hf : Fr (fun k => k = g ∨ k = gm) w w := Fr.refl _ _
  refine ret_of Tryz.func180 rfl rfl rfl [(0, _), (1, _), (2, _), (3, _)] rfl ?_
  refine sreg ?_
  refine sv (xassign rfl) ?_
  refine sv (xassign rfl) ?_
  refine send ?_
  refine forget_wp [(0, _), (1, _), (3, _)] ⟨rfl, rfl, rfl, trivial⟩ fun _ => ?_
  refine sreg ?_
  refine sv (xmove rfl) ?_
  refine sv (xassign rfl) ?_
  refine send ?_
  refine forget_wp [(0, _), (1, _), (3, _), (10, _)] ⟨rfl, rfl, rfl, rfl, trivial⟩ fun _ => ?_
  refine sreg ?_
  refine sv (xmove rfl) ?_
  refine sv (xmove rfl) ?_
  refine sv (xnilc rfl) ?_
  refine sv (xfld fl214_0 rfl) ?_
  refine sv (xld on22 rfl (hN.c 0 rfl rfl)) ?_
  refine sc (xcall ca148 rfl) (c148 hR (by omega) (by first | omega | exact u16lt _) (by omega)) ?_
  rintro _ w1 ⟨p18, q18, g18, rfl, r18, m2, a18, l18⟩
  have z3 := m2.size
  have hC := hC.keep m2 (fun b hb => by have hb := hm b hb; show ¬ (b = g); omega)
  have hN := hN.keep m2 (by omega) (by show ¬ (bo = g); omega)
  have hf := hf.step m2 (fun k hk hS => by have hS : k = g := hS; show k = g ∨ k = gm; omega)
  refine sv (xassign rfl) ?_
  refine send ?_
  refine forget_wp [(0, _), (1, _), (3, _), (10, _)] ⟨rfl, rfl, rfl, rfl, trivial⟩ fun _ => ?_
  refine sreg ?_
  refine sv (xmove rfl) ?_
  refine sv (xmove rfl) ?_
  refine sv (xnilc rfl) ?_
  refine sv (xfld fl214_1 rfl) ?_
  refine sv (xld on22 rfl (hN.c 1 rfl rfl)) ?_
  refine sc (xcall ca148 rfl) (c148 r18 (by omega) (by first | omega | exact u16lt _) (by omega)) ?_
  rintro _ w4 ⟨p24, q24, g24, rfl, r24, m5, a24, l24⟩
  have z6 := m5.size
  have hC := hC.keep m5 (fun b hb => by have hb := hm b hb; show ¬ (b = g18); omega)
  have hN := hN.keep m5 (by omega) (by show ¬ (bo = g18); omega)
  have hf := hf.step m5 (fun k hk hS => by have hS : k = g18 := hS; show k = g ∨ k = gm; omega)
  refine sv (xassign rfl) ?_
  refine send ?_
  refine forget_wp [(0, _), (1, _), (3, _), (10, _)] ⟨rfl, rfl, rfl, rfl, trivial⟩ fun _ => ?_
  refine sreg ?_
  refine sv (xmove rfl) ?_
  refine sv (xmove rfl) ?_
  refine sv (xnilc rfl) ?_
  refine sv (xfld fl214_2 rfl) ?_
  refine sv (xld on22 rfl (hN.c 2 rfl rfl)) ?_
  refine sc (xcall ca148 rfl) (c148 r24 (by omega) (by first | omega | exact u16lt _) (by omega)) ?_
  rintro _ w7 ⟨p30, q30, g30, rfl, r30, m8, a30, l30⟩
  have z9 := m8.size
  have hC := hC.keep m8 (fun b hb => by have hb := hm b hb; show ¬ (b = g24); omega)
  have hN := hN.keep m8 (by omega) (by show ¬ (bo = g24); omega)
  have hf := hf.step m8 (fun k hk hS => by have hS : k = g24 := hS; show k = g ∨ k = gm; omega)
  refine sv (xassign rfl) ?_
  refine send ?_
  refine forget_wp [(0, _), (1, _), (3, _), (10, _)] ⟨rfl, rfl, rfl, rfl, trivial⟩ fun _ => ?_
  refine sreg ?_
  refine sv (xmove rfl) ?_
  refine sv (xnilc rfl) ?_
  refine sv (xfld fl214_3 rfl) ?_
  refine sv (xmove rfl) ?_
  refine sv (xmove rfl) ?_
  refine sc (xcall ca149 rfl) (c149n (start := start) (pos := pos + 6) (s := bt r.host) r30 (by omega) (SR.sub hN 3 1 rfl) (by omega) (by omega) (by omega) (by omega) hsh) ?_
  rintro _ w10 ⟨_, rfl, p37, q37, g37, rfl, r37, m11, a37, l37⟩
  have z12 := m11.size
  have hC := hC.keep m11 (fun b hb => by have hb := hm b hb; show ¬ (b = g30); omega)
  have hN := hN.keep m11 (by omega) (by show ¬ (bo = g30); omega)
  have hf := hf.step m11 (fun k hk hS => by have hS : k = g30 := hS; show k = g ∨ k = gm; omega)
  have hpl37 := wire_bound hsh
  refine sv (xmove rfl) ?_
  refine sv (xextr rfl rfl) ?_
  refine sv (xextr rfl rfl) ?_
  refine sv (xassign rfl) ?_
  refine sv (xassign rfl) ?_
  refine send ?_
  refine forget_wp [(1, _), (10, _), (11, _)] ⟨rfl, rfl, rfl, trivial⟩ fun _ => ?_
  refine wp_seq ?_
  refine sreg ?_
  refine sv (xmove rfl) ?_
  refine sv (xneN if89 rfl) ?_
  refine send ?_
  refine forget_wp [(1, _), (10, _), (11, _), (41, _)] ⟨rfl, rfl, rfl, rfl, trivial⟩ fun _ => ?_
  refine cno rfl ?_
  refine wp_skip ?_
  refine nThen ?_
  refine forget_wp [(1, _)] ⟨rfl, trivial⟩ fun _ => ?_
  refine sreg ?_
  refine sv (xmove rfl) ?_
  refine sv (xassign rfl) ?_
  refine sv (xassign rfl) ?_
  refine send ?_
  refine forget_wp [(8, _), (9, _)] ⟨rfl, rfl, trivial⟩ fun _ => ?_
  refine wp_ret ?_
  refine rp2 rfl rfl rfl ?_
  rw [pb_rest (by omega), bodyL_simp.2.2.2.1 hk]
  exact app_ofC r37 (by simp [be16_length]; omega) (by simp [bvs_app, n16]) hf (by omega) (by omega) hC
set_option maxHeartbeats 4000000 in
set_option maxRecDepth 100000 in
theorem c189 {w : World} {v : Value} {g gm n start pos : Nat} {bs : List UInt8} {cm : Option Nat} {C : Option Ent} (hR : BR w v g n bs) (hg : g < w.heap.size) {bo o : Nat} (hbo : bo < w.heap.size) (hbg : bo ≠ g) (_hbm : bo ≠ gm) {r : RecD} {vd : Value} (hk : r.kind = 13) (hN : SR w bo o [1, 1] [[.int .u16 ((typeN r).toNat : Int)], [vd]]) (hn0 : 0 < n) {U : Nat → Prop} (hU : ∀ k, U k → k < w.heap.size ∧ k ≠ g ∧ k ≠ gm) (hd : BA U w vd r.data) (hdl : r.data.length ≤ 900000) (hC : Cmp w cm C) (hm : ∀ b, cm = some b → b = gm ∧ gm ≠ g ∧ gm < w.heap.size) (hp : n = start + pos) (hl : n < 999000000)  :
    Ret PP 189 [.pointer (some ⟨bo, o, none⟩), v, .map cm, .int .i64 (start : Int)] w (AppC w g gm cm n bs (packBody C pos r).1 (packBody C pos r).2) := by
  obtain ⟨a0, c0, rfl, -⟩ := hR.form
  obtain ⟨ad0, cd0, rfl, -⟩ := id hd
  have hf : Fr (fun k => k = g ∨ k = gm) w w := Fr.refl _ _
  refine ret_of Tryz.func189 rfl rfl rfl [(0, _), (1, _), (2, _), (3, _)] rfl ?_
  refine sreg ?_
  refine sv (xassign rfl) ?_
  refine sv (xassign rfl) ?_
  refine send ?_
  refine forget_wp [(0, _), (1, _)] ⟨rfl, rfl, trivial⟩ fun _ => ?_
  refine sreg ?_
  refine sv (xmove rfl) ?_
  refine sv (xmove rfl) ?_
  refine sv (xnilc rfl) ?_
  refine sv (xfld fl231_1 rfl) ?_
  refine sv (xld on37 rfl (hN.c 1 rfl rfl)) ?_
  refine sv (xcutF sl37 sz5 rfl) ?_
  refine sc (xcall ca208 rfl) (c208 hR (by omega) hd (by omega) (by omega) (by omega)) ?_
  rintro _ w1 ⟨p16, q16, g16, rfl, r16, m2, a16, l16⟩
  have z3 := m2.size
  have hC := hC.keep m2 (fun b hb => by have hb := hm b hb; show ¬ (b = g); omega)
  have hN := hN.keep m2 (by omega) (by show ¬ (bo = g); omega)
  have hd := hd.keep (fun k hk => by have hk := hU k hk; omega) m2 (fun k hk hS => by have hk := hU k hk; have hS : k = g := hS; omega)
  have hf := hf.step m2 (fun k hk hS => by have hS : k = g := hS; show k = g ∨ k = gm; omega)
  refine sv (xassign rfl) ?_
  refine sv (xassign rfl) ?_
  refine send ?_
  refine forget_wp [(8, _), (9, _)] ⟨rfl, rfl, trivial⟩ fun _ => ?_
  refine wp_ret ?_
  refine rp2 rfl rfl rfl ?_
  rw [pb_rest (by omega), bodyL_simp.2.2.2.2.2.2 hk]
  exact app_ofC r16 rfl (by rw [bvs_app]) hf (by omega) (by omega) hC
set_option maxHeartbeats 4000000 in
set_option maxRecDepth 100000 in
theorem c176 {w : World} {v : Value} {g gm n start pos : Nat} {bs : List UInt8} {cm : Option Nat} {C : Option Ent} (hR : BR w v g n bs) (hg : g < w.heap.size) {bo o : Nat} (hbo : bo < w.heap.size) (hbg : bo ≠ g) (hbm : bo ≠ gm) {r : RecD} {vt : Value} (hk : r.kind = 7) (hN : SR w bo o [1] [[vt]]) (hn0 : 0 < n) {U : Nat → Prop} (hU : ∀ k, U k → k < w.heap.size ∧ k ≠ g ∧ k ≠ gm) (ht : LA TextEl [1] U w vt r.texts) (htl : ∀ s ∈ r.texts, s.size ≤ 255) (htn : r.texts.length ≤ 1048576) (hpl : (textsL r.texts).length ≤ 900000) (hC : Cmp w cm C) (hm : ∀ b, cm = some b → b = gm ∧ gm ≠ g ∧ gm < w.heap.size) (hp : n = start + pos) (hl : n < 999000000)  :
    Ret PP 176 [.pointer (some ⟨bo, o, none⟩), v, .map cm, .int .i64 (start : Int)] w (AppC w g gm cm n bs (packBody C pos r).1 (packBody C pos r).2) := by
  obtain ⟨a0, c0, rfl, -⟩ := hR.form
  obtain ⟨at0, ct0, rfl⟩ := ht.form
  have hf : Fr (fun k => k = g ∨ k = gm) w w := Fr.refl _ _
  refine ret_of Tryz.func176 rfl rfl rfl [(0, _), (1, _), (2, _), (3, _)] rfl ?_
  refine sreg ?_
  refine sv (xassign rfl) ?_
  refine sv (xassign rfl) ?_
  refine send ?_
  refine forget_wp [(0, _), (1, _)] ⟨rfl, rfl, trivial⟩ fun _ => ?_
  refine sreg ?_
  refine sv (xmove rfl) ?_
  refine sv (xassign rfl) ?_
  refine send ?_
  refine forget_wp [(0, _), (1, _), (10, _)] ⟨rfl, rfl, rfl, trivial⟩ fun _ => ?_
  refine wp_seq ?_
  refine sreg ?_
  refine sv (xmove rfl) ?_
  refine sv (xnilc rfl) ?_
  refine sv (xfld fl207_0 rfl) ?_
  refine sv (xld on62 rfl (hN.c 0 rfl rfl)) ?_
  refine sv (xlen sl62 rfl) ?_
  refine sv (xmove rfl) ?_
  refine send ?_
  refine forget_wp [(1, _), (10, _), (18, _), (19, _), (20, _)] ⟨rfl, rfl, rfl, rfl, rfl, trivial⟩ fun _ => ?_
  refine wp_block ?_
  refine lp [(10, _), (18, _), (19, _)] (fun (x : Nat × Value × Nat) => match x with | (k, v, gk) => [(1, v), (20, .int .i64 (k : Int))]) (fun (x : Nat × Value × Nat) wx => match x with | (k, v, gk) => Fr (fun k => k = g) w wx ∧ (k ≤ r.texts.length) ∧ (BR wx v gk (n + (textsL (r.texts.take k)).length) (bs ++ textsL (r.texts.take k))) ∧ (gk = g ∨ w.heap.size ≤ gk) ∧ (gk < wx.heap.size)) (fun (x : Nat × Value × Nat) => match x with | (k, v, gk) => r.texts.length - k) (0, _, g) ⟨rfl, rfl, rfl, rfl, rfl, trivial⟩ ⟨Fr.refl _ _, Nat.zero_le _, by simpa [textsL] using hR, .inl rfl, by omega⟩ ?_
  rintro ⟨k, v, gk⟩ _ w2 ⟨hL1, hk2, hR, hgk, hgk2⟩
  refine forget_wp [(1, _), (10, _), (18, _), (19, _), (20, _)] ⟨rfl, rfl, rfl, rfl, rfl, trivial⟩ fun _ => ?_
  have z3 := hL1.size
  have hC := hC.keep hL1 (fun b hb => by have hb := hm b hb; show ¬ (b = g); omega)
  have hN := hN.keep hL1 (by omega) (by show ¬ (bo = g); omega)
  have ht := ht.keep text_st (fun k hk => by have hk := hU k hk; omega) hL1 (fun k hk hS => by have hk := hU k hk; have hS : k = g := hS; omega)
  have hf := hf.step hL1 (fun k hk hS => by have hS : k = g := hS; show k = g ∨ k = gm; omega)
  obtain ⟨a1, c1, rfl, -⟩ := hR.form
  have htt := texts_take_le r.texts k
  refine sreg ?_
  refine svP (xlss rfl rfl) (fun hc21 => ?_) (fun hc21 => ?_)
  · skip
    refine send ?_
    refine forget_wp [(1, _), (10, _), (18, _), (19, _), (20, _), (21, _)] ⟨rfl, rfl, rfl, rfl, rfl, rfl, trivial⟩ fun _ => ?_
    refine wp_seq ?_
    refine cyes rfl ?_
    refine wp_skip ?_
    refine nThen ?_
    refine forget_wp [(1, _), (10, _), (18, _), (19, _), (20, _)] ⟨rfl, rfl, rfl, rfl, rfl, trivial⟩ fun _ => ?_
    refine wp_seq ?_
    refine wp_block ?_
    obtain ⟨t, htk⟩ := some_of_lt (by omega : k < r.texts.length)
    have hts := htl _ (List.mem_of_getElem? htk)
    have htt := texts_take_le r.texts k
    refine sreg ?_
    obtain ⟨bE22, oE22, sgE22, rfl, uE22, hsE22, heE22⟩ := LA.get ht htk
    obtain rfl := heE22
    have zE22 := hU _ uE22
    refine sv (xidx sl62 sz9 rfl rfl rfl (by omega)) ?_
    refine sv (xld on9 rfl (hsE22.c 0 rfl rfl)) ?_
    refine sv (xassign rfl) ?_
    refine send ?_
    refine forget_wp [(1, _), (10, _), (12, _), (18, _), (19, _), (20, _)] ⟨rfl, rfl, rfl, rfl, rfl, rfl, trivial⟩ fun _ => ?_
    refine sreg ?_
    refine sv (xassign rfl) ?_
    refine send ?_
    refine forget_wp [(1, _), (10, _), (12, _), (18, _), (19, _), (20, _)] ⟨rfl, rfl, rfl, rfl, rfl, rfl, trivial⟩ fun _ => ?_
    refine sreg ?_
    refine sv (xmove rfl) ?_
    refine sv (xmove rfl) ?_
    refine sc (xcall ca209 rfl) (c209 hR (by omega) (by omega) (by omega)) ?_
    rintro _ w4 ⟨_, rfl, p27, q27, g27, rfl, r27, m5, a27, l27⟩
    have z6 := m5.size
    have hC := hC.keep m5 (fun b hb => by have hb := hm b hb; show ¬ (b = gk); omega)
    have hN := hN.keep m5 (by omega) (by show ¬ (bo = gk); omega)
    have ht := ht.keep text_st (fun k hk => by have hk := hU k hk; omega) m5 (fun k hk hS => by have hk := hU k hk; have hS : k = gk := hS; omega)
    have hf := hf.step m5 (fun k hk hS => by have hS : k = gk := hS; show k = g ∨ k = gm; omega)
    have hL1 := hL1.step m5 (fun k hk hS => by have hS : k = gk := hS; show k = g; omega)
    have hsE22 := hsE22.keep m5 (by omega) (by show ¬ (bE22 = gk); omega)
    refine sv (xmove rfl) ?_
    refine sv (xextr rfl rfl) ?_
    refine sv (xextr rfl rfl) ?_
    refine sv (xassign rfl) ?_
    refine sv (xassign rfl) ?_
    refine send ?_
    refine forget_wp [(1, _), (10, _), (13, _), (18, _), (19, _), (20, _)] ⟨rfl, rfl, rfl, rfl, rfl, rfl, trivial⟩ fun _ => ?_
    refine sreg ?_
    refine sv (xmove rfl) ?_
    refine sv (xneN if89 rfl) ?_
    refine send ?_
    refine forget_wp [(1, _), (10, _), (13, _), (18, _), (19, _), (20, _), (31, _)] ⟨rfl, rfl, rfl, rfl, rfl, rfl, rfl, trivial⟩ fun _ => ?_
    refine cno rfl ?_
    refine wp_skip ?_
    refine nBlock ?_
    refine nThen ?_
    refine forget_wp [(1, _), (10, _), (18, _), (19, _), (20, _)] ⟨rfl, rfl, rfl, rfl, rfl, trivial⟩ fun _ => ?_
    refine lreg ?_
    refine sv (xadd rfl rfl (w64 (by omega) (by omega))) ?_
    refine sv (xmove rfl) ?_
    refine lend ?_
    refine nThen ?_
    refine ⟨(k + 1, _, g27), _, env_okl ⟨rfl, rfl, rfl, rfl, rfl, trivial⟩, ⟨hL1, (by omega), (by rw [texts_snoc htk]; exact br_cast r27 (by simp [textL]) (by simp [textL]; omega)), (by omega), (l27)⟩, ?_⟩
    show r.texts.length - (k + 1) < r.texts.length - k; omega
  · skip
    refine send ?_
    refine forget_wp [(1, _), (10, _), (18, _), (19, _), (20, _), (21, _)] ⟨rfl, rfl, rfl, rfl, rfl, rfl, trivial⟩ fun _ => ?_
    refine wp_seq ?_
    refine cno rfl ?_
    refine wp_exit ?_
    refine eThen ?_
    refine eThen ?_
    refine eHit ?_
    refine nThen ?_
    refine forget_wp [(1, _)] ⟨rfl, trivial⟩ fun _ => ?_
    refine sreg ?_
    refine sv (xmove rfl) ?_
    refine sv (xassign rfl) ?_
    refine sv (xassign rfl) ?_
    refine send ?_
    refine forget_wp [(8, _), (9, _)] ⟨rfl, rfl, trivial⟩ fun _ => ?_
    refine wp_ret ?_
    refine rp2 rfl rfl rfl ?_
    have e : r.texts.take k = r.texts := List.take_of_length_le (by omega)
    rw [e] at hR ⊢
    rw [pb_rest (by omega), bodyL_simp.2.2.1 hk]
    exact app_ofC hR rfl rfl hf (by omega) (by omega) hC
set_option maxHeartbeats 4000000 in
set_option maxRecDepth 100000 in
theorem c182 {w : World} {v : Value} {g gm n start pos : Nat} {bs : List UInt8} {cm : Option Nat} {C : Option Ent} (hR : BR w v g n bs) (hg : g < w.heap.size) {bo o : Nat} (hbo : bo < w.heap.size) (hbg : bo ≠ g) (hbm : bo ≠ gm) {r : RecD} {vp : Value} (hk : r.kind = 10) (hN : SR w bo o [1] [[vp]]) (hn0 : 0 < n) {U : Nat → Prop} (hU : ∀ k, U k → k < w.heap.size ∧ k ≠ g ∧ k ≠ gm) (hpr : LA PairEl lPair U w vp r.pairs) (hpd : ∀ p ∈ r.pairs, p.data.length ≤ 65535) (hpn : r.pairs.length ≤ 1048576) (hpl : (pairsL r.pairs).length ≤ 900000) (hC : Cmp w cm C) (hm : ∀ b, cm = some b → b = gm ∧ gm ≠ g ∧ gm < w.heap.size) (hp : n = start + pos) (hl : n < 999000000)  :
    Ret PP 182 [.pointer (some ⟨bo, o, none⟩), v, .map cm, .int .i64 (start : Int)] w (AppC w g gm cm n bs (packBody C pos r).1 (packBody C pos r).2) := by
  obtain ⟨a0, c0, rfl, -⟩ := hR.form
  obtain ⟨ap0, cp0, rfl⟩ := hpr.form
  have hf : Fr (fun k => k = g ∨ k = gm) w w := Fr.refl _ _
  refine ret_of Tryz.func182 rfl rfl rfl [(0, _), (1, _), (2, _), (3, _)] rfl ?_
  refine sreg ?_
  refine sv (xassign rfl) ?_
  refine sv (xassign rfl) ?_
  refine send ?_
  refine forget_wp [(0, _), (1, _)] ⟨rfl, rfl, trivial⟩ fun _ => ?_
  refine wp_seq ?_
  refine sreg ?_
  refine sv (xmove rfl) ?_
  refine sv (xnilc rfl) ?_
  refine sv (xfld fl218_0 rfl) ?_
  refine sv (xld on216 rfl (hN.c 0 rfl rfl)) ?_
  refine sv (xlen sl216 rfl) ?_
  refine sv (xmove rfl) ?_
  refine send ?_
  refine forget_wp [(1, _), (16, _), (17, _), (18, _)] ⟨rfl, rfl, rfl, rfl, trivial⟩ fun _ => ?_
  refine wp_block ?_
  refine lp [(16, _), (17, _)] (fun (x : Nat × Value × Nat) => match x with | (k, v, gk) => [(1, v), (18, .int .i64 (k : Int))]) (fun (x : Nat × Value × Nat) wx => match x with | (k, v, gk) => Fr (fun k => k = g) w wx ∧ (k ≤ r.pairs.length) ∧ (BR wx v gk (n + (pairsL (r.pairs.take k)).length) (bs ++ pairsL (r.pairs.take k))) ∧ (gk = g ∨ w.heap.size ≤ gk) ∧ (gk < wx.heap.size)) (fun (x : Nat × Value × Nat) => match x with | (k, v, gk) => r.pairs.length - k) (0, _, g) ⟨rfl, rfl, rfl, rfl, trivial⟩ ⟨Fr.refl _ _, Nat.zero_le _, by simpa [pairsL] using hR, .inl rfl, by omega⟩ ?_
  rintro ⟨k, v, gk⟩ _ w2 ⟨hL1, hk2, hR, hgk, hgk2⟩
  refine forget_wp [(1, _), (16, _), (17, _), (18, _)] ⟨rfl, rfl, rfl, rfl, trivial⟩ fun _ => ?_
  have z3 := hL1.size
  have hC := hC.keep hL1 (fun b hb => by have hb := hm b hb; show ¬ (b = g); omega)
  have hN := hN.keep hL1 (by omega) (by show ¬ (bo = g); omega)
  have hpr := hpr.keep pair_st (fun k hk => by have hk := hU k hk; omega) hL1 (fun k hk hS => by have hk := hU k hk; have hS : k = g := hS; omega)
  have hf := hf.step hL1 (fun k hk hS => by have hS : k = g := hS; show k = g ∨ k = gm; omega)
  obtain ⟨a1, c1, rfl, -⟩ := hR.form
  have htt := pairs_take_le r.pairs k
  refine sreg ?_
  refine svP (xlss rfl rfl) (fun hc19 => ?_) (fun hc19 => ?_)
  · skip
    refine send ?_
    refine forget_wp [(1, _), (16, _), (17, _), (18, _), (19, _)] ⟨rfl, rfl, rfl, rfl, rfl, trivial⟩ fun _ => ?_
    refine wp_seq ?_
    refine cyes rfl ?_
    refine wp_skip ?_
    refine nThen ?_
    refine forget_wp [(1, _), (16, _), (17, _), (18, _)] ⟨rfl, rfl, rfl, rfl, trivial⟩ fun _ => ?_
    refine wp_seq ?_
    refine wp_block ?_
    obtain ⟨p, hpk⟩ := some_of_lt (by omega : k < r.pairs.length)
    have hpz := hpd _ (List.mem_of_getElem? hpk)
    have htt := pairs_take_le r.pairs k
    refine sreg ?_
    obtain ⟨bE20, oE20, sgE20, rfl, uE20, hsE20, heE20⟩ := LA.get hpr hpk
    obtain ⟨vd, rfl, hd⟩ := heE20
    have zE20 := hU _ uE20
    obtain ⟨ad, cd, rfl, -⟩ := id hd
    refine sv (xidx sl216 sz220 rfl rfl rfl (by omega)) ?_
    refine sv (xldS (lens := [1, 1]) ro220 rfl hsE20) ?_
    refine svK (xallS (lens := [1, 1]) in220 rfl) ?_
    rintro _ w5 ⟨b11, rfl, m6, h11, e4, s4⟩
    have hC := hC.keep m6 (fun _ _ h => h)
    have hN := hN.keep m6 (by omega) (fun h => h)
    have hpr := hpr.keep pair_st (fun k hk => by have hk := hU k hk; omega) m6 (fun _ _ h => h)
    have hf := hf.step0 m6
    have hR := hR.keep m6 (fun h => h)
    have hL1 := hL1.step0 m6
    have hsE20 := hsE20.keep m6 (by omega) (fun h => h)
    have hd := hd.keep (fun k hk => by have hk := hU k hk; omega) m6 (fun _ _ h => h)
    refine suK (xstW h11 (lens' := [1, 1]) sz220 rfl rfl rfl rfl rfl) ?_
    rintro w8 ⟨m9, h11, s7⟩
    have hC := hC.keep m9 (fun b hb => by have hb := hm b hb; show ¬ (b = b11); omega)
    have hN := hN.keep m9 (by omega) (by show ¬ (bo = b11); omega)
    have hpr := hpr.keep pair_st (fun k hk => by have hk := hU k hk; omega) m9 (fun k hk hS => by have hk := hU k hk; have hS : k = b11 := hS; omega)
    have hf := hf.step m9 (fun k hk hS => by have hS : k = b11 := hS; show k = g ∨ k = gm; omega)
    have hR := hR.keep m9 (by show ¬ (gk = b11); omega)
    have hL1 := hL1.step m9 (fun k hk hS => by have hS : k = b11 := hS; show k = g; omega)
    have hsE20 := hsE20.keep m9 (by omega) (by show ¬ (bE20 = b11); omega)
    have hd := hd.keep (fun k hk => by have hk := hU k hk; omega) m9 (fun k hk hS => by have hk := hU k hk; have hS : k = b11 := hS; omega)
    refine send ?_
    refine forget_wp [(1, _), (11, _), (16, _), (17, _), (18, _)] ⟨rfl, rfl, rfl, rfl, rfl, trivial⟩ fun _ => ?_
    refine sreg ?_
    refine sv (xmove rfl) ?_
    refine sv (xfld fl220_0 rfl) ?_
    refine sv (xld on22 rfl (h11.r.c 0 rfl rfl)) ?_
    refine sc (xcall ca148 rfl) (c148 hR (by omega) (by first | omega | exact u16lt _) (by omega)) ?_
    rintro _ w10 ⟨p25, q25, g25, rfl, r25, m11, a25, l25⟩
    have z12 := m11.size
    have hC := hC.keep m11 (fun b hb => by have hb := hm b hb; show ¬ (b = gk); omega)
    have hN := hN.keep m11 (by omega) (by show ¬ (bo = gk); omega)
    have hpr := hpr.keep pair_st (fun k hk => by have hk := hU k hk; omega) m11 (fun k hk hS => by have hk := hU k hk; have hS : k = gk := hS; omega)
    have hf := hf.step m11 (fun k hk hS => by have hS : k = gk := hS; show k = g ∨ k = gm; omega)
    have hL1 := hL1.step m11 (fun k hk hS => by have hS : k = gk := hS; show k = g; omega)
    have hsE20 := hsE20.keep m11 (by omega) (by show ¬ (bE20 = gk); omega)
    have hd := hd.keep (fun k hk => by have hk := hU k hk; omega) m11 (fun k hk hS => by have hk := hU k hk; have hS : k = gk := hS; omega)
    have h11 := h11.keep m11 (by show ¬ (b11 = gk); omega)
    refine sv (xassign rfl) ?_
    refine send ?_
    refine forget_wp [(1, _), (11, _), (16, _), (17, _), (18, _)] ⟨rfl, rfl, rfl, rfl, rfl, trivial⟩ fun _ => ?_
    refine sreg ?_
    refine sv (xfld fl220_1 rfl) ?_
    refine sv (xld on37 rfl (h11.r.c 1 rfl rfl)) ?_
    refine sv (xlen sl37 rfl) ?_
    refine sv (xconv hs3 ki22 rfl (wu16n p.data.length (by omega))) ?_
    refine sv (xassign rfl) ?_
    refine send ?_
    refine forget_wp [(1, _), (11, _), (12, _), (16, _), (17, _), (18, _)] ⟨rfl, rfl, rfl, rfl, rfl, rfl, trivial⟩ fun _ => ?_
    refine sreg ?_
    refine sv (xmove rfl) ?_
    refine sv (xmove rfl) ?_
    refine sc (xcall ca148 rfl) (c148 r25 (by omega) (by first | omega | exact u16lt _) (by omega)) ?_
    rintro _ w13 ⟨p32, q32, g32, rfl, r32, m14, a32, l32⟩
    have z15 := m14.size
    have hC := hC.keep m14 (fun b hb => by have hb := hm b hb; show ¬ (b = g25); omega)
    have hN := hN.keep m14 (by omega) (by show ¬ (bo = g25); omega)
    have hpr := hpr.keep pair_st (fun k hk => by have hk := hU k hk; omega) m14 (fun k hk hS => by have hk := hU k hk; have hS : k = g25 := hS; omega)
    have hf := hf.step m14 (fun k hk hS => by have hS : k = g25 := hS; show k = g ∨ k = gm; omega)
    have hL1 := hL1.step m14 (fun k hk hS => by have hS : k = g25 := hS; show k = g; omega)
    have hsE20 := hsE20.keep m14 (by omega) (by show ¬ (bE20 = g25); omega)
    have hd := hd.keep (fun k hk => by have hk := hU k hk; omega) m14 (fun k hk hS => by have hk := hU k hk; have hS : k = g25 := hS; omega)
    have h11 := h11.keep m14 (by show ¬ (b11 = g25); omega)
    refine sv (xassign rfl) ?_
    refine send ?_
    refine forget_wp [(1, _), (11, _), (16, _), (17, _), (18, _)] ⟨rfl, rfl, rfl, rfl, rfl, trivial⟩ fun _ => ?_
    refine lreg ?_
    refine sv (xmove rfl) ?_
    refine sv (xfld fl220_1 rfl) ?_
    refine sv (xld on37 rfl (h11.r.c 1 rfl rfl)) ?_
    refine sc (xcall ca208 rfl) (c208 r32 (by omega) hd (by omega) (by omega) (by omega)) ?_
    rintro _ w16 ⟨p36, q36, g36, rfl, r36, m17, a36, l36⟩
    have z18 := m17.size
    have hC := hC.keep m17 (fun b hb => by have hb := hm b hb; show ¬ (b = g32); omega)
    have hN := hN.keep m17 (by omega) (by show ¬ (bo = g32); omega)
    have hpr := hpr.keep pair_st (fun k hk => by have hk := hU k hk; omega) m17 (fun k hk hS => by have hk := hU k hk; have hS : k = g32 := hS; omega)
    have hf := hf.step m17 (fun k hk hS => by have hS : k = g32 := hS; show k = g ∨ k = gm; omega)
    have hL1 := hL1.step m17 (fun k hk hS => by have hS : k = g32 := hS; show k = g; omega)
    have hsE20 := hsE20.keep m17 (by omega) (by show ¬ (bE20 = g32); omega)
    have hd := hd.keep (fun k hk => by have hk := hU k hk; omega) m17 (fun k hk hS => by have hk := hU k hk; have hS : k = g32 := hS; omega)
    have h11 := h11.keep m17 (by show ¬ (b11 = g32); omega)
    refine sv (xassign rfl) ?_
    refine lend ?_
    refine nBlock ?_
    refine nThen ?_
    refine forget_wp [(1, _), (16, _), (17, _), (18, _)] ⟨rfl, rfl, rfl, rfl, trivial⟩ fun _ => ?_
    refine lreg ?_
    refine sv (xadd rfl rfl (w64 (by omega) (by omega))) ?_
    refine sv (xmove rfl) ?_
    refine lend ?_
    refine nThen ?_
    refine ⟨(k + 1, _, g36), _, env_okl ⟨rfl, rfl, rfl, rfl, trivial⟩, ⟨hL1, (by omega), (by rw [pairs_snoc hpk]; exact br_cast r36 (by simp [pairL, bvs_app]) (by simp [pairL, be16_length]; omega)), (by omega), (l36)⟩, ?_⟩
    show r.pairs.length - (k + 1) < r.pairs.length - k; omega
  · skip
    refine send ?_
    refine forget_wp [(1, _), (16, _), (17, _), (18, _), (19, _)] ⟨rfl, rfl, rfl, rfl, rfl, trivial⟩ fun _ => ?_
    refine wp_seq ?_
    refine cno rfl ?_
    refine wp_exit ?_
    refine eThen ?_
    refine eThen ?_
    refine eHit ?_
    refine nThen ?_
    refine forget_wp [(1, _)] ⟨rfl, trivial⟩ fun _ => ?_
    refine sreg ?_
    refine sv (xmove rfl) ?_
    refine sv (xassign rfl) ?_
    refine sv (xassign rfl) ?_
    refine send ?_
    refine forget_wp [(8, _), (9, _)] ⟨rfl, rfl, trivial⟩ fun _ => ?_
    refine wp_ret ?_
    refine rp2 rfl rfl rfl ?_
    have e : r.pairs.take k = r.pairs := List.take_of_length_le (by omega)
    rw [e] at hR ⊢
    rw [pb_rest (by omega), bodyL_simp.2.2.2.2.1 hk]
    exact app_ofC hR rfl rfl hf (by omega) (by omega) hC
set_option maxHeartbeats 4000000 in
set_option maxRecDepth 100000 in
theorem c210 {w : World} {v : Value} {g gm n start pos : Nat} {bs : List UInt8} {cm : Option Nat} {C : Option Ent} (hR : BR w v g n bs) (hg : g < w.heap.size) {bo o : Nat} (hbo : bo < w.heap.size) (hbg : bo ≠ g) (hbm : bo ≠ gm) {r : RecD} {vp : Value} (hk : r.kind = 11 ∨ r.kind = 12) (hN : SR w bo o [1, 256, 1] [[.int .u16 ((r.n1.toNat % 65536 : Nat) : Int)], nm (bt r.host), [vp]]) (hn0 : 0 < n) (hsh : nameL (bt r.host)) {U : Nat → Prop} (hU : ∀ k, U k → k < w.heap.size ∧ k ≠ g ∧ k ≠ gm) (hpr : LA PairEl lPair U w vp r.pairs) (hasc : asc r.pairs) (hpd : ∀ p ∈ r.pairs, p.data.length ≤ 65535) (hpn : r.pairs.length ≤ 1048576) (hpl : (pairsL r.pairs).length ≤ 900000) (hC : Cmp w cm C) (hm : ∀ b, cm = some b → b = gm ∧ gm ≠ g ∧ gm < w.heap.size) (hp : n = start + pos) (hl : n < 999000000)  :
    Ret PP 210 [.pointer (some ⟨bo, o, none⟩), v, .map cm, .int .i64 (start : Int)] w (AppC w g gm cm n bs (packBody C pos r).1 (packBody C pos r).2) := by
  obtain ⟨a0, c0, rfl, -⟩ := hR.form
  obtain ⟨ap0, cp0, rfl⟩ := hpr.form
  have hf : Fr (fun k => k = g ∨ k = gm) w w := Fr.refl _ _
  refine ret_of Tryz.func210 rfl rfl rfl [(0, _), (1, _), (2, _), (3, _)] rfl ?_
  refine sreg ?_
  refine sv (xassign rfl) ?_
  refine sv (xassign rfl) ?_
  refine send ?_
  refine forget_wp [(0, _), (1, _)] ⟨rfl, rfl, trivial⟩ fun _ => ?_
  refine sreg ?_
  refine sv (xmove rfl) ?_
  refine sv (xassign rfl) ?_
  refine send ?_
  refine forget_wp [(0, _), (1, _), (10, _)] ⟨rfl, rfl, rfl, trivial⟩ fun _ => ?_
  refine sreg ?_
  refine sv (xmove rfl) ?_
  refine sv (xmove rfl) ?_
  refine sv (xnilc rfl) ?_
  refine sv (xfld fl224_0 rfl) ?_
  refine sv (xld on22 rfl (hN.c 0 rfl rfl)) ?_
  refine sc (xcall ca148 rfl) (c148 hR (by omega) (by first | omega | exact u16lt _) (by omega)) ?_
  rintro _ w1 ⟨p21, q21, g21, rfl, r21, m2, a21, l21⟩
  have z3 := m2.size
  have hC := hC.keep m2 (fun b hb => by have hb := hm b hb; show ¬ (b = g); omega)
  have hN := hN.keep m2 (by omega) (by show ¬ (bo = g); omega)
  have hpr := hpr.keep pair_st (fun k hk => by have hk := hU k hk; omega) m2 (fun k hk hS => by have hk := hU k hk; have hS : k = g := hS; omega)
  have hf := hf.step m2 (fun k hk hS => by have hS : k = g := hS; show k = g ∨ k = gm; omega)
  refine sv (xassign rfl) ?_
  refine send ?_
  refine forget_wp [(0, _), (1, _), (10, _)] ⟨rfl, rfl, rfl, trivial⟩ fun _ => ?_
  refine sreg ?_
  refine sv (xmove rfl) ?_
  refine sv (xnilc rfl) ?_
  refine sv (xfld fl224_1 rfl) ?_
  refine sv (xmove rfl) ?_
  refine sc (xcall ca149 rfl) (c149n (start := 0) (pos := n + 2) (s := bt r.host) r21 (by omega) (SR.sub hN 1 1 rfl) (by omega) (by omega) (by omega) (by omega) hsh) ?_
  rintro _ w4 ⟨_, rfl, p27, q27, g27, rfl, r27, m5, a27, l27⟩
  have z6 := m5.size
  have hC := hC.keep m5 (fun b hb => by have hb := hm b hb; show ¬ (b = g21); omega)
  have hN := hN.keep m5 (by omega) (by show ¬ (bo = g21); omega)
  have hpr := hpr.keep pair_st (fun k hk => by have hk := hU k hk; omega) m5 (fun k hk hS => by have hk := hU k hk; have hS : k = g21 := hS; omega)
  have hf := hf.step m5 (fun k hk hS => by have hS : k = g21 := hS; show k = g ∨ k = gm; omega)
  have hpl27 := wire_bound hsh
  refine sv (xmove rfl) ?_
  refine sv (xextr rfl rfl) ?_
  refine sv (xextr rfl rfl) ?_
  refine sv (xassign rfl) ?_
  refine sv (xassign rfl) ?_
  refine send ?_
  refine forget_wp [(0, _), (1, _), (10, _), (11, _)] ⟨rfl, rfl, rfl, rfl, trivial⟩ fun _ => ?_
  refine wp_seq ?_
  refine sreg ?_
  refine sv (xmove rfl) ?_
  refine sv (xneN if89 rfl) ?_
  refine send ?_
  refine forget_wp [(0, _), (1, _), (10, _), (11, _), (31, _)] ⟨rfl, rfl, rfl, rfl, rfl, trivial⟩ fun _ => ?_
  refine cno rfl ?_
  refine wp_skip ?_
  refine nThen ?_
  refine forget_wp [(0, _), (1, _), (10, _)] ⟨rfl, rfl, rfl, trivial⟩ fun _ => ?_
  refine sreg ?_
  refine sv (xassign rfl) ?_
  refine send ?_
  refine forget_wp [(0, _), (1, _), (10, _), (12, _)] ⟨rfl, rfl, rfl, rfl, trivial⟩ fun _ => ?_
  refine wp_seq ?_
  refine sreg ?_
  refine sv (xmove rfl) ?_
  refine sv (xnilc rfl) ?_
  refine sv (xfld fl224_2 rfl) ?_
  refine sv (xld on222 rfl (hN.c 2 rfl rfl)) ?_
  refine sv (xlen sl222 rfl) ?_
  refine sv (xmove rfl) ?_
  refine send ?_
  refine forget_wp [(1, _), (10, _), (12, _), (40, _), (41, _), (42, _)] ⟨rfl, rfl, rfl, rfl, rfl, rfl, trivial⟩ fun _ => ?_
  refine wp_block ?_
  refine lp [(10, _), (12, _), (40, _), (41, _)] (fun (x : Nat × Value × Nat) => match x with | (k, v, gk) => [(1, v), (42, .int .i64 (k : Int))]) (fun (x : Nat × Value × Nat) wx => match x with | (k, v, gk) => Fr (fun k => k = g27) w4 wx ∧ (k ≤ r.pairs.length) ∧ (BR wx v gk (n + 2 + (wire (bt r.host)).length + (pairsL (r.pairs.take k)).length) (bs ++ be16 r.n1.toNat ++ wire (bt r.host) ++ pairsL (r.pairs.take k))) ∧ (gk = g27 ∨ w4.heap.size ≤ gk) ∧ (gk < wx.heap.size)) (fun (x : Nat × Value × Nat) => match x with | (k, v, gk) => r.pairs.length - k) (0, _, g27) ⟨rfl, rfl, rfl, rfl, rfl, rfl, trivial⟩ ⟨Fr.refl _ _, Nat.zero_le _, br_cast r27 (by simp [bvs_app, pairsL, n16]) (by simp [pairsL]), .inl rfl, by omega⟩ ?_
  rintro ⟨k, v, gk⟩ _ w8 ⟨hL7, hk2, hR, hgk, hgk2⟩
  refine forget_wp [(1, _), (10, _), (12, _), (40, _), (41, _), (42, _)] ⟨rfl, rfl, rfl, rfl, rfl, rfl, trivial⟩ fun _ => ?_
  have z9 := hL7.size
  have hC := hC.keep hL7 (fun b hb => by have hb := hm b hb; show ¬ (b = g27); omega)
  have hN := hN.keep hL7 (by omega) (by show ¬ (bo = g27); omega)
  have hpr := hpr.keep pair_st (fun k hk => by have hk := hU k hk; omega) hL7 (fun k hk hS => by have hk := hU k hk; have hS : k = g27 := hS; omega)
  have hf := hf.step hL7 (fun k hk hS => by have hS : k = g27 := hS; show k = g ∨ k = gm; omega)
  obtain ⟨a1, c1, rfl, -⟩ := hR.form
  have htt := pairs_take_le r.pairs k
  refine sreg ?_
  refine svP (xlss rfl rfl) (fun hc43 => ?_) (fun hc43 => ?_)
  · skip
    refine send ?_
    refine forget_wp [(1, _), (10, _), (12, _), (40, _), (41, _), (42, _), (43, _)] ⟨rfl, rfl, rfl, rfl, rfl, rfl, rfl, trivial⟩ fun _ => ?_
    refine wp_seq ?_
    refine cyes rfl ?_
    refine wp_skip ?_
    refine nThen ?_
    refine forget_wp [(1, _), (10, _), (12, _), (40, _), (41, _), (42, _)] ⟨rfl, rfl, rfl, rfl, rfl, rfl, trivial⟩ fun _ => ?_
    refine wp_seq ?_
    refine wp_block ?_
    obtain ⟨p, hpk⟩ := some_of_lt (by omega : k < r.pairs.length)
    have hpz := hpd _ (List.mem_of_getElem? hpk)
    have htt := pairs_take_le r.pairs k
    have hky := asc_pos hasc hpk
    refine sreg ?_
    refine sv (xmove rfl) ?_
    obtain ⟨bE45, oE45, sgE45, rfl, uE45, hsE45, heE45⟩ := LA.get hpr hpk
    obtain ⟨vd, rfl, hd⟩ := heE45
    have zE45 := hU _ uE45
    obtain ⟨ad, cd, rfl, -⟩ := id hd
    refine sv (xidx sl222 sz291 rfl rfl rfl (by omega)) ?_
    refine sv (xldS (lens := [1, 1]) ro291 rfl hsE45) ?_
    refine svK (xallS (lens := [1, 1]) in291 rfl) ?_
    rintro _ w11 ⟨b14, rfl, m12, h14, e10, s10⟩
    have hC := hC.keep m12 (fun _ _ h => h)
    have hN := hN.keep m12 (by omega) (fun h => h)
    have hpr := hpr.keep pair_st (fun k hk => by have hk := hU k hk; omega) m12 (fun _ _ h => h)
    have hf := hf.step0 m12
    have hR := hR.keep m12 (fun h => h)
    have hL7 := hL7.step0 m12
    have hsE45 := hsE45.keep m12 (by omega) (fun h => h)
    have hd := hd.keep (fun k hk => by have hk := hU k hk; omega) m12 (fun _ _ h => h)
    refine sv (xassign rfl) ?_
    refine suK (xstW h14 (lens' := [1, 1]) sz291 rfl rfl rfl rfl rfl) ?_
    rintro w14 ⟨m15, h14, s13⟩
    have hC := hC.keep m15 (fun b hb => by have hb := hm b hb; show ¬ (b = b14); omega)
    have hN := hN.keep m15 (by omega) (by show ¬ (bo = b14); omega)
    have hpr := hpr.keep pair_st (fun k hk => by have hk := hU k hk; omega) m15 (fun k hk hS => by have hk := hU k hk; have hS : k = b14 := hS; omega)
    have hf := hf.step m15 (fun k hk hS => by have hS : k = b14 := hS; show k = g ∨ k = gm; omega)
    have hR := hR.keep m15 (by show ¬ (gk = b14); omega)
    have hL7 := hL7.step m15 (fun k hk hS => by have hS : k = b14 := hS; show k = g27; omega)
    have hsE45 := hsE45.keep m15 (by omega) (by show ¬ (bE45 = b14); omega)
    have hd := hd.keep (fun k hk => by have hk := hU k hk; omega) m15 (fun k hk hS => by have hk := hU k hk; have hS : k = b14 := hS; omega)
    refine send ?_
    refine forget_wp [(1, _), (10, _), (12, _), (13, _), (14, _), (40, _), (41, _), (42, _)] ⟨rfl, rfl, rfl, rfl, rfl, rfl, rfl, rfl, trivial⟩ fun _ => ?_
    refine wp_seq ?_
    refine sreg ?_
    refine sv (xmove rfl) ?_
    refine svP (xgtr rfl rfl) (fun hc48 => ?_) (fun hc48 => ?_)
    · skip
      refine sv (xmove rfl) ?_
      refine gyes rfl rfl rfl ?_
      refine sv (xfld fl291_0 rfl) ?_
      refine gyes rfl rfl rfl ?_
      refine sv (xld on289 rfl (h14.r.c 0 rfl rfl)) ?_
      refine gyes rfl rfl rfl ?_
      refine sv (xmove rfl) ?_
      refine gyes rfl rfl rfl ?_
      refine sv (exF (xleq rfl rfl) (by omega)) ?_
      refine sv (xpickT rfl rfl) ?_
      refine send ?_
      refine forget_wp [(1, _), (10, _), (12, _), (14, _), (40, _), (41, _), (42, _), (54, _)] ⟨rfl, rfl, rfl, rfl, rfl, rfl, rfl, rfl, trivial⟩ fun _ => ?_
      refine cno rfl ?_
      refine wp_skip ?_
      refine nThen ?_
      refine forget_wp [(1, _), (10, _), (12, _), (14, _), (40, _), (41, _), (42, _)] ⟨rfl, rfl, rfl, rfl, rfl, rfl, rfl, trivial⟩ fun _ => ?_
      refine wp_seq ?_
      refine sreg ?_
      refine sv (xfld fl291_1 rfl) ?_
      refine sv (xld on37 rfl (h14.r.c 1 rfl rfl)) ?_
      refine sv (xlen sl37 rfl) ?_
      refine sv (exF (xgtr rfl rfl) (by omega)) ?_
      refine send ?_
      refine forget_wp [(1, _), (10, _), (12, _), (14, _), (40, _), (41, _), (42, _), (63, _)] ⟨rfl, rfl, rfl, rfl, rfl, rfl, rfl, rfl, trivial⟩ fun _ => ?_
      refine cno rfl ?_
      refine wp_skip ?_
      refine nThen ?_
      refine forget_wp [(1, _), (10, _), (12, _), (14, _), (40, _), (41, _), (42, _)] ⟨rfl, rfl, rfl, rfl, rfl, rfl, rfl, trivial⟩ fun _ => ?_
      refine sreg ?_
      refine sv (xmove rfl) ?_
      refine sv (xfld fl291_0 rfl) ?_
      refine sv (xld on289 rfl (h14.r.c 0 rfl rfl)) ?_
      refine sc (xcall ca148 rfl) (c148 hR (by omega) (by first | omega | exact u16lt _) (by omega)) ?_
      rintro _ w16 ⟨p72, q72, g72, rfl, r72, m17, a72, l72⟩
      have z18 := m17.size
      have hC := hC.keep m17 (fun b hb => by have hb := hm b hb; show ¬ (b = gk); omega)
      have hN := hN.keep m17 (by omega) (by show ¬ (bo = gk); omega)
      have hpr := hpr.keep pair_st (fun k hk => by have hk := hU k hk; omega) m17 (fun k hk hS => by have hk := hU k hk; have hS : k = gk := hS; omega)
      have hf := hf.step m17 (fun k hk hS => by have hS : k = gk := hS; show k = g ∨ k = gm; omega)
      have hL7 := hL7.step m17 (fun k hk hS => by have hS : k = gk := hS; show k = g27; omega)
      have hsE45 := hsE45.keep m17 (by omega) (by show ¬ (bE45 = gk); omega)
      have hd := hd.keep (fun k hk => by have hk := hU k hk; omega) m17 (fun k hk hS => by have hk := hU k hk; have hS : k = gk := hS; omega)
      have h14 := h14.keep m17 (by show ¬ (b14 = gk); omega)
      refine sv (xassign rfl) ?_
      refine send ?_
      refine forget_wp [(1, _), (10, _), (12, _), (14, _), (40, _), (41, _), (42, _)] ⟨rfl, rfl, rfl, rfl, rfl, rfl, rfl, trivial⟩ fun _ => ?_
      refine sreg ?_
      refine sv (xmove rfl) ?_
      refine sv (xfld fl291_1 rfl) ?_
      refine sv (xld on37 rfl (h14.r.c 1 rfl rfl)) ?_
      refine sv (xlen sl37 rfl) ?_
      refine sv (xconv hs3 ki22 rfl (wu16n p.data.length (by omega))) ?_
      refine sc (xcall ca148 rfl) (c148 r72 (by omega) (by first | omega | exact u16lt _) (by omega)) ?_
      rintro _ w19 ⟨p78, q78, g78, rfl, r78, m20, a78, l78⟩
      have z21 := m20.size
      have hC := hC.keep m20 (fun b hb => by have hb := hm b hb; show ¬ (b = g72); omega)
      have hN := hN.keep m20 (by omega) (by show ¬ (bo = g72); omega)
      have hpr := hpr.keep pair_st (fun k hk => by have hk := hU k hk; omega) m20 (fun k hk hS => by have hk := hU k hk; have hS : k = g72 := hS; omega)
      have hf := hf.step m20 (fun k hk hS => by have hS : k = g72 := hS; show k = g ∨ k = gm; omega)
      have hL7 := hL7.step m20 (fun k hk hS => by have hS : k = g72 := hS; show k = g27; omega)
      have hsE45 := hsE45.keep m20 (by omega) (by show ¬ (bE45 = g72); omega)
      have hd := hd.keep (fun k hk => by have hk := hU k hk; omega) m20 (fun k hk hS => by have hk := hU k hk; have hS : k = g72 := hS; omega)
      have h14 := h14.keep m20 (by show ¬ (b14 = g72); omega)
      refine sv (xassign rfl) ?_
      refine send ?_
      refine forget_wp [(1, _), (10, _), (12, _), (14, _), (40, _), (41, _), (42, _)] ⟨rfl, rfl, rfl, rfl, rfl, rfl, rfl, trivial⟩ fun _ => ?_
      refine lreg ?_
      refine sv (xmove rfl) ?_
      refine sv (xfld fl291_1 rfl) ?_
      refine sv (xld on37 rfl (h14.r.c 1 rfl rfl)) ?_
      refine svK (xapp sl37 in5 rfl (by decide) rfl rfl r78 (hd.src sl37) (by simp only [maxLen]; omega) (by omega)) ?_
      rintro _ w22 ⟨g82, r82, m23, a82, l82⟩
      have z24 := m23.size
      have hC := hC.keep m23 (fun b hb => by have hb := hm b hb; show ¬ (b = g78); omega)
      have hN := hN.keep m23 (by omega) (by show ¬ (bo = g78); omega)
      have hpr := hpr.keep pair_st (fun k hk => by have hk := hU k hk; omega) m23 (fun k hk hS => by have hk := hU k hk; have hS : k = g78 := hS; omega)
      have hf := hf.step m23 (fun k hk hS => by have hS : k = g78 := hS; show k = g ∨ k = gm; omega)
      have hL7 := hL7.step m23 (fun k hk hS => by have hS : k = g78 := hS; show k = g27; omega)
      have hsE45 := hsE45.keep m23 (by omega) (by show ¬ (bE45 = g78); omega)
      have hd := hd.keep (fun k hk => by have hk := hU k hk; omega) m23 (fun k hk hS => by have hk := hU k hk; have hS : k = g78 := hS; omega)
      have h14 := h14.keep m23 (by show ¬ (b14 = g78); omega)
      obtain ⟨p82, q82, rfl, -⟩ := r82.form
      refine sv (xassign rfl) ?_
      refine lend ?_
      refine nBlock ?_
      refine nThen ?_
      refine forget_wp [(1, _), (10, _), (12, _), (40, _), (41, _), (42, _)] ⟨rfl, rfl, rfl, rfl, rfl, rfl, trivial⟩ fun _ => ?_
      refine lreg ?_
      refine sv (xadd rfl rfl (w64 (by omega) (by omega))) ?_
      refine sv (xmove rfl) ?_
      refine lend ?_
      refine nThen ?_
      refine ⟨(k + 1, _, g82), _, env_okl ⟨rfl, rfl, rfl, rfl, rfl, rfl, trivial⟩, ⟨hL7, (by omega), (by rw [pairs_snoc hpk]; exact br_cast r82 (by simp [pairL, bvs_app]) (by simp [pairL, be16_length]; omega)), (by omega), (l82 (by omega))⟩, ?_⟩
      show r.pairs.length - (k + 1) < r.pairs.length - k; omega
    · skip
      refine sv (xmove rfl) ?_
      refine gno rfl rfl rfl ?_
      refine gno rfl rfl rfl ?_
      refine gno rfl rfl rfl ?_
      refine gno rfl rfl rfl ?_
      refine sv (xpickF rfl rfl) ?_
      refine send ?_
      refine forget_wp [(1, _), (10, _), (12, _), (14, _), (40, _), (41, _), (42, _), (54, _)] ⟨rfl, rfl, rfl, rfl, rfl, rfl, rfl, rfl, trivial⟩ fun _ => ?_
      refine cno rfl ?_
      refine wp_skip ?_
      refine nThen ?_
      refine forget_wp [(1, _), (10, _), (12, _), (14, _), (40, _), (41, _), (42, _)] ⟨rfl, rfl, rfl, rfl, rfl, rfl, rfl, trivial⟩ fun _ => ?_
      refine wp_seq ?_
      refine sreg ?_
      refine sv (xfld fl291_1 rfl) ?_
      refine sv (xld on37 rfl (h14.r.c 1 rfl rfl)) ?_
      refine sv (xlen sl37 rfl) ?_
      refine sv (exF (xgtr rfl rfl) (by omega)) ?_
      refine send ?_
      refine forget_wp [(1, _), (10, _), (12, _), (14, _), (40, _), (41, _), (42, _), (63, _)] ⟨rfl, rfl, rfl, rfl, rfl, rfl, rfl, rfl, trivial⟩ fun _ => ?_
      refine cno rfl ?_
      refine wp_skip ?_
      refine nThen ?_
      refine forget_wp [(1, _), (10, _), (12, _), (14, _), (40, _), (41, _), (42, _)] ⟨rfl, rfl, rfl, rfl, rfl, rfl, rfl, trivial⟩ fun _ => ?_
      refine sreg ?_
      refine sv (xmove rfl) ?_
      refine sv (xfld fl291_0 rfl) ?_
      refine sv (xld on289 rfl (h14.r.c 0 rfl rfl)) ?_
      refine sc (xcall ca148 rfl) (c148 hR (by omega) (by first | omega | exact u16lt _) (by omega)) ?_
      rintro _ w25 ⟨p72, q72, g72, rfl, r72, m26, a72, l72⟩
      have z27 := m26.size
      have hC := hC.keep m26 (fun b hb => by have hb := hm b hb; show ¬ (b = gk); omega)
      have hN := hN.keep m26 (by omega) (by show ¬ (bo = gk); omega)
      have hpr := hpr.keep pair_st (fun k hk => by have hk := hU k hk; omega) m26 (fun k hk hS => by have hk := hU k hk; have hS : k = gk := hS; omega)
      have hf := hf.step m26 (fun k hk hS => by have hS : k = gk := hS; show k = g ∨ k = gm; omega)
      have hL7 := hL7.step m26 (fun k hk hS => by have hS : k = gk := hS; show k = g27; omega)
      have hsE45 := hsE45.keep m26 (by omega) (by show ¬ (bE45 = gk); omega)
      have hd := hd.keep (fun k hk => by have hk := hU k hk; omega) m26 (fun k hk hS => by have hk := hU k hk; have hS : k = gk := hS; omega)
      have h14 := h14.keep m26 (by show ¬ (b14 = gk); omega)
      refine sv (xassign rfl) ?_
      refine send ?_
      refine forget_wp [(1, _), (10, _), (12, _), (14, _), (40, _), (41, _), (42, _)] ⟨rfl, rfl, rfl, rfl, rfl, rfl, rfl, trivial⟩ fun _ => ?_
      refine sreg ?_
      refine sv (xmove rfl) ?_
      refine sv (xfld fl291_1 rfl) ?_
      refine sv (xld on37 rfl (h14.r.c 1 rfl rfl)) ?_
      refine sv (xlen sl37 rfl) ?_
      refine sv (xconv hs3 ki22 rfl (wu16n p.data.length (by omega))) ?_
      refine sc (xcall ca148 rfl) (c148 r72 (by omega) (by first | omega | exact u16lt _) (by omega)) ?_
      rintro _ w28 ⟨p78, q78, g78, rfl, r78, m29, a78, l78⟩
      have z30 := m29.size
      have hC := hC.keep m29 (fun b hb => by have hb := hm b hb; show ¬ (b = g72); omega)
      have hN := hN.keep m29 (by omega) (by show ¬ (bo = g72); omega)
      have hpr := hpr.keep pair_st (fun k hk => by have hk := hU k hk; omega) m29 (fun k hk hS => by have hk := hU k hk; have hS : k = g72 := hS; omega)
      have hf := hf.step m29 (fun k hk hS => by have hS : k = g72 := hS; show k = g ∨ k = gm; omega)
      have hL7 := hL7.step m29 (fun k hk hS => by have hS : k = g72 := hS; show k = g27; omega)
      have hsE45 := hsE45.keep m29 (by omega) (by show ¬ (bE45 = g72); omega)
      have hd := hd.keep (fun k hk => by have hk := hU k hk; omega) m29 (fun k hk hS => by have hk := hU k hk; have hS : k = g72 := hS; omega)
      have h14 := h14.keep m29 (by show ¬ (b14 = g72); omega)
      refine sv (xassign rfl) ?_
      refine send ?_
      refine forget_wp [(1, _), (10, _), (12, _), (14, _), (40, _), (41, _), (42, _)] ⟨rfl, rfl, rfl, rfl, rfl, rfl, rfl, trivial⟩ fun _ => ?_
      refine lreg ?_
      refine sv (xmove rfl) ?_
      refine sv (xfld fl291_1 rfl) ?_
      refine sv (xld on37 rfl (h14.r.c 1 rfl rfl)) ?_
      refine svK (xapp sl37 in5 rfl (by decide) rfl rfl r78 (hd.src sl37) (by simp only [maxLen]; omega) (by omega)) ?_
      rintro _ w31 ⟨g82, r82, m32, a82, l82⟩
      have z33 := m32.size
      have hC := hC.keep m32 (fun b hb => by have hb := hm b hb; show ¬ (b = g78); omega)
      have hN := hN.keep m32 (by omega) (by show ¬ (bo = g78); omega)
      have hpr := hpr.keep pair_st (fun k hk => by have hk := hU k hk; omega) m32 (fun k hk hS => by have hk := hU k hk; have hS : k = g78 := hS; omega)
      have hf := hf.step m32 (fun k hk hS => by have hS : k = g78 := hS; show k = g ∨ k = gm; omega)
      have hL7 := hL7.step m32 (fun k hk hS => by have hS : k = g78 := hS; show k = g27; omega)
      have hsE45 := hsE45.keep m32 (by omega) (by show ¬ (bE45 = g78); omega)
      have hd := hd.keep (fun k hk => by have hk := hU k hk; omega) m32 (fun k hk hS => by have hk := hU k hk; have hS : k = g78 := hS; omega)
      have h14 := h14.keep m32 (by show ¬ (b14 = g78); omega)
      obtain ⟨p82, q82, rfl, -⟩ := r82.form
      refine sv (xassign rfl) ?_
      refine lend ?_
      refine nBlock ?_
      refine nThen ?_
      refine forget_wp [(1, _), (10, _), (12, _), (40, _), (41, _), (42, _)] ⟨rfl, rfl, rfl, rfl, rfl, rfl, trivial⟩ fun _ => ?_
      refine lreg ?_
      refine sv (xadd rfl rfl (w64 (by omega) (by omega))) ?_
      refine sv (xmove rfl) ?_
      refine lend ?_
      refine nThen ?_
      refine ⟨(k + 1, _, g82), _, env_okl ⟨rfl, rfl, rfl, rfl, rfl, rfl, trivial⟩, ⟨hL7, (by omega), (by rw [pairs_snoc hpk]; exact br_cast r82 (by simp [pairL, bvs_app]) (by simp [pairL, be16_length]; omega)), (by omega), (l82 (by omega))⟩, ?_⟩
      show r.pairs.length - (k + 1) < r.pairs.length - k; omega
  · skip
    refine send ?_
    refine forget_wp [(1, _), (10, _), (12, _), (40, _), (41, _), (42, _), (43, _)] ⟨rfl, rfl, rfl, rfl, rfl, rfl, rfl, trivial⟩ fun _ => ?_
    refine wp_seq ?_
    refine cno rfl ?_
    refine wp_exit ?_
    refine eThen ?_
    refine eThen ?_
    refine eHit ?_
    refine nThen ?_
    refine forget_wp [(1, _)] ⟨rfl, trivial⟩ fun _ => ?_
    refine sreg ?_
    refine sv (xmove rfl) ?_
    refine sv (xassign rfl) ?_
    refine sv (xassign rfl) ?_
    refine send ?_
    refine forget_wp [(8, _), (9, _)] ⟨rfl, rfl, trivial⟩ fun _ => ?_
    refine wp_ret ?_
    refine rp2 rfl rfl rfl ?_
    have e : r.pairs.take k = r.pairs := List.take_of_length_le (by omega)
    rw [e] at hR ⊢
    rw [pb_rest (by omega), bodyL_simp.2.2.2.2.2.1 hk]
    exact app_ofC hR (by simp [be16_length]; omega) (by simp) hf (by omega) (by omega) hC
end Go.Proofs.YtifnodoffgfpbaaGreatDoor
