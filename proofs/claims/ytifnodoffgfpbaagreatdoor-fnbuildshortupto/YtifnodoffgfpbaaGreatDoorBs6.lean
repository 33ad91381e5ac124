/- Part 6 of the texts for a law of this seat: walks, and plain laws about messages; conditions: none. -/
import Derived.Test.YtifnodoffgfpbaaGreatDoorBs5
namespace Go.Proofs.YtifnodoffgfpbaaGreatDoor
open Go

abbrev lB : List Nat := [1, 1, 1, 1, 1, 1, 1, 1, 1, 1]
/-- the builder: its message, its section, its header's numbers, its map -/
def bSegs (v : Value) (sec x0 x1 : Nat) (c : Nat → Nat) (cm : Option Nat) : List (List Value) := [[v], [.int .u8 (sec : Int)], [.int .u16 (x0 : Int)], [.int .u16 (x1 : Int)], [.int .u16 (c 2 : Int)], [.int .u16 (c 3 : Int)], [.int .u16 (c 4 : Int)], [.int .u16 (c 5 : Int)], [.int .i64 0], [.map cm]]
def bump (c : Nat → Nat) (s : Nat) : Nat → Nat := fun i => if i = s then c i + 1 else c i
/-- the variables 0 to 4 hold errors -/
def GB (w : World) : Prop := ∀ k, k ≤ 4 → ∃ (T : TypeId) (a : Option Addr), w.cell? ⟨k, 0, none⟩ = some (.iface T (.pointer a))
theorem cell_keep {S : Nat → Prop} {w w' : World} {k : Nat} {v : Value} (h : w.cell? ⟨k, 0, none⟩ = some v) (m : Fr S w w') (hk : k < w.heap.size) (hn : ¬ S k) : w'.cell? ⟨k, 0, none⟩ = some v := by
  simp only [World.cell?] at h ⊢
  rw [m.block k hk hn]; exact h
theorem GB.keep {S : Nat → Prop} {w w' : World} (h : GB w) (hU : ∀ k, k ≤ 4 → k < w.heap.size) (m : Fr S w w') (hn : ∀ k, k ≤ 4 → ¬ S k) : GB w' := fun k hk => by
  obtain ⟨T, a, h⟩ := h k hk
  exact ⟨T, a, cell_keep h m (hU k hk) (hn k hk)⟩
/-- what a builder's method gives back -/
def BldC (w : World) (bb g gm n : Nat) (bs out : List UInt8) (sec x0 x1 : Nat) (c : Nat → Nat) (cm : Option Nat) (C' : Option Ent) (u : Value) (w' : World) : Prop :=
  ∃ a k g', u = .nilIface ∧ SB w' bb lB (bSegs (.slice a (n + out.length) k) sec x0 x1 (bump c sec) cm) ∧ BR w' (.slice a (n + out.length) k) g' (n + out.length) (bs ++ out) ∧ Cmp w' cm C' ∧ Fr (fun k => k = g ∨ k = gm ∨ k = bb) w w' ∧ (g' = g ∨ w.heap.size ≤ g') ∧ g' < w'.heap.size
theorem sb_bump {w : World} {bb : Nat} {segs segs' : List (List Value)} (h : SB w bb lB segs) (e : segs = segs') : SB w bb lB segs' := e ▸ h

set_option maxHeartbeats 4000000 in
set_option maxRecDepth 100000 in
theorem c114 {w : World} {bb sec x0 x1 : Nat} {v : Value} {c : Nat → Nat} {cm : Option Nat} (hb : SB w bb lB (bSegs v sec x0 x1 c cm)) {s : Nat} (h1 : 1 ≤ sec) (hs : sec ≤ s) :
  Ret PP 114 [.pointer (some ⟨bb, 0, none⟩), .int .u8 (s : Int)] w (fun u w' => u = .nilIface ∧ Fr0 w w') := by
 have hf : Fr (fun _ => False) w w := Fr.refl _ _
 have z_hb := hb.lt
 refine ret_of Tryz.func114 rfl rfl rfl [(0, _), (1, _)] rfl ?_
 refine sreg (sA rfl (send (fg [(0, _), (1, _)] ⟨rfl, rfl, ⟨⟩⟩ fun _ => (wp_seq (sreg (sM rfl (sN rfl (sv (xfld fl148_1 rfl) (sv (xld on122 rfl (hb.r.c 1 rfl rfl)) (sv (exF (xleq rfl rfl) (by omega)) (send (fg [(0, _), (1, _), (9, _)] ⟨rfl, rfl, rfl, ⟨⟩⟩ fun _ => (cno rfl (wp_skip (nThen (fg [(0, _), (1, _)] ⟨rfl, rfl, ⟨⟩⟩ fun _ => (wp_seq (sreg (sM rfl (sN rfl (sv (xfld fl148_1 rfl) (sv (xld on122 rfl (hb.r.c 1 rfl rfl)) (sM rfl (sv (exF (xgtr rfl rfl) (by omega)) ?_))))))))))))))))))))))))
 refine send (fg [(16, _)] ⟨rfl, ⟨⟩⟩ fun _ => (cno rfl (wp_skip (nThen (fg [] trivial fun _ => (sreg (sA rfl (send (fg [(4, _)] ⟨rfl, ⟨⟩⟩ fun _ => (wp_ret ?_))))))))))
 refine rp1 rfl rfl ?_
 exact ⟨rfl, hf⟩
set_option maxHeartbeats 4000000 in
set_option maxRecDepth 100000 in
theorem c114b {w : World} {bb sec x0 x1 : Nat} {v : Value} {c : Nat → Nat} {cm : Option Nat} (hb : SB w bb lB (bSegs v sec x0 x1 c cm)) (hG : GB w) {s : Nat} (h1 : 1 ≤ sec) (hs : s < sec) :
  Ret PP 114 [.pointer (some ⟨bb, 0, none⟩), .int .u8 (s : Int)] w (fun u w' => (∃ (T : TypeId) (a : Option Addr), u = .iface T (.pointer a)) ∧ Fr0 w w') := by
 have hf : Fr (fun _ => False) w w := Fr.refl _ _
 have z_hb := hb.lt
 refine ret_of Tryz.func114 rfl rfl rfl [(0, _), (1, _)] rfl ?_
 refine sreg (sA rfl (send (fg [(0, _), (1, _)] ⟨rfl, rfl, ⟨⟩⟩ fun _ => (wp_seq (sreg (sM rfl (sN rfl (sv (xfld fl148_1 rfl) (sv (xld on122 rfl (hb.r.c 1 rfl rfl)) (sv (exF (xleq rfl rfl) (by omega)) (send (fg [(0, _), (1, _), (9, _)] ⟨rfl, rfl, rfl, ⟨⟩⟩ fun _ => (cno rfl (wp_skip (nThen (fg [(0, _), (1, _)] ⟨rfl, rfl, ⟨⟩⟩ fun _ => (wp_seq (sreg (sM rfl (sN rfl (sv (xfld fl148_1 rfl) (sv (xld on122 rfl (hb.r.c 1 rfl rfl)) (sM rfl (sv (exT (xgtr rfl rfl) (by omega)) ?_))))))))))))))))))))))))
 refine send (fg [(16, _)] ⟨rfl, ⟨⟩⟩ fun _ => (cyes rfl (sreg ?_)))
 obtain ⟨Tg17, ag17, hgc17⟩ := hG 0 (by omega)
 refine sv (xld on89 rfl hgc17) (sA rfl (send (fg [(4, _)] ⟨rfl, ⟨⟩⟩ fun _ => (wp_ret (rThen ?_)))))
 refine rp1 rfl rfl ?_
 exact ⟨⟨_, _, rfl⟩, hf⟩
set_option maxHeartbeats 4000000 in
set_option maxRecDepth 100000 in
theorem c73 {w : World} {bb sec x0 x1 : Nat} {v : Value} {c : Nat → Nat} {cm : Option Nat} (hb : SB w bb lB (bSegs v sec x0 x1 c cm)) (h1 : 1 ≤ sec) (hs : sec ≤ 2) :
  Ret PP 73 [.pointer (some ⟨bb, 0, none⟩)] w (fun u w' => u = .nilIface ∧ SB w' bb lB (bSegs v 2 x0 x1 c cm) ∧ Fr (fun k => k = bb) w w') := by
 have hf : Fr (fun k => k = bb) w w := Fr.refl _ _
 have z_hb := hb.lt
 refine ret_of Tryz.func73 rfl rfl rfl [(0, _)] rfl ?_
 refine sreg (sA rfl (send (fg [(0, _)] ⟨rfl, ⟨⟩⟩ fun _ => (wp_seq (sreg (sM rfl ?_))))))
 refine sc (xcall ca114 rfl) (c114 (s := 2) hb h1 (by omega)) ?_
 rintro _ w1 ⟨rfl, m2⟩
 have z3 := m2.size
 have hb := hb.keep m2 id
 have hf := hf.step0 m2
 refine sA rfl (send (fg [(0, _), (3, _)] ⟨rfl, rfl, ⟨⟩⟩ fun _ => (sreg (sM rfl (sv (xneN if89 rfl) (send (fg [(0, _), (3, _), (7, _)] ⟨rfl, rfl, rfl, ⟨⟩⟩ fun _ => (cno rfl (wp_skip (nThen (fg [(0, _)] ⟨rfl, ⟨⟩⟩ fun _ => (sreg (sM rfl (sN rfl (sv (xfld fl148_1 rfl) ?_)))))))))))))))
 refine suK (xstF 1 sz122 hb rfl rfl rfl rfl rfl) ?_
 rintro w5 ⟨m6, hb, s4⟩
 have hf := hf.step m6 (fun k hk hS => by have hS : k = bb := hS; show k = bb; omega)
 refine send (fg [] trivial fun _ => (sreg (sA rfl (send (fg [(2, _)] ⟨rfl, ⟨⟩⟩ fun _ => (wp_ret ?_))))))
 refine rp1 rfl rfl ?_
 exact ⟨rfl, hb, hf⟩
set_option maxHeartbeats 4000000 in
set_option maxRecDepth 100000 in
theorem c75 {w : World} {bb sec x0 x1 : Nat} {v : Value} {c : Nat → Nat} {cm : Option Nat} (hb : SB w bb lB (bSegs v sec x0 x1 c cm)) (h1 : 1 ≤ sec) (hs : sec ≤ 3) :
  Ret PP 75 [.pointer (some ⟨bb, 0, none⟩)] w (fun u w' => u = .nilIface ∧ SB w' bb lB (bSegs v 3 x0 x1 c cm) ∧ Fr (fun k => k = bb) w w') := by
 have hf : Fr (fun k => k = bb) w w := Fr.refl _ _
 have z_hb := hb.lt
 refine ret_of Tryz.func75 rfl rfl rfl [(0, _)] rfl ?_
 refine sreg (sA rfl (send (fg [(0, _)] ⟨rfl, ⟨⟩⟩ fun _ => (wp_seq (sreg (sM rfl ?_))))))
 refine sc (xcall ca114 rfl) (c114 (s := 3) hb h1 (by omega)) ?_
 rintro _ w1 ⟨rfl, m2⟩
 have z3 := m2.size
 have hb := hb.keep m2 id
 have hf := hf.step0 m2
 refine sA rfl (send (fg [(0, _), (3, _)] ⟨rfl, rfl, ⟨⟩⟩ fun _ => (sreg (sM rfl (sv (xneN if89 rfl) (send (fg [(0, _), (3, _), (7, _)] ⟨rfl, rfl, rfl, ⟨⟩⟩ fun _ => (cno rfl (wp_skip (nThen (fg [(0, _)] ⟨rfl, ⟨⟩⟩ fun _ => (sreg (sM rfl (sN rfl (sv (xfld fl148_1 rfl) ?_)))))))))))))))
 refine suK (xstF 1 sz122 hb rfl rfl rfl rfl rfl) ?_
 rintro w5 ⟨m6, hb, s4⟩
 have hf := hf.step m6 (fun k hk hS => by have hS : k = bb := hS; show k = bb; omega)
 refine send (fg [] trivial fun _ => (sreg (sA rfl (send (fg [(2, _)] ⟨rfl, ⟨⟩⟩ fun _ => (wp_ret ?_))))))
 refine rp1 rfl rfl ?_
 exact ⟨rfl, hb, hf⟩
set_option maxHeartbeats 4000000 in
set_option maxRecDepth 100000 in
theorem c76 {w : World} {bb sec x0 x1 : Nat} {v : Value} {c : Nat → Nat} {cm : Option Nat} (hb : SB w bb lB (bSegs v sec x0 x1 c cm)) (h1 : 1 ≤ sec) (hs : sec ≤ 4) :
  Ret PP 76 [.pointer (some ⟨bb, 0, none⟩)] w (fun u w' => u = .nilIface ∧ SB w' bb lB (bSegs v 4 x0 x1 c cm) ∧ Fr (fun k => k = bb) w w') := by
 have hf : Fr (fun k => k = bb) w w := Fr.refl _ _
 have z_hb := hb.lt
 refine ret_of Tryz.func76 rfl rfl rfl [(0, _)] rfl ?_
 refine sreg (sA rfl (send (fg [(0, _)] ⟨rfl, ⟨⟩⟩ fun _ => (wp_seq (sreg (sM rfl ?_))))))
 refine sc (xcall ca114 rfl) (c114 (s := 4) hb h1 (by omega)) ?_
 rintro _ w1 ⟨rfl, m2⟩
 have z3 := m2.size
 have hb := hb.keep m2 id
 have hf := hf.step0 m2
 refine sA rfl (send (fg [(0, _), (3, _)] ⟨rfl, rfl, ⟨⟩⟩ fun _ => (sreg (sM rfl (sv (xneN if89 rfl) (send (fg [(0, _), (3, _), (7, _)] ⟨rfl, rfl, rfl, ⟨⟩⟩ fun _ => (cno rfl (wp_skip (nThen (fg [(0, _)] ⟨rfl, ⟨⟩⟩ fun _ => (sreg (sM rfl (sN rfl (sv (xfld fl148_1 rfl) ?_)))))))))))))))
 refine suK (xstF 1 sz122 hb rfl rfl rfl rfl rfl) ?_
 rintro w5 ⟨m6, hb, s4⟩
 have hf := hf.step m6 (fun k hk hS => by have hS : k = bb := hS; show k = bb; omega)
 refine send (fg [] trivial fun _ => (sreg (sA rfl (send (fg [(2, _)] ⟨rfl, ⟨⟩⟩ fun _ => (wp_ret ?_))))))
 refine rp1 rfl rfl ?_
 exact ⟨rfl, hb, hf⟩
set_option maxHeartbeats 4000000 in
set_option maxRecDepth 100000 in
theorem c77 {w : World} {bb sec x0 x1 : Nat} {v : Value} {c : Nat → Nat} {cm : Option Nat} (hb : SB w bb lB (bSegs v sec x0 x1 c cm)) (h1 : 1 ≤ sec) (hs : sec ≤ 5) :
  Ret PP 77 [.pointer (some ⟨bb, 0, none⟩)] w (fun u w' => u = .nilIface ∧ SB w' bb lB (bSegs v 5 x0 x1 c cm) ∧ Fr (fun k => k = bb) w w') := by
 have hf : Fr (fun k => k = bb) w w := Fr.refl _ _
 have z_hb := hb.lt
 refine ret_of Tryz.func77 rfl rfl rfl [(0, _)] rfl ?_
 refine sreg (sA rfl (send (fg [(0, _)] ⟨rfl, ⟨⟩⟩ fun _ => (wp_seq (sreg (sM rfl ?_))))))
 refine sc (xcall ca114 rfl) (c114 (s := 5) hb h1 (by omega)) ?_
 rintro _ w1 ⟨rfl, m2⟩
 have z3 := m2.size
 have hb := hb.keep m2 id
 have hf := hf.step0 m2
 refine sA rfl (send (fg [(0, _), (3, _)] ⟨rfl, rfl, ⟨⟩⟩ fun _ => (sreg (sM rfl (sv (xneN if89 rfl) (send (fg [(0, _), (3, _), (7, _)] ⟨rfl, rfl, rfl, ⟨⟩⟩ fun _ => (cno rfl (wp_skip (nThen (fg [(0, _)] ⟨rfl, ⟨⟩⟩ fun _ => (sreg (sM rfl (sN rfl (sv (xfld fl148_1 rfl) ?_)))))))))))))))
 refine suK (xstF 1 sz122 hb rfl rfl rfl rfl rfl) ?_
 rintro w5 ⟨m6, hb, s4⟩
 have hf := hf.step m6 (fun k hk hS => by have hS : k = bb := hS; show k = bb; omega)
 refine send (fg [] trivial fun _ => (sreg (sA rfl (send (fg [(2, _)] ⟨rfl, ⟨⟩⟩ fun _ => (wp_ret ?_))))))
 refine rp1 rfl rfl ?_
 exact ⟨rfl, hb, hf⟩
set_option maxHeartbeats 4000000 in
set_option maxRecDepth 100000 in
theorem c75b {w : World} {bb sec x0 x1 : Nat} {v : Value} {c : Nat → Nat} {cm : Option Nat} (hb : SB w bb lB (bSegs v sec x0 x1 c cm)) (hG : GB w) (hs : 3 < sec) :
  Ret PP 75 [.pointer (some ⟨bb, 0, none⟩)] w (fun u w' => (∃ (T : TypeId) (a : Option Addr), u = .iface T (.pointer a)) ∧ Fr0 w w') := by
 have hf : Fr (fun _ => False) w w := Fr.refl _ _
 have z_hb := hb.lt
 refine ret_of Tryz.func75 rfl rfl rfl [(0, _)] rfl ?_
 refine sreg (sA rfl (send (fg [(0, _)] ⟨rfl, ⟨⟩⟩ fun _ => (wp_seq (sreg (sM rfl ?_))))))
 refine sc (xcall ca114 rfl) (c114b (s := 3) hb hG (by omega) (by omega)) ?_
 rintro _ w1 ⟨⟨T5, a5, rfl⟩, m2⟩
 have z3 := m2.size
 have hf := hf.step0 m2
 refine sA rfl (send (fg [(0, _), (3, _)] ⟨rfl, rfl, ⟨⟩⟩ fun _ => (sreg (sM rfl (sv (xneI if89 rfl) (send (fg [(0, _), (3, _), (7, _)] ⟨rfl, rfl, rfl, ⟨⟩⟩ fun _ => (cyes rfl (sreg (sM rfl (sA rfl (send (fg [(2, _)] ⟨rfl, ⟨⟩⟩ fun _ => (wp_ret (rThen ?_)))))))))))))))
 refine rp1 rfl rfl ?_
 exact ⟨⟨_, _, rfl⟩, hf⟩
set_option maxHeartbeats 4000000 in
set_option maxRecDepth 100000 in
theorem c72 {w : World} {bb sec x0 x1 : Nat} {v : Value} {c : Nat → Nat} {cm : Option Nat} (hb : SB w bb lB (bSegs v sec x0 x1 c cm))  :
  Ret PP 72 [.pointer (some ⟨bb, 0, none⟩)] w (fun _ w' => ∃ b, SB w' bb lB (bSegs v sec x0 x1 c (some b)) ∧ Mp w' b [] ∧ w.heap.size ≤ b ∧ b < w'.heap.size ∧ Fr (fun k => k = bb) w w') := by
 have hf : Fr (fun k => k = bb) w w := Fr.refl _ _
 have z_hb := hb.lt
 refine ret_of Tryz.func72 rfl rfl rfl [(0, _)] rfl ?_
 refine lreg (sM rfl ?_)
 refine svK (xmkmap) ?_
 rintro _ w1 ⟨b3, rfl, m2, hP, e3, s3⟩
 have hb := hb.keep m2 id
 have hf := hf.step0 m2
 refine sN rfl (sv (xfld fl148_4 rfl) ?_)
 refine suK (xstF 9 sz146 hb rfl rfl rfl rfl rfl) ?_
 rintro w4 ⟨m5, hb, s3⟩
 have hf := hf.step m5 (fun k hk hS => by have hS : k = bb := hS; show k = bb; omega)
 have hP := hP.keep m5 (by show ¬ (b3 = bb); omega)
 refine lend ?_
 refine rp0n rfl ?_
 exact ⟨b3, hb, hP, by omega, by omega, hf⟩
set_option maxHeartbeats 4000000 in
set_option maxRecDepth 100000 in
theorem c162 {w : World} {bb sec x0 x1 : Nat} {v : Value} {c : Nat → Nat} {cm : Option Nat} (hb : SB w bb lB (bSegs v sec x0 x1 c cm)) (h3 : 3 ≤ sec) (h5 : sec ≤ 5) :
  Ret PP 162 [.pointer (some ⟨bb, 0, none⟩)] w (fun u w' => u = .nilIface ∧ Fr0 w w') := by
 have hf : Fr (fun _ => False) w w := Fr.refl _ _
 have z_hb := hb.lt
 refine ret_of Tryz.func162 rfl rfl rfl [(0, _)] rfl ?_
 refine sreg (sA rfl (send (fg [(0, _)] ⟨rfl, ⟨⟩⟩ fun _ => (wp_seq (sreg (sM rfl (sN rfl (sv (xfld fl148_1 rfl) (sv (xld on122 rfl (hb.r.c 1 rfl rfl)) (sv (exF (xlss rfl rfl) (by omega)) (send (fg [(0, _), (7, _)] ⟨rfl, rfl, ⟨⟩⟩ fun _ => (cno rfl (wp_skip (nThen (fg [(0, _)] ⟨rfl, ⟨⟩⟩ fun _ => (wp_seq (sreg (sM rfl (sN rfl (sv (xfld fl148_1 rfl) (sv (xld on122 rfl (hb.r.c 1 rfl rfl)) (sv (exF (xgtr rfl rfl) (by omega)) (send ?_))))))))))))))))))))))))
 refine fg [(13, _)] ⟨rfl, ⟨⟩⟩ fun _ => (cno rfl (wp_skip (nThen (fg [] trivial fun _ => (sreg (sA rfl (send (fg [(2, _)] ⟨rfl, ⟨⟩⟩ fun _ => (wp_ret ?_)))))))))
 refine rp1 rfl rfl ?_
 exact ⟨rfl, hf⟩
set_option maxHeartbeats 4000000 in
set_option maxRecDepth 100000 in
theorem c115 {w : World} {bb sec x0 x1 : Nat} {v : Value} {c : Nat → Nat} {cm : Option Nat} (hb : SB w bb lB (bSegs v sec x0 x1 c cm)) (hG : GB w) (hs2 : 2 ≤ sec) (hs5 : sec ≤ 5) (h5b : 5 ≤ bb) (hc : ∀ i, c i < 60000) :
  Ret PP 115 [.pointer (some ⟨bb, 0, none⟩)] w (fun u w' => u = .nilIface ∧ SB w' bb lB (bSegs v sec x0 x1 (bump c sec) cm) ∧ Fr (fun k => k = bb) w w') := by
 have hc2 := hc 2
 have hc3 := hc 3
 have hc4 := hc 4
 have hc5 := hc 5
 have hf : Fr (fun k => k = bb) w w := Fr.refl _ _
 have z_hb := hb.lt
 refine ret_of Tryz.func115 rfl rfl rfl [(0, _)] rfl ?_
 refine sreg (sA rfl (send (fg [(0, _)] ⟨rfl, ⟨⟩⟩ fun _ => (sreg (sA rfl (send (fg [(0, _), (3, _)] ⟨rfl, rfl, ⟨⟩⟩ fun _ => (sreg (sA rfl (send (fg [(0, _), (3, _), (4, _)] ⟨rfl, rfl, rfl, ⟨⟩⟩ fun _ => (wp_seq (sreg (sM rfl (sN rfl (sv (xfld fl148_1 rfl) (sv (xld on122 rfl (hb.r.c 1 rfl rfl)) (send (fg [(0, _), (3, _), (4, _), (8, _)] ⟨rfl, rfl, rfl, rfl, ⟨⟩⟩ fun _ => (wp_block (sreg ?_)))))))))))))))))))))
 refine svP (xeql rfl rfl) (fun hc10 => ?_) (fun hc10 => ?_)
 ·
  refine sA rfl (send (fg [(0, _), (3, _), (4, _), (8, _), (9, _)] ⟨rfl, rfl, rfl, rfl, rfl, ⟨⟩⟩ fun _ => (cyes rfl (sreg (sM rfl (sN rfl (sv (xfld fl148_2 rfl) (sv (xfld fl121_2 rfl) (sA rfl (send (fg [(3, _)] ⟨rfl, ⟨⟩⟩ fun _ => (lreg ?_))))))))))))
  obtain ⟨Tg15, ag15, hgc15⟩ := hG 1 (by omega)
  refine sv (xld on89 rfl hgc15) (sA rfl (lend (nBlock (nThen (fg [(3, _), (4, _)] ⟨rfl, rfl, ⟨⟩⟩ fun _ => (wp_seq (sreg (sM rfl (sN rfl (sv (xld on22 rfl (hb.r.c 4 rfl rfl)) (sv (exF (xeql rfl rfl) (by omega)) (send (fg [(3, _), (4, _), (40, _)] ⟨rfl, rfl, rfl, ⟨⟩⟩ fun _ => (cno rfl (wp_skip (nThen (fg [(3, _)] ⟨rfl, ⟨⟩⟩ fun _ => (sreg (sM rfl (sN rfl (sv (xld on22 rfl (hb.r.c 4 rfl rfl)) (sv (xadd rfl rfl (wu16 (by omega) (by omega))) (sN rfl ?_)))))))))))))))))))))))
  refine suK (xstF 4 sz22 hb rfl rfl rfl rfl rfl) ?_
  rintro w2 ⟨m3, hb, s1⟩
  have hG := hG.keep (fun k hk => by omega) m3 (fun k hk hS => by have hk := hk; have hS : k = bb := hS; omega)
  have hf := hf.step m3 (fun k hk hS => by have hS : k = bb := hS; show k = bb; omega)
  refine send (fg [] trivial fun _ => (sreg (sA rfl (send (fg [(2, _)] ⟨rfl, ⟨⟩⟩ fun _ => (wp_ret ?_))))))
  refine rp1 rfl rfl ?_
  have hs9 : sec = 2 := by omega
  subst hs9
  exact ⟨rfl, sb_bump hb (by simp [bSegs, bump]), hf⟩
 ·
  refine sA rfl (send (fg [(0, _), (3, _), (4, _), (8, _), (9, _)] ⟨rfl, rfl, rfl, rfl, rfl, ⟨⟩⟩ fun _ => (cno rfl (sreg ?_))))
  refine svP (xeql rfl rfl) (fun hc17 => ?_) (fun hc17 => ?_)
  ·
   refine sA rfl (send (fg [(0, _), (3, _), (4, _), (8, _), (16, _)] ⟨rfl, rfl, rfl, rfl, rfl, ⟨⟩⟩ fun _ => (cyes rfl (sreg (sM rfl (sN rfl (sv (xfld fl148_2 rfl) (sv (xfld fl121_3 rfl) (sA rfl (send (fg [(3, _)] ⟨rfl, ⟨⟩⟩ fun _ => (lreg ?_))))))))))))
   obtain ⟨Tg22, ag22, hgc22⟩ := hG 2 (by omega)
   refine sv (xld on89 rfl hgc22) (sA rfl (lend (nBlock (nThen (fg [(3, _), (4, _)] ⟨rfl, rfl, ⟨⟩⟩ fun _ => (wp_seq (sreg (sM rfl (sN rfl (sv (xld on22 rfl (hb.r.c 5 rfl rfl)) (sv (exF (xeql rfl rfl) (by omega)) (send (fg [(3, _), (4, _), (40, _)] ⟨rfl, rfl, rfl, ⟨⟩⟩ fun _ => (cno rfl (wp_skip (nThen (fg [(3, _)] ⟨rfl, ⟨⟩⟩ fun _ => (sreg (sM rfl (sN rfl (sv (xld on22 rfl (hb.r.c 5 rfl rfl)) (sv (xadd rfl rfl (wu16 (by omega) (by omega))) (sN rfl ?_)))))))))))))))))))))))
   refine suK (xstF 5 sz22 hb rfl rfl rfl rfl rfl) ?_
   rintro w5 ⟨m6, hb, s4⟩
   have hG := hG.keep (fun k hk => by omega) m6 (fun k hk hS => by have hk := hk; have hS : k = bb := hS; omega)
   have hf := hf.step m6 (fun k hk hS => by have hS : k = bb := hS; show k = bb; omega)
   refine send (fg [] trivial fun _ => (sreg (sA rfl (send (fg [(2, _)] ⟨rfl, ⟨⟩⟩ fun _ => (wp_ret ?_))))))
   refine rp1 rfl rfl ?_
   have hs9 : sec = 3 := by omega
   subst hs9
   exact ⟨rfl, sb_bump hb (by simp [bSegs, bump]), hf⟩
  ·
   refine sA rfl (send (fg [(0, _), (3, _), (4, _), (8, _), (16, _)] ⟨rfl, rfl, rfl, rfl, rfl, ⟨⟩⟩ fun _ => (cno rfl (sreg ?_))))
   refine svP (xeql rfl rfl) (fun hc24 => ?_) (fun hc24 => ?_)
   ·
    refine sA rfl (send (fg [(0, _), (3, _), (4, _), (8, _), (23, _)] ⟨rfl, rfl, rfl, rfl, rfl, ⟨⟩⟩ fun _ => (cyes rfl (sreg (sM rfl (sN rfl (sv (xfld fl148_2 rfl) (sv (xfld fl121_4 rfl) (sA rfl (send (fg [(3, _)] ⟨rfl, ⟨⟩⟩ fun _ => (lreg ?_))))))))))))
    obtain ⟨Tg29, ag29, hgc29⟩ := hG 3 (by omega)
    refine sv (xld on89 rfl hgc29) (sA rfl (lend (nBlock (nThen (fg [(3, _), (4, _)] ⟨rfl, rfl, ⟨⟩⟩ fun _ => (wp_seq (sreg (sM rfl (sN rfl (sv (xld on22 rfl (hb.r.c 6 rfl rfl)) (sv (exF (xeql rfl rfl) (by omega)) (send (fg [(3, _), (4, _), (40, _)] ⟨rfl, rfl, rfl, ⟨⟩⟩ fun _ => (cno rfl (wp_skip (nThen (fg [(3, _)] ⟨rfl, ⟨⟩⟩ fun _ => (sreg (sM rfl (sN rfl (sv (xld on22 rfl (hb.r.c 6 rfl rfl)) (sv (xadd rfl rfl (wu16 (by omega) (by omega))) (sN rfl ?_)))))))))))))))))))))))
    refine suK (xstF 6 sz22 hb rfl rfl rfl rfl rfl) ?_
    rintro w8 ⟨m9, hb, s7⟩
    have hG := hG.keep (fun k hk => by omega) m9 (fun k hk hS => by have hk := hk; have hS : k = bb := hS; omega)
    have hf := hf.step m9 (fun k hk hS => by have hS : k = bb := hS; show k = bb; omega)
    refine send (fg [] trivial fun _ => (sreg (sA rfl (send (fg [(2, _)] ⟨rfl, ⟨⟩⟩ fun _ => (wp_ret ?_))))))
    refine rp1 rfl rfl ?_
    have hs9 : sec = 4 := by omega
    subst hs9
    exact ⟨rfl, sb_bump hb (by simp [bSegs, bump]), hf⟩
   ·
    refine sA rfl (send (fg [(0, _), (3, _), (4, _), (8, _), (23, _)] ⟨rfl, rfl, rfl, rfl, rfl, ⟨⟩⟩ fun _ => (cno rfl (sreg (sv (exT (xeql rfl rfl) (by omega)) (sA rfl (send (fg [(0, _), (3, _), (4, _), (30, _)] ⟨rfl, rfl, rfl, rfl, ⟨⟩⟩ fun _ => (cyes rfl (sreg (sM rfl (sN rfl (sv (xfld fl148_2 rfl) (sv (xfld fl121_5 rfl) (sA rfl (send (fg [(3, _)] ⟨rfl, ⟨⟩⟩ fun _ => (lreg ?_))))))))))))))))))
    obtain ⟨Tg36, ag36, hgc36⟩ := hG 4 (by omega)
    refine sv (xld on89 rfl hgc36) (sA rfl (lend (nBlock (nThen (fg [(3, _), (4, _)] ⟨rfl, rfl, ⟨⟩⟩ fun _ => (wp_seq (sreg (sM rfl (sN rfl (sv (xld on22 rfl (hb.r.c 7 rfl rfl)) (sv (exF (xeql rfl rfl) (by omega)) (send (fg [(3, _), (4, _), (40, _)] ⟨rfl, rfl, rfl, ⟨⟩⟩ fun _ => (cno rfl (wp_skip (nThen (fg [(3, _)] ⟨rfl, ⟨⟩⟩ fun _ => (sreg (sM rfl (sN rfl (sv (xld on22 rfl (hb.r.c 7 rfl rfl)) (sv (xadd rfl rfl (wu16 (by omega) (by omega))) (sN rfl ?_)))))))))))))))))))))))
    refine suK (xstF 7 sz22 hb rfl rfl rfl rfl rfl) ?_
    rintro w11 ⟨m12, hb, s10⟩
    have hf := hf.step m12 (fun k hk hS => by have hS : k = bb := hS; show k = bb; omega)
    refine send (fg [] trivial fun _ => (sreg (sA rfl (send (fg [(2, _)] ⟨rfl, ⟨⟩⟩ fun _ => (wp_ret ?_))))))
    refine rp1 rfl rfl ?_
    have hs9 : sec = 5 := by omega
    subst hs9
    exact ⟨rfl, sb_bump hb (by simp [bSegs, bump]), hf⟩
set_option maxHeartbeats 4000000 in
set_option maxRecDepth 100000 in
theorem c74 {w : World} {bb g gm n sec x0 x1 : Nat} {v : Value} {bs : List UInt8} {c : Nat → Nat} {cm : Option Nat} {C : Option Ent} (hb : SB w bb lB (bSegs v sec x0 x1 c cm)) (hR : BR w v g n bs) (hC : Cmp w cm C) (hm : ∀ b, cm = some b → b = gm) (hG : GB w) (hz : 5 ≤ g ∧ g < w.heap.size ∧ 5 ≤ gm ∧ gm < w.heap.size ∧ gm ≠ g ∧ 5 ≤ bb ∧ bb ≠ g ∧ bb ≠ gm) (hn0 : 0 < n) (hl : n < 900000000) (hc : ∀ i, c i < 60000) {a : AskD} (hna : nameL (bt a.name)) (hsec : sec = 2) :
  Ret PP 74 [.pointer (some ⟨bb, 0, none⟩), ag (questSegs a)] w (BldC w bb g gm n bs (packAsk C n a).1 sec x0 x1 c cm (packAsk C n a).2) := by
 subst hsec
 have hkb := packAsk_bound hna C n
 obtain ⟨a0, c0, rfl, -⟩ := hR.form
 have hf : Fr (fun k => k = g ∨ k = gm ∨ k = bb) w w := Fr.refl _ _
 have z_hb := hb.lt
 refine ret_of Tryz.func74 rfl rfl rfl [(0, _), (1, _)] rfl ?_
 refine sreg ?_
 refine svK (xboxS (lens := [256, 1, 1]) rfl (by simp [questSegs, nm_length])) ?_
 rintro _ w2 ⟨b3, rfl, m3, h3, e1, s1⟩
 have hb := hb.keep m3 id
 have hR := hR.keep m3 id
 have hC := hC.keep m3 nF
 have hG := hG.keep (fun k hk => by omega) m3 nF
 have hf := hf.step0 m3
 refine sA rfl (send (fg [(0, _), (3, _)] ⟨rfl, rfl, ⟨⟩⟩ fun _ => (wp_seq (sreg (sM rfl (sN rfl (sv (xfld fl148_1 rfl) (sv (xld on122 rfl (hb.r.c 1 rfl rfl)) (sv (exF (xlss rfl rfl) (by omega)) (send (fg [(0, _), (3, _), (12, _)] ⟨rfl, rfl, rfl, ⟨⟩⟩ fun _ => (cno rfl (wp_skip (nThen (fg [(0, _), (3, _)] ⟨rfl, rfl, ⟨⟩⟩ fun _ => (wp_seq (sreg (sM rfl (sN rfl (sv (xfld fl148_1 rfl) (sv (xld on122 rfl (hb.r.c 1 rfl rfl)) (sv (exF (xgtr rfl rfl) (by omega)) (send (fg [(0, _), (3, _), (18, _)] ⟨rfl, rfl, rfl, ⟨⟩⟩ fun _ => ?_))))))))))))))))))))))))
 refine cno rfl (wp_skip (nThen (fg [(0, _), (3, _)] ⟨rfl, rfl, ⟨⟩⟩ fun _ => ?_)))
 refine sdrawH (Fr (fun k => k = g ∨ k = gm) w2.drew) [(0, .rd), (1, .rd), (2, .rd), (3, .rd), (4, .rd), (5, .rd), (6, .rd), (7, .rd), (8, .rd), (9, .rd), (10, .rd), (11, .rd), (12, .ld), (13, .rd), (14, .rd), (15, .rd), (16, .rd), (17, .rd)] mixed (by kernel_rfl) (fun _ _ _ _ _ h => h) ?_
 have z4 : w2.drew.heap.size = w2.heap.size := rfl
 have hb := hb.drew
 have hR := hR.keep (fd w2) id
 have hC := hC.keep (fd w2) nF
 have hG := hG.keep (fun k hk => by omega) (fd w2) nF
 have hf := hf.drew
 have h3 := h3.drew
 have zb_hb := hb
 have hS5 : Fr (fun k => k = g ∨ k = gm) w2.drew w2.drew := Fr.refl _ _
 refine qqM rfl rfl hS5 (qqN rfl rfl hS5 (hvH rfl (fun _ _ => xfld fl148_0 rfl) hS5 (hvH rfl (fun w' hS => xld on37 rfl ((zb_hb.keep hS (by show ¬ (bb = g ∨ bb = gm); omega)).r.c 0 rfl rfl)) hS5 (qqM rfl rfl hS5 (qqN rfl rfl hS5 (hvH rfl (fun _ _ => xfld fl148_4 rfl) hS5 (hvH rfl (fun w' hS => xld on146 rfl ((zb_hb.keep hS (by show ¬ (bb = g ∨ bb = gm); omega)).r.c 9 rfl rfl)) hS5 (qqM rfl rfl hS5 (qqN rfl rfl hS5 (hvH rfl (fun _ _ => xfld fl148_3 rfl) hS5 (hvH rfl (fun w' hS => xld on3 rfl ((zb_hb.keep hS (by show ¬ (bb = g ∨ bb = gm); omega)).r.c 8 rfl rfl)) hS5 ?_)))))))))))
 refine hcH rfl (xcall ca92 rfl) (c92 (gm := gm) (pos := n) (start := 0) hR (by omega) (by omega) (by omega) (by omega) h3.r hna hC (fun b hb => ⟨hm b hb, by omega, by omega⟩) (by omega) (by omega)) ?_
 rintro _ w6 ⟨p33, q33, g33, rfl, r33, m7, a33, l33, hC⟩
 have z8 := m7.size
 have hb := hb.keep m7 (by show ¬ (bb = g ∨ bb = gm); omega)
 have hG := hG.keep (fun k hk => by omega) m7 (fun k hk hS => by have hk := hk; have hS : k = g ∨ k = gm := hS; omega)
 have hf := hf.step m7 (fun k hk hS => by have hS : k = g ∨ k = gm := hS; show k = g ∨ k = gm ∨ k = bb; omega)
 have hS9 := hS5.step m7 (fun k hk hS => by have hS : k = g ∨ k = gm := hS; show k = g ∨ k = gm; omega)
 refine ⟨hS9, ?_⟩
 refine qqM rfl rfl hS9 (hvH rfl (fun _ _ => xex20 rfl) hS9 (hvH rfl (fun _ _ => xex21 rfl) hS9 (qqA rfl rfl hS9 (qqA rfl rfl hS9 (hendH (fg [(0, _), (5, _), (6, _)] ⟨rfl, rfl, rfl, ⟨⟩⟩ fun _ => (wp_seq (sreg (sM rfl (sv (xneN if89 rfl) (send (fg [(0, _), (5, _), (6, _), (37, _)] ⟨rfl, rfl, rfl, rfl, ⟨⟩⟩ fun _ => (cno rfl (wp_skip (nThen (fg [(0, _), (5, _)] ⟨rfl, rfl, ⟨⟩⟩ fun _ => (wp_seq (sreg (sM rfl ?_)))))))))))))))))))
 refine sc (xcall ca115 rfl) (c115 hb hG (by omega) (by omega) (by omega) hc) ?_
 rintro _ w10 ⟨rfl, hb, m11⟩
 have z12 := m11.size
 have hf := hf.step m11 (fun k hk hS => by have hS : k = bb := hS; show k = g ∨ k = gm ∨ k = bb; omega)
 have r33 := r33.keep m11 (by show ¬ (g33 = bb); omega)
 have hC := hC.keep m11 (fun b hb => by have hb := hm b hb; show ¬ (b = bb); omega)
 refine sA rfl (send (fg [(0, _), (5, _), (7, _)] ⟨rfl, rfl, rfl, ⟨⟩⟩ fun _ => (sreg (sM rfl (sv (xneN if89 rfl) (send (fg [(0, _), (5, _), (7, _), (42, _)] ⟨rfl, rfl, rfl, rfl, ⟨⟩⟩ fun _ => (cno rfl (wp_skip (nThen (fg [(0, _), (5, _)] ⟨rfl, rfl, ⟨⟩⟩ fun _ => (sreg (sM rfl (sM rfl (sN rfl (sv (xfld fl148_0 rfl) ?_))))))))))))))))
 refine suK (xstF 0 sz37 hb rfl rfl rfl rfl rfl) ?_
 rintro w14 ⟨m15, hb, s13⟩
 have hf := hf.step m15 (fun k hk hS => by have hS : k = bb := hS; show k = g ∨ k = gm ∨ k = bb; omega)
 have r33 := r33.keep m15 (by show ¬ (g33 = bb); omega)
 have hC := hC.keep m15 (fun b hb => by have hb := hm b hb; show ¬ (b = bb); omega)
 refine send (fg [] trivial fun _ => (sreg (sA rfl (send (fg [(4, _)] ⟨rfl, ⟨⟩⟩ fun _ => (wp_ret ?_))))))
 refine rp1 rfl rfl ?_
 exact ⟨p33, q33, g33, rfl, hb, r33, hC, hf, by omega, by omega⟩
theorem c163r {w : World} {v : Value} {r : RecD} (h : r.kind = 1) : Ret PP 163 [v] w (fun u w' => u = .int .u16 ((typeN r).toNat : Int) ∧ Fr0 w w') := by rw [typeN_of.1 h]; exact c163
theorem c165r {w : World} {v : Value} {r : RecD} (h : r.kind = 2) : Ret PP 165 [v] w (fun u w' => u = .int .u16 ((typeN r).toNat : Int) ∧ Fr0 w w') := by rw [typeN_of.2.1 h]; exact c165
theorem c167r {w : World} {v : Value} {r : RecD} (h : r.kind = 3) : Ret PP 167 [v] w (fun u w' => u = .int .u16 ((typeN r).toNat : Int) ∧ Fr0 w w') := by rw [typeN_of.2.2.1 h]; exact c167
theorem c169r {w : World} {v : Value} {r : RecD} (h : r.kind = 4) : Ret PP 169 [v] w (fun u w' => u = .int .u16 ((typeN r).toNat : Int) ∧ Fr0 w w') := by rw [typeN_of.2.2.2.1 h]; exact c169
theorem c171r {w : World} {v : Value} {r : RecD} (h : r.kind = 5) : Ret PP 171 [v] w (fun u w' => u = .int .u16 ((typeN r).toNat : Int) ∧ Fr0 w w') := by rw [typeN_of.2.2.2.2.1 h]; exact c171
theorem c173r {w : World} {v : Value} {r : RecD} (h : r.kind = 6) : Ret PP 173 [v] w (fun u w' => u = .int .u16 ((typeN r).toNat : Int) ∧ Fr0 w w') := by rw [typeN_of.2.2.2.2.2.1 h]; exact c173
theorem c175r {w : World} {v : Value} {r : RecD} (h : r.kind = 7) : Ret PP 175 [v] w (fun u w' => u = .int .u16 ((typeN r).toNat : Int) ∧ Fr0 w w') := by rw [typeN_of.2.2.2.2.2.2.1 h]; exact c175
theorem c177r {w : World} {v : Value} {r : RecD} (h : r.kind = 8) : Ret PP 177 [v] w (fun u w' => u = .int .u16 ((typeN r).toNat : Int) ∧ Fr0 w w') := by rw [typeN_of.2.2.2.2.2.2.2.1 h]; exact c177
theorem c179r {w : World} {v : Value} {r : RecD} (h : r.kind = 9) : Ret PP 179 [v] w (fun u w' => u = .int .u16 ((typeN r).toNat : Int) ∧ Fr0 w w') := by rw [typeN_of.2.2.2.2.2.2.2.2.1 h]; exact c179
theorem c181r {w : World} {v : Value} {r : RecD} (h : r.kind = 10) : Ret PP 181 [v] w (fun u w' => u = .int .u16 ((typeN r).toNat : Int) ∧ Fr0 w w') := by rw [typeN_of.2.2.2.2.2.2.2.2.2.1 h]; exact c181
theorem c184r {w : World} {v : Value} {r : RecD} (h : r.kind = 11) : Ret PP 184 [v] w (fun u w' => u = .int .u16 ((typeN r).toNat : Int) ∧ Fr0 w w') := by rw [typeN_of.2.2.2.2.2.2.2.2.2.2.1 h]; exact c184
theorem c187r {w : World} {v : Value} {r : RecD} (h : r.kind = 12) : Ret PP 187 [v] w (fun u w' => u = .int .u16 ((typeN r).toNat : Int) ∧ Fr0 w w') := by rw [typeN_of.2.2.2.2.2.2.2.2.2.2.2 h]; exact c187
set_option maxHeartbeats 4000000 in
set_option maxRecDepth 100000 in
theorem c116 {w : World} {bb g gm n sec x0 x1 : Nat} {v : Value} {bs : List UInt8} {c : Nat → Nat} {cm : Option Nat} {C : Option Ent} (hb : SB w bb lB (bSegs v sec x0 x1 c cm)) (hR : BR w v g n bs) (hC : Cmp w cm C) (hm : ∀ b, cm = some b → b = gm) (hG : GB w) (hz : 5 ≤ g ∧ g < w.heap.size ∧ 5 ≤ gm ∧ gm < w.heap.size ∧ gm ≠ g ∧ 5 ≤ bb ∧ bb ≠ g ∧ bb ≠ gm) (hn0 : 0 < n) (hl : n < 900000000) (hc : ∀ i, c i < 60000) {r : RecD} {typ : UInt16} {len : Nat} (hs3 : 3 ≤ sec) (hs5 : sec ≤ 5) (hlen : len < 65536) (hnm : NamesOk r) (hlb : (bodyL r).length < 65536) (hk : r.kind = 1)  :
  Ret PP 116 [.pointer (some ⟨bb, 0, none⟩), ag (rhSegs (bt r.name) typ r.cls r.ttl len), ag [bvs (fixedL r.data 4)]] w (BldC w bb g gm n bs (packRec C n r).1 sec x0 x1 c cm (packRec C n r).2) := by
 have hbn := BR.len hR
 obtain ⟨a0, c0, rfl, -⟩ := hR.form
 have hf : Fr (fun k => k = g ∨ k = gm ∨ k = bb) w w := Fr.refl _ _
 have z_hb := hb.lt
 refine ret_of Tryz.func116 rfl rfl rfl [(0, _), (1, _), (2, _)] rfl ?_
 refine sreg ?_
 refine svK (xboxS (lens := [256, 1, 1, 1, 1]) rfl (by simp [rhSegs, nm_length])) ?_
 rintro _ w2 ⟨b4, rfl, m3, h4, e1, s1⟩
 have hb := hb.keep m3 id
 have hR := hR.keep m3 id
 have hC := hC.keep m3 nF
 have hG := hG.keep (fun k hk => by omega) m3 nF
 have hf := hf.step0 m3
 refine svK (xboxS (lens := [4]) rfl (by simp [bvs_length, fixedL_length])) ?_
 rintro _ w5 ⟨b5, rfl, m6, h5, e4, s4⟩
 have hb := hb.keep m6 id
 have hR := hR.keep m6 id
 have hC := hC.keep m6 nF
 have hG := hG.keep (fun k hk => by omega) m6 nF
 have hf := hf.step0 m6
 have h4 := h4.keep m6 id
 refine sA rfl (send (fg [(0, _), (4, _), (5, _)] ⟨rfl, rfl, rfl, ⟨⟩⟩ fun _ => (wp_seq (sreg (sM rfl ?_)))))
 refine sc (xcall ca162 rfl) (c162 hb hs3 hs5) ?_
 rintro _ w7 ⟨rfl, m8⟩
 have z9 := m8.size
 have hb := hb.keep m8 id
 have hR := hR.keep m8 id
 have hC := hC.keep m8 nF
 have hG := hG.keep (fun k hk => by omega) m8 nF
 have hf := hf.step0 m8
 have h4 := h4.keep m8 id
 have h5 := h5.keep m8 id
 refine sA rfl (send (fg [(0, _), (4, _), (5, _), (7, _)] ⟨rfl, rfl, rfl, rfl, ⟨⟩⟩ fun _ => (sreg (sM rfl (sv (xneN if89 rfl) (send (fg [(0, _), (4, _), (5, _), (7, _), (17, _)] ⟨rfl, rfl, rfl, rfl, rfl, ⟨⟩⟩ fun _ => (cno rfl (wp_skip (nThen (fg [(0, _), (4, _), (5, _)] ⟨rfl, rfl, rfl, ⟨⟩⟩ fun _ => (sreg ?_))))))))))))
 refine sc (xcall ca163 rfl) (c163r hk) ?_
 rintro _ w10 ⟨rfl, m11⟩
 have z12 := m11.size
 have hb := hb.keep m11 id
 have hR := hR.keep m11 id
 have hC := hC.keep m11 nF
 have hG := hG.keep (fun k hk => by omega) m11 nF
 have hf := hf.step0 m11
 have h4 := h4.keep m11 id
 have h5 := h5.keep m11 id
 refine sv (xfld fl135_1 rfl) ?_
 refine suK (xstF 1 sz83 h4 rfl rfl rfl rfl rfl) ?_
 rintro w14 ⟨m15, h4, s13⟩
 have hb := hb.keep m15 (by show ¬ (bb = b4); omega)
 have hR := hR.keep m15 (by show ¬ (g = b4); omega)
 have hC := hC.keep m15 (fun b hb => by have hb := hm b hb; show ¬ (b = b4); omega)
 have hG := hG.keep (fun k hk => by omega) m15 (fun k hk hS => by have hk := hk; have hS : k = b4 := hS; omega)
 have hf := hf.step m15 (fun k hk hS => by have hS : k = b4 := hS; show k = g ∨ k = gm ∨ k = bb; omega)
 have h5 := h5.keep m15 (by show ¬ (b5 = b4); omega)
 have h4 : SB w14 b4 lRH (rhSegs (bt r.name) (typeN r) r.cls r.ttl len) := h4
 refine send (fg [(0, _), (4, _), (5, _)] ⟨rfl, rfl, rfl, ⟨⟩⟩ fun _ => ?_)
 refine sdrawH (Fr (fun k => k = g ∨ k = gm) w14.drew) [(0, .rd), (1, .rd), (2, .rd), (3, .rd), (4, .rd), (5, .rd), (6, .rd), (7, .rd), (8, .rd), (9, .rd), (10, .rd), (11, .rd), (12, .ld), (13, .rd), (14, .rd), (15, .rd), (16, .rd), (17, .rd), (18, .rd), (19, .rd)] mixed (by kernel_rfl) (fun _ _ _ _ _ h => h) ?_
 have z16 : w14.drew.heap.size = w14.heap.size := rfl
 have hb := hb.drew
 have hR := hR.keep (fd w14) id
 have hC := hC.keep (fd w14) nF
 have hG := hG.keep (fun k hk => by omega) (fd w14) nF
 have hf := hf.drew
 have h4 := h4.drew
 have h5 := h5.drew
 have zb_hb := hb
 have hS17 : Fr (fun k => k = g ∨ k = gm) w14.drew w14.drew := Fr.refl _ _
 refine qqM rfl rfl hS17 (qqN rfl rfl hS17 (hvH rfl (fun _ _ => xfld fl148_0 rfl) hS17 (hvH rfl (fun w' hS => xld on37 rfl ((zb_hb.keep hS (by show ¬ (bb = g ∨ bb = gm); omega)).r.c 0 rfl rfl)) hS17 (qqM rfl rfl hS17 (qqN rfl rfl hS17 (hvH rfl (fun _ _ => xfld fl148_4 rfl) hS17 (hvH rfl (fun w' hS => xld on146 rfl ((zb_hb.keep hS (by show ¬ (bb = g ∨ bb = gm); omega)).r.c 9 rfl rfl)) hS17 (qqM rfl rfl hS17 (qqN rfl rfl hS17 (hvH rfl (fun _ _ => xfld fl148_3 rfl) hS17 (hvH rfl (fun w' hS => xld on3 rfl ((zb_hb.keep hS (by show ¬ (bb = g ∨ bb = gm); omega)).r.c 8 rfl rfl)) hS17 ?_)))))))))))
 refine hcH rfl (xcall ca152 rfl) (c152 (gm := gm) (pos := n) (start := 0) hR (by omega) (by omega) (by omega) (by omega) h4.r hnm.1 (by omega) hC (fun b hb => ⟨hm b hb, by omega, by omega⟩) (by omega) (by omega)) ?_
 rintro _ w18 ⟨p34, q34, g34, rfl, r34, m19, a34, l34, hC⟩
 have z20 := m19.size
 have hb := hb.keep m19 (by show ¬ (bb = g ∨ bb = gm); omega)
 have hG := hG.keep (fun k hk => by omega) m19 (fun k hk hS => by have hk := hk; have hS : k = g ∨ k = gm := hS; omega)
 have hf := hf.step m19 (fun k hk hS => by have hS : k = g ∨ k = gm := hS; show k = g ∨ k = gm ∨ k = bb; omega)
 have h4 := h4.keep m19 (by show ¬ (b4 = g ∨ b4 = gm); omega)
 have h5 := h5.keep m19 (by show ¬ (b5 = g ∨ b5 = gm); omega)
 have hS21 := hS17.step m19 (fun k hk hS => by have hS : k = g ∨ k = gm := hS; show k = g ∨ k = gm; omega)
 have hpn := packName_bound (C := C) (pos := n) hnm.1
 have e39 : ((packName C n (bt r.name)).1 ++ hdTail (typeN r) r.cls r.ttl len).length = (packName C n (bt r.name)).1.length + 10 := by simp [hdTail_length]
 refine ⟨hS21, ?_⟩
 refine qqM rfl rfl hS21 (hvH rfl (fun _ _ => xex30 rfl) hS21 (hvH rfl (fun _ _ => xex31 rfl) hS21 (hvH rfl (fun _ _ => xex32 rfl) hS21 (qqA rfl rfl hS21 (qqA rfl rfl hS21 (qqA rfl rfl hS21 (hendH (fg [(0, _), (4, _), (5, _), (8, _), (9, _), (10, _)] ⟨rfl, rfl, rfl, rfl, rfl, rfl, ⟨⟩⟩ fun _ => (wp_seq (sreg (sM rfl (sv (xneN if89 rfl) (send (fg [(0, _), (4, _), (5, _), (8, _), (9, _), (10, _), (39, _)] ⟨rfl, rfl, rfl, rfl, rfl, rfl, rfl, ⟨⟩⟩ fun _ => (cno rfl (wp_skip (nThen (fg [(0, _), (4, _), (5, _), (8, _), (9, _)] ⟨rfl, rfl, rfl, rfl, rfl, ⟨⟩⟩ fun _ => (sreg (sM rfl (sv (xlen sl37 rfl) (sA rfl (send (fg [(0, _), (4, _), (5, _), (8, _), (9, _), (11, _)] ⟨rfl, rfl, rfl, rfl, rfl, rfl, ⟨⟩⟩ fun _ => ?_))))))))))))))))))))))))
 refine wp_seq ?_
 refine sdrawH (Fr (fun k => k = g34 ∨ k = gm) w18.drew) [(0, .rd), (1, .rd), (2, .rd), (3, .rd), (4, .rd), (5, .rd), (6, .rd), (7, .rd), (8, .rd), (9, .ld), (10, .rd), (11, .rd), (12, .rd), (13, .rd), (14, .rd)] mixed (by kernel_rfl) (fun _ _ _ _ _ h => h) ?_
 have z22 : w18.drew.heap.size = w18.heap.size := rfl
 have hb := hb.drew
 have hG := hG.keep (fun k hk => by omega) (fd w18) nF
 have hf := hf.drew
 have h4 := h4.drew
 have h5 := h5.drew
 have r34 := r34.keep (fd w18) id
 have hC := hC.keep (fd w18) nF
 have zb_hb := hb
 have hS23 : Fr (fun k => k = g34 ∨ k = gm) w18.drew w18.drew := Fr.refl _ _
 refine qqM rfl rfl hS23 (qqM rfl rfl hS23 (qqN rfl rfl hS23 (hvH rfl (fun _ _ => xfld fl148_4 rfl) hS23 (hvH rfl (fun w' hS => xld on146 rfl ((zb_hb.keep hS (by show ¬ (bb = g34 ∨ bb = gm); omega)).r.c 9 rfl rfl)) hS23 (qqM rfl rfl hS23 (qqN rfl rfl hS23 (hvH rfl (fun _ _ => xfld fl148_3 rfl) hS23 (hvH rfl (fun w' hS => xld on3 rfl ((zb_hb.keep hS (by show ¬ (bb = g34 ∨ bb = gm); omega)).r.c 8 rfl rfl)) hS23 ?_))))))))
 refine hcH rfl (xcall ca164 rfl) (c164 (gm := gm) (pos := (n + (packName C n (bt r.name)).1.length + 10)) (start := 0) r34 (by omega) (by omega) (by omega) (by omega) hk h5.r (by omega) hC (fun b hb => ⟨hm b hb, by omega, by omega⟩) (by omega) (by omega)) ?_
 rintro _ w24 ⟨p56, q56, g56, rfl, r56, m25, a56, l56, hC⟩
 have z26 := m25.size
 have hb := hb.keep m25 (by show ¬ (bb = g34 ∨ bb = gm); omega)
 have hG := hG.keep (fun k hk => by omega) m25 (fun k hk hS => by have hk := hk; have hS : k = g34 ∨ k = gm := hS; omega)
 have hf := hf.step m25 (fun k hk hS => by have hS : k = g34 ∨ k = gm := hS; show k = g ∨ k = gm ∨ k = bb; omega)
 have h4 := h4.keep m25 (by show ¬ (b4 = g34 ∨ b4 = gm); omega)
 have hS27 := hS23.step m25 (fun k hk hS => by have hS : k = g34 ∨ k = gm := hS; show k = g34 ∨ k = gm; omega)
 have hbl := packBody_len (C := (packName C n (bt r.name)).2) (pos := (n + (packName C n (bt r.name)).1.length + 10)) hnm hlb
 refine ⟨hS27, ?_⟩
 refine qqM rfl rfl hS27 (hvH rfl (fun _ _ => xex20 rfl) hS27 (hvH rfl (fun _ _ => xex21 rfl) hS27 (qqA rfl rfl hS27 (qqA rfl rfl hS27 (hendH (fg [(0, _), (4, _), (8, _), (9, _), (10, _), (11, _)] ⟨rfl, rfl, rfl, rfl, rfl, rfl, ⟨⟩⟩ fun _ => (sreg (sM rfl (sv (xneN if89 rfl) (send (fg [(0, _), (4, _), (8, _), (9, _), (10, _), (11, _), (60, _)] ⟨rfl, rfl, rfl, rfl, rfl, rfl, rfl, ⟨⟩⟩ fun _ => (cno rfl (wp_skip (nThen (fg [(0, _), (4, _), (8, _), (9, _), (11, _)] ⟨rfl, rfl, rfl, rfl, rfl, ⟨⟩⟩ fun _ => (wp_seq (sreg (sM rfl (sM rfl (sM rfl ?_))))))))))))))))))))
 have r56 := br_cast (bs := (bs ++ ((packName C n (bt r.name)).1 ++ (be16 (typeN r).toNat ++ (be16 r.cls.toNat ++ be32 r.ttl.toNat)))) ++ (be16 len ++ (packBody (packName C n (bt r.name)).2 (n + (packName C n (bt r.name)).1.length + 10) r).1)) r56 (by simp [hdTail]) rfl
 obtain ⟨T4, hE4⟩ := SE.ofSB h4
 refine sc (xcall ca153 rfl) (c153 (preLen := n + ((packName C n (bt r.name)).1 ++ hdTail (typeN r) r.cls r.ttl len).length) (len := len) (typ := typeN r) (cls := r.cls) (ttl := r.ttl) (s := bt r.name) (pre := []) (post := []) r56 (by omega) rfl hE4 rfl (by omega) (by simp [be16_length, be32_length]; omega) (by omega) (by omega) (by omega)) ?_
 rintro _ w28 ⟨rfl, r56, hE4b, m29⟩
 have z30 := m29.size
 have hb := hb.keep m29 (by show ¬ (bb = g56 ∨ bb = b4); omega)
 have hG := hG.keep (fun k hk => by omega) m29 (fun k hk hS => by have hk := hk; have hS : k = g56 ∨ k = b4 := hS; omega)
 have hf := hf.step m29 (fun k hk hS => by have hS : k = g56 ∨ k = b4 := hS; show k = g ∨ k = gm ∨ k = bb; omega)
 have hC := hC.keep m29 (fun b hb => by have hb := hm b hb; show ¬ (b = g56 ∨ b = b4); omega)
 have en : n + ((packName C n (bt r.name)).1 ++ hdTail (typeN r) r.cls r.ttl len).length + (packBody (packName C n (bt r.name)).2 (n + (packName C n (bt r.name)).1.length + 10) r).1.length - (n + ((packName C n (bt r.name)).1 ++ hdTail (typeN r) r.cls r.ttl len).length) = (packBody (packName C n (bt r.name)).2 (n + (packName C n (bt r.name)).1.length + 10) r).1.length := by omega
 rw [en] at r56
 refine sA rfl (send (fg [(0, _), (8, _), (12, _)] ⟨rfl, rfl, rfl, ⟨⟩⟩ fun _ => (sreg (sM rfl (sv (xneN if89 rfl) (send (fg [(0, _), (8, _), (12, _), (70, _)] ⟨rfl, rfl, rfl, rfl, ⟨⟩⟩ fun _ => (cno rfl (wp_skip (nThen (fg [(0, _), (8, _)] ⟨rfl, rfl, ⟨⟩⟩ fun _ => (wp_seq (sreg (sM rfl ?_))))))))))))))
 refine sc (xcall ca115 rfl) (c115 hb hG (by omega) (by omega) (by omega) hc) ?_
 rintro _ w31 ⟨rfl, hb, m32⟩
 have z33 := m32.size
 have hf := hf.step m32 (fun k hk hS => by have hS : k = bb := hS; show k = g ∨ k = gm ∨ k = bb; omega)
 have hC := hC.keep m32 (fun b hb => by have hb := hm b hb; show ¬ (b = bb); omega)
 have r56 := r56.keep m32 (by show ¬ (g56 = bb); omega)
 refine sA rfl (send (fg [(0, _), (8, _), (13, _)] ⟨rfl, rfl, rfl, ⟨⟩⟩ fun _ => (sreg (sM rfl (sv (xneN if89 rfl) (send (fg [(0, _), (8, _), (13, _), (75, _)] ⟨rfl, rfl, rfl, rfl, ⟨⟩⟩ fun _ => (cno rfl (wp_skip (nThen (fg [(0, _), (8, _)] ⟨rfl, rfl, ⟨⟩⟩ fun _ => (sreg (sM rfl (sM rfl (sN rfl (sv (xfld fl148_0 rfl) ?_))))))))))))))))
 refine suK (xstF 0 sz37 hb rfl rfl rfl rfl rfl) ?_
 rintro w35 ⟨m36, hb, s34⟩
 have hf := hf.step m36 (fun k hk hS => by have hS : k = bb := hS; show k = g ∨ k = gm ∨ k = bb; omega)
 have hC := hC.keep m36 (fun b hb => by have hb := hm b hb; show ¬ (b = bb); omega)
 have r56 := r56.keep m36 (by show ¬ (g56 = bb); omega)
 refine send (fg [] trivial fun _ => (sreg (sA rfl (send (fg [(6, _)] ⟨rfl, ⟨⟩⟩ fun _ => (wp_ret ?_))))))
 refine rp1 rfl rfl ?_
 have eo : n + (packRec C n r).1.length = n + ((packName C n (bt r.name)).1 ++ hdTail (typeN r) r.cls r.ttl len).length + (packBody (packName C n (bt r.name)).2 (n + (packName C n (bt r.name)).1.length + 10) r).1.length := by simp only [packRec, packTail, List.length_append, be16_length, be32_length, hdTail_length]; omega
 refine ⟨p56, q56, g56, rfl, ?_, ?_, hC, hf, by omega, by omega⟩
 · rw [eo]; exact hb
 · rw [eo]; exact br_cast r56 (by simp [packRec, packTail]) rfl
set_option maxHeartbeats 4000000 in
set_option maxRecDepth 100000 in
theorem c118 {w : World} {bb g gm n sec x0 x1 : Nat} {v : Value} {bs : List UInt8} {c : Nat → Nat} {cm : Option Nat} {C : Option Ent} (hb : SB w bb lB (bSegs v sec x0 x1 c cm)) (hR : BR w v g n bs) (hC : Cmp w cm C) (hm : ∀ b, cm = some b → b = gm) (hG : GB w) (hz : 5 ≤ g ∧ g < w.heap.size ∧ 5 ≤ gm ∧ gm < w.heap.size ∧ gm ≠ g ∧ 5 ≤ bb ∧ bb ≠ g ∧ bb ≠ gm) (hn0 : 0 < n) (hl : n < 900000000) (hc : ∀ i, c i < 60000) {r : RecD} {typ : UInt16} {len : Nat} (hs3 : 3 ≤ sec) (hs5 : sec ≤ 5) (hlen : len < 65536) (hnm : NamesOk r) (hlb : (bodyL r).length < 65536) (hk : r.kind = 2)  :
  Ret PP 118 [.pointer (some ⟨bb, 0, none⟩), ag (rhSegs (bt r.name) typ r.cls r.ttl len), ag [nm (bt r.host)]] w (BldC w bb g gm n bs (packRec C n r).1 sec x0 x1 c cm (packRec C n r).2) := by
 have hbn := BR.len hR
 obtain ⟨a0, c0, rfl, -⟩ := hR.form
 have hf : Fr (fun k => k = g ∨ k = gm ∨ k = bb) w w := Fr.refl _ _
 have z_hb := hb.lt
 refine ret_of Tryz.func118 rfl rfl rfl [(0, _), (1, _), (2, _)] rfl ?_
 refine sreg ?_
 refine svK (xboxS (lens := [256, 1, 1, 1, 1]) rfl (by simp [rhSegs, nm_length])) ?_
 rintro _ w2 ⟨b4, rfl, m3, h4, e1, s1⟩
 have hb := hb.keep m3 id
 have hR := hR.keep m3 id
 have hC := hC.keep m3 nF
 have hG := hG.keep (fun k hk => by omega) m3 nF
 have hf := hf.step0 m3
 refine svK (xboxS (lens := [256]) rfl (by simp [nm_length])) ?_
 rintro _ w5 ⟨b5, rfl, m6, h5, e4, s4⟩
 have hb := hb.keep m6 id
 have hR := hR.keep m6 id
 have hC := hC.keep m6 nF
 have hG := hG.keep (fun k hk => by omega) m6 nF
 have hf := hf.step0 m6
 have h4 := h4.keep m6 id
 refine sA rfl (send (fg [(0, _), (4, _), (5, _)] ⟨rfl, rfl, rfl, ⟨⟩⟩ fun _ => (wp_seq (sreg (sM rfl ?_)))))
 refine sc (xcall ca162 rfl) (c162 hb hs3 hs5) ?_
 rintro _ w7 ⟨rfl, m8⟩
 have z9 := m8.size
 have hb := hb.keep m8 id
 have hR := hR.keep m8 id
 have hC := hC.keep m8 nF
 have hG := hG.keep (fun k hk => by omega) m8 nF
 have hf := hf.step0 m8
 have h4 := h4.keep m8 id
 have h5 := h5.keep m8 id
 refine sA rfl (send (fg [(0, _), (4, _), (5, _), (7, _)] ⟨rfl, rfl, rfl, rfl, ⟨⟩⟩ fun _ => (sreg (sM rfl (sv (xneN if89 rfl) (send (fg [(0, _), (4, _), (5, _), (7, _), (17, _)] ⟨rfl, rfl, rfl, rfl, rfl, ⟨⟩⟩ fun _ => (cno rfl (wp_skip (nThen (fg [(0, _), (4, _), (5, _)] ⟨rfl, rfl, rfl, ⟨⟩⟩ fun _ => (sreg ?_))))))))))))
 refine sc (xcall ca165 rfl) (c165r hk) ?_
 rintro _ w10 ⟨rfl, m11⟩
 have z12 := m11.size
 have hb := hb.keep m11 id
 have hR := hR.keep m11 id
 have hC := hC.keep m11 nF
 have hG := hG.keep (fun k hk => by omega) m11 nF
 have hf := hf.step0 m11
 have h4 := h4.keep m11 id
 have h5 := h5.keep m11 id
 refine sv (xfld fl135_1 rfl) ?_
 refine suK (xstF 1 sz83 h4 rfl rfl rfl rfl rfl) ?_
 rintro w14 ⟨m15, h4, s13⟩
 have hb := hb.keep m15 (by show ¬ (bb = b4); omega)
 have hR := hR.keep m15 (by show ¬ (g = b4); omega)
 have hC := hC.keep m15 (fun b hb => by have hb := hm b hb; show ¬ (b = b4); omega)
 have hG := hG.keep (fun k hk => by omega) m15 (fun k hk hS => by have hk := hk; have hS : k = b4 := hS; omega)
 have hf := hf.step m15 (fun k hk hS => by have hS : k = b4 := hS; show k = g ∨ k = gm ∨ k = bb; omega)
 have h5 := h5.keep m15 (by show ¬ (b5 = b4); omega)
 have h4 : SB w14 b4 lRH (rhSegs (bt r.name) (typeN r) r.cls r.ttl len) := h4
 refine send (fg [(0, _), (4, _), (5, _)] ⟨rfl, rfl, rfl, ⟨⟩⟩ fun _ => ?_)
 refine sdrawH (Fr (fun k => k = g ∨ k = gm) w14.drew) [(0, .rd), (1, .rd), (2, .rd), (3, .rd), (4, .rd), (5, .rd), (6, .rd), (7, .rd), (8, .rd), (9, .rd), (10, .rd), (11, .rd), (12, .ld), (13, .rd), (14, .rd), (15, .rd), (16, .rd), (17, .rd), (18, .rd), (19, .rd)] mixed (by kernel_rfl) (fun _ _ _ _ _ h => h) ?_
 have z16 : w14.drew.heap.size = w14.heap.size := rfl
 have hb := hb.drew
 have hR := hR.keep (fd w14) id
 have hC := hC.keep (fd w14) nF
 have hG := hG.keep (fun k hk => by omega) (fd w14) nF
 have hf := hf.drew
 have h4 := h4.drew
 have h5 := h5.drew
 have zb_hb := hb
 have hS17 : Fr (fun k => k = g ∨ k = gm) w14.drew w14.drew := Fr.refl _ _
 refine qqM rfl rfl hS17 (qqN rfl rfl hS17 (hvH rfl (fun _ _ => xfld fl148_0 rfl) hS17 (hvH rfl (fun w' hS => xld on37 rfl ((zb_hb.keep hS (by show ¬ (bb = g ∨ bb = gm); omega)).r.c 0 rfl rfl)) hS17 (qqM rfl rfl hS17 (qqN rfl rfl hS17 (hvH rfl (fun _ _ => xfld fl148_4 rfl) hS17 (hvH rfl (fun w' hS => xld on146 rfl ((zb_hb.keep hS (by show ¬ (bb = g ∨ bb = gm); omega)).r.c 9 rfl rfl)) hS17 (qqM rfl rfl hS17 (qqN rfl rfl hS17 (hvH rfl (fun _ _ => xfld fl148_3 rfl) hS17 (hvH rfl (fun w' hS => xld on3 rfl ((zb_hb.keep hS (by show ¬ (bb = g ∨ bb = gm); omega)).r.c 8 rfl rfl)) hS17 ?_)))))))))))
 refine hcH rfl (xcall ca152 rfl) (c152 (gm := gm) (pos := n) (start := 0) hR (by omega) (by omega) (by omega) (by omega) h4.r hnm.1 (by omega) hC (fun b hb => ⟨hm b hb, by omega, by omega⟩) (by omega) (by omega)) ?_
 rintro _ w18 ⟨p34, q34, g34, rfl, r34, m19, a34, l34, hC⟩
 have z20 := m19.size
 have hb := hb.keep m19 (by show ¬ (bb = g ∨ bb = gm); omega)
 have hG := hG.keep (fun k hk => by omega) m19 (fun k hk hS => by have hk := hk; have hS : k = g ∨ k = gm := hS; omega)
 have hf := hf.step m19 (fun k hk hS => by have hS : k = g ∨ k = gm := hS; show k = g ∨ k = gm ∨ k = bb; omega)
 have h4 := h4.keep m19 (by show ¬ (b4 = g ∨ b4 = gm); omega)
 have h5 := h5.keep m19 (by show ¬ (b5 = g ∨ b5 = gm); omega)
 have hS21 := hS17.step m19 (fun k hk hS => by have hS : k = g ∨ k = gm := hS; show k = g ∨ k = gm; omega)
 have hpn := packName_bound (C := C) (pos := n) hnm.1
 have e39 : ((packName C n (bt r.name)).1 ++ hdTail (typeN r) r.cls r.ttl len).length = (packName C n (bt r.name)).1.length + 10 := by simp [hdTail_length]
 refine ⟨hS21, ?_⟩
 refine qqM rfl rfl hS21 (hvH rfl (fun _ _ => xex30 rfl) hS21 (hvH rfl (fun _ _ => xex31 rfl) hS21 (hvH rfl (fun _ _ => xex32 rfl) hS21 (qqA rfl rfl hS21 (qqA rfl rfl hS21 (qqA rfl rfl hS21 (hendH (fg [(0, _), (4, _), (5, _), (8, _), (9, _), (10, _)] ⟨rfl, rfl, rfl, rfl, rfl, rfl, ⟨⟩⟩ fun _ => (wp_seq (sreg (sM rfl (sv (xneN if89 rfl) (send (fg [(0, _), (4, _), (5, _), (8, _), (9, _), (10, _), (39, _)] ⟨rfl, rfl, rfl, rfl, rfl, rfl, rfl, ⟨⟩⟩ fun _ => (cno rfl (wp_skip (nThen (fg [(0, _), (4, _), (5, _), (8, _), (9, _)] ⟨rfl, rfl, rfl, rfl, rfl, ⟨⟩⟩ fun _ => (sreg (sM rfl (sv (xlen sl37 rfl) (sA rfl (send (fg [(0, _), (4, _), (5, _), (8, _), (9, _), (11, _)] ⟨rfl, rfl, rfl, rfl, rfl, rfl, ⟨⟩⟩ fun _ => ?_))))))))))))))))))))))))
 refine wp_seq ?_
 refine sdrawH (Fr (fun k => k = g34 ∨ k = gm) w18.drew) [(0, .rd), (1, .rd), (2, .rd), (3, .rd), (4, .rd), (5, .rd), (6, .rd), (7, .rd), (8, .rd), (9, .ld), (10, .rd), (11, .rd), (12, .rd), (13, .rd), (14, .rd)] mixed (by kernel_rfl) (fun _ _ _ _ _ h => h) ?_
 have z22 : w18.drew.heap.size = w18.heap.size := rfl
 have hb := hb.drew
 have hG := hG.keep (fun k hk => by omega) (fd w18) nF
 have hf := hf.drew
 have h4 := h4.drew
 have h5 := h5.drew
 have r34 := r34.keep (fd w18) id
 have hC := hC.keep (fd w18) nF
 have zb_hb := hb
 have hS23 : Fr (fun k => k = g34 ∨ k = gm) w18.drew w18.drew := Fr.refl _ _
 refine qqM rfl rfl hS23 (qqM rfl rfl hS23 (qqN rfl rfl hS23 (hvH rfl (fun _ _ => xfld fl148_4 rfl) hS23 (hvH rfl (fun w' hS => xld on146 rfl ((zb_hb.keep hS (by show ¬ (bb = g34 ∨ bb = gm); omega)).r.c 9 rfl rfl)) hS23 (qqM rfl rfl hS23 (qqN rfl rfl hS23 (hvH rfl (fun _ _ => xfld fl148_3 rfl) hS23 (hvH rfl (fun w' hS => xld on3 rfl ((zb_hb.keep hS (by show ¬ (bb = g34 ∨ bb = gm); omega)).r.c 8 rfl rfl)) hS23 ?_))))))))
 refine hcH rfl (xcall ca166 rfl) (c166 (gm := gm) (pos := (n + (packName C n (bt r.name)).1.length + 10)) (start := 0) r34 (by omega) (by omega) (by omega) (by omega) hk h5.r (by omega) (hnm.2.1 (by omega)) hC (fun b hb => ⟨hm b hb, by omega, by omega⟩) (by omega) (by omega)) ?_
 rintro _ w24 ⟨p56, q56, g56, rfl, r56, m25, a56, l56, hC⟩
 have z26 := m25.size
 have hb := hb.keep m25 (by show ¬ (bb = g34 ∨ bb = gm); omega)
 have hG := hG.keep (fun k hk => by omega) m25 (fun k hk hS => by have hk := hk; have hS : k = g34 ∨ k = gm := hS; omega)
 have hf := hf.step m25 (fun k hk hS => by have hS : k = g34 ∨ k = gm := hS; show k = g ∨ k = gm ∨ k = bb; omega)
 have h4 := h4.keep m25 (by show ¬ (b4 = g34 ∨ b4 = gm); omega)
 have hS27 := hS23.step m25 (fun k hk hS => by have hS : k = g34 ∨ k = gm := hS; show k = g34 ∨ k = gm; omega)
 have hbl := packBody_len (C := (packName C n (bt r.name)).2) (pos := (n + (packName C n (bt r.name)).1.length + 10)) hnm hlb
 refine ⟨hS27, ?_⟩
 refine qqM rfl rfl hS27 (hvH rfl (fun _ _ => xex20 rfl) hS27 (hvH rfl (fun _ _ => xex21 rfl) hS27 (qqA rfl rfl hS27 (qqA rfl rfl hS27 (hendH (fg [(0, _), (4, _), (8, _), (9, _), (10, _), (11, _)] ⟨rfl, rfl, rfl, rfl, rfl, rfl, ⟨⟩⟩ fun _ => (sreg (sM rfl (sv (xneN if89 rfl) (send (fg [(0, _), (4, _), (8, _), (9, _), (10, _), (11, _), (60, _)] ⟨rfl, rfl, rfl, rfl, rfl, rfl, rfl, ⟨⟩⟩ fun _ => (cno rfl (wp_skip (nThen (fg [(0, _), (4, _), (8, _), (9, _), (11, _)] ⟨rfl, rfl, rfl, rfl, rfl, ⟨⟩⟩ fun _ => (wp_seq (sreg (sM rfl (sM rfl (sM rfl ?_))))))))))))))))))))
 have r56 := br_cast (bs := (bs ++ ((packName C n (bt r.name)).1 ++ (be16 (typeN r).toNat ++ (be16 r.cls.toNat ++ be32 r.ttl.toNat)))) ++ (be16 len ++ (packBody (packName C n (bt r.name)).2 (n + (packName C n (bt r.name)).1.length + 10) r).1)) r56 (by simp [hdTail]) rfl
 obtain ⟨T4, hE4⟩ := SE.ofSB h4
 refine sc (xcall ca153 rfl) (c153 (preLen := n + ((packName C n (bt r.name)).1 ++ hdTail (typeN r) r.cls r.ttl len).length) (len := len) (typ := typeN r) (cls := r.cls) (ttl := r.ttl) (s := bt r.name) (pre := []) (post := []) r56 (by omega) rfl hE4 rfl (by omega) (by simp [be16_length, be32_length]; omega) (by omega) (by omega) (by omega)) ?_
 rintro _ w28 ⟨rfl, r56, hE4b, m29⟩
 have z30 := m29.size
 have hb := hb.keep m29 (by show ¬ (bb = g56 ∨ bb = b4); omega)
 have hG := hG.keep (fun k hk => by omega) m29 (fun k hk hS => by have hk := hk; have hS : k = g56 ∨ k = b4 := hS; omega)
 have hf := hf.step m29 (fun k hk hS => by have hS : k = g56 ∨ k = b4 := hS; show k = g ∨ k = gm ∨ k = bb; omega)
 have hC := hC.keep m29 (fun b hb => by have hb := hm b hb; show ¬ (b = g56 ∨ b = b4); omega)
 have en : n + ((packName C n (bt r.name)).1 ++ hdTail (typeN r) r.cls r.ttl len).length + (packBody (packName C n (bt r.name)).2 (n + (packName C n (bt r.name)).1.length + 10) r).1.length - (n + ((packName C n (bt r.name)).1 ++ hdTail (typeN r) r.cls r.ttl len).length) = (packBody (packName C n (bt r.name)).2 (n + (packName C n (bt r.name)).1.length + 10) r).1.length := by omega
 rw [en] at r56
 refine sA rfl (send (fg [(0, _), (8, _), (12, _)] ⟨rfl, rfl, rfl, ⟨⟩⟩ fun _ => (sreg (sM rfl (sv (xneN if89 rfl) (send (fg [(0, _), (8, _), (12, _), (70, _)] ⟨rfl, rfl, rfl, rfl, ⟨⟩⟩ fun _ => (cno rfl (wp_skip (nThen (fg [(0, _), (8, _)] ⟨rfl, rfl, ⟨⟩⟩ fun _ => (wp_seq (sreg (sM rfl ?_))))))))))))))
 refine sc (xcall ca115 rfl) (c115 hb hG (by omega) (by omega) (by omega) hc) ?_
 rintro _ w31 ⟨rfl, hb, m32⟩
 have z33 := m32.size
 have hf := hf.step m32 (fun k hk hS => by have hS : k = bb := hS; show k = g ∨ k = gm ∨ k = bb; omega)
 have hC := hC.keep m32 (fun b hb => by have hb := hm b hb; show ¬ (b = bb); omega)
 have r56 := r56.keep m32 (by show ¬ (g56 = bb); omega)
 refine sA rfl (send (fg [(0, _), (8, _), (13, _)] ⟨rfl, rfl, rfl, ⟨⟩⟩ fun _ => (sreg (sM rfl (sv (xneN if89 rfl) (send (fg [(0, _), (8, _), (13, _), (75, _)] ⟨rfl, rfl, rfl, rfl, ⟨⟩⟩ fun _ => (cno rfl (wp_skip (nThen (fg [(0, _), (8, _)] ⟨rfl, rfl, ⟨⟩⟩ fun _ => (sreg (sM rfl (sM rfl (sN rfl (sv (xfld fl148_0 rfl) ?_))))))))))))))))
 refine suK (xstF 0 sz37 hb rfl rfl rfl rfl rfl) ?_
 rintro w35 ⟨m36, hb, s34⟩
 have hf := hf.step m36 (fun k hk hS => by have hS : k = bb := hS; show k = g ∨ k = gm ∨ k = bb; omega)
 have hC := hC.keep m36 (fun b hb => by have hb := hm b hb; show ¬ (b = bb); omega)
 have r56 := r56.keep m36 (by show ¬ (g56 = bb); omega)
 refine send (fg [] trivial fun _ => (sreg (sA rfl (send (fg [(6, _)] ⟨rfl, ⟨⟩⟩ fun _ => (wp_ret ?_))))))
 refine rp1 rfl rfl ?_
 have eo : n + (packRec C n r).1.length = n + ((packName C n (bt r.name)).1 ++ hdTail (typeN r) r.cls r.ttl len).length + (packBody (packName C n (bt r.name)).2 (n + (packName C n (bt r.name)).1.length + 10) r).1.length := by simp only [packRec, packTail, List.length_append, be16_length, be32_length, hdTail_length]; omega
 refine ⟨p56, q56, g56, rfl, ?_, ?_, hC, hf, by omega, by omega⟩
 · rw [eo]; exact hb
 · rw [eo]; exact br_cast r56 (by simp [packRec, packTail]) rfl
set_option maxHeartbeats 4000000 in
set_option maxRecDepth 100000 in
theorem c120 {w : World} {bb g gm n sec x0 x1 : Nat} {v : Value} {bs : List UInt8} {c : Nat → Nat} {cm : Option Nat} {C : Option Ent} (hb : SB w bb lB (bSegs v sec x0 x1 c cm)) (hR : BR w v g n bs) (hC : Cmp w cm C) (hm : ∀ b, cm = some b → b = gm) (hG : GB w) (hz : 5 ≤ g ∧ g < w.heap.size ∧ 5 ≤ gm ∧ gm < w.heap.size ∧ gm ≠ g ∧ 5 ≤ bb ∧ bb ≠ g ∧ bb ≠ gm) (hn0 : 0 < n) (hl : n < 900000000) (hc : ∀ i, c i < 60000) {r : RecD} {typ : UInt16} {len : Nat} (hs3 : 3 ≤ sec) (hs5 : sec ≤ 5) (hlen : len < 65536) (hnm : NamesOk r) (hlb : (bodyL r).length < 65536) (hk : r.kind = 3)  :
  Ret PP 120 [.pointer (some ⟨bb, 0, none⟩), ag (rhSegs (bt r.name) typ r.cls r.ttl len), ag [nm (bt r.host)]] w (BldC w bb g gm n bs (packRec C n r).1 sec x0 x1 c cm (packRec C n r).2) := by
 have hbn := BR.len hR
 obtain ⟨a0, c0, rfl, -⟩ := hR.form
 have hf : Fr (fun k => k = g ∨ k = gm ∨ k = bb) w w := Fr.refl _ _
 have z_hb := hb.lt
 refine ret_of Tryz.func120 rfl rfl rfl [(0, _), (1, _), (2, _)] rfl ?_
 refine sreg ?_
 refine svK (xboxS (lens := [256, 1, 1, 1, 1]) rfl (by simp [rhSegs, nm_length])) ?_
 rintro _ w2 ⟨b4, rfl, m3, h4, e1, s1⟩
 have hb := hb.keep m3 id
 have hR := hR.keep m3 id
 have hC := hC.keep m3 nF
 have hG := hG.keep (fun k hk => by omega) m3 nF
 have hf := hf.step0 m3
 refine svK (xboxS (lens := [256]) rfl (by simp [nm_length])) ?_
 rintro _ w5 ⟨b5, rfl, m6, h5, e4, s4⟩
 have hb := hb.keep m6 id
 have hR := hR.keep m6 id
 have hC := hC.keep m6 nF
 have hG := hG.keep (fun k hk => by omega) m6 nF
 have hf := hf.step0 m6
 have h4 := h4.keep m6 id
 refine sA rfl (send (fg [(0, _), (4, _), (5, _)] ⟨rfl, rfl, rfl, ⟨⟩⟩ fun _ => (wp_seq (sreg (sM rfl ?_)))))
 refine sc (xcall ca162 rfl) (c162 hb hs3 hs5) ?_
 rintro _ w7 ⟨rfl, m8⟩
 have z9 := m8.size
 have hb := hb.keep m8 id
 have hR := hR.keep m8 id
 have hC := hC.keep m8 nF
 have hG := hG.keep (fun k hk => by omega) m8 nF
 have hf := hf.step0 m8
 have h4 := h4.keep m8 id
 have h5 := h5.keep m8 id
 refine sA rfl (send (fg [(0, _), (4, _), (5, _), (7, _)] ⟨rfl, rfl, rfl, rfl, ⟨⟩⟩ fun _ => (sreg (sM rfl (sv (xneN if89 rfl) (send (fg [(0, _), (4, _), (5, _), (7, _), (17, _)] ⟨rfl, rfl, rfl, rfl, rfl, ⟨⟩⟩ fun _ => (cno rfl (wp_skip (nThen (fg [(0, _), (4, _), (5, _)] ⟨rfl, rfl, rfl, ⟨⟩⟩ fun _ => (sreg ?_))))))))))))
 refine sc (xcall ca167 rfl) (c167r hk) ?_
 rintro _ w10 ⟨rfl, m11⟩
 have z12 := m11.size
 have hb := hb.keep m11 id
 have hR := hR.keep m11 id
 have hC := hC.keep m11 nF
 have hG := hG.keep (fun k hk => by omega) m11 nF
 have hf := hf.step0 m11
 have h4 := h4.keep m11 id
 have h5 := h5.keep m11 id
 refine sv (xfld fl135_1 rfl) ?_
 refine suK (xstF 1 sz83 h4 rfl rfl rfl rfl rfl) ?_
 rintro w14 ⟨m15, h4, s13⟩
 have hb := hb.keep m15 (by show ¬ (bb = b4); omega)
 have hR := hR.keep m15 (by show ¬ (g = b4); omega)
 have hC := hC.keep m15 (fun b hb => by have hb := hm b hb; show ¬ (b = b4); omega)
 have hG := hG.keep (fun k hk => by omega) m15 (fun k hk hS => by have hk := hk; have hS : k = b4 := hS; omega)
 have hf := hf.step m15 (fun k hk hS => by have hS : k = b4 := hS; show k = g ∨ k = gm ∨ k = bb; omega)
 have h5 := h5.keep m15 (by show ¬ (b5 = b4); omega)
 have h4 : SB w14 b4 lRH (rhSegs (bt r.name) (typeN r) r.cls r.ttl len) := h4
 refine send (fg [(0, _), (4, _), (5, _)] ⟨rfl, rfl, rfl, ⟨⟩⟩ fun _ => ?_)
 refine sdrawH (Fr (fun k => k = g ∨ k = gm) w14.drew) [(0, .rd), (1, .rd), (2, .rd), (3, .rd), (4, .rd), (5, .rd), (6, .rd), (7, .rd), (8, .rd), (9, .rd), (10, .rd), (11, .rd), (12, .ld), (13, .rd), (14, .rd), (15, .rd), (16, .rd), (17, .rd), (18, .rd), (19, .rd)] mixed (by kernel_rfl) (fun _ _ _ _ _ h => h) ?_
 have z16 : w14.drew.heap.size = w14.heap.size := rfl
 have hb := hb.drew
 have hR := hR.keep (fd w14) id
 have hC := hC.keep (fd w14) nF
 have hG := hG.keep (fun k hk => by omega) (fd w14) nF
 have hf := hf.drew
 have h4 := h4.drew
 have h5 := h5.drew
 have zb_hb := hb
 have hS17 : Fr (fun k => k = g ∨ k = gm) w14.drew w14.drew := Fr.refl _ _
 refine qqM rfl rfl hS17 (qqN rfl rfl hS17 (hvH rfl (fun _ _ => xfld fl148_0 rfl) hS17 (hvH rfl (fun w' hS => xld on37 rfl ((zb_hb.keep hS (by show ¬ (bb = g ∨ bb = gm); omega)).r.c 0 rfl rfl)) hS17 (qqM rfl rfl hS17 (qqN rfl rfl hS17 (hvH rfl (fun _ _ => xfld fl148_4 rfl) hS17 (hvH rfl (fun w' hS => xld on146 rfl ((zb_hb.keep hS (by show ¬ (bb = g ∨ bb = gm); omega)).r.c 9 rfl rfl)) hS17 (qqM rfl rfl hS17 (qqN rfl rfl hS17 (hvH rfl (fun _ _ => xfld fl148_3 rfl) hS17 (hvH rfl (fun w' hS => xld on3 rfl ((zb_hb.keep hS (by show ¬ (bb = g ∨ bb = gm); omega)).r.c 8 rfl rfl)) hS17 ?_)))))))))))
 refine hcH rfl (xcall ca152 rfl) (c152 (gm := gm) (pos := n) (start := 0) hR (by omega) (by omega) (by omega) (by omega) h4.r hnm.1 (by omega) hC (fun b hb => ⟨hm b hb, by omega, by omega⟩) (by omega) (by omega)) ?_
 rintro _ w18 ⟨p34, q34, g34, rfl, r34, m19, a34, l34, hC⟩
 have z20 := m19.size
 have hb := hb.keep m19 (by show ¬ (bb = g ∨ bb = gm); omega)
 have hG := hG.keep (fun k hk => by omega) m19 (fun k hk hS => by have hk := hk; have hS : k = g ∨ k = gm := hS; omega)
 have hf := hf.step m19 (fun k hk hS => by have hS : k = g ∨ k = gm := hS; show k = g ∨ k = gm ∨ k = bb; omega)
 have h4 := h4.keep m19 (by show ¬ (b4 = g ∨ b4 = gm); omega)
 have h5 := h5.keep m19 (by show ¬ (b5 = g ∨ b5 = gm); omega)
 have hS21 := hS17.step m19 (fun k hk hS => by have hS : k = g ∨ k = gm := hS; show k = g ∨ k = gm; omega)
 have hpn := packName_bound (C := C) (pos := n) hnm.1
 have e39 : ((packName C n (bt r.name)).1 ++ hdTail (typeN r) r.cls r.ttl len).length = (packName C n (bt r.name)).1.length + 10 := by simp [hdTail_length]
 refine ⟨hS21, ?_⟩
 refine qqM rfl rfl hS21 (hvH rfl (fun _ _ => xex30 rfl) hS21 (hvH rfl (fun _ _ => xex31 rfl) hS21 (hvH rfl (fun _ _ => xex32 rfl) hS21 (qqA rfl rfl hS21 (qqA rfl rfl hS21 (qqA rfl rfl hS21 (hendH (fg [(0, _), (4, _), (5, _), (8, _), (9, _), (10, _)] ⟨rfl, rfl, rfl, rfl, rfl, rfl, ⟨⟩⟩ fun _ => (wp_seq (sreg (sM rfl (sv (xneN if89 rfl) (send (fg [(0, _), (4, _), (5, _), (8, _), (9, _), (10, _), (39, _)] ⟨rfl, rfl, rfl, rfl, rfl, rfl, rfl, ⟨⟩⟩ fun _ => (cno rfl (wp_skip (nThen (fg [(0, _), (4, _), (5, _), (8, _), (9, _)] ⟨rfl, rfl, rfl, rfl, rfl, ⟨⟩⟩ fun _ => (sreg (sM rfl (sv (xlen sl37 rfl) (sA rfl (send (fg [(0, _), (4, _), (5, _), (8, _), (9, _), (11, _)] ⟨rfl, rfl, rfl, rfl, rfl, rfl, ⟨⟩⟩ fun _ => ?_))))))))))))))))))))))))
 refine wp_seq ?_
 refine sdrawH (Fr (fun k => k = g34 ∨ k = gm) w18.drew) [(0, .rd), (1, .rd), (2, .rd), (3, .rd), (4, .rd), (5, .rd), (6, .rd), (7, .rd), (8, .rd), (9, .ld), (10, .rd), (11, .rd), (12, .rd), (13, .rd), (14, .rd)] mixed (by kernel_rfl) (fun _ _ _ _ _ h => h) ?_
 have z22 : w18.drew.heap.size = w18.heap.size := rfl
 have hb := hb.drew
 have hG := hG.keep (fun k hk => by omega) (fd w18) nF
 have hf := hf.drew
 have h4 := h4.drew
 have h5 := h5.drew
 have r34 := r34.keep (fd w18) id
 have hC := hC.keep (fd w18) nF
 have zb_hb := hb
 have hS23 : Fr (fun k => k = g34 ∨ k = gm) w18.drew w18.drew := Fr.refl _ _
 refine qqM rfl rfl hS23 (qqM rfl rfl hS23 (qqN rfl rfl hS23 (hvH rfl (fun _ _ => xfld fl148_4 rfl) hS23 (hvH rfl (fun w' hS => xld on146 rfl ((zb_hb.keep hS (by show ¬ (bb = g34 ∨ bb = gm); omega)).r.c 9 rfl rfl)) hS23 (qqM rfl rfl hS23 (qqN rfl rfl hS23 (hvH rfl (fun _ _ => xfld fl148_3 rfl) hS23 (hvH rfl (fun w' hS => xld on3 rfl ((zb_hb.keep hS (by show ¬ (bb = g34 ∨ bb = gm); omega)).r.c 8 rfl rfl)) hS23 ?_))))))))
 refine hcH rfl (xcall ca168 rfl) (c168 (gm := gm) (pos := (n + (packName C n (bt r.name)).1.length + 10)) (start := 0) r34 (by omega) (by omega) (by omega) (by omega) hk h5.r (by omega) (hnm.2.1 (by omega)) hC (fun b hb => ⟨hm b hb, by omega, by omega⟩) (by omega) (by omega)) ?_
 rintro _ w24 ⟨p56, q56, g56, rfl, r56, m25, a56, l56, hC⟩
 have z26 := m25.size
 have hb := hb.keep m25 (by show ¬ (bb = g34 ∨ bb = gm); omega)
 have hG := hG.keep (fun k hk => by omega) m25 (fun k hk hS => by have hk := hk; have hS : k = g34 ∨ k = gm := hS; omega)
 have hf := hf.step m25 (fun k hk hS => by have hS : k = g34 ∨ k = gm := hS; show k = g ∨ k = gm ∨ k = bb; omega)
 have h4 := h4.keep m25 (by show ¬ (b4 = g34 ∨ b4 = gm); omega)
 have hS27 := hS23.step m25 (fun k hk hS => by have hS : k = g34 ∨ k = gm := hS; show k = g34 ∨ k = gm; omega)
 have hbl := packBody_len (C := (packName C n (bt r.name)).2) (pos := (n + (packName C n (bt r.name)).1.length + 10)) hnm hlb
 refine ⟨hS27, ?_⟩
 refine qqM rfl rfl hS27 (hvH rfl (fun _ _ => xex20 rfl) hS27 (hvH rfl (fun _ _ => xex21 rfl) hS27 (qqA rfl rfl hS27 (qqA rfl rfl hS27 (hendH (fg [(0, _), (4, _), (8, _), (9, _), (10, _), (11, _)] ⟨rfl, rfl, rfl, rfl, rfl, rfl, ⟨⟩⟩ fun _ => (sreg (sM rfl (sv (xneN if89 rfl) (send (fg [(0, _), (4, _), (8, _), (9, _), (10, _), (11, _), (60, _)] ⟨rfl, rfl, rfl, rfl, rfl, rfl, rfl, ⟨⟩⟩ fun _ => (cno rfl (wp_skip (nThen (fg [(0, _), (4, _), (8, _), (9, _), (11, _)] ⟨rfl, rfl, rfl, rfl, rfl, ⟨⟩⟩ fun _ => (wp_seq (sreg (sM rfl (sM rfl (sM rfl ?_))))))))))))))))))))
 have r56 := br_cast (bs := (bs ++ ((packName C n (bt r.name)).1 ++ (be16 (typeN r).toNat ++ (be16 r.cls.toNat ++ be32 r.ttl.toNat)))) ++ (be16 len ++ (packBody (packName C n (bt r.name)).2 (n + (packName C n (bt r.name)).1.length + 10) r).1)) r56 (by simp [hdTail]) rfl
 obtain ⟨T4, hE4⟩ := SE.ofSB h4
 refine sc (xcall ca153 rfl) (c153 (preLen := n + ((packName C n (bt r.name)).1 ++ hdTail (typeN r) r.cls r.ttl len).length) (len := len) (typ := typeN r) (cls := r.cls) (ttl := r.ttl) (s := bt r.name) (pre := []) (post := []) r56 (by omega) rfl hE4 rfl (by omega) (by simp [be16_length, be32_length]; omega) (by omega) (by omega) (by omega)) ?_
 rintro _ w28 ⟨rfl, r56, hE4b, m29⟩
 have z30 := m29.size
 have hb := hb.keep m29 (by show ¬ (bb = g56 ∨ bb = b4); omega)
 have hG := hG.keep (fun k hk => by omega) m29 (fun k hk hS => by have hk := hk; have hS : k = g56 ∨ k = b4 := hS; omega)
 have hf := hf.step m29 (fun k hk hS => by have hS : k = g56 ∨ k = b4 := hS; show k = g ∨ k = gm ∨ k = bb; omega)
 have hC := hC.keep m29 (fun b hb => by have hb := hm b hb; show ¬ (b = g56 ∨ b = b4); omega)
 have en : n + ((packName C n (bt r.name)).1 ++ hdTail (typeN r) r.cls r.ttl len).length + (packBody (packName C n (bt r.name)).2 (n + (packName C n (bt r.name)).1.length + 10) r).1.length - (n + ((packName C n (bt r.name)).1 ++ hdTail (typeN r) r.cls r.ttl len).length) = (packBody (packName C n (bt r.name)).2 (n + (packName C n (bt r.name)).1.length + 10) r).1.length := by omega
 rw [en] at r56
 refine sA rfl (send (fg [(0, _), (8, _), (12, _)] ⟨rfl, rfl, rfl, ⟨⟩⟩ fun _ => (sreg (sM rfl (sv (xneN if89 rfl) (send (fg [(0, _), (8, _), (12, _), (70, _)] ⟨rfl, rfl, rfl, rfl, ⟨⟩⟩ fun _ => (cno rfl (wp_skip (nThen (fg [(0, _), (8, _)] ⟨rfl, rfl, ⟨⟩⟩ fun _ => (wp_seq (sreg (sM rfl ?_))))))))))))))
 refine sc (xcall ca115 rfl) (c115 hb hG (by omega) (by omega) (by omega) hc) ?_
 rintro _ w31 ⟨rfl, hb, m32⟩
 have z33 := m32.size
 have hf := hf.step m32 (fun k hk hS => by have hS : k = bb := hS; show k = g ∨ k = gm ∨ k = bb; omega)
 have hC := hC.keep m32 (fun b hb => by have hb := hm b hb; show ¬ (b = bb); omega)
 have r56 := r56.keep m32 (by show ¬ (g56 = bb); omega)
 refine sA rfl (send (fg [(0, _), (8, _), (13, _)] ⟨rfl, rfl, rfl, ⟨⟩⟩ fun _ => (sreg (sM rfl (sv (xneN if89 rfl) (send (fg [(0, _), (8, _), (13, _), (75, _)] ⟨rfl, rfl, rfl, rfl, ⟨⟩⟩ fun _ => (cno rfl (wp_skip (nThen (fg [(0, _), (8, _)] ⟨rfl, rfl, ⟨⟩⟩ fun _ => (sreg (sM rfl (sM rfl (sN rfl (sv (xfld fl148_0 rfl) ?_))))))))))))))))
 refine suK (xstF 0 sz37 hb rfl rfl rfl rfl rfl) ?_
 rintro w35 ⟨m36, hb, s34⟩
 have hf := hf.step m36 (fun k hk hS => by have hS : k = bb := hS; show k = g ∨ k = gm ∨ k = bb; omega)
 have hC := hC.keep m36 (fun b hb => by have hb := hm b hb; show ¬ (b = bb); omega)
 have r56 := r56.keep m36 (by show ¬ (g56 = bb); omega)
 refine send (fg [] trivial fun _ => (sreg (sA rfl (send (fg [(6, _)] ⟨rfl, ⟨⟩⟩ fun _ => (wp_ret ?_))))))
 refine rp1 rfl rfl ?_
 have eo : n + (packRec C n r).1.length = n + ((packName C n (bt r.name)).1 ++ hdTail (typeN r) r.cls r.ttl len).length + (packBody (packName C n (bt r.name)).2 (n + (packName C n (bt r.name)).1.length + 10) r).1.length := by simp only [packRec, packTail, List.length_append, be16_length, be32_length, hdTail_length]; omega
 refine ⟨p56, q56, g56, rfl, ?_, ?_, hC, hf, by omega, by omega⟩
 · rw [eo]; exact hb
 · rw [eo]; exact br_cast r56 (by simp [packRec, packTail]) rfl
set_option maxHeartbeats 4000000 in
set_option maxRecDepth 100000 in
theorem c122 {w : World} {bb g gm n sec x0 x1 : Nat} {v : Value} {bs : List UInt8} {c : Nat → Nat} {cm : Option Nat} {C : Option Ent} (hb : SB w bb lB (bSegs v sec x0 x1 c cm)) (hR : BR w v g n bs) (hC : Cmp w cm C) (hm : ∀ b, cm = some b → b = gm) (hG : GB w) (hz : 5 ≤ g ∧ g < w.heap.size ∧ 5 ≤ gm ∧ gm < w.heap.size ∧ gm ≠ g ∧ 5 ≤ bb ∧ bb ≠ g ∧ bb ≠ gm) (hn0 : 0 < n) (hl : n < 900000000) (hc : ∀ i, c i < 60000) {r : RecD} {typ : UInt16} {len : Nat} (hs3 : 3 ≤ sec) (hs5 : sec ≤ 5) (hlen : len < 65536) (hnm : NamesOk r) (hlb : (bodyL r).length < 65536) (hk : r.kind = 4)  :
  Ret PP 122 [.pointer (some ⟨bb, 0, none⟩), ag (rhSegs (bt r.name) typ r.cls r.ttl len), ag [nm (bt r.host), nm (bt r.box), [.int .u32 (r.n1.toNat : Int)], [.int .u32 (r.n2.toNat : Int)], [.int .u32 (r.n3.toNat : Int)], [.int .u32 (r.n4.toNat : Int)], [.int .u32 (r.n5.toNat : Int)]]] w (BldC w bb g gm n bs (packRec C n r).1 sec x0 x1 c cm (packRec C n r).2) := by
 have hbn := BR.len hR
 obtain ⟨a0, c0, rfl, -⟩ := hR.form
 have hf : Fr (fun k => k = g ∨ k = gm ∨ k = bb) w w := Fr.refl _ _
 have z_hb := hb.lt
 refine ret_of Tryz.func122 rfl rfl rfl [(0, _), (1, _), (2, _)] rfl ?_
 refine sreg ?_
 refine svK (xboxS (lens := [256, 1, 1, 1, 1]) rfl (by simp [rhSegs, nm_length])) ?_
 rintro _ w2 ⟨b4, rfl, m3, h4, e1, s1⟩
 have hb := hb.keep m3 id
 have hR := hR.keep m3 id
 have hC := hC.keep m3 nF
 have hG := hG.keep (fun k hk => by omega) m3 nF
 have hf := hf.step0 m3
 refine svK (xboxS (lens := [256, 256, 1, 1, 1, 1, 1]) rfl (by simp [nm_length])) ?_
 rintro _ w5 ⟨b5, rfl, m6, h5, e4, s4⟩
 have hb := hb.keep m6 id
 have hR := hR.keep m6 id
 have hC := hC.keep m6 nF
 have hG := hG.keep (fun k hk => by omega) m6 nF
 have hf := hf.step0 m6
 have h4 := h4.keep m6 id
 refine sA rfl (send (fg [(0, _), (4, _), (5, _)] ⟨rfl, rfl, rfl, ⟨⟩⟩ fun _ => (wp_seq (sreg (sM rfl ?_)))))
 refine sc (xcall ca162 rfl) (c162 hb hs3 hs5) ?_
 rintro _ w7 ⟨rfl, m8⟩
 have z9 := m8.size
 have hb := hb.keep m8 id
 have hR := hR.keep m8 id
 have hC := hC.keep m8 nF
 have hG := hG.keep (fun k hk => by omega) m8 nF
 have hf := hf.step0 m8
 have h4 := h4.keep m8 id
 have h5 := h5.keep m8 id
 refine sA rfl (send (fg [(0, _), (4, _), (5, _), (7, _)] ⟨rfl, rfl, rfl, rfl, ⟨⟩⟩ fun _ => (sreg (sM rfl (sv (xneN if89 rfl) (send (fg [(0, _), (4, _), (5, _), (7, _), (17, _)] ⟨rfl, rfl, rfl, rfl, rfl, ⟨⟩⟩ fun _ => (cno rfl (wp_skip (nThen (fg [(0, _), (4, _), (5, _)] ⟨rfl, rfl, rfl, ⟨⟩⟩ fun _ => (sreg ?_))))))))))))
 refine sc (xcall ca169 rfl) (c169r hk) ?_
 rintro _ w10 ⟨rfl, m11⟩
 have z12 := m11.size
 have hb := hb.keep m11 id
 have hR := hR.keep m11 id
 have hC := hC.keep m11 nF
 have hG := hG.keep (fun k hk => by omega) m11 nF
 have hf := hf.step0 m11
 have h4 := h4.keep m11 id
 have h5 := h5.keep m11 id
 refine sv (xfld fl135_1 rfl) ?_
 refine suK (xstF 1 sz83 h4 rfl rfl rfl rfl rfl) ?_
 rintro w14 ⟨m15, h4, s13⟩
 have hb := hb.keep m15 (by show ¬ (bb = b4); omega)
 have hR := hR.keep m15 (by show ¬ (g = b4); omega)
 have hC := hC.keep m15 (fun b hb => by have hb := hm b hb; show ¬ (b = b4); omega)
 have hG := hG.keep (fun k hk => by omega) m15 (fun k hk hS => by have hk := hk; have hS : k = b4 := hS; omega)
 have hf := hf.step m15 (fun k hk hS => by have hS : k = b4 := hS; show k = g ∨ k = gm ∨ k = bb; omega)
 have h5 := h5.keep m15 (by show ¬ (b5 = b4); omega)
 have h4 : SB w14 b4 lRH (rhSegs (bt r.name) (typeN r) r.cls r.ttl len) := h4
 refine send (fg [(0, _), (4, _), (5, _)] ⟨rfl, rfl, rfl, ⟨⟩⟩ fun _ => ?_)
 refine sdrawH (Fr (fun k => k = g ∨ k = gm) w14.drew) [(0, .rd), (1, .rd), (2, .rd), (3, .rd), (4, .rd), (5, .rd), (6, .rd), (7, .rd), (8, .rd), (9, .rd), (10, .rd), (11, .rd), (12, .ld), (13, .rd), (14, .rd), (15, .rd), (16, .rd), (17, .rd), (18, .rd), (19, .rd)] mixed (by kernel_rfl) (fun _ _ _ _ _ h => h) ?_
 have z16 : w14.drew.heap.size = w14.heap.size := rfl
 have hb := hb.drew
 have hR := hR.keep (fd w14) id
 have hC := hC.keep (fd w14) nF
 have hG := hG.keep (fun k hk => by omega) (fd w14) nF
 have hf := hf.drew
 have h4 := h4.drew
 have h5 := h5.drew
 have zb_hb := hb
 have hS17 : Fr (fun k => k = g ∨ k = gm) w14.drew w14.drew := Fr.refl _ _
 refine qqM rfl rfl hS17 (qqN rfl rfl hS17 (hvH rfl (fun _ _ => xfld fl148_0 rfl) hS17 (hvH rfl (fun w' hS => xld on37 rfl ((zb_hb.keep hS (by show ¬ (bb = g ∨ bb = gm); omega)).r.c 0 rfl rfl)) hS17 (qqM rfl rfl hS17 (qqN rfl rfl hS17 (hvH rfl (fun _ _ => xfld fl148_4 rfl) hS17 (hvH rfl (fun w' hS => xld on146 rfl ((zb_hb.keep hS (by show ¬ (bb = g ∨ bb = gm); omega)).r.c 9 rfl rfl)) hS17 (qqM rfl rfl hS17 (qqN rfl rfl hS17 (hvH rfl (fun _ _ => xfld fl148_3 rfl) hS17 (hvH rfl (fun w' hS => xld on3 rfl ((zb_hb.keep hS (by show ¬ (bb = g ∨ bb = gm); omega)).r.c 8 rfl rfl)) hS17 ?_)))))))))))
 refine hcH rfl (xcall ca152 rfl) (c152 (gm := gm) (pos := n) (start := 0) hR (by omega) (by omega) (by omega) (by omega) h4.r hnm.1 (by omega) hC (fun b hb => ⟨hm b hb, by omega, by omega⟩) (by omega) (by omega)) ?_
 rintro _ w18 ⟨p34, q34, g34, rfl, r34, m19, a34, l34, hC⟩
 have z20 := m19.size
 have hb := hb.keep m19 (by show ¬ (bb = g ∨ bb = gm); omega)
 have hG := hG.keep (fun k hk => by omega) m19 (fun k hk hS => by have hk := hk; have hS : k = g ∨ k = gm := hS; omega)
 have hf := hf.step m19 (fun k hk hS => by have hS : k = g ∨ k = gm := hS; show k = g ∨ k = gm ∨ k = bb; omega)
 have h4 := h4.keep m19 (by show ¬ (b4 = g ∨ b4 = gm); omega)
 have h5 := h5.keep m19 (by show ¬ (b5 = g ∨ b5 = gm); omega)
 have hS21 := hS17.step m19 (fun k hk hS => by have hS : k = g ∨ k = gm := hS; show k = g ∨ k = gm; omega)
 have hpn := packName_bound (C := C) (pos := n) hnm.1
 have e39 : ((packName C n (bt r.name)).1 ++ hdTail (typeN r) r.cls r.ttl len).length = (packName C n (bt r.name)).1.length + 10 := by simp [hdTail_length]
 refine ⟨hS21, ?_⟩
 refine qqM rfl rfl hS21 (hvH rfl (fun _ _ => xex30 rfl) hS21 (hvH rfl (fun _ _ => xex31 rfl) hS21 (hvH rfl (fun _ _ => xex32 rfl) hS21 (qqA rfl rfl hS21 (qqA rfl rfl hS21 (qqA rfl rfl hS21 (hendH (fg [(0, _), (4, _), (5, _), (8, _), (9, _), (10, _)] ⟨rfl, rfl, rfl, rfl, rfl, rfl, ⟨⟩⟩ fun _ => (wp_seq (sreg (sM rfl (sv (xneN if89 rfl) (send (fg [(0, _), (4, _), (5, _), (8, _), (9, _), (10, _), (39, _)] ⟨rfl, rfl, rfl, rfl, rfl, rfl, rfl, ⟨⟩⟩ fun _ => (cno rfl (wp_skip (nThen (fg [(0, _), (4, _), (5, _), (8, _), (9, _)] ⟨rfl, rfl, rfl, rfl, rfl, ⟨⟩⟩ fun _ => (sreg (sM rfl (sv (xlen sl37 rfl) (sA rfl (send (fg [(0, _), (4, _), (5, _), (8, _), (9, _), (11, _)] ⟨rfl, rfl, rfl, rfl, rfl, rfl, ⟨⟩⟩ fun _ => ?_))))))))))))))))))))))))
 refine wp_seq ?_
 refine sdrawH (Fr (fun k => k = g34 ∨ k = gm) w18.drew) [(0, .rd), (1, .rd), (2, .rd), (3, .rd), (4, .rd), (5, .rd), (6, .rd), (7, .rd), (8, .rd), (9, .ld), (10, .rd), (11, .rd), (12, .rd), (13, .rd), (14, .rd)] mixed (by kernel_rfl) (fun _ _ _ _ _ h => h) ?_
 have z22 : w18.drew.heap.size = w18.heap.size := rfl
 have hb := hb.drew
 have hG := hG.keep (fun k hk => by omega) (fd w18) nF
 have hf := hf.drew
 have h4 := h4.drew
 have h5 := h5.drew
 have r34 := r34.keep (fd w18) id
 have hC := hC.keep (fd w18) nF
 have zb_hb := hb
 have hS23 : Fr (fun k => k = g34 ∨ k = gm) w18.drew w18.drew := Fr.refl _ _
 refine qqM rfl rfl hS23 (qqM rfl rfl hS23 (qqN rfl rfl hS23 (hvH rfl (fun _ _ => xfld fl148_4 rfl) hS23 (hvH rfl (fun w' hS => xld on146 rfl ((zb_hb.keep hS (by show ¬ (bb = g34 ∨ bb = gm); omega)).r.c 9 rfl rfl)) hS23 (qqM rfl rfl hS23 (qqN rfl rfl hS23 (hvH rfl (fun _ _ => xfld fl148_3 rfl) hS23 (hvH rfl (fun w' hS => xld on3 rfl ((zb_hb.keep hS (by show ¬ (bb = g34 ∨ bb = gm); omega)).r.c 8 rfl rfl)) hS23 ?_))))))))
 refine hcH rfl (xcall ca170 rfl) (c170 (gm := gm) (pos := (n + (packName C n (bt r.name)).1.length + 10)) (start := 0) r34 (by omega) (by omega) (by omega) (by omega) hk h5.r (by omega) (hnm.2.1 (by omega)) (hnm.2.2 hk) hC (fun b hb => ⟨hm b hb, by omega, by omega⟩) (by omega) (by omega)) ?_
 rintro _ w24 ⟨p56, q56, g56, rfl, r56, m25, a56, l56, hC⟩
 have z26 := m25.size
 have hb := hb.keep m25 (by show ¬ (bb = g34 ∨ bb = gm); omega)
 have hG := hG.keep (fun k hk => by omega) m25 (fun k hk hS => by have hk := hk; have hS : k = g34 ∨ k = gm := hS; omega)
 have hf := hf.step m25 (fun k hk hS => by have hS : k = g34 ∨ k = gm := hS; show k = g ∨ k = gm ∨ k = bb; omega)
 have h4 := h4.keep m25 (by show ¬ (b4 = g34 ∨ b4 = gm); omega)
 have hS27 := hS23.step m25 (fun k hk hS => by have hS : k = g34 ∨ k = gm := hS; show k = g34 ∨ k = gm; omega)
 have hbl := packBody_len (C := (packName C n (bt r.name)).2) (pos := (n + (packName C n (bt r.name)).1.length + 10)) hnm hlb
 refine ⟨hS27, ?_⟩
 refine qqM rfl rfl hS27 (hvH rfl (fun _ _ => xex20 rfl) hS27 (hvH rfl (fun _ _ => xex21 rfl) hS27 (qqA rfl rfl hS27 (qqA rfl rfl hS27 (hendH (fg [(0, _), (4, _), (8, _), (9, _), (10, _), (11, _)] ⟨rfl, rfl, rfl, rfl, rfl, rfl, ⟨⟩⟩ fun _ => (sreg (sM rfl (sv (xneN if89 rfl) (send (fg [(0, _), (4, _), (8, _), (9, _), (10, _), (11, _), (60, _)] ⟨rfl, rfl, rfl, rfl, rfl, rfl, rfl, ⟨⟩⟩ fun _ => (cno rfl (wp_skip (nThen (fg [(0, _), (4, _), (8, _), (9, _), (11, _)] ⟨rfl, rfl, rfl, rfl, rfl, ⟨⟩⟩ fun _ => (wp_seq (sreg (sM rfl (sM rfl (sM rfl ?_))))))))))))))))))))
 have r56 := br_cast (bs := (bs ++ ((packName C n (bt r.name)).1 ++ (be16 (typeN r).toNat ++ (be16 r.cls.toNat ++ be32 r.ttl.toNat)))) ++ (be16 len ++ (packBody (packName C n (bt r.name)).2 (n + (packName C n (bt r.name)).1.length + 10) r).1)) r56 (by simp [hdTail]) rfl
 obtain ⟨T4, hE4⟩ := SE.ofSB h4
 refine sc (xcall ca153 rfl) (c153 (preLen := n + ((packName C n (bt r.name)).1 ++ hdTail (typeN r) r.cls r.ttl len).length) (len := len) (typ := typeN r) (cls := r.cls) (ttl := r.ttl) (s := bt r.name) (pre := []) (post := []) r56 (by omega) rfl hE4 rfl (by omega) (by simp [be16_length, be32_length]; omega) (by omega) (by omega) (by omega)) ?_
 rintro _ w28 ⟨rfl, r56, hE4b, m29⟩
 have z30 := m29.size
 have hb := hb.keep m29 (by show ¬ (bb = g56 ∨ bb = b4); omega)
 have hG := hG.keep (fun k hk => by omega) m29 (fun k hk hS => by have hk := hk; have hS : k = g56 ∨ k = b4 := hS; omega)
 have hf := hf.step m29 (fun k hk hS => by have hS : k = g56 ∨ k = b4 := hS; show k = g ∨ k = gm ∨ k = bb; omega)
 have hC := hC.keep m29 (fun b hb => by have hb := hm b hb; show ¬ (b = g56 ∨ b = b4); omega)
 have en : n + ((packName C n (bt r.name)).1 ++ hdTail (typeN r) r.cls r.ttl len).length + (packBody (packName C n (bt r.name)).2 (n + (packName C n (bt r.name)).1.length + 10) r).1.length - (n + ((packName C n (bt r.name)).1 ++ hdTail (typeN r) r.cls r.ttl len).length) = (packBody (packName C n (bt r.name)).2 (n + (packName C n (bt r.name)).1.length + 10) r).1.length := by omega
 rw [en] at r56
 refine sA rfl (send (fg [(0, _), (8, _), (12, _)] ⟨rfl, rfl, rfl, ⟨⟩⟩ fun _ => (sreg (sM rfl (sv (xneN if89 rfl) (send (fg [(0, _), (8, _), (12, _), (70, _)] ⟨rfl, rfl, rfl, rfl, ⟨⟩⟩ fun _ => (cno rfl (wp_skip (nThen (fg [(0, _), (8, _)] ⟨rfl, rfl, ⟨⟩⟩ fun _ => (wp_seq (sreg (sM rfl ?_))))))))))))))
 refine sc (xcall ca115 rfl) (c115 hb hG (by omega) (by omega) (by omega) hc) ?_
 rintro _ w31 ⟨rfl, hb, m32⟩
 have z33 := m32.size
 have hf := hf.step m32 (fun k hk hS => by have hS : k = bb := hS; show k = g ∨ k = gm ∨ k = bb; omega)
 have hC := hC.keep m32 (fun b hb => by have hb := hm b hb; show ¬ (b = bb); omega)
 have r56 := r56.keep m32 (by show ¬ (g56 = bb); omega)
 refine sA rfl (send (fg [(0, _), (8, _), (13, _)] ⟨rfl, rfl, rfl, ⟨⟩⟩ fun _ => (sreg (sM rfl (sv (xneN if89 rfl) (send (fg [(0, _), (8, _), (13, _), (75, _)] ⟨rfl, rfl, rfl, rfl, ⟨⟩⟩ fun _ => (cno rfl (wp_skip (nThen (fg [(0, _), (8, _)] ⟨rfl, rfl, ⟨⟩⟩ fun _ => (sreg (sM rfl (sM rfl (sN rfl (sv (xfld fl148_0 rfl) ?_))))))))))))))))
 refine suK (xstF 0 sz37 hb rfl rfl rfl rfl rfl) ?_
 rintro w35 ⟨m36, hb, s34⟩
 have hf := hf.step m36 (fun k hk hS => by have hS : k = bb := hS; show k = g ∨ k = gm ∨ k = bb; omega)
 have hC := hC.keep m36 (fun b hb => by have hb := hm b hb; show ¬ (b = bb); omega)
 have r56 := r56.keep m36 (by show ¬ (g56 = bb); omega)
 refine send (fg [] trivial fun _ => (sreg (sA rfl (send (fg [(6, _)] ⟨rfl, ⟨⟩⟩ fun _ => (wp_ret ?_))))))
 refine rp1 rfl rfl ?_
 have eo : n + (packRec C n r).1.length = n + ((packName C n (bt r.name)).1 ++ hdTail (typeN r) r.cls r.ttl len).length + (packBody (packName C n (bt r.name)).2 (n + (packName C n (bt r.name)).1.length + 10) r).1.length := by simp only [packRec, packTail, List.length_append, be16_length, be32_length, hdTail_length]; omega
 refine ⟨p56, q56, g56, rfl, ?_, ?_, hC, hf, by omega, by omega⟩
 · rw [eo]; exact hb
 · rw [eo]; exact br_cast r56 (by simp [packRec, packTail]) rfl
set_option maxHeartbeats 4000000 in
set_option maxRecDepth 100000 in
theorem c124 {w : World} {bb g gm n sec x0 x1 : Nat} {v : Value} {bs : List UInt8} {c : Nat → Nat} {cm : Option Nat} {C : Option Ent} (hb : SB w bb lB (bSegs v sec x0 x1 c cm)) (hR : BR w v g n bs) (hC : Cmp w cm C) (hm : ∀ b, cm = some b → b = gm) (hG : GB w) (hz : 5 ≤ g ∧ g < w.heap.size ∧ 5 ≤ gm ∧ gm < w.heap.size ∧ gm ≠ g ∧ 5 ≤ bb ∧ bb ≠ g ∧ bb ≠ gm) (hn0 : 0 < n) (hl : n < 900000000) (hc : ∀ i, c i < 60000) {r : RecD} {typ : UInt16} {len : Nat} (hs3 : 3 ≤ sec) (hs5 : sec ≤ 5) (hlen : len < 65536) (hnm : NamesOk r) (hlb : (bodyL r).length < 65536) (hk : r.kind = 5)  :
  Ret PP 124 [.pointer (some ⟨bb, 0, none⟩), ag (rhSegs (bt r.name) typ r.cls r.ttl len), ag [nm (bt r.host)]] w (BldC w bb g gm n bs (packRec C n r).1 sec x0 x1 c cm (packRec C n r).2) := by
 have hbn := BR.len hR
 obtain ⟨a0, c0, rfl, -⟩ := hR.form
 have hf : Fr (fun k => k = g ∨ k = gm ∨ k = bb) w w := Fr.refl _ _
 have z_hb := hb.lt
 refine ret_of Tryz.func124 rfl rfl rfl [(0, _), (1, _), (2, _)] rfl ?_
 refine sreg ?_
 refine svK (xboxS (lens := [256, 1, 1, 1, 1]) rfl (by simp [rhSegs, nm_length])) ?_
 rintro _ w2 ⟨b4, rfl, m3, h4, e1, s1⟩
 have hb := hb.keep m3 id
 have hR := hR.keep m3 id
 have hC := hC.keep m3 nF
 have hG := hG.keep (fun k hk => by omega) m3 nF
 have hf := hf.step0 m3
 refine svK (xboxS (lens := [256]) rfl (by simp [nm_length])) ?_
 rintro _ w5 ⟨b5, rfl, m6, h5, e4, s4⟩
 have hb := hb.keep m6 id
 have hR := hR.keep m6 id
 have hC := hC.keep m6 nF
 have hG := hG.keep (fun k hk => by omega) m6 nF
 have hf := hf.step0 m6
 have h4 := h4.keep m6 id
 refine sA rfl (send (fg [(0, _), (4, _), (5, _)] ⟨rfl, rfl, rfl, ⟨⟩⟩ fun _ => (wp_seq (sreg (sM rfl ?_)))))
 refine sc (xcall ca162 rfl) (c162 hb hs3 hs5) ?_
 rintro _ w7 ⟨rfl, m8⟩
 have z9 := m8.size
 have hb := hb.keep m8 id
 have hR := hR.keep m8 id
 have hC := hC.keep m8 nF
 have hG := hG.keep (fun k hk => by omega) m8 nF
 have hf := hf.step0 m8
 have h4 := h4.keep m8 id
 have h5 := h5.keep m8 id
 refine sA rfl (send (fg [(0, _), (4, _), (5, _), (7, _)] ⟨rfl, rfl, rfl, rfl, ⟨⟩⟩ fun _ => (sreg (sM rfl (sv (xneN if89 rfl) (send (fg [(0, _), (4, _), (5, _), (7, _), (17, _)] ⟨rfl, rfl, rfl, rfl, rfl, ⟨⟩⟩ fun _ => (cno rfl (wp_skip (nThen (fg [(0, _), (4, _), (5, _)] ⟨rfl, rfl, rfl, ⟨⟩⟩ fun _ => (sreg ?_))))))))))))
 refine sc (xcall ca171 rfl) (c171r hk) ?_
 rintro _ w10 ⟨rfl, m11⟩
 have z12 := m11.size
 have hb := hb.keep m11 id
 have hR := hR.keep m11 id
 have hC := hC.keep m11 nF
 have hG := hG.keep (fun k hk => by omega) m11 nF
 have hf := hf.step0 m11
 have h4 := h4.keep m11 id
 have h5 := h5.keep m11 id
 refine sv (xfld fl135_1 rfl) ?_
 refine suK (xstF 1 sz83 h4 rfl rfl rfl rfl rfl) ?_
 rintro w14 ⟨m15, h4, s13⟩
 have hb := hb.keep m15 (by show ¬ (bb = b4); omega)
 have hR := hR.keep m15 (by show ¬ (g = b4); omega)
 have hC := hC.keep m15 (fun b hb => by have hb := hm b hb; show ¬ (b = b4); omega)
 have hG := hG.keep (fun k hk => by omega) m15 (fun k hk hS => by have hk := hk; have hS : k = b4 := hS; omega)
 have hf := hf.step m15 (fun k hk hS => by have hS : k = b4 := hS; show k = g ∨ k = gm ∨ k = bb; omega)
 have h5 := h5.keep m15 (by show ¬ (b5 = b4); omega)
 have h4 : SB w14 b4 lRH (rhSegs (bt r.name) (typeN r) r.cls r.ttl len) := h4
 refine send (fg [(0, _), (4, _), (5, _)] ⟨rfl, rfl, rfl, ⟨⟩⟩ fun _ => ?_)
 refine sdrawH (Fr (fun k => k = g ∨ k = gm) w14.drew) [(0, .rd), (1, .rd), (2, .rd), (3, .rd), (4, .rd), (5, .rd), (6, .rd), (7, .rd), (8, .rd), (9, .rd), (10, .rd), (11, .rd), (12, .ld), (13, .rd), (14, .rd), (15, .rd), (16, .rd), (17, .rd), (18, .rd), (19, .rd)] mixed (by kernel_rfl) (fun _ _ _ _ _ h => h) ?_
 have z16 : w14.drew.heap.size = w14.heap.size := rfl
 have hb := hb.drew
 have hR := hR.keep (fd w14) id
 have hC := hC.keep (fd w14) nF
 have hG := hG.keep (fun k hk => by omega) (fd w14) nF
 have hf := hf.drew
 have h4 := h4.drew
 have h5 := h5.drew
 have zb_hb := hb
 have hS17 : Fr (fun k => k = g ∨ k = gm) w14.drew w14.drew := Fr.refl _ _
 refine qqM rfl rfl hS17 (qqN rfl rfl hS17 (hvH rfl (fun _ _ => xfld fl148_0 rfl) hS17 (hvH rfl (fun w' hS => xld on37 rfl ((zb_hb.keep hS (by show ¬ (bb = g ∨ bb = gm); omega)).r.c 0 rfl rfl)) hS17 (qqM rfl rfl hS17 (qqN rfl rfl hS17 (hvH rfl (fun _ _ => xfld fl148_4 rfl) hS17 (hvH rfl (fun w' hS => xld on146 rfl ((zb_hb.keep hS (by show ¬ (bb = g ∨ bb = gm); omega)).r.c 9 rfl rfl)) hS17 (qqM rfl rfl hS17 (qqN rfl rfl hS17 (hvH rfl (fun _ _ => xfld fl148_3 rfl) hS17 (hvH rfl (fun w' hS => xld on3 rfl ((zb_hb.keep hS (by show ¬ (bb = g ∨ bb = gm); omega)).r.c 8 rfl rfl)) hS17 ?_)))))))))))
 refine hcH rfl (xcall ca152 rfl) (c152 (gm := gm) (pos := n) (start := 0) hR (by omega) (by omega) (by omega) (by omega) h4.r hnm.1 (by omega) hC (fun b hb => ⟨hm b hb, by omega, by omega⟩) (by omega) (by omega)) ?_
 rintro _ w18 ⟨p34, q34, g34, rfl, r34, m19, a34, l34, hC⟩
 have z20 := m19.size
 have hb := hb.keep m19 (by show ¬ (bb = g ∨ bb = gm); omega)
 have hG := hG.keep (fun k hk => by omega) m19 (fun k hk hS => by have hk := hk; have hS : k = g ∨ k = gm := hS; omega)
 have hf := hf.step m19 (fun k hk hS => by have hS : k = g ∨ k = gm := hS; show k = g ∨ k = gm ∨ k = bb; omega)
 have h4 := h4.keep m19 (by show ¬ (b4 = g ∨ b4 = gm); omega)
 have h5 := h5.keep m19 (by show ¬ (b5 = g ∨ b5 = gm); omega)
 have hS21 := hS17.step m19 (fun k hk hS => by have hS : k = g ∨ k = gm := hS; show k = g ∨ k = gm; omega)
 have hpn := packName_bound (C := C) (pos := n) hnm.1
 have e39 : ((packName C n (bt r.name)).1 ++ hdTail (typeN r) r.cls r.ttl len).length = (packName C n (bt r.name)).1.length + 10 := by simp [hdTail_length]
 refine ⟨hS21, ?_⟩
 refine qqM rfl rfl hS21 (hvH rfl (fun _ _ => xex30 rfl) hS21 (hvH rfl (fun _ _ => xex31 rfl) hS21 (hvH rfl (fun _ _ => xex32 rfl) hS21 (qqA rfl rfl hS21 (qqA rfl rfl hS21 (qqA rfl rfl hS21 (hendH (fg [(0, _), (4, _), (5, _), (8, _), (9, _), (10, _)] ⟨rfl, rfl, rfl, rfl, rfl, rfl, ⟨⟩⟩ fun _ => (wp_seq (sreg (sM rfl (sv (xneN if89 rfl) (send (fg [(0, _), (4, _), (5, _), (8, _), (9, _), (10, _), (39, _)] ⟨rfl, rfl, rfl, rfl, rfl, rfl, rfl, ⟨⟩⟩ fun _ => (cno rfl (wp_skip (nThen (fg [(0, _), (4, _), (5, _), (8, _), (9, _)] ⟨rfl, rfl, rfl, rfl, rfl, ⟨⟩⟩ fun _ => (sreg (sM rfl (sv (xlen sl37 rfl) (sA rfl (send (fg [(0, _), (4, _), (5, _), (8, _), (9, _), (11, _)] ⟨rfl, rfl, rfl, rfl, rfl, rfl, ⟨⟩⟩ fun _ => ?_))))))))))))))))))))))))
 refine wp_seq ?_
 refine sdrawH (Fr (fun k => k = g34 ∨ k = gm) w18.drew) [(0, .rd), (1, .rd), (2, .rd), (3, .rd), (4, .rd), (5, .rd), (6, .rd), (7, .rd), (8, .rd), (9, .ld), (10, .rd), (11, .rd), (12, .rd), (13, .rd), (14, .rd)] mixed (by kernel_rfl) (fun _ _ _ _ _ h => h) ?_
 have z22 : w18.drew.heap.size = w18.heap.size := rfl
 have hb := hb.drew
 have hG := hG.keep (fun k hk => by omega) (fd w18) nF
 have hf := hf.drew
 have h4 := h4.drew
 have h5 := h5.drew
 have r34 := r34.keep (fd w18) id
 have hC := hC.keep (fd w18) nF
 have zb_hb := hb
 have hS23 : Fr (fun k => k = g34 ∨ k = gm) w18.drew w18.drew := Fr.refl _ _
 refine qqM rfl rfl hS23 (qqM rfl rfl hS23 (qqN rfl rfl hS23 (hvH rfl (fun _ _ => xfld fl148_4 rfl) hS23 (hvH rfl (fun w' hS => xld on146 rfl ((zb_hb.keep hS (by show ¬ (bb = g34 ∨ bb = gm); omega)).r.c 9 rfl rfl)) hS23 (qqM rfl rfl hS23 (qqN rfl rfl hS23 (hvH rfl (fun _ _ => xfld fl148_3 rfl) hS23 (hvH rfl (fun w' hS => xld on3 rfl ((zb_hb.keep hS (by show ¬ (bb = g34 ∨ bb = gm); omega)).r.c 8 rfl rfl)) hS23 ?_))))))))
 refine hcH rfl (xcall ca172 rfl) (c172 (gm := gm) (pos := (n + (packName C n (bt r.name)).1.length + 10)) (start := 0) r34 (by omega) (by omega) (by omega) (by omega) hk h5.r (by omega) (hnm.2.1 (by omega)) hC (fun b hb => ⟨hm b hb, by omega, by omega⟩) (by omega) (by omega)) ?_
 rintro _ w24 ⟨p56, q56, g56, rfl, r56, m25, a56, l56, hC⟩
 have z26 := m25.size
 have hb := hb.keep m25 (by show ¬ (bb = g34 ∨ bb = gm); omega)
 have hG := hG.keep (fun k hk => by omega) m25 (fun k hk hS => by have hk := hk; have hS : k = g34 ∨ k = gm := hS; omega)
 have hf := hf.step m25 (fun k hk hS => by have hS : k = g34 ∨ k = gm := hS; show k = g ∨ k = gm ∨ k = bb; omega)
 have h4 := h4.keep m25 (by show ¬ (b4 = g34 ∨ b4 = gm); omega)
 have hS27 := hS23.step m25 (fun k hk hS => by have hS : k = g34 ∨ k = gm := hS; show k = g34 ∨ k = gm; omega)
 have hbl := packBody_len (C := (packName C n (bt r.name)).2) (pos := (n + (packName C n (bt r.name)).1.length + 10)) hnm hlb
 refine ⟨hS27, ?_⟩
 refine qqM rfl rfl hS27 (hvH rfl (fun _ _ => xex20 rfl) hS27 (hvH rfl (fun _ _ => xex21 rfl) hS27 (qqA rfl rfl hS27 (qqA rfl rfl hS27 (hendH (fg [(0, _), (4, _), (8, _), (9, _), (10, _), (11, _)] ⟨rfl, rfl, rfl, rfl, rfl, rfl, ⟨⟩⟩ fun _ => (sreg (sM rfl (sv (xneN if89 rfl) (send (fg [(0, _), (4, _), (8, _), (9, _), (10, _), (11, _), (60, _)] ⟨rfl, rfl, rfl, rfl, rfl, rfl, rfl, ⟨⟩⟩ fun _ => (cno rfl (wp_skip (nThen (fg [(0, _), (4, _), (8, _), (9, _), (11, _)] ⟨rfl, rfl, rfl, rfl, rfl, ⟨⟩⟩ fun _ => (wp_seq (sreg (sM rfl (sM rfl (sM rfl ?_))))))))))))))))))))
 have r56 := br_cast (bs := (bs ++ ((packName C n (bt r.name)).1 ++ (be16 (typeN r).toNat ++ (be16 r.cls.toNat ++ be32 r.ttl.toNat)))) ++ (be16 len ++ (packBody (packName C n (bt r.name)).2 (n + (packName C n (bt r.name)).1.length + 10) r).1)) r56 (by simp [hdTail]) rfl
 obtain ⟨T4, hE4⟩ := SE.ofSB h4
 refine sc (xcall ca153 rfl) (c153 (preLen := n + ((packName C n (bt r.name)).1 ++ hdTail (typeN r) r.cls r.ttl len).length) (len := len) (typ := typeN r) (cls := r.cls) (ttl := r.ttl) (s := bt r.name) (pre := []) (post := []) r56 (by omega) rfl hE4 rfl (by omega) (by simp [be16_length, be32_length]; omega) (by omega) (by omega) (by omega)) ?_
 rintro _ w28 ⟨rfl, r56, hE4b, m29⟩
 have z30 := m29.size
 have hb := hb.keep m29 (by show ¬ (bb = g56 ∨ bb = b4); omega)
 have hG := hG.keep (fun k hk => by omega) m29 (fun k hk hS => by have hk := hk; have hS : k = g56 ∨ k = b4 := hS; omega)
 have hf := hf.step m29 (fun k hk hS => by have hS : k = g56 ∨ k = b4 := hS; show k = g ∨ k = gm ∨ k = bb; omega)
 have hC := hC.keep m29 (fun b hb => by have hb := hm b hb; show ¬ (b = g56 ∨ b = b4); omega)
 have en : n + ((packName C n (bt r.name)).1 ++ hdTail (typeN r) r.cls r.ttl len).length + (packBody (packName C n (bt r.name)).2 (n + (packName C n (bt r.name)).1.length + 10) r).1.length - (n + ((packName C n (bt r.name)).1 ++ hdTail (typeN r) r.cls r.ttl len).length) = (packBody (packName C n (bt r.name)).2 (n + (packName C n (bt r.name)).1.length + 10) r).1.length := by omega
 rw [en] at r56
 refine sA rfl (send (fg [(0, _), (8, _), (12, _)] ⟨rfl, rfl, rfl, ⟨⟩⟩ fun _ => (sreg (sM rfl (sv (xneN if89 rfl) (send (fg [(0, _), (8, _), (12, _), (70, _)] ⟨rfl, rfl, rfl, rfl, ⟨⟩⟩ fun _ => (cno rfl (wp_skip (nThen (fg [(0, _), (8, _)] ⟨rfl, rfl, ⟨⟩⟩ fun _ => (wp_seq (sreg (sM rfl ?_))))))))))))))
 refine sc (xcall ca115 rfl) (c115 hb hG (by omega) (by omega) (by omega) hc) ?_
 rintro _ w31 ⟨rfl, hb, m32⟩
 have z33 := m32.size
 have hf := hf.step m32 (fun k hk hS => by have hS : k = bb := hS; show k = g ∨ k = gm ∨ k = bb; omega)
 have hC := hC.keep m32 (fun b hb => by have hb := hm b hb; show ¬ (b = bb); omega)
 have r56 := r56.keep m32 (by show ¬ (g56 = bb); omega)
 refine sA rfl (send (fg [(0, _), (8, _), (13, _)] ⟨rfl, rfl, rfl, ⟨⟩⟩ fun _ => (sreg (sM rfl (sv (xneN if89 rfl) (send (fg [(0, _), (8, _), (13, _), (75, _)] ⟨rfl, rfl, rfl, rfl, ⟨⟩⟩ fun _ => (cno rfl (wp_skip (nThen (fg [(0, _), (8, _)] ⟨rfl, rfl, ⟨⟩⟩ fun _ => (sreg (sM rfl (sM rfl (sN rfl (sv (xfld fl148_0 rfl) ?_))))))))))))))))
 refine suK (xstF 0 sz37 hb rfl rfl rfl rfl rfl) ?_
 rintro w35 ⟨m36, hb, s34⟩
 have hf := hf.step m36 (fun k hk hS => by have hS : k = bb := hS; show k = g ∨ k = gm ∨ k = bb; omega)
 have hC := hC.keep m36 (fun b hb => by have hb := hm b hb; show ¬ (b = bb); omega)
 have r56 := r56.keep m36 (by show ¬ (g56 = bb); omega)
 refine send (fg [] trivial fun _ => (sreg (sA rfl (send (fg [(6, _)] ⟨rfl, ⟨⟩⟩ fun _ => (wp_ret ?_))))))
 refine rp1 rfl rfl ?_
 have eo : n + (packRec C n r).1.length = n + ((packName C n (bt r.name)).1 ++ hdTail (typeN r) r.cls r.ttl len).length + (packBody (packName C n (bt r.name)).2 (n + (packName C n (bt r.name)).1.length + 10) r).1.length := by simp only [packRec, packTail, List.length_append, be16_length, be32_length, hdTail_length]; omega
 refine ⟨p56, q56, g56, rfl, ?_, ?_, hC, hf, by omega, by omega⟩
 · rw [eo]; exact hb
 · rw [eo]; exact br_cast r56 (by simp [packRec, packTail]) rfl
set_option maxHeartbeats 4000000 in
set_option maxRecDepth 100000 in
theorem c126 {w : World} {bb g gm n sec x0 x1 : Nat} {v : Value} {bs : List UInt8} {c : Nat → Nat} {cm : Option Nat} {C : Option Ent} (hb : SB w bb lB (bSegs v sec x0 x1 c cm)) (hR : BR w v g n bs) (hC : Cmp w cm C) (hm : ∀ b, cm = some b → b = gm) (hG : GB w) (hz : 5 ≤ g ∧ g < w.heap.size ∧ 5 ≤ gm ∧ gm < w.heap.size ∧ gm ≠ g ∧ 5 ≤ bb ∧ bb ≠ g ∧ bb ≠ gm) (hn0 : 0 < n) (hl : n < 900000000) (hc : ∀ i, c i < 60000) {r : RecD} {typ : UInt16} {len : Nat} (hs3 : 3 ≤ sec) (hs5 : sec ≤ 5) (hlen : len < 65536) (hnm : NamesOk r) (hlb : (bodyL r).length < 65536) (hk : r.kind = 6)  :
  Ret PP 126 [.pointer (some ⟨bb, 0, none⟩), ag (rhSegs (bt r.name) typ r.cls r.ttl len), ag [[.int .u16 ((r.n1.toNat % 65536 : Nat) : Int)], nm (bt r.host)]] w (BldC w bb g gm n bs (packRec C n r).1 sec x0 x1 c cm (packRec C n r).2) := by
 have hbn := BR.len hR
 obtain ⟨a0, c0, rfl, -⟩ := hR.form
 have hf : Fr (fun k => k = g ∨ k = gm ∨ k = bb) w w := Fr.refl _ _
 have z_hb := hb.lt
 refine ret_of Tryz.func126 rfl rfl rfl [(0, _), (1, _), (2, _)] rfl ?_
 refine sreg ?_
 refine svK (xboxS (lens := [256, 1, 1, 1, 1]) rfl (by simp [rhSegs, nm_length])) ?_
 rintro _ w2 ⟨b4, rfl, m3, h4, e1, s1⟩
 have hb := hb.keep m3 id
 have hR := hR.keep m3 id
 have hC := hC.keep m3 nF
 have hG := hG.keep (fun k hk => by omega) m3 nF
 have hf := hf.step0 m3
 refine svK (xboxS (lens := [1, 256]) rfl (by simp [nm_length])) ?_
 rintro _ w5 ⟨b5, rfl, m6, h5, e4, s4⟩
 have hb := hb.keep m6 id
 have hR := hR.keep m6 id
 have hC := hC.keep m6 nF
 have hG := hG.keep (fun k hk => by omega) m6 nF
 have hf := hf.step0 m6
 have h4 := h4.keep m6 id
 refine sA rfl (send (fg [(0, _), (4, _), (5, _)] ⟨rfl, rfl, rfl, ⟨⟩⟩ fun _ => (wp_seq (sreg (sM rfl ?_)))))
 refine sc (xcall ca162 rfl) (c162 hb hs3 hs5) ?_
 rintro _ w7 ⟨rfl, m8⟩
 have z9 := m8.size
 have hb := hb.keep m8 id
 have hR := hR.keep m8 id
 have hC := hC.keep m8 nF
 have hG := hG.keep (fun k hk => by omega) m8 nF
 have hf := hf.step0 m8
 have h4 := h4.keep m8 id
 have h5 := h5.keep m8 id
 refine sA rfl (send (fg [(0, _), (4, _), (5, _), (7, _)] ⟨rfl, rfl, rfl, rfl, ⟨⟩⟩ fun _ => (sreg (sM rfl (sv (xneN if89 rfl) (send (fg [(0, _), (4, _), (5, _), (7, _), (17, _)] ⟨rfl, rfl, rfl, rfl, rfl, ⟨⟩⟩ fun _ => (cno rfl (wp_skip (nThen (fg [(0, _), (4, _), (5, _)] ⟨rfl, rfl, rfl, ⟨⟩⟩ fun _ => (sreg ?_))))))))))))
 refine sc (xcall ca173 rfl) (c173r hk) ?_
 rintro _ w10 ⟨rfl, m11⟩
 have z12 := m11.size
 have hb := hb.keep m11 id
 have hR := hR.keep m11 id
 have hC := hC.keep m11 nF
 have hG := hG.keep (fun k hk => by omega) m11 nF
 have hf := hf.step0 m11
 have h4 := h4.keep m11 id
 have h5 := h5.keep m11 id
 refine sv (xfld fl135_1 rfl) ?_
 refine suK (xstF 1 sz83 h4 rfl rfl rfl rfl rfl) ?_
 rintro w14 ⟨m15, h4, s13⟩
 have hb := hb.keep m15 (by show ¬ (bb = b4); omega)
 have hR := hR.keep m15 (by show ¬ (g = b4); omega)
 have hC := hC.keep m15 (fun b hb => by have hb := hm b hb; show ¬ (b = b4); omega)
 have hG := hG.keep (fun k hk => by omega) m15 (fun k hk hS => by have hk := hk; have hS : k = b4 := hS; omega)
 have hf := hf.step m15 (fun k hk hS => by have hS : k = b4 := hS; show k = g ∨ k = gm ∨ k = bb; omega)
 have h5 := h5.keep m15 (by show ¬ (b5 = b4); omega)
 have h4 : SB w14 b4 lRH (rhSegs (bt r.name) (typeN r) r.cls r.ttl len) := h4
 refine send (fg [(0, _), (4, _), (5, _)] ⟨rfl, rfl, rfl, ⟨⟩⟩ fun _ => ?_)
 refine sdrawH (Fr (fun k => k = g ∨ k = gm) w14.drew) [(0, .rd), (1, .rd), (2, .rd), (3, .rd), (4, .rd), (5, .rd), (6, .rd), (7, .rd), (8, .rd), (9, .rd), (10, .rd), (11, .rd), (12, .ld), (13, .rd), (14, .rd), (15, .rd), (16, .rd), (17, .rd), (18, .rd), (19, .rd)] mixed (by kernel_rfl) (fun _ _ _ _ _ h => h) ?_
 have z16 : w14.drew.heap.size = w14.heap.size := rfl
 have hb := hb.drew
 have hR := hR.keep (fd w14) id
 have hC := hC.keep (fd w14) nF
 have hG := hG.keep (fun k hk => by omega) (fd w14) nF
 have hf := hf.drew
 have h4 := h4.drew
 have h5 := h5.drew
 have zb_hb := hb
 have hS17 : Fr (fun k => k = g ∨ k = gm) w14.drew w14.drew := Fr.refl _ _
 refine qqM rfl rfl hS17 (qqN rfl rfl hS17 (hvH rfl (fun _ _ => xfld fl148_0 rfl) hS17 (hvH rfl (fun w' hS => xld on37 rfl ((zb_hb.keep hS (by show ¬ (bb = g ∨ bb = gm); omega)).r.c 0 rfl rfl)) hS17 (qqM rfl rfl hS17 (qqN rfl rfl hS17 (hvH rfl (fun _ _ => xfld fl148_4 rfl) hS17 (hvH rfl (fun w' hS => xld on146 rfl ((zb_hb.keep hS (by show ¬ (bb = g ∨ bb = gm); omega)).r.c 9 rfl rfl)) hS17 (qqM rfl rfl hS17 (qqN rfl rfl hS17 (hvH rfl (fun _ _ => xfld fl148_3 rfl) hS17 (hvH rfl (fun w' hS => xld on3 rfl ((zb_hb.keep hS (by show ¬ (bb = g ∨ bb = gm); omega)).r.c 8 rfl rfl)) hS17 ?_)))))))))))
 refine hcH rfl (xcall ca152 rfl) (c152 (gm := gm) (pos := n) (start := 0) hR (by omega) (by omega) (by omega) (by omega) h4.r hnm.1 (by omega) hC (fun b hb => ⟨hm b hb, by omega, by omega⟩) (by omega) (by omega)) ?_
 rintro _ w18 ⟨p34, q34, g34, rfl, r34, m19, a34, l34, hC⟩
 have z20 := m19.size
 have hb := hb.keep m19 (by show ¬ (bb = g ∨ bb = gm); omega)
 have hG := hG.keep (fun k hk => by omega) m19 (fun k hk hS => by have hk := hk; have hS : k = g ∨ k = gm := hS; omega)
 have hf := hf.step m19 (fun k hk hS => by have hS : k = g ∨ k = gm := hS; show k = g ∨ k = gm ∨ k = bb; omega)
 have h4 := h4.keep m19 (by show ¬ (b4 = g ∨ b4 = gm); omega)
 have h5 := h5.keep m19 (by show ¬ (b5 = g ∨ b5 = gm); omega)
 have hS21 := hS17.step m19 (fun k hk hS => by have hS : k = g ∨ k = gm := hS; show k = g ∨ k = gm; omega)
 have hpn := packName_bound (C := C) (pos := n) hnm.1
 have e39 : ((packName C n (bt r.name)).1 ++ hdTail (typeN r) r.cls r.ttl len).length = (packName C n (bt r.name)).1.length + 10 := by simp [hdTail_length]
 refine ⟨hS21, ?_⟩
 refine qqM rfl rfl hS21 (hvH rfl (fun _ _ => xex30 rfl) hS21 (hvH rfl (fun _ _ => xex31 rfl) hS21 (hvH rfl (fun _ _ => xex32 rfl) hS21 (qqA rfl rfl hS21 (qqA rfl rfl hS21 (qqA rfl rfl hS21 (hendH (fg [(0, _), (4, _), (5, _), (8, _), (9, _), (10, _)] ⟨rfl, rfl, rfl, rfl, rfl, rfl, ⟨⟩⟩ fun _ => (wp_seq (sreg (sM rfl (sv (xneN if89 rfl) (send (fg [(0, _), (4, _), (5, _), (8, _), (9, _), (10, _), (39, _)] ⟨rfl, rfl, rfl, rfl, rfl, rfl, rfl, ⟨⟩⟩ fun _ => (cno rfl (wp_skip (nThen (fg [(0, _), (4, _), (5, _), (8, _), (9, _)] ⟨rfl, rfl, rfl, rfl, rfl, ⟨⟩⟩ fun _ => (sreg (sM rfl (sv (xlen sl37 rfl) (sA rfl (send (fg [(0, _), (4, _), (5, _), (8, _), (9, _), (11, _)] ⟨rfl, rfl, rfl, rfl, rfl, rfl, ⟨⟩⟩ fun _ => ?_))))))))))))))))))))))))
 refine wp_seq ?_
 refine sdrawH (Fr (fun k => k = g34 ∨ k = gm) w18.drew) [(0, .rd), (1, .rd), (2, .rd), (3, .rd), (4, .rd), (5, .rd), (6, .rd), (7, .rd), (8, .rd), (9, .ld), (10, .rd), (11, .rd), (12, .rd), (13, .rd), (14, .rd)] mixed (by kernel_rfl) (fun _ _ _ _ _ h => h) ?_
 have z22 : w18.drew.heap.size = w18.heap.size := rfl
 have hb := hb.drew
 have hG := hG.keep (fun k hk => by omega) (fd w18) nF
 have hf := hf.drew
 have h4 := h4.drew
 have h5 := h5.drew
 have r34 := r34.keep (fd w18) id
 have hC := hC.keep (fd w18) nF
 have zb_hb := hb
 have hS23 : Fr (fun k => k = g34 ∨ k = gm) w18.drew w18.drew := Fr.refl _ _
 refine qqM rfl rfl hS23 (qqM rfl rfl hS23 (qqN rfl rfl hS23 (hvH rfl (fun _ _ => xfld fl148_4 rfl) hS23 (hvH rfl (fun w' hS => xld on146 rfl ((zb_hb.keep hS (by show ¬ (bb = g34 ∨ bb = gm); omega)).r.c 9 rfl rfl)) hS23 (qqM rfl rfl hS23 (qqN rfl rfl hS23 (hvH rfl (fun _ _ => xfld fl148_3 rfl) hS23 (hvH rfl (fun w' hS => xld on3 rfl ((zb_hb.keep hS (by show ¬ (bb = g34 ∨ bb = gm); omega)).r.c 8 rfl rfl)) hS23 ?_))))))))
 refine hcH rfl (xcall ca174 rfl) (c174 (gm := gm) (pos := (n + (packName C n (bt r.name)).1.length + 10)) (start := 0) r34 (by omega) (by omega) (by omega) (by omega) hk h5.r (by omega) (hnm.2.1 (by omega)) hC (fun b hb => ⟨hm b hb, by omega, by omega⟩) (by omega) (by omega)) ?_
 rintro _ w24 ⟨p56, q56, g56, rfl, r56, m25, a56, l56, hC⟩
 have z26 := m25.size
 have hb := hb.keep m25 (by show ¬ (bb = g34 ∨ bb = gm); omega)
 have hG := hG.keep (fun k hk => by omega) m25 (fun k hk hS => by have hk := hk; have hS : k = g34 ∨ k = gm := hS; omega)
 have hf := hf.step m25 (fun k hk hS => by have hS : k = g34 ∨ k = gm := hS; show k = g ∨ k = gm ∨ k = bb; omega)
 have h4 := h4.keep m25 (by show ¬ (b4 = g34 ∨ b4 = gm); omega)
 have hS27 := hS23.step m25 (fun k hk hS => by have hS : k = g34 ∨ k = gm := hS; show k = g34 ∨ k = gm; omega)
 have hbl := packBody_len (C := (packName C n (bt r.name)).2) (pos := (n + (packName C n (bt r.name)).1.length + 10)) hnm hlb
 refine ⟨hS27, ?_⟩
 refine qqM rfl rfl hS27 (hvH rfl (fun _ _ => xex20 rfl) hS27 (hvH rfl (fun _ _ => xex21 rfl) hS27 (qqA rfl rfl hS27 (qqA rfl rfl hS27 (hendH (fg [(0, _), (4, _), (8, _), (9, _), (10, _), (11, _)] ⟨rfl, rfl, rfl, rfl, rfl, rfl, ⟨⟩⟩ fun _ => (sreg (sM rfl (sv (xneN if89 rfl) (send (fg [(0, _), (4, _), (8, _), (9, _), (10, _), (11, _), (60, _)] ⟨rfl, rfl, rfl, rfl, rfl, rfl, rfl, ⟨⟩⟩ fun _ => (cno rfl (wp_skip (nThen (fg [(0, _), (4, _), (8, _), (9, _), (11, _)] ⟨rfl, rfl, rfl, rfl, rfl, ⟨⟩⟩ fun _ => (wp_seq (sreg (sM rfl (sM rfl (sM rfl ?_))))))))))))))))))))
 have r56 := br_cast (bs := (bs ++ ((packName C n (bt r.name)).1 ++ (be16 (typeN r).toNat ++ (be16 r.cls.toNat ++ be32 r.ttl.toNat)))) ++ (be16 len ++ (packBody (packName C n (bt r.name)).2 (n + (packName C n (bt r.name)).1.length + 10) r).1)) r56 (by simp [hdTail]) rfl
 obtain ⟨T4, hE4⟩ := SE.ofSB h4
 refine sc (xcall ca153 rfl) (c153 (preLen := n + ((packName C n (bt r.name)).1 ++ hdTail (typeN r) r.cls r.ttl len).length) (len := len) (typ := typeN r) (cls := r.cls) (ttl := r.ttl) (s := bt r.name) (pre := []) (post := []) r56 (by omega) rfl hE4 rfl (by omega) (by simp [be16_length, be32_length]; omega) (by omega) (by omega) (by omega)) ?_
 rintro _ w28 ⟨rfl, r56, hE4b, m29⟩
 have z30 := m29.size
 have hb := hb.keep m29 (by show ¬ (bb = g56 ∨ bb = b4); omega)
 have hG := hG.keep (fun k hk => by omega) m29 (fun k hk hS => by have hk := hk; have hS : k = g56 ∨ k = b4 := hS; omega)
 have hf := hf.step m29 (fun k hk hS => by have hS : k = g56 ∨ k = b4 := hS; show k = g ∨ k = gm ∨ k = bb; omega)
 have hC := hC.keep m29 (fun b hb => by have hb := hm b hb; show ¬ (b = g56 ∨ b = b4); omega)
 have en : n + ((packName C n (bt r.name)).1 ++ hdTail (typeN r) r.cls r.ttl len).length + (packBody (packName C n (bt r.name)).2 (n + (packName C n (bt r.name)).1.length + 10) r).1.length - (n + ((packName C n (bt r.name)).1 ++ hdTail (typeN r) r.cls r.ttl len).length) = (packBody (packName C n (bt r.name)).2 (n + (packName C n (bt r.name)).1.length + 10) r).1.length := by omega
 rw [en] at r56
 refine sA rfl (send (fg [(0, _), (8, _), (12, _)] ⟨rfl, rfl, rfl, ⟨⟩⟩ fun _ => (sreg (sM rfl (sv (xneN if89 rfl) (send (fg [(0, _), (8, _), (12, _), (70, _)] ⟨rfl, rfl, rfl, rfl, ⟨⟩⟩ fun _ => (cno rfl (wp_skip (nThen (fg [(0, _), (8, _)] ⟨rfl, rfl, ⟨⟩⟩ fun _ => (wp_seq (sreg (sM rfl ?_))))))))))))))
 refine sc (xcall ca115 rfl) (c115 hb hG (by omega) (by omega) (by omega) hc) ?_
 rintro _ w31 ⟨rfl, hb, m32⟩
 have z33 := m32.size
 have hf := hf.step m32 (fun k hk hS => by have hS : k = bb := hS; show k = g ∨ k = gm ∨ k = bb; omega)
 have hC := hC.keep m32 (fun b hb => by have hb := hm b hb; show ¬ (b = bb); omega)
 have r56 := r56.keep m32 (by show ¬ (g56 = bb); omega)
 refine sA rfl (send (fg [(0, _), (8, _), (13, _)] ⟨rfl, rfl, rfl, ⟨⟩⟩ fun _ => (sreg (sM rfl (sv (xneN if89 rfl) (send (fg [(0, _), (8, _), (13, _), (75, _)] ⟨rfl, rfl, rfl, rfl, ⟨⟩⟩ fun _ => (cno rfl (wp_skip (nThen (fg [(0, _), (8, _)] ⟨rfl, rfl, ⟨⟩⟩ fun _ => (sreg (sM rfl (sM rfl (sN rfl (sv (xfld fl148_0 rfl) ?_))))))))))))))))
 refine suK (xstF 0 sz37 hb rfl rfl rfl rfl rfl) ?_
 rintro w35 ⟨m36, hb, s34⟩
 have hf := hf.step m36 (fun k hk hS => by have hS : k = bb := hS; show k = g ∨ k = gm ∨ k = bb; omega)
 have hC := hC.keep m36 (fun b hb => by have hb := hm b hb; show ¬ (b = bb); omega)
 have r56 := r56.keep m36 (by show ¬ (g56 = bb); omega)
 refine send (fg [] trivial fun _ => (sreg (sA rfl (send (fg [(6, _)] ⟨rfl, ⟨⟩⟩ fun _ => (wp_ret ?_))))))
 refine rp1 rfl rfl ?_
 have eo : n + (packRec C n r).1.length = n + ((packName C n (bt r.name)).1 ++ hdTail (typeN r) r.cls r.ttl len).length + (packBody (packName C n (bt r.name)).2 (n + (packName C n (bt r.name)).1.length + 10) r).1.length := by simp only [packRec, packTail, List.length_append, be16_length, be32_length, hdTail_length]; omega
 refine ⟨p56, q56, g56, rfl, ?_, ?_, hC, hf, by omega, by omega⟩
 · rw [eo]; exact hb
 · rw [eo]; exact br_cast r56 (by simp [packRec, packTail]) rfl
set_option maxHeartbeats 4000000 in
set_option maxRecDepth 100000 in
theorem c128 {w : World} {bb g gm n sec x0 x1 : Nat} {v : Value} {bs : List UInt8} {c : Nat → Nat} {cm : Option Nat} {C : Option Ent} (hb : SB w bb lB (bSegs v sec x0 x1 c cm)) (hR : BR w v g n bs) (hC : Cmp w cm C) (hm : ∀ b, cm = some b → b = gm) (hG : GB w) (hz : 5 ≤ g ∧ g < w.heap.size ∧ 5 ≤ gm ∧ gm < w.heap.size ∧ gm ≠ g ∧ 5 ≤ bb ∧ bb ≠ g ∧ bb ≠ gm) (hn0 : 0 < n) (hl : n < 900000000) (hc : ∀ i, c i < 60000) {r : RecD} {typ : UInt16} {len : Nat} (hs3 : 3 ≤ sec) (hs5 : sec ≤ 5) (hlen : len < 65536) (hnm : NamesOk r) (hlb : (bodyL r).length < 65536) (hk : r.kind = 7) {U : Nat → Prop} (hU : ∀ k, U k → k < w.heap.size ∧ k ≠ g ∧ k ≠ gm ∧ k ≠ bb) (hfp : FitP r) {vt : Value} (ht : LA TextEl [1] U w vt r.texts)  :
  Ret PP 128 [.pointer (some ⟨bb, 0, none⟩), ag (rhSegs (bt r.name) typ r.cls r.ttl len), ag [[vt]]] w (BldC w bb g gm n bs (packRec C n r).1 sec x0 x1 c cm (packRec C n r).2) := by
 have hbn := BR.len hR
 obtain ⟨a0, c0, rfl, -⟩ := hR.form
 obtain ⟨at0, ct0, rfl⟩ := ht.form
 have hf : Fr (fun k => k = g ∨ k = gm ∨ k = bb) w w := Fr.refl _ _
 have z_hb := hb.lt
 refine ret_of Tryz.func128 rfl rfl rfl [(0, _), (1, _), (2, _)] rfl ?_
 refine sreg ?_
 refine svK (xboxS (lens := [256, 1, 1, 1, 1]) rfl (by simp [rhSegs, nm_length])) ?_
 rintro _ w2 ⟨b4, rfl, m3, h4, e1, s1⟩
 have hb := hb.keep m3 id
 have hR := hR.keep m3 id
 have hC := hC.keep m3 nF
 have hG := hG.keep (fun k hk => by omega) m3 nF
 have ht := ht.keep text_st (fun k hk => by have hk := hU k hk; omega) m3 nF
 have hf := hf.step0 m3
 refine svK (xboxS (lens := [1]) rfl (by simp [])) ?_
 rintro _ w5 ⟨b5, rfl, m6, h5, e4, s4⟩
 have hb := hb.keep m6 id
 have hR := hR.keep m6 id
 have hC := hC.keep m6 nF
 have hG := hG.keep (fun k hk => by omega) m6 nF
 have ht := ht.keep text_st (fun k hk => by have hk := hU k hk; omega) m6 nF
 have hf := hf.step0 m6
 have h4 := h4.keep m6 id
 refine sA rfl (send (fg [(0, _), (4, _), (5, _)] ⟨rfl, rfl, rfl, ⟨⟩⟩ fun _ => (wp_seq (sreg (sM rfl ?_)))))
 refine sc (xcall ca162 rfl) (c162 hb hs3 hs5) ?_
 rintro _ w7 ⟨rfl, m8⟩
 have z9 := m8.size
 have hb := hb.keep m8 id
 have hR := hR.keep m8 id
 have hC := hC.keep m8 nF
 have hG := hG.keep (fun k hk => by omega) m8 nF
 have ht := ht.keep text_st (fun k hk => by have hk := hU k hk; omega) m8 nF
 have hf := hf.step0 m8
 have h4 := h4.keep m8 id
 have h5 := h5.keep m8 id
 refine sA rfl (send (fg [(0, _), (4, _), (5, _), (7, _)] ⟨rfl, rfl, rfl, rfl, ⟨⟩⟩ fun _ => (sreg (sM rfl (sv (xneN if89 rfl) (send (fg [(0, _), (4, _), (5, _), (7, _), (17, _)] ⟨rfl, rfl, rfl, rfl, rfl, ⟨⟩⟩ fun _ => (cno rfl (wp_skip (nThen (fg [(0, _), (4, _), (5, _)] ⟨rfl, rfl, rfl, ⟨⟩⟩ fun _ => (sreg ?_))))))))))))
 refine sc (xcall ca175 rfl) (c175r hk) ?_
 rintro _ w10 ⟨rfl, m11⟩
 have z12 := m11.size
 have hb := hb.keep m11 id
 have hR := hR.keep m11 id
 have hC := hC.keep m11 nF
 have hG := hG.keep (fun k hk => by omega) m11 nF
 have ht := ht.keep text_st (fun k hk => by have hk := hU k hk; omega) m11 nF
 have hf := hf.step0 m11
 have h4 := h4.keep m11 id
 have h5 := h5.keep m11 id
 refine sv (xfld fl135_1 rfl) ?_
 refine suK (xstF 1 sz83 h4 rfl rfl rfl rfl rfl) ?_
 rintro w14 ⟨m15, h4, s13⟩
 have hb := hb.keep m15 (by show ¬ (bb = b4); omega)
 have hR := hR.keep m15 (by show ¬ (g = b4); omega)
 have hC := hC.keep m15 (fun b hb => by have hb := hm b hb; show ¬ (b = b4); omega)
 have hG := hG.keep (fun k hk => by omega) m15 (fun k hk hS => by have hk := hk; have hS : k = b4 := hS; omega)
 have ht := ht.keep text_st (fun k hk => by have hk := hU k hk; omega) m15 (fun k hk hS => by have hk := hU k hk; have hS : k = b4 := hS; omega)
 have hf := hf.step m15 (fun k hk hS => by have hS : k = b4 := hS; show k = g ∨ k = gm ∨ k = bb; omega)
 have h5 := h5.keep m15 (by show ¬ (b5 = b4); omega)
 have h4 : SB w14 b4 lRH (rhSegs (bt r.name) (typeN r) r.cls r.ttl len) := h4
 refine send (fg [(0, _), (4, _), (5, _)] ⟨rfl, rfl, rfl, ⟨⟩⟩ fun _ => ?_)
 refine sdrawH (Fr (fun k => k = g ∨ k = gm) w14.drew) [(0, .rd), (1, .rd), (2, .rd), (3, .rd), (4, .rd), (5, .rd), (6, .rd), (7, .rd), (8, .rd), (9, .rd), (10, .rd), (11, .rd), (12, .ld), (13, .rd), (14, .rd), (15, .rd), (16, .rd), (17, .rd), (18, .rd), (19, .rd)] mixed (by kernel_rfl) (fun _ _ _ _ _ h => h) ?_
 have z16 : w14.drew.heap.size = w14.heap.size := rfl
 have hb := hb.drew
 have hR := hR.keep (fd w14) id
 have hC := hC.keep (fd w14) nF
 have hG := hG.keep (fun k hk => by omega) (fd w14) nF
 have ht := ht.keep text_st (fun k hk => by have hk := hU k hk; omega) (fd w14) nF
 have hf := hf.drew
 have h4 := h4.drew
 have h5 := h5.drew
 have zb_hb := hb
 have hS17 : Fr (fun k => k = g ∨ k = gm) w14.drew w14.drew := Fr.refl _ _
 refine qqM rfl rfl hS17 (qqN rfl rfl hS17 (hvH rfl (fun _ _ => xfld fl148_0 rfl) hS17 (hvH rfl (fun w' hS => xld on37 rfl ((zb_hb.keep hS (by show ¬ (bb = g ∨ bb = gm); omega)).r.c 0 rfl rfl)) hS17 (qqM rfl rfl hS17 (qqN rfl rfl hS17 (hvH rfl (fun _ _ => xfld fl148_4 rfl) hS17 (hvH rfl (fun w' hS => xld on146 rfl ((zb_hb.keep hS (by show ¬ (bb = g ∨ bb = gm); omega)).r.c 9 rfl rfl)) hS17 (qqM rfl rfl hS17 (qqN rfl rfl hS17 (hvH rfl (fun _ _ => xfld fl148_3 rfl) hS17 (hvH rfl (fun w' hS => xld on3 rfl ((zb_hb.keep hS (by show ¬ (bb = g ∨ bb = gm); omega)).r.c 8 rfl rfl)) hS17 ?_)))))))))))
 refine hcH rfl (xcall ca152 rfl) (c152 (gm := gm) (pos := n) (start := 0) hR (by omega) (by omega) (by omega) (by omega) h4.r hnm.1 (by omega) hC (fun b hb => ⟨hm b hb, by omega, by omega⟩) (by omega) (by omega)) ?_
 rintro _ w18 ⟨p34, q34, g34, rfl, r34, m19, a34, l34, hC⟩
 have z20 := m19.size
 have hb := hb.keep m19 (by show ¬ (bb = g ∨ bb = gm); omega)
 have hG := hG.keep (fun k hk => by omega) m19 (fun k hk hS => by have hk := hk; have hS : k = g ∨ k = gm := hS; omega)
 have ht := ht.keep text_st (fun k hk => by have hk := hU k hk; omega) m19 (fun k hk hS => by have hk := hU k hk; have hS : k = g ∨ k = gm := hS; omega)
 have hf := hf.step m19 (fun k hk hS => by have hS : k = g ∨ k = gm := hS; show k = g ∨ k = gm ∨ k = bb; omega)
 have h4 := h4.keep m19 (by show ¬ (b4 = g ∨ b4 = gm); omega)
 have h5 := h5.keep m19 (by show ¬ (b5 = g ∨ b5 = gm); omega)
 have hS21 := hS17.step m19 (fun k hk hS => by have hS : k = g ∨ k = gm := hS; show k = g ∨ k = gm; omega)
 have hpn := packName_bound (C := C) (pos := n) hnm.1
 have e39 : ((packName C n (bt r.name)).1 ++ hdTail (typeN r) r.cls r.ttl len).length = (packName C n (bt r.name)).1.length + 10 := by simp [hdTail_length]
 refine ⟨hS21, ?_⟩
 refine qqM rfl rfl hS21 (hvH rfl (fun _ _ => xex30 rfl) hS21 (hvH rfl (fun _ _ => xex31 rfl) hS21 (hvH rfl (fun _ _ => xex32 rfl) hS21 (qqA rfl rfl hS21 (qqA rfl rfl hS21 (qqA rfl rfl hS21 (hendH (fg [(0, _), (4, _), (5, _), (8, _), (9, _), (10, _)] ⟨rfl, rfl, rfl, rfl, rfl, rfl, ⟨⟩⟩ fun _ => (wp_seq (sreg (sM rfl (sv (xneN if89 rfl) (send (fg [(0, _), (4, _), (5, _), (8, _), (9, _), (10, _), (39, _)] ⟨rfl, rfl, rfl, rfl, rfl, rfl, rfl, ⟨⟩⟩ fun _ => (cno rfl (wp_skip (nThen (fg [(0, _), (4, _), (5, _), (8, _), (9, _)] ⟨rfl, rfl, rfl, rfl, rfl, ⟨⟩⟩ fun _ => (sreg (sM rfl (sv (xlen sl37 rfl) (sA rfl (send (fg [(0, _), (4, _), (5, _), (8, _), (9, _), (11, _)] ⟨rfl, rfl, rfl, rfl, rfl, rfl, ⟨⟩⟩ fun _ => ?_))))))))))))))))))))))))
 refine wp_seq ?_
 refine sdrawH (Fr (fun k => k = g34 ∨ k = gm) w18.drew) [(0, .rd), (1, .rd), (2, .rd), (3, .rd), (4, .rd), (5, .rd), (6, .rd), (7, .rd), (8, .rd), (9, .ld), (10, .rd), (11, .rd), (12, .rd), (13, .rd), (14, .rd)] mixed (by kernel_rfl) (fun _ _ _ _ _ h => h) ?_
 have z22 : w18.drew.heap.size = w18.heap.size := rfl
 have hb := hb.drew
 have hG := hG.keep (fun k hk => by omega) (fd w18) nF
 have ht := ht.keep text_st (fun k hk => by have hk := hU k hk; omega) (fd w18) nF
 have hf := hf.drew
 have h4 := h4.drew
 have h5 := h5.drew
 have r34 := r34.keep (fd w18) id
 have hC := hC.keep (fd w18) nF
 have zb_hb := hb
 have hS23 : Fr (fun k => k = g34 ∨ k = gm) w18.drew w18.drew := Fr.refl _ _
 refine qqM rfl rfl hS23 (qqM rfl rfl hS23 (qqN rfl rfl hS23 (hvH rfl (fun _ _ => xfld fl148_4 rfl) hS23 (hvH rfl (fun w' hS => xld on146 rfl ((zb_hb.keep hS (by show ¬ (bb = g34 ∨ bb = gm); omega)).r.c 9 rfl rfl)) hS23 (qqM rfl rfl hS23 (qqN rfl rfl hS23 (hvH rfl (fun _ _ => xfld fl148_3 rfl) hS23 (hvH rfl (fun w' hS => xld on3 rfl ((zb_hb.keep hS (by show ¬ (bb = g34 ∨ bb = gm); omega)).r.c 8 rfl rfl)) hS23 ?_))))))))
 refine hcH rfl (xcall ca176 rfl) (c176 (gm := gm) (pos := (n + (packName C n (bt r.name)).1.length + 10)) (start := 0) r34 (by omega) (by omega) (by omega) (by omega) hk h5.r (by omega) (fun k hk => by have hk := hU k hk; omega) ht (hfp.2.1 hk) hfp.2.2.1 hfp.2.2.2.1 hC (fun b hb => ⟨hm b hb, by omega, by omega⟩) (by omega) (by omega)) ?_
 rintro _ w24 ⟨p56, q56, g56, rfl, r56, m25, a56, l56, hC⟩
 have z26 := m25.size
 have hb := hb.keep m25 (by show ¬ (bb = g34 ∨ bb = gm); omega)
 have hG := hG.keep (fun k hk => by omega) m25 (fun k hk hS => by have hk := hk; have hS : k = g34 ∨ k = gm := hS; omega)
 have hf := hf.step m25 (fun k hk hS => by have hS : k = g34 ∨ k = gm := hS; show k = g ∨ k = gm ∨ k = bb; omega)
 have h4 := h4.keep m25 (by show ¬ (b4 = g34 ∨ b4 = gm); omega)
 have hS27 := hS23.step m25 (fun k hk hS => by have hS : k = g34 ∨ k = gm := hS; show k = g34 ∨ k = gm; omega)
 have hbl := packBody_len (C := (packName C n (bt r.name)).2) (pos := (n + (packName C n (bt r.name)).1.length + 10)) hnm hlb
 refine ⟨hS27, ?_⟩
 refine qqM rfl rfl hS27 (hvH rfl (fun _ _ => xex20 rfl) hS27 (hvH rfl (fun _ _ => xex21 rfl) hS27 (qqA rfl rfl hS27 (qqA rfl rfl hS27 (hendH (fg [(0, _), (4, _), (8, _), (9, _), (10, _), (11, _)] ⟨rfl, rfl, rfl, rfl, rfl, rfl, ⟨⟩⟩ fun _ => (sreg (sM rfl (sv (xneN if89 rfl) (send (fg [(0, _), (4, _), (8, _), (9, _), (10, _), (11, _), (60, _)] ⟨rfl, rfl, rfl, rfl, rfl, rfl, rfl, ⟨⟩⟩ fun _ => (cno rfl (wp_skip (nThen (fg [(0, _), (4, _), (8, _), (9, _), (11, _)] ⟨rfl, rfl, rfl, rfl, rfl, ⟨⟩⟩ fun _ => (wp_seq (sreg (sM rfl (sM rfl (sM rfl ?_))))))))))))))))))))
 have r56 := br_cast (bs := (bs ++ ((packName C n (bt r.name)).1 ++ (be16 (typeN r).toNat ++ (be16 r.cls.toNat ++ be32 r.ttl.toNat)))) ++ (be16 len ++ (packBody (packName C n (bt r.name)).2 (n + (packName C n (bt r.name)).1.length + 10) r).1)) r56 (by simp [hdTail]) rfl
 obtain ⟨T4, hE4⟩ := SE.ofSB h4
 refine sc (xcall ca153 rfl) (c153 (preLen := n + ((packName C n (bt r.name)).1 ++ hdTail (typeN r) r.cls r.ttl len).length) (len := len) (typ := typeN r) (cls := r.cls) (ttl := r.ttl) (s := bt r.name) (pre := []) (post := []) r56 (by omega) rfl hE4 rfl (by omega) (by simp [be16_length, be32_length]; omega) (by omega) (by omega) (by omega)) ?_
 rintro _ w28 ⟨rfl, r56, hE4b, m29⟩
 have z30 := m29.size
 have hb := hb.keep m29 (by show ¬ (bb = g56 ∨ bb = b4); omega)
 have hG := hG.keep (fun k hk => by omega) m29 (fun k hk hS => by have hk := hk; have hS : k = g56 ∨ k = b4 := hS; omega)
 have hf := hf.step m29 (fun k hk hS => by have hS : k = g56 ∨ k = b4 := hS; show k = g ∨ k = gm ∨ k = bb; omega)
 have hC := hC.keep m29 (fun b hb => by have hb := hm b hb; show ¬ (b = g56 ∨ b = b4); omega)
 have en : n + ((packName C n (bt r.name)).1 ++ hdTail (typeN r) r.cls r.ttl len).length + (packBody (packName C n (bt r.name)).2 (n + (packName C n (bt r.name)).1.length + 10) r).1.length - (n + ((packName C n (bt r.name)).1 ++ hdTail (typeN r) r.cls r.ttl len).length) = (packBody (packName C n (bt r.name)).2 (n + (packName C n (bt r.name)).1.length + 10) r).1.length := by omega
 rw [en] at r56
 refine sA rfl (send (fg [(0, _), (8, _), (12, _)] ⟨rfl, rfl, rfl, ⟨⟩⟩ fun _ => (sreg (sM rfl (sv (xneN if89 rfl) (send (fg [(0, _), (8, _), (12, _), (70, _)] ⟨rfl, rfl, rfl, rfl, ⟨⟩⟩ fun _ => (cno rfl (wp_skip (nThen (fg [(0, _), (8, _)] ⟨rfl, rfl, ⟨⟩⟩ fun _ => (wp_seq (sreg (sM rfl ?_))))))))))))))
 refine sc (xcall ca115 rfl) (c115 hb hG (by omega) (by omega) (by omega) hc) ?_
 rintro _ w31 ⟨rfl, hb, m32⟩
 have z33 := m32.size
 have hf := hf.step m32 (fun k hk hS => by have hS : k = bb := hS; show k = g ∨ k = gm ∨ k = bb; omega)
 have hC := hC.keep m32 (fun b hb => by have hb := hm b hb; show ¬ (b = bb); omega)
 have r56 := r56.keep m32 (by show ¬ (g56 = bb); omega)
 refine sA rfl (send (fg [(0, _), (8, _), (13, _)] ⟨rfl, rfl, rfl, ⟨⟩⟩ fun _ => (sreg (sM rfl (sv (xneN if89 rfl) (send (fg [(0, _), (8, _), (13, _), (75, _)] ⟨rfl, rfl, rfl, rfl, ⟨⟩⟩ fun _ => (cno rfl (wp_skip (nThen (fg [(0, _), (8, _)] ⟨rfl, rfl, ⟨⟩⟩ fun _ => (sreg (sM rfl (sM rfl (sN rfl (sv (xfld fl148_0 rfl) ?_))))))))))))))))
 refine suK (xstF 0 sz37 hb rfl rfl rfl rfl rfl) ?_
 rintro w35 ⟨m36, hb, s34⟩
 have hf := hf.step m36 (fun k hk hS => by have hS : k = bb := hS; show k = g ∨ k = gm ∨ k = bb; omega)
 have hC := hC.keep m36 (fun b hb => by have hb := hm b hb; show ¬ (b = bb); omega)
 have r56 := r56.keep m36 (by show ¬ (g56 = bb); omega)
 refine send (fg [] trivial fun _ => (sreg (sA rfl (send (fg [(6, _)] ⟨rfl, ⟨⟩⟩ fun _ => (wp_ret ?_))))))
 refine rp1 rfl rfl ?_
 have eo : n + (packRec C n r).1.length = n + ((packName C n (bt r.name)).1 ++ hdTail (typeN r) r.cls r.ttl len).length + (packBody (packName C n (bt r.name)).2 (n + (packName C n (bt r.name)).1.length + 10) r).1.length := by simp only [packRec, packTail, List.length_append, be16_length, be32_length, hdTail_length]; omega
 refine ⟨p56, q56, g56, rfl, ?_, ?_, hC, hf, by omega, by omega⟩
 · rw [eo]; exact hb
 · rw [eo]; exact br_cast r56 (by simp [packRec, packTail]) rfl
set_option maxHeartbeats 4000000 in
set_option maxRecDepth 100000 in
theorem c130 {w : World} {bb g gm n sec x0 x1 : Nat} {v : Value} {bs : List UInt8} {c : Nat → Nat} {cm : Option Nat} {C : Option Ent} (hb : SB w bb lB (bSegs v sec x0 x1 c cm)) (hR : BR w v g n bs) (hC : Cmp w cm C) (hm : ∀ b, cm = some b → b = gm) (hG : GB w) (hz : 5 ≤ g ∧ g < w.heap.size ∧ 5 ≤ gm ∧ gm < w.heap.size ∧ gm ≠ g ∧ 5 ≤ bb ∧ bb ≠ g ∧ bb ≠ gm) (hn0 : 0 < n) (hl : n < 900000000) (hc : ∀ i, c i < 60000) {r : RecD} {typ : UInt16} {len : Nat} (hs3 : 3 ≤ sec) (hs5 : sec ≤ 5) (hlen : len < 65536) (hnm : NamesOk r) (hlb : (bodyL r).length < 65536) (hk : r.kind = 8)  :
  Ret PP 130 [.pointer (some ⟨bb, 0, none⟩), ag (rhSegs (bt r.name) typ r.cls r.ttl len), ag [bvs (fixedL r.data 16)]] w (BldC w bb g gm n bs (packRec C n r).1 sec x0 x1 c cm (packRec C n r).2) := by
 have hbn := BR.len hR
 obtain ⟨a0, c0, rfl, -⟩ := hR.form
 have hf : Fr (fun k => k = g ∨ k = gm ∨ k = bb) w w := Fr.refl _ _
 have z_hb := hb.lt
 refine ret_of Tryz.func130 rfl rfl rfl [(0, _), (1, _), (2, _)] rfl ?_
 refine sreg ?_
 refine svK (xboxS (lens := [256, 1, 1, 1, 1]) rfl (by simp [rhSegs, nm_length])) ?_
 rintro _ w2 ⟨b4, rfl, m3, h4, e1, s1⟩
 have hb := hb.keep m3 id
 have hR := hR.keep m3 id
 have hC := hC.keep m3 nF
 have hG := hG.keep (fun k hk => by omega) m3 nF
 have hf := hf.step0 m3
 refine svK (xboxS (lens := [16]) rfl (by simp [bvs_length, fixedL_length])) ?_
 rintro _ w5 ⟨b5, rfl, m6, h5, e4, s4⟩
 have hb := hb.keep m6 id
 have hR := hR.keep m6 id
 have hC := hC.keep m6 nF
 have hG := hG.keep (fun k hk => by omega) m6 nF
 have hf := hf.step0 m6
 have h4 := h4.keep m6 id
 refine sA rfl (send (fg [(0, _), (4, _), (5, _)] ⟨rfl, rfl, rfl, ⟨⟩⟩ fun _ => (wp_seq (sreg (sM rfl ?_)))))
 refine sc (xcall ca162 rfl) (c162 hb hs3 hs5) ?_
 rintro _ w7 ⟨rfl, m8⟩
 have z9 := m8.size
 have hb := hb.keep m8 id
 have hR := hR.keep m8 id
 have hC := hC.keep m8 nF
 have hG := hG.keep (fun k hk => by omega) m8 nF
 have hf := hf.step0 m8
 have h4 := h4.keep m8 id
 have h5 := h5.keep m8 id
 refine sA rfl (send (fg [(0, _), (4, _), (5, _), (7, _)] ⟨rfl, rfl, rfl, rfl, ⟨⟩⟩ fun _ => (sreg (sM rfl (sv (xneN if89 rfl) (send (fg [(0, _), (4, _), (5, _), (7, _), (17, _)] ⟨rfl, rfl, rfl, rfl, rfl, ⟨⟩⟩ fun _ => (cno rfl (wp_skip (nThen (fg [(0, _), (4, _), (5, _)] ⟨rfl, rfl, rfl, ⟨⟩⟩ fun _ => (sreg ?_))))))))))))
 refine sc (xcall ca177 rfl) (c177r hk) ?_
 rintro _ w10 ⟨rfl, m11⟩
 have z12 := m11.size
 have hb := hb.keep m11 id
 have hR := hR.keep m11 id
 have hC := hC.keep m11 nF
 have hG := hG.keep (fun k hk => by omega) m11 nF
 have hf := hf.step0 m11
 have h4 := h4.keep m11 id
 have h5 := h5.keep m11 id
 refine sv (xfld fl135_1 rfl) ?_
 refine suK (xstF 1 sz83 h4 rfl rfl rfl rfl rfl) ?_
 rintro w14 ⟨m15, h4, s13⟩
 have hb := hb.keep m15 (by show ¬ (bb = b4); omega)
 have hR := hR.keep m15 (by show ¬ (g = b4); omega)
 have hC := hC.keep m15 (fun b hb => by have hb := hm b hb; show ¬ (b = b4); omega)
 have hG := hG.keep (fun k hk => by omega) m15 (fun k hk hS => by have hk := hk; have hS : k = b4 := hS; omega)
 have hf := hf.step m15 (fun k hk hS => by have hS : k = b4 := hS; show k = g ∨ k = gm ∨ k = bb; omega)
 have h5 := h5.keep m15 (by show ¬ (b5 = b4); omega)
 have h4 : SB w14 b4 lRH (rhSegs (bt r.name) (typeN r) r.cls r.ttl len) := h4
 refine send (fg [(0, _), (4, _), (5, _)] ⟨rfl, rfl, rfl, ⟨⟩⟩ fun _ => ?_)
 refine sdrawH (Fr (fun k => k = g ∨ k = gm) w14.drew) [(0, .rd), (1, .rd), (2, .rd), (3, .rd), (4, .rd), (5, .rd), (6, .rd), (7, .rd), (8, .rd), (9, .rd), (10, .rd), (11, .rd), (12, .ld), (13, .rd), (14, .rd), (15, .rd), (16, .rd), (17, .rd), (18, .rd), (19, .rd)] mixed (by kernel_rfl) (fun _ _ _ _ _ h => h) ?_
 have z16 : w14.drew.heap.size = w14.heap.size := rfl
 have hb := hb.drew
 have hR := hR.keep (fd w14) id
 have hC := hC.keep (fd w14) nF
 have hG := hG.keep (fun k hk => by omega) (fd w14) nF
 have hf := hf.drew
 have h4 := h4.drew
 have h5 := h5.drew
 have zb_hb := hb
 have hS17 : Fr (fun k => k = g ∨ k = gm) w14.drew w14.drew := Fr.refl _ _
 refine qqM rfl rfl hS17 (qqN rfl rfl hS17 (hvH rfl (fun _ _ => xfld fl148_0 rfl) hS17 (hvH rfl (fun w' hS => xld on37 rfl ((zb_hb.keep hS (by show ¬ (bb = g ∨ bb = gm); omega)).r.c 0 rfl rfl)) hS17 (qqM rfl rfl hS17 (qqN rfl rfl hS17 (hvH rfl (fun _ _ => xfld fl148_4 rfl) hS17 (hvH rfl (fun w' hS => xld on146 rfl ((zb_hb.keep hS (by show ¬ (bb = g ∨ bb = gm); omega)).r.c 9 rfl rfl)) hS17 (qqM rfl rfl hS17 (qqN rfl rfl hS17 (hvH rfl (fun _ _ => xfld fl148_3 rfl) hS17 (hvH rfl (fun w' hS => xld on3 rfl ((zb_hb.keep hS (by show ¬ (bb = g ∨ bb = gm); omega)).r.c 8 rfl rfl)) hS17 ?_)))))))))))
 refine hcH rfl (xcall ca152 rfl) (c152 (gm := gm) (pos := n) (start := 0) hR (by omega) (by omega) (by omega) (by omega) h4.r hnm.1 (by omega) hC (fun b hb => ⟨hm b hb, by omega, by omega⟩) (by omega) (by omega)) ?_
 rintro _ w18 ⟨p34, q34, g34, rfl, r34, m19, a34, l34, hC⟩
 have z20 := m19.size
 have hb := hb.keep m19 (by show ¬ (bb = g ∨ bb = gm); omega)
 have hG := hG.keep (fun k hk => by omega) m19 (fun k hk hS => by have hk := hk; have hS : k = g ∨ k = gm := hS; omega)
 have hf := hf.step m19 (fun k hk hS => by have hS : k = g ∨ k = gm := hS; show k = g ∨ k = gm ∨ k = bb; omega)
 have h4 := h4.keep m19 (by show ¬ (b4 = g ∨ b4 = gm); omega)
 have h5 := h5.keep m19 (by show ¬ (b5 = g ∨ b5 = gm); omega)
 have hS21 := hS17.step m19 (fun k hk hS => by have hS : k = g ∨ k = gm := hS; show k = g ∨ k = gm; omega)
 have hpn := packName_bound (C := C) (pos := n) hnm.1
 have e39 : ((packName C n (bt r.name)).1 ++ hdTail (typeN r) r.cls r.ttl len).length = (packName C n (bt r.name)).1.length + 10 := by simp [hdTail_length]
 refine ⟨hS21, ?_⟩
 refine qqM rfl rfl hS21 (hvH rfl (fun _ _ => xex30 rfl) hS21 (hvH rfl (fun _ _ => xex31 rfl) hS21 (hvH rfl (fun _ _ => xex32 rfl) hS21 (qqA rfl rfl hS21 (qqA rfl rfl hS21 (qqA rfl rfl hS21 (hendH (fg [(0, _), (4, _), (5, _), (8, _), (9, _), (10, _)] ⟨rfl, rfl, rfl, rfl, rfl, rfl, ⟨⟩⟩ fun _ => (wp_seq (sreg (sM rfl (sv (xneN if89 rfl) (send (fg [(0, _), (4, _), (5, _), (8, _), (9, _), (10, _), (39, _)] ⟨rfl, rfl, rfl, rfl, rfl, rfl, rfl, ⟨⟩⟩ fun _ => (cno rfl (wp_skip (nThen (fg [(0, _), (4, _), (5, _), (8, _), (9, _)] ⟨rfl, rfl, rfl, rfl, rfl, ⟨⟩⟩ fun _ => (sreg (sM rfl (sv (xlen sl37 rfl) (sA rfl (send (fg [(0, _), (4, _), (5, _), (8, _), (9, _), (11, _)] ⟨rfl, rfl, rfl, rfl, rfl, rfl, ⟨⟩⟩ fun _ => ?_))))))))))))))))))))))))
 refine wp_seq ?_
 refine sdrawH (Fr (fun k => k = g34 ∨ k = gm) w18.drew) [(0, .rd), (1, .rd), (2, .rd), (3, .rd), (4, .rd), (5, .rd), (6, .rd), (7, .rd), (8, .rd), (9, .ld), (10, .rd), (11, .rd), (12, .rd), (13, .rd), (14, .rd)] mixed (by kernel_rfl) (fun _ _ _ _ _ h => h) ?_
 have z22 : w18.drew.heap.size = w18.heap.size := rfl
 have hb := hb.drew
 have hG := hG.keep (fun k hk => by omega) (fd w18) nF
 have hf := hf.drew
 have h4 := h4.drew
 have h5 := h5.drew
 have r34 := r34.keep (fd w18) id
 have hC := hC.keep (fd w18) nF
 have zb_hb := hb
 have hS23 : Fr (fun k => k = g34 ∨ k = gm) w18.drew w18.drew := Fr.refl _ _
 refine qqM rfl rfl hS23 (qqM rfl rfl hS23 (qqN rfl rfl hS23 (hvH rfl (fun _ _ => xfld fl148_4 rfl) hS23 (hvH rfl (fun w' hS => xld on146 rfl ((zb_hb.keep hS (by show ¬ (bb = g34 ∨ bb = gm); omega)).r.c 9 rfl rfl)) hS23 (qqM rfl rfl hS23 (qqN rfl rfl hS23 (hvH rfl (fun _ _ => xfld fl148_3 rfl) hS23 (hvH rfl (fun w' hS => xld on3 rfl ((zb_hb.keep hS (by show ¬ (bb = g34 ∨ bb = gm); omega)).r.c 8 rfl rfl)) hS23 ?_))))))))
 refine hcH rfl (xcall ca178 rfl) (c178 (gm := gm) (pos := (n + (packName C n (bt r.name)).1.length + 10)) (start := 0) r34 (by omega) (by omega) (by omega) (by omega) hk h5.r (by omega) hC (fun b hb => ⟨hm b hb, by omega, by omega⟩) (by omega) (by omega)) ?_
 rintro _ w24 ⟨p56, q56, g56, rfl, r56, m25, a56, l56, hC⟩
 have z26 := m25.size
 have hb := hb.keep m25 (by show ¬ (bb = g34 ∨ bb = gm); omega)
 have hG := hG.keep (fun k hk => by omega) m25 (fun k hk hS => by have hk := hk; have hS : k = g34 ∨ k = gm := hS; omega)
 have hf := hf.step m25 (fun k hk hS => by have hS : k = g34 ∨ k = gm := hS; show k = g ∨ k = gm ∨ k = bb; omega)
 have h4 := h4.keep m25 (by show ¬ (b4 = g34 ∨ b4 = gm); omega)
 have hS27 := hS23.step m25 (fun k hk hS => by have hS : k = g34 ∨ k = gm := hS; show k = g34 ∨ k = gm; omega)
 have hbl := packBody_len (C := (packName C n (bt r.name)).2) (pos := (n + (packName C n (bt r.name)).1.length + 10)) hnm hlb
 refine ⟨hS27, ?_⟩
 refine qqM rfl rfl hS27 (hvH rfl (fun _ _ => xex20 rfl) hS27 (hvH rfl (fun _ _ => xex21 rfl) hS27 (qqA rfl rfl hS27 (qqA rfl rfl hS27 (hendH (fg [(0, _), (4, _), (8, _), (9, _), (10, _), (11, _)] ⟨rfl, rfl, rfl, rfl, rfl, rfl, ⟨⟩⟩ fun _ => (sreg (sM rfl (sv (xneN if89 rfl) (send (fg [(0, _), (4, _), (8, _), (9, _), (10, _), (11, _), (60, _)] ⟨rfl, rfl, rfl, rfl, rfl, rfl, rfl, ⟨⟩⟩ fun _ => (cno rfl (wp_skip (nThen (fg [(0, _), (4, _), (8, _), (9, _), (11, _)] ⟨rfl, rfl, rfl, rfl, rfl, ⟨⟩⟩ fun _ => (wp_seq (sreg (sM rfl (sM rfl (sM rfl ?_))))))))))))))))))))
 have r56 := br_cast (bs := (bs ++ ((packName C n (bt r.name)).1 ++ (be16 (typeN r).toNat ++ (be16 r.cls.toNat ++ be32 r.ttl.toNat)))) ++ (be16 len ++ (packBody (packName C n (bt r.name)).2 (n + (packName C n (bt r.name)).1.length + 10) r).1)) r56 (by simp [hdTail]) rfl
 obtain ⟨T4, hE4⟩ := SE.ofSB h4
 refine sc (xcall ca153 rfl) (c153 (preLen := n + ((packName C n (bt r.name)).1 ++ hdTail (typeN r) r.cls r.ttl len).length) (len := len) (typ := typeN r) (cls := r.cls) (ttl := r.ttl) (s := bt r.name) (pre := []) (post := []) r56 (by omega) rfl hE4 rfl (by omega) (by simp [be16_length, be32_length]; omega) (by omega) (by omega) (by omega)) ?_
 rintro _ w28 ⟨rfl, r56, hE4b, m29⟩
 have z30 := m29.size
 have hb := hb.keep m29 (by show ¬ (bb = g56 ∨ bb = b4); omega)
 have hG := hG.keep (fun k hk => by omega) m29 (fun k hk hS => by have hk := hk; have hS : k = g56 ∨ k = b4 := hS; omega)
 have hf := hf.step m29 (fun k hk hS => by have hS : k = g56 ∨ k = b4 := hS; show k = g ∨ k = gm ∨ k = bb; omega)
 have hC := hC.keep m29 (fun b hb => by have hb := hm b hb; show ¬ (b = g56 ∨ b = b4); omega)
 have en : n + ((packName C n (bt r.name)).1 ++ hdTail (typeN r) r.cls r.ttl len).length + (packBody (packName C n (bt r.name)).2 (n + (packName C n (bt r.name)).1.length + 10) r).1.length - (n + ((packName C n (bt r.name)).1 ++ hdTail (typeN r) r.cls r.ttl len).length) = (packBody (packName C n (bt r.name)).2 (n + (packName C n (bt r.name)).1.length + 10) r).1.length := by omega
 rw [en] at r56
 refine sA rfl (send (fg [(0, _), (8, _), (12, _)] ⟨rfl, rfl, rfl, ⟨⟩⟩ fun _ => (sreg (sM rfl (sv (xneN if89 rfl) (send (fg [(0, _), (8, _), (12, _), (70, _)] ⟨rfl, rfl, rfl, rfl, ⟨⟩⟩ fun _ => (cno rfl (wp_skip (nThen (fg [(0, _), (8, _)] ⟨rfl, rfl, ⟨⟩⟩ fun _ => (wp_seq (sreg (sM rfl ?_))))))))))))))
 refine sc (xcall ca115 rfl) (c115 hb hG (by omega) (by omega) (by omega) hc) ?_
 rintro _ w31 ⟨rfl, hb, m32⟩
 have z33 := m32.size
 have hf := hf.step m32 (fun k hk hS => by have hS : k = bb := hS; show k = g ∨ k = gm ∨ k = bb; omega)
 have hC := hC.keep m32 (fun b hb => by have hb := hm b hb; show ¬ (b = bb); omega)
 have r56 := r56.keep m32 (by show ¬ (g56 = bb); omega)
 refine sA rfl (send (fg [(0, _), (8, _), (13, _)] ⟨rfl, rfl, rfl, ⟨⟩⟩ fun _ => (sreg (sM rfl (sv (xneN if89 rfl) (send (fg [(0, _), (8, _), (13, _), (75, _)] ⟨rfl, rfl, rfl, rfl, ⟨⟩⟩ fun _ => (cno rfl (wp_skip (nThen (fg [(0, _), (8, _)] ⟨rfl, rfl, ⟨⟩⟩ fun _ => (sreg (sM rfl (sM rfl (sN rfl (sv (xfld fl148_0 rfl) ?_))))))))))))))))
 refine suK (xstF 0 sz37 hb rfl rfl rfl rfl rfl) ?_
 rintro w35 ⟨m36, hb, s34⟩
 have hf := hf.step m36 (fun k hk hS => by have hS : k = bb := hS; show k = g ∨ k = gm ∨ k = bb; omega)
 have hC := hC.keep m36 (fun b hb => by have hb := hm b hb; show ¬ (b = bb); omega)
 have r56 := r56.keep m36 (by show ¬ (g56 = bb); omega)
 refine send (fg [] trivial fun _ => (sreg (sA rfl (send (fg [(6, _)] ⟨rfl, ⟨⟩⟩ fun _ => (wp_ret ?_))))))
 refine rp1 rfl rfl ?_
 have eo : n + (packRec C n r).1.length = n + ((packName C n (bt r.name)).1 ++ hdTail (typeN r) r.cls r.ttl len).length + (packBody (packName C n (bt r.name)).2 (n + (packName C n (bt r.name)).1.length + 10) r).1.length := by simp only [packRec, packTail, List.length_append, be16_length, be32_length, hdTail_length]; omega
 refine ⟨p56, q56, g56, rfl, ?_, ?_, hC, hf, by omega, by omega⟩
 · rw [eo]; exact hb
 · rw [eo]; exact br_cast r56 (by simp [packRec, packTail]) rfl
set_option maxHeartbeats 4000000 in
set_option maxRecDepth 100000 in
theorem c132 {w : World} {bb g gm n sec x0 x1 : Nat} {v : Value} {bs : List UInt8} {c : Nat → Nat} {cm : Option Nat} {C : Option Ent} (hb : SB w bb lB (bSegs v sec x0 x1 c cm)) (hR : BR w v g n bs) (hC : Cmp w cm C) (hm : ∀ b, cm = some b → b = gm) (hG : GB w) (hz : 5 ≤ g ∧ g < w.heap.size ∧ 5 ≤ gm ∧ gm < w.heap.size ∧ gm ≠ g ∧ 5 ≤ bb ∧ bb ≠ g ∧ bb ≠ gm) (hn0 : 0 < n) (hl : n < 900000000) (hc : ∀ i, c i < 60000) {r : RecD} {typ : UInt16} {len : Nat} (hs3 : 3 ≤ sec) (hs5 : sec ≤ 5) (hlen : len < 65536) (hnm : NamesOk r) (hlb : (bodyL r).length < 65536) (hk : r.kind = 9)  :
  Ret PP 132 [.pointer (some ⟨bb, 0, none⟩), ag (rhSegs (bt r.name) typ r.cls r.ttl len), ag [[.int .u16 ((r.n1.toNat % 65536 : Nat) : Int)], [.int .u16 ((r.n2.toNat % 65536 : Nat) : Int)], [.int .u16 ((r.n3.toNat % 65536 : Nat) : Int)], nm (bt r.host)]] w (BldC w bb g gm n bs (packRec C n r).1 sec x0 x1 c cm (packRec C n r).2) := by
 have hbn := BR.len hR
 obtain ⟨a0, c0, rfl, -⟩ := hR.form
 have hf : Fr (fun k => k = g ∨ k = gm ∨ k = bb) w w := Fr.refl _ _
 have z_hb := hb.lt
 refine ret_of Tryz.func132 rfl rfl rfl [(0, _), (1, _), (2, _)] rfl ?_
 refine sreg ?_
 refine svK (xboxS (lens := [256, 1, 1, 1, 1]) rfl (by simp [rhSegs, nm_length])) ?_
 rintro _ w2 ⟨b4, rfl, m3, h4, e1, s1⟩
 have hb := hb.keep m3 id
 have hR := hR.keep m3 id
 have hC := hC.keep m3 nF
 have hG := hG.keep (fun k hk => by omega) m3 nF
 have hf := hf.step0 m3
 refine svK (xboxS (lens := [1, 1, 1, 256]) rfl (by simp [nm_length])) ?_
 rintro _ w5 ⟨b5, rfl, m6, h5, e4, s4⟩
 have hb := hb.keep m6 id
 have hR := hR.keep m6 id
 have hC := hC.keep m6 nF
 have hG := hG.keep (fun k hk => by omega) m6 nF
 have hf := hf.step0 m6
 have h4 := h4.keep m6 id
 refine sA rfl (send (fg [(0, _), (4, _), (5, _)] ⟨rfl, rfl, rfl, ⟨⟩⟩ fun _ => (wp_seq (sreg (sM rfl ?_)))))
 refine sc (xcall ca162 rfl) (c162 hb hs3 hs5) ?_
 rintro _ w7 ⟨rfl, m8⟩
 have z9 := m8.size
 have hb := hb.keep m8 id
 have hR := hR.keep m8 id
 have hC := hC.keep m8 nF
 have hG := hG.keep (fun k hk => by omega) m8 nF
 have hf := hf.step0 m8
 have h4 := h4.keep m8 id
 have h5 := h5.keep m8 id
 refine sA rfl (send (fg [(0, _), (4, _), (5, _), (7, _)] ⟨rfl, rfl, rfl, rfl, ⟨⟩⟩ fun _ => (sreg (sM rfl (sv (xneN if89 rfl) (send (fg [(0, _), (4, _), (5, _), (7, _), (17, _)] ⟨rfl, rfl, rfl, rfl, rfl, ⟨⟩⟩ fun _ => (cno rfl (wp_skip (nThen (fg [(0, _), (4, _), (5, _)] ⟨rfl, rfl, rfl, ⟨⟩⟩ fun _ => (sreg ?_))))))))))))
 refine sc (xcall ca179 rfl) (c179r hk) ?_
 rintro _ w10 ⟨rfl, m11⟩
 have z12 := m11.size
 have hb := hb.keep m11 id
 have hR := hR.keep m11 id
 have hC := hC.keep m11 nF
 have hG := hG.keep (fun k hk => by omega) m11 nF
 have hf := hf.step0 m11
 have h4 := h4.keep m11 id
 have h5 := h5.keep m11 id
 refine sv (xfld fl135_1 rfl) ?_
 refine suK (xstF 1 sz83 h4 rfl rfl rfl rfl rfl) ?_
 rintro w14 ⟨m15, h4, s13⟩
 have hb := hb.keep m15 (by show ¬ (bb = b4); omega)
 have hR := hR.keep m15 (by show ¬ (g = b4); omega)
 have hC := hC.keep m15 (fun b hb => by have hb := hm b hb; show ¬ (b = b4); omega)
 have hG := hG.keep (fun k hk => by omega) m15 (fun k hk hS => by have hk := hk; have hS : k = b4 := hS; omega)
 have hf := hf.step m15 (fun k hk hS => by have hS : k = b4 := hS; show k = g ∨ k = gm ∨ k = bb; omega)
 have h5 := h5.keep m15 (by show ¬ (b5 = b4); omega)
 have h4 : SB w14 b4 lRH (rhSegs (bt r.name) (typeN r) r.cls r.ttl len) := h4
 refine send (fg [(0, _), (4, _), (5, _)] ⟨rfl, rfl, rfl, ⟨⟩⟩ fun _ => ?_)
 refine sdrawH (Fr (fun k => k = g ∨ k = gm) w14.drew) [(0, .rd), (1, .rd), (2, .rd), (3, .rd), (4, .rd), (5, .rd), (6, .rd), (7, .rd), (8, .rd), (9, .rd), (10, .rd), (11, .rd), (12, .ld), (13, .rd), (14, .rd), (15, .rd), (16, .rd), (17, .rd), (18, .rd), (19, .rd)] mixed (by kernel_rfl) (fun _ _ _ _ _ h => h) ?_
 have z16 : w14.drew.heap.size = w14.heap.size := rfl
 have hb := hb.drew
 have hR := hR.keep (fd w14) id
 have hC := hC.keep (fd w14) nF
 have hG := hG.keep (fun k hk => by omega) (fd w14) nF
 have hf := hf.drew
 have h4 := h4.drew
 have h5 := h5.drew
 have zb_hb := hb
 have hS17 : Fr (fun k => k = g ∨ k = gm) w14.drew w14.drew := Fr.refl _ _
 refine qqM rfl rfl hS17 (qqN rfl rfl hS17 (hvH rfl (fun _ _ => xfld fl148_0 rfl) hS17 (hvH rfl (fun w' hS => xld on37 rfl ((zb_hb.keep hS (by show ¬ (bb = g ∨ bb = gm); omega)).r.c 0 rfl rfl)) hS17 (qqM rfl rfl hS17 (qqN rfl rfl hS17 (hvH rfl (fun _ _ => xfld fl148_4 rfl) hS17 (hvH rfl (fun w' hS => xld on146 rfl ((zb_hb.keep hS (by show ¬ (bb = g ∨ bb = gm); omega)).r.c 9 rfl rfl)) hS17 (qqM rfl rfl hS17 (qqN rfl rfl hS17 (hvH rfl (fun _ _ => xfld fl148_3 rfl) hS17 (hvH rfl (fun w' hS => xld on3 rfl ((zb_hb.keep hS (by show ¬ (bb = g ∨ bb = gm); omega)).r.c 8 rfl rfl)) hS17 ?_)))))))))))
 refine hcH rfl (xcall ca152 rfl) (c152 (gm := gm) (pos := n) (start := 0) hR (by omega) (by omega) (by omega) (by omega) h4.r hnm.1 (by omega) hC (fun b hb => ⟨hm b hb, by omega, by omega⟩) (by omega) (by omega)) ?_
 rintro _ w18 ⟨p34, q34, g34, rfl, r34, m19, a34, l34, hC⟩
 have z20 := m19.size
 have hb := hb.keep m19 (by show ¬ (bb = g ∨ bb = gm); omega)
 have hG := hG.keep (fun k hk => by omega) m19 (fun k hk hS => by have hk := hk; have hS : k = g ∨ k = gm := hS; omega)
 have hf := hf.step m19 (fun k hk hS => by have hS : k = g ∨ k = gm := hS; show k = g ∨ k = gm ∨ k = bb; omega)
 have h4 := h4.keep m19 (by show ¬ (b4 = g ∨ b4 = gm); omega)
 have h5 := h5.keep m19 (by show ¬ (b5 = g ∨ b5 = gm); omega)
 have hS21 := hS17.step m19 (fun k hk hS => by have hS : k = g ∨ k = gm := hS; show k = g ∨ k = gm; omega)
 have hpn := packName_bound (C := C) (pos := n) hnm.1
 have e39 : ((packName C n (bt r.name)).1 ++ hdTail (typeN r) r.cls r.ttl len).length = (packName C n (bt r.name)).1.length + 10 := by simp [hdTail_length]
 refine ⟨hS21, ?_⟩
 refine qqM rfl rfl hS21 (hvH rfl (fun _ _ => xex30 rfl) hS21 (hvH rfl (fun _ _ => xex31 rfl) hS21 (hvH rfl (fun _ _ => xex32 rfl) hS21 (qqA rfl rfl hS21 (qqA rfl rfl hS21 (qqA rfl rfl hS21 (hendH (fg [(0, _), (4, _), (5, _), (8, _), (9, _), (10, _)] ⟨rfl, rfl, rfl, rfl, rfl, rfl, ⟨⟩⟩ fun _ => (wp_seq (sreg (sM rfl (sv (xneN if89 rfl) (send (fg [(0, _), (4, _), (5, _), (8, _), (9, _), (10, _), (39, _)] ⟨rfl, rfl, rfl, rfl, rfl, rfl, rfl, ⟨⟩⟩ fun _ => (cno rfl (wp_skip (nThen (fg [(0, _), (4, _), (5, _), (8, _), (9, _)] ⟨rfl, rfl, rfl, rfl, rfl, ⟨⟩⟩ fun _ => (sreg (sM rfl (sv (xlen sl37 rfl) (sA rfl (send (fg [(0, _), (4, _), (5, _), (8, _), (9, _), (11, _)] ⟨rfl, rfl, rfl, rfl, rfl, rfl, ⟨⟩⟩ fun _ => ?_))))))))))))))))))))))))
 refine wp_seq ?_
 refine sdrawH (Fr (fun k => k = g34 ∨ k = gm) w18.drew) [(0, .rd), (1, .rd), (2, .rd), (3, .rd), (4, .rd), (5, .rd), (6, .rd), (7, .rd), (8, .rd), (9, .ld), (10, .rd), (11, .rd), (12, .rd), (13, .rd), (14, .rd)] mixed (by kernel_rfl) (fun _ _ _ _ _ h => h) ?_
 have z22 : w18.drew.heap.size = w18.heap.size := rfl
 have hb := hb.drew
 have hG := hG.keep (fun k hk => by omega) (fd w18) nF
 have hf := hf.drew
 have h4 := h4.drew
 have h5 := h5.drew
 have r34 := r34.keep (fd w18) id
 have hC := hC.keep (fd w18) nF
 have zb_hb := hb
 have hS23 : Fr (fun k => k = g34 ∨ k = gm) w18.drew w18.drew := Fr.refl _ _
 refine qqM rfl rfl hS23 (qqM rfl rfl hS23 (qqN rfl rfl hS23 (hvH rfl (fun _ _ => xfld fl148_4 rfl) hS23 (hvH rfl (fun w' hS => xld on146 rfl ((zb_hb.keep hS (by show ¬ (bb = g34 ∨ bb = gm); omega)).r.c 9 rfl rfl)) hS23 (qqM rfl rfl hS23 (qqN rfl rfl hS23 (hvH rfl (fun _ _ => xfld fl148_3 rfl) hS23 (hvH rfl (fun w' hS => xld on3 rfl ((zb_hb.keep hS (by show ¬ (bb = g34 ∨ bb = gm); omega)).r.c 8 rfl rfl)) hS23 ?_))))))))
 refine hcH rfl (xcall ca180 rfl) (c180 (gm := gm) (pos := (n + (packName C n (bt r.name)).1.length + 10)) (start := 0) r34 (by omega) (by omega) (by omega) (by omega) hk h5.r (by omega) (hnm.2.1 (by omega)) hC (fun b hb => ⟨hm b hb, by omega, by omega⟩) (by omega) (by omega)) ?_
 rintro _ w24 ⟨p56, q56, g56, rfl, r56, m25, a56, l56, hC⟩
 have z26 := m25.size
 have hb := hb.keep m25 (by show ¬ (bb = g34 ∨ bb = gm); omega)
 have hG := hG.keep (fun k hk => by omega) m25 (fun k hk hS => by have hk := hk; have hS : k = g34 ∨ k = gm := hS; omega)
 have hf := hf.step m25 (fun k hk hS => by have hS : k = g34 ∨ k = gm := hS; show k = g ∨ k = gm ∨ k = bb; omega)
 have h4 := h4.keep m25 (by show ¬ (b4 = g34 ∨ b4 = gm); omega)
 have hS27 := hS23.step m25 (fun k hk hS => by have hS : k = g34 ∨ k = gm := hS; show k = g34 ∨ k = gm; omega)
 have hbl := packBody_len (C := (packName C n (bt r.name)).2) (pos := (n + (packName C n (bt r.name)).1.length + 10)) hnm hlb
 refine ⟨hS27, ?_⟩
 refine qqM rfl rfl hS27 (hvH rfl (fun _ _ => xex20 rfl) hS27 (hvH rfl (fun _ _ => xex21 rfl) hS27 (qqA rfl rfl hS27 (qqA rfl rfl hS27 (hendH (fg [(0, _), (4, _), (8, _), (9, _), (10, _), (11, _)] ⟨rfl, rfl, rfl, rfl, rfl, rfl, ⟨⟩⟩ fun _ => (sreg (sM rfl (sv (xneN if89 rfl) (send (fg [(0, _), (4, _), (8, _), (9, _), (10, _), (11, _), (60, _)] ⟨rfl, rfl, rfl, rfl, rfl, rfl, rfl, ⟨⟩⟩ fun _ => (cno rfl (wp_skip (nThen (fg [(0, _), (4, _), (8, _), (9, _), (11, _)] ⟨rfl, rfl, rfl, rfl, rfl, ⟨⟩⟩ fun _ => (wp_seq (sreg (sM rfl (sM rfl (sM rfl ?_))))))))))))))))))))
 have r56 := br_cast (bs := (bs ++ ((packName C n (bt r.name)).1 ++ (be16 (typeN r).toNat ++ (be16 r.cls.toNat ++ be32 r.ttl.toNat)))) ++ (be16 len ++ (packBody (packName C n (bt r.name)).2 (n + (packName C n (bt r.name)).1.length + 10) r).1)) r56 (by simp [hdTail]) rfl
 obtain ⟨T4, hE4⟩ := SE.ofSB h4
 refine sc (xcall ca153 rfl) (c153 (preLen := n + ((packName C n (bt r.name)).1 ++ hdTail (typeN r) r.cls r.ttl len).length) (len := len) (typ := typeN r) (cls := r.cls) (ttl := r.ttl) (s := bt r.name) (pre := []) (post := []) r56 (by omega) rfl hE4 rfl (by omega) (by simp [be16_length, be32_length]; omega) (by omega) (by omega) (by omega)) ?_
 rintro _ w28 ⟨rfl, r56, hE4b, m29⟩
 have z30 := m29.size
 have hb := hb.keep m29 (by show ¬ (bb = g56 ∨ bb = b4); omega)
 have hG := hG.keep (fun k hk => by omega) m29 (fun k hk hS => by have hk := hk; have hS : k = g56 ∨ k = b4 := hS; omega)
 have hf := hf.step m29 (fun k hk hS => by have hS : k = g56 ∨ k = b4 := hS; show k = g ∨ k = gm ∨ k = bb; omega)
 have hC := hC.keep m29 (fun b hb => by have hb := hm b hb; show ¬ (b = g56 ∨ b = b4); omega)
 have en : n + ((packName C n (bt r.name)).1 ++ hdTail (typeN r) r.cls r.ttl len).length + (packBody (packName C n (bt r.name)).2 (n + (packName C n (bt r.name)).1.length + 10) r).1.length - (n + ((packName C n (bt r.name)).1 ++ hdTail (typeN r) r.cls r.ttl len).length) = (packBody (packName C n (bt r.name)).2 (n + (packName C n (bt r.name)).1.length + 10) r).1.length := by omega
 rw [en] at r56
 refine sA rfl (send (fg [(0, _), (8, _), (12, _)] ⟨rfl, rfl, rfl, ⟨⟩⟩ fun _ => (sreg (sM rfl (sv (xneN if89 rfl) (send (fg [(0, _), (8, _), (12, _), (70, _)] ⟨rfl, rfl, rfl, rfl, ⟨⟩⟩ fun _ => (cno rfl (wp_skip (nThen (fg [(0, _), (8, _)] ⟨rfl, rfl, ⟨⟩⟩ fun _ => (wp_seq (sreg (sM rfl ?_))))))))))))))
 refine sc (xcall ca115 rfl) (c115 hb hG (by omega) (by omega) (by omega) hc) ?_
 rintro _ w31 ⟨rfl, hb, m32⟩
 have z33 := m32.size
 have hf := hf.step m32 (fun k hk hS => by have hS : k = bb := hS; show k = g ∨ k = gm ∨ k = bb; omega)
 have hC := hC.keep m32 (fun b hb => by have hb := hm b hb; show ¬ (b = bb); omega)
 have r56 := r56.keep m32 (by show ¬ (g56 = bb); omega)
 refine sA rfl (send (fg [(0, _), (8, _), (13, _)] ⟨rfl, rfl, rfl, ⟨⟩⟩ fun _ => (sreg (sM rfl (sv (xneN if89 rfl) (send (fg [(0, _), (8, _), (13, _), (75, _)] ⟨rfl, rfl, rfl, rfl, ⟨⟩⟩ fun _ => (cno rfl (wp_skip (nThen (fg [(0, _), (8, _)] ⟨rfl, rfl, ⟨⟩⟩ fun _ => (sreg (sM rfl (sM rfl (sN rfl (sv (xfld fl148_0 rfl) ?_))))))))))))))))
 refine suK (xstF 0 sz37 hb rfl rfl rfl rfl rfl) ?_
 rintro w35 ⟨m36, hb, s34⟩
 have hf := hf.step m36 (fun k hk hS => by have hS : k = bb := hS; show k = g ∨ k = gm ∨ k = bb; omega)
 have hC := hC.keep m36 (fun b hb => by have hb := hm b hb; show ¬ (b = bb); omega)
 have r56 := r56.keep m36 (by show ¬ (g56 = bb); omega)
 refine send (fg [] trivial fun _ => (sreg (sA rfl (send (fg [(6, _)] ⟨rfl, ⟨⟩⟩ fun _ => (wp_ret ?_))))))
 refine rp1 rfl rfl ?_
 have eo : n + (packRec C n r).1.length = n + ((packName C n (bt r.name)).1 ++ hdTail (typeN r) r.cls r.ttl len).length + (packBody (packName C n (bt r.name)).2 (n + (packName C n (bt r.name)).1.length + 10) r).1.length := by simp only [packRec, packTail, List.length_append, be16_length, be32_length, hdTail_length]; omega
 refine ⟨p56, q56, g56, rfl, ?_, ?_, hC, hf, by omega, by omega⟩
 · rw [eo]; exact hb
 · rw [eo]; exact br_cast r56 (by simp [packRec, packTail]) rfl
set_option maxHeartbeats 4000000 in
set_option maxRecDepth 100000 in
theorem c134 {w : World} {bb g gm n sec x0 x1 : Nat} {v : Value} {bs : List UInt8} {c : Nat → Nat} {cm : Option Nat} {C : Option Ent} (hb : SB w bb lB (bSegs v sec x0 x1 c cm)) (hR : BR w v g n bs) (hC : Cmp w cm C) (hm : ∀ b, cm = some b → b = gm) (hG : GB w) (hz : 5 ≤ g ∧ g < w.heap.size ∧ 5 ≤ gm ∧ gm < w.heap.size ∧ gm ≠ g ∧ 5 ≤ bb ∧ bb ≠ g ∧ bb ≠ gm) (hn0 : 0 < n) (hl : n < 900000000) (hc : ∀ i, c i < 60000) {r : RecD} {typ : UInt16} {len : Nat} (hs3 : 3 ≤ sec) (hs5 : sec ≤ 5) (hlen : len < 65536) (hnm : NamesOk r) (hlb : (bodyL r).length < 65536) (hk : r.kind = 10) {U : Nat → Prop} (hU : ∀ k, U k → k < w.heap.size ∧ k ≠ g ∧ k ≠ gm ∧ k ≠ bb) (hfp : FitP r) {vp : Value} (hp : LA PairEl lPair U w vp r.pairs)  :
  Ret PP 134 [.pointer (some ⟨bb, 0, none⟩), ag (rhSegs (bt r.name) typ r.cls r.ttl len), ag [[vp]]] w (BldC w bb g gm n bs (packRec C n r).1 sec x0 x1 c cm (packRec C n r).2) := by
 have hbn := BR.len hR
 obtain ⟨a0, c0, rfl, -⟩ := hR.form
 obtain ⟨ap0, cp0, rfl⟩ := hp.form
 have hf : Fr (fun k => k = g ∨ k = gm ∨ k = bb) w w := Fr.refl _ _
 have z_hb := hb.lt
 refine ret_of Tryz.func134 rfl rfl rfl [(0, _), (1, _), (2, _)] rfl ?_
 refine sreg ?_
 refine svK (xboxS (lens := [256, 1, 1, 1, 1]) rfl (by simp [rhSegs, nm_length])) ?_
 rintro _ w2 ⟨b4, rfl, m3, h4, e1, s1⟩
 have hb := hb.keep m3 id
 have hR := hR.keep m3 id
 have hC := hC.keep m3 nF
 have hG := hG.keep (fun k hk => by omega) m3 nF
 have hp := hp.keep pair_st (fun k hk => by have hk := hU k hk; omega) m3 nF
 have hf := hf.step0 m3
 refine svK (xboxS (lens := [1]) rfl (by simp [])) ?_
 rintro _ w5 ⟨b5, rfl, m6, h5, e4, s4⟩
 have hb := hb.keep m6 id
 have hR := hR.keep m6 id
 have hC := hC.keep m6 nF
 have hG := hG.keep (fun k hk => by omega) m6 nF
 have hp := hp.keep pair_st (fun k hk => by have hk := hU k hk; omega) m6 nF
 have hf := hf.step0 m6
 have h4 := h4.keep m6 id
 refine sA rfl (send (fg [(0, _), (4, _), (5, _)] ⟨rfl, rfl, rfl, ⟨⟩⟩ fun _ => (wp_seq (sreg (sM rfl ?_)))))
 refine sc (xcall ca162 rfl) (c162 hb hs3 hs5) ?_
 rintro _ w7 ⟨rfl, m8⟩
 have z9 := m8.size
 have hb := hb.keep m8 id
 have hR := hR.keep m8 id
 have hC := hC.keep m8 nF
 have hG := hG.keep (fun k hk => by omega) m8 nF
 have hp := hp.keep pair_st (fun k hk => by have hk := hU k hk; omega) m8 nF
 have hf := hf.step0 m8
 have h4 := h4.keep m8 id
 have h5 := h5.keep m8 id
 refine sA rfl (send (fg [(0, _), (4, _), (5, _), (7, _)] ⟨rfl, rfl, rfl, rfl, ⟨⟩⟩ fun _ => (sreg (sM rfl (sv (xneN if89 rfl) (send (fg [(0, _), (4, _), (5, _), (7, _), (17, _)] ⟨rfl, rfl, rfl, rfl, rfl, ⟨⟩⟩ fun _ => (cno rfl (wp_skip (nThen (fg [(0, _), (4, _), (5, _)] ⟨rfl, rfl, rfl, ⟨⟩⟩ fun _ => (sreg ?_))))))))))))
 refine sc (xcall ca181 rfl) (c181r hk) ?_
 rintro _ w10 ⟨rfl, m11⟩
 have z12 := m11.size
 have hb := hb.keep m11 id
 have hR := hR.keep m11 id
 have hC := hC.keep m11 nF
 have hG := hG.keep (fun k hk => by omega) m11 nF
 have hp := hp.keep pair_st (fun k hk => by have hk := hU k hk; omega) m11 nF
 have hf := hf.step0 m11
 have h4 := h4.keep m11 id
 have h5 := h5.keep m11 id
 refine sv (xfld fl135_1 rfl) ?_
 refine suK (xstF 1 sz83 h4 rfl rfl rfl rfl rfl) ?_
 rintro w14 ⟨m15, h4, s13⟩
 have hb := hb.keep m15 (by show ¬ (bb = b4); omega)
 have hR := hR.keep m15 (by show ¬ (g = b4); omega)
 have hC := hC.keep m15 (fun b hb => by have hb := hm b hb; show ¬ (b = b4); omega)
 have hG := hG.keep (fun k hk => by omega) m15 (fun k hk hS => by have hk := hk; have hS : k = b4 := hS; omega)
 have hp := hp.keep pair_st (fun k hk => by have hk := hU k hk; omega) m15 (fun k hk hS => by have hk := hU k hk; have hS : k = b4 := hS; omega)
 have hf := hf.step m15 (fun k hk hS => by have hS : k = b4 := hS; show k = g ∨ k = gm ∨ k = bb; omega)
 have h5 := h5.keep m15 (by show ¬ (b5 = b4); omega)
 have h4 : SB w14 b4 lRH (rhSegs (bt r.name) (typeN r) r.cls r.ttl len) := h4
 refine send (fg [(0, _), (4, _), (5, _)] ⟨rfl, rfl, rfl, ⟨⟩⟩ fun _ => ?_)
 refine sdrawH (Fr (fun k => k = g ∨ k = gm) w14.drew) [(0, .rd), (1, .rd), (2, .rd), (3, .rd), (4, .rd), (5, .rd), (6, .rd), (7, .rd), (8, .rd), (9, .rd), (10, .rd), (11, .rd), (12, .ld), (13, .rd), (14, .rd), (15, .rd), (16, .rd), (17, .rd), (18, .rd), (19, .rd)] mixed (by kernel_rfl) (fun _ _ _ _ _ h => h) ?_
 have z16 : w14.drew.heap.size = w14.heap.size := rfl
 have hb := hb.drew
 have hR := hR.keep (fd w14) id
 have hC := hC.keep (fd w14) nF
 have hG := hG.keep (fun k hk => by omega) (fd w14) nF
 have hp := hp.keep pair_st (fun k hk => by have hk := hU k hk; omega) (fd w14) nF
 have hf := hf.drew
 have h4 := h4.drew
 have h5 := h5.drew
 have zb_hb := hb
 have hS17 : Fr (fun k => k = g ∨ k = gm) w14.drew w14.drew := Fr.refl _ _
 refine qqM rfl rfl hS17 (qqN rfl rfl hS17 (hvH rfl (fun _ _ => xfld fl148_0 rfl) hS17 (hvH rfl (fun w' hS => xld on37 rfl ((zb_hb.keep hS (by show ¬ (bb = g ∨ bb = gm); omega)).r.c 0 rfl rfl)) hS17 (qqM rfl rfl hS17 (qqN rfl rfl hS17 (hvH rfl (fun _ _ => xfld fl148_4 rfl) hS17 (hvH rfl (fun w' hS => xld on146 rfl ((zb_hb.keep hS (by show ¬ (bb = g ∨ bb = gm); omega)).r.c 9 rfl rfl)) hS17 (qqM rfl rfl hS17 (qqN rfl rfl hS17 (hvH rfl (fun _ _ => xfld fl148_3 rfl) hS17 (hvH rfl (fun w' hS => xld on3 rfl ((zb_hb.keep hS (by show ¬ (bb = g ∨ bb = gm); omega)).r.c 8 rfl rfl)) hS17 ?_)))))))))))
 refine hcH rfl (xcall ca152 rfl) (c152 (gm := gm) (pos := n) (start := 0) hR (by omega) (by omega) (by omega) (by omega) h4.r hnm.1 (by omega) hC (fun b hb => ⟨hm b hb, by omega, by omega⟩) (by omega) (by omega)) ?_
 rintro _ w18 ⟨p34, q34, g34, rfl, r34, m19, a34, l34, hC⟩
 have z20 := m19.size
 have hb := hb.keep m19 (by show ¬ (bb = g ∨ bb = gm); omega)
 have hG := hG.keep (fun k hk => by omega) m19 (fun k hk hS => by have hk := hk; have hS : k = g ∨ k = gm := hS; omega)
 have hp := hp.keep pair_st (fun k hk => by have hk := hU k hk; omega) m19 (fun k hk hS => by have hk := hU k hk; have hS : k = g ∨ k = gm := hS; omega)
 have hf := hf.step m19 (fun k hk hS => by have hS : k = g ∨ k = gm := hS; show k = g ∨ k = gm ∨ k = bb; omega)
 have h4 := h4.keep m19 (by show ¬ (b4 = g ∨ b4 = gm); omega)
 have h5 := h5.keep m19 (by show ¬ (b5 = g ∨ b5 = gm); omega)
 have hS21 := hS17.step m19 (fun k hk hS => by have hS : k = g ∨ k = gm := hS; show k = g ∨ k = gm; omega)
 have hpn := packName_bound (C := C) (pos := n) hnm.1
 have e39 : ((packName C n (bt r.name)).1 ++ hdTail (typeN r) r.cls r.ttl len).length = (packName C n (bt r.name)).1.length + 10 := by simp [hdTail_length]
 refine ⟨hS21, ?_⟩
 refine qqM rfl rfl hS21 (hvH rfl (fun _ _ => xex30 rfl) hS21 (hvH rfl (fun _ _ => xex31 rfl) hS21 (hvH rfl (fun _ _ => xex32 rfl) hS21 (qqA rfl rfl hS21 (qqA rfl rfl hS21 (qqA rfl rfl hS21 (hendH (fg [(0, _), (4, _), (5, _), (8, _), (9, _), (10, _)] ⟨rfl, rfl, rfl, rfl, rfl, rfl, ⟨⟩⟩ fun _ => (wp_seq (sreg (sM rfl (sv (xneN if89 rfl) (send (fg [(0, _), (4, _), (5, _), (8, _), (9, _), (10, _), (39, _)] ⟨rfl, rfl, rfl, rfl, rfl, rfl, rfl, ⟨⟩⟩ fun _ => (cno rfl (wp_skip (nThen (fg [(0, _), (4, _), (5, _), (8, _), (9, _)] ⟨rfl, rfl, rfl, rfl, rfl, ⟨⟩⟩ fun _ => (sreg (sM rfl (sv (xlen sl37 rfl) (sA rfl (send (fg [(0, _), (4, _), (5, _), (8, _), (9, _), (11, _)] ⟨rfl, rfl, rfl, rfl, rfl, rfl, ⟨⟩⟩ fun _ => ?_))))))))))))))))))))))))
 refine wp_seq ?_
 refine sdrawH (Fr (fun k => k = g34 ∨ k = gm) w18.drew) [(0, .rd), (1, .rd), (2, .rd), (3, .rd), (4, .rd), (5, .rd), (6, .rd), (7, .rd), (8, .rd), (9, .ld), (10, .rd), (11, .rd), (12, .rd), (13, .rd), (14, .rd)] mixed (by kernel_rfl) (fun _ _ _ _ _ h => h) ?_
 have z22 : w18.drew.heap.size = w18.heap.size := rfl
 have hb := hb.drew
 have hG := hG.keep (fun k hk => by omega) (fd w18) nF
 have hp := hp.keep pair_st (fun k hk => by have hk := hU k hk; omega) (fd w18) nF
 have hf := hf.drew
 have h4 := h4.drew
 have h5 := h5.drew
 have r34 := r34.keep (fd w18) id
 have hC := hC.keep (fd w18) nF
 have zb_hb := hb
 have hS23 : Fr (fun k => k = g34 ∨ k = gm) w18.drew w18.drew := Fr.refl _ _
 refine qqM rfl rfl hS23 (qqM rfl rfl hS23 (qqN rfl rfl hS23 (hvH rfl (fun _ _ => xfld fl148_4 rfl) hS23 (hvH rfl (fun w' hS => xld on146 rfl ((zb_hb.keep hS (by show ¬ (bb = g34 ∨ bb = gm); omega)).r.c 9 rfl rfl)) hS23 (qqM rfl rfl hS23 (qqN rfl rfl hS23 (hvH rfl (fun _ _ => xfld fl148_3 rfl) hS23 (hvH rfl (fun w' hS => xld on3 rfl ((zb_hb.keep hS (by show ¬ (bb = g34 ∨ bb = gm); omega)).r.c 8 rfl rfl)) hS23 ?_))))))))
 refine hcH rfl (xcall ca182 rfl) (c182 (gm := gm) (pos := (n + (packName C n (bt r.name)).1.length + 10)) (start := 0) r34 (by omega) (by omega) (by omega) (by omega) hk h5.r (by omega) (fun k hk => by have hk := hU k hk; omega) hp hfp.2.2.2.2.1 hfp.2.2.2.2.2.1 hfp.2.2.2.2.2.2.1 hC (fun b hb => ⟨hm b hb, by omega, by omega⟩) (by omega) (by omega)) ?_
 rintro _ w24 ⟨p56, q56, g56, rfl, r56, m25, a56, l56, hC⟩
 have z26 := m25.size
 have hb := hb.keep m25 (by show ¬ (bb = g34 ∨ bb = gm); omega)
 have hG := hG.keep (fun k hk => by omega) m25 (fun k hk hS => by have hk := hk; have hS : k = g34 ∨ k = gm := hS; omega)
 have hf := hf.step m25 (fun k hk hS => by have hS : k = g34 ∨ k = gm := hS; show k = g ∨ k = gm ∨ k = bb; omega)
 have h4 := h4.keep m25 (by show ¬ (b4 = g34 ∨ b4 = gm); omega)
 have hS27 := hS23.step m25 (fun k hk hS => by have hS : k = g34 ∨ k = gm := hS; show k = g34 ∨ k = gm; omega)
 have hbl := packBody_len (C := (packName C n (bt r.name)).2) (pos := (n + (packName C n (bt r.name)).1.length + 10)) hnm hlb
 refine ⟨hS27, ?_⟩
 refine qqM rfl rfl hS27 (hvH rfl (fun _ _ => xex20 rfl) hS27 (hvH rfl (fun _ _ => xex21 rfl) hS27 (qqA rfl rfl hS27 (qqA rfl rfl hS27 (hendH (fg [(0, _), (4, _), (8, _), (9, _), (10, _), (11, _)] ⟨rfl, rfl, rfl, rfl, rfl, rfl, ⟨⟩⟩ fun _ => (sreg (sM rfl (sv (xneN if89 rfl) (send (fg [(0, _), (4, _), (8, _), (9, _), (10, _), (11, _), (60, _)] ⟨rfl, rfl, rfl, rfl, rfl, rfl, rfl, ⟨⟩⟩ fun _ => (cno rfl (wp_skip (nThen (fg [(0, _), (4, _), (8, _), (9, _), (11, _)] ⟨rfl, rfl, rfl, rfl, rfl, ⟨⟩⟩ fun _ => (wp_seq (sreg (sM rfl (sM rfl (sM rfl ?_))))))))))))))))))))
 have r56 := br_cast (bs := (bs ++ ((packName C n (bt r.name)).1 ++ (be16 (typeN r).toNat ++ (be16 r.cls.toNat ++ be32 r.ttl.toNat)))) ++ (be16 len ++ (packBody (packName C n (bt r.name)).2 (n + (packName C n (bt r.name)).1.length + 10) r).1)) r56 (by simp [hdTail]) rfl
 obtain ⟨T4, hE4⟩ := SE.ofSB h4
 refine sc (xcall ca153 rfl) (c153 (preLen := n + ((packName C n (bt r.name)).1 ++ hdTail (typeN r) r.cls r.ttl len).length) (len := len) (typ := typeN r) (cls := r.cls) (ttl := r.ttl) (s := bt r.name) (pre := []) (post := []) r56 (by omega) rfl hE4 rfl (by omega) (by simp [be16_length, be32_length]; omega) (by omega) (by omega) (by omega)) ?_
 rintro _ w28 ⟨rfl, r56, hE4b, m29⟩
 have z30 := m29.size
 have hb := hb.keep m29 (by show ¬ (bb = g56 ∨ bb = b4); omega)
 have hG := hG.keep (fun k hk => by omega) m29 (fun k hk hS => by have hk := hk; have hS : k = g56 ∨ k = b4 := hS; omega)
 have hf := hf.step m29 (fun k hk hS => by have hS : k = g56 ∨ k = b4 := hS; show k = g ∨ k = gm ∨ k = bb; omega)
 have hC := hC.keep m29 (fun b hb => by have hb := hm b hb; show ¬ (b = g56 ∨ b = b4); omega)
 have en : n + ((packName C n (bt r.name)).1 ++ hdTail (typeN r) r.cls r.ttl len).length + (packBody (packName C n (bt r.name)).2 (n + (packName C n (bt r.name)).1.length + 10) r).1.length - (n + ((packName C n (bt r.name)).1 ++ hdTail (typeN r) r.cls r.ttl len).length) = (packBody (packName C n (bt r.name)).2 (n + (packName C n (bt r.name)).1.length + 10) r).1.length := by omega
 rw [en] at r56
 refine sA rfl (send (fg [(0, _), (8, _), (12, _)] ⟨rfl, rfl, rfl, ⟨⟩⟩ fun _ => (sreg (sM rfl (sv (xneN if89 rfl) (send (fg [(0, _), (8, _), (12, _), (70, _)] ⟨rfl, rfl, rfl, rfl, ⟨⟩⟩ fun _ => (cno rfl (wp_skip (nThen (fg [(0, _), (8, _)] ⟨rfl, rfl, ⟨⟩⟩ fun _ => (wp_seq (sreg (sM rfl ?_))))))))))))))
 refine sc (xcall ca115 rfl) (c115 hb hG (by omega) (by omega) (by omega) hc) ?_
 rintro _ w31 ⟨rfl, hb, m32⟩
 have z33 := m32.size
 have hf := hf.step m32 (fun k hk hS => by have hS : k = bb := hS; show k = g ∨ k = gm ∨ k = bb; omega)
 have hC := hC.keep m32 (fun b hb => by have hb := hm b hb; show ¬ (b = bb); omega)
 have r56 := r56.keep m32 (by show ¬ (g56 = bb); omega)
 refine sA rfl (send (fg [(0, _), (8, _), (13, _)] ⟨rfl, rfl, rfl, ⟨⟩⟩ fun _ => (sreg (sM rfl (sv (xneN if89 rfl) (send (fg [(0, _), (8, _), (13, _), (75, _)] ⟨rfl, rfl, rfl, rfl, ⟨⟩⟩ fun _ => (cno rfl (wp_skip (nThen (fg [(0, _), (8, _)] ⟨rfl, rfl, ⟨⟩⟩ fun _ => (sreg (sM rfl (sM rfl (sN rfl (sv (xfld fl148_0 rfl) ?_))))))))))))))))
 refine suK (xstF 0 sz37 hb rfl rfl rfl rfl rfl) ?_
 rintro w35 ⟨m36, hb, s34⟩
 have hf := hf.step m36 (fun k hk hS => by have hS : k = bb := hS; show k = g ∨ k = gm ∨ k = bb; omega)
 have hC := hC.keep m36 (fun b hb => by have hb := hm b hb; show ¬ (b = bb); omega)
 have r56 := r56.keep m36 (by show ¬ (g56 = bb); omega)
 refine send (fg [] trivial fun _ => (sreg (sA rfl (send (fg [(6, _)] ⟨rfl, ⟨⟩⟩ fun _ => (wp_ret ?_))))))
 refine rp1 rfl rfl ?_
 have eo : n + (packRec C n r).1.length = n + ((packName C n (bt r.name)).1 ++ hdTail (typeN r) r.cls r.ttl len).length + (packBody (packName C n (bt r.name)).2 (n + (packName C n (bt r.name)).1.length + 10) r).1.length := by simp only [packRec, packTail, List.length_append, be16_length, be32_length, hdTail_length]; omega
 refine ⟨p56, q56, g56, rfl, ?_, ?_, hC, hf, by omega, by omega⟩
 · rw [eo]; exact hb
 · rw [eo]; exact br_cast r56 (by simp [packRec, packTail]) rfl
set_option maxHeartbeats 4000000 in
set_option maxRecDepth 100000 in
theorem c140 {w : World} {bb g gm n sec x0 x1 : Nat} {v : Value} {bs : List UInt8} {c : Nat → Nat} {cm : Option Nat} {C : Option Ent} (hb : SB w bb lB (bSegs v sec x0 x1 c cm)) (hR : BR w v g n bs) (hC : Cmp w cm C) (hm : ∀ b, cm = some b → b = gm) (hG : GB w) (hz : 5 ≤ g ∧ g < w.heap.size ∧ 5 ≤ gm ∧ gm < w.heap.size ∧ gm ≠ g ∧ 5 ≤ bb ∧ bb ≠ g ∧ bb ≠ gm) (hn0 : 0 < n) (hl : n < 900000000) (hc : ∀ i, c i < 60000) {r : RecD} {typ : UInt16} {len : Nat} (hs3 : 3 ≤ sec) (hs5 : sec ≤ 5) (hlen : len < 65536) (hnm : NamesOk r) (hlb : (bodyL r).length < 65536) (hk : r.kind = 13) {U : Nat → Prop} (hU : ∀ k, U k → k < w.heap.size ∧ k ≠ g ∧ k ≠ gm ∧ k ≠ bb) (hfp : FitP r) {vd : Value} (hd : BA U w vd r.data)  :
  Ret PP 140 [.pointer (some ⟨bb, 0, none⟩), ag (rhSegs (bt r.name) typ r.cls r.ttl len), ag [[.int .u16 ((typeN r).toNat : Int)], [vd]]] w (BldC w bb g gm n bs (packRec C n r).1 sec x0 x1 c cm (packRec C n r).2) := by
 have hbn := BR.len hR
 obtain ⟨a0, c0, rfl, -⟩ := hR.form
 obtain ⟨ad0, cd0, rfl, -⟩ := id hd
 have hf : Fr (fun k => k = g ∨ k = gm ∨ k = bb) w w := Fr.refl _ _
 have z_hb := hb.lt
 refine ret_of Tryz.func140 rfl rfl rfl [(0, _), (1, _), (2, _)] rfl ?_
 refine sreg ?_
 refine svK (xboxS (lens := [256, 1, 1, 1, 1]) rfl (by simp [rhSegs, nm_length])) ?_
 rintro _ w2 ⟨b4, rfl, m3, h4, e1, s1⟩
 have hb := hb.keep m3 id
 have hR := hR.keep m3 id
 have hC := hC.keep m3 nF
 have hG := hG.keep (fun k hk => by omega) m3 nF
 have hd := hd.keep (fun k hk => by have hk := hU k hk; omega) m3 nF
 have hf := hf.step0 m3
 refine svK (xboxS (lens := [1, 1]) rfl (by simp [])) ?_
 rintro _ w5 ⟨b5, rfl, m6, h5, e4, s4⟩
 have hb := hb.keep m6 id
 have hR := hR.keep m6 id
 have hC := hC.keep m6 nF
 have hG := hG.keep (fun k hk => by omega) m6 nF
 have hd := hd.keep (fun k hk => by have hk := hU k hk; omega) m6 nF
 have hf := hf.step0 m6
 have h4 := h4.keep m6 id
 refine sA rfl (send (fg [(0, _), (4, _), (5, _)] ⟨rfl, rfl, rfl, ⟨⟩⟩ fun _ => (wp_seq (sreg (sM rfl ?_)))))
 refine sc (xcall ca162 rfl) (c162 hb hs3 hs5) ?_
 rintro _ w7 ⟨rfl, m8⟩
 have z9 := m8.size
 have hb := hb.keep m8 id
 have hR := hR.keep m8 id
 have hC := hC.keep m8 nF
 have hG := hG.keep (fun k hk => by omega) m8 nF
 have hd := hd.keep (fun k hk => by have hk := hU k hk; omega) m8 nF
 have hf := hf.step0 m8
 have h4 := h4.keep m8 id
 have h5 := h5.keep m8 id
 refine sA rfl (send (fg [(0, _), (4, _), (5, _), (7, _)] ⟨rfl, rfl, rfl, rfl, ⟨⟩⟩ fun _ => (sreg (sM rfl (sv (xneN if89 rfl) (send (fg [(0, _), (4, _), (5, _), (7, _), (17, _)] ⟨rfl, rfl, rfl, rfl, rfl, ⟨⟩⟩ fun _ => (cno rfl (wp_skip (nThen (fg [(0, _), (4, _), (5, _)] ⟨rfl, rfl, rfl, ⟨⟩⟩ fun _ => (sreg ?_))))))))))))
 refine sc (xcall ca188 rfl) (c188 (x := typeN r) h5.r) ?_
 rintro _ w10 ⟨rfl, m11⟩
 have z12 := m11.size
 have hb := hb.keep m11 id
 have hR := hR.keep m11 id
 have hC := hC.keep m11 nF
 have hG := hG.keep (fun k hk => by omega) m11 nF
 have hd := hd.keep (fun k hk => by have hk := hU k hk; omega) m11 nF
 have hf := hf.step0 m11
 have h4 := h4.keep m11 id
 have h5 := h5.keep m11 id
 refine sv (xfld fl135_1 rfl) ?_
 refine suK (xstF 1 sz83 h4 rfl rfl rfl rfl rfl) ?_
 rintro w14 ⟨m15, h4, s13⟩
 have hb := hb.keep m15 (by show ¬ (bb = b4); omega)
 have hR := hR.keep m15 (by show ¬ (g = b4); omega)
 have hC := hC.keep m15 (fun b hb => by have hb := hm b hb; show ¬ (b = b4); omega)
 have hG := hG.keep (fun k hk => by omega) m15 (fun k hk hS => by have hk := hk; have hS : k = b4 := hS; omega)
 have hd := hd.keep (fun k hk => by have hk := hU k hk; omega) m15 (fun k hk hS => by have hk := hU k hk; have hS : k = b4 := hS; omega)
 have hf := hf.step m15 (fun k hk hS => by have hS : k = b4 := hS; show k = g ∨ k = gm ∨ k = bb; omega)
 have h5 := h5.keep m15 (by show ¬ (b5 = b4); omega)
 have h4 : SB w14 b4 lRH (rhSegs (bt r.name) (typeN r) r.cls r.ttl len) := h4
 refine send (fg [(0, _), (4, _), (5, _)] ⟨rfl, rfl, rfl, ⟨⟩⟩ fun _ => ?_)
 refine sdrawH (Fr (fun k => k = g ∨ k = gm) w14.drew) [(0, .rd), (1, .rd), (2, .rd), (3, .rd), (4, .rd), (5, .rd), (6, .rd), (7, .rd), (8, .rd), (9, .rd), (10, .rd), (11, .rd), (12, .ld), (13, .rd), (14, .rd), (15, .rd), (16, .rd), (17, .rd), (18, .rd), (19, .rd)] mixed (by kernel_rfl) (fun _ _ _ _ _ h => h) ?_
 have z16 : w14.drew.heap.size = w14.heap.size := rfl
 have hb := hb.drew
 have hR := hR.keep (fd w14) id
 have hC := hC.keep (fd w14) nF
 have hG := hG.keep (fun k hk => by omega) (fd w14) nF
 have hd := hd.keep (fun k hk => by have hk := hU k hk; omega) (fd w14) nF
 have hf := hf.drew
 have h4 := h4.drew
 have h5 := h5.drew
 have zb_hb := hb
 have hS17 : Fr (fun k => k = g ∨ k = gm) w14.drew w14.drew := Fr.refl _ _
 refine qqM rfl rfl hS17 (qqN rfl rfl hS17 (hvH rfl (fun _ _ => xfld fl148_0 rfl) hS17 (hvH rfl (fun w' hS => xld on37 rfl ((zb_hb.keep hS (by show ¬ (bb = g ∨ bb = gm); omega)).r.c 0 rfl rfl)) hS17 (qqM rfl rfl hS17 (qqN rfl rfl hS17 (hvH rfl (fun _ _ => xfld fl148_4 rfl) hS17 (hvH rfl (fun w' hS => xld on146 rfl ((zb_hb.keep hS (by show ¬ (bb = g ∨ bb = gm); omega)).r.c 9 rfl rfl)) hS17 (qqM rfl rfl hS17 (qqN rfl rfl hS17 (hvH rfl (fun _ _ => xfld fl148_3 rfl) hS17 (hvH rfl (fun w' hS => xld on3 rfl ((zb_hb.keep hS (by show ¬ (bb = g ∨ bb = gm); omega)).r.c 8 rfl rfl)) hS17 ?_)))))))))))
 refine hcH rfl (xcall ca152 rfl) (c152 (gm := gm) (pos := n) (start := 0) hR (by omega) (by omega) (by omega) (by omega) h4.r hnm.1 (by omega) hC (fun b hb => ⟨hm b hb, by omega, by omega⟩) (by omega) (by omega)) ?_
 rintro _ w18 ⟨p34, q34, g34, rfl, r34, m19, a34, l34, hC⟩
 have z20 := m19.size
 have hb := hb.keep m19 (by show ¬ (bb = g ∨ bb = gm); omega)
 have hG := hG.keep (fun k hk => by omega) m19 (fun k hk hS => by have hk := hk; have hS : k = g ∨ k = gm := hS; omega)
 have hd := hd.keep (fun k hk => by have hk := hU k hk; omega) m19 (fun k hk hS => by have hk := hU k hk; have hS : k = g ∨ k = gm := hS; omega)
 have hf := hf.step m19 (fun k hk hS => by have hS : k = g ∨ k = gm := hS; show k = g ∨ k = gm ∨ k = bb; omega)
 have h4 := h4.keep m19 (by show ¬ (b4 = g ∨ b4 = gm); omega)
 have h5 := h5.keep m19 (by show ¬ (b5 = g ∨ b5 = gm); omega)
 have hS21 := hS17.step m19 (fun k hk hS => by have hS : k = g ∨ k = gm := hS; show k = g ∨ k = gm; omega)
 have hpn := packName_bound (C := C) (pos := n) hnm.1
 have e39 : ((packName C n (bt r.name)).1 ++ hdTail (typeN r) r.cls r.ttl len).length = (packName C n (bt r.name)).1.length + 10 := by simp [hdTail_length]
 refine ⟨hS21, ?_⟩
 refine qqM rfl rfl hS21 (hvH rfl (fun _ _ => xex30 rfl) hS21 (hvH rfl (fun _ _ => xex31 rfl) hS21 (hvH rfl (fun _ _ => xex32 rfl) hS21 (qqA rfl rfl hS21 (qqA rfl rfl hS21 (qqA rfl rfl hS21 (hendH (fg [(0, _), (4, _), (5, _), (8, _), (9, _), (10, _)] ⟨rfl, rfl, rfl, rfl, rfl, rfl, ⟨⟩⟩ fun _ => (wp_seq (sreg (sM rfl (sv (xneN if89 rfl) (send (fg [(0, _), (4, _), (5, _), (8, _), (9, _), (10, _), (39, _)] ⟨rfl, rfl, rfl, rfl, rfl, rfl, rfl, ⟨⟩⟩ fun _ => (cno rfl (wp_skip (nThen (fg [(0, _), (4, _), (5, _), (8, _), (9, _)] ⟨rfl, rfl, rfl, rfl, rfl, ⟨⟩⟩ fun _ => (sreg (sM rfl (sv (xlen sl37 rfl) (sA rfl (send (fg [(0, _), (4, _), (5, _), (8, _), (9, _), (11, _)] ⟨rfl, rfl, rfl, rfl, rfl, rfl, ⟨⟩⟩ fun _ => ?_))))))))))))))))))))))))
 refine wp_seq ?_
 refine sdrawH (Fr (fun k => k = g34 ∨ k = gm) w18.drew) [(0, .rd), (1, .rd), (2, .rd), (3, .rd), (4, .rd), (5, .rd), (6, .rd), (7, .rd), (8, .rd), (9, .ld), (10, .rd), (11, .rd), (12, .rd), (13, .rd), (14, .rd)] mixed (by kernel_rfl) (fun _ _ _ _ _ h => h) ?_
 have z22 : w18.drew.heap.size = w18.heap.size := rfl
 have hb := hb.drew
 have hG := hG.keep (fun k hk => by omega) (fd w18) nF
 have hd := hd.keep (fun k hk => by have hk := hU k hk; omega) (fd w18) nF
 have hf := hf.drew
 have h4 := h4.drew
 have h5 := h5.drew
 have r34 := r34.keep (fd w18) id
 have hC := hC.keep (fd w18) nF
 have zb_hb := hb
 have hS23 : Fr (fun k => k = g34 ∨ k = gm) w18.drew w18.drew := Fr.refl _ _
 refine qqM rfl rfl hS23 (qqM rfl rfl hS23 (qqN rfl rfl hS23 (hvH rfl (fun _ _ => xfld fl148_4 rfl) hS23 (hvH rfl (fun w' hS => xld on146 rfl ((zb_hb.keep hS (by show ¬ (bb = g34 ∨ bb = gm); omega)).r.c 9 rfl rfl)) hS23 (qqM rfl rfl hS23 (qqN rfl rfl hS23 (hvH rfl (fun _ _ => xfld fl148_3 rfl) hS23 (hvH rfl (fun w' hS => xld on3 rfl ((zb_hb.keep hS (by show ¬ (bb = g34 ∨ bb = gm); omega)).r.c 8 rfl rfl)) hS23 ?_))))))))
 refine hcH rfl (xcall ca189 rfl) (c189 (gm := gm) (pos := (n + (packName C n (bt r.name)).1.length + 10)) (start := 0) r34 (by omega) (by omega) (by omega) (by omega) hk h5.r (by omega) (fun k hk => by have hk := hU k hk; omega) hd hfp.1 hC (fun b hb => ⟨hm b hb, by omega, by omega⟩) (by omega) (by omega)) ?_
 rintro _ w24 ⟨p56, q56, g56, rfl, r56, m25, a56, l56, hC⟩
 have z26 := m25.size
 have hb := hb.keep m25 (by show ¬ (bb = g34 ∨ bb = gm); omega)
 have hG := hG.keep (fun k hk => by omega) m25 (fun k hk hS => by have hk := hk; have hS : k = g34 ∨ k = gm := hS; omega)
 have hf := hf.step m25 (fun k hk hS => by have hS : k = g34 ∨ k = gm := hS; show k = g ∨ k = gm ∨ k = bb; omega)
 have h4 := h4.keep m25 (by show ¬ (b4 = g34 ∨ b4 = gm); omega)
 have hS27 := hS23.step m25 (fun k hk hS => by have hS : k = g34 ∨ k = gm := hS; show k = g34 ∨ k = gm; omega)
 have hbl := packBody_len (C := (packName C n (bt r.name)).2) (pos := (n + (packName C n (bt r.name)).1.length + 10)) hnm hlb
 refine ⟨hS27, ?_⟩
 refine qqM rfl rfl hS27 (hvH rfl (fun _ _ => xex20 rfl) hS27 (hvH rfl (fun _ _ => xex21 rfl) hS27 (qqA rfl rfl hS27 (qqA rfl rfl hS27 (hendH (fg [(0, _), (4, _), (8, _), (9, _), (10, _), (11, _)] ⟨rfl, rfl, rfl, rfl, rfl, rfl, ⟨⟩⟩ fun _ => (sreg (sM rfl (sv (xneN if89 rfl) (send (fg [(0, _), (4, _), (8, _), (9, _), (10, _), (11, _), (60, _)] ⟨rfl, rfl, rfl, rfl, rfl, rfl, rfl, ⟨⟩⟩ fun _ => (cno rfl (wp_skip (nThen (fg [(0, _), (4, _), (8, _), (9, _), (11, _)] ⟨rfl, rfl, rfl, rfl, rfl, ⟨⟩⟩ fun _ => (wp_seq (sreg (sM rfl (sM rfl (sM rfl ?_))))))))))))))))))))
 have r56 := br_cast (bs := (bs ++ ((packName C n (bt r.name)).1 ++ (be16 (typeN r).toNat ++ (be16 r.cls.toNat ++ be32 r.ttl.toNat)))) ++ (be16 len ++ (packBody (packName C n (bt r.name)).2 (n + (packName C n (bt r.name)).1.length + 10) r).1)) r56 (by simp [hdTail]) rfl
 obtain ⟨T4, hE4⟩ := SE.ofSB h4
 refine sc (xcall ca153 rfl) (c153 (preLen := n + ((packName C n (bt r.name)).1 ++ hdTail (typeN r) r.cls r.ttl len).length) (len := len) (typ := typeN r) (cls := r.cls) (ttl := r.ttl) (s := bt r.name) (pre := []) (post := []) r56 (by omega) rfl hE4 rfl (by omega) (by simp [be16_length, be32_length]; omega) (by omega) (by omega) (by omega)) ?_
 rintro _ w28 ⟨rfl, r56, hE4b, m29⟩
 have z30 := m29.size
 have hb := hb.keep m29 (by show ¬ (bb = g56 ∨ bb = b4); omega)
 have hG := hG.keep (fun k hk => by omega) m29 (fun k hk hS => by have hk := hk; have hS : k = g56 ∨ k = b4 := hS; omega)
 have hf := hf.step m29 (fun k hk hS => by have hS : k = g56 ∨ k = b4 := hS; show k = g ∨ k = gm ∨ k = bb; omega)
 have hC := hC.keep m29 (fun b hb => by have hb := hm b hb; show ¬ (b = g56 ∨ b = b4); omega)
 have en : n + ((packName C n (bt r.name)).1 ++ hdTail (typeN r) r.cls r.ttl len).length + (packBody (packName C n (bt r.name)).2 (n + (packName C n (bt r.name)).1.length + 10) r).1.length - (n + ((packName C n (bt r.name)).1 ++ hdTail (typeN r) r.cls r.ttl len).length) = (packBody (packName C n (bt r.name)).2 (n + (packName C n (bt r.name)).1.length + 10) r).1.length := by omega
 rw [en] at r56
 refine sA rfl (send (fg [(0, _), (8, _), (12, _)] ⟨rfl, rfl, rfl, ⟨⟩⟩ fun _ => (sreg (sM rfl (sv (xneN if89 rfl) (send (fg [(0, _), (8, _), (12, _), (70, _)] ⟨rfl, rfl, rfl, rfl, ⟨⟩⟩ fun _ => (cno rfl (wp_skip (nThen (fg [(0, _), (8, _)] ⟨rfl, rfl, ⟨⟩⟩ fun _ => (wp_seq (sreg (sM rfl ?_))))))))))))))
 refine sc (xcall ca115 rfl) (c115 hb hG (by omega) (by omega) (by omega) hc) ?_
 rintro _ w31 ⟨rfl, hb, m32⟩
 have z33 := m32.size
 have hf := hf.step m32 (fun k hk hS => by have hS : k = bb := hS; show k = g ∨ k = gm ∨ k = bb; omega)
 have hC := hC.keep m32 (fun b hb => by have hb := hm b hb; show ¬ (b = bb); omega)
 have r56 := r56.keep m32 (by show ¬ (g56 = bb); omega)
 refine sA rfl (send (fg [(0, _), (8, _), (13, _)] ⟨rfl, rfl, rfl, ⟨⟩⟩ fun _ => (sreg (sM rfl (sv (xneN if89 rfl) (send (fg [(0, _), (8, _), (13, _), (75, _)] ⟨rfl, rfl, rfl, rfl, ⟨⟩⟩ fun _ => (cno rfl (wp_skip (nThen (fg [(0, _), (8, _)] ⟨rfl, rfl, ⟨⟩⟩ fun _ => (sreg (sM rfl (sM rfl (sN rfl (sv (xfld fl148_0 rfl) ?_))))))))))))))))
 refine suK (xstF 0 sz37 hb rfl rfl rfl rfl rfl) ?_
 rintro w35 ⟨m36, hb, s34⟩
 have hf := hf.step m36 (fun k hk hS => by have hS : k = bb := hS; show k = g ∨ k = gm ∨ k = bb; omega)
 have hC := hC.keep m36 (fun b hb => by have hb := hm b hb; show ¬ (b = bb); omega)
 have r56 := r56.keep m36 (by show ¬ (g56 = bb); omega)
 refine send (fg [] trivial fun _ => (sreg (sA rfl (send (fg [(6, _)] ⟨rfl, ⟨⟩⟩ fun _ => (wp_ret ?_))))))
 refine rp1 rfl rfl ?_
 have eo : n + (packRec C n r).1.length = n + ((packName C n (bt r.name)).1 ++ hdTail (typeN r) r.cls r.ttl len).length + (packBody (packName C n (bt r.name)).2 (n + (packName C n (bt r.name)).1.length + 10) r).1.length := by simp only [packRec, packTail, List.length_append, be16_length, be32_length, hdTail_length]; omega
 refine ⟨p56, q56, g56, rfl, ?_, ?_, hC, hf, by omega, by omega⟩
 · rw [eo]; exact hb
 · rw [eo]; exact br_cast r56 (by simp [packRec, packTail]) rfl
end Go.Proofs.YtifnodoffgfpbaaGreatDoor
