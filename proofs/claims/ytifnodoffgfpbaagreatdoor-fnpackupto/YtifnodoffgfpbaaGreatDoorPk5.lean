/- Part 5 of the texts for a law of this seat: walks, and plain laws about messages; conditions: none. -/
import Derived.Test.YtifnodoffgfpbaaGreatDoorPk4
namespace Go.Proofs.YtifnodoffgfpbaaGreatDoor
open Go

def QEl (_ : Nat → Prop) (_ : World) (segs : List (List Value)) (a : AskD) : Prop := segs = questSegs a
theorem q_st : Stays QEl := fun _ _ _ _ _ _ h _ _ _ => h
theorem q_gr : Grows QEl := fun _ _ _ _ _ h _ => h
theorem packAll_bound {α : Type} {f : Option Ent → Nat → α → List UInt8 × Option Ent} {B : Nat} : ∀ (xs : List α) (C : Option Ent) (pos : Nat), (∀ x ∈ xs, ∀ C pos, (f C pos x).1.length ≤ B) → (packAll f C pos xs).1.length ≤ xs.length * B
  | [], C, pos, _ => by simp [packAll]
  | x :: xs, C, pos, h => by
    simp only [packAll, List.length_append, List.length_cons, Nat.add_mul, Nat.one_mul]
    have h1 := h x (by simp) C pos
    have h2 := packAll_bound xs (f C pos x).2 (pos + (f C pos x).1.length) (fun y hy => h y (by simp [hy]))
    omega
theorem packAsk_bound {a : AskD} (h : nameL (bt a.name)) (C : Option Ent) (pos : Nat) : (packAsk C pos a).1.length ≤ 600 := by
  have := packName_bound (C := C) (pos := pos) h
  simp only [packAsk, List.length_append, be16_length]; omega
theorem packRec_bound {r : RecD} (h : NamesOk r) (hl : (bodyL r).length < 65536) (C : Option Ent) (pos : Nat) : (packRec C pos r).1.length ≤ 67000 := by
  have h1 := packName_bound (C := C) (pos := pos) h.1
  have h2 := packBody_len (C := (packName C pos (bt r.name)).2) (pos := pos + (packName C pos (bt r.name)).1.length + 10) h hl
  simp only [packRec, packTail, List.length_append, be16_length, be32_length]; omega
/-- records that can be packed -/
def GoodP (r : RecD) : Prop := NamesOk r ∧ FitP r ∧ (bodyL r).length < 65536
theorem packRecs_bound {rs : List RecD} (h : ∀ r ∈ rs, GoodP r) (hn : rs.length ≤ 40) (C : Option Ent) (pos : Nat) : (packAll packRec C pos rs).1.length ≤ 2680000 := by
  have := packAll_bound (f := packRec) (B := 67000) rs C pos (fun r hr => packRec_bound (h r hr).1 (h r hr).2.2)
  omega
theorem packAsks_bound {xs : List AskD} (h : ∀ a ∈ xs, nameL (bt a.name)) (hn : xs.length ≤ 40) (C : Option Ent) (pos : Nat) : (packAll packAsk C pos xs).1.length ≤ 24000 := by
  have := packAll_bound (f := packAsk) (B := 600) xs C pos (fun a ha => packAsk_bound (h a ha))
  omega
theorem take_all_mem {α : Type} {p : α → Prop} {l : List α} (h : ∀ x ∈ l, p x) (k : Nat) : ∀ x ∈ l.take k, p x := fun x hx => h x (List.mem_of_mem_take hx)
theorem take_le40 {α : Type} {l : List α} (h : l.length ≤ 40) (k : Nat) : (l.take k).length ≤ 40 := by rw [List.length_take]; omega
theorem packAll_take {α : Type} {f : Option Ent → Nat → α → List UInt8 × Option Ent} {l : List α} {k : Nat} {x : α} (hx : l[k]? = some x) (C : Option Ent) (pos : Nat) :
    packAll f C pos (l.take (k + 1)) = ((packAll f C pos (l.take k)).1 ++ (f (packAll f C pos (l.take k)).2 (pos + (packAll f C pos (l.take k)).1.length) x).1, (f (packAll f C pos (l.take k)).2 (pos + (packAll f C pos (l.take k)).1.length) x).2) := by
  rw [take_snoc hx, packAll_snoc]
theorem headL_hdrL (m : MsgD) : headL m.head (countsM m) = hdrL m.head.id.toNat (hbits m.head).toNat m.asks.length m.one.length m.two.length m.three.length := by
  simp [headL, countsM, hdrL]
/-- what the packing of a message gives back -/
def MsgC (w : World) (g g1 g2 g3 n : Nat) (bs out : List UInt8) (u : Value) (w' : World) : Prop :=
  ∃ a c g', u = .tuple #[.slice a (n + out.length) c, .nilIface] ∧ BR w' (.slice a (n + out.length) c) g' (n + out.length) (bs ++ out) ∧ Fr (fun k => k = g ∨ k = g1 ∨ k = g2 ∨ k = g3) w w' ∧ (g' = g ∨ w.heap.size ≤ g') ∧ g' < w'.heap.size

set_option maxHeartbeats 4000000 in
set_option maxRecDepth 100000 in
theorem c40a {w : World} {v : Value} {aq : Option Addr} {cq : Nat} {v1 v2 v3 : Value} {g n bm b87 : Nat} {bs : List UInt8} {m : MsgD} (hR : BR w v g (n + 12) bs) (hg : g < w.heap.size) (hM : SB w bm lMsg (msgSegs m.head (.slice aq m.asks.length cq) v1 v2 v3)) {U : Nat → Prop} (hq : LA QEl lQ U w (.slice aq m.asks.length cq) m.asks) (hU : ∀ k, U k → k < w.heap.size ∧ k ≠ g ∧ k ≠ b87) (hC : Cmp w (some b87) (some [])) (hd : b87 < w.heap.size ∧ bm ≠ g ∧ bm ≠ b87 ∧ g ≠ b87) (hna : ∀ a ∈ m.asks, nameL (bt a.name)) (hcn : m.asks.length ≤ 40) (hl : n ≤ 10000000) {Q : Exit → Act → World → Prop} {r : Nat → Value}
  (hQ : ∀ (x : Value × Nat) (r : Nat → Value) (wx : World), (match x with | (v, g2) => Fr (fun k => k = g ∨ k = b87) w wx ∧ (BR wx v g2 (n + 12 + (packA (some []) m).1.length) (bs ++ (packA (some []) m).1)) ∧ (g2 = g ∨ w.heap.size ≤ g2) ∧ (g2 < wx.heap.size) ∧ (Cmp wx (some b87) (packA (some []) m).2)) → Q .normal (env Tryz.f40.ntmps ((match x with | (v, _g2) => [(8, v)]) ++ [(0, .pointer (some ⟨bm, 0, none⟩)), (7, .int .i64 (n : Int)), (9, .map (some b87))]) r) wx) :
  (navF [true, true, true, true, true, true, true, true, true, true, true, true, true, true, false, true] Tryz.f40).wp PP Q (env Tryz.f40.ntmps [(0, .pointer (some ⟨bm, 0, none⟩)), (7, .int .i64 (n : Int)), (8, v), (9, .map (some b87)), (92, .int .i64 (m.asks.length : Int)), (93, .int .i64 0)] r) w := by
 obtain ⟨a0, c0, rfl, -⟩ := hR.form
 have hf : Fr (fun k => k = g ∨ k = b87) w w := Fr.refl _ _
 have z_hM := hM.lt
 refine nav_wp rfl ?_
 refine wp_block ?_
 refine lp [(0, _), (7, _), (9, _), (92, _)] (fun (x : Nat × Value × Nat) => match x with | (k, v, gk) => [(8, v), (93, .int .i64 (k : Int))]) (fun (x : Nat × Value × Nat) wx => match x with | (k, v, gk) => Fr (fun k => k = g ∨ k = b87) w wx ∧ (k ≤ m.asks.length) ∧ (BR wx v gk (n + 12 + (packAll packAsk (some []) 12 (m.asks.take k)).1.length) (bs ++ (packAll packAsk (some []) 12 (m.asks.take k)).1)) ∧ (gk = g ∨ w.heap.size ≤ gk) ∧ (gk < wx.heap.size) ∧ (Cmp wx (some b87) (packAll packAsk (some []) 12 (m.asks.take k)).2)) (fun (x : Nat × Value × Nat) => match x with | (k, v, gk) => m.asks.length - k) (0, _, g) ⟨rfl, rfl, rfl, rfl, rfl, rfl, trivial⟩ ⟨Fr.refl _ _, Nat.zero_le _, br_cast hR (by simp [packAll]) (by simp [packAll]), .inl rfl, by omega, hC⟩ ?_
 rintro ⟨k, v, gk⟩ _ w2 ⟨hL1, hk, hR, hgk, hgk2, hC⟩
 refine fg [(0, _), (7, _), (8, _), (9, _), (92, _), (93, _)] ⟨rfl, rfl, rfl, rfl, rfl, rfl, ⟨⟩⟩ fun _ => ?_
 have z3 := hL1.size
 have hM := hM.keep hL1 (by show ¬ (bm = g ∨ bm = b87); omega)
 have hq := hq.keep q_st (fun k hk => by have hk := hU k hk; omega) hL1 (fun k hk hS => by have hk := hU k hk; have hS : k = g ∨ k = b87 := hS; omega)
 have hf := hf.step hL1 (fun k hk hS => by have hS : k = g ∨ k = b87 := hS; show k = g ∨ k = b87; omega)
 obtain ⟨aR, cR, rfl, -⟩ := hR.form
 have hKb := packAsks_bound (take_all_mem hna k) (take_le40 hcn k) (some []) 12
 refine sreg ?_
 refine svP (xlss rfl rfl) (fun hc94 => ?_) (fun hc94 => ?_)
 ·
  refine send (fg [(0, _), (7, _), (8, _), (9, _), (92, _), (93, _), (94, _)] ⟨rfl, rfl, rfl, rfl, rfl, rfl, rfl, ⟨⟩⟩ fun _ => (wp_seq (cyes rfl (wp_skip (nThen (fg [(0, _), (7, _), (8, _), (9, _), (92, _), (93, _)] ⟨rfl, rfl, rfl, rfl, rfl, rfl, ⟨⟩⟩ fun _ => (wp_seq (wp_block ?_))))))))
  obtain ⟨a, hak⟩ := some_of_lt (by omega : k < m.asks.length)
  have hnA := hna a (List.mem_of_getElem? hak)
  refine sreg (sv (xmove rfl) (sv (xassign rfl) (send (fg [(0, _), (7, _), (8, _), (9, _), (10, _), (92, _), (93, _)] ⟨rfl, rfl, rfl, rfl, rfl, rfl, rfl, ⟨⟩⟩ fun _ => (sreg (sv (xassign rfl) (send (fg [(0, _), (7, _), (8, _), (9, _), (10, _), (92, _), (93, _)] ⟨rfl, rfl, rfl, rfl, rfl, rfl, rfl, ⟨⟩⟩ fun _ => (sreg (sv (xmove rfl) (sv (xnilc rfl) ?_)))))))))))
  refine sv (xfld fl79_1 rfl) (sv (xld on77 rfl (hM.r.c 10 rfl rfl)) (sv (xmove rfl) ?_))
  obtain ⟨bq, oq, sgq, rfl, uq, hsq, heq⟩ := LA.get hq hak
  have zq := hU _ uq
  obtain rfl : sgq = questSegs a := heq
  refine sv (xidx sl77 sz86 rfl rfl rfl (by omega)) (sv (xmove rfl) (sv (xmove rfl) (sv (xmove rfl) ?_)))
  refine sc (xcall ca92 rfl) (c92 (gm := b87) (pos := 12 + (packAll packAsk (some []) 12 (m.asks.take k)).1.length) (start := n) hR (by omega) (by omega) (by omega) (by omega) hsq hnA hC (fun b hb => by have hb := (Option.some.inj hb).symm; omega) (by omega) (by omega)) ?_
  rintro _ w4 ⟨p106, q106, g106, rfl, r106, m5, a106, l106, hC⟩
  have z6 := m5.size
  have hf := hf.step m5 (fun k hk hS => by have hS : k = gk ∨ k = b87 := hS; show k = g ∨ k = b87; omega)
  have hL1 := hL1.step m5 (fun k hk hS => by have hS : k = gk ∨ k = b87 := hS; show k = g ∨ k = b87; omega)
  refine sv (xmove rfl) (sv (xextr rfl rfl) (sv (xextr rfl rfl) (sv (xassign rfl) (sv (xassign rfl) (send (fg [(0, _), (7, _), (8, _), (9, _), (11, _), (92, _), (93, _)] ⟨rfl, rfl, rfl, rfl, rfl, rfl, rfl, ⟨⟩⟩ fun _ => (sreg (sv (xmove rfl) (sv (xneN if89 rfl) (send (fg [(0, _), (7, _), (8, _), (9, _), (11, _), (92, _), (93, _), (110, _)] ⟨rfl, rfl, rfl, rfl, rfl, rfl, rfl, rfl, ⟨⟩⟩ fun _ => ?_)))))))))))
  refine cno rfl (wp_skip (nBlock (nThen (fg [(0, _), (7, _), (8, _), (9, _), (92, _), (93, _)] ⟨rfl, rfl, rfl, rfl, rfl, rfl, ⟨⟩⟩ fun _ => (lreg (sv (xadd rfl rfl (w64 (by omega) (by omega))) (sv (xmove rfl) (lend (nThen ?_)))))))))
  refine ⟨(k + 1, _, g106), _, env_okl ⟨rfl, rfl, rfl, rfl, rfl, rfl, trivial⟩, ⟨hL1, (by omega), (by rw [packAll_take hak]; exact br_cast r106 (by simp) (by simp; omega)), (by omega), (by omega), (by rw [packAll_take hak]; exact hC)⟩, ?_⟩
  show m.asks.length - (k + 1) < m.asks.length - k; omega
 ·
  refine send (fg [(0, _), (7, _), (8, _), (9, _), (92, _), (93, _), (94, _)] ⟨rfl, rfl, rfl, rfl, rfl, rfl, rfl, ⟨⟩⟩ fun _ => (wp_seq (cno rfl (wp_exit (eThen (eThen (eHit ?_)))))))
  have eA : m.asks.take k = m.asks := List.take_of_length_le (by omega)
  exact frag_end (hQ (_, gk) _ _ ⟨hf, (by rw [eA] at hR ⊢; exact hR), (by omega), (hgk2), (by rw [eA] at hC; exact hC)⟩) ⟨rfl, rfl, rfl, rfl, trivial⟩
set_option maxHeartbeats 4000000 in
set_option maxRecDepth 100000 in
theorem c40r1 {w : World} {v : Value} {a1 : Option Addr} {c1 : Nat} {va v2 v3 : Value} {g gR n bm b87 : Nat} {bs : List UInt8} {m : MsgD} {U : Nat → Prop} (hR : BR w v g (n + (12 + (packA (some []) m).1.length)) bs) (hg : g < w.heap.size) (hM : SB w bm lMsg (msgSegs m.head va (.slice a1 m.one.length c1) v2 v3)) (h1 : RA ResEl lRes U w (.slice a1 m.one.length c1) gR 139 m.one.length m.one) (hC : Cmp w (some b87) (packA (some []) m).2) (hU : ∀ k, U k → k < w.heap.size ∧ k ≠ g ∧ k ≠ b87 ∧ k ≠ gR) (hd : gR < w.heap.size ∧ b87 < w.heap.size ∧ bm ≠ g ∧ bm ≠ b87 ∧ bm ≠ gR ∧ gR ≠ g ∧ gR ≠ b87 ∧ g ≠ b87) (hg1 : ∀ r ∈ m.one, GoodP r) (hcn : m.one.length ≤ 40) (hl : n + (12 + (packA (some []) m).1.length) ≤ 100000000) {Q : Exit → Act → World → Prop} {r : Nat → Value}
  (hQ : ∀ (x : Value × Nat) (r : Nat → Value) (wx : World), (match x with | (v, g2) => Fr (fun k => k = g ∨ k = b87 ∨ k = gR) w wx ∧ (BR wx v g2 (n + (12 + (packA (some []) m).1.length) + (pack1 (some []) m).1.length) (bs ++ (pack1 (some []) m).1)) ∧ (g2 = g ∨ w.heap.size ≤ g2) ∧ (g2 < wx.heap.size) ∧ (Cmp wx (some b87) (pack1 (some []) m).2)) → Q .normal (env Tryz.f40.ntmps ((match x with | (v, _g2) => [(8, v)]) ++ [(0, .pointer (some ⟨bm, 0, none⟩)), (7, .int .i64 (n : Int)), (9, .map (some b87))]) r) wx) :
  (navF [true, true, true, true, true, true, true, true, true, true, true, true, true, true, true, false, true] Tryz.f40).wp PP Q (env Tryz.f40.ntmps [(0, .pointer (some ⟨bm, 0, none⟩)), (7, .int .i64 (n : Int)), (8, v), (9, .map (some b87)), (120, .int .i64 (m.one.length : Int)), (121, .int .i64 0)] r) w := by
 obtain ⟨a0, c0, rfl, -⟩ := hR.form
 have hf : Fr (fun k => k = g ∨ k = b87 ∨ k = gR) w w := Fr.refl _ _
 have z_hM := hM.lt
 refine nav_wp rfl ?_
 refine wp_block ?_
 refine lp [(0, _), (7, _), (9, _), (120, _)] (fun (x : Nat × Value × Nat) => match x with | (k, v, gk) => [(8, v), (121, .int .i64 (k : Int))]) (fun (x : Nat × Value × Nat) wx => match x with | (k, v, gk) => Fr (fun k => k = g ∨ k = b87 ∨ k = gR) w wx ∧ (k ≤ m.one.length) ∧ (BR wx v gk (n + (12 + (packA (some []) m).1.length) + (packAll packRec (packA (some []) m).2 (12 + (packA (some []) m).1.length) (m.one.take k)).1.length) (bs ++ (packAll packRec (packA (some []) m).2 (12 + (packA (some []) m).1.length) (m.one.take k)).1)) ∧ (gk = g ∨ w.heap.size ≤ gk) ∧ (gk < wx.heap.size) ∧ (Cmp wx (some b87) (packAll packRec (packA (some []) m).2 (12 + (packA (some []) m).1.length) (m.one.take k)).2) ∧ (RA ResEl lRes U wx (.slice a1 m.one.length c1) gR 139 m.one.length m.one)) (fun (x : Nat × Value × Nat) => match x with | (k, v, gk) => m.one.length - k) (0, _, g) ⟨rfl, rfl, rfl, rfl, rfl, rfl, trivial⟩ ⟨Fr.refl _ _, Nat.zero_le _, br_cast hR (by simp [packAll]) (by simp [packAll]), .inl rfl, by omega, hC, h1⟩ ?_
 rintro ⟨k, v, gk⟩ _ w2 ⟨hL1, hk, hR, hgk, hgk2, hC, h1⟩
 refine fg [(0, _), (7, _), (8, _), (9, _), (120, _), (121, _)] ⟨rfl, rfl, rfl, rfl, rfl, rfl, ⟨⟩⟩ fun _ => ?_
 have z3 := hL1.size
 have hM := hM.keep hL1 (by show ¬ (bm = g ∨ bm = b87 ∨ bm = gR); omega)
 have hf := hf.step hL1 (fun k hk hS => by have hS : k = g ∨ k = b87 ∨ k = gR := hS; show k = g ∨ k = b87 ∨ k = gR; omega)
 obtain ⟨aR, cR, rfl, -⟩ := hR.form
 have hKb := packRecs_bound (take_all_mem hg1 k) (take_le40 hcn k) (packA (some []) m).2 (12 + (packA (some []) m).1.length)
 refine sreg ?_
 refine svP (xlss rfl rfl) (fun hc122 => ?_) (fun hc122 => ?_)
 ·
  refine send (fg [(0, _), (7, _), (8, _), (9, _), (120, _), (121, _), (122, _)] ⟨rfl, rfl, rfl, rfl, rfl, rfl, rfl, ⟨⟩⟩ fun _ => (wp_seq (cyes rfl (wp_skip (nThen (fg [(0, _), (7, _), (8, _), (9, _), (120, _), (121, _)] ⟨rfl, rfl, rfl, rfl, rfl, rfl, ⟨⟩⟩ fun _ => (wp_seq (wp_block ?_))))))))
  obtain ⟨r, hrk⟩ := some_of_lt (by omega : k < m.one.length)
  have hgr := hg1 r (List.mem_of_getElem? hrk)
  refine sreg (sv (xmove rfl) (sv (xassign rfl) (send (fg [(0, _), (7, _), (8, _), (9, _), (12, _), (120, _), (121, _)] ⟨rfl, rfl, rfl, rfl, rfl, rfl, rfl, ⟨⟩⟩ fun _ => (sreg (sv (xassign rfl) (send (fg [(0, _), (7, _), (8, _), (9, _), (12, _), (120, _), (121, _)] ⟨rfl, rfl, rfl, rfl, rfl, rfl, rfl, ⟨⟩⟩ fun _ => (sreg (sv (xmove rfl) (sv (xnilc rfl) ?_)))))))))))
  refine sv (xfld fl79_2 rfl) (sv (xld on75 rfl (hM.r.c 11 rfl rfl)) (sv (xmove rfl) ?_))
  obtain ⟨pre, sg, post, cc, hv1, hpre, hE, hEl, hback⟩ := RA.elem h1 (by decide) hrk
  simp only [Value.slice.injEq] at hv1
  obtain ⟨rfl, -, rfl⟩ := hv1
  obtain ⟨typ, len, vb, hlen, rfl, hB⟩ := hEl
  have hpo : pre.length = 0 + k * 261 := by rw [hpre, Nat.zero_add]; rfl
  obtain ⟨bB, TB, lensB, segsB, rfl, -⟩ := id hB
  refine sv (xidx sl75 sz139 rfl rfl rfl (by omega)) (sv (xmove rfl) (sv (xmove rfl) (sv (xmove rfl) ?_)))
  refine sc (xcall ca93 rfl) (c93 (gm := b87) (pos := (12 + (packA (some []) m).1.length) + (packAll packRec (packA (some []) m).2 (12 + (packA (some []) m).1.length) (m.one.take k)).1.length) (start := n) (r := r) (U := U) hR (by omega) (by omega) (by omega) hE hpo hlen (fun k hk => by have hk := hU k hk; omega) hB hgr.1 hgr.2.1 hgr.2.2 (by omega) hC (fun b hb => by have hb := (Option.some.inj hb).symm; omega) (by omega) (by omega)) ?_
  rintro _ w4 ⟨p134, q134, g134, len2, rfl, r134, m5, a134, l134, hC, hl2, hE⟩
  have z6 := m5.size
  have hf := hf.step m5 (fun k hk hS => by have hS : k = gk ∨ k = b87 ∨ k = gR := hS; show k = g ∨ k = b87 ∨ k = gR; omega)
  have hL1 := hL1.step m5 (fun k hk hS => by have hS : k = gk ∨ k = b87 ∨ k = gR := hS; show k = g ∨ k = b87 ∨ k = gR; omega)
  have hB := hB.keep (fun k hk => by have hk := hU k hk; omega) m5 (fun k hk hS => by have hk := hU k hk; have hS : k = gk ∨ k = b87 ∨ k = gR := hS; omega)
  have h1 := hback _ _ _ hE (by simp only [rhSegs, List.cons_append, List.nil_append, List.flatten_cons, List.flatten_nil, List.all_append, List.append_nil, nm_one, Bool.true_and] <;> rfl) m5 (fun k hk => by have hk := hU k hk; omega) (fun k hk hS => by have hk := hU k hk; have hS : k = gk ∨ k = b87 ∨ k = gR := hS; omega) res_st ⟨_, _, _, hl2, rfl, hB⟩
  refine sv (xmove rfl) (sv (xextr rfl rfl) (sv (xextr rfl rfl) (sv (xassign rfl) (sv (xassign rfl) (send (fg [(0, _), (7, _), (8, _), (9, _), (13, _), (120, _), (121, _)] ⟨rfl, rfl, rfl, rfl, rfl, rfl, rfl, ⟨⟩⟩ fun _ => (sreg (sv (xmove rfl) (sv (xneN if89 rfl) (send (fg [(0, _), (7, _), (8, _), (9, _), (13, _), (120, _), (121, _), (138, _)] ⟨rfl, rfl, rfl, rfl, rfl, rfl, rfl, rfl, ⟨⟩⟩ fun _ => ?_)))))))))))
  refine cno rfl (wp_skip (nBlock (nThen (fg [(0, _), (7, _), (8, _), (9, _), (120, _), (121, _)] ⟨rfl, rfl, rfl, rfl, rfl, rfl, ⟨⟩⟩ fun _ => (lreg (sv (xadd rfl rfl (w64 (by omega) (by omega))) (sv (xmove rfl) (lend (nThen ?_)))))))))
  refine ⟨(k + 1, _, g134), _, env_okl ⟨rfl, rfl, rfl, rfl, rfl, rfl, trivial⟩, ⟨hL1, (by omega), (by rw [packAll_take hrk]; exact br_cast r134 (by simp) (by simp; omega)), (by omega), (by omega), (by rw [packAll_take hrk]; exact hC), (h1)⟩, ?_⟩
  show m.one.length - (k + 1) < m.one.length - k; omega
 ·
  refine send (fg [(0, _), (7, _), (8, _), (9, _), (120, _), (121, _), (122, _)] ⟨rfl, rfl, rfl, rfl, rfl, rfl, rfl, ⟨⟩⟩ fun _ => (wp_seq (cno rfl (wp_exit (eThen (eThen (eHit ?_)))))))
  have eR : m.one.take k = m.one := List.take_of_length_le (by omega)
  exact frag_end (hQ (_, gk) _ _ ⟨hf, (by rw [eR] at hR ⊢; exact hR), (by omega), (hgk2), (by rw [eR] at hC; exact hC)⟩) ⟨rfl, rfl, rfl, rfl, trivial⟩
set_option maxHeartbeats 4000000 in
set_option maxRecDepth 100000 in
theorem c40r2 {w : World} {v : Value} {a1 : Option Addr} {c1 : Nat} {va v1 v3 : Value} {g gR n bm b87 : Nat} {bs : List UInt8} {m : MsgD} {U : Nat → Prop} (hR : BR w v g (n + (12 + (packA (some []) m).1.length + (pack1 (some []) m).1.length)) bs) (hg : g < w.heap.size) (hM : SB w bm lMsg (msgSegs m.head va v1 (.slice a1 m.two.length c1) v3)) (h1 : RA ResEl lRes U w (.slice a1 m.two.length c1) gR 139 m.two.length m.two) (hC : Cmp w (some b87) (pack1 (some []) m).2) (hU : ∀ k, U k → k < w.heap.size ∧ k ≠ g ∧ k ≠ b87 ∧ k ≠ gR) (hd : gR < w.heap.size ∧ b87 < w.heap.size ∧ bm ≠ g ∧ bm ≠ b87 ∧ bm ≠ gR ∧ gR ≠ g ∧ gR ≠ b87 ∧ g ≠ b87) (hg1 : ∀ r ∈ m.two, GoodP r) (hcn : m.two.length ≤ 40) (hl : n + (12 + (packA (some []) m).1.length + (pack1 (some []) m).1.length) ≤ 100000000) {Q : Exit → Act → World → Prop} {r : Nat → Value}
  (hQ : ∀ (x : Value × Nat) (r : Nat → Value) (wx : World), (match x with | (v, g2) => Fr (fun k => k = g ∨ k = b87 ∨ k = gR) w wx ∧ (BR wx v g2 (n + (12 + (packA (some []) m).1.length + (pack1 (some []) m).1.length) + (pack2 (some []) m).1.length) (bs ++ (pack2 (some []) m).1)) ∧ (g2 = g ∨ w.heap.size ≤ g2) ∧ (g2 < wx.heap.size) ∧ (Cmp wx (some b87) (pack2 (some []) m).2)) → Q .normal (env Tryz.f40.ntmps ((match x with | (v, _g2) => [(8, v)]) ++ [(0, .pointer (some ⟨bm, 0, none⟩)), (7, .int .i64 (n : Int)), (9, .map (some b87))]) r) wx) :
  (navF [true, true, true, true, true, true, true, true, true, true, true, true, true, true, true, true, false, true] Tryz.f40).wp PP Q (env Tryz.f40.ntmps [(0, .pointer (some ⟨bm, 0, none⟩)), (7, .int .i64 (n : Int)), (8, v), (9, .map (some b87)), (148, .int .i64 (m.two.length : Int)), (149, .int .i64 0)] r) w := by
 obtain ⟨a0, c0, rfl, -⟩ := hR.form
 have hf : Fr (fun k => k = g ∨ k = b87 ∨ k = gR) w w := Fr.refl _ _
 have z_hM := hM.lt
 refine nav_wp rfl ?_
 refine wp_block ?_
 refine lp [(0, _), (7, _), (9, _), (148, _)] (fun (x : Nat × Value × Nat) => match x with | (k, v, gk) => [(8, v), (149, .int .i64 (k : Int))]) (fun (x : Nat × Value × Nat) wx => match x with | (k, v, gk) => Fr (fun k => k = g ∨ k = b87 ∨ k = gR) w wx ∧ (k ≤ m.two.length) ∧ (BR wx v gk (n + (12 + (packA (some []) m).1.length + (pack1 (some []) m).1.length) + (packAll packRec (pack1 (some []) m).2 (12 + (packA (some []) m).1.length + (pack1 (some []) m).1.length) (m.two.take k)).1.length) (bs ++ (packAll packRec (pack1 (some []) m).2 (12 + (packA (some []) m).1.length + (pack1 (some []) m).1.length) (m.two.take k)).1)) ∧ (gk = g ∨ w.heap.size ≤ gk) ∧ (gk < wx.heap.size) ∧ (Cmp wx (some b87) (packAll packRec (pack1 (some []) m).2 (12 + (packA (some []) m).1.length + (pack1 (some []) m).1.length) (m.two.take k)).2) ∧ (RA ResEl lRes U wx (.slice a1 m.two.length c1) gR 139 m.two.length m.two)) (fun (x : Nat × Value × Nat) => match x with | (k, v, gk) => m.two.length - k) (0, _, g) ⟨rfl, rfl, rfl, rfl, rfl, rfl, trivial⟩ ⟨Fr.refl _ _, Nat.zero_le _, br_cast hR (by simp [packAll]) (by simp [packAll]), .inl rfl, by omega, hC, h1⟩ ?_
 rintro ⟨k, v, gk⟩ _ w2 ⟨hL1, hk, hR, hgk, hgk2, hC, h1⟩
 refine fg [(0, _), (7, _), (8, _), (9, _), (148, _), (149, _)] ⟨rfl, rfl, rfl, rfl, rfl, rfl, ⟨⟩⟩ fun _ => ?_
 have z3 := hL1.size
 have hM := hM.keep hL1 (by show ¬ (bm = g ∨ bm = b87 ∨ bm = gR); omega)
 have hf := hf.step hL1 (fun k hk hS => by have hS : k = g ∨ k = b87 ∨ k = gR := hS; show k = g ∨ k = b87 ∨ k = gR; omega)
 obtain ⟨aR, cR, rfl, -⟩ := hR.form
 have hKb := packRecs_bound (take_all_mem hg1 k) (take_le40 hcn k) (pack1 (some []) m).2 (12 + (packA (some []) m).1.length + (pack1 (some []) m).1.length)
 refine sreg ?_
 refine svP (xlss rfl rfl) (fun hc150 => ?_) (fun hc150 => ?_)
 ·
  refine send (fg [(0, _), (7, _), (8, _), (9, _), (148, _), (149, _), (150, _)] ⟨rfl, rfl, rfl, rfl, rfl, rfl, rfl, ⟨⟩⟩ fun _ => (wp_seq (cyes rfl (wp_skip (nThen (fg [(0, _), (7, _), (8, _), (9, _), (148, _), (149, _)] ⟨rfl, rfl, rfl, rfl, rfl, rfl, ⟨⟩⟩ fun _ => (wp_seq (wp_block ?_))))))))
  obtain ⟨r, hrk⟩ := some_of_lt (by omega : k < m.two.length)
  have hgr := hg1 r (List.mem_of_getElem? hrk)
  refine sreg (sv (xmove rfl) (sv (xassign rfl) (send (fg [(0, _), (7, _), (8, _), (9, _), (14, _), (148, _), (149, _)] ⟨rfl, rfl, rfl, rfl, rfl, rfl, rfl, ⟨⟩⟩ fun _ => (sreg (sv (xassign rfl) (send (fg [(0, _), (7, _), (8, _), (9, _), (14, _), (148, _), (149, _)] ⟨rfl, rfl, rfl, rfl, rfl, rfl, rfl, ⟨⟩⟩ fun _ => (sreg (sv (xmove rfl) (sv (xnilc rfl) ?_)))))))))))
  refine sv (xfld fl79_3 rfl) (sv (xld on75 rfl (hM.r.c 12 rfl rfl)) (sv (xmove rfl) ?_))
  obtain ⟨pre, sg, post, cc, hv1, hpre, hE, hEl, hback⟩ := RA.elem h1 (by decide) hrk
  simp only [Value.slice.injEq] at hv1
  obtain ⟨rfl, -, rfl⟩ := hv1
  obtain ⟨typ, len, vb, hlen, rfl, hB⟩ := hEl
  have hpo : pre.length = 0 + k * 261 := by rw [hpre, Nat.zero_add]; rfl
  obtain ⟨bB, TB, lensB, segsB, rfl, -⟩ := id hB
  refine sv (xidx sl75 sz139 rfl rfl rfl (by omega)) (sv (xmove rfl) (sv (xmove rfl) (sv (xmove rfl) ?_)))
  refine sc (xcall ca93 rfl) (c93 (gm := b87) (pos := (12 + (packA (some []) m).1.length + (pack1 (some []) m).1.length) + (packAll packRec (pack1 (some []) m).2 (12 + (packA (some []) m).1.length + (pack1 (some []) m).1.length) (m.two.take k)).1.length) (start := n) (r := r) (U := U) hR (by omega) (by omega) (by omega) hE hpo hlen (fun k hk => by have hk := hU k hk; omega) hB hgr.1 hgr.2.1 hgr.2.2 (by omega) hC (fun b hb => by have hb := (Option.some.inj hb).symm; omega) (by omega) (by omega)) ?_
  rintro _ w4 ⟨p162, q162, g162, len2, rfl, r162, m5, a162, l162, hC, hl2, hE⟩
  have z6 := m5.size
  have hf := hf.step m5 (fun k hk hS => by have hS : k = gk ∨ k = b87 ∨ k = gR := hS; show k = g ∨ k = b87 ∨ k = gR; omega)
  have hL1 := hL1.step m5 (fun k hk hS => by have hS : k = gk ∨ k = b87 ∨ k = gR := hS; show k = g ∨ k = b87 ∨ k = gR; omega)
  have hB := hB.keep (fun k hk => by have hk := hU k hk; omega) m5 (fun k hk hS => by have hk := hU k hk; have hS : k = gk ∨ k = b87 ∨ k = gR := hS; omega)
  have h1 := hback _ _ _ hE (by simp only [rhSegs, List.cons_append, List.nil_append, List.flatten_cons, List.flatten_nil, List.all_append, List.append_nil, nm_one, Bool.true_and] <;> rfl) m5 (fun k hk => by have hk := hU k hk; omega) (fun k hk hS => by have hk := hU k hk; have hS : k = gk ∨ k = b87 ∨ k = gR := hS; omega) res_st ⟨_, _, _, hl2, rfl, hB⟩
  refine sv (xmove rfl) (sv (xextr rfl rfl) (sv (xextr rfl rfl) (sv (xassign rfl) (sv (xassign rfl) (send (fg [(0, _), (7, _), (8, _), (9, _), (15, _), (148, _), (149, _)] ⟨rfl, rfl, rfl, rfl, rfl, rfl, rfl, ⟨⟩⟩ fun _ => (sreg (sv (xmove rfl) (sv (xneN if89 rfl) (send (fg [(0, _), (7, _), (8, _), (9, _), (15, _), (148, _), (149, _), (166, _)] ⟨rfl, rfl, rfl, rfl, rfl, rfl, rfl, rfl, ⟨⟩⟩ fun _ => ?_)))))))))))
  refine cno rfl (wp_skip (nBlock (nThen (fg [(0, _), (7, _), (8, _), (9, _), (148, _), (149, _)] ⟨rfl, rfl, rfl, rfl, rfl, rfl, ⟨⟩⟩ fun _ => (lreg (sv (xadd rfl rfl (w64 (by omega) (by omega))) (sv (xmove rfl) (lend (nThen ?_)))))))))
  refine ⟨(k + 1, _, g162), _, env_okl ⟨rfl, rfl, rfl, rfl, rfl, rfl, trivial⟩, ⟨hL1, (by omega), (by rw [packAll_take hrk]; exact br_cast r162 (by simp) (by simp; omega)), (by omega), (by omega), (by rw [packAll_take hrk]; exact hC), (h1)⟩, ?_⟩
  show m.two.length - (k + 1) < m.two.length - k; omega
 ·
  refine send (fg [(0, _), (7, _), (8, _), (9, _), (148, _), (149, _), (150, _)] ⟨rfl, rfl, rfl, rfl, rfl, rfl, rfl, ⟨⟩⟩ fun _ => (wp_seq (cno rfl (wp_exit (eThen (eThen (eHit ?_)))))))
  have eR : m.two.take k = m.two := List.take_of_length_le (by omega)
  exact frag_end (hQ (_, gk) _ _ ⟨hf, (by rw [eR] at hR ⊢; exact hR), (by omega), (hgk2), (by rw [eR] at hC; exact hC)⟩) ⟨rfl, rfl, rfl, rfl, trivial⟩
set_option maxHeartbeats 4000000 in
set_option maxRecDepth 100000 in
theorem c40r3 {w : World} {v : Value} {a1 : Option Addr} {c1 : Nat} {va v1 v2 : Value} {g gR n bm b87 : Nat} {bs : List UInt8} {m : MsgD} {U : Nat → Prop} (hR : BR w v g (n + (12 + (packA (some []) m).1.length + (pack1 (some []) m).1.length + (pack2 (some []) m).1.length)) bs) (hg : g < w.heap.size) (hM : SB w bm lMsg (msgSegs m.head va v1 v2 (.slice a1 m.three.length c1))) (h1 : RA ResEl lRes U w (.slice a1 m.three.length c1) gR 139 m.three.length m.three) (hC : Cmp w (some b87) (pack2 (some []) m).2) (hU : ∀ k, U k → k < w.heap.size ∧ k ≠ g ∧ k ≠ b87 ∧ k ≠ gR) (hd : gR < w.heap.size ∧ b87 < w.heap.size ∧ bm ≠ g ∧ bm ≠ b87 ∧ bm ≠ gR ∧ gR ≠ g ∧ gR ≠ b87 ∧ g ≠ b87) (hg1 : ∀ r ∈ m.three, GoodP r) (hcn : m.three.length ≤ 40) (hl : n + (12 + (packA (some []) m).1.length + (pack1 (some []) m).1.length + (pack2 (some []) m).1.length) ≤ 100000000) {Q : Exit → Act → World → Prop} {r : Nat → Value}
  (hQ : ∀ (x : Value × Nat) (r : Nat → Value) (wx : World), (match x with | (v, g2) => Fr (fun k => k = g ∨ k = b87 ∨ k = gR) w wx ∧ (BR wx v g2 (n + (12 + (packA (some []) m).1.length + (pack1 (some []) m).1.length + (pack2 (some []) m).1.length) + (pack3 (some []) m).1.length) (bs ++ (pack3 (some []) m).1)) ∧ (g2 = g ∨ w.heap.size ≤ g2) ∧ (g2 < wx.heap.size) ∧ (Cmp wx (some b87) (pack3 (some []) m).2)) → Q .normal (env Tryz.f40.ntmps ((match x with | (v, _g2) => [(8, v)]) ++ []) r) wx) :
  (navF [true, true, true, true, true, true, true, true, true, true, true, true, true, true, true, true, true, false, true] Tryz.f40).wp PP Q (env Tryz.f40.ntmps [(0, .pointer (some ⟨bm, 0, none⟩)), (7, .int .i64 (n : Int)), (8, v), (9, .map (some b87)), (176, .int .i64 (m.three.length : Int)), (177, .int .i64 0)] r) w := by
 obtain ⟨a0, c0, rfl, -⟩ := hR.form
 have hf : Fr (fun k => k = g ∨ k = b87 ∨ k = gR) w w := Fr.refl _ _
 have z_hM := hM.lt
 refine nav_wp rfl ?_
 refine wp_block ?_
 refine lp [(0, _), (7, _), (9, _), (176, _)] (fun (x : Nat × Value × Nat) => match x with | (k, v, gk) => [(8, v), (177, .int .i64 (k : Int))]) (fun (x : Nat × Value × Nat) wx => match x with | (k, v, gk) => Fr (fun k => k = g ∨ k = b87 ∨ k = gR) w wx ∧ (k ≤ m.three.length) ∧ (BR wx v gk (n + (12 + (packA (some []) m).1.length + (pack1 (some []) m).1.length + (pack2 (some []) m).1.length) + (packAll packRec (pack2 (some []) m).2 (12 + (packA (some []) m).1.length + (pack1 (some []) m).1.length + (pack2 (some []) m).1.length) (m.three.take k)).1.length) (bs ++ (packAll packRec (pack2 (some []) m).2 (12 + (packA (some []) m).1.length + (pack1 (some []) m).1.length + (pack2 (some []) m).1.length) (m.three.take k)).1)) ∧ (gk = g ∨ w.heap.size ≤ gk) ∧ (gk < wx.heap.size) ∧ (Cmp wx (some b87) (packAll packRec (pack2 (some []) m).2 (12 + (packA (some []) m).1.length + (pack1 (some []) m).1.length + (pack2 (some []) m).1.length) (m.three.take k)).2) ∧ (RA ResEl lRes U wx (.slice a1 m.three.length c1) gR 139 m.three.length m.three)) (fun (x : Nat × Value × Nat) => match x with | (k, v, gk) => m.three.length - k) (0, _, g) ⟨rfl, rfl, rfl, rfl, rfl, rfl, trivial⟩ ⟨Fr.refl _ _, Nat.zero_le _, br_cast hR (by simp [packAll]) (by simp [packAll]), .inl rfl, by omega, hC, h1⟩ ?_
 rintro ⟨k, v, gk⟩ _ w2 ⟨hL1, hk, hR, hgk, hgk2, hC, h1⟩
 refine fg [(0, _), (7, _), (8, _), (9, _), (176, _), (177, _)] ⟨rfl, rfl, rfl, rfl, rfl, rfl, ⟨⟩⟩ fun _ => ?_
 have z3 := hL1.size
 have hM := hM.keep hL1 (by show ¬ (bm = g ∨ bm = b87 ∨ bm = gR); omega)
 have hf := hf.step hL1 (fun k hk hS => by have hS : k = g ∨ k = b87 ∨ k = gR := hS; show k = g ∨ k = b87 ∨ k = gR; omega)
 obtain ⟨aR, cR, rfl, -⟩ := hR.form
 have hKb := packRecs_bound (take_all_mem hg1 k) (take_le40 hcn k) (pack2 (some []) m).2 (12 + (packA (some []) m).1.length + (pack1 (some []) m).1.length + (pack2 (some []) m).1.length)
 refine sreg ?_
 refine svP (xlss rfl rfl) (fun hc178 => ?_) (fun hc178 => ?_)
 ·
  refine send (fg [(0, _), (7, _), (8, _), (9, _), (176, _), (177, _), (178, _)] ⟨rfl, rfl, rfl, rfl, rfl, rfl, rfl, ⟨⟩⟩ fun _ => (wp_seq (cyes rfl (wp_skip (nThen (fg [(0, _), (7, _), (8, _), (9, _), (176, _), (177, _)] ⟨rfl, rfl, rfl, rfl, rfl, rfl, ⟨⟩⟩ fun _ => (wp_seq (wp_block ?_))))))))
  obtain ⟨r, hrk⟩ := some_of_lt (by omega : k < m.three.length)
  have hgr := hg1 r (List.mem_of_getElem? hrk)
  refine sreg (sv (xmove rfl) (sv (xassign rfl) (send (fg [(0, _), (7, _), (8, _), (9, _), (16, _), (176, _), (177, _)] ⟨rfl, rfl, rfl, rfl, rfl, rfl, rfl, ⟨⟩⟩ fun _ => (sreg (sv (xassign rfl) (send (fg [(0, _), (7, _), (8, _), (9, _), (16, _), (176, _), (177, _)] ⟨rfl, rfl, rfl, rfl, rfl, rfl, rfl, ⟨⟩⟩ fun _ => (sreg (sv (xmove rfl) (sv (xnilc rfl) ?_)))))))))))
  refine sv (xfld fl79_4 rfl) (sv (xld on75 rfl (hM.r.c 13 rfl rfl)) (sv (xmove rfl) ?_))
  obtain ⟨pre, sg, post, cc, hv1, hpre, hE, hEl, hback⟩ := RA.elem h1 (by decide) hrk
  simp only [Value.slice.injEq] at hv1
  obtain ⟨rfl, -, rfl⟩ := hv1
  obtain ⟨typ, len, vb, hlen, rfl, hB⟩ := hEl
  have hpo : pre.length = 0 + k * 261 := by rw [hpre, Nat.zero_add]; rfl
  obtain ⟨bB, TB, lensB, segsB, rfl, -⟩ := id hB
  refine sv (xidx sl75 sz139 rfl rfl rfl (by omega)) (sv (xmove rfl) (sv (xmove rfl) (sv (xmove rfl) ?_)))
  refine sc (xcall ca93 rfl) (c93 (gm := b87) (pos := (12 + (packA (some []) m).1.length + (pack1 (some []) m).1.length + (pack2 (some []) m).1.length) + (packAll packRec (pack2 (some []) m).2 (12 + (packA (some []) m).1.length + (pack1 (some []) m).1.length + (pack2 (some []) m).1.length) (m.three.take k)).1.length) (start := n) (r := r) (U := U) hR (by omega) (by omega) (by omega) hE hpo hlen (fun k hk => by have hk := hU k hk; omega) hB hgr.1 hgr.2.1 hgr.2.2 (by omega) hC (fun b hb => by have hb := (Option.some.inj hb).symm; omega) (by omega) (by omega)) ?_
  rintro _ w4 ⟨p190, q190, g190, len2, rfl, r190, m5, a190, l190, hC, hl2, hE⟩
  have z6 := m5.size
  have hf := hf.step m5 (fun k hk hS => by have hS : k = gk ∨ k = b87 ∨ k = gR := hS; show k = g ∨ k = b87 ∨ k = gR; omega)
  have hL1 := hL1.step m5 (fun k hk hS => by have hS : k = gk ∨ k = b87 ∨ k = gR := hS; show k = g ∨ k = b87 ∨ k = gR; omega)
  have hB := hB.keep (fun k hk => by have hk := hU k hk; omega) m5 (fun k hk hS => by have hk := hU k hk; have hS : k = gk ∨ k = b87 ∨ k = gR := hS; omega)
  have h1 := hback _ _ _ hE (by simp only [rhSegs, List.cons_append, List.nil_append, List.flatten_cons, List.flatten_nil, List.all_append, List.append_nil, nm_one, Bool.true_and] <;> rfl) m5 (fun k hk => by have hk := hU k hk; omega) (fun k hk hS => by have hk := hU k hk; have hS : k = gk ∨ k = b87 ∨ k = gR := hS; omega) res_st ⟨_, _, _, hl2, rfl, hB⟩
  refine sv (xmove rfl) (sv (xextr rfl rfl) (sv (xextr rfl rfl) (sv (xassign rfl) (sv (xassign rfl) (send (fg [(0, _), (7, _), (8, _), (9, _), (17, _), (176, _), (177, _)] ⟨rfl, rfl, rfl, rfl, rfl, rfl, rfl, ⟨⟩⟩ fun _ => (sreg (sv (xmove rfl) (sv (xneN if89 rfl) (send (fg [(0, _), (7, _), (8, _), (9, _), (17, _), (176, _), (177, _), (194, _)] ⟨rfl, rfl, rfl, rfl, rfl, rfl, rfl, rfl, ⟨⟩⟩ fun _ => ?_)))))))))))
  refine cno rfl (wp_skip (nBlock (nThen (fg [(0, _), (7, _), (8, _), (9, _), (176, _), (177, _)] ⟨rfl, rfl, rfl, rfl, rfl, rfl, ⟨⟩⟩ fun _ => (lreg (sv (xadd rfl rfl (w64 (by omega) (by omega))) (sv (xmove rfl) (lend (nThen ?_)))))))))
  refine ⟨(k + 1, _, g190), _, env_okl ⟨rfl, rfl, rfl, rfl, rfl, rfl, trivial⟩, ⟨hL1, (by omega), (by rw [packAll_take hrk]; exact br_cast r190 (by simp) (by simp; omega)), (by omega), (by omega), (by rw [packAll_take hrk]; exact hC), (h1)⟩, ?_⟩
  show m.three.length - (k + 1) < m.three.length - k; omega
 ·
  refine send (fg [(0, _), (7, _), (8, _), (9, _), (176, _), (177, _), (178, _)] ⟨rfl, rfl, rfl, rfl, rfl, rfl, rfl, ⟨⟩⟩ fun _ => (wp_seq (cno rfl (wp_exit (eThen (eThen (eHit ?_)))))))
  have eR : m.three.take k = m.three := List.take_of_length_le (by omega)
  exact frag_end (hQ (_, gk) _ _ ⟨hf, (by rw [eR] at hR ⊢; exact hR), (by omega), (hgk2), (by rw [eR] at hC; exact hC)⟩) ⟨rfl, trivial⟩
set_option maxHeartbeats 4000000 in
set_option maxRecDepth 100000 in
theorem c40 {w : World} {v va v1 v2 v3 : Value} {g n bm g1 g2 g3 : Nat} {bs : List UInt8} {m : MsgD} {U : Nat → Prop} (hR : BR w v g n bs) (hg : g < w.heap.size) (hM : SB w bm lMsg (msgSegs m.head va v1 v2 v3)) (hq : LA QEl lQ U w va m.asks) (h1 : RA ResEl lRes U w v1 g1 139 m.one.length m.one) (h2 : RA ResEl lRes U w v2 g2 139 m.two.length m.two) (h3 : RA ResEl lRes U w v3 g3 139 m.three.length m.three) (hU : ∀ k, U k → k < w.heap.size ∧ k ≠ g ∧ k ≠ g1 ∧ k ≠ g2 ∧ k ≠ g3) (hd : bm < g ∧ g1 < g2 ∧ g2 < g3 ∧ g3 < g ∧ bm ≠ g1 ∧ bm ≠ g2 ∧ bm ≠ g3) (hna : ∀ a ∈ m.asks, nameL (bt a.name)) (hg1 : ∀ r ∈ m.one, GoodP r) (hg2 : ∀ r ∈ m.two, GoodP r) (hg3 : ∀ r ∈ m.three, GoodP r) (hcn : m.asks.length ≤ 40 ∧ m.one.length ≤ 40 ∧ m.two.length ≤ 40 ∧ m.three.length ≤ 40) (hl : n ≤ 10000000)  :
  Ret PP 40 [.pointer (some ⟨bm, 0, none⟩), v] w (MsgC w g g1 g2 g3 n bs (packM (some []) m)) := by
 obtain ⟨a0, c0, rfl, -⟩ := hR.form
 obtain ⟨aq, cq, rfl⟩ := hq.form
 obtain ⟨a1, c1, rfl⟩ := RA.form h1
 obtain ⟨a2, c2, rfl⟩ := RA.form h2
 obtain ⟨a3, c3, rfl⟩ := RA.form h3
 have hf : Fr (fun k => k = g ∨ k = g1 ∨ k = g2 ∨ k = g3) w w := Fr.refl _ _
 have z_hM := hM.lt
 refine ret_of Tryz.func40 rfl rfl rfl [(0, _), (1, _)] rfl ?_
 refine sreg (sv (xassign rfl) (sv (xassign rfl) (send (fg [(0, _), (1, _)] ⟨rfl, rfl, ⟨⟩⟩ fun _ => (wp_seq (sreg (sv (xmove rfl) (sv (xnilc rfl) (sv (xfld fl79_1 rfl) (sv (xld on77 rfl (hM.r.c 10 rfl rfl)) (sv (xlen sl77 rfl) ?_)))))))))))
 refine sv (exF (xgtr rfl rfl) (by omega)) (send (fg [(0, _), (1, _), (23, _)] ⟨rfl, rfl, rfl, ⟨⟩⟩ fun _ => (cno rfl (wp_skip (nThen (fg [(0, _), (1, _)] ⟨rfl, rfl, ⟨⟩⟩ fun _ => (wp_seq (sreg (sv (xmove rfl) (sv (xnilc rfl) (sv (xfld fl79_2 rfl) ?_)))))))))))
 refine sv (xld on75 rfl (hM.r.c 11 rfl rfl)) (sv (xlen sl75 rfl) (sv (exF (xgtr rfl rfl) (by omega)) (send (fg [(0, _), (1, _), (30, _)] ⟨rfl, rfl, rfl, ⟨⟩⟩ fun _ => (cno rfl (wp_skip (nThen (fg [(0, _), (1, _)] ⟨rfl, rfl, ⟨⟩⟩ fun _ => (wp_seq (sreg (sv (xmove rfl) ?_)))))))))))
 refine sv (xnilc rfl) (sv (xfld fl79_3 rfl) (sv (xld on75 rfl (hM.r.c 12 rfl rfl)) (sv (xlen sl75 rfl) (sv (exF (xgtr rfl rfl) (by omega)) (send (fg [(0, _), (1, _), (37, _)] ⟨rfl, rfl, rfl, ⟨⟩⟩ fun _ => (cno rfl (wp_skip (nThen (fg [(0, _), (1, _)] ⟨rfl, rfl, ⟨⟩⟩ fun _ => (wp_seq ?_)))))))))))
 refine sreg (sv (xmove rfl) (sv (xnilc rfl) (sv (xfld fl79_4 rfl) (sv (xld on75 rfl (hM.r.c 13 rfl rfl)) (sv (xlen sl75 rfl) (sv (exF (xgtr rfl rfl) (by omega)) (send (fg [(0, _), (1, _), (44, _)] ⟨rfl, rfl, rfl, ⟨⟩⟩ fun _ => (cno rfl (wp_skip (nThen ?_)))))))))))
 refine fg [(0, _), (1, _)] ⟨rfl, rfl, ⟨⟩⟩ fun _ => (sreg ?_)
 refine svK (xallS (lens := [1, 1, 1, 1, 1, 1]) in121 rfl) ?_
 rintro _ w2 ⟨b6, rfl, m3, h6, e1, s1⟩
 have hR := hR.keep m3 id
 have hM := hM.keep m3 id
 have hq := hq.keep q_st (fun k hk => by have hk := hU k hk; omega) m3 nF
 have h1 := h1.keep res_st (fun k hk => by have hk := hU k hk; omega) m3 nF id
 have h2 := h2.keep res_st (fun k hk => by have hk := hU k hk; omega) m3 nF id
 have h3 := h3.keep res_st (fun k hk => by have hk := hU k hk; omega) m3 nF id
 have hf := hf.step0 m3
 refine send (fg [(0, _), (1, _), (6, _)] ⟨rfl, rfl, rfl, ⟨⟩⟩ fun _ => (sreg (sv (xmove rfl) (sv (xnilc rfl) (sv (xfld fl79_0 rfl) ?_)))))
 refine sc (xcall ca90 rfl) (c90 (h := m.head) (SR.sub hM.r 0 10 rfl) (by omega)) ?_
 rintro _ w4 ⟨rfl, m5⟩
 have z6 := m5.size
 have hR := hR.keep m5 id
 have hM := hM.keep m5 id
 have hq := hq.keep q_st (fun k hk => by have hk := hU k hk; omega) m5 nF
 have h1 := h1.keep res_st (fun k hk => by have hk := hU k hk; omega) m5 nF id
 have h2 := h2.keep res_st (fun k hk => by have hk := hU k hk; omega) m5 nF id
 have h3 := h3.keep res_st (fun k hk => by have hk := hU k hk; omega) m5 nF id
 have hf := hf.step0 m5
 have h6 := h6.keep m5 id
 refine sv (xmove rfl) (sv (xextr rfl rfl) (sv (xextr rfl rfl) (sv (xfld fl121_0 rfl) ?_)))
 refine suK (xstF 0 sz22 h6 rfl rfl rfl rfl rfl) ?_
 rintro w8 ⟨m9, h6, s7⟩
 have hR := hR.keep m9 (by show ¬ (g = b6); omega)
 have hM := hM.keep m9 (by show ¬ (bm = b6); omega)
 have hq := hq.keep q_st (fun k hk => by have hk := hU k hk; omega) m9 (fun k hk hS => by have hk := hU k hk; have hS : k = b6 := hS; omega)
 have h1 := h1.keep res_st (fun k hk => by have hk := hU k hk; omega) m9 (fun k hk hS => by have hk := hU k hk; have hS : k = b6 := hS; omega) (by show ¬ (g1 = b6); omega)
 have h2 := h2.keep res_st (fun k hk => by have hk := hU k hk; omega) m9 (fun k hk hS => by have hk := hU k hk; have hS : k = b6 := hS; omega) (by show ¬ (g2 = b6); omega)
 have h3 := h3.keep res_st (fun k hk => by have hk := hU k hk; omega) m9 (fun k hk hS => by have hk := hU k hk; have hS : k = b6 := hS; omega) (by show ¬ (g3 = b6); omega)
 have hf := hf.step m9 (fun k hk hS => by have hS : k = b6 := hS; show k = g ∨ k = g1 ∨ k = g2 ∨ k = g3; omega)
 refine sv (xfld fl121_1 rfl) ?_
 refine suK (xstF 1 sz22 h6 rfl rfl rfl rfl rfl) ?_
 rintro w11 ⟨m12, h6, s10⟩
 have hR := hR.keep m12 (by show ¬ (g = b6); omega)
 have hM := hM.keep m12 (by show ¬ (bm = b6); omega)
 have hq := hq.keep q_st (fun k hk => by have hk := hU k hk; omega) m12 (fun k hk hS => by have hk := hU k hk; have hS : k = b6 := hS; omega)
 have h1 := h1.keep res_st (fun k hk => by have hk := hU k hk; omega) m12 (fun k hk hS => by have hk := hU k hk; have hS : k = b6 := hS; omega) (by show ¬ (g1 = b6); omega)
 have h2 := h2.keep res_st (fun k hk => by have hk := hU k hk; omega) m12 (fun k hk hS => by have hk := hU k hk; have hS : k = b6 := hS; omega) (by show ¬ (g2 = b6); omega)
 have h3 := h3.keep res_st (fun k hk => by have hk := hU k hk; omega) m12 (fun k hk hS => by have hk := hU k hk; have hS : k = b6 := hS; omega) (by show ¬ (g3 = b6); omega)
 have hf := hf.step m12 (fun k hk hS => by have hS : k = b6 := hS; show k = g ∨ k = g1 ∨ k = g2 ∨ k = g3; omega)
 refine send (fg [(0, _), (1, _), (6, _)] ⟨rfl, rfl, rfl, ⟨⟩⟩ fun _ => (sreg (sv (xmove rfl) (sv (xnilc rfl) (sv (xfld fl79_1 rfl) (sv (xld on77 rfl (hM.r.c 10 rfl rfl)) (sv (xlen sl77 rfl) (sv (xconv hs3 ki22 rfl (wu16n m.asks.length (by omega))) (sv (xfld fl121_2 rfl) ?_)))))))))
 refine suK (xstF 2 sz22 h6 rfl rfl rfl rfl rfl) ?_
 rintro w14 ⟨m15, h6, s13⟩
 have hR := hR.keep m15 (by show ¬ (g = b6); omega)
 have hM := hM.keep m15 (by show ¬ (bm = b6); omega)
 have hq := hq.keep q_st (fun k hk => by have hk := hU k hk; omega) m15 (fun k hk hS => by have hk := hU k hk; have hS : k = b6 := hS; omega)
 have h1 := h1.keep res_st (fun k hk => by have hk := hU k hk; omega) m15 (fun k hk hS => by have hk := hU k hk; have hS : k = b6 := hS; omega) (by show ¬ (g1 = b6); omega)
 have h2 := h2.keep res_st (fun k hk => by have hk := hU k hk; omega) m15 (fun k hk hS => by have hk := hU k hk; have hS : k = b6 := hS; omega) (by show ¬ (g2 = b6); omega)
 have h3 := h3.keep res_st (fun k hk => by have hk := hU k hk; omega) m15 (fun k hk hS => by have hk := hU k hk; have hS : k = b6 := hS; omega) (by show ¬ (g3 = b6); omega)
 have hf := hf.step m15 (fun k hk hS => by have hS : k = b6 := hS; show k = g ∨ k = g1 ∨ k = g2 ∨ k = g3; omega)
 refine send (fg [(0, _), (1, _), (6, _)] ⟨rfl, rfl, rfl, ⟨⟩⟩ fun _ => (sreg (sv (xmove rfl) (sv (xnilc rfl) (sv (xfld fl79_2 rfl) (sv (xld on75 rfl (hM.r.c 11 rfl rfl)) (sv (xlen sl75 rfl) (sv (xconv hs3 ki22 rfl (wu16n m.one.length (by omega))) (sv (xfld fl121_3 rfl) ?_)))))))))
 refine suK (xstF 3 sz22 h6 rfl rfl rfl rfl rfl) ?_
 rintro w17 ⟨m18, h6, s16⟩
 have hR := hR.keep m18 (by show ¬ (g = b6); omega)
 have hM := hM.keep m18 (by show ¬ (bm = b6); omega)
 have hq := hq.keep q_st (fun k hk => by have hk := hU k hk; omega) m18 (fun k hk hS => by have hk := hU k hk; have hS : k = b6 := hS; omega)
 have h1 := h1.keep res_st (fun k hk => by have hk := hU k hk; omega) m18 (fun k hk hS => by have hk := hU k hk; have hS : k = b6 := hS; omega) (by show ¬ (g1 = b6); omega)
 have h2 := h2.keep res_st (fun k hk => by have hk := hU k hk; omega) m18 (fun k hk hS => by have hk := hU k hk; have hS : k = b6 := hS; omega) (by show ¬ (g2 = b6); omega)
 have h3 := h3.keep res_st (fun k hk => by have hk := hU k hk; omega) m18 (fun k hk hS => by have hk := hU k hk; have hS : k = b6 := hS; omega) (by show ¬ (g3 = b6); omega)
 have hf := hf.step m18 (fun k hk hS => by have hS : k = b6 := hS; show k = g ∨ k = g1 ∨ k = g2 ∨ k = g3; omega)
 refine send (fg [(0, _), (1, _), (6, _)] ⟨rfl, rfl, rfl, ⟨⟩⟩ fun _ => (sreg (sv (xmove rfl) (sv (xnilc rfl) (sv (xfld fl79_3 rfl) (sv (xld on75 rfl (hM.r.c 12 rfl rfl)) (sv (xlen sl75 rfl) (sv (xconv hs3 ki22 rfl (wu16n m.two.length (by omega))) (sv (xfld fl121_4 rfl) ?_)))))))))
 refine suK (xstF 4 sz22 h6 rfl rfl rfl rfl rfl) ?_
 rintro w20 ⟨m21, h6, s19⟩
 have hR := hR.keep m21 (by show ¬ (g = b6); omega)
 have hM := hM.keep m21 (by show ¬ (bm = b6); omega)
 have hq := hq.keep q_st (fun k hk => by have hk := hU k hk; omega) m21 (fun k hk hS => by have hk := hU k hk; have hS : k = b6 := hS; omega)
 have h1 := h1.keep res_st (fun k hk => by have hk := hU k hk; omega) m21 (fun k hk hS => by have hk := hU k hk; have hS : k = b6 := hS; omega) (by show ¬ (g1 = b6); omega)
 have h2 := h2.keep res_st (fun k hk => by have hk := hU k hk; omega) m21 (fun k hk hS => by have hk := hU k hk; have hS : k = b6 := hS; omega) (by show ¬ (g2 = b6); omega)
 have h3 := h3.keep res_st (fun k hk => by have hk := hU k hk; omega) m21 (fun k hk hS => by have hk := hU k hk; have hS : k = b6 := hS; omega) (by show ¬ (g3 = b6); omega)
 have hf := hf.step m21 (fun k hk hS => by have hS : k = b6 := hS; show k = g ∨ k = g1 ∨ k = g2 ∨ k = g3; omega)
 refine send (fg [(0, _), (1, _), (6, _)] ⟨rfl, rfl, rfl, ⟨⟩⟩ fun _ => (sreg (sv (xmove rfl) (sv (xnilc rfl) (sv (xfld fl79_4 rfl) (sv (xld on75 rfl (hM.r.c 13 rfl rfl)) (sv (xlen sl75 rfl) (sv (xconv hs3 ki22 rfl (wu16n m.three.length (by omega))) (sv (xfld fl121_5 rfl) ?_)))))))))
 refine suK (xstF 5 sz22 h6 rfl rfl rfl rfl rfl) ?_
 rintro w23 ⟨m24, h6, s22⟩
 have hR := hR.keep m24 (by show ¬ (g = b6); omega)
 have hM := hM.keep m24 (by show ¬ (bm = b6); omega)
 have hq := hq.keep q_st (fun k hk => by have hk := hU k hk; omega) m24 (fun k hk hS => by have hk := hU k hk; have hS : k = b6 := hS; omega)
 have h1 := h1.keep res_st (fun k hk => by have hk := hU k hk; omega) m24 (fun k hk hS => by have hk := hU k hk; have hS : k = b6 := hS; omega) (by show ¬ (g1 = b6); omega)
 have h2 := h2.keep res_st (fun k hk => by have hk := hU k hk; omega) m24 (fun k hk hS => by have hk := hU k hk; have hS : k = b6 := hS; omega) (by show ¬ (g2 = b6); omega)
 have h3 := h3.keep res_st (fun k hk => by have hk := hU k hk; omega) m24 (fun k hk hS => by have hk := hU k hk; have hS : k = b6 := hS; omega) (by show ¬ (g3 = b6); omega)
 have hf := hf.step m24 (fun k hk hS => by have hS : k = b6 := hS; show k = g ∨ k = g1 ∨ k = g2 ∨ k = g3; omega)
 refine send (fg [(0, _), (1, _), (6, _)] ⟨rfl, rfl, rfl, ⟨⟩⟩ fun _ => (sreg (sv (xmove rfl) (sv (xlen sl37 rfl) (sv (xassign rfl) (send (fg [(0, _), (1, _), (6, _), (7, _)] ⟨rfl, rfl, rfl, rfl, ⟨⟩⟩ fun _ => (sreg (sv (xmove rfl) ?_)))))))))
 refine sc (xcall ca91 rfl) (c91 (x0 := m.head.id.toNat) (x1 := (hbits m.head).toNat) (x2 := m.asks.length) (x3 := m.one.length) (x4 := m.two.length) (x5 := m.three.length) hR (by omega) h6.r (by omega) (by omega) ⟨u16lt _, u16lt _, by omega, by omega, by omega, by omega⟩ (by omega)) ?_
 rintro _ w25 ⟨p86, q86, g86, rfl, r86, m26, a86, l86⟩
 have z27 := m26.size
 have hM := hM.keep m26 (by show ¬ (bm = g); omega)
 have hq := hq.keep q_st (fun k hk => by have hk := hU k hk; omega) m26 (fun k hk hS => by have hk := hU k hk; have hS : k = g := hS; omega)
 have h1 := h1.keep res_st (fun k hk => by have hk := hU k hk; omega) m26 (fun k hk hS => by have hk := hU k hk; have hS : k = g := hS; omega) (by show ¬ (g1 = g); omega)
 have h2 := h2.keep res_st (fun k hk => by have hk := hU k hk; omega) m26 (fun k hk hS => by have hk := hU k hk; have hS : k = g := hS; omega) (by show ¬ (g2 = g); omega)
 have h3 := h3.keep res_st (fun k hk => by have hk := hU k hk; omega) m26 (fun k hk hS => by have hk := hU k hk; have hS : k = g := hS; omega) (by show ¬ (g3 = g); omega)
 have hf := hf.step m26 (fun k hk hS => by have hS : k = g := hS; show k = g ∨ k = g1 ∨ k = g2 ∨ k = g3; omega)
 refine sv (xassign rfl) (send (fg [(0, _), (7, _), (8, _)] ⟨rfl, rfl, rfl, ⟨⟩⟩ fun _ => (sreg ?_)))
 refine svK (xmkmap) ?_
 rintro _ w28 ⟨b87, rfl, m29, hP, e87, s87⟩
 have hM := hM.keep m29 id
 have hq := hq.keep q_st (fun k hk => by have hk := hU k hk; omega) m29 nF
 have h1 := h1.keep res_st (fun k hk => by have hk := hU k hk; omega) m29 nF id
 have h2 := h2.keep res_st (fun k hk => by have hk := hU k hk; omega) m29 nF id
 have h3 := h3.keep res_st (fun k hk => by have hk := hU k hk; omega) m29 nF id
 have hf := hf.step0 m29
 have r86 := r86.keep m29 id
 have hC : Cmp w28 (some b87) (some []) := hP
 refine sv (xassign rfl) (send (fg [(0, _), (7, _), (8, _), (9, _)] ⟨rfl, rfl, rfl, rfl, ⟨⟩⟩ fun _ => (wp_seq (sreg (sv (xmove rfl) (sv (xnilc rfl) (sv (xfld fl79_1 rfl) (sv (xld on77 rfl (hM.r.c 10 rfl rfl)) (sv (xlen sl77 rfl) (sv (xmove rfl) (send ?_)))))))))))
 refine fg [(0, _), (7, _), (8, _), (9, _), (92, _), (93, _)] ⟨rfl, rfl, rfl, rfl, rfl, rfl, ⟨⟩⟩ fun _ => ?_
 refine c40a (m := m) (n := n) (bs := bs ++ headL m.head (countsM m)) (br_cast r86 (by rw [headL_hdrL, bvs_app]) rfl) (by omega) hM hq (fun k hk => by have hk := hU k hk; omega) hC (by omega) hna (by omega) (by omega) ?_
 rintro ⟨v, gA⟩ _ w30 ⟨m31, hR, hgA, hgA2, hC⟩
 have z32 := m31.size
 have hM := hM.keep m31 (by show ¬ (bm = g86 ∨ bm = b87); omega)
 have h1 := h1.keep res_st (fun k hk => by have hk := hU k hk; omega) m31 (fun k hk hS => by have hk := hU k hk; have hS : k = g86 ∨ k = b87 := hS; omega) (by show ¬ (g1 = g86 ∨ g1 = b87); omega)
 have h2 := h2.keep res_st (fun k hk => by have hk := hU k hk; omega) m31 (fun k hk hS => by have hk := hU k hk; have hS : k = g86 ∨ k = b87 := hS; omega) (by show ¬ (g2 = g86 ∨ g2 = b87); omega)
 have h3 := h3.keep res_st (fun k hk => by have hk := hU k hk; omega) m31 (fun k hk hS => by have hk := hU k hk; have hS : k = g86 ∨ k = b87 := hS; omega) (by show ¬ (g3 = g86 ∨ g3 = b87); omega)
 have hf := hf.step m31 (fun k hk hS => by have hS : k = g86 ∨ k = b87 := hS; show k = g ∨ k = g1 ∨ k = g2 ∨ k = g3; omega)
 obtain ⟨aR, cR, rfl, -⟩ := hR.form
 refine nThen (fg [(0, _), (7, _), (8, _), (9, _)] ⟨rfl, rfl, rfl, rfl, ⟨⟩⟩ fun _ => (wp_seq ?_))
 have hAb : (packA (some []) m).1.length ≤ 24000 := packAsks_bound hna (by omega) (some []) 12
 refine sreg (sv (xmove rfl) (sv (xnilc rfl) (sv (xfld fl79_2 rfl) (sv (xld on75 rfl (hM.r.c 11 rfl rfl)) (sv (xlen sl75 rfl) (sv (xmove rfl) (send (fg [(0, _), (7, _), (8, _), (9, _), (120, _), (121, _)] ⟨rfl, rfl, rfl, rfl, rfl, rfl, ⟨⟩⟩ fun _ => ?_))))))))
 refine c40r1 (m := m) (n := n) (br_cast hR rfl (by omega)) (by omega) hM h1 hC (fun k hk => by have hk := hU k hk; omega) (by omega) hg1 (by omega) (by omega) ?_
 rintro ⟨v, gS1⟩ _ w33 ⟨m34, hR, hgS1, hgT1, hC⟩
 have z35 := m34.size
 have hM := hM.keep m34 (by show ¬ (bm = gA ∨ bm = b87 ∨ bm = g1); omega)
 have h2 := h2.keep res_st (fun k hk => by have hk := hU k hk; omega) m34 (fun k hk hS => by have hk := hU k hk; have hS : k = gA ∨ k = b87 ∨ k = g1 := hS; omega) (by show ¬ (g2 = gA ∨ g2 = b87 ∨ g2 = g1); omega)
 have h3 := h3.keep res_st (fun k hk => by have hk := hU k hk; omega) m34 (fun k hk hS => by have hk := hU k hk; have hS : k = gA ∨ k = b87 ∨ k = g1 := hS; omega) (by show ¬ (g3 = gA ∨ g3 = b87 ∨ g3 = g1); omega)
 have hf := hf.step m34 (fun k hk hS => by have hS : k = gA ∨ k = b87 ∨ k = g1 := hS; show k = g ∨ k = g1 ∨ k = g2 ∨ k = g3; omega)
 obtain ⟨aR, cR, rfl, -⟩ := hR.form
 refine nThen (fg [(0, _), (7, _), (8, _), (9, _)] ⟨rfl, rfl, rfl, rfl, ⟨⟩⟩ fun _ => (wp_seq ?_))
 have hR1b : (pack1 (some []) m).1.length ≤ 2680000 := packRecs_bound hg1 (by omega) _ _
 refine sreg (sv (xmove rfl) (sv (xnilc rfl) (sv (xfld fl79_3 rfl) (sv (xld on75 rfl (hM.r.c 12 rfl rfl)) (sv (xlen sl75 rfl) (sv (xmove rfl) (send (fg [(0, _), (7, _), (8, _), (9, _), (148, _), (149, _)] ⟨rfl, rfl, rfl, rfl, rfl, rfl, ⟨⟩⟩ fun _ => ?_))))))))
 refine c40r2 (m := m) (n := n) (br_cast hR rfl (by omega)) (by omega) hM h2 hC (fun k hk => by have hk := hU k hk; omega) (by omega) hg2 (by omega) (by omega) ?_
 rintro ⟨v, gS2⟩ _ w36 ⟨m37, hR, hgS2, hgT2, hC⟩
 have z38 := m37.size
 have hM := hM.keep m37 (by show ¬ (bm = gS1 ∨ bm = b87 ∨ bm = g2); omega)
 have h3 := h3.keep res_st (fun k hk => by have hk := hU k hk; omega) m37 (fun k hk hS => by have hk := hU k hk; have hS : k = gS1 ∨ k = b87 ∨ k = g2 := hS; omega) (by show ¬ (g3 = gS1 ∨ g3 = b87 ∨ g3 = g2); omega)
 have hf := hf.step m37 (fun k hk hS => by have hS : k = gS1 ∨ k = b87 ∨ k = g2 := hS; show k = g ∨ k = g1 ∨ k = g2 ∨ k = g3; omega)
 obtain ⟨aR, cR, rfl, -⟩ := hR.form
 refine nThen (fg [(0, _), (7, _), (8, _), (9, _)] ⟨rfl, rfl, rfl, rfl, ⟨⟩⟩ fun _ => (wp_seq ?_))
 have hR2b : (pack2 (some []) m).1.length ≤ 2680000 := packRecs_bound hg2 (by omega) _ _
 refine sreg (sv (xmove rfl) (sv (xnilc rfl) (sv (xfld fl79_4 rfl) (sv (xld on75 rfl (hM.r.c 13 rfl rfl)) (sv (xlen sl75 rfl) (sv (xmove rfl) (send (fg [(0, _), (7, _), (8, _), (9, _), (176, _), (177, _)] ⟨rfl, rfl, rfl, rfl, rfl, rfl, ⟨⟩⟩ fun _ => ?_))))))))
 refine c40r3 (m := m) (n := n) (br_cast hR rfl (by omega)) (by omega) hM h3 hC (fun k hk => by have hk := hU k hk; omega) (by omega) hg3 (by omega) (by omega) ?_
 rintro ⟨v, gS3⟩ _ w39 ⟨m40, hR, hgS3, hgT3, hC⟩
 have z41 := m40.size
 have hf := hf.step m40 (fun k hk hS => by have hS : k = gS2 ∨ k = b87 ∨ k = g3 := hS; show k = g ∨ k = g1 ∨ k = g2 ∨ k = g3; omega)
 obtain ⟨aR, cR, rfl, -⟩ := hR.form
 refine nThen (fg [(8, _)] ⟨rfl, ⟨⟩⟩ fun _ => (sreg (sv (xmove rfl) (sv (xassign rfl) (sv (xassign rfl) (send (fg [(4, _), (5, _)] ⟨rfl, rfl, ⟨⟩⟩ fun _ => (wp_ret ?_))))))))
 refine rp2 rfl rfl rfl ?_
 have eo : n + (packM (some []) m).length = n + (12 + (packA (some []) m).1.length + (pack1 (some []) m).1.length + (pack2 (some []) m).1.length) + (pack3 (some []) m).1.length := by simp only [packM, List.length_append, headL_len]; omega
 refine ⟨aR, cR, gS3, by rw [eo], ?_, hf, by omega, by omega⟩
 rw [eo]
 exact br_cast hR (by simp [packM]) rfl
end Go.Proofs.YtifnodoffgfpbaaGreatDoor

namespace Go.Proofs.YtifnodoffgfpbaaGreatDoor
open Go

/-- new bytes, and a yes -/
def NewC (w : World) (g1 g2 g3 : Nat) (out : List UInt8) (z : Value) (u : Value) (w' : World) : Prop :=
  ∃ a c g', u = .tuple #[.slice a out.length c, z] ∧ BR w' (.slice a out.length c) g' out.length out ∧ Fr (fun k => k = g1 ∨ k = g2 ∨ k = g3) w w' ∧ w.heap.size ≤ g' ∧ g' < w'.heap.size
def NewY (w : World) (out : List UInt8) (u : Value) (w' : World) : Prop :=
  ∃ a c g', u = .tuple #[.slice a out.length c, .bool true] ∧ BR w' (.slice a out.length c) g' out.length out ∧ Fr0 w w' ∧ w.heap.size ≤ g' ∧ g' < w'.heap.size
/-- the blocks below n but four -/
def Us (n b d g1 g2 g3 : Nat) : Nat → Prop := fun k => k < n ∧ k ≠ b ∧ k ≠ d ∧ k ≠ g1 ∧ k ≠ g2 ∧ k ≠ g3
theorem Us.num {n b d g1 g2 g3 k : Nat} (h : Us n b d g1 g2 g3 k) : k < n ∧ k ≠ b ∧ k ≠ d ∧ k ≠ g1 ∧ k ≠ g2 ∧ k ≠ g3 := h
def PackOk (r : RecD) : Prop := (r.name.size ≤ 255 ∧ 1 ≤ r.kind ∧ r.kind ≤ 13 ∧ FitB r) ∧ GoodP r

set_option maxHeartbeats 4000000 in
set_option maxRecDepth 100000 in
theorem c39 {w : World} {va v1 v2 v3 : Value} {bm g1 g2 g3 : Nat} {m : MsgD} {U : Nat → Prop} (hM : SB w bm lMsg (msgSegs m.head va v1 v2 v3)) (hq : LA QEl lQ U w va m.asks) (h1 : RA ResEl lRes U w v1 g1 139 m.one.length m.one) (h2 : RA ResEl lRes U w v2 g2 139 m.two.length m.two) (h3 : RA ResEl lRes U w v3 g3 139 m.three.length m.three) (hU : ∀ k, U k → k < w.heap.size ∧ k ≠ g1 ∧ k ≠ g2 ∧ k ≠ g3) (hd : g1 < g2 ∧ g2 < g3 ∧ g3 < w.heap.size ∧ bm ≠ g1 ∧ bm ≠ g2 ∧ bm ≠ g3) (hna : ∀ a ∈ m.asks, nameL (bt a.name)) (hg1 : ∀ r ∈ m.one, GoodP r) (hg2 : ∀ r ∈ m.two, GoodP r) (hg3 : ∀ r ∈ m.three, GoodP r) (hcn : m.asks.length ≤ 40 ∧ m.one.length ≤ 40 ∧ m.two.length ≤ 40 ∧ m.three.length ≤ 40)  :
  Ret PP 39 [.pointer (some ⟨bm, 0, none⟩)] w (NewC w g1 g2 g3 (packM (some []) m) .nilIface) := by
 have hf : Fr (fun k => k = g1 ∨ k = g2 ∨ k = g3) w w := Fr.refl _ _
 have z_hM := hM.lt
 refine ret_of Tryz.func39 rfl rfl rfl [(0, _)] rfl ?_
 refine sreg (sv (xassign rfl) (sv (xassign rfl) (send (fg [(0, _)] ⟨rfl, ⟨⟩⟩ fun _ => (sreg (sv (xmove rfl) ?_))))))
 refine svK (xmake (lo := 0) (hi := 512) sl37 in5 rfl (by decide) rfl rfl rfl rfl (by omega) (by omega) (by simp only [maxLen]; omega) rfl) ?_
 rintro _ w1 ⟨b5, rfl, m2, h5, e5, s5, r5⟩
 have hM := hM.keep m2 id
 have hq := hq.keep q_st (fun k hk => by have hk := hU k hk; omega) m2 nF
 have h1 := h1.keep res_st (fun k hk => by have hk := hU k hk; omega) m2 nF id
 have h2 := h2.keep res_st (fun k hk => by have hk := hU k hk; omega) m2 nF id
 have h3 := h3.keep res_st (fun k hk => by have hk := hU k hk; omega) m2 nF id
 have hf := hf.step0 m2
 have r5 : BR w1 _ b5 0 [] := r5
 refine sc (xcall ca40 rfl) (c40 (m := m) r5 (by omega) hM hq h1 h2 h3 (fun k hk => by have hk := hU k hk; omega) (by omega) hna hg1 hg2 hg3 hcn (by omega)) ?_
 rintro _ w3 ⟨p6, q6, g6, rfl, r6, m4, a6, l6⟩
 have z5 := m4.size
 have hf := hf.step m4 (fun k hk hS => by have hS : k = b5 ∨ k = g1 ∨ k = g2 ∨ k = g3 := hS; show k = g1 ∨ k = g2 ∨ k = g3; omega)
 refine sv (xextr rfl rfl) (sv (xextr rfl rfl) (sv (xassign rfl) (sv (xassign rfl) (send (fg [(2, _), (3, _)] ⟨rfl, rfl, ⟨⟩⟩ fun _ => (wp_ret ?_))))))
 refine rp2 rfl rfl rfl ?_
 rw [Nat.zero_add] at r6 ⊢
 exact ⟨p6, q6, g6, rfl, br_cast r6 (by simp) rfl, hf, by omega, by omega⟩
set_option maxHeartbeats 4000000 in
set_option maxRecDepth 100000 in
theorem c17 {w : World} {U : Nat → Prop} (hU : ∀ k, U k → k < w.heap.size) {m : MsgD} {va v1 v2 v3 : Value} (ha : LA AskEl lAsk U w va m.asks) (y1 : LA RecEl lRec U w v1 m.one) (y2 : LA RecEl lRec U w v2 m.two) (y3 : LA RecEl lRec U w v3 m.three) {vb : Value} {cs : List UInt8} (hb : BA U w vb cs) (hcs : cs.length ≤ 1000000) (hna : ∀ a ∈ m.asks, nameL (bt a.name)) (hpk : ∀ l ∈ [m.one, m.two, m.three], ∀ r ∈ l, PackOk r) (hcn : m.asks.length ≤ 40 ∧ m.one.length ≤ 40 ∧ m.two.length ≤ 40 ∧ m.three.length ≤ 40) :
  Ret PP 17 [vb, ag (msgSegs m.head va v1 v2 v3)] w (NewY w (cs ++ packM (some []) m)) := by
 obtain ⟨aa, ca, rfl⟩ := ha.form
 obtain ⟨a1, c1, rfl⟩ := y1.form
 obtain ⟨a2, c2, rfl⟩ := y2.form
 obtain ⟨a3, c3, rfl⟩ := y3.form
 obtain ⟨ab0, cb0, rfl, -⟩ := id hb
 have hll : ∀ l ∈ [m.one, m.two, m.three], l.length ≤ 1048576 := by intro l hl; simp only [List.mem_cons, List.not_mem_nil, or_false] at hl; rcases hl with rfl | rfl | rfl <;> omega
 have hnas : ∀ a ∈ m.asks, a.name.size ≤ 255 := fun a ha => by have := (name_pos (hna a ha)).2; rw [bt_length] at this; omega
 have hf : Fr (fun _ => False) w w := Fr.refl _ _
 refine ret_of Tryz.func17 rfl rfl rfl [(0, _), (1, _)] rfl ?_
 refine sreg ?_
 refine svK (xboxS (lens := lMsg) rfl rfl) ?_
 rintro _ w2 ⟨b3, rfl, m3, h3, e1, s1⟩
 have ha := ha.keep ask_st (lU hU (by omega)) m3 nF
 have y1 := y1.keep rec_st (lU hU (by omega)) m3 nF
 have y2 := y2.keep rec_st (lU hU (by omega)) m3 nF
 have y3 := y3.keep rec_st (lU hU (by omega)) m3 nF
 have hb := hb.keep (lU hU (by omega)) m3 nF
 have hf := hf.step0 m3
 refine sv (xassign rfl) (sv (xassign rfl) (send (fg [(0, _), (3, _)] ⟨rfl, rfl, ⟨⟩⟩ fun _ => ?_)))
 refine sdrawI [(0, _), (3, _)] ⟨rfl, rfl, trivial⟩ (fun (x : Value × Value × Value × Nat × Nat × Nat × Nat) => match x with | (v1, v2, v3, b6, g1, g2, g3) => [(6, .pointer (some ⟨b6, 0, none⟩))]) (fun (x : Value × Value × Value × Nat × Nat × Nat × Nat) wx => match x with | (v1, v2, v3, b6, g1, g2, g3) => Fr (fun _ => False) w2 wx ∧ (SB wx b6 lMsg (msgSegs m.head (.slice none 0 0) v1 v2 v3)) ∧ (RA ResEl lRes (Us wx.heap.size b6 b3 g1 g2 g3) wx v1 g1 139 m.one.length m.one) ∧ (RA ResEl lRes (Us wx.heap.size b6 b3 g1 g2 g3) wx v2 g2 139 m.two.length m.two) ∧ (RA ResEl lRes (Us wx.heap.size b6 b3 g1 g2 g3) wx v3 g3 139 m.three.length m.three) ∧ (w2.heap.size ≤ g1 ∧ g1 < g2 ∧ g2 < g3 ∧ g3 < wx.heap.size ∧ w2.heap.size ≤ b6 ∧ b6 < wx.heap.size ∧ b6 ≠ g1 ∧ b6 ≠ g2 ∧ b6 ≠ g3)) (Fr (fun _ => False) w2.drew) (.rd 0 (.rd 1 (.rd 3 (.rd 4 (.rd 6 (.rd 7 (.rd 9 (.rd 10 (.two 2 (.two 5 (.two 8 (.two 11 (.lst [(12, .rd), (13, .ld), (14, .bh)]) 13 (.lst [(11, .ld), (12, .rd), (14, .bh)])) 13 (.lst [(8, .ld), (11, .ld), (12, .rd), (14, .bh)])) 13 (.lst [(5, .ld), (8, .ld), (11, .ld), (12, .rd), (14, .bh)])) 13 (.lst [(2, .ld), (5, .ld), (8, .ld), (11, .ld), (12, .rd), (14, .bh)])))))))))) mixed (by kernel_rfl) ?_ ?_
 ·
  have hC : Fr (fun _ => False) w2 w2 := Fr.refl _ _
  have z4 : w2.drew.heap.size = w2.heap.size := rfl
  have ha := ha.keep ask_st (lU hU (by omega)) (Fr.drew (Fr.refl (fun _ => False) w2)) nF
  have y1 := y1.keep rec_st (lU hU (by omega)) (Fr.drew (Fr.refl (fun _ => False) w2)) nF
  have y2 := y2.keep rec_st (lU hU (by omega)) (Fr.drew (Fr.refl (fun _ => False) w2)) nF
  have y3 := y3.keep rec_st (lU hU (by omega)) (Fr.drew (Fr.refl (fun _ => False) w2)) nF
  have hb := hb.keep (lU hU (by omega)) (Fr.drew (Fr.refl (fun _ => False) w2)) nF
  have hf := hf.drew
  have h3 := h3.drew
  have hC := hC.drew
  have hS5 : Fr (fun _ => False) w2.drew w2.drew := Fr.refl _ _
  refine hvT rfl (fun _ _ => xfld fl28_0 rfl) hS5 ?_
  refine hvT rfl (fun w' hS => xldS (lens := [1, 1, 1, 1, 1, 1, 1, 1, 1, 1]) ro24 rfl ((h3.keep hS id).r.sub 0 10 rfl)) hS5 ?_
  refine hvT rfl (fun _ _ => xfld fl28_2 rfl) hS5 ?_
  refine hvT rfl (fun w' hS => xld on26 rfl ((h3.keep hS id).r.c 11 rfl rfl)) hS5 ?_
  refine hvT rfl (fun _ _ => xfld fl28_3 rfl) hS5 ?_
  refine hvT rfl (fun w' hS => xld on26 rfl ((h3.keep hS id).r.c 12 rfl rfl)) hS5 ?_
  refine hvT rfl (fun _ _ => xfld fl28_4 rfl) hS5 ?_
  refine hvT rfl (fun w' hS => xld on26 rfl ((h3.keep hS id).r.c 13 rfl rfl)) hS5 ?_
  refine twoT ?_ ?_
  ·
   refine hcT rfl (xcall ca36 rfl) (c36) ?_
   rintro _ w6 ⟨rfl, m7⟩
   have z8 := m7.size
   have ha := ha.keep ask_st (lU hU (by omega)) m7 nF
   have y1 := y1.keep rec_st (lU hU (by omega)) m7 nF
   have y2 := y2.keep rec_st (lU hU (by omega)) m7 nF
   have y3 := y3.keep rec_st (lU hU (by omega)) m7 nF
   have hb := hb.keep (lU hU (by omega)) m7 nF
   have hf := hf.step0 m7
   have h3 := h3.keep m7 id
   have hC := hC.step0 m7
   have hS9 := hS5.step0 m7
   refine ⟨hS9, ?_⟩
   refine twoT ?_ ?_
   ·
    refine hcT rfl (xcall ca37 rfl) (c37 (U := U) (lU hU (by omega)) y1 (hll _ (by simp)) (fun r hr => (hpk _ (by simp) r hr).1)) ?_
    rintro v18 w10 ⟨g18, R18, ga18, gb18, m11⟩
    have z12 := m11.size
    have ha := ha.keep ask_st (lU hU (by omega)) m11 nF
    have y1 := y1.keep rec_st (lU hU (by omega)) m11 nF
    have y2 := y2.keep rec_st (lU hU (by omega)) m11 nF
    have y3 := y3.keep rec_st (lU hU (by omega)) m11 nF
    have hb := hb.keep (lU hU (by omega)) m11 nF
    have hf := hf.step0 m11
    have h3 := h3.keep m11 id
    have hC := hC.step0 m11
    have hS13 := hS9.step0 m11
    refine ⟨hS13, ?_⟩
    obtain ⟨aq18, cq18, rfl⟩ := RA.form R18
    refine twoT ?_ ?_
    ·
     refine hcT rfl (xcall ca37 rfl) (c37 (U := U) (lU hU (by omega)) y2 (hll _ (by simp)) (fun r hr => (hpk _ (by simp) r hr).1)) ?_
     rintro v21 w14 ⟨g21, R21, ga21, gb21, m15⟩
     have z16 := m15.size
     have ha := ha.keep ask_st (lU hU (by omega)) m15 nF
     have y1 := y1.keep rec_st (lU hU (by omega)) m15 nF
     have y2 := y2.keep rec_st (lU hU (by omega)) m15 nF
     have y3 := y3.keep rec_st (lU hU (by omega)) m15 nF
     have hb := hb.keep (lU hU (by omega)) m15 nF
     have hf := hf.step0 m15
     have h3 := h3.keep m15 id
     have hC := hC.step0 m15
     have R18 := RX.keep R18 res_st (lU hU (by omega)) (by omega) m15 (fun _ _ _ h => h) id
     have hS17 := hS13.step0 m15
     refine ⟨hS17, ?_⟩
     obtain ⟨aq21, cq21, rfl⟩ := RA.form R21
     refine twoT ?_ ?_
     ·
      refine hcT rfl (xcall ca37 rfl) (c37 (U := U) (lU hU (by omega)) y3 (hll _ (by simp)) (fun r hr => (hpk _ (by simp) r hr).1)) ?_
      rintro v24 w18 ⟨g24, R24, ga24, gb24, m19⟩
      have z20 := m19.size
      have ha := ha.keep ask_st (lU hU (by omega)) m19 nF
      have y1 := y1.keep rec_st (lU hU (by omega)) m19 nF
      have y2 := y2.keep rec_st (lU hU (by omega)) m19 nF
      have y3 := y3.keep rec_st (lU hU (by omega)) m19 nF
      have hb := hb.keep (lU hU (by omega)) m19 nF
      have hf := hf.step0 m19
      have h3 := h3.keep m19 id
      have hC := hC.step0 m19
      have R18 := RX.keep R18 res_st (lU hU (by omega)) (by omega) m19 (fun _ _ _ h => h) id
      have R21 := RX.keep R21 res_st (lU hU (by omega)) (by omega) m19 (fun _ _ _ h => h) id
      have hS21 := hS17.step0 m19
      refine ⟨hS21, ?_⟩
      obtain ⟨aq24, cq24, rfl⟩ := RA.form R24
      refine lstT (hv rfl (fun _ _ => xbuildS (msgSegs m.head (.slice none 0 0) (.slice aq18 m.one.length cq18) (.slice aq21 m.two.length cq21) (.slice aq24 m.three.length cq24)) zr79 ly79 rfl (by simp [fitAll, zs79, Value.cells, headSegs]) rfl) hS21 ?_)
      refine hlK rfl (xallS (lens := lMsg) in79 rfl) ?_
      rintro _ w23 ⟨b6, rfl, m24, h6, e22, s22⟩
      have ha := ha.keep ask_st (lU hU (by omega)) m24 nF
      have y1 := y1.keep rec_st (lU hU (by omega)) m24 nF
      have y2 := y2.keep rec_st (lU hU (by omega)) m24 nF
      have y3 := y3.keep rec_st (lU hU (by omega)) m24 nF
      have hb := hb.keep (lU hU (by omega)) m24 nF
      have hf := hf.step0 m24
      have h3 := h3.keep m24 id
      have hC := hC.step0 m24
      have R18 := RX.keep R18 res_st (lU hU (by omega)) (by omega) m24 (fun _ _ _ h => h) id
      have R21 := RX.keep R21 res_st (lU hU (by omega)) (by omega) m24 (fun _ _ _ h => h) id
      have R24 := RX.keep R24 res_st (lU hU (by omega)) (by omega) m24 (fun _ _ _ h => h) id
      have hS25 := hS21.step0 m24
      refine ⟨hS25, ?_⟩
      refine bluK rfl (xstW h6 (lens' := lMsg) sz79 rfl rfl rfl rfl rfl) ?_
      rintro w27 ⟨m28, h6, s26⟩
      have ha := ha.keep ask_st (lU hU (by omega)) m28 (fun k hk hS => by have hk := hU k hk; have hS : k = b6 := hS; omega)
      have y1 := y1.keep rec_st (lU hU (by omega)) m28 (fun k hk hS => by have hk := hU k hk; have hS : k = b6 := hS; omega)
      have y2 := y2.keep rec_st (lU hU (by omega)) m28 (fun k hk hS => by have hk := hU k hk; have hS : k = b6 := hS; omega)
      have y3 := y3.keep rec_st (lU hU (by omega)) m28 (fun k hk hS => by have hk := hU k hk; have hS : k = b6 := hS; omega)
      have hb := hb.keep (lU hU (by omega)) m28 (fun k hk hS => by have hk := hU k hk; have hS : k = b6 := hS; omega)
      have hf := hf.step m28 (fun k hk hS => by have hS : k = b6 := hS; show False; omega)
      have h3 := h3.keep m28 (by show ¬ (b3 = b6); omega)
      have hC := hC.step m28 (fun k hk hS => by have hS : k = b6 := hS; show False; omega)
      have R18 := RX.keep R18 res_st (lU hU (by omega)) (by omega) m28 (fun k hk hk3 hS => by have hS : k = b6 := hS; rcases hk with hk | hk <;> first | omega | (have := hU k hk; omega)) (by show ¬ (g18 = b6); omega)
      have R21 := RX.keep R21 res_st (lU hU (by omega)) (by omega) m28 (fun k hk hk3 hS => by have hS : k = b6 := hS; rcases hk with hk | hk <;> first | omega | (have := hU k hk; omega)) (by show ¬ (g21 = b6); omega)
      have R24 := RX.keep R24 res_st (lU hU (by omega)) (by omega) m28 (fun k hk hk3 hS => by have hS : k = b6 := hS; rcases hk with hk | hk <;> first | omega | (have := hU k hk; omega)) (by show ¬ (g24 = b6); omega)
      exact ⟨rfl, (_, _, _, b6, g18, g21, g24), _, env_okl ⟨rfl, rfl, rfl, trivial⟩, ⟨hC, (h6), (RA.mono R18 res_gr (fun k hk => by have hk := Uw.num hU hk; exact ⟨by omega, by omega, by omega, by omega, by omega, by omega⟩)), (RA.mono R21 res_gr (fun k hk => by have hk := Uw.num hU hk; exact ⟨by omega, by omega, by omega, by omega, by omega, by omega⟩)), (RA.mono R24 res_gr (fun k hk => by have hk := Uw.num hU hk; exact ⟨by omega, by omega, by omega, by omega, by omega, by omega⟩)), (by omega)⟩⟩
     ·
      refine hlKT rfl (xallS (lens := lMsg) in79 rfl) ?_
      rintro _ w30 ⟨b6, rfl, m31, h6, e29, s29⟩
      have ha := ha.keep ask_st (lU hU (by omega)) m31 nF
      have y1 := y1.keep rec_st (lU hU (by omega)) m31 nF
      have y2 := y2.keep rec_st (lU hU (by omega)) m31 nF
      have y3 := y3.keep rec_st (lU hU (by omega)) m31 nF
      have hb := hb.keep (lU hU (by omega)) m31 nF
      have hf := hf.step0 m31
      have h3 := h3.keep m31 id
      have hC := hC.step0 m31
      have R18 := RX.keep R18 res_st (lU hU (by omega)) (by omega) m31 (fun _ _ _ h => h) id
      have R21 := RX.keep R21 res_st (lU hU (by omega)) (by omega) m31 (fun _ _ _ h => h) id
      have hS32 := hS17.step0 m31
      refine ⟨hS32, ?_⟩
      refine lstT ?_
      refine hc rfl (xcall ca37 rfl) (c37 (U := U) (lU hU (by omega)) y3 (hll _ (by simp)) (fun r hr => (hpk _ (by simp) r hr).1)) ?_
      rintro v24 w33 ⟨g24, R24, ga24, gb24, m34⟩
      have z35 := m34.size
      have ha := ha.keep ask_st (lU hU (by omega)) m34 nF
      have y1 := y1.keep rec_st (lU hU (by omega)) m34 nF
      have y2 := y2.keep rec_st (lU hU (by omega)) m34 nF
      have y3 := y3.keep rec_st (lU hU (by omega)) m34 nF
      have hb := hb.keep (lU hU (by omega)) m34 nF
      have hf := hf.step0 m34
      have h3 := h3.keep m34 id
      have hC := hC.step0 m34
      have R18 := RX.keep R18 res_st (lU hU (by omega)) (by omega) m34 (fun _ _ _ h => h) id
      have R21 := RX.keep R21 res_st (lU hU (by omega)) (by omega) m34 (fun _ _ _ h => h) id
      have h6 := h6.keep m34 id
      have hS36 := hS32.step0 m34
      refine ⟨hS36, ?_⟩
      obtain ⟨aq24, cq24, rfl⟩ := RA.form R24
      refine hv rfl (fun _ _ => xbuildS (msgSegs m.head (.slice none 0 0) (.slice aq18 m.one.length cq18) (.slice aq21 m.two.length cq21) (.slice aq24 m.three.length cq24)) zr79 ly79 rfl (by simp [fitAll, zs79, Value.cells, headSegs]) rfl) hS36 ?_
      refine bluK rfl (xstW h6 (lens' := lMsg) sz79 rfl rfl rfl rfl rfl) ?_
      rintro w38 ⟨m39, h6, s37⟩
      have ha := ha.keep ask_st (lU hU (by omega)) m39 (fun k hk hS => by have hk := hU k hk; have hS : k = b6 := hS; omega)
      have y1 := y1.keep rec_st (lU hU (by omega)) m39 (fun k hk hS => by have hk := hU k hk; have hS : k = b6 := hS; omega)
      have y2 := y2.keep rec_st (lU hU (by omega)) m39 (fun k hk hS => by have hk := hU k hk; have hS : k = b6 := hS; omega)
      have y3 := y3.keep rec_st (lU hU (by omega)) m39 (fun k hk hS => by have hk := hU k hk; have hS : k = b6 := hS; omega)
      have hb := hb.keep (lU hU (by omega)) m39 (fun k hk hS => by have hk := hU k hk; have hS : k = b6 := hS; omega)
      have hf := hf.step m39 (fun k hk hS => by have hS : k = b6 := hS; show False; omega)
      have h3 := h3.keep m39 (by show ¬ (b3 = b6); omega)
      have hC := hC.step m39 (fun k hk hS => by have hS : k = b6 := hS; show False; omega)
      have R18 := RX.keep R18 res_st (lU hU (by omega)) (by omega) m39 (fun k hk hk3 hS => by have hS : k = b6 := hS; rcases hk with hk | hk <;> first | omega | (have := hU k hk; omega)) (by show ¬ (g18 = b6); omega)
      have R21 := RX.keep R21 res_st (lU hU (by omega)) (by omega) m39 (fun k hk hk3 hS => by have hS : k = b6 := hS; rcases hk with hk | hk <;> first | omega | (have := hU k hk; omega)) (by show ¬ (g21 = b6); omega)
      have R24 := RX.keep R24 res_st (lU hU (by omega)) (by omega) m39 (fun k hk hk3 hS => by have hS : k = b6 := hS; rcases hk with hk | hk <;> first | omega | (have := hU k hk; omega)) (by show ¬ (g24 = b6); omega)
      exact ⟨rfl, (_, _, _, b6, g18, g21, g24), _, env_okl ⟨rfl, rfl, rfl, trivial⟩, ⟨hC, (h6), (RA.mono R18 res_gr (fun k hk => by have hk := Uw.num hU hk; exact ⟨by omega, by omega, by omega, by omega, by omega, by omega⟩)), (RA.mono R21 res_gr (fun k hk => by have hk := Uw.num hU hk; exact ⟨by omega, by omega, by omega, by omega, by omega, by omega⟩)), (RA.mono R24 res_gr (fun k hk => by have hk := Uw.num hU hk; exact ⟨by omega, by omega, by omega, by omega, by omega, by omega⟩)), (by omega)⟩⟩
    ·
     refine hlKT rfl (xallS (lens := lMsg) in79 rfl) ?_
     rintro _ w41 ⟨b6, rfl, m42, h6, e40, s40⟩
     have ha := ha.keep ask_st (lU hU (by omega)) m42 nF
     have y1 := y1.keep rec_st (lU hU (by omega)) m42 nF
     have y2 := y2.keep rec_st (lU hU (by omega)) m42 nF
     have y3 := y3.keep rec_st (lU hU (by omega)) m42 nF
     have hb := hb.keep (lU hU (by omega)) m42 nF
     have hf := hf.step0 m42
     have h3 := h3.keep m42 id
     have hC := hC.step0 m42
     have R18 := RX.keep R18 res_st (lU hU (by omega)) (by omega) m42 (fun _ _ _ h => h) id
     have hS43 := hS13.step0 m42
     refine ⟨hS43, ?_⟩
     refine lstT ?_
     refine hc rfl (xcall ca37 rfl) (c37 (U := U) (lU hU (by omega)) y2 (hll _ (by simp)) (fun r hr => (hpk _ (by simp) r hr).1)) ?_
     rintro v21 w44 ⟨g21, R21, ga21, gb21, m45⟩
     have z46 := m45.size
     have ha := ha.keep ask_st (lU hU (by omega)) m45 nF
     have y1 := y1.keep rec_st (lU hU (by omega)) m45 nF
     have y2 := y2.keep rec_st (lU hU (by omega)) m45 nF
     have y3 := y3.keep rec_st (lU hU (by omega)) m45 nF
     have hb := hb.keep (lU hU (by omega)) m45 nF
     have hf := hf.step0 m45
     have h3 := h3.keep m45 id
     have hC := hC.step0 m45
     have R18 := RX.keep R18 res_st (lU hU (by omega)) (by omega) m45 (fun _ _ _ h => h) id
     have h6 := h6.keep m45 id
     have hS47 := hS43.step0 m45
     refine ⟨hS47, ?_⟩
     obtain ⟨aq21, cq21, rfl⟩ := RA.form R21
     refine hc rfl (xcall ca37 rfl) (c37 (U := U) (lU hU (by omega)) y3 (hll _ (by simp)) (fun r hr => (hpk _ (by simp) r hr).1)) ?_
     rintro v24 w48 ⟨g24, R24, ga24, gb24, m49⟩
     have z50 := m49.size
     have ha := ha.keep ask_st (lU hU (by omega)) m49 nF
     have y1 := y1.keep rec_st (lU hU (by omega)) m49 nF
     have y2 := y2.keep rec_st (lU hU (by omega)) m49 nF
     have y3 := y3.keep rec_st (lU hU (by omega)) m49 nF
     have hb := hb.keep (lU hU (by omega)) m49 nF
     have hf := hf.step0 m49
     have h3 := h3.keep m49 id
     have hC := hC.step0 m49
     have R18 := RX.keep R18 res_st (lU hU (by omega)) (by omega) m49 (fun _ _ _ h => h) id
     have h6 := h6.keep m49 id
     have R21 := RX.keep R21 res_st (lU hU (by omega)) (by omega) m49 (fun _ _ _ h => h) id
     have hS51 := hS47.step0 m49
     refine ⟨hS51, ?_⟩
     obtain ⟨aq24, cq24, rfl⟩ := RA.form R24
     refine hv rfl (fun _ _ => xbuildS (msgSegs m.head (.slice none 0 0) (.slice aq18 m.one.length cq18) (.slice aq21 m.two.length cq21) (.slice aq24 m.three.length cq24)) zr79 ly79 rfl (by simp [fitAll, zs79, Value.cells, headSegs]) rfl) hS51 ?_
     refine bluK rfl (xstW h6 (lens' := lMsg) sz79 rfl rfl rfl rfl rfl) ?_
     rintro w53 ⟨m54, h6, s52⟩
     have ha := ha.keep ask_st (lU hU (by omega)) m54 (fun k hk hS => by have hk := hU k hk; have hS : k = b6 := hS; omega)
     have y1 := y1.keep rec_st (lU hU (by omega)) m54 (fun k hk hS => by have hk := hU k hk; have hS : k = b6 := hS; omega)
     have y2 := y2.keep rec_st (lU hU (by omega)) m54 (fun k hk hS => by have hk := hU k hk; have hS : k = b6 := hS; omega)
     have y3 := y3.keep rec_st (lU hU (by omega)) m54 (fun k hk hS => by have hk := hU k hk; have hS : k = b6 := hS; omega)
     have hb := hb.keep (lU hU (by omega)) m54 (fun k hk hS => by have hk := hU k hk; have hS : k = b6 := hS; omega)
     have hf := hf.step m54 (fun k hk hS => by have hS : k = b6 := hS; show False; omega)
     have h3 := h3.keep m54 (by show ¬ (b3 = b6); omega)
     have hC := hC.step m54 (fun k hk hS => by have hS : k = b6 := hS; show False; omega)
     have R18 := RX.keep R18 res_st (lU hU (by omega)) (by omega) m54 (fun k hk hk3 hS => by have hS : k = b6 := hS; rcases hk with hk | hk <;> first | omega | (have := hU k hk; omega)) (by show ¬ (g18 = b6); omega)
     have R21 := RX.keep R21 res_st (lU hU (by omega)) (by omega) m54 (fun k hk hk3 hS => by have hS : k = b6 := hS; rcases hk with hk | hk <;> first | omega | (have := hU k hk; omega)) (by show ¬ (g21 = b6); omega)
     have R24 := RX.keep R24 res_st (lU hU (by omega)) (by omega) m54 (fun k hk hk3 hS => by have hS : k = b6 := hS; rcases hk with hk | hk <;> first | omega | (have := hU k hk; omega)) (by show ¬ (g24 = b6); omega)
     exact ⟨rfl, (_, _, _, b6, g18, g21, g24), _, env_okl ⟨rfl, rfl, rfl, trivial⟩, ⟨hC, (h6), (RA.mono R18 res_gr (fun k hk => by have hk := Uw.num hU hk; exact ⟨by omega, by omega, by omega, by omega, by omega, by omega⟩)), (RA.mono R21 res_gr (fun k hk => by have hk := Uw.num hU hk; exact ⟨by omega, by omega, by omega, by omega, by omega, by omega⟩)), (RA.mono R24 res_gr (fun k hk => by have hk := Uw.num hU hk; exact ⟨by omega, by omega, by omega, by omega, by omega, by omega⟩)), (by omega)⟩⟩
   ·
    refine hlKT rfl (xallS (lens := lMsg) in79 rfl) ?_
    rintro _ w56 ⟨b6, rfl, m57, h6, e55, s55⟩
    have ha := ha.keep ask_st (lU hU (by omega)) m57 nF
    have y1 := y1.keep rec_st (lU hU (by omega)) m57 nF
    have y2 := y2.keep rec_st (lU hU (by omega)) m57 nF
    have y3 := y3.keep rec_st (lU hU (by omega)) m57 nF
    have hb := hb.keep (lU hU (by omega)) m57 nF
    have hf := hf.step0 m57
    have h3 := h3.keep m57 id
    have hC := hC.step0 m57
    have hS58 := hS9.step0 m57
    refine ⟨hS58, ?_⟩
    refine lstT ?_
    refine hc rfl (xcall ca37 rfl) (c37 (U := U) (lU hU (by omega)) y1 (hll _ (by simp)) (fun r hr => (hpk _ (by simp) r hr).1)) ?_
    rintro v18 w59 ⟨g18, R18, ga18, gb18, m60⟩
    have z61 := m60.size
    have ha := ha.keep ask_st (lU hU (by omega)) m60 nF
    have y1 := y1.keep rec_st (lU hU (by omega)) m60 nF
    have y2 := y2.keep rec_st (lU hU (by omega)) m60 nF
    have y3 := y3.keep rec_st (lU hU (by omega)) m60 nF
    have hb := hb.keep (lU hU (by omega)) m60 nF
    have hf := hf.step0 m60
    have h3 := h3.keep m60 id
    have hC := hC.step0 m60
    have h6 := h6.keep m60 id
    have hS62 := hS58.step0 m60
    refine ⟨hS62, ?_⟩
    obtain ⟨aq18, cq18, rfl⟩ := RA.form R18
    refine hc rfl (xcall ca37 rfl) (c37 (U := U) (lU hU (by omega)) y2 (hll _ (by simp)) (fun r hr => (hpk _ (by simp) r hr).1)) ?_
    rintro v21 w63 ⟨g21, R21, ga21, gb21, m64⟩
    have z65 := m64.size
    have ha := ha.keep ask_st (lU hU (by omega)) m64 nF
    have y1 := y1.keep rec_st (lU hU (by omega)) m64 nF
    have y2 := y2.keep rec_st (lU hU (by omega)) m64 nF
    have y3 := y3.keep rec_st (lU hU (by omega)) m64 nF
    have hb := hb.keep (lU hU (by omega)) m64 nF
    have hf := hf.step0 m64
    have h3 := h3.keep m64 id
    have hC := hC.step0 m64
    have h6 := h6.keep m64 id
    have R18 := RX.keep R18 res_st (lU hU (by omega)) (by omega) m64 (fun _ _ _ h => h) id
    have hS66 := hS62.step0 m64
    refine ⟨hS66, ?_⟩
    obtain ⟨aq21, cq21, rfl⟩ := RA.form R21
    refine hc rfl (xcall ca37 rfl) (c37 (U := U) (lU hU (by omega)) y3 (hll _ (by simp)) (fun r hr => (hpk _ (by simp) r hr).1)) ?_
    rintro v24 w67 ⟨g24, R24, ga24, gb24, m68⟩
    have z69 := m68.size
    have ha := ha.keep ask_st (lU hU (by omega)) m68 nF
    have y1 := y1.keep rec_st (lU hU (by omega)) m68 nF
    have y2 := y2.keep rec_st (lU hU (by omega)) m68 nF
    have y3 := y3.keep rec_st (lU hU (by omega)) m68 nF
    have hb := hb.keep (lU hU (by omega)) m68 nF
    have hf := hf.step0 m68
    have h3 := h3.keep m68 id
    have hC := hC.step0 m68
    have h6 := h6.keep m68 id
    have R18 := RX.keep R18 res_st (lU hU (by omega)) (by omega) m68 (fun _ _ _ h => h) id
    have R21 := RX.keep R21 res_st (lU hU (by omega)) (by omega) m68 (fun _ _ _ h => h) id
    have hS70 := hS66.step0 m68
    refine ⟨hS70, ?_⟩
    obtain ⟨aq24, cq24, rfl⟩ := RA.form R24
    refine hv rfl (fun _ _ => xbuildS (msgSegs m.head (.slice none 0 0) (.slice aq18 m.one.length cq18) (.slice aq21 m.two.length cq21) (.slice aq24 m.three.length cq24)) zr79 ly79 rfl (by simp [fitAll, zs79, Value.cells, headSegs]) rfl) hS70 ?_
    refine bluK rfl (xstW h6 (lens' := lMsg) sz79 rfl rfl rfl rfl rfl) ?_
    rintro w72 ⟨m73, h6, s71⟩
    have ha := ha.keep ask_st (lU hU (by omega)) m73 (fun k hk hS => by have hk := hU k hk; have hS : k = b6 := hS; omega)
    have y1 := y1.keep rec_st (lU hU (by omega)) m73 (fun k hk hS => by have hk := hU k hk; have hS : k = b6 := hS; omega)
    have y2 := y2.keep rec_st (lU hU (by omega)) m73 (fun k hk hS => by have hk := hU k hk; have hS : k = b6 := hS; omega)
    have y3 := y3.keep rec_st (lU hU (by omega)) m73 (fun k hk hS => by have hk := hU k hk; have hS : k = b6 := hS; omega)
    have hb := hb.keep (lU hU (by omega)) m73 (fun k hk hS => by have hk := hU k hk; have hS : k = b6 := hS; omega)
    have hf := hf.step m73 (fun k hk hS => by have hS : k = b6 := hS; show False; omega)
    have h3 := h3.keep m73 (by show ¬ (b3 = b6); omega)
    have hC := hC.step m73 (fun k hk hS => by have hS : k = b6 := hS; show False; omega)
    have R18 := RX.keep R18 res_st (lU hU (by omega)) (by omega) m73 (fun k hk hk3 hS => by have hS : k = b6 := hS; rcases hk with hk | hk <;> first | omega | (have := hU k hk; omega)) (by show ¬ (g18 = b6); omega)
    have R21 := RX.keep R21 res_st (lU hU (by omega)) (by omega) m73 (fun k hk hk3 hS => by have hS : k = b6 := hS; rcases hk with hk | hk <;> first | omega | (have := hU k hk; omega)) (by show ¬ (g21 = b6); omega)
    have R24 := RX.keep R24 res_st (lU hU (by omega)) (by omega) m73 (fun k hk hk3 hS => by have hS : k = b6 := hS; rcases hk with hk | hk <;> first | omega | (have := hU k hk; omega)) (by show ¬ (g24 = b6); omega)
    exact ⟨rfl, (_, _, _, b6, g18, g21, g24), _, env_okl ⟨rfl, rfl, rfl, trivial⟩, ⟨hC, (h6), (RA.mono R18 res_gr (fun k hk => by have hk := Uw.num hU hk; exact ⟨by omega, by omega, by omega, by omega, by omega, by omega⟩)), (RA.mono R21 res_gr (fun k hk => by have hk := Uw.num hU hk; exact ⟨by omega, by omega, by omega, by omega, by omega, by omega⟩)), (RA.mono R24 res_gr (fun k hk => by have hk := Uw.num hU hk; exact ⟨by omega, by omega, by omega, by omega, by omega, by omega⟩)), (by omega)⟩⟩
  ·
   refine hlKT rfl (xallS (lens := lMsg) in79 rfl) ?_
   rintro _ w75 ⟨b6, rfl, m76, h6, e74, s74⟩
   have ha := ha.keep ask_st (lU hU (by omega)) m76 nF
   have y1 := y1.keep rec_st (lU hU (by omega)) m76 nF
   have y2 := y2.keep rec_st (lU hU (by omega)) m76 nF
   have y3 := y3.keep rec_st (lU hU (by omega)) m76 nF
   have hb := hb.keep (lU hU (by omega)) m76 nF
   have hf := hf.step0 m76
   have h3 := h3.keep m76 id
   have hC := hC.step0 m76
   have hS77 := hS5.step0 m76
   refine ⟨hS77, ?_⟩
   refine lstT ?_
   refine hc rfl (xcall ca36 rfl) (c36) ?_
   rintro _ w78 ⟨rfl, m79⟩
   have z80 := m79.size
   have ha := ha.keep ask_st (lU hU (by omega)) m79 nF
   have y1 := y1.keep rec_st (lU hU (by omega)) m79 nF
   have y2 := y2.keep rec_st (lU hU (by omega)) m79 nF
   have y3 := y3.keep rec_st (lU hU (by omega)) m79 nF
   have hb := hb.keep (lU hU (by omega)) m79 nF
   have hf := hf.step0 m79
   have h3 := h3.keep m79 id
   have hC := hC.step0 m79
   have h6 := h6.keep m79 id
   have hS81 := hS77.step0 m79
   refine ⟨hS81, ?_⟩
   refine hc rfl (xcall ca37 rfl) (c37 (U := U) (lU hU (by omega)) y1 (hll _ (by simp)) (fun r hr => (hpk _ (by simp) r hr).1)) ?_
   rintro v18 w82 ⟨g18, R18, ga18, gb18, m83⟩
   have z84 := m83.size
   have ha := ha.keep ask_st (lU hU (by omega)) m83 nF
   have y2 := y2.keep rec_st (lU hU (by omega)) m83 nF
   have y3 := y3.keep rec_st (lU hU (by omega)) m83 nF
   have hb := hb.keep (lU hU (by omega)) m83 nF
   have hf := hf.step0 m83
   have h3 := h3.keep m83 id
   have hC := hC.step0 m83
   have h6 := h6.keep m83 id
   have hS85 := hS81.step0 m83
   refine ⟨hS85, ?_⟩
   obtain ⟨aq18, cq18, rfl⟩ := RA.form R18
   refine hc rfl (xcall ca37 rfl) (c37 (U := U) (lU hU (by omega)) y2 (hll _ (by simp)) (fun r hr => (hpk _ (by simp) r hr).1)) ?_
   rintro v21 w86 ⟨g21, R21, ga21, gb21, m87⟩
   have z88 := m87.size
   have ha := ha.keep ask_st (lU hU (by omega)) m87 nF
   have y3 := y3.keep rec_st (lU hU (by omega)) m87 nF
   have hb := hb.keep (lU hU (by omega)) m87 nF
   have hf := hf.step0 m87
   have h3 := h3.keep m87 id
   have hC := hC.step0 m87
   have h6 := h6.keep m87 id
   have R18 := RX.keep R18 res_st (lU hU (by omega)) (by omega) m87 (fun _ _ _ h => h) id
   have hS89 := hS85.step0 m87
   refine ⟨hS89, ?_⟩
   obtain ⟨aq21, cq21, rfl⟩ := RA.form R21
   refine hc rfl (xcall ca37 rfl) (c37 (U := U) (lU hU (by omega)) y3 (hll _ (by simp)) (fun r hr => (hpk _ (by simp) r hr).1)) ?_
   rintro v24 w90 ⟨g24, R24, ga24, gb24, m91⟩
   have z92 := m91.size
   have ha := ha.keep ask_st (lU hU (by omega)) m91 nF
   have hb := hb.keep (lU hU (by omega)) m91 nF
   have hf := hf.step0 m91
   have h3 := h3.keep m91 id
   have hC := hC.step0 m91
   have h6 := h6.keep m91 id
   have R18 := RX.keep R18 res_st (lU hU (by omega)) (by omega) m91 (fun _ _ _ h => h) id
   have R21 := RX.keep R21 res_st (lU hU (by omega)) (by omega) m91 (fun _ _ _ h => h) id
   have hS93 := hS89.step0 m91
   refine ⟨hS93, ?_⟩
   obtain ⟨aq24, cq24, rfl⟩ := RA.form R24
   refine hv rfl (fun _ _ => xbuildS (msgSegs m.head (.slice none 0 0) (.slice aq18 m.one.length cq18) (.slice aq21 m.two.length cq21) (.slice aq24 m.three.length cq24)) zr79 ly79 rfl (by simp [fitAll, zs79, Value.cells, headSegs]) rfl) hS93 ?_
   refine bluK rfl (xstW h6 (lens' := lMsg) sz79 rfl rfl rfl rfl rfl) ?_
   rintro w95 ⟨m96, h6, s94⟩
   have ha := ha.keep ask_st (lU hU (by omega)) m96 (fun k hk hS => by have hk := hU k hk; have hS : k = b6 := hS; omega)
   have hb := hb.keep (lU hU (by omega)) m96 (fun k hk hS => by have hk := hU k hk; have hS : k = b6 := hS; omega)
   have hf := hf.step m96 (fun k hk hS => by have hS : k = b6 := hS; show False; omega)
   have h3 := h3.keep m96 (by show ¬ (b3 = b6); omega)
   have hC := hC.step m96 (fun k hk hS => by have hS : k = b6 := hS; show False; omega)
   have R18 := RX.keep R18 res_st (lU hU (by omega)) (by omega) m96 (fun k hk hk3 hS => by have hS : k = b6 := hS; rcases hk with hk | hk <;> first | omega | (have := hU k hk; omega)) (by show ¬ (g18 = b6); omega)
   have R21 := RX.keep R21 res_st (lU hU (by omega)) (by omega) m96 (fun k hk hk3 hS => by have hS : k = b6 := hS; rcases hk with hk | hk <;> first | omega | (have := hU k hk; omega)) (by show ¬ (g21 = b6); omega)
   have R24 := RX.keep R24 res_st (lU hU (by omega)) (by omega) m96 (fun k hk hk3 hS => by have hS : k = b6 := hS; rcases hk with hk | hk <;> first | omega | (have := hU k hk; omega)) (by show ¬ (g24 = b6); omega)
   exact ⟨rfl, (_, _, _, b6, g18, g21, g24), _, env_okl ⟨rfl, rfl, rfl, trivial⟩, ⟨hC, (h6), (RA.mono R18 res_gr (fun k hk => by have hk := Uw.num hU hk; exact ⟨by omega, by omega, by omega, by omega, by omega, by omega⟩)), (RA.mono R21 res_gr (fun k hk => by have hk := Uw.num hU hk; exact ⟨by omega, by omega, by omega, by omega, by omega, by omega⟩)), (RA.mono R24 res_gr (fun k hk => by have hk := Uw.num hU hk; exact ⟨by omega, by omega, by omega, by omega, by omega, by omega⟩)), (by omega)⟩⟩
 ·
  rintro ⟨v1, v2, v3, b6, g1, g2, g3⟩ _ w97 ⟨hC, h6, k1, k2, k3, hd⟩
  have z98 := hC.size
  have ha := ha.keep ask_st (lU hU (by omega)) hC nF
  have hb := hb.keep (lU hU (by omega)) hC nF
  have hf := hf.step0 hC
  have h3 := h3.keep hC id
  obtain ⟨aq18, cq18, rfl⟩ := RA.form k1
  obtain ⟨aq21, cq21, rfl⟩ := RA.form k2
  obtain ⟨aq24, cq24, rfl⟩ := RA.form k3
  refine fg [(0, _), (3, _), (6, _)] ⟨rfl, rfl, rfl, ⟨⟩⟩ fun _ => (wp_seq (sreg (sv (xfld fl28_1 rfl) (sv (xld on25 rfl (h3.r.c 10 rfl rfl)) (sv (xlen sl25 rfl) (sv (xmove rfl) (send (fg [(0, _), (6, _), (27, _), (28, _), (29, _)] ⟨rfl, rfl, rfl, rfl, rfl, ⟨⟩⟩ fun _ => (wp_block ?_)))))))))
  refine lp [(0, _), (6, _), (27, _), (28, _)] (fun (x : Nat × Value × Nat) => match x with | (k, v, g) => [(29, .int .i64 (k : Int))]) (fun (x : Nat × Value × Nat) wx => match x with | (k, v, g) => Fr (fun k => k = b6 ∨ k = b3) w97 wx ∧ (k ≤ m.asks.length) ∧ (SB wx b6 lMsg (msgSegs m.head v (.slice aq18 m.one.length cq18) (.slice aq21 m.two.length cq21) (.slice aq24 m.three.length cq24))) ∧ (RA QEl lQ (fun _ => False) wx v g 86 k (m.asks.take k)) ∧ (g = b3 ∨ w97.heap.size ≤ g) ∧ (g < wx.heap.size)) (fun (x : Nat × Value × Nat) => match x with | (k, v, g) => m.asks.length - k) (0, .slice none 0 0, b3) ⟨rfl, rfl, rfl, rfl, rfl, trivial⟩ ⟨Fr.refl _ _, Nat.zero_le _, h6, RA.nil _ _ _ _, .inl rfl, by omega⟩ ?_
  rintro ⟨k, v, g⟩ _ w100 ⟨hL99, hk, h6, hq, hgq, hgk⟩
  refine fg [(0, _), (6, _), (27, _), (28, _), (29, _)] ⟨rfl, rfl, rfl, rfl, rfl, ⟨⟩⟩ fun _ => ?_
  have z101 := hL99.size
  have ha := ha.keep ask_st (lU hU (by omega)) hL99 (fun k hk hS => by have hk := hU k hk; have hS : k = b6 ∨ k = b3 := hS; omega)
  have hb := hb.keep (lU hU (by omega)) hL99 (fun k hk hS => by have hk := hU k hk; have hS : k = b6 ∨ k = b3 := hS; omega)
  have hf := hf.step hL99 (fun k hk hS => by have hS : k = b6 ∨ k = b3 := hS; show False; omega)
  have k1 := k1.keep res_st (fun k hk => by have hk := Us.num hk; omega) hL99 (fun k hk hS => by have hk := Us.num hk; have hS : k = b6 ∨ k = b3 := hS; omega) (by show ¬ (g1 = b6 ∨ g1 = b3); omega)
  have k2 := k2.keep res_st (fun k hk => by have hk := Us.num hk; omega) hL99 (fun k hk hS => by have hk := Us.num hk; have hS : k = b6 ∨ k = b3 := hS; omega) (by show ¬ (g2 = b6 ∨ g2 = b3); omega)
  have k3 := k3.keep res_st (fun k hk => by have hk := Us.num hk; omega) hL99 (fun k hk hS => by have hk := Us.num hk; have hS : k = b6 ∨ k = b3 := hS; omega) (by show ¬ (g3 = b6 ∨ g3 = b3); omega)
  refine sreg ?_
  refine svP (xlss rfl rfl) (fun hc30 => ?_) (fun hc30 => ?_)
  ·
   refine send (fg [(0, _), (6, _), (27, _), (28, _), (29, _), (30, _)] ⟨rfl, rfl, rfl, rfl, rfl, rfl, ⟨⟩⟩ fun _ => (wp_seq (cyes rfl (wp_skip (nThen (fg [(0, _), (6, _), (27, _), (28, _), (29, _)] ⟨rfl, rfl, rfl, rfl, rfl, ⟨⟩⟩ fun _ => (wp_seq (wp_block ?_))))))))
   obtain ⟨a, hak⟩ := some_of_lt (by omega : k < m.asks.length)
   refine sreg ?_
   obtain ⟨bE31, oE31, sgE31, rfl, uE31, hsE31, heE31⟩ := LA.get ha hak
   obtain rfl := heE31
   have zE31 := hU _ uE31
   refine sv (xidx sl25 sz58 rfl rfl rfl (by omega)) (sv (xldS (lens := [1, 1, 1]) ro58 rfl hsE31) ?_)
   refine svK (xallS (lens := [1, 1, 1]) in58 rfl) ?_
   rintro _ w103 ⟨b8, rfl, m104, h8, e102, s102⟩
   have ha := ha.keep ask_st (lU hU (by omega)) m104 nF
   have hb := hb.keep (lU hU (by omega)) m104 nF
   have hf := hf.step0 m104
   have h6 := h6.keep m104 id
   have k1 := k1.keep res_st (fun k hk => by have hk := Us.num hk; omega) m104 nF id
   have k2 := k2.keep res_st (fun k hk => by have hk := Us.num hk; omega) m104 nF id
   have k3 := k3.keep res_st (fun k hk => by have hk := Us.num hk; omega) m104 nF id
   have hq := hq.keep q_st (fun k hk => by have hk := (show k + 1 ≤ 0 from (show False from hk).elim); omega) m104 nF id
   have hL99 := hL99.step0 m104
   refine suK (xstW h8 (lens' := [1, 1, 1]) sz58 rfl rfl rfl rfl rfl) ?_
   rintro w106 ⟨m107, h8, s105⟩
   have ha := ha.keep ask_st (lU hU (by omega)) m107 (fun k hk hS => by have hk := hU k hk; have hS : k = b8 := hS; omega)
   have hb := hb.keep (lU hU (by omega)) m107 (fun k hk hS => by have hk := hU k hk; have hS : k = b8 := hS; omega)
   have hf := hf.step m107 (fun k hk hS => by have hS : k = b8 := hS; show False; omega)
   have h6 := h6.keep m107 (by show ¬ (b6 = b8); omega)
   have k1 := k1.keep res_st (fun k hk => by have hk := Us.num hk; omega) m107 (fun k hk hS => by have hk := Us.num hk; have hS : k = b8 := hS; omega) (by show ¬ (g1 = b8); omega)
   have k2 := k2.keep res_st (fun k hk => by have hk := Us.num hk; omega) m107 (fun k hk hS => by have hk := Us.num hk; have hS : k = b8 := hS; omega) (by show ¬ (g2 = b8); omega)
   have k3 := k3.keep res_st (fun k hk => by have hk := Us.num hk; omega) m107 (fun k hk hS => by have hk := Us.num hk; have hS : k = b8 := hS; omega) (by show ¬ (g3 = b8); omega)
   have hq := hq.keep q_st (fun k hk => by have hk := (show k + 1 ≤ 0 from (show False from hk).elim); omega) m107 (fun k hk hS => by have hk := (show k + 1 ≤ 0 from (show False from hk).elim); have hS : k = b8 := hS; omega) (by show ¬ (g = b8); omega)
   have hL99 := hL99.step m107 (fun k hk hS => by have hS : k = b8 := hS; show k = b6 ∨ k = b3; omega)
   refine send (fg [(0, _), (6, _), (8, _), (27, _), (28, _), (29, _)] ⟨rfl, rfl, rfl, rfl, rfl, rfl, ⟨⟩⟩ fun _ => ?_)
   refine ldraw (Fr (fun k => k = g) w106.drew) [(0, .rd), (1, .rd), (2, .rd), (3, .ld), (4, .ld), (5, .ld), (6, .rd), (7, .bh)] mixed (by kernel_rfl) (fun _ _ _ _ _ h => h) ?_
   have z108 : w106.drew.heap.size = w106.heap.size := rfl
   have ha := ha.keep ask_st (lU hU (by omega)) (Fr.drew (Fr.refl (fun _ => False) w106)) nF
   have hb := hb.keep (lU hU (by omega)) (Fr.drew (Fr.refl (fun _ => False) w106)) nF
   have hf := hf.drew
   have h6 := h6.drew
   have k1 := k1.keep res_st (fun k hk => by have hk := Us.num hk; omega) (Fr.drew (Fr.refl (fun _ => False) w106)) nF id
   have k2 := k2.keep res_st (fun k hk => by have hk := Us.num hk; omega) (Fr.drew (Fr.refl (fun _ => False) w106)) nF id
   have k3 := k3.keep res_st (fun k hk => by have hk := Us.num hk; omega) (Fr.drew (Fr.refl (fun _ => False) w106)) nF id
   have hq := hq.keep q_st (fun k hk => by have hk := (show k + 1 ≤ 0 from (show False from hk).elim); omega) (Fr.drew (Fr.refl (fun _ => False) w106)) nF id
   have hL99 := hL99.drew
   have h8 := h8.drew
   have hS109 : Fr (fun k => k = g) w106.drew w106.drew := Fr.refl _ _
   refine hv rfl (fun _ _ => xfld fl79_1 rfl) hS109 (hv rfl (fun w' hS => xld on77 rfl ((h6.keep hS (by show ¬ (b6 = g); omega)).r.c 10 rfl rfl)) hS109 (hv rfl (fun w' hS => xldS (lens := [1, 1, 1]) ro58 rfl (h8.keep hS (by show ¬ (b8 = g); omega)).r) hS109 ?_))
   refine hc rfl (xcall ca38 rfl) (c38 (hnas _ (List.mem_of_getElem? hak))) ?_
   rintro _ w110 ⟨rfl, m111⟩
   have z112 := m111.size
   have ha := ha.keep ask_st (lU hU (by omega)) m111 nF
   have hb := hb.keep (lU hU (by omega)) m111 nF
   have hf := hf.step0 m111
   have h6 := h6.keep m111 id
   have k1 := k1.keep res_st (fun k hk => by have hk := Us.num hk; omega) m111 nF id
   have k2 := k2.keep res_st (fun k hk => by have hk := Us.num hk; omega) m111 nF id
   have k3 := k3.keep res_st (fun k hk => by have hk := Us.num hk; omega) m111 nF id
   have hq := hq.keep q_st (fun k hk => by have hk := (show k + 1 ≤ 0 from (show False from hk).elim); omega) m111 nF id
   have hL99 := hL99.step0 m111
   have hS113 := hS109.step0 m111
   refine ⟨hS113, ?_⟩
   refine hlK rfl (xslit ((questSegs a).flatten) sl77 in86 rfl (by decide) rfl rfl rfl (by simp [questSegs, nm_length, Value.cells]) (by decide) (ag_flat _) (by simp only [questSegs, List.flatten_cons, List.flatten_nil, List.all_append, List.append_nil, nm_one, Bool.true_and] <;> rfl)) ?_
   rintro _ w115 ⟨b37, rfl, m116, h37, e37, s37, r37⟩
   have ha := ha.keep ask_st (lU hU (by omega)) m116 nF
   have hb := hb.keep (lU hU (by omega)) m116 nF
   have hf := hf.step0 m116
   have h6 := h6.keep m116 id
   have k1 := k1.keep res_st (fun k hk => by have hk := Us.num hk; omega) m116 nF id
   have k2 := k2.keep res_st (fun k hk => by have hk := Us.num hk; omega) m116 nF id
   have k3 := k3.keep res_st (fun k hk => by have hk := Us.num hk; omega) m116 nF id
   have hq := hq.keep q_st (fun k hk => by have hk := (show k + 1 ≤ 0 from (show False from hk).elim); omega) m116 nF id
   have hL99 := hL99.step0 m116
   have hS117 := hS113.step0 m116
   refine ⟨hS117, ?_⟩
   obtain ⟨ss38, hR38, hA38⟩ := hq
   refine hlK rfl (xapp sl77 in86 rfl (by decide) rfl rfl hR38 (r37.src sl77) (by simp only [maxLen]; omega) (by omega)) ?_
   rintro v38 w118 ⟨g38, r38, m119, a38, l38⟩
   have z120 := m119.size
   have ha := ha.keep ask_st (lU hU (by omega)) m119 (fun k hk hS => by have hk := hU k hk; have hS : k = g := hS; omega)
   have hb := hb.keep (lU hU (by omega)) m119 (fun k hk hS => by have hk := hU k hk; have hS : k = g := hS; omega)
   have hf := hf.step m119 (fun k hk hS => by have hS : k = g := hS; show False; omega)
   have h6 := h6.keep m119 (by show ¬ (b6 = g); omega)
   have k1 := k1.keep res_st (fun k hk => by have hk := Us.num hk; omega) m119 (fun k hk hS => by have hk := Us.num hk; have hS : k = g := hS; omega) (by show ¬ (g1 = g); omega)
   have k2 := k2.keep res_st (fun k hk => by have hk := Us.num hk; omega) m119 (fun k hk hS => by have hk := Us.num hk; have hS : k = g := hS; omega) (by show ¬ (g2 = g); omega)
   have k3 := k3.keep res_st (fun k hk => by have hk := Us.num hk; omega) m119 (fun k hk hS => by have hk := Us.num hk; have hS : k = g := hS; omega) (by show ¬ (g3 = g); omega)
   have hL99 := hL99.step m119 (fun k hk hS => by have hS : k = g := hS; show k = b6 ∨ k = b3; omega)
   have hS121 := hS117.step m119 (fun k hk hS => by have hS : k = g := hS; show k = g; omega)
   have hq := RA.snoc (x := a) hA38 q_st q_gr (fun k hk => by have hk := (show k + 1 ≤ 0 from (show False from hk).elim); omega) m119 (fun k hk hS => by have hk := (show k + 1 ≤ 0 from (show False from hk).elim); have hS : k = g := hS; omega) (fun _ h => h) r38 (by simp [questSegs, nm_length]) (rfl)
   refine ⟨hS121, ?_⟩
   refine hv rfl (fun _ _ => xfld fl79_1 rfl) hS121 ?_
   refine bluK rfl (xstF 10 sz77 h6 rfl rfl rfl rfl (by obtain ⟨_, _, rfl⟩ := RA.form hq; rfl)) ?_
   rintro w123 ⟨m124, h6, s122⟩
   have ha := ha.keep ask_st (lU hU (by omega)) m124 (fun k hk hS => by have hk := hU k hk; have hS : k = b6 := hS; omega)
   have hb := hb.keep (lU hU (by omega)) m124 (fun k hk hS => by have hk := hU k hk; have hS : k = b6 := hS; omega)
   have hf := hf.step m124 (fun k hk hS => by have hS : k = b6 := hS; show False; omega)
   have k1 := k1.keep res_st (fun k hk => by have hk := Us.num hk; omega) m124 (fun k hk hS => by have hk := Us.num hk; have hS : k = b6 := hS; omega) (by show ¬ (g1 = b6); omega)
   have k2 := k2.keep res_st (fun k hk => by have hk := Us.num hk; omega) m124 (fun k hk hS => by have hk := Us.num hk; have hS : k = b6 := hS; omega) (by show ¬ (g2 = b6); omega)
   have k3 := k3.keep res_st (fun k hk => by have hk := Us.num hk; omega) m124 (fun k hk hS => by have hk := Us.num hk; have hS : k = b6 := hS; omega) (by show ¬ (g3 = b6); omega)
   have hL99 := hL99.step m124 (fun k hk hS => by have hS : k = b6 := hS; show k = b6 ∨ k = b3; omega)
   have hq := hq.keep q_st (fun k hk => by have hk := (show k + 1 ≤ 0 from (show False from hk).elim); omega) m124 (fun k hk hS => by have hk := (show k + 1 ≤ 0 from (show False from hk).elim); have hS : k = b6 := hS; omega) (by show ¬ (g38 = b6); omega)
   refine lhend (nBlock (nThen (fg [(0, _), (6, _), (27, _), (28, _), (29, _)] ⟨rfl, rfl, rfl, rfl, rfl, ⟨⟩⟩ fun _ => (lreg (sv (xadd rfl rfl (w64 (by omega) (by omega))) (sv (xmove rfl) (lend (nThen ?_))))))))
   refine ⟨(k + 1, _, g38), _, env_okl ⟨rfl, rfl, rfl, rfl, rfl, trivial⟩, ⟨hL99, (by omega), (h6), (by rw [take_snoc hak]; exact hq), (by omega), (by omega)⟩, ?_⟩
   show m.asks.length - (k + 1) < m.asks.length - k; omega
  ·
   refine send (fg [(0, _), (6, _), (27, _), (28, _), (29, _), (30, _)] ⟨rfl, rfl, rfl, rfl, rfl, rfl, ⟨⟩⟩ fun _ => (wp_seq (cno rfl (wp_exit (eThen (eThen (eHit (nThen (fg [(0, _), (6, _)] ⟨rfl, rfl, ⟨⟩⟩ fun _ => (wp_seq ?_))))))))))
   have hke : m.asks.take k = m.asks := List.take_of_length_le (by omega)
   rw [hke] at hq
   obtain rfl : k = m.asks.length := by omega
   obtain ⟨av, cv, rfl⟩ := RA.form hq
   refine sreg (sv (xmove rfl) (sv (xlen sl37 rfl) ?_))
   refine svP (xeql rfl rfl) (fun hc43 => ?_) (fun hc43 => ?_)
   ·
    refine send (fg [(0, _), (6, _), (43, _)] ⟨rfl, rfl, rfl, ⟨⟩⟩ fun _ => (cyes rfl (sreg ?_)))
    refine sc (xcall ca39 rfl) (c39 (m := m) (U := Us w100.heap.size b6 b6 g1 g2 g3) h6 (RA.la0 hq (by decide) q_gr (fun _ h => h.elim) (.inr ⟨by omega, by omega, by omega, by omega, by omega, by omega⟩)) (RA.mono k1 res_gr (fun k hk => by have hk := Us.num hk; exact ⟨by omega, by omega, by omega, by omega, by omega, by omega⟩)) (RA.mono k2 res_gr (fun k hk => by have hk := Us.num hk; exact ⟨by omega, by omega, by omega, by omega, by omega, by omega⟩)) (RA.mono k3 res_gr (fun k hk => by have hk := Us.num hk; exact ⟨by omega, by omega, by omega, by omega, by omega, by omega⟩)) (fun k hk => by have hk := Us.num hk; omega) (by omega) (fun a ha => hna a ha) (fun r hr => (hpk _ (by simp) r hr).2) (fun r hr => (hpk _ (by simp) r hr).2) (fun r hr => (hpk _ (by simp) r hr).2) hcn) ?_
    rintro _ w125 ⟨p45, q45, g45, rfl, r45, m126, a45, l45⟩
    have z127 := m126.size
    have ha := ha.keep ask_st (lU hU (by omega)) m126 (fun k hk hS => by have hk := hU k hk; have hS : k = g1 ∨ k = g2 ∨ k = g3 := hS; omega)
    have hb := hb.keep (lU hU (by omega)) m126 (fun k hk hS => by have hk := hU k hk; have hS : k = g1 ∨ k = g2 ∨ k = g3 := hS; omega)
    have hf := hf.step m126 (fun k hk hS => by have hS : k = g1 ∨ k = g2 ∨ k = g3 := hS; show False; omega)
    have h6 := h6.keep m126 (by show ¬ (b6 = g1 ∨ b6 = g2 ∨ b6 = g3); omega)
    have hq := hq.keep q_st (fun k hk => by have hk := (show k + 1 ≤ 0 from (show False from hk).elim); omega) m126 (fun k hk hS => by have hk := (show k + 1 ≤ 0 from (show False from hk).elim); have hS : k = g1 ∨ k = g2 ∨ k = g3 := hS; omega) (by show ¬ (g = g1 ∨ g = g2 ∨ g = g3); omega)
    refine sv (xmove rfl) (sv (xextr rfl rfl) (sv (xextr rfl rfl) (sv (xassign rfl) (sv (xassign rfl) (send (fg [(9, _), (10, _)] ⟨rfl, rfl, ⟨⟩⟩ fun _ => ?_))))))
    refine sdraw (Fr (fun _ => False) w125.drew) [(0, .rd), (1, .rd), (2, .rd), (3, .rd), (4, .rd)] mixed (by kernel_rfl) (fun _ _ _ _ _ h => h) ?_
    have z128 : w125.drew.heap.size = w125.heap.size := rfl
    have ha := ha.keep ask_st (lU hU (by omega)) (Fr.drew (Fr.refl (fun _ => False) w125)) nF
    have hb := hb.keep (lU hU (by omega)) (Fr.drew (Fr.refl (fun _ => False) w125)) nF
    have hf := hf.drew
    have h6 := h6.drew
    have hq := hq.keep q_st (fun k hk => by have hk := (show k + 1 ≤ 0 from (show False from hk).elim); omega) (Fr.drew (Fr.refl (fun _ => False) w125)) nF id
    have r45 := r45.keep (Fr.drew (Fr.refl (fun _ => False) w125)) id
    have hS129 : Fr (fun _ => False) w125.drew w125.drew := Fr.refl _ _
    refine hv rfl (fun _ _ => xmove rfl) hS129 (hv rfl (fun _ _ => xmove rfl) hS129 (hv rfl (fun _ _ => xeqN if89 rfl) hS129 (hv rfl (fun _ _ => xassign rfl) hS129 (hv rfl (fun _ _ => xassign rfl) hS129 (hend (fg [(4, _), (5, _)] ⟨rfl, rfl, ⟨⟩⟩ fun _ => (wp_ret (rThen ?_))))))))
    refine rp2 rfl rfl rfl ?_
    obtain rfl : cs = [] := List.eq_nil_of_length_eq_zero (by omega)
    exact ⟨p45, q45, g45, rfl, r45, hf, by omega, by omega⟩
   ·
    refine send (fg [(0, _), (6, _), (43, _)] ⟨rfl, rfl, rfl, ⟨⟩⟩ fun _ => (cno rfl (wp_skip (nThen (fg [(0, _), (6, _)] ⟨rfl, rfl, ⟨⟩⟩ fun _ => (sreg (sv (xmove rfl) ?_)))))))
    refine svK (xapp sl37 in5 rfl (by decide) rfl rfl (Rw.nil _ w100.heap.size _ _) (hb.src sl37) (by simp only [maxLen]; omega) (by omega)) ?_
    rintro _ w130 ⟨g53, r53, m131, a53, l53⟩
    have z132 := m131.size
    have ha := ha.keep ask_st (lU hU (by omega)) m131 (fun k hk hS => by have hk := hU k hk; have hS : k = w100.heap.size := hS; omega)
    have hf := hf.step m131 (fun k hk hS => by have hS : k = w100.heap.size := hS; show False; omega)
    have h6 := h6.keep m131 (by show ¬ (b6 = w100.heap.size); omega)
    have k1 := k1.keep res_st (fun k hk => by have hk := Us.num hk; omega) m131 (fun k hk hS => by have hk := Us.num hk; have hS : k = w100.heap.size := hS; omega) (by show ¬ (g1 = w100.heap.size); omega)
    have k2 := k2.keep res_st (fun k hk => by have hk := Us.num hk; omega) m131 (fun k hk hS => by have hk := Us.num hk; have hS : k = w100.heap.size := hS; omega) (by show ¬ (g2 = w100.heap.size); omega)
    have k3 := k3.keep res_st (fun k hk => by have hk := Us.num hk; omega) m131 (fun k hk hS => by have hk := Us.num hk; have hS : k = w100.heap.size := hS; omega) (by show ¬ (g3 = w100.heap.size); omega)
    have hq := hq.keep q_st (fun k hk => by have hk := (show k + 1 ≤ 0 from (show False from hk).elim); omega) m131 (fun k hk hS => by have hk := (show k + 1 ≤ 0 from (show False from hk).elim); have hS : k = w100.heap.size := hS; omega) (by show ¬ (g = w100.heap.size); omega)
    obtain ⟨p53, q53, rfl, -⟩ := r53.form
    refine sc (xcall ca40 rfl) (c40 (m := m) (U := fun k => Us w130.heap.size b6 b6 g1 g2 g3 k ∧ k ≠ g53) r53 (by omega) h6 (RA.la0 hq (by decide) q_gr (fun _ h => h.elim) (.inr ⟨⟨by omega, by omega, by omega, by omega, by omega, by omega⟩, by omega⟩)) (RA.mono k1 res_gr (fun k hk => by have hk := Us.num hk; exact ⟨⟨by omega, by omega, by omega, by omega, by omega, by omega⟩, by omega⟩)) (RA.mono k2 res_gr (fun k hk => by have hk := Us.num hk; exact ⟨⟨by omega, by omega, by omega, by omega, by omega, by omega⟩, by omega⟩)) (RA.mono k3 res_gr (fun k hk => by have hk := Us.num hk; exact ⟨⟨by omega, by omega, by omega, by omega, by omega, by omega⟩, by omega⟩)) (fun k hk => by have hk2 := Us.num hk.1; have hk3 := hk.2; omega) (by omega) (fun a ha => hna a ha) (fun r hr => (hpk _ (by simp) r hr).2) (fun r hr => (hpk _ (by simp) r hr).2) (fun r hr => (hpk _ (by simp) r hr).2) hcn (by omega)) ?_
    rintro _ w133 ⟨p54, q54, g54, rfl, r54, m134, a54, l54⟩
    have z135 := m134.size
    have hf := hf.step m134 (fun k hk hS => by have hS : k = g53 ∨ k = g1 ∨ k = g2 ∨ k = g3 := hS; show False; omega)
    refine sv (xmove rfl) (sv (xextr rfl rfl) (sv (xextr rfl rfl) (sv (xassign rfl) (sv (xassign rfl) (send (fg [(11, _), (12, _)] ⟨rfl, rfl, ⟨⟩⟩ fun _ => ?_))))))
    refine sdraw (Fr (fun _ => False) w133.drew) [(0, .rd), (1, .rd), (2, .rd), (3, .rd), (4, .rd)] mixed (by kernel_rfl) (fun _ _ _ _ _ h => h) ?_
    have z136 : w133.drew.heap.size = w133.heap.size := rfl
    have hf := hf.drew
    have r54 := r54.keep (Fr.drew (Fr.refl (fun _ => False) w133)) id
    have hS137 : Fr (fun _ => False) w133.drew w133.drew := Fr.refl _ _
    refine hv rfl (fun _ _ => xmove rfl) hS137 (hv rfl (fun _ _ => xmove rfl) hS137 (hv rfl (fun _ _ => xeqN if89 rfl) hS137 (hv rfl (fun _ _ => xassign rfl) hS137 (hv rfl (fun _ _ => xassign rfl) hS137 (hend (fg [(4, _), (5, _)] ⟨rfl, rfl, ⟨⟩⟩ fun _ => (wp_ret ?_)))))))
    refine rp2 rfl rfl rfl ?_
    have el : 0 + cs.length + (packM (some []) m).length = (cs ++ packM (some []) m).length := by rw [List.length_append]; omega
    rw [el] at r54 ⊢
    exact ⟨p54, q54, g54, rfl, br_cast r54 rfl rfl, hf, by omega, by omega⟩
end Go.Proofs.YtifnodoffgfpbaaGreatDoor

namespace Go.Proofs.YtifnodoffgfpbaaGreatDoor
open Go

theorem MsgD.fits.lists {m : MsgD} (h : m.fits) : (∀ l ∈ [m.one, m.two, m.three], l.length ≤ 1048576) ∧ (∀ l ∈ [m.one, m.two, m.three], ∀ r ∈ l, r.fits) := by
  obtain ⟨h1, h2, h3, h4, h5, h6, h7, h8⟩ := h
  constructor
  · intro l hl
    simp only [List.mem_cons, List.not_mem_nil, or_false] at hl
    rcases hl with rfl | rfl | rfl <;> assumption
  · intro l hl
    simp only [List.mem_cons, List.not_mem_nil, or_false] at hl
    rcases hl with rfl | rfl | rfl <;> assumption
theorem nameOk_le {s : ByteArray} (h : nameOk s = true) : s.size ≤ 254 ∧ nameL (bt s) := ⟨nameOk_size h, nameL_of h⟩
theorem mem_sum_le {α : Type} {f : α → Nat} {l : List α} {a : α} (h : a ∈ l) : f a ≤ (l.map f).sum := by
  induction l with
  | nil => cases h
  | cons x xs ih =>
    simp only [List.map_cons, List.sum_cons]
    rcases List.mem_cons.1 h with rfl | h
    · omega
    · have := ih h; omega
theorem few_body {r : RecD} (hs : smallR r) (hg : goodR r) : PackOk r := by
  obtain ⟨k1, k13, hz⟩ := hs
  obtain ⟨hn, h7, h11, hh, hb⟩ := hg
  simp only [sizeR] at hz
  have hz2 := sum_add4 r.pairs
  have hnl := nameOk_le hn
  have hhost : r.kind = 2 ∨ r.kind = 3 ∨ r.kind = 5 ∨ r.kind = 6 ∨ r.kind = 9 ∨ r.kind = 11 ∨ r.kind = 12 ∨ r.kind = 4 → r.host.size ≤ 254 ∧ nameL (bt r.host) := fun h => nameOk_le (hh h)
  have hbox : r.kind = 4 → r.box.size ≤ 254 ∧ nameL (bt r.box) := fun h => nameOk_le (hb h)
  have hp : ∀ p ∈ r.pairs, p.data.length ≤ 2000 := fun p hp => by
    have := mem_sum_le (f := fun p : PairD => p.data.length + 4) hp
    omega
  have hpl := pairsL_length r.pairs
  have htl := textsL_length r.texts
  refine ⟨⟨by omega, k1, k13, fun h => by have := hhost h; omega, fun h => by have := hbox h; omega, by omega, by omega, by omega, fun p h => by have := hp p h; omega⟩, ⟨hnl.2, fun h => (hhost h).2, fun h => (hbox h).2⟩,
    ⟨by omega, fun h => (h7 h).2, by omega, by omega, fun p h => by have := hp p h; omega, by omega, by omega, h11⟩, ?_⟩
  have hw1 := wire_le (bt r.host)
  have hw2 := wire_le (bt r.box)
  rw [bt_length] at hw1 hw2
  have hk : r.kind = 1 ∨ r.kind = 2 ∨ r.kind = 3 ∨ r.kind = 4 ∨ r.kind = 5 ∨ r.kind = 6 ∨ r.kind = 7 ∨ r.kind = 8 ∨ r.kind = 9 ∨ r.kind = 10 ∨ r.kind = 11 ∨ r.kind = 12 ∨ r.kind = 13 := by omega
  rcases hk with h | h | h | h | h | h | h | h | h | h | h | h | h <;> simp [bodyL, h, fixedL_length, be16_length, be32_length]
  · have := hhost (by omega); omega
  · have := hhost (by omega); omega
  · have := hhost (by omega); have := hbox h; omega
  · have := hhost (by omega); omega
  · have := hhost (by omega); omega
  · omega
  · have := hhost (by omega); omega
  · omega
  · have := hhost (by omega); omega
  · have := hhost (by omega); omega
  · omega
/-- what Few tells of a message, for the packing of it -/
theorem few_pack {m : MsgD} (h : fewM m) : (∀ a ∈ m.asks, nameL (bt a.name)) ∧ (∀ l ∈ [m.one, m.two, m.three], ∀ r ∈ l, PackOk r) ∧ (m.asks.length ≤ 40 ∧ m.one.length ≤ 40 ∧ m.two.length ≤ 40 ∧ m.three.length ≤ 40) ∧ m.head.ok := by
  obtain ⟨hc, hs, ha, hg, hh⟩ := h
  exact ⟨fun a h => nameL_of (ha a h), fun l hl r hr => few_body (hs l hl r hr) (hg l hl r hr), by omega, hh⟩
theorem packM_ge (C : Option Ent) (m : MsgD) : 12 ≤ (packM C m).length := by
  simp only [packM, List.length_append, headL_len]; omega
theorem packM_le {m : MsgD} (h : fewM m) : (packM (some []) m).length ≤ 10000000 := by
  obtain ⟨hna, hpk, hc, _⟩ := few_pack h
  have h0 := packAsks_bound hna (by omega) (some []) 12
  have h1 := packRecs_bound (fun r hr => (hpk m.one (by simp) r hr).2) (by omega) (packA (some []) m).2 (12 + (packA (some []) m).1.length)
  have h2 := packRecs_bound (fun r hr => (hpk m.two (by simp) r hr).2) (by omega) (pack1 (some []) m).2 (12 + (packA (some []) m).1.length + (pack1 (some []) m).1.length)
  have h3 := packRecs_bound (fun r hr => (hpk m.three (by simp) r hr).2) (by omega) (pack2 (some []) m).2 (12 + (packA (some []) m).1.length + (pack1 (some []) m).1.length + (pack2 (some []) m).1.length)
  have e0 : (packA (some []) m).1.length ≤ 24000 := h0
  have e1 : (pack1 (some []) m).1.length ≤ 2680000 := h1
  have e2 : (pack2 (some []) m).1.length ≤ 2680000 := h2
  have e3 : (pack3 (some []) m).1.length ≤ 2680000 := h3
  simp only [packM, List.length_append, headL_len]; omega

end Go.Proofs.YtifnodoffgfpbaaGreatDoor

namespace Go.Proofs.YtifnodoffgfpbaaGreatDoor
open Go

def emptyB : ByteArray := ⟨#[]⟩
/-- a record as it is read -/
def normR (r : RecD) (len : UInt16) : RecD :=
  { name := r.name, typ := typeN r, cls := r.cls, ttl := r.ttl, len := len, kind := r.kind,
    data := if r.kind = 1 then fixedL r.data 4 else if r.kind = 8 then fixedL r.data 16 else if r.kind = 13 then r.data else [],
    host := if r.kind = 2 ∨ r.kind = 3 ∨ r.kind = 5 ∨ r.kind = 6 ∨ r.kind = 9 ∨ r.kind = 11 ∨ r.kind = 12 ∨ r.kind = 4 then r.host else emptyB,
    box := if r.kind = 4 then r.box else emptyB,
    n1 := if r.kind = 4 then r.n1 else if r.kind = 6 ∨ r.kind = 9 ∨ r.kind = 11 ∨ r.kind = 12 then UInt32.ofNat (r.n1.toNat % 65536) else 0,
    n2 := if r.kind = 4 then r.n2 else if r.kind = 9 then UInt32.ofNat (r.n2.toNat % 65536) else 0,
    n3 := if r.kind = 4 then r.n3 else if r.kind = 9 then UInt32.ofNat (r.n3.toNat % 65536) else 0,
    n4 := if r.kind = 4 then r.n4 else 0,
    n5 := if r.kind = 4 then r.n5 else 0,
    texts := if r.kind = 7 then r.texts else [],
    pairs := if r.kind = 10 ∨ r.kind = 11 ∨ r.kind = 12 then r.pairs else [] }
def Like (r' r : RecD) : Prop := ∃ len, r' = normR r len
def LikeM (m' m : MsgD) : Prop := m'.head = m.head ∧ m'.asks = m.asks ∧ All2 Like m'.one m.one ∧ All2 Like m'.two m.two ∧ All2 Like m'.three m.three
theorem u32mod (x : UInt32) : (UInt32.ofNat (x.toNat % 65536)).toNat = x.toNat % 65536 := by
  have := x.toNat_lt
  rw [UInt32.toNat_ofNat']; omega
theorem fixedL_fixed (d : List UInt8) (n : Nat) : fixedL (fixedL d n) n = fixedL d n := by
  have h := fixedL_length d n
  rw [fixedL, List.take_append_of_le_length (by omega), List.take_of_length_le (by omega)]
theorem typeN_norm (r : RecD) (len : UInt16) : typeN (normR r len) = typeN r := by
  simp only [typeN, normR]
  by_cases h : r.kind = 13
  · simp [h]
  · simp only [if_neg h]
theorem be16_mod2 (n : Nat) : be16 (n % 65536 % 4294967296) = be16 n := by
  rw [show n % 65536 % 4294967296 = n % 65536 by omega, be16_mod]
theorem bodyL_norm (r : RecD) (len : UInt16) (h1 : 1 ≤ r.kind) (h13 : r.kind ≤ 13) : bodyL (normR r len) = bodyL r := by
  have hk : r.kind = 1 ∨ r.kind = 2 ∨ r.kind = 3 ∨ r.kind = 4 ∨ r.kind = 5 ∨ r.kind = 6 ∨ r.kind = 7 ∨ r.kind = 8 ∨ r.kind = 9 ∨ r.kind = 10 ∨ r.kind = 11 ∨ r.kind = 12 ∨ r.kind = 13 := by omega
  simp only [bodyL, normR]
  rcases hk with h | h | h | h | h | h | h | h | h | h | h | h | h <;> simp [h, fixedL_fixed, be16_mod2]
theorem recL_norm (r : RecD) (len : UInt16) (h1 : 1 ≤ r.kind) (h13 : r.kind ≤ 13) : recL (normR r len) = recL r := by
  simp only [recL, typeN_norm, bodyL_norm r len h1 h13]
  rfl
theorem recsL_like : ∀ {rs' rs : List RecD}, All2 Like rs' rs → (∀ r ∈ rs, 1 ≤ r.kind ∧ r.kind ≤ 13) → recsL rs' = recsL rs
  | [], [], _, _ => rfl
  | [], r :: rs, h, _ => by have := h.1; simp at this
  | r' :: rs', [], h, _ => by have := h.1; simp at this
  | r' :: rs', r :: rs, h, hk => by
    obtain ⟨len, rfl⟩ := h.2 0 r' r rfl rfl
    have ih := recsL_like (rs' := rs') (rs := rs) ⟨by have := h.1; simpa using this, fun i a b ha hb => h.2 (i + 1) a b ha hb⟩ (fun r hr => hk r (by simp [hr]))
    simp only [recsL, List.map_cons, List.flatten_cons] at ih ⊢
    rw [ih, recL_norm r len (hk r (by simp)).1 (hk r (by simp)).2]
theorem msgL_like {m' m : MsgD} (h : LikeM m' m) (hk : ∀ r, r ∈ m.one ∨ r ∈ m.two ∨ r ∈ m.three → 1 ≤ r.kind ∧ r.kind ≤ 13) : msgL m' = msgL m := by
  obtain ⟨hh, ha, h1, h2, h3⟩ := h
  simp only [msgL, hh, ha, h1.1, h2.1, h3.1]
  rw [recsL_like h1 (fun r hr => hk r (.inl hr)), recsL_like h2 (fun r hr => hk r (.inr (.inl hr))), recsL_like h3 (fun r hr => hk r (.inr (.inr hr)))]

theorem or_add {a b i : Nat} (hb : b < 2 ^ i) : (2 ^ i * a) ||| b = 2 ^ i * a + b := (Nat.two_pow_add_eq_or_of_lt hb a).symm
def bN (b : Bool) : Nat := if b then 1 else 0
theorem bN_lt (b : Bool) : bN b < 2 := by cases b <;> decide
theorem flag_mul (b : Bool) (x : UInt16) : (flagN b x).toNat = x.toNat * bN b := by cases b <;> simp [flagN, bN]
theorem hbits_nat (h : HeadD) (ho : h.op.toNat < 16) (hc : h.code.toNat < 16) :
    (hbits h).toNat = 32768 * bN h.resp + 2048 * h.op.toNat + 1024 * bN h.auth + 512 * bN h.cut + 256 * bN h.des + 128 * bN h.avail + 32 * bN h.authc + 16 * bN h.unch + h.code.toNat := by
  have b1 := bN_lt h.resp
  have b2 := bN_lt h.auth
  have b3 := bN_lt h.cut
  have b4 := bN_lt h.des
  have b5 := bN_lt h.avail
  have b6 := bN_lt h.authc
  have b7 := bN_lt h.unch
  have eop : (h.op <<< 11).toNat = 2048 * h.op.toNat := by
    rw [UInt16.toNat_shiftLeft]
    have : (11 : UInt16).toNat % 16 = 11 := rfl
    rw [this, Nat.shiftLeft_eq]; omega
  simp only [hbits, UInt16.toNat_or, flag_mul, eop]
  have e1 : (0x8000 : UInt16).toNat = 32768 := rfl
  have e2 : (0x0400 : UInt16).toNat = 1024 := rfl
  have e3 : (0x0200 : UInt16).toNat = 512 := rfl
  have e4 : (0x0100 : UInt16).toNat = 256 := rfl
  have e5 : (0x0080 : UInt16).toNat = 128 := rfl
  have e6 : (0x0020 : UInt16).toNat = 32 := rfl
  have e7 : (0x0010 : UInt16).toNat = 16 := rfl
  rw [e1, e2, e3, e4, e5, e6, e7]
  have s1 : 32768 * bN h.resp ||| 2048 * h.op.toNat = 32768 * bN h.resp + 2048 * h.op.toNat := or_add (i := 15) (by omega)
  have s2 : (32768 * bN h.resp + 2048 * h.op.toNat) ||| 1024 * bN h.auth = 32768 * bN h.resp + 2048 * h.op.toNat + 1024 * bN h.auth := by
    have := or_add (i := 11) (a := 16 * bN h.resp + h.op.toNat) (b := 1024 * bN h.auth) (by omega)
    rw [show 2 ^ 11 * (16 * bN h.resp + h.op.toNat) = 32768 * bN h.resp + 2048 * h.op.toNat by omega] at this; exact this
  have s3 : (32768 * bN h.resp + 2048 * h.op.toNat + 1024 * bN h.auth) ||| 512 * bN h.cut = 32768 * bN h.resp + 2048 * h.op.toNat + 1024 * bN h.auth + 512 * bN h.cut := by
    have := or_add (i := 10) (a := 32 * bN h.resp + 2 * h.op.toNat + bN h.auth) (b := 512 * bN h.cut) (by omega)
    rw [show 2 ^ 10 * (32 * bN h.resp + 2 * h.op.toNat + bN h.auth) = 32768 * bN h.resp + 2048 * h.op.toNat + 1024 * bN h.auth by omega] at this; exact this
  have s4 : (32768 * bN h.resp + 2048 * h.op.toNat + 1024 * bN h.auth + 512 * bN h.cut) ||| 256 * bN h.des = 32768 * bN h.resp + 2048 * h.op.toNat + 1024 * bN h.auth + 512 * bN h.cut + 256 * bN h.des := by
    have := or_add (i := 9) (a := 64 * bN h.resp + 4 * h.op.toNat + 2 * bN h.auth + bN h.cut) (b := 256 * bN h.des) (by omega)
    rw [show 2 ^ 9 * (64 * bN h.resp + 4 * h.op.toNat + 2 * bN h.auth + bN h.cut) = 32768 * bN h.resp + 2048 * h.op.toNat + 1024 * bN h.auth + 512 * bN h.cut by omega] at this; exact this
  have s5 : 128 * bN h.avail ||| 32 * bN h.authc = 128 * bN h.avail + 32 * bN h.authc := or_add (i := 7) (by omega)
  have s6 : (128 * bN h.avail + 32 * bN h.authc) ||| 16 * bN h.unch = 128 * bN h.avail + 32 * bN h.authc + 16 * bN h.unch := by
    have := or_add (i := 5) (a := 4 * bN h.avail + bN h.authc) (b := 16 * bN h.unch) (by omega)
    rw [show 2 ^ 5 * (4 * bN h.avail + bN h.authc) = 128 * bN h.avail + 32 * bN h.authc by omega] at this; exact this
  have s7 : (128 * bN h.avail + 32 * bN h.authc + 16 * bN h.unch) ||| h.code.toNat = 128 * bN h.avail + 32 * bN h.authc + 16 * bN h.unch + h.code.toNat := by
    have := or_add (i := 4) (a := 8 * bN h.avail + 2 * bN h.authc + bN h.unch) (b := h.code.toNat) (by omega)
    rw [show 2 ^ 4 * (8 * bN h.avail + 2 * bN h.authc + bN h.unch) = 128 * bN h.avail + 32 * bN h.authc + 16 * bN h.unch by omega] at this; exact this
  rw [s1, s2, s3, s4, s5, s6, s7]
  have s8 := or_add (i := 8) (a := 128 * bN h.resp + 8 * h.op.toNat + 4 * bN h.auth + 2 * bN h.cut + bN h.des) (b := 128 * bN h.avail + 32 * bN h.authc + 16 * bN h.unch + h.code.toNat) (by omega)
  rw [show 2 ^ 8 * (128 * bN h.resp + 8 * h.op.toNat + 4 * bN h.auth + 2 * bN h.cut + bN h.des) = 32768 * bN h.resp + 2048 * h.op.toNat + 1024 * bN h.auth + 512 * bN h.cut + 256 * bN h.des by omega] at s8
  rw [s8]; omega
theorem bit_of (x : Nat) (i : Nat) : x &&& 2 ^ i = 2 ^ i * (x / 2 ^ i % 2) := by
  have hb : x.testBit i = decide (x / 2 ^ i % 2 = 1) := Nat.testBit_eq_decide_div_mod_eq
  have : x / 2 ^ i % 2 = 0 ∨ x / 2 ^ i % 2 = 1 := by omega
  apply Nat.eq_of_testBit_eq
  intro j
  rw [Nat.testBit_and, Nat.testBit_two_pow]
  rcases this with h | h
  · rw [h, Nat.mul_zero, Nat.zero_testBit]
    by_cases hj : i = j
    · subst hj; rw [hb, h]; rfl
    · simp [hj]
  · rw [h, Nat.mul_one, Nat.testBit_two_pow]
    by_cases hj : i = j
    · subst hj; rw [hb, h]; simp
    · simp [hj]
end Go.Proofs.YtifnodoffgfpbaaGreatDoor

namespace Go.Proofs.YtifnodoffgfpbaaGreatDoor
open Go

/-- no capital letter -/
def lowS (s : ByteArray) : Prop := ∀ i (h : i < s.size), ¬ (65 ≤ s[i].toNat ∧ s[i].toNat ≤ 90)
def kR (k : Nat) : RecD := { name := emptyB, typ := 0, cls := 0, ttl := 0, len := 0, kind := k, data := [], host := emptyB, box := emptyB, n1 := 0, n2 := 0, n3 := 0, n4 := 0, n5 := 0, texts := [], pairs := [] }
/-- k is the kind of records of the type t -/
def KindOf (t : UInt16) (k : Nat) : Prop := 1 ≤ k ∧ k ≤ 13 ∧ (k = 13 ∨ typeN (kR k) = t) ∧ ∀ j, 1 ≤ j → j < k → typeN (kR j) ≠ t
def plainR (r : RecD) : Prop := r.kind = 13 → KindOf r.typ 13
def lowR (r : RecD) : Prop := lowS r.name ∧ lowS r.host ∧ lowS r.box
def plainM (m : MsgD) : Prop := ∀ l ∈ [m.one, m.two, m.three], ∀ r ∈ l, plainR r
def lowM (m : MsgD) : Prop := (∀ a ∈ m.asks, lowS a.name) ∧ ∀ l ∈ [m.one, m.two, m.three], ∀ r ∈ l, lowR r

set_option maxHeartbeats 4000000 in
set_option maxRecDepth 100000 in
theorem c34 {w : World} {s : ByteArray} (hs : s.size ≤ 1048576) :
  Ret PP 34 [.string s] w (Grd w (lowS s)) := by
 have hf : Fr (fun _ => False) w w := Fr.refl _ _
 refine ret_of Tryz.func34 rfl rfl rfl [(0, _)] rfl ?_
 refine sreg (sv (xassign rfl) (send (fg [(0, _)] ⟨rfl, ⟨⟩⟩ fun _ => (wp_seq (sreg (sv (xmove rfl) (sv (xlenS st9 rfl) (sv (xmove rfl) (send (fg [(0, _), (5, _), (6, _)] ⟨rfl, rfl, rfl, ⟨⟩⟩ fun _ => (wp_block ?_)))))))))))
 refine lp [(0, _), (5, _)] (fun (k : Nat) => [(6, .int .i64 (k : Int))]) (fun (k : Nat) wx => Fr (fun _ => False) w wx ∧ (k ≤ s.size) ∧ (∀ i (h : i < s.size), i < k → ¬ (65 ≤ s[i].toNat ∧ s[i].toNat ≤ 90))) (fun (k : Nat) => s.size - k) 0 ⟨rfl, rfl, rfl, trivial⟩ ⟨Fr.refl _ _, Nat.zero_le _, fun i h h0 => by omega⟩ ?_
 rintro k _ w2 ⟨hL1, hk, hL⟩
 refine fg [(0, _), (5, _), (6, _)] ⟨rfl, rfl, rfl, ⟨⟩⟩ fun _ => ?_
 have z3 := hL1.size
 have hf := hf.step0 hL1
 refine sreg ?_
 refine svP (xlss rfl rfl) (fun hc7 => ?_) (fun hc7 => ?_)
 ·
  refine send (fg [(0, _), (5, _), (6, _), (7, _)] ⟨rfl, rfl, rfl, rfl, ⟨⟩⟩ fun _ => (wp_seq (cyes rfl (wp_skip (nThen (fg [(0, _), (5, _), (6, _)] ⟨rfl, rfl, rfl, ⟨⟩⟩ fun _ => (wp_seq (wp_block (sreg (sv (xmove rfl) (sv (xassign rfl) ?_)))))))))))
  refine send (fg [(0, _), (3, _), (5, _), (6, _)] ⟨rfl, rfl, rfl, rfl, ⟨⟩⟩ fun _ => (sreg (sv (xmove rfl) (sv (xmove rfl) (sv (xidxS st9 rfl rfl rfl (by omega)) ?_)))))
  refine svP (xgeq rfl rfl) (fun hc12 => ?_) (fun hc12 => ?_)
  ·
   refine sv (xmove rfl) (gyes rfl rfl rfl (sv (xmove rfl) (gyes rfl rfl rfl (sv (xmove rfl) (gyes rfl rfl rfl (sv (xidxS st9 rfl rfl rfl (by omega)) (gyes rfl rfl rfl ?_)))))))
   refine svP (xleq rfl rfl) (fun hc17 => ?_) (fun hc17 => ?_)
   ·
    refine sv (xpickT rfl rfl) (send (fg [(0, _), (5, _), (6, _), (18, _)] ⟨rfl, rfl, rfl, rfl, ⟨⟩⟩ fun _ => (cyes rfl (sreg (sv (xassign rfl) (send (fg [(2, _)] ⟨rfl, ⟨⟩⟩ fun _ => (wp_ret (rBlock (rThen (rThen ?_)))))))))))
    refine rBlock (rThen ?_)
    refine rp1 rfl rfl ?_
    exact ⟨_, rfl, (fun h => by cases h), hf⟩
   ·
    refine sv (xpickT rfl rfl) (send (fg [(0, _), (5, _), (6, _), (18, _)] ⟨rfl, rfl, rfl, rfl, ⟨⟩⟩ fun _ => (cno rfl (wp_skip (nBlock (nThen (fg [(0, _), (5, _), (6, _)] ⟨rfl, rfl, rfl, ⟨⟩⟩ fun _ => (lreg (sv (xadd rfl rfl (w64 (by omega) (by omega))) (sv (xmove rfl) (lend ?_)))))))))))
    refine nThen ?_
    refine ⟨k + 1, _, env_okl ⟨rfl, rfl, rfl, trivial⟩, ⟨hL1, (by omega), (fun i h h0 => (Nat.lt_or_ge i k).elim (fun hik => hL i h hik) (fun hge => by have e : i = k := (by omega); subst e; omega))⟩, ?_⟩
    show s.size - (k + 1) < s.size - k; omega
  ·
   refine sv (xmove rfl) (gno rfl rfl rfl (gno rfl rfl rfl (gno rfl rfl rfl (gno rfl rfl rfl (sv (xpickF rfl rfl) (send (fg [(0, _), (5, _), (6, _), (18, _)] ⟨rfl, rfl, rfl, rfl, ⟨⟩⟩ fun _ => (cno rfl (wp_skip (nBlock (nThen ?_)))))))))))
   refine fg [(0, _), (5, _), (6, _)] ⟨rfl, rfl, rfl, ⟨⟩⟩ fun _ => (lreg (sv (xadd rfl rfl (w64 (by omega) (by omega))) (sv (xmove rfl) (lend (nThen ?_)))))
   refine ⟨k + 1, _, env_okl ⟨rfl, rfl, rfl, trivial⟩, ⟨hL1, (by omega), (fun i h h0 => (Nat.lt_or_ge i k).elim (fun hik => hL i h hik) (fun hge => by have e : i = k := (by omega); subst e; omega))⟩, ?_⟩
   show s.size - (k + 1) < s.size - k; omega
 ·
  refine send (fg [(0, _), (5, _), (6, _), (7, _)] ⟨rfl, rfl, rfl, rfl, ⟨⟩⟩ fun _ => (wp_seq (cno rfl (wp_exit (eThen (eThen (eHit (nThen (fg [] trivial fun _ => (sreg (sv (xassign rfl) ?_)))))))))))
  refine send (fg [(2, _)] ⟨rfl, ⟨⟩⟩ fun _ => (wp_ret ?_))
  refine rp1 rfl rfl ?_
  exact ⟨_, rfl, (fun _ i h => hL i h (by omega)), hf⟩
set_option maxHeartbeats 4000000 in
set_option maxRecDepth 100000 in
theorem c35 {w : World} {t : UInt16} :
  Ret PP 35 [.int .u16 (t.toNat : Int)] w (fun u w' => (∃ k : Nat, u = .int .i64 (k : Int) ∧ KindOf t k) ∧ Fr0 w w') := by
 have hf : Fr (fun _ => False) w w := Fr.refl _ _
 refine ret_of Tryz.func35 rfl rfl rfl [(0, _)] rfl ?_
 refine sreg (sv (xassign rfl) (send (fg [(0, _)] ⟨rfl, ⟨⟩⟩ fun _ => (wp_seq (sreg (sv (xassign rfl) (send (fg [(0, _), (3, _)] ⟨rfl, rfl, ⟨⟩⟩ fun _ => (wp_block ?_)))))))))
 refine lp [(0, _)] (fun (k : Nat) => [(3, .int .i64 (k : Int))]) (fun (k : Nat) wx => Fr (fun _ => False) w wx ∧ (1 ≤ k) ∧ (k ≤ 13) ∧ (∀ j, 1 ≤ j → j < k → typeN (kR j) ≠ t)) (fun (k : Nat) => 13 - k) 1 ⟨rfl, rfl, trivial⟩ ⟨Fr.refl _ _, Nat.le_refl _, (by omega), fun j h1 h2 => by omega⟩ ?_
 rintro k _ w2 ⟨hL1, h1, hk, hA⟩
 refine fg [(0, _), (3, _)] ⟨rfl, rfl, ⟨⟩⟩ fun _ => ?_
 have z3 := hL1.size
 have hf := hf.step0 hL1
 refine wp_seq (sreg (sv (xmove rfl) ?_))
 refine svP (xlss rfl rfl) (fun hc5 => ?_) (fun hc5 => ?_)
 ·
  refine send (fg [(0, _), (3, _), (5, _)] ⟨rfl, rfl, rfl, ⟨⟩⟩ fun _ => (cyes rfl (wp_skip (nThen (fg [(0, _), (3, _)] ⟨rfl, rfl, ⟨⟩⟩ fun _ => (wp_seq (wp_block (sreg (sv (xmove rfl) (sv (xbuildS (recSegs (kR k) (.slice none 0 0) (.slice none 0 0) (.slice none 0 0)) zr65 ly65 rfl (by simp [fitAll, zs65, Value.cells]) rfl) ?_))))))))))
  refine sc (xcall ca86 rfl) (c86 (r := kR k) (show (0 : Int) ≤ (k : Int) by omega) (show (k : Int) ≤ 13 by omega)) ?_
  rintro _ w4 ⟨rfl, m5⟩
  have z6 := m5.size
  have hf := hf.step0 m5
  have hL1 := hL1.step0 m5
  refine sv (xmove rfl) ?_
  refine svP (xeql rfl rfl) (fun hc12 => ?_) (fun hc12 => ?_)
  ·
   refine send (fg [(0, _), (3, _), (12, _)] ⟨rfl, rfl, rfl, ⟨⟩⟩ fun _ => (cyes rfl (sreg (sv (xmove rfl) (sv (xassign rfl) (send (fg [(2, _)] ⟨rfl, ⟨⟩⟩ fun _ => (wp_ret (rBlock (rThen (rThen ?_)))))))))))
   refine rBlock (rThen ?_)
   refine rp1 rfl rfl ?_
   first | exact ⟨⟨k, rfl, h1, by omega, .inr (by have := hc12; exact UInt16.toNat_inj.1 (by omega)), hA⟩, hf⟩ | exact ⟨⟨13, rfl, by omega, by omega, .inl rfl, fun j a b => hA j a (by omega)⟩, hf⟩
  ·
   refine send (fg [(0, _), (3, _), (12, _)] ⟨rfl, rfl, rfl, ⟨⟩⟩ fun _ => (cno rfl (wp_skip (nBlock (nThen (fg [(0, _), (3, _)] ⟨rfl, rfl, ⟨⟩⟩ fun _ => (lreg (sv (xmove rfl) (sv (xadd rfl rfl (w64 (by omega) (by omega))) (sv (xassign rfl) (lend ?_)))))))))))
   refine nThen ?_
   refine ⟨k + 1, _, env_okl ⟨rfl, rfl, trivial⟩, ⟨hL1, (by omega), (by omega), (fun j a b => (Nat.lt_or_ge j k).elim (fun e => hA j a e) (fun hge => by have e : j = k := (by omega); subst e; exact fun e => hc12 (by rw [e])))⟩, ?_⟩
   show 13 - (k + 1) < 13 - k; omega
 ·
  refine send (fg [(0, _), (3, _), (5, _)] ⟨rfl, rfl, rfl, ⟨⟩⟩ fun _ => (cno rfl (wp_exit (eThen (eThen (eHit (nThen (fg [] trivial fun _ => (sreg (sv (xassign rfl) (send ?_)))))))))))
  refine fg [(2, _)] ⟨rfl, ⟨⟩⟩ fun _ => (wp_ret ?_)
  refine rp1 rfl rfl ?_
  first | exact ⟨⟨k, rfl, h1, by omega, .inr (by have := hc12; exact UInt16.toNat_inj.1 (by omega)), hA⟩, hf⟩ | exact ⟨⟨13, rfl, by omega, by omega, .inl rfl, fun j a b => hA j a (by omega)⟩, hf⟩
set_option maxHeartbeats 4000000 in
set_option maxRecDepth 100000 in
theorem c16 {w : World} {U : Nat → Prop} (hU : ∀ k, U k → k < w.heap.size) {m : MsgD} {va v1 v2 v3 : Value} (ha : LA AskEl lAsk U w va m.asks) (y1 : LA RecEl lRec U w v1 m.one) (y2 : LA RecEl lRec U w v2 m.two) (y3 : LA RecEl lRec U w v3 m.three) (hfr : ∀ l ∈ [m.one, m.two, m.three], ∀ r ∈ l, r.fits) (hll : ∀ l ∈ [m.one, m.two, m.three], l.length ≤ 1048576)  :
  Ret PP 16 [ag (msgSegs m.head va v1 v2 v3)] w (Grd w (plainM m)) := by
 have hls : All2 (LA RecEl lRec U w) [v1, v2, v3] [m.one, m.two, m.three] := All2.cons y1 (All2.cons y2 (All2.cons y3 All2.nil))
 obtain ⟨aa, ca, rfl⟩ := ha.form
 obtain ⟨a1, c1, rfl⟩ := y1.form
 obtain ⟨a2, c2, rfl⟩ := y2.form
 obtain ⟨a3, c3, rfl⟩ := y3.form
 have hf : Fr (fun _ => False) w w := Fr.refl _ _
 refine ret_of Tryz.func16 rfl rfl rfl [(0, _)] rfl ?_
 refine sreg ?_
 refine svK (xboxS (lens := lMsg) rfl rfl) ?_
 rintro _ w2 ⟨b1, rfl, m3, h1, e1, s1⟩
 have hf := hf.step0 m3
 refine sv (xassign rfl) (send (fg [(1, _)] ⟨rfl, ⟨⟩⟩ fun _ => (wp_seq (sreg (sv (xfld fl34_2 rfl) (sv (xld on32 rfl (h1.r.c 11 rfl rfl)) (sv (xfld fl34_3 rfl) (sv (xld on32 rfl (h1.r.c 12 rfl rfl)) (sv (xfld fl34_4 rfl) (sv (xld on32 rfl (h1.r.c 13 rfl rfl)) ?_))))))))))
 refine svK (xslit ([.slice a1 m.one.length c1, .slice a2 m.two.length c2, .slice a3 m.three.length c3]) sl60 in32 rfl (by decide) rfl rfl rfl rfl (by decide) rfl rfl) ?_
 rintro _ w5 ⟨b13, rfl, m6, h13, e13, s13, r13⟩
 have hf := hf.step0 m6
 refine sv (xlen sl60 rfl) (sv (xmove rfl) (send (fg [(13, _), (14, _), (15, _)] ⟨rfl, rfl, rfl, ⟨⟩⟩ fun _ => (wp_block ?_))))
 refine lp [(13, _), (14, _)] (fun (i : Nat) => [(15, .int .i64 (i : Int))]) (fun (i : Nat) wx => Fr (fun _ => False) w5 wx ∧ (i ≤ 3) ∧ (∀ j (l : List RecD), j < i → [m.one, m.two, m.three][j]? = some l → ∀ r ∈ l, plainR r)) (fun (i : Nat) => 3 - i) 0 ⟨rfl, rfl, rfl, trivial⟩ ⟨Fr.refl _ _, Nat.zero_le _, upto_zero⟩ ?_
 rintro i _ w8 ⟨hL7, hi, hO⟩
 refine fg [(13, _), (14, _), (15, _)] ⟨rfl, rfl, rfl, ⟨⟩⟩ fun _ => ?_
 have z9 := hL7.size
 have hf := hf.step0 hL7
 have r13 := r13.keep hL7 id
 refine sreg ?_
 refine svP (xlss rfl rfl) (fun hc16 => ?_) (fun hc16 => ?_)
 ·
  refine send (fg [(13, _), (14, _), (15, _), (16, _)] ⟨rfl, rfl, rfl, rfl, ⟨⟩⟩ fun _ => (wp_seq (cyes rfl (wp_skip (nThen (fg [(13, _), (14, _), (15, _)] ⟨rfl, rfl, rfl, ⟨⟩⟩ fun _ => (wp_seq (wp_block (sreg ?_)))))))))
  obtain ⟨u, l, hu, hul, hL⟩ := hls.get (k := i) (by simp; omega)
  have hL := hL.keep rec_st hU hf nF
  have hlm : l ∈ [m.one, m.two, m.three] := List.mem_of_getElem? hul
  have hln := hll l hlm
  obtain ⟨au, cu, rfl⟩ := hL.form
  refine sv (xidx1 sl60 sz32 rfl rfl rfl (by omega)) (sv (xld on32 rfl (Rw.rng r13 i _ hu)) (sv (xassign rfl) (send (fg [(4, _), (13, _), (14, _), (15, _)] ⟨rfl, rfl, rfl, rfl, ⟨⟩⟩ fun _ => (sreg (sv (xmove rfl) (sv (xlen sl32 rfl) (sv (xmove rfl) (send (fg [(13, _), (14, _), (15, _), (19, _), (20, _), (21, _)] ⟨rfl, rfl, rfl, rfl, rfl, rfl, ⟨⟩⟩ fun _ => (wp_block ?_)))))))))))
  refine lp [(13, _), (14, _), (15, _), (19, _), (20, _)] (fun (k : Nat) => [(21, .int .i64 (k : Int))]) (fun (k : Nat) wx => Fr (fun _ => False) w8 wx ∧ (k ≤ l.length) ∧ (∀ j (r : RecD), j < k → l[j]? = some r → plainR r)) (fun (k : Nat) => l.length - k) 0 ⟨rfl, rfl, rfl, rfl, rfl, rfl, trivial⟩ ⟨Fr.refl _ _, Nat.zero_le _, upto_zero⟩ ?_
  rintro k _ w11 ⟨hL10, hk, hI⟩
  refine fg [(13, _), (14, _), (15, _), (19, _), (20, _), (21, _)] ⟨rfl, rfl, rfl, rfl, rfl, rfl, ⟨⟩⟩ fun _ => ?_
  have z12 := hL10.size
  have hf := hf.step0 hL10
  have hL7 := hL7.step0 hL10
  have hL := hL.keep rec_st (lU hU (by omega)) hL10 nF
  refine sreg ?_
  refine svP (xlss rfl rfl) (fun hc22 => ?_) (fun hc22 => ?_)
  ·
   refine send (fg [(13, _), (14, _), (15, _), (19, _), (20, _), (21, _), (22, _)] ⟨rfl, rfl, rfl, rfl, rfl, rfl, rfl, ⟨⟩⟩ fun _ => (wp_seq (cyes rfl (wp_skip (nThen (fg [(13, _), (14, _), (15, _), (19, _), (20, _), (21, _)] ⟨rfl, rfl, rfl, rfl, rfl, rfl, ⟨⟩⟩ fun _ => (wp_seq (wp_block ?_))))))))
   obtain ⟨r, hrk⟩ := some_of_lt (by omega : k < l.length)
   have hrf := hfr l hlm r (List.mem_of_getElem? hrk)
   have hrf0 := hrf
   simp only [RecD.fits] at hrf0
   refine sreg ?_
   obtain ⟨bE23, oE23, sgE23, rfl, uE23, hsE23, heE23⟩ := LA.get hL hrk
   obtain ⟨vd, vt, vp, rfl, hd, ht, hp⟩ := heE23
   have zE23 := hU _ uE23
   obtain ⟨ad, cd, rfl, -⟩ := id hd
   obtain ⟨at1, ct1, rfl⟩ := ht.form
   obtain ⟨ap1, cp1, rfl⟩ := hp.form
   refine sv (xidx sl32 sz65 rfl rfl rfl (by omega)) (sv (xldS (lens := lRec) ro65 rfl hsE23) ?_)
   refine svK (xallS (lens := lRec) in65 rfl) ?_
   rintro _ w14 ⟨b6, rfl, m15, h6, e13, s13⟩
   have hf := hf.step0 m15
   have hL7 := hL7.step0 m15
   have hL10 := hL10.step0 m15
   refine suK (xstW h6 (lens' := lRec) sz65 rfl rfl rfl rfl rfl) ?_
   rintro w17 ⟨m18, h6, s16⟩
   have hf := hf.step m18 (fun k hk hS => by have hS : k = b6 := hS; show False; omega)
   have hL7 := hL7.step m18 (fun k hk hS => by have hS : k = b6 := hS; show False; omega)
   have hL10 := hL10.step m18 (fun k hk hS => by have hS : k = b6 := hS; show False; omega)
   refine send (fg [(6, _), (13, _), (14, _), (15, _), (19, _), (20, _), (21, _)] ⟨rfl, rfl, rfl, rfl, rfl, rfl, rfl, ⟨⟩⟩ fun _ => (sreg (sv (xfld fl65_5 rfl) (sv (xld on3 rfl (h6.r.c 5 rfl rfl)) ?_))))
   refine svP (xeql rfl rfl) (fun hc27 => ?_) (fun hc27 => ?_)
   ·
    refine sv (xmove rfl) (gyes rfl rfl rfl (sv (xfld fl65_1 rfl) (gyes rfl rfl rfl (sv (xld on22 rfl (h6.r.c 1 rfl rfl)) (gyes rfl rfl rfl ?_)))))
    refine sc (xcall ca35 rfl) (c35) ?_
    rintro _ w19 ⟨⟨k35, rfl, hK⟩, m20⟩
    have z21 := m20.size
    have hf := hf.step0 m20
    have hL7 := hL7.step0 m20
    have hL10 := hL10.step0 m20
    refine gyes rfl rfl rfl ?_
    refine svP (xneq rfl rfl) (fun hc32 => ?_) (fun hc32 => ?_)
    ·
     refine sv (xpickT rfl rfl) (send (fg [(13, _), (14, _), (15, _), (19, _), (20, _), (21, _), (33, _)] ⟨rfl, rfl, rfl, rfl, rfl, rfl, rfl, ⟨⟩⟩ fun _ => (cyes rfl (sreg (sv (xassign rfl) (send (fg [(2, _)] ⟨rfl, ⟨⟩⟩ fun _ => (wp_ret (rBlock (rThen (rThen ?_)))))))))))
     refine rBlock (rBlock (rThen (rThen (rBlock (rThen ?_)))))
     refine rp1 rfl rfl ?_
     exact ⟨_, rfl, (fun h => by cases h), hf⟩
    ·
     refine sv (xpickT rfl rfl) (send (fg [(13, _), (14, _), (15, _), (19, _), (20, _), (21, _), (33, _)] ⟨rfl, rfl, rfl, rfl, rfl, rfl, rfl, ⟨⟩⟩ fun _ => (cno rfl (wp_skip (nBlock (nThen (fg [(13, _), (14, _), (15, _), (19, _), (20, _), (21, _)] ⟨rfl, rfl, rfl, rfl, rfl, rfl, ⟨⟩⟩ fun _ => (lreg (sv (xadd rfl rfl (w64 (by omega) (by omega))) (sv (xmove rfl) (lend ?_)))))))))))
     refine nThen ?_
     refine ⟨k + 1, _, env_okl ⟨rfl, rfl, rfl, rfl, rfl, rfl, trivial⟩, ⟨hL10, (by omega), (upto_step hI hrk (fun h13 => by first | omega | (have e13 : k35 = 13 := (by omega); subst e13; exact hK)))⟩, ?_⟩
     show l.length - (k + 1) < l.length - k; omega
   ·
    refine sv (xmove rfl) (gno rfl rfl rfl (gno rfl rfl rfl (gno rfl rfl rfl (gno rfl rfl rfl (sv (xpickF rfl rfl) (send (fg [(13, _), (14, _), (15, _), (19, _), (20, _), (21, _), (33, _)] ⟨rfl, rfl, rfl, rfl, rfl, rfl, rfl, ⟨⟩⟩ fun _ => (cno rfl (wp_skip (nBlock (nThen ?_)))))))))))
    refine fg [(13, _), (14, _), (15, _), (19, _), (20, _), (21, _)] ⟨rfl, rfl, rfl, rfl, rfl, rfl, ⟨⟩⟩ fun _ => (lreg (sv (xadd rfl rfl (w64 (by omega) (by omega))) (sv (xmove rfl) (lend (nThen ?_)))))
    refine ⟨k + 1, _, env_okl ⟨rfl, rfl, rfl, rfl, rfl, rfl, trivial⟩, ⟨hL10, (by omega), (upto_step hI hrk (fun h13 => by first | omega | (have e13 : k35 = 13 := (by omega); subst e13; exact hK)))⟩, ?_⟩
    show l.length - (k + 1) < l.length - k; omega
  ·
   refine send (fg [(13, _), (14, _), (15, _), (19, _), (20, _), (21, _), (22, _)] ⟨rfl, rfl, rfl, rfl, rfl, rfl, rfl, ⟨⟩⟩ fun _ => (wp_seq (cno rfl (wp_exit (eThen (eThen (eHit (nBlock (nThen (fg [(13, _), (14, _), (15, _)] ⟨rfl, rfl, rfl, ⟨⟩⟩ fun _ => (lreg ?_)))))))))))
   refine sv (xadd rfl rfl (w64 (by omega) (by omega))) (sv (xmove rfl) (lend (nThen ?_)))
   refine ⟨i + 1, _, env_okl ⟨rfl, rfl, rfl, trivial⟩, ⟨hL7, (by omega), (upto_step hO hul (upto_all hI (by omega)))⟩, ?_⟩
   show 3 - (i + 1) < 3 - i; omega
 ·
  refine send (fg [(13, _), (14, _), (15, _), (16, _)] ⟨rfl, rfl, rfl, rfl, ⟨⟩⟩ fun _ => (wp_seq (cno rfl (wp_exit (eThen (eThen (eHit (nThen (fg [] trivial fun _ => (sreg (sv (xassign rfl) ?_)))))))))))
  refine send (fg [(2, _)] ⟨rfl, ⟨⟩⟩ fun _ => (wp_ret ?_))
  refine rp1 rfl rfl ?_
  exact ⟨_, rfl, (fun _ => upto_all hO (by simp; omega)), hf⟩
set_option maxHeartbeats 4000000 in
set_option maxRecDepth 100000 in
theorem c15 {w : World} {U : Nat → Prop} (hU : ∀ k, U k → k < w.heap.size) {m : MsgD} {va v1 v2 v3 : Value} (ha : LA AskEl lAsk U w va m.asks) (y1 : LA RecEl lRec U w v1 m.one) (y2 : LA RecEl lRec U w v2 m.two) (y3 : LA RecEl lRec U w v3 m.three) (hfa : ∀ a ∈ m.asks, a.name.size ≤ 1048576) (hna : m.asks.length ≤ 1048576) (hfr : ∀ l ∈ [m.one, m.two, m.three], ∀ r ∈ l, r.fits) (hll : ∀ l ∈ [m.one, m.two, m.three], l.length ≤ 1048576)  :
  Ret PP 15 [ag (msgSegs m.head va v1 v2 v3)] w (Grd w (lowM m)) := by
 have hls : All2 (LA RecEl lRec U w) [v1, v2, v3] [m.one, m.two, m.three] := All2.cons y1 (All2.cons y2 (All2.cons y3 All2.nil))
 obtain ⟨aa, ca, rfl⟩ := ha.form
 obtain ⟨a1, c1, rfl⟩ := y1.form
 obtain ⟨a2, c2, rfl⟩ := y2.form
 obtain ⟨a3, c3, rfl⟩ := y3.form
 have hf : Fr (fun _ => False) w w := Fr.refl _ _
 refine ret_of Tryz.func15 rfl rfl rfl [(0, _)] rfl ?_
 refine sreg ?_
 refine svK (xboxS (lens := lMsg) rfl rfl) ?_
 rintro _ w2 ⟨b1, rfl, m3, h1, e1, s1⟩
 have ha := ha.keep ask_st (lU hU (by omega)) m3 nF
 have hf := hf.step0 m3
 refine sv (xassign rfl) (send (fg [(1, _)] ⟨rfl, ⟨⟩⟩ fun _ => (wp_seq (sreg (sv (xfld fl34_1 rfl) (sv (xld on31 rfl (h1.r.c 10 rfl rfl)) (sv (xlen sl31 rfl) (sv (xmove rfl) (send (fg [(1, _), (10, _), (11, _), (12, _)] ⟨rfl, rfl, rfl, rfl, ⟨⟩⟩ fun _ => (wp_block ?_)))))))))))
 refine lp [(1, _), (10, _), (11, _)] (fun (k : Nat) => [(12, .int .i64 (k : Int))]) (fun (k : Nat) wx => Fr (fun _ => False) w2 wx ∧ (k ≤ m.asks.length) ∧ (∀ i (a : AskD), i < k → m.asks[i]? = some a → lowS a.name)) (fun (k : Nat) => m.asks.length - k) 0 ⟨rfl, rfl, rfl, rfl, trivial⟩ ⟨Fr.refl _ _, Nat.zero_le _, upto_zero⟩ ?_
 rintro k _ w5 ⟨hL4, hk, hT⟩
 refine fg [(1, _), (10, _), (11, _), (12, _)] ⟨rfl, rfl, rfl, rfl, ⟨⟩⟩ fun _ => ?_
 have z6 := hL4.size
 have ha := ha.keep ask_st (lU hU (by omega)) hL4 nF
 have hf := hf.step0 hL4
 have h1 := h1.keep hL4 id
 refine sreg ?_
 refine svP (xlss rfl rfl) (fun hc13 => ?_) (fun hc13 => ?_)
 ·
  refine send (fg [(1, _), (10, _), (11, _), (12, _), (13, _)] ⟨rfl, rfl, rfl, rfl, rfl, ⟨⟩⟩ fun _ => (wp_seq (cyes rfl (wp_skip (nThen (fg [(1, _), (10, _), (11, _), (12, _)] ⟨rfl, rfl, rfl, rfl, ⟨⟩⟩ fun _ => (wp_seq (wp_block ?_))))))))
  obtain ⟨a, hak⟩ := some_of_lt (by omega : k < m.asks.length)
  have hal := hfa _ (List.mem_of_getElem? hak)
  refine sreg ?_
  obtain ⟨bE14, oE14, sgE14, rfl, uE14, hsE14, heE14⟩ := LA.get ha hak
  obtain rfl := heE14
  have zE14 := hU _ uE14
  refine sv (xidx sl31 sz59 rfl rfl rfl (by omega)) (sv (xldS (lens := [1, 1, 1]) ro59 rfl hsE14) ?_)
  refine svK (xallS (lens := [1, 1, 1]) in59 rfl) ?_
  rintro _ w8 ⟨b4, rfl, m9, h4, e7, s7⟩
  have hf := hf.step0 m9
  have h1 := h1.keep m9 id
  have hL4 := hL4.step0 m9
  refine suK (xstW h4 (lens' := [1, 1, 1]) sz59 rfl rfl rfl rfl rfl) ?_
  rintro w11 ⟨m12, h4, s10⟩
  have hf := hf.step m12 (fun k hk hS => by have hS : k = b4 := hS; show False; omega)
  have h1 := h1.keep m12 (by show ¬ (b1 = b4); omega)
  have hL4 := hL4.step m12 (fun k hk hS => by have hS : k = b4 := hS; show False; omega)
  refine send (fg [(1, _), (4, _), (10, _), (11, _), (12, _)] ⟨rfl, rfl, rfl, rfl, rfl, ⟨⟩⟩ fun _ => (sreg (sv (xfld fl59_0 rfl) (sv (xld on9 rfl (h4.r.c 0 rfl rfl)) ?_))))
  refine sc (xcall ca34 rfl) (c34 (by omega)) ?_
  rintro _ w13 ⟨gb18, rfl, gp18, m14⟩
  have z15 := m14.size
  have hf := hf.step0 m14
  have h1 := h1.keep m14 id
  have hL4 := hL4.step0 m14
  rcases Bool.eq_false_or_eq_true gb18 with rfl | rfl
  ·
   refine sv (xnot rfl) (send (fg [(1, _), (10, _), (11, _), (12, _), (19, _)] ⟨rfl, rfl, rfl, rfl, rfl, ⟨⟩⟩ fun _ => (cno rfl (wp_skip (nBlock (nThen (fg [(1, _), (10, _), (11, _), (12, _)] ⟨rfl, rfl, rfl, rfl, ⟨⟩⟩ fun _ => (lreg (sv (xadd rfl rfl (w64 (by omega) (by omega))) (sv (xmove rfl) (lend ?_)))))))))))
   refine nThen ?_
   refine ⟨k + 1, _, env_okl ⟨rfl, rfl, rfl, rfl, trivial⟩, ⟨hL4, (by omega), (upto_step hT hak (gp18 rfl))⟩, ?_⟩
   show m.asks.length - (k + 1) < m.asks.length - k; omega
  ·
   refine sv (xnot rfl) (send (fg [(1, _), (10, _), (11, _), (12, _), (19, _)] ⟨rfl, rfl, rfl, rfl, rfl, ⟨⟩⟩ fun _ => (cyes rfl (sreg (sv (xassign rfl) (send (fg [(2, _)] ⟨rfl, ⟨⟩⟩ fun _ => (wp_ret (rBlock (rThen (rThen ?_)))))))))))
   refine rBlock (rThen ?_)
   refine rp1 rfl rfl ?_
   exact ⟨_, rfl, (fun h => by cases h), hf⟩
 ·
  refine send (fg [(1, _), (10, _), (11, _), (12, _), (13, _)] ⟨rfl, rfl, rfl, rfl, rfl, ⟨⟩⟩ fun _ => (wp_seq (cno rfl (wp_exit (eThen (eThen (eHit (nThen (fg [(1, _)] ⟨rfl, ⟨⟩⟩ fun _ => (wp_seq (sreg ?_)))))))))))
  refine sv (xfld fl34_2 rfl) (sv (xld on32 rfl (h1.r.c 11 rfl rfl)) (sv (xfld fl34_3 rfl) (sv (xld on32 rfl (h1.r.c 12 rfl rfl)) (sv (xfld fl34_4 rfl) (sv (xld on32 rfl (h1.r.c 13 rfl rfl)) ?_)))))
  refine svK (xslit ([.slice a1 m.one.length c1, .slice a2 m.two.length c2, .slice a3 m.three.length c3]) sl60 in32 rfl (by decide) rfl rfl rfl rfl (by decide) rfl rfl) ?_
  rintro _ w17 ⟨b27, rfl, m18, h27, e27, s27, r27⟩
  have hf := hf.step0 m18
  refine sv (xlen sl60 rfl) (sv (xmove rfl) (send (fg [(27, _), (28, _), (29, _)] ⟨rfl, rfl, rfl, ⟨⟩⟩ fun _ => (wp_block ?_))))
  refine lp [(27, _), (28, _)] (fun (i : Nat) => [(29, .int .i64 (i : Int))]) (fun (i : Nat) wx => Fr (fun _ => False) w17 wx ∧ (i ≤ 3) ∧ (∀ j (l : List RecD), j < i → [m.one, m.two, m.three][j]? = some l → ∀ r ∈ l, lowR r)) (fun (i : Nat) => 3 - i) 0 ⟨rfl, rfl, rfl, trivial⟩ ⟨Fr.refl _ _, Nat.zero_le _, upto_zero⟩ ?_
  rintro i _ w20 ⟨hL19, hi, hO⟩
  refine fg [(27, _), (28, _), (29, _)] ⟨rfl, rfl, rfl, ⟨⟩⟩ fun _ => ?_
  have z21 := hL19.size
  have hf := hf.step0 hL19
  have r27 := r27.keep hL19 id
  refine sreg ?_
  refine svP (xlss rfl rfl) (fun hc30 => ?_) (fun hc30 => ?_)
  ·
   refine send (fg [(27, _), (28, _), (29, _), (30, _)] ⟨rfl, rfl, rfl, rfl, ⟨⟩⟩ fun _ => (wp_seq (cyes rfl (wp_skip (nThen (fg [(27, _), (28, _), (29, _)] ⟨rfl, rfl, rfl, ⟨⟩⟩ fun _ => (wp_seq (wp_block (sreg ?_)))))))))
   obtain ⟨u, l, hu, hul, hL⟩ := hls.get (k := i) (by simp; omega)
   have hL := hL.keep rec_st hU hf nF
   have hlm : l ∈ [m.one, m.two, m.three] := List.mem_of_getElem? hul
   have hln := hll l hlm
   obtain ⟨au, cu, rfl⟩ := hL.form
   refine sv (xidx1 sl60 sz32 rfl rfl rfl (by omega)) (sv (xld on32 rfl (Rw.rng r27 i _ hu)) (sv (xassign rfl) (send (fg [(6, _), (27, _), (28, _), (29, _)] ⟨rfl, rfl, rfl, rfl, ⟨⟩⟩ fun _ => (sreg (sv (xmove rfl) (sv (xlen sl32 rfl) (sv (xmove rfl) (send (fg [(27, _), (28, _), (29, _), (33, _), (34, _), (35, _)] ⟨rfl, rfl, rfl, rfl, rfl, rfl, ⟨⟩⟩ fun _ => (wp_block ?_)))))))))))
   refine lp [(27, _), (28, _), (29, _), (33, _), (34, _)] (fun (k : Nat) => [(35, .int .i64 (k : Int))]) (fun (k : Nat) wx => Fr (fun _ => False) w20 wx ∧ (k ≤ l.length) ∧ (∀ j (r : RecD), j < k → l[j]? = some r → lowR r)) (fun (k : Nat) => l.length - k) 0 ⟨rfl, rfl, rfl, rfl, rfl, rfl, trivial⟩ ⟨Fr.refl _ _, Nat.zero_le _, upto_zero⟩ ?_
   rintro k _ w23 ⟨hL22, hk, hI⟩
   refine fg [(27, _), (28, _), (29, _), (33, _), (34, _), (35, _)] ⟨rfl, rfl, rfl, rfl, rfl, rfl, ⟨⟩⟩ fun _ => ?_
   have z24 := hL22.size
   have hf := hf.step0 hL22
   have hL19 := hL19.step0 hL22
   have hL := hL.keep rec_st (lU hU (by omega)) hL22 nF
   refine sreg ?_
   refine svP (xlss rfl rfl) (fun hc36 => ?_) (fun hc36 => ?_)
   ·
    refine send (fg [(27, _), (28, _), (29, _), (33, _), (34, _), (35, _), (36, _)] ⟨rfl, rfl, rfl, rfl, rfl, rfl, rfl, ⟨⟩⟩ fun _ => (wp_seq (cyes rfl (wp_skip (nThen (fg [(27, _), (28, _), (29, _), (33, _), (34, _), (35, _)] ⟨rfl, rfl, rfl, rfl, rfl, rfl, ⟨⟩⟩ fun _ => (wp_seq (wp_block ?_))))))))
    obtain ⟨r, hrk⟩ := some_of_lt (by omega : k < l.length)
    have hrf := hfr l hlm r (List.mem_of_getElem? hrk)
    have hrf0 := hrf
    simp only [RecD.fits] at hrf0
    refine sreg ?_
    obtain ⟨bE37, oE37, sgE37, rfl, uE37, hsE37, heE37⟩ := LA.get hL hrk
    obtain ⟨vd, vt, vp, rfl, hd, ht, hp⟩ := heE37
    have zE37 := hU _ uE37
    obtain ⟨ad, cd, rfl, -⟩ := id hd
    obtain ⟨at1, ct1, rfl⟩ := ht.form
    obtain ⟨ap1, cp1, rfl⟩ := hp.form
    refine sv (xidx sl32 sz65 rfl rfl rfl (by omega)) (sv (xldS (lens := lRec) ro65 rfl hsE37) ?_)
    refine svK (xallS (lens := lRec) in65 rfl) ?_
    rintro _ w26 ⟨b8, rfl, m27, h8, e25, s25⟩
    have hf := hf.step0 m27
    have hL19 := hL19.step0 m27
    have hL22 := hL22.step0 m27
    refine suK (xstW h8 (lens' := lRec) sz65 rfl rfl rfl rfl rfl) ?_
    rintro w29 ⟨m30, h8, s28⟩
    have hf := hf.step m30 (fun k hk hS => by have hS : k = b8 := hS; show False; omega)
    have hL19 := hL19.step m30 (fun k hk hS => by have hS : k = b8 := hS; show False; omega)
    have hL22 := hL22.step m30 (fun k hk hS => by have hS : k = b8 := hS; show False; omega)
    refine send (fg [(8, _), (27, _), (28, _), (29, _), (33, _), (34, _), (35, _)] ⟨rfl, rfl, rfl, rfl, rfl, rfl, rfl, ⟨⟩⟩ fun _ => (sreg (sv (xfld fl65_0 rfl) (sv (xld on9 rfl (h8.r.c 0 rfl rfl)) ?_))))
    refine sc (xcall ca34 rfl) (c34 (by omega)) ?_
    rintro _ w31 ⟨gb41, rfl, gp41, m32⟩
    have z33 := m32.size
    have hf := hf.step0 m32
    have hL19 := hL19.step0 m32
    have hL22 := hL22.step0 m32
    have h8 := h8.keep m32 id
    rcases Bool.eq_false_or_eq_true gb41 with rfl | rfl
    ·
     refine sv (xnot rfl) (sv (xmove rfl) (gyes rfl rfl rfl (sv (xfld fl65_7 rfl) (gyes rfl rfl rfl (sv (xld on9 rfl (h8.r.c 7 rfl rfl)) (gyes rfl rfl rfl ?_))))))
     refine sc (xcall ca34 rfl) (c34 (by omega)) ?_
     rintro _ w34 ⟨gb46, rfl, gp46, m35⟩
     have z36 := m35.size
     have hf := hf.step0 m35
     have hL19 := hL19.step0 m35
     have hL22 := hL22.step0 m35
     have h8 := h8.keep m35 id
     rcases Bool.eq_false_or_eq_true gb46 with rfl | rfl
     ·
      refine gyes rfl rfl rfl (sv (xnot rfl) (sv (xpickF rfl rfl) (sv (xmove rfl) (gyes rfl rfl rfl (sv (xfld fl65_8 rfl) (gyes rfl rfl rfl (sv (xld on9 rfl (h8.r.c 8 rfl rfl)) (gyes rfl rfl rfl ?_))))))))
      refine sc (xcall ca34 rfl) (c34 (by omega)) ?_
      rintro _ w37 ⟨gb52, rfl, gp52, m38⟩
      have z39 := m38.size
      have hf := hf.step0 m38
      have hL19 := hL19.step0 m38
      have hL22 := hL22.step0 m38
      rcases Bool.eq_false_or_eq_true gb52 with rfl | rfl
      ·
       refine gyes rfl rfl rfl (sv (xnot rfl) (sv (xpickF rfl rfl) (send (fg [(27, _), (28, _), (29, _), (33, _), (34, _), (35, _), (54, _)] ⟨rfl, rfl, rfl, rfl, rfl, rfl, rfl, ⟨⟩⟩ fun _ => (cno rfl (wp_skip (nBlock (nThen (fg [(27, _), (28, _), (29, _), (33, _), (34, _), (35, _)] ⟨rfl, rfl, rfl, rfl, rfl, rfl, ⟨⟩⟩ fun _ => (lreg (sv (xadd rfl rfl (w64 (by omega) (by omega))) ?_)))))))))))
       refine sv (xmove rfl) (lend (nThen ?_))
       refine ⟨k + 1, _, env_okl ⟨rfl, rfl, rfl, rfl, rfl, rfl, trivial⟩, ⟨hL22, (by omega), (upto_step hI hrk ⟨gp41 rfl, gp46 rfl, gp52 rfl⟩)⟩, ?_⟩
       show l.length - (k + 1) < l.length - k; omega
      ·
       refine gyes rfl rfl rfl (sv (xnot rfl) (sv (xpickF rfl rfl) (send (fg [(27, _), (28, _), (29, _), (33, _), (34, _), (35, _), (54, _)] ⟨rfl, rfl, rfl, rfl, rfl, rfl, rfl, ⟨⟩⟩ fun _ => (cyes rfl (sreg (sv (xassign rfl) (send (fg [(2, _)] ⟨rfl, ⟨⟩⟩ fun _ => (wp_ret (rBlock ?_)))))))))))
       refine rThen (rThen (rBlock (rBlock (rThen (rThen (rBlock (rThen ?_)))))))
       refine rp1 rfl rfl ?_
       exact ⟨_, rfl, (fun h => by cases h), hf⟩
     ·
      refine gyes rfl rfl rfl (sv (xnot rfl) (sv (xpickF rfl rfl) (sv (xmove rfl) (gno rfl rfl rfl (gno rfl rfl rfl (gno rfl rfl rfl (gno rfl rfl rfl (sv (xpickT rfl rfl) (send (fg [(27, _), (28, _), (29, _), (33, _), (34, _), (35, _), (54, _)] ⟨rfl, rfl, rfl, rfl, rfl, rfl, rfl, ⟨⟩⟩ fun _ => (cyes rfl ?_)))))))))))
      refine sreg (sv (xassign rfl) (send (fg [(2, _)] ⟨rfl, ⟨⟩⟩ fun _ => (wp_ret (rBlock (rThen (rThen (rBlock (rBlock (rThen (rThen ?_)))))))))))
      refine rBlock (rThen ?_)
      refine rp1 rfl rfl ?_
      exact ⟨_, rfl, (fun h => by cases h), hf⟩
    ·
     refine sv (xnot rfl) (sv (xmove rfl) (gno rfl rfl rfl (gno rfl rfl rfl (gno rfl rfl rfl (gno rfl rfl rfl (sv (xpickT rfl rfl) (sv (xmove rfl) (gno rfl rfl rfl (gno rfl rfl rfl (gno rfl rfl rfl (gno rfl rfl rfl ?_)))))))))))
     refine sv (xpickT rfl rfl) (send (fg [(27, _), (28, _), (29, _), (33, _), (34, _), (35, _), (54, _)] ⟨rfl, rfl, rfl, rfl, rfl, rfl, rfl, ⟨⟩⟩ fun _ => (cyes rfl (sreg (sv (xassign rfl) (send (fg [(2, _)] ⟨rfl, ⟨⟩⟩ fun _ => (wp_ret (rBlock (rThen (rThen ?_)))))))))))
     refine rBlock (rBlock (rThen (rThen (rBlock (rThen ?_)))))
     refine rp1 rfl rfl ?_
     exact ⟨_, rfl, (fun h => by cases h), hf⟩
   ·
    refine send (fg [(27, _), (28, _), (29, _), (33, _), (34, _), (35, _), (36, _)] ⟨rfl, rfl, rfl, rfl, rfl, rfl, rfl, ⟨⟩⟩ fun _ => (wp_seq (cno rfl (wp_exit (eThen (eThen (eHit (nBlock (nThen (fg [(27, _), (28, _), (29, _)] ⟨rfl, rfl, rfl, ⟨⟩⟩ fun _ => (lreg ?_)))))))))))
    refine sv (xadd rfl rfl (w64 (by omega) (by omega))) (sv (xmove rfl) (lend (nThen ?_)))
    refine ⟨i + 1, _, env_okl ⟨rfl, rfl, rfl, trivial⟩, ⟨hL19, (by omega), (upto_step hO hul (upto_all hI (by omega)))⟩, ?_⟩
    show 3 - (i + 1) < 3 - i; omega
  ·
   refine send (fg [(27, _), (28, _), (29, _), (30, _)] ⟨rfl, rfl, rfl, rfl, ⟨⟩⟩ fun _ => (wp_seq (cno rfl (wp_exit (eThen (eThen (eHit (nThen (fg [] trivial fun _ => (sreg (sv (xassign rfl) ?_)))))))))))
   refine send (fg [(2, _)] ⟨rfl, ⟨⟩⟩ fun _ => (wp_ret ?_))
   refine rp1 rfl rfl ?_
   exact ⟨_, rfl, (fun _ => ⟨upto_all hT (by omega), upto_all hO (by simp; omega)⟩), hf⟩
end Go.Proofs.YtifnodoffgfpbaaGreatDoor

namespace Go.Proofs.YtifnodoffgfpbaaGreatDoor
open Go

theorem or16 (a b : Nat) (ha : a < 65536) (hb : b < 65536) : bits .or .u16 (a : Int) (b : Int) = ((a ||| b : Nat) : Int) := by
  have hx : a ||| b < 2 ^ 16 := Nat.or_lt_two_pow (by omega) (by omega)
  show IntKind.u16.wrap ((BitVec.ofInt 16 (a : Int) ||| BitVec.ofInt 16 (b : Int)).toNat : Int) = _
  simp only [ofInt_nat, BitVec.toNat_or, BitVec.toNat_ofNat]
  rw [Nat.mod_eq_of_lt (by omega), Nat.mod_eq_of_lt (by omega)]
  exact wu16 (by omega) (by omega)
theorem or32 (a b : Nat) (ha : a < 4294967296) (hb : b < 4294967296) : bits .or .u32 (a : Int) (b : Int) = ((a ||| b : Nat) : Int) := by
  have hx : a ||| b < 2 ^ 32 := Nat.or_lt_two_pow (by omega) (by omega)
  show IntKind.u32.wrap ((BitVec.ofInt 32 (a : Int) ||| BitVec.ofInt 32 (b : Int)).toNat : Int) = _
  simp only [ofInt_nat, BitVec.toNat_or, BitVec.toNat_ofNat]
  rw [Nat.mod_eq_of_lt (by omega), Nat.mod_eq_of_lt (by omega)]
  exact wu32 (by omega) (by omega)
theorem or64 (a b : Nat) (ha : a < 1073741824) (hb : b < 1073741824) : bits .or .i64 (a : Int) (b : Int) = ((a ||| b : Nat) : Int) := by
  have hx : a ||| b < 2 ^ 30 := Nat.or_lt_two_pow (by omega) (by omega)
  show IntKind.i64.wrap ((BitVec.ofInt 64 (a : Int) ||| BitVec.ofInt 64 (b : Int)).toNat : Int) = _
  simp only [ofInt_nat, BitVec.toNat_or, BitVec.toNat_ofNat]
  rw [Nat.mod_eq_of_lt (by omega), Nat.mod_eq_of_lt (by omega)]
  exact w64 (by omega) (by omega)
theorem and16 (a b : Nat) (ha : a < 65536) (hb : b < 65536) : bits .and .u16 (a : Int) (b : Int) = ((a &&& b : Nat) : Int) := by
  have hx : a &&& b < 2 ^ 16 := Nat.and_lt_two_pow _ (by omega)
  show IntKind.u16.wrap ((BitVec.ofInt 16 (a : Int) &&& BitVec.ofInt 16 (b : Int)).toNat : Int) = _
  simp only [ofInt_nat, BitVec.toNat_and, BitVec.toNat_ofNat]
  rw [Nat.mod_eq_of_lt (by omega), Nat.mod_eq_of_lt (by omega)]
  exact wu16 (by omega) (by omega)
/-- a high part and a low part -/
theorem or_sum {i a b : Nat} (hb : b < 2 ^ i) (ha : a % 2 ^ i = 0) : a ||| b = a + b := by
  have e : a = 2 ^ i * (a / 2 ^ i) := by have := Nat.div_add_mod a (2 ^ i); omega
  rw [e, or_add hb]
section
variable {P : Program} {n : Nat} {l : List (Nat × Value)} {w : World} {ty : TypeId} {x y : Operand}
theorem xor16S {T U : TypeId} {a b c : Nat} (i : Nat) (hx : ev n l x = some (.int .u16 (a : Int))) (hy : ev n l y = some (.int .u16 (b : Int))) (ha : a % 2 ^ i = 0) (hb : b < 2 ^ i) (hc : a + b = c) (hl : c < 65536) :
    Ex P n l (.binOp .or T x y U) ty w (.int .u16 (c : Int)) w :=
  xbin hx hy rfl (by rw [binOp_or, intBits_or, or16 a b (by omega) (by omega), or_sum hb ha, hc]; rfl)
theorem xor32S {T U : TypeId} {a b c : Nat} (i : Nat) (hx : ev n l x = some (.int .u32 (a : Int))) (hy : ev n l y = some (.int .u32 (b : Int))) (ha : a % 2 ^ i = 0) (hb : b < 2 ^ i) (hc : a + b = c) (hl : c < 4294967296) :
    Ex P n l (.binOp .or T x y U) ty w (.int .u32 (c : Int)) w :=
  xbin hx hy rfl (by rw [binOp_or, intBits_or, or32 a b (by omega) (by omega), or_sum hb ha, hc]; rfl)
theorem xor64S {T U : TypeId} {a b c : Nat} (i : Nat) (hx : ev n l x = some (.int .i64 (a : Int))) (hy : ev n l y = some (.int .i64 (b : Int))) (ha : a % 2 ^ i = 0) (hb : b < 2 ^ i) (hc : a + b = c) (hl : c < 1073741824) :
    Ex P n l (.binOp .or T x y U) ty w (.int .i64 (c : Int)) w :=
  xbin hx hy rfl (by rw [binOp_or, intBits_or, or64 a b (by omega) (by omega), or_sum hb ha, hc]; rfl)
theorem xand16N {T U : TypeId} {a b c : Nat} (hx : ev n l x = some (.int .u16 (a : Int))) (hy : ev n l y = some (.int .u16 (b : Int))) (ha : a < 65536) (hb : b < 65536) (hc : a &&& b = c) :
    Ex P n l (.binOp .and T x y U) ty w (.int .u16 (c : Int)) w :=
  xbin hx hy rfl (by rw [binOp_and, intBits_and, and16 a b ha hb, hc]; rfl)
theorem xex20 {a b : Value} (hx : ev n l x = some (.tuple #[a, b])) : Ex P n l (.extract x 0) ty w a w := xextr hx rfl
theorem xex21 {a b : Value} (hx : ev n l x = some (.tuple #[a, b])) : Ex P n l (.extract x 1) ty w b w := xextr hx rfl
theorem xadds {T U : TypeId} {a b : ByteArray} (hx : ev n l x = some (.string a)) (hy : ev n l y = some (.string b)) (hl : a.size < 1000000000) (hm : b.size < 1000000000) : Ex P n l (.binOp .add T x y U) ty w (.string (a ++ b)) w :=
  xbin hx hy rfl (by simp [binOp, Op.stringOp]; omega)
end
theorem mkB_app (a b : List UInt8) : mkB a ++ mkB b = mkB (a ++ b) := by
  apply ByteArray.ext
  simp
theorem hi_lo {x : Nat} (h : x < 65536) : (UInt8.ofNat (x / 256)).toNat = x / 256 ∧ (UInt8.ofNat x).toNat = x % 256 := by
  have h1 : x / 256 < 256 := by omega
  have e1 := UInt8.toNat_ofNat' (n := x / 256)
  have e2 := UInt8.toNat_ofNat' (n := x)
  exact ⟨by rw [e1]; omega, by rw [e2]⟩
theorem std_cells {w : World} {g o : Nat} {b : List UInt8} (hB : w.rangeAt g o (bvs b)) {p : Nat} {xs : List UInt8} (h : Std b p xs) : w.rangeAt g (o + p) (bvs xs) := fun j v hv => by
  simp only [bvs, List.getElem?_map, Option.map_eq_some_iff] at hv
  obtain ⟨c, hc, rfl⟩ := hv
  have := hB (p + j) (bv c) (by simp only [bvs, List.getElem?_map, h j c hc]; rfl)
  rw [Nat.add_assoc]; exact this
theorem std_cell {w : World} {g o : Nat} {b : List UInt8} (hB : w.rangeAt g o (bvs b)) {p : Nat} {c : UInt8} (h : b[p]? = some c) : w.cell? ⟨g, o + p, none⟩ = some (.int .u8 (c.toNat : Int)) :=
  hB p (bv c) (by simp only [bvs, List.getElem?_map, h]; rfl)
end Go.Proofs.YtifnodoffgfpbaaGreatDoor

namespace Go.Proofs.YtifnodoffgfpbaaGreatDoor
open Go

abbrev lRd : List Nat := [1, 1, 1, 1]
/-- the reader: its bytes, its place; it is not bad -/
def rdSegs (bb ob cb : Nat) (b : List UInt8) (p : Nat) (wh : Bool) : List (List Value) := [[.slice (some ⟨bb, ob, none⟩) b.length cb], [.int .i64 (p : Int)], [.bool false], [.bool wh]]
theorem w64n {c : Int} (n : Nat) (h : c = (n : Int)) (hl : n < 9223372036854775807) : IntKind.i64.wrap c = (n : Int) := by rw [h]; exact w64 (by omega) (by omega)
theorem cut_rng {w : World} {g o o' p c : Nat} {b xs : List UInt8} (hB : w.rangeAt g o (bvs b)) (h : Std b p xs) (ho : p < c → o' = o + p * 1) (hc : p + xs.length ≤ c) : w.rangeAt g o' (bvs xs) := by
  cases xs with
  | nil => intro j v hv; simp [bvs] at hv
  | cons x xs =>
    rw [ho (by simp at hc; omega), Nat.mul_one]
    exact std_cells hB h
theorem u8_ne46 {c : UInt8} (h : c ≠ 46) : ¬ ((c.toNat : Int) = 46) := fun e => h (u8eq e)
theorem bvs_get {xs : List UInt8} {k : Nat} (h : k < xs.length) : (bvs xs)[k]? = some (.int .u8 ((xs[k]'h).toNat : Int)) := by
  simp only [bvs, List.getElem?_map, List.getElem?_eq_getElem h]; rfl
theorem take_ba {w : World} {g o k c : Nat} {xs : List UInt8} (h : w.rangeAt g o (bvs xs)) (hk : xs.length = k) : BA (fun i => i = g) w (.slice (some ⟨g, o, none⟩) k c) xs := by
  subst hk; exact ⟨_, c, rfl, fun _ => ⟨g, o, rfl, rfl, h⟩⟩
theorem nameL_ne {s : List UInt8} (h : nameL s) : s ≠ [] := by
  intro e; subst e
  have := name_pos h; simp at this
theorem NameR.at0 {b s : List UInt8} {st k i nx : Nat} {n : UInt8} (h : NameR b st k i s nx) (hn : b[i]? = some n) (h0 : (n.toNat : Int) = 0) : k = 0 ∧ s = [] ∧ nx = i + 1 := by
  cases h with
  | fin hb => exact ⟨rfl, rfl, rfl⟩
  | lab lab hl h63 hd hb hs h =>
    rw [hb] at hn; simp only [Option.some.injEq] at hn; subst hn
    have : lab.length ≠ 0 := fun e => hl (List.eq_nil_of_length_eq_zero e)
    simp only [UInt8.toNat_ofNat'] at h0; omega
  | ptr h1 h14 hb hb2 h =>
    rw [hb] at hn; simp only [Option.some.injEq] at hn; subst hn
    simp only [UInt8.toNat_ofNat'] at h0; omega
theorem NameR.atLab {b s : List UInt8} {st k i nx : Nat} {n : UInt8} (h : NameR b st k i s nx) (hn : b[i]? = some n) (h0 : ¬ (n.toNat : Int) = 0) (h64 : (n.toNat : Int) < 64) :
    ∃ lab s', s = lab ++ 46 :: s' ∧ lab.length = n.toNat ∧ lab ≠ [] ∧ (∀ c ∈ lab, c ≠ 46) ∧ Std b (i + 1) lab ∧ NameR b st k (i + 1 + lab.length) s' nx := by
  cases h with
  | fin hb => rw [hb] at hn; simp only [Option.some.injEq] at hn; subst hn; exact absurd rfl h0
  | lab lab hl h63 hd hb hs h =>
    rw [hb] at hn; simp only [Option.some.injEq] at hn; subst hn
    exact ⟨lab, _, rfl, by simp only [UInt8.toNat_ofNat']; omega, hl, hd, hs, h⟩
  | ptr h1 h14 hb hb2 h =>
    rw [hb] at hn; simp only [Option.some.injEq] at hn; subst hn
    simp only [UInt8.toNat_ofNat'] at h64; omega
theorem NameR.atPtr {b s : List UInt8} {st k i nx : Nat} {n : UInt8} (h : NameR b st k i s nx) (hn : b[i]? = some n) (h64 : ¬ (n.toNat : Int) < 64) :
    ∃ to k' nx', k = k' + 1 ∧ to < st ∧ to ≤ 16383 ∧ n.toNat = 192 + to / 256 ∧ b[i + 1]? = some (UInt8.ofNat to) ∧ nx = i + 2 ∧ NameR b to k' to s nx' := by
  cases h with
  | fin hb => rw [hb] at hn; simp only [Option.some.injEq] at hn; subst hn; exact absurd (by decide) h64
  | lab lab hl h63 hd hb hs h =>
    rw [hb] at hn; simp only [Option.some.injEq] at hn; subst hn
    simp only [UInt8.toNat_ofNat'] at h64; omega
  | ptr h1 h14 hb hb2 h =>
    rw [hb] at hn; simp only [Option.some.injEq] at hn; subst hn
    exact ⟨_, _, _, rfl, h1, h14, by simp only [UInt8.toNat_ofNat']; omega, hb2, rfl, h⟩
theorem NameR.labLe {b s : List UInt8} {st k i nx : Nat} {n : UInt8} (h : NameR b st k i s nx) (hn : b[i]? = some n) (h0 : ¬ (n.toNat : Int) = 0) (h64 : (n.toNat : Int) < 64) : i + 1 + n.toNat ≤ b.length := by
  obtain ⟨lab, s', _, hl, _, _, _, h'⟩ := h.atLab hn h0 h64
  have := h'.le; omega
theorem NameR.ptrLe {b s : List UInt8} {st k i nx : Nat} {n : UInt8} (h : NameR b st k i s nx) (hn : b[i]? = some n) (h64 : ¬ (n.toNat : Int) < 64) : 192 ≤ n.toNat ∧ i + 1 < b.length := by
  obtain ⟨to, k', nx', _, _, _, hl, hb, _, h'⟩ := h.atPtr hn h64
  have := (List.getElem?_eq_some_iff.1 hb).1
  omega
theorem txt_le (s : List UInt8) : (txt s).length ≤ s.length := by
  rw [txt]; split <;> simp
theorem txt_nil {s : List UInt8} (h0 : s ≠ []) (h : txt s = []) : s = [46] := by
  by_cases hd : s = [46]
  · exact hd
  · rw [txt, if_neg hd] at h; exact absurd h h0
theorem txt_ne {s : List UInt8} (h : txt s ≠ []) : txt s = s := by
  by_cases hd : s = [46]
  · rw [txt, if_pos hd] at h; exact absurd rfl h
  · rw [txt, if_neg hd]
theorem some_get {b : List UInt8} {i : Nat} (h : i < b.length) : ∃ n, b[i]? = some n := ⟨_, List.getElem?_eq_getElem h⟩
theorem mkB_nil {o : List UInt8} (h : mkB o = ⟨#[]⟩) : o = [] := by
  have := congrArg bt h
  rw [bt_mkB] at this; exact this
theorem mkB3 {P : Program} {n : Nat} {l : List (Nat × Value)} {op : Op} {ty : TypeId} {w w' : World} {o lab : List UInt8} (h : Ex P n l op ty w (.string (mkB o ++ (mkB lab ++ ⟨#[46]⟩))) w') : Ex P n l op ty w (.string (mkB (o ++ (lab ++ [46])))) w' := by
  have e : mkB o ++ (mkB lab ++ ⟨#[46]⟩) = mkB (o ++ (lab ++ [46])) := by rw [← mkB_app, ← mkB_app]
  rw [← e]; exact h
/-- one part, joined -/
theorem c21_1 {w : World} {g o c : Nat} {u : Value} {bs : List UInt8} {U : Nat → Prop} (hr : w.rangeAt g o [u]) (hb : g < w.heap.size) (hU : ∀ k, U k → k < w.heap.size) (hu : BA U w u bs) (hl : bs.length < 1000000000) :
    Ret PP 21 [.slice (some ⟨g, o, none⟩) 1 c] w (New w bs.length bs) := by
  have := c21 (c := c) (bss := [bs]) hr hb rfl hU (All2.cons hu All2.nil) (by simpa using hl) (by simp)
  simpa using this
theorem pairs_at {b : List UInt8} {p : Nat} {ps : List PairD} (h : Std b p (pairsL ps)) {k : Nat} {q : PairD} (hk : ps[k]? = some q) : Std b (p + (pairsL (ps.take k)).length) (pairL q) := by
  have e : ps = ps.take (k + 1) ++ ps.drop (k + 1) := (List.take_append_drop _ _).symm
  rw [e, pairsL, List.map_append, List.flatten_append, take_snoc hk, List.map_append, List.flatten_append] at h
  have := h.left.right
  rw [List.map_cons, List.map_nil, List.flatten_cons, List.flatten_nil, List.append_nil] at this
  exact this
theorem pairs_take_lt {ps : List PairD} {k : Nat} {q : PairD} (hk : ps[k]? = some q) : (pairsL (ps.take k)).length + 4 + q.data.length ≤ (pairsL ps).length := by
  have h : (ps.map pairL)[k]? = some (pairL q) := by rw [List.getElem?_map, hk]; rfl
  have := flat_take_le h
  rw [← List.map_take] at this
  simp only [pairsL]
  simp only [pairL, List.length_append, be16_length] at this
  omega

set_option maxHeartbeats 4000000 in
set_option maxRecDepth 100000 in
theorem c94 {w : World} {br bb ob cb : Nat} {b : List UInt8} {p : Nat} {wh : Bool} (hr : SB w br lRd (rdSegs bb ob cb b p wh)) (hB : w.rangeAt bb ob (bvs b)) (hbb : bb < w.heap.size) (hbr : bb ≠ br) (hcb : b.length ≤ cb) (hbl : b.length < 100000000) {xs : List UInt8} {k : Nat} (hx : Std b p xs) (hk : xs.length = k) (hxl : p + k ≤ b.length) :
  Ret PP 94 [.pointer (some ⟨br, 0, none⟩), .int .i64 (k : Int)] w (fun u w' => ∃ o' c', u = .slice (some ⟨bb, o', none⟩) k c' ∧ w'.rangeAt bb o' (bvs xs) ∧ SB w' br lRd (rdSegs bb ob cb b (p + k) wh) ∧ Fr (fun k => k = br) w w') := by
 have hf : Fr (fun k => k = br) w w := Fr.refl _ _
 have z_hr := hr.lt
 refine ret_of Tryz.func94 rfl rfl rfl [(0, _), (1, _)] rfl ?_
 refine sreg (sv (xassign rfl) (send (fg [(0, _), (1, _)] ⟨rfl, rfl, ⟨⟩⟩ fun _ => (wp_seq ?_))))
 refine sdraw (Fr (fun _ => False) w.drew) [(0, .rd), (1, .rd), (2, .rd), (3, .rd), (4, .rd), (5, .rd), (6, .rd), (7, .rd), (8, .rd), (9, .rd), (10, .rd), (11, .rd), (12, .rd), (13, .rd), (14, .rd), (15, .rd), (16, .rd), (17, .rd), (18, .rd), (19, .rd), (20, .rd), (21, .rd)] mixed (by kernel_rfl) (fun _ _ _ _ _ h => h) ?_
 have z1 : w.drew.heap.size = w.heap.size := rfl
 have hr := hr.drew
 have hB := rng_fr hB (Fr.drew (Fr.refl (fun _ => False) w)) (by omega) id
 have hf := hf.drew
 have hS2 : Fr (fun _ => False) w.drew w.drew := Fr.refl _ _
 refine hv rfl (fun _ _ => xmove rfl) hS2 (hv rfl (fun _ _ => xnilc rfl) hS2 (hv rfl (fun _ _ => xfld fl95_2 rfl) hS2 (hv rfl (fun w' hS => xld on4 rfl ((hr.keep hS id).r.c 2 rfl rfl)) hS2 (hv rfl (fun _ _ => xmove rfl) hS2 (hvg rfl rfl rfl (fun _ _ => xmove rfl) hS2 (hvg rfl rfl rfl (fun _ _ => exF (xlss rfl rfl) (by omega)) hS2 (hv rfl (fun _ _ => xpickF rfl rfl) hS2 (hv rfl (fun _ _ => xmove rfl) hS2 (hvg rfl rfl rfl (fun _ _ => xmove rfl) hS2 (hvg rfl rfl rfl (fun _ _ => xmove rfl) hS2 (hvg rfl rfl rfl (fun _ _ => xnilc rfl) hS2 ?_)))))))))))
 refine hvg rfl rfl rfl (fun _ _ => xfld fl95_0 rfl) hS2 (hvg rfl rfl rfl (fun w' hS => xld on37 rfl ((hr.keep hS id).r.c 0 rfl rfl)) hS2 (hvg rfl rfl rfl (fun _ _ => xlen sl37 rfl) hS2 (hvg rfl rfl rfl (fun _ _ => xmove rfl) hS2 (hvg rfl rfl rfl (fun _ _ => xnilc rfl) hS2 (hvg rfl rfl rfl (fun _ _ => xfld fl95_1 rfl) hS2 (hvg rfl rfl rfl (fun w' hS => xld on3 rfl ((hr.keep hS id).r.c 1 rfl rfl)) hS2 (hvg rfl rfl rfl (fun _ _ => xsub rfl rfl (w64 (by omega) (by omega))) hS2 (hvg rfl rfl rfl (fun _ _ => exF (xgtr rfl rfl) (by omega)) hS2 (hv rfl (fun _ _ => xpickF rfl rfl) hS2 (hend (fg [(0, _), (1, _), (26, _)] ⟨rfl, rfl, rfl, ⟨⟩⟩ fun _ => ?_)))))))))))
 refine cno rfl (wp_skip (nThen (fg [(0, _), (1, _)] ⟨rfl, rfl, ⟨⟩⟩ fun _ => (sreg (sv (xmove rfl) (sv (xnilc rfl) (sv (xfld fl95_1 rfl) (sv (xld on3 rfl (hr.r.c 1 rfl rfl)) (sv (xmove rfl) (sv (xadd rfl rfl (w64n (p + k) (by omega) (by omega))) (sv (xnilc rfl) ?_)))))))))))
 refine sv (xfld fl95_1 rfl) ?_
 refine suK (xstF 1 sz3 hr rfl rfl rfl rfl rfl) ?_
 rintro w4 ⟨m5, hr, s3⟩
 have hB := rng_fr hB m5 (by omega) (by show ¬ (bb = br); omega)
 have hf := hf.step m5 (fun k hk hS => by have hS : k = br := hS; show k = br; omega)
 refine send (fg [(0, _), (1, _)] ⟨rfl, rfl, ⟨⟩⟩ fun _ => ?_)
 refine sdraw (Fr (fun _ => False) w4.drew) [(0, .rd), (1, .rd), (2, .rd), (3, .rd), (4, .rd), (5, .rd), (6, .rd), (7, .rd), (8, .rd), (9, .rd), (10, .rd), (11, .rd), (12, .rd), (13, .rd), (14, .ld), (15, .rd)] mixed (by kernel_rfl) (fun _ _ _ _ _ h => h) ?_
 have z6 : w4.drew.heap.size = w4.heap.size := rfl
 have hr := hr.drew
 have hB := rng_fr hB (Fr.drew (Fr.refl (fun _ => False) w4)) (by omega) id
 have hf := hf.drew
 have hS7 : Fr (fun _ => False) w4.drew w4.drew := Fr.refl _ _
 refine hv rfl (fun _ _ => xmove rfl) hS7 (hv rfl (fun _ _ => xnilc rfl) hS7 (hv rfl (fun _ _ => xfld fl95_0 rfl) hS7 (hv rfl (fun w' hS => xld on37 rfl ((hr.keep hS id).r.c 0 rfl rfl)) hS7 (hv rfl (fun _ _ => xmove rfl) hS7 (hv rfl (fun _ _ => xnilc rfl) hS7 (hv rfl (fun _ _ => xfld fl95_1 rfl) hS7 (hv rfl (fun w' hS => xld on3 rfl ((hr.keep hS id).r.c 1 rfl rfl)) hS7 (hv rfl (fun _ _ => xmove rfl) hS7 (hv rfl (fun _ _ => xsub rfl rfl (w64n (p) (by omega) (by omega))) hS7 (hv rfl (fun _ _ => xmove rfl) hS7 (hv rfl (fun _ _ => xnilc rfl) hS7 ?_)))))))))))
 refine hv rfl (fun _ _ => xfld fl95_1 rfl) hS7 (hv rfl (fun w' hS => xld on3 rfl ((hr.keep hS id).r.c 1 rfl rfl)) hS7 ?_)
 refine hlK rfl (xcutLH (lo := p) (hi := p + k) sl37 sz5 rfl rfl rfl (by omega) (by omega) (by omega) (by omega)) ?_
 rintro _ w4.drew ⟨o55, rfl, ho55, rfl⟩
 refine ⟨hS7, ?_⟩
 refine hv rfl (fun _ _ => xassign rfl) hS7 (hend (fg [(4, _)] ⟨rfl, ⟨⟩⟩ fun _ => (wp_ret ?_)))
 refine rp1 rfl rfl ?_
 have e55 : p + k - p = k := by omega
 rw [e55]
 exact ⟨o55, _, rfl, cut_rng hB hx ho55 (by omega), hr, hf⟩
set_option maxHeartbeats 4000000 in
set_option maxRecDepth 100000 in
theorem c95 {w : World} {bb o m c : Nat} {xs : List UInt8} (hx : w.rangeAt bb o (bvs xs)) (hbb : bb < w.heap.size) (hm : xs.length = m) (hml : m < 100000000) (hd : ∀ c ∈ xs, c ≠ 46) :
  Ret PP 95 [.slice (some ⟨bb, o, none⟩) m c] w (fun u w' => u = .bool false ∧ Fr0 w w') := by
 have hf : Fr (fun _ => False) w w := Fr.refl _ _
 refine ret_of Tryz.func95 rfl rfl rfl [(0, _)] rfl ?_
 refine sreg (sv (xassign rfl) (send (fg [(0, _)] ⟨rfl, ⟨⟩⟩ fun _ => (wp_seq (sreg (sv (xmove rfl) (sv (xlen sl37 rfl) (sv (xmove rfl) (send (fg [(5, _), (6, _), (7, _)] ⟨rfl, rfl, rfl, ⟨⟩⟩ fun _ => (wp_block ?_)))))))))))
 refine lp [(5, _), (6, _)] (fun (k : Nat) => [(7, .int .i64 (k : Int))]) (fun (k : Nat) wx => Fr (fun _ => False) w wx ∧ (k ≤ m)) (fun (k : Nat) => m - k) 0 ⟨rfl, rfl, rfl, trivial⟩ ⟨Fr.refl _ _, Nat.zero_le _⟩ ?_
 rintro k _ w2 ⟨hL1, hk⟩
 refine fg [(5, _), (6, _), (7, _)] ⟨rfl, rfl, rfl, ⟨⟩⟩ fun _ => ?_
 have z3 := hL1.size
 have hx := rng_fr hx hL1 (by omega) id
 have hf := hf.step0 hL1
 refine sreg ?_
 refine svP (xlss rfl rfl) (fun hc8 => ?_) (fun hc8 => ?_)
 ·
  refine send (fg [(5, _), (6, _), (7, _), (8, _)] ⟨rfl, rfl, rfl, rfl, ⟨⟩⟩ fun _ => (wp_seq (cyes rfl (wp_skip (nThen (fg [(5, _), (6, _), (7, _)] ⟨rfl, rfl, rfl, ⟨⟩⟩ fun _ => (wp_seq (wp_block (sreg (sv (xidx1 (i := k) sl37 sz5 rfl rfl rfl (by omega)) (sv (xld on5 rfl (hx k _ (bvs_get (by omega)))) ?_)))))))))))
  refine sv (xassign rfl) (send (fg [(4, _), (5, _), (6, _), (7, _)] ⟨rfl, rfl, rfl, rfl, ⟨⟩⟩ fun _ => (sreg (sv (xmove rfl) (sv (exF (xeql rfl rfl) (u8_ne46 (hd _ (List.getElem_mem (by omega))))) (send (fg [(5, _), (6, _), (7, _), (12, _)] ⟨rfl, rfl, rfl, rfl, ⟨⟩⟩ fun _ => (cno rfl (wp_skip (nBlock (nThen ?_)))))))))))
  refine fg [(5, _), (6, _), (7, _)] ⟨rfl, rfl, rfl, ⟨⟩⟩ fun _ => (lreg (sv (xadd rfl rfl (w64 (by omega) (by omega))) (sv (xmove rfl) (lend (nThen ?_)))))
  refine ⟨k + 1, _, env_okl ⟨rfl, rfl, rfl, trivial⟩, ⟨hL1, (by omega)⟩, ?_⟩
  show m - (k + 1) < m - k; omega
 ·
  refine send (fg [(5, _), (6, _), (7, _), (8, _)] ⟨rfl, rfl, rfl, rfl, ⟨⟩⟩ fun _ => (wp_seq (cno rfl (wp_exit (eThen (eThen (eHit (nThen (fg [] trivial fun _ => (sreg (sv (xassign rfl) ?_)))))))))))
  refine send (fg [(2, _)] ⟨rfl, ⟨⟩⟩ fun _ => (wp_ret ?_))
  refine rp1 rfl rfl ?_
  exact ⟨rfl, hf⟩
set_option maxHeartbeats 4000000 in
set_option maxRecDepth 100000 in
theorem c41 {w : World} {br bb ob cb : Nat} {b : List UInt8} {p : Nat} {wh : Bool} (hr : SB w br lRd (rdSegs bb ob cb b p wh)) (hB : w.rangeAt bb ob (bvs b)) (hbb : bb < w.heap.size) (hbr : bb ≠ br) (hcb : b.length ≤ cb) (hbl : b.length < 100000000) {x : Nat} (hx : x < 65536) (hs : Std b p (be16 x)) :
  Ret PP 41 [.pointer (some ⟨br, 0, none⟩)] w (fun u w' => u = .int .u16 (x : Int) ∧ SB w' br lRd (rdSegs bb ob cb b (p + 2) wh) ∧ Fr (fun k => k = br) w w') := by
 have hsl := hs.le (by simp [be16])
 simp only [be16_length] at hsl
 have hhl := hi_lo hx
 have hf : Fr (fun k => k = br) w w := Fr.refl _ _
 have z_hr := hr.lt
 refine ret_of Tryz.func41 rfl rfl rfl [(0, _)] rfl ?_
 refine sreg (sv (xassign rfl) (send (fg [(0, _)] ⟨rfl, ⟨⟩⟩ fun _ => (sreg (sv (xmove rfl) ?_)))))
 refine sc (xcall ca94 rfl) (c94 (xs := be16 x) (k := 2) hr hB (by omega) (by omega) hcb hbl hs rfl (by omega)) ?_
 rintro _ w1 ⟨o5, c5, rfl, n5, hr, m2⟩
 have z3 := m2.size
 have hf := hf.step m2 (fun k hk hS => by have hS : k = br := hS; show k = br; omega)
 refine sv (xassign rfl) (send (fg [(3, _)] ⟨rfl, ⟨⟩⟩ fun _ => ?_))
 refine sdraw (Fr (fun _ => False) w1.drew) [(0, .rd), (1, .rd), (2, .rd), (3, .rd), (4, .rd), (5, .rd), (6, .rd), (7, .rd), (8, .rd), (9, .rd), (10, .rd)] mixed (by kernel_rfl) (fun _ _ _ _ _ h => h) ?_
 have z4 : w1.drew.heap.size = w1.heap.size := rfl
 have hf := hf.drew
 have hr := hr.drew
 have n5 := rng_fr n5 (Fr.drew (Fr.refl (fun _ => False) w1)) (by omega) id
 have hS5 : Fr (fun _ => False) w1.drew w1.drew := Fr.refl _ _
 refine hv rfl (fun _ _ => xmove rfl) hS5 (hv rfl (fun _ _ => xidx1 (i := 0) sl37 sz5 rfl rfl rfl (by omega)) hS5 (hv rfl (fun w' hS => xld on5 rfl ((rng_fr n5 hS (by omega) id) 0 _ rfl)) hS5 (hv rfl (fun _ _ => xconv hs5 ki22 rfl (wu16 (by omega) (by omega))) hS5 (hv rfl (fun _ _ => xshl (b := 8) (by decide) rfl rfl (wu16n (x / 256 * 256) (by omega))) hS5 (hv rfl (fun _ _ => xmove rfl) hS5 (hv rfl (fun _ _ => xidx1 (i := 1) sl37 sz5 rfl rfl rfl (by omega)) hS5 (hv rfl (fun w' hS => xld on5 rfl ((rng_fr n5 hS (by omega) id) 1 _ rfl)) hS5 (hv rfl (fun _ _ => xconv hs5 ki22 rfl (wu16 (by omega) (by omega))) hS5 (hv rfl (fun _ _ => xor16S (a := x / 256 * 256) (b := (UInt8.ofNat x).toNat) (c := x) 8 rfl rfl (by omega) (by omega) (by omega) (by omega)) hS5 (hv rfl (fun _ _ => xassign rfl) hS5 (hend ?_)))))))))))
 refine fg [(2, _)] ⟨rfl, ⟨⟩⟩ fun _ => (wp_ret ?_)
 refine rp1 rfl rfl ?_
 exact ⟨rfl, hr, hf⟩
set_option maxHeartbeats 4000000 in
set_option maxRecDepth 100000 in
theorem c154 {w : World} {br bb ob cb : Nat} {b : List UInt8} {p : Nat} {wh : Bool} (hr : SB w br lRd (rdSegs bb ob cb b p wh)) (hB : w.rangeAt bb ob (bvs b)) (hbb : bb < w.heap.size) (hbr : bb ≠ br) (hcb : b.length ≤ cb) (hbl : b.length < 100000000) {x : Nat} (hx : x < 4294967296) (hs : Std b p (be32 x)) :
  Ret PP 154 [.pointer (some ⟨br, 0, none⟩)] w (fun u w' => u = .int .u32 (x : Int) ∧ SB w' br lRd (rdSegs bb ob cb b (p + 4) wh) ∧ Fr (fun k => k = br) w w') := by
 rw [← be32_split] at hs
 have hf : Fr (fun k => k = br) w w := Fr.refl _ _
 have z_hr := hr.lt
 refine ret_of Tryz.func154 rfl rfl rfl [(0, _)] rfl ?_
 refine sreg (sv (xassign rfl) (send (fg [(0, _)] ⟨rfl, ⟨⟩⟩ fun _ => (sreg (sv (xmove rfl) ?_)))))
 refine sc (xcall ca41 rfl) (c41 (x := x / 65536) hr hB (by omega) (by omega) hcb hbl (by omega) hs.left) ?_
 rintro _ w1 ⟨rfl, hr, m2⟩
 have z3 := m2.size
 have hB := rng_fr hB m2 (by omega) (by show ¬ (bb = br); omega)
 have hf := hf.step m2 (fun k hk hS => by have hS : k = br := hS; show k = br; omega)
 refine sv (xassign rfl) (send (fg [(0, _), (3, _)] ⟨rfl, rfl, ⟨⟩⟩ fun _ => (sreg (sv (xmove rfl) (sv (xconv hs22 ki61 rfl (wu32 (by omega) (by omega))) (sv (xshl (b := 16) (by decide) rfl rfl (wu32n (x / 65536 * 65536) (by omega))) (sv (xmove rfl) ?_)))))))
 refine sc (xcall ca41 rfl) (c41 (x := x % 65536) hr hB (by omega) (by omega) hcb hbl (by omega) (hs.right' rfl)) ?_
 rintro _ w4 ⟨rfl, hr, m5⟩
 have z6 := m5.size
 have hf := hf.step m5 (fun k hk hS => by have hS : k = br := hS; show k = br; omega)
 refine sv (xconv hs22 ki61 rfl (wu32 (by omega) (by omega))) (sv (xor32S (a := x / 65536 * 65536) (b := x % 65536) (c := x) 16 rfl rfl (by omega) (by omega) (by omega) (by omega)) (sv (xassign rfl) (send (fg [(2, _)] ⟨rfl, ⟨⟩⟩ fun _ => (wp_ret ?_)))))
 refine rp1 rfl rfl ?_
 exact ⟨rfl, hr, hf⟩
set_option maxHeartbeats 4000000 in
set_option maxRecDepth 100000 in
theorem c42 {w : World} {br bb ob cb : Nat} {b : List UInt8} {p : Nat} {wh : Bool} (hr : SB w br lRd (rdSegs bb ob cb b p wh)) (hB : w.rangeAt bb ob (bvs b)) (hbb : bb < w.heap.size) (hbr : bb ≠ br) (hcb : b.length ≤ cb) (hbl : b.length < 100000000) {K e : Nat} {S : List UInt8} (hN : NameAt b K p S e) (hS0 : nameL S) :
  Ret PP 42 [.pointer (some ⟨br, 0, none⟩)] w (fun u w' => u = .string (mkB S) ∧ SB w' br lRd (rdSegs bb ob cb b e (wh && decide (K = 0))) ∧ Fr (fun k => k = br) w w') := by
 have hn0 : NameR b p K p (txt S) e := hN
 have hS := nameL_ne hS0
 have hSl := (name_pos hS0).2
 have hSt := txt_le S
 have hf : Fr (fun k => k = br) w w := Fr.refl _ _
 have z_hr := hr.lt
 refine ret_of Tryz.func42 rfl rfl rfl [(0, _)] rfl ?_
 refine sreg (sv (xassign rfl) (send (fg [(0, _)] ⟨rfl, ⟨⟩⟩ fun _ => (sreg (sv (xassign rfl) (send (fg [(0, _), (3, _)] ⟨rfl, rfl, ⟨⟩⟩ fun _ => ?_)))))))
 refine sdraw (Fr (fun _ => False) w.drew) [(0, .rd), (1, .rd), (2, .rd), (3, .rd), (4, .rd), (5, .rd), (6, .rd), (7, .rd), (8, .rd), (9, .rd), (10, .rd)] mixed (by kernel_rfl) (fun _ _ _ _ _ h => h) ?_
 have z1 : w.drew.heap.size = w.heap.size := rfl
 have hr := hr.drew
 have hB := rng_fr hB (Fr.drew (Fr.refl (fun _ => False) w)) (by omega) id
 have hf := hf.drew
 have hS2 : Fr (fun _ => False) w.drew w.drew := Fr.refl _ _
 refine hv rfl (fun _ _ => xmove rfl) hS2 (hv rfl (fun _ _ => xnilc rfl) hS2 (hv rfl (fun _ _ => xfld fl95_1 rfl) hS2 (hv rfl (fun w' hS => xld on3 rfl ((hr.keep hS id).r.c 1 rfl rfl)) hS2 (hv rfl (fun _ _ => xmove rfl) hS2 (hv rfl (fun _ _ => xnilc rfl) hS2 (hv rfl (fun _ _ => xfld fl95_1 rfl) hS2 (hv rfl (fun w' hS => xld on3 rfl ((hr.keep hS id).r.c 1 rfl rfl)) hS2 (hv rfl (fun _ _ => xassign rfl) hS2 (hv rfl (fun _ _ => xassign rfl) hS2 (hv rfl (fun _ _ => xassign rfl) hS2 (hend ?_)))))))))))
 refine fg [(0, _), (3, _), (4, _), (5, _), (6, _)] ⟨rfl, rfl, rfl, rfl, rfl, ⟨⟩⟩ fun _ => (wp_seq (wp_block ?_))
 refine lp [(0, _)] (fun (x : Nat × Nat × Bool × Nat × List UInt8 × List UInt8 × Nat × Nat × Bool) => match x with | (i, st, jm, k, o, s, nx, pc, wc) => [(3, .string (mkB o)), (4, .int .i64 (i : Int)), (5, .int .i64 (st : Int)), (6, .bool jm)]) (fun (x : Nat × Nat × Bool × Nat × List UInt8 × List UInt8 × Nat × Nat × Bool) wx => match x with | (i, st, jm, k, o, s, nx, pc, wc) => Fr (fun k => k = br) w.drew wx ∧ (NameR b st k i s nx) ∧ (SB wx br lRd (rdSegs bb ob cb b pc wc)) ∧ (o ++ s = txt S) ∧ (jm = false → nx = e ∧ pc = p ∧ wc = wh ∧ k = K) ∧ (jm = true → pc = e ∧ wc = false ∧ K ≠ 0)) (fun (x : Nat × Nat × Bool × Nat × List UInt8 × List UInt8 × Nat × Nat × Bool) => match x with | (i, st, jm, k, o, s, nx, pc, wc) => k * (b.length + 1) + (b.length - i)) (p, p, false, K, [], txt S, e, p, wh) ⟨rfl, rfl, rfl, rfl, rfl, trivial⟩ ⟨Fr.refl _ _, hn0, hr, rfl, fun _ => ⟨rfl, rfl, rfl, rfl⟩, fun h => by cases h⟩ ?_
 rintro ⟨i, st, jm, k, o, s, nx, pc, wc⟩ _ w4 ⟨hL3, hR, hr, hE, hjF, hjT⟩
 refine fg [(0, _), (3, _), (4, _), (5, _), (6, _)] ⟨rfl, rfl, rfl, rfl, rfl, ⟨⟩⟩ fun _ => ?_
 have z5 := hL3.size
 have hB := rng_fr hB hL3 (by omega) (by show ¬ (bb = br); omega)
 have hf := hf.step hL3 (fun k hk hS => by have hS : k = br := hS; show k = br; omega)
 have hRl := hR.le
 obtain ⟨n, hn⟩ := some_get (b := b) (i := i) (by omega)
 have hnl := u8lt n
 refine wp_seq (sreg (sv (xmove rfl) (sv (xnilc rfl) (sv (xfld fl95_2 rfl) (sv (xld on4 rfl (hr.r.c 2 rfl rfl)) (sv (xnot rfl) (send (fg [(0, _), (3, _), (4, _), (5, _), (6, _), (21, _)] ⟨rfl, rfl, rfl, rfl, rfl, rfl, ⟨⟩⟩ fun _ => (cyes rfl (wp_skip (nThen ?_)))))))))))
 refine fg [(0, _), (3, _), (4, _), (5, _), (6, _)] ⟨rfl, rfl, rfl, rfl, rfl, ⟨⟩⟩ fun _ => (wp_block (wp_seq (sreg (sv (xmove rfl) (sv (xmove rfl) (sv (xnilc rfl) (sv (xfld fl95_0 rfl) (sv (xld on37 rfl (hr.r.c 0 rfl rfl)) (sv (xlen sl37 rfl) (sv (exF (xgeq rfl rfl) (by omega)) (send ?_)))))))))))
 refine fg [(0, _), (3, _), (4, _), (5, _), (6, _), (28, _)] ⟨rfl, rfl, rfl, rfl, rfl, rfl, ⟨⟩⟩ fun _ => (cno rfl (wp_skip (nThen (fg [(0, _), (3, _), (4, _), (5, _), (6, _)] ⟨rfl, rfl, rfl, rfl, rfl, ⟨⟩⟩ fun _ => (sreg (sv (xmove rfl) (sv (xnilc rfl) (sv (xfld fl95_0 rfl) (sv (xld on37 rfl (hr.r.c 0 rfl rfl)) (sv (xmove rfl) (sv (xidx1 (i := i) sl37 sz5 rfl rfl (by omega) (by omega)) ?_)))))))))))
 refine sv (xld on5 rfl (std_cell hB hn)) (sv (xconv hs5 ki3 rfl (w64 (by omega) (by omega))) (sv (xassign rfl) (send (fg [(0, _), (3, _), (4, _), (5, _), (6, _), (7, _)] ⟨rfl, rfl, rfl, rfl, rfl, rfl, ⟨⟩⟩ fun _ => (wp_block (sreg (sv (xmove rfl) ?_)))))))
 refine svP (xeql rfl rfl) (fun hc45 => ?_) (fun hc45 => ?_)
 ·
  refine sv (xassign rfl) (send (fg [(0, _), (3, _), (4, _), (5, _), (6, _), (7, _), (43, _)] ⟨rfl, rfl, rfl, rfl, rfl, rfl, rfl, ⟨⟩⟩ fun _ => (cyes rfl (wp_seq ?_))))
  obtain ⟨rfl, rfl, hnx⟩ := hR.at0 hn hc45
  rw [List.append_nil] at hE
  refine sreg (sv (xmove rfl) (sv (xnot rfl) ?_))
  cases jm with
  | false =>
   obtain ⟨hj1, hj2, hj3, hj4⟩ := hjF rfl
   refine send (fg [(0, _), (3, _), (4, _), (47, _)] ⟨rfl, rfl, rfl, rfl, ⟨⟩⟩ fun _ => (cyes rfl (lreg (sv (xmove rfl) (sv (xmove rfl) (sv (xadd rfl rfl (w64n (i + 1) (by omega) (by omega))) (sv (xnilc rfl) (sv (xfld fl95_1 rfl) ?_))))))))
   refine suK (xstF 1 sz3 hr rfl rfl rfl rfl rfl) ?_
   rintro w7 ⟨m8, hr, s6⟩
   have hB := rng_fr hB m8 (by omega) (by show ¬ (bb = br); omega)
   have hf := hf.step m8 (fun k hk hS => by have hS : k = br := hS; show k = br; omega)
   have hL3 := hL3.step m8 (fun k hk hS => by have hS : k = br := hS; show k = br; omega)
   refine lend (nThen (fg [(3, _)] ⟨rfl, ⟨⟩⟩ fun _ => (wp_seq (sreg (sv (xmove rfl) ?_)))))
   refine svP (xeqs rfl rfl) (fun hc54 => ?_) (fun hc54 => ?_)
   ·
    refine send (fg [(3, _), (54, _)] ⟨rfl, rfl, ⟨⟩⟩ fun _ => (cyes rfl (sreg (sv (xassign rfl) (send (fg [(2, _)] ⟨rfl, ⟨⟩⟩ fun _ => (wp_ret (rThen (rBlock (rBlock (rThen ?_)))))))))))
    refine rBlock (rThen ?_)
    refine rp1 rfl rfl ?_
    have hK0 : K = 0 := by omega
    have he1 : i + 1 = e := by omega
    have hr : SB w7 br lRd (rdSegs bb ob cb b (i + 1) wc) := hr
    rw [hj3, he1] at hr
    exact ⟨by rw [txt_nil hS (by rw [← hE]; exact mkB_nil hc54)], by rw [hK0]; simpa using hr, hf⟩
   ·
    refine send (fg [(3, _), (54, _)] ⟨rfl, rfl, ⟨⟩⟩ fun _ => (cno rfl (wp_skip (nThen (fg [(3, _)] ⟨rfl, ⟨⟩⟩ fun _ => (sreg (sv (xmove rfl) (sv (xassign rfl) (send (fg [(2, _)] ⟨rfl, ⟨⟩⟩ fun _ => (wp_ret ?_)))))))))))
    refine rBlock (rBlock (rThen (rBlock (rThen ?_))))
    refine rp1 rfl rfl ?_
    have hK0 : K = 0 := by omega
    have he1 : i + 1 = e := by omega
    have hr : SB w7 br lRd (rdSegs bb ob cb b (i + 1) wc) := hr
    rw [hj3, he1] at hr
    exact ⟨by rw [hE, txt_ne (fun h0 => hc54 (by rw [hE, h0]))], by rw [hK0]; simpa using hr, hf⟩
  | true =>
   obtain ⟨hjp, hjw, hjK⟩ := hjT rfl
   refine send (fg [(0, _), (3, _), (4, _), (47, _)] ⟨rfl, rfl, rfl, rfl, ⟨⟩⟩ fun _ => (cno rfl (wp_skip (nThen (fg [(3, _)] ⟨rfl, ⟨⟩⟩ fun _ => (wp_seq (sreg (sv (xmove rfl) ?_))))))))
   refine svP (xeqs rfl rfl) (fun hc54 => ?_) (fun hc54 => ?_)
   ·
    refine send (fg [(3, _), (54, _)] ⟨rfl, rfl, ⟨⟩⟩ fun _ => (cyes rfl (sreg (sv (xassign rfl) (send (fg [(2, _)] ⟨rfl, ⟨⟩⟩ fun _ => (wp_ret (rThen (rBlock (rBlock (rThen ?_)))))))))))
    refine rBlock (rThen ?_)
    refine rp1 rfl rfl ?_
    rw [hjp, hjw] at hr
    exact ⟨by rw [txt_nil hS (by rw [← hE]; exact mkB_nil hc54)], by simpa [hjK] using hr, hf⟩
   ·
    refine send (fg [(3, _), (54, _)] ⟨rfl, rfl, ⟨⟩⟩ fun _ => (cno rfl (wp_skip (nThen (fg [(3, _)] ⟨rfl, ⟨⟩⟩ fun _ => (sreg (sv (xmove rfl) (sv (xassign rfl) (send (fg [(2, _)] ⟨rfl, ⟨⟩⟩ fun _ => (wp_ret ?_)))))))))))
    refine rBlock (rBlock (rThen (rBlock (rThen ?_))))
    refine rp1 rfl rfl ?_
    rw [hjp, hjw] at hr
    exact ⟨by rw [hE, txt_ne (fun h0 => hc54 (by rw [hE, h0]))], by simpa [hjK] using hr, hf⟩
 ·
  refine sv (xassign rfl) (send (fg [(0, _), (3, _), (4, _), (5, _), (6, _), (7, _), (43, _)] ⟨rfl, rfl, rfl, rfl, rfl, rfl, rfl, ⟨⟩⟩ fun _ => (cno rfl (sreg (sv (xmove rfl) ?_)))))
  refine svP (xlss rfl rfl) (fun hc58 => ?_) (fun hc58 => ?_)
  ·
   refine sv (xmove rfl) (gyes rfl rfl rfl (sv (xmove rfl) (gyes rfl rfl rfl (sv (xadd rfl rfl (w64 (by omega) (by omega))) (gyes rfl rfl rfl (sv (xmove rfl) (gyes rfl rfl rfl (sv (xadd rfl rfl (w64 (by omega) (by omega))) (gyes rfl rfl rfl (sv (xmove rfl) (gyes rfl rfl rfl ?_)))))))))))
   refine sv (xnilc rfl) (gyes rfl rfl rfl (sv (xfld fl95_0 rfl) (gyes rfl rfl rfl (sv (xld on37 rfl (hr.r.c 0 rfl rfl)) (gyes rfl rfl rfl (sv (xlen sl37 rfl) (gyes rfl rfl rfl (sv (exT (xleq rfl rfl) (by have hq := hR.labLe hn hc45 hc58; omega)) (sv (xpickT rfl rfl) (sv (xassign rfl) (send ?_)))))))))))
   refine fg [(0, _), (3, _), (4, _), (5, _), (6, _), (7, _), (56, _)] ⟨rfl, rfl, rfl, rfl, rfl, rfl, rfl, ⟨⟩⟩ fun _ => (cyes rfl ?_)
   obtain ⟨lab, s1, rfl, hll, hl0, hld, hls, hR1⟩ := hR.atLab hn hc45 hc58
   have hls0 := hls.le hl0
   have hol := congrArg List.length hE
   simp only [List.length_append, List.length_cons] at hol
   refine sreg (sv (xmove rfl) (sv (xmove rfl) (sv (xnilc rfl) (sv (xfld fl95_0 rfl) (sv (xld on37 rfl (hr.r.c 0 rfl rfl)) (sv (xmove rfl) (sv (xadd rfl rfl (w64n (i + 1) (by omega) (by omega))) (sv (xmove rfl) (sv (xadd rfl rfl (w64n (i + 1) (by omega) (by omega))) (sv (xmove rfl) (sv (xadd rfl rfl (w64n (i + 1 + lab.length) (by omega) (by omega))) ?_)))))))))))
   refine svK (xcutLH (lo := i + 1) (hi := i + 1 + lab.length) sl37 sz5 rfl rfl rfl (by omega) (by omega) (by omega) (by omega)) ?_
   rintro _ w4 ⟨o82, rfl, ho82, rfl⟩
   refine sc (xcall ca95 rfl) (c95 (xs := lab) (cut_rng hB hls ho82 (by omega)) (by omega) (by omega) (by omega) hld) ?_
   rintro _ w10 ⟨rfl, m11⟩
   have z12 := m11.size
   have hB := rng_fr hB m11 (by omega) id
   have hr := hr.keep m11 id
   have hL3 := hL3.step0 m11
   refine sv (xnilc rfl) (sv (xfld fl95_2 rfl) ?_)
   refine suK (xstF 2 sz4 hr rfl rfl rfl rfl rfl) ?_
   rintro w14 ⟨m15, hr, s13⟩
   have hB := rng_fr hB m15 (by omega) (by show ¬ (bb = br); omega)
   have hL3 := hL3.step m15 (fun k hk hS => by have hS : k = br := hS; show k = br; omega)
   refine send (fg [(0, _), (3, _), (4, _), (5, _), (6, _), (7, _)] ⟨rfl, rfl, rfl, rfl, rfl, rfl, ⟨⟩⟩ fun _ => (sreg (sv (xmove rfl) (sv (xmove rfl) (sv (xnilc rfl) (sv (xfld fl95_0 rfl) (sv (xld on37 rfl (hr.r.c 0 rfl rfl)) (sv (xmove rfl) (sv (xadd rfl rfl (w64n (i + 1) (by omega) (by omega))) (sv (xmove rfl) (sv (xadd rfl rfl (w64n (i + 1) (by omega) (by omega))) ?_)))))))))))
   refine sv (xmove rfl) (sv (xadd rfl rfl (w64n (i + 1 + lab.length) (by omega) (by omega))) ?_)
   refine svK (xcutLH (lo := i + 1) (hi := i + 1 + lab.length) sl37 sz5 rfl rfl rfl (by omega) (by omega) (by omega) (by omega)) ?_
   rintro _ w14 ⟨o97, rfl, ho97, rfl⟩
   refine sv (xb2sR (bs := lab) sl37 ki5 st9 rfl (by omega) (cut_rng hB hls ho97 (by omega))) (sv (xadds rfl rfl (by rw [mkB_size]; omega) (by show 1 < _; omega)) (sv (mkB3 (xadds rfl rfl (by rw [mkB_size]; omega) (by rw [ByteArray.size_append, mkB_size]; show lab.length + 1 < _; omega))) (sv (xassign rfl) (send (fg [(0, _), (3, _), (4, _), (5, _), (6, _), (7, _)] ⟨rfl, rfl, rfl, rfl, rfl, rfl, ⟨⟩⟩ fun _ => (lreg (sv (xmove rfl) (sv (xmove rfl) (sv (xadd rfl rfl (w64n (1 + lab.length) (by omega) (by omega))) (sv (xadd rfl rfl (w64n (i + 1 + lab.length) (by omega) (by omega))) (sv (xassign rfl) ?_)))))))))))
   refine lend (nBlock (nBlock (nThen ?_)))
   refine ⟨(i + 1 + lab.length, st, jm, k, o ++ (lab ++ [46]), s1, nx, pc, wc), _, env_okl ⟨rfl, rfl, rfl, rfl, rfl, trivial⟩, ⟨hL3, (hR1), (hr), (by simpa using hE), (hjF), (hjT)⟩, ?_⟩
   first | (show k * (b.length + 1) + (b.length - (i + 1 + lab.length)) < k * (b.length + 1) + (b.length - i); omega) | (show k1 * (b.length + 1) + (b.length - to) < (k1 + 1) * (b.length + 1) + (b.length - i); rw [Nat.succ_mul]; omega)
  ·
   refine sv (xmove rfl) (gno rfl rfl rfl (gno rfl rfl rfl (gno rfl rfl rfl (gno rfl rfl rfl (gno rfl rfl rfl (gno rfl rfl rfl (gno rfl rfl rfl (gno rfl rfl rfl (gno rfl rfl rfl (gno rfl rfl rfl (sv (xpickF rfl rfl) ?_)))))))))))
   refine sv (xassign rfl) (send (fg [(0, _), (3, _), (4, _), (5, _), (6, _), (7, _), (56, _)] ⟨rfl, rfl, rfl, rfl, rfl, rfl, rfl, ⟨⟩⟩ fun _ => (cno rfl ?_)))
   obtain ⟨to, k1, nx1, rfl, hto, hto2, hnt, hb1, hnx, hR1⟩ := hR.atPtr hn hc58
   have hi1 := (List.getElem?_eq_some_iff.1 hb1).1
   have hlo : (UInt8.ofNat to).toNat = to % 256 := by simp only [UInt8.toNat_ofNat']
   refine sreg (sv (xmove rfl) (sv (exT (xgeq rfl rfl) (by have hq := hR.ptrLe hn hc58; omega)) (sv (xmove rfl) (gyes rfl rfl rfl (sv (xmove rfl) (gyes rfl rfl rfl (sv (xadd rfl rfl (w64 (by omega) (by omega))) (gyes rfl rfl rfl (sv (xmove rfl) (gyes rfl rfl rfl (sv (xnilc rfl) ?_)))))))))))
   refine gyes rfl rfl rfl (sv (xfld fl95_0 rfl) (gyes rfl rfl rfl (sv (xld on37 rfl (hr.r.c 0 rfl rfl)) (gyes rfl rfl rfl (sv (xlen sl37 rfl) (gyes rfl rfl rfl (sv (exT (xlss rfl rfl) (by have hq := hR.ptrLe hn hc58; omega)) (sv (xpickT rfl rfl) (sv (xassign rfl) (send (fg [(0, _), (3, _), (4, _), (5, _), (6, _), (7, _), (105, _)] ⟨rfl, rfl, rfl, rfl, rfl, rfl, rfl, ⟨⟩⟩ fun _ => ?_)))))))))))
   refine cyes rfl (sreg (sv (xmove rfl) (sv (xsub rfl rfl (w64n (to / 256) (by omega) (by omega))) (sv (xshl (b := 8) (by decide) rfl rfl (w64n (to / 256 * 256) (by omega) (by omega))) (sv (xmove rfl) (sv (xnilc rfl) (sv (xfld fl95_0 rfl) (sv (xld on37 rfl (hr.r.c 0 rfl rfl)) (sv (xmove rfl) (sv (xadd rfl rfl (w64n (i + 1) (by omega) (by omega))) (sv (xidx1 (i := i + 1) sl37 sz5 rfl rfl (by omega) (by omega)) ?_)))))))))))
   refine sv (xld on5 rfl (std_cell hB hb1)) (sv (xconv hs5 ki3 rfl (w64 (by omega) (by omega))) (sv (xor64S (a := to / 256 * 256) (b := (UInt8.ofNat to).toNat) (c := to) 8 rfl rfl (by omega) (by omega) (by omega) (by omega)) (sv (xassign rfl) (send (fg [(0, _), (3, _), (4, _), (5, _), (6, _), (8, _)] ⟨rfl, rfl, rfl, rfl, rfl, rfl, ⟨⟩⟩ fun _ => (wp_seq (sreg (sv (xmove rfl) (sv (xnot rfl) ?_)))))))))
   cases jm with
   | false =>
    obtain ⟨hj1, hj2, hj3, hj4⟩ := hjF rfl
    refine send (fg [(0, _), (3, _), (4, _), (5, _), (8, _), (132, _)] ⟨rfl, rfl, rfl, rfl, rfl, rfl, ⟨⟩⟩ fun _ => (cyes rfl (lreg (sv (xmove rfl) (sv (xmove rfl) (sv (xadd rfl rfl (w64n (i + 2) (by omega) (by omega))) (sv (xnilc rfl) (sv (xfld fl95_1 rfl) ?_))))))))
    refine suK (xstF 1 sz3 hr rfl rfl rfl rfl rfl) ?_
    rintro w18 ⟨m19, hr, s17⟩
    have hL3 := hL3.step m19 (fun k hk hS => by have hS : k = br := hS; show k = br; omega)
    refine lend (nThen (fg [(0, _), (3, _), (5, _), (8, _)] ⟨rfl, rfl, rfl, rfl, ⟨⟩⟩ fun _ => (sreg (sv (xmove rfl) (sv (xmove rfl) (sv (xmove rfl) (sv (exF (xgeq rfl rfl) (by omega)) (sv (xnilc rfl) (sv (xfld fl95_2 rfl) ?_)))))))))
    refine suK (xstF 2 sz4 hr rfl rfl rfl rfl rfl) ?_
    rintro w21 ⟨m22, hr, s20⟩
    have hL3 := hL3.step m22 (fun k hk hS => by have hS : k = br := hS; show k = br; omega)
    refine send (fg [(0, _), (3, _), (8, _)] ⟨rfl, rfl, rfl, ⟨⟩⟩ fun _ => (sreg (sv (xmove rfl) (sv (xmove rfl) (sv (xassign rfl) (sv (xassign rfl) (sv (xassign rfl) (send (fg [(0, _), (3, _), (4, _), (5, _), (6, _)] ⟨rfl, rfl, rfl, rfl, rfl, ⟨⟩⟩ fun _ => (lreg (sv (xmove rfl) ?_)))))))))))
    refine sv (xnilc rfl) (sv (xfld fl95_3 rfl) ?_)
    refine suK (xstF 3 sz4 hr rfl rfl rfl rfl rfl) ?_
    rintro w24 ⟨m25, hr, s23⟩
    have hL3 := hL3.step m25 (fun k hk hS => by have hS : k = br := hS; show k = br; omega)
    refine lend (nBlock (nBlock (nThen ?_)))
    refine ⟨(to, to, true, k1, o, s, nx1, i + 2, false), _, env_okl ⟨rfl, rfl, rfl, rfl, rfl, trivial⟩, ⟨hL3, (hR1), (hr), (hE), (fun h => by cases h), (fun _ => ⟨by omega, rfl, by omega⟩)⟩, ?_⟩
    first | (show k * (b.length + 1) + (b.length - (i + 1 + lab.length)) < k * (b.length + 1) + (b.length - i); omega) | (show k1 * (b.length + 1) + (b.length - to) < (k1 + 1) * (b.length + 1) + (b.length - i); rw [Nat.succ_mul]; omega)
   | true =>
    obtain ⟨hjp, hjw, hjK⟩ := hjT rfl
    refine send (fg [(0, _), (3, _), (4, _), (5, _), (8, _), (132, _)] ⟨rfl, rfl, rfl, rfl, rfl, rfl, ⟨⟩⟩ fun _ => (cno rfl (wp_skip (nThen (fg [(0, _), (3, _), (5, _), (8, _)] ⟨rfl, rfl, rfl, rfl, ⟨⟩⟩ fun _ => (sreg (sv (xmove rfl) (sv (xmove rfl) (sv (xmove rfl) (sv (exF (xgeq rfl rfl) (by omega)) (sv (xnilc rfl) ?_)))))))))))
    refine sv (xfld fl95_2 rfl) ?_
    refine suK (xstF 2 sz4 hr rfl rfl rfl rfl rfl) ?_
    rintro w27 ⟨m28, hr, s26⟩
    have hL3 := hL3.step m28 (fun k hk hS => by have hS : k = br := hS; show k = br; omega)
    refine send (fg [(0, _), (3, _), (8, _)] ⟨rfl, rfl, rfl, ⟨⟩⟩ fun _ => (sreg (sv (xmove rfl) (sv (xmove rfl) (sv (xassign rfl) (sv (xassign rfl) (sv (xassign rfl) (send (fg [(0, _), (3, _), (4, _), (5, _), (6, _)] ⟨rfl, rfl, rfl, rfl, rfl, ⟨⟩⟩ fun _ => (lreg (sv (xmove rfl) ?_)))))))))))
    refine sv (xnilc rfl) (sv (xfld fl95_3 rfl) ?_)
    refine suK (xstF 3 sz4 hr rfl rfl rfl rfl rfl) ?_
    rintro w30 ⟨m31, hr, s29⟩
    have hL3 := hL3.step m31 (fun k hk hS => by have hS : k = br := hS; show k = br; omega)
    refine lend (nBlock (nBlock (nThen ?_)))
    refine ⟨(to, to, true, k1, o, s, nx1, pc, false), _, env_okl ⟨rfl, rfl, rfl, rfl, rfl, trivial⟩, ⟨hL3, (hR1), (hr), (hE), (fun h => by cases h), (fun _ => ⟨by omega, rfl, by omega⟩)⟩, ?_⟩
    first | (show k * (b.length + 1) + (b.length - (i + 1 + lab.length)) < k * (b.length + 1) + (b.length - i); omega) | (show k1 * (b.length + 1) + (b.length - to) < (k1 + 1) * (b.length + 1) + (b.length - i); rw [Nat.succ_mul]; omega)
end Go.Proofs.YtifnodoffgfpbaaGreatDoor

namespace Go.Proofs.YtifnodoffgfpbaaGreatDoor
open Go

theorem rd_cast {w : World} {br bb ob cb p q : Nat} {b : List UInt8} {wh : Bool} (h : SB w br lRd (rdSegs bb ob cb b p wh)) (hp : p = q) : SB w br lRd (rdSegs bb ob cb b q wh) := by subst hp; exact h
abbrev NoU : Nat → Prop := fun _ => False
/-- a record as it is begun, and with its kind -/
def recA (r : RecD) (len : UInt16) : RecD := { name := r.name, typ := typeN r, cls := r.cls, ttl := r.ttl, len := len, kind := 0, data := [], host := emptyB, box := emptyB, n1 := 0, n2 := 0, n3 := 0, n4 := 0, n5 := 0, texts := [], pairs := [] }
def rec0 (r : RecD) (len : UInt16) : RecD := { name := r.name, typ := typeN r, cls := r.cls, ttl := r.ttl, len := len, kind := r.kind, data := [], host := emptyB, box := emptyB, n1 := 0, n2 := 0, n3 := 0, n4 := 0, n5 := 0, texts := [], pairs := [] }
def m16 (x : UInt32) : UInt32 := UInt32.ofNat (x.toNat % 65536)
theorem norm_a {r : RecD} {len : UInt16} (h : r.kind = 1) : normR r len = { rec0 r len with data := fixedL r.data 4 } := by simp [normR, rec0, h]
theorem norm_aaaa {r : RecD} {len : UInt16} (h : r.kind = 8) : normR r len = { rec0 r len with data := fixedL r.data 16 } := by simp [normR, rec0, h]
theorem norm_ns {r : RecD} {len : UInt16} (h : r.kind = 2 ∨ r.kind = 3 ∨ r.kind = 5) : normR r len = { rec0 r len with host := r.host } := by rcases h with h | h | h <;> simp [normR, rec0, h]
theorem norm_mx {r : RecD} {len : UInt16} (h : r.kind = 6) : normR r len = { rec0 r len with n1 := m16 r.n1, host := r.host } := by simp [normR, rec0, h, m16]
theorem norm_soa {r : RecD} {len : UInt16} (h : r.kind = 4) : normR r len = { rec0 r len with host := r.host, box := r.box, n1 := r.n1, n2 := r.n2, n3 := r.n3, n4 := r.n4, n5 := r.n5 } := by simp [normR, rec0, h]
theorem norm_txt {r : RecD} {len : UInt16} (h : r.kind = 7) : normR r len = { rec0 r len with texts := r.texts } := by simp [normR, rec0, h]
theorem norm_srv {r : RecD} {len : UInt16} (h : r.kind = 9) : normR r len = { rec0 r len with n1 := m16 r.n1, n2 := m16 r.n2, n3 := m16 r.n3, host := r.host } := by simp [normR, rec0, h, m16]
theorem norm_opt {r : RecD} {len : UInt16} (h : r.kind = 10) : normR r len = { rec0 r len with pairs := r.pairs } := by simp [normR, rec0, h]
theorem norm_svc {r : RecD} {len : UInt16} (h : r.kind = 11 ∨ r.kind = 12) : normR r len = { rec0 r len with n1 := m16 r.n1, host := r.host, pairs := r.pairs } := by rcases h with h | h <;> simp [normR, rec0, h, m16]
theorem norm_unk {r : RecD} {len : UInt16} (h : r.kind = 13) : normR r len = { rec0 r len with data := r.data } := by simp [normR, rec0, h]
theorem m16_nat (x : UInt32) : (m16 x).toNat = x.toNat % 65536 := u32mod x
theorem texts_at {b : List UInt8} {p : Nat} {ts : List ByteArray} (h : Std b p (textsL ts)) {k : Nat} {t : ByteArray} (hk : ts[k]? = some t) : Std b (p + (textsL (ts.take k)).length) (textL t) := by
  have e : ts = ts.take (k + 1) ++ ts.drop (k + 1) := (List.take_append_drop _ _).symm
  rw [e, textsL, List.map_append, List.flatten_append, take_snoc hk, List.map_append, List.flatten_append] at h
  have := h.left.right
  rw [List.map_cons, List.map_nil, List.flatten_cons, List.flatten_nil, List.append_nil] at this
  exact this
theorem texts_take_lt {ts : List ByteArray} {k : Nat} {t : ByteArray} (hk : ts[k]? = some t) : (textsL (ts.take k)).length + 1 + t.size ≤ (textsL ts).length := by
  have h : (ts.map textL)[k]? = some (textL t) := by rw [List.getElem?_map, hk]; rfl
  have := flat_take_le h
  rw [← List.map_take] at this
  simp only [textsL]
  simp only [textL, List.length_cons, bt_length] at this
  omega
theorem std16 {b : List UInt8} {p n : Nat} (h : Std b p (be16 n)) : Std b p (be16 (n % 65536)) := by rw [be16_mod]; exact h
theorem body_bound {K : Nat → Prop} {b : List UInt8} {p e : Nat} {r : RecD} (h : BodyR K b p r e) (h1 : 1 ≤ r.kind) (h13 : r.kind ≤ 13) : p ≤ e := by
  obtain ⟨h2, h6, h4, h9, h11, ho⟩ := h
  have hk : r.kind = 2 ∨ r.kind = 3 ∨ r.kind = 5 ∨ r.kind = 6 ∨ r.kind = 4 ∨ r.kind = 9 ∨ (r.kind = 11 ∨ r.kind = 12) ∨ (r.kind = 1 ∨ r.kind = 7 ∨ r.kind = 8 ∨ r.kind = 10 ∨ r.kind = 13) := by omega
  have nl : ∀ {k i e : Nat} {s : List UInt8}, NameAt b k i s e → i < e := fun h => h.le.1
  rcases hk with h | h | h | h | h | h | h | h
  · obtain ⟨k, _, hk⟩ := h2 (by omega); have := nl hk; omega
  · obtain ⟨k, _, hk⟩ := h2 (by omega); have := nl hk; omega
  · obtain ⟨k, _, hk⟩ := h2 (by omega); have := nl hk; omega
  · obtain ⟨_, k, _, hk⟩ := h6 h; have := nl hk; omega
  · obtain ⟨e1, e2, ⟨k, _, hk⟩, ⟨k2, _, hk2⟩, _, _⟩ := h4 h; have := nl hk; have := nl hk2; omega
  · have := nl (h9 h).2; omega
  · obtain ⟨_, e1, hn, _, _⟩ := h11 h; have := nl hn; omega
  · have := (ho h).2; omega

set_option maxHeartbeats 4000000 in
set_option maxRecDepth 100000 in
theorem c192 {w : World} {br bb ob cb : Nat} {b : List UInt8} {p : Nat} {wh : Bool} (hr : SB w br lRd (rdSegs bb ob cb b p wh)) (hB : w.rangeAt bb ob (bvs b)) (hbb : bb < w.heap.size) (hbr : bb ≠ br) (hcb : b.length ≤ cb) (hbl : b.length < 100000000) {e : Nat} {S : List UInt8} (hN : NameAt b 0 p S e) (hS : nameL S) :
  Ret PP 192 [.pointer (some ⟨br, 0, none⟩)] w (fun u w' => u = .string (mkB S) ∧ SB w' br lRd (rdSegs bb ob cb b e wh) ∧ Fr (fun k => k = br) w w') := by
 have hf : Fr (fun k => k = br) w w := Fr.refl _ _
 have z_hr := hr.lt
 refine ret_of Tryz.func192 rfl rfl rfl [(0, _)] rfl ?_
 refine sreg (sv (xassign rfl) (send (fg [(0, _)] ⟨rfl, ⟨⟩⟩ fun _ => (sreg (sv (xmove rfl) (sv (xnilc rfl) (sv (xfld fl95_3 rfl) (sv (xld on4 rfl (hr.r.c 3 rfl rfl)) (sv (xassign rfl) (send (fg [(0, _), (3, _)] ⟨rfl, rfl, ⟨⟩⟩ fun _ => ?_)))))))))))
 refine sreg (sv (xmove rfl) (sv (xnilc rfl) (sv (xfld fl95_3 rfl) ?_)))
 refine suK (xstF 3 sz4 hr rfl rfl rfl rfl rfl) ?_
 rintro w2 ⟨m3, hr, s1⟩
 have hB := rng_fr hB m3 (by omega) (by show ¬ (bb = br); omega)
 have hf := hf.step m3 (fun k hk hS => by have hS : k = br := hS; show k = br; omega)
 refine send (fg [(0, _), (3, _)] ⟨rfl, rfl, ⟨⟩⟩ fun _ => (sreg (sv (xmove rfl) ?_)))
 refine sc (xcall ca42 rfl) (c42 (bb := bb) (ob := ob) (cb := cb) (b := b) (p := p) (wh := true) (K := 0) (e := e) (S := S) hr hB (by omega) (by omega) hcb hbl hN hS) ?_
 rintro _ w4 ⟨rfl, hr, m5⟩
 have z6 := m5.size
 have hf := hf.step m5 (fun k hk hS => by have hS : k = br := hS; show k = br; omega)
 have hr : SB w4 br lRd (rdSegs bb ob cb b e true) := hr
 refine sv (xassign rfl) (send (fg [(0, _), (3, _), (4, _)] ⟨rfl, rfl, rfl, ⟨⟩⟩ fun _ => (sreg (sv (xmove rfl) (sv (xmove rfl) (sv (xnilc rfl) (sv (xfld fl95_2 rfl) (sv (xld on4 rfl (hr.r.c 2 rfl rfl)) (sv (xmove rfl) (gyes rfl rfl rfl (sv (xmove rfl) ?_)))))))))))
 refine gyes rfl rfl rfl (sv (xnilc rfl) (gyes rfl rfl rfl (sv (xfld fl95_3 rfl) (gyes rfl rfl rfl (sv (xld on4 rfl (hr.r.c 3 rfl rfl)) (gyes rfl rfl rfl (sv (xnot rfl) (sv (xpickF rfl rfl) (sv (xnilc rfl) (sv (xfld fl95_2 rfl) ?_))))))))))
 refine suK (xstF 2 sz4 hr rfl rfl rfl rfl rfl) ?_
 rintro w8 ⟨m9, hr, s7⟩
 have hf := hf.step m9 (fun k hk hS => by have hS : k = br := hS; show k = br; omega)
 refine send (fg [(0, _), (3, _), (4, _)] ⟨rfl, rfl, rfl, ⟨⟩⟩ fun _ => (sreg (sv (xmove rfl) (sv (xmove rfl) (sv (xnilc rfl) (sv (xfld fl95_3 rfl) ?_))))))
 refine suK (xstF 3 sz4 hr rfl rfl rfl rfl rfl) ?_
 rintro w11 ⟨m12, hr, s10⟩
 have hf := hf.step m12 (fun k hk hS => by have hS : k = br := hS; show k = br; omega)
 refine send (fg [(4, _)] ⟨rfl, ⟨⟩⟩ fun _ => (sreg (sv (xmove rfl) (sv (xassign rfl) (send (fg [(2, _)] ⟨rfl, ⟨⟩⟩ fun _ => (wp_ret ?_)))))))
 refine rp1 rfl rfl ?_
 exact ⟨rfl, hr, hf⟩
set_option maxHeartbeats 4000000 in
set_option maxRecDepth 100000 in
theorem c193 {w : World} {br bb ob cb : Nat} {b : List UInt8} {p : Nat} {wh : Bool} (hr : SB w br lRd (rdSegs bb ob cb b p wh)) (hB : w.rangeAt bb ob (bvs b)) (hbb : bb < w.heap.size) (hbr : bb ≠ br) (hcb : b.length ≤ cb) (hbl : b.length < 100000000) {e : Nat} {ps : List PairD} (hps : Std b p (pairsL ps)) (he : e = p + (pairsL ps).length) (hpe : e ≤ b.length) (hpl : ∀ q ∈ ps, q.data.length ≤ 65535) :
  Ret PP 193 [.pointer (some ⟨br, 0, none⟩), .int .i64 (e : Int)] w (fun u w' => LA PairEl lPair (Ub NoU w w') w' u ps ∧ SB w' br lRd (rdSegs bb ob cb b e wh) ∧ Fr (fun k => k = br) w w') := by
 have hU : ∀ k, NoU k → k < w.heap.size ∧ k ≠ br := fun _ h => h.elim
 have hn4 : 4 * ps.length ≤ (pairsL ps).length := by rw [pairsL_length]; omega
 have hf : Fr (fun k => k = br) w w := Fr.refl _ _
 have z_hr := hr.lt
 refine ret_of Tryz.func193 rfl rfl rfl [(0, _), (1, _)] rfl ?_
 refine sreg (sv (xassign rfl) (send (fg [(0, _), (1, _)] ⟨rfl, rfl, ⟨⟩⟩ fun _ => (sreg ?_))))
 refine svK (xslit ([]) sl63 in67 rfl (by decide) rfl rfl rfl rfl (by decide) rfl rfl) ?_
 rintro _ w2 ⟨b8, rfl, m3, h8, e8, s8, r8⟩
 have hr := hr.keep m3 id
 have hB := rng_fr hB m3 (by omega) id
 have hf := hf.step0 m3
 have hv5 : RX PairEl lPair NoU w.heap.size w2.heap.size w2 _ b8 67 0 [] := RX.ofNil r8
 refine sv (xassign rfl) (send (fg [(0, _), (1, _), (5, _)] ⟨rfl, rfl, rfl, ⟨⟩⟩ fun _ => (wp_seq (wp_block ?_))))
 refine lp [(0, _), (1, _)] (fun (x : Nat × Value × Nat) => match x with | (k, v, g) => [(5, v)]) (fun (x : Nat × Value × Nat) wx => match x with | (k, v, g) => Fr (fun k => k = b8 ∨ k = br) w2 wx ∧ (k ≤ ps.length) ∧ (SB wx br lRd (rdSegs bb ob cb b (p + (pairsL (ps.take k)).length) wh)) ∧ (RX PairEl lPair NoU w.heap.size wx.heap.size wx v g 67 k (ps.take k)) ∧ (w.heap.size ≤ g) ∧ (g < wx.heap.size) ∧ (g = b8 ∨ w2.heap.size ≤ g)) (fun (x : Nat × Value × Nat) => match x with | (k, v, g) => ps.length - k) (0, _, b8) ⟨rfl, rfl, rfl, trivial⟩ ⟨Fr.refl _ _, Nat.zero_le _, by simpa [pairsL] using hr, hv5, by omega, by omega, .inl rfl⟩ ?_
 rintro ⟨k, v, g⟩ _ w5 ⟨hL4, hk, hr, hv5, hg, hg2, hg3⟩
 refine fg [(0, _), (1, _), (5, _)] ⟨rfl, rfl, rfl, ⟨⟩⟩ fun _ => ?_
 have z6 := hL4.size
 have hB := rng_fr hB hL4 (by omega) (by show ¬ (bb = b8 ∨ bb = br); omega)
 have hf := hf.step hL4 (fun k hk hS => by have hS : k = b8 ∨ k = br := hS; show k = br; omega)
 obtain ⟨a5, c5, rfl⟩ := RA.form hv5
 refine wp_seq (sreg (sv (xmove rfl) (sv (xnilc rfl) (sv (xfld fl95_2 rfl) (sv (xld on4 rfl (hr.r.c 2 rfl rfl)) (sv (xnot rfl) (sv (xmove rfl) (gyes rfl rfl rfl (sv (xmove rfl) (gyes rfl rfl rfl (sv (xnilc rfl) ?_)))))))))))
 refine gyes rfl rfl rfl (sv (xfld fl95_1 rfl) (gyes rfl rfl rfl (sv (xld on3 rfl (hr.r.c 1 rfl rfl)) (gyes rfl rfl rfl (sv (xmove rfl) (gyes rfl rfl rfl ?_))))))
 refine svP (xlss rfl rfl) (fun hc20 => ?_) (fun hc20 => ?_)
 ·
  refine sv (xpickT rfl rfl) (send (fg [(0, _), (1, _), (5, _), (21, _)] ⟨rfl, rfl, rfl, rfl, ⟨⟩⟩ fun _ => (cyes rfl (wp_skip (nThen (fg [(0, _), (1, _), (5, _)] ⟨rfl, rfl, rfl, ⟨⟩⟩ fun _ => (wp_block ?_)))))))
  have hkl : k < ps.length := by rcases Nat.lt_or_ge k ps.length with h | h; exact h; rw [List.take_of_length_le h] at hc20; omega
  obtain ⟨q, hqk⟩ := some_of_lt (by omega : k < ps.length)
  have hqs := pairs_at hps hqk
  have hqt := pairs_take_lt hqk
  have hqd := hpl q (List.mem_of_getElem? hqk)
  simp only [pairL] at hqs
  refine sreg (sv (xmove rfl) ?_)
  refine sc (xcall ca41 rfl) (c41 (bb := bb) (ob := ob) (cb := cb) (b := b) (x := q.key.toNat) hr hB (by omega) (by omega) hcb hbl (u16lt _) (hqs.left)) ?_
  rintro _ w7 ⟨rfl, hr, m8⟩
  have z9 := m8.size
  have hB := rng_fr hB m8 (by omega) (by show ¬ (bb = br); omega)
  have hf := hf.step m8 (fun k hk hS => by have hS : k = br := hS; show k = br; omega)
  have hv5 := RX.keep hv5 pair_st (fun k hk => by have hk := hU k hk; omega) (by omega) m8 (fun k hk hk3 hS => by have hS : k = br := hS; rcases hk with hk | hk <;> first | omega | (have := hU k hk; omega)) (by show ¬ (g = br); omega)
  have hL4 := hL4.step m8 (fun k hk hS => by have hS : k = br := hS; show k = b8 ∨ k = br; omega)
  refine sv (xassign rfl) (send (fg [(0, _), (1, _), (5, _), (6, _)] ⟨rfl, rfl, rfl, rfl, ⟨⟩⟩ fun _ => (sreg (sv (xmove rfl) ?_))))
  refine sc (xcall ca41 rfl) (c41 (bb := bb) (ob := ob) (cb := cb) (b := b) (x := q.data.length) hr hB (by omega) (by omega) hcb hbl (by omega) ((hqs.right' rfl).left)) ?_
  rintro _ w10 ⟨rfl, hr, m11⟩
  have z12 := m11.size
  have hB := rng_fr hB m11 (by omega) (by show ¬ (bb = br); omega)
  have hf := hf.step m11 (fun k hk hS => by have hS : k = br := hS; show k = br; omega)
  have hv5 := RX.keep hv5 pair_st (fun k hk => by have hk := hU k hk; omega) (by omega) m11 (fun k hk hk3 hS => by have hS : k = br := hS; rcases hk with hk | hk <;> first | omega | (have := hU k hk; omega)) (by show ¬ (g = br); omega)
  have hL4 := hL4.step m11 (fun k hk hS => by have hS : k = br := hS; show k = b8 ∨ k = br; omega)
  refine sv (xconv hs22 ki3 rfl (w64 (by omega) (by omega))) (sv (xassign rfl) (send (fg [(0, _), (1, _), (5, _), (6, _), (7, _)] ⟨rfl, rfl, rfl, rfl, rfl, ⟨⟩⟩ fun _ => (lreg (sv (xmove rfl) (sv (xmove rfl) (sv (xmove rfl) (sv (xmove rfl) ?_))))))))
  refine sc (xcall ca94 rfl) (c94 (bb := bb) (ob := ob) (cb := cb) (b := b) (xs := q.data) (k := q.data.length) hr hB (by omega) (by omega) hcb hbl (((hqs.right' rfl).right' rfl)) (rfl) (by omega)) ?_
  rintro _ w13 ⟨o31, c31, rfl, n31, hr, m14⟩
  have z15 := m14.size
  have hf := hf.step m14 (fun k hk hS => by have hS : k = br := hS; show k = br; omega)
  have hv5 := RX.keep hv5 pair_st (fun k hk => by have hk := hU k hk; omega) (by omega) m14 (fun k hk hk3 hS => by have hS : k = br := hS; rcases hk with hk | hk <;> first | omega | (have := hU k hk; omega)) (by show ¬ (g = br); omega)
  have hL4 := hL4.step m14 (fun k hk hS => by have hS : k = br := hS; show k = b8 ∨ k = br; omega)
  refine svK (xslit [_] sl105 in37 rfl (by decide) rfl rfl rfl rfl (by decide) rfl rfl) ?_
  rintro _ w17 ⟨b32, rfl, m18, h32, e32, s32, r32⟩
  have hf := hf.step0 m18
  have hv5 := RX.keep hv5 pair_st (fun k hk => by have hk := hU k hk; omega) (by omega) m18 (fun _ _ _ h => h) id
  have hL4 := hL4.step0 m18
  have hr := hr.keep m18 id
  have n31 := rng_fr n31 m18 (by omega) id
  refine sc (xcall ca21 rfl) (c21_1 (U := fun k => k = bb) (bs := q.data) (Rw.rng r32) (by omega) (fun k hk => by have hk : k = bb := hk; omega) (take_ba n31 (rfl)) (by omega)) ?_
  rintro _ w19 ⟨p33, q33, g33, rfl, r33, m20, a33, l33⟩
  have z21 := m20.size
  have hf := hf.step0 m20
  have hv5 := RX.keep hv5 pair_st (fun k hk => by have hk := hU k hk; omega) (by omega) m20 (fun _ _ _ h => h) id
  have hL4 := hL4.step0 m20
  have hr := hr.keep m20 id
  refine sv (xbuildS (pairSegs q (.slice p33 q.data.length q33)) zr67 ly67 rfl (by simp [fitAll, zs67, Value.cells]) rfl) ?_
  refine svK (xslit ((pairSegs q (.slice p33 q.data.length q33)).flatten) sl63 in67 rfl (by decide) rfl rfl rfl rfl (by decide) rfl rfl) ?_
  rintro _ w23 ⟨b35, rfl, m24, h35, e35, s35, r35⟩
  have hf := hf.step0 m24
  have hv5 := RX.keep hv5 pair_st (fun k hk => by have hk := hU k hk; omega) (by omega) m24 (fun _ _ _ h => h) id
  have hL4 := hL4.step0 m24
  have hr := hr.keep m24 id
  have r33 := r33.keep m24 id
  obtain ⟨ss36, hR36, hA36⟩ := hv5
  refine svK (xapp sl63 in67 rfl (by decide) rfl rfl hR36 (r35.src sl63) (by simp only [maxLen]; omega) (by omega)) ?_
  rintro v36 w25 ⟨g36, r36, m26, a36, l36⟩
  have z27 := m26.size
  have hf := hf.step m26 (fun k hk hS => by have hS : k = g := hS; show k = br; omega)
  have hL4 := hL4.step m26 (fun k hk hS => by have hS : k = g := hS; show k = b8 ∨ k = br; omega)
  have hr := hr.keep m26 (by show ¬ (br = g); omega)
  have r33 := r33.keep m26 (by show ¬ (g33 = g); omega)
  have hv5 := RX.snoc (x := q) w25.heap.size hA36 pair_st pair_gr (fun k hk => by have hk := hU k hk; omega) (by omega) (by omega) m26 a36 r36 rfl (⟨_, rfl, BR.ba (show BR _ _ _ _ q.data from r33) ⟨.inr ⟨by omega, by omega⟩, by omega⟩⟩)
  refine sv (xassign rfl) (lend (nBlock (nThen ?_)))
  refine ⟨(k + 1, _, g36), _, env_okl ⟨rfl, rfl, rfl, trivial⟩, ⟨hL4, (by omega), (rd_cast hr (by rw [pairs_snoc hqk]; simp only [pairL, List.length_append, be16_length]; omega)), (by rw [take_snoc hqk]; exact RX.up pair_gr hv5 (by omega)), (by omega), (l36 (by omega)), (by omega)⟩, ?_⟩
  show ps.length - (k + 1) < ps.length - k; omega
 ·
  refine sv (xpickT rfl rfl) (send (fg [(0, _), (1, _), (5, _), (21, _)] ⟨rfl, rfl, rfl, rfl, ⟨⟩⟩ fun _ => (cno rfl (wp_exit (eThen (eThen (eHit (nThen (fg [(5, _)] ⟨rfl, ⟨⟩⟩ fun _ => (sreg (sv (xmove rfl) ?_)))))))))))
  refine sv (xassign rfl) (send (fg [(4, _)] ⟨rfl, ⟨⟩⟩ fun _ => (wp_ret ?_)))
  refine rp1 rfl rfl ?_
  have hkl : ps.length ≤ k := by rcases Nat.lt_or_ge k ps.length with h | h; exact absurd (pairs_take_lt (List.getElem?_eq_getElem h)) (by omega); exact h
  have e1 : ps.take k = ps := List.take_of_length_le hkl
  rw [e1] at hv5 hr
  rw [← he] at hr
  exact ⟨RX.la hv5 (by decide) pair_gr (fun k hk => hk.elim .inl .inr) (.inr ⟨hg, hg2⟩), hr, hf⟩
end Go.Proofs.YtifnodoffgfpbaaGreatDoor
