/- Walks: how a message is packed. Conditions: none. -/
import Derived.Test.YtifnodoffgfpbaaGreatDoorW21
namespace Go.Proofs.YtifnodoffgfpbaaGreatDoor
open Go

def QEl (_ : Nat → Prop) (_ : World) (segs : List (List Value)) (a : AskD) : Prop := segs = questSegs a
theorem q_st : Stays QEl := fun _ _ _ _ _ _ h _ _ _ => h
theorem q_gr : Grows QEl := fun _ _ _ _ _ h _ => h
theorem packAll_bound {α : Type} {f : Option Ent → Nat → α → List UInt8 × Option Ent} {B : Nat} : ∀ (xs : List α) (C : Option Ent) (pos : Nat), (∀ x ∈ xs, ∀ C pos, (f C pos x).1.length ≤ B) → (packAll f C pos xs).1.length ≤ xs.length * B
  | [], C, pos, _ => by simp [packAll]
  | x :: xs, C, pos, h => by
    simp only [packAll, List.length_append, List.length_cons, Nat.add_mul, Nat.one_mul]
    have h1 := h x (by simp) C pos
    have h2 := packAll_bound xs (f C pos x).2 (pos + (f C pos x).1.length) (fun y hy => h y (by simp [hy]))
    omega
theorem packAsk_bound {a : AskD} (h : nameL (bt a.name)) (C : Option Ent) (pos : Nat) : (packAsk C pos a).1.length ≤ 600 := by
  have := packName_bound (C := C) (pos := pos) h
  simp only [packAsk, List.length_append, be16_length]; omega
theorem packRec_bound {r : RecD} (h : NamesOk r) (hl : (bodyL r).length < 65536) (C : Option Ent) (pos : Nat) : (packRec C pos r).1.length ≤ 67000 := by
  have h1 := packName_bound (C := C) (pos := pos) h.1
  have h2 := packBody_len (C := (packName C pos (bt r.name)).2) (pos := pos + (packName C pos (bt r.name)).1.length + 10) h hl
  simp only [packRec, packTail, List.length_append, be16_length, be32_length]; omega
/-- records that can be packed -/
def GoodP (r : RecD) : Prop := NamesOk r ∧ FitP r ∧ (bodyL r).length < 65536
theorem packRecs_bound {rs : List RecD} (h : ∀ r ∈ rs, GoodP r) (hn : rs.length ≤ 40) (C : Option Ent) (pos : Nat) : (packAll packRec C pos rs).1.length ≤ 2680000 := by
  have := packAll_bound (f := packRec) (B := 67000) rs C pos (fun r hr => packRec_bound (h r hr).1 (h r hr).2.2)
  omega
theorem packAsks_bound {xs : List AskD} (h : ∀ a ∈ xs, nameL (bt a.name)) (hn : xs.length ≤ 40) (C : Option Ent) (pos : Nat) : (packAll packAsk C pos xs).1.length ≤ 24000 := by
  have := packAll_bound (f := packAsk) (B := 600) xs C pos (fun a ha => packAsk_bound (h a ha))
  omega
theorem take_all_mem {α : Type} {p : α → Prop} {l : List α} (h : ∀ x ∈ l, p x) (k : Nat) : ∀ x ∈ l.take k, p x := fun x hx => h x (List.mem_of_mem_take hx)
theorem take_le40 {α : Type} {l : List α} (h : l.length ≤ 40) (k : Nat) : (l.take k).length ≤ 40 := by rw [List.length_take]; omega
theorem packAll_take {α : Type} {f : Option Ent → Nat → α → List UInt8 × Option Ent} {l : List α} {k : Nat} {x : α} (hx : l[k]? = some x) (C : Option Ent) (pos : Nat) :
    packAll f C pos (l.take (k + 1)) = ((packAll f C pos (l.take k)).1 ++ (f (packAll f C pos (l.take k)).2 (pos + (packAll f C pos (l.take k)).1.length) x).1, (f (packAll f C pos (l.take k)).2 (pos + (packAll f C pos (l.take k)).1.length) x).2) := by
  rw [take_snoc hx, packAll_snoc]
theorem headL_hdrL (m : MsgD) : headL m.head (countsM m) = hdrL m.head.id.toNat (hbits m.head).toNat m.asks.length m.one.length m.two.length m.three.length := by
  simp [headL, countsM, hdrL]
/-- what the packing of a message gives back -/
def MsgC (w : World) (g g1 g2 g3 n : Nat) (bs out : List UInt8) (u : Value) (w' : World) : Prop :=
  ∃ a c g', u = .tuple #[.slice a (n + out.length) c, .nilIface] ∧ BR w' (.slice a (n + out.length) c) g' (n + out.length) (bs ++ out) ∧ Fr (fun k => k = g ∨ k = g1 ∨ k = g2 ∨ k = g3) w w' ∧ (g' = g ∨ w.heap.size ≤ g') ∧ g' < w'.heap.size

set_option maxHeartbeats 4000000 in
set_option maxRecDepth 100000 in
theorem c40a {w : World} {v : Value} {aq : Option Addr} {cq : Nat} {v1 v2 v3 : Value} {g n bm b87 : Nat} {bs : List UInt8} {m : MsgD} (hR : BR w v g (n + 12) bs) (hg : g < w.heap.size) (hM : SB w bm lMsg (msgSegs m.head (.slice aq m.asks.length cq) v1 v2 v3)) {U : Nat → Prop} (hq : LA QEl lQ U w (.slice aq m.asks.length cq) m.asks) (hU : ∀ k, U k → k < w.heap.size ∧ k ≠ g ∧ k ≠ b87) (hC : Cmp w (some b87) (some [])) (hd : b87 < w.heap.size ∧ bm ≠ g ∧ bm ≠ b87 ∧ g ≠ b87) (hna : ∀ a ∈ m.asks, nameL (bt a.name)) (hcn : m.asks.length ≤ 40) (hl : n ≤ 10000000) {Q : Exit → Act → World → Prop} {r : Nat → Value}
    (hQ : ∀ (x : Value × Nat) (r : Nat → Value) (wx : World), (match x with | (v, g2) => Fr (fun k => k = g ∨ k = b87) w wx ∧ (BR wx v g2 (n + 12 + (packA (some []) m).1.length) (bs ++ (packA (some []) m).1)) ∧ (g2 = g ∨ w.heap.size ≤ g2) ∧ (g2 < wx.heap.size) ∧ (Cmp wx (some b87) (packA (some []) m).2)) → Q .normal (env Tryz.f40.ntmps ((match x with | (v, _g2) => [(8, v)]) ++ [(0, .pointer (some ⟨bm, 0, none⟩)), (7, .int .i64 (n : Int)), (9, .map (some b87))]) r) wx) :
    (navF [true, true, true, true, true, true, true, true, true, true, true, true, true, true, false, true] Tryz.f40).wp PP Q (env Tryz.f40.ntmps [(0, .pointer (some ⟨bm, 0, none⟩)), (7, .int .i64 (n : Int)), (8, v), (9, .map (some b87)), (92, .int .i64 (m.asks.length : Int)), (93, .int .i64 0)] r) w := by
  obtain ⟨a0, c0, rfl, -⟩ := hR.form
  have hf : Fr (fun k => k = g ∨ k = b87) w w := Fr.refl _ _
  have z_hM := hM.lt
  refine nav_wp rfl ?_
  refine wp_block ?_
  refine lp [(0, _), (7, _), (9, _), (92, _)] (fun (x : Nat × Value × Nat) => match x with | (k, v, gk) => [(8, v), (93, .int .i64 (k : Int))]) (fun (x : Nat × Value × Nat) wx => match x with | (k, v, gk) => Fr (fun k => k = g ∨ k = b87) w wx ∧ (k ≤ m.asks.length) ∧ (BR wx v gk (n + 12 + (packAll packAsk (some []) 12 (m.asks.take k)).1.length) (bs ++ (packAll packAsk (some []) 12 (m.asks.take k)).1)) ∧ (gk = g ∨ w.heap.size ≤ gk) ∧ (gk < wx.heap.size) ∧ (Cmp wx (some b87) (packAll packAsk (some []) 12 (m.asks.take k)).2)) (fun (x : Nat × Value × Nat) => match x with | (k, v, gk) => m.asks.length - k) (0, _, g) ⟨rfl, rfl, rfl, rfl, rfl, rfl, trivial⟩ ⟨Fr.refl _ _, Nat.zero_le _, br_cast hR (by simp [packAll]) (by simp [packAll]), .inl rfl, by omega, hC⟩ ?_
  rintro ⟨k, v, gk⟩ _ w2 ⟨hL1, hk, hR, hgk, hgk2, hC⟩
  refine forget_wp [(0, _), (7, _), (8, _), (9, _), (92, _), (93, _)] ⟨rfl, rfl, rfl, rfl, rfl, rfl, trivial⟩ fun _ => ?_
  have z3 := hL1.size
  have hM := hM.keep hL1 (by show ¬ (bm = g ∨ bm = b87); omega)
  have hq := hq.keep q_st (fun k hk => by have hk := hU k hk; omega) hL1 (fun k hk hS => by have hk := hU k hk; have hS : k = g ∨ k = b87 := hS; omega)
  have hf := hf.step hL1 (fun k hk hS => by have hS : k = g ∨ k = b87 := hS; show k = g ∨ k = b87; omega)
  obtain ⟨aR, cR, rfl, -⟩ := hR.form
  have hKb := packAsks_bound (take_all_mem hna k) (take_le40 hcn k) (some []) 12
  refine sreg ?_
  refine svP (xlss rfl rfl) (fun hc94 => ?_) (fun hc94 => ?_)
  · skip
    refine send ?_
    refine forget_wp [(0, _), (7, _), (8, _), (9, _), (92, _), (93, _), (94, _)] ⟨rfl, rfl, rfl, rfl, rfl, rfl, rfl, trivial⟩ fun _ => ?_
    refine wp_seq ?_
    refine cyes rfl ?_
    refine wp_skip ?_
    refine nThen ?_
    refine forget_wp [(0, _), (7, _), (8, _), (9, _), (92, _), (93, _)] ⟨rfl, rfl, rfl, rfl, rfl, rfl, trivial⟩ fun _ => ?_
    refine wp_seq ?_
    refine wp_block ?_
    obtain ⟨a, hak⟩ := some_of_lt (by omega : k < m.asks.length)
    have hnA := hna a (List.mem_of_getElem? hak)
    refine sreg ?_
    refine sv (xmove rfl) ?_
    refine sv (xassign rfl) ?_
    refine send ?_
    refine forget_wp [(0, _), (7, _), (8, _), (9, _), (10, _), (92, _), (93, _)] ⟨rfl, rfl, rfl, rfl, rfl, rfl, rfl, trivial⟩ fun _ => ?_
    refine sreg ?_
    refine sv (xassign rfl) ?_
    refine send ?_
    refine forget_wp [(0, _), (7, _), (8, _), (9, _), (10, _), (92, _), (93, _)] ⟨rfl, rfl, rfl, rfl, rfl, rfl, rfl, trivial⟩ fun _ => ?_
    refine sreg ?_
    refine sv (xmove rfl) ?_
    refine sv (xnilc rfl) ?_
    refine sv (xfld fl79_1 rfl) ?_
    refine sv (xld on77 rfl (hM.r.c 10 rfl rfl)) ?_
    refine sv (xmove rfl) ?_
    obtain ⟨bq, oq, sgq, rfl, uq, hsq, heq⟩ := LA.get hq hak
    have zq := hU _ uq
    obtain rfl : sgq = questSegs a := heq
    refine sv (xidx sl77 sz86 rfl rfl rfl (by omega)) ?_
    refine sv (xmove rfl) ?_
    refine sv (xmove rfl) ?_
    refine sv (xmove rfl) ?_
    refine sc (xcall ca92 rfl) (c92 (gm := b87) (pos := 12 + (packAll packAsk (some []) 12 (m.asks.take k)).1.length) (start := n) hR (by omega) (by omega) (by omega) (by omega) hsq hnA hC (fun b hb => by have hb := (Option.some.inj hb).symm; omega) (by omega) (by omega)) ?_
    rintro _ w4 ⟨p106, q106, g106, rfl, r106, m5, a106, l106, hC⟩
    have z6 := m5.size
    have hM := hM.keep m5 (by show ¬ (bm = gk ∨ bm = b87); omega)
    have hq := hq.keep q_st (fun k hk => by have hk := hU k hk; omega) m5 (fun k hk hS => by have hk := hU k hk; have hS : k = gk ∨ k = b87 := hS; omega)
    have hf := hf.step m5 (fun k hk hS => by have hS : k = gk ∨ k = b87 := hS; show k = g ∨ k = b87; omega)
    have hL1 := hL1.step m5 (fun k hk hS => by have hS : k = gk ∨ k = b87 := hS; show k = g ∨ k = b87; omega)
    have hsq := hsq.keep m5 (by omega) (by show ¬ (bq = gk ∨ bq = b87); omega)
    refine sv (xmove rfl) ?_
    refine sv (xextr rfl rfl) ?_
    refine sv (xextr rfl rfl) ?_
    refine sv (xassign rfl) ?_
    refine sv (xassign rfl) ?_
    refine send ?_
    refine forget_wp [(0, _), (7, _), (8, _), (9, _), (11, _), (92, _), (93, _)] ⟨rfl, rfl, rfl, rfl, rfl, rfl, rfl, trivial⟩ fun _ => ?_
    refine sreg ?_
    refine sv (xmove rfl) ?_
    refine sv (xneN if89 rfl) ?_
    refine send ?_
    refine forget_wp [(0, _), (7, _), (8, _), (9, _), (11, _), (92, _), (93, _), (110, _)] ⟨rfl, rfl, rfl, rfl, rfl, rfl, rfl, rfl, trivial⟩ fun _ => ?_
    refine cno rfl ?_
    refine wp_skip ?_
    refine nBlock ?_
    refine nThen ?_
    refine forget_wp [(0, _), (7, _), (8, _), (9, _), (92, _), (93, _)] ⟨rfl, rfl, rfl, rfl, rfl, rfl, trivial⟩ fun _ => ?_
    refine lreg ?_
    refine sv (xadd rfl rfl (w64 (by omega) (by omega))) ?_
    refine sv (xmove rfl) ?_
    refine lend ?_
    refine nThen ?_
    refine ⟨(k + 1, _, g106), _, env_okl ⟨rfl, rfl, rfl, rfl, rfl, rfl, trivial⟩, ⟨hL1, (by omega), (by rw [packAll_take hak]; exact br_cast r106 (by simp) (by simp; omega)), (by omega), (by omega), (by rw [packAll_take hak]; exact hC)⟩, ?_⟩
    show m.asks.length - (k + 1) < m.asks.length - k; omega
  · skip
    refine send ?_
    refine forget_wp [(0, _), (7, _), (8, _), (9, _), (92, _), (93, _), (94, _)] ⟨rfl, rfl, rfl, rfl, rfl, rfl, rfl, trivial⟩ fun _ => ?_
    refine wp_seq ?_
    refine cno rfl ?_
    refine wp_exit ?_
    refine eThen ?_
    refine eThen ?_
    refine eHit ?_
    have eA : m.asks.take k = m.asks := List.take_of_length_le (by omega)
    exact frag_end (hQ (_, gk) _ _ ⟨hf, (by rw [eA] at hR ⊢; exact hR), (by omega), (hgk2), (by rw [eA] at hC; exact hC)⟩) ⟨rfl, rfl, rfl, rfl, trivial⟩
set_option maxHeartbeats 4000000 in
set_option maxRecDepth 100000 in
theorem c40r1 {w : World} {v : Value} {a1 : Option Addr} {c1 : Nat} {va v2 v3 : Value} {g gR n bm b87 : Nat} {bs : List UInt8} {m : MsgD} {U : Nat → Prop} (hR : BR w v g (n + (12 + (packA (some []) m).1.length)) bs) (hg : g < w.heap.size) (hM : SB w bm lMsg (msgSegs m.head va (.slice a1 m.one.length c1) v2 v3)) (h1 : RA ResEl lRes U w (.slice a1 m.one.length c1) gR 139 m.one.length m.one) (hC : Cmp w (some b87) (packA (some []) m).2) (hU : ∀ k, U k → k < w.heap.size ∧ k ≠ g ∧ k ≠ b87 ∧ k ≠ gR) (hd : gR < w.heap.size ∧ b87 < w.heap.size ∧ bm ≠ g ∧ bm ≠ b87 ∧ bm ≠ gR ∧ gR ≠ g ∧ gR ≠ b87 ∧ g ≠ b87) (hg1 : ∀ r ∈ m.one, GoodP r) (hcn : m.one.length ≤ 40) (hl : n + (12 + (packA (some []) m).1.length) ≤ 100000000) {Q : Exit → Act → World → Prop} {r : Nat → Value}
    (hQ : ∀ (x : Value × Nat) (r : Nat → Value) (wx : World), (match x with | (v, g2) => Fr (fun k => k = g ∨ k = b87 ∨ k = gR) w wx ∧ (BR wx v g2 (n + (12 + (packA (some []) m).1.length) + (pack1 (some []) m).1.length) (bs ++ (pack1 (some []) m).1)) ∧ (g2 = g ∨ w.heap.size ≤ g2) ∧ (g2 < wx.heap.size) ∧ (Cmp wx (some b87) (pack1 (some []) m).2)) → Q .normal (env Tryz.f40.ntmps ((match x with | (v, _g2) => [(8, v)]) ++ [(0, .pointer (some ⟨bm, 0, none⟩)), (7, .int .i64 (n : Int)), (9, .map (some b87))]) r) wx) :
    (navF [true, true, true, true, true, true, true, true, true, true, true, true, true, true, true, false, true] Tryz.f40).wp PP Q (env Tryz.f40.ntmps [(0, .pointer (some ⟨bm, 0, none⟩)), (7, .int .i64 (n : Int)), (8, v), (9, .map (some b87)), (120, .int .i64 (m.one.length : Int)), (121, .int .i64 0)] r) w := by
  obtain ⟨a0, c0, rfl, -⟩ := hR.form
  have hf : Fr (fun k => k = g ∨ k = b87 ∨ k = gR) w w := Fr.refl _ _
  have z_hM := hM.lt
  refine nav_wp rfl ?_
  refine wp_block ?_
  refine lp [(0, _), (7, _), (9, _), (120, _)] (fun (x : Nat × Value × Nat) => match x with | (k, v, gk) => [(8, v), (121, .int .i64 (k : Int))]) (fun (x : Nat × Value × Nat) wx => match x with | (k, v, gk) => Fr (fun k => k = g ∨ k = b87 ∨ k = gR) w wx ∧ (k ≤ m.one.length) ∧ (BR wx v gk (n + (12 + (packA (some []) m).1.length) + (packAll packRec (packA (some []) m).2 (12 + (packA (some []) m).1.length) (m.one.take k)).1.length) (bs ++ (packAll packRec (packA (some []) m).2 (12 + (packA (some []) m).1.length) (m.one.take k)).1)) ∧ (gk = g ∨ w.heap.size ≤ gk) ∧ (gk < wx.heap.size) ∧ (Cmp wx (some b87) (packAll packRec (packA (some []) m).2 (12 + (packA (some []) m).1.length) (m.one.take k)).2) ∧ (RA ResEl lRes U wx (.slice a1 m.one.length c1) gR 139 m.one.length m.one)) (fun (x : Nat × Value × Nat) => match x with | (k, v, gk) => m.one.length - k) (0, _, g) ⟨rfl, rfl, rfl, rfl, rfl, rfl, trivial⟩ ⟨Fr.refl _ _, Nat.zero_le _, br_cast hR (by simp [packAll]) (by simp [packAll]), .inl rfl, by omega, hC, h1⟩ ?_
  rintro ⟨k, v, gk⟩ _ w2 ⟨hL1, hk, hR, hgk, hgk2, hC, h1⟩
  refine forget_wp [(0, _), (7, _), (8, _), (9, _), (120, _), (121, _)] ⟨rfl, rfl, rfl, rfl, rfl, rfl, trivial⟩ fun _ => ?_
  have z3 := hL1.size
  have hM := hM.keep hL1 (by show ¬ (bm = g ∨ bm = b87 ∨ bm = gR); omega)
  have hf := hf.step hL1 (fun k hk hS => by have hS : k = g ∨ k = b87 ∨ k = gR := hS; show k = g ∨ k = b87 ∨ k = gR; omega)
  obtain ⟨aR, cR, rfl, -⟩ := hR.form
  have hKb := packRecs_bound (take_all_mem hg1 k) (take_le40 hcn k) (packA (some []) m).2 (12 + (packA (some []) m).1.length)
  refine sreg ?_
  refine svP (xlss rfl rfl) (fun hc122 => ?_) (fun hc122 => ?_)
  · skip
    refine send ?_
    refine forget_wp [(0, _), (7, _), (8, _), (9, _), (120, _), (121, _), (122, _)] ⟨rfl, rfl, rfl, rfl, rfl, rfl, rfl, trivial⟩ fun _ => ?_
    refine wp_seq ?_
    refine cyes rfl ?_
    refine wp_skip ?_
    refine nThen ?_
    refine forget_wp [(0, _), (7, _), (8, _), (9, _), (120, _), (121, _)] ⟨rfl, rfl, rfl, rfl, rfl, rfl, trivial⟩ fun _ => ?_
    refine wp_seq ?_
    refine wp_block ?_
    obtain ⟨r, hrk⟩ := some_of_lt (by omega : k < m.one.length)
    have hgr := hg1 r (List.mem_of_getElem? hrk)
    refine sreg ?_
    refine sv (xmove rfl) ?_
    refine sv (xassign rfl) ?_
    refine send ?_
    refine forget_wp [(0, _), (7, _), (8, _), (9, _), (12, _), (120, _), (121, _)] ⟨rfl, rfl, rfl, rfl, rfl, rfl, rfl, trivial⟩ fun _ => ?_
    refine sreg ?_
    refine sv (xassign rfl) ?_
    refine send ?_
    refine forget_wp [(0, _), (7, _), (8, _), (9, _), (12, _), (120, _), (121, _)] ⟨rfl, rfl, rfl, rfl, rfl, rfl, rfl, trivial⟩ fun _ => ?_
    refine sreg ?_
    refine sv (xmove rfl) ?_
    refine sv (xnilc rfl) ?_
    refine sv (xfld fl79_2 rfl) ?_
    refine sv (xld on75 rfl (hM.r.c 11 rfl rfl)) ?_
    refine sv (xmove rfl) ?_
    obtain ⟨pre, sg, post, cc, hv1, hpre, hE, hEl, hback⟩ := RA.elem h1 (by decide) hrk
    simp only [Value.slice.injEq] at hv1
    obtain ⟨rfl, -, rfl⟩ := hv1
    obtain ⟨typ, len, vb, hlen, rfl, hB⟩ := hEl
    have hpo : pre.length = 0 + k * 261 := by rw [hpre, Nat.zero_add]; rfl
    obtain ⟨bB, TB, lensB, segsB, rfl, -⟩ := id hB
    refine sv (xidx sl75 sz139 rfl rfl rfl (by omega)) ?_
    refine sv (xmove rfl) ?_
    refine sv (xmove rfl) ?_
    refine sv (xmove rfl) ?_
    refine sc (xcall ca93 rfl) (c93 (gm := b87) (pos := (12 + (packA (some []) m).1.length) + (packAll packRec (packA (some []) m).2 (12 + (packA (some []) m).1.length) (m.one.take k)).1.length) (start := n) (r := r) (U := U) hR (by omega) (by omega) (by omega) hE hpo hlen (fun k hk => by have hk := hU k hk; omega) hB hgr.1 hgr.2.1 hgr.2.2 (by omega) hC (fun b hb => by have hb := (Option.some.inj hb).symm; omega) (by omega) (by omega)) ?_
    rintro _ w4 ⟨p134, q134, g134, len2, rfl, r134, m5, a134, l134, hC, hl2, hE⟩
    have z6 := m5.size
    have hM := hM.keep m5 (by show ¬ (bm = gk ∨ bm = b87 ∨ bm = gR); omega)
    have hf := hf.step m5 (fun k hk hS => by have hS : k = gk ∨ k = b87 ∨ k = gR := hS; show k = g ∨ k = b87 ∨ k = gR; omega)
    have hL1 := hL1.step m5 (fun k hk hS => by have hS : k = gk ∨ k = b87 ∨ k = gR := hS; show k = g ∨ k = b87 ∨ k = gR; omega)
    have hB := hB.keep (fun k hk => by have hk := hU k hk; omega) m5 (fun k hk hS => by have hk := hU k hk; have hS : k = gk ∨ k = b87 ∨ k = gR := hS; omega)
    have h1 := hback _ _ _ hE (by simp only [rhSegs, List.cons_append, List.nil_append, List.flatten_cons, List.flatten_nil, List.all_append, List.append_nil, nm_one, Bool.true_and] <;> rfl) m5 (fun k hk => by have hk := hU k hk; omega) (fun k hk hS => by have hk := hU k hk; have hS : k = gk ∨ k = b87 ∨ k = gR := hS; omega) res_st ⟨_, _, _, hl2, rfl, hB⟩
    refine sv (xmove rfl) ?_
    refine sv (xextr rfl rfl) ?_
    refine sv (xextr rfl rfl) ?_
    refine sv (xassign rfl) ?_
    refine sv (xassign rfl) ?_
    refine send ?_
    refine forget_wp [(0, _), (7, _), (8, _), (9, _), (13, _), (120, _), (121, _)] ⟨rfl, rfl, rfl, rfl, rfl, rfl, rfl, trivial⟩ fun _ => ?_
    refine sreg ?_
    refine sv (xmove rfl) ?_
    refine sv (xneN if89 rfl) ?_
    refine send ?_
    refine forget_wp [(0, _), (7, _), (8, _), (9, _), (13, _), (120, _), (121, _), (138, _)] ⟨rfl, rfl, rfl, rfl, rfl, rfl, rfl, rfl, trivial⟩ fun _ => ?_
    refine cno rfl ?_
    refine wp_skip ?_
    refine nBlock ?_
    refine nThen ?_
    refine forget_wp [(0, _), (7, _), (8, _), (9, _), (120, _), (121, _)] ⟨rfl, rfl, rfl, rfl, rfl, rfl, trivial⟩ fun _ => ?_
    refine lreg ?_
    refine sv (xadd rfl rfl (w64 (by omega) (by omega))) ?_
    refine sv (xmove rfl) ?_
    refine lend ?_
    refine nThen ?_
    refine ⟨(k + 1, _, g134), _, env_okl ⟨rfl, rfl, rfl, rfl, rfl, rfl, trivial⟩, ⟨hL1, (by omega), (by rw [packAll_take hrk]; exact br_cast r134 (by simp) (by simp; omega)), (by omega), (by omega), (by rw [packAll_take hrk]; exact hC), (h1)⟩, ?_⟩
    show m.one.length - (k + 1) < m.one.length - k; omega
  · skip
    refine send ?_
    refine forget_wp [(0, _), (7, _), (8, _), (9, _), (120, _), (121, _), (122, _)] ⟨rfl, rfl, rfl, rfl, rfl, rfl, rfl, trivial⟩ fun _ => ?_
    refine wp_seq ?_
    refine cno rfl ?_
    refine wp_exit ?_
    refine eThen ?_
    refine eThen ?_
    refine eHit ?_
    have eR : m.one.take k = m.one := List.take_of_length_le (by omega)
    exact frag_end (hQ (_, gk) _ _ ⟨hf, (by rw [eR] at hR ⊢; exact hR), (by omega), (hgk2), (by rw [eR] at hC; exact hC)⟩) ⟨rfl, rfl, rfl, rfl, trivial⟩
set_option maxHeartbeats 4000000 in
set_option maxRecDepth 100000 in
theorem c40r2 {w : World} {v : Value} {a1 : Option Addr} {c1 : Nat} {va v1 v3 : Value} {g gR n bm b87 : Nat} {bs : List UInt8} {m : MsgD} {U : Nat → Prop} (hR : BR w v g (n + (12 + (packA (some []) m).1.length + (pack1 (some []) m).1.length)) bs) (hg : g < w.heap.size) (hM : SB w bm lMsg (msgSegs m.head va v1 (.slice a1 m.two.length c1) v3)) (h1 : RA ResEl lRes U w (.slice a1 m.two.length c1) gR 139 m.two.length m.two) (hC : Cmp w (some b87) (pack1 (some []) m).2) (hU : ∀ k, U k → k < w.heap.size ∧ k ≠ g ∧ k ≠ b87 ∧ k ≠ gR) (hd : gR < w.heap.size ∧ b87 < w.heap.size ∧ bm ≠ g ∧ bm ≠ b87 ∧ bm ≠ gR ∧ gR ≠ g ∧ gR ≠ b87 ∧ g ≠ b87) (hg1 : ∀ r ∈ m.two, GoodP r) (hcn : m.two.length ≤ 40) (hl : n + (12 + (packA (some []) m).1.length + (pack1 (some []) m).1.length) ≤ 100000000) {Q : Exit → Act → World → Prop} {r : Nat → Value}
    (hQ : ∀ (x : Value × Nat) (r : Nat → Value) (wx : World), (match x with | (v, g2) => Fr (fun k => k = g ∨ k = b87 ∨ k = gR) w wx ∧ (BR wx v g2 (n + (12 + (packA (some []) m).1.length + (pack1 (some []) m).1.length) + (pack2 (some []) m).1.length) (bs ++ (pack2 (some []) m).1)) ∧ (g2 = g ∨ w.heap.size ≤ g2) ∧ (g2 < wx.heap.size) ∧ (Cmp wx (some b87) (pack2 (some []) m).2)) → Q .normal (env Tryz.f40.ntmps ((match x with | (v, _g2) => [(8, v)]) ++ [(0, .pointer (some ⟨bm, 0, none⟩)), (7, .int .i64 (n : Int)), (9, .map (some b87))]) r) wx) :
    (navF [true, true, true, true, true, true, true, true, true, true, true, true, true, true, true, true, false, true] Tryz.f40).wp PP Q (env Tryz.f40.ntmps [(0, .pointer (some ⟨bm, 0, none⟩)), (7, .int .i64 (n : Int)), (8, v), (9, .map (some b87)), (148, .int .i64 (m.two.length : Int)), (149, .int .i64 0)] r) w := by
  obtain ⟨a0, c0, rfl, -⟩ := hR.form
  have hf : Fr (fun k => k = g ∨ k = b87 ∨ k = gR) w w := Fr.refl _ _
  have z_hM := hM.lt
  refine nav_wp rfl ?_
  refine wp_block ?_
  refine lp [(0, _), (7, _), (9, _), (148, _)] (fun (x : Nat × Value × Nat) => match x with | (k, v, gk) => [(8, v), (149, .int .i64 (k : Int))]) (fun (x : Nat × Value × Nat) wx => match x with | (k, v, gk) => Fr (fun k => k = g ∨ k = b87 ∨ k = gR) w wx ∧ (k ≤ m.two.length) ∧ (BR wx v gk (n + (12 + (packA (some []) m).1.length + (pack1 (some []) m).1.length) + (packAll packRec (pack1 (some []) m).2 (12 + (packA (some []) m).1.length + (pack1 (some []) m).1.length) (m.two.take k)).1.length) (bs ++ (packAll packRec (pack1 (some []) m).2 (12 + (packA (some []) m).1.length + (pack1 (some []) m).1.length) (m.two.take k)).1)) ∧ (gk = g ∨ w.heap.size ≤ gk) ∧ (gk < wx.heap.size) ∧ (Cmp wx (some b87) (packAll packRec (pack1 (some []) m).2 (12 + (packA (some []) m).1.length + (pack1 (some []) m).1.length) (m.two.take k)).2) ∧ (RA ResEl lRes U wx (.slice a1 m.two.length c1) gR 139 m.two.length m.two)) (fun (x : Nat × Value × Nat) => match x with | (k, v, gk) => m.two.length - k) (0, _, g) ⟨rfl, rfl, rfl, rfl, rfl, rfl, trivial⟩ ⟨Fr.refl _ _, Nat.zero_le _, br_cast hR (by simp [packAll]) (by simp [packAll]), .inl rfl, by omega, hC, h1⟩ ?_
  rintro ⟨k, v, gk⟩ _ w2 ⟨hL1, hk, hR, hgk, hgk2, hC, h1⟩
  refine forget_wp [(0, _), (7, _), (8, _), (9, _), (148, _), (149, _)] ⟨rfl, rfl, rfl, rfl, rfl, rfl, trivial⟩ fun _ => ?_
  have z3 := hL1.size
  have hM := hM.keep hL1 (by show ¬ (bm = g ∨ bm = b87 ∨ bm = gR); omega)
  have hf := hf.step hL1 (fun k hk hS => by have hS : k = g ∨ k = b87 ∨ k = gR := hS; show k = g ∨ k = b87 ∨ k = gR; omega)
  obtain ⟨aR, cR, rfl, -⟩ := hR.form
  have hKb := packRecs_bound (take_all_mem hg1 k) (take_le40 hcn k) (pack1 (some []) m).2 (12 + (packA (some []) m).1.length + (pack1 (some []) m).1.length)
  refine sreg ?_
  refine svP (xlss rfl rfl) (fun hc150 => ?_) (fun hc150 => ?_)
  · skip
    refine send ?_
    refine forget_wp [(0, _), (7, _), (8, _), (9, _), (148, _), (149, _), (150, _)] ⟨rfl, rfl, rfl, rfl, rfl, rfl, rfl, trivial⟩ fun _ => ?_
    refine wp_seq ?_
    refine cyes rfl ?_
    refine wp_skip ?_
    refine nThen ?_
    refine forget_wp [(0, _), (7, _), (8, _), (9, _), (148, _), (149, _)] ⟨rfl, rfl, rfl, rfl, rfl, rfl, trivial⟩ fun _ => ?_
    refine wp_seq ?_
    refine wp_block ?_
    obtain ⟨r, hrk⟩ := some_of_lt (by omega : k < m.two.length)
    have hgr := hg1 r (List.mem_of_getElem? hrk)
    refine sreg ?_
    refine sv (xmove rfl) ?_
    refine sv (xassign rfl) ?_
    refine send ?_
    refine forget_wp [(0, _), (7, _), (8, _), (9, _), (14, _), (148, _), (149, _)] ⟨rfl, rfl, rfl, rfl, rfl, rfl, rfl, trivial⟩ fun _ => ?_
    refine sreg ?_
    refine sv (xassign rfl) ?_
    refine send ?_
    refine forget_wp [(0, _), (7, _), (8, _), (9, _), (14, _), (148, _), (149, _)] ⟨rfl, rfl, rfl, rfl, rfl, rfl, rfl, trivial⟩ fun _ => ?_
    refine sreg ?_
    refine sv (xmove rfl) ?_
    refine sv (xnilc rfl) ?_
    refine sv (xfld fl79_3 rfl) ?_
    refine sv (xld on75 rfl (hM.r.c 12 rfl rfl)) ?_
    refine sv (xmove rfl) ?_
    obtain ⟨pre, sg, post, cc, hv1, hpre, hE, hEl, hback⟩ := RA.elem h1 (by decide) hrk
    simp only [Value.slice.injEq] at hv1
    obtain ⟨rfl, -, rfl⟩ := hv1
    obtain ⟨typ, len, vb, hlen, rfl, hB⟩ := hEl
    have hpo : pre.length = 0 + k * 261 := by rw [hpre, Nat.zero_add]; rfl
    obtain ⟨bB, TB, lensB, segsB, rfl, -⟩ := id hB
    refine sv (xidx sl75 sz139 rfl rfl rfl (by omega)) ?_
    refine sv (xmove rfl) ?_
    refine sv (xmove rfl) ?_
    refine sv (xmove rfl) ?_
    refine sc (xcall ca93 rfl) (c93 (gm := b87) (pos := (12 + (packA (some []) m).1.length + (pack1 (some []) m).1.length) + (packAll packRec (pack1 (some []) m).2 (12 + (packA (some []) m).1.length + (pack1 (some []) m).1.length) (m.two.take k)).1.length) (start := n) (r := r) (U := U) hR (by omega) (by omega) (by omega) hE hpo hlen (fun k hk => by have hk := hU k hk; omega) hB hgr.1 hgr.2.1 hgr.2.2 (by omega) hC (fun b hb => by have hb := (Option.some.inj hb).symm; omega) (by omega) (by omega)) ?_
    rintro _ w4 ⟨p162, q162, g162, len2, rfl, r162, m5, a162, l162, hC, hl2, hE⟩
    have z6 := m5.size
    have hM := hM.keep m5 (by show ¬ (bm = gk ∨ bm = b87 ∨ bm = gR); omega)
    have hf := hf.step m5 (fun k hk hS => by have hS : k = gk ∨ k = b87 ∨ k = gR := hS; show k = g ∨ k = b87 ∨ k = gR; omega)
    have hL1 := hL1.step m5 (fun k hk hS => by have hS : k = gk ∨ k = b87 ∨ k = gR := hS; show k = g ∨ k = b87 ∨ k = gR; omega)
    have hB := hB.keep (fun k hk => by have hk := hU k hk; omega) m5 (fun k hk hS => by have hk := hU k hk; have hS : k = gk ∨ k = b87 ∨ k = gR := hS; omega)
    have h1 := hback _ _ _ hE (by simp only [rhSegs, List.cons_append, List.nil_append, List.flatten_cons, List.flatten_nil, List.all_append, List.append_nil, nm_one, Bool.true_and] <;> rfl) m5 (fun k hk => by have hk := hU k hk; omega) (fun k hk hS => by have hk := hU k hk; have hS : k = gk ∨ k = b87 ∨ k = gR := hS; omega) res_st ⟨_, _, _, hl2, rfl, hB⟩
    refine sv (xmove rfl) ?_
    refine sv (xextr rfl rfl) ?_
    refine sv (xextr rfl rfl) ?_
    refine sv (xassign rfl) ?_
    refine sv (xassign rfl) ?_
    refine send ?_
    refine forget_wp [(0, _), (7, _), (8, _), (9, _), (15, _), (148, _), (149, _)] ⟨rfl, rfl, rfl, rfl, rfl, rfl, rfl, trivial⟩ fun _ => ?_
    refine sreg ?_
    refine sv (xmove rfl) ?_
    refine sv (xneN if89 rfl) ?_
    refine send ?_
    refine forget_wp [(0, _), (7, _), (8, _), (9, _), (15, _), (148, _), (149, _), (166, _)] ⟨rfl, rfl, rfl, rfl, rfl, rfl, rfl, rfl, trivial⟩ fun _ => ?_
    refine cno rfl ?_
    refine wp_skip ?_
    refine nBlock ?_
    refine nThen ?_
    refine forget_wp [(0, _), (7, _), (8, _), (9, _), (148, _), (149, _)] ⟨rfl, rfl, rfl, rfl, rfl, rfl, trivial⟩ fun _ => ?_
    refine lreg ?_
    refine sv (xadd rfl rfl (w64 (by omega) (by omega))) ?_
    refine sv (xmove rfl) ?_
    refine lend ?_
    refine nThen ?_
    refine ⟨(k + 1, _, g162), _, env_okl ⟨rfl, rfl, rfl, rfl, rfl, rfl, trivial⟩, ⟨hL1, (by omega), (by rw [packAll_take hrk]; exact br_cast r162 (by simp) (by simp; omega)), (by omega), (by omega), (by rw [packAll_take hrk]; exact hC), (h1)⟩, ?_⟩
    show m.two.length - (k + 1) < m.two.length - k; omega
  · skip
    refine send ?_
    refine forget_wp [(0, _), (7, _), (8, _), (9, _), (148, _), (149, _), (150, _)] ⟨rfl, rfl, rfl, rfl, rfl, rfl, rfl, trivial⟩ fun _ => ?_
    refine wp_seq ?_
    refine cno rfl ?_
    refine wp_exit ?_
    refine eThen ?_
    refine eThen ?_
    refine eHit ?_
    have eR : m.two.take k = m.two := List.take_of_length_le (by omega)
    exact frag_end (hQ (_, gk) _ _ ⟨hf, (by rw [eR] at hR ⊢; exact hR), (by omega), (hgk2), (by rw [eR] at hC; exact hC)⟩) ⟨rfl, rfl, rfl, rfl, trivial⟩
set_option maxHeartbeats 4000000 in
set_option maxRecDepth 100000 in
theorem c40r3 {w : World} {v : Value} {a1 : Option Addr} {c1 : Nat} {va v1 v2 : Value} {g gR n bm b87 : Nat} {bs : List UInt8} {m : MsgD} {U : Nat → Prop} (hR : BR w v g (n + (12 + (packA (some []) m).1.length + (pack1 (some []) m).1.length + (pack2 (some []) m).1.length)) bs) (hg : g < w.heap.size) (hM : SB w bm lMsg (msgSegs m.head va v1 v2 (.slice a1 m.three.length c1))) (h1 : RA ResEl lRes U w (.slice a1 m.three.length c1) gR 139 m.three.length m.three) (hC : Cmp w (some b87) (pack2 (some []) m).2) (hU : ∀ k, U k → k < w.heap.size ∧ k ≠ g ∧ k ≠ b87 ∧ k ≠ gR) (hd : gR < w.heap.size ∧ b87 < w.heap.size ∧ bm ≠ g ∧ bm ≠ b87 ∧ bm ≠ gR ∧ gR ≠ g ∧ gR ≠ b87 ∧ g ≠ b87) (hg1 : ∀ r ∈ m.three, GoodP r) (hcn : m.three.length ≤ 40) (hl : n + (12 + (packA (some []) m).1.length + (pack1 (some []) m).1.length + (pack2 (some []) m).1.length) ≤ 100000000) {Q : Exit → Act → World → Prop} {r : Nat → Value}
    (hQ : ∀ (x : Value × Nat) (r : Nat → Value) (wx : World), (match x with | (v, g2) => Fr (fun k => k = g ∨ k = b87 ∨ k = gR) w wx ∧ (BR wx v g2 (n + (12 + (packA (some []) m).1.length + (pack1 (some []) m).1.length + (pack2 (some []) m).1.length) + (pack3 (some []) m).1.length) (bs ++ (pack3 (some []) m).1)) ∧ (g2 = g ∨ w.heap.size ≤ g2) ∧ (g2 < wx.heap.size) ∧ (Cmp wx (some b87) (pack3 (some []) m).2)) → Q .normal (env Tryz.f40.ntmps ((match x with | (v, _g2) => [(8, v)]) ++ []) r) wx) :
    (navF [true, true, true, true, true, true, true, true, true, true, true, true, true, true, true, true, true, false, true] Tryz.f40).wp PP Q (env Tryz.f40.ntmps [(0, .pointer (some ⟨bm, 0, none⟩)), (7, .int .i64 (n : Int)), (8, v), (9, .map (some b87)), (176, .int .i64 (m.three.length : Int)), (177, .int .i64 0)] r) w := by
  obtain ⟨a0, c0, rfl, -⟩ := hR.form
  have hf : Fr (fun k => k = g ∨ k = b87 ∨ k = gR) w w := Fr.refl _ _
  have z_hM := hM.lt
  refine nav_wp rfl ?_
  refine wp_block ?_
  refine lp [(0, _), (7, _), (9, _), (176, _)] (fun (x : Nat × Value × Nat) => match x with | (k, v, gk) => [(8, v), (177, .int .i64 (k : Int))]) (fun (x : Nat × Value × Nat) wx => match x with | (k, v, gk) => Fr (fun k => k = g ∨ k = b87 ∨ k = gR) w wx ∧ (k ≤ m.three.length) ∧ (BR wx v gk (n + (12 + (packA (some []) m).1.length + (pack1 (some []) m).1.length + (pack2 (some []) m).1.length) + (packAll packRec (pack2 (some []) m).2 (12 + (packA (some []) m).1.length + (pack1 (some []) m).1.length + (pack2 (some []) m).1.length) (m.three.take k)).1.length) (bs ++ (packAll packRec (pack2 (some []) m).2 (12 + (packA (some []) m).1.length + (pack1 (some []) m).1.length + (pack2 (some []) m).1.length) (m.three.take k)).1)) ∧ (gk = g ∨ w.heap.size ≤ gk) ∧ (gk < wx.heap.size) ∧ (Cmp wx (some b87) (packAll packRec (pack2 (some []) m).2 (12 + (packA (some []) m).1.length + (pack1 (some []) m).1.length + (pack2 (some []) m).1.length) (m.three.take k)).2) ∧ (RA ResEl lRes U wx (.slice a1 m.three.length c1) gR 139 m.three.length m.three)) (fun (x : Nat × Value × Nat) => match x with | (k, v, gk) => m.three.length - k) (0, _, g) ⟨rfl, rfl, rfl, rfl, rfl, rfl, trivial⟩ ⟨Fr.refl _ _, Nat.zero_le _, br_cast hR (by simp [packAll]) (by simp [packAll]), .inl rfl, by omega, hC, h1⟩ ?_
  rintro ⟨k, v, gk⟩ _ w2 ⟨hL1, hk, hR, hgk, hgk2, hC, h1⟩
  refine forget_wp [(0, _), (7, _), (8, _), (9, _), (176, _), (177, _)] ⟨rfl, rfl, rfl, rfl, rfl, rfl, trivial⟩ fun _ => ?_
  have z3 := hL1.size
  have hM := hM.keep hL1 (by show ¬ (bm = g ∨ bm = b87 ∨ bm = gR); omega)
  have hf := hf.step hL1 (fun k hk hS => by have hS : k = g ∨ k = b87 ∨ k = gR := hS; show k = g ∨ k = b87 ∨ k = gR; omega)
  obtain ⟨aR, cR, rfl, -⟩ := hR.form
  have hKb := packRecs_bound (take_all_mem hg1 k) (take_le40 hcn k) (pack2 (some []) m).2 (12 + (packA (some []) m).1.length + (pack1 (some []) m).1.length + (pack2 (some []) m).1.length)
  refine sreg ?_
  refine svP (xlss rfl rfl) (fun hc178 => ?_) (fun hc178 => ?_)
  · skip
    refine send ?_
    refine forget_wp [(0, _), (7, _), (8, _), (9, _), (176, _), (177, _), (178, _)] ⟨rfl, rfl, rfl, rfl, rfl, rfl, rfl, trivial⟩ fun _ => ?_
    refine wp_seq ?_
    refine cyes rfl ?_
    refine wp_skip ?_
    refine nThen ?_
    refine forget_wp [(0, _), (7, _), (8, _), (9, _), (176, _), (177, _)] ⟨rfl, rfl, rfl, rfl, rfl, rfl, trivial⟩ fun _ => ?_
    refine wp_seq ?_
    refine wp_block ?_
    obtain ⟨r, hrk⟩ := some_of_lt (by omega : k < m.three.length)
    have hgr := hg1 r (List.mem_of_getElem? hrk)
    refine sreg ?_
    refine sv (xmove rfl) ?_
    refine sv (xassign rfl) ?_
    refine send ?_
    refine forget_wp [(0, _), (7, _), (8, _), (9, _), (16, _), (176, _), (177, _)] ⟨rfl, rfl, rfl, rfl, rfl, rfl, rfl, trivial⟩ fun _ => ?_
    refine sreg ?_
    refine sv (xassign rfl) ?_
    refine send ?_
    refine forget_wp [(0, _), (7, _), (8, _), (9, _), (16, _), (176, _), (177, _)] ⟨rfl, rfl, rfl, rfl, rfl, rfl, rfl, trivial⟩ fun _ => ?_
    refine sreg ?_
    refine sv (xmove rfl) ?_
    refine sv (xnilc rfl) ?_
    refine sv (xfld fl79_4 rfl) ?_
    refine sv (xld on75 rfl (hM.r.c 13 rfl rfl)) ?_
    refine sv (xmove rfl) ?_
    obtain ⟨pre, sg, post, cc, hv1, hpre, hE, hEl, hback⟩ := RA.elem h1 (by decide) hrk
    simp only [Value.slice.injEq] at hv1
    obtain ⟨rfl, -, rfl⟩ := hv1
    obtain ⟨typ, len, vb, hlen, rfl, hB⟩ := hEl
    have hpo : pre.length = 0 + k * 261 := by rw [hpre, Nat.zero_add]; rfl
    obtain ⟨bB, TB, lensB, segsB, rfl, -⟩ := id hB
    refine sv (xidx sl75 sz139 rfl rfl rfl (by omega)) ?_
    refine sv (xmove rfl) ?_
    refine sv (xmove rfl) ?_
    refine sv (xmove rfl) ?_
    refine sc (xcall ca93 rfl) (c93 (gm := b87) (pos := (12 + (packA (some []) m).1.length + (pack1 (some []) m).1.length + (pack2 (some []) m).1.length) + (packAll packRec (pack2 (some []) m).2 (12 + (packA (some []) m).1.length + (pack1 (some []) m).1.length + (pack2 (some []) m).1.length) (m.three.take k)).1.length) (start := n) (r := r) (U := U) hR (by omega) (by omega) (by omega) hE hpo hlen (fun k hk => by have hk := hU k hk; omega) hB hgr.1 hgr.2.1 hgr.2.2 (by omega) hC (fun b hb => by have hb := (Option.some.inj hb).symm; omega) (by omega) (by omega)) ?_
    rintro _ w4 ⟨p190, q190, g190, len2, rfl, r190, m5, a190, l190, hC, hl2, hE⟩
    have z6 := m5.size
    have hM := hM.keep m5 (by show ¬ (bm = gk ∨ bm = b87 ∨ bm = gR); omega)
    have hf := hf.step m5 (fun k hk hS => by have hS : k = gk ∨ k = b87 ∨ k = gR := hS; show k = g ∨ k = b87 ∨ k = gR; omega)
    have hL1 := hL1.step m5 (fun k hk hS => by have hS : k = gk ∨ k = b87 ∨ k = gR := hS; show k = g ∨ k = b87 ∨ k = gR; omega)
    have hB := hB.keep (fun k hk => by have hk := hU k hk; omega) m5 (fun k hk hS => by have hk := hU k hk; have hS : k = gk ∨ k = b87 ∨ k = gR := hS; omega)
    have h1 := hback _ _ _ hE (by simp only [rhSegs, List.cons_append, List.nil_append, List.flatten_cons, List.flatten_nil, List.all_append, List.append_nil, nm_one, Bool.true_and] <;> rfl) m5 (fun k hk => by have hk := hU k hk; omega) (fun k hk hS => by have hk := hU k hk; have hS : k = gk ∨ k = b87 ∨ k = gR := hS; omega) res_st ⟨_, _, _, hl2, rfl, hB⟩
    refine sv (xmove rfl) ?_
    refine sv (xextr rfl rfl) ?_
    refine sv (xextr rfl rfl) ?_
    refine sv (xassign rfl) ?_
    refine sv (xassign rfl) ?_
    refine send ?_
    refine forget_wp [(0, _), (7, _), (8, _), (9, _), (17, _), (176, _), (177, _)] ⟨rfl, rfl, rfl, rfl, rfl, rfl, rfl, trivial⟩ fun _ => ?_
    refine sreg ?_
    refine sv (xmove rfl) ?_
    refine sv (xneN if89 rfl) ?_
    refine send ?_
    refine forget_wp [(0, _), (7, _), (8, _), (9, _), (17, _), (176, _), (177, _), (194, _)] ⟨rfl, rfl, rfl, rfl, rfl, rfl, rfl, rfl, trivial⟩ fun _ => ?_
    refine cno rfl ?_
    refine wp_skip ?_
    refine nBlock ?_
    refine nThen ?_
    refine forget_wp [(0, _), (7, _), (8, _), (9, _), (176, _), (177, _)] ⟨rfl, rfl, rfl, rfl, rfl, rfl, trivial⟩ fun _ => ?_
    refine lreg ?_
    refine sv (xadd rfl rfl (w64 (by omega) (by omega))) ?_
    refine sv (xmove rfl) ?_
    refine lend ?_
    refine nThen ?_
    refine ⟨(k + 1, _, g190), _, env_okl ⟨rfl, rfl, rfl, rfl, rfl, rfl, trivial⟩, ⟨hL1, (by omega), (by rw [packAll_take hrk]; exact br_cast r190 (by simp) (by simp; omega)), (by omega), (by omega), (by rw [packAll_take hrk]; exact hC), (h1)⟩, ?_⟩
    show m.three.length - (k + 1) < m.three.length - k; omega
  · skip
    refine send ?_
    refine forget_wp [(0, _), (7, _), (8, _), (9, _), (176, _), (177, _), (178, _)] ⟨rfl, rfl, rfl, rfl, rfl, rfl, rfl, trivial⟩ fun _ => ?_
    refine wp_seq ?_
    refine cno rfl ?_
    refine wp_exit ?_
    refine eThen ?_
    refine eThen ?_
    refine eHit ?_
    have eR : m.three.take k = m.three := List.take_of_length_le (by omega)
    exact frag_end (hQ (_, gk) _ _ ⟨hf, (by rw [eR] at hR ⊢; exact hR), (by omega), (hgk2), (by rw [eR] at hC; exact hC)⟩) ⟨rfl, trivial⟩
set_option maxHeartbeats 4000000 in
set_option maxRecDepth 100000 in
theorem c40 {w : World} {v va v1 v2 v3 : Value} {g n bm g1 g2 g3 : Nat} {bs : List UInt8} {m : MsgD} {U : Nat → Prop} (hR : BR w v g n bs) (hg : g < w.heap.size) (hM : SB w bm lMsg (msgSegs m.head va v1 v2 v3)) (hq : LA QEl lQ U w va m.asks) (h1 : RA ResEl lRes U w v1 g1 139 m.one.length m.one) (h2 : RA ResEl lRes U w v2 g2 139 m.two.length m.two) (h3 : RA ResEl lRes U w v3 g3 139 m.three.length m.three) (hU : ∀ k, U k → k < w.heap.size ∧ k ≠ g ∧ k ≠ g1 ∧ k ≠ g2 ∧ k ≠ g3) (hd : bm < g ∧ g1 < g2 ∧ g2 < g3 ∧ g3 < g ∧ bm ≠ g1 ∧ bm ≠ g2 ∧ bm ≠ g3) (hna : ∀ a ∈ m.asks, nameL (bt a.name)) (hg1 : ∀ r ∈ m.one, GoodP r) (hg2 : ∀ r ∈ m.two, GoodP r) (hg3 : ∀ r ∈ m.three, GoodP r) (hcn : m.asks.length ≤ 40 ∧ m.one.length ≤ 40 ∧ m.two.length ≤ 40 ∧ m.three.length ≤ 40) (hl : n ≤ 10000000)  :
    Ret PP 40 [.pointer (some ⟨bm, 0, none⟩), v] w (MsgC w g g1 g2 g3 n bs (packM (some []) m)) := by
  obtain ⟨a0, c0, rfl, -⟩ := hR.form
  obtain ⟨aq, cq, rfl⟩ := hq.form
  obtain ⟨a1, c1, rfl⟩ := RA.form h1
  obtain ⟨a2, c2, rfl⟩ := RA.form h2
  obtain ⟨a3, c3, rfl⟩ := RA.form h3
  have hf : Fr (fun k => k = g ∨ k = g1 ∨ k = g2 ∨ k = g3) w w := Fr.refl _ _
  have z_hM := hM.lt
  refine ret_of Tryz.func40 rfl rfl rfl [(0, _), (1, _)] rfl ?_
  refine sreg ?_
  refine sv (xassign rfl) ?_
  refine sv (xassign rfl) ?_
  refine send ?_
  refine forget_wp [(0, _), (1, _)] ⟨rfl, rfl, trivial⟩ fun _ => ?_
  refine wp_seq ?_
  refine sreg ?_
  refine sv (xmove rfl) ?_
  refine sv (xnilc rfl) ?_
  refine sv (xfld fl79_1 rfl) ?_
  refine sv (xld on77 rfl (hM.r.c 10 rfl rfl)) ?_
  refine sv (xlen sl77 rfl) ?_
  refine sv (exF (xgtr rfl rfl) (by omega)) ?_
  refine send ?_
  refine forget_wp [(0, _), (1, _), (23, _)] ⟨rfl, rfl, rfl, trivial⟩ fun _ => ?_
  refine cno rfl ?_
  refine wp_skip ?_
  refine nThen ?_
  refine forget_wp [(0, _), (1, _)] ⟨rfl, rfl, trivial⟩ fun _ => ?_
  refine wp_seq ?_
  refine sreg ?_
  refine sv (xmove rfl) ?_
  refine sv (xnilc rfl) ?_
  refine sv (xfld fl79_2 rfl) ?_
  refine sv (xld on75 rfl (hM.r.c 11 rfl rfl)) ?_
  refine sv (xlen sl75 rfl) ?_
  refine sv (exF (xgtr rfl rfl) (by omega)) ?_
  refine send ?_
  refine forget_wp [(0, _), (1, _), (30, _)] ⟨rfl, rfl, rfl, trivial⟩ fun _ => ?_
  refine cno rfl ?_
  refine wp_skip ?_
  refine nThen ?_
  refine forget_wp [(0, _), (1, _)] ⟨rfl, rfl, trivial⟩ fun _ => ?_
  refine wp_seq ?_
  refine sreg ?_
  refine sv (xmove rfl) ?_
  refine sv (xnilc rfl) ?_
  refine sv (xfld fl79_3 rfl) ?_
  refine sv (xld on75 rfl (hM.r.c 12 rfl rfl)) ?_
  refine sv (xlen sl75 rfl) ?_
  refine sv (exF (xgtr rfl rfl) (by omega)) ?_
  refine send ?_
  refine forget_wp [(0, _), (1, _), (37, _)] ⟨rfl, rfl, rfl, trivial⟩ fun _ => ?_
  refine cno rfl ?_
  refine wp_skip ?_
  refine nThen ?_
  refine forget_wp [(0, _), (1, _)] ⟨rfl, rfl, trivial⟩ fun _ => ?_
  refine wp_seq ?_
  refine sreg ?_
  refine sv (xmove rfl) ?_
  refine sv (xnilc rfl) ?_
  refine sv (xfld fl79_4 rfl) ?_
  refine sv (xld on75 rfl (hM.r.c 13 rfl rfl)) ?_
  refine sv (xlen sl75 rfl) ?_
  refine sv (exF (xgtr rfl rfl) (by omega)) ?_
  refine send ?_
  refine forget_wp [(0, _), (1, _), (44, _)] ⟨rfl, rfl, rfl, trivial⟩ fun _ => ?_
  refine cno rfl ?_
  refine wp_skip ?_
  refine nThen ?_
  refine forget_wp [(0, _), (1, _)] ⟨rfl, rfl, trivial⟩ fun _ => ?_
  refine sreg ?_
  refine svK (xallS (lens := [1, 1, 1, 1, 1, 1]) in121 rfl) ?_
  rintro _ w2 ⟨b6, rfl, m3, h6, e1, s1⟩
  have hR := hR.keep m3 (fun h => h)
  have hM := hM.keep m3 (fun h => h)
  have hq := hq.keep q_st (fun k hk => by have hk := hU k hk; omega) m3 (fun _ _ h => h)
  have h1 := h1.keep res_st (fun k hk => by have hk := hU k hk; omega) m3 (fun _ _ h => h) (fun h => h)
  have h2 := h2.keep res_st (fun k hk => by have hk := hU k hk; omega) m3 (fun _ _ h => h) (fun h => h)
  have h3 := h3.keep res_st (fun k hk => by have hk := hU k hk; omega) m3 (fun _ _ h => h) (fun h => h)
  have hf := hf.step0 m3
  refine send ?_
  refine forget_wp [(0, _), (1, _), (6, _)] ⟨rfl, rfl, rfl, trivial⟩ fun _ => ?_
  refine sreg ?_
  refine sv (xmove rfl) ?_
  refine sv (xnilc rfl) ?_
  refine sv (xfld fl79_0 rfl) ?_
  refine sc (xcall ca90 rfl) (c90 (h := m.head) (SR.sub hM.r 0 10 rfl) (by omega)) ?_
  rintro _ w4 ⟨rfl, m5⟩
  have z6 := m5.size
  have hR := hR.keep m5 (fun h => h)
  have hM := hM.keep m5 (fun h => h)
  have hq := hq.keep q_st (fun k hk => by have hk := hU k hk; omega) m5 (fun _ _ h => h)
  have h1 := h1.keep res_st (fun k hk => by have hk := hU k hk; omega) m5 (fun _ _ h => h) (fun h => h)
  have h2 := h2.keep res_st (fun k hk => by have hk := hU k hk; omega) m5 (fun _ _ h => h) (fun h => h)
  have h3 := h3.keep res_st (fun k hk => by have hk := hU k hk; omega) m5 (fun _ _ h => h) (fun h => h)
  have hf := hf.step0 m5
  have h6 := h6.keep m5 (fun h => h)
  refine sv (xmove rfl) ?_
  refine sv (xextr rfl rfl) ?_
  refine sv (xextr rfl rfl) ?_
  refine sv (xfld fl121_0 rfl) ?_
  refine suK (xstF 0 sz22 h6 rfl rfl rfl rfl rfl) ?_
  rintro w8 ⟨m9, h6, s7⟩
  have hR := hR.keep m9 (by show ¬ (g = b6); omega)
  have hM := hM.keep m9 (by show ¬ (bm = b6); omega)
  have hq := hq.keep q_st (fun k hk => by have hk := hU k hk; omega) m9 (fun k hk hS => by have hk := hU k hk; have hS : k = b6 := hS; omega)
  have h1 := h1.keep res_st (fun k hk => by have hk := hU k hk; omega) m9 (fun k hk hS => by have hk := hU k hk; have hS : k = b6 := hS; omega) (by show ¬ (g1 = b6); omega)
  have h2 := h2.keep res_st (fun k hk => by have hk := hU k hk; omega) m9 (fun k hk hS => by have hk := hU k hk; have hS : k = b6 := hS; omega) (by show ¬ (g2 = b6); omega)
  have h3 := h3.keep res_st (fun k hk => by have hk := hU k hk; omega) m9 (fun k hk hS => by have hk := hU k hk; have hS : k = b6 := hS; omega) (by show ¬ (g3 = b6); omega)
  have hf := hf.step m9 (fun k hk hS => by have hS : k = b6 := hS; show k = g ∨ k = g1 ∨ k = g2 ∨ k = g3; omega)
  refine sv (xfld fl121_1 rfl) ?_
  refine suK (xstF 1 sz22 h6 rfl rfl rfl rfl rfl) ?_
  rintro w11 ⟨m12, h6, s10⟩
  have hR := hR.keep m12 (by show ¬ (g = b6); omega)
  have hM := hM.keep m12 (by show ¬ (bm = b6); omega)
  have hq := hq.keep q_st (fun k hk => by have hk := hU k hk; omega) m12 (fun k hk hS => by have hk := hU k hk; have hS : k = b6 := hS; omega)
  have h1 := h1.keep res_st (fun k hk => by have hk := hU k hk; omega) m12 (fun k hk hS => by have hk := hU k hk; have hS : k = b6 := hS; omega) (by show ¬ (g1 = b6); omega)
  have h2 := h2.keep res_st (fun k hk => by have hk := hU k hk; omega) m12 (fun k hk hS => by have hk := hU k hk; have hS : k = b6 := hS; omega) (by show ¬ (g2 = b6); omega)
  have h3 := h3.keep res_st (fun k hk => by have hk := hU k hk; omega) m12 (fun k hk hS => by have hk := hU k hk; have hS : k = b6 := hS; omega) (by show ¬ (g3 = b6); omega)
  have hf := hf.step m12 (fun k hk hS => by have hS : k = b6 := hS; show k = g ∨ k = g1 ∨ k = g2 ∨ k = g3; omega)
  refine send ?_
  refine forget_wp [(0, _), (1, _), (6, _)] ⟨rfl, rfl, rfl, trivial⟩ fun _ => ?_
  refine sreg ?_
  refine sv (xmove rfl) ?_
  refine sv (xnilc rfl) ?_
  refine sv (xfld fl79_1 rfl) ?_
  refine sv (xld on77 rfl (hM.r.c 10 rfl rfl)) ?_
  refine sv (xlen sl77 rfl) ?_
  refine sv (xconv hs3 ki22 rfl (wu16n m.asks.length (by omega))) ?_
  refine sv (xfld fl121_2 rfl) ?_
  refine suK (xstF 2 sz22 h6 rfl rfl rfl rfl rfl) ?_
  rintro w14 ⟨m15, h6, s13⟩
  have hR := hR.keep m15 (by show ¬ (g = b6); omega)
  have hM := hM.keep m15 (by show ¬ (bm = b6); omega)
  have hq := hq.keep q_st (fun k hk => by have hk := hU k hk; omega) m15 (fun k hk hS => by have hk := hU k hk; have hS : k = b6 := hS; omega)
  have h1 := h1.keep res_st (fun k hk => by have hk := hU k hk; omega) m15 (fun k hk hS => by have hk := hU k hk; have hS : k = b6 := hS; omega) (by show ¬ (g1 = b6); omega)
  have h2 := h2.keep res_st (fun k hk => by have hk := hU k hk; omega) m15 (fun k hk hS => by have hk := hU k hk; have hS : k = b6 := hS; omega) (by show ¬ (g2 = b6); omega)
  have h3 := h3.keep res_st (fun k hk => by have hk := hU k hk; omega) m15 (fun k hk hS => by have hk := hU k hk; have hS : k = b6 := hS; omega) (by show ¬ (g3 = b6); omega)
  have hf := hf.step m15 (fun k hk hS => by have hS : k = b6 := hS; show k = g ∨ k = g1 ∨ k = g2 ∨ k = g3; omega)
  refine send ?_
  refine forget_wp [(0, _), (1, _), (6, _)] ⟨rfl, rfl, rfl, trivial⟩ fun _ => ?_
  refine sreg ?_
  refine sv (xmove rfl) ?_
  refine sv (xnilc rfl) ?_
  refine sv (xfld fl79_2 rfl) ?_
  refine sv (xld on75 rfl (hM.r.c 11 rfl rfl)) ?_
  refine sv (xlen sl75 rfl) ?_
  refine sv (xconv hs3 ki22 rfl (wu16n m.one.length (by omega))) ?_
  refine sv (xfld fl121_3 rfl) ?_
  refine suK (xstF 3 sz22 h6 rfl rfl rfl rfl rfl) ?_
  rintro w17 ⟨m18, h6, s16⟩
  have hR := hR.keep m18 (by show ¬ (g = b6); omega)
  have hM := hM.keep m18 (by show ¬ (bm = b6); omega)
  have hq := hq.keep q_st (fun k hk => by have hk := hU k hk; omega) m18 (fun k hk hS => by have hk := hU k hk; have hS : k = b6 := hS; omega)
  have h1 := h1.keep res_st (fun k hk => by have hk := hU k hk; omega) m18 (fun k hk hS => by have hk := hU k hk; have hS : k = b6 := hS; omega) (by show ¬ (g1 = b6); omega)
  have h2 := h2.keep res_st (fun k hk => by have hk := hU k hk; omega) m18 (fun k hk hS => by have hk := hU k hk; have hS : k = b6 := hS; omega) (by show ¬ (g2 = b6); omega)
  have h3 := h3.keep res_st (fun k hk => by have hk := hU k hk; omega) m18 (fun k hk hS => by have hk := hU k hk; have hS : k = b6 := hS; omega) (by show ¬ (g3 = b6); omega)
  have hf := hf.step m18 (fun k hk hS => by have hS : k = b6 := hS; show k = g ∨ k = g1 ∨ k = g2 ∨ k = g3; omega)
  refine send ?_
  refine forget_wp [(0, _), (1, _), (6, _)] ⟨rfl, rfl, rfl, trivial⟩ fun _ => ?_
  refine sreg ?_
  refine sv (xmove rfl) ?_
  refine sv (xnilc rfl) ?_
  refine sv (xfld fl79_3 rfl) ?_
  refine sv (xld on75 rfl (hM.r.c 12 rfl rfl)) ?_
  refine sv (xlen sl75 rfl) ?_
  refine sv (xconv hs3 ki22 rfl (wu16n m.two.length (by omega))) ?_
  refine sv (xfld fl121_4 rfl) ?_
  refine suK (xstF 4 sz22 h6 rfl rfl rfl rfl rfl) ?_
  rintro w20 ⟨m21, h6, s19⟩
  have hR := hR.keep m21 (by show ¬ (g = b6); omega)
  have hM := hM.keep m21 (by show ¬ (bm = b6); omega)
  have hq := hq.keep q_st (fun k hk => by have hk := hU k hk; omega) m21 (fun k hk hS => by have hk := hU k hk; have hS : k = b6 := hS; omega)
  have h1 := h1.keep res_st (fun k hk => by have hk := hU k hk; omega) m21 (fun k hk hS => by have hk := hU k hk; have hS : k = b6 := hS; omega) (by show ¬ (g1 = b6); omega)
  have h2 := h2.keep res_st (fun k hk => by have hk := hU k hk; omega) m21 (fun k hk hS => by have hk := hU k hk; have hS : k = b6 := hS; omega) (by show ¬ (g2 = b6); omega)
  have h3 := h3.keep res_st (fun k hk => by have hk := hU k hk; omega) m21 (fun k hk hS => by have hk := hU k hk; have hS : k = b6 := hS; omega) (by show ¬ (g3 = b6); omega)
  have hf := hf.step m21 (fun k hk hS => by have hS : k = b6 := hS; show k = g ∨ k = g1 ∨ k = g2 ∨ k = g3; omega)
  refine send ?_
  refine forget_wp [(0, _), (1, _), (6, _)] ⟨rfl, rfl, rfl, trivial⟩ fun _ => ?_
  refine sreg ?_
  refine sv (xmove rfl) ?_
  refine sv (xnilc rfl) ?_
  refine sv (xfld fl79_4 rfl) ?_
  refine sv (xld on75 rfl (hM.r.c 13 rfl rfl)) ?_
  refine sv (xlen sl75 rfl) ?_
  refine sv (xconv hs3 ki22 rfl (wu16n m.three.length (by omega))) ?_
  refine sv (xfld fl121_5 rfl) ?_
  refine suK (xstF 5 sz22 h6 rfl rfl rfl rfl rfl) ?_
  rintro w23 ⟨m24, h6, s22⟩
  have hR := hR.keep m24 (by show ¬ (g = b6); omega)
  have hM := hM.keep m24 (by show ¬ (bm = b6); omega)
  have hq := hq.keep q_st (fun k hk => by have hk := hU k hk; omega) m24 (fun k hk hS => by have hk := hU k hk; have hS : k = b6 := hS; omega)
  have h1 := h1.keep res_st (fun k hk => by have hk := hU k hk; omega) m24 (fun k hk hS => by have hk := hU k hk; have hS : k = b6 := hS; omega) (by show ¬ (g1 = b6); omega)
  have h2 := h2.keep res_st (fun k hk => by have hk := hU k hk; omega) m24 (fun k hk hS => by have hk := hU k hk; have hS : k = b6 := hS; omega) (by show ¬ (g2 = b6); omega)
  have h3 := h3.keep res_st (fun k hk => by have hk := hU k hk; omega) m24 (fun k hk hS => by have hk := hU k hk; have hS : k = b6 := hS; omega) (by show ¬ (g3 = b6); omega)
  have hf := hf.step m24 (fun k hk hS => by have hS : k = b6 := hS; show k = g ∨ k = g1 ∨ k = g2 ∨ k = g3; omega)
  refine send ?_
  refine forget_wp [(0, _), (1, _), (6, _)] ⟨rfl, rfl, rfl, trivial⟩ fun _ => ?_
  refine sreg ?_
  refine sv (xmove rfl) ?_
  refine sv (xlen sl37 rfl) ?_
  refine sv (xassign rfl) ?_
  refine send ?_
  refine forget_wp [(0, _), (1, _), (6, _), (7, _)] ⟨rfl, rfl, rfl, rfl, trivial⟩ fun _ => ?_
  refine sreg ?_
  refine sv (xmove rfl) ?_
  refine sc (xcall ca91 rfl) (c91 (x0 := m.head.id.toNat) (x1 := (hbits m.head).toNat) (x2 := m.asks.length) (x3 := m.one.length) (x4 := m.two.length) (x5 := m.three.length) hR (by omega) h6.r (by omega) (by omega) ⟨u16lt _, u16lt _, by omega, by omega, by omega, by omega⟩ (by omega)) ?_
  rintro _ w25 ⟨p86, q86, g86, rfl, r86, m26, a86, l86⟩
  have z27 := m26.size
  have hM := hM.keep m26 (by show ¬ (bm = g); omega)
  have hq := hq.keep q_st (fun k hk => by have hk := hU k hk; omega) m26 (fun k hk hS => by have hk := hU k hk; have hS : k = g := hS; omega)
  have h1 := h1.keep res_st (fun k hk => by have hk := hU k hk; omega) m26 (fun k hk hS => by have hk := hU k hk; have hS : k = g := hS; omega) (by show ¬ (g1 = g); omega)
  have h2 := h2.keep res_st (fun k hk => by have hk := hU k hk; omega) m26 (fun k hk hS => by have hk := hU k hk; have hS : k = g := hS; omega) (by show ¬ (g2 = g); omega)
  have h3 := h3.keep res_st (fun k hk => by have hk := hU k hk; omega) m26 (fun k hk hS => by have hk := hU k hk; have hS : k = g := hS; omega) (by show ¬ (g3 = g); omega)
  have hf := hf.step m26 (fun k hk hS => by have hS : k = g := hS; show k = g ∨ k = g1 ∨ k = g2 ∨ k = g3; omega)
  have h6 := h6.keep m26 (by show ¬ (b6 = g); omega)
  refine sv (xassign rfl) ?_
  refine send ?_
  refine forget_wp [(0, _), (7, _), (8, _)] ⟨rfl, rfl, rfl, trivial⟩ fun _ => ?_
  refine sreg ?_
  refine svK (xmkmap) ?_
  rintro _ w28 ⟨b87, rfl, m29, hP, e87, s87⟩
  have hM := hM.keep m29 (fun h => h)
  have hq := hq.keep q_st (fun k hk => by have hk := hU k hk; omega) m29 (fun _ _ h => h)
  have h1 := h1.keep res_st (fun k hk => by have hk := hU k hk; omega) m29 (fun _ _ h => h) (fun h => h)
  have h2 := h2.keep res_st (fun k hk => by have hk := hU k hk; omega) m29 (fun _ _ h => h) (fun h => h)
  have h3 := h3.keep res_st (fun k hk => by have hk := hU k hk; omega) m29 (fun _ _ h => h) (fun h => h)
  have hf := hf.step0 m29
  have h6 := h6.keep m29 (fun h => h)
  have r86 := r86.keep m29 (fun h => h)
  have hC : Cmp w28 (some b87) (some []) := hP
  refine sv (xassign rfl) ?_
  refine send ?_
  refine forget_wp [(0, _), (7, _), (8, _), (9, _)] ⟨rfl, rfl, rfl, rfl, trivial⟩ fun _ => ?_
  refine wp_seq ?_
  refine sreg ?_
  refine sv (xmove rfl) ?_
  refine sv (xnilc rfl) ?_
  refine sv (xfld fl79_1 rfl) ?_
  refine sv (xld on77 rfl (hM.r.c 10 rfl rfl)) ?_
  refine sv (xlen sl77 rfl) ?_
  refine sv (xmove rfl) ?_
  refine send ?_
  refine forget_wp [(0, _), (7, _), (8, _), (9, _), (92, _), (93, _)] ⟨rfl, rfl, rfl, rfl, rfl, rfl, trivial⟩ fun _ => ?_
  refine c40a (m := m) (n := n) (bs := bs ++ headL m.head (countsM m)) (br_cast r86 (by rw [headL_hdrL, bvs_app]) rfl) (by omega) hM hq (fun k hk => by have hk := hU k hk; omega) hC (by omega) hna (by omega) (by omega) ?_
  rintro ⟨v, gA⟩ _ w30 ⟨m31, hR, hgA, hgA2, hC⟩
  have z32 := m31.size
  have hM := hM.keep m31 (by show ¬ (bm = g86 ∨ bm = b87); omega)
  have hq := hq.keep q_st (fun k hk => by have hk := hU k hk; omega) m31 (fun k hk hS => by have hk := hU k hk; have hS : k = g86 ∨ k = b87 := hS; omega)
  have h1 := h1.keep res_st (fun k hk => by have hk := hU k hk; omega) m31 (fun k hk hS => by have hk := hU k hk; have hS : k = g86 ∨ k = b87 := hS; omega) (by show ¬ (g1 = g86 ∨ g1 = b87); omega)
  have h2 := h2.keep res_st (fun k hk => by have hk := hU k hk; omega) m31 (fun k hk hS => by have hk := hU k hk; have hS : k = g86 ∨ k = b87 := hS; omega) (by show ¬ (g2 = g86 ∨ g2 = b87); omega)
  have h3 := h3.keep res_st (fun k hk => by have hk := hU k hk; omega) m31 (fun k hk hS => by have hk := hU k hk; have hS : k = g86 ∨ k = b87 := hS; omega) (by show ¬ (g3 = g86 ∨ g3 = b87); omega)
  have hf := hf.step m31 (fun k hk hS => by have hS : k = g86 ∨ k = b87 := hS; show k = g ∨ k = g1 ∨ k = g2 ∨ k = g3; omega)
  have h6 := h6.keep m31 (by show ¬ (b6 = g86 ∨ b6 = b87); omega)
  obtain ⟨aR, cR, rfl, -⟩ := hR.form
  refine nThen ?_
  refine forget_wp [(0, _), (7, _), (8, _), (9, _)] ⟨rfl, rfl, rfl, rfl, trivial⟩ fun _ => ?_
  refine wp_seq ?_
  have hAb : (packA (some []) m).1.length ≤ 24000 := packAsks_bound hna (by omega) (some []) 12
  refine sreg ?_
  refine sv (xmove rfl) ?_
  refine sv (xnilc rfl) ?_
  refine sv (xfld fl79_2 rfl) ?_
  refine sv (xld on75 rfl (hM.r.c 11 rfl rfl)) ?_
  refine sv (xlen sl75 rfl) ?_
  refine sv (xmove rfl) ?_
  refine send ?_
  refine forget_wp [(0, _), (7, _), (8, _), (9, _), (120, _), (121, _)] ⟨rfl, rfl, rfl, rfl, rfl, rfl, trivial⟩ fun _ => ?_
  refine c40r1 (m := m) (n := n) (br_cast hR rfl (by omega)) (by omega) hM h1 hC (fun k hk => by have hk := hU k hk; omega) (by omega) hg1 (by omega) (by omega) ?_
  rintro ⟨v, gS1⟩ _ w33 ⟨m34, hR, hgS1, hgT1, hC⟩
  have z35 := m34.size
  have hM := hM.keep m34 (by show ¬ (bm = gA ∨ bm = b87 ∨ bm = g1); omega)
  have hq := hq.keep q_st (fun k hk => by have hk := hU k hk; omega) m34 (fun k hk hS => by have hk := hU k hk; have hS : k = gA ∨ k = b87 ∨ k = g1 := hS; omega)
  have h2 := h2.keep res_st (fun k hk => by have hk := hU k hk; omega) m34 (fun k hk hS => by have hk := hU k hk; have hS : k = gA ∨ k = b87 ∨ k = g1 := hS; omega) (by show ¬ (g2 = gA ∨ g2 = b87 ∨ g2 = g1); omega)
  have h3 := h3.keep res_st (fun k hk => by have hk := hU k hk; omega) m34 (fun k hk hS => by have hk := hU k hk; have hS : k = gA ∨ k = b87 ∨ k = g1 := hS; omega) (by show ¬ (g3 = gA ∨ g3 = b87 ∨ g3 = g1); omega)
  have hf := hf.step m34 (fun k hk hS => by have hS : k = gA ∨ k = b87 ∨ k = g1 := hS; show k = g ∨ k = g1 ∨ k = g2 ∨ k = g3; omega)
  have h6 := h6.keep m34 (by show ¬ (b6 = gA ∨ b6 = b87 ∨ b6 = g1); omega)
  obtain ⟨aR, cR, rfl, -⟩ := hR.form
  refine nThen ?_
  refine forget_wp [(0, _), (7, _), (8, _), (9, _)] ⟨rfl, rfl, rfl, rfl, trivial⟩ fun _ => ?_
  refine wp_seq ?_
  have hR1b : (pack1 (some []) m).1.length ≤ 2680000 := packRecs_bound hg1 (by omega) _ _
  refine sreg ?_
  refine sv (xmove rfl) ?_
  refine sv (xnilc rfl) ?_
  refine sv (xfld fl79_3 rfl) ?_
  refine sv (xld on75 rfl (hM.r.c 12 rfl rfl)) ?_
  refine sv (xlen sl75 rfl) ?_
  refine sv (xmove rfl) ?_
  refine send ?_
  refine forget_wp [(0, _), (7, _), (8, _), (9, _), (148, _), (149, _)] ⟨rfl, rfl, rfl, rfl, rfl, rfl, trivial⟩ fun _ => ?_
  refine c40r2 (m := m) (n := n) (br_cast hR rfl (by omega)) (by omega) hM h2 hC (fun k hk => by have hk := hU k hk; omega) (by omega) hg2 (by omega) (by omega) ?_
  rintro ⟨v, gS2⟩ _ w36 ⟨m37, hR, hgS2, hgT2, hC⟩
  have z38 := m37.size
  have hM := hM.keep m37 (by show ¬ (bm = gS1 ∨ bm = b87 ∨ bm = g2); omega)
  have hq := hq.keep q_st (fun k hk => by have hk := hU k hk; omega) m37 (fun k hk hS => by have hk := hU k hk; have hS : k = gS1 ∨ k = b87 ∨ k = g2 := hS; omega)
  have h3 := h3.keep res_st (fun k hk => by have hk := hU k hk; omega) m37 (fun k hk hS => by have hk := hU k hk; have hS : k = gS1 ∨ k = b87 ∨ k = g2 := hS; omega) (by show ¬ (g3 = gS1 ∨ g3 = b87 ∨ g3 = g2); omega)
  have hf := hf.step m37 (fun k hk hS => by have hS : k = gS1 ∨ k = b87 ∨ k = g2 := hS; show k = g ∨ k = g1 ∨ k = g2 ∨ k = g3; omega)
  have h6 := h6.keep m37 (by show ¬ (b6 = gS1 ∨ b6 = b87 ∨ b6 = g2); omega)
  obtain ⟨aR, cR, rfl, -⟩ := hR.form
  refine nThen ?_
  refine forget_wp [(0, _), (7, _), (8, _), (9, _)] ⟨rfl, rfl, rfl, rfl, trivial⟩ fun _ => ?_
  refine wp_seq ?_
  have hR2b : (pack2 (some []) m).1.length ≤ 2680000 := packRecs_bound hg2 (by omega) _ _
  refine sreg ?_
  refine sv (xmove rfl) ?_
  refine sv (xnilc rfl) ?_
  refine sv (xfld fl79_4 rfl) ?_
  refine sv (xld on75 rfl (hM.r.c 13 rfl rfl)) ?_
  refine sv (xlen sl75 rfl) ?_
  refine sv (xmove rfl) ?_
  refine send ?_
  refine forget_wp [(0, _), (7, _), (8, _), (9, _), (176, _), (177, _)] ⟨rfl, rfl, rfl, rfl, rfl, rfl, trivial⟩ fun _ => ?_
  refine c40r3 (m := m) (n := n) (br_cast hR rfl (by omega)) (by omega) hM h3 hC (fun k hk => by have hk := hU k hk; omega) (by omega) hg3 (by omega) (by omega) ?_
  rintro ⟨v, gS3⟩ _ w39 ⟨m40, hR, hgS3, hgT3, hC⟩
  have z41 := m40.size
  have hM := hM.keep m40 (by show ¬ (bm = gS2 ∨ bm = b87 ∨ bm = g3); omega)
  have hq := hq.keep q_st (fun k hk => by have hk := hU k hk; omega) m40 (fun k hk hS => by have hk := hU k hk; have hS : k = gS2 ∨ k = b87 ∨ k = g3 := hS; omega)
  have hf := hf.step m40 (fun k hk hS => by have hS : k = gS2 ∨ k = b87 ∨ k = g3 := hS; show k = g ∨ k = g1 ∨ k = g2 ∨ k = g3; omega)
  have h6 := h6.keep m40 (by show ¬ (b6 = gS2 ∨ b6 = b87 ∨ b6 = g3); omega)
  obtain ⟨aR, cR, rfl, -⟩ := hR.form
  refine nThen ?_
  refine forget_wp [(8, _)] ⟨rfl, trivial⟩ fun _ => ?_
  refine sreg ?_
  refine sv (xmove rfl) ?_
  refine sv (xassign rfl) ?_
  refine sv (xassign rfl) ?_
  refine send ?_
  refine forget_wp [(4, _), (5, _)] ⟨rfl, rfl, trivial⟩ fun _ => ?_
  refine wp_ret ?_
  refine rp2 rfl rfl rfl ?_
  have eo : n + (packM (some []) m).length = n + (12 + (packA (some []) m).1.length + (pack1 (some []) m).1.length + (pack2 (some []) m).1.length) + (pack3 (some []) m).1.length := by simp only [packM, List.length_append, headL_len]; omega
  refine ⟨aR, cR, gS3, by rw [eo], ?_, hf, by omega, by omega⟩
  rw [eo]
  exact br_cast hR (by simp [packM]) rfl
end Go.Proofs.YtifnodoffgfpbaaGreatDoor
