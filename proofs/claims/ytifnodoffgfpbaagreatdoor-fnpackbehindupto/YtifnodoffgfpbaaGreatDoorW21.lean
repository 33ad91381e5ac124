/- Walks: resources. Conditions: none. -/
import Derived.Test.YtifnodoffgfpbaaGreatDoorW20
namespace Go.Proofs.YtifnodoffgfpbaaGreatDoor
open Go

/-- what the packing of a resource gives back: the message, and the element's header with type and length -/
def ResC (w : World) (g gm bR : Nat) (cm : Option Nat) (n : Nat) (bs out : List UInt8) (C' : Option Ent) (pre post : List Value) (r : RecD) (vb : Value) (u : Value) (w' : World) : Prop :=
  ∃ a c g' len', u = .tuple #[.slice a (n + out.length) c, .nilIface] ∧ BR w' (.slice a (n + out.length) c) g' (n + out.length) (bs ++ out) ∧ Fr (fun k => k = g ∨ k = gm ∨ k = bR) w w' ∧ (g' = g ∨ w.heap.size ≤ g') ∧ g' < w'.heap.size ∧ Cmp w' cm C' ∧
    len' < 65536 ∧ SE w' bR 139 pre lRes (rhSegs (bt r.name) (typeN r) r.cls r.ttl len' ++ [[vb]]) post
theorem ag_flat (segs : List (List Value)) : ([ag segs].map (·.cells.toList)).flatten = segs.flatten := by simp [Value.cells]
theorem packBody_len {C : Option Ent} {pos : Nat} {r : RecD} (h : NamesOk r) (hl : (bodyL r).length < 65536) : (packBody C pos r).1.length < 65536 := by
  cases C with
  | none => rw [packBody_non h]; exact hl
  | some M => have := (packBody_short h M pos).1; omega

set_option maxHeartbeats 4000000 in
set_option maxRecDepth 100000 in
theorem c93 {w : World} {v : Value} {g gm n start pos : Nat} {bs : List UInt8} {cm : Option Nat} {C : Option Ent} (hR : BR w v g n bs) (hg : g < w.heap.size) {bR o len : Nat} {pre post : List Value} {typ : UInt16} {vb : Value} {r : RecD} {U : Nat → Prop} (hbg : bR ≠ g) (hbm : bR ≠ gm) (hE : SE w bR 139 pre lRes (rhSegs (bt r.name) typ r.cls r.ttl len ++ [[vb]]) post) (hpo : pre.length = o) (hlen : len < 65536) (hU : ∀ k, U k → k < w.heap.size ∧ k ≠ g ∧ k ≠ gm ∧ k ≠ bR) (hB : BodyEl U w vb r) (hnm : NamesOk r) (hfp : FitP r) (hlb : (bodyL r).length < 65536) (hn0 : 0 < n) (hC : Cmp w cm C) (hm : ∀ b, cm = some b → b = gm ∧ gm ≠ g ∧ gm < w.heap.size) (hp : n = start + pos) (hl : n < 990000000)  :
    Ret PP 93 [.pointer (some ⟨bR, o, none⟩), v, .map cm, .int .i64 (start : Int)] w (ResC w g gm bR cm n bs (packRec C pos r).1 (packRec C pos r).2 pre post r vb) := by
  have hz0 := hE.lt
  have hbn := hR.len
  obtain ⟨a0, c0, rfl, -⟩ := hR.form
  obtain ⟨bB, TB, lensB, segsB, rfl, -⟩ := id hB
  have hf : Fr (fun k => k = g ∨ k = gm ∨ k = bR) w w := Fr.refl _ _
  refine ret_of Tryz.func93 rfl rfl rfl [(0, _), (1, _), (2, _), (3, _)] rfl ?_
  refine sreg ?_
  refine sv (xassign rfl) ?_
  refine sv (xassign rfl) ?_
  refine send ?_
  refine forget_wp [(0, _), (1, _), (2, _), (3, _)] ⟨rfl, rfl, rfl, rfl, trivial⟩ fun _ => ?_
  refine wp_seq ?_
  refine sreg ?_
  refine sv (xmove rfl) ?_
  refine sv (xnilc rfl) ?_
  refine sv (xfld fl139_1 rfl) ?_
  refine sv (xld on137 rfl ((hE.r hpo).c 5 rfl rfl)) ?_
  refine sv (xeqI if137 rfl) ?_
  refine send ?_
  refine forget_wp [(0, _), (1, _), (2, _), (3, _), (19, _)] ⟨rfl, rfl, rfl, rfl, rfl, trivial⟩ fun _ => ?_
  refine cno rfl ?_
  refine wp_skip ?_
  refine nThen ?_
  refine forget_wp [(0, _), (1, _), (2, _), (3, _)] ⟨rfl, rfl, rfl, rfl, trivial⟩ fun _ => ?_
  refine sreg ?_
  refine sv (xmove rfl) ?_
  refine sv (xassign rfl) ?_
  refine send ?_
  refine forget_wp [(0, _), (1, _), (2, _), (3, _), (10, _)] ⟨rfl, rfl, rfl, rfl, rfl, trivial⟩ fun _ => ?_
  refine sreg ?_
  refine sv (xmove rfl) ?_
  refine sv (xmove rfl) ?_
  refine sv (xnilc rfl) ?_
  refine sv (xfld fl139_1 rfl) ?_
  refine sv (xld on137 rfl ((hE.r hpo).c 5 rfl rfl)) ?_
  obtain ⟨fT, aT, hxT, hrT⟩ := inv_type hB
  refine sc (hxT _ _ _ _ _ rfl) (hrT) ?_
  rintro _ w1 ⟨rfl, m2⟩
  have z3 := m2.size
  have hR := hR.keep m2 (fun h => h)
  have hC := hC.keep m2 (fun _ _ h => h)
  have hE := hE.keep m2 (fun h => h)
  have hB := hB.keep (fun k hk => by have hk := hU k hk; omega) m2 (fun _ _ h => h)
  have hf := hf.step0 m2
  refine sv (xnilc rfl) ?_
  refine sv (xfld fl139_0 rfl) ?_
  refine sv (xfld fl135_1 rfl) ?_
  refine suK (xstE 1 sz83 hE hpo rfl rfl rfl rfl rfl) ?_
  rintro w5 ⟨m6, hE, s4⟩
  have hR := hR.keep m6 (by show ¬ (g = bR); omega)
  have hC := hC.keep m6 (fun b hb => by have hb := hm b hb; show ¬ (b = bR); omega)
  have hB := hB.keep (fun k hk => by have hk := hU k hk; omega) m6 (fun k hk hS => by have hk := hU k hk; have hS : k = bR := hS; omega)
  have hf := hf.step m6 (fun k hk hS => by have hS : k = bR := hS; show k = g ∨ k = gm ∨ k = bR; omega)
  refine send ?_
  refine forget_wp [(0, _), (1, _), (2, _), (3, _), (10, _)] ⟨rfl, rfl, rfl, rfl, rfl, trivial⟩ fun _ => ?_
  refine sreg ?_
  refine sv (xmove rfl) ?_
  refine sv (xnilc rfl) ?_
  refine sv (xfld fl139_0 rfl) ?_
  refine sv (xmove rfl) ?_
  refine sv (xmove rfl) ?_
  refine sv (xmove rfl) ?_
  refine sc (xcall ca152 rfl) (c152 (gm := gm) (pos := pos) hR (by omega) (by omega) (by omega) (by omega) (SR.sub (hE.r hpo) 0 5 rfl) hnm.1 (by omega) hC (fun b hb => by have hb := hm b hb; omega) (by omega) (by omega)) ?_
  rintro _ w7 ⟨p39, q39, g39, rfl, r39, m8, a39, l39, hC⟩
  have z9 := m8.size
  have hE := hE.keep m8 (by show ¬ (bR = g ∨ bR = gm); omega)
  have hB := hB.keep (fun k hk => by have hk := hU k hk; omega) m8 (fun k hk hS => by have hk := hU k hk; have hS : k = g ∨ k = gm := hS; omega)
  have hf := hf.step m8 (fun k hk hS => by have hS : k = g ∨ k = gm := hS; show k = g ∨ k = gm ∨ k = bR; omega)
  have hpn := packName_bound (C := C) (pos := pos) hnm.1
  have e39 : ((packName C pos (bt r.name)).1 ++ hdTail (typeN r) r.cls r.ttl len).length = (packName C pos (bt r.name)).1.length + 10 := by simp [hdTail_length]
  refine sv (xmove rfl) ?_
  refine sv (xextr rfl rfl) ?_
  refine sv (xextr rfl rfl) ?_
  refine sv (xextr rfl rfl) ?_
  refine sv (xassign rfl) ?_
  refine sv (xassign rfl) ?_
  refine sv (xassign rfl) ?_
  refine send ?_
  refine forget_wp [(0, _), (1, _), (2, _), (3, _), (10, _), (11, _), (12, _)] ⟨rfl, rfl, rfl, rfl, rfl, rfl, rfl, trivial⟩ fun _ => ?_
  refine wp_seq ?_
  refine sreg ?_
  refine sv (xmove rfl) ?_
  refine sv (xneN if89 rfl) ?_
  refine send ?_
  refine forget_wp [(0, _), (1, _), (2, _), (3, _), (10, _), (11, _), (12, _), (44, _)] ⟨rfl, rfl, rfl, rfl, rfl, rfl, rfl, rfl, trivial⟩ fun _ => ?_
  refine cno rfl ?_
  refine wp_skip ?_
  refine nThen ?_
  refine forget_wp [(0, _), (1, _), (2, _), (3, _), (10, _), (11, _)] ⟨rfl, rfl, rfl, rfl, rfl, rfl, trivial⟩ fun _ => ?_
  refine sreg ?_
  refine sv (xmove rfl) ?_
  refine sv (xlen sl37 rfl) ?_
  refine sv (xassign rfl) ?_
  refine send ?_
  refine forget_wp [(0, _), (1, _), (2, _), (3, _), (10, _), (11, _), (13, _)] ⟨rfl, rfl, rfl, rfl, rfl, rfl, rfl, trivial⟩ fun _ => ?_
  refine sreg ?_
  refine sv (xmove rfl) ?_
  refine sv (xnilc rfl) ?_
  refine sv (xfld fl139_1 rfl) ?_
  refine sv (xld on137 rfl ((hE.r hpo).c 5 rfl rfl)) ?_
  refine sv (xmove rfl) ?_
  refine sv (xmove rfl) ?_
  refine sv (xmove rfl) ?_
  obtain ⟨fP, aP, hxP, hrP⟩ := inv_pack (gm := gm) (pos := pos + (packName C pos (bt r.name)).1.length + 10) (start := start) r39 (by omega) hnm hfp (fun k hk => by have hk := hU k hk; omega) hB (by omega) hC (fun b hb => by have hb := hm b hb; omega) (by omega) (by omega)
  refine sc (hxP _ _ _ _ _ _ rfl rfl) (hrP) ?_
  rintro _ w10 ⟨p60, q60, g60, rfl, r60, m11, a60, l60, hC⟩
  have z12 := m11.size
  have hE := hE.keep m11 (by show ¬ (bR = g39 ∨ bR = gm); omega)
  have hB := hB.keep (fun k hk => by have hk := hU k hk; omega) m11 (fun k hk hS => by have hk := hU k hk; have hS : k = g39 ∨ k = gm := hS; omega)
  have hf := hf.step m11 (fun k hk hS => by have hS : k = g39 ∨ k = gm := hS; show k = g ∨ k = gm ∨ k = bR; omega)
  have hbl := packBody_len (C := (packName C pos (bt r.name)).2) (pos := pos + (packName C pos (bt r.name)).1.length + 10) hnm hlb
  refine sv (xmove rfl) ?_
  refine sv (xextr rfl rfl) ?_
  refine sv (xextr rfl rfl) ?_
  refine sv (xassign rfl) ?_
  refine sv (xassign rfl) ?_
  refine send ?_
  refine forget_wp [(0, _), (1, _), (10, _), (11, _), (12, _), (13, _)] ⟨rfl, rfl, rfl, rfl, rfl, rfl, trivial⟩ fun _ => ?_
  refine wp_seq ?_
  refine sreg ?_
  refine sv (xmove rfl) ?_
  refine sv (xneN if89 rfl) ?_
  refine send ?_
  refine forget_wp [(0, _), (1, _), (10, _), (11, _), (12, _), (13, _), (64, _)] ⟨rfl, rfl, rfl, rfl, rfl, rfl, rfl, trivial⟩ fun _ => ?_
  refine cno rfl ?_
  refine wp_skip ?_
  refine nThen ?_
  refine forget_wp [(0, _), (1, _), (10, _), (11, _), (13, _)] ⟨rfl, rfl, rfl, rfl, rfl, trivial⟩ fun _ => ?_
  refine wp_seq ?_
  refine sreg ?_
  refine sv (xmove rfl) ?_
  refine sv (xnilc rfl) ?_
  refine sv (xfld fl139_0 rfl) ?_
  refine sv (xmove rfl) ?_
  refine sv (xmove rfl) ?_
  refine sv (xmove rfl) ?_
  have r60 := br_cast (bs := (bs ++ ((packName C pos (bt r.name)).1 ++ (be16 (typeN r).toNat ++ (be16 r.cls.toNat ++ be32 r.ttl.toNat)))) ++ (be16 len ++ (packBody (packName C pos (bt r.name)).2 (pos + (packName C pos (bt r.name)).1.length + 10) r).1)) r60 (by simp [hdTail]) rfl
  refine sc (xcall ca153 rfl) (c153 (preLen := n + ((packName C pos (bt r.name)).1 ++ hdTail (typeN r) r.cls r.ttl len).length) (len := len) (typ := typeN r) (cls := r.cls) (ttl := r.ttl) (s := bt r.name) (pre := pre) (post := [Value.iface TB (.pointer (some ⟨bB, 0, none⟩))] ++ post) r60 (by omega) rfl ⟨by have := hE.1; simpa [rhSegs] using this, by simp [rhSegs, nm_length]⟩ hpo (by omega) (by simp [be16_length, be32_length]; omega) (by omega) (by omega) (by omega)) ?_
  rintro _ w13 ⟨rfl, r60, hE2, m14⟩
  have z15 := m14.size
  have hB := hB.keep (fun k hk => by have hk := hU k hk; omega) m14 (fun k hk hS => by have hk := hU k hk; have hS : k = g60 ∨ k = bR := hS; omega)
  have hf := hf.step m14 (fun k hk hS => by have hS : k = g60 ∨ k = bR := hS; show k = g ∨ k = gm ∨ k = bR; omega)
  have hC := hC.keep m14 (fun b hb => by have hb := hm b hb; show ¬ (b = g60 ∨ b = bR); omega)
  have en : n + ((packName C pos (bt r.name)).1 ++ hdTail (typeN r) r.cls r.ttl len).length + (packBody (packName C pos (bt r.name)).2 (pos + (packName C pos (bt r.name)).1.length + 10) r).1.length - (n + ((packName C pos (bt r.name)).1 ++ hdTail (typeN r) r.cls r.ttl len).length) = (packBody (packName C pos (bt r.name)).2 (pos + (packName C pos (bt r.name)).1.length + 10) r).1.length := by omega
  rw [en] at r60 hE2
  have hE : SE w13 bR 139 pre lRes (rhSegs (bt r.name) (typeN r) r.cls r.ttl (packBody (packName C pos (bt r.name)).2 (pos + (packName C pos (bt r.name)).1.length + 10) r).1.length ++ [[Value.iface TB (.pointer (some ⟨bB, 0, none⟩))]]) post := ⟨by have := hE2.1; simpa [rhSegs] using this, by simp [rhSegs, nm_length]⟩
  refine sv (xassign rfl) ?_
  refine send ?_
  refine forget_wp [(1, _), (10, _), (14, _)] ⟨rfl, rfl, rfl, trivial⟩ fun _ => ?_
  refine sreg ?_
  refine sv (xmove rfl) ?_
  refine sv (xneN if89 rfl) ?_
  refine send ?_
  refine forget_wp [(1, _), (10, _), (14, _), (78, _)] ⟨rfl, rfl, rfl, rfl, trivial⟩ fun _ => ?_
  refine cno rfl ?_
  refine wp_skip ?_
  refine nThen ?_
  refine forget_wp [(1, _)] ⟨rfl, trivial⟩ fun _ => ?_
  refine sreg ?_
  refine sv (xmove rfl) ?_
  refine sv (xassign rfl) ?_
  refine sv (xassign rfl) ?_
  refine send ?_
  refine forget_wp [(8, _), (9, _)] ⟨rfl, rfl, trivial⟩ fun _ => ?_
  refine wp_ret ?_
  refine rp2 rfl rfl rfl ?_
  have eo : n + (packRec C pos r).1.length = n + ((packName C pos (bt r.name)).1 ++ hdTail (typeN r) r.cls r.ttl len).length + (packBody (packName C pos (bt r.name)).2 (pos + (packName C pos (bt r.name)).1.length + 10) r).1.length := by simp only [packRec, packTail, List.length_append, be16_length, be32_length, hdTail_length]; omega
  refine ⟨p60, q60, g60, _, by rw [eo]; rfl, ?_, hf, by omega, by omega, hC, hbl, hE⟩
  rw [eo]
  exact br_cast r60 (by simp [packRec, packTail]) rfl
set_option maxHeartbeats 4000000 in
set_option maxRecDepth 100000 in
theorem c37 {w : World} {U : Nat → Prop} (hU : ∀ k, U k → k < w.heap.size) {v : Value} {l : List RecD} (hl : LA RecEl lRec U w v l) (hn : l.length ≤ 1048576) (hfr : ∀ r ∈ l, r.name.size ≤ 255 ∧ 1 ≤ r.kind ∧ r.kind ≤ 13 ∧ FitB r) :
    Ret PP 37 [v] w (fun u w' => ∃ gr, RX ResEl lRes U w.heap.size w'.heap.size w' u gr 139 l.length l ∧ w.heap.size ≤ gr ∧ gr < w'.heap.size ∧ Fr0 w w') := by
  obtain ⟨a0, c0, rfl⟩ := hl.form
  have hf : Fr (fun _ => False) w w := Fr.refl _ _
  refine ret_of Tryz.func37 rfl rfl rfl [(0, _)] rfl ?_
  refine sreg ?_
  refine sv (xassign rfl) ?_
  refine send ?_
  refine forget_wp [(0, _)] ⟨rfl, trivial⟩ fun _ => ?_
  refine sreg ?_
  refine svK (xslit ([]) sl75 in139 rfl (by decide) rfl rfl rfl rfl (by decide) rfl rfl) ?_
  rintro _ w2 ⟨b6, rfl, m3, h6, e6, s6, r6⟩
  have hl := hl.keep rec_st (fun k hk => by have hk := hU k hk; omega) m3 (fun _ _ h => h)
  have hf := hf.step0 m3
  have hv3 : RX ResEl lRes U w.heap.size w2.heap.size w2 _ b6 139 0 [] := RX.ofNil r6
  refine sv (xassign rfl) ?_
  refine send ?_
  refine forget_wp [(0, _), (3, _)] ⟨rfl, rfl, trivial⟩ fun _ => ?_
  refine wp_seq ?_
  refine sreg ?_
  refine sv (xmove rfl) ?_
  refine sv (xlen sl26 rfl) ?_
  refine sv (xmove rfl) ?_
  refine send ?_
  refine forget_wp [(3, _), (7, _), (8, _), (9, _)] ⟨rfl, rfl, rfl, rfl, trivial⟩ fun _ => ?_
  refine wp_block ?_
  refine lp [(7, _), (8, _)] (fun (x : Nat × Value × Nat) => match x with | (k, v, g) => [(3, v), (9, .int .i64 (k : Int))]) (fun (x : Nat × Value × Nat) wx => match x with | (k, v, g) => Fr (fun k => k = b6) w2 wx ∧ (k ≤ l.length) ∧ (RX ResEl lRes U w.heap.size wx.heap.size wx v g 139 k (l.take k)) ∧ (w.heap.size ≤ g) ∧ (g < wx.heap.size) ∧ (g = b6 ∨ w2.heap.size ≤ g)) (fun (x : Nat × Value × Nat) => match x with | (k, v, g) => l.length - k) (0, _, b6) ⟨rfl, rfl, rfl, rfl, trivial⟩ ⟨Fr.refl _ _, Nat.zero_le _, hv3, by omega, by omega, .inl rfl⟩ ?_
  rintro ⟨k, v, g⟩ _ w5 ⟨hL4, hk, hv3, hg, hg2, hg3⟩
  refine forget_wp [(3, _), (7, _), (8, _), (9, _)] ⟨rfl, rfl, rfl, rfl, trivial⟩ fun _ => ?_
  have z6 := hL4.size
  have hl := hl.keep rec_st (fun k hk => by have hk := hU k hk; omega) hL4 (fun k hk hS => by have hk := hU k hk; have hS : k = b6 := hS; omega)
  have hf := hf.step hL4 (fun k hk hS => by have hS : k = b6 := hS; show False; omega)
  obtain ⟨a3, c3, rfl⟩ := RA.form hv3
  refine sreg ?_
  refine svP (xlss rfl rfl) (fun hc10 => ?_) (fun hc10 => ?_)
  · skip
    refine send ?_
    refine forget_wp [(3, _), (7, _), (8, _), (9, _), (10, _)] ⟨rfl, rfl, rfl, rfl, rfl, trivial⟩ fun _ => ?_
    refine wp_seq ?_
    refine cyes rfl ?_
    refine wp_skip ?_
    refine nThen ?_
    refine forget_wp [(3, _), (7, _), (8, _), (9, _)] ⟨rfl, rfl, rfl, rfl, trivial⟩ fun _ => ?_
    refine wp_seq ?_
    refine wp_block ?_
    obtain ⟨r, hrk⟩ := some_of_lt (by omega : k < l.length)
    refine sreg ?_
    obtain ⟨bE11, oE11, sgE11, rfl, uE11, hsE11, heE11⟩ := LA.get hl hrk
    obtain ⟨vd, vt, vp, rfl, hd, ht, hp⟩ := heE11
    have zE11 := hU _ uE11
    obtain ⟨ad, cd, rfl, -⟩ := id hd
    obtain ⟨at1, ct1, rfl⟩ := ht.form
    obtain ⟨ap1, cp1, rfl⟩ := hp.form
    refine sv (xidx sl26 sz112 rfl rfl rfl (by omega)) ?_
    refine sv (xldS (lens := [1, 1, 1, 1, 1, 1, 1, 1, 1, 1, 1, 1, 1, 1, 1, 1]) ro112 rfl hsE11) ?_
    refine svK (xallS (lens := [1, 1, 1, 1, 1, 1, 1, 1, 1, 1, 1, 1, 1, 1, 1, 1]) in112 rfl) ?_
    rintro _ w8 ⟨b5, rfl, m9, h5, e7, s7⟩
    have hl := hl.keep rec_st (fun k hk => by have hk := hU k hk; omega) m9 (fun _ _ h => h)
    have hf := hf.step0 m9
    have hv3 := RX.keep hv3 res_st (fun k hk => by have hk := hU k hk; omega) (by omega) m9 (fun _ _ _ h => h) (fun h => h)
    have hL4 := hL4.step0 m9
    have hsE11 := hsE11.keep m9 (by omega) (fun h => h)
    have hd := hd.keep (fun k hk => by have hk := hU k hk; omega) m9 (fun _ _ h => h)
    have ht := ht.keep text_st (fun k hk => by have hk := hU k hk; omega) m9 (fun _ _ h => h)
    have hp := hp.keep pair_st (fun k hk => by have hk := hU k hk; omega) m9 (fun _ _ h => h)
    refine suK (xstW h5 (lens' := [1, 1, 1, 1, 1, 1, 1, 1, 1, 1, 1, 1, 1, 1, 1, 1]) sz112 rfl rfl rfl rfl rfl) ?_
    rintro w11 ⟨m12, h5, s10⟩
    have hl := hl.keep rec_st (fun k hk => by have hk := hU k hk; omega) m12 (fun k hk hS => by have hk := hU k hk; have hS : k = b5 := hS; omega)
    have hf := hf.step m12 (fun k hk hS => by have hS : k = b5 := hS; show False; omega)
    have hv3 := RX.keep hv3 res_st (fun k hk => by have hk := hU k hk; omega) (by omega) m12 (fun k hk hk3 hS => by have hS : k = b5 := hS; rcases hk with hk | hk <;> first | omega | (have := hU k hk; omega)) (by show ¬ (g = b5); omega)
    have hL4 := hL4.step m12 (fun k hk hS => by have hS : k = b5 := hS; show k = b6; omega)
    have hsE11 := hsE11.keep m12 (by omega) (by show ¬ (bE11 = b5); omega)
    have hd := hd.keep (fun k hk => by have hk := hU k hk; omega) m12 (fun k hk hS => by have hk := hU k hk; have hS : k = b5 := hS; omega)
    have ht := ht.keep text_st (fun k hk => by have hk := hU k hk; omega) m12 (fun k hk hS => by have hk := hU k hk; have hS : k = b5 := hS; omega)
    have hp := hp.keep pair_st (fun k hk => by have hk := hU k hk; omega) m12 (fun k hk hS => by have hk := hU k hk; have hS : k = b5 := hS; omega)
    refine send ?_
    refine forget_wp [(3, _), (5, _), (7, _), (8, _), (9, _)] ⟨rfl, rfl, rfl, rfl, rfl, trivial⟩ fun _ => ?_
    refine ldraw (Fr (fun k => k = g) w11.drew) [(0, .rd), (1, .rd), (3, .rd), (2, .ld), (4, .ld), (5, .rd), (6, .ld), (7, .ld), (8, .rd)] mixed (by kernel_rfl) (fun _ _ _ _ _ h => h) ?_
    have z13 : w11.drew.heap.size = w11.heap.size := rfl
    have hl := hl.keep rec_st (fun k hk => by have hk := hU k hk; omega) (Fr.drew (Fr.refl (fun _ => False) w11)) (fun _ _ h => h)
    have hf := hf.drew
    have hv3 := RX.keep hv3 res_st (fun k hk => by have hk := hU k hk; omega) (by omega) (Fr.drew (Fr.refl (fun _ => False) w11)) (fun _ _ _ h => h) (fun h => h)
    have hL4 := hL4.drew
    have hsE11 := hsE11.keep (Fr.drew (Fr.refl (fun _ => False) w11)) (by omega) (fun h => h)
    have hd := hd.keep (fun k hk => by have hk := hU k hk; omega) (Fr.drew (Fr.refl (fun _ => False) w11)) (fun _ _ h => h)
    have ht := ht.keep text_st (fun k hk => by have hk := hU k hk; omega) (Fr.drew (Fr.refl (fun _ => False) w11)) (fun _ _ h => h)
    have hp := hp.keep pair_st (fun k hk => by have hk := hU k hk; omega) (Fr.drew (Fr.refl (fun _ => False) w11)) (fun _ _ h => h)
    have h5 := h5.drew
    have hS14 : Fr (fun k => k = g) w11.drew w11.drew := Fr.refl _ _
    refine hv rfl (fun _ _ => xmove rfl) hS14 ?_
    refine hv rfl (fun w' hS => xldS (lens := [1, 1, 1, 1, 1, 1, 1, 1, 1, 1, 1, 1, 1, 1, 1, 1]) ro112 rfl (h5.keep hS (by show ¬ (b5 = g); omega)).r) hS14 ?_
    refine hv rfl (fun w' hS => xldS (lens := [1, 1, 1, 1, 1, 1, 1, 1, 1, 1, 1, 1, 1, 1, 1, 1]) ro112 rfl (h5.keep hS (by show ¬ (b5 = g); omega)).r) hS14 ?_
    refine hc rfl (xcall ca87 rfl) (c87 (hfr _ (List.mem_of_getElem? hrk)).1) ?_
    rintro _ w15 ⟨rfl, m16⟩
    have z17 := m16.size
    have hl := hl.keep rec_st (fun k hk => by have hk := hU k hk; omega) m16 (fun _ _ h => h)
    have hf := hf.step0 m16
    have hv3 := RX.keep hv3 res_st (fun k hk => by have hk := hU k hk; omega) (by omega) m16 (fun _ _ _ h => h) (fun h => h)
    have hL4 := hL4.step0 m16
    have hsE11 := hsE11.keep m16 (by omega) (fun h => h)
    have hd := hd.keep (fun k hk => by have hk := hU k hk; omega) m16 (fun _ _ h => h)
    have ht := ht.keep text_st (fun k hk => by have hk := hU k hk; omega) m16 (fun _ _ h => h)
    have hp := hp.keep pair_st (fun k hk => by have hk := hU k hk; omega) m16 (fun _ _ h => h)
    have h5 := h5.keep m16 (fun h => h)
    have hS18 := hS14.step0 m16
    refine ⟨hS18, ?_⟩
    refine hc rfl (xcall ca88 rfl) (c88 (U := U) (fun k hk => by have hk := hU k hk; omega) hd ht hp (hfr _ (List.mem_of_getElem? hrk)).2.1 (hfr _ (List.mem_of_getElem? hrk)).2.2.1 (hfr _ (List.mem_of_getElem? hrk)).2.2.2) ?_
    rintro v17 w19 ⟨hB17, m20⟩
    have z21 := m20.size
    have hl := hl.keep rec_st (fun k hk => by have hk := hU k hk; omega) m20 (fun _ _ h => h)
    have hf := hf.step0 m20
    have hv3 := RX.keep hv3 res_st (fun k hk => by have hk := hU k hk; omega) (by omega) m20 (fun _ _ _ h => h) (fun h => h)
    have hL4 := hL4.step0 m20
    have hsE11 := hsE11.keep m20 (by omega) (fun h => h)
    have hd := hd.keep (fun k hk => by have hk := hU k hk; omega) m20 (fun _ _ h => h)
    have ht := ht.keep text_st (fun k hk => by have hk := hU k hk; omega) m20 (fun _ _ h => h)
    have hp := hp.keep pair_st (fun k hk => by have hk := hU k hk; omega) m20 (fun _ _ h => h)
    have h5 := h5.keep m20 (fun h => h)
    have hS22 := hS18.step0 m20
    obtain ⟨bB, TB, lensB, segsB, rfl, -⟩ := id hB17
    refine ⟨hS22, ?_⟩
    refine hv rfl (fun _ _ => xbuildS (rhSegs (bt r.name) r.typ r.cls r.ttl r.len.toNat ++ [[Value.iface TB (.pointer (some ⟨bB, 0, none⟩))]]) zr139 ly139 rfl (by simp [fitAll, zs139, Value.cells, nm_length, rhSegs]) (by simp [setAll, zs139, Value.cells, rhSegs])) hS22 ?_
    refine hlK rfl (xslit ((rhSegs (bt r.name) r.typ r.cls r.ttl r.len.toNat ++ [[Value.iface TB (.pointer (some ⟨bB, 0, none⟩))]]).flatten) sl75 in139 rfl (by decide) rfl rfl rfl (by simp [rhSegs, nm_length, Value.cells]) (by decide) (ag_flat _) (by simp only [rhSegs, List.cons_append, List.nil_append, List.flatten_cons, List.flatten_nil, List.all_append, List.append_nil, nm_one, Bool.true_and] <;> rfl)) ?_
    rintro _ w24 ⟨b19, rfl, m25, h19, e19, s19, r19⟩
    have hl := hl.keep rec_st (fun k hk => by have hk := hU k hk; omega) m25 (fun _ _ h => h)
    have hf := hf.step0 m25
    have hv3 := RX.keep hv3 res_st (fun k hk => by have hk := hU k hk; omega) (by omega) m25 (fun _ _ _ h => h) (fun h => h)
    have hL4 := hL4.step0 m25
    have hsE11 := hsE11.keep m25 (by omega) (fun h => h)
    have hd := hd.keep (fun k hk => by have hk := hU k hk; omega) m25 (fun _ _ h => h)
    have ht := ht.keep text_st (fun k hk => by have hk := hU k hk; omega) m25 (fun _ _ h => h)
    have hp := hp.keep pair_st (fun k hk => by have hk := hU k hk; omega) m25 (fun _ _ h => h)
    have h5 := h5.keep m25 (fun h => h)
    have hB17 := hB17.keep (fun k hk => by have hk := Ub.num hU hk; omega) m25 (fun _ _ h => h)
    have hS26 := hS22.step0 m25
    refine ⟨hS26, ?_⟩
    obtain ⟨ss20, hR20, hA20⟩ := hv3
    refine hlK rfl (xapp sl75 in139 rfl (by decide) rfl rfl hR20 (r19.src sl75) (by simp only [maxLen]; omega) (by omega)) ?_
    rintro v20 w27 ⟨g20, r20, m28, a20, l20⟩
    have z29 := m28.size
    have hl := hl.keep rec_st (fun k hk => by have hk := hU k hk; omega) m28 (fun k hk hS => by have hk := hU k hk; have hS : k = g := hS; omega)
    have hf := hf.step m28 (fun k hk hS => by have hS : k = g := hS; show False; omega)
    have hL4 := hL4.step m28 (fun k hk hS => by have hS : k = g := hS; show k = b6; omega)
    have hsE11 := hsE11.keep m28 (by omega) (by show ¬ (bE11 = g); omega)
    have hd := hd.keep (fun k hk => by have hk := hU k hk; omega) m28 (fun k hk hS => by have hk := hU k hk; have hS : k = g := hS; omega)
    have ht := ht.keep text_st (fun k hk => by have hk := hU k hk; omega) m28 (fun k hk hS => by have hk := hU k hk; have hS : k = g := hS; omega)
    have hp := hp.keep pair_st (fun k hk => by have hk := hU k hk; omega) m28 (fun k hk hS => by have hk := hU k hk; have hS : k = g := hS; omega)
    have h5 := h5.keep m28 (by show ¬ (b5 = g); omega)
    have hB17 := hB17.keep (fun k hk => by have hk := Ub.num hU hk; omega) m28 (fun k hk hS => by have hk := Ub.num hU hk; have hS : k = g := hS; omega)
    have hS30 := hS26.step m28 (fun k hk hS => by have hS : k = g := hS; show k = g; omega)
    have hv3 := RX.snoc (x := r) w27.heap.size hA20 res_st res_gr (fun k hk => by have hk := hU k hk; omega) (by omega) (by omega) m28 a20 r20 (by simp [rhSegs, nm_length]) (⟨_, _, _, u16lt _, rfl, hB17.mono (fun k h => ⟨h.elim .inl (fun h => .inr ⟨by omega, by omega⟩), by have h := Ub.num hU h; omega⟩)⟩)
    refine ⟨hS30, ?_⟩
    refine hv rfl (fun _ _ => xassign rfl) hS30 ?_
    refine lhend ?_
    refine nBlock ?_
    refine nThen ?_
    refine forget_wp [(3, _), (7, _), (8, _), (9, _)] ⟨rfl, rfl, rfl, rfl, trivial⟩ fun _ => ?_
    refine lreg ?_
    refine sv (xadd rfl rfl (w64 (by omega) (by omega))) ?_
    refine sv (xmove rfl) ?_
    refine lend ?_
    refine nThen ?_
    refine ⟨(k + 1, _, g20), _, env_okl ⟨rfl, rfl, rfl, rfl, trivial⟩, ⟨hL4, (by omega), (by rw [take_snoc hrk]; exact RX.up res_gr hv3 (by omega)), (by omega), (l20 (by omega)), (by omega)⟩, ?_⟩
    show l.length - (k + 1) < l.length - k; omega
  · skip
    refine send ?_
    refine forget_wp [(3, _), (7, _), (8, _), (9, _), (10, _)] ⟨rfl, rfl, rfl, rfl, rfl, trivial⟩ fun _ => ?_
    refine wp_seq ?_
    refine cno rfl ?_
    refine wp_exit ?_
    refine eThen ?_
    refine eThen ?_
    refine eHit ?_
    refine nThen ?_
    refine forget_wp [(3, _)] ⟨rfl, trivial⟩ fun _ => ?_
    refine sreg ?_
    refine sv (xmove rfl) ?_
    refine sv (xassign rfl) ?_
    refine send ?_
    refine forget_wp [(2, _)] ⟨rfl, trivial⟩ fun _ => ?_
    refine wp_ret ?_
    refine rp1 rfl rfl ?_
    have e : l.take k = l := List.take_of_length_le (by omega)
    rw [e] at hv3
    obtain rfl : k = l.length := by omega
    exact ⟨g, hv3, hg, hg2, hf⟩
end Go.Proofs.YtifnodoffgfpbaaGreatDoor
