/- Walks: bodies of all kinds. Conditions: none. -/
import Derived.Test.YtifnodoffgfpbaaGreatDoorW14
namespace Go.Proofs.YtifnodoffgfpbaaGreatDoor
open Go

/-- the parts of a body, by its kind; T: the type of a pointer to it -/
inductive BodySegs (U : Nat → Prop) (w : World) (r : RecD) : TypeId → List Nat → List (List Value) → Prop
  | a (h : r.kind = 1) : BodySegs U w r 186 [4] [bvs (fixedL r.data 4)]
  | ns (h : r.kind = 2) : BodySegs U w r 190 [256] [nm (bt r.host)]
  | cname (h : r.kind = 3) : BodySegs U w r 193 [256] [nm (bt r.host)]
  | soa (h : r.kind = 4) : BodySegs U w r 196 [256, 256, 1, 1, 1, 1, 1] [nm (bt r.host), nm (bt r.box), [.int .u32 (r.n1.toNat : Int)], [.int .u32 (r.n2.toNat : Int)], [.int .u32 (r.n3.toNat : Int)], [.int .u32 (r.n4.toNat : Int)], [.int .u32 (r.n5.toNat : Int)]]
  | ptr (h : r.kind = 5) : BodySegs U w r 199 [256] [nm (bt r.host)]
  | mx (h : r.kind = 6) : BodySegs U w r 202 [1, 256] [[.int .u16 ((r.n1.toNat % 65536 : Nat) : Int)], nm (bt r.host)]
  | txt {v : Value} (h : r.kind = 7) (ht : LA TextEl [1] U w v r.texts) : BodySegs U w r 205 [1] [[v]]
  | aaaa (h : r.kind = 8) : BodySegs U w r 208 [16] [bvs (fixedL r.data 16)]
  | srv (h : r.kind = 9) : BodySegs U w r 212 [1, 1, 1, 256] [[.int .u16 ((r.n1.toNat % 65536 : Nat) : Int)], [.int .u16 ((r.n2.toNat % 65536 : Nat) : Int)], [.int .u16 ((r.n3.toNat % 65536 : Nat) : Int)], nm (bt r.host)]
  | opt {v : Value} (h : r.kind = 10) (hp : LA PairEl lPair U w v r.pairs) : BodySegs U w r 215 [1] [[v]]
  | svcb {v : Value} (h : r.kind = 11) (hp : LA PairEl lPair U w v r.pairs) : BodySegs U w r 221 [1, 256, 1] [[.int .u16 ((r.n1.toNat % 65536 : Nat) : Int)], nm (bt r.host), [v]]
  | https {v : Value} (h : r.kind = 12) (hp : LA PairEl lPair U w v r.pairs) : BodySegs U w r 226 [1, 256, 1] [[.int .u16 ((r.n1.toNat % 65536 : Nat) : Int)], nm (bt r.host), [v]]
  | other {v : Value} (h : r.kind = 13) (hd : BA U w v r.data) : BodySegs U w r 229 [1, 1] [[.int .u16 ((typeN r).toNat : Int)], [v]]
theorem BodySegs.keep {U S : Nat → Prop} {w w' : World} {r : RecD} {T : TypeId} {lens : List Nat} {segs : List (List Value)} (h : BodySegs U w r T lens segs) (hU : ∀ k, U k → k < w.heap.size) (m : Fr S w w') (hn : ∀ k, U k → ¬ S k) : BodySegs U w' r T lens segs := by
  cases h with
  | a h => exact .a h
  | ns h => exact .ns h
  | cname h => exact .cname h
  | soa h => exact .soa h
  | ptr h => exact .ptr h
  | mx h => exact .mx h
  | txt h ht => exact .txt h (ht.keep text_st hU m hn)
  | aaaa h => exact .aaaa h
  | srv h => exact .srv h
  | opt h hp => exact .opt h (hp.keep pair_st hU m hn)
  | svcb h hp => exact .svcb h (hp.keep pair_st hU m hn)
  | https h hp => exact .https h (hp.keep pair_st hU m hn)
  | other h hd => exact .other h (hd.keep hU m hn)
theorem BodySegs.mono {U U' : Nat → Prop} {w : World} {r : RecD} {T : TypeId} {lens : List Nat} {segs : List (List Value)} (h : BodySegs U w r T lens segs) (hU : ∀ k, U k → U' k) : BodySegs U' w r T lens segs := by
  cases h with
  | a h => exact .a h
  | ns h => exact .ns h
  | cname h => exact .cname h
  | soa h => exact .soa h
  | ptr h => exact .ptr h
  | mx h => exact .mx h
  | txt h ht => exact .txt h (ht.mono text_gr hU)
  | aaaa h => exact .aaaa h
  | srv h => exact .srv h
  | opt h hp => exact .opt h (hp.mono pair_gr hU)
  | svcb h hp => exact .svcb h (hp.mono pair_gr hU)
  | https h hp => exact .https h (hp.mono pair_gr hU)
  | other h hd => exact .other h (hd.mono hU)
/-- a body behind an interface -/
def BodyEl (U : Nat → Prop) (w : World) (v : Value) (r : RecD) : Prop := ∃ b T lens segs, v = .iface T (.pointer (some ⟨b, 0, none⟩)) ∧ U b ∧ SR w b 0 lens segs ∧ BodySegs U w r T lens segs
theorem BodyEl.keep {U S : Nat → Prop} {w w' : World} {v : Value} {r : RecD} (h : BodyEl U w v r) (hU : ∀ k, U k → k < w.heap.size) (m : Fr S w w') (hn : ∀ k, U k → ¬ S k) : BodyEl U w' v r := by
  obtain ⟨b, T, lens, segs, rfl, hb, hs, h⟩ := h
  exact ⟨b, T, lens, segs, rfl, hb, hs.keep m (hU b hb) (hn b hb), h.keep hU m hn⟩
theorem BodyEl.mono {U U' : Nat → Prop} {w : World} {v : Value} {r : RecD} (h : BodyEl U w v r) (hU : ∀ k, U k → U' k) : BodyEl U' w v r := by
  obtain ⟨b, T, lens, segs, rfl, hb, hs, h⟩ := h
  exact ⟨b, T, lens, segs, rfl, hU b hb, hs, h.mono hU⟩
/-- bodies whose names fit -/
def FitB (r : RecD) : Prop := (r.kind = 2 ∨ r.kind = 3 ∨ r.kind = 5 ∨ r.kind = 6 ∨ r.kind = 9 ∨ r.kind = 11 ∨ r.kind = 12 ∨ r.kind = 4 → r.host.size ≤ 255) ∧ (r.kind = 4 → r.box.size ≤ 255) ∧
  r.data.length ≤ 1048576 ∧ r.texts.length ≤ 1048576 ∧ r.pairs.length ≤ 1048576 ∧ ∀ p ∈ r.pairs, p.data.length ≤ 1048576
/-- a resource: its header's cells, and its body -/
def ResEl (U : Nat → Prop) (w : World) (segs : List (List Value)) (r : RecD) : Prop := ∃ (typ : UInt16) (len : Nat) (vb : Value), len < 65536 ∧ segs = rhSegs (bt r.name) typ r.cls r.ttl len ++ [[vb]] ∧ BodyEl U w vb r
abbrev lRes : List Nat := [256, 1, 1, 1, 1, 1]
theorem res_st : Stays ResEl := fun _ _ _ _ _ _ ⟨t, n, v, h0, h1, h2⟩ hU m hn => ⟨t, n, v, h0, h1, h2.keep hU m hn⟩
theorem res_gr : Grows ResEl := fun _ _ _ _ _ ⟨t, n, v, h0, h1, h2⟩ hU => ⟨t, n, v, h0, h1, h2.mono hU⟩

set_option maxHeartbeats 4000000 in
set_option maxRecDepth 100000 in
theorem c88 {w : World} {U : Nat → Prop} (hU : ∀ k, U k → k < w.heap.size) {r : RecD} {vd vt vp : Value} (hd : BA U w vd r.data) (ht : LA TextEl [1] U w vt r.texts) (hp : LA PairEl lPair U w vp r.pairs) (hk1 : 1 ≤ r.kind) (hk13 : r.kind ≤ 13) (hfit : FitB r) :
    Ret PP 88 [ag (recSegs r vd vt vp)] w (fun u w' => BodyEl (Ub U w w') w' u r ∧ Fr0 w w') := by
  obtain ⟨at0, ct0, rfl⟩ := ht.form
  obtain ⟨ap0, cp0, rfl⟩ := hp.form
  obtain ⟨ad0, cd0, rfl, -⟩ := id hd
  have hf : Fr (fun _ => False) w w := Fr.refl _ _
  refine ret_of Tryz.func88 rfl rfl rfl [(0, _)] rfl ?_
  refine sreg ?_
  refine svK (xboxS (lens := [1, 1, 1, 1, 1, 1, 1, 1, 1, 1, 1, 1, 1, 1, 1, 1]) rfl rfl) ?_
  rintro _ w2 ⟨b1, rfl, m3, h1, e1, s1⟩
  have hd := hd.keep (fun k hk => by have hk := hU k hk; omega) m3 (fun _ _ h => h)
  have ht := ht.keep text_st (fun k hk => by have hk := hU k hk; omega) m3 (fun _ _ h => h)
  have hp := hp.keep pair_st (fun k hk => by have hk := hU k hk; omega) m3 (fun _ _ h => h)
  have hf := hf.step0 m3
  refine sv (xassign rfl) ?_
  refine send ?_
  refine forget_wp [(1, _)] ⟨rfl, trivial⟩ fun _ => ?_
  refine wp_seq ?_
  refine sreg ?_
  refine sv (xfld fl112_5 rfl) ?_
  refine sv (xld on3 rfl (h1.r.c 5 rfl rfl)) ?_
  refine send ?_
  refine forget_wp [(1, _), (17, _)] ⟨rfl, rfl, trivial⟩ fun _ => ?_
  refine wp_block ?_
  refine sreg ?_
  refine svP (xeql rfl rfl) (fun hc19 => ?_) (fun hc19 => ?_)
  · skip
    refine sv (xassign rfl) ?_
    refine send ?_
    refine forget_wp [(1, _), (17, _), (18, _)] ⟨rfl, rfl, rfl, trivial⟩ fun _ => ?_
    refine cyes rfl ?_
    refine sreg ?_
    refine sv (xldS (lens := [1, 1, 1, 1, 1, 1, 1, 1, 1, 1, 1, 1, 1, 1, 1, 1]) ro112 rfl h1.r) ?_
    refine sc (xcall ca117 rfl) (c117 (U := U) (fun k hk => by have hk := hU k hk; omega) hd) ?_
    rintro _ w4 ⟨rfl, m5⟩
    have z6 := m5.size
    have hd := hd.keep (fun k hk => by have hk := hU k hk; omega) m5 (fun _ _ h => h)
    have ht := ht.keep text_st (fun k hk => by have hk := hU k hk; omega) m5 (fun _ _ h => h)
    have hp := hp.keep pair_st (fun k hk => by have hk := hU k hk; omega) m5 (fun _ _ h => h)
    have hf := hf.step0 m5
    have h1 := h1.keep m5 (fun h => h)
    refine svK (xallS (lens := [4]) in189 (by simp [bvs_length])) ?_
    rintro _ w8 ⟨b3, rfl, m9, h3, e7, s7⟩
    have hd := hd.keep (fun k hk => by have hk := hU k hk; omega) m9 (fun _ _ h => h)
    have ht := ht.keep text_st (fun k hk => by have hk := hU k hk; omega) m9 (fun _ _ h => h)
    have hp := hp.keep pair_st (fun k hk => by have hk := hU k hk; omega) m9 (fun _ _ h => h)
    have hf := hf.step0 m9
    have h1 := h1.keep m9 (fun h => h)
    refine suK (xstW h3 (lens' := [4]) sz189 (by simp [bvs_length, fixedL_length]) rfl (by simp only [List.flatten_cons, List.flatten_nil, List.append_nil, bvs_one] <;> rfl) rfl rfl) ?_
    rintro w11 ⟨m12, h3, s10⟩
    have hd := hd.keep (fun k hk => by have hk := hU k hk; omega) m12 (fun k hk hS => by have hk := hU k hk; have hS : k = b3 := hS; omega)
    have ht := ht.keep text_st (fun k hk => by have hk := hU k hk; omega) m12 (fun k hk hS => by have hk := hU k hk; have hS : k = b3 := hS; omega)
    have hp := hp.keep pair_st (fun k hk => by have hk := hU k hk; omega) m12 (fun k hk hS => by have hk := hU k hk; have hS : k = b3 := hS; omega)
    have hf := hf.step m12 (fun k hk hS => by have hS : k = b3 := hS; show False; omega)
    have h1 := h1.keep m12 (by show ¬ (b1 = b3); omega)
    refine send ?_
    refine forget_wp [(3, _)] ⟨rfl, trivial⟩ fun _ => ?_
    refine sreg ?_
    refine sv (xmkif ni186 rfl) ?_
    refine sv (xassign rfl) ?_
    refine send ?_
    refine forget_wp [(2, _)] ⟨rfl, trivial⟩ fun _ => ?_
    refine wp_ret ?_
    refine rBlock ?_
    refine rThen ?_
    refine rp1 rfl rfl ?_
    exact ⟨⟨b3, _, _, _, rfl, .inr ⟨by omega, by omega⟩, h3.r, .a (by omega)⟩, hf⟩
  · skip
    refine sv (xassign rfl) ?_
    refine send ?_
    refine forget_wp [(1, _), (17, _), (18, _)] ⟨rfl, rfl, rfl, trivial⟩ fun _ => ?_
    refine cno rfl ?_
    refine sreg ?_
    refine svP (xeql rfl rfl) (fun hc24 => ?_) (fun hc24 => ?_)
    · skip
      refine sv (xassign rfl) ?_
      refine send ?_
      refine forget_wp [(1, _), (17, _), (23, _)] ⟨rfl, rfl, rfl, trivial⟩ fun _ => ?_
      refine cyes rfl ?_
      refine sreg ?_
      refine sv (xldS (lens := [1, 1, 1, 1, 1, 1, 1, 1, 1, 1, 1, 1, 1, 1, 1, 1]) ro112 rfl h1.r) ?_
      refine sc (xcall ca119 rfl) (c119 (hfit.1 (by omega))) ?_
      rintro _ w13 ⟨rfl, m14⟩
      have z15 := m14.size
      have hd := hd.keep (fun k hk => by have hk := hU k hk; omega) m14 (fun _ _ h => h)
      have ht := ht.keep text_st (fun k hk => by have hk := hU k hk; omega) m14 (fun _ _ h => h)
      have hp := hp.keep pair_st (fun k hk => by have hk := hU k hk; omega) m14 (fun _ _ h => h)
      have hf := hf.step0 m14
      have h1 := h1.keep m14 (fun h => h)
      refine svK (xallS (lens := [256]) in192 (by simp [nm_length])) ?_
      rintro _ w17 ⟨b4, rfl, m18, h4, e16, s16⟩
      have hd := hd.keep (fun k hk => by have hk := hU k hk; omega) m18 (fun _ _ h => h)
      have ht := ht.keep text_st (fun k hk => by have hk := hU k hk; omega) m18 (fun _ _ h => h)
      have hp := hp.keep pair_st (fun k hk => by have hk := hU k hk; omega) m18 (fun _ _ h => h)
      have hf := hf.step0 m18
      have h1 := h1.keep m18 (fun h => h)
      refine suK (xstW h4 (lens' := [256]) sz192 (by simp [nm_length]) rfl (by simp only [List.flatten_cons, List.flatten_nil, List.append_nil, nm_one] <;> rfl) rfl rfl) ?_
      rintro w20 ⟨m21, h4, s19⟩
      have hd := hd.keep (fun k hk => by have hk := hU k hk; omega) m21 (fun k hk hS => by have hk := hU k hk; have hS : k = b4 := hS; omega)
      have ht := ht.keep text_st (fun k hk => by have hk := hU k hk; omega) m21 (fun k hk hS => by have hk := hU k hk; have hS : k = b4 := hS; omega)
      have hp := hp.keep pair_st (fun k hk => by have hk := hU k hk; omega) m21 (fun k hk hS => by have hk := hU k hk; have hS : k = b4 := hS; omega)
      have hf := hf.step m21 (fun k hk hS => by have hS : k = b4 := hS; show False; omega)
      have h1 := h1.keep m21 (by show ¬ (b1 = b4); omega)
      refine send ?_
      refine forget_wp [(4, _)] ⟨rfl, trivial⟩ fun _ => ?_
      refine sreg ?_
      refine sv (xmkif ni190 rfl) ?_
      refine sv (xassign rfl) ?_
      refine send ?_
      refine forget_wp [(2, _)] ⟨rfl, trivial⟩ fun _ => ?_
      refine wp_ret ?_
      refine rBlock ?_
      refine rThen ?_
      refine rp1 rfl rfl ?_
      exact ⟨⟨b4, _, _, _, rfl, .inr ⟨by omega, by omega⟩, h4.r, .ns (by omega)⟩, hf⟩
    · skip
      refine sv (xassign rfl) ?_
      refine send ?_
      refine forget_wp [(1, _), (17, _), (23, _)] ⟨rfl, rfl, rfl, trivial⟩ fun _ => ?_
      refine cno rfl ?_
      refine sreg ?_
      refine svP (xeql rfl rfl) (fun hc29 => ?_) (fun hc29 => ?_)
      · skip
        refine sv (xassign rfl) ?_
        refine send ?_
        refine forget_wp [(1, _), (17, _), (28, _)] ⟨rfl, rfl, rfl, trivial⟩ fun _ => ?_
        refine cyes rfl ?_
        refine sreg ?_
        refine sv (xldS (lens := [1, 1, 1, 1, 1, 1, 1, 1, 1, 1, 1, 1, 1, 1, 1, 1]) ro112 rfl h1.r) ?_
        refine sc (xcall ca121 rfl) (c121 (hfit.1 (by omega))) ?_
        rintro _ w22 ⟨rfl, m23⟩
        have z24 := m23.size
        have hd := hd.keep (fun k hk => by have hk := hU k hk; omega) m23 (fun _ _ h => h)
        have ht := ht.keep text_st (fun k hk => by have hk := hU k hk; omega) m23 (fun _ _ h => h)
        have hp := hp.keep pair_st (fun k hk => by have hk := hU k hk; omega) m23 (fun _ _ h => h)
        have hf := hf.step0 m23
        have h1 := h1.keep m23 (fun h => h)
        refine svK (xallS (lens := [256]) in195 (by simp [nm_length])) ?_
        rintro _ w26 ⟨b5, rfl, m27, h5, e25, s25⟩
        have hd := hd.keep (fun k hk => by have hk := hU k hk; omega) m27 (fun _ _ h => h)
        have ht := ht.keep text_st (fun k hk => by have hk := hU k hk; omega) m27 (fun _ _ h => h)
        have hp := hp.keep pair_st (fun k hk => by have hk := hU k hk; omega) m27 (fun _ _ h => h)
        have hf := hf.step0 m27
        have h1 := h1.keep m27 (fun h => h)
        refine suK (xstW h5 (lens' := [256]) sz195 (by simp [nm_length]) rfl (by simp only [List.flatten_cons, List.flatten_nil, List.append_nil, nm_one] <;> rfl) rfl rfl) ?_
        rintro w29 ⟨m30, h5, s28⟩
        have hd := hd.keep (fun k hk => by have hk := hU k hk; omega) m30 (fun k hk hS => by have hk := hU k hk; have hS : k = b5 := hS; omega)
        have ht := ht.keep text_st (fun k hk => by have hk := hU k hk; omega) m30 (fun k hk hS => by have hk := hU k hk; have hS : k = b5 := hS; omega)
        have hp := hp.keep pair_st (fun k hk => by have hk := hU k hk; omega) m30 (fun k hk hS => by have hk := hU k hk; have hS : k = b5 := hS; omega)
        have hf := hf.step m30 (fun k hk hS => by have hS : k = b5 := hS; show False; omega)
        have h1 := h1.keep m30 (by show ¬ (b1 = b5); omega)
        refine send ?_
        refine forget_wp [(5, _)] ⟨rfl, trivial⟩ fun _ => ?_
        refine sreg ?_
        refine sv (xmkif ni193 rfl) ?_
        refine sv (xassign rfl) ?_
        refine send ?_
        refine forget_wp [(2, _)] ⟨rfl, trivial⟩ fun _ => ?_
        refine wp_ret ?_
        refine rBlock ?_
        refine rThen ?_
        refine rp1 rfl rfl ?_
        exact ⟨⟨b5, _, _, _, rfl, .inr ⟨by omega, by omega⟩, h5.r, .cname (by omega)⟩, hf⟩
      · skip
        refine sv (xassign rfl) ?_
        refine send ?_
        refine forget_wp [(1, _), (17, _), (28, _)] ⟨rfl, rfl, rfl, trivial⟩ fun _ => ?_
        refine cno rfl ?_
        refine sreg ?_
        refine svP (xeql rfl rfl) (fun hc34 => ?_) (fun hc34 => ?_)
        · skip
          refine sv (xassign rfl) ?_
          refine send ?_
          refine forget_wp [(1, _), (17, _), (33, _)] ⟨rfl, rfl, rfl, trivial⟩ fun _ => ?_
          refine cyes rfl ?_
          refine sreg ?_
          refine sv (xldS (lens := [1, 1, 1, 1, 1, 1, 1, 1, 1, 1, 1, 1, 1, 1, 1, 1]) ro112 rfl h1.r) ?_
          refine sc (xcall ca123 rfl) (c123 (hfit.1 (by omega)) (hfit.2.1 (by omega))) ?_
          rintro _ w31 ⟨rfl, m32⟩
          have z33 := m32.size
          have hd := hd.keep (fun k hk => by have hk := hU k hk; omega) m32 (fun _ _ h => h)
          have ht := ht.keep text_st (fun k hk => by have hk := hU k hk; omega) m32 (fun _ _ h => h)
          have hp := hp.keep pair_st (fun k hk => by have hk := hU k hk; omega) m32 (fun _ _ h => h)
          have hf := hf.step0 m32
          have h1 := h1.keep m32 (fun h => h)
          refine svK (xallS (lens := [256, 256, 1, 1, 1, 1, 1]) in198 (by simp [nm_length])) ?_
          rintro _ w35 ⟨b6, rfl, m36, h6, e34, s34⟩
          have hd := hd.keep (fun k hk => by have hk := hU k hk; omega) m36 (fun _ _ h => h)
          have ht := ht.keep text_st (fun k hk => by have hk := hU k hk; omega) m36 (fun _ _ h => h)
          have hp := hp.keep pair_st (fun k hk => by have hk := hU k hk; omega) m36 (fun _ _ h => h)
          have hf := hf.step0 m36
          have h1 := h1.keep m36 (fun h => h)
          refine suK (xstW h6 (lens' := [256, 256, 1, 1, 1, 1, 1]) sz198 (by simp [nm_length]) rfl (by simp only [List.flatten_cons, List.flatten_nil, List.all_append, List.append_nil, nm_one, Bool.true_and] <;> rfl) rfl rfl) ?_
          rintro w38 ⟨m39, h6, s37⟩
          have hd := hd.keep (fun k hk => by have hk := hU k hk; omega) m39 (fun k hk hS => by have hk := hU k hk; have hS : k = b6 := hS; omega)
          have ht := ht.keep text_st (fun k hk => by have hk := hU k hk; omega) m39 (fun k hk hS => by have hk := hU k hk; have hS : k = b6 := hS; omega)
          have hp := hp.keep pair_st (fun k hk => by have hk := hU k hk; omega) m39 (fun k hk hS => by have hk := hU k hk; have hS : k = b6 := hS; omega)
          have hf := hf.step m39 (fun k hk hS => by have hS : k = b6 := hS; show False; omega)
          have h1 := h1.keep m39 (by show ¬ (b1 = b6); omega)
          refine send ?_
          refine forget_wp [(6, _)] ⟨rfl, trivial⟩ fun _ => ?_
          refine sreg ?_
          refine sv (xmkif ni196 rfl) ?_
          refine sv (xassign rfl) ?_
          refine send ?_
          refine forget_wp [(2, _)] ⟨rfl, trivial⟩ fun _ => ?_
          refine wp_ret ?_
          refine rBlock ?_
          refine rThen ?_
          refine rp1 rfl rfl ?_
          exact ⟨⟨b6, _, _, _, rfl, .inr ⟨by omega, by omega⟩, h6.r, .soa (by omega)⟩, hf⟩
        · skip
          refine sv (xassign rfl) ?_
          refine send ?_
          refine forget_wp [(1, _), (17, _), (33, _)] ⟨rfl, rfl, rfl, trivial⟩ fun _ => ?_
          refine cno rfl ?_
          refine sreg ?_
          refine svP (xeql rfl rfl) (fun hc39 => ?_) (fun hc39 => ?_)
          · skip
            refine sv (xassign rfl) ?_
            refine send ?_
            refine forget_wp [(1, _), (17, _), (38, _)] ⟨rfl, rfl, rfl, trivial⟩ fun _ => ?_
            refine cyes rfl ?_
            refine sreg ?_
            refine sv (xldS (lens := [1, 1, 1, 1, 1, 1, 1, 1, 1, 1, 1, 1, 1, 1, 1, 1]) ro112 rfl h1.r) ?_
            refine sc (xcall ca125 rfl) (c125 (hfit.1 (by omega))) ?_
            rintro _ w40 ⟨rfl, m41⟩
            have z42 := m41.size
            have hd := hd.keep (fun k hk => by have hk := hU k hk; omega) m41 (fun _ _ h => h)
            have ht := ht.keep text_st (fun k hk => by have hk := hU k hk; omega) m41 (fun _ _ h => h)
            have hp := hp.keep pair_st (fun k hk => by have hk := hU k hk; omega) m41 (fun _ _ h => h)
            have hf := hf.step0 m41
            have h1 := h1.keep m41 (fun h => h)
            refine svK (xallS (lens := [256]) in201 (by simp [nm_length])) ?_
            rintro _ w44 ⟨b7, rfl, m45, h7, e43, s43⟩
            have hd := hd.keep (fun k hk => by have hk := hU k hk; omega) m45 (fun _ _ h => h)
            have ht := ht.keep text_st (fun k hk => by have hk := hU k hk; omega) m45 (fun _ _ h => h)
            have hp := hp.keep pair_st (fun k hk => by have hk := hU k hk; omega) m45 (fun _ _ h => h)
            have hf := hf.step0 m45
            have h1 := h1.keep m45 (fun h => h)
            refine suK (xstW h7 (lens' := [256]) sz201 (by simp [nm_length]) rfl (by simp only [List.flatten_cons, List.flatten_nil, List.append_nil, nm_one] <;> rfl) rfl rfl) ?_
            rintro w47 ⟨m48, h7, s46⟩
            have hd := hd.keep (fun k hk => by have hk := hU k hk; omega) m48 (fun k hk hS => by have hk := hU k hk; have hS : k = b7 := hS; omega)
            have ht := ht.keep text_st (fun k hk => by have hk := hU k hk; omega) m48 (fun k hk hS => by have hk := hU k hk; have hS : k = b7 := hS; omega)
            have hp := hp.keep pair_st (fun k hk => by have hk := hU k hk; omega) m48 (fun k hk hS => by have hk := hU k hk; have hS : k = b7 := hS; omega)
            have hf := hf.step m48 (fun k hk hS => by have hS : k = b7 := hS; show False; omega)
            have h1 := h1.keep m48 (by show ¬ (b1 = b7); omega)
            refine send ?_
            refine forget_wp [(7, _)] ⟨rfl, trivial⟩ fun _ => ?_
            refine sreg ?_
            refine sv (xmkif ni199 rfl) ?_
            refine sv (xassign rfl) ?_
            refine send ?_
            refine forget_wp [(2, _)] ⟨rfl, trivial⟩ fun _ => ?_
            refine wp_ret ?_
            refine rBlock ?_
            refine rThen ?_
            refine rp1 rfl rfl ?_
            exact ⟨⟨b7, _, _, _, rfl, .inr ⟨by omega, by omega⟩, h7.r, .ptr (by omega)⟩, hf⟩
          · skip
            refine sv (xassign rfl) ?_
            refine send ?_
            refine forget_wp [(1, _), (17, _), (38, _)] ⟨rfl, rfl, rfl, trivial⟩ fun _ => ?_
            refine cno rfl ?_
            refine sreg ?_
            refine svP (xeql rfl rfl) (fun hc44 => ?_) (fun hc44 => ?_)
            · skip
              refine sv (xassign rfl) ?_
              refine send ?_
              refine forget_wp [(1, _), (17, _), (43, _)] ⟨rfl, rfl, rfl, trivial⟩ fun _ => ?_
              refine cyes rfl ?_
              refine sreg ?_
              refine sv (xldS (lens := [1, 1, 1, 1, 1, 1, 1, 1, 1, 1, 1, 1, 1, 1, 1, 1]) ro112 rfl h1.r) ?_
              refine sc (xcall ca127 rfl) (c127 (hfit.1 (by omega))) ?_
              rintro _ w49 ⟨rfl, m50⟩
              have z51 := m50.size
              have hd := hd.keep (fun k hk => by have hk := hU k hk; omega) m50 (fun _ _ h => h)
              have ht := ht.keep text_st (fun k hk => by have hk := hU k hk; omega) m50 (fun _ _ h => h)
              have hp := hp.keep pair_st (fun k hk => by have hk := hU k hk; omega) m50 (fun _ _ h => h)
              have hf := hf.step0 m50
              have h1 := h1.keep m50 (fun h => h)
              refine svK (xallS (lens := [1, 256]) in204 (by simp [nm_length])) ?_
              rintro _ w53 ⟨b8, rfl, m54, h8, e52, s52⟩
              have hd := hd.keep (fun k hk => by have hk := hU k hk; omega) m54 (fun _ _ h => h)
              have ht := ht.keep text_st (fun k hk => by have hk := hU k hk; omega) m54 (fun _ _ h => h)
              have hp := hp.keep pair_st (fun k hk => by have hk := hU k hk; omega) m54 (fun _ _ h => h)
              have hf := hf.step0 m54
              have h1 := h1.keep m54 (fun h => h)
              refine suK (xstW h8 (lens' := [1, 256]) sz204 (by simp [nm_length]) rfl (by simp only [List.flatten_cons, List.flatten_nil, List.all_append, List.append_nil, nm_one] <;> rfl) rfl rfl) ?_
              rintro w56 ⟨m57, h8, s55⟩
              have hd := hd.keep (fun k hk => by have hk := hU k hk; omega) m57 (fun k hk hS => by have hk := hU k hk; have hS : k = b8 := hS; omega)
              have ht := ht.keep text_st (fun k hk => by have hk := hU k hk; omega) m57 (fun k hk hS => by have hk := hU k hk; have hS : k = b8 := hS; omega)
              have hp := hp.keep pair_st (fun k hk => by have hk := hU k hk; omega) m57 (fun k hk hS => by have hk := hU k hk; have hS : k = b8 := hS; omega)
              have hf := hf.step m57 (fun k hk hS => by have hS : k = b8 := hS; show False; omega)
              have h1 := h1.keep m57 (by show ¬ (b1 = b8); omega)
              refine send ?_
              refine forget_wp [(8, _)] ⟨rfl, trivial⟩ fun _ => ?_
              refine sreg ?_
              refine sv (xmkif ni202 rfl) ?_
              refine sv (xassign rfl) ?_
              refine send ?_
              refine forget_wp [(2, _)] ⟨rfl, trivial⟩ fun _ => ?_
              refine wp_ret ?_
              refine rBlock ?_
              refine rThen ?_
              refine rp1 rfl rfl ?_
              exact ⟨⟨b8, _, _, _, rfl, .inr ⟨by omega, by omega⟩, h8.r, .mx (by omega)⟩, hf⟩
            · skip
              refine sv (xassign rfl) ?_
              refine send ?_
              refine forget_wp [(1, _), (17, _), (43, _)] ⟨rfl, rfl, rfl, trivial⟩ fun _ => ?_
              refine cno rfl ?_
              refine sreg ?_
              refine svP (xeql rfl rfl) (fun hc49 => ?_) (fun hc49 => ?_)
              · skip
                refine sv (xassign rfl) ?_
                refine send ?_
                refine forget_wp [(1, _), (17, _), (48, _)] ⟨rfl, rfl, rfl, trivial⟩ fun _ => ?_
                refine cyes rfl ?_
                refine sreg ?_
                refine sv (xldS (lens := [1, 1, 1, 1, 1, 1, 1, 1, 1, 1, 1, 1, 1, 1, 1, 1]) ro112 rfl h1.r) ?_
                refine sc (xcall ca129 rfl) (c129 (U := U) (fun k hk => by have hk := hU k hk; omega) ht hfit.2.2.2.1) ?_
                rintro _ w58 ⟨v51, rfl, L51, m59⟩
                have z60 := m59.size
                have hd := hd.keep (fun k hk => by have hk := hU k hk; omega) m59 (fun _ _ h => h)
                have ht := ht.keep text_st (fun k hk => by have hk := hU k hk; omega) m59 (fun _ _ h => h)
                have hp := hp.keep pair_st (fun k hk => by have hk := hU k hk; omega) m59 (fun _ _ h => h)
                have hf := hf.step0 m59
                have h1 := h1.keep m59 (fun h => h)
                obtain ⟨aq51, cq51, rfl⟩ := L51.form
                refine svK (xallS (lens := [1]) in207 (by simp [])) ?_
                rintro _ w62 ⟨b9, rfl, m63, h9, e61, s61⟩
                have hd := hd.keep (fun k hk => by have hk := hU k hk; omega) m63 (fun _ _ h => h)
                have ht := ht.keep text_st (fun k hk => by have hk := hU k hk; omega) m63 (fun _ _ h => h)
                have hp := hp.keep pair_st (fun k hk => by have hk := hU k hk; omega) m63 (fun _ _ h => h)
                have hf := hf.step0 m63
                have h1 := h1.keep m63 (fun h => h)
                have L51 := L51.keep text_st (fun k hk => by have hk := Ub.num hU hk; omega) m63 (fun _ _ h => h)
                refine suK (xstW h9 (lens' := [1]) sz207 (by simp []) rfl (by simp only [List.flatten_cons, List.flatten_nil, List.append_nil] <;> rfl) rfl rfl) ?_
                rintro w65 ⟨m66, h9, s64⟩
                have hd := hd.keep (fun k hk => by have hk := hU k hk; omega) m66 (fun k hk hS => by have hk := hU k hk; have hS : k = b9 := hS; omega)
                have ht := ht.keep text_st (fun k hk => by have hk := hU k hk; omega) m66 (fun k hk hS => by have hk := hU k hk; have hS : k = b9 := hS; omega)
                have hp := hp.keep pair_st (fun k hk => by have hk := hU k hk; omega) m66 (fun k hk hS => by have hk := hU k hk; have hS : k = b9 := hS; omega)
                have hf := hf.step m66 (fun k hk hS => by have hS : k = b9 := hS; show False; omega)
                have h1 := h1.keep m66 (by show ¬ (b1 = b9); omega)
                have L51 := L51.keep text_st (fun k hk => by have hk := Ub.num hU hk; omega) m66 (fun k hk hS => by have hk := Ub.num hU hk; have hS : k = b9 := hS; omega)
                refine send ?_
                refine forget_wp [(9, _)] ⟨rfl, trivial⟩ fun _ => ?_
                refine sreg ?_
                refine sv (xmkif ni205 rfl) ?_
                refine sv (xassign rfl) ?_
                refine send ?_
                refine forget_wp [(2, _)] ⟨rfl, trivial⟩ fun _ => ?_
                refine wp_ret ?_
                refine rBlock ?_
                refine rThen ?_
                refine rp1 rfl rfl ?_
                exact ⟨⟨b9, _, _, _, rfl, .inr ⟨by omega, by omega⟩, h9.r, .txt (by omega) (L51.mono text_gr (fun k hk => hk.elim .inl (fun h => .inr ⟨by omega, by omega⟩)))⟩, hf⟩
              · skip
                refine sv (xassign rfl) ?_
                refine send ?_
                refine forget_wp [(1, _), (17, _), (48, _)] ⟨rfl, rfl, rfl, trivial⟩ fun _ => ?_
                refine cno rfl ?_
                refine sreg ?_
                refine svP (xeql rfl rfl) (fun hc54 => ?_) (fun hc54 => ?_)
                · skip
                  refine sv (xassign rfl) ?_
                  refine send ?_
                  refine forget_wp [(1, _), (17, _), (53, _)] ⟨rfl, rfl, rfl, trivial⟩ fun _ => ?_
                  refine cyes rfl ?_
                  refine sreg ?_
                  refine sv (xldS (lens := [1, 1, 1, 1, 1, 1, 1, 1, 1, 1, 1, 1, 1, 1, 1, 1]) ro112 rfl h1.r) ?_
                  refine sc (xcall ca131 rfl) (c131 (U := U) (fun k hk => by have hk := hU k hk; omega) hd) ?_
                  rintro _ w67 ⟨rfl, m68⟩
                  have z69 := m68.size
                  have hd := hd.keep (fun k hk => by have hk := hU k hk; omega) m68 (fun _ _ h => h)
                  have ht := ht.keep text_st (fun k hk => by have hk := hU k hk; omega) m68 (fun _ _ h => h)
                  have hp := hp.keep pair_st (fun k hk => by have hk := hU k hk; omega) m68 (fun _ _ h => h)
                  have hf := hf.step0 m68
                  have h1 := h1.keep m68 (fun h => h)
                  refine svK (xallS (lens := [16]) in211 (by simp [bvs_length])) ?_
                  rintro _ w71 ⟨b10, rfl, m72, h10, e70, s70⟩
                  have hd := hd.keep (fun k hk => by have hk := hU k hk; omega) m72 (fun _ _ h => h)
                  have ht := ht.keep text_st (fun k hk => by have hk := hU k hk; omega) m72 (fun _ _ h => h)
                  have hp := hp.keep pair_st (fun k hk => by have hk := hU k hk; omega) m72 (fun _ _ h => h)
                  have hf := hf.step0 m72
                  have h1 := h1.keep m72 (fun h => h)
                  refine suK (xstW h10 (lens' := [16]) sz211 (by simp [bvs_length, fixedL_length]) rfl (by simp only [List.flatten_cons, List.flatten_nil, List.append_nil, bvs_one] <;> rfl) rfl rfl) ?_
                  rintro w74 ⟨m75, h10, s73⟩
                  have hd := hd.keep (fun k hk => by have hk := hU k hk; omega) m75 (fun k hk hS => by have hk := hU k hk; have hS : k = b10 := hS; omega)
                  have ht := ht.keep text_st (fun k hk => by have hk := hU k hk; omega) m75 (fun k hk hS => by have hk := hU k hk; have hS : k = b10 := hS; omega)
                  have hp := hp.keep pair_st (fun k hk => by have hk := hU k hk; omega) m75 (fun k hk hS => by have hk := hU k hk; have hS : k = b10 := hS; omega)
                  have hf := hf.step m75 (fun k hk hS => by have hS : k = b10 := hS; show False; omega)
                  have h1 := h1.keep m75 (by show ¬ (b1 = b10); omega)
                  refine send ?_
                  refine forget_wp [(10, _)] ⟨rfl, trivial⟩ fun _ => ?_
                  refine sreg ?_
                  refine sv (xmkif ni208 rfl) ?_
                  refine sv (xassign rfl) ?_
                  refine send ?_
                  refine forget_wp [(2, _)] ⟨rfl, trivial⟩ fun _ => ?_
                  refine wp_ret ?_
                  refine rBlock ?_
                  refine rThen ?_
                  refine rp1 rfl rfl ?_
                  exact ⟨⟨b10, _, _, _, rfl, .inr ⟨by omega, by omega⟩, h10.r, .aaaa (by omega)⟩, hf⟩
                · skip
                  refine sv (xassign rfl) ?_
                  refine send ?_
                  refine forget_wp [(1, _), (17, _), (53, _)] ⟨rfl, rfl, rfl, trivial⟩ fun _ => ?_
                  refine cno rfl ?_
                  refine sreg ?_
                  refine svP (xeql rfl rfl) (fun hc59 => ?_) (fun hc59 => ?_)
                  · skip
                    refine sv (xassign rfl) ?_
                    refine send ?_
                    refine forget_wp [(1, _), (17, _), (58, _)] ⟨rfl, rfl, rfl, trivial⟩ fun _ => ?_
                    refine cyes rfl ?_
                    refine sreg ?_
                    refine sv (xldS (lens := [1, 1, 1, 1, 1, 1, 1, 1, 1, 1, 1, 1, 1, 1, 1, 1]) ro112 rfl h1.r) ?_
                    refine sc (xcall ca133 rfl) (c133 (hfit.1 (by omega))) ?_
                    rintro _ w76 ⟨rfl, m77⟩
                    have z78 := m77.size
                    have hd := hd.keep (fun k hk => by have hk := hU k hk; omega) m77 (fun _ _ h => h)
                    have ht := ht.keep text_st (fun k hk => by have hk := hU k hk; omega) m77 (fun _ _ h => h)
                    have hp := hp.keep pair_st (fun k hk => by have hk := hU k hk; omega) m77 (fun _ _ h => h)
                    have hf := hf.step0 m77
                    have h1 := h1.keep m77 (fun h => h)
                    refine svK (xallS (lens := [1, 1, 1, 256]) in214 (by simp [nm_length])) ?_
                    rintro _ w80 ⟨b11, rfl, m81, h11, e79, s79⟩
                    have hd := hd.keep (fun k hk => by have hk := hU k hk; omega) m81 (fun _ _ h => h)
                    have ht := ht.keep text_st (fun k hk => by have hk := hU k hk; omega) m81 (fun _ _ h => h)
                    have hp := hp.keep pair_st (fun k hk => by have hk := hU k hk; omega) m81 (fun _ _ h => h)
                    have hf := hf.step0 m81
                    have h1 := h1.keep m81 (fun h => h)
                    refine suK (xstW h11 (lens' := [1, 1, 1, 256]) sz214 (by simp [nm_length]) rfl (by simp only [List.flatten_cons, List.flatten_nil, List.all_append, List.append_nil, nm_one] <;> rfl) rfl rfl) ?_
                    rintro w83 ⟨m84, h11, s82⟩
                    have hd := hd.keep (fun k hk => by have hk := hU k hk; omega) m84 (fun k hk hS => by have hk := hU k hk; have hS : k = b11 := hS; omega)
                    have ht := ht.keep text_st (fun k hk => by have hk := hU k hk; omega) m84 (fun k hk hS => by have hk := hU k hk; have hS : k = b11 := hS; omega)
                    have hp := hp.keep pair_st (fun k hk => by have hk := hU k hk; omega) m84 (fun k hk hS => by have hk := hU k hk; have hS : k = b11 := hS; omega)
                    have hf := hf.step m84 (fun k hk hS => by have hS : k = b11 := hS; show False; omega)
                    have h1 := h1.keep m84 (by show ¬ (b1 = b11); omega)
                    refine send ?_
                    refine forget_wp [(11, _)] ⟨rfl, trivial⟩ fun _ => ?_
                    refine sreg ?_
                    refine sv (xmkif ni212 rfl) ?_
                    refine sv (xassign rfl) ?_
                    refine send ?_
                    refine forget_wp [(2, _)] ⟨rfl, trivial⟩ fun _ => ?_
                    refine wp_ret ?_
                    refine rBlock ?_
                    refine rThen ?_
                    refine rp1 rfl rfl ?_
                    exact ⟨⟨b11, _, _, _, rfl, .inr ⟨by omega, by omega⟩, h11.r, .srv (by omega)⟩, hf⟩
                  · skip
                    refine sv (xassign rfl) ?_
                    refine send ?_
                    refine forget_wp [(1, _), (17, _), (58, _)] ⟨rfl, rfl, rfl, trivial⟩ fun _ => ?_
                    refine cno rfl ?_
                    refine sreg ?_
                    refine svP (xeql rfl rfl) (fun hc64 => ?_) (fun hc64 => ?_)
                    · skip
                      refine sv (xassign rfl) ?_
                      refine send ?_
                      refine forget_wp [(1, _), (17, _), (63, _)] ⟨rfl, rfl, rfl, trivial⟩ fun _ => ?_
                      refine cyes rfl ?_
                      refine sreg ?_
                      refine sv (xldS (lens := [1, 1, 1, 1, 1, 1, 1, 1, 1, 1, 1, 1, 1, 1, 1, 1]) ro112 rfl h1.r) ?_
                      refine sc (xcall ca135 rfl) (c135 (U := U) (fun k hk => by have hk := hU k hk; omega) hp hfit.2.2.2.2.1 hfit.2.2.2.2.2) ?_
                      rintro _ w85 ⟨v66, rfl, L66, m86⟩
                      have z87 := m86.size
                      have hd := hd.keep (fun k hk => by have hk := hU k hk; omega) m86 (fun _ _ h => h)
                      have ht := ht.keep text_st (fun k hk => by have hk := hU k hk; omega) m86 (fun _ _ h => h)
                      have hp := hp.keep pair_st (fun k hk => by have hk := hU k hk; omega) m86 (fun _ _ h => h)
                      have hf := hf.step0 m86
                      have h1 := h1.keep m86 (fun h => h)
                      obtain ⟨aq66, cq66, rfl⟩ := L66.form
                      refine svK (xallS (lens := [1]) in218 (by simp [])) ?_
                      rintro _ w89 ⟨b12, rfl, m90, h12, e88, s88⟩
                      have hd := hd.keep (fun k hk => by have hk := hU k hk; omega) m90 (fun _ _ h => h)
                      have ht := ht.keep text_st (fun k hk => by have hk := hU k hk; omega) m90 (fun _ _ h => h)
                      have hp := hp.keep pair_st (fun k hk => by have hk := hU k hk; omega) m90 (fun _ _ h => h)
                      have hf := hf.step0 m90
                      have h1 := h1.keep m90 (fun h => h)
                      have L66 := L66.keep pair_st (fun k hk => by have hk := Ub.num hU hk; omega) m90 (fun _ _ h => h)
                      refine suK (xstW h12 (lens' := [1]) sz218 (by simp []) rfl (by simp only [List.flatten_cons, List.flatten_nil, List.append_nil] <;> rfl) rfl rfl) ?_
                      rintro w92 ⟨m93, h12, s91⟩
                      have hd := hd.keep (fun k hk => by have hk := hU k hk; omega) m93 (fun k hk hS => by have hk := hU k hk; have hS : k = b12 := hS; omega)
                      have ht := ht.keep text_st (fun k hk => by have hk := hU k hk; omega) m93 (fun k hk hS => by have hk := hU k hk; have hS : k = b12 := hS; omega)
                      have hp := hp.keep pair_st (fun k hk => by have hk := hU k hk; omega) m93 (fun k hk hS => by have hk := hU k hk; have hS : k = b12 := hS; omega)
                      have hf := hf.step m93 (fun k hk hS => by have hS : k = b12 := hS; show False; omega)
                      have h1 := h1.keep m93 (by show ¬ (b1 = b12); omega)
                      have L66 := L66.keep pair_st (fun k hk => by have hk := Ub.num hU hk; omega) m93 (fun k hk hS => by have hk := Ub.num hU hk; have hS : k = b12 := hS; omega)
                      refine send ?_
                      refine forget_wp [(12, _)] ⟨rfl, trivial⟩ fun _ => ?_
                      refine sreg ?_
                      refine sv (xmkif ni215 rfl) ?_
                      refine sv (xassign rfl) ?_
                      refine send ?_
                      refine forget_wp [(2, _)] ⟨rfl, trivial⟩ fun _ => ?_
                      refine wp_ret ?_
                      refine rBlock ?_
                      refine rThen ?_
                      refine rp1 rfl rfl ?_
                      exact ⟨⟨b12, _, _, _, rfl, .inr ⟨by omega, by omega⟩, h12.r, .opt (by omega) (L66.mono pair_gr (fun k hk => hk.elim .inl (fun h => .inr ⟨by omega, by omega⟩)))⟩, hf⟩
                    · skip
                      refine sv (xassign rfl) ?_
                      refine send ?_
                      refine forget_wp [(1, _), (17, _), (63, _)] ⟨rfl, rfl, rfl, trivial⟩ fun _ => ?_
                      refine cno rfl ?_
                      refine sreg ?_
                      refine svP (xeql rfl rfl) (fun hc69 => ?_) (fun hc69 => ?_)
                      · skip
                        refine sv (xassign rfl) ?_
                        refine send ?_
                        refine forget_wp [(1, _), (17, _), (68, _)] ⟨rfl, rfl, rfl, trivial⟩ fun _ => ?_
                        refine cyes rfl ?_
                        refine sreg ?_
                        refine sv (xldS (lens := [1, 1, 1, 1, 1, 1, 1, 1, 1, 1, 1, 1, 1, 1, 1, 1]) ro112 rfl h1.r) ?_
                        refine sc (xcall ca137 rfl) (c137 (U := U) (fun k hk => by have hk := hU k hk; omega) hp hfit.2.2.2.2.1 hfit.2.2.2.2.2 (hfit.1 (by omega))) ?_
                        rintro _ w94 ⟨v71, rfl, L71, m95⟩
                        have z96 := m95.size
                        have hd := hd.keep (fun k hk => by have hk := hU k hk; omega) m95 (fun _ _ h => h)
                        have ht := ht.keep text_st (fun k hk => by have hk := hU k hk; omega) m95 (fun _ _ h => h)
                        have hp := hp.keep pair_st (fun k hk => by have hk := hU k hk; omega) m95 (fun _ _ h => h)
                        have hf := hf.step0 m95
                        have h1 := h1.keep m95 (fun h => h)
                        obtain ⟨aq71, cq71, rfl⟩ := L71.form
                        refine svK (xallS (lens := [1, 256, 1]) in224 (by simp [nm_length])) ?_
                        rintro _ w98 ⟨b13, rfl, m99, h13, e97, s97⟩
                        have hd := hd.keep (fun k hk => by have hk := hU k hk; omega) m99 (fun _ _ h => h)
                        have ht := ht.keep text_st (fun k hk => by have hk := hU k hk; omega) m99 (fun _ _ h => h)
                        have hp := hp.keep pair_st (fun k hk => by have hk := hU k hk; omega) m99 (fun _ _ h => h)
                        have hf := hf.step0 m99
                        have h1 := h1.keep m99 (fun h => h)
                        have L71 := L71.keep pair_st (fun k hk => by have hk := Ub.num hU hk; omega) m99 (fun _ _ h => h)
                        refine suK (xstW h13 (lens' := [1, 256, 1]) sz224 (by simp [nm_length]) rfl (by simp only [List.flatten_cons, List.flatten_nil, List.all_append, List.append_nil, nm_one, Bool.true_and] <;> rfl) rfl rfl) ?_
                        rintro w101 ⟨m102, h13, s100⟩
                        have hd := hd.keep (fun k hk => by have hk := hU k hk; omega) m102 (fun k hk hS => by have hk := hU k hk; have hS : k = b13 := hS; omega)
                        have ht := ht.keep text_st (fun k hk => by have hk := hU k hk; omega) m102 (fun k hk hS => by have hk := hU k hk; have hS : k = b13 := hS; omega)
                        have hp := hp.keep pair_st (fun k hk => by have hk := hU k hk; omega) m102 (fun k hk hS => by have hk := hU k hk; have hS : k = b13 := hS; omega)
                        have hf := hf.step m102 (fun k hk hS => by have hS : k = b13 := hS; show False; omega)
                        have h1 := h1.keep m102 (by show ¬ (b1 = b13); omega)
                        have L71 := L71.keep pair_st (fun k hk => by have hk := Ub.num hU hk; omega) m102 (fun k hk hS => by have hk := Ub.num hU hk; have hS : k = b13 := hS; omega)
                        refine send ?_
                        refine forget_wp [(13, _)] ⟨rfl, trivial⟩ fun _ => ?_
                        refine sreg ?_
                        refine sv (xmkif ni221 rfl) ?_
                        refine sv (xassign rfl) ?_
                        refine send ?_
                        refine forget_wp [(2, _)] ⟨rfl, trivial⟩ fun _ => ?_
                        refine wp_ret ?_
                        refine rBlock ?_
                        refine rThen ?_
                        refine rp1 rfl rfl ?_
                        exact ⟨⟨b13, _, _, _, rfl, .inr ⟨by omega, by omega⟩, h13.r, .svcb (by omega) (L71.mono pair_gr (fun k hk => hk.elim .inl (fun h => .inr ⟨by omega, by omega⟩)))⟩, hf⟩
                      · skip
                        refine sv (xassign rfl) ?_
                        refine send ?_
                        refine forget_wp [(1, _), (17, _), (68, _)] ⟨rfl, rfl, rfl, trivial⟩ fun _ => ?_
                        refine cno rfl ?_
                        refine sreg ?_
                        refine svP (xeql rfl rfl) (fun hc74 => ?_) (fun hc74 => ?_)
                        · skip
                          refine sv (xassign rfl) ?_
                          refine send ?_
                          refine forget_wp [(1, _), (73, _)] ⟨rfl, rfl, trivial⟩ fun _ => ?_
                          refine cyes rfl ?_
                          refine sreg ?_
                          refine sv (xldS (lens := [1, 1, 1, 1, 1, 1, 1, 1, 1, 1, 1, 1, 1, 1, 1, 1]) ro112 rfl h1.r) ?_
                          refine sc (xcall ca139 rfl) (c139 (U := U) (fun k hk => by have hk := hU k hk; omega) hp hfit.2.2.2.2.1 hfit.2.2.2.2.2 (hfit.1 (by omega))) ?_
                          rintro _ w103 ⟨v76, rfl, L76, m104⟩
                          have z105 := m104.size
                          have hd := hd.keep (fun k hk => by have hk := hU k hk; omega) m104 (fun _ _ h => h)
                          have ht := ht.keep text_st (fun k hk => by have hk := hU k hk; omega) m104 (fun _ _ h => h)
                          have hp := hp.keep pair_st (fun k hk => by have hk := hU k hk; omega) m104 (fun _ _ h => h)
                          have hf := hf.step0 m104
                          have h1 := h1.keep m104 (fun h => h)
                          obtain ⟨aq76, cq76, rfl⟩ := L76.form
                          refine svK (xallS (lens := [1, 256, 1]) in228 (by simp [nm_length])) ?_
                          rintro _ w107 ⟨b14, rfl, m108, h14, e106, s106⟩
                          have hd := hd.keep (fun k hk => by have hk := hU k hk; omega) m108 (fun _ _ h => h)
                          have ht := ht.keep text_st (fun k hk => by have hk := hU k hk; omega) m108 (fun _ _ h => h)
                          have hp := hp.keep pair_st (fun k hk => by have hk := hU k hk; omega) m108 (fun _ _ h => h)
                          have hf := hf.step0 m108
                          have h1 := h1.keep m108 (fun h => h)
                          have L76 := L76.keep pair_st (fun k hk => by have hk := Ub.num hU hk; omega) m108 (fun _ _ h => h)
                          refine suK (xstW h14 (lens' := [1, 256, 1]) sz228 (by simp [nm_length]) rfl (by simp only [List.flatten_cons, List.flatten_nil, List.all_append, List.append_nil, nm_one, Bool.true_and] <;> rfl) rfl rfl) ?_
                          rintro w110 ⟨m111, h14, s109⟩
                          have hd := hd.keep (fun k hk => by have hk := hU k hk; omega) m111 (fun k hk hS => by have hk := hU k hk; have hS : k = b14 := hS; omega)
                          have ht := ht.keep text_st (fun k hk => by have hk := hU k hk; omega) m111 (fun k hk hS => by have hk := hU k hk; have hS : k = b14 := hS; omega)
                          have hp := hp.keep pair_st (fun k hk => by have hk := hU k hk; omega) m111 (fun k hk hS => by have hk := hU k hk; have hS : k = b14 := hS; omega)
                          have hf := hf.step m111 (fun k hk hS => by have hS : k = b14 := hS; show False; omega)
                          have h1 := h1.keep m111 (by show ¬ (b1 = b14); omega)
                          have L76 := L76.keep pair_st (fun k hk => by have hk := Ub.num hU hk; omega) m111 (fun k hk hS => by have hk := Ub.num hU hk; have hS : k = b14 := hS; omega)
                          refine send ?_
                          refine forget_wp [(14, _)] ⟨rfl, trivial⟩ fun _ => ?_
                          refine sreg ?_
                          refine sv (xmkif ni226 rfl) ?_
                          refine sv (xassign rfl) ?_
                          refine send ?_
                          refine forget_wp [(2, _)] ⟨rfl, trivial⟩ fun _ => ?_
                          refine wp_ret ?_
                          refine rBlock ?_
                          refine rThen ?_
                          refine rp1 rfl rfl ?_
                          exact ⟨⟨b14, _, _, _, rfl, .inr ⟨by omega, by omega⟩, h14.r, .https (by omega) (L76.mono pair_gr (fun k hk => hk.elim .inl (fun h => .inr ⟨by omega, by omega⟩)))⟩, hf⟩
                        · skip
                          refine sv (xassign rfl) ?_
                          refine send ?_
                          refine forget_wp [(1, _), (73, _)] ⟨rfl, rfl, trivial⟩ fun _ => ?_
                          refine cno rfl ?_
                          refine wp_skip ?_
                          refine nBlock ?_
                          refine nThen ?_
                          refine forget_wp [(1, _)] ⟨rfl, trivial⟩ fun _ => ?_
                          refine sreg ?_
                          refine sv (xldS (lens := [1, 1, 1, 1, 1, 1, 1, 1, 1, 1, 1, 1, 1, 1, 1, 1]) ro112 rfl h1.r) ?_
                          refine sc (xcall ca141 rfl) (c141 (U := U) (fun k hk => by have hk := hU k hk; omega) hd hfit.2.2.1) ?_
                          rintro _ w112 ⟨v79, rfl, L79, m113⟩
                          have z114 := m113.size
                          have hd := hd.keep (fun k hk => by have hk := hU k hk; omega) m113 (fun _ _ h => h)
                          have ht := ht.keep text_st (fun k hk => by have hk := hU k hk; omega) m113 (fun _ _ h => h)
                          have hp := hp.keep pair_st (fun k hk => by have hk := hU k hk; omega) m113 (fun _ _ h => h)
                          have hf := hf.step0 m113
                          have h1 := h1.keep m113 (fun h => h)
                          obtain ⟨aq79, cq79, rfl, -⟩ := id L79
                          refine svK (xallS (lens := [1, 1]) in231 (by simp [])) ?_
                          rintro _ w116 ⟨b15, rfl, m117, h15, e115, s115⟩
                          have hd := hd.keep (fun k hk => by have hk := hU k hk; omega) m117 (fun _ _ h => h)
                          have ht := ht.keep text_st (fun k hk => by have hk := hU k hk; omega) m117 (fun _ _ h => h)
                          have hp := hp.keep pair_st (fun k hk => by have hk := hU k hk; omega) m117 (fun _ _ h => h)
                          have hf := hf.step0 m117
                          have h1 := h1.keep m117 (fun h => h)
                          have L79 := L79.keep (fun k hk => by have hk := Ub.num hU hk; omega) m117 (fun _ _ h => h)
                          refine suK (xstW h15 (lens' := [1, 1]) sz231 (by simp []) rfl (by simp only [List.flatten_cons, List.flatten_nil, List.all_append, List.append_nil] <;> rfl) rfl rfl) ?_
                          rintro w119 ⟨m120, h15, s118⟩
                          have hd := hd.keep (fun k hk => by have hk := hU k hk; omega) m120 (fun k hk hS => by have hk := hU k hk; have hS : k = b15 := hS; omega)
                          have ht := ht.keep text_st (fun k hk => by have hk := hU k hk; omega) m120 (fun k hk hS => by have hk := hU k hk; have hS : k = b15 := hS; omega)
                          have hp := hp.keep pair_st (fun k hk => by have hk := hU k hk; omega) m120 (fun k hk hS => by have hk := hU k hk; have hS : k = b15 := hS; omega)
                          have hf := hf.step m120 (fun k hk hS => by have hS : k = b15 := hS; show False; omega)
                          have h1 := h1.keep m120 (by show ¬ (b1 = b15); omega)
                          have L79 := L79.keep (fun k hk => by have hk := Ub.num hU hk; omega) m120 (fun k hk hS => by have hk := Ub.num hU hk; have hS : k = b15 := hS; omega)
                          refine send ?_
                          refine forget_wp [(15, _)] ⟨rfl, trivial⟩ fun _ => ?_
                          refine sreg ?_
                          refine sv (xmkif ni229 rfl) ?_
                          refine sv (xassign rfl) ?_
                          refine send ?_
                          refine forget_wp [(2, _)] ⟨rfl, trivial⟩ fun _ => ?_
                          refine wp_ret ?_
                          refine rp1 rfl rfl ?_
                          have et : r.typ = typeN r := by simp only [typeN]; rw [if_neg (by omega), if_neg (by omega), if_neg (by omega), if_neg (by omega), if_neg (by omega), if_neg (by omega), if_neg (by omega), if_neg (by omega), if_neg (by omega), if_neg (by omega), if_neg (by omega), if_neg (by omega), if_pos (by omega)]
                          rw [et] at h15
                          exact ⟨⟨b15, _, _, _, rfl, .inr ⟨by omega, by omega⟩, h15.r, .other (by omega) (L79.mono (fun k hk => hk.elim .inl (fun h => .inr ⟨by omega, by omega⟩)))⟩, hf⟩
end Go.Proofs.YtifnodoffgfpbaaGreatDoor
