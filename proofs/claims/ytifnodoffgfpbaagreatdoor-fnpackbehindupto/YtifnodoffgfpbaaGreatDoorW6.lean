/- Walks: sizes and names that are looked at. Conditions: none. -/
import Derived.Test.YtifnodoffgfpbaaGreatDoorW5
import Derived.Test.YtifnodoffgfpbaaGreatDoorGrow
namespace Go.Proofs.YtifnodoffgfpbaaGreatDoor
open Go

theorem nameOk_dot {s : ByteArray} (h : s = ⟨#[46]⟩) : nameOk s = true := by subst h; rfl
theorem ofs_get {s : ByteArray} {k : Nat} {l : List UInt8} (h : k < s.size) (e : (bt s).drop k = l) : l = s[k] :: (bt s).drop (k + 1) := by rw [← e, wire_one h]
/-- keys that ascend -/
def asc (ps : List PairD) : Prop := ∀ (i : Nat) (p q : PairD), ps[i]? = some p → ps[i + 1]? = some q → p.key.toNat < q.key.toNat

set_option maxHeartbeats 4000000 in
set_option maxRecDepth 100000 in
theorem c190 {w : World} {U : Nat → Prop} (hU : ∀ k, U k → k < w.heap.size) {p : PairD} {vd : Value} (hd : BA U w vd p.data) (hn : p.data.length ≤ 1048576) :
    Ret PP 190 [ag (pairSegs p vd)] w (fun u w' => u = .bool true ∧ Fr0 w w') := by
  obtain ⟨ad0, cd0, rfl, -⟩ := id hd
  have hf : Fr (fun _ => False) w w := Fr.refl _ _
  refine ret_of Tryz.func190 rfl rfl rfl [(0, _)] rfl ?_
  refine sreg ?_
  refine svK (xboxS (lens := [1, 1]) rfl rfl) ?_
  rintro _ w2 ⟨b1, rfl, m3, h1, e1, s1⟩
  have hd := hd.keep (fun k hk => by have hk := hU k hk; omega) m3 (fun _ _ h => h)
  have hf := hf.step0 m3
  refine sv (xassign rfl) ?_
  refine send ?_
  refine forget_wp [(1, _)] ⟨rfl, trivial⟩ fun _ => ?_
  refine wp_seq ?_
  refine sreg ?_
  refine sv (xfld fl145_1 rfl) ?_
  refine sv (xld on37 rfl (h1.r.c 1 rfl rfl)) ?_
  refine sv (xlen sl37 rfl) ?_
  refine sv (exF (xgtr rfl rfl) (by omega)) ?_
  refine send ?_
  refine forget_wp [(6, _)] ⟨rfl, trivial⟩ fun _ => ?_
  refine cno rfl ?_
  refine wp_skip ?_
  refine nThen ?_
  refine forget_wp [] trivial fun _ => ?_
  refine sreg ?_
  refine sv (xassign rfl) ?_
  refine send ?_
  refine forget_wp [(2, _)] ⟨rfl, trivial⟩ fun _ => ?_
  refine wp_ret ?_
  refine rp1 rfl rfl ?_
  exact ⟨rfl, hf⟩
set_option maxHeartbeats 4000000 in
set_option maxRecDepth 100000 in
theorem c143 {w : World} {U : Nat → Prop} (hU : ∀ k, U k → k < w.heap.size) {v : Value} {ps : List PairD} (hp : LA PairEl lPair U w v ps) (hn : ps.length ≤ 1048576) (hpl : ∀ p ∈ ps, p.data.length ≤ 1048576) :
    Ret PP 143 [v] w (fun u w' => u = .bool true ∧ Fr0 w w') := by
  obtain ⟨a0, c0, rfl⟩ := hp.form
  have hf : Fr (fun _ => False) w w := Fr.refl _ _
  refine ret_of Tryz.func143 rfl rfl rfl [(0, _)] rfl ?_
  refine sreg ?_
  refine sv (xassign rfl) ?_
  refine send ?_
  refine forget_wp [(0, _)] ⟨rfl, trivial⟩ fun _ => ?_
  refine wp_seq ?_
  refine sreg ?_
  refine sv (xmove rfl) ?_
  refine sv (xlen sl110 rfl) ?_
  refine sv (exF (xgtr rfl rfl) (by omega)) ?_
  refine send ?_
  refine forget_wp [(0, _), (7, _)] ⟨rfl, rfl, trivial⟩ fun _ => ?_
  refine cno rfl ?_
  refine wp_skip ?_
  refine nThen ?_
  refine forget_wp [(0, _)] ⟨rfl, trivial⟩ fun _ => ?_
  refine wp_seq ?_
  refine sreg ?_
  refine sv (xmove rfl) ?_
  refine sv (xlen sl110 rfl) ?_
  refine sv (xmove rfl) ?_
  refine send ?_
  refine forget_wp [(8, _), (9, _), (10, _)] ⟨rfl, rfl, rfl, trivial⟩ fun _ => ?_
  refine wp_block ?_
  refine lp [(8, _), (9, _)] (fun (k : Nat) => [(10, .int .i64 (k : Int))]) (fun (k : Nat) wx => Fr (fun _ => False) w wx ∧ (k ≤ ps.length)) (fun (k : Nat) => ps.length - k) 0 ⟨rfl, rfl, rfl, trivial⟩ ⟨Fr.refl _ _, Nat.zero_le _⟩ ?_
  rintro k _ w2 ⟨hL1, hk⟩
  refine forget_wp [(8, _), (9, _), (10, _)] ⟨rfl, rfl, rfl, trivial⟩ fun _ => ?_
  have z3 := hL1.size
  have hp := hp.keep pair_st (fun k hk => by have hk := hU k hk; omega) hL1 (fun _ _ h => h)
  have hf := hf.step0 hL1
  refine sreg ?_
  refine svP (xlss rfl rfl) (fun hc11 => ?_) (fun hc11 => ?_)
  · skip
    refine send ?_
    refine forget_wp [(8, _), (9, _), (10, _), (11, _)] ⟨rfl, rfl, rfl, rfl, trivial⟩ fun _ => ?_
    refine wp_seq ?_
    refine cyes rfl ?_
    refine wp_skip ?_
    refine nThen ?_
    refine forget_wp [(8, _), (9, _), (10, _)] ⟨rfl, rfl, rfl, trivial⟩ fun _ => ?_
    refine wp_seq ?_
    refine wp_block ?_
    obtain ⟨p, hpk⟩ := some_of_lt (by omega : k < ps.length)
    refine sreg ?_
    obtain ⟨bE12, oE12, sgE12, rfl, uE12, hsE12, heE12⟩ := LA.get hp hpk
    obtain ⟨vd, rfl, hd⟩ := heE12
    have zE12 := hU _ uE12
    obtain ⟨ad, cd, rfl, -⟩ := id hd
    refine sv (xidx sl110 sz145 rfl rfl rfl (by omega)) ?_
    refine sv (xldS (lens := [1, 1]) ro145 rfl hsE12) ?_
    refine svK (xallS (lens := [1, 1]) in145 rfl) ?_
    rintro _ w5 ⟨b4, rfl, m6, h4, e4, s4⟩
    have hp := hp.keep pair_st (fun k hk => by have hk := hU k hk; omega) m6 (fun _ _ h => h)
    have hf := hf.step0 m6
    have hL1 := hL1.step0 m6
    have hsE12 := hsE12.keep m6 (by omega) (fun h => h)
    have hd := hd.keep (fun k hk => by have hk := hU k hk; omega) m6 (fun _ _ h => h)
    refine suK (xstW h4 (lens' := [1, 1]) sz145 rfl rfl rfl rfl rfl) ?_
    rintro w8 ⟨m9, h4, s7⟩
    have hp := hp.keep pair_st (fun k hk => by have hk := hU k hk; omega) m9 (fun k hk hS => by have hk := hU k hk; have hS : k = b4 := hS; omega)
    have hf := hf.step m9 (fun k hk hS => by have hS : k = b4 := hS; show False; omega)
    have hL1 := hL1.step m9 (fun k hk hS => by have hS : k = b4 := hS; show False; omega)
    have hsE12 := hsE12.keep m9 (by omega) (by show ¬ (bE12 = b4); omega)
    have hd := hd.keep (fun k hk => by have hk := hU k hk; omega) m9 (fun k hk hS => by have hk := hU k hk; have hS : k = b4 := hS; omega)
    refine send ?_
    refine forget_wp [(4, _), (8, _), (9, _), (10, _)] ⟨rfl, rfl, rfl, rfl, trivial⟩ fun _ => ?_
    refine sreg ?_
    refine sv (xldS (lens := [1, 1]) ro145 rfl h4.r) ?_
    refine sc (xcall ca190 rfl) (c190 (fun k hk => by have hk := hU k hk; omega) hd (hpl _ (List.mem_of_getElem? hpk))) ?_
    rintro _ w10 ⟨rfl, m11⟩
    have z12 := m11.size
    have hp := hp.keep pair_st (fun k hk => by have hk := hU k hk; omega) m11 (fun _ _ h => h)
    have hf := hf.step0 m11
    have hL1 := hL1.step0 m11
    have hsE12 := hsE12.keep m11 (by omega) (fun h => h)
    have hd := hd.keep (fun k hk => by have hk := hU k hk; omega) m11 (fun _ _ h => h)
    have h4 := h4.keep m11 (fun h => h)
    refine sv (xnot rfl) ?_
    refine send ?_
    refine forget_wp [(8, _), (9, _), (10, _), (16, _)] ⟨rfl, rfl, rfl, rfl, trivial⟩ fun _ => ?_
    refine cno rfl ?_
    refine wp_skip ?_
    refine nBlock ?_
    refine nThen ?_
    refine forget_wp [(8, _), (9, _), (10, _)] ⟨rfl, rfl, rfl, trivial⟩ fun _ => ?_
    refine lreg ?_
    refine sv (xadd rfl rfl (w64 (by omega) (by omega))) ?_
    refine sv (xmove rfl) ?_
    refine lend ?_
    refine nThen ?_
    refine ⟨k + 1, _, env_okl ⟨rfl, rfl, rfl, trivial⟩, ⟨hL1, (by omega)⟩, ?_⟩
    show ps.length - (k + 1) < ps.length - k; omega
  · skip
    refine send ?_
    refine forget_wp [(8, _), (9, _), (10, _), (11, _)] ⟨rfl, rfl, rfl, rfl, trivial⟩ fun _ => ?_
    refine wp_seq ?_
    refine cno rfl ?_
    refine wp_exit ?_
    refine eThen ?_
    refine eThen ?_
    refine eHit ?_
    refine nThen ?_
    refine forget_wp [] trivial fun _ => ?_
    refine sreg ?_
    refine sv (xassign rfl) ?_
    refine send ?_
    refine forget_wp [(2, _)] ⟨rfl, trivial⟩ fun _ => ?_
    refine wp_ret ?_
    refine rp1 rfl rfl ?_
    exact ⟨rfl, hf⟩
set_option maxHeartbeats 4000000 in
set_option maxRecDepth 100000 in
theorem c142 {w : World} {U : Nat → Prop} (hU : ∀ k, U k → k < w.heap.size) {v : Value} {ps : List ByteArray} (ht : LA TextEl [1] U w v ps) (hn : ps.length ≤ 1048576) (hpl : ∀ p ∈ ps, p.size ≤ 1048576) :
    Ret PP 142 [v] w (fun u w' => u = .bool true ∧ Fr0 w w') := by
  obtain ⟨a0, c0, rfl⟩ := ht.form
  have hf : Fr (fun _ => False) w w := Fr.refl _ _
  refine ret_of Tryz.func142 rfl rfl rfl [(0, _)] rfl ?_
  refine sreg ?_
  refine sv (xassign rfl) ?_
  refine send ?_
  refine forget_wp [(0, _)] ⟨rfl, trivial⟩ fun _ => ?_
  refine wp_seq ?_
  refine sreg ?_
  refine sv (xmove rfl) ?_
  refine sv (xlen sl62 rfl) ?_
  refine sv (exF (xgtr rfl rfl) (by omega)) ?_
  refine send ?_
  refine forget_wp [(0, _), (7, _)] ⟨rfl, rfl, trivial⟩ fun _ => ?_
  refine cno rfl ?_
  refine wp_skip ?_
  refine nThen ?_
  refine forget_wp [(0, _)] ⟨rfl, trivial⟩ fun _ => ?_
  refine wp_seq ?_
  refine sreg ?_
  refine sv (xmove rfl) ?_
  refine sv (xlen sl62 rfl) ?_
  refine sv (xmove rfl) ?_
  refine send ?_
  refine forget_wp [(8, _), (9, _), (10, _)] ⟨rfl, rfl, rfl, trivial⟩ fun _ => ?_
  refine wp_block ?_
  refine lp [(8, _), (9, _)] (fun (k : Nat) => [(10, .int .i64 (k : Int))]) (fun (k : Nat) wx => Fr (fun _ => False) w wx ∧ (k ≤ ps.length)) (fun (k : Nat) => ps.length - k) 0 ⟨rfl, rfl, rfl, trivial⟩ ⟨Fr.refl _ _, Nat.zero_le _⟩ ?_
  rintro k _ w2 ⟨hL1, hk⟩
  refine forget_wp [(8, _), (9, _), (10, _)] ⟨rfl, rfl, rfl, trivial⟩ fun _ => ?_
  have z3 := hL1.size
  have ht := ht.keep text_st (fun k hk => by have hk := hU k hk; omega) hL1 (fun _ _ h => h)
  have hf := hf.step0 hL1
  refine sreg ?_
  refine svP (xlss rfl rfl) (fun hc11 => ?_) (fun hc11 => ?_)
  · skip
    refine send ?_
    refine forget_wp [(8, _), (9, _), (10, _), (11, _)] ⟨rfl, rfl, rfl, rfl, trivial⟩ fun _ => ?_
    refine wp_seq ?_
    refine cyes rfl ?_
    refine wp_skip ?_
    refine nThen ?_
    refine forget_wp [(8, _), (9, _), (10, _)] ⟨rfl, rfl, rfl, trivial⟩ fun _ => ?_
    refine wp_seq ?_
    refine wp_block ?_
    obtain ⟨t, htk⟩ := some_of_lt (by omega : k < ps.length)
    have htl := hpl _ (List.mem_of_getElem? htk)
    refine sreg ?_
    obtain ⟨bE12, oE12, sgE12, rfl, uE12, hsE12, heE12⟩ := LA.get ht htk
    obtain rfl := heE12
    have zE12 := hU _ uE12
    refine sv (xidx sl62 sz9 rfl rfl rfl (by omega)) ?_
    refine sv (xld on9 rfl (hsE12.c 0 rfl rfl)) ?_
    refine sv (xassign rfl) ?_
    refine send ?_
    refine forget_wp [(4, _), (8, _), (9, _), (10, _)] ⟨rfl, rfl, rfl, rfl, trivial⟩ fun _ => ?_
    refine sreg ?_
    refine sv (xmove rfl) ?_
    refine sv (xlenS st9 rfl) ?_
    refine sv (exF (xgtr rfl rfl) (by omega)) ?_
    refine send ?_
    refine forget_wp [(8, _), (9, _), (10, _), (16, _)] ⟨rfl, rfl, rfl, rfl, trivial⟩ fun _ => ?_
    refine cno rfl ?_
    refine wp_skip ?_
    refine nBlock ?_
    refine nThen ?_
    refine forget_wp [(8, _), (9, _), (10, _)] ⟨rfl, rfl, rfl, trivial⟩ fun _ => ?_
    refine lreg ?_
    refine sv (xadd rfl rfl (w64 (by omega) (by omega))) ?_
    refine sv (xmove rfl) ?_
    refine lend ?_
    refine nThen ?_
    refine ⟨k + 1, _, env_okl ⟨rfl, rfl, rfl, trivial⟩, ⟨hL1, (by omega)⟩, ?_⟩
    show ps.length - (k + 1) < ps.length - k; omega
  · skip
    refine send ?_
    refine forget_wp [(8, _), (9, _), (10, _), (11, _)] ⟨rfl, rfl, rfl, rfl, trivial⟩ fun _ => ?_
    refine wp_seq ?_
    refine cno rfl ?_
    refine wp_exit ?_
    refine eThen ?_
    refine eThen ?_
    refine eHit ?_
    refine nThen ?_
    refine forget_wp [] trivial fun _ => ?_
    refine sreg ?_
    refine sv (xassign rfl) ?_
    refine send ?_
    refine forget_wp [(2, _)] ⟨rfl, trivial⟩ fun _ => ?_
    refine wp_ret ?_
    refine rp1 rfl rfl ?_
    exact ⟨rfl, hf⟩
set_option maxHeartbeats 4000000 in
set_option maxRecDepth 100000 in
theorem c81 {w : World} {U : Nat → Prop} (hU : ∀ k, U k → k < w.heap.size) {r : RecD} {vd vt vp : Value} (hd : BA U w vd r.data) (ht : LA TextEl [1] U w vt r.texts) (hp : LA PairEl lPair U w vp r.pairs) (hr : r.fits) :
    Ret PP 81 [ag (recSegs r vd vt vp)] w (fun u w' => u = .bool true ∧ Fr0 w w') := by
  obtain ⟨at0, ct0, rfl⟩ := ht.form
  obtain ⟨ap0, cp0, rfl⟩ := hp.form
  obtain ⟨ad0, cd0, rfl, -⟩ := id hd
  have hr0 := hr
  simp only [RecD.fits] at hr0
  have hf : Fr (fun _ => False) w w := Fr.refl _ _
  refine ret_of Tryz.func81 rfl rfl rfl [(0, _)] rfl ?_
  refine sreg ?_
  refine svK (xboxS (lens := [1, 1, 1, 1, 1, 1, 1, 1, 1, 1, 1, 1, 1, 1, 1, 1]) rfl rfl) ?_
  rintro _ w2 ⟨b1, rfl, m3, h1, e1, s1⟩
  have hd := hd.keep (fun k hk => by have hk := hU k hk; omega) m3 (fun _ _ h => h)
  have ht := ht.keep text_st (fun k hk => by have hk := hU k hk; omega) m3 (fun _ _ h => h)
  have hp := hp.keep pair_st (fun k hk => by have hk := hU k hk; omega) m3 (fun _ _ h => h)
  have hf := hf.step0 m3
  refine sv (xassign rfl) ?_
  refine send ?_
  refine forget_wp [(1, _)] ⟨rfl, trivial⟩ fun _ => ?_
  refine wp_seq ?_
  refine sreg ?_
  refine sv (xfld fl112_0 rfl) ?_
  refine sv (xld on9 rfl (h1.r.c 0 rfl rfl)) ?_
  refine sv (xlenS st9 rfl) ?_
  refine sv (exF (xgtr rfl rfl) (by omega)) ?_
  refine send ?_
  refine forget_wp [(1, _), (6, _)] ⟨rfl, rfl, trivial⟩ fun _ => ?_
  refine cno rfl ?_
  refine wp_skip ?_
  refine nThen ?_
  refine forget_wp [(1, _)] ⟨rfl, trivial⟩ fun _ => ?_
  refine wp_seq ?_
  refine sreg ?_
  refine sv (xfld fl112_6 rfl) ?_
  refine sv (xld on37 rfl (h1.r.c 6 rfl rfl)) ?_
  refine sv (xlen sl37 rfl) ?_
  refine sv (exF (xgtr rfl rfl) (by omega)) ?_
  refine send ?_
  refine forget_wp [(1, _), (10, _)] ⟨rfl, rfl, trivial⟩ fun _ => ?_
  refine cno rfl ?_
  refine wp_skip ?_
  refine nThen ?_
  refine forget_wp [(1, _)] ⟨rfl, trivial⟩ fun _ => ?_
  refine wp_seq ?_
  refine sreg ?_
  refine sv (xfld fl112_7 rfl) ?_
  refine sv (xld on9 rfl (h1.r.c 7 rfl rfl)) ?_
  refine sv (xlenS st9 rfl) ?_
  refine sv (exF (xgtr rfl rfl) (by omega)) ?_
  refine send ?_
  refine forget_wp [(1, _), (14, _)] ⟨rfl, rfl, trivial⟩ fun _ => ?_
  refine cno rfl ?_
  refine wp_skip ?_
  refine nThen ?_
  refine forget_wp [(1, _)] ⟨rfl, trivial⟩ fun _ => ?_
  refine wp_seq ?_
  refine sreg ?_
  refine sv (xfld fl112_8 rfl) ?_
  refine sv (xld on9 rfl (h1.r.c 8 rfl rfl)) ?_
  refine sv (xlenS st9 rfl) ?_
  refine sv (exF (xgtr rfl rfl) (by omega)) ?_
  refine send ?_
  refine forget_wp [(1, _), (18, _)] ⟨rfl, rfl, trivial⟩ fun _ => ?_
  refine cno rfl ?_
  refine wp_skip ?_
  refine nThen ?_
  refine forget_wp [(1, _)] ⟨rfl, trivial⟩ fun _ => ?_
  refine wp_seq ?_
  refine sreg ?_
  refine sv (xfld fl112_14 rfl) ?_
  refine sv (xld on62 rfl (h1.r.c 14 rfl rfl)) ?_
  refine sc (xcall ca142 rfl) (c142 (fun k hk => by have hk := hU k hk; omega) ht (by omega) hr.2.2.2.2.2.1) ?_
  rintro _ w4 ⟨rfl, m5⟩
  have z6 := m5.size
  have hd := hd.keep (fun k hk => by have hk := hU k hk; omega) m5 (fun _ _ h => h)
  have ht := ht.keep text_st (fun k hk => by have hk := hU k hk; omega) m5 (fun _ _ h => h)
  have hp := hp.keep pair_st (fun k hk => by have hk := hU k hk; omega) m5 (fun _ _ h => h)
  have hf := hf.step0 m5
  have h1 := h1.keep m5 (fun h => h)
  refine sv (xnot rfl) ?_
  refine send ?_
  refine forget_wp [(1, _), (22, _)] ⟨rfl, rfl, trivial⟩ fun _ => ?_
  refine cno rfl ?_
  refine wp_skip ?_
  refine nThen ?_
  refine forget_wp [(1, _)] ⟨rfl, trivial⟩ fun _ => ?_
  refine wp_seq ?_
  refine sreg ?_
  refine sv (xfld fl112_15 rfl) ?_
  refine sv (xld on110 rfl (h1.r.c 15 rfl rfl)) ?_
  refine sc (xcall ca143 rfl) (c143 (fun k hk => by have hk := hU k hk; omega) hp (by omega) hr.2.2.2.2.2.2.2.2.1) ?_
  rintro _ w7 ⟨rfl, m8⟩
  have z9 := m8.size
  have hd := hd.keep (fun k hk => by have hk := hU k hk; omega) m8 (fun _ _ h => h)
  have ht := ht.keep text_st (fun k hk => by have hk := hU k hk; omega) m8 (fun _ _ h => h)
  have hp := hp.keep pair_st (fun k hk => by have hk := hU k hk; omega) m8 (fun _ _ h => h)
  have hf := hf.step0 m8
  have h1 := h1.keep m8 (fun h => h)
  refine sv (xnot rfl) ?_
  refine send ?_
  refine forget_wp [(26, _)] ⟨rfl, trivial⟩ fun _ => ?_
  refine cno rfl ?_
  refine wp_skip ?_
  refine nThen ?_
  refine forget_wp [] trivial fun _ => ?_
  refine sreg ?_
  refine sv (xassign rfl) ?_
  refine send ?_
  refine forget_wp [(2, _)] ⟨rfl, trivial⟩ fun _ => ?_
  refine wp_ret ?_
  refine rp1 rfl rfl ?_
  exact ⟨rfl, hf⟩
set_option maxHeartbeats 4000000 in
set_option maxRecDepth 100000 in
theorem c80 {w : World} {a : AskD} (ha : a.name.size ≤ 1048576) :
    Ret PP 80 [ag (askSegs a)] w (fun u w' => u = .bool true ∧ Fr0 w w') := by
  have hf : Fr (fun _ => False) w w := Fr.refl _ _
  refine ret_of Tryz.func80 rfl rfl rfl [(0, _)] rfl ?_
  refine sreg ?_
  refine svK (xboxS (lens := [1, 1, 1]) rfl rfl) ?_
  rintro _ w2 ⟨b1, rfl, m3, h1, e1, s1⟩
  have hf := hf.step0 m3
  refine sv (xassign rfl) ?_
  refine send ?_
  refine forget_wp [(1, _)] ⟨rfl, trivial⟩ fun _ => ?_
  refine wp_seq ?_
  refine sreg ?_
  refine sv (xfld fl58_0 rfl) ?_
  refine sv (xld on9 rfl (h1.r.c 0 rfl rfl)) ?_
  refine sv (xlenS st9 rfl) ?_
  refine sv (exF (xgtr rfl rfl) (by omega)) ?_
  refine send ?_
  refine forget_wp [(6, _)] ⟨rfl, trivial⟩ fun _ => ?_
  refine cno rfl ?_
  refine wp_skip ?_
  refine nThen ?_
  refine forget_wp [] trivial fun _ => ?_
  refine sreg ?_
  refine sv (xassign rfl) ?_
  refine send ?_
  refine forget_wp [(2, _)] ⟨rfl, trivial⟩ fun _ => ?_
  refine wp_ret ?_
  refine rp1 rfl rfl ?_
  exact ⟨rfl, hf⟩
set_option maxHeartbeats 4000000 in
set_option maxRecDepth 100000 in
theorem c31 {w : World} {U : Nat → Prop} (hU : ∀ k, U k → k < w.heap.size) {v : Value} {l : List AskD} (ha : LA AskEl lAsk U w v l) (hn : l.length ≤ 1048576) (hfa : ∀ a ∈ l, a.name.size ≤ 1048576) :
    Ret PP 31 [v] w (fun u w' => u = .bool true ∧ Fr0 w w') := by
  obtain ⟨a0, c0, rfl⟩ := ha.form
  have hf : Fr (fun _ => False) w w := Fr.refl _ _
  refine ret_of Tryz.func31 rfl rfl rfl [(0, _)] rfl ?_
  refine sreg ?_
  refine sv (xassign rfl) ?_
  refine send ?_
  refine forget_wp [(0, _)] ⟨rfl, trivial⟩ fun _ => ?_
  refine wp_seq ?_
  refine sreg ?_
  refine sv (xmove rfl) ?_
  refine sv (xlen sl25 rfl) ?_
  refine sv (exF (xgtr rfl rfl) (by omega)) ?_
  refine send ?_
  refine forget_wp [(0, _), (7, _)] ⟨rfl, rfl, trivial⟩ fun _ => ?_
  refine cno rfl ?_
  refine wp_skip ?_
  refine nThen ?_
  refine forget_wp [(0, _)] ⟨rfl, trivial⟩ fun _ => ?_
  refine wp_seq ?_
  refine sreg ?_
  refine sv (xmove rfl) ?_
  refine sv (xlen sl25 rfl) ?_
  refine sv (xmove rfl) ?_
  refine send ?_
  refine forget_wp [(8, _), (9, _), (10, _)] ⟨rfl, rfl, rfl, trivial⟩ fun _ => ?_
  refine wp_block ?_
  refine lp [(8, _), (9, _)] (fun (k : Nat) => [(10, .int .i64 (k : Int))]) (fun (k : Nat) wx => Fr (fun _ => False) w wx ∧ (k ≤ l.length)) (fun (k : Nat) => l.length - k) 0 ⟨rfl, rfl, rfl, trivial⟩ ⟨Fr.refl _ _, Nat.zero_le _⟩ ?_
  rintro k _ w2 ⟨hL1, hk⟩
  refine forget_wp [(8, _), (9, _), (10, _)] ⟨rfl, rfl, rfl, trivial⟩ fun _ => ?_
  have z3 := hL1.size
  have ha := ha.keep ask_st (fun k hk => by have hk := hU k hk; omega) hL1 (fun _ _ h => h)
  have hf := hf.step0 hL1
  refine sreg ?_
  refine svP (xlss rfl rfl) (fun hc11 => ?_) (fun hc11 => ?_)
  · skip
    refine send ?_
    refine forget_wp [(8, _), (9, _), (10, _), (11, _)] ⟨rfl, rfl, rfl, rfl, trivial⟩ fun _ => ?_
    refine wp_seq ?_
    refine cyes rfl ?_
    refine wp_skip ?_
    refine nThen ?_
    refine forget_wp [(8, _), (9, _), (10, _)] ⟨rfl, rfl, rfl, trivial⟩ fun _ => ?_
    refine wp_seq ?_
    refine wp_block ?_
    obtain ⟨a, hak⟩ := some_of_lt (by omega : k < l.length)
    refine sreg ?_
    obtain ⟨bE12, oE12, sgE12, rfl, uE12, hsE12, heE12⟩ := LA.get ha hak
    obtain rfl := heE12
    have zE12 := hU _ uE12
    refine sv (xidx sl25 sz58 rfl rfl rfl (by omega)) ?_
    refine sv (xldS (lens := [1, 1, 1]) ro58 rfl hsE12) ?_
    refine svK (xallS (lens := [1, 1, 1]) in58 rfl) ?_
    rintro _ w5 ⟨b4, rfl, m6, h4, e4, s4⟩
    have ha := ha.keep ask_st (fun k hk => by have hk := hU k hk; omega) m6 (fun _ _ h => h)
    have hf := hf.step0 m6
    have hL1 := hL1.step0 m6
    have hsE12 := hsE12.keep m6 (by omega) (fun h => h)
    refine suK (xstW h4 (lens' := [1, 1, 1]) sz58 rfl rfl rfl rfl rfl) ?_
    rintro w8 ⟨m9, h4, s7⟩
    have ha := ha.keep ask_st (fun k hk => by have hk := hU k hk; omega) m9 (fun k hk hS => by have hk := hU k hk; have hS : k = b4 := hS; omega)
    have hf := hf.step m9 (fun k hk hS => by have hS : k = b4 := hS; show False; omega)
    have hL1 := hL1.step m9 (fun k hk hS => by have hS : k = b4 := hS; show False; omega)
    have hsE12 := hsE12.keep m9 (by omega) (by show ¬ (bE12 = b4); omega)
    refine send ?_
    refine forget_wp [(4, _), (8, _), (9, _), (10, _)] ⟨rfl, rfl, rfl, rfl, trivial⟩ fun _ => ?_
    refine sreg ?_
    refine sv (xldS (lens := [1, 1, 1]) ro58 rfl h4.r) ?_
    refine sc (xcall ca80 rfl) (c80 (hfa _ (List.mem_of_getElem? hak))) ?_
    rintro _ w10 ⟨rfl, m11⟩
    have z12 := m11.size
    have ha := ha.keep ask_st (fun k hk => by have hk := hU k hk; omega) m11 (fun _ _ h => h)
    have hf := hf.step0 m11
    have hL1 := hL1.step0 m11
    have hsE12 := hsE12.keep m11 (by omega) (fun h => h)
    have h4 := h4.keep m11 (fun h => h)
    refine sv (xnot rfl) ?_
    refine send ?_
    refine forget_wp [(8, _), (9, _), (10, _), (16, _)] ⟨rfl, rfl, rfl, rfl, trivial⟩ fun _ => ?_
    refine cno rfl ?_
    refine wp_skip ?_
    refine nBlock ?_
    refine nThen ?_
    refine forget_wp [(8, _), (9, _), (10, _)] ⟨rfl, rfl, rfl, trivial⟩ fun _ => ?_
    refine lreg ?_
    refine sv (xadd rfl rfl (w64 (by omega) (by omega))) ?_
    refine sv (xmove rfl) ?_
    refine lend ?_
    refine nThen ?_
    refine ⟨k + 1, _, env_okl ⟨rfl, rfl, rfl, trivial⟩, ⟨hL1, (by omega)⟩, ?_⟩
    show l.length - (k + 1) < l.length - k; omega
  · skip
    refine send ?_
    refine forget_wp [(8, _), (9, _), (10, _), (11, _)] ⟨rfl, rfl, rfl, rfl, trivial⟩ fun _ => ?_
    refine wp_seq ?_
    refine cno rfl ?_
    refine wp_exit ?_
    refine eThen ?_
    refine eThen ?_
    refine eHit ?_
    refine nThen ?_
    refine forget_wp [] trivial fun _ => ?_
    refine sreg ?_
    refine sv (xassign rfl) ?_
    refine send ?_
    refine forget_wp [(2, _)] ⟨rfl, trivial⟩ fun _ => ?_
    refine wp_ret ?_
    refine rp1 rfl rfl ?_
    exact ⟨rfl, hf⟩
set_option maxHeartbeats 4000000 in
set_option maxRecDepth 100000 in
theorem c32 {w : World} {U : Nat → Prop} (hU : ∀ k, U k → k < w.heap.size) {v : Value} {l : List RecD} (hl : LA RecEl lRec U w v l) (hn : l.length ≤ 1048576) (hfr : ∀ r ∈ l, r.fits) :
    Ret PP 32 [v] w (fun u w' => u = .bool true ∧ Fr0 w w') := by
  obtain ⟨a0, c0, rfl⟩ := hl.form
  have hf : Fr (fun _ => False) w w := Fr.refl _ _
  refine ret_of Tryz.func32 rfl rfl rfl [(0, _)] rfl ?_
  refine sreg ?_
  refine sv (xassign rfl) ?_
  refine send ?_
  refine forget_wp [(0, _)] ⟨rfl, trivial⟩ fun _ => ?_
  refine wp_seq ?_
  refine sreg ?_
  refine sv (xmove rfl) ?_
  refine sv (xlen sl26 rfl) ?_
  refine sv (exF (xgtr rfl rfl) (by omega)) ?_
  refine send ?_
  refine forget_wp [(0, _), (7, _)] ⟨rfl, rfl, trivial⟩ fun _ => ?_
  refine cno rfl ?_
  refine wp_skip ?_
  refine nThen ?_
  refine forget_wp [(0, _)] ⟨rfl, trivial⟩ fun _ => ?_
  refine wp_seq ?_
  refine sreg ?_
  refine sv (xmove rfl) ?_
  refine sv (xlen sl26 rfl) ?_
  refine sv (xmove rfl) ?_
  refine send ?_
  refine forget_wp [(8, _), (9, _), (10, _)] ⟨rfl, rfl, rfl, trivial⟩ fun _ => ?_
  refine wp_block ?_
  refine lp [(8, _), (9, _)] (fun (k : Nat) => [(10, .int .i64 (k : Int))]) (fun (k : Nat) wx => Fr (fun _ => False) w wx ∧ (k ≤ l.length)) (fun (k : Nat) => l.length - k) 0 ⟨rfl, rfl, rfl, trivial⟩ ⟨Fr.refl _ _, Nat.zero_le _⟩ ?_
  rintro k _ w2 ⟨hL1, hk⟩
  refine forget_wp [(8, _), (9, _), (10, _)] ⟨rfl, rfl, rfl, trivial⟩ fun _ => ?_
  have z3 := hL1.size
  have hl := hl.keep rec_st (fun k hk => by have hk := hU k hk; omega) hL1 (fun _ _ h => h)
  have hf := hf.step0 hL1
  refine sreg ?_
  refine svP (xlss rfl rfl) (fun hc11 => ?_) (fun hc11 => ?_)
  · skip
    refine send ?_
    refine forget_wp [(8, _), (9, _), (10, _), (11, _)] ⟨rfl, rfl, rfl, rfl, trivial⟩ fun _ => ?_
    refine wp_seq ?_
    refine cyes rfl ?_
    refine wp_skip ?_
    refine nThen ?_
    refine forget_wp [(8, _), (9, _), (10, _)] ⟨rfl, rfl, rfl, trivial⟩ fun _ => ?_
    refine wp_seq ?_
    refine wp_block ?_
    obtain ⟨r, hrk⟩ := some_of_lt (by omega : k < l.length)
    refine sreg ?_
    obtain ⟨bE12, oE12, sgE12, rfl, uE12, hsE12, heE12⟩ := LA.get hl hrk
    obtain ⟨vd, vt, vp, rfl, hd, ht, hp⟩ := heE12
    have zE12 := hU _ uE12
    obtain ⟨ad, cd, rfl, -⟩ := id hd
    obtain ⟨at1, ct1, rfl⟩ := ht.form
    obtain ⟨ap1, cp1, rfl⟩ := hp.form
    refine sv (xidx sl26 sz112 rfl rfl rfl (by omega)) ?_
    refine sv (xldS (lens := [1, 1, 1, 1, 1, 1, 1, 1, 1, 1, 1, 1, 1, 1, 1, 1]) ro112 rfl hsE12) ?_
    refine svK (xallS (lens := [1, 1, 1, 1, 1, 1, 1, 1, 1, 1, 1, 1, 1, 1, 1, 1]) in112 rfl) ?_
    rintro _ w5 ⟨b4, rfl, m6, h4, e4, s4⟩
    have hl := hl.keep rec_st (fun k hk => by have hk := hU k hk; omega) m6 (fun _ _ h => h)
    have hf := hf.step0 m6
    have hL1 := hL1.step0 m6
    have hsE12 := hsE12.keep m6 (by omega) (fun h => h)
    have hd := hd.keep (fun k hk => by have hk := hU k hk; omega) m6 (fun _ _ h => h)
    have ht := ht.keep text_st (fun k hk => by have hk := hU k hk; omega) m6 (fun _ _ h => h)
    have hp := hp.keep pair_st (fun k hk => by have hk := hU k hk; omega) m6 (fun _ _ h => h)
    refine suK (xstW h4 (lens' := [1, 1, 1, 1, 1, 1, 1, 1, 1, 1, 1, 1, 1, 1, 1, 1]) sz112 rfl rfl rfl rfl rfl) ?_
    rintro w8 ⟨m9, h4, s7⟩
    have hl := hl.keep rec_st (fun k hk => by have hk := hU k hk; omega) m9 (fun k hk hS => by have hk := hU k hk; have hS : k = b4 := hS; omega)
    have hf := hf.step m9 (fun k hk hS => by have hS : k = b4 := hS; show False; omega)
    have hL1 := hL1.step m9 (fun k hk hS => by have hS : k = b4 := hS; show False; omega)
    have hsE12 := hsE12.keep m9 (by omega) (by show ¬ (bE12 = b4); omega)
    have hd := hd.keep (fun k hk => by have hk := hU k hk; omega) m9 (fun k hk hS => by have hk := hU k hk; have hS : k = b4 := hS; omega)
    have ht := ht.keep text_st (fun k hk => by have hk := hU k hk; omega) m9 (fun k hk hS => by have hk := hU k hk; have hS : k = b4 := hS; omega)
    have hp := hp.keep pair_st (fun k hk => by have hk := hU k hk; omega) m9 (fun k hk hS => by have hk := hU k hk; have hS : k = b4 := hS; omega)
    refine send ?_
    refine forget_wp [(4, _), (8, _), (9, _), (10, _)] ⟨rfl, rfl, rfl, rfl, trivial⟩ fun _ => ?_
    refine sreg ?_
    refine sv (xldS (lens := [1, 1, 1, 1, 1, 1, 1, 1, 1, 1, 1, 1, 1, 1, 1, 1]) ro112 rfl h4.r) ?_
    refine sc (xcall ca81 rfl) (c81 (fun k hk => by have hk := hU k hk; omega) hd ht hp (hfr _ (List.mem_of_getElem? hrk))) ?_
    rintro _ w10 ⟨rfl, m11⟩
    have z12 := m11.size
    have hl := hl.keep rec_st (fun k hk => by have hk := hU k hk; omega) m11 (fun _ _ h => h)
    have hf := hf.step0 m11
    have hL1 := hL1.step0 m11
    have hsE12 := hsE12.keep m11 (by omega) (fun h => h)
    have hd := hd.keep (fun k hk => by have hk := hU k hk; omega) m11 (fun _ _ h => h)
    have ht := ht.keep text_st (fun k hk => by have hk := hU k hk; omega) m11 (fun _ _ h => h)
    have hp := hp.keep pair_st (fun k hk => by have hk := hU k hk; omega) m11 (fun _ _ h => h)
    have h4 := h4.keep m11 (fun h => h)
    refine sv (xnot rfl) ?_
    refine send ?_
    refine forget_wp [(8, _), (9, _), (10, _), (16, _)] ⟨rfl, rfl, rfl, rfl, trivial⟩ fun _ => ?_
    refine cno rfl ?_
    refine wp_skip ?_
    refine nBlock ?_
    refine nThen ?_
    refine forget_wp [(8, _), (9, _), (10, _)] ⟨rfl, rfl, rfl, trivial⟩ fun _ => ?_
    refine lreg ?_
    refine sv (xadd rfl rfl (w64 (by omega) (by omega))) ?_
    refine sv (xmove rfl) ?_
    refine lend ?_
    refine nThen ?_
    refine ⟨k + 1, _, env_okl ⟨rfl, rfl, rfl, trivial⟩, ⟨hL1, (by omega)⟩, ?_⟩
    show l.length - (k + 1) < l.length - k; omega
  · skip
    refine send ?_
    refine forget_wp [(8, _), (9, _), (10, _), (11, _)] ⟨rfl, rfl, rfl, rfl, trivial⟩ fun _ => ?_
    refine wp_seq ?_
    refine cno rfl ?_
    refine wp_exit ?_
    refine eThen ?_
    refine eThen ?_
    refine eHit ?_
    refine nThen ?_
    refine forget_wp [] trivial fun _ => ?_
    refine sreg ?_
    refine sv (xassign rfl) ?_
    refine send ?_
    refine forget_wp [(2, _)] ⟨rfl, trivial⟩ fun _ => ?_
    refine wp_ret ?_
    refine rp1 rfl rfl ?_
    exact ⟨rfl, hf⟩
set_option maxHeartbeats 4000000 in
set_option maxRecDepth 100000 in
theorem c12 {w : World} {U : Nat → Prop} (hU : ∀ k, U k → k < w.heap.size) {m : MsgD} {va v1 v2 v3 : Value} (ha : LA AskEl lAsk U w va m.asks) (y1 : LA RecEl lRec U w v1 m.one) (y2 : LA RecEl lRec U w v2 m.two) (y3 : LA RecEl lRec U w v3 m.three) (hm : m.fits) :
    Ret PP 12 [ag (msgSegs m.head va v1 v2 v3)] w (fun u w' => u = .bool true ∧ Fr0 w w') := by
  obtain ⟨aa, ca, rfl⟩ := ha.form
  obtain ⟨a1, c1, rfl⟩ := y1.form
  obtain ⟨a2, c2, rfl⟩ := y2.form
  obtain ⟨a3, c3, rfl⟩ := y3.form
  have hf : Fr (fun _ => False) w w := Fr.refl _ _
  refine ret_of Tryz.func12 rfl rfl rfl [(0, _)] rfl ?_
  refine sreg ?_
  refine svK (xboxS (lens := [1, 1, 1, 1, 1, 1, 1, 1, 1, 1, 1, 1, 1, 1]) rfl rfl) ?_
  rintro _ w2 ⟨b1, rfl, m3, h1, e1, s1⟩
  have ha := ha.keep ask_st (fun k hk => by have hk := hU k hk; omega) m3 (fun _ _ h => h)
  have y1 := y1.keep rec_st (fun k hk => by have hk := hU k hk; omega) m3 (fun _ _ h => h)
  have y2 := y2.keep rec_st (fun k hk => by have hk := hU k hk; omega) m3 (fun _ _ h => h)
  have y3 := y3.keep rec_st (fun k hk => by have hk := hU k hk; omega) m3 (fun _ _ h => h)
  have hf := hf.step0 m3
  refine sv (xassign rfl) ?_
  refine send ?_
  refine forget_wp [(1, _)] ⟨rfl, trivial⟩ fun _ => ?_
  refine wp_seq ?_
  refine sreg ?_
  refine sv (xfld fl28_1 rfl) ?_
  refine sv (xld on25 rfl (h1.r.c 10 rfl rfl)) ?_
  refine sc (xcall ca31 rfl) (c31 (fun k hk => by have hk := hU k hk; omega) ha hm.1 hm.2.1) ?_
  rintro _ w4 ⟨rfl, m5⟩
  have z6 := m5.size
  have ha := ha.keep ask_st (fun k hk => by have hk := hU k hk; omega) m5 (fun _ _ h => h)
  have y1 := y1.keep rec_st (fun k hk => by have hk := hU k hk; omega) m5 (fun _ _ h => h)
  have y2 := y2.keep rec_st (fun k hk => by have hk := hU k hk; omega) m5 (fun _ _ h => h)
  have y3 := y3.keep rec_st (fun k hk => by have hk := hU k hk; omega) m5 (fun _ _ h => h)
  have hf := hf.step0 m5
  have h1 := h1.keep m5 (fun h => h)
  refine sv (xnot rfl) ?_
  refine send ?_
  refine forget_wp [(1, _), (6, _)] ⟨rfl, rfl, trivial⟩ fun _ => ?_
  refine cno rfl ?_
  refine wp_skip ?_
  refine nThen ?_
  refine forget_wp [(1, _)] ⟨rfl, trivial⟩ fun _ => ?_
  refine wp_seq ?_
  refine sreg ?_
  refine sv (xfld fl28_2 rfl) ?_
  refine sv (xld on26 rfl (h1.r.c 11 rfl rfl)) ?_
  refine sc (xcall ca32 rfl) (c32 (fun k hk => by have hk := hU k hk; omega) y1 hm.2.2.1 hm.2.2.2.2.2.1) ?_
  rintro _ w7 ⟨rfl, m8⟩
  have z9 := m8.size
  have ha := ha.keep ask_st (fun k hk => by have hk := hU k hk; omega) m8 (fun _ _ h => h)
  have y1 := y1.keep rec_st (fun k hk => by have hk := hU k hk; omega) m8 (fun _ _ h => h)
  have y2 := y2.keep rec_st (fun k hk => by have hk := hU k hk; omega) m8 (fun _ _ h => h)
  have y3 := y3.keep rec_st (fun k hk => by have hk := hU k hk; omega) m8 (fun _ _ h => h)
  have hf := hf.step0 m8
  have h1 := h1.keep m8 (fun h => h)
  refine sv (xnot rfl) ?_
  refine send ?_
  refine forget_wp [(1, _), (10, _)] ⟨rfl, rfl, trivial⟩ fun _ => ?_
  refine cno rfl ?_
  refine wp_skip ?_
  refine nThen ?_
  refine forget_wp [(1, _)] ⟨rfl, trivial⟩ fun _ => ?_
  refine wp_seq ?_
  refine sreg ?_
  refine sv (xfld fl28_3 rfl) ?_
  refine sv (xld on26 rfl (h1.r.c 12 rfl rfl)) ?_
  refine sc (xcall ca32 rfl) (c32 (fun k hk => by have hk := hU k hk; omega) y2 hm.2.2.2.1 hm.2.2.2.2.2.2.1) ?_
  rintro _ w10 ⟨rfl, m11⟩
  have z12 := m11.size
  have ha := ha.keep ask_st (fun k hk => by have hk := hU k hk; omega) m11 (fun _ _ h => h)
  have y1 := y1.keep rec_st (fun k hk => by have hk := hU k hk; omega) m11 (fun _ _ h => h)
  have y2 := y2.keep rec_st (fun k hk => by have hk := hU k hk; omega) m11 (fun _ _ h => h)
  have y3 := y3.keep rec_st (fun k hk => by have hk := hU k hk; omega) m11 (fun _ _ h => h)
  have hf := hf.step0 m11
  have h1 := h1.keep m11 (fun h => h)
  refine sv (xnot rfl) ?_
  refine send ?_
  refine forget_wp [(1, _), (14, _)] ⟨rfl, rfl, trivial⟩ fun _ => ?_
  refine cno rfl ?_
  refine wp_skip ?_
  refine nThen ?_
  refine forget_wp [(1, _)] ⟨rfl, trivial⟩ fun _ => ?_
  refine wp_seq ?_
  refine sreg ?_
  refine sv (xfld fl28_4 rfl) ?_
  refine sv (xld on26 rfl (h1.r.c 13 rfl rfl)) ?_
  refine sc (xcall ca32 rfl) (c32 (fun k hk => by have hk := hU k hk; omega) y3 hm.2.2.2.2.1 hm.2.2.2.2.2.2.2) ?_
  rintro _ w13 ⟨rfl, m14⟩
  have z15 := m14.size
  have ha := ha.keep ask_st (fun k hk => by have hk := hU k hk; omega) m14 (fun _ _ h => h)
  have y1 := y1.keep rec_st (fun k hk => by have hk := hU k hk; omega) m14 (fun _ _ h => h)
  have y2 := y2.keep rec_st (fun k hk => by have hk := hU k hk; omega) m14 (fun _ _ h => h)
  have y3 := y3.keep rec_st (fun k hk => by have hk := hU k hk; omega) m14 (fun _ _ h => h)
  have hf := hf.step0 m14
  have h1 := h1.keep m14 (fun h => h)
  refine sv (xnot rfl) ?_
  refine send ?_
  refine forget_wp [(18, _)] ⟨rfl, trivial⟩ fun _ => ?_
  refine cno rfl ?_
  refine wp_skip ?_
  refine nThen ?_
  refine forget_wp [] trivial fun _ => ?_
  refine sreg ?_
  refine sv (xassign rfl) ?_
  refine send ?_
  refine forget_wp [(2, _)] ⟨rfl, trivial⟩ fun _ => ?_
  refine wp_ret ?_
  refine rp1 rfl rfl ?_
  exact ⟨rfl, hf⟩
set_option maxHeartbeats 4000000 in
set_option maxRecDepth 100000 in
theorem c82 {w : World} {s : ByteArray} (hs : s.size ≤ 1048576) :
    Ret PP 82 [.string s] w (Grd w (nameOk s = true)) := by
  have hf : Fr (fun _ => False) w w := Fr.refl _ _
  refine ret_of Tryz.func82 rfl rfl rfl [(0, _)] rfl ?_
  refine sreg ?_
  refine sv (xassign rfl) ?_
  refine send ?_
  refine forget_wp [(0, _)] ⟨rfl, trivial⟩ fun _ => ?_
  refine wp_seq ?_
  refine sreg ?_
  refine sv (xmove rfl) ?_
  refine svP (xeqs rfl rfl) (fun hc6 => ?_) (fun hc6 => ?_)
  · skip
    refine send ?_
    refine forget_wp [(0, _), (6, _)] ⟨rfl, rfl, trivial⟩ fun _ => ?_
    refine cyes rfl ?_
    refine sreg ?_
    refine sv (xassign rfl) ?_
    refine send ?_
    refine forget_wp [(2, _)] ⟨rfl, trivial⟩ fun _ => ?_
    refine wp_ret ?_
    refine rThen ?_
    refine rp1 rfl rfl ?_
    exact ⟨_, rfl, (fun _ => nameOk_dot hc6), hf⟩
  · skip
    refine send ?_
    refine forget_wp [(0, _), (6, _)] ⟨rfl, rfl, trivial⟩ fun _ => ?_
    refine cno rfl ?_
    refine wp_skip ?_
    refine nThen ?_
    refine forget_wp [(0, _)] ⟨rfl, trivial⟩ fun _ => ?_
    refine sreg ?_
    refine sv (xassign rfl) ?_
    refine send ?_
    refine forget_wp [(0, _), (3, _)] ⟨rfl, rfl, trivial⟩ fun _ => ?_
    refine wp_seq ?_
    refine sreg ?_
    refine sv (xmove rfl) ?_
    refine sv (xlenS st9 rfl) ?_
    refine sv (xmove rfl) ?_
    refine send ?_
    refine forget_wp [(0, _), (3, _), (8, _), (9, _)] ⟨rfl, rfl, rfl, rfl, trivial⟩ fun _ => ?_
    refine wp_block ?_
    refine lp [(0, _), (8, _)] (fun (x : Nat × Nat) => match x with | (k, n) => [(3, .int .i64 (n : Int)), (9, .int .i64 (k : Int))]) (fun (x : Nat × Nat) wx => match x with | (k, n) => Fr (fun _ => False) w wx ∧ (k ≤ s.size) ∧ (nameGo n ((bt s).drop k) = nameGo 0 (bt s)) ∧ (n ≤ k)) (fun (x : Nat × Nat) => match x with | (k, n) => s.size - k) (0, 0) ⟨rfl, rfl, rfl, rfl, trivial⟩ ⟨Fr.refl _ _, Nat.zero_le _, rfl, Nat.le_refl _⟩ ?_
    rintro ⟨k, n⟩ _ w2 ⟨hL1, hk, hG, hn⟩
    refine forget_wp [(0, _), (3, _), (8, _), (9, _)] ⟨rfl, rfl, rfl, rfl, trivial⟩ fun _ => ?_
    have z3 := hL1.size
    have hf := hf.step0 hL1
    refine sreg ?_
    refine svP (xlss rfl rfl) (fun hc10 => ?_) (fun hc10 => ?_)
    · skip
      refine send ?_
      refine forget_wp [(0, _), (3, _), (8, _), (9, _), (10, _)] ⟨rfl, rfl, rfl, rfl, rfl, trivial⟩ fun _ => ?_
      refine wp_seq ?_
      refine cyes rfl ?_
      refine wp_skip ?_
      refine nThen ?_
      refine forget_wp [(0, _), (3, _), (8, _), (9, _)] ⟨rfl, rfl, rfl, rfl, trivial⟩ fun _ => ?_
      refine wp_seq ?_
      refine wp_block ?_
      refine sreg ?_
      refine sv (xmove rfl) ?_
      refine sv (xassign rfl) ?_
      refine send ?_
      refine forget_wp [(0, _), (3, _), (4, _), (8, _), (9, _)] ⟨rfl, rfl, rfl, rfl, rfl, trivial⟩ fun _ => ?_
      refine wp_seq ?_
      refine sreg ?_
      refine sv (xmove rfl) ?_
      refine sv (xmove rfl) ?_
      refine sv (xidxS st9 rfl rfl rfl (by omega)) ?_
      refine svP (xneq rfl rfl) (fun hc15 => ?_) (fun hc15 => ?_)
      · skip
        refine send ?_
        refine forget_wp [(0, _), (3, _), (8, _), (9, _), (15, _)] ⟨rfl, rfl, rfl, rfl, rfl, trivial⟩ fun _ => ?_
        refine cyes rfl ?_
        refine sreg ?_
        refine sv (xmove rfl) ?_
        refine sv (xadd rfl rfl (w64 (by omega) (by omega))) ?_
        refine sv (xassign rfl) ?_
        refine send ?_
        refine forget_wp [(0, _), (3, _), (8, _), (9, _)] ⟨rfl, rfl, rfl, rfl, trivial⟩ fun _ => ?_
        refine wp_exit ?_
        refine eThen ?_
        refine eHit ?_
        refine nThen ?_
        refine forget_wp [(0, _), (3, _), (8, _), (9, _)] ⟨rfl, rfl, rfl, rfl, trivial⟩ fun _ => ?_
        refine lreg ?_
        refine sv (xadd rfl rfl (w64 (by omega) (by omega))) ?_
        refine sv (xmove rfl) ?_
        refine lend ?_
        refine nThen ?_
        have e := hG
        rw [wire_one (by omega)] at e
        simp only [nameGo, u8_ne hc15, if_false] at e
        refine ⟨(k + 1, n + 1), _, env_okl ⟨rfl, rfl, rfl, rfl, trivial⟩, ⟨hL1, (by omega), (e), (by omega)⟩, ?_⟩
        show s.size - (k + 1) < s.size - k; omega
      · skip
        refine send ?_
        refine forget_wp [(0, _), (3, _), (8, _), (9, _), (15, _)] ⟨rfl, rfl, rfl, rfl, rfl, trivial⟩ fun _ => ?_
        refine cno rfl ?_
        refine wp_skip ?_
        refine nThen ?_
        refine forget_wp [(0, _), (3, _), (8, _), (9, _)] ⟨rfl, rfl, rfl, rfl, trivial⟩ fun _ => ?_
        refine wp_seq ?_
        refine sreg ?_
        refine sv (xmove rfl) ?_
        refine svP (xeql rfl rfl) (fun hc19 => ?_) (fun hc19 => ?_)
        · skip
          refine sv (xmove rfl) ?_
          refine gno rfl rfl rfl ?_
          refine gno rfl rfl rfl ?_
          refine sv (xpickT rfl rfl) ?_
          refine send ?_
          refine forget_wp [(0, _), (8, _), (9, _), (23, _)] ⟨rfl, rfl, rfl, rfl, trivial⟩ fun _ => ?_
          refine cyes rfl ?_
          refine sreg ?_
          refine sv (xassign rfl) ?_
          refine send ?_
          refine forget_wp [(2, _)] ⟨rfl, trivial⟩ fun _ => ?_
          refine wp_ret ?_
          refine rThen ?_
          refine rBlock ?_
          refine rThen ?_
          refine rThen ?_
          refine rBlock ?_
          refine rThen ?_
          refine rp1 rfl rfl ?_
          exact ⟨_, rfl, (fun h => by cases h), hf⟩
        · skip
          refine sv (xmove rfl) ?_
          refine gyes rfl rfl rfl ?_
          refine sv (xmove rfl) ?_
          refine gyes rfl rfl rfl ?_
          refine svP (xgtr rfl rfl) (fun hc22 => ?_) (fun hc22 => ?_)
          · skip
            refine sv (xpickF rfl rfl) ?_
            refine send ?_
            refine forget_wp [(0, _), (8, _), (9, _), (23, _)] ⟨rfl, rfl, rfl, rfl, trivial⟩ fun _ => ?_
            refine cyes rfl ?_
            refine sreg ?_
            refine sv (xassign rfl) ?_
            refine send ?_
            refine forget_wp [(2, _)] ⟨rfl, trivial⟩ fun _ => ?_
            refine wp_ret ?_
            refine rThen ?_
            refine rBlock ?_
            refine rThen ?_
            refine rThen ?_
            refine rBlock ?_
            refine rThen ?_
            refine rp1 rfl rfl ?_
            exact ⟨_, rfl, (fun h => by cases h), hf⟩
          · skip
            refine sv (xpickF rfl rfl) ?_
            refine send ?_
            refine forget_wp [(0, _), (8, _), (9, _), (23, _)] ⟨rfl, rfl, rfl, rfl, trivial⟩ fun _ => ?_
            refine cno rfl ?_
            refine wp_skip ?_
            refine nThen ?_
            refine forget_wp [(0, _), (8, _), (9, _)] ⟨rfl, rfl, rfl, trivial⟩ fun _ => ?_
            refine lreg ?_
            refine sv (xassign rfl) ?_
            refine lend ?_
            refine nBlock ?_
            refine nThen ?_
            refine forget_wp [(0, _), (3, _), (8, _), (9, _)] ⟨rfl, rfl, rfl, rfl, trivial⟩ fun _ => ?_
            refine lreg ?_
            refine sv (xadd rfl rfl (w64 (by omega) (by omega))) ?_
            refine sv (xmove rfl) ?_
            refine lend ?_
            refine nThen ?_
            have e := hG
            rw [wire_one (by omega)] at e
            rw [nameGo, if_pos (u8_eq hc15), if_neg (by omega)] at e
            refine ⟨(k + 1, 0), _, env_okl ⟨rfl, rfl, rfl, rfl, trivial⟩, ⟨hL1, (by omega), (e), (by omega)⟩, ?_⟩
            show s.size - (k + 1) < s.size - k; omega
    · skip
      refine send ?_
      refine forget_wp [(0, _), (3, _), (8, _), (9, _), (10, _)] ⟨rfl, rfl, rfl, rfl, rfl, trivial⟩ fun _ => ?_
      refine wp_seq ?_
      refine cno rfl ?_
      refine wp_exit ?_
      refine eThen ?_
      refine eThen ?_
      refine eHit ?_
      refine nThen ?_
      refine forget_wp [(0, _), (3, _)] ⟨rfl, rfl, trivial⟩ fun _ => ?_
      refine sreg ?_
      refine sv (xmove rfl) ?_
      refine svP (xeql rfl rfl) (fun hc26 => ?_) (fun hc26 => ?_)
      · skip
        refine sv (xmove rfl) ?_
        refine gyes rfl rfl rfl ?_
        refine sv (xmove rfl) ?_
        refine gyes rfl rfl rfl ?_
        refine sv (xlenS st9 rfl) ?_
        refine gyes rfl rfl rfl ?_
        refine svP (xgtr rfl rfl) (fun hc30 => ?_) (fun hc30 => ?_)
        · skip
          refine sv (xpickT rfl rfl) ?_
          refine sv (xmove rfl) ?_
          refine gyes rfl rfl rfl ?_
          refine sv (xmove rfl) ?_
          refine gyes rfl rfl rfl ?_
          refine sv (xlenS st9 rfl) ?_
          refine gyes rfl rfl rfl ?_
          refine svP (xleq rfl rfl) (fun hc35 => ?_) (fun hc35 => ?_)
          · skip
            refine sv (xpickT rfl rfl) ?_
            refine sv (xassign rfl) ?_
            refine send ?_
            refine forget_wp [(2, _)] ⟨rfl, trivial⟩ fun _ => ?_
            refine wp_ret ?_
            refine rp1 rfl rfl ?_
            refine ⟨_, rfl, (fun _ => ?_), hf⟩
            have e : (bt s).drop k = [] := List.drop_eq_nil_of_le (by rw [bt_length]; omega)
            rw [e] at hG
            have e2 : nameGo 0 (bt s) = true := by rw [← hG]; simp [nameGo]; omega
            have e3 : decide (1 < s.size) = true := by simp; omega
            have e4 : decide (s.size ≤ 254) = true := by simp; omega
            simp only [nameOk, e2, e3, e4]; simp
          · skip
            refine sv (xpickT rfl rfl) ?_
            refine sv (xassign rfl) ?_
            refine send ?_
            refine forget_wp [(2, _)] ⟨rfl, trivial⟩ fun _ => ?_
            refine wp_ret ?_
            refine rp1 rfl rfl ?_
            exact ⟨_, rfl, (fun h => by cases h), hf⟩
        · skip
          refine sv (xpickT rfl rfl) ?_
          refine sv (xmove rfl) ?_
          refine gno rfl rfl rfl ?_
          refine gno rfl rfl rfl ?_
          refine gno rfl rfl rfl ?_
          refine sv (xpickF rfl rfl) ?_
          refine sv (xassign rfl) ?_
          refine send ?_
          refine forget_wp [(2, _)] ⟨rfl, trivial⟩ fun _ => ?_
          refine wp_ret ?_
          refine rp1 rfl rfl ?_
          exact ⟨_, rfl, (fun h => by cases h), hf⟩
      · skip
        refine sv (xmove rfl) ?_
        refine gno rfl rfl rfl ?_
        refine gno rfl rfl rfl ?_
        refine gno rfl rfl rfl ?_
        refine sv (xpickF rfl rfl) ?_
        refine sv (xmove rfl) ?_
        refine gno rfl rfl rfl ?_
        refine gno rfl rfl rfl ?_
        refine gno rfl rfl rfl ?_
        refine sv (xpickF rfl rfl) ?_
        refine sv (xassign rfl) ?_
        refine send ?_
        refine forget_wp [(2, _)] ⟨rfl, trivial⟩ fun _ => ?_
        refine wp_ret ?_
        refine rp1 rfl rfl ?_
        exact ⟨_, rfl, (fun h => by cases h), hf⟩
end Go.Proofs.YtifnodoffgfpbaaGreatDoor
