/- Walks: bodies that are looked at. Conditions: none. -/
import Derived.Test.YtifnodoffgfpbaaGreatDoorW6
namespace Go.Proofs.YtifnodoffgfpbaaGreatDoor
open Go

def hostOk (r : RecD) : Prop := (r.kind = 2 ∨ r.kind = 3 ∨ r.kind = 5 ∨ r.kind = 6 ∨ r.kind = 9 ∨ r.kind = 11 ∨ r.kind = 12 ∨ r.kind = 4 → nameOk r.host = true) ∧ (r.kind = 4 → nameOk r.box = true)
def bodyOk (r : RecD) : Prop := (r.kind = 7 → r.texts ≠ [] ∧ ∀ s ∈ r.texts, s.size ≤ 255) ∧ (r.kind = 11 ∨ r.kind = 12 → asc r.pairs) ∧ hostOk r
def goodR (r : RecD) : Prop := nameOk r.name = true ∧ bodyOk r
def sizeR (r : RecD) : Nat := r.data.length + r.texts.length + (r.texts.map (·.size)).sum + (r.pairs.map (fun p => p.data.length + 4)).sum
def smallR (r : RecD) : Prop := 1 ≤ r.kind ∧ r.kind ≤ 13 ∧ sizeR r ≤ 2000
def recsOf (m : MsgD) : List (List RecD) := [m.one, m.two, m.three]
def okM (m : MsgD) : Prop := (∀ a ∈ m.asks, nameOk a.name = true) ∧ (∀ l ∈ [m.one, m.two, m.three], ∀ r ∈ l, goodR r) ∧ m.head.ok
theorem asc_one (ps : List PairD) : ∀ (i : Nat) (p q : PairD), i + 1 < 1 → ps[i]? = some p → ps[i + 1]? = some q → p.key.toNat < q.key.toNat := fun i p q h => by omega
theorem asc_step {ps : List PairD} {k : Nat} (h : ∀ (i : Nat) (p q : PairD), i + 1 < k → ps[i]? = some p → ps[i + 1]? = some q → p.key.toNat < q.key.toNat) (hk : 1 ≤ k) {a b : PairD} (ha : ps[k - 1]? = some a) (hb : ps[k]? = some b) (hl : a.key.toNat < b.key.toNat) :
    ∀ (i : Nat) (p q : PairD), i + 1 < k + 1 → ps[i]? = some p → ps[i + 1]? = some q → p.key.toNat < q.key.toNat := by
  intro i p q hi hp hq
  by_cases h1 : i + 1 < k
  · exact h i p q h1 hp hq
  · obtain rfl : k = i + 1 := by omega
    simp only [Nat.add_sub_cancel] at ha
    rw [hp] at ha; rw [hq] at hb
    simp only [Option.some.injEq] at ha hb
    subst ha hb; exact hl
theorem upto_step {α : Type} {l : List α} {p : α → Prop} {k : Nat} {a : α} (h : ∀ i x, i < k → l[i]? = some x → p x) (ha : l[k]? = some a) (hp : p a) : ∀ i x, i < k + 1 → l[i]? = some x → p x := by
  intro i x hi hx
  by_cases h1 : i < k
  · exact h i x h1 hx
  · obtain rfl : i = k := by omega
    rw [ha] at hx
    simp only [Option.some.injEq] at hx
    subst hx; exact hp
theorem upto_all {α : Type} {l : List α} {p : α → Prop} {k : Nat} (h : ∀ i x, i < k → l[i]? = some x → p x) (hk : l.length ≤ k) : ∀ x ∈ l, p x := by
  intro x hx
  obtain ⟨i, hi, rfl⟩ := List.mem_iff_getElem.1 hx
  exact h i _ (by omega) (List.getElem?_eq_getElem hi)
theorem upto_zero {α : Type} {l : List α} {p : α → Prop} : ∀ i x, i < 0 → l[i]? = some x → p x := fun i x h => by omega
theorem sum_take_add {α : Type} {f : α → Nat} {l : List α} {k : Nat} {a : α} (h : l[k]? = some a) : ((l.take (k + 1)).map f).sum = ((l.take k).map f).sum + f a := by
  rw [take_snoc h]; simp
theorem sum_add4 (ps : List PairD) : (ps.map (fun p => p.data.length + 4)).sum = (ps.map (·.data.length)).sum + 4 * ps.length := by
  induction ps with
  | nil => rfl
  | cons p ps ih => simp only [List.map_cons, List.sum_cons, List.length_cons, ih]; omega

set_option maxHeartbeats 4000000 in
set_option maxRecDepth 100000 in
theorem c144 {w : World} {U : Nat → Prop} (hU : ∀ k, U k → k < w.heap.size) {v : Value} {ps : List PairD} (hp : LA PairEl lPair U w v ps) (hn : ps.length ≤ 1048576) :
    Ret PP 144 [v] w (Grd w (asc ps)) := by
  obtain ⟨a0, c0, rfl⟩ := hp.form
  have hf : Fr (fun _ => False) w w := Fr.refl _ _
  refine ret_of Tryz.func144 rfl rfl rfl [(0, _)] rfl ?_
  refine sreg ?_
  refine sv (xassign rfl) ?_
  refine send ?_
  refine forget_wp [(0, _)] ⟨rfl, trivial⟩ fun _ => ?_
  refine wp_seq ?_
  refine sreg ?_
  refine sv (xassign rfl) ?_
  refine send ?_
  refine forget_wp [(0, _), (3, _)] ⟨rfl, rfl, trivial⟩ fun _ => ?_
  refine wp_block ?_
  refine lp [(0, _)] (fun (k : Nat) => [(3, .int .i64 (k : Int))]) (fun (k : Nat) wx => Fr (fun _ => False) w wx ∧ (1 ≤ k) ∧ (k ≤ ps.length ∨ k = 1) ∧ (∀ (i : Nat) (p q : PairD), i + 1 < k → ps[i]? = some p → ps[i + 1]? = some q → p.key.toNat < q.key.toNat)) (fun (k : Nat) => ps.length - k) 1 ⟨rfl, rfl, trivial⟩ ⟨Fr.refl _ _, Nat.le_refl _, .inr rfl, asc_one ps⟩ ?_
  rintro k _ w2 ⟨hL1, hk1, hk, hA⟩
  refine forget_wp [(0, _), (3, _)] ⟨rfl, rfl, trivial⟩ fun _ => ?_
  have z3 := hL1.size
  have hp := hp.keep pair_st (fun k hk => by have hk := hU k hk; omega) hL1 (fun _ _ h => h)
  have hf := hf.step0 hL1
  refine wp_seq ?_
  refine sreg ?_
  refine sv (xmove rfl) ?_
  refine sv (xmove rfl) ?_
  refine sv (xlen sl63 rfl) ?_
  refine svP (xlss rfl rfl) (fun hc7 => ?_) (fun hc7 => ?_)
  · skip
    refine send ?_
    refine forget_wp [(0, _), (3, _), (7, _)] ⟨rfl, rfl, rfl, trivial⟩ fun _ => ?_
    refine cyes rfl ?_
    refine wp_skip ?_
    refine nThen ?_
    refine forget_wp [(0, _), (3, _)] ⟨rfl, rfl, trivial⟩ fun _ => ?_
    refine wp_seq ?_
    refine wp_block ?_
    obtain ⟨p, hpk⟩ := some_of_lt (by omega : k - 1 < ps.length)
    obtain ⟨q, hqk⟩ := some_of_lt (by omega : k < ps.length)
    refine sdraw (Fr (fun _ => False) w2.drew) [(0, .rd), (1, .rd), (2, .rd), (3, .rd), (4, .rd), (5, .rd), (6, .rd), (7, .rd), (8, .rd), (9, .rd), (10, .rd), (11, .rd)] mixed (by kernel_rfl) (fun _ _ _ _ _ h => h) ?_
    have z4 : w2.drew.heap.size = w2.heap.size := rfl
    have hp := hp.keep pair_st (fun k hk => by have hk := hU k hk; omega) (Fr.drew (Fr.refl (fun _ => False) w2)) (fun _ _ h => h)
    have hf := hf.drew
    have hL1 := hL1.drew
    have hS5 : Fr (fun _ => False) w2.drew w2.drew := Fr.refl _ _
    refine hv rfl (fun _ _ => xmove rfl) hS5 ?_
    refine hv rfl (fun _ _ => xmove rfl) hS5 ?_
    refine hv rfl (fun _ _ => xsub rfl rfl (w64 (by omega) (by omega))) hS5 ?_
    obtain ⟨bE13, oE13, sgE13, rfl, uE13, hsE13, heE13⟩ := LA.get hp hpk
    obtain ⟨vd, rfl, hd⟩ := heE13
    have zE13 := hU _ uE13
    refine hv rfl (fun _ _ => xidx sl63 sz67 (i := k - 1) rfl rfl (by omega) (by omega)) hS5 ?_
    refine hv rfl (fun _ _ => xfld fl67_0 rfl) hS5 ?_
    refine hv rfl (fun w' hS => xld on22 rfl ((hsE13.keep hS (by omega) (fun h => h)).c 0 rfl rfl)) hS5 ?_
    refine hv rfl (fun _ _ => xmove rfl) hS5 ?_
    refine hv rfl (fun _ _ => xmove rfl) hS5 ?_
    obtain ⟨bE18, oE18, sgE18, hbo, uE18, hsE18, heE18⟩ := LA.get hp hqk
    simp only [Option.some.injEq, Addr.mk.injEq, and_true] at hbo
    obtain ⟨rfl, rfl⟩ := hbo
    obtain ⟨vd2, rfl, hd2⟩ := heE18
    have zE18 := hU _ uE18
    refine hv rfl (fun _ _ => xidx sl63 sz67 rfl rfl rfl (by omega)) hS5 ?_
    refine hv rfl (fun _ _ => xfld fl67_0 rfl) hS5 ?_
    refine hv rfl (fun w' hS => xld on22 rfl ((hsE18.keep hS (by omega) (fun h => h)).c 0 rfl rfl)) hS5 ?_
    refine hvP rfl (fun _ _ => xgeq rfl rfl) hS5 (fun hc21 => ?_) (fun hc21 => ?_)
    · skip
      refine hend ?_
      refine forget_wp [(0, _), (3, _), (21, _)] ⟨rfl, rfl, rfl, trivial⟩ fun _ => ?_
      refine cyes rfl ?_
      refine sreg ?_
      refine sv (xassign rfl) ?_
      refine send ?_
      refine forget_wp [(2, _)] ⟨rfl, trivial⟩ fun _ => ?_
      refine wp_ret ?_
      refine rBlock ?_
      refine rThen ?_
      refine rThen ?_
      refine rBlock ?_
      refine rThen ?_
      refine rp1 rfl rfl ?_
      exact ⟨_, rfl, (fun h => by cases h), hf⟩
    · skip
      refine hend ?_
      refine forget_wp [(0, _), (3, _), (21, _)] ⟨rfl, rfl, rfl, trivial⟩ fun _ => ?_
      refine cno rfl ?_
      refine wp_skip ?_
      refine nBlock ?_
      refine nThen ?_
      refine forget_wp [(0, _), (3, _)] ⟨rfl, rfl, trivial⟩ fun _ => ?_
      refine lreg ?_
      refine sv (xmove rfl) ?_
      refine sv (xadd rfl rfl (w64 (by omega) (by omega))) ?_
      refine sv (xassign rfl) ?_
      refine lend ?_
      refine nThen ?_
      refine ⟨k + 1, _, env_okl ⟨rfl, rfl, trivial⟩, ⟨hL1, (by omega), (by omega), (asc_step hA hk1 hpk hqk (by omega))⟩, ?_⟩
      show ps.length - (k + 1) < ps.length - k; omega
  · skip
    refine send ?_
    refine forget_wp [(0, _), (3, _), (7, _)] ⟨rfl, rfl, rfl, trivial⟩ fun _ => ?_
    refine cno rfl ?_
    refine wp_exit ?_
    refine eThen ?_
    refine eThen ?_
    refine eHit ?_
    refine nThen ?_
    refine forget_wp [] trivial fun _ => ?_
    refine sreg ?_
    refine sv (xassign rfl) ?_
    refine send ?_
    refine forget_wp [(2, _)] ⟨rfl, trivial⟩ fun _ => ?_
    refine wp_ret ?_
    refine rp1 rfl rfl ?_
    refine ⟨_, rfl, (fun _ i p q hp hq => hA i p q ?_ hp hq), hf⟩
    have := (List.getElem?_eq_some_iff.1 hq).1
    omega
set_option maxHeartbeats 4000000 in
set_option maxRecDepth 100000 in
theorem c145 {w : World} {r : RecD} {vd vt vp : Value} (hr : r.fits) :
    Ret PP 145 [ag (recSegs r vd vt vp)] w (Grd w (hostOk r)) := by
  have hr0 := hr
  simp only [RecD.fits] at hr0
  have hf : Fr (fun _ => False) w w := Fr.refl _ _
  refine ret_of Tryz.func145 rfl rfl rfl [(0, _)] rfl ?_
  refine sreg ?_
  refine svK (xboxS (lens := [1, 1, 1, 1, 1, 1, 1, 1, 1, 1, 1, 1, 1, 1, 1, 1]) rfl rfl) ?_
  rintro _ w2 ⟨b1, rfl, m3, h1, e1, s1⟩
  have hf := hf.step0 m3
  refine sv (xassign rfl) ?_
  refine send ?_
  refine forget_wp [(1, _)] ⟨rfl, trivial⟩ fun _ => ?_
  refine wp_seq ?_
  refine sreg ?_
  refine sv (xfld fl65_5 rfl) ?_
  refine sv (xld on3 rfl (h1.r.c 5 rfl rfl)) ?_
  refine send ?_
  refine forget_wp [(1, _), (4, _)] ⟨rfl, rfl, trivial⟩ fun _ => ?_
  refine wp_block ?_
  refine wp_seq ?_
  refine sreg ?_
  refine svP (xeql rfl rfl) (fun hc6 => ?_) (fun hc6 => ?_)
  · skip
    refine sv (xassign rfl) ?_
    refine send ?_
    refine forget_wp [(1, _), (4, _), (5, _)] ⟨rfl, rfl, rfl, trivial⟩ fun _ => ?_
    refine cyes rfl ?_
    refine wp_skip ?_
    refine nThen ?_
    refine forget_wp [(1, _), (4, _), (5, _)] ⟨rfl, rfl, rfl, trivial⟩ fun _ => ?_
    refine cyes rfl ?_
    refine sreg ?_
    refine sv (xfld fl65_7 rfl) ?_
    refine sv (xld on9 rfl (h1.r.c 7 rfl rfl)) ?_
    refine sc (xcall ca82 rfl) (c82 (by omega)) ?_
    rintro _ w4 ⟨gb15, rfl, gp15, m5⟩
    have z6 := m5.size
    have hf := hf.step0 m5
    have h1 := h1.keep m5 (fun h => h)
    rcases Bool.eq_false_or_eq_true gb15 with rfl | rfl
    · skip
      refine sv (xassign rfl) ?_
      refine send ?_
      refine forget_wp [(2, _)] ⟨rfl, trivial⟩ fun _ => ?_
      refine wp_ret ?_
      refine rBlock ?_
      refine rThen ?_
      refine rp1 rfl rfl ?_
      exact ⟨_, rfl, (fun _ => ⟨fun _ => by first | exact gp15 rfl | exact gp20 rfl | omega, fun _ => by first | exact gp24 rfl | omega⟩), hf⟩
    · skip
      refine sv (xassign rfl) ?_
      refine send ?_
      refine forget_wp [(2, _)] ⟨rfl, trivial⟩ fun _ => ?_
      refine wp_ret ?_
      refine rBlock ?_
      refine rThen ?_
      refine rp1 rfl rfl ?_
      exact ⟨_, rfl, (fun h => by cases h), hf⟩
  · skip
    refine sv (xassign rfl) ?_
    refine send ?_
    refine forget_wp [(1, _), (4, _), (5, _)] ⟨rfl, rfl, rfl, trivial⟩ fun _ => ?_
    refine cno rfl ?_
    refine sreg ?_
    refine svP (xeql rfl rfl) (fun hc7 => ?_) (fun hc7 => ?_)
    · skip
      refine sv (xassign rfl) ?_
      refine send ?_
      refine forget_wp [(1, _), (4, _), (5, _)] ⟨rfl, rfl, rfl, trivial⟩ fun _ => ?_
      refine cyes rfl ?_
      refine wp_skip ?_
      refine nThen ?_
      refine forget_wp [(1, _), (4, _), (5, _)] ⟨rfl, rfl, rfl, trivial⟩ fun _ => ?_
      refine cyes rfl ?_
      refine sreg ?_
      refine sv (xfld fl65_7 rfl) ?_
      refine sv (xld on9 rfl (h1.r.c 7 rfl rfl)) ?_
      refine sc (xcall ca82 rfl) (c82 (by omega)) ?_
      rintro _ w7 ⟨gb15, rfl, gp15, m8⟩
      have z9 := m8.size
      have hf := hf.step0 m8
      have h1 := h1.keep m8 (fun h => h)
      rcases Bool.eq_false_or_eq_true gb15 with rfl | rfl
      · skip
        refine sv (xassign rfl) ?_
        refine send ?_
        refine forget_wp [(2, _)] ⟨rfl, trivial⟩ fun _ => ?_
        refine wp_ret ?_
        refine rBlock ?_
        refine rThen ?_
        refine rp1 rfl rfl ?_
        exact ⟨_, rfl, (fun _ => ⟨fun _ => by first | exact gp15 rfl | exact gp20 rfl | omega, fun _ => by first | exact gp24 rfl | omega⟩), hf⟩
      · skip
        refine sv (xassign rfl) ?_
        refine send ?_
        refine forget_wp [(2, _)] ⟨rfl, trivial⟩ fun _ => ?_
        refine wp_ret ?_
        refine rBlock ?_
        refine rThen ?_
        refine rp1 rfl rfl ?_
        exact ⟨_, rfl, (fun h => by cases h), hf⟩
    · skip
      refine sv (xassign rfl) ?_
      refine send ?_
      refine forget_wp [(1, _), (4, _), (5, _)] ⟨rfl, rfl, rfl, trivial⟩ fun _ => ?_
      refine cno rfl ?_
      refine sreg ?_
      refine svP (xeql rfl rfl) (fun hc8 => ?_) (fun hc8 => ?_)
      · skip
        refine sv (xassign rfl) ?_
        refine send ?_
        refine forget_wp [(1, _), (4, _), (5, _)] ⟨rfl, rfl, rfl, trivial⟩ fun _ => ?_
        refine cyes rfl ?_
        refine wp_skip ?_
        refine nThen ?_
        refine forget_wp [(1, _), (4, _), (5, _)] ⟨rfl, rfl, rfl, trivial⟩ fun _ => ?_
        refine cyes rfl ?_
        refine sreg ?_
        refine sv (xfld fl65_7 rfl) ?_
        refine sv (xld on9 rfl (h1.r.c 7 rfl rfl)) ?_
        refine sc (xcall ca82 rfl) (c82 (by omega)) ?_
        rintro _ w10 ⟨gb15, rfl, gp15, m11⟩
        have z12 := m11.size
        have hf := hf.step0 m11
        have h1 := h1.keep m11 (fun h => h)
        rcases Bool.eq_false_or_eq_true gb15 with rfl | rfl
        · skip
          refine sv (xassign rfl) ?_
          refine send ?_
          refine forget_wp [(2, _)] ⟨rfl, trivial⟩ fun _ => ?_
          refine wp_ret ?_
          refine rBlock ?_
          refine rThen ?_
          refine rp1 rfl rfl ?_
          exact ⟨_, rfl, (fun _ => ⟨fun _ => by first | exact gp15 rfl | exact gp20 rfl | omega, fun _ => by first | exact gp24 rfl | omega⟩), hf⟩
        · skip
          refine sv (xassign rfl) ?_
          refine send ?_
          refine forget_wp [(2, _)] ⟨rfl, trivial⟩ fun _ => ?_
          refine wp_ret ?_
          refine rBlock ?_
          refine rThen ?_
          refine rp1 rfl rfl ?_
          exact ⟨_, rfl, (fun h => by cases h), hf⟩
      · skip
        refine sv (xassign rfl) ?_
        refine send ?_
        refine forget_wp [(1, _), (4, _), (5, _)] ⟨rfl, rfl, rfl, trivial⟩ fun _ => ?_
        refine cno rfl ?_
        refine sreg ?_
        refine svP (xeql rfl rfl) (fun hc9 => ?_) (fun hc9 => ?_)
        · skip
          refine sv (xassign rfl) ?_
          refine send ?_
          refine forget_wp [(1, _), (4, _), (5, _)] ⟨rfl, rfl, rfl, trivial⟩ fun _ => ?_
          refine cyes rfl ?_
          refine wp_skip ?_
          refine nThen ?_
          refine forget_wp [(1, _), (4, _), (5, _)] ⟨rfl, rfl, rfl, trivial⟩ fun _ => ?_
          refine cyes rfl ?_
          refine sreg ?_
          refine sv (xfld fl65_7 rfl) ?_
          refine sv (xld on9 rfl (h1.r.c 7 rfl rfl)) ?_
          refine sc (xcall ca82 rfl) (c82 (by omega)) ?_
          rintro _ w13 ⟨gb15, rfl, gp15, m14⟩
          have z15 := m14.size
          have hf := hf.step0 m14
          have h1 := h1.keep m14 (fun h => h)
          rcases Bool.eq_false_or_eq_true gb15 with rfl | rfl
          · skip
            refine sv (xassign rfl) ?_
            refine send ?_
            refine forget_wp [(2, _)] ⟨rfl, trivial⟩ fun _ => ?_
            refine wp_ret ?_
            refine rBlock ?_
            refine rThen ?_
            refine rp1 rfl rfl ?_
            exact ⟨_, rfl, (fun _ => ⟨fun _ => by first | exact gp15 rfl | exact gp20 rfl | omega, fun _ => by first | exact gp24 rfl | omega⟩), hf⟩
          · skip
            refine sv (xassign rfl) ?_
            refine send ?_
            refine forget_wp [(2, _)] ⟨rfl, trivial⟩ fun _ => ?_
            refine wp_ret ?_
            refine rBlock ?_
            refine rThen ?_
            refine rp1 rfl rfl ?_
            exact ⟨_, rfl, (fun h => by cases h), hf⟩
        · skip
          refine sv (xassign rfl) ?_
          refine send ?_
          refine forget_wp [(1, _), (4, _), (5, _)] ⟨rfl, rfl, rfl, trivial⟩ fun _ => ?_
          refine cno rfl ?_
          refine sreg ?_
          refine svP (xeql rfl rfl) (fun hc10 => ?_) (fun hc10 => ?_)
          · skip
            refine sv (xassign rfl) ?_
            refine send ?_
            refine forget_wp [(1, _), (4, _), (5, _)] ⟨rfl, rfl, rfl, trivial⟩ fun _ => ?_
            refine cyes rfl ?_
            refine wp_skip ?_
            refine nThen ?_
            refine forget_wp [(1, _), (4, _), (5, _)] ⟨rfl, rfl, rfl, trivial⟩ fun _ => ?_
            refine cyes rfl ?_
            refine sreg ?_
            refine sv (xfld fl65_7 rfl) ?_
            refine sv (xld on9 rfl (h1.r.c 7 rfl rfl)) ?_
            refine sc (xcall ca82 rfl) (c82 (by omega)) ?_
            rintro _ w16 ⟨gb15, rfl, gp15, m17⟩
            have z18 := m17.size
            have hf := hf.step0 m17
            have h1 := h1.keep m17 (fun h => h)
            rcases Bool.eq_false_or_eq_true gb15 with rfl | rfl
            · skip
              refine sv (xassign rfl) ?_
              refine send ?_
              refine forget_wp [(2, _)] ⟨rfl, trivial⟩ fun _ => ?_
              refine wp_ret ?_
              refine rBlock ?_
              refine rThen ?_
              refine rp1 rfl rfl ?_
              exact ⟨_, rfl, (fun _ => ⟨fun _ => by first | exact gp15 rfl | exact gp20 rfl | omega, fun _ => by first | exact gp24 rfl | omega⟩), hf⟩
            · skip
              refine sv (xassign rfl) ?_
              refine send ?_
              refine forget_wp [(2, _)] ⟨rfl, trivial⟩ fun _ => ?_
              refine wp_ret ?_
              refine rBlock ?_
              refine rThen ?_
              refine rp1 rfl rfl ?_
              exact ⟨_, rfl, (fun h => by cases h), hf⟩
          · skip
            refine sv (xassign rfl) ?_
            refine send ?_
            refine forget_wp [(1, _), (4, _), (5, _)] ⟨rfl, rfl, rfl, trivial⟩ fun _ => ?_
            refine cno rfl ?_
            refine sreg ?_
            refine svP (xeql rfl rfl) (fun hc11 => ?_) (fun hc11 => ?_)
            · skip
              refine sv (xassign rfl) ?_
              refine send ?_
              refine forget_wp [(1, _), (4, _), (5, _)] ⟨rfl, rfl, rfl, trivial⟩ fun _ => ?_
              refine cyes rfl ?_
              refine wp_skip ?_
              refine nThen ?_
              refine forget_wp [(1, _), (4, _), (5, _)] ⟨rfl, rfl, rfl, trivial⟩ fun _ => ?_
              refine cyes rfl ?_
              refine sreg ?_
              refine sv (xfld fl65_7 rfl) ?_
              refine sv (xld on9 rfl (h1.r.c 7 rfl rfl)) ?_
              refine sc (xcall ca82 rfl) (c82 (by omega)) ?_
              rintro _ w19 ⟨gb15, rfl, gp15, m20⟩
              have z21 := m20.size
              have hf := hf.step0 m20
              have h1 := h1.keep m20 (fun h => h)
              rcases Bool.eq_false_or_eq_true gb15 with rfl | rfl
              · skip
                refine sv (xassign rfl) ?_
                refine send ?_
                refine forget_wp [(2, _)] ⟨rfl, trivial⟩ fun _ => ?_
                refine wp_ret ?_
                refine rBlock ?_
                refine rThen ?_
                refine rp1 rfl rfl ?_
                exact ⟨_, rfl, (fun _ => ⟨fun _ => by first | exact gp15 rfl | exact gp20 rfl | omega, fun _ => by first | exact gp24 rfl | omega⟩), hf⟩
              · skip
                refine sv (xassign rfl) ?_
                refine send ?_
                refine forget_wp [(2, _)] ⟨rfl, trivial⟩ fun _ => ?_
                refine wp_ret ?_
                refine rBlock ?_
                refine rThen ?_
                refine rp1 rfl rfl ?_
                exact ⟨_, rfl, (fun h => by cases h), hf⟩
            · skip
              refine sv (xassign rfl) ?_
              refine send ?_
              refine forget_wp [(1, _), (4, _), (5, _)] ⟨rfl, rfl, rfl, trivial⟩ fun _ => ?_
              refine cno rfl ?_
              refine lreg ?_
              refine svP (xeql rfl rfl) (fun hc12 => ?_) (fun hc12 => ?_)
              · skip
                refine sv (xassign rfl) ?_
                refine lend ?_
                refine nThen ?_
                refine forget_wp [(1, _), (4, _), (5, _)] ⟨rfl, rfl, rfl, trivial⟩ fun _ => ?_
                refine cyes rfl ?_
                refine sreg ?_
                refine sv (xfld fl65_7 rfl) ?_
                refine sv (xld on9 rfl (h1.r.c 7 rfl rfl)) ?_
                refine sc (xcall ca82 rfl) (c82 (by omega)) ?_
                rintro _ w22 ⟨gb15, rfl, gp15, m23⟩
                have z24 := m23.size
                have hf := hf.step0 m23
                have h1 := h1.keep m23 (fun h => h)
                rcases Bool.eq_false_or_eq_true gb15 with rfl | rfl
                · skip
                  refine sv (xassign rfl) ?_
                  refine send ?_
                  refine forget_wp [(2, _)] ⟨rfl, trivial⟩ fun _ => ?_
                  refine wp_ret ?_
                  refine rBlock ?_
                  refine rThen ?_
                  refine rp1 rfl rfl ?_
                  exact ⟨_, rfl, (fun _ => ⟨fun _ => by first | exact gp15 rfl | exact gp20 rfl | omega, fun _ => by first | exact gp24 rfl | omega⟩), hf⟩
                · skip
                  refine sv (xassign rfl) ?_
                  refine send ?_
                  refine forget_wp [(2, _)] ⟨rfl, trivial⟩ fun _ => ?_
                  refine wp_ret ?_
                  refine rBlock ?_
                  refine rThen ?_
                  refine rp1 rfl rfl ?_
                  exact ⟨_, rfl, (fun h => by cases h), hf⟩
              · skip
                refine sv (xassign rfl) ?_
                refine lend ?_
                refine nThen ?_
                refine forget_wp [(1, _), (4, _), (5, _)] ⟨rfl, rfl, rfl, trivial⟩ fun _ => ?_
                refine cno rfl ?_
                refine sreg ?_
                refine svP (xeql rfl rfl) (fun hc17 => ?_) (fun hc17 => ?_)
                · skip
                  refine sv (xassign rfl) ?_
                  refine send ?_
                  refine forget_wp [(1, _), (16, _)] ⟨rfl, rfl, trivial⟩ fun _ => ?_
                  refine cyes rfl ?_
                  refine sreg ?_
                  refine sv (xfld fl65_7 rfl) ?_
                  refine sv (xld on9 rfl (h1.r.c 7 rfl rfl)) ?_
                  refine sc (xcall ca82 rfl) (c82 (by omega)) ?_
                  rintro _ w25 ⟨gb20, rfl, gp20, m26⟩
                  have z27 := m26.size
                  have hf := hf.step0 m26
                  have h1 := h1.keep m26 (fun h => h)
                  rcases Bool.eq_false_or_eq_true gb20 with rfl | rfl
                  · skip
                    refine sv (xmove rfl) ?_
                    refine gyes rfl rfl rfl ?_
                    refine sv (xfld fl65_8 rfl) ?_
                    refine gyes rfl rfl rfl ?_
                    refine sv (xld on9 rfl (h1.r.c 8 rfl rfl)) ?_
                    refine gyes rfl rfl rfl ?_
                    refine sc (xcall ca82 rfl) (c82 (by omega)) ?_
                    rintro _ w28 ⟨gb24, rfl, gp24, m29⟩
                    have z30 := m29.size
                    have hf := hf.step0 m29
                    have h1 := h1.keep m29 (fun h => h)
                    rcases Bool.eq_false_or_eq_true gb24 with rfl | rfl
                    · skip
                      refine sv (xpickT rfl rfl) ?_
                      refine sv (xassign rfl) ?_
                      refine send ?_
                      refine forget_wp [(2, _)] ⟨rfl, trivial⟩ fun _ => ?_
                      refine wp_ret ?_
                      refine rBlock ?_
                      refine rThen ?_
                      refine rp1 rfl rfl ?_
                      exact ⟨_, rfl, (fun _ => ⟨fun _ => by first | exact gp15 rfl | exact gp20 rfl | omega, fun _ => by first | exact gp24 rfl | omega⟩), hf⟩
                    · skip
                      refine sv (xpickT rfl rfl) ?_
                      refine sv (xassign rfl) ?_
                      refine send ?_
                      refine forget_wp [(2, _)] ⟨rfl, trivial⟩ fun _ => ?_
                      refine wp_ret ?_
                      refine rBlock ?_
                      refine rThen ?_
                      refine rp1 rfl rfl ?_
                      exact ⟨_, rfl, (fun h => by cases h), hf⟩
                  · skip
                    refine sv (xmove rfl) ?_
                    refine gno rfl rfl rfl ?_
                    refine gno rfl rfl rfl ?_
                    refine gno rfl rfl rfl ?_
                    refine sv (xpickF rfl rfl) ?_
                    refine sv (xassign rfl) ?_
                    refine send ?_
                    refine forget_wp [(2, _)] ⟨rfl, trivial⟩ fun _ => ?_
                    refine wp_ret ?_
                    refine rBlock ?_
                    refine rThen ?_
                    refine rp1 rfl rfl ?_
                    exact ⟨_, rfl, (fun h => by cases h), hf⟩
                · skip
                  refine sv (xassign rfl) ?_
                  refine send ?_
                  refine forget_wp [(1, _), (16, _)] ⟨rfl, rfl, trivial⟩ fun _ => ?_
                  refine cno rfl ?_
                  refine wp_skip ?_
                  refine nBlock ?_
                  refine nThen ?_
                  refine forget_wp [] trivial fun _ => ?_
                  refine sreg ?_
                  refine sv (xassign rfl) ?_
                  refine send ?_
                  refine forget_wp [(2, _)] ⟨rfl, trivial⟩ fun _ => ?_
                  refine wp_ret ?_
                  refine rp1 rfl rfl ?_
                  exact ⟨_, rfl, (fun _ => ⟨fun _ => by first | exact gp15 rfl | exact gp20 rfl | omega, fun _ => by first | exact gp24 rfl | omega⟩), hf⟩
set_option maxHeartbeats 4000000 in
set_option maxRecDepth 100000 in
theorem c85 {w : World} {h : HeadD} :
    Ret PP 85 [ag (headSegs h)] w (Grd w h.ok) := by
  have hf : Fr (fun _ => False) w w := Fr.refl _ _
  refine ret_of Tryz.func85 rfl rfl rfl [(0, _)] rfl ?_
  refine sreg ?_
  refine svK (xboxS (lens := [1, 1, 1, 1, 1, 1, 1, 1, 1, 1]) rfl rfl) ?_
  rintro _ w2 ⟨b1, rfl, m3, h1, e1, s1⟩
  have hf := hf.step0 m3
  refine sv (xassign rfl) ?_
  refine send ?_
  refine forget_wp [(1, _)] ⟨rfl, trivial⟩ fun _ => ?_
  refine sreg ?_
  refine sv (xfld fl30_2 rfl) ?_
  refine sv (xld on22 rfl (h1.r.c 2 rfl rfl)) ?_
  refine svP (xlss rfl rfl) (fun hc5 => ?_) (fun hc5 => ?_)
  · skip
    refine sv (xmove rfl) ?_
    refine gyes rfl rfl rfl ?_
    refine sv (xfld fl30_9 rfl) ?_
    refine gyes rfl rfl rfl ?_
    refine sv (xld on22 rfl (h1.r.c 9 rfl rfl)) ?_
    refine gyes rfl rfl rfl ?_
    refine svP (xlss rfl rfl) (fun hc9 => ?_) (fun hc9 => ?_)
    · skip
      refine sv (xpickT rfl rfl) ?_
      refine sv (xassign rfl) ?_
      refine send ?_
      refine forget_wp [(2, _)] ⟨rfl, trivial⟩ fun _ => ?_
      refine wp_ret ?_
      refine rp1 rfl rfl ?_
      exact ⟨_, rfl, (fun _ => ⟨by omega, by omega⟩), hf⟩
    · skip
      refine sv (xpickT rfl rfl) ?_
      refine sv (xassign rfl) ?_
      refine send ?_
      refine forget_wp [(2, _)] ⟨rfl, trivial⟩ fun _ => ?_
      refine wp_ret ?_
      refine rp1 rfl rfl ?_
      exact ⟨_, rfl, (fun h => by cases h), hf⟩
  · skip
    refine sv (xmove rfl) ?_
    refine gno rfl rfl rfl ?_
    refine gno rfl rfl rfl ?_
    refine gno rfl rfl rfl ?_
    refine sv (xpickF rfl rfl) ?_
    refine sv (xassign rfl) ?_
    refine send ?_
    refine forget_wp [(2, _)] ⟨rfl, trivial⟩ fun _ => ?_
    refine wp_ret ?_
    refine rp1 rfl rfl ?_
    exact ⟨_, rfl, (fun h => by cases h), hf⟩
set_option maxHeartbeats 4000000 in
set_option maxRecDepth 100000 in
theorem c83 {w : World} {U : Nat → Prop} (hU : ∀ k, U k → k < w.heap.size) {r : RecD} {vd vt vp : Value} (hd : BA U w vd r.data) (ht : LA TextEl [1] U w vt r.texts) (hp : LA PairEl lPair U w vp r.pairs) (hr : r.fits) :
    Ret PP 83 [ag (recSegs r vd vt vp)] w (Grd w (bodyOk r)) := by
  obtain ⟨at0, ct0, rfl⟩ := ht.form
  obtain ⟨ap0, cp0, rfl⟩ := hp.form
  obtain ⟨ad0, cd0, rfl, -⟩ := id hd
  have hr0 := hr
  have hrf := hr
  simp only [RecD.fits] at hr0
  have hbl := bodyL_fits hr
  have hf : Fr (fun _ => False) w w := Fr.refl _ _
  refine ret_of Tryz.func83 rfl rfl rfl [(0, _)] rfl ?_
  refine sreg ?_
  refine svK (xboxS (lens := [1, 1, 1, 1, 1, 1, 1, 1, 1, 1, 1, 1, 1, 1, 1, 1]) rfl rfl) ?_
  rintro _ w2 ⟨b1, rfl, m3, h1, e1, s1⟩
  have hd := hd.keep (fun k hk => by have hk := hU k hk; omega) m3 (fun _ _ h => h)
  have ht := ht.keep text_st (fun k hk => by have hk := hU k hk; omega) m3 (fun _ _ h => h)
  have hp := hp.keep pair_st (fun k hk => by have hk := hU k hk; omega) m3 (fun _ _ h => h)
  have hf := hf.step0 m3
  refine sv (xassign rfl) ?_
  refine send ?_
  refine forget_wp [(1, _)] ⟨rfl, trivial⟩ fun _ => ?_
  refine wp_seq ?_
  refine sreg ?_
  refine sv (xfld fl65_14 rfl) ?_
  refine sv (xld on62 rfl (h1.r.c 14 rfl rfl)) ?_
  refine sv (xlen sl62 rfl) ?_
  refine sv (xmove rfl) ?_
  refine send ?_
  refine forget_wp [(1, _), (6, _), (7, _), (8, _)] ⟨rfl, rfl, rfl, rfl, trivial⟩ fun _ => ?_
  refine wp_block ?_
  refine lp [(1, _), (6, _), (7, _)] (fun (k : Nat) => [(8, .int .i64 (k : Int))]) (fun (k : Nat) wx => Fr (fun _ => False) w2 wx ∧ (k ≤ r.texts.length) ∧ (r.kind = 7 → ∀ i (s : ByteArray), i < k → r.texts[i]? = some s → s.size ≤ 255)) (fun (k : Nat) => r.texts.length - k) 0 ⟨rfl, rfl, rfl, rfl, trivial⟩ ⟨Fr.refl _ _, Nat.zero_le _, fun _ => upto_zero⟩ ?_
  rintro k _ w5 ⟨hL4, hk, hT⟩
  refine forget_wp [(1, _), (6, _), (7, _), (8, _)] ⟨rfl, rfl, rfl, rfl, trivial⟩ fun _ => ?_
  have z6 := hL4.size
  have hd := hd.keep (fun k hk => by have hk := hU k hk; omega) hL4 (fun _ _ h => h)
  have ht := ht.keep text_st (fun k hk => by have hk := hU k hk; omega) hL4 (fun _ _ h => h)
  have hp := hp.keep pair_st (fun k hk => by have hk := hU k hk; omega) hL4 (fun _ _ h => h)
  have hf := hf.step0 hL4
  have h1 := h1.keep hL4 (fun h => h)
  refine sreg ?_
  refine svP (xlss rfl rfl) (fun hc9 => ?_) (fun hc9 => ?_)
  · skip
    refine send ?_
    refine forget_wp [(1, _), (6, _), (7, _), (8, _), (9, _)] ⟨rfl, rfl, rfl, rfl, rfl, trivial⟩ fun _ => ?_
    refine wp_seq ?_
    refine cyes rfl ?_
    refine wp_skip ?_
    refine nThen ?_
    refine forget_wp [(1, _), (6, _), (7, _), (8, _)] ⟨rfl, rfl, rfl, rfl, trivial⟩ fun _ => ?_
    refine wp_seq ?_
    refine wp_block ?_
    obtain ⟨t, htk⟩ := some_of_lt (by omega : k < r.texts.length)
    have htl := hr.2.2.2.2.2.1 _ (List.mem_of_getElem? htk)
    refine sreg ?_
    obtain ⟨bE10, oE10, sgE10, rfl, uE10, hsE10, heE10⟩ := LA.get ht htk
    obtain rfl := heE10
    have zE10 := hU _ uE10
    refine sv (xidx sl62 sz9 rfl rfl rfl (by omega)) ?_
    refine sv (xld on9 rfl (hsE10.c 0 rfl rfl)) ?_
    refine sv (xassign rfl) ?_
    refine send ?_
    refine forget_wp [(1, _), (4, _), (6, _), (7, _), (8, _)] ⟨rfl, rfl, rfl, rfl, rfl, trivial⟩ fun _ => ?_
    refine sreg ?_
    refine sv (xfld fl65_5 rfl) ?_
    refine sv (xld on3 rfl (h1.r.c 5 rfl rfl)) ?_
    refine svP (xeql rfl rfl) (fun hc14 => ?_) (fun hc14 => ?_)
    · skip
      refine sv (xmove rfl) ?_
      refine gyes rfl rfl rfl ?_
      refine sv (xmove rfl) ?_
      refine gyes rfl rfl rfl ?_
      refine sv (xlenS st9 rfl) ?_
      refine gyes rfl rfl rfl ?_
      refine svP (xgtr rfl rfl) (fun hc18 => ?_) (fun hc18 => ?_)
      · skip
        refine sv (xpickT rfl rfl) ?_
        refine send ?_
        refine forget_wp [(1, _), (6, _), (7, _), (8, _), (19, _)] ⟨rfl, rfl, rfl, rfl, rfl, trivial⟩ fun _ => ?_
        refine cyes rfl ?_
        refine sreg ?_
        refine sv (xassign rfl) ?_
        refine send ?_
        refine forget_wp [(2, _)] ⟨rfl, trivial⟩ fun _ => ?_
        refine wp_ret ?_
        refine rBlock ?_
        refine rThen ?_
        refine rThen ?_
        refine rBlock ?_
        refine rThen ?_
        refine rp1 rfl rfl ?_
        exact ⟨_, rfl, (fun h => by cases h), hf⟩
      · skip
        refine sv (xpickT rfl rfl) ?_
        refine send ?_
        refine forget_wp [(1, _), (6, _), (7, _), (8, _), (19, _)] ⟨rfl, rfl, rfl, rfl, rfl, trivial⟩ fun _ => ?_
        refine cno rfl ?_
        refine wp_skip ?_
        refine nBlock ?_
        refine nThen ?_
        refine forget_wp [(1, _), (6, _), (7, _), (8, _)] ⟨rfl, rfl, rfl, rfl, trivial⟩ fun _ => ?_
        refine lreg ?_
        refine sv (xadd rfl rfl (w64 (by omega) (by omega))) ?_
        refine sv (xmove rfl) ?_
        refine lend ?_
        refine nThen ?_
        refine ⟨k + 1, _, env_okl ⟨rfl, rfl, rfl, rfl, trivial⟩, ⟨hL4, (by omega), (fun h7 => upto_step (hT h7) htk (by omega))⟩, ?_⟩
        show r.texts.length - (k + 1) < r.texts.length - k; omega
    · skip
      refine sv (xmove rfl) ?_
      refine gno rfl rfl rfl ?_
      refine gno rfl rfl rfl ?_
      refine gno rfl rfl rfl ?_
      refine sv (xpickF rfl rfl) ?_
      refine send ?_
      refine forget_wp [(1, _), (6, _), (7, _), (8, _), (19, _)] ⟨rfl, rfl, rfl, rfl, rfl, trivial⟩ fun _ => ?_
      refine cno rfl ?_
      refine wp_skip ?_
      refine nBlock ?_
      refine nThen ?_
      refine forget_wp [(1, _), (6, _), (7, _), (8, _)] ⟨rfl, rfl, rfl, rfl, trivial⟩ fun _ => ?_
      refine lreg ?_
      refine sv (xadd rfl rfl (w64 (by omega) (by omega))) ?_
      refine sv (xmove rfl) ?_
      refine lend ?_
      refine nThen ?_
      refine ⟨k + 1, _, env_okl ⟨rfl, rfl, rfl, rfl, trivial⟩, ⟨hL4, (by omega), (fun h7 => upto_step (hT h7) htk (by omega))⟩, ?_⟩
      show r.texts.length - (k + 1) < r.texts.length - k; omega
  · skip
    refine send ?_
    refine forget_wp [(1, _), (6, _), (7, _), (8, _), (9, _)] ⟨rfl, rfl, rfl, rfl, rfl, trivial⟩ fun _ => ?_
    refine wp_seq ?_
    refine cno rfl ?_
    refine wp_exit ?_
    refine eThen ?_
    refine eThen ?_
    refine eHit ?_
    refine nThen ?_
    refine forget_wp [(1, _)] ⟨rfl, trivial⟩ fun _ => ?_
    refine wp_seq ?_
    refine sreg ?_
    refine sv (xfld fl65_5 rfl) ?_
    refine sv (xld on3 rfl (h1.r.c 5 rfl rfl)) ?_
    refine svP (xeql rfl rfl) (fun hc23 => ?_) (fun hc23 => ?_)
    · skip
      refine sv (xmove rfl) ?_
      refine gyes rfl rfl rfl ?_
      refine sv (xfld fl65_14 rfl) ?_
      refine gyes rfl rfl rfl ?_
      refine sv (xld on62 rfl (h1.r.c 14 rfl rfl)) ?_
      refine gyes rfl rfl rfl ?_
      refine sv (xlen sl62 rfl) ?_
      refine gyes rfl rfl rfl ?_
      refine svP (xeql rfl rfl) (fun hc28 => ?_) (fun hc28 => ?_)
      · skip
        refine sv (xpickT rfl rfl) ?_
        refine sv (xmove rfl) ?_
        refine gno rfl rfl rfl ?_
        refine gno rfl rfl rfl ?_
        refine gno rfl rfl rfl ?_
        refine gno rfl rfl rfl ?_
        refine gnu rfl rfl ?_
        refine gnu rfl rfl ?_
        refine gnu rfl rfl ?_
        refine gno rfl rfl rfl ?_
        refine gno rfl rfl rfl ?_
        refine gnu rfl rfl ?_
        refine gnu rfl rfl ?_
        refine gnu rfl rfl ?_
        refine gnu rfl rfl ?_
        refine gno rfl rfl rfl ?_
        refine sv (xpickT rfl rfl) ?_
        refine send ?_
        refine forget_wp [(1, _), (45, _)] ⟨rfl, rfl, trivial⟩ fun _ => ?_
        refine cyes rfl ?_
        refine sreg ?_
        refine sv (xassign rfl) ?_
        refine send ?_
        refine forget_wp [(2, _)] ⟨rfl, trivial⟩ fun _ => ?_
        refine wp_ret ?_
        refine rThen ?_
        refine rp1 rfl rfl ?_
        exact ⟨_, rfl, (fun h => by cases h), hf⟩
      · skip
        refine sv (xpickT rfl rfl) ?_
        refine sv (xmove rfl) ?_
        refine gyes rfl rfl rfl ?_
        refine sv (xfld fl65_5 rfl) ?_
        refine gyes rfl rfl rfl ?_
        refine sv (xld on3 rfl (h1.r.c 5 rfl rfl)) ?_
        refine gyes rfl rfl rfl ?_
        refine svP (xeql rfl rfl) (fun hc33 => ?_) (fun hc33 => ?_)
        · skip
          refine gyes rfl rfl rfl ?_
          refine sv (xmove rfl) ?_
          refine gno rfl rfl rfl ?_
          refine gno rfl rfl rfl ?_
          refine gno rfl rfl rfl ?_
          refine gyes rfl rfl rfl ?_
          refine sv (xpickT rfl rfl) ?_
          refine gyes rfl rfl rfl ?_
          refine sv (xmove rfl) ?_
          refine gyes rfl rfl rfl ?_
          refine sv (xfld fl65_15 rfl) ?_
          refine gyes rfl rfl rfl ?_
          refine sv (xld on63 rfl (h1.r.c 15 rfl rfl)) ?_
          refine gyes rfl rfl rfl ?_
          refine sc (xcall ca144 rfl) (c144 (fun k hk => by have hk := hU k hk; omega) hp (by omega)) ?_
          rintro _ w7 ⟨gb42, rfl, gp42, m8⟩
          have z9 := m8.size
          have hd := hd.keep (fun k hk => by have hk := hU k hk; omega) m8 (fun _ _ h => h)
          have ht := ht.keep text_st (fun k hk => by have hk := hU k hk; omega) m8 (fun _ _ h => h)
          have hp := hp.keep pair_st (fun k hk => by have hk := hU k hk; omega) m8 (fun _ _ h => h)
          have hf := hf.step0 m8
          have h1 := h1.keep m8 (fun h => h)
          have hL4 := hL4.step0 m8
          rcases Bool.eq_false_or_eq_true gb42 with rfl | rfl
          · skip
            refine gyes rfl rfl rfl ?_
            refine sv (xnot rfl) ?_
            refine gyes rfl rfl rfl ?_
            refine sv (xpickT rfl rfl) ?_
            refine sv (xpickF rfl rfl) ?_
            refine send ?_
            refine forget_wp [(1, _), (45, _)] ⟨rfl, rfl, trivial⟩ fun _ => ?_
            refine cno rfl ?_
            refine wp_skip ?_
            refine nThen ?_
            refine forget_wp [(1, _)] ⟨rfl, trivial⟩ fun _ => ?_
            refine sreg ?_
            refine sv (xldS (lens := [1, 1, 1, 1, 1, 1, 1, 1, 1, 1, 1, 1, 1, 1, 1, 1]) ro65 rfl h1.r) ?_
            refine sc (xcall ca145 rfl) (c145 hr) ?_
            rintro _ w10 ⟨gb47, rfl, gp47, m11⟩
            have z12 := m11.size
            have hd := hd.keep (fun k hk => by have hk := hU k hk; omega) m11 (fun _ _ h => h)
            have ht := ht.keep text_st (fun k hk => by have hk := hU k hk; omega) m11 (fun _ _ h => h)
            have hp := hp.keep pair_st (fun k hk => by have hk := hU k hk; omega) m11 (fun _ _ h => h)
            have hf := hf.step0 m11
            have h1 := h1.keep m11 (fun h => h)
            have hL4 := hL4.step0 m11
            rcases Bool.eq_false_or_eq_true gb47 with rfl | rfl
            · skip
              refine sv (xmove rfl) ?_
              refine gyes rfl rfl rfl ?_
              refine sv (xldS (lens := [1, 1, 1, 1, 1, 1, 1, 1, 1, 1, 1, 1, 1, 1, 1, 1]) ro65 rfl h1.r) ?_
              refine gyes rfl rfl rfl ?_
              refine sc (xcall ca84 rfl) (c84 (fun k hk => by have hk := hU k hk; omega) hd ht hp hrf) ?_
              rintro _ w13 ⟨p50, q50, g50, rfl, r50, m14, a50, l50⟩
              have z15 := m14.size
              have hd := hd.keep (fun k hk => by have hk := hU k hk; omega) m14 (fun _ _ h => h)
              have ht := ht.keep text_st (fun k hk => by have hk := hU k hk; omega) m14 (fun _ _ h => h)
              have hp := hp.keep pair_st (fun k hk => by have hk := hU k hk; omega) m14 (fun _ _ h => h)
              have hf := hf.step0 m14
              have h1 := h1.keep m14 (fun h => h)
              have hL4 := hL4.step0 m14
              refine gyes rfl rfl rfl ?_
              refine sv (xlen sl37 rfl) ?_
              refine gyes rfl rfl rfl ?_
              refine svP (xlss rfl rfl) (fun hc52 => ?_) (fun hc52 => ?_)
              · skip
                refine sv (xpickT rfl rfl) ?_
                refine sv (xassign rfl) ?_
                refine send ?_
                refine forget_wp [(2, _)] ⟨rfl, trivial⟩ fun _ => ?_
                refine wp_ret ?_
                refine rp1 rfl rfl ?_
                refine ⟨_, rfl, (fun _ => ⟨fun h7 => ⟨fun h0 => ?_, upto_all (hT h7) (by omega)⟩, fun h11 => by first | exact gp42 rfl | omega, gp47 rfl⟩), hf⟩
                have h00 : r.texts.length = 0 := by rw [h0]; rfl
                omega
              · skip
                refine sv (xpickT rfl rfl) ?_
                refine sv (xassign rfl) ?_
                refine send ?_
                refine forget_wp [(2, _)] ⟨rfl, trivial⟩ fun _ => ?_
                refine wp_ret ?_
                refine rp1 rfl rfl ?_
                exact ⟨_, rfl, (fun h => by cases h), hf⟩
            · skip
              refine sv (xmove rfl) ?_
              refine gno rfl rfl rfl ?_
              refine gno rfl rfl rfl ?_
              refine gno rfl rfl rfl ?_
              refine gno rfl rfl rfl ?_
              refine sv (xpickF rfl rfl) ?_
              refine sv (xassign rfl) ?_
              refine send ?_
              refine forget_wp [(2, _)] ⟨rfl, trivial⟩ fun _ => ?_
              refine wp_ret ?_
              refine rp1 rfl rfl ?_
              exact ⟨_, rfl, (fun h => by cases h), hf⟩
          · skip
            refine gyes rfl rfl rfl ?_
            refine sv (xnot rfl) ?_
            refine gyes rfl rfl rfl ?_
            refine sv (xpickT rfl rfl) ?_
            refine sv (xpickF rfl rfl) ?_
            refine send ?_
            refine forget_wp [(1, _), (45, _)] ⟨rfl, rfl, trivial⟩ fun _ => ?_
            refine cyes rfl ?_
            refine sreg ?_
            refine sv (xassign rfl) ?_
            refine send ?_
            refine forget_wp [(2, _)] ⟨rfl, trivial⟩ fun _ => ?_
            refine wp_ret ?_
            refine rThen ?_
            refine rp1 rfl rfl ?_
            exact ⟨_, rfl, (fun h => by cases h), hf⟩
        · skip
          refine gyes rfl rfl rfl ?_
          refine sv (xmove rfl) ?_
          refine gyes rfl rfl rfl ?_
          refine sv (xfld fl65_5 rfl) ?_
          refine gyes rfl rfl rfl ?_
          refine sv (xld on3 rfl (h1.r.c 5 rfl rfl)) ?_
          refine gyes rfl rfl rfl ?_
          refine svP (xeql rfl rfl) (fun hc37 => ?_) (fun hc37 => ?_)
          · skip
            refine gyes rfl rfl rfl ?_
            refine sv (xpickF rfl rfl) ?_
            refine gyes rfl rfl rfl ?_
            refine sv (xmove rfl) ?_
            refine gyes rfl rfl rfl ?_
            refine sv (xfld fl65_15 rfl) ?_
            refine gyes rfl rfl rfl ?_
            refine sv (xld on63 rfl (h1.r.c 15 rfl rfl)) ?_
            refine gyes rfl rfl rfl ?_
            refine sc (xcall ca144 rfl) (c144 (fun k hk => by have hk := hU k hk; omega) hp (by omega)) ?_
            rintro _ w16 ⟨gb42, rfl, gp42, m17⟩
            have z18 := m17.size
            have hd := hd.keep (fun k hk => by have hk := hU k hk; omega) m17 (fun _ _ h => h)
            have ht := ht.keep text_st (fun k hk => by have hk := hU k hk; omega) m17 (fun _ _ h => h)
            have hp := hp.keep pair_st (fun k hk => by have hk := hU k hk; omega) m17 (fun _ _ h => h)
            have hf := hf.step0 m17
            have h1 := h1.keep m17 (fun h => h)
            have hL4 := hL4.step0 m17
            rcases Bool.eq_false_or_eq_true gb42 with rfl | rfl
            · skip
              refine gyes rfl rfl rfl ?_
              refine sv (xnot rfl) ?_
              refine gyes rfl rfl rfl ?_
              refine sv (xpickT rfl rfl) ?_
              refine sv (xpickF rfl rfl) ?_
              refine send ?_
              refine forget_wp [(1, _), (45, _)] ⟨rfl, rfl, trivial⟩ fun _ => ?_
              refine cno rfl ?_
              refine wp_skip ?_
              refine nThen ?_
              refine forget_wp [(1, _)] ⟨rfl, trivial⟩ fun _ => ?_
              refine sreg ?_
              refine sv (xldS (lens := [1, 1, 1, 1, 1, 1, 1, 1, 1, 1, 1, 1, 1, 1, 1, 1]) ro65 rfl h1.r) ?_
              refine sc (xcall ca145 rfl) (c145 hr) ?_
              rintro _ w19 ⟨gb47, rfl, gp47, m20⟩
              have z21 := m20.size
              have hd := hd.keep (fun k hk => by have hk := hU k hk; omega) m20 (fun _ _ h => h)
              have ht := ht.keep text_st (fun k hk => by have hk := hU k hk; omega) m20 (fun _ _ h => h)
              have hp := hp.keep pair_st (fun k hk => by have hk := hU k hk; omega) m20 (fun _ _ h => h)
              have hf := hf.step0 m20
              have h1 := h1.keep m20 (fun h => h)
              have hL4 := hL4.step0 m20
              rcases Bool.eq_false_or_eq_true gb47 with rfl | rfl
              · skip
                refine sv (xmove rfl) ?_
                refine gyes rfl rfl rfl ?_
                refine sv (xldS (lens := [1, 1, 1, 1, 1, 1, 1, 1, 1, 1, 1, 1, 1, 1, 1, 1]) ro65 rfl h1.r) ?_
                refine gyes rfl rfl rfl ?_
                refine sc (xcall ca84 rfl) (c84 (fun k hk => by have hk := hU k hk; omega) hd ht hp hrf) ?_
                rintro _ w22 ⟨p50, q50, g50, rfl, r50, m23, a50, l50⟩
                have z24 := m23.size
                have hd := hd.keep (fun k hk => by have hk := hU k hk; omega) m23 (fun _ _ h => h)
                have ht := ht.keep text_st (fun k hk => by have hk := hU k hk; omega) m23 (fun _ _ h => h)
                have hp := hp.keep pair_st (fun k hk => by have hk := hU k hk; omega) m23 (fun _ _ h => h)
                have hf := hf.step0 m23
                have h1 := h1.keep m23 (fun h => h)
                have hL4 := hL4.step0 m23
                refine gyes rfl rfl rfl ?_
                refine sv (xlen sl37 rfl) ?_
                refine gyes rfl rfl rfl ?_
                refine svP (xlss rfl rfl) (fun hc52 => ?_) (fun hc52 => ?_)
                · skip
                  refine sv (xpickT rfl rfl) ?_
                  refine sv (xassign rfl) ?_
                  refine send ?_
                  refine forget_wp [(2, _)] ⟨rfl, trivial⟩ fun _ => ?_
                  refine wp_ret ?_
                  refine rp1 rfl rfl ?_
                  refine ⟨_, rfl, (fun _ => ⟨fun h7 => ⟨fun h0 => ?_, upto_all (hT h7) (by omega)⟩, fun h11 => by first | exact gp42 rfl | omega, gp47 rfl⟩), hf⟩
                  have h00 : r.texts.length = 0 := by rw [h0]; rfl
                  omega
                · skip
                  refine sv (xpickT rfl rfl) ?_
                  refine sv (xassign rfl) ?_
                  refine send ?_
                  refine forget_wp [(2, _)] ⟨rfl, trivial⟩ fun _ => ?_
                  refine wp_ret ?_
                  refine rp1 rfl rfl ?_
                  exact ⟨_, rfl, (fun h => by cases h), hf⟩
              · skip
                refine sv (xmove rfl) ?_
                refine gno rfl rfl rfl ?_
                refine gno rfl rfl rfl ?_
                refine gno rfl rfl rfl ?_
                refine gno rfl rfl rfl ?_
                refine sv (xpickF rfl rfl) ?_
                refine sv (xassign rfl) ?_
                refine send ?_
                refine forget_wp [(2, _)] ⟨rfl, trivial⟩ fun _ => ?_
                refine wp_ret ?_
                refine rp1 rfl rfl ?_
                exact ⟨_, rfl, (fun h => by cases h), hf⟩
            · skip
              refine gyes rfl rfl rfl ?_
              refine sv (xnot rfl) ?_
              refine gyes rfl rfl rfl ?_
              refine sv (xpickT rfl rfl) ?_
              refine sv (xpickF rfl rfl) ?_
              refine send ?_
              refine forget_wp [(1, _), (45, _)] ⟨rfl, rfl, trivial⟩ fun _ => ?_
              refine cyes rfl ?_
              refine sreg ?_
              refine sv (xassign rfl) ?_
              refine send ?_
              refine forget_wp [(2, _)] ⟨rfl, trivial⟩ fun _ => ?_
              refine wp_ret ?_
              refine rThen ?_
              refine rp1 rfl rfl ?_
              exact ⟨_, rfl, (fun h => by cases h), hf⟩
          · skip
            refine gyes rfl rfl rfl ?_
            refine sv (xpickF rfl rfl) ?_
            refine gyes rfl rfl rfl ?_
            refine sv (xmove rfl) ?_
            refine gno rfl rfl rfl ?_
            refine gno rfl rfl rfl ?_
            refine gno rfl rfl rfl ?_
            refine gno rfl rfl rfl ?_
            refine gyes rfl rfl rfl ?_
            refine sv (xpickF rfl rfl) ?_
            refine sv (xpickF rfl rfl) ?_
            refine send ?_
            refine forget_wp [(1, _), (45, _)] ⟨rfl, rfl, trivial⟩ fun _ => ?_
            refine cno rfl ?_
            refine wp_skip ?_
            refine nThen ?_
            refine forget_wp [(1, _)] ⟨rfl, trivial⟩ fun _ => ?_
            refine sreg ?_
            refine sv (xldS (lens := [1, 1, 1, 1, 1, 1, 1, 1, 1, 1, 1, 1, 1, 1, 1, 1]) ro65 rfl h1.r) ?_
            refine sc (xcall ca145 rfl) (c145 hr) ?_
            rintro _ w25 ⟨gb47, rfl, gp47, m26⟩
            have z27 := m26.size
            have hd := hd.keep (fun k hk => by have hk := hU k hk; omega) m26 (fun _ _ h => h)
            have ht := ht.keep text_st (fun k hk => by have hk := hU k hk; omega) m26 (fun _ _ h => h)
            have hp := hp.keep pair_st (fun k hk => by have hk := hU k hk; omega) m26 (fun _ _ h => h)
            have hf := hf.step0 m26
            have h1 := h1.keep m26 (fun h => h)
            have hL4 := hL4.step0 m26
            rcases Bool.eq_false_or_eq_true gb47 with rfl | rfl
            · skip
              refine sv (xmove rfl) ?_
              refine gyes rfl rfl rfl ?_
              refine sv (xldS (lens := [1, 1, 1, 1, 1, 1, 1, 1, 1, 1, 1, 1, 1, 1, 1, 1]) ro65 rfl h1.r) ?_
              refine gyes rfl rfl rfl ?_
              refine sc (xcall ca84 rfl) (c84 (fun k hk => by have hk := hU k hk; omega) hd ht hp hrf) ?_
              rintro _ w28 ⟨p50, q50, g50, rfl, r50, m29, a50, l50⟩
              have z30 := m29.size
              have hd := hd.keep (fun k hk => by have hk := hU k hk; omega) m29 (fun _ _ h => h)
              have ht := ht.keep text_st (fun k hk => by have hk := hU k hk; omega) m29 (fun _ _ h => h)
              have hp := hp.keep pair_st (fun k hk => by have hk := hU k hk; omega) m29 (fun _ _ h => h)
              have hf := hf.step0 m29
              have h1 := h1.keep m29 (fun h => h)
              have hL4 := hL4.step0 m29
              refine gyes rfl rfl rfl ?_
              refine sv (xlen sl37 rfl) ?_
              refine gyes rfl rfl rfl ?_
              refine svP (xlss rfl rfl) (fun hc52 => ?_) (fun hc52 => ?_)
              · skip
                refine sv (xpickT rfl rfl) ?_
                refine sv (xassign rfl) ?_
                refine send ?_
                refine forget_wp [(2, _)] ⟨rfl, trivial⟩ fun _ => ?_
                refine wp_ret ?_
                refine rp1 rfl rfl ?_
                refine ⟨_, rfl, (fun _ => ⟨fun h7 => ⟨fun h0 => ?_, upto_all (hT h7) (by omega)⟩, fun h11 => by first | exact gp42 rfl | omega, gp47 rfl⟩), hf⟩
                have h00 : r.texts.length = 0 := by rw [h0]; rfl
                omega
              · skip
                refine sv (xpickT rfl rfl) ?_
                refine sv (xassign rfl) ?_
                refine send ?_
                refine forget_wp [(2, _)] ⟨rfl, trivial⟩ fun _ => ?_
                refine wp_ret ?_
                refine rp1 rfl rfl ?_
                exact ⟨_, rfl, (fun h => by cases h), hf⟩
            · skip
              refine sv (xmove rfl) ?_
              refine gno rfl rfl rfl ?_
              refine gno rfl rfl rfl ?_
              refine gno rfl rfl rfl ?_
              refine gno rfl rfl rfl ?_
              refine sv (xpickF rfl rfl) ?_
              refine sv (xassign rfl) ?_
              refine send ?_
              refine forget_wp [(2, _)] ⟨rfl, trivial⟩ fun _ => ?_
              refine wp_ret ?_
              refine rp1 rfl rfl ?_
              exact ⟨_, rfl, (fun h => by cases h), hf⟩
    · skip
      refine sv (xmove rfl) ?_
      refine gno rfl rfl rfl ?_
      refine gno rfl rfl rfl ?_
      refine gno rfl rfl rfl ?_
      refine gno rfl rfl rfl ?_
      refine sv (xpickF rfl rfl) ?_
      refine sv (xmove rfl) ?_
      refine gyes rfl rfl rfl ?_
      refine sv (xfld fl65_5 rfl) ?_
      refine gyes rfl rfl rfl ?_
      refine sv (xld on3 rfl (h1.r.c 5 rfl rfl)) ?_
      refine gyes rfl rfl rfl ?_
      refine svP (xeql rfl rfl) (fun hc33 => ?_) (fun hc33 => ?_)
      · skip
        refine gyes rfl rfl rfl ?_
        refine sv (xmove rfl) ?_
        refine gno rfl rfl rfl ?_
        refine gno rfl rfl rfl ?_
        refine gno rfl rfl rfl ?_
        refine gyes rfl rfl rfl ?_
        refine sv (xpickT rfl rfl) ?_
        refine gyes rfl rfl rfl ?_
        refine sv (xmove rfl) ?_
        refine gyes rfl rfl rfl ?_
        refine sv (xfld fl65_15 rfl) ?_
        refine gyes rfl rfl rfl ?_
        refine sv (xld on63 rfl (h1.r.c 15 rfl rfl)) ?_
        refine gyes rfl rfl rfl ?_
        refine sc (xcall ca144 rfl) (c144 (fun k hk => by have hk := hU k hk; omega) hp (by omega)) ?_
        rintro _ w31 ⟨gb42, rfl, gp42, m32⟩
        have z33 := m32.size
        have hd := hd.keep (fun k hk => by have hk := hU k hk; omega) m32 (fun _ _ h => h)
        have ht := ht.keep text_st (fun k hk => by have hk := hU k hk; omega) m32 (fun _ _ h => h)
        have hp := hp.keep pair_st (fun k hk => by have hk := hU k hk; omega) m32 (fun _ _ h => h)
        have hf := hf.step0 m32
        have h1 := h1.keep m32 (fun h => h)
        have hL4 := hL4.step0 m32
        rcases Bool.eq_false_or_eq_true gb42 with rfl | rfl
        · skip
          refine gyes rfl rfl rfl ?_
          refine sv (xnot rfl) ?_
          refine gyes rfl rfl rfl ?_
          refine sv (xpickT rfl rfl) ?_
          refine sv (xpickF rfl rfl) ?_
          refine send ?_
          refine forget_wp [(1, _), (45, _)] ⟨rfl, rfl, trivial⟩ fun _ => ?_
          refine cno rfl ?_
          refine wp_skip ?_
          refine nThen ?_
          refine forget_wp [(1, _)] ⟨rfl, trivial⟩ fun _ => ?_
          refine sreg ?_
          refine sv (xldS (lens := [1, 1, 1, 1, 1, 1, 1, 1, 1, 1, 1, 1, 1, 1, 1, 1]) ro65 rfl h1.r) ?_
          refine sc (xcall ca145 rfl) (c145 hr) ?_
          rintro _ w34 ⟨gb47, rfl, gp47, m35⟩
          have z36 := m35.size
          have hd := hd.keep (fun k hk => by have hk := hU k hk; omega) m35 (fun _ _ h => h)
          have ht := ht.keep text_st (fun k hk => by have hk := hU k hk; omega) m35 (fun _ _ h => h)
          have hp := hp.keep pair_st (fun k hk => by have hk := hU k hk; omega) m35 (fun _ _ h => h)
          have hf := hf.step0 m35
          have h1 := h1.keep m35 (fun h => h)
          have hL4 := hL4.step0 m35
          rcases Bool.eq_false_or_eq_true gb47 with rfl | rfl
          · skip
            refine sv (xmove rfl) ?_
            refine gyes rfl rfl rfl ?_
            refine sv (xldS (lens := [1, 1, 1, 1, 1, 1, 1, 1, 1, 1, 1, 1, 1, 1, 1, 1]) ro65 rfl h1.r) ?_
            refine gyes rfl rfl rfl ?_
            refine sc (xcall ca84 rfl) (c84 (fun k hk => by have hk := hU k hk; omega) hd ht hp hrf) ?_
            rintro _ w37 ⟨p50, q50, g50, rfl, r50, m38, a50, l50⟩
            have z39 := m38.size
            have hd := hd.keep (fun k hk => by have hk := hU k hk; omega) m38 (fun _ _ h => h)
            have ht := ht.keep text_st (fun k hk => by have hk := hU k hk; omega) m38 (fun _ _ h => h)
            have hp := hp.keep pair_st (fun k hk => by have hk := hU k hk; omega) m38 (fun _ _ h => h)
            have hf := hf.step0 m38
            have h1 := h1.keep m38 (fun h => h)
            have hL4 := hL4.step0 m38
            refine gyes rfl rfl rfl ?_
            refine sv (xlen sl37 rfl) ?_
            refine gyes rfl rfl rfl ?_
            refine svP (xlss rfl rfl) (fun hc52 => ?_) (fun hc52 => ?_)
            · skip
              refine sv (xpickT rfl rfl) ?_
              refine sv (xassign rfl) ?_
              refine send ?_
              refine forget_wp [(2, _)] ⟨rfl, trivial⟩ fun _ => ?_
              refine wp_ret ?_
              refine rp1 rfl rfl ?_
              refine ⟨_, rfl, (fun _ => ⟨fun h7 => ⟨fun h0 => ?_, upto_all (hT h7) (by omega)⟩, fun h11 => by first | exact gp42 rfl | omega, gp47 rfl⟩), hf⟩
              have h00 : r.texts.length = 0 := by rw [h0]; rfl
              omega
            · skip
              refine sv (xpickT rfl rfl) ?_
              refine sv (xassign rfl) ?_
              refine send ?_
              refine forget_wp [(2, _)] ⟨rfl, trivial⟩ fun _ => ?_
              refine wp_ret ?_
              refine rp1 rfl rfl ?_
              exact ⟨_, rfl, (fun h => by cases h), hf⟩
          · skip
            refine sv (xmove rfl) ?_
            refine gno rfl rfl rfl ?_
            refine gno rfl rfl rfl ?_
            refine gno rfl rfl rfl ?_
            refine gno rfl rfl rfl ?_
            refine sv (xpickF rfl rfl) ?_
            refine sv (xassign rfl) ?_
            refine send ?_
            refine forget_wp [(2, _)] ⟨rfl, trivial⟩ fun _ => ?_
            refine wp_ret ?_
            refine rp1 rfl rfl ?_
            exact ⟨_, rfl, (fun h => by cases h), hf⟩
        · skip
          refine gyes rfl rfl rfl ?_
          refine sv (xnot rfl) ?_
          refine gyes rfl rfl rfl ?_
          refine sv (xpickT rfl rfl) ?_
          refine sv (xpickF rfl rfl) ?_
          refine send ?_
          refine forget_wp [(1, _), (45, _)] ⟨rfl, rfl, trivial⟩ fun _ => ?_
          refine cyes rfl ?_
          refine sreg ?_
          refine sv (xassign rfl) ?_
          refine send ?_
          refine forget_wp [(2, _)] ⟨rfl, trivial⟩ fun _ => ?_
          refine wp_ret ?_
          refine rThen ?_
          refine rp1 rfl rfl ?_
          exact ⟨_, rfl, (fun h => by cases h), hf⟩
      · skip
        refine gyes rfl rfl rfl ?_
        refine sv (xmove rfl) ?_
        refine gyes rfl rfl rfl ?_
        refine sv (xfld fl65_5 rfl) ?_
        refine gyes rfl rfl rfl ?_
        refine sv (xld on3 rfl (h1.r.c 5 rfl rfl)) ?_
        refine gyes rfl rfl rfl ?_
        refine svP (xeql rfl rfl) (fun hc37 => ?_) (fun hc37 => ?_)
        · skip
          refine gyes rfl rfl rfl ?_
          refine sv (xpickF rfl rfl) ?_
          refine gyes rfl rfl rfl ?_
          refine sv (xmove rfl) ?_
          refine gyes rfl rfl rfl ?_
          refine sv (xfld fl65_15 rfl) ?_
          refine gyes rfl rfl rfl ?_
          refine sv (xld on63 rfl (h1.r.c 15 rfl rfl)) ?_
          refine gyes rfl rfl rfl ?_
          refine sc (xcall ca144 rfl) (c144 (fun k hk => by have hk := hU k hk; omega) hp (by omega)) ?_
          rintro _ w40 ⟨gb42, rfl, gp42, m41⟩
          have z42 := m41.size
          have hd := hd.keep (fun k hk => by have hk := hU k hk; omega) m41 (fun _ _ h => h)
          have ht := ht.keep text_st (fun k hk => by have hk := hU k hk; omega) m41 (fun _ _ h => h)
          have hp := hp.keep pair_st (fun k hk => by have hk := hU k hk; omega) m41 (fun _ _ h => h)
          have hf := hf.step0 m41
          have h1 := h1.keep m41 (fun h => h)
          have hL4 := hL4.step0 m41
          rcases Bool.eq_false_or_eq_true gb42 with rfl | rfl
          · skip
            refine gyes rfl rfl rfl ?_
            refine sv (xnot rfl) ?_
            refine gyes rfl rfl rfl ?_
            refine sv (xpickT rfl rfl) ?_
            refine sv (xpickF rfl rfl) ?_
            refine send ?_
            refine forget_wp [(1, _), (45, _)] ⟨rfl, rfl, trivial⟩ fun _ => ?_
            refine cno rfl ?_
            refine wp_skip ?_
            refine nThen ?_
            refine forget_wp [(1, _)] ⟨rfl, trivial⟩ fun _ => ?_
            refine sreg ?_
            refine sv (xldS (lens := [1, 1, 1, 1, 1, 1, 1, 1, 1, 1, 1, 1, 1, 1, 1, 1]) ro65 rfl h1.r) ?_
            refine sc (xcall ca145 rfl) (c145 hr) ?_
            rintro _ w43 ⟨gb47, rfl, gp47, m44⟩
            have z45 := m44.size
            have hd := hd.keep (fun k hk => by have hk := hU k hk; omega) m44 (fun _ _ h => h)
            have ht := ht.keep text_st (fun k hk => by have hk := hU k hk; omega) m44 (fun _ _ h => h)
            have hp := hp.keep pair_st (fun k hk => by have hk := hU k hk; omega) m44 (fun _ _ h => h)
            have hf := hf.step0 m44
            have h1 := h1.keep m44 (fun h => h)
            have hL4 := hL4.step0 m44
            rcases Bool.eq_false_or_eq_true gb47 with rfl | rfl
            · skip
              refine sv (xmove rfl) ?_
              refine gyes rfl rfl rfl ?_
              refine sv (xldS (lens := [1, 1, 1, 1, 1, 1, 1, 1, 1, 1, 1, 1, 1, 1, 1, 1]) ro65 rfl h1.r) ?_
              refine gyes rfl rfl rfl ?_
              refine sc (xcall ca84 rfl) (c84 (fun k hk => by have hk := hU k hk; omega) hd ht hp hrf) ?_
              rintro _ w46 ⟨p50, q50, g50, rfl, r50, m47, a50, l50⟩
              have z48 := m47.size
              have hd := hd.keep (fun k hk => by have hk := hU k hk; omega) m47 (fun _ _ h => h)
              have ht := ht.keep text_st (fun k hk => by have hk := hU k hk; omega) m47 (fun _ _ h => h)
              have hp := hp.keep pair_st (fun k hk => by have hk := hU k hk; omega) m47 (fun _ _ h => h)
              have hf := hf.step0 m47
              have h1 := h1.keep m47 (fun h => h)
              have hL4 := hL4.step0 m47
              refine gyes rfl rfl rfl ?_
              refine sv (xlen sl37 rfl) ?_
              refine gyes rfl rfl rfl ?_
              refine svP (xlss rfl rfl) (fun hc52 => ?_) (fun hc52 => ?_)
              · skip
                refine sv (xpickT rfl rfl) ?_
                refine sv (xassign rfl) ?_
                refine send ?_
                refine forget_wp [(2, _)] ⟨rfl, trivial⟩ fun _ => ?_
                refine wp_ret ?_
                refine rp1 rfl rfl ?_
                refine ⟨_, rfl, (fun _ => ⟨fun h7 => ⟨fun h0 => ?_, upto_all (hT h7) (by omega)⟩, fun h11 => by first | exact gp42 rfl | omega, gp47 rfl⟩), hf⟩
                have h00 : r.texts.length = 0 := by rw [h0]; rfl
                omega
              · skip
                refine sv (xpickT rfl rfl) ?_
                refine sv (xassign rfl) ?_
                refine send ?_
                refine forget_wp [(2, _)] ⟨rfl, trivial⟩ fun _ => ?_
                refine wp_ret ?_
                refine rp1 rfl rfl ?_
                exact ⟨_, rfl, (fun h => by cases h), hf⟩
            · skip
              refine sv (xmove rfl) ?_
              refine gno rfl rfl rfl ?_
              refine gno rfl rfl rfl ?_
              refine gno rfl rfl rfl ?_
              refine gno rfl rfl rfl ?_
              refine sv (xpickF rfl rfl) ?_
              refine sv (xassign rfl) ?_
              refine send ?_
              refine forget_wp [(2, _)] ⟨rfl, trivial⟩ fun _ => ?_
              refine wp_ret ?_
              refine rp1 rfl rfl ?_
              exact ⟨_, rfl, (fun h => by cases h), hf⟩
          · skip
            refine gyes rfl rfl rfl ?_
            refine sv (xnot rfl) ?_
            refine gyes rfl rfl rfl ?_
            refine sv (xpickT rfl rfl) ?_
            refine sv (xpickF rfl rfl) ?_
            refine send ?_
            refine forget_wp [(1, _), (45, _)] ⟨rfl, rfl, trivial⟩ fun _ => ?_
            refine cyes rfl ?_
            refine sreg ?_
            refine sv (xassign rfl) ?_
            refine send ?_
            refine forget_wp [(2, _)] ⟨rfl, trivial⟩ fun _ => ?_
            refine wp_ret ?_
            refine rThen ?_
            refine rp1 rfl rfl ?_
            exact ⟨_, rfl, (fun h => by cases h), hf⟩
        · skip
          refine gyes rfl rfl rfl ?_
          refine sv (xpickF rfl rfl) ?_
          refine gyes rfl rfl rfl ?_
          refine sv (xmove rfl) ?_
          refine gno rfl rfl rfl ?_
          refine gno rfl rfl rfl ?_
          refine gno rfl rfl rfl ?_
          refine gno rfl rfl rfl ?_
          refine gyes rfl rfl rfl ?_
          refine sv (xpickF rfl rfl) ?_
          refine sv (xpickF rfl rfl) ?_
          refine send ?_
          refine forget_wp [(1, _), (45, _)] ⟨rfl, rfl, trivial⟩ fun _ => ?_
          refine cno rfl ?_
          refine wp_skip ?_
          refine nThen ?_
          refine forget_wp [(1, _)] ⟨rfl, trivial⟩ fun _ => ?_
          refine sreg ?_
          refine sv (xldS (lens := [1, 1, 1, 1, 1, 1, 1, 1, 1, 1, 1, 1, 1, 1, 1, 1]) ro65 rfl h1.r) ?_
          refine sc (xcall ca145 rfl) (c145 hr) ?_
          rintro _ w49 ⟨gb47, rfl, gp47, m50⟩
          have z51 := m50.size
          have hd := hd.keep (fun k hk => by have hk := hU k hk; omega) m50 (fun _ _ h => h)
          have ht := ht.keep text_st (fun k hk => by have hk := hU k hk; omega) m50 (fun _ _ h => h)
          have hp := hp.keep pair_st (fun k hk => by have hk := hU k hk; omega) m50 (fun _ _ h => h)
          have hf := hf.step0 m50
          have h1 := h1.keep m50 (fun h => h)
          have hL4 := hL4.step0 m50
          rcases Bool.eq_false_or_eq_true gb47 with rfl | rfl
          · skip
            refine sv (xmove rfl) ?_
            refine gyes rfl rfl rfl ?_
            refine sv (xldS (lens := [1, 1, 1, 1, 1, 1, 1, 1, 1, 1, 1, 1, 1, 1, 1, 1]) ro65 rfl h1.r) ?_
            refine gyes rfl rfl rfl ?_
            refine sc (xcall ca84 rfl) (c84 (fun k hk => by have hk := hU k hk; omega) hd ht hp hrf) ?_
            rintro _ w52 ⟨p50, q50, g50, rfl, r50, m53, a50, l50⟩
            have z54 := m53.size
            have hd := hd.keep (fun k hk => by have hk := hU k hk; omega) m53 (fun _ _ h => h)
            have ht := ht.keep text_st (fun k hk => by have hk := hU k hk; omega) m53 (fun _ _ h => h)
            have hp := hp.keep pair_st (fun k hk => by have hk := hU k hk; omega) m53 (fun _ _ h => h)
            have hf := hf.step0 m53
            have h1 := h1.keep m53 (fun h => h)
            have hL4 := hL4.step0 m53
            refine gyes rfl rfl rfl ?_
            refine sv (xlen sl37 rfl) ?_
            refine gyes rfl rfl rfl ?_
            refine svP (xlss rfl rfl) (fun hc52 => ?_) (fun hc52 => ?_)
            · skip
              refine sv (xpickT rfl rfl) ?_
              refine sv (xassign rfl) ?_
              refine send ?_
              refine forget_wp [(2, _)] ⟨rfl, trivial⟩ fun _ => ?_
              refine wp_ret ?_
              refine rp1 rfl rfl ?_
              refine ⟨_, rfl, (fun _ => ⟨fun h7 => ⟨fun h0 => ?_, upto_all (hT h7) (by omega)⟩, fun h11 => by first | exact gp42 rfl | omega, gp47 rfl⟩), hf⟩
              have h00 : r.texts.length = 0 := by rw [h0]; rfl
              omega
            · skip
              refine sv (xpickT rfl rfl) ?_
              refine sv (xassign rfl) ?_
              refine send ?_
              refine forget_wp [(2, _)] ⟨rfl, trivial⟩ fun _ => ?_
              refine wp_ret ?_
              refine rp1 rfl rfl ?_
              exact ⟨_, rfl, (fun h => by cases h), hf⟩
          · skip
            refine sv (xmove rfl) ?_
            refine gno rfl rfl rfl ?_
            refine gno rfl rfl rfl ?_
            refine gno rfl rfl rfl ?_
            refine gno rfl rfl rfl ?_
            refine sv (xpickF rfl rfl) ?_
            refine sv (xassign rfl) ?_
            refine send ?_
            refine forget_wp [(2, _)] ⟨rfl, trivial⟩ fun _ => ?_
            refine wp_ret ?_
            refine rp1 rfl rfl ?_
            exact ⟨_, rfl, (fun h => by cases h), hf⟩
end Go.Proofs.YtifnodoffgfpbaaGreatDoor
