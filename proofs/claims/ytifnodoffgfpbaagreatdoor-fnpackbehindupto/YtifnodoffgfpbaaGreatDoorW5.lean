/- Walks: how the reference writes messages. Conditions: none. -/
import Derived.Test.YtifnodoffgfpbaaGreatDoorW4
namespace Go.Proofs.YtifnodoffgfpbaaGreatDoor
open Go

theorem ints_get {cs : List Nat} {k c : Nat} (h : cs[k]? = some c) : (cs.map fun (n : Nat) => Value.int .i64 (n : Int))[k]? = some (.int .i64 (c : Int)) := by simp [h]
theorem asks_snoc {ps : List AskD} {k : Nat} {p : AskD} (h : ps[k]? = some p) : asksL (ps.take (k + 1)) = asksL (ps.take k) ++ askL p := by
  rw [take_snoc h]; simp [asksL]
theorem recs_snoc {ps : List RecD} {k : Nat} {p : RecD} (h : ps[k]? = some p) : recsL (ps.take (k + 1)) = recsL (ps.take k) ++ recL p := by
  rw [take_snoc h]; simp [recsL]
theorem asks_le {ps : List AskD} {k : Nat} {p : AskD} (h : ps[k]? = some p) : (asksL (ps.take k)).length + (askL p).length ≤ (asksL ps).length := by
  have : (ps.map askL)[k]? = some (askL p) := by simp [h]
  have := flat_take_le this
  simpa [asksL, List.map_take] using this
theorem recs_le {ps : List RecD} {k : Nat} {p : RecD} (h : ps[k]? = some p) : (recsL (ps.take k)).length + (recL p).length ≤ (recsL ps).length := by
  have : (ps.map recL)[k]? = some (recL p) := by simp [h]
  have := flat_take_le this
  simpa [recsL, List.map_take] using this
theorem headL_length (h : HeadD) (cs : List Nat) : (headL h cs).length = 4 + 2 * cs.length := by
  simp only [headL, List.length_append, be16_length, counts_length]; omega

set_option maxRecDepth 100000 in
theorem c44 {w : World} {h : HeadD} {counts : List Nat} {b o m c : Nat} (hr : w.rangeAt b o (counts.map fun (n : Nat) => .int .i64 (n : Int))) (hb : b < w.heap.size) (hm : counts.length = m) (hm2 : m < 1000) :
    Ret PP 44 [ag (headSegs h), .slice (some ⟨b, o, none⟩) m c] w (fun u w' => New w (headL h counts).length (headL h counts) u w') := by
  have hf : Fr (fun _ => False) w w := Fr.refl _ _
  refine ret_of Tryz.func44 rfl rfl rfl [(0, _), (1, _)] rfl ?_
  refine sreg ?_
  refine svK (xboxS (lens := [1, 1, 1, 1, 1, 1, 1, 1, 1, 1]) rfl rfl) ?_
  rintro _ w2 ⟨b2, rfl, m3, h2, e1, s1⟩
  have hr := rng_fr hr m3 (by omega) (fun h => h)
  have hf := hf.step0 m3
  refine sv (xassign rfl) ?_
  refine send ?_
  refine forget_wp [(1, _), (2, _)] ⟨rfl, rfl, trivial⟩ fun _ => ?_
  refine sdraw (Fr (fun _ => False) w2.drew) [(0, .rd), (1, .rd), (3, .rd), (4, .rd), (5, .rd), (7, .rd), (8, .rd), (11, .rd), (12, .rd), (15, .rd), (16, .rd), (2, .ld), (6, .rd), (9, .ld), (10, .rd), (13, .ld), (14, .rd), (17, .ld), (18, .rd), (19, .rd)] mixed (by kernel_rfl) (fun _ _ _ _ _ h => h) ?_
  have z4 : w2.drew.heap.size = w2.heap.size := rfl
  have hr := rng_fr hr (Fr.drew (Fr.refl (fun _ => False) w2)) (by omega) (fun h => h)
  have hf := hf.drew
  have h2 := h2.drew
  have hS5 : Fr (fun _ => False) w2.drew w2.drew := Fr.refl _ _
  refine hv rfl (fun _ _ => xfld fl30_1 rfl) hS5 ?_
  refine hv rfl (fun w' hS => xld on4 rfl ((h2.keep hS (fun h => h)).r.c 1 rfl rfl)) hS5 ?_
  refine hv rfl (fun _ _ => xfld fl30_2 rfl) hS5 ?_
  refine hv rfl (fun w' hS => xld on22 rfl ((h2.keep hS (fun h => h)).r.c 2 rfl rfl)) hS5 ?_
  refine hv rfl (fun _ _ => xshl16 (b := 11) (by decide) rfl rfl) hS5 ?_
  refine hv rfl (fun _ _ => xfld fl30_3 rfl) hS5 ?_
  refine hv rfl (fun w' hS => xld on4 rfl ((h2.keep hS (fun h => h)).r.c 3 rfl rfl)) hS5 ?_
  refine hv rfl (fun _ _ => xfld fl30_4 rfl) hS5 ?_
  refine hv rfl (fun w' hS => xld on4 rfl ((h2.keep hS (fun h => h)).r.c 4 rfl rfl)) hS5 ?_
  refine hv rfl (fun _ _ => xfld fl30_5 rfl) hS5 ?_
  refine hv rfl (fun w' hS => xld on4 rfl ((h2.keep hS (fun h => h)).r.c 5 rfl rfl)) hS5 ?_
  refine hc rfl (xcall ca97 rfl) (c97 _ 32768) ?_
  rintro _ w6 ⟨rfl, m7⟩
  have z8 := m7.size
  have hr := rng_fr hr m7 (by omega) (fun h => h)
  have hf := hf.step0 m7
  have h2 := h2.keep m7 (fun h => h)
  have hS9 := hS5.step0 m7
  refine ⟨hS9, ?_⟩
  refine hv rfl (fun _ _ => xor16 rfl rfl) hS9 ?_
  refine hc rfl (xcall ca97 rfl) (c97 _ 1024) ?_
  rintro _ w10 ⟨rfl, m11⟩
  have z12 := m11.size
  have hr := rng_fr hr m11 (by omega) (fun h => h)
  have hf := hf.step0 m11
  have h2 := h2.keep m11 (fun h => h)
  have hS13 := hS9.step0 m11
  refine ⟨hS13, ?_⟩
  refine hv rfl (fun _ _ => xor16 rfl rfl) hS13 ?_
  refine hc rfl (xcall ca97 rfl) (c97 _ 512) ?_
  rintro _ w14 ⟨rfl, m15⟩
  have z16 := m15.size
  have hr := rng_fr hr m15 (by omega) (fun h => h)
  have hf := hf.step0 m15
  have h2 := h2.keep m15 (fun h => h)
  have hS17 := hS13.step0 m15
  refine ⟨hS17, ?_⟩
  refine hv rfl (fun _ _ => xor16 rfl rfl) hS17 ?_
  refine hc rfl (xcall ca97 rfl) (c97 _ 256) ?_
  rintro _ w18 ⟨rfl, m19⟩
  have z20 := m19.size
  have hr := rng_fr hr m19 (by omega) (fun h => h)
  have hf := hf.step0 m19
  have h2 := h2.keep m19 (fun h => h)
  have hS21 := hS17.step0 m19
  refine ⟨hS21, ?_⟩
  refine hv rfl (fun _ _ => xor16 rfl rfl) hS21 ?_
  refine hv rfl (fun _ _ => xassign rfl) hS21 ?_
  refine hend ?_
  refine forget_wp [(1, _), (2, _), (5, _)] ⟨rfl, rfl, rfl, trivial⟩ fun _ => ?_
  refine sdraw (Fr (fun _ => False) w18.drew) [(0, .rd), (1, .rd), (2, .rd), (4, .rd), (5, .rd), (8, .rd), (9, .rd), (12, .rd), (13, .rd), (3, .ld), (6, .ld), (7, .rd), (10, .ld), (11, .rd), (14, .rd), (15, .rd), (16, .rd)] mixed (by kernel_rfl) (fun _ _ _ _ _ h => h) ?_
  have z22 : w18.drew.heap.size = w18.heap.size := rfl
  have hr := rng_fr hr (Fr.drew (Fr.refl (fun _ => False) w18)) (by omega) (fun h => h)
  have hf := hf.drew
  have h2 := h2.drew
  have hS23 : Fr (fun _ => False) w18.drew w18.drew := Fr.refl _ _
  refine hv rfl (fun _ _ => xmove rfl) hS23 ?_
  refine hv rfl (fun _ _ => xfld fl30_6 rfl) hS23 ?_
  refine hv rfl (fun w' hS => xld on4 rfl ((h2.keep hS (fun h => h)).r.c 6 rfl rfl)) hS23 ?_
  refine hv rfl (fun _ _ => xfld fl30_7 rfl) hS23 ?_
  refine hv rfl (fun w' hS => xld on4 rfl ((h2.keep hS (fun h => h)).r.c 7 rfl rfl)) hS23 ?_
  refine hv rfl (fun _ _ => xfld fl30_8 rfl) hS23 ?_
  refine hv rfl (fun w' hS => xld on4 rfl ((h2.keep hS (fun h => h)).r.c 8 rfl rfl)) hS23 ?_
  refine hv rfl (fun _ _ => xfld fl30_9 rfl) hS23 ?_
  refine hv rfl (fun w' hS => xld on22 rfl ((h2.keep hS (fun h => h)).r.c 9 rfl rfl)) hS23 ?_
  refine hc rfl (xcall ca97 rfl) (c97 _ 128) ?_
  rintro _ w24 ⟨rfl, m25⟩
  have z26 := m25.size
  have hr := rng_fr hr m25 (by omega) (fun h => h)
  have hf := hf.step0 m25
  have h2 := h2.keep m25 (fun h => h)
  have hS27 := hS23.step0 m25
  refine ⟨hS27, ?_⟩
  refine hc rfl (xcall ca97 rfl) (c97 _ 32) ?_
  rintro _ w28 ⟨rfl, m29⟩
  have z30 := m29.size
  have hr := rng_fr hr m29 (by omega) (fun h => h)
  have hf := hf.step0 m29
  have h2 := h2.keep m29 (fun h => h)
  have hS31 := hS27.step0 m29
  refine ⟨hS31, ?_⟩
  refine hv rfl (fun _ _ => xor16 rfl rfl) hS31 ?_
  refine hc rfl (xcall ca97 rfl) (c97 _ 16) ?_
  rintro _ w32 ⟨rfl, m33⟩
  have z34 := m33.size
  have hr := rng_fr hr m33 (by omega) (fun h => h)
  have hf := hf.step0 m33
  have h2 := h2.keep m33 (fun h => h)
  have hS35 := hS31.step0 m33
  refine ⟨hS35, ?_⟩
  refine hv rfl (fun _ _ => xor16 rfl rfl) hS35 ?_
  refine hv rfl (fun _ _ => xor16 rfl rfl) hS35 ?_
  refine hv rfl (fun _ _ => xor16 rfl rfl) hS35 ?_
  refine hv rfl (fun _ _ => xassign rfl) hS35 ?_
  refine hend ?_
  refine forget_wp [(1, _), (2, _), (5, _)] ⟨rfl, rfl, rfl, trivial⟩ fun _ => ?_
  refine sreg ?_
  refine sv (xfld fl30_0 rfl) ?_
  refine sv (xld on22 rfl (h2.r.c 0 rfl rfl)) ?_
  refine sc (xcall ca53 rfl) (c53 (by first | omega | exact u16lt _)) ?_
  rintro _ w36 ⟨p46, q46, g46, rfl, r46, m37, a46, l46⟩
  have z38 := m37.size
  have hr := rng_fr hr m37 (by omega) (fun h => h)
  have hf := hf.step0 m37
  have h2 := h2.keep m37 (fun h => h)
  refine sv (xmove rfl) ?_
  refine sc (xcall ca53 rfl) (c53 (by first | omega | exact u16lt _)) ?_
  rintro _ w39 ⟨p48, q48, g48, rfl, r48, m40, a48, l48⟩
  have z41 := m40.size
  have hr := rng_fr hr m40 (by omega) (fun h => h)
  have hf := hf.step0 m40
  have h2 := h2.keep m40 (fun h => h)
  have r46 := r46.keep m40 (fun h => h)
  refine svK (xslit [_, _] sl105 in37 rfl (by decide) rfl rfl rfl rfl (by decide) rfl rfl) ?_
  rintro _ w43 ⟨b49, rfl, m44, h49, e49, s49, r49⟩
  have hr := rng_fr hr m44 (by omega) (fun h => h)
  have hf := hf.step0 m44
  have h2 := h2.keep m44 (fun h => h)
  have r46 := r46.keep m44 (fun h => h)
  have r48 := r48.keep m44 (fun h => h)
  refine sc (xcall ca21 rfl) (c21 (U := fun k => k = g46 ∨ k = g48) (Rw.rng r49) (by omega) rfl (fun k hk => by have hk : k = g46 ∨ k = g48 := hk; rcases hk with hk | hk <;> first | omega | (have := hU k hk; omega)) (All2.cons (BR.ba r46 (.inl rfl)) (All2.cons (BR.ba r48 (.inr rfl)) All2.nil)) (by simp only [List.flatten_cons, List.flatten_nil, List.length_append, be16_length, List.length_nil]; omega) (by decide)) ?_
  rintro _ w45 ⟨p50, q50, g50, rfl, r50, m46, a50, l50⟩
  have z47 := m46.size
  have hr := rng_fr hr m46 (by omega) (fun h => h)
  have hf := hf.step0 m46
  have h2 := h2.keep m46 (fun h => h)
  have r46 := r46.keep m46 (fun h => h)
  have r48 := r48.keep m46 (fun h => h)
  have r49 := r49.keep m46 (fun h => h)
  refine sv (xassign rfl) ?_
  refine send ?_
  refine forget_wp [(1, _), (6, _)] ⟨rfl, rfl, trivial⟩ fun _ => ?_
  refine wp_seq ?_
  refine sreg ?_
  refine sv (xmove rfl) ?_
  refine sv (xlen sl99 rfl) ?_
  refine sv (xmove rfl) ?_
  refine send ?_
  refine forget_wp [(6, _), (51, _), (52, _), (53, _)] ⟨rfl, rfl, rfl, rfl, trivial⟩ fun _ => ?_
  refine wp_block ?_
  refine lp [(51, _), (52, _)] (fun (x : Nat × Value × Nat) => match x with | (k, v, g) => [(6, v), (53, .int .i64 (k : Int))]) (fun (x : Nat × Value × Nat) wx => match x with | (k, v, g) => Fr (fun k => k = g50) w45 wx ∧ (k ≤ m) ∧ (BR wx v g (4 + 2 * k) (be16 h.id.toNat ++ (be16 (hbits h).toNat ++ ((counts.take k).map be16).flatten))) ∧ (w.heap.size ≤ g) ∧ (g < wx.heap.size) ∧ (g = g50 ∨ w45.heap.size ≤ g)) (fun (x : Nat × Value × Nat) => match x with | (k, v, g) => m - k) (0, _, g50) ⟨rfl, rfl, rfl, rfl, trivial⟩ ⟨Fr.refl _ _, Nat.zero_le _, br_cast r50 (by simp [hbits]) (by simp [be16_length]), (by omega), (by omega), (.inl rfl)⟩ ?_
  rintro ⟨k, v, g⟩ _ w49 ⟨hL48, hk, hv6, hg, hg2, hg3⟩
  refine forget_wp [(6, _), (51, _), (52, _), (53, _)] ⟨rfl, rfl, rfl, rfl, trivial⟩ fun _ => ?_
  have z50 := hL48.size
  have hr := rng_fr hr hL48 (by omega) (by show ¬ (b = g50); omega)
  have hf := hf.step hL48 (fun k hk hS => by have hS : k = g50 := hS; show False; omega)
  have h2 := h2.keep hL48 (by show ¬ (b2 = g50); omega)
  have r46 := r46.keep hL48 (by show ¬ (g46 = g50); omega)
  have r48 := r48.keep hL48 (by show ¬ (g48 = g50); omega)
  have r49 := r49.keep hL48 (by show ¬ (b49 = g50); omega)
  obtain ⟨a3, c3, rfl, -⟩ := hv6.form
  refine sreg ?_
  refine svP (xlss rfl rfl) (fun hc54 => ?_) (fun hc54 => ?_)
  · skip
    refine send ?_
    refine forget_wp [(6, _), (51, _), (52, _), (53, _), (54, _)] ⟨rfl, rfl, rfl, rfl, rfl, trivial⟩ fun _ => ?_
    refine wp_seq ?_
    refine cyes rfl ?_
    refine wp_skip ?_
    refine nThen ?_
    refine forget_wp [(6, _), (51, _), (52, _), (53, _)] ⟨rfl, rfl, rfl, rfl, trivial⟩ fun _ => ?_
    refine wp_seq ?_
    refine wp_block ?_
    refine sreg ?_
    obtain ⟨cn, hcn⟩ := some_of_lt (by omega : k < counts.length)
    refine sv (xidx1 sl99 sz3 rfl rfl rfl (by omega)) ?_
    refine sv (xld on3 rfl (hr k _ (ints_get hcn))) ?_
    refine sv (xassign rfl) ?_
    refine send ?_
    refine forget_wp [(6, _), (8, _), (51, _), (52, _), (53, _)] ⟨rfl, rfl, rfl, rfl, rfl, trivial⟩ fun _ => ?_
    refine lreg ?_
    refine sv (xmove rfl) ?_
    refine sv (xmove rfl) ?_
    refine sv (xconv hs3 ki22 rfl (wu16n (cn % 65536) (by omega))) ?_
    refine sc (xcall ca53 rfl) (c53 (by first | omega | exact u16lt _)) ?_
    rintro _ w51 ⟨p60, q60, g60, rfl, r60, m52, a60, l60⟩
    have z53 := m52.size
    have hr := rng_fr hr m52 (by omega) (fun h => h)
    have hf := hf.step0 m52
    have h2 := h2.keep m52 (fun h => h)
    have r46 := r46.keep m52 (fun h => h)
    have r48 := r48.keep m52 (fun h => h)
    have r49 := r49.keep m52 (fun h => h)
    have hv6 := hv6.keep m52 (fun h => h)
    have hL48 := hL48.step0 m52
    refine svK (xapp sl37 in5 rfl (by decide) rfl rfl hv6 (r60.src sl37) (by simp only [maxLen]; omega) (by omega)) ?_
    rintro _ w54 ⟨g61, r61, m55, a61, l61⟩
    have z56 := m55.size
    have hr := rng_fr hr m55 (by omega) (by show ¬ (b = g); omega)
    have hf := hf.step m55 (fun k hk hS => by have hS : k = g := hS; show False; omega)
    have h2 := h2.keep m55 (by show ¬ (b2 = g); omega)
    have r46 := r46.keep m55 (by show ¬ (g46 = g); omega)
    have r48 := r48.keep m55 (by show ¬ (g48 = g); omega)
    have r49 := r49.keep m55 (by show ¬ (b49 = g); omega)
    have hL48 := hL48.step m55 (fun k hk hS => by have hS : k = g := hS; show k = g50; omega)
    have r60 := r60.keep m55 (by show ¬ (g60 = g); omega)
    obtain ⟨p61, q61, rfl, -⟩ := r61.form
    refine sv (xassign rfl) ?_
    refine lend ?_
    refine nBlock ?_
    refine nThen ?_
    refine forget_wp [(6, _), (51, _), (52, _), (53, _)] ⟨rfl, rfl, rfl, rfl, trivial⟩ fun _ => ?_
    refine lreg ?_
    refine sv (xadd rfl rfl (w64 (by omega) (by omega))) ?_
    refine sv (xmove rfl) ?_
    refine lend ?_
    refine nThen ?_
    refine ⟨(k + 1, _, g61), _, env_okl ⟨rfl, rfl, rfl, rfl, trivial⟩, ⟨hL48, (by omega), (by rw [counts_snoc hcn]; exact br_cast r61 (by simp [bvs_app, two16]) (by omega)), (by omega), (by omega), (by omega)⟩, ?_⟩
    show m - (k + 1) < m - k; omega
  · skip
    refine send ?_
    refine forget_wp [(6, _), (51, _), (52, _), (53, _), (54, _)] ⟨rfl, rfl, rfl, rfl, rfl, trivial⟩ fun _ => ?_
    refine wp_seq ?_
    refine cno rfl ?_
    refine wp_exit ?_
    refine eThen ?_
    refine eThen ?_
    refine eHit ?_
    refine nThen ?_
    refine forget_wp [(6, _)] ⟨rfl, trivial⟩ fun _ => ?_
    refine sreg ?_
    refine sv (xmove rfl) ?_
    refine sv (xassign rfl) ?_
    refine send ?_
    refine forget_wp [(4, _)] ⟨rfl, trivial⟩ fun _ => ?_
    refine wp_ret ?_
    refine rp1 rfl rfl ?_
    have e : counts.take k = counts := List.take_of_length_le (by omega)
    exact new_cast hv6 (by rw [e]; rfl) hf hg hg2

theorem lists_snoc {ls : List (List RecD)} {k : Nat} {p : List RecD} (h : ls[k]? = some p) : ((ls.take (k + 1)).map recsL).flatten = ((ls.take k).map recsL).flatten ++ recsL p := by
  rw [take_snoc h]; simp

set_option maxRecDepth 100000 in
theorem c20 {w : World} {U : Nat → Prop} (hU : ∀ k, U k → k < w.heap.size) {m : MsgD} {va v1 v2 v3 : Value} (ha : LA AskEl lAsk U w va m.asks) (y1 : LA RecEl lRec U w v1 m.one) (y2 : LA RecEl lRec U w v2 m.two) (y3 : LA RecEl lRec U w v3 m.three) (hfa : ∀ a ∈ m.asks, a.name.size ≤ 1048576) (hfr : ∀ l ∈ [m.one, m.two, m.three], ∀ r ∈ l, r.fits ∧ 0 ≤ r.kind ∧ r.kind ≤ 13) (hna : m.asks.length ≤ 1048576) (hll : ∀ l ∈ [m.one, m.two, m.three], l.length ≤ 1048576) (hlen : (msgL m).length < 1000000000) :
    Ret PP 20 [ag (msgSegs m.head va v1 v2 v3)] w (fun u w' => New w (msgL m).length (msgL m) u w') := by
  have hls : All2 (LA RecEl lRec U w) [v1, v2, v3] [m.one, m.two, m.three] := All2.cons y1 (All2.cons y2 (All2.cons y3 All2.nil))
  obtain ⟨aa, ca, rfl⟩ := ha.form
  obtain ⟨a1, c1, rfl⟩ := y1.form
  obtain ⟨a2, c2, rfl⟩ := y2.form
  obtain ⟨a3, c3, rfl⟩ := y3.form
  have hlen0 := hlen
  simp only [msgL, List.length_append, headL_length, List.length_cons, List.length_nil] at hlen0
  have hf : Fr (fun _ => False) w w := Fr.refl _ _
  refine ret_of Tryz.func20 rfl rfl rfl [(0, _)] rfl ?_
  refine sreg ?_
  refine svK (xboxS (lens := [1, 1, 1, 1, 1, 1, 1, 1, 1, 1, 1, 1, 1, 1]) rfl rfl) ?_
  rintro _ w2 ⟨b1, rfl, m3, h1, e1, s1⟩
  have ha := ha.keep ask_st (fun k hk => by have hk := hU k hk; omega) m3 (fun _ _ h => h)
  have hf := hf.step0 m3
  refine sv (xassign rfl) ?_
  refine send ?_
  refine forget_wp [(1, _)] ⟨rfl, trivial⟩ fun _ => ?_
  refine sreg ?_
  refine sv (xfld fl34_0 rfl) ?_
  refine sv (xldS (lens := [1, 1, 1, 1, 1, 1, 1, 1, 1, 1]) ro30 rfl (h1.r.sub 0 10 rfl)) ?_
  refine sv (xfld fl34_1 rfl) ?_
  refine sv (xld on31 rfl (h1.r.c 10 rfl rfl)) ?_
  refine sv (xlen sl31 rfl) ?_
  refine sv (xfld fl34_2 rfl) ?_
  refine sv (xld on32 rfl (h1.r.c 11 rfl rfl)) ?_
  refine sv (xlen sl32 rfl) ?_
  refine sv (xfld fl34_3 rfl) ?_
  refine sv (xld on32 rfl (h1.r.c 12 rfl rfl)) ?_
  refine sv (xlen sl32 rfl) ?_
  refine sv (xfld fl34_4 rfl) ?_
  refine sv (xld on32 rfl (h1.r.c 13 rfl rfl)) ?_
  refine sv (xlen sl32 rfl) ?_
  refine svK (xslit ([.int .i64 (m.asks.length : Int), .int .i64 (m.one.length : Int), .int .i64 (m.two.length : Int), .int .i64 (m.three.length : Int)]) sl99 in3 rfl (by decide) rfl rfl rfl rfl (by decide) rfl rfl) ?_
  rintro _ w5 ⟨b24, rfl, m6, h24, e24, s24, r24⟩
  have ha := ha.keep ask_st (fun k hk => by have hk := hU k hk; omega) m6 (fun _ _ h => h)
  have hf := hf.step0 m6
  have h1 := h1.keep m6 (fun h => h)
  refine sc (xcall ca44 rfl) (c44 (h := m.head) (counts := [m.asks.length, m.one.length, m.two.length, m.three.length]) (Rw.rng r24) (by omega) rfl (by simp)) ?_
  rintro _ w7 ⟨p25, q25, g25, rfl, r25, m8, a25, l25⟩
  have z9 := m8.size
  have ha := ha.keep ask_st (fun k hk => by have hk := hU k hk; omega) m8 (fun _ _ h => h)
  have hf := hf.step0 m8
  have h1 := h1.keep m8 (fun h => h)
  have r24 := r24.keep m8 (fun h => h)
  refine sv (xassign rfl) ?_
  refine send ?_
  refine forget_wp [(1, _), (3, _)] ⟨rfl, rfl, trivial⟩ fun _ => ?_
  refine wp_seq ?_
  refine sreg ?_
  refine sv (xfld fl34_1 rfl) ?_
  refine sv (xld on31 rfl (h1.r.c 10 rfl rfl)) ?_
  refine sv (xlen sl31 rfl) ?_
  refine sv (xmove rfl) ?_
  refine send ?_
  refine forget_wp [(1, _), (3, _), (27, _), (28, _), (29, _)] ⟨rfl, rfl, rfl, rfl, rfl, trivial⟩ fun _ => ?_
  refine wp_block ?_
  refine lp [(1, _), (27, _), (28, _)] (fun (x : Nat × Value × Nat) => match x with | (k, v, g) => [(3, v), (29, .int .i64 (k : Int))]) (fun (x : Nat × Value × Nat) wx => match x with | (k, v, g) => Fr (fun k => k = g25) w7 wx ∧ (k ≤ m.asks.length) ∧ (BR wx v g (12 + (asksL (m.asks.take k)).length) (headL m.head [m.asks.length, m.one.length, m.two.length, m.three.length] ++ asksL (m.asks.take k))) ∧ (w.heap.size ≤ g) ∧ (g < wx.heap.size) ∧ (g = g25 ∨ w7.heap.size ≤ g)) (fun (x : Nat × Value × Nat) => match x with | (k, v, g) => m.asks.length - k) (0, _, g25) ⟨rfl, rfl, rfl, rfl, rfl, trivial⟩ ⟨Fr.refl _ _, Nat.zero_le _, br_cast r25 (by simp [asksL]) (by simp [asksL, headL_length]), (by omega), (by omega), (.inl rfl)⟩ ?_
  rintro ⟨k, v, g⟩ _ w11 ⟨hL10, hk, hv6, hg, hg2, hg3⟩
  refine forget_wp [(1, _), (3, _), (27, _), (28, _), (29, _)] ⟨rfl, rfl, rfl, rfl, rfl, trivial⟩ fun _ => ?_
  have z12 := hL10.size
  have ha := ha.keep ask_st (fun k hk => by have hk := hU k hk; omega) hL10 (fun k hk hS => by have hk := hU k hk; have hS : k = g25 := hS; omega)
  have hf := hf.step hL10 (fun k hk hS => by have hS : k = g25 := hS; show False; omega)
  have h1 := h1.keep hL10 (by show ¬ (b1 = g25); omega)
  have r24 := r24.keep hL10 (by show ¬ (b24 = g25); omega)
  obtain ⟨a4, c4, rfl, -⟩ := hv6.form
  refine sreg ?_
  refine svP (xlss rfl rfl) (fun hc30 => ?_) (fun hc30 => ?_)
  · skip
    refine send ?_
    refine forget_wp [(1, _), (3, _), (27, _), (28, _), (29, _), (30, _)] ⟨rfl, rfl, rfl, rfl, rfl, rfl, trivial⟩ fun _ => ?_
    refine wp_seq ?_
    refine cyes rfl ?_
    refine wp_skip ?_
    refine nThen ?_
    refine forget_wp [(1, _), (3, _), (27, _), (28, _), (29, _)] ⟨rfl, rfl, rfl, rfl, rfl, trivial⟩ fun _ => ?_
    refine wp_seq ?_
    refine wp_block ?_
    obtain ⟨a, hak⟩ := some_of_lt (by omega : k < m.asks.length)
    have hal := asks_le hak
    refine sreg ?_
    obtain ⟨bE31, oE31, sgE31, rfl, uE31, hsE31, heE31⟩ := LA.get ha hak
    obtain rfl := heE31
    have zE31 := hU _ uE31
    refine sv (xidx sl31 sz59 rfl rfl rfl (by omega)) ?_
    refine sv (xldS (lens := [1, 1, 1]) ro59 rfl hsE31) ?_
    refine svK (xallS (lens := [1, 1, 1]) in59 rfl) ?_
    rintro _ w14 ⟨b5, rfl, m15, h5, e13, s13⟩
    have ha := ha.keep ask_st (fun k hk => by have hk := hU k hk; omega) m15 (fun _ _ h => h)
    have hf := hf.step0 m15
    have h1 := h1.keep m15 (fun h => h)
    have r24 := r24.keep m15 (fun h => h)
    have hv6 := hv6.keep m15 (fun h => h)
    have hL10 := hL10.step0 m15
    have hsE31 := hsE31.keep m15 (by omega) (fun h => h)
    refine suK (xstW h5 (lens' := [1, 1, 1]) sz59 rfl rfl rfl rfl rfl) ?_
    rintro w17 ⟨m18, h5, s16⟩
    have ha := ha.keep ask_st (fun k hk => by have hk := hU k hk; omega) m18 (fun k hk hS => by have hk := hU k hk; have hS : k = b5 := hS; omega)
    have hf := hf.step m18 (fun k hk hS => by have hS : k = b5 := hS; show False; omega)
    have h1 := h1.keep m18 (by show ¬ (b1 = b5); omega)
    have r24 := r24.keep m18 (by show ¬ (b24 = b5); omega)
    have hv6 := hv6.keep m18 (by show ¬ (g = b5); omega)
    have hL10 := hL10.step m18 (fun k hk hS => by have hS : k = b5 := hS; show k = g25; omega)
    have hsE31 := hsE31.keep m18 (by omega) (by show ¬ (bE31 = b5); omega)
    refine send ?_
    refine forget_wp [(1, _), (3, _), (5, _), (27, _), (28, _), (29, _)] ⟨rfl, rfl, rfl, rfl, rfl, rfl, trivial⟩ fun _ => ?_
    refine lreg ?_
    refine sv (xmove rfl) ?_
    refine sv (xldS (lens := [1, 1, 1]) ro59 rfl h5.r) ?_
    refine sc (xcall ca45 rfl) (c45 (hfa _ (List.mem_of_getElem? hak))) ?_
    rintro _ w19 ⟨p35, q35, g35, rfl, r35, m20, a35, l35⟩
    have z21 := m20.size
    have ha := ha.keep ask_st (fun k hk => by have hk := hU k hk; omega) m20 (fun _ _ h => h)
    have hf := hf.step0 m20
    have h1 := h1.keep m20 (fun h => h)
    have r24 := r24.keep m20 (fun h => h)
    have hv6 := hv6.keep m20 (fun h => h)
    have hL10 := hL10.step0 m20
    have hsE31 := hsE31.keep m20 (by omega) (fun h => h)
    have h5 := h5.keep m20 (fun h => h)
    refine svK (xapp sl37 in5 rfl (by decide) rfl rfl hv6 (r35.src sl37) (by simp only [maxLen]; omega) (by omega)) ?_
    rintro _ w22 ⟨g36, r36, m23, a36, l36⟩
    have z24 := m23.size
    have ha := ha.keep ask_st (fun k hk => by have hk := hU k hk; omega) m23 (fun k hk hS => by have hk := hU k hk; have hS : k = g := hS; omega)
    have hf := hf.step m23 (fun k hk hS => by have hS : k = g := hS; show False; omega)
    have h1 := h1.keep m23 (by show ¬ (b1 = g); omega)
    have r24 := r24.keep m23 (by show ¬ (b24 = g); omega)
    have hL10 := hL10.step m23 (fun k hk hS => by have hS : k = g := hS; show k = g25; omega)
    have hsE31 := hsE31.keep m23 (by omega) (by show ¬ (bE31 = g); omega)
    have h5 := h5.keep m23 (by show ¬ (b5 = g); omega)
    have r35 := r35.keep m23 (by show ¬ (g35 = g); omega)
    obtain ⟨p36, q36, rfl, -⟩ := r36.form
    refine sv (xassign rfl) ?_
    refine lend ?_
    refine nBlock ?_
    refine nThen ?_
    refine forget_wp [(1, _), (3, _), (27, _), (28, _), (29, _)] ⟨rfl, rfl, rfl, rfl, rfl, trivial⟩ fun _ => ?_
    refine lreg ?_
    refine sv (xadd rfl rfl (w64 (by omega) (by omega))) ?_
    refine sv (xmove rfl) ?_
    refine lend ?_
    refine nThen ?_
    refine ⟨(k + 1, _, g36), _, env_okl ⟨rfl, rfl, rfl, rfl, rfl, trivial⟩, ⟨hL10, (by omega), (by rw [asks_snoc hak, ← List.append_assoc]; exact br_cast r36 (by simp only [bvs_app]) (by simp only [List.length_append]; omega)), (by omega), (by omega), (by omega)⟩, ?_⟩
    show m.asks.length - (k + 1) < m.asks.length - k; omega
  · skip
    refine send ?_
    refine forget_wp [(1, _), (3, _), (27, _), (28, _), (29, _), (30, _)] ⟨rfl, rfl, rfl, rfl, rfl, rfl, trivial⟩ fun _ => ?_
    refine wp_seq ?_
    refine cno rfl ?_
    refine wp_exit ?_
    refine eThen ?_
    refine eThen ?_
    refine eHit ?_
    refine nThen ?_
    refine forget_wp [(1, _), (3, _)] ⟨rfl, rfl, trivial⟩ fun _ => ?_
    refine wp_seq ?_
    have eA : m.asks.take k = m.asks := List.take_of_length_le (by omega)
    obtain ⟨X0, hX0⟩ : ∃ X, X = headL m.head [m.asks.length, m.one.length, m.two.length, m.three.length] ++ asksL m.asks := ⟨_, rfl⟩
    have hX1 : X0.length = 12 + (asksL m.asks).length := by rw [hX0]; simp [headL_length]
    refine sreg ?_
    refine sv (xfld fl34_2 rfl) ?_
    refine sv (xld on32 rfl (h1.r.c 11 rfl rfl)) ?_
    refine sv (xfld fl34_3 rfl) ?_
    refine sv (xld on32 rfl (h1.r.c 12 rfl rfl)) ?_
    refine sv (xfld fl34_4 rfl) ?_
    refine sv (xld on32 rfl (h1.r.c 13 rfl rfl)) ?_
    refine svK (xslit ([.slice a1 m.one.length c1, .slice a2 m.two.length c2, .slice a3 m.three.length c3]) sl60 in32 rfl (by decide) rfl rfl rfl rfl (by decide) rfl rfl) ?_
    rintro _ w26 ⟨b44, rfl, m27, h44, e44, s44, r44⟩
    have ha := ha.keep ask_st (fun k hk => by have hk := hU k hk; omega) m27 (fun _ _ h => h)
    have hf := hf.step0 m27
    have h1 := h1.keep m27 (fun h => h)
    have r24 := r24.keep m27 (fun h => h)
    have hv6 := hv6.keep m27 (fun h => h)
    have hL10 := hL10.step0 m27
    refine sv (xlen sl60 rfl) ?_
    refine sv (xmove rfl) ?_
    refine send ?_
    refine forget_wp [(3, _), (44, _), (45, _), (46, _)] ⟨rfl, rfl, rfl, rfl, trivial⟩ fun _ => ?_
    refine wp_block ?_
    refine lp [(44, _), (45, _)] (fun (x : Nat × Value × Nat) => match x with | (i, v, gi) => [(3, v), (46, .int .i64 (i : Int))]) (fun (x : Nat × Value × Nat) wx => match x with | (i, v, gi) => Fr (fun k => k = g) w26 wx ∧ (i ≤ 3) ∧ (BR wx v gi (X0 ++ (([m.one, m.two, m.three].take i).map recsL).flatten).length (X0 ++ (([m.one, m.two, m.three].take i).map recsL).flatten)) ∧ (w.heap.size ≤ gi) ∧ (gi < wx.heap.size) ∧ (gi = g ∨ w26.heap.size ≤ gi)) (fun (x : Nat × Value × Nat) => match x with | (i, v, gi) => 3 - i) (0, _, g) ⟨rfl, rfl, rfl, rfl, trivial⟩ ⟨Fr.refl _ _, Nat.zero_le _, br_cast hv6 (by rw [eA]; simp [hX0]) (by rw [eA]; simp [hX0, headL_length]), hg, (by omega), (.inl rfl)⟩ ?_
    rintro ⟨i, v, gi⟩ _ w29 ⟨hL28, hi, hv7, hg4, hg5, hg6⟩
    refine forget_wp [(3, _), (44, _), (45, _), (46, _)] ⟨rfl, rfl, rfl, rfl, trivial⟩ fun _ => ?_
    have z30 := hL28.size
    have ha := ha.keep ask_st (fun k hk => by have hk := hU k hk; omega) hL28 (fun k hk hS => by have hk := hU k hk; have hS : k = g := hS; omega)
    have hf := hf.step hL28 (fun k hk hS => by have hS : k = g := hS; show False; omega)
    have h1 := h1.keep hL28 (by show ¬ (b1 = g); omega)
    have r24 := r24.keep hL28 (by show ¬ (b24 = g); omega)
    have hL10 := hL10.step hL28 (fun k hk hS => by have hS : k = g := hS; show k = g25; omega)
    have r44 := r44.keep hL28 (by show ¬ (b44 = g); omega)
    obtain ⟨a5, c5, rfl, -⟩ := hv7.form
    refine sreg ?_
    refine svP (xlss rfl rfl) (fun hc47 => ?_) (fun hc47 => ?_)
    · skip
      refine send ?_
      refine forget_wp [(3, _), (44, _), (45, _), (46, _), (47, _)] ⟨rfl, rfl, rfl, rfl, rfl, trivial⟩ fun _ => ?_
      refine wp_seq ?_
      refine cyes rfl ?_
      refine wp_skip ?_
      refine nThen ?_
      refine forget_wp [(3, _), (44, _), (45, _), (46, _)] ⟨rfl, rfl, rfl, rfl, trivial⟩ fun _ => ?_
      refine wp_seq ?_
      refine wp_block ?_
      refine sreg ?_
      obtain ⟨u, l, hu, hul, hL⟩ := hls.get (k := i) (by simp; omega)
      have hL := hL.keep rec_st hU hf (fun _ _ h => h)
      have hlm : l ∈ [m.one, m.two, m.three] := List.mem_of_getElem? hul
      have hln := hll l hlm
      have hms := flat_take_le (l := [m.one, m.two, m.three].map recsL) (k := i) (a := recsL l) (by rw [List.getElem?_map, hul]; rfl)
      rw [← List.map_take] at hms
      simp only [List.map_cons, List.map_nil, List.flatten_cons, List.flatten_nil, List.length_append, List.length_nil] at hms
      obtain ⟨au, cu, rfl⟩ := hL.form
      refine sv (xidx1 sl60 sz32 rfl rfl rfl (by omega)) ?_
      refine sv (xld on32 rfl (Rw.rng r44 i _ hu)) ?_
      refine sv (xassign rfl) ?_
      refine send ?_
      refine forget_wp [(3, _), (7, _), (44, _), (45, _), (46, _)] ⟨rfl, rfl, rfl, rfl, rfl, trivial⟩ fun _ => ?_
      refine sreg ?_
      refine sv (xmove rfl) ?_
      refine sv (xlen sl32 rfl) ?_
      refine sv (xmove rfl) ?_
      refine send ?_
      refine forget_wp [(3, _), (44, _), (45, _), (46, _), (50, _), (51, _), (52, _)] ⟨rfl, rfl, rfl, rfl, rfl, rfl, rfl, trivial⟩ fun _ => ?_
      refine wp_block ?_
      refine lp [(44, _), (45, _), (46, _), (50, _), (51, _)] (fun (x : Nat × Value × Nat) => match x with | (k, v, g7) => [(3, v), (52, .int .i64 (k : Int))]) (fun (x : Nat × Value × Nat) wx => match x with | (k, v, g7) => Fr (fun k => k = gi) w29 wx ∧ (k ≤ l.length) ∧ (BR wx v g7 ((X0 ++ (([m.one, m.two, m.three].take i).map recsL).flatten) ++ recsL (l.take k)).length ((X0 ++ (([m.one, m.two, m.three].take i).map recsL).flatten) ++ recsL (l.take k))) ∧ (w.heap.size ≤ g7) ∧ (g7 < wx.heap.size) ∧ (g7 = gi ∨ w29.heap.size ≤ g7)) (fun (x : Nat × Value × Nat) => match x with | (k, v, g7) => l.length - k) (0, _, gi) ⟨rfl, rfl, rfl, rfl, rfl, rfl, rfl, trivial⟩ ⟨Fr.refl _ _, Nat.zero_le _, br_cast hv7 (by simp [recsL]) (by simp [recsL]), hg4, (by omega), (.inl rfl)⟩ ?_
      rintro ⟨k, v, g7⟩ _ w32 ⟨hL31, hk, hv8, hg7, hg8, hg9⟩
      refine forget_wp [(3, _), (44, _), (45, _), (46, _), (50, _), (51, _), (52, _)] ⟨rfl, rfl, rfl, rfl, rfl, rfl, rfl, trivial⟩ fun _ => ?_
      have z33 := hL31.size
      have ha := ha.keep ask_st (fun k hk => by have hk := hU k hk; omega) hL31 (fun k hk hS => by have hk := hU k hk; have hS : k = gi := hS; omega)
      have hf := hf.step hL31 (fun k hk hS => by have hS : k = gi := hS; show False; omega)
      have h1 := h1.keep hL31 (by show ¬ (b1 = gi); omega)
      have r24 := r24.keep hL31 (by show ¬ (b24 = gi); omega)
      have hL10 := hL10.step hL31 (fun k hk hS => by have hS : k = gi := hS; show k = g25; omega)
      have r44 := r44.keep hL31 (by show ¬ (b44 = gi); omega)
      have hL28 := hL28.step hL31 (fun k hk hS => by have hS : k = gi := hS; show k = g; omega)
      have hL := hL.keep rec_st (fun k hk => by have hk := hU k hk; omega) hL31 (fun k hk hS => by have hk := hU k hk; have hS : k = gi := hS; omega)
      obtain ⟨a6, c6, rfl, -⟩ := hv8.form
      refine sreg ?_
      refine svP (xlss rfl rfl) (fun hc53 => ?_) (fun hc53 => ?_)
      · skip
        refine send ?_
        refine forget_wp [(3, _), (44, _), (45, _), (46, _), (50, _), (51, _), (52, _), (53, _)] ⟨rfl, rfl, rfl, rfl, rfl, rfl, rfl, rfl, trivial⟩ fun _ => ?_
        refine wp_seq ?_
        refine cyes rfl ?_
        refine wp_skip ?_
        refine nThen ?_
        refine forget_wp [(3, _), (44, _), (45, _), (46, _), (50, _), (51, _), (52, _)] ⟨rfl, rfl, rfl, rfl, rfl, rfl, rfl, trivial⟩ fun _ => ?_
        refine wp_seq ?_
        refine wp_block ?_
        obtain ⟨r, hrk⟩ := some_of_lt (by omega : k < l.length)
        have hrl := recs_le hrk
        have hrf := hfr l hlm r (List.mem_of_getElem? hrk)
        refine sreg ?_
        obtain ⟨bE54, oE54, sgE54, rfl, uE54, hsE54, heE54⟩ := LA.get hL hrk
        obtain ⟨vd, vt, vp, rfl, hd, ht, hp⟩ := heE54
        have zE54 := hU _ uE54
        obtain ⟨ad, cd, rfl, -⟩ := id hd
        obtain ⟨at1, ct1, rfl⟩ := ht.form
        obtain ⟨ap1, cp1, rfl⟩ := hp.form
        refine sv (xidx sl32 sz65 rfl rfl rfl (by omega)) ?_
        refine sv (xldS (lens := [1, 1, 1, 1, 1, 1, 1, 1, 1, 1, 1, 1, 1, 1, 1, 1]) ro65 rfl hsE54) ?_
        refine svK (xallS (lens := [1, 1, 1, 1, 1, 1, 1, 1, 1, 1, 1, 1, 1, 1, 1, 1]) in65 rfl) ?_
        rintro _ w35 ⟨b9, rfl, m36, h9, e34, s34⟩
        have ha := ha.keep ask_st (fun k hk => by have hk := hU k hk; omega) m36 (fun _ _ h => h)
        have hf := hf.step0 m36
        have h1 := h1.keep m36 (fun h => h)
        have r24 := r24.keep m36 (fun h => h)
        have hL10 := hL10.step0 m36
        have r44 := r44.keep m36 (fun h => h)
        have hL28 := hL28.step0 m36
        have hL := hL.keep rec_st (fun k hk => by have hk := hU k hk; omega) m36 (fun _ _ h => h)
        have hv8 := hv8.keep m36 (fun h => h)
        have hL31 := hL31.step0 m36
        have hsE54 := hsE54.keep m36 (by omega) (fun h => h)
        have hd := hd.keep (fun k hk => by have hk := hU k hk; omega) m36 (fun _ _ h => h)
        have ht := ht.keep text_st (fun k hk => by have hk := hU k hk; omega) m36 (fun _ _ h => h)
        have hp := hp.keep pair_st (fun k hk => by have hk := hU k hk; omega) m36 (fun _ _ h => h)
        refine suK (xstW h9 (lens' := [1, 1, 1, 1, 1, 1, 1, 1, 1, 1, 1, 1, 1, 1, 1, 1]) sz65 rfl rfl rfl rfl rfl) ?_
        rintro w38 ⟨m39, h9, s37⟩
        have ha := ha.keep ask_st (fun k hk => by have hk := hU k hk; omega) m39 (fun k hk hS => by have hk := hU k hk; have hS : k = b9 := hS; omega)
        have hf := hf.step m39 (fun k hk hS => by have hS : k = b9 := hS; show False; omega)
        have h1 := h1.keep m39 (by show ¬ (b1 = b9); omega)
        have r24 := r24.keep m39 (by show ¬ (b24 = b9); omega)
        have hL10 := hL10.step m39 (fun k hk hS => by have hS : k = b9 := hS; show k = g25; omega)
        have r44 := r44.keep m39 (by show ¬ (b44 = b9); omega)
        have hL28 := hL28.step m39 (fun k hk hS => by have hS : k = b9 := hS; show k = g; omega)
        have hL := hL.keep rec_st (fun k hk => by have hk := hU k hk; omega) m39 (fun k hk hS => by have hk := hU k hk; have hS : k = b9 := hS; omega)
        have hv8 := hv8.keep m39 (by show ¬ (g7 = b9); omega)
        have hL31 := hL31.step m39 (fun k hk hS => by have hS : k = b9 := hS; show k = gi; omega)
        have hsE54 := hsE54.keep m39 (by omega) (by show ¬ (bE54 = b9); omega)
        have hd := hd.keep (fun k hk => by have hk := hU k hk; omega) m39 (fun k hk hS => by have hk := hU k hk; have hS : k = b9 := hS; omega)
        have ht := ht.keep text_st (fun k hk => by have hk := hU k hk; omega) m39 (fun k hk hS => by have hk := hU k hk; have hS : k = b9 := hS; omega)
        have hp := hp.keep pair_st (fun k hk => by have hk := hU k hk; omega) m39 (fun k hk hS => by have hk := hU k hk; have hS : k = b9 := hS; omega)
        refine send ?_
        refine forget_wp [(3, _), (9, _), (44, _), (45, _), (46, _), (50, _), (51, _), (52, _)] ⟨rfl, rfl, rfl, rfl, rfl, rfl, rfl, rfl, trivial⟩ fun _ => ?_
        refine lreg ?_
        refine sv (xmove rfl) ?_
        refine sv (xldS (lens := [1, 1, 1, 1, 1, 1, 1, 1, 1, 1, 1, 1, 1, 1, 1, 1]) ro65 rfl h9.r) ?_
        refine sc (xcall ca46 rfl) (c46 (fun k hk => by have hk := hU k hk; omega) hd ht hp hrf.1 hrf.2.1 hrf.2.2) ?_
        rintro _ w40 ⟨p58, q58, g58, rfl, r58, m41, a58, l58⟩
        have z42 := m41.size
        have ha := ha.keep ask_st (fun k hk => by have hk := hU k hk; omega) m41 (fun _ _ h => h)
        have hf := hf.step0 m41
        have h1 := h1.keep m41 (fun h => h)
        have r24 := r24.keep m41 (fun h => h)
        have hL10 := hL10.step0 m41
        have r44 := r44.keep m41 (fun h => h)
        have hL28 := hL28.step0 m41
        have hL := hL.keep rec_st (fun k hk => by have hk := hU k hk; omega) m41 (fun _ _ h => h)
        have hv8 := hv8.keep m41 (fun h => h)
        have hL31 := hL31.step0 m41
        have hsE54 := hsE54.keep m41 (by omega) (fun h => h)
        have hd := hd.keep (fun k hk => by have hk := hU k hk; omega) m41 (fun _ _ h => h)
        have ht := ht.keep text_st (fun k hk => by have hk := hU k hk; omega) m41 (fun _ _ h => h)
        have hp := hp.keep pair_st (fun k hk => by have hk := hU k hk; omega) m41 (fun _ _ h => h)
        have h9 := h9.keep m41 (fun h => h)
        refine svK (xapp sl37 in5 rfl (by decide) rfl rfl hv8 (r58.src sl37) (by simp only [maxLen, List.length_append]; omega) (by simp only [List.length_append]; omega)) ?_
        rintro _ w43 ⟨g59, r59, m44, a59, l59⟩
        have z45 := m44.size
        have ha := ha.keep ask_st (fun k hk => by have hk := hU k hk; omega) m44 (fun k hk hS => by have hk := hU k hk; have hS : k = g7 := hS; omega)
        have hf := hf.step m44 (fun k hk hS => by have hS : k = g7 := hS; show False; omega)
        have h1 := h1.keep m44 (by show ¬ (b1 = g7); omega)
        have r24 := r24.keep m44 (by show ¬ (b24 = g7); omega)
        have hL10 := hL10.step m44 (fun k hk hS => by have hS : k = g7 := hS; show k = g25; omega)
        have r44 := r44.keep m44 (by show ¬ (b44 = g7); omega)
        have hL28 := hL28.step m44 (fun k hk hS => by have hS : k = g7 := hS; show k = g; omega)
        have hL := hL.keep rec_st (fun k hk => by have hk := hU k hk; omega) m44 (fun k hk hS => by have hk := hU k hk; have hS : k = g7 := hS; omega)
        have hL31 := hL31.step m44 (fun k hk hS => by have hS : k = g7 := hS; show k = gi; omega)
        have hsE54 := hsE54.keep m44 (by omega) (by show ¬ (bE54 = g7); omega)
        have hd := hd.keep (fun k hk => by have hk := hU k hk; omega) m44 (fun k hk hS => by have hk := hU k hk; have hS : k = g7 := hS; omega)
        have ht := ht.keep text_st (fun k hk => by have hk := hU k hk; omega) m44 (fun k hk hS => by have hk := hU k hk; have hS : k = g7 := hS; omega)
        have hp := hp.keep pair_st (fun k hk => by have hk := hU k hk; omega) m44 (fun k hk hS => by have hk := hU k hk; have hS : k = g7 := hS; omega)
        have h9 := h9.keep m44 (by show ¬ (b9 = g7); omega)
        have r58 := r58.keep m44 (by show ¬ (g58 = g7); omega)
        obtain ⟨p59, q59, rfl, -⟩ := r59.form
        refine sv (xassign rfl) ?_
        refine lend ?_
        refine nBlock ?_
        refine nThen ?_
        refine forget_wp [(3, _), (44, _), (45, _), (46, _), (50, _), (51, _), (52, _)] ⟨rfl, rfl, rfl, rfl, rfl, rfl, rfl, trivial⟩ fun _ => ?_
        refine lreg ?_
        refine sv (xadd rfl rfl (w64 (by omega) (by omega))) ?_
        refine sv (xmove rfl) ?_
        refine lend ?_
        refine nThen ?_
        refine ⟨(k + 1, _, g59), _, env_okl ⟨rfl, rfl, rfl, rfl, rfl, rfl, rfl, trivial⟩, ⟨hL31, (by omega), (by rw [recs_snoc hrk, ← List.append_assoc]; exact br_cast r59 (by simp only [bvs_app]) (by simp only [List.length_append])), (by omega), (by omega), (by omega)⟩, ?_⟩
        show l.length - (k + 1) < l.length - k; omega
      · skip
        refine send ?_
        refine forget_wp [(3, _), (44, _), (45, _), (46, _), (50, _), (51, _), (52, _), (53, _)] ⟨rfl, rfl, rfl, rfl, rfl, rfl, rfl, rfl, trivial⟩ fun _ => ?_
        refine wp_seq ?_
        refine cno rfl ?_
        refine wp_exit ?_
        refine eThen ?_
        refine eThen ?_
        refine eHit ?_
        refine nBlock ?_
        refine nThen ?_
        refine forget_wp [(3, _), (44, _), (45, _), (46, _)] ⟨rfl, rfl, rfl, rfl, trivial⟩ fun _ => ?_
        refine lreg ?_
        refine sv (xadd rfl rfl (w64 (by omega) (by omega))) ?_
        refine sv (xmove rfl) ?_
        refine lend ?_
        refine nThen ?_
        have eR : l.take k = l := List.take_of_length_le (by omega)
        refine ⟨(i + 1, _, g7), _, env_okl ⟨rfl, rfl, rfl, rfl, trivial⟩, ⟨hL28, (by omega), (by rw [lists_snoc hul, ← List.append_assoc]; exact br_cast hv8 (by rw [eR]) (by rw [eR])), (by omega), (by omega), (by omega)⟩, ?_⟩
        show 3 - (i + 1) < 3 - i; omega
    · skip
      refine send ?_
      refine forget_wp [(3, _), (44, _), (45, _), (46, _), (47, _)] ⟨rfl, rfl, rfl, rfl, rfl, trivial⟩ fun _ => ?_
      refine wp_seq ?_
      refine cno rfl ?_
      refine wp_exit ?_
      refine eThen ?_
      refine eThen ?_
      refine eHit ?_
      refine nThen ?_
      refine forget_wp [(3, _)] ⟨rfl, trivial⟩ fun _ => ?_
      refine sreg ?_
      refine sv (xmove rfl) ?_
      refine sv (xassign rfl) ?_
      refine send ?_
      refine forget_wp [(2, _)] ⟨rfl, trivial⟩ fun _ => ?_
      refine wp_ret ?_
      refine rp1 rfl rfl ?_
      have e : [m.one, m.two, m.three].take i = [m.one, m.two, m.three] := List.take_of_length_le (by simp; omega)
      exact new_cast hv7 (by rw [e]; simp [hX0, msgL]) hf hg4 hg5
end Go.Proofs.YtifnodoffgfpbaaGreatDoor
