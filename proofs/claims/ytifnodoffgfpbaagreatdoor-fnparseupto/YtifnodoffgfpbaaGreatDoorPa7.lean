/- Part 7 of the texts for a law of this seat: walks, and plain laws about messages; conditions: none. -/
import Derived.Test.YtifnodoffgfpbaaGreatDoorPa6
set_option maxHeartbeats 4000000
set_option maxRecDepth 100000
namespace Go.Proofs.YtifnodoffgfpbaaGreatDoor
open Go

theorem sh_nil {w : World} {bw g0 n : Nat} {v0 : Value} {bs : List UInt8} (h : SB w bw lSh [[v0], [.slice none 0 0], [.slice none 0 0]]) (r : BR w v0 g0 n bs) (h0 : g0 < w.heap.size) (hn : g0 ≠ bw) : Sh w bw bs [] g0 bw bw := by
  have hl := r.len
  exact ⟨_, _, _, h, hl ▸ r, .inl ⟨rfl, rfl, rfl⟩, .inl ⟨rfl, rfl, rfl⟩, h0, h.lt, h.lt, hn, .inl ⟨rfl, rfl, rfl⟩⟩
theorem pa_step {α : Type} {f : Option Ent → Nat → α → List UInt8 × Option Ent} {C : Option Ent} {M1 M2 : Ent} {pos k : Nat} {l : List α} {a : α} {out P : List UInt8} (h : packAll f C pos (l.take k) = (out, some M1)) (hk : l[k]? = some a) (h2 : f (some M1) (pos + out.length) a = (P, some M2)) :
    packAll f C pos (l.take (k + 1)) = (out ++ P, some M2) := by
  rw [take_snoc hk, packAll_snoc, h]
  simp only []
  rw [h2]
theorem pk_ask {M M1 : Ent} {p : Nat} {a : AskD} {P : List UInt8} (h1 : packName (some M) p (bt a.name) = (P, some M1)) : packAsk (some M) p a = (P ++ (be16 a.typ.toNat ++ be16 a.cls.toNat), some M1) := by
  rw [packAsk, h1]
def LstP (m : MsgD) : Nat → List UInt8 → Ent → Prop
  | 0, X, M => X = headL m.head (countsM m) ++ (packA (some []) m).1 ∧ (packA (some []) m).2 = some M
  | 1, X, M => X = headL m.head (countsM m) ++ ((packA (some []) m).1 ++ (pack1 (some []) m).1) ∧ (pack1 (some []) m).2 = some M
  | 2, X, M => X = headL m.head (countsM m) ++ ((packA (some []) m).1 ++ ((pack1 (some []) m).1 ++ (pack2 (some []) m).1)) ∧ (pack2 (some []) m).2 = some M
  | _, X, _ => X = packM (some []) m
theorem lst_next {m : MsgD} {i : Nat} {X out : List UInt8} {M M' : Ent} {l : List RecD} (h : LstP m i X M) (hl : [m.one, m.two, m.three][i]? = some l) (hp : packAll packRec (some M) X.length l = (out, some M')) : LstP m (i + 1) (X ++ out) M' := by
  match i, h, hl with
  | 0, ⟨h1, h2⟩, hl =>
    simp only [List.getElem?_cons_zero, Option.some.injEq] at hl
    subst hl
    have e : pack1 (some []) m = (out, some M') := by rw [pack1, h2, ← hp, h1, List.length_append, headL_len]
    exact ⟨by rw [h1, e, List.append_assoc], by rw [e]⟩
  | 1, ⟨h1, h2⟩, hl =>
    simp only [List.getElem?_cons_succ, List.getElem?_cons_zero, Option.some.injEq] at hl
    subst hl
    have e : pack2 (some []) m = (out, some M') := by rw [pack2, h2, ← hp, h1, List.length_append, List.length_append, headL_len, Nat.add_assoc]
    exact ⟨by rw [h1, e]; simp only [List.append_assoc], by rw [e]⟩
  | 2, ⟨h1, h2⟩, hl =>
    simp only [List.getElem?_cons_succ, List.getElem?_cons_zero, Option.some.injEq] at hl
    subst hl
    have e : pack3 (some []) m = (out, some M') := by rw [pack3, h2, ← hp, h1]; simp only [List.length_append, headL_len, Nat.add_assoc]
    show X ++ out = packM (some []) m
    rw [packM, e, h1]; simp only [List.append_assoc]
  | n + 3, _, hl => simp at hl
def cntL (m : MsgD) (i : Nat) : Nat := (([m.one, m.two, m.three].take i).map List.length).sum
theorem cnt_step {m : MsgD} {i : Nat} {l : List RecD} (h : [m.one, m.two, m.three][i]? = some l) : cntL m (i + 1) = cntL m i + l.length ∧ cntL m (i + 1) ≤ m.one.length + m.two.length + m.three.length := by
  have h1 : cntL m (i + 1) = cntL m i + l.length := by simp only [cntL]; rw [take_snoc h]; simp
  refine ⟨h1, ?_⟩
  match i, h with
  | 0, h => show (([m.one].map List.length).sum) ≤ _; simp; omega
  | 1, h => show (([m.one, m.two].map List.length).sum) ≤ _; simp
  | 2, h => show (([m.one, m.two, m.three].map List.length).sum) ≤ _; simp; omega
  | n + 3, h => simp at h
theorem few_recs {m : MsgD} (hm : m.fits) (hf : fewM m) : ∀ l ∈ [m.one, m.two, m.three], ∀ r ∈ l, r.fits ∧ 0 ≤ r.kind ∧ r.kind ≤ 13 ∧ NamesOk r ∧ ∀ (M : Ent) (p : Nat), (packRec (some M) p r).1.length ≤ 66100 := by
  intro l hl r hr
  obtain ⟨hna, hpk, hc, _⟩ := few_pack hf
  have h := hpk l hl r hr
  refine ⟨hm.lists.2 l hl r hr, Int.le_trans (by decide) h.1.2.1, h.1.2.2.1, h.2.1, fun M p => ?_⟩
  have h2 := (packRec_short h.2.1 M p).1
  have h3 := h.2.2.2
  have h4 := wire_bound h.2.1.1
  simp only [recL, List.length_append, be16_length, be32_length] at h2
  omega

theorem c25 {w : World} {U : Nat → Prop} (hU : ∀ k, U k → k < w.heap.size) {m : MsgD} {va v1 v2 v3 : Value} (ha : LA AskEl lAsk U w va m.asks) (y1 : LA RecEl lRec U w v1 m.one) (y2 : LA RecEl lRec U w v2 m.two) (y3 : LA RecEl lRec U w v3 m.three) (hm : m.fits) (hfew : fewM m) :
  Ret PP 25 [ag (msgSegs m.head va v1 v2 v3)] w (fun u w' => New w (packM (some []) m).length (packM (some []) m) u w') := by
 have hls : All2 (LA RecEl lRec U w) [v1, v2, v3] [m.one, m.two, m.three] := All2.cons y1 (All2.cons y2 (All2.cons y3 All2.nil))
 obtain ⟨aa, ca, rfl⟩ := ha.form
 obtain ⟨a1, c1, rfl⟩ := y1.form
 obtain ⟨a2, c2, rfl⟩ := y2.form
 obtain ⟨a3, c3, rfl⟩ := y3.form
 have hrs := few_recs hm hfew
 have hna := (few_pack hfew).1
 have hcn := hfew.1
 obtain ⟨K, hKd⟩ : ∃ K : Nat → Prop, K = fun k => k < w.heap.size := ⟨_, rfl⟩
 have hUK : ∀ k, U k → K k := fun k hk => by rw [hKd]; exact hU k hk
 have hGK : ∀ k, K k → k < w.heap.size := fun k hk => by rw [hKd] at hk; exact hk
 have hf : Fr (fun k => ¬ K k) w w := Fr.refl _ _
 refine ret_of Tryz.func25 rfl rfl rfl [(0, _)] rfl ?_
 refine sreg (svK (xboxS (lens := lMsg) rfl rfl) ?_)
 rintro _ w2 ⟨b1, rfl, m3, h1, e1, s1⟩
 refine sA rfl (send (fbg 1 rfl fun _ => sreg (sv (xfld fl34_0 rfl) (sv (xldS (lens := [1, 1, 1, 1, 1, 1, 1, 1, 1, 1]) ro30 rfl (h1.r.sub 0 10 rfl)) (sv (xfld fl34_1 rfl) (sv (xld on31 rfl (h1.r.c 10 rfl rfl)) (sv (xlen sl31 rfl) (sv (xfld fl34_2 rfl) (sv (xld on32 rfl (h1.r.c 11 rfl rfl)) (sv (xlen sl32 rfl) (sv (xfld fl34_3 rfl) (sv (xld on32 rfl (h1.r.c 12 rfl rfl)) (sv (xlen sl32 rfl) (sv (xfld fl34_4 rfl) (sv (xld on32 rfl (h1.r.c 13 rfl rfl)) (sv (xlen sl32 rfl) (svK (xslit ([.int .i64 (m.asks.length : Int), .int .i64 (m.one.length : Int), .int .i64 (m.two.length : Int), .int .i64 (m.three.length : Int)]) sl99 in3 rfl (by decide) rfl rfl rfl rfl (by decide) rfl rfl) ?_)))))))))))))))))
 rintro _ w5 ⟨b24, rfl, m6, h24, e24, s24, r24⟩
 refine sc (xcall ca44 rfl) (c44 (h := m.head) (counts := [m.asks.length, m.one.length, m.two.length, m.three.length]) (Rw.rng r24) (by omega) rfl (by simp)) ?_
 rintro _ w7 ⟨p25, q25, g25, rfl, r25, m8, a25, l25⟩
 have z9 := m8.size
 refine sv (xbuildS [[.slice p25 (headL m.head [m.asks.length, m.one.length, m.two.length, m.three.length]).length q25], [.slice none 0 0], [.slice none 0 0]] zr116 ly116 rfl (by simp [fitAll, zs116, Value.cells]) (by simp [setAll, zs116, Value.cells])) (svK (xboxS (lens := [1, 1, 1]) rfl rfl) ?_)
 rintro _ w11 ⟨b27, rfl, m12, h27, e10, s10⟩
 refine sA rfl (send (fcg 1 3 rfl fun _ => wp_seq ?_))
 obtain ⟨H, hH⟩ : ∃ H, H = headL m.head (countsM m) := ⟨_, rfl⟩
 have hHl : H.length = 12 := by rw [hH]; exact headL_len _ _
 have r25 := r25.k m12
 have hSh : Sh w11 b27 H [] g25 b27 b27 := by rw [hH]; exact sh_nil h27 r25 (by omega) (by omega)
 obtain ⟨K1, hKd1⟩ : ∃ K1 : Nat → Prop, K1 = fun k => K k ∨ k = b1 := ⟨_, rfl⟩
 have hK1 : ∀ k, K k → K1 k := fun k hk => by rw [hKd1]; exact .inl hk
 have hKb1 : K1 b1 := by rw [hKd1]; exact .inr rfl
 have hG1 : ∀ k, K1 k → k < w11.heap.size ∧ k ≠ b27 ∧ k ≠ g25 ∧ k ≠ b27 ∧ k ≠ b27 := fun k hk => by rw [hKd1] at hk; rcases hk with hk | hk; (rw [hKd] at hk; have hk : k < w.heap.size := hk; omega); omega
 have hGK := fun k (hk : K k) => hG1 k (hK1 k hk)
 have hGU := fun k (hk : U k) => hGK k (hUK k hk)
 have h1 := ((h1.k m6).k m8).k m12
 refine sreg (sv (xfld fl34_1 rfl) (sv (xld on31 rfl (h1.r.c 10 rfl rfl)) (sv (xlen sl31 rfl) (sM rfl (send (ffg 1 3 29 30 31 rfl fun _ => wp_block (lp [(1, _), (3, _), (29, _), (30, _)] (fun (x : Nat × List UInt8 × Ent × Nat × Nat × Nat) => match x with | (k, out, M1, y0, y1, y2) => [(31, .int .i64 (k : Int))]) (fun (x : Nat × List UInt8 × Ent × Nat × Nat × Nat) wx => match x with | (k, out, M1, y0, y1, y2) => Fr (fun k => ¬ K1 k) w11 wx ∧ (k ≤ m.asks.length) ∧ (packAll packAsk (some []) 12 (m.asks.take k) = (out, some M1)) ∧ (Sh wx b27 (H ++ out) M1 y0 y1 y2) ∧ (out.length ≤ 600 * k) ∧ (M1.length ≤ 762 * k) ∧ (∀ q ∈ M1, q.2.toNat ≤ 16383) ∧ (∀ k, K1 k → k < wx.heap.size ∧ k ≠ b27 ∧ k ≠ y0 ∧ k ≠ y1 ∧ k ≠ y2)) (fun (x : Nat × List UInt8 × Ent × Nat × Nat × Nat) => match x with | (k, out, M1, y0, y1, y2) => m.asks.length - k) (0, [], [], g25, b27, b27) ⟨rfl, rfl, rfl, rfl, rfl, trivial⟩ ⟨Fr.refl _ _, Nat.zero_le _, rfl, by rw [aN]; exact hSh, Nat.le_refl _, Nat.le_refl _, (fun q hq => by cases hq), hG1⟩ ?_)))))))
 rintro ⟨k, out, M1, y0, y1, y2⟩ _ w14 ⟨hL13, hk, hpa, hSh, hol, hMl, hm2, hG1⟩
 refine ffg 1 3 29 30 31 rfl fun _ => ?_
 have z15 := hL13.size
 have hlt := hSh.lts
 have hGK := fun k (hk : K k) => hG1 k (hK1 k hk)
 have ha := ((((ha.keep ask_st (lU hU (by omega)) m3 nF).keep ask_st (lU hU (by omega)) m6 nF).keep ask_st (lU hU (by omega)) m8 nF).keep ask_st (lU hU (by omega)) m12 nF).keep ask_st (fun k hk => by have hk := hGU k hk; omega) hL13 (fun k hk h => h (hK1 k (hUK k hk)))
 have hGU := fun k (hk : U k) => hGK k (hUK k hk)
 have hf := ((((hf.s m3).s m6).s m8).s m12).step hL13 (fun k hk hS hk2 => hS (hK1 k hk2))
 have h1 := h1.keep hL13 (fun h => h hKb1)
 refine sreg (svP (xlss rfl rfl) (fun hc32 => ?_) (fun hc32 => ?_))
 ·
  refine send ((wp_seq (cyes rfl (wp_skip (nThen (ffg 1 3 29 30 31 rfl fun _ => wp_seq (wp_block ?_)))))))
  obtain ⟨a, hak⟩ := some_of_lt (by omega : k < m.asks.length)
  have han := hna a (List.mem_of_getElem? hak)
  refine sreg ?_
  obtain ⟨bE33, oE33, sgE33, rfl, uE33, hsE33, heE33⟩ := LA.get ha hak
  obtain rfl := heE33
  have zE33 := hU _ uE33
  refine sv (xidx sl31 sz59 rfl rfl rfl (by omega)) (sv (xldS (lens := [1, 1, 1]) ro59 rfl hsE33) (svK (xallS (lens := [1, 1, 1]) in59 rfl) ?_))
  rintro _ w17 ⟨b5, rfl, m18, h5, e16, s16⟩
  refine suK (xstW h5 (lens' := [1, 1, 1]) sz59 rfl rfl rfl rfl rfl) ?_
  rintro w20 ⟨m21, h5, s19⟩
  have hf := (hf.s m18).step m21 (fun k hk hS hk2 => by have hS : k = b5 := hS; have hk3 := hGK k hk2; omega)
  have h1 := (h1.k m18).keep m21 (by have hq := hG1 b1 hKb1; show ¬ (b1 = b5); omega)
  have hSh := (hSh.keep m18 id id id id).keep m21 (nE (by omega)) (nE (by omega)) (nE (by omega)) (nE (by omega))
  have hL13 := (hL13.s m18).step m21 (fun k hk hS hk2 => by have hS : k = b5 := hS; have hk3 := hG1 k hk2; omega)
  refine send (fgg 1 3 5 29 30 31 rfl fun _ => ?_)
  obtain ⟨K5, hKd5⟩ : ∃ K5 : Nat → Prop, K5 = fun k => K1 k ∨ k = b5 := ⟨_, rfl⟩
  have hK5 : ∀ k, K1 k → K5 k := fun k hk => by rw [hKd5]; exact .inl hk
  have hKb5 : K5 b5 := by rw [hKd5]; exact .inr rfl
  have hKy : ∀ k, K5 k → k < w20.heap.size ∧ k ≠ b27 ∧ k ≠ y0 ∧ k ≠ y1 ∧ k ≠ y2 := fun k hk => by rw [hKd5] at hk; rcases hk with hk | hk; (have hq := hG1 k hk; omega); omega
  refine sreg (sM rfl (sv (xfld fl59_0 rfl) (sv (xld on9 rfl (h5.r.c 0 rfl rfl)) ?_)))
  have hnp38 := name_pos (han)
  rw [bt_length] at hnp38
  refine sc (xcall ca52 rfl) (c52 (K := K5) hSh (han) (by first | omega | (simp only [List.length_append]; omega)) (by omega) hm2 hKy) ?_
  rintro _ w22 ⟨M38, ya38, yb38, yc38, hpk38, hSh, hml38, hm2, hKq, m23⟩
  have z24 := m23.size
  have hps38 : (H ++ out).length = 12 + out.length := by rw [List.length_append, hHl]
  obtain ⟨P38, hP38⟩ : ∃ P, packName (some M1) (12 + out.length) (bt a.name) = (P, some M38) := ⟨_, Prod.ext rfl (by rw [hps38] at hpk38; exact hpk38)⟩
  have hSh : Sh w22 b27 (H ++ out ++ P38) M38 ya38 yb38 yc38 := by rw [hps38, hP38] at hSh; exact hSh
  have hPl38 := packName_le (some M1) (12 + out.length) (bt a.name)
  rw [hP38, bt_length] at hPl38
  simp only at hPl38
  have hKy : ∀ k, K5 k → k < w22.heap.size ∧ k ≠ b27 ∧ k ≠ ya38 ∧ k ≠ yb38 ∧ k ≠ yc38 := fun k hk => by have hq := hKy k hk; have hq2 := hKq k hk; omega
  have hG1 := fun k (hk : K1 k) => hKy k (hK5 k hk)
  have hGK := fun k (hk : K k) => hG1 k (hK1 k hk)
  have hGU := fun k (hk : U k) => hGK k (hUK k hk)
  refine send (fgg 1 3 5 29 30 31 rfl fun _ => ?_)
  obtain ⟨u0, u1, u2, hW, r0, q1, q2, hl0, hl1, hl2, hne, hgs⟩ := hSh
  have hgs : Gd _ b27 ya38 yb38 yc38 := hgs
  obtain ⟨p0, c0, rfl, -⟩ := Rw.form r0
  obtain ⟨a1, c1, rfl, hs1⟩ := q1.form
  obtain ⟨a2, c2, rfl, hs2⟩ := q2.form
  refine ldrawH (Fr (fun k => k = ya38) w22.drew) [rd0, rd1, rd2, rd3, rd4, rd5, rd6, rd8, rd9, ld7, ld10, ld11, ld12, ld13, rd14, rd15, (16, .bh)] mixed (by kernel_rfl) (fun _ _ _ _ _ h => h) ?_
  have z25 : w22.drew.heap.size = w22.heap.size := rfl
  have h5 := (h5.keep m23 (fun h => h hKb5)).drew
  have zb_h5 := h5
  have hW := hW.drew
  have zb_hW := hW
  have hS26 : Fr (fun k => k = ya38) w22.drew w22.drew := Fr.refl _ _
  refine qqM rfl rfl hS26 (qqM rfl rfl hS26 (qqN rfl rfl hS26 (hvH rfl (fun _ _ => xfld fl116_0 rfl) hS26 (hvH rfl (fun w' hS => xld on37 rfl ((zb_hW.keep hS (nE (by omega))).r.c 0 rfl rfl)) hS26 (hvH rfl (fun _ _ => xfld fl59_1 rfl) hS26 (hvH rfl (fun w' hS => xld on22 rfl ((zb_h5.keep hS (by have hq := hKy b5 hKb5; show ¬ (b5 = ya38); omega)).r.c 1 rfl rfl)) hS26 (hvH rfl (fun _ _ => xfld fl59_2 rfl) hS26 (hvH rfl (fun w' hS => xld on22 rfl ((zb_h5.keep hS (by have hq := hKy b5 hKb5; show ¬ (b5 = ya38); omega)).r.c 2 rfl rfl)) hS26 ?_))))))))
  refine hcH rfl (xcall ca53 rfl) (c53 (by first | omega | exact u16lt _)) ?_
  rintro _ w27 ⟨p46, q46, g46, rfl, r46, m28, a46, l46⟩
  have z29 := m28.size
  have hS30 := hS26.s m28
  refine ⟨hS30, ?_⟩
  refine hcH rfl (xcall ca53 rfl) (c53 (by first | omega | exact u16lt _)) ?_
  rintro _ w31 ⟨p49, q49, g49, rfl, r49, m32, a49, l49⟩
  have z33 := m32.size
  have hS34 := hS30.s m32
  refine ⟨hS34, ?_⟩
  refine hlKH rfl (xslit [_, _] sl105 in37 rfl (by decide) rfl rfl rfl rfl (by decide) rfl rfl) ?_
  rintro _ w36 ⟨b50, rfl, m37, h50, e50, s50, r50⟩
  have hS38 := hS34.s m37
  have r46 := (r46.k m32).k m37
  have r49 := r49.k m37
  refine ⟨hS38, ?_⟩
  refine hcH rfl (xcall ca21 rfl) (c21 (U := fun k => k = g46 ∨ k = g49) (Rw.rng r50) (by omega) rfl (fun k hk => by have hk : k = g46 ∨ k = g49 := hk; rcases hk with hk | hk <;> first | omega | (have := hU k hk; omega)) (All2.cons (BR.ba r46 (.inl rfl)) (All2.cons (BR.ba r49 (.inr rfl)) All2.nil)) (by simp only [fC, fN, List.length_append, be16_length, List.length_nil]; omega) (by decide)) ?_
  rintro _ w39 ⟨p51, q51, g51, rfl, r51, m40, a51, l51⟩
  have z41 := m40.size
  have hS42 := hS38.s m40
  have r0 := ((((r0.k (fd w22)).k m28).k m32).k m37).k m40
  refine ⟨hS42, ?_⟩
  refine hlKH rfl (xapp sl37 in5 rfl (by decide) rfl rfl r0 (r51.src sl37) (by simp only [maxLen]; simp [be16_length]; omega) (by simp [be16_length]; omega)) ?_
  rintro _ w43 ⟨g52, r52, m44, a52, l52⟩
  have z45 := m44.size
  have hS46 := hS42.step m44 nI
  obtain ⟨p52, q52, rfl, -⟩ := r52.form
  have r52 : BR _ _ g52 (H ++ out ++ P38 ++ (be16 a.typ.toNat ++ be16 a.cls.toNat)).length (H ++ out ++ P38 ++ (be16 a.typ.toNat ++ be16 a.cls.toNat)) := br_cast r52 (by simp [bvs_app]) (by simp [be16_length]; try omega)
  have hW := ((((hW.k m28).k m32).k m37).k m40).keep m44 (nE (by omega))
  refine ⟨hS46, ?_⟩
  refine qqN rfl rfl hS46 (hvH rfl (fun _ _ => xfld fl116_0 rfl) hS46 ?_)
  refine bluKH rfl (xstF 0 sz37 hW rfl rfl rfl rfl rfl) ?_
  rintro w48 ⟨m49, hW, s47⟩
  have q1 := ((((((q1.keep (fd w22) (fun h0 => id)).keep m28 (fun h0 => id)).keep m32 (fun h0 => id)).keep m37 (fun h0 => id)).keep m40 (fun h0 => id)).keep m44 (fun h0 => by have h0 := h0; have hq := hgs.ne1 h0; show ¬ (yb38 = ya38); omega)).keep m49 (fun h0 => by have h0 := h0; have hq := hgs.ne1 h0; show ¬ (yb38 = b27); omega)
  have q2 := ((((((q2.keep (fd w22) (fun h0 => id)).keep m28 (fun h0 => id)).keep m32 (fun h0 => id)).keep m37 (fun h0 => id)).keep m40 (fun h0 => id)).keep m44 (fun h0 => by have h0 := h0; have hq := hgs.ne2 h0; show ¬ (yc38 = ya38); omega)).keep m49 (fun h0 => by have h0 := h0; have hq := hgs.ne2 h0; show ¬ (yc38 = b27); omega)
  have hgs := hgs.up a52 (by omega) (by omega)
  have hKy : ∀ k, K5 k → k < w48.heap.size ∧ k ≠ b27 ∧ k ≠ g52 ∧ k ≠ yb38 ∧ k ≠ yc38 := fun k hk => by have hq := hKy k hk; omega
  have h1 := (((((((h1.keep m23 (fun h => h (hK5 b1 hKb1))).drew).k m28).k m32).k m37).k m40).keep m44 (by have hq := hG1 b1 hKb1; show ¬ (b1 = ya38); omega)).keep m49 (by have hq := hG1 b1 hKb1; show ¬ (b1 = b27); omega)
  have hL13 := (((((((hL13.step m23 (fun k hk hS hk2 => hS (hK5 k hk2))).drew).s m28).s m32).s m37).s m40).step m44 (fun k hk hS hk2 => by have hS : k = ya38 := hS; have hk3 := hG1 k hk2; omega)).step m49 (fun k hk hS hk2 => by have hS : k = b27 := hS; have hk3 := hG1 k hk2; omega)
  have hG1 := fun k (hk : K1 k) => hKy k (hK5 k hk)
  have hf := (((((((hf.step m23 (fun k hk hS hk2 => hS (hK5 k (hK1 k hk2)))).drew).s m28).s m32).s m37).s m40).step m44 (fun k hk hS hk2 => by have hS : k = ya38 := hS; have hk3 := hGK k hk2; omega)).step m49 (fun k hk hS hk2 => by have hS : k = b27 := hS; have hk3 := hGK k hk2; omega)
  have hGK := fun k (hk : K k) => hG1 k (hK1 k hk)
  have hGU := fun k (hk : U k) => hGK k (hUK k hk)
  have hne : g52 ≠ b27 := by omega
  have l52 := l52 (.inl (by omega))
  clear a52
  have r52 := r52.keep m49 (nE (by omega))
  refine lhendH (nBlock (nThen (ffg 1 3 29 30 31 rfl fun _ => lreg (sv (xadd rfl rfl (w64 (by omega) (by omega))) (sM rfl (lend (nThen ?_)))))))
  have hSh := sh_mk hW r52 q1 q2 (by omega) (by omega) (by omega) (by omega) hgs
  have hKy : ∀ k, K5 k → k < w48.heap.size ∧ k ≠ b27 ∧ k ≠ g52 ∧ k ≠ yb38 ∧ k ≠ yc38 := fun k hk => by have hq := hKy k hk; omega
  refine ⟨(k + 1, out ++ (P38 ++ (be16 a.typ.toNat ++ be16 a.cls.toNat)), M38, g52, yb38, yc38), _, env_okl ⟨rfl, rfl, rfl, rfl, rfl, trivial⟩, ⟨hL13, (by omega), (pa_step hpa hak (pk_ask hP38)), (by simpa only [List.append_assoc] using hSh), (by simp only [List.length_append, be16_length]; omega), (by omega), (hm2), (fun k hk => by have hq := hKy k (hK5 k hk); omega)⟩, ?_⟩
  show m.asks.length - (k + 1) < m.asks.length - k; omega
 refine send ((wp_seq (cno rfl (wp_exit (eThen (eThen (eHit (nThen (fcg 1 3 rfl fun _ => wp_seq (sreg (sv (xfld fl34_2 rfl) (sv (xld on32 rfl (h1.r.c 11 rfl rfl)) (sv (xfld fl34_3 rfl) (sv (xld on32 rfl (h1.r.c 12 rfl rfl)) (sv (xfld fl34_4 rfl) (sv (xld on32 rfl (h1.r.c 13 rfl rfl)) (svK (xslit ([.slice a1 m.one.length c1, .slice a2 m.two.length c2, .slice a3 m.three.length c3]) sl60 in32 rfl (by decide) rfl rfl rfl rfl (by decide) rfl rfl) ?_)))))))))))))))))
 rintro _ w51 ⟨b62, rfl, m52, h62, e62, s62, r62⟩
 refine sv (xlen sl60 rfl) (sM rfl ?_)
 obtain ⟨K2, hKd2⟩ : ∃ K2 : Nat → Prop, K2 = fun k => K1 k ∨ k = b62 := ⟨_, rfl⟩
 have hK2 : ∀ k, K1 k → K2 k := fun k hk => by rw [hKd2]; exact .inl hk
 have hKb62 : K2 b62 := by rw [hKd2]; exact .inr rfl
 have hG2 : ∀ k, K2 k → k < w51.heap.size ∧ k ≠ b27 ∧ k ≠ y0 ∧ k ≠ y1 ∧ k ≠ y2 := fun k hk => by rw [hKd2] at hk; rcases hk with hk | hk; (have hq := hG1 k hk; omega); omega
 have eA : m.asks.take k = m.asks := List.take_of_length_le (by omega)
 rw [eA] at hpa
 have hLs : LstP m 0 (H ++ out) M1 := ⟨by rw [hH, packA, hpa], by rw [packA, hpa]⟩
 have hSh := hSh.keep m52 id id id id
 refine send (feg 3 62 63 64 rfl fun _ => wp_block (lp [(3, _), (62, _), (63, _)] (fun (x : Nat × List UInt8 × Ent × Nat × Nat × Nat) => match x with | (i, X, M1, y0, y1, y2) => [(64, .int .i64 (i : Int))]) (fun (x : Nat × List UInt8 × Ent × Nat × Nat × Nat) wx => match x with | (i, X, M1, y0, y1, y2) => Fr (fun k => ¬ K2 k) w51 wx ∧ (i ≤ 3) ∧ (LstP m i X M1) ∧ (Sh wx b27 X M1 y0 y1 y2) ∧ (X.length ≤ 12 + 66100 * (m.asks.length + cntL m i)) ∧ (M1.length ≤ 762 * (m.asks.length + cntL m i)) ∧ (∀ q ∈ M1, q.2.toNat ≤ 16383) ∧ (∀ k, K2 k → k < wx.heap.size ∧ k ≠ b27 ∧ k ≠ y0 ∧ k ≠ y1 ∧ k ≠ y2)) (fun (x : Nat × List UInt8 × Ent × Nat × Nat × Nat) => match x with | (i, X, M1, y0, y1, y2) => 3 - i) (0, H ++ out, M1, y0, y1, y2) ⟨rfl, rfl, rfl, rfl, trivial⟩ ⟨Fr.refl _ _, Nat.zero_le _, hLs, hSh, by simp only [List.length_append]; omega, by omega, hm2, hG2⟩ ?_))
 rintro ⟨i, X, M1, y0, y1, y2⟩ _ w54 ⟨hL53, hi, hLs, hSh, hXl, hMl, hm2, hG2⟩
 refine feg 3 62 63 64 rfl fun _ => ?_
 have z55 := hL53.size
 have hlt := hSh.lts
 have hG1 := fun k (hk : K1 k) => hG2 k (hK2 k hk)
 have hGK := fun k (hk : K k) => hG1 k (hK1 k hk)
 have hGU := fun k (hk : U k) => hGK k (hUK k hk)
 have hf := (hf.s m52).step hL53 (fun k hk hS hk2 => hS (hK2 k (hK1 k hk2)))
 refine sreg (svP (xlss rfl rfl) (fun hc65 => ?_) (fun hc65 => ?_))
 rotate_left
 ·
  refine send ((wp_seq (cno rfl (wp_exit (eThen (eThen (eHit (nThen (fbg 3 rfl fun _ => ?_)))))))))
  obtain ⟨u0, u1, u2, hW, r0, q1, q2, hl0, hl1, hl2, hne, hgs⟩ := hSh
  have hgs : Gd _ b27 y0 y1 y2 := hgs
  obtain ⟨p0, c0, rfl, -⟩ := Rw.form r0
  obtain ⟨a1, c1, rfl, hs1⟩ := q1.form
  obtain ⟨a2, c2, rfl, hs2⟩ := q2.form
  refine sreg (sM rfl (sN rfl (sv (xfld fl116_0 rfl) (sv (xld on37 rfl (hW.r.c 0 rfl rfl)) (sA rfl (send (fbg 2 rfl fun _ => wp_ret (rp1 rfl rfl ?_))))))))
  have hi3 : i = 3 := by omega
  subst hi3
  have hX : X = packM (some []) m := hLs
  exact new_cast r0 hX (hf.mono (fun k hk hS => hS (by rw [hKd]; exact hk))) (by rcases Nat.lt_or_ge y0 w.heap.size with h | h; exact absurd rfl (hGK y0 (by rw [hKd]; exact h)).2.2.1; exact h) (by omega)
 refine send ((wp_seq (cyes rfl (wp_skip (nThen (feg 3 62 63 64 rfl fun _ => wp_seq (wp_block (sreg ?_))))))))
 obtain ⟨u, l, hu, hul, hL⟩ := hls.get (k := i) (by simp; omega)
 have hlm : l ∈ [m.one, m.two, m.three] := List.mem_of_getElem? hul
 have hct := cnt_step hul
 have hL := hL.keep rec_st hU hf (fun k hk h => h (hUK k hk))
 obtain ⟨au, cu, rfl⟩ := hL.form
 have r62 := r62.keep hL53 (fun h => h hKb62)
 refine sv (xidx1 sl60 sz32 rfl rfl rfl (by omega)) (sv (xld on32 rfl (Rw.rng r62 i _ hu)) (sA rfl (send ((sreg (sM rfl (sv (xlen sl32 rfl) (sM rfl (send (fhg 3 62 63 64 68 69 70 rfl fun _ => wp_block (lp [(3, _), (62, _), (63, _), (64, _), (68, _), (69, _)] (fun (x : Nat × List UInt8 × Ent × Nat × Nat × Nat) => match x with | (k, out, M2, z0, z1, z2) => [(70, .int .i64 (k : Int))]) (fun (x : Nat × List UInt8 × Ent × Nat × Nat × Nat) wx => match x with | (k, out, M2, z0, z1, z2) => Fr (fun k => ¬ K2 k) w54 wx ∧ (k ≤ l.length) ∧ (packAll packRec (some M1) X.length (l.take k) = (out, some M2)) ∧ (Sh wx b27 (X ++ out) M2 z0 z1 z2) ∧ (out.length ≤ 66100 * k) ∧ (M2.length ≤ M1.length + 762 * k) ∧ (∀ q ∈ M2, q.2.toNat ≤ 16383) ∧ (∀ k, K2 k → k < wx.heap.size ∧ k ≠ b27 ∧ k ≠ z0 ∧ k ≠ z1 ∧ k ≠ z2)) (fun (x : Nat × List UInt8 × Ent × Nat × Nat × Nat) => match x with | (k, out, M2, z0, z1, z2) => l.length - k) (0, [], M1, y0, y1, y2) ⟨rfl, rfl, rfl, rfl, rfl, rfl, rfl, trivial⟩ ⟨Fr.refl _ _, Nat.zero_le _, rfl, by rw [aN]; exact hSh, Nat.le_refl _, Nat.le_refl _, hm2, hG2⟩ ?_)))))))))))
 rintro ⟨k, out, M2, z0, z1, z2⟩ _ w57 ⟨hL56, hk, hpr, hSh, hol, hMl2, hm2, hG2⟩
 refine fhg 3 62 63 64 68 69 70 rfl fun _ => ?_
 have z58 := hL56.size
 have hlt := hSh.lts
 have hG1 := fun k (hk : K1 k) => hG2 k (hK2 k hk)
 have hGK := fun k (hk : K k) => hG1 k (hK1 k hk)
 have hL := hL.keep rec_st (fun k hk => by have hk := hGU k hk; omega) hL56 (fun k hk h => h (hK2 k (hK1 k (hUK k hk))))
 have hGU := fun k (hk : U k) => hGK k (hUK k hk)
 have hL53 := hL53.step hL56 (fun k hk hS hk2 => hS hk2)
 refine sreg (svP (xlss rfl rfl) (fun hc71 => ?_) (fun hc71 => ?_))
 rotate_left
 ·
  refine send ((wp_seq (cno rfl (wp_exit (eThen (eThen (eHit (nBlock (nThen (feg 3 62 63 64 rfl fun _ => lreg (sv (xadd rfl rfl (w64 (by omega) (by omega))) (sM rfl (lend (nThen ?_))))))))))))))
  have eR : l.take k = l := List.take_of_length_le (by omega)
  rw [eR] at hpr
  refine ⟨(i + 1, X ++ out, M2, z0, z1, z2), _, env_okl ⟨rfl, rfl, rfl, rfl, trivial⟩, ⟨hL53, (by omega), (lst_next hLs hul hpr), (hSh), (by simp only [List.length_append]; omega), (by omega), (hm2), (hG2)⟩, ?_⟩
  show 3 - (i + 1) < 3 - i; omega
 refine send ((wp_seq (cyes rfl (wp_skip (nThen (fhg 3 62 63 64 68 69 70 rfl fun _ => wp_seq (wp_block ?_)))))))
 obtain ⟨r, hrk⟩ := some_of_lt (by omega : k < l.length)
 have hrf := hrs l hlm r (List.mem_of_getElem? hrk)
 refine sreg ?_
 obtain ⟨bE72, oE72, sgE72, rfl, uE72, hsE72, heE72⟩ := LA.get hL hrk
 obtain ⟨vd, vt, vp, rfl, hd, ht, hp⟩ := heE72
 have zE72 := hU _ uE72
 obtain ⟨ad, cd, rfl, -⟩ := id hd
 obtain ⟨at1, ct1, rfl⟩ := ht.form
 obtain ⟨ap1, cp1, rfl⟩ := hp.form
 refine sv (xidx sl32 sz65 rfl rfl rfl (by omega)) (sv (xldS (lens := lRec) ro65 rfl hsE72) (svK (xallS (lens := lRec) in65 rfl) ?_))
 rintro _ w60 ⟨b9, rfl, m61, h9, e59, s59⟩
 refine suK (xstW h9 (lens' := lRec) sz65 rfl rfl rfl rfl rfl) ?_
 rintro w63 ⟨m64, h9, s62⟩
 have hL53 := (hL53.s m61).step m64 (fun k hk hS hk2 => by have hS : k = b9 := hS; have hk3 := hG2 k hk2; omega)
 have hf := ((hf.step hL56 (fun k hk hS hk2 => hS (hK2 k (hK1 k hk2)))).s m61).step m64 (fun k hk hS hk2 => by have hS : k = b9 := hS; have hk3 := hGK k hk2; omega)
 have hL56 := (hL56.s m61).step m64 (fun k hk hS hk2 => by have hS : k = b9 := hS; have hk3 := hG2 k hk2; omega)
 refine send (fig 3 9 62 63 64 68 69 70 rfl fun _ => lreg (sM rfl (sv (xldS (lens := lRec) ro65 rfl h9.r) ?_)))
 have hG2 : ∀ k, K2 k → k < w63.heap.size ∧ k ≠ b27 ∧ k ≠ z0 ∧ k ≠ z1 ∧ k ≠ z2 := fun k hk => by have hq := hG2 k hk; omega
 have hSh := (hSh.keep m61 id id id id).keep m64 (nE (by omega)) (nE (by omega)) (nE (by omega)) (nE (by omega))
 have hd := (hd.keep (fun k hk => by have hk := hGU k hk; omega) m61 nF).keep (fun k hk => by have hk := hGU k hk; omega) m64 (fun k hk hS => by have hk := hGU k hk; have hS : k = b9 := hS; omega)
 have ht := (ht.keep text_st (fun k hk => by have hk := hGU k hk; omega) m61 nF).keep text_st (fun k hk => by have hk := hGU k hk; omega) m64 (fun k hk hS => by have hk := hGU k hk; have hS : k = b9 := hS; omega)
 have hp := (hp.keep pair_st (fun k hk => by have hk := hGU k hk; omega) m61 nF).keep pair_st (fun k hk => by have hk := hGU k hk; omega) m64 (fun k hk hS => by have hk := hGU k hk; have hS : k = b9 := hS; omega)
 refine sc (xcall ca54 rfl) (c54 hd ht hp hSh hrf.1 hrf.2.1 hrf.2.2.1 hrf.2.2.2.1 (by rw [List.length_append]; omega) (by omega) hm2 hG2 (fun k hk => hK2 k (hK1 k (hUK k hk)))) ?_
 rintro _ w65 ⟨M76, ya76, yb76, yc76, hpk76, hSh, hml76, hm2, hKq, m66⟩
 have z67 := m66.size
 have hps : (X ++ out).length = X.length + out.length := List.length_append
 obtain ⟨P, hP⟩ : ∃ P, packRec (some M2) (X.length + out.length) r = (P, some M76) := ⟨_, Prod.ext rfl (by rw [hps] at hpk76; exact hpk76)⟩
 have hSh : Sh w65 b27 (X ++ out ++ P) M76 ya76 yb76 yc76 := by rw [hps, hP] at hSh; exact hSh
 have hPl := hrf.2.2.2.2 M2 (X.length + out.length)
 rw [hP] at hPl
 simp only at hPl
 have hG2 : ∀ k, K2 k → k < w65.heap.size ∧ k ≠ b27 ∧ k ≠ ya76 ∧ k ≠ yb76 ∧ k ≠ yc76 := fun k hk => by have hq := hG2 k hk; have hq2 := hKq k hk; omega
 have hG1 := fun k (hk : K1 k) => hG2 k (hK2 k hk)
 have hGK := fun k (hk : K k) => hG1 k (hK1 k hk)
 have hGU := fun k (hk : U k) => hGK k (hUK k hk)
 have hL56 := hL56.step m66 (fun k hk hS hk2 => hS hk2)
 refine lend (nBlock (nThen (fhg 3 62 63 64 68 69 70 rfl fun _ => lreg (sv (xadd rfl rfl (w64 (by omega) (by omega))) (sM rfl (lend (nThen ?_)))))))
 refine ⟨(k + 1, out ++ P, M76, ya76, yb76, yc76), _, env_okl ⟨rfl, rfl, rfl, rfl, rfl, rfl, rfl, trivial⟩, ⟨hL56, (by omega), (pa_step hpr hrk hP), (by rw [← List.append_assoc]; exact hSh), (by simp only [List.length_append]; omega), (by omega), (hm2), (hG2)⟩, ?_⟩
 show l.length - (k + 1) < l.length - k; omega
end Go.Proofs.YtifnodoffgfpbaaGreatDoor

namespace Go.Proofs.YtifnodoffgfpbaaGreatDoor
open Go

def nd (s : ByteArray) : Nat := ((bt s).drop 1).count 46
theorem nd_step {s : ByteArray} {i : Nat} (h : i < s.size) : ((bt s).drop i).count 46 = (if s[i].toNat = 46 then 1 else 0) + ((bt s).drop (i + 1)).count 46 := by
  rw [wire_one h, List.count_cons, Nat.add_comm]
  congr 1
  by_cases e : s[i].toNat = 46
  · have : s[i] = 46 := UInt8.toNat_inj.1 e
    rw [if_pos e, this]; rfl
  · rw [if_neg e, if_neg (fun q => e (by rw [eq_of_beq q]; rfl))]
def shalR (r : RecD) : Prop := nd r.name ≤ 10 ∧ nd r.host ≤ 10 ∧ nd r.box ≤ 10
def shalM (m : MsgD) : Prop := (∀ a ∈ m.asks, nd a.name ≤ 10) ∧ ∀ l ∈ [m.one, m.two, m.three], ∀ r ∈ l, shalR r
theorem shal_k {m : MsgD} (h : shalM m) : KMsg (fun k => k ≤ 10) m := by
  have hn : ∀ s : ByteArray, nd s ≤ 10 → KName (fun k => k ≤ 10) s := fun s hs k hk => Nat.le_trans hk hs
  have hr : ∀ r, shalR r → KRec (fun k => k ≤ 10) r := fun r hr => ⟨hn _ hr.1, hn _ hr.2.1, hn _ hr.2.2⟩
  exact ⟨fun a ha => hn _ (h.1 a ha), fun r hq => hr r (h.2 m.one (by simp) r hq), fun r hq => hr r (h.2 m.two (by simp) r hq), fun r hq => hr r (h.2 m.three (by simp) r hq)⟩

theorem c51 {w : World} {s : ByteArray} (hs : s.size ≤ 1048576) :
  Ret PP 51 [.string s] w (fun u w' => u = .int .i64 ((nd s : Nat) : Int) ∧ Fr0 w w') := by
 have hf : Fr (fun _ => False) w w := Fr.refl _ _
 refine ret_of Tryz.func51 rfl rfl rfl [(0, _)] rfl ?_
 refine sreg (sA rfl (send ((sreg (sA rfl (send ((wp_seq (sreg (sM rfl (sv (xlenS st9 rfl) (sM rfl (send (feg 0 3 6 7 rfl fun _ => wp_block (lp [(0, _), (6, _)] (fun (x : Nat × Nat) => match x with | (i, c) => [(3, .int .i64 (c : Int)), (7, .int .i64 (i : Int))]) (fun (x : Nat × Nat) wx => match x with | (i, c) => Fr (fun _ => False) w wx ∧ (i ≤ s.size) ∧ (c + ((bt s).drop (max 1 i)).count 46 = nd s) ∧ (c ≤ i)) (fun (x : Nat × Nat) => match x with | (i, c) => s.size - i) (0, 0) ⟨rfl, rfl, rfl, rfl, trivial⟩ ⟨Fr.refl _ _, Nat.zero_le _, Nat.zero_add _, Nat.le_refl _⟩ ?_)))))))))))))))
 rintro ⟨i, c⟩ _ w2 ⟨hL1, hi, hc, hci⟩
 refine feg 0 3 6 7 rfl fun _ => ?_
 have z3 := hL1.size
 refine sreg (svP (xlss rfl rfl) (fun hc8 => ?_) (fun hc8 => ?_))
 ·
  refine send ((wp_seq (cyes rfl (wp_skip (nThen ((wp_seq (wp_block (sreg (sM rfl (sA rfl (send (ffg 0 3 4 6 7 rfl fun _ => sreg (sM rfl (sM rfl (sv (xidxS st9 rfl rfl rfl (by omega)) (svP (xeql rfl rfl) (fun hc13 => ?_) (fun hc13 => ?_))))))))))))))))))
  ·
   refine sM rfl (gyes rfl rfl rfl (sM rfl (gyes rfl rfl rfl (svP (xgtr rfl rfl) (fun hc16 => ?_) (fun hc16 => ?_)))))
   ·
    refine sv (xpickT rfl rfl) (send ((cyes rfl (lreg (sM rfl (sv (xadd rfl rfl (w64 (by omega) (by omega))) (sA rfl (lend (nBlock (nThen (feg 0 3 6 7 rfl fun _ => lreg (sv (xadd rfl rfl (w64 (by omega) (by omega))) (sM rfl (lend (nThen ?_)))))))))))))))
    refine ⟨(i + 1, c + 1), _, env_okl ⟨rfl, rfl, rfl, rfl, trivial⟩, ⟨hL1, (by omega), (by have hq := nd_step (by omega : i < s.size); rw [if_pos (by omega)] at hq; rw [show max 1 i = i by omega] at hc; rw [show max 1 (i + 1) = i + 1 by omega]; omega), (by omega)⟩, ?_⟩
    show s.size - (i + 1) < s.size - i; omega
   refine sv (xpickT rfl rfl) (send ((cno rfl (wp_skip (nBlock (nThen (feg 0 3 6 7 rfl fun _ => lreg (sv (xadd rfl rfl (w64 (by omega) (by omega))) (sM rfl (lend (nThen ?_)))))))))))
   refine ⟨(i + 1, c), _, env_okl ⟨rfl, rfl, rfl, rfl, trivial⟩, ⟨hL1, (by omega), (by have h0 : i = 0 := (by omega); subst h0; exact hc), (by omega)⟩, ?_⟩
   show s.size - (i + 1) < s.size - i; omega
  refine sM rfl (gno rfl rfl rfl (gno rfl rfl rfl (sv (xpickF rfl rfl) (send ((cno rfl (wp_skip (nBlock (nThen (feg 0 3 6 7 rfl fun _ => lreg (sv (xadd rfl rfl (w64 (by omega) (by omega))) (sM rfl (lend (nThen ?_))))))))))))))
  refine ⟨(i + 1, c), _, env_okl ⟨rfl, rfl, rfl, rfl, trivial⟩, ⟨hL1, (by omega), (by rw [show max 1 (i + 1) = i + 1 by omega]; rcases Nat.eq_zero_or_pos i with h0 | h0; (subst h0; exact hc); have hq := nd_step (by omega : i < s.size); rw [if_neg (by omega)] at hq; rw [show max 1 i = i by omega] at hc; omega), (by omega)⟩, ?_⟩
  show s.size - (i + 1) < s.size - i; omega
 refine send ((wp_seq (cno rfl (wp_exit (eThen (eThen (eHit (nThen ((sreg (sM rfl (sA rfl (send (fbg 2 rfl fun _ => wp_ret (rp1 rfl rfl ?_)))))))))))))))
 have h0 : (bt s).drop (max 1 i) = [] := List.drop_of_length_le (by rw [bt_length]; omega)
 rw [h0] at hc
 have hf := hf.s hL1
 exact ⟨by rw [← hc]; rfl, hf⟩
theorem c24 {w : World} {U : Nat → Prop} (hU : ∀ k, U k → k < w.heap.size) {m : MsgD} {va v1 v2 v3 : Value} (ha : LA AskEl lAsk U w va m.asks) (y1 : LA RecEl lRec U w v1 m.one) (y2 : LA RecEl lRec U w v2 m.two) (y3 : LA RecEl lRec U w v3 m.three) (hfa : ∀ a ∈ m.asks, a.name.size ≤ 1048576) (hna : m.asks.length ≤ 1048576) (hfr : ∀ l ∈ [m.one, m.two, m.three], ∀ r ∈ l, r.fits) (hll : ∀ l ∈ [m.one, m.two, m.three], l.length ≤ 1048576)  :
  Ret PP 24 [ag (msgSegs m.head va v1 v2 v3)] w (Grd w (shalM m)) := by
 have hls : All2 (LA RecEl lRec U w) [v1, v2, v3] [m.one, m.two, m.three] := All2.cons y1 (All2.cons y2 (All2.cons y3 All2.nil))
 obtain ⟨aa, ca, rfl⟩ := ha.form
 obtain ⟨a1, c1, rfl⟩ := y1.form
 obtain ⟨a2, c2, rfl⟩ := y2.form
 obtain ⟨a3, c3, rfl⟩ := y3.form
 have hf : Fr (fun _ => False) w w := Fr.refl _ _
 refine ret_of Tryz.func24 rfl rfl rfl [(0, _)] rfl ?_
 refine sreg (svK (xboxS (lens := lMsg) rfl rfl) ?_)
 rintro _ w2 ⟨b1, rfl, m3, h1, e1, s1⟩
 refine sA rfl (send ((wp_seq (sreg (sv (xfld fl34_1 rfl) (sv (xld on31 rfl (h1.r.c 10 rfl rfl)) (sv (xlen sl31 rfl) (sM rfl (send (feg 1 10 11 12 rfl fun _ => wp_block (lp [(1, _), (10, _), (11, _)] (fun (k : Nat) => [(12, .int .i64 (k : Int))]) (fun (k : Nat) wx => Fr (fun _ => False) w2 wx ∧ (k ≤ m.asks.length) ∧ (∀ i (a : AskD), i < k → m.asks[i]? = some a → nd a.name ≤ 10)) (fun (k : Nat) => m.asks.length - k) 0 ⟨rfl, rfl, rfl, rfl, trivial⟩ ⟨Fr.refl _ _, Nat.zero_le _, upto_zero⟩ ?_)))))))))))
 rintro k _ w5 ⟨hL4, hk, hT⟩
 refine feg 1 10 11 12 rfl fun _ => ?_
 have z6 := hL4.size
 have hf := (hf.s m3).s hL4
 have h1 := h1.k hL4
 refine sreg (svP (xlss rfl rfl) (fun hc13 => ?_) (fun hc13 => ?_))
 ·
  refine send ((wp_seq (cyes rfl (wp_skip (nThen (feg 1 10 11 12 rfl fun _ => wp_seq (wp_block ?_)))))))
  obtain ⟨a, hak⟩ := some_of_lt (by omega : k < m.asks.length)
  have hal := hfa _ (List.mem_of_getElem? hak)
  have ha := (ha.keep ask_st (lU hU (by omega)) m3 nF).keep ask_st (lU hU (by omega)) hL4 nF
  refine sreg ?_
  obtain ⟨bE14, oE14, sgE14, rfl, uE14, hsE14, heE14⟩ := LA.get ha hak
  obtain rfl := heE14
  have zE14 := hU _ uE14
  refine sv (xidx sl31 sz59 rfl rfl rfl (by omega)) (sv (xldS (lens := [1, 1, 1]) ro59 rfl hsE14) (svK (xallS (lens := [1, 1, 1]) in59 rfl) ?_))
  rintro _ w8 ⟨b4, rfl, m9, h4, e7, s7⟩
  refine suK (xstW h4 (lens' := [1, 1, 1]) sz59 rfl rfl rfl rfl rfl) ?_
  rintro w11 ⟨m12, h4, s10⟩
  refine send (ffg 1 4 10 11 12 rfl fun _ => sreg (sv (xfld fl59_0 rfl) (sv (xld on9 rfl (h4.r.c 0 rfl rfl)) (sc (xcall ca51 rfl) (c51 (by omega)) ?_))))
  rintro _ w13 ⟨rfl, m14⟩
  have z15 := m14.size
  refine svP (xgtr rfl rfl) (fun hc19 => ?_) (fun hc19 => ?_)
  ·
   have hf := ((hf.s m9).t m12 (by omega)).s m14
   refine send ((cyes rfl (sreg (sA rfl (send (fbg 2 rfl fun _ => wp_ret (rBlock (rThen (rThen (rBlock (rThen (rp1 rfl rfl ?_))))))))))))
   exact ⟨_, rfl, (fun h => by cases h), hf⟩
  have hL4 := ((hL4.s m9).t m12 (by omega)).s m14
  refine send ((cno rfl (wp_skip (nBlock (nThen (feg 1 10 11 12 rfl fun _ => lreg (sv (xadd rfl rfl (w64 (by omega) (by omega))) (sM rfl (lend (nThen ?_))))))))))
  refine ⟨k + 1, _, env_okl ⟨rfl, rfl, rfl, rfl, trivial⟩, ⟨hL4, (by omega), (upto_step hT hak (by omega))⟩, ?_⟩
  show m.asks.length - (k + 1) < m.asks.length - k; omega
 refine send ((wp_seq (cno rfl (wp_exit (eThen (eThen (eHit (nThen (fbg 1 rfl fun _ => wp_seq (sreg (sv (xfld fl34_2 rfl) (sv (xld on32 rfl (h1.r.c 11 rfl rfl)) (sv (xfld fl34_3 rfl) (sv (xld on32 rfl (h1.r.c 12 rfl rfl)) (sv (xfld fl34_4 rfl) (sv (xld on32 rfl (h1.r.c 13 rfl rfl)) (svK (xslit ([.slice a1 m.one.length c1, .slice a2 m.two.length c2, .slice a3 m.three.length c3]) sl60 in32 rfl (by decide) rfl rfl rfl rfl (by decide) rfl rfl) ?_)))))))))))))))))
 rintro _ w17 ⟨b27, rfl, m18, h27, e27, s27, r27⟩
 refine sv (xlen sl60 rfl) (sM rfl (send (fdg 27 28 29 rfl fun _ => wp_block (lp [(27, _), (28, _)] (fun (i : Nat) => [(29, .int .i64 (i : Int))]) (fun (i : Nat) wx => Fr (fun _ => False) w17 wx ∧ (i ≤ 3) ∧ (∀ j (l : List RecD), j < i → [m.one, m.two, m.three][j]? = some l → ∀ r ∈ l, shalR r)) (fun (i : Nat) => 3 - i) 0 ⟨rfl, rfl, rfl, trivial⟩ ⟨Fr.refl _ _, Nat.zero_le _, upto_zero⟩ ?_))))
 rintro i _ w20 ⟨hL19, hi, hO⟩
 refine fdg 27 28 29 rfl fun _ => ?_
 have z21 := hL19.size
 have hf := (hf.s m18).s hL19
 refine sreg (svP (xlss rfl rfl) (fun hc30 => ?_) (fun hc30 => ?_))
 rotate_left
 ·
  refine send ((wp_seq (cno rfl (wp_exit (eThen (eThen (eHit (nThen (fg [] trivial fun _ => sreg (sA rfl (send (fbg 2 rfl fun _ => wp_ret (rp1 rfl rfl ?_)))))))))))))
  exact ⟨_, rfl, (fun _ => ⟨upto_all hT (by omega), upto_all hO (by simp; omega)⟩), hf⟩
 refine send ((wp_seq (cyes rfl (wp_skip (nThen (fdg 27 28 29 rfl fun _ => wp_seq (wp_block (sreg ?_))))))))
 obtain ⟨u, l, hu, hul, hL⟩ := hls.get (k := i) (by simp; omega)
 have hlm : l ∈ [m.one, m.two, m.three] := List.mem_of_getElem? hul
 have hln := hll l hlm
 have hL := hL.keep rec_st hU hf nF
 obtain ⟨au, cu, rfl⟩ := hL.form
 have r27 := r27.k hL19
 refine sv (xidx1 sl60 sz32 rfl rfl rfl (by omega)) (sv (xld on32 rfl (Rw.rng r27 i _ hu)) (sA rfl (send ((sreg (sM rfl (sv (xlen sl32 rfl) (sM rfl (send (fgg 27 28 29 33 34 35 rfl fun _ => wp_block (lp [(27, _), (28, _), (29, _), (33, _), (34, _)] (fun (k : Nat) => [(35, .int .i64 (k : Int))]) (fun (k : Nat) wx => Fr (fun _ => False) w20 wx ∧ (k ≤ l.length) ∧ (∀ j (r : RecD), j < k → l[j]? = some r → shalR r)) (fun (k : Nat) => l.length - k) 0 ⟨rfl, rfl, rfl, rfl, rfl, rfl, trivial⟩ ⟨Fr.refl _ _, Nat.zero_le _, upto_zero⟩ ?_)))))))))))
 rintro k _ w23 ⟨hL22, hk, hI⟩
 refine fgg 27 28 29 33 34 35 rfl fun _ => ?_
 have z24 := hL22.size
 have hL19 := hL19.s hL22
 refine sreg (svP (xlss rfl rfl) (fun hc36 => ?_) (fun hc36 => ?_))
 rotate_left
 ·
  refine send ((wp_seq (cno rfl (wp_exit (eThen (eThen (eHit (nBlock (nThen (fdg 27 28 29 rfl fun _ => lreg (sv (xadd rfl rfl (w64 (by omega) (by omega))) (sM rfl (lend (nThen ?_))))))))))))))
  refine ⟨i + 1, _, env_okl ⟨rfl, rfl, rfl, trivial⟩, ⟨hL19, (by omega), (upto_step hO hul (upto_all hI (by omega)))⟩, ?_⟩
  show 3 - (i + 1) < 3 - i; omega
 refine send ((wp_seq (cyes rfl (wp_skip (nThen (fgg 27 28 29 33 34 35 rfl fun _ => wp_seq (wp_block ?_)))))))
 obtain ⟨r, hrk⟩ := some_of_lt (by omega : k < l.length)
 have hrf := hfr l hlm r (List.mem_of_getElem? hrk)
 have hrf0 := hrf
 simp only [RecD.fits] at hrf0
 have hL := hL.keep rec_st (lU hU (by omega)) hL22 nF
 refine sreg ?_
 obtain ⟨bE37, oE37, sgE37, rfl, uE37, hsE37, heE37⟩ := LA.get hL hrk
 obtain ⟨vd, vt, vp, rfl, hd, ht, hp⟩ := heE37
 have zE37 := hU _ uE37
 obtain ⟨ad, cd, rfl, -⟩ := id hd
 obtain ⟨at1, ct1, rfl⟩ := ht.form
 obtain ⟨ap1, cp1, rfl⟩ := hp.form
 refine sv (xidx sl32 sz65 rfl rfl rfl (by omega)) (sv (xldS (lens := lRec) ro65 rfl hsE37) (svK (xallS (lens := lRec) in65 rfl) ?_))
 rintro _ w26 ⟨b8, rfl, m27, h8, e25, s25⟩
 refine suK (xstW h8 (lens' := lRec) sz65 rfl rfl rfl rfl rfl) ?_
 rintro w29 ⟨m30, h8, s28⟩
 refine send (fhg 8 27 28 29 33 34 35 rfl fun _ => sreg (sv (xfld fl65_0 rfl) (sv (xld on9 rfl (h8.r.c 0 rfl rfl)) (sc (xcall ca51 rfl) (c51 (by omega)) ?_))))
 rintro _ w31 ⟨rfl, m32⟩
 have z33 := m32.size
 have hf := (((hf.s hL22).s m27).t m30 (by omega)).s m32
 refine svP (xgtr rfl rfl) (fun hc42 => ?_) (fun hc42 => ?_)
 ·
  refine sM rfl (gno rfl rfl rfl (gno rfl rfl rfl (gno rfl rfl rfl (gno rfl rfl rfl (sv (xpickT rfl rfl) (sM rfl (gno rfl rfl rfl (gno rfl rfl rfl (gno rfl rfl rfl (gno rfl rfl rfl (sv (xpickT rfl rfl) (send ((cyes rfl (sreg (sA rfl (send (fbg 2 rfl fun _ => wp_ret (rBlock (rThen (rThen (rBlock (rBlock (rThen (rThen (rBlock (rThen (rp1 rfl rfl ?_))))))))))))))))))))))))))))
  exact ⟨_, rfl, (fun h => by cases h), hf⟩
 have h8 := h8.k m32
 refine sM rfl (gyes rfl rfl rfl (sv (xfld fl65_7 rfl) (gyes rfl rfl rfl (sv (xld on9 rfl (h8.r.c 7 rfl rfl)) (gyes rfl rfl rfl (sc (xcall ca51 rfl) (c51 (by omega)) ?_))))))
 rintro _ w34 ⟨rfl, m35⟩
 have z36 := m35.size
 have hf := hf.s m35
 refine gyes rfl rfl rfl (svP (xgtr rfl rfl) (fun hc47 => ?_) (fun hc47 => ?_))
 ·
  refine sv (xpickF rfl rfl) (sM rfl (gno rfl rfl rfl (gno rfl rfl rfl (gno rfl rfl rfl (gno rfl rfl rfl (sv (xpickT rfl rfl) (send ((cyes rfl (sreg (sA rfl (send (fbg 2 rfl fun _ => wp_ret (rBlock (rThen (rThen (rBlock (rBlock (rThen (rThen (rBlock (rThen (rp1 rfl rfl ?_)))))))))))))))))))))))
  exact ⟨_, rfl, (fun h => by cases h), hf⟩
 have h8 := h8.k m35
 refine sv (xpickF rfl rfl) (sM rfl (gyes rfl rfl rfl (sv (xfld fl65_8 rfl) (gyes rfl rfl rfl (sv (xld on9 rfl (h8.r.c 8 rfl rfl)) (gyes rfl rfl rfl (sc (xcall ca51 rfl) (c51 (by omega)) ?_)))))))
 rintro _ w37 ⟨rfl, m38⟩
 have z39 := m38.size
 refine gyes rfl rfl rfl (svP (xgtr rfl rfl) (fun hc53 => ?_) (fun hc53 => ?_))
 ·
  have hf := hf.s m38
  refine sv (xpickF rfl rfl) (send ((cyes rfl (sreg (sA rfl (send (fbg 2 rfl fun _ => wp_ret (rBlock (rThen (rThen (rBlock (rBlock (rThen (rThen (rBlock (rThen (rp1 rfl rfl ?_)))))))))))))))))
  exact ⟨_, rfl, (fun h => by cases h), hf⟩
 have hL22 := ((((hL22.s m27).t m30 (by omega)).s m32).s m35).s m38
 refine sv (xpickF rfl rfl) (send ((cno rfl (wp_skip (nBlock (nThen (fgg 27 28 29 33 34 35 rfl fun _ => lreg (sv (xadd rfl rfl (w64 (by omega) (by omega))) (sM rfl (lend (nThen ?_)))))))))))
 refine ⟨k + 1, _, env_okl ⟨rfl, rfl, rfl, rfl, rfl, rfl, trivial⟩, ⟨hL22, (by omega), (upto_step hI hrk ⟨by omega, by omega, by omega⟩)⟩, ?_⟩
 show l.length - (k + 1) < l.length - k; omega
end Go.Proofs.YtifnodoffgfpbaaGreatDoor

namespace Go.Proofs.YtifnodoffgfpbaaGreatDoor
open Go
theorem c8 {w : World} {U : Nat → Prop} (hU : ∀ k, U k → k < w.heap.size) {m : MsgD} {va v1 v2 v3 : Value} (ha : LA AskEl lAsk U w va m.asks) (y1 : LA RecEl lRec U w v1 m.one) (y2 : LA RecEl lRec U w v2 m.two) (y3 : LA RecEl lRec U w v3 m.three) (hm : m.fits) (hG : GE w) (hsz : 21 ≤ w.heap.size) {Tz : TypeId} {xz : Option Addr} (hg0 : w.rangeAt 0 0 [.iface Tz (.pointer xz)]) (hCT : CmpT Tz) {sh : Bool}  :
  Ret PP 8 [ag (msgSegs m.head va v1 v2 v3), .bool sh] w (fun u w' => u = .bool true ∧ Fr0 w w') := by
 obtain ⟨aa, ca, rfl⟩ := ha.form
 obtain ⟨a1, c1, rfl⟩ := y1.form
 obtain ⟨a2, c2, rfl⟩ := y2.form
 obtain ⟨a3, c3, rfl⟩ := y3.form
 have hfl := hm.lists
 have hf : Fr (fun _ => False) w w := Fr.refl _ _
 refine ret_of Tryz.func8 rfl rfl rfl [(0, _), (1, _)] rfl ?_
 refine sreg (svK (xboxS (lens := lMsg) rfl rfl) ?_)
 rintro _ w2 ⟨b2, rfl, m3, h2, e1, s1⟩
 have ha := ha.keep ask_st (lU hU (by omega)) m3 nF
 have y1 := y1.keep rec_st (lU hU (by omega)) m3 nF
 have y2 := y2.keep rec_st (lU hU (by omega)) m3 nF
 have y3 := y3.keep rec_st (lU hU (by omega)) m3 nF
 refine sA rfl (send (fcg 1 2 rfl fun _ => wp_seq (sreg (sv (xldS (lens := lMsg) ro28 rfl h2.r) (sc (xcall ca12 rfl) (c12 (lU hU (by omega)) ha y1 y2 y3 hm) ?_)))))
 rintro _ w4 ⟨rfl, m5⟩
 have z6 := m5.size
 have h2 := h2.k m5
 have ha := ha.keep ask_st (lU hU (by omega)) m5 nF
 have y1 := y1.keep rec_st (lU hU (by omega)) m5 nF
 have y2 := y2.keep rec_st (lU hU (by omega)) m5 nF
 have y3 := y3.keep rec_st (lU hU (by omega)) m5 nF
 refine sv (xnot rfl) (send ((cno rfl (wp_skip (nThen (fcg 1 2 rfl fun _ => sreg (sv (xldS (lens := lMsg) ro28 rfl h2.r) (sc (xcall ca13 rfl) (c13 (U := U) (lU hU (by omega)) ha y1 y2 y3 hm.2.1 hfl.2 hfl.1 hm.1) ?_))))))))
 rintro _ w7 ⟨vc, vc1, vc2, vc3, rfl, ka, z1, z2, z3, m8⟩
 have z9 := m8.size
 obtain ⟨ac, cc, rfl⟩ := ka.form
 obtain ⟨ac1, cc1, rfl⟩ := z1.form
 obtain ⟨ac2, cc2, rfl⟩ := z2.form
 obtain ⟨ac3, cc3, rfl⟩ := z3.form
 refine svK (xallS (lens := lMsg) in34 rfl) ?_
 rintro _ w11 ⟨b5, rfl, m12, h5, e10, s10⟩
 refine suK (xstW h5 (lens' := lMsg) sz34 rfl rfl rfl rfl rfl) ?_
 rintro w14 ⟨m15, h5, s13⟩
 have ka := (ka.keep ask_st (lUb hU (by omega) (by omega)) m12 nF).keep ask_st (lUb hU (by omega) (by omega)) m15 (nUb hU (by omega) (by omega))
 have z1 := (z1.keep rec_st (lUb hU (by omega) (by omega)) m12 nF).keep rec_st (lUb hU (by omega) (by omega)) m15 (nUb hU (by omega) (by omega))
 have z2 := (z2.keep rec_st (lUb hU (by omega) (by omega)) m12 nF).keep rec_st (lUb hU (by omega) (by omega)) m15 (nUb hU (by omega) (by omega))
 have z3 := (z3.keep rec_st (lUb hU (by omega) (by omega)) m12 nF).keep rec_st (lUb hU (by omega) (by omega)) m15 (nUb hU (by omega) (by omega))
 refine send (fdg 1 2 5 rfl fun _ => wp_seq (sreg (sv (xldS (lens := lMsg) ro34 rfl h5.r) (sc (xcall ca14 rfl) (c14 (lUb hU (by omega) (by omega)) ka z1 z2 z3 hm.2.1 hfl.2 hfl.1 hm.1) ?_))))
 rintro _ w16 ⟨gb18, rfl, gp18, m17⟩
 have z18 := m17.size
 have hf := (((((hf.s m3).s m5).s m8).s m12).t m15 (by omega)).s m17
 rcases Bool.eq_false_or_eq_true gb18 with rfl | rfl
 rotate_left
 ·
  refine sv (xnot rfl) (sM rfl (gno rfl rfl rfl (gno rfl rfl rfl (gno rfl rfl rfl (sv (xpickT rfl rfl) (sM rfl (gno rfl rfl rfl (gno rfl rfl rfl (gno rfl rfl rfl (sv (xpickT rfl rfl) (send ((cyes rfl (sreg (sA rfl (send (fbg 4 rfl fun _ => wp_ret (rThen (rp1 rfl rfl ?_)))))))))))))))))))
  first | exact ⟨rfl, hf⟩ | exact ⟨by simp, hf⟩
 have hfew := gp18 rfl
 obtain ⟨hna, hpk, hcn, hho⟩ := few_pack hfew
 have hpm := packM_ge (some []) m
 have hpM := packM_le hfew
 have h5 := h5.k m17
 have ka := ka.keep ask_st (lUb hU (by omega) (by omega)) m17 nF
 have z1 := z1.keep rec_st (lUb hU (by omega) (by omega)) m17 nF
 have z2 := z2.keep rec_st (lUb hU (by omega) (by omega)) m17 nF
 have z3 := z3.keep rec_st (lUb hU (by omega) (by omega)) m17 nF
 refine sv (xnot rfl) (sM rfl (gyes rfl rfl rfl (sv (xldS (lens := lMsg) ro34 rfl h5.r) (gyes rfl rfl rfl (sc (xcall ca16 rfl) (c16 (lUb hU (by omega) (by omega)) ka z1 z2 z3 hfl.2 hfl.1) ?_)))))
 rintro _ w19 ⟨gb22, rfl, gp22, m20⟩
 have z21 := m20.size
 have hf := hf.s m20
 rcases Bool.eq_false_or_eq_true gb22 with rfl | rfl
 rotate_left
 ·
  refine gyes rfl rfl rfl (sv (xnot rfl) (sv (xpickF rfl rfl) (sM rfl (gno rfl rfl rfl (gno rfl rfl rfl (gno rfl rfl rfl (sv (xpickT rfl rfl) (send ((cyes rfl (sreg (sA rfl (send (fbg 4 rfl fun _ => wp_ret (rThen (rp1 rfl rfl ?_))))))))))))))))
  first | exact ⟨rfl, hf⟩ | exact ⟨by simp, hf⟩
 have hpl := gp22 rfl
 have hrok : ∀ l ∈ [m.one, m.two, m.three], ∀ r ∈ l, ReadOk r := fun l hl r hr => readOk_of (hpk l hl r hr) (hpl l hl r hr)
 have h5 := h5.k m20
 have ka := ka.keep ask_st (lUb hU (by omega) (by omega)) m20 nF
 have z1 := z1.keep rec_st (lUb hU (by omega) (by omega)) m20 nF
 have z2 := z2.keep rec_st (lUb hU (by omega) (by omega)) m20 nF
 have z3 := z3.keep rec_st (lUb hU (by omega) (by omega)) m20 nF
 refine gyes rfl rfl rfl (sv (xnot rfl) (sv (xpickF rfl rfl) (sM rfl (gyes rfl rfl rfl (sv (xldS (lens := lMsg) ro34 rfl h5.r) (gyes rfl rfl rfl (sc (xcall ca24 rfl) (c24 (lUb hU (by omega) (by omega)) ka z1 z2 z3 hm.2.1 hm.1 hfl.2 hfl.1) ?_)))))))
 rintro _ w22 ⟨gb27, rfl, gp27, m23⟩
 have z24 := m23.size
 have hf := hf.s m23
 rcases Bool.eq_false_or_eq_true gb27 with rfl | rfl
 rotate_left
 ·
  refine gyes rfl rfl rfl (sv (xnot rfl) (sv (xpickF rfl rfl) (send ((cyes rfl (sreg (sA rfl (send (fbg 4 rfl fun _ => wp_ret (rThen (rp1 rfl rfl ?_)))))))))))
  first | exact ⟨rfl, hf⟩ | exact ⟨by simp, hf⟩
 have hsh := shal_k (gp27 rfl)
 refine gyes rfl rfl rfl (sv (xnot rfl) (sv (xpickF rfl rfl) (send ((cno rfl (wp_skip (nThen (fdg 1 2 5 rfl fun _ => ?_))))))))
 have hmL := msgL_le hfew
 have h5 := h5.k m23
 have ka := ka.keep ask_st (lUb hU (by omega) (by omega)) m23 nF
 have z1 := z1.keep rec_st (lUb hU (by omega) (by omega)) m23 nF
 have z2 := z2.keep rec_st (lUb hU (by omega) (by omega)) m23 nF
 have z3 := z3.keep rec_st (lUb hU (by omega) (by omega)) m23 nF
 refine sreg (sv (xldS (lens := lMsg) ro34 rfl h5.r) (sc (xcall ca20 rfl) (c20f (lUb hU (by omega) (by omega)) hm hfew ka z1 z2 z3) ?_))
 rintro _ w25 ⟨p31, q31, g31, rfl, r31, m26, a31, l31⟩
 have z27 := m26.size
 have hG := ((((((((hG.k0 m3 (by omega)).k0 m5 (by omega)).k0 m8 (by omega)).k0 m12 (by omega)).k1 m15 (by omega) (by omega)).k0 m17 (by omega)).k0 m20 (by omega)).k0 m23 (by omega)).k0 m26 (by omega)
 have hg0 := rng_fr (rng_fr (rng_fr (rng_fr (rng_fr (rng_fr (rng_fr (rng_fr (rng_fr hg0 m3 (by omega) id) m5 (by omega) id) m8 (by omega) id) m12 (by omega) id) m15 (by omega) (nE (by omega))) m17 (by omega) id) m20 (by omega) id) m23 (by omega) id) m26 (by omega) id
 have ha := ((((((ha.keep ask_st (lU hU (by omega)) m8 nF).keep ask_st (lU hU (by omega)) m12 nF).keep ask_st (lU hU (by omega)) m15 (nU hU (by omega))).keep ask_st (lU hU (by omega)) m17 nF).keep ask_st (lU hU (by omega)) m20 nF).keep ask_st (lU hU (by omega)) m23 nF).keep ask_st (lU hU (by omega)) m26 nF
 have y1 := ((((((y1.keep rec_st (lU hU (by omega)) m8 nF).keep rec_st (lU hU (by omega)) m12 nF).keep rec_st (lU hU (by omega)) m15 (nU hU (by omega))).keep rec_st (lU hU (by omega)) m17 nF).keep rec_st (lU hU (by omega)) m20 nF).keep rec_st (lU hU (by omega)) m23 nF).keep rec_st (lU hU (by omega)) m26 nF
 have y2 := ((((((y2.keep rec_st (lU hU (by omega)) m8 nF).keep rec_st (lU hU (by omega)) m12 nF).keep rec_st (lU hU (by omega)) m15 (nU hU (by omega))).keep rec_st (lU hU (by omega)) m17 nF).keep rec_st (lU hU (by omega)) m20 nF).keep rec_st (lU hU (by omega)) m23 nF).keep rec_st (lU hU (by omega)) m26 nF
 have y3 := ((((((y3.keep rec_st (lU hU (by omega)) m8 nF).keep rec_st (lU hU (by omega)) m12 nF).keep rec_st (lU hU (by omega)) m15 (nU hU (by omega))).keep rec_st (lU hU (by omega)) m17 nF).keep rec_st (lU hU (by omega)) m20 nF).keep rec_st (lU hU (by omega)) m23 nF).keep rec_st (lU hU (by omega)) m26 nF
 have h2 := ((((((h2.k m8).k m12).keep m15 (nE (by omega))).k m17).k m20).k m23).k m26
 have hf := hf.s m26
 have ka := ka.keep ask_st (lUb hU (by omega) (by omega)) m26 nF
 have z1 := z1.keep rec_st (lUb hU (by omega) (by omega)) m26 nF
 have z2 := z2.keep rec_st (lUb hU (by omega) (by omega)) m26 nF
 have z3 := z3.keep rec_st (lUb hU (by omega) (by omega)) m26 nF
 have h5 := h5.k m26
 refine sA rfl (send ((wp_seq (sreg (sM rfl (send (feg 2 5 6 32 rfl fun _ => ?_)))))))
 refine jcut [(2, _), (5, _)] ⟨rfl, rfl, trivial⟩ (fun (x : List UInt8 × Value × Nat × (Nat → Prop)) => match x with | (wb, wv, wg, Kp) => [(6, wv)]) (fun (x : List UInt8 × Value × Nat × (Nat → Prop)) wx => match x with | (wb, wv, wg, Kp) => Fr (fun _ => False) w25 wx ∧ (BR wx wv wg wb.length wb) ∧ (MsgR Kp wb m) ∧ (∀ k, Kp k → k ≤ 10) ∧ (wb.length ≤ 10000000) ∧ (wg < wx.heap.size)) ?_ ?_
 ·
  have hJ28 : Fr (fun _ => False) w25 w25 := Fr.refl _ _
  refine cB rfl (fun hb => ?_) (fun hb => ?_)
  ·
   refine lreg (sv (xldS (lens := lMsg) ro34 rfl h5.r) (sc (xcall ca25 rfl) (c25 (lUb hU (by omega) (by omega)) ka z1 z2 z3 hm hfew) ?_))
   rintro _ w29 ⟨p34, q34, g34, rfl, r34, m30, a34, l34⟩
   have z31 := m30.size
   have hJ28 := hJ28.s m30
   refine sA rfl (lend ?_)
   exact ⟨rfl, (packM (some []) m, _, g34, fun k => k ≤ 10), _, env_okl ⟨rfl, rfl, rfl, trivial⟩, ⟨hJ28, (r34), (packM_at (few_names hfew).1 (few_names hfew).2 hsh), (fun k h => h), (by omega), (by omega)⟩⟩
  refine wp_skip ?_
  exact ⟨rfl, (msgL m, _, g31, fun k => k = 0), _, env_okl ⟨rfl, rfl, rfl, trivial⟩, ⟨hJ28, (r31), (msgL_at (few_names hfew).1 (few_names hfew).2 rfl), (fun k h => by have h : k = 0 := h; omega), (by omega), (by omega)⟩⟩
 rintro ⟨wb, wv, wg, Kp⟩ _ w32 ⟨hJ28, hwr, hMR, hKp, hwl, hwg⟩
 have z33 := hJ28.size
 have hG := hG.k0 hJ28 (by omega)
 have hg0 := rng_fr hg0 hJ28 (by omega) id
 refine nThen (fdg 2 5 6 rfl fun _ => sreg (sM rfl (sc (xcall ca26 rfl) (c26 (U := fun k => k = wg) (b := wb) (n := wb.length) (m := m) (Kp := Kp) (fun k hk => by have hk : k = wg := hk; omega) (by rw [List.take_length]; exact BR.ba hwr rfl) (Nat.le_refl _) (Nat.le_refl _) (by omega) hG (by omega) hMR (fun k hk => ⟨hKp k hk, .inr rfl⟩) hho (by omega) (by omega) (by omega) (by omega) hna (fun r hr => ⟨hrok m.one (by simp) r hr, asc_of (hpk m.one (by simp) r hr)⟩) (fun r hr => ⟨hrok m.two (by simp) r hr, asc_of (hpk m.two (by simp) r hr)⟩) (fun r hr => ⟨hrok m.three (by simp) r hr, asc_of (hpk m.three (by simp) r hr)⟩) hg0 hCT (fun r hr => back_of (hpk m.one (by simp) r hr) (hfl.2 m.one (by simp) r hr)) (fun r hr => back_of (hpk m.two (by simp) r hr) (hfl.2 m.two (by simp) r hr)) (fun r hr => back_of (hpk m.three (by simp) r hr) (hfl.2 m.three (by simp) r hr))) ?_)))
 rintro _ w34 ⟨⟨l1p, l2p, l3p, uap, u1p, u2p, u3p, rfl, jl1p, jl2p, jl3p, jap, j1p, j2p, j3p⟩, m35⟩
 have z36 := m35.size
 obtain ⟨adap, cdap, rfl⟩ := jap.form
 obtain ⟨ad1p, cd1p, rfl⟩ := j1p.form
 obtain ⟨ad2p, cd2p, rfl⟩ := j2p.form
 obtain ⟨ad3p, cd3p, rfl⟩ := j3p.form
 obtain ⟨bf1p, bf2p, bf3p⟩ := back_fits hm hfew jl1p jl2p jl3p
 refine sM rfl (sE2 rfl (svK (xallS (lens := lMsg) in28 rfl) ?_))
 rintro _ w38 ⟨b7, rfl, m39, h7, e37, s37⟩
 refine suK (xstW h7 (lens' := lMsg) sz28 rfl rfl rfl rfl rfl) ?_
 rintro w41 ⟨m42, h7, s40⟩
 have hG := ((hG.k0 m35 (by omega)).k0 m39 (by omega)).k1 m42 (by omega) (by omega)
 have hg0 := rng_fr (rng_fr (rng_fr hg0 m35 (by omega) id) m39 (by omega) id) m42 (by omega) (nE (by omega))
 have hwr := ((hwr.k m35).k m39).keep m42 (nE (by omega))
 have jap := (jap.keep ask_st (lNo (by omega)) m39 nF).keep ask_st (lNo (by omega)) m42 (lN1 (by omega))
 have j1p := (j1p.keep rec_st (lNo (by omega)) m39 nF).keep rec_st (lNo (by omega)) m42 (lN1 (by omega))
 have j2p := (j2p.keep rec_st (lNo (by omega)) m39 nF).keep rec_st (lNo (by omega)) m42 (lN1 (by omega))
 have j3p := (j3p.keep rec_st (lNo (by omega)) m39 nF).keep rec_st (lNo (by omega)) m42 (lN1 (by omega))
 refine sA rfl (send (ffg 2 5 6 7 8 rfl fun _ => sreg (sM rfl (sc (xcall ca27 rfl) (c27 (U := fun k => k = wg) (b := wb) (n := wb.length) (m := m) (Kp := Kp) (fun k hk => by have hk : k = wg := hk; omega) (by rw [List.take_length]; exact BR.ba hwr rfl) (Nat.le_refl _) (Nat.le_refl _) (by omega) hG (by omega) hMR (fun k hk => ⟨hKp k hk, .inr rfl⟩) hho (by omega) (by omega) (by omega) (by omega) hna (fun r hr => ⟨hrok m.one (by simp) r hr, asc_of (hpk m.one (by simp) r hr)⟩) (fun r hr => ⟨hrok m.two (by simp) r hr, asc_of (hpk m.two (by simp) r hr)⟩) (fun r hr => ⟨hrok m.three (by simp) r hr, asc_of (hpk m.three (by simp) r hr)⟩) hg0 hCT (fun r hr => back_of (hpk m.one (by simp) r hr) (hfl.2 m.one (by simp) r hr)) (fun r hr => back_of (hpk m.two (by simp) r hr) (hfl.2 m.two (by simp) r hr)) (fun r hr => back_of (hpk m.three (by simp) r hr) (hfl.2 m.three (by simp) r hr))) ?_))))
 rintro _ w43 ⟨⟨l1q, l2q, l3q, uaq, u1q, u2q, u3q, rfl, jl1q, jl2q, jl3q, jaq, j1q, j2q, j3q⟩, m44⟩
 have z45 := m44.size
 obtain ⟨adaq, cdaq, rfl⟩ := jaq.form
 obtain ⟨ad1q, cd1q, rfl⟩ := j1q.form
 obtain ⟨ad2q, cd2q, rfl⟩ := j2q.form
 obtain ⟨ad3q, cd3q, rfl⟩ := j3q.form
 obtain ⟨bf1q, bf2q, bf3q⟩ := back_fits hm hfew jl1q jl2q jl3q
 refine sM rfl (sE2 rfl (svK (xallS (lens := lMsg) in28 rfl) ?_))
 rintro _ w47 ⟨b9, rfl, m48, h9, e46, s46⟩
 refine suK (xstW h9 (lens' := lMsg) sz28 rfl rfl rfl rfl rfl) ?_
 rintro w50 ⟨m51, h9, s49⟩
 have h5 := ((((((h5.k hJ28).k m35).k m39).keep m42 (nE (by omega))).k m44).k m48).keep m51 (nE (by omega))
 have ka := ((((((ka.keep ask_st (lUb hU (by omega) (by omega)) hJ28 nF).keep ask_st (lUb hU (by omega) (by omega)) m35 nF).keep ask_st (lUb hU (by omega) (by omega)) m39 nF).keep ask_st (lUb hU (by omega) (by omega)) m42 (nUb hU (by omega) (by omega))).keep ask_st (lUb hU (by omega) (by omega)) m44 nF).keep ask_st (lUb hU (by omega) (by omega)) m48 nF).keep ask_st (lUb hU (by omega) (by omega)) m51 (nUb hU (by omega) (by omega))
 have z1 := ((((((z1.keep rec_st (lUb hU (by omega) (by omega)) hJ28 nF).keep rec_st (lUb hU (by omega) (by omega)) m35 nF).keep rec_st (lUb hU (by omega) (by omega)) m39 nF).keep rec_st (lUb hU (by omega) (by omega)) m42 (nUb hU (by omega) (by omega))).keep rec_st (lUb hU (by omega) (by omega)) m44 nF).keep rec_st (lUb hU (by omega) (by omega)) m48 nF).keep rec_st (lUb hU (by omega) (by omega)) m51 (nUb hU (by omega) (by omega))
 have z2 := ((((((z2.keep rec_st (lUb hU (by omega) (by omega)) hJ28 nF).keep rec_st (lUb hU (by omega) (by omega)) m35 nF).keep rec_st (lUb hU (by omega) (by omega)) m39 nF).keep rec_st (lUb hU (by omega) (by omega)) m42 (nUb hU (by omega) (by omega))).keep rec_st (lUb hU (by omega) (by omega)) m44 nF).keep rec_st (lUb hU (by omega) (by omega)) m48 nF).keep rec_st (lUb hU (by omega) (by omega)) m51 (nUb hU (by omega) (by omega))
 have z3 := ((((((z3.keep rec_st (lUb hU (by omega) (by omega)) hJ28 nF).keep rec_st (lUb hU (by omega) (by omega)) m35 nF).keep rec_st (lUb hU (by omega) (by omega)) m39 nF).keep rec_st (lUb hU (by omega) (by omega)) m42 (nUb hU (by omega) (by omega))).keep rec_st (lUb hU (by omega) (by omega)) m44 nF).keep rec_st (lUb hU (by omega) (by omega)) m48 nF).keep rec_st (lUb hU (by omega) (by omega)) m51 (nUb hU (by omega) (by omega))
 have jap := ((jap.keep ask_st (lNo (by omega)) m44 nF).keep ask_st (lNo (by omega)) m48 nF).keep ask_st (lNo (by omega)) m51 (lN1 (by omega))
 have j1p := ((j1p.keep rec_st (lNo (by omega)) m44 nF).keep rec_st (lNo (by omega)) m48 nF).keep rec_st (lNo (by omega)) m51 (lN1 (by omega))
 have j2p := ((j2p.keep rec_st (lNo (by omega)) m44 nF).keep rec_st (lNo (by omega)) m48 nF).keep rec_st (lNo (by omega)) m51 (lN1 (by omega))
 have j3p := ((j3p.keep rec_st (lNo (by omega)) m44 nF).keep rec_st (lNo (by omega)) m48 nF).keep rec_st (lNo (by omega)) m51 (lN1 (by omega))
 have jaq := (jaq.keep ask_st (lNo (by omega)) m48 nF).keep ask_st (lNo (by omega)) m51 (lN1 (by omega))
 have j1q := (j1q.keep rec_st (lNo (by omega)) m48 nF).keep rec_st (lNo (by omega)) m51 (lN1 (by omega))
 have j2q := (j2q.keep rec_st (lNo (by omega)) m48 nF).keep rec_st (lNo (by omega)) m51 (lN1 (by omega))
 have j3q := (j3q.keep rec_st (lNo (by omega)) m48 nF).keep rec_st (lNo (by omega)) m51 (lN1 (by omega))
 refine sA rfl (send (fgg 2 5 7 8 9 10 rfl fun _ => sreg (sv (xldS (lens := lMsg) ro34 rfl h5.r) (sc (xcall ca20 rfl) (c20f (lUb hU (by omega) (by omega)) hm hfew ka z1 z2 z3) ?_))))
 rintro _ w52 ⟨p46, q46, g46, rfl, r46, m53, a46, l46⟩
 have z54 := m53.size
 have h2 := (((((((h2.k hJ28).k m35).k m39).keep m42 (nE (by omega))).k m44).k m48).keep m51 (nE (by omega))).k m53
 have h7 := (((h7.k m44).k m48).keep m51 (nE (by omega))).k m53
 have ha := (((((((ha.keep ask_st (lU hU (by omega)) hJ28 nF).keep ask_st (lU hU (by omega)) m35 nF).keep ask_st (lU hU (by omega)) m39 nF).keep ask_st (lU hU (by omega)) m42 (nU hU (by omega))).keep ask_st (lU hU (by omega)) m44 nF).keep ask_st (lU hU (by omega)) m48 nF).keep ask_st (lU hU (by omega)) m51 (nU hU (by omega))).keep ask_st (lU hU (by omega)) m53 nF
 have y1 := (((((((y1.keep rec_st (lU hU (by omega)) hJ28 nF).keep rec_st (lU hU (by omega)) m35 nF).keep rec_st (lU hU (by omega)) m39 nF).keep rec_st (lU hU (by omega)) m42 (nU hU (by omega))).keep rec_st (lU hU (by omega)) m44 nF).keep rec_st (lU hU (by omega)) m48 nF).keep rec_st (lU hU (by omega)) m51 (nU hU (by omega))).keep rec_st (lU hU (by omega)) m53 nF
 have y2 := (((((((y2.keep rec_st (lU hU (by omega)) hJ28 nF).keep rec_st (lU hU (by omega)) m35 nF).keep rec_st (lU hU (by omega)) m39 nF).keep rec_st (lU hU (by omega)) m42 (nU hU (by omega))).keep rec_st (lU hU (by omega)) m44 nF).keep rec_st (lU hU (by omega)) m48 nF).keep rec_st (lU hU (by omega)) m51 (nU hU (by omega))).keep rec_st (lU hU (by omega)) m53 nF
 have y3 := (((((((y3.keep rec_st (lU hU (by omega)) hJ28 nF).keep rec_st (lU hU (by omega)) m35 nF).keep rec_st (lU hU (by omega)) m39 nF).keep rec_st (lU hU (by omega)) m42 (nU hU (by omega))).keep rec_st (lU hU (by omega)) m44 nF).keep rec_st (lU hU (by omega)) m48 nF).keep rec_st (lU hU (by omega)) m51 (nU hU (by omega))).keep rec_st (lU hU (by omega)) m53 nF
 have jap := jap.keep ask_st (lNo (by omega)) m53 nF
 have j1p := j1p.keep rec_st (lNo (by omega)) m53 nF
 have j2p := j2p.keep rec_st (lNo (by omega)) m53 nF
 have j3p := j3p.keep rec_st (lNo (by omega)) m53 nF
 refine sA rfl (send (fgg 2 7 8 9 10 11 rfl fun _ => sreg (sM rfl (sM rfl (gyes rfl rfl rfl (sM rfl (sv (xpickT rfl rfl) (sM rfl (gyes rfl rfl rfl (sv (xldS (lens := lMsg) ro28 rfl h7.r) (gyes rfl rfl rfl (sv (xldS (lens := lMsg) ro28 rfl h2.r) (gyes rfl rfl rfl (sc (xcall ca23 rfl) (c23 (U := fun k => U k ∨ Ub NoU w32 w34 k) (m' := backM m l1p l2p l3p) (m := m) (fun k hk => by rcases hk with hk | hk; (have hk := hU k hk; omega); (have hk := (show w32.heap.size ≤ k ∧ k < w34.heap.size from hk.elim (fun h => h.elim) id); omega)) ⟨rfl, rfl, jl1p, jl2p, jl3p⟩ (jap.mono ask_gr (fun k h => .inr h)) (j1p.mono rec_gr (fun k h => .inr h)) (j2p.mono rec_gr (fun k h => .inr h)) (j3p.mono rec_gr (fun k h => .inr h)) (ha.mono ask_gr (fun k h => .inl h)) (y1.mono rec_gr (fun k h => .inl h)) (y2.mono rec_gr (fun k h => .inl h)) (y3.mono rec_gr (fun k h => .inl h)) hm.1 hm.2.2.1 hm.2.2.2.1 hm.2.2.2.2.1) ?_))))))))))))))
 rintro _ w55 ⟨rfl, m56⟩
 have z57 := m56.size
 have h9 := (h9.k m53).k m56
 have h2 := h2.k m56
 have jaq := (jaq.keep ask_st (lNo (by omega)) m53 nF).keep ask_st (lNo (by omega)) m56 nF
 have j1q := (j1q.keep rec_st (lNo (by omega)) m53 nF).keep rec_st (lNo (by omega)) m56 nF
 have j2q := (j2q.keep rec_st (lNo (by omega)) m53 nF).keep rec_st (lNo (by omega)) m56 nF
 have j3q := (j3q.keep rec_st (lNo (by omega)) m53 nF).keep rec_st (lNo (by omega)) m56 nF
 have ha := ha.keep ask_st (lU hU (by omega)) m56 nF
 have y1 := y1.keep rec_st (lU hU (by omega)) m56 nF
 have y2 := y2.keep rec_st (lU hU (by omega)) m56 nF
 have y3 := y3.keep rec_st (lU hU (by omega)) m56 nF
 refine sv (xpickT rfl rfl) (sM rfl (gyes rfl rfl rfl (sv (xldS (lens := lMsg) ro28 rfl h9.r) (gyes rfl rfl rfl (sv (xldS (lens := lMsg) ro28 rfl h2.r) (gyes rfl rfl rfl (sc (xcall ca23 rfl) (c23 (U := fun k => U k ∨ Ub NoU w41 w43 k) (m' := backM m l1q l2q l3q) (m := m) (fun k hk => by rcases hk with hk | hk; (have hk := hU k hk; omega); (have hk := (show w41.heap.size ≤ k ∧ k < w43.heap.size from hk.elim (fun h => h.elim) id); omega)) ⟨rfl, rfl, jl1q, jl2q, jl3q⟩ (jaq.mono ask_gr (fun k h => .inr h)) (j1q.mono rec_gr (fun k h => .inr h)) (j2q.mono rec_gr (fun k h => .inr h)) (j3q.mono rec_gr (fun k h => .inr h)) (ha.mono ask_gr (fun k h => .inl h)) (y1.mono rec_gr (fun k h => .inl h)) (y2.mono rec_gr (fun k h => .inl h)) (y3.mono rec_gr (fun k h => .inl h)) hm.1 hm.2.2.1 hm.2.2.2.1 hm.2.2.2.2.1) ?_)))))))
 rintro _ w58 ⟨rfl, m59⟩
 have z60 := m59.size
 have h7 := (h7.k m56).k m59
 have jap := (jap.keep ask_st (lNo (by omega)) m56 nF).keep ask_st (lNo (by omega)) m59 nF
 have j1p := (j1p.keep rec_st (lNo (by omega)) m56 nF).keep rec_st (lNo (by omega)) m59 nF
 have j2p := (j2p.keep rec_st (lNo (by omega)) m56 nF).keep rec_st (lNo (by omega)) m59 nF
 have j3p := (j3p.keep rec_st (lNo (by omega)) m56 nF).keep rec_st (lNo (by omega)) m59 nF
 refine sv (xpickT rfl rfl) (sM rfl (gyes rfl rfl rfl (sv (xldS (lens := lMsg) ro28 rfl h7.r) (gyes rfl rfl rfl (sc (xcall ca13 rfl) (c13 (U := Ub NoU w32 w34) (m := backM m l1p l2p l3p) (fun k hk => by have hk := (show w32.heap.size ≤ k ∧ k < w34.heap.size from hk.elim (fun h => h.elim) id); omega) jap j1p j2p j3p hm.2.1 (fun l hl r hr => (bf1p l hl r hr).1) bf2p hm.1) ?_)))))
 rintro _ w61 ⟨kcp, kc1p, kc2p, kc3p, rfl, kbp, kb1p, kb2p, kb3p, m62⟩
 have z63 := m62.size
 obtain ⟨aep, cep, rfl⟩ := kbp.form
 obtain ⟨ae1p, ce1p, rfl⟩ := kb1p.form
 obtain ⟨ae2p, ce2p, rfl⟩ := kb2p.form
 obtain ⟨ae3p, ce3p, rfl⟩ := kb3p.form
 refine gyes rfl rfl rfl (sc (xcall ca20 rfl) (c20b (m := m) (fun k hk => by have hk := (show (w32.heap.size ≤ k ∧ k < w34.heap.size) ∨ _ from hk.imp_left (fun h => h.elim (fun h => h.elim) id)); omega) hm hfew kbp kb1p kb2p kb3p jl1p jl2p jl3p) ?_)
 rintro _ w65 ⟨p64, q64, g64, rfl, r64, m66, a64, l64⟩
 have z67 := m66.size
 have r46 := (((r46.k m56).k m59).k m62).k m66
 refine gyes rfl rfl rfl (sM rfl (gyes rfl rfl rfl (sc (xcall ca19 rfl) (c19_eq (BR.ba (U := fun k => k = g64) r64 rfl) (BR.ba (U := fun k => k = g46) r46 rfl)) ?_)))
 rintro _ w68 ⟨rfl, m69⟩
 have z70 := m69.size
 have h9 := (((h9.k m59).k m62).k m66).k m69
 have jaq := (((jaq.keep ask_st (lNo (by omega)) m59 nF).keep ask_st (lNo (by omega)) m62 nF).keep ask_st (lNo (by omega)) m66 nF).keep ask_st (lNo (by omega)) m69 nF
 have j1q := (((j1q.keep rec_st (lNo (by omega)) m59 nF).keep rec_st (lNo (by omega)) m62 nF).keep rec_st (lNo (by omega)) m66 nF).keep rec_st (lNo (by omega)) m69 nF
 have j2q := (((j2q.keep rec_st (lNo (by omega)) m59 nF).keep rec_st (lNo (by omega)) m62 nF).keep rec_st (lNo (by omega)) m66 nF).keep rec_st (lNo (by omega)) m69 nF
 have j3q := (((j3q.keep rec_st (lNo (by omega)) m59 nF).keep rec_st (lNo (by omega)) m62 nF).keep rec_st (lNo (by omega)) m66 nF).keep rec_st (lNo (by omega)) m69 nF
 refine sv (xpickT rfl rfl) (sM rfl (gyes rfl rfl rfl (sv (xldS (lens := lMsg) ro28 rfl h9.r) (gyes rfl rfl rfl (sc (xcall ca13 rfl) (c13 (U := Ub NoU w41 w43) (m := backM m l1q l2q l3q) (fun k hk => by have hk := (show w41.heap.size ≤ k ∧ k < w43.heap.size from hk.elim (fun h => h.elim) id); omega) jaq j1q j2q j3q hm.2.1 (fun l hl r hr => (bf1q l hl r hr).1) bf2q hm.1) ?_)))))
 rintro _ w71 ⟨kcq, kc1q, kc2q, kc3q, rfl, kbq, kb1q, kb2q, kb3q, m72⟩
 have z73 := m72.size
 obtain ⟨aeq, ceq, rfl⟩ := kbq.form
 obtain ⟨ae1q, ce1q, rfl⟩ := kb1q.form
 obtain ⟨ae2q, ce2q, rfl⟩ := kb2q.form
 obtain ⟨ae3q, ce3q, rfl⟩ := kb3q.form
 refine gyes rfl rfl rfl (sc (xcall ca20 rfl) (c20b (m := m) (fun k hk => by have hk := (show (w41.heap.size ≤ k ∧ k < w43.heap.size) ∨ _ from hk.imp_left (fun h => h.elim (fun h => h.elim) id)); omega) hm hfew kbq kb1q kb2q kb3q jl1q jl2q jl3q) ?_)
 rintro _ w74 ⟨p71, q71, g71, rfl, r71, m75, a71, l71⟩
 have z76 := m75.size
 have r46 := ((r46.k m69).k m72).k m75
 refine gyes rfl rfl rfl (sM rfl (gyes rfl rfl rfl (sc (xcall ca19 rfl) (c19_eq (BR.ba (U := fun k => k = g71) r71 rfl) (BR.ba (U := fun k => k = g46) r46 rfl)) ?_)))
 rintro _ w77 ⟨rfl, m78⟩
 have z79 := m78.size
 have hf := (((((((((((((((hf.s hJ28).s m35).s m39).t m42 (by omega)).s m44).s m48).t m51 (by omega)).s m53).s m56).s m59).s m62).s m66).s m69).s m72).s m75).s m78
 refine sv (xpickT rfl rfl) (sA rfl (send (fbg 4 rfl fun _ => wp_ret (rp1 rfl rfl ?_))))
 first | exact ⟨rfl, hf⟩ | exact ⟨by simp, hf⟩
end Go.Proofs.YtifnodoffgfpbaaGreatDoor

namespace Go.Proofs.YtifnodoffgfpbaaGreatDoor
open Go

theorem star_err : "*" ++ "errors.errorString" = "*errors.errorString" := by decide
theorem row332 (u : TypeId) (h : PP.typeName? 3 u = some "*errors.errorString") : u = 332 :=
  typeName_ptr_named (nm := "errors.errorString") (by rw [star_err]; kernel_rfl) (by kernel_rfl) (by decide) u (by rw [star_err]; exact h)
theorem cmp_332 : (match PP.underlying 332 with
    | some (.pointer e) => (PP.info? 332).any (·.comparable) && (PP.info? e).isSome
    | _ => false) = true := by kernel_rfl
theorem cmpT_332 : CmpT 332 := by
  have hr := cmp_332
  cases hu : PP.underlying 332 with
  | none => rw [hu] at hr; cases hr
  | some d =>
    rw [hu] at hr
    cases d with
    | pointer e =>
      simp only [Bool.and_eq_true] at hr
      obtain ⟨h1, h2⟩ := hr
      cases hi : PP.info? 332 with
      | none => rw [hi] at h1; simp at h1
      | some i =>
        rw [hi] at h1
        obtain ⟨j, hj⟩ := Option.isSome_iff_exists.1 h2
        exact ⟨by decide, e, i, j, hu, hi, by simpa using h1, hj⟩
    | _ => cases hr
theorem rng_one {w : World} {b : Nat} {v : Value} (h : w.cell? ⟨b, 0, none⟩ = some v) : w.rangeAt b 0 [v] := fun j u hu => by
  cases j with
  | zero => simp at hu; subst hu; exact h
  | succ j => simp at hu
end Go.Proofs.YtifnodoffgfpbaaGreatDoor

namespace Go.Proofs.YtifnodoffgfpbaaGreatDoor
open Go Go.ChangeShapes Go.WideShapes Go.RowKit

def secEnts : Array MapEntry := #[⟨.int .u8 1, .string ⟨#[104, 101, 97, 100, 101, 114]⟩, 0⟩, ⟨.int .u8 2, .string ⟨#[81, 117, 101, 115, 116, 105, 111, 110]⟩, 1⟩, ⟨.int .u8 3, .string ⟨#[65, 110, 115, 119, 101, 114]⟩, 2⟩,
  ⟨.int .u8 4, .string ⟨#[65, 117, 116, 104, 111, 114, 105, 116, 121]⟩, 3⟩, ⟨.int .u8 5, .string ⟨#[65, 100, 100, 105, 116, 105, 111, 110, 97, 108]⟩, 4⟩]
noncomputable def wmOf (l : List (String × DataW Unit)) (os : Os) : World :=
  let b := (World.holding PP os ⟨#[], #[], []⟩).layVars PP (l.take 11)
  { b with heap := (b.heap.push (.map secEnts 5)).modify 14 fun o => match o with
    | .cells _ t f => .cells #[.map (some b.heap.size)] t f
    | o => o }
theorem wmOf_os (l : List (String × DataW Unit)) (os : Os) : (wmOf l os).os = os := World.layVars_os _ _ _
theorem witness_at {H : Type} {enc : TypeId × Value → H} {os : Os} {f : FuncId} {fn : Func} {s : OpenSpec} {conds : List PathCond} {laid : List (String × DataW Unit)} (WB : World) (ho : WB.os = os) (args : Array Value)
    (hv : (WB.forCall (fun _ _ => 0) ⟨#[], args, []⟩).variablesZipB PP = true)
    (hr : ((WB.forCall (fun _ _ => 0) ⟨#[], args, []⟩).heap.toList.drop PP.globals.size).take ((begin PP (fun _ _ => 0) default).world.heap.size - PP.globals.size) =
      (begin PP (fun _ _ => 0) default).world.heap.toList.drop PP.globals.size)
    (hok : Input.okWideB PP (WB.forCall (fun _ _ => 0) ⟨#[], args, []⟩) f ⟨#[], args, []⟩ = true)
    (hrow : s.preRow enc PP fn conds false laid (WB.forCall (fun _ _ => 0) ⟨#[], args, []⟩).memory args) :
    ∃ (w : World) (tape : Tape) (i : Input), w.os = os ∧ (w.forCall tape i).Shaped PP ∧ i.vars = [] ∧ Input.okWide PP (w.forCall tape i) .any w.heap.size f i ∧
      s.preRow enc PP fn conds false laid (w.forCall tape i).memory i.args ∧ ({} : Assume).holds PP (lone (Frame.enter PP f i.args .normal) [] (w.forCall tape i)) :=
  ⟨WB, fun _ _ => 0, ⟨#[], args, []⟩, ho, World.shaped_of_ZipB hv hr, (Input.okWide_of_okWideB (base := 0) hok).1, (Input.okWide_of_okWideB hok).2, hrow, by
    simp only [Assume.holds]
    exact ⟨by simp, by simp, fun _ => Modest.zero, by simp, by simp⟩⟩
end Go.Proofs.YtifnodoffgfpbaaGreatDoor
