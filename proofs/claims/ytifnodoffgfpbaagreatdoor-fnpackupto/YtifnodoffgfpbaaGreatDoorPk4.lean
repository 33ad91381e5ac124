/- Part 4 of the texts for a law of this seat: walks, and plain laws about messages; conditions: none. -/
import Derived.Test.YtifnodoffgfpbaaGreatDoorPk3
namespace Go.Proofs.YtifnodoffgfpbaaGreatDoor
open Go

theorem nm_cell {w : World} {b o : Nat} {s : List UInt8} (h : SR w b o [256] [nm s]) {i : Nat} (hi : i < s.length) (h2 : i < 255) : w.cell? ⟨b, o + 0 + i, none⟩ = some (.int .u8 ((s[i]'hi).toNat : Int)) := by
  have := h.seg (i := 0) (k := 0) rfl rfl i _ (nm_get s hi h2)
  exact this
theorem nm_part {w : World} {b o : Nat} {s : List UInt8} (h : SR w b o [256] [nm s]) (hs : s.length ≤ 255) (i : Nat) : w.rangeAt b (o + 0 + i) (bvs (s.drop i)) := nm_rng (h.seg (i := 0) (k := 0) rfl rfl) hs i
theorem mkB_size (s : List UInt8) : (mkB s).size = s.length := by simp [ByteArray.size]
theorem ptr_cells (p : UInt16) : ([Value.int .u8 (((p >>> 8 ||| 192).toNat : Int) % 256), .int .u8 ((p.toNat : Int) % 256)].map (·.cells.toList)).flatten = bvs (ptrL p) := by
  have e : ∀ x : Nat, ((UInt8.ofNat x).toNat : Int) = (x : Int) % 256 := fun x => by rw [UInt8.toNat_ofNat']; omega
  simp only [ptrL, bvs, bv, List.map_cons, List.map_nil, e]
  rfl
theorem optCases (cm : Option Nat) : (∃ b, cm = some b) ∨ cm = none := by cases cm <;> simp
theorem name_dotlen {s : List UInt8} (h : nameL s) (h0 : 0 < s.length) (hc : (s[0].toNat : Int) = 46) : (s.length : Int) = 1 := by rw [name_dot h h0 hc]; rfl
theorem pkE_eq {o r1 : List UInt8} {C : Option Ent} {t : List UInt8 × Option Ent} (h : pkE o (r1, C) = t) : o ++ r1 = t.1 ∧ C = t.2 := by subst h; exact ⟨rfl, rfl⟩
theorem app_ofC {w w' : World} {g gm n m : Nat} {cm : Option Nat} {bs out : List UInt8} {C' : Option Ent} {a : Option Addr} {c g' : Nat} {cs : List Value} (h : Rw w' (.slice a m c) g' 5 1 m cs) (hm : m = n + out.length) (hcs : cs = bvs (bs ++ out)) (hf : Fr (fun k => k = g ∨ k = gm) w w') (hg : g' = g ∨ w.heap.size ≤ g') (hl : g' < w'.heap.size) (hC : Cmp w' cm C') :
    AppC w g gm cm n bs out C' (.tuple #[.slice a m c, .nilIface]) w' := by
  subst hm hcs
  exact ⟨a, c, g', rfl, h, hf, hg, hl, hC⟩
theorem pk_next {C : Option Ent} {p : Nat} {c : UInt8} {lab cs : List UInt8} (hc : c ≠ 46) (h : lab ≠ [] ∨ C = none) : packGo C p lab (c :: cs) = packGo C p (lab ++ [c]) cs := by
  by_cases hl : lab = []
  · subst hl
    obtain rfl := h.resolve_left (fun h => h rfl)
    exact pk_none hc
  · exact pk_mid hc hl
theorem lab_len {s lab : List UInt8} {i bg : Nat} (h : lab = (s.take i).drop bg) (hi : i ≤ s.length) : lab.length = i - bg := by
  subst h; rw [List.length_drop, List.length_take, Nat.min_eq_left hi]
theorem lab_mid {s lab : List UInt8} {i bg : Nat} (hf : bg = i → i = 0 ∨ s[i - 1]? = some 46) (hll : lab.length = i - bg) (hb : bg ≤ i) (h0 : ¬ (i : Int) = 0) (hi : i - 1 < s.length) (hd : ¬ ((s[i - 1]'hi).toNat : Int) = 46) : lab ≠ [] := by
  intro h
  have e : bg = i := by rw [h] at hll; simp at hll; omega
  rcases hf e with h1 | h1
  · omega
  · rw [List.getElem?_eq_getElem hi] at h1
    simp only [Option.some.injEq] at h1
    rw [h1] at hd; exact hd rfl
theorem lab_first {s lab : List UInt8} {i bg : Nat} (h : lab = (s.take i).drop bg) (hb : bg ≤ i) (hnd : ∀ c ∈ lab, c ≠ 46) (hi : i ≤ s.length) (hz : (i : Int) = 0 ∨ ∃ hi : i - 1 < s.length, ((s[i - 1]'hi).toNat : Int) = 46) : lab = [] := by
  cases hlab : lab with
  | nil => rfl
  | cons x xs =>
    exfalso
    have hll := lab_len h hi
    rw [hlab] at hll
    simp only [List.length_cons] at hll
    rcases hz with h0 | ⟨hi', h46⟩
    · omega
    · have hg := lab_get h (j := i - 1) (by omega) (by omega) hi
      have hm := List.mem_of_getElem? hg
      exact hnd _ hm (u8eq h46)
/-- the text of a slice of bytes -/
theorem xb2sR {P : Program} {n : Nat} {l : List (Nat × Value)} {w : World} {ty : TypeId} {x : Operand} {S D E : TypeId} {bs : List UInt8} {b o m c : Nat} (hS : slcB P S E = true) (hE : intB P E .u8 = true) (hD : strB P D = true) (hx : ev n l x = some (.slice (some ⟨b, o, none⟩) m c)) (hm : bs.length = m) (hr : w.rangeAt b o (bvs bs)) :
    Ex P n l (.convert S D x) ty w (.string (mkB bs)) w := xb2s hS hE hD hx hm hr

set_option maxHeartbeats 4000000 in
set_option maxRecDepth 100000 in
theorem c149 {w : World} {v : Value} {g gm n start pos : Nat} {bs : List UInt8} {cm : Option Nat} {C : Option Ent} (hR : BR w v g n bs) (hg : g < w.heap.size) {bo o : Nat} {s : List UInt8} (hN : SR w bo o [256] [nm s]) (hbo : bo < w.heap.size) (hbg : bo ≠ g) (hbm : bo ≠ gm) (hC : Cmp w cm C) (hm : ∀ b, cm = some b → b = gm ∧ gm ≠ g ∧ gm < w.heap.size) (hp : n = start + pos) (hl : n < 1000000000) (hs : nameL s) :
  Ret PP 149 [.pointer (some ⟨bo, o, none⟩), v, .map cm, .int .i64 (start : Int)] w (AppC w g gm cm n bs (packName C pos s).1 (packName C pos s).2) := by
 obtain ⟨a0, c0, rfl, -⟩ := hR.form
 have hs1 := name_pos hs
 obtain ⟨hs0, hs2⟩ := hs1
 have hf : Fr (fun k => k = g ∨ k = gm) w w := Fr.refl _ _
 refine ret_of Tryz.func149 rfl rfl rfl [(0, _), (1, _), (2, _), (3, _)] rfl ?_
 refine sreg (sv (xassign rfl) (sv (xassign rfl) (send (fg [(0, _), (1, _), (2, _), (3, _)] ⟨rfl, rfl, rfl, rfl, ⟨⟩⟩ fun _ => (sreg (sv (xmove rfl) (sv (xassign rfl) (send (fg [(0, _), (1, _), (2, _), (3, _), (10, _)] ⟨rfl, rfl, rfl, rfl, rfl, ⟨⟩⟩ fun _ => (wp_seq (sreg ?_)))))))))))
 refine sv (xmove rfl) (sv (xnilc rfl) (sv (xfld fl82_1 rfl) (sv (xld on5 rfl (hN.seg (i := 0) rfl rfl 255 _ (nm_last _))) (sv (exF (xgtr rfl rfl) (by omega)) (send (fg [(0, _), (1, _), (2, _), (3, _), (10, _), (23, _)] ⟨rfl, rfl, rfl, rfl, rfl, rfl, ⟨⟩⟩ fun _ => (cno rfl (wp_skip (nThen (fg [(0, _), (1, _), (2, _), (3, _), (10, _)] ⟨rfl, rfl, rfl, rfl, rfl, ⟨⟩⟩ fun _ => (wp_seq ?_)))))))))))
 refine sdraw (Fr (fun _ => False) w.drew) [(0, .rd), (1, .rd), (2, .rd), (3, .rd), (4, .rd), (5, .rd), (6, .rd), (7, .rd), (8, .rd), (9, .rd), (10, .rd), (11, .rd), (12, .rd), (13, .rd), (14, .rd), (15, .rd), (16, .rd), (17, .rd)] mixed (by kernel_rfl) (fun _ _ _ _ _ h => h) ?_
 have z1 : w.drew.heap.size = w.heap.size := rfl
 have hR := hR.keep (Fr.drew (Fr.refl (fun _ => False) w)) id
 have hN := hN.keep (Fr.drew (Fr.refl (fun _ => False) w)) (by omega) id
 have hC := hC.keep (Fr.drew (Fr.refl (fun _ => False) w)) nF
 have hf := hf.drew
 have hS2 : Fr (fun _ => False) w.drew w.drew := Fr.refl _ _
 refine hv rfl (fun _ _ => xmove rfl) hS2 (hv rfl (fun _ _ => xnilc rfl) hS2 (hv rfl (fun _ _ => xfld fl82_1 rfl) hS2 (hv rfl (fun w' hS => xld on5 rfl ((hN.keep hS (by omega) id).seg (i := 0) rfl rfl 255 _ (nm_last _))) hS2 (hv rfl (fun _ _ => exF (xeql rfl rfl) (by omega)) hS2 (hv rfl (fun _ _ => xmove rfl) hS2 (hvg rfl rfl rfl (fun _ _ => xmove rfl) hS2 (hvg rfl rfl rfl (fun _ _ => xmove rfl) hS2 (hvg rfl rfl rfl (fun _ _ => xnilc rfl) hS2 (hvg rfl rfl rfl (fun _ _ => xfld fl82_1 rfl) hS2 (hvg rfl rfl rfl (fun w' hS => xld on5 rfl ((hN.keep hS (by omega) id).seg (i := 0) rfl rfl 255 _ (nm_last _))) hS2 (hvg rfl rfl rfl (fun _ _ => xsub rfl rfl (wu8 (by omega) (by omega))) hS2 ?_)))))))))))
 refine hvg rfl rfl rfl (fun _ _ => xnilc rfl) hS2 (hvg rfl rfl rfl (fun _ _ => xfld fl82_0 rfl) hS2 (hvg rfl rfl rfl (fun _ _ => xidxA1 (i := s.length - 1) ar80 sz5 rfl rfl (by omega) (by omega)) hS2 (hvg rfl rfl rfl (fun w' hS => xld on5 rfl (nm_cell (hN.keep hS (by omega) id) (i := s.length - 1) (by omega) (by omega))) hS2 (hvg rfl rfl rfl (fun _ _ => exF (xneq rfl rfl) (by rw [name_last hs (by omega)]; decide)) hS2 (hv rfl (fun _ _ => xpickF rfl rfl) hS2 (hend (fg [(0, _), (1, _), (2, _), (3, _), (10, _), (42, _)] ⟨rfl, rfl, rfl, rfl, rfl, rfl, ⟨⟩⟩ fun _ => (cno rfl (wp_skip (nThen (fg [(0, _), (1, _), (2, _), (3, _), (10, _)] ⟨rfl, rfl, rfl, rfl, rfl, ⟨⟩⟩ fun _ => ?_)))))))))))
 refine wp_seq (sreg (sv (xmove rfl) (sv (xnilc rfl) (sv (xfld fl82_0 rfl) (sv (xidxA1 (i := 0) ar80 sz5 rfl rfl (by omega) (by omega)) (sv (xld on5 rfl (nm_cell hN (i := 0) (by omega) (by omega))) ?_))))))
 refine svP (xeql rfl rfl) (fun hc50 => ?_) (fun hc50 => ?_)
 ·
  refine sv (xmove rfl) (gyes rfl rfl rfl (sv (xmove rfl) (gyes rfl rfl rfl (sv (xnilc rfl) (gyes rfl rfl rfl (sv (xfld fl82_1 rfl) (gyes rfl rfl rfl (sv (xld on5 rfl (hN.seg (i := 0) rfl rfl 255 _ (nm_last _))) (gyes rfl rfl rfl (sv (exT (xeql rfl rfl) (name_dotlen hs (by omega) hc50)) (sv (xpickT rfl rfl) ?_)))))))))))
  refine send (fg [(0, _), (1, _), (2, _), (3, _), (10, _), (57, _)] ⟨rfl, rfl, rfl, rfl, rfl, rfl, ⟨⟩⟩ fun _ => (cyes rfl (sreg (sv (xmove rfl) ?_))))
  refine svK (xslit (bvs [0]) sl37 in5 rfl (by decide) rfl rfl rfl rfl (by decide) (by simp [bvs, bv, Value.cells]) (bvs_one _)) ?_
  rintro _ w4 ⟨b59, rfl, m5, h59, e59, s59, r59⟩
  have hR := hR.keep m5 id
  have hN := hN.keep m5 (by omega) id
  have hC := hC.keep m5 nF
  have hf := hf.step0 m5
  refine svK (xapp sl37 in5 rfl (by decide) rfl rfl hR (r59.src sl37) (by simp only [maxLen]; omega) (by omega)) ?_
  rintro _ w6 ⟨g60, r60, m7, a60, l60⟩
  have z8 := m7.size
  have hN := hN.keep m7 (by omega) (by show ¬ (bo = g); omega)
  have hC := hC.keep m7 (fun b hb => by have hb := hm b hb; show ¬ (b = g); omega)
  have hf := hf.step m7 (fun k hk hS => by have hS : k = g := hS; show k = g ∨ k = gm; omega)
  obtain ⟨p60, q60, rfl, -⟩ := r60.form
  refine sv (xassign rfl) (sv (xassign rfl) (send (fg [(8, _), (9, _)] ⟨rfl, rfl, ⟨⟩⟩ fun _ => (wp_ret (rThen ?_)))))
  refine rp2 rfl rfl rfl ?_
  have es := name_dot hs (by omega) hc50
  subst es
  exact app_ofC (out := [0]) r60 rfl (by simp [bvs_app]) hf (by omega) (l60 (by omega)) hC
 ·
  refine sv (xmove rfl) (gno rfl rfl rfl (gno rfl rfl rfl (gno rfl rfl rfl (gno rfl rfl rfl (gno rfl rfl rfl (sv (xpickF rfl rfl) (send (fg [(0, _), (1, _), (2, _), (3, _), (10, _), (57, _)] ⟨rfl, rfl, rfl, rfl, rfl, rfl, ⟨⟩⟩ fun _ => (cno rfl (wp_skip (nThen ?_)))))))))))
  refine fg [(0, _), (1, _), (2, _), (3, _), (10, _)] ⟨rfl, rfl, rfl, rfl, rfl, ⟨⟩⟩ fun _ => ?_
  have hgo := name_nodot hs (by omega) hc50
  refine sreg (sv (xassign rfl) (send (fg [(0, _), (1, _), (2, _), (3, _), (10, _), (11, _)] ⟨rfl, rfl, rfl, rfl, rfl, rfl, ⟨⟩⟩ fun _ => (wp_seq (sreg (sv (xassign rfl) (sv (xassign rfl) (send (fg [(0, _), (1, _), (2, _), (3, _), (10, _), (11, _), (12, _), (13, _)] ⟨rfl, rfl, rfl, rfl, rfl, rfl, rfl, rfl, ⟨⟩⟩ fun _ => (wp_block ?_))))))))))
  refine lp [(0, _), (2, _), (3, _), (10, _)] (fun (x : Nat × Nat × Value × Nat × List UInt8 × List UInt8 × Option Ent × ByteArray) => match x with | (i, bg, v, gv, q, lab, C1, na) => [(1, v), (11, .string na), (12, .int .i64 (i : Int)), (13, .int .i64 (bg : Int))]) (fun (x : Nat × Nat × Value × Nat × List UInt8 × List UInt8 × Option Ent × ByteArray) wx => match x with | (i, bg, v, gv, q, lab, C1, na) => Fr (fun k => k = g ∨ k = gm) w.drew wx ∧ (i ≤ s.length) ∧ (bg ≤ i) ∧ (BR wx v gv (n + q.length) (bs ++ q)) ∧ (gv = g ∨ w.drew.heap.size ≤ gv) ∧ (gv < wx.heap.size) ∧ (Cmp wx cm C1) ∧ (pkE q (packGo C1 (pos + q.length) lab (s.drop i)) = packGo C pos [] s) ∧ (lab = (s.take i).drop bg) ∧ (nameGo lab.length (s.drop i) = true) ∧ (na = ⟨#[]⟩ ∨ na = mkB s) ∧ (bg = i → i = 0 ∨ s[i - 1]? = some 46) ∧ (∀ c ∈ lab, c ≠ 46) ∧ (q.length + lab.length ≤ 2 * i)) (fun (x : Nat × Nat × Value × Nat × List UInt8 × List UInt8 × Option Ent × ByteArray) => match x with | (i, bg, v, gv, q, lab, C1, na) => s.length - i) (0, 0, _, g, [], [], C, ⟨#[]⟩) ⟨rfl, rfl, rfl, rfl, rfl, rfl, rfl, rfl, trivial⟩ ⟨Fr.refl _ _, Nat.zero_le _, Nat.le_refl _, by simpa using hR, .inl rfl, by omega, hC, by simp [pkE], by simp, hgo.2, .inl rfl, fun _ => .inl rfl, by simp, by simp⟩ ?_
  rintro ⟨i, bg, v, gv, q, lab, C1, na⟩ _ w10 ⟨hL9, hi, hbi, hv1, hgv, hgv2, hC1, hE, hlab, hng, hna, hfst, hnd, hol⟩
  refine fg [(0, _), (1, _), (2, _), (3, _), (10, _), (11, _), (12, _), (13, _)] ⟨rfl, rfl, rfl, rfl, rfl, rfl, rfl, rfl, ⟨⟩⟩ fun _ => ?_
  have z11 := hL9.size
  have hN := hN.keep hL9 (by omega) (by show ¬ (bo = g ∨ bo = gm); omega)
  have hf := hf.step hL9 (fun k hk hS => by have hS : k = g ∨ k = gm := hS; show k = g ∨ k = gm; omega)
  obtain ⟨a1, c1, rfl, -⟩ := hv1.form
  refine wp_seq (sreg (sv (xmove rfl) (sv (xmove rfl) (sv (xnilc rfl) (sv (xfld fl82_1 rfl) (sv (xld on5 rfl (hN.seg (i := 0) rfl rfl 255 _ (nm_last _))) (sv (xconv hs5 ki3 rfl (w64 (by omega) (by omega))) ?_)))))))
  refine svP (xlss rfl rfl) (fun hc67 => ?_) (fun hc67 => ?_)
  ·
   refine send (fg [(0, _), (1, _), (2, _), (3, _), (10, _), (11, _), (12, _), (13, _), (67, _)] ⟨rfl, rfl, rfl, rfl, rfl, rfl, rfl, rfl, rfl, ⟨⟩⟩ fun _ => (cyes rfl (wp_skip (nThen (fg [(0, _), (1, _), (2, _), (3, _), (10, _), (11, _), (12, _), (13, _)] ⟨rfl, rfl, rfl, rfl, rfl, rfl, rfl, rfl, ⟨⟩⟩ fun _ => (wp_seq (wp_block (wp_seq (sreg (sv (xmove rfl) (sv (xmove rfl) ?_)))))))))))
   refine sv (xnilc rfl) (sv (xfld fl82_0 rfl) (sv (xidxA1 (i := i) ar80 sz5 rfl rfl (by omega) (by omega)) (sv (xld on5 rfl (nm_cell hN (i := i) (by omega) (by omega))) ?_)))
   refine svP (xeql rfl rfl) (fun hc76 => ?_) (fun hc76 => ?_)
   ·
    refine send (fg [(0, _), (1, _), (2, _), (3, _), (10, _), (11, _), (12, _), (13, _), (76, _)] ⟨rfl, rfl, rfl, rfl, rfl, rfl, rfl, rfl, rfl, ⟨⟩⟩ fun _ => (cyes rfl (wp_seq ?_)))
    have hll := lab_len hlab (by omega)
    have hng1 := hng
    rw [drop_one (s := s) (i := i) (by omega), u8eq hc76] at hng1
    have hnd1 := nameGo_dot hng1
    refine sreg (sv (xmove rfl) (sv (xmove rfl) (sv (xsub rfl rfl (w64 (by omega) (by omega))) (sv (exF (xgeq rfl rfl) (by omega)) (send (fg [(0, _), (1, _), (2, _), (3, _), (10, _), (11, _), (12, _), (13, _), (80, _)] ⟨rfl, rfl, rfl, rfl, rfl, rfl, rfl, rfl, rfl, ⟨⟩⟩ fun _ => (cno rfl (wp_skip (nThen (fg [(0, _), (1, _), (2, _), (3, _), (10, _), (11, _), (12, _), (13, _)] ⟨rfl, rfl, rfl, rfl, rfl, rfl, rfl, rfl, ⟨⟩⟩ fun _ => (wp_seq ?_)))))))))))
    refine sreg (sv (xmove rfl) (sv (xmove rfl) (sv (xsub rfl rfl (w64 (by omega) (by omega))) (sv (exF (xeql rfl rfl) (by omega)) (send (fg [(0, _), (1, _), (2, _), (3, _), (10, _), (11, _), (12, _), (13, _), (86, _)] ⟨rfl, rfl, rfl, rfl, rfl, rfl, rfl, rfl, rfl, ⟨⟩⟩ fun _ => (cno rfl (wp_skip (nThen (fg [(0, _), (1, _), (2, _), (3, _), (10, _), (11, _), (12, _), (13, _)] ⟨rfl, rfl, rfl, rfl, rfl, rfl, rfl, rfl, ⟨⟩⟩ fun _ => (sreg ?_)))))))))))
    refine sv (xmove rfl) (sv (xmove rfl) (sv (xmove rfl) (sv (xsub rfl rfl (w64 (by omega) (by omega))) (sv (xconv hs3 ki5 rfl (wu8m _)) ?_))))
    refine svK (xslit (bvs [UInt8.ofNat lab.length]) sl37 in5 rfl (by decide) rfl rfl rfl rfl (by decide) (by simp [bvs, bv, Value.cells]; omega) (bvs_one _)) ?_
    rintro _ w13 ⟨b94, rfl, m14, h94, e94, s94, r94⟩
    have hN := hN.keep m14 (by omega) id
    have hf := hf.step0 m14
    have hv1 := hv1.keep m14 id
    have hC1 := hC1.keep m14 nF
    have hL9 := hL9.step0 m14
    refine svK (xapp sl37 in5 rfl (by decide) rfl rfl hv1 (r94.src sl37) (by simp only [maxLen]; omega) (by omega)) ?_
    rintro _ w15 ⟨g95, r95, m16, a95, l95⟩
    have z17 := m16.size
    have hN := hN.keep m16 (by omega) (by show ¬ (bo = gv); omega)
    have hf := hf.step m16 (fun k hk hS => by have hS : k = gv := hS; show k = g ∨ k = gm; omega)
    have hC1 := hC1.keep m16 (fun b hb => by have hb := hm b hb; show ¬ (b = gv); omega)
    have hL9 := hL9.step m16 (fun k hk hS => by have hS : k = gv := hS; show k = g ∨ k = gm; omega)
    obtain ⟨p95, q95, rfl, -⟩ := r95.form
    refine sv (xassign rfl) (send (fg [(0, _), (1, _), (2, _), (3, _), (10, _), (11, _), (12, _), (13, _)] ⟨rfl, rfl, rfl, rfl, rfl, rfl, rfl, rfl, ⟨⟩⟩ fun _ => (wp_seq (sreg (sv (xmove rfl) (sv (xassign rfl) (send (fg [(0, _), (1, _), (2, _), (3, _), (10, _), (11, _), (12, _), (14, _)] ⟨rfl, rfl, rfl, rfl, rfl, rfl, rfl, rfl, ⟨⟩⟩ fun _ => (wp_block ?_)))))))))
    refine lp [(0, _), (2, _), (3, _), (10, _), (11, _), (12, _)] (fun (x : Nat × Value × Nat) => match x with | (j, v, gj) => [(1, v), (14, .int .i64 (j : Int))]) (fun (x : Nat × Value × Nat) wx => match x with | (j, v, gj) => Fr (fun k => k = g95) w15 wx ∧ (bg ≤ j) ∧ (j ≤ i) ∧ (BR wx v gj (n + q.length + 1 + (j - bg)) (bs ++ q ++ (UInt8.ofNat lab.length :: lab.take (j - bg)))) ∧ (gj = g95 ∨ w15.heap.size ≤ gj) ∧ (gj < wx.heap.size)) (fun (x : Nat × Value × Nat) => match x with | (j, v, gj) => i - j) (bg, _, g95) ⟨rfl, rfl, rfl, rfl, rfl, rfl, rfl, rfl, trivial⟩ ⟨Fr.refl _ _, Nat.le_refl _, hbi, br_cast r95 (by simp [bvs_app]) (by omega), .inl rfl, l95 (by omega)⟩ ?_
    rintro ⟨j, v, gj⟩ _ w19 ⟨hL18, hj1, hj2, hv2, hgj, hgj2⟩
    refine fg [(0, _), (1, _), (2, _), (3, _), (10, _), (11, _), (12, _), (14, _)] ⟨rfl, rfl, rfl, rfl, rfl, rfl, rfl, rfl, ⟨⟩⟩ fun _ => ?_
    have z20 := hL18.size
    have hN := hN.keep hL18 (by omega) (by show ¬ (bo = g95); omega)
    have hf := hf.step hL18 (fun k hk hS => by have hS : k = g95 := hS; show k = g ∨ k = gm; omega)
    have hC1 := hC1.keep hL18 (fun b hb => by have hb := hm b hb; show ¬ (b = g95); omega)
    have hL9 := hL9.step hL18 (fun k hk hS => by have hS : k = g95 := hS; show k = g ∨ k = gm; omega)
    obtain ⟨a2, c2, rfl, -⟩ := hv2.form
    refine wp_seq (sreg (sv (xmove rfl) (sv (xmove rfl) ?_)))
    refine svP (xlss rfl rfl) (fun hc99 => ?_) (fun hc99 => ?_)
    ·
     refine send (fg [(0, _), (1, _), (2, _), (3, _), (10, _), (11, _), (12, _), (14, _), (99, _)] ⟨rfl, rfl, rfl, rfl, rfl, rfl, rfl, rfl, rfl, ⟨⟩⟩ fun _ => (cyes rfl (wp_skip (nThen (fg [(0, _), (1, _), (2, _), (3, _), (10, _), (11, _), (12, _), (14, _)] ⟨rfl, rfl, rfl, rfl, rfl, rfl, rfl, rfl, ⟨⟩⟩ fun _ => (wp_seq (wp_block (lreg (sv (xmove rfl) (sv (xmove rfl) (sv (xmove rfl) ?_)))))))))))
     refine sv (xnilc rfl) (sv (xfld fl82_0 rfl) (sv (xidxA1 (i := j) ar80 sz5 rfl rfl (by omega) (by omega)) (sv (xld on5 rfl (nm_cell hN (i := j) (by omega) (by omega))) ?_)))
     refine svK (xslit (bvs [s[j]]) sl37 in5 rfl (by decide) rfl rfl rfl rfl (by decide) (by simp [bvs, bv, Value.cells]) (bvs_one _)) ?_
     rintro _ w22 ⟨b109, rfl, m23, h109, e109, s109, r109⟩
     have hN := hN.keep m23 (by omega) id
     have hf := hf.step0 m23
     have hC1 := hC1.keep m23 nF
     have hL9 := hL9.step0 m23
     have hv2 := hv2.keep m23 id
     have hL18 := hL18.step0 m23
     refine svK (xapp sl37 in5 rfl (by decide) rfl rfl hv2 (r109.src sl37) (by simp only [maxLen]; omega) (by omega)) ?_
     rintro _ w24 ⟨g110, r110, m25, a110, l110⟩
     have z26 := m25.size
     have hN := hN.keep m25 (by omega) (by show ¬ (bo = gj); omega)
     have hf := hf.step m25 (fun k hk hS => by have hS : k = gj := hS; show k = g ∨ k = gm; omega)
     have hC1 := hC1.keep m25 (fun b hb => by have hb := hm b hb; show ¬ (b = gj); omega)
     have hL9 := hL9.step m25 (fun k hk hS => by have hS : k = gj := hS; show k = g ∨ k = gm; omega)
     have hL18 := hL18.step m25 (fun k hk hS => by have hS : k = gj := hS; show k = g95; omega)
     obtain ⟨p110, q110, rfl, -⟩ := r110.form
     refine sv (xassign rfl) (lend (nBlock (nThen (fg [(0, _), (1, _), (2, _), (3, _), (10, _), (11, _), (12, _), (14, _)] ⟨rfl, rfl, rfl, rfl, rfl, rfl, rfl, rfl, ⟨⟩⟩ fun _ => (lreg (sv (xmove rfl) (sv (xadd rfl rfl (w64 (by omega) (by omega))) (sv (xassign rfl) (lend (nThen ?_))))))))))
     refine ⟨(j + 1, _, g110), _, env_okl ⟨rfl, rfl, rfl, rfl, rfl, rfl, rfl, rfl, trivial⟩, ⟨hL18, (by omega), (by omega), (by rw [show j + 1 - bg = (j - bg) + 1 by omega, take_snoc (lab_get hlab hj1 (by omega) (by omega))]; exact br_cast r110 (by simp [bvs]) (by omega)), (by omega), (l110 (by omega))⟩, ?_⟩
     show i - (j + 1) < i - j; omega
    ·
     refine send (fg [(0, _), (1, _), (2, _), (3, _), (10, _), (11, _), (12, _), (14, _), (99, _)] ⟨rfl, rfl, rfl, rfl, rfl, rfl, rfl, rfl, rfl, ⟨⟩⟩ fun _ => (cno rfl (wp_exit (eThen (eThen (eHit (nThen (fg [(0, _), (1, _), (2, _), (3, _), (10, _), (11, _), (12, _)] ⟨rfl, rfl, rfl, rfl, rfl, rfl, rfl, ⟨⟩⟩ fun _ => (sreg (sv (xmove rfl) (sv (xadd rfl rfl (w64 (by omega) (by omega))) ?_)))))))))))
     refine sv (xassign rfl) (send (fg [(0, _), (1, _), (2, _), (3, _), (10, _), (11, _), (12, _), (13, _)] ⟨rfl, rfl, rfl, rfl, rfl, rfl, rfl, rfl, ⟨⟩⟩ fun _ => (wp_exit (eThen (eHit (nThen (fg [(0, _), (1, _), (2, _), (3, _), (10, _), (11, _), (12, _), (13, _)] ⟨rfl, rfl, rfl, rfl, rfl, rfl, rfl, rfl, ⟨⟩⟩ fun _ => (lreg (sv (xmove rfl) (sv (xadd rfl rfl (w64 (by omega) (by omega))) (sv (xassign rfl) ?_)))))))))))
     refine lend (nThen ?_)
     have hll := lab_len hlab (by omega)
     have hdr := drop_one (s := s) (i := i) (by omega)
     rw [hdr] at hE hng
     rw [u8eq hc76] at hE hng
     have hnd2 := nameGo_dot hng
     have elb : lab.take (j - bg) = lab := List.take_of_length_le (by omega)
     rw [elb] at hv2
     refine ⟨(i + 1, i + 1, _, gj, q ++ (UInt8.ofNat lab.length :: lab), [], C1, na), _, env_okl ⟨rfl, rfl, rfl, rfl, rfl, rfl, rfl, rfl, trivial⟩, ⟨hL9, (by omega), (Nat.le_refl _), (br_cast hv2 (by simp) (by simp; omega)), (by omega), (by omega), (hC1), (by rw [← hE, pk_dot]; simp only [List.length_append, List.length_cons, Nat.add_assoc]), (by simp), (hnd2.2.2), (hna), (fun _ => .inr (by rw [Nat.add_sub_cancel, List.getElem?_eq_getElem (by omega), u8eq hc76])), (by simp), (by simp; omega)⟩, ?_⟩
     show s.length - (i + 1) < s.length - i; omega
   ·
    refine send (fg [(0, _), (1, _), (2, _), (3, _), (10, _), (11, _), (12, _), (13, _), (76, _)] ⟨rfl, rfl, rfl, rfl, rfl, rfl, rfl, rfl, rfl, ⟨⟩⟩ fun _ => (cno rfl (wp_skip (nThen (fg [(0, _), (1, _), (2, _), (3, _), (10, _), (11, _), (12, _), (13, _)] ⟨rfl, rfl, rfl, rfl, rfl, rfl, rfl, rfl, ⟨⟩⟩ fun _ => (sreg (sv (xmove rfl) ?_)))))))
    refine svP (xeql rfl rfl) (fun hc114 => ?_) (fun hc114 => ?_)
    ·
     refine sv (xmove rfl) (gno rfl rfl rfl (gno rfl rfl rfl (gno rfl rfl rfl (gno rfl rfl rfl (gno rfl rfl rfl (gno rfl rfl rfl (gno rfl rfl rfl (gno rfl rfl rfl (sv (xpickT rfl rfl) (sv (xmove rfl) (gyes rfl rfl rfl ?_)))))))))))
     refine sv (xmove rfl) (gyes rfl rfl rfl (sv (xneM mp146 rfl) ?_))
     rcases optCases cm with ⟨bm, rfl⟩ | rfl
     ·
      refine sv (xpickT rfl rfl) (send (fg [(0, _), (1, _), (2, _), (3, _), (10, _), (11, _), (12, _), (13, _), (128, _)] ⟨rfl, rfl, rfl, rfl, rfl, rfl, rfl, rfl, rfl, ⟨⟩⟩ fun _ => (cyes rfl (wp_seq ?_))))
      refine sdraw (Fr (fun _ => False) w10.drew) [(0, .rd), (1, .rd), (2, .rd), (3, .rd), (4, .rd), (5, .rd), (6, .rd), (7, .rd), (8, .rd), (9, .rd), (10, .rd), (11, .rd), (12, .rd), (13, .rd), (14, .rd), (15, .rd), (16, .rd)] mixed (by kernel_rfl) (fun _ _ _ _ _ h => h) ?_
      have z27 : w10.drew.heap.size = w10.heap.size := rfl
      have hN := hN.keep (Fr.drew (Fr.refl (fun _ => False) w10)) (by omega) id
      have hf := hf.drew
      have hv1 := hv1.keep (Fr.drew (Fr.refl (fun _ => False) w10)) id
      have hC1 := hC1.keep (Fr.drew (Fr.refl (fun _ => False) w10)) nF
      have hL9 := hL9.drew
      have hS28 : Fr (fun _ => False) w10.drew w10.drew := Fr.refl _ _
      refine hv rfl (fun _ _ => xmove rfl) hS28 (hv rfl (fun _ _ => xmove rfl) hS28 (hv rfl (fun _ _ => xnilc rfl) hS28 (hv rfl (fun _ _ => xfld fl82_0 rfl) hS28 (hv rfl (fun _ _ => xmove rfl) hS28 (hv rfl (fun _ _ => xmove rfl) hS28 (hv rfl (fun _ _ => xnilc rfl) hS28 (hv rfl (fun _ _ => xfld fl82_1 rfl) hS28 (hv rfl (fun w' hS => xld on5 rfl ((hN.keep hS (by omega) id).seg (i := 0) rfl rfl 255 _ (nm_last _))) hS28 (hv rfl (fun _ _ => xcutALH (lo := i) (hi := s.length) ar80 sz5 rfl rfl rfl (by omega) (by omega) (by omega) (by omega) (by omega)) hS28 (hv rfl (fun w' hS => xb2sR (bs := s.drop i) sl37 ki5 st9 rfl (by rw [List.length_drop]) (by rw [Nat.mul_one]; exact nm_part (hN.keep hS (by omega) id) (by omega) i)) hS28 ?_))))))))))
      obtain ⟨M, rfl, -⟩ := Cmp.some hC1
      obtain rfl : gm = bm := (hm bm rfl).1.symm
      have hmg := hm gm rfl
      refine hv rfl (fun w' hS => xlook mp146 st9 in22 (show Mp w' gm M from (hC1.keep hS nF)) rfl rfl) hS28 (hv rfl (fun _ _ => xmove rfl) hS28 (hv rfl (fun _ _ => xextr rfl rfl) hS28 (hv rfl (fun _ _ => xextr rfl rfl) hS28 ?_)))
      cases hlk : look M (mkB (s.drop i)) with
      | some p =>
       refine hv rfl (fun _ _ => xassign rfl) hS28 (hv rfl (fun _ _ => xassign rfl) hS28 (hend (fg [(0, _), (1, _), (2, _), (3, _), (10, _), (11, _), (12, _), (13, _), (15, _), (16, _)] ⟨rfl, rfl, rfl, rfl, rfl, rfl, rfl, rfl, rfl, rfl, ⟨⟩⟩ fun _ => (sreg (sv (xmove rfl) (send (fg [(0, _), (1, _), (2, _), (3, _), (10, _), (11, _), (12, _), (13, _), (15, _), (144, _)] ⟨rfl, rfl, rfl, rfl, rfl, rfl, rfl, rfl, rfl, rfl, ⟨⟩⟩ fun _ => (cyes rfl (sreg (sv (xmove rfl) (sv (xmove rfl) ?_)))))))))))
       refine sv (xshr16 (a := p) (b := 8) (by decide) rfl rfl) (sv (xor16 (b := 192) rfl rfl) (sv (xconv hs22 ki5 rfl (wu8m _)) (sv (xmove rfl) (sv (xconv hs22 ki5 rfl (wu8m _)) ?_))))
       refine svK (xslit (bvs (ptrL p)) sl37 in5 rfl (by decide) rfl rfl rfl rfl (by decide) (ptr_cells p) (bvs_one _)) ?_
       rintro _ w30 ⟨b152, rfl, m31, h152, e152, s152, r152⟩
       have hN := hN.keep m31 (by omega) id
       have hf := hf.step0 m31
       have hv1 := hv1.keep m31 id
       have hC1 := hC1.keep m31 nF
       have hL9 := hL9.step0 m31
       refine svK (xapp sl37 in5 rfl (by decide) rfl rfl hv1 (r152.src sl37) (by simp only [maxLen]; omega) (by omega)) ?_
       rintro _ w32 ⟨g153, r153, m33, a153, l153⟩
       have z34 := m33.size
       have hN := hN.keep m33 (by omega) (by show ¬ (bo = gv); omega)
       have hf := hf.step m33 (fun k hk hS => by have hS : k = gv := hS; show k = g ∨ k = gm; omega)
       have hC1 := hC1.keep m33 (fun b hb => by have hb := hm b hb; show ¬ (b = gv); omega)
       have hL9 := hL9.step m33 (fun k hk hS => by have hS : k = gv := hS; show k = g ∨ k = gm; omega)
       obtain ⟨p153, q153, rfl, -⟩ := r153.form
       refine sv (xassign rfl) (sv (xassign rfl) (send (fg [(8, _), (9, _)] ⟨rfl, rfl, ⟨⟩⟩ fun _ => (wp_ret (rThen (rBlock (rThen (rThen (rBlock (rThen ?_))))))))))
       refine rp2 rfl rfl rfl ?_
       obtain rfl : lab = [] := lab_first hlab hbi hnd (by omega) (by first | exact .inl hc114 | exact .inr ⟨by omega, hc123⟩)
       rw [drop_one (by omega)] at hE hlk
       rw [pk_hit (u8ne hc76) hlk] at hE
       obtain ⟨e1, e2⟩ := pkE_eq hE
       rw [packName, if_neg hgo.1]
       rw [← e1, ← e2]
       exact app_ofC (out := q ++ ptrL p) r153 (by simp [ptrL]; omega) (by simp [bvs_app]) hf (by omega) (l153 (by omega)) hC1
      | none =>
       refine hv rfl (fun _ _ => xassign rfl) hS28 (hv rfl (fun _ _ => xassign rfl) hS28 (hend (fg [(0, _), (1, _), (2, _), (3, _), (10, _), (11, _), (12, _), (13, _), (15, _), (16, _)] ⟨rfl, rfl, rfl, rfl, rfl, rfl, rfl, rfl, rfl, rfl, ⟨⟩⟩ fun _ => (sreg (sv (xmove rfl) (send (fg [(0, _), (1, _), (2, _), (3, _), (10, _), (11, _), (12, _), (13, _), (15, _), (144, _)] ⟨rfl, rfl, rfl, rfl, rfl, rfl, rfl, rfl, rfl, rfl, ⟨⟩⟩ fun _ => (cno rfl (wp_skip (nThen (fg [(0, _), (1, _), (2, _), (3, _), (10, _), (11, _), (12, _), (13, _)] ⟨rfl, rfl, rfl, rfl, rfl, rfl, rfl, rfl, ⟨⟩⟩ fun _ => ?_)))))))))))
       refine sreg (sv (xmove rfl) (sv (xlen sl37 rfl) (sv (xmove rfl) (sv (xsub rfl rfl (w64 (by omega) (by omega))) (sv (xassign rfl) (send (fg [(0, _), (1, _), (2, _), (3, _), (10, _), (11, _), (12, _), (13, _), (17, _)] ⟨rfl, rfl, rfl, rfl, rfl, rfl, rfl, rfl, rfl, ⟨⟩⟩ fun _ => (sreg (sv (xmove rfl) ?_)))))))))
       refine svP (xleq rfl rfl) (fun hc159 => ?_) (fun hc159 => ?_)
       ·
        refine send (fg [(0, _), (1, _), (2, _), (3, _), (10, _), (11, _), (12, _), (13, _), (17, _), (159, _)] ⟨rfl, rfl, rfl, rfl, rfl, rfl, rfl, rfl, rfl, rfl, ⟨⟩⟩ fun _ => (cyes rfl (wp_seq (sreg (sv (xmove rfl) (sv (xeqs rfl rfl) (send (fg [(0, _), (1, _), (2, _), (3, _), (10, _), (11, _), (12, _), (13, _), (17, _), (161, _)] ⟨rfl, rfl, rfl, rfl, rfl, rfl, rfl, rfl, rfl, rfl, ⟨⟩⟩ fun _ => ?_))))))))
        refine jcut [(0, _), (1, _), (2, _), (3, _), (10, _), (12, _), (13, _), (17, _)] ⟨rfl, rfl, rfl, rfl, rfl, rfl, rfl, rfl, trivial⟩ (fun (x : ByteArray) => match x with | nb => [(11, .string nb)]) (fun (x : ByteArray) wx => match x with | nb => Fr (fun _ => False) w10.drew wx ∧ (nb = mkB s)) ?_ ?_
        ·
         have hJ35 : Fr (fun _ => False) w10.drew w10.drew := Fr.refl _ _
         refine cB rfl (fun hb => ?_) (fun hb => ?_)
         ·
          refine ldraw (Fr (fun _ => False) w10.drew.drew) [(0, .rd), (1, .rd), (2, .rd), (3, .rd), (4, .rd), (5, .rd), (6, .rd), (7, .rd), (8, .rd), (9, .rd)] mixed (by kernel_rfl) (fun _ _ _ _ _ h => by cases h.1) ?_
          have z36 : w10.drew.drew.heap.size = w10.drew.heap.size := rfl
          have hN := hN.keep (Fr.drew (Fr.refl (fun _ => False) w10.drew)) (by omega) id
          have hf := hf.drew
          have hv1 := hv1.keep (Fr.drew (Fr.refl (fun _ => False) w10.drew)) id
          have hC1 := hC1.keep (Fr.drew (Fr.refl (fun _ => False) w10.drew)) nF
          have hL9 := hL9.drew
          have hJ35 := hJ35.drew
          have hS37 : Fr (fun _ => False) w10.drew.drew w10.drew.drew := Fr.refl _ _
          refine hv rfl (fun _ _ => xmove rfl) hS37 (hv rfl (fun _ _ => xnilc rfl) hS37 (hv rfl (fun _ _ => xfld fl82_0 rfl) hS37 (hv rfl (fun _ _ => xmove rfl) hS37 (hv rfl (fun _ _ => xnilc rfl) hS37 (hv rfl (fun _ _ => xfld fl82_1 rfl) hS37 (hv rfl (fun w' hS => xld on5 rfl ((hN.keep hS (by omega) id).seg (i := 0) rfl rfl 255 _ (nm_last _))) hS37 (hv rfl (fun _ _ => xcutAH (hi := s.length) ar80 sz5 rfl rfl (by omega) (by omega)) hS37 (hv rfl (fun w' hS => xb2sR (bs := s) sl37 ki5 st9 rfl rfl (nm_part (hN.keep hS (by omega) id) (by omega) 0)) hS37 (hv rfl (fun _ _ => xassign rfl) hS37 (lhend ?_))))))))))
          exact ⟨rfl, mkB s, _, env_okl ⟨rfl, rfl, rfl, rfl, rfl, rfl, rfl, rfl, rfl, trivial⟩, ⟨hJ35, (rfl)⟩⟩
         ·
          refine wp_skip ?_
          exact ⟨rfl, na, _, env_okl ⟨rfl, rfl, rfl, rfl, rfl, rfl, rfl, rfl, rfl, trivial⟩, ⟨hJ35, (hna.resolve_left (by simpa using hb))⟩⟩
        ·
         rintro nb _ w38 ⟨hJ35, hnb⟩
         have z39 := hJ35.size
         have hN := hN.keep hJ35 (by omega) id
         have hf := hf.step0 hJ35
         have hv1 := hv1.keep hJ35 id
         have hC1 := hC1.keep hJ35 nF
         have hL9 := hL9.step0 hJ35
         refine nThen (fg [(0, _), (1, _), (2, _), (3, _), (10, _), (11, _), (12, _), (13, _), (17, _)] ⟨rfl, rfl, rfl, rfl, rfl, rfl, rfl, rfl, rfl, ⟨⟩⟩ fun _ => (lreg (sv (xmove rfl) (sv (xmove rfl) (sv (xmove rfl) (sv (xcutSL st9 rfl rfl rfl (by rw [hnb, mkB_size]; omega)) (sv (xmove rfl) (sv (xconv hs3 ki22 rfl (wu16n (UInt16.ofNat (pos + q.length)).toNat (by rw [UInt16.toNat_ofNat']; omega))) ?_))))))))
         refine suK (xput (v := UInt16.ofNat (pos + q.length)) mp146 st9 (show Mp w38 gm M from hC1) (by rw [hnb, extr_drop]; exact hlk) rfl rfl rfl) ?_
         rintro w40 ⟨m41, hP, hsz⟩
         have hN := hN.keep m41 (by omega) (by show ¬ (bo = gm); omega)
         have hf := hf.step m41 (fun k hk hS => by have hS : k = gm := hS; show k = g ∨ k = gm; omega)
         have hv1 := hv1.keep m41 (by show ¬ (gv = gm); omega)
         have hL9 := hL9.step m41 (fun k hk hS => by have hS : k = gm := hS; show k = g ∨ k = gm; omega)
         rw [hnb, extr_drop] at hP
         have hC1 : Cmp w40 (some gm) (some (M ++ [(mkB (s.drop i), UInt16.ofNat (pos + q.length))])) := hP
         refine lend (nBlock (nThen (fg [(0, _), (1, _), (2, _), (3, _), (10, _), (11, _), (12, _), (13, _)] ⟨rfl, rfl, rfl, rfl, rfl, rfl, rfl, rfl, ⟨⟩⟩ fun _ => (lreg (sv (xmove rfl) (sv (xadd rfl rfl (w64 (by omega) (by omega))) (sv (xassign rfl) (lend (nThen ?_)))))))))
         have hll := lab_len hlab (by omega)
         have hdr := drop_one (s := s) (i := i) (by omega)
         rw [hdr] at hE hng
         have hng2 := nameGo_let hng (u8ne hc76)
         obtain rfl : lab = [] := lab_first hlab hbi hnd (by omega) (by first | exact .inl hc114 | exact .inr ⟨by omega, hc123⟩)
         rw [hdr] at hlk
         rw [hdr] at hC1
         refine ⟨(i + 1, bg, _, gv, q, [] ++ [s[i]], some (M ++ [(mkB (s.drop i), UInt16.ofNat (pos + q.length))]), nb), _, env_okl ⟨rfl, rfl, rfl, rfl, rfl, rfl, rfl, rfl, trivial⟩, ⟨hL9, (by omega), (by omega), (hv1), (by omega), (by omega), (by rw [hdr]; exact hC1), (by rw [← hE, pk_miss (u8ne hc76) hlk, if_pos (by omega), List.nil_append, hdr]), (lab_next hlab hbi (by omega)), (by simpa using hng2), (.inr hnb), (fun h => by omega), (fun x hx => (List.mem_append.1 hx).elim (hnd x) (fun h => by simp at h; subst h; exact u8ne hc76)), (by simp at hol ⊢; omega)⟩, ?_⟩
         show s.length - (i + 1) < s.length - i; omega
       ·
        refine send (fg [(0, _), (1, _), (2, _), (3, _), (10, _), (11, _), (12, _), (13, _), (17, _), (159, _)] ⟨rfl, rfl, rfl, rfl, rfl, rfl, rfl, rfl, rfl, rfl, ⟨⟩⟩ fun _ => (cno rfl (wp_skip (nBlock (nThen (fg [(0, _), (1, _), (2, _), (3, _), (10, _), (11, _), (12, _), (13, _)] ⟨rfl, rfl, rfl, rfl, rfl, rfl, rfl, rfl, ⟨⟩⟩ fun _ => (lreg (sv (xmove rfl) (sv (xadd rfl rfl (w64 (by omega) (by omega))) (sv (xassign rfl) (lend ?_)))))))))))
        refine nThen ?_
        have hll := lab_len hlab (by omega)
        have hdr := drop_one (s := s) (i := i) (by omega)
        rw [hdr] at hE hng
        have hng2 := nameGo_let hng (u8ne hc76)
        obtain rfl : lab = [] := lab_first hlab hbi hnd (by omega) (by first | exact .inl hc114 | exact .inr ⟨by omega, hc123⟩)
        rw [hdr] at hlk
        refine ⟨(i + 1, bg, _, gv, q, [] ++ [s[i]], some M, na), _, env_okl ⟨rfl, rfl, rfl, rfl, rfl, rfl, rfl, rfl, trivial⟩, ⟨hL9, (by omega), (by omega), (hv1), (by omega), (by omega), (hC1), (by rw [← hE, pk_miss (u8ne hc76) hlk, if_neg (by omega), List.nil_append]), (lab_next hlab hbi (by omega)), (by simpa using hng2), (hna), (fun h => by omega), (fun x hx => (List.mem_append.1 hx).elim (hnd x) (fun h => by simp at h; subst h; exact u8ne hc76)), (by simp at hol ⊢; omega)⟩, ?_⟩
        show s.length - (i + 1) < s.length - i; omega
     ·
      refine sv (xpickT rfl rfl) (send (fg [(0, _), (1, _), (2, _), (3, _), (10, _), (11, _), (12, _), (13, _), (128, _)] ⟨rfl, rfl, rfl, rfl, rfl, rfl, rfl, rfl, rfl, ⟨⟩⟩ fun _ => (cno rfl (wp_skip (nBlock (nThen (fg [(0, _), (1, _), (2, _), (3, _), (10, _), (11, _), (12, _), (13, _)] ⟨rfl, rfl, rfl, rfl, rfl, rfl, rfl, rfl, ⟨⟩⟩ fun _ => (lreg (sv (xmove rfl) (sv (xadd rfl rfl (w64 (by omega) (by omega))) (sv (xassign rfl) ?_)))))))))))
      refine lend (nThen ?_)
      have hll := lab_len hlab (by omega)
      have hdr := drop_one (s := s) (i := i) (by omega)
      rw [hdr] at hE hng
      have hng2 := nameGo_let hng (u8ne hc76)
      have hside : lab ≠ [] ∨ C1 = none := by first | exact .inr (Cmp.none hC1) | exact .inl (lab_mid hfst hll hbi hc114 (by omega) hc123)
      refine ⟨(i + 1, bg, _, gv, q, lab ++ [s[i]], C1, na), _, env_okl ⟨rfl, rfl, rfl, rfl, rfl, rfl, rfl, rfl, trivial⟩, ⟨hL9, (by omega), (by omega), (hv1), (by omega), (by omega), (hC1), (by rw [← hE, pk_next (u8ne hc76) hside]), (lab_next hlab hbi (by omega)), (by simpa using hng2), (hna), (fun h => by omega), (fun x hx => (List.mem_append.1 hx).elim (hnd x) (fun h => by simp at h; subst h; exact u8ne hc76)), (by simp at hol ⊢; omega)⟩, ?_⟩
      show s.length - (i + 1) < s.length - i; omega
    ·
     refine sv (xmove rfl) (gyes rfl rfl rfl (sv (xmove rfl) (gyes rfl rfl rfl (sv (xmove rfl) (gyes rfl rfl rfl (sv (xsub rfl rfl (w64 (by omega) (by omega))) (gyes rfl rfl rfl (sv (xnilc rfl) (gyes rfl rfl rfl (sv (xfld fl82_0 rfl) (gyes rfl rfl rfl ?_)))))))))))
     refine sv (xidxA1 (i := i - 1) ar80 sz5 rfl rfl (by omega) (by omega)) (gyes rfl rfl rfl (sv (xld on5 rfl (nm_cell hN (i := i - 1) (by omega) (by omega))) (gyes rfl rfl rfl ?_)))
     refine svP (xeql rfl rfl) (fun hc123 => ?_) (fun hc123 => ?_)
     ·
      refine sv (xpickF rfl rfl) (sv (xmove rfl) (gyes rfl rfl rfl (sv (xmove rfl) (gyes rfl rfl rfl (sv (xneM mp146 rfl) ?_)))))
      rcases optCases cm with ⟨bm, rfl⟩ | rfl
      ·
       refine sv (xpickT rfl rfl) (send (fg [(0, _), (1, _), (2, _), (3, _), (10, _), (11, _), (12, _), (13, _), (128, _)] ⟨rfl, rfl, rfl, rfl, rfl, rfl, rfl, rfl, rfl, ⟨⟩⟩ fun _ => (cyes rfl (wp_seq ?_))))
       refine sdraw (Fr (fun _ => False) w10.drew) [(0, .rd), (1, .rd), (2, .rd), (3, .rd), (4, .rd), (5, .rd), (6, .rd), (7, .rd), (8, .rd), (9, .rd), (10, .rd), (11, .rd), (12, .rd), (13, .rd), (14, .rd), (15, .rd), (16, .rd)] mixed (by kernel_rfl) (fun _ _ _ _ _ h => h) ?_
       have z42 : w10.drew.heap.size = w10.heap.size := rfl
       have hN := hN.keep (Fr.drew (Fr.refl (fun _ => False) w10)) (by omega) id
       have hf := hf.drew
       have hv1 := hv1.keep (Fr.drew (Fr.refl (fun _ => False) w10)) id
       have hC1 := hC1.keep (Fr.drew (Fr.refl (fun _ => False) w10)) nF
       have hL9 := hL9.drew
       have hS43 : Fr (fun _ => False) w10.drew w10.drew := Fr.refl _ _
       refine hv rfl (fun _ _ => xmove rfl) hS43 (hv rfl (fun _ _ => xmove rfl) hS43 (hv rfl (fun _ _ => xnilc rfl) hS43 (hv rfl (fun _ _ => xfld fl82_0 rfl) hS43 (hv rfl (fun _ _ => xmove rfl) hS43 (hv rfl (fun _ _ => xmove rfl) hS43 (hv rfl (fun _ _ => xnilc rfl) hS43 (hv rfl (fun _ _ => xfld fl82_1 rfl) hS43 (hv rfl (fun w' hS => xld on5 rfl ((hN.keep hS (by omega) id).seg (i := 0) rfl rfl 255 _ (nm_last _))) hS43 (hv rfl (fun _ _ => xcutALH (lo := i) (hi := s.length) ar80 sz5 rfl rfl rfl (by omega) (by omega) (by omega) (by omega) (by omega)) hS43 (hv rfl (fun w' hS => xb2sR (bs := s.drop i) sl37 ki5 st9 rfl (by rw [List.length_drop]) (by rw [Nat.mul_one]; exact nm_part (hN.keep hS (by omega) id) (by omega) i)) hS43 ?_))))))))))
       obtain ⟨M, rfl, -⟩ := Cmp.some hC1
       obtain rfl : gm = bm := (hm bm rfl).1.symm
       have hmg := hm gm rfl
       refine hv rfl (fun w' hS => xlook mp146 st9 in22 (show Mp w' gm M from (hC1.keep hS nF)) rfl rfl) hS43 (hv rfl (fun _ _ => xmove rfl) hS43 (hv rfl (fun _ _ => xextr rfl rfl) hS43 (hv rfl (fun _ _ => xextr rfl rfl) hS43 ?_)))
       cases hlk : look M (mkB (s.drop i)) with
       | some p =>
        refine hv rfl (fun _ _ => xassign rfl) hS43 (hv rfl (fun _ _ => xassign rfl) hS43 (hend (fg [(0, _), (1, _), (2, _), (3, _), (10, _), (11, _), (12, _), (13, _), (15, _), (16, _)] ⟨rfl, rfl, rfl, rfl, rfl, rfl, rfl, rfl, rfl, rfl, ⟨⟩⟩ fun _ => (sreg (sv (xmove rfl) (send (fg [(0, _), (1, _), (2, _), (3, _), (10, _), (11, _), (12, _), (13, _), (15, _), (144, _)] ⟨rfl, rfl, rfl, rfl, rfl, rfl, rfl, rfl, rfl, rfl, ⟨⟩⟩ fun _ => (cyes rfl (sreg (sv (xmove rfl) (sv (xmove rfl) ?_)))))))))))
        refine sv (xshr16 (a := p) (b := 8) (by decide) rfl rfl) (sv (xor16 (b := 192) rfl rfl) (sv (xconv hs22 ki5 rfl (wu8m _)) (sv (xmove rfl) (sv (xconv hs22 ki5 rfl (wu8m _)) ?_))))
        refine svK (xslit (bvs (ptrL p)) sl37 in5 rfl (by decide) rfl rfl rfl rfl (by decide) (ptr_cells p) (bvs_one _)) ?_
        rintro _ w45 ⟨b152, rfl, m46, h152, e152, s152, r152⟩
        have hN := hN.keep m46 (by omega) id
        have hf := hf.step0 m46
        have hv1 := hv1.keep m46 id
        have hC1 := hC1.keep m46 nF
        have hL9 := hL9.step0 m46
        refine svK (xapp sl37 in5 rfl (by decide) rfl rfl hv1 (r152.src sl37) (by simp only [maxLen]; omega) (by omega)) ?_
        rintro _ w47 ⟨g153, r153, m48, a153, l153⟩
        have z49 := m48.size
        have hN := hN.keep m48 (by omega) (by show ¬ (bo = gv); omega)
        have hf := hf.step m48 (fun k hk hS => by have hS : k = gv := hS; show k = g ∨ k = gm; omega)
        have hC1 := hC1.keep m48 (fun b hb => by have hb := hm b hb; show ¬ (b = gv); omega)
        have hL9 := hL9.step m48 (fun k hk hS => by have hS : k = gv := hS; show k = g ∨ k = gm; omega)
        obtain ⟨p153, q153, rfl, -⟩ := r153.form
        refine sv (xassign rfl) (sv (xassign rfl) (send (fg [(8, _), (9, _)] ⟨rfl, rfl, ⟨⟩⟩ fun _ => (wp_ret (rThen (rBlock (rThen (rThen (rBlock (rThen ?_))))))))))
        refine rp2 rfl rfl rfl ?_
        obtain rfl : lab = [] := lab_first hlab hbi hnd (by omega) (by first | exact .inl hc114 | exact .inr ⟨by omega, hc123⟩)
        rw [drop_one (by omega)] at hE hlk
        rw [pk_hit (u8ne hc76) hlk] at hE
        obtain ⟨e1, e2⟩ := pkE_eq hE
        rw [packName, if_neg hgo.1]
        rw [← e1, ← e2]
        exact app_ofC (out := q ++ ptrL p) r153 (by simp [ptrL]; omega) (by simp [bvs_app]) hf (by omega) (l153 (by omega)) hC1
       | none =>
        refine hv rfl (fun _ _ => xassign rfl) hS43 (hv rfl (fun _ _ => xassign rfl) hS43 (hend (fg [(0, _), (1, _), (2, _), (3, _), (10, _), (11, _), (12, _), (13, _), (15, _), (16, _)] ⟨rfl, rfl, rfl, rfl, rfl, rfl, rfl, rfl, rfl, rfl, ⟨⟩⟩ fun _ => (sreg (sv (xmove rfl) (send (fg [(0, _), (1, _), (2, _), (3, _), (10, _), (11, _), (12, _), (13, _), (15, _), (144, _)] ⟨rfl, rfl, rfl, rfl, rfl, rfl, rfl, rfl, rfl, rfl, ⟨⟩⟩ fun _ => (cno rfl (wp_skip (nThen (fg [(0, _), (1, _), (2, _), (3, _), (10, _), (11, _), (12, _), (13, _)] ⟨rfl, rfl, rfl, rfl, rfl, rfl, rfl, rfl, ⟨⟩⟩ fun _ => ?_)))))))))))
        refine sreg (sv (xmove rfl) (sv (xlen sl37 rfl) (sv (xmove rfl) (sv (xsub rfl rfl (w64 (by omega) (by omega))) (sv (xassign rfl) (send (fg [(0, _), (1, _), (2, _), (3, _), (10, _), (11, _), (12, _), (13, _), (17, _)] ⟨rfl, rfl, rfl, rfl, rfl, rfl, rfl, rfl, rfl, ⟨⟩⟩ fun _ => (sreg (sv (xmove rfl) ?_)))))))))
        refine svP (xleq rfl rfl) (fun hc159 => ?_) (fun hc159 => ?_)
        ·
         refine send (fg [(0, _), (1, _), (2, _), (3, _), (10, _), (11, _), (12, _), (13, _), (17, _), (159, _)] ⟨rfl, rfl, rfl, rfl, rfl, rfl, rfl, rfl, rfl, rfl, ⟨⟩⟩ fun _ => (cyes rfl (wp_seq (sreg (sv (xmove rfl) (sv (xeqs rfl rfl) (send (fg [(0, _), (1, _), (2, _), (3, _), (10, _), (11, _), (12, _), (13, _), (17, _), (161, _)] ⟨rfl, rfl, rfl, rfl, rfl, rfl, rfl, rfl, rfl, rfl, ⟨⟩⟩ fun _ => ?_))))))))
         refine jcut [(0, _), (1, _), (2, _), (3, _), (10, _), (12, _), (13, _), (17, _)] ⟨rfl, rfl, rfl, rfl, rfl, rfl, rfl, rfl, trivial⟩ (fun (x : ByteArray) => match x with | nb => [(11, .string nb)]) (fun (x : ByteArray) wx => match x with | nb => Fr (fun _ => False) w10.drew wx ∧ (nb = mkB s)) ?_ ?_
         ·
          have hJ50 : Fr (fun _ => False) w10.drew w10.drew := Fr.refl _ _
          refine cB rfl (fun hb => ?_) (fun hb => ?_)
          ·
           refine ldraw (Fr (fun _ => False) w10.drew.drew) [(0, .rd), (1, .rd), (2, .rd), (3, .rd), (4, .rd), (5, .rd), (6, .rd), (7, .rd), (8, .rd), (9, .rd)] mixed (by kernel_rfl) (fun _ _ _ _ _ h => by cases h.1) ?_
           have z51 : w10.drew.drew.heap.size = w10.drew.heap.size := rfl
           have hN := hN.keep (Fr.drew (Fr.refl (fun _ => False) w10.drew)) (by omega) id
           have hf := hf.drew
           have hv1 := hv1.keep (Fr.drew (Fr.refl (fun _ => False) w10.drew)) id
           have hC1 := hC1.keep (Fr.drew (Fr.refl (fun _ => False) w10.drew)) nF
           have hL9 := hL9.drew
           have hJ50 := hJ50.drew
           have hS52 : Fr (fun _ => False) w10.drew.drew w10.drew.drew := Fr.refl _ _
           refine hv rfl (fun _ _ => xmove rfl) hS52 (hv rfl (fun _ _ => xnilc rfl) hS52 (hv rfl (fun _ _ => xfld fl82_0 rfl) hS52 (hv rfl (fun _ _ => xmove rfl) hS52 (hv rfl (fun _ _ => xnilc rfl) hS52 (hv rfl (fun _ _ => xfld fl82_1 rfl) hS52 (hv rfl (fun w' hS => xld on5 rfl ((hN.keep hS (by omega) id).seg (i := 0) rfl rfl 255 _ (nm_last _))) hS52 (hv rfl (fun _ _ => xcutAH (hi := s.length) ar80 sz5 rfl rfl (by omega) (by omega)) hS52 (hv rfl (fun w' hS => xb2sR (bs := s) sl37 ki5 st9 rfl rfl (nm_part (hN.keep hS (by omega) id) (by omega) 0)) hS52 (hv rfl (fun _ _ => xassign rfl) hS52 (lhend ?_))))))))))
           exact ⟨rfl, mkB s, _, env_okl ⟨rfl, rfl, rfl, rfl, rfl, rfl, rfl, rfl, rfl, trivial⟩, ⟨hJ50, (rfl)⟩⟩
          ·
           refine wp_skip ?_
           exact ⟨rfl, na, _, env_okl ⟨rfl, rfl, rfl, rfl, rfl, rfl, rfl, rfl, rfl, trivial⟩, ⟨hJ50, (hna.resolve_left (by simpa using hb))⟩⟩
         ·
          rintro nb _ w53 ⟨hJ50, hnb⟩
          have z54 := hJ50.size
          have hf := hf.step0 hJ50
          have hv1 := hv1.keep hJ50 id
          have hC1 := hC1.keep hJ50 nF
          have hL9 := hL9.step0 hJ50
          refine nThen (fg [(0, _), (1, _), (2, _), (3, _), (10, _), (11, _), (12, _), (13, _), (17, _)] ⟨rfl, rfl, rfl, rfl, rfl, rfl, rfl, rfl, rfl, ⟨⟩⟩ fun _ => (lreg (sv (xmove rfl) (sv (xmove rfl) (sv (xmove rfl) (sv (xcutSL st9 rfl rfl rfl (by rw [hnb, mkB_size]; omega)) (sv (xmove rfl) (sv (xconv hs3 ki22 rfl (wu16n (UInt16.ofNat (pos + q.length)).toNat (by rw [UInt16.toNat_ofNat']; omega))) ?_))))))))
          refine suK (xput (v := UInt16.ofNat (pos + q.length)) mp146 st9 (show Mp w53 gm M from hC1) (by rw [hnb, extr_drop]; exact hlk) rfl rfl rfl) ?_
          rintro w55 ⟨m56, hP, hsz⟩
          have hf := hf.step m56 (fun k hk hS => by have hS : k = gm := hS; show k = g ∨ k = gm; omega)
          have hv1 := hv1.keep m56 (by show ¬ (gv = gm); omega)
          have hL9 := hL9.step m56 (fun k hk hS => by have hS : k = gm := hS; show k = g ∨ k = gm; omega)
          rw [hnb, extr_drop] at hP
          have hC1 : Cmp w55 (some gm) (some (M ++ [(mkB (s.drop i), UInt16.ofNat (pos + q.length))])) := hP
          refine lend (nBlock (nThen (fg [(0, _), (1, _), (2, _), (3, _), (10, _), (11, _), (12, _), (13, _)] ⟨rfl, rfl, rfl, rfl, rfl, rfl, rfl, rfl, ⟨⟩⟩ fun _ => (lreg (sv (xmove rfl) (sv (xadd rfl rfl (w64 (by omega) (by omega))) (sv (xassign rfl) (lend (nThen ?_)))))))))
          have hll := lab_len hlab (by omega)
          have hdr := drop_one (s := s) (i := i) (by omega)
          rw [hdr] at hE hng
          have hng2 := nameGo_let hng (u8ne hc76)
          obtain rfl : lab = [] := lab_first hlab hbi hnd (by omega) (by first | exact .inl hc114 | exact .inr ⟨by omega, hc123⟩)
          rw [hdr] at hlk
          rw [hdr] at hC1
          refine ⟨(i + 1, bg, _, gv, q, [] ++ [s[i]], some (M ++ [(mkB (s.drop i), UInt16.ofNat (pos + q.length))]), nb), _, env_okl ⟨rfl, rfl, rfl, rfl, rfl, rfl, rfl, rfl, trivial⟩, ⟨hL9, (by omega), (by omega), (hv1), (by omega), (by omega), (by rw [hdr]; exact hC1), (by rw [← hE, pk_miss (u8ne hc76) hlk, if_pos (by omega), List.nil_append, hdr]), (lab_next hlab hbi (by omega)), (by simpa using hng2), (.inr hnb), (fun h => by omega), (fun x hx => (List.mem_append.1 hx).elim (hnd x) (fun h => by simp at h; subst h; exact u8ne hc76)), (by simp at hol ⊢; omega)⟩, ?_⟩
          show s.length - (i + 1) < s.length - i; omega
        ·
         refine send (fg [(0, _), (1, _), (2, _), (3, _), (10, _), (11, _), (12, _), (13, _), (17, _), (159, _)] ⟨rfl, rfl, rfl, rfl, rfl, rfl, rfl, rfl, rfl, rfl, ⟨⟩⟩ fun _ => (cno rfl (wp_skip (nBlock (nThen (fg [(0, _), (1, _), (2, _), (3, _), (10, _), (11, _), (12, _), (13, _)] ⟨rfl, rfl, rfl, rfl, rfl, rfl, rfl, rfl, ⟨⟩⟩ fun _ => (lreg (sv (xmove rfl) (sv (xadd rfl rfl (w64 (by omega) (by omega))) (sv (xassign rfl) (lend ?_)))))))))))
         refine nThen ?_
         have hll := lab_len hlab (by omega)
         have hdr := drop_one (s := s) (i := i) (by omega)
         rw [hdr] at hE hng
         have hng2 := nameGo_let hng (u8ne hc76)
         obtain rfl : lab = [] := lab_first hlab hbi hnd (by omega) (by first | exact .inl hc114 | exact .inr ⟨by omega, hc123⟩)
         rw [hdr] at hlk
         refine ⟨(i + 1, bg, _, gv, q, [] ++ [s[i]], some M, na), _, env_okl ⟨rfl, rfl, rfl, rfl, rfl, rfl, rfl, rfl, trivial⟩, ⟨hL9, (by omega), (by omega), (hv1), (by omega), (by omega), (hC1), (by rw [← hE, pk_miss (u8ne hc76) hlk, if_neg (by omega), List.nil_append]), (lab_next hlab hbi (by omega)), (by simpa using hng2), (hna), (fun h => by omega), (fun x hx => (List.mem_append.1 hx).elim (hnd x) (fun h => by simp at h; subst h; exact u8ne hc76)), (by simp at hol ⊢; omega)⟩, ?_⟩
         show s.length - (i + 1) < s.length - i; omega
      ·
       refine sv (xpickT rfl rfl) (send (fg [(0, _), (1, _), (2, _), (3, _), (10, _), (11, _), (12, _), (13, _), (128, _)] ⟨rfl, rfl, rfl, rfl, rfl, rfl, rfl, rfl, rfl, ⟨⟩⟩ fun _ => (cno rfl (wp_skip (nBlock (nThen (fg [(0, _), (1, _), (2, _), (3, _), (10, _), (11, _), (12, _), (13, _)] ⟨rfl, rfl, rfl, rfl, rfl, rfl, rfl, rfl, ⟨⟩⟩ fun _ => (lreg (sv (xmove rfl) (sv (xadd rfl rfl (w64 (by omega) (by omega))) (sv (xassign rfl) ?_)))))))))))
       refine lend (nThen ?_)
       have hll := lab_len hlab (by omega)
       have hdr := drop_one (s := s) (i := i) (by omega)
       rw [hdr] at hE hng
       have hng2 := nameGo_let hng (u8ne hc76)
       have hside : lab ≠ [] ∨ C1 = none := by first | exact .inr (Cmp.none hC1) | exact .inl (lab_mid hfst hll hbi hc114 (by omega) hc123)
       refine ⟨(i + 1, bg, _, gv, q, lab ++ [s[i]], C1, na), _, env_okl ⟨rfl, rfl, rfl, rfl, rfl, rfl, rfl, rfl, trivial⟩, ⟨hL9, (by omega), (by omega), (hv1), (by omega), (by omega), (hC1), (by rw [← hE, pk_next (u8ne hc76) hside]), (lab_next hlab hbi (by omega)), (by simpa using hng2), (hna), (fun h => by omega), (fun x hx => (List.mem_append.1 hx).elim (hnd x) (fun h => by simp at h; subst h; exact u8ne hc76)), (by simp at hol ⊢; omega)⟩, ?_⟩
       show s.length - (i + 1) < s.length - i; omega
     ·
      refine sv (xpickF rfl rfl) (sv (xmove rfl) (gno rfl rfl rfl (gno rfl rfl rfl (sv (xpickF rfl rfl) (send (fg [(0, _), (1, _), (2, _), (3, _), (10, _), (11, _), (12, _), (13, _), (128, _)] ⟨rfl, rfl, rfl, rfl, rfl, rfl, rfl, rfl, rfl, ⟨⟩⟩ fun _ => (cno rfl (wp_skip (nBlock (nThen (fg [(0, _), (1, _), (2, _), (3, _), (10, _), (11, _), (12, _), (13, _)] ⟨rfl, rfl, rfl, rfl, rfl, rfl, rfl, rfl, ⟨⟩⟩ fun _ => ?_)))))))))))
      refine lreg (sv (xmove rfl) (sv (xadd rfl rfl (w64 (by omega) (by omega))) (sv (xassign rfl) (lend (nThen ?_)))))
      have hll := lab_len hlab (by omega)
      have hdr := drop_one (s := s) (i := i) (by omega)
      rw [hdr] at hE hng
      have hng2 := nameGo_let hng (u8ne hc76)
      have hside : lab ≠ [] ∨ C1 = none := by first | exact .inr (Cmp.none hC1) | exact .inl (lab_mid hfst hll hbi hc114 (by omega) hc123)
      refine ⟨(i + 1, bg, _, gv, q, lab ++ [s[i]], C1, na), _, env_okl ⟨rfl, rfl, rfl, rfl, rfl, rfl, rfl, rfl, trivial⟩, ⟨hL9, (by omega), (by omega), (hv1), (by omega), (by omega), (hC1), (by rw [← hE, pk_next (u8ne hc76) hside]), (lab_next hlab hbi (by omega)), (by simpa using hng2), (hna), (fun h => by omega), (fun x hx => (List.mem_append.1 hx).elim (hnd x) (fun h => by simp at h; subst h; exact u8ne hc76)), (by simp at hol ⊢; omega)⟩, ?_⟩
      show s.length - (i + 1) < s.length - i; omega
  ·
   refine send (fg [(0, _), (1, _), (2, _), (3, _), (10, _), (11, _), (12, _), (13, _), (67, _)] ⟨rfl, rfl, rfl, rfl, rfl, rfl, rfl, rfl, rfl, ⟨⟩⟩ fun _ => (cno rfl (wp_exit (eThen (eThen (eHit (nThen (fg [(1, _)] ⟨rfl, ⟨⟩⟩ fun _ => (sreg (sv (xmove rfl) ?_))))))))))
   refine svK (xslit (bvs [0]) sl37 in5 rfl (by decide) rfl rfl rfl rfl (by decide) (by simp [bvs, bv, Value.cells]) (bvs_one _)) ?_
   rintro _ w58 ⟨b178, rfl, m59, h178, e178, s178, r178⟩
   have hf := hf.step0 m59
   have hv1 := hv1.keep m59 id
   have hC1 := hC1.keep m59 nF
   refine svK (xapp sl37 in5 rfl (by decide) rfl rfl hv1 (r178.src sl37) (by simp only [maxLen]; omega) (by omega)) ?_
   rintro _ w60 ⟨g179, r179, m61, a179, l179⟩
   have z62 := m61.size
   have hf := hf.step m61 (fun k hk hS => by have hS : k = gv := hS; show k = g ∨ k = gm; omega)
   have hC1 := hC1.keep m61 (fun b hb => by have hb := hm b hb; show ¬ (b = gv); omega)
   obtain ⟨p179, q179, rfl, -⟩ := r179.form
   refine sv (xassign rfl) (sv (xassign rfl) (send (fg [(8, _), (9, _)] ⟨rfl, rfl, ⟨⟩⟩ fun _ => (wp_ret ?_))))
   refine rp2 rfl rfl rfl ?_
   have ed : s.drop i = [] := List.drop_eq_nil_of_le (by omega)
   rw [ed] at hE hng
   obtain rfl : lab = [] := List.eq_nil_of_length_eq_zero (by simpa [nameGo] using hng)
   simp only [packGo] at hE
   obtain ⟨e1, e2⟩ := pkE_eq hE
   rw [packName, if_neg hgo.1]
   rw [← e1, ← e2]
   exact app_ofC (out := q ++ [0]) r179 (by simp; omega) (by simp [bvs_app]) hf (by omega) (l179 (by omega)) hC1
end Go.Proofs.YtifnodoffgfpbaaGreatDoor

namespace Go.Proofs.YtifnodoffgfpbaaGreatDoor
open Go

/-- these bytes stand in b from i on -/
def Std (b : List UInt8) (i : Nat) (bs : List UInt8) : Prop := ∀ (j : Nat) (c : UInt8), bs[j]? = some c → b[i + j]? = some c
theorem Std.left {b xs ys : List UInt8} {i : Nat} (h : Std b i (xs ++ ys)) : Std b i xs := fun j c hj => h j c (by
  have : j < xs.length := (List.getElem?_eq_some_iff.1 hj).1
  rw [List.getElem?_append_left this]; exact hj)
theorem Std.right {b xs ys : List UInt8} {i : Nat} (h : Std b i (xs ++ ys)) : Std b (i + xs.length) ys := fun j c hj => by
  have := h (xs.length + j) c (by rw [List.getElem?_append_right (by omega), Nat.add_sub_cancel_left]; exact hj)
  rw [Nat.add_assoc]; exact this
theorem Std.right' {b xs ys : List UInt8} {i k : Nat} (h : Std b i (xs ++ ys)) (hk : i + xs.length = k) : Std b k ys := hk ▸ h.right
theorem Std.head {b xs : List UInt8} {x : UInt8} {i : Nat} (h : Std b i (x :: xs)) : b[i]? = some x := h 0 x rfl
theorem Std.tail {b xs : List UInt8} {x : UInt8} {i : Nat} (h : Std b i (x :: xs)) : Std b (i + 1) xs := Std.right (xs := [x]) h
theorem Std.self (b : List UInt8) : Std b 0 b := fun j c h => by rw [Nat.zero_add]; exact h
theorem Std.le {b bs : List UInt8} {i : Nat} (h : Std b i bs) (h0 : bs ≠ []) : i + bs.length ≤ b.length := by
  have hp : 0 < bs.length := List.length_pos_iff.2 h0
  have := h (bs.length - 1) _ (List.getElem?_eq_getElem (by omega))
  have := (List.getElem?_eq_some_iff.1 this).1
  omega
/-- In b there stands from i on a name of these labels, whose writing ends at nx; st: where the part begins that each pointer must lead ahead of; k: how many pointers. -/
inductive NameR (b : List UInt8) : Nat → Nat → Nat → List UInt8 → Nat → Prop
  | fin {st i : Nat} (hb : b[i]? = some 0) : NameR b st 0 i [] (i + 1)
  | lab {st k i nx : Nat} {s : List UInt8} (lab : List UInt8) (h0 : lab ≠ []) (h63 : lab.length ≤ 63) (hd : ∀ c ∈ lab, c ≠ 46) (hb : b[i]? = some (UInt8.ofNat lab.length)) (hs : Std b (i + 1) lab)
      (h : NameR b st k (i + 1 + lab.length) s nx) : NameR b st k i (lab ++ (46 :: s)) nx
  | ptr {st k i to nx : Nat} {s : List UInt8} (h1 : to < st) (h14 : to ≤ 16383) (hb : b[i]? = some (UInt8.ofNat (192 + to / 256))) (hb2 : b[i + 1]? = some (UInt8.ofNat to))
      (h : NameR b to k to s nx) : NameR b st (k + 1) i s (i + 2)

theorem NameR.up {b : List UInt8} {st k i nx : Nat} {s : List UInt8} (h : NameR b st k i s nx) : ∀ {st' : Nat}, st ≤ st' → NameR b st' k i s nx := by
  induction h with
  | fin hb => intro st' _; exact .fin hb
  | lab lab h0 h63 hd hb hs _ ih => intro st' hl; exact .lab lab h0 h63 hd hb hs (ih hl)
  | ptr h1 h14 hb hb2 h _ => intro st' hl; exact .ptr (by omega) h14 hb hb2 h
theorem NameR.le {b : List UInt8} {st k i nx : Nat} {s : List UInt8} (h : NameR b st k i s nx) : i < nx ∧ nx ≤ b.length := by
  induction h with
  | fin hb => have := (List.getElem?_eq_some_iff.1 hb).1; omega
  | lab lab h0 h63 hd hb hs _ ih => omega
  | ptr h1 h14 hb hb2 h _ => have := (List.getElem?_eq_some_iff.1 hb2).1; omega

/-- the labels of a name: of the dot alone there are none -/
def txt (s : List UInt8) : List UInt8 := if s = [46] then [] else s
def NameAt (b : List UInt8) (k i : Nat) (s : List UInt8) (nx : Nat) : Prop := NameR b i k i (txt s) nx

/-- what the map tells of a text: where it stands -/
def GoodE (b : List UInt8) (st : Nat) (key : List UInt8) (p : UInt16) : Prop := p.toNat < st ∧ p.toNat ≤ 16383 ∧ ∃ k nx, NameR b p.toNat k p.toNat key nx ∧ k < key.count 46
theorem GoodE.up {b : List UInt8} {st st' : Nat} {key : List UInt8} {p : UInt16} (h : GoodE b st key p) (hs : st ≤ st') : GoodE b st' key p := ⟨by have := h.1; omega, h.2⟩

theorem look_app (M : Ent) (key : ByteArray) (v : UInt16) (s : ByteArray) : look (M ++ [(key, v)]) s = match look M s with
    | some p => some p
    | none => if s = key then some v else none := by
  induction M with
  | nil => simp [look]
  | cons p M ih =>
    obtain ⟨k, u⟩ := p
    simp only [List.cons_append, look]
    split
    · rfl
    · exact ih
theorem ptr_bytes (p : UInt16) (h : p.toNat ≤ 16383) : ptrL p = [UInt8.ofNat (192 + p.toNat / 256), UInt8.ofNat p.toNat] := by
  have key : ∀ x : Nat, x < 64 → x ||| 192 = 192 + x := by decide
  simp only [ptrL]
  congr 1
  congr 1
  rw [UInt16.toNat_or, UInt16.toNat_shiftRight]
  have e1 : (8 : UInt16).toNat % 16 = 8 := rfl
  have e2 : (192 : UInt16).toNat = 192 := rfl
  rw [e1, e2, Nat.shiftRight_eq_div_pow]
  exact key _ (by omega)

theorem packGo_at (b : List UInt8) (st : Nat) : ∀ (cs lab : List UInt8) (M : Ent) (pos : Nat), nameGo lab.length cs = true → (∀ c ∈ lab, c ≠ 46) → st ≤ pos → Std b pos (packGo (some M) pos lab cs).1 →
    (∀ key p, key.length ≤ cs.length → look M (mkB key) = some p → GoodE b st key p) →
    (∃ k, NameR b st k pos (lab ++ cs) (pos + (packGo (some M) pos lab cs).1.length) ∧ k ≤ (lab ++ cs).count 46 ∧ (lab ≠ [] → k < (lab ++ cs).count 46)) ∧
    ∃ M', (packGo (some M) pos lab cs).2 = some M' ∧ ∀ key p, look M' (mkB key) = some p → look M (mkB key) = some p ∨ GoodE b (pos + (packGo (some M) pos lab cs).1.length) key p
  | [], lab, M, pos, hn, _, _, hb, _ => by
    have hl : lab = [] := by
      cases lab with
      | nil => rfl
      | cons x xs => simp [nameGo] at hn
    subst hl
    refine ⟨⟨0, ?_, by simp, fun h => absurd rfl h⟩, M, rfl, fun key p h => .inl h⟩
    simp only [packGo, List.append_nil, List.length_cons, List.length_nil]
    exact .fin hb.head
  | c :: cs, lab, M, pos, hn, hlab, hst, hb, hold => by
    by_cases hc : c = 46
    · subst hc
      rw [nameGo, if_pos rfl] at hn
      split at hn
      · cases hn
      · rename_i hl
        have h0 : lab ≠ [] := by intro h; subst h; simp at hl
        simp only [packGo, if_pos] at hb ⊢
        have ih := packGo_at b st cs [] M (pos + (lab.length + 1)) (by simpa using hn) (by simp) (by omega) (hb.right' (by simp)) (fun key p hk hm => hold key p (by simp; omega) hm)
        obtain ⟨⟨k, hr, hk, _⟩, M', hM, hnew⟩ := ih
        refine ⟨⟨k, ?_, ?_, ?_⟩, M', hM, ?_⟩
        · refine NameR.lab lab h0 (by omega) hlab hb.left.head hb.left.tail ?_
          have e1 : pos + 1 + lab.length = pos + (lab.length + 1) := by omega
          have e2 : pos + (UInt8.ofNat lab.length :: lab ++ (packGo (some M) (pos + (lab.length + 1)) [] cs).1).length = pos + (lab.length + 1) + (packGo (some M) (pos + (lab.length + 1)) [] cs).1.length := by simp; omega
          rw [e1, e2]
          simpa using hr
        · simp only [List.nil_append] at hk
          rw [List.count_append, List.count_cons_self]; omega
        · intro _
          simp only [List.nil_append] at hk
          rw [List.count_append, List.count_cons_self]; omega
        · intro key p h
          rcases hnew key p h with h | h
          · exact .inl h
          · exact .inr (h.up (by simp; omega))
    · have hn' : nameGo (lab.length + 1) cs = true := nameGo_let hn hc
      by_cases hl : lab = []
      · subst hl
        cases hlk : look M (mkB (c :: cs)) with
        | some p =>
          rw [pk_hit hc hlk] at hb ⊢
          obtain ⟨g1, g2, k, nx, g3, g4⟩ := hold (c :: cs) p (Nat.le_refl _) hlk
          rw [ptr_bytes p g2] at hb ⊢
          refine ⟨⟨k + 1, ?_, by rw [List.nil_append]; exact g4, fun h => absurd rfl h⟩, M, rfl, fun key p h => .inl h⟩
          exact .ptr g1 g2 hb.head hb.tail.head g3
        | none =>
          rw [pk_miss hc hlk] at hb ⊢
          have hold2 : ∀ key p, key.length ≤ cs.length → look (if pos ≤ 16383 then M ++ [(mkB (c :: cs), UInt16.ofNat pos)] else M) (mkB key) = some p → GoodE b st key p := by
            intro key p hk hm
            split at hm
            · rw [look_app] at hm
              split at hm
              · rename_i q hq
                simp only [Option.some.injEq] at hm; subst hm
                exact hold key _ (by simp; omega) hq
              · split at hm
                · rename_i he
                  have := congrArg bt he
                  rw [bt_mkB, bt_mkB] at this
                  rw [this] at hk
                  simp at hk; omega
                · cases hm
            · exact hold key p (by simp; omega) hm
          have ih := packGo_at b st cs [c] _ pos hn' (by simpa using hc) hst hb hold2
          obtain ⟨⟨k, hr, hk, hk2⟩, M', hM, hnew⟩ := ih
          refine ⟨⟨k, hr, hk, fun h => absurd rfl h⟩, M', hM, ?_⟩
          intro key p h
          rcases hnew key p h with h | h
          · split at h
            · rename_i hp
              rw [look_app] at h
              split at h
              · rename_i q hq; exact .inl (by rw [hq]; exact h)
              · split at h
                · rename_i he
                  simp only [Option.some.injEq] at h
                  subst h
                  have he := congrArg bt he
                  rw [bt_mkB, bt_mkB] at he
                  subst he
                  have e : (UInt16.ofNat pos).toNat = pos := by rw [UInt16.toNat_ofNat']; omega
                  have hr' : ∃ nx, NameR b (UInt16.ofNat pos).toNat k (UInt16.ofNat pos).toNat (c :: cs) nx := by rw [e]; exact ⟨_, hr.up hst⟩
                  obtain ⟨nx, hr'⟩ := hr'
                  exact .inr ⟨by have := hr.le; omega, by omega, k, nx, hr', hk2 (by simp)⟩
                · cases h
            · exact .inl h
          · exact .inr h
      · rw [pk_mid hc hl] at hb ⊢
        have ih := packGo_at b st cs (lab ++ [c]) M pos (by simpa using hn') (by
          intro x hx
          rcases List.mem_append.1 hx with h | h
          · exact hlab x h
          · simp at h; subst h; exact hc) hst hb (fun key p hk hm => hold key p (by simp; omega) hm)
        obtain ⟨⟨k, hr, hk, hk2⟩, M', hM, hnew⟩ := ih
        rw [List.append_assoc] at hr hk hk2
        exact ⟨⟨k, hr, hk, fun _ => hk2 (by simp)⟩, M', hM, hnew⟩

/-- what is in the map stands ahead of st -/
def GoodM (b : List UInt8) (st : Nat) (M : Ent) : Prop := ∀ key p, look M (mkB key) = some p → GoodE b st key p
theorem packName_at {b : List UInt8} {M : Ent} {pos : Nat} {s : List UInt8} (hs : nameL s) (hb : Std b pos (packName (some M) pos s).1) (hM : GoodM b pos M) :
    (∃ k, NameAt b k pos s (pos + (packName (some M) pos s).1.length) ∧ k ≤ (s.drop 1).count 46) ∧ ∃ M', (packName (some M) pos s).2 = some M' ∧ GoodM b (pos + (packName (some M) pos s).1.length) M' := by
  simp only [packName] at hb ⊢
  by_cases hd : s = [46]
  · simp only [if_pos hd] at hb ⊢
    refine ⟨⟨0, ?_, by omega⟩, M, rfl, fun key p h => (hM key p h).up (by omega)⟩
    simp only [NameAt, txt, if_pos hd]
    exact .fin hb.head
  · simp only [if_neg hd] at hb ⊢
    rcases hs with hs | ⟨_, hs, _⟩
    · exact absurd hs hd
    · obtain ⟨⟨k, hr, hk, _⟩, M', hM', hnew⟩ := packGo_at b pos s [] M pos (by simpa using hs) (by simp) (Nat.le_refl _) hb (fun key p _ h => hM key p h)
      have hcount : s.count 46 = (s.drop 1).count 46 := by
        cases s with
        | nil => rfl
        | cons c cs =>
          have := nameGo_first hs
          simp only [List.getElem?_cons_zero, ne_eq, Option.some.injEq] at this
          rw [List.drop_one, List.tail_cons, List.count_cons_of_ne this]
      refine ⟨⟨k, ?_, by simpa [hcount] using hk⟩, M', hM', fun key p h => ?_⟩
      · simp only [NameAt, txt, if_neg hd]; simpa using hr
      · rcases hnew key p h with h | h
        · exact (hM key p h).up (by omega)
        · exact h
/-- a name that is written whole is read without pointers -/
theorem wireGo_at {b : List UInt8} (st : Nat) : ∀ (cs lab : List UInt8) (pos : Nat), nameGo lab.length cs = true → (∀ c ∈ lab, c ≠ 46) → Std b pos (wireGo lab cs ++ [0]) →
    NameR b st 0 pos (lab ++ cs) (pos + (wireGo lab cs).length + 1)
  | [], lab, pos, hn, _, hb => by
    have hl : lab = [] := by
      cases lab with
      | nil => rfl
      | cons x xs => simp [nameGo] at hn
    subst hl
    simp only [wireGo, List.nil_append, List.length_nil, Nat.add_zero] at hb ⊢
    exact .fin hb.head
  | c :: cs, lab, pos, hn, hlab, hb => by
    by_cases hc : c = 46
    · subst hc
      rw [nameGo, if_pos rfl] at hn
      split at hn
      · cases hn
      · rename_i hl
        have h0 : lab ≠ [] := by intro h; subst h; simp at hl
        simp only [wireGo, if_true, if_neg h0] at hb ⊢
        rw [List.append_assoc] at hb
        have ih := wireGo_at st cs [] (pos + (lab.length + 1)) (by simpa using hn) (by simp) (hb.right' (by simp))
        refine NameR.lab lab h0 (by omega) hlab hb.left.head hb.left.tail ?_
        have e1 : pos + 1 + lab.length = pos + (lab.length + 1) := by omega
        have e2 : pos + (UInt8.ofNat lab.length :: lab ++ wireGo [] cs).length + 1 = pos + (lab.length + 1) + (wireGo [] cs).length + 1 := by simp; omega
        rw [e1, e2]
        simpa using ih
    · have hn' : nameGo (lab.length + 1) cs = true := nameGo_let hn hc
      simp only [wireGo, hc, if_false] at hb ⊢
      have ih := wireGo_at st cs (lab ++ [c]) pos (by simpa using hn') (by
          intro x hx
          rcases List.mem_append.1 hx with h | h
          · exact hlab x h
          · simp at h; subst h; exact hc) hb
      rw [List.append_assoc] at ih
      exact ih
theorem wire_at {b : List UInt8} {pos : Nat} {s : List UInt8} (hs : nameL s) (hb : Std b pos (wire s)) : NameAt b 0 pos s (pos + (wire s).length) := by
  by_cases hd : s = [46]
  · subst hd
    simp only [NameAt, txt, if_true]
    exact .fin hb.head
  · rcases hs with hs | ⟨_, hs, _⟩
    · exact absurd hs hd
    · simp only [NameAt, txt, if_neg hd]
      have := wireGo_at (b := b) pos s [] pos (by simpa using hs) (by simp) hb
      simpa [wire, Nat.add_assoc] using this
end Go.Proofs.YtifnodoffgfpbaaGreatDoor

namespace Go.Proofs.YtifnodoffgfpbaaGreatDoor
open Go

def soaL (r : RecD) : List UInt8 := be32 r.n1.toNat ++ (be32 r.n2.toNat ++ (be32 r.n3.toNat ++ (be32 r.n4.toNat ++ be32 r.n5.toNat)))
theorem soaL_length (r : RecD) : (soaL r).length = 20 := rfl
def packMx (C : Option Ent) (pos : Nat) (r : RecD) : List UInt8 × Option Ent := (be16 r.n1.toNat ++ (packName C (pos + 2) (bt r.host)).1, (packName C (pos + 2) (bt r.host)).2)
def packSoa (C : Option Ent) (pos : Nat) (r : RecD) : List UInt8 × Option Ent :=
  ((packName C pos (bt r.host)).1 ++ ((packName (packName C pos (bt r.host)).2 (pos + (packName C pos (bt r.host)).1.length) (bt r.box)).1 ++ soaL r), (packName (packName C pos (bt r.host)).2 (pos + (packName C pos (bt r.host)).1.length) (bt r.box)).2)
def packBody (C : Option Ent) (pos : Nat) (r : RecD) : List UInt8 × Option Ent :=
  if r.kind = 2 ∨ r.kind = 3 ∨ r.kind = 5 then packName C pos (bt r.host)
  else if r.kind = 6 then packMx C pos r
  else if r.kind = 4 then packSoa C pos r
  else (bodyL r, C)
/-- the parts of a record behind its name -/
def packTail (r : RecD) (body : List UInt8) : List UInt8 := be16 (typeN r).toNat ++ (be16 r.cls.toNat ++ (be32 r.ttl.toNat ++ (be16 body.length ++ body)))
def packRec (C : Option Ent) (pos : Nat) (r : RecD) : List UInt8 × Option Ent :=
  ((packName C pos (bt r.name)).1 ++ packTail r (packBody (packName C pos (bt r.name)).2 (pos + (packName C pos (bt r.name)).1.length + 10) r).1, (packBody (packName C pos (bt r.name)).2 (pos + (packName C pos (bt r.name)).1.length + 10) r).2)
def packAsk (C : Option Ent) (pos : Nat) (a : AskD) : List UInt8 × Option Ent := ((packName C pos (bt a.name)).1 ++ (be16 a.typ.toNat ++ be16 a.cls.toNat), (packName C pos (bt a.name)).2)
def packAll {α : Type} (f : Option Ent → Nat → α → List UInt8 × Option Ent) : Option Ent → Nat → List α → List UInt8 × Option Ent
  | C, _, [] => ([], C)
  | C, pos, x :: xs => ((f C pos x).1 ++ (packAll f (f C pos x).2 (pos + (f C pos x).1.length) xs).1, (packAll f (f C pos x).2 (pos + (f C pos x).1.length) xs).2)
theorem packAll_snoc {α : Type} (f : Option Ent → Nat → α → List UInt8 × Option Ent) : ∀ (xs : List α) (C : Option Ent) (pos : Nat) (x : α),
    packAll f C pos (xs ++ [x]) = ((packAll f C pos xs).1 ++ (f (packAll f C pos xs).2 (pos + (packAll f C pos xs).1.length) x).1, (f (packAll f C pos xs).2 (pos + (packAll f C pos xs).1.length) x).2)
  | [], C, pos, x => by simp [packAll]
  | y :: ys, C, pos, x => by
    simp only [List.cons_append, packAll]
    rw [packAll_snoc f ys]
    simp only [List.append_assoc, List.length_append, Nat.add_assoc]
def countsM (m : MsgD) : List Nat := [m.asks.length, m.one.length, m.two.length, m.three.length]
/-- the parts of a message: what each adds, and the map behind it -/
def packA (C : Option Ent) (m : MsgD) := packAll packAsk C 12 m.asks
def pack1 (C : Option Ent) (m : MsgD) := packAll packRec (packA C m).2 (12 + (packA C m).1.length) m.one
def pack2 (C : Option Ent) (m : MsgD) := packAll packRec (pack1 C m).2 (12 + (packA C m).1.length + (pack1 C m).1.length) m.two
def pack3 (C : Option Ent) (m : MsgD) := packAll packRec (pack2 C m).2 (12 + (packA C m).1.length + (pack1 C m).1.length + (pack2 C m).1.length) m.three
def packM (C : Option Ent) (m : MsgD) : List UInt8 := headL m.head (countsM m) ++ ((packA C m).1 ++ ((pack1 C m).1 ++ ((pack2 C m).1 ++ (pack3 C m).1)))

def NamesOk (r : RecD) : Prop := nameL (bt r.name) ∧ (r.kind = 2 ∨ r.kind = 3 ∨ r.kind = 5 ∨ r.kind = 6 ∨ r.kind = 9 ∨ r.kind = 11 ∨ r.kind = 12 ∨ r.kind = 4 → nameL (bt r.host)) ∧ (r.kind = 4 → nameL (bt r.box))
theorem packName_non {s : List UInt8} (h : nameL s) (pos : Nat) : packName none pos s = (wire s, none) := by
  simp only [packName]
  by_cases hd : s = [46]
  · rw [if_pos hd, hd]; rfl
  · rw [if_neg hd]
    rcases h with h | ⟨_, h, _⟩
    · exact absurd h hd
    · rw [packGo_none _ [] _ h]; rfl
theorem packBody_non {r : RecD} (h : NamesOk r) (pos : Nat) : packBody none pos r = (bodyL r, none) := by
  simp only [packBody, packMx, packSoa, bodyL]
  by_cases h1 : r.kind = 2 ∨ r.kind = 3 ∨ r.kind = 5
  · rw [if_pos h1, if_neg (by omega), if_neg (by omega), if_pos h1, packName_non (h.2.1 (by omega))]
  · rw [if_neg h1]
    by_cases h2 : r.kind = 6
    · rw [if_pos h2, if_neg (by omega), if_neg (by omega), if_neg h1, if_pos h2, packName_non (h.2.1 (by omega))]
    · rw [if_neg h2]
      by_cases h3 : r.kind = 4
      · rw [if_pos h3, if_neg (by omega), if_neg (by omega), if_neg h1, if_neg h2, if_pos h3, packName_non (h.2.1 (by omega)), packName_non (h.2.2 h3)]; rfl
      · rw [if_neg h3]
theorem packRec_non {r : RecD} (h : NamesOk r) (pos : Nat) : packRec none pos r = (recL r, none) := by
  simp only [packRec, packName_non h.1, packBody_non h, packTail, recL]
theorem packAsk_non {a : AskD} (h : nameL (bt a.name)) (pos : Nat) : packAsk none pos a = (askL a, none) := by
  simp only [packAsk, packName_non h, askL]
theorem packAll_non {α : Type} {f : Option Ent → Nat → α → List UInt8 × Option Ent} {g : α → List UInt8} : ∀ (xs : List α) (pos : Nat), (∀ x ∈ xs, ∀ pos, f none pos x = (g x, none)) → packAll f none pos xs = ((xs.map g).flatten, none)
  | [], pos, _ => rfl
  | x :: xs, pos, h => by
    simp only [packAll]
    rw [h x (by simp) pos]
    simp only []
    rw [packAll_non xs _ (fun y hy => h y (by simp [hy]))]
    rfl
def MsgNames (m : MsgD) : Prop := (∀ a ∈ m.asks, nameL (bt a.name)) ∧ (∀ r ∈ m.one, NamesOk r) ∧ (∀ r ∈ m.two, NamesOk r) ∧ (∀ r ∈ m.three, NamesOk r)
theorem packM_non {m : MsgD} (h : MsgNames m) : packM none m = msgL m := by
  have ha : packA none m = (asksL m.asks, none) := packAll_non _ _ (fun a ha pos => packAsk_non (h.1 a ha) pos)
  have h1 : pack1 none m = (recsL m.one, none) := by rw [pack1, ha]; exact packAll_non _ _ (fun a ha pos => packRec_non (h.2.1 a ha) pos)
  have h2 : pack2 none m = (recsL m.two, none) := by rw [pack2, h1]; exact packAll_non _ _ (fun a ha pos => packRec_non (h.2.2.1 a ha) pos)
  have h3 : pack3 none m = (recsL m.three, none) := by rw [pack3, h2]; exact packAll_non _ _ (fun a ha pos => packRec_non (h.2.2.2 a ha) pos)
  rw [packM, ha, h1, h2, h3]; rfl

theorem packGo_short : ∀ (cs lab : List UInt8) (M : Ent) (pos : Nat), nameGo lab.length cs = true → (packGo (some M) pos lab cs).1.length ≤ (wireGo lab cs).length + 1
  | [], lab, M, pos, _ => by simp [packGo, wireGo]
  | c :: cs, lab, M, pos, hn => by
    by_cases hc : c = 46
    · subst hc
      rw [nameGo, if_pos rfl] at hn
      split at hn
      · cases hn
      · rename_i hl
        have h0 : lab ≠ [] := by intro h; subst h; simp at hl
        have ih := packGo_short cs [] M (pos + (lab.length + 1)) (by simpa using hn)
        simp only [packGo, wireGo, if_true, if_neg h0, List.length_append, List.length_cons] at ih ⊢
        omega
    · have hn' : nameGo (lab.length + 1) cs = true := nameGo_let hn hc
      by_cases hl : lab = []
      · subst hl
        cases hlk : look M (mkB (c :: cs)) with
        | some p =>
          rw [pk_hit hc hlk]
          simp only [wireGo, hc, if_false, List.nil_append, ptrL, List.length_cons, List.length_nil]
          have : ∀ (cs lab : List UInt8), lab ≠ [] → nameGo lab.length cs = true → 1 ≤ (wireGo lab cs).length := by
            intro cs
            induction cs with
            | nil => intro lab h0 hn; cases lab with
              | nil => exact absurd rfl h0
              | cons x xs => simp [nameGo] at hn
            | cons d ds ih =>
              intro lab h0 hn
              by_cases hd : d = 46
              · subst hd; simp only [wireGo, if_true, if_neg h0, List.length_append, List.length_cons]; omega
              · simp only [wireGo, hd, if_false]
                exact ih (lab ++ [d]) (by simp) (by simpa using nameGo_let hn hd)
          have := this cs [c] (by simp) (by simpa using hn')
          omega
        | none =>
          rw [pk_miss hc hlk]
          have ih := packGo_short cs [c] (if pos ≤ 16383 then M ++ [(mkB (c :: cs), UInt16.ofNat pos)] else M) pos (by simpa using hn')
          simp only [wireGo, hc, if_false, List.nil_append]
          exact ih
      · rw [pk_mid hc hl]
        have ih := packGo_short cs (lab ++ [c]) M pos (by simpa using hn')
        simp only [wireGo, hc, if_false]
        exact ih
theorem packName_short {s : List UInt8} (h : nameL s) (M : Ent) (pos : Nat) : (packName (some M) pos s).1.length ≤ (wire s).length := by
  simp only [packName]
  by_cases hd : s = [46]
  · rw [if_pos hd, hd]; exact Nat.le_refl _
  · rw [if_neg hd]
    rcases h with h | ⟨_, h, _⟩
    · exact absurd h hd
    · have := packGo_short s [] M pos h
      simpa [wire] using this
theorem packName_some (s : List UInt8) (M : Ent) (pos : Nat) : ∃ M', (packName (some M) pos s).2 = some M' := by
  simp only [packName]
  split
  · exact ⟨M, rfl⟩
  · exact packGo_some s [] M pos
theorem packBody_short {r : RecD} (h : NamesOk r) (M : Ent) (pos : Nat) : (packBody (some M) pos r).1.length ≤ (bodyL r).length ∧ ∃ M', (packBody (some M) pos r).2 = some M' := by
  simp only [packBody, packMx, packSoa, bodyL]
  by_cases h1 : r.kind = 2 ∨ r.kind = 3 ∨ r.kind = 5
  · rw [if_pos h1, if_neg (by omega), if_neg (by omega), if_pos h1]
    exact ⟨packName_short (h.2.1 (by omega)) M pos, packName_some _ _ _⟩
  · rw [if_neg h1]
    by_cases h2 : r.kind = 6
    · rw [if_pos h2, if_neg (by omega), if_neg (by omega), if_neg h1, if_pos h2]
      refine ⟨?_, packName_some _ _ _⟩
      have := packName_short (h.2.1 (by omega)) M (pos + 2)
      simp only [List.length_append]; omega
    · rw [if_neg h2]
      by_cases h3 : r.kind = 4
      · rw [if_pos h3, if_neg (by omega), if_neg (by omega), if_neg h1, if_neg h2, if_pos h3]
        have e1 := packName_short (h.2.1 (by omega)) M pos
        obtain ⟨M1, hM1⟩ := packName_some (bt r.host) M pos
        simp only [hM1]
        have e2 := packName_short (h.2.2 h3) M1 (pos + (packName (some M) pos (bt r.host)).1.length)
        refine ⟨?_, packName_some _ _ _⟩
        simp only [List.length_append, soaL_length, be32_length]; omega
      · rw [if_neg h3, if_neg h1, if_neg h2, if_neg h3]
        exact ⟨Nat.le_refl _, M, rfl⟩
def BodyR (K : Nat → Prop) (b : List UInt8) (i : Nat) (r : RecD) (e : Nat) : Prop :=
  (r.kind = 2 ∨ r.kind = 3 ∨ r.kind = 5 → ∃ k, K k ∧ NameAt b k i (bt r.host) e) ∧
  (r.kind = 6 → Std b i (be16 r.n1.toNat) ∧ ∃ k, K k ∧ NameAt b k (i + 2) (bt r.host) e) ∧
  (r.kind = 4 → ∃ e1 e2, (∃ k, K k ∧ NameAt b k i (bt r.host) e1) ∧ (∃ k, K k ∧ NameAt b k e1 (bt r.box) e2) ∧ Std b e2 (soaL r) ∧ e = e2 + 20) ∧
  (r.kind = 9 → Std b i (be16 r.n1.toNat ++ (be16 r.n2.toNat ++ be16 r.n3.toNat)) ∧ NameAt b 0 (i + 6) (bt r.host) e) ∧
  (r.kind = 11 ∨ r.kind = 12 → Std b i (be16 r.n1.toNat) ∧ ∃ e1, NameAt b 0 (i + 2) (bt r.host) e1 ∧ Std b e1 (pairsL r.pairs) ∧ e = e1 + (pairsL r.pairs).length) ∧
  (r.kind = 1 ∨ r.kind = 7 ∨ r.kind = 8 ∨ r.kind = 10 ∨ r.kind = 13 → Std b i (bodyL r) ∧ e = i + (bodyL r).length)
def RecR (K : Nat → Prop) (b : List UInt8) (i : Nat) (r : RecD) (e : Nat) : Prop :=
  ∃ e0 len, (∃ k, K k ∧ NameAt b k i (bt r.name) e0) ∧ Std b e0 (be16 (typeN r).toNat ++ (be16 r.cls.toNat ++ (be32 r.ttl.toNat ++ be16 len))) ∧ len < 65536 ∧ BodyR K b (e0 + 10) r (e0 + 10 + len) ∧ e = e0 + 10 + len
def AskR (K : Nat → Prop) (b : List UInt8) (i : Nat) (a : AskD) (e : Nat) : Prop := ∃ e0, (∃ k, K k ∧ NameAt b k i (bt a.name) e0) ∧ Std b e0 (be16 a.typ.toNat ++ be16 a.cls.toNat) ∧ e = e0 + 4
def ListR {α : Type} (R : Nat → α → Nat → Prop) : Nat → List α → Nat → Prop
  | i, [], e => i = e
  | i, x :: xs, e => ∃ e1, R i x e1 ∧ ListR R e1 xs e
def MsgR (K : Nat → Prop) (b : List UInt8) (m : MsgD) : Prop :=
  Std b 0 (headL m.head (countsM m)) ∧ ∃ e0 e1 e2, ListR (AskR K b) 12 m.asks e0 ∧ ListR (RecR K b) e0 m.one e1 ∧ ListR (RecR K b) e1 m.two e2 ∧ ListR (RecR K b) e2 m.three b.length

/-- how many pointers the names of a record may have -/
def KName (K : Nat → Prop) (s : ByteArray) : Prop := ∀ k, k ≤ ((bt s).drop 1).count 46 → K k
def KRec (K : Nat → Prop) (r : RecD) : Prop := KName K r.name ∧ KName K r.host ∧ KName K r.box
def KMsg (K : Nat → Prop) (m : MsgD) : Prop := (∀ a ∈ m.asks, KName K a.name) ∧ (∀ r ∈ m.one, KRec K r) ∧ (∀ r ∈ m.two, KRec K r) ∧ (∀ r ∈ m.three, KRec K r)

theorem bodyL_simple {r : RecD} {K : Nat → Prop} {b : List UInt8} {i : Nat} (h : NamesOk r) (h1 : ¬ (r.kind = 2 ∨ r.kind = 3 ∨ r.kind = 5)) (h2 : ¬ r.kind = 6) (h3 : ¬ r.kind = 4) (hb : Std b i (bodyL r)) : BodyR K b i r (i + (bodyL r).length) := by
  refine ⟨fun h => absurd h h1, fun h => absurd h h2, fun h => absurd h h3, fun h9 => ?_, fun h11 => ?_, fun _ => ⟨hb, rfl⟩⟩
  · have e : bodyL r = (be16 r.n1.toNat ++ (be16 r.n2.toNat ++ be16 r.n3.toNat)) ++ wire (bt r.host) := by
      rw [bodyL, if_neg (by omega), if_neg (by omega), if_neg h1, if_neg h2, if_neg h3, if_neg (by omega), if_pos h9]
      simp
    rw [e] at hb ⊢
    refine ⟨hb.left, ?_⟩
    have := wire_at (h.2.1 (by omega)) (hb.right' (k := i + 6) (by simp [be16_length]))
    rw [List.length_append, show (be16 r.n1.toNat ++ (be16 r.n2.toNat ++ be16 r.n3.toNat)).length = 6 from rfl, ← Nat.add_assoc]
    exact this
  · have e : bodyL r = be16 r.n1.toNat ++ (wire (bt r.host) ++ pairsL r.pairs) := by
      rw [bodyL, if_neg (by omega), if_neg (by omega), if_neg h1, if_neg h2, if_neg h3, if_neg (by omega), if_neg (by omega), if_neg (by omega), if_pos h11]
    rw [e] at hb ⊢
    have hb2 := hb.right' (k := i + 2) (by simp [be16_length])
    refine ⟨hb.left, _, wire_at (h.2.1 (by omega)) hb2.left, hb2.right, ?_⟩
    simp only [List.length_append, be16_length]; omega
theorem packBody_at {r : RecD} {K : Nat → Prop} {b : List UInt8} {M : Ent} {pos : Nat} (h : NamesOk r) (hK : KRec K r) (hM : GoodM b pos M) (hb : Std b pos (packBody (some M) pos r).1) :
    BodyR K b pos r (pos + (packBody (some M) pos r).1.length) ∧ ∃ M', (packBody (some M) pos r).2 = some M' ∧ GoodM b (pos + (packBody (some M) pos r).1.length) M' := by
  have upM : ∀ {M : Ent} {p q : Nat}, GoodM b p M → p ≤ q → GoodM b q M := fun h hl key p hp => (h key p hp).up hl
  simp only [packBody] at hb ⊢
  by_cases h1 : r.kind = 2 ∨ r.kind = 3 ∨ r.kind = 5
  · rw [if_pos h1] at hb ⊢
    obtain ⟨⟨k, hk, hkl⟩, M', hM', hg⟩ := packName_at (h.2.1 (by omega)) hb hM
    exact ⟨⟨fun _ => ⟨k, hK.2.1 k hkl, hk⟩, fun _ => by omega, fun _ => by omega, fun _ => by omega, fun _ => by omega, fun _ => by omega⟩, M', hM', hg⟩
  · rw [if_neg h1] at hb ⊢
    by_cases h2 : r.kind = 6
    · rw [if_pos h2] at hb ⊢
      simp only [packMx] at hb ⊢
      obtain ⟨⟨k, hk, hkl⟩, M', hM', hg⟩ := packName_at (h.2.1 (by omega)) (hb.right' (k := pos + 2) rfl) (upM hM (by omega))
      have e : pos + (be16 r.n1.toNat ++ (packName (some M) (pos + 2) (bt r.host)).1).length = pos + 2 + (packName (some M) (pos + 2) (bt r.host)).1.length := by simp [be16_length]; omega
      rw [e]
      exact ⟨⟨fun _ => by omega, fun _ => ⟨hb.left, k, hK.2.1 k hkl, hk⟩, fun _ => by omega, fun _ => by omega, fun _ => by omega, fun _ => by omega⟩, M', hM', hg⟩
    · rw [if_neg h2] at hb ⊢
      by_cases h3 : r.kind = 4
      · rw [if_pos h3] at hb ⊢
        simp only [packSoa] at hb ⊢
        obtain ⟨⟨k, hk, hkl⟩, M', hM', hg⟩ := packName_at (h.2.1 (by omega)) hb.left hM
        rw [hM'] at hb ⊢
        have hb2 := hb.right
        obtain ⟨⟨k2, hk2, hkl2⟩, M2, hM2, hg2⟩ := packName_at (h.2.2 h3) hb2.left hg
        rw [hM2]
        refine ⟨⟨fun _ => by omega, fun _ => by omega, fun _ => ⟨_, _, ⟨k, hK.2.1 k hkl, hk⟩, ⟨k2, hK.2.2 k2 hkl2, hk2⟩, hb2.right, ?_⟩, fun _ => by omega, fun _ => by omega, fun _ => by omega⟩, M2, rfl, upM hg2 ?_⟩
        · simp only [List.length_append, soaL_length]; omega
        · simp only [List.length_append, soaL_length]; omega
      · rw [if_neg h3] at hb ⊢
        exact ⟨bodyL_simple h h1 h2 h3 hb, M, rfl, upM hM (by omega)⟩
theorem packRec_at {r : RecD} {K : Nat → Prop} {b : List UInt8} {M : Ent} {pos : Nat} (h : NamesOk r) (hl : (bodyL r).length < 65536) (hK : KRec K r) (hM : GoodM b pos M) (hb : Std b pos (packRec (some M) pos r).1) :
    RecR K b pos r (pos + (packRec (some M) pos r).1.length) ∧ ∃ M', (packRec (some M) pos r).2 = some M' ∧ GoodM b (pos + (packRec (some M) pos r).1.length) M' := by
  simp only [packRec] at hb ⊢
  obtain ⟨⟨k, hk, hkl⟩, M', hM', hg⟩ := packName_at h.1 hb.left hM
  rw [hM'] at hb ⊢
  have hb2 := hb.right
  simp only [packTail] at hb2
  have e0 : ∀ body : List UInt8, be16 (typeN r).toNat ++ (be16 r.cls.toNat ++ (be32 r.ttl.toNat ++ (be16 body.length ++ body))) = (be16 (typeN r).toNat ++ (be16 r.cls.toNat ++ (be32 r.ttl.toNat ++ be16 body.length))) ++ body := by intro body; simp
  rw [e0] at hb2
  have hb3 := hb2.right' (k := pos + (packName (some M) pos (bt r.name)).1.length + 10) rfl
  have hs := (packBody_short h M' (pos + (packName (some M) pos (bt r.name)).1.length + 10)).1
  obtain ⟨hbody, M2, hM2, hg2⟩ := packBody_at h hK (fun key p hp => (hg key p hp).up (by omega)) hb3
  have elen : pos + ((packName (some M) pos (bt r.name)).1 ++ packTail r (packBody (some M') (pos + (packName (some M) pos (bt r.name)).1.length + 10) r).1).length = pos + (packName (some M) pos (bt r.name)).1.length + 10 + (packBody (some M') (pos + (packName (some M) pos (bt r.name)).1.length + 10) r).1.length := by
    simp only [packTail, List.length_append, be16_length, be32_length]; omega
  rw [elen]
  exact ⟨⟨_, _, ⟨k, hK.1 k hkl, hk⟩, hb2.left, by omega, hbody, rfl⟩, M2, hM2, hg2⟩
theorem packAsk_at {a : AskD} {K : Nat → Prop} {b : List UInt8} {M : Ent} {pos : Nat} (h : nameL (bt a.name)) (hK : KName K a.name) (hM : GoodM b pos M) (hb : Std b pos (packAsk (some M) pos a).1) :
    AskR K b pos a (pos + (packAsk (some M) pos a).1.length) ∧ ∃ M', (packAsk (some M) pos a).2 = some M' ∧ GoodM b (pos + (packAsk (some M) pos a).1.length) M' := by
  simp only [packAsk] at hb ⊢
  obtain ⟨⟨k, hk, hkl⟩, M', hM', hg⟩ := packName_at h hb.left hM
  have elen : pos + ((packName (some M) pos (bt a.name)).1 ++ (be16 a.typ.toNat ++ be16 a.cls.toNat)).length = pos + (packName (some M) pos (bt a.name)).1.length + 4 := by
    simp only [List.length_append, be16_length]; omega
  rw [elen]
  exact ⟨⟨_, ⟨k, hK k hkl, hk⟩, hb.right, rfl⟩, M', hM', fun key p hp => (hg key p hp).up (by omega)⟩
theorem packAll_at {α : Type} {f : Option Ent → Nat → α → List UInt8 × Option Ent} {R : Nat → α → Nat → Prop} {b : List UInt8} : ∀ (xs : List α) (M : Ent) (pos : Nat), GoodM b pos M → Std b pos (packAll f (some M) pos xs).1 →
    (∀ x ∈ xs, ∀ M pos, GoodM b pos M → Std b pos (f (some M) pos x).1 → R pos x (pos + (f (some M) pos x).1.length) ∧ ∃ M', (f (some M) pos x).2 = some M' ∧ GoodM b (pos + (f (some M) pos x).1.length) M') →
    ListR R pos xs (pos + (packAll f (some M) pos xs).1.length) ∧ ∃ M', (packAll f (some M) pos xs).2 = some M' ∧ GoodM b (pos + (packAll f (some M) pos xs).1.length) M'
  | [], M, pos, hM, _, _ => ⟨rfl, M, rfl, hM⟩
  | x :: xs, M, pos, hM, hb, h => by
    simp only [packAll] at hb ⊢
    obtain ⟨h1, M1, hM1, hg⟩ := h x (by simp) M pos hM hb.left
    rw [hM1] at hb ⊢
    obtain ⟨h2, M2, hM2, hg2⟩ := packAll_at xs M1 _ hg hb.right (fun y hy => h y (by simp [hy]))
    have e : pos + ((f (some M) pos x).1 ++ (packAll f (some M1) (pos + (f (some M) pos x).1.length) xs).1).length = pos + (f (some M) pos x).1.length + (packAll f (some M1) (pos + (f (some M) pos x).1.length) xs).1.length := by
      simp only [List.length_append]; omega
    rw [e]
    exact ⟨⟨_, h1, h2⟩, M2, hM2, hg2⟩
theorem headL_len (h : HeadD) (m : MsgD) : (headL h (countsM m)).length = 12 := rfl
/-- WHAT IS PACKED WITH A MAP IS READ AS WHAT IT WAS. -/
theorem packM_at {m : MsgD} {K : Nat → Prop} (h : MsgNames m) (hl : ∀ r, r ∈ m.one ∨ r ∈ m.two ∨ r ∈ m.three → (bodyL r).length < 65536) (hK : KMsg K m) : MsgR K (packM (some []) m) m := by
  have hb : Std (packM (some []) m) 0 (packM (some []) m) := Std.self _
  obtain ⟨b, hbd⟩ : ∃ b, b = packM (some []) m := ⟨_, rfl⟩
  rw [← hbd] at hb ⊢
  conv at hb => arg 3; rw [hbd]
  simp only [packM] at hb
  have hb1 := hb.right' (k := 12) (by rw [headL_len])
  have hlen : b.length = 12 + (packA (some []) m).1.length + (pack1 (some []) m).1.length + (pack2 (some []) m).1.length + (pack3 (some []) m).1.length := by
    rw [hbd]; simp only [packM, List.length_append, headL_len]; omega
  obtain ⟨ha, Ma, hMa, ga⟩ := packAll_at (f := packAsk) (R := AskR K b) m.asks [] 12 (fun key p hp => by simp [look] at hp) hb1.left (fun x hx M pos hM hs => packAsk_at (h.1 x hx) (hK.1 x hx) hM hs)
  have e1 : pack1 (some []) m = packAll packRec (some Ma) (12 + (packA (some []) m).1.length) m.one := by rw [pack1, packA, hMa]
  have hb2 := hb1.right
  obtain ⟨h1, M1, hM1, g1⟩ := packAll_at (f := packRec) (R := RecR K b) m.one Ma (12 + (packA (some []) m).1.length) ga (by rw [← e1]; exact hb2.left) (fun x hx M pos hM hs => packRec_at (h.2.1 x hx) (hl x (.inl hx)) (hK.2.1 x hx) hM hs)
  rw [← e1] at h1 hM1 g1
  have e2 : pack2 (some []) m = packAll packRec (some M1) (12 + (packA (some []) m).1.length + (pack1 (some []) m).1.length) m.two := by rw [pack2, hM1]
  have hb3 := hb2.right
  obtain ⟨h2, M2, hM2, g2⟩ := packAll_at (f := packRec) (R := RecR K b) m.two M1 _ g1 (by rw [← e2]; exact hb3.left) (fun x hx M pos hM hs => packRec_at (h.2.2.1 x hx) (hl x (.inr (.inl hx))) (hK.2.2.1 x hx) hM hs)
  rw [← e2] at h2 hM2 g2
  have e3 : pack3 (some []) m = packAll packRec (some M2) (12 + (packA (some []) m).1.length + (pack1 (some []) m).1.length + (pack2 (some []) m).1.length) m.three := by rw [pack3, hM2]
  obtain ⟨h3, M3, hM3, g3⟩ := packAll_at (f := packRec) (R := RecR K b) m.three M2 _ g2 (by rw [← e3]; exact hb3.right) (fun x hx M pos hM hs => packRec_at (h.2.2.2 x hx) (hl x (.inr (.inr hx))) (hK.2.2.2 x hx) hM hs)
  rw [← e3] at h3
  rw [← hlen] at h3
  exact ⟨hb.left, _, _, _, ha, h1, h2, h3⟩
end Go.Proofs.YtifnodoffgfpbaaGreatDoor

namespace Go.Proofs.YtifnodoffgfpbaaGreatDoor
open Go

/-- an append within a row: what stood there is written over -/
theorem xappIn {P : Program} {n : Nat} {l : List (Nat × Value)} {w : World} {ty : TypeId} {x y : Operand} {T TX E : TypeId} {z u V : Value} {g o m k c N bytes : Nat} {pre mid post news : List Value} (hT : slcB P T E = true) (hI : Inf P E z 1 bytes)
    (hx : ev n l x = some (.slice (some ⟨g, o, none⟩) m c)) (hy : ev n l y = some u) (hR : Rw w V g E 1 N (pre ++ (mid ++ post))) (hs : Src P 1 TX u k news w) (hp : pre.length = o + m) (hmid : mid.length = news.length) (h0 : 0 < N) (hroom : m + k ≤ c) (h1 : news.all (·.oneCell') = true) :
    ExK P n l (.call { callee := .builtin .append, args := #[x, y], argTypes := #[T, TX] }) ty w (fun v' w' => v' = .slice (some ⟨g, o, none⟩) (m + k) c ∧ Fr (· = g) w w' ∧ Rw w' V g E 1 N (pre ++ (news ++ post)) ∧ w'.heap.size = w.heap.size) := by
  obtain ⟨i, hi, hiz, hsz, rfl⟩ := hI
  have hu := slcB_spec hT
  obtain ⟨⟨hlen, hown⟩, hblk, hone⟩ := hR
  rcases hown with ⟨_, hn0⟩ | ⟨g', cap, cur, rfl, hb0, hheap, hnc, hcm, hcs, htake⟩
  · omega
  · obtain rfl := hblk g' rfl
    rw [Nat.mul_one] at hcs htake hlen
    have hcur : cur.toList = pre ++ (mid ++ (post ++ cur.toList.drop N)) := by
      have h1 := List.take_append_drop N cur.toList
      rw [htake] at h1
      exact h1.symm.trans (by simp only [List.append_assoc])
    have hheap' : w.heap[g']? = some (.cells (pre ++ (mid ++ (post ++ cur.toList.drop N))).toArray E (0, 0)) := by rw [hheap, ← hcur]
    have hfit : pre.length + news.length ≤ (pre ++ (mid ++ (post ++ cur.toList.drop N))).length := by simp only [List.length_append]; omega
    have hsets := heap_sets news pre.length hheap' hfit
    rw [splice_mid _ _ _ _ hmid.symm] at hsets
    have hB : Blk w g' (pre ++ (mid ++ (post ++ cur.toList.drop N))) := ⟨E, hheap'⟩
    rw [← hsz] at hs
    have hr := run_append_room_src (P := P) w T TX ty E i hu hi g' o m c u k news hs hroom
      (fun j hj => by rw [hsz, Nat.mul_one, ← hp]; exact (hB.there (i := pre.length) (n := news.length) hfit j hj).1)
      (fun j _ => hB.frozen _)
    rw [hsz, Nat.mul_one, ← hp] at hr
    refine ⟨_, _, fun r _ _ _ _ => ?_, rfl, hsets.2.1, ⟨⟨?_, .inr ⟨g', cap, _, rfl, hb0, hsets.1, hnc, hcm, ?_, ?_⟩⟩, hblk, ?_⟩, hsets.2.2⟩
    · simp only [execOp]
      simp [resolve, invoke, builtin, ev_eval r hx, ev_eval r hy, hr]
    · rw [Nat.mul_one]; simp only [List.length_append] at hlen ⊢; omega
    · have := congrArg List.length hcur
      simp only [Array.length_toList, List.length_append] at this
      simp only [List.size_toArray, List.length_append]; omega
    · rw [Nat.mul_one]
      simp only [List.length_append] at hlen
      have e : pre ++ (news ++ (post ++ cur.toList.drop N)) = (pre ++ (news ++ post)) ++ cur.toList.drop N := by simp
      show (pre ++ (news ++ (post ++ cur.toList.drop N))).take N = _
      rw [e, List.take_left' (by simp only [List.length_append]; omega)]
    · simp only [List.all_append, Bool.and_eq_true] at hone ⊢
      exact ⟨hone.1, h1, hone.2.2⟩
/-- a name that is packed without a map -/
theorem c149n {w : World} {v : Value} {g n start pos : Nat} {bs : List UInt8} (hR : BR w v g n bs) (hg : g < w.heap.size) {bo o : Nat} {s : List UInt8} (hN : SR w bo o [256] [nm s]) (hbo : bo < w.heap.size) (hbg : bo ≠ g) (hp : n = start + pos) (hl : n < 1000000000) (hs : nameL s) :
    Ret PP 149 [.pointer (some ⟨bo, o, none⟩), v, .map none, .int .i64 (start : Int)] w (fun u w' => ∃ t, u = .tuple #[t, .nilIface] ∧ AppTo w g (n + (wire s).length) (bs ++ wire s) t w') := by
  refine (c149 (gm := g) (cm := none) (C := none) (pos := pos) hR hg hN hbo hbg hbg trivial (fun b hb => by cases hb) hp hl hs).mono ?_
  rintro u w' ⟨a, c, g', rfl, r, m, h1, h2, _⟩
  rw [packName_non hs] at r ⊢
  exact ⟨_, rfl, a, c, g', rfl, r, m.mono (fun k _ h => h.elim id id), h1, h2⟩
theorem wire_bound {s : List UInt8} (hs : nameL s) : (wire s).length ≤ 509 := by
  have := wire_le s
  have := (name_pos hs).2
  omega
theorem hbits_alt (h : HeadD) : ((((((((h.op <<< 11) ||| h.code) ||| flagN h.avail 128) ||| flagN h.des 256) ||| flagN h.cut 512) ||| flagN h.auth 1024) ||| flagN h.resp 32768) ||| flagN h.authc 32) ||| flagN h.unch 16 = hbits h := by
  simp only [hbits]; ac_rfl
theorem flagN_T {b : Bool} {x : UInt16} (h : b = true) : flagN b x = x := by rw [h]; rfl
theorem flagN_F {b : Bool} {x : UInt16} (h : b = false) : flagN b x = 0 := by rw [h]; rfl
def hdrSegs (a b c d e f : Nat) : List (List Value) := [[.int .u16 (a : Int)], [.int .u16 (b : Int)], [.int .u16 (c : Int)], [.int .u16 (d : Int)], [.int .u16 (e : Int)], [.int .u16 (f : Int)]]
abbrev lHdr6 : List Nat := [1, 1, 1, 1, 1, 1]
abbrev lQ : List Nat := [256, 1, 1]
abbrev lRH : List Nat := [256, 1, 1, 1, 1]
theorem ba_rng {w : World} {b o c : Nat} {bs : List UInt8} (h : w.rangeAt b o (bvs bs)) : BA (· = b) w (.slice (some ⟨b, o, none⟩) bs.length c) bs := ⟨_, _, rfl, fun _ => ⟨b, o, rfl, rfl, h⟩⟩
theorem pb_name {C : Option Ent} {pos : Nat} {r : RecD} (h : r.kind = 2 ∨ r.kind = 3 ∨ r.kind = 5) : packBody C pos r = packName C pos (bt r.host) := by rw [packBody, if_pos h]
theorem pb_mx {C : Option Ent} {pos : Nat} {r : RecD} (h : r.kind = 6) : packBody C pos r = packMx C pos r := by rw [packBody, if_neg (by omega), if_pos h]
theorem pb_soa {C : Option Ent} {pos : Nat} {r : RecD} (h : r.kind = 4) : packBody C pos r = packSoa C pos r := by rw [packBody, if_neg (by omega), if_neg (by omega), if_pos h]
theorem pb_rest {C : Option Ent} {pos : Nat} {r : RecD} (h : ¬ (r.kind = 2 ∨ r.kind = 3 ∨ r.kind = 5 ∨ r.kind = 6 ∨ r.kind = 4)) : packBody C pos r = (bodyL r, C) := by rw [packBody, if_neg (by omega), if_neg (by omega), if_neg (by omega)]
theorem bodyL_simp {r : RecD} : (r.kind = 1 → bodyL r = fixedL r.data 4) ∧ (r.kind = 8 → bodyL r = fixedL r.data 16) ∧ (r.kind = 7 → bodyL r = textsL r.texts) ∧ (r.kind = 9 → bodyL r = be16 r.n1.toNat ++ (be16 r.n2.toNat ++ (be16 r.n3.toNat ++ wire (bt r.host)))) ∧ (r.kind = 10 → bodyL r = pairsL r.pairs) ∧
    (r.kind = 11 ∨ r.kind = 12 → bodyL r = be16 r.n1.toNat ++ (wire (bt r.host) ++ pairsL r.pairs)) ∧ (r.kind = 13 → bodyL r = r.data) := by
  refine ⟨fun h => ?_, fun h => ?_, fun h => ?_, fun h => ?_, fun h => ?_, fun h => ?_, fun h => ?_⟩
  · simp [bodyL, h]
  · simp [bodyL, h]
  · simp [bodyL, h]
  · simp [bodyL, h]
  · simp [bodyL, h]
  · rcases h with h | h <;> simp [bodyL, h]
  · simp [bodyL, h]

set_option maxHeartbeats 4000000 in
set_option maxRecDepth 100000 in
theorem c148i {w : World} {V : Value} {g o m c N : Nat} {b1 x2 b3 : List UInt8} {x : Nat} (hR : BR w V g N (b1 ++ (x2 ++ b3))) (hp : b1.length = o + m) (hx2 : x2.length = 2) (hmc : m + 2 ≤ c) (_hx : x < 65536) :
  Ret PP 148 [.slice (some ⟨g, o, none⟩) m c, .int .u16 x] w (fun u w' => u = .slice (some ⟨g, o, none⟩) (m + 2) c ∧ BR w' V g N (b1 ++ (be16 x ++ b3)) ∧ Fr (fun k => k = g) w w') := by
 rw [BR, bvs_app, bvs_app] at hR
 have hN := hR.len
 simp only [List.length_append, bvs_length, hx2, Nat.mul_one] at hN
 have hg := Rw.lt hR (by rintro rfl; have := hR.form; obtain ⟨a, c, h, _⟩ := this; simp only [Value.slice.injEq] at h; omega)
 have hf : Fr (fun k => k = g) w w := Fr.refl _ _
 refine ret_of Tryz.func148 rfl rfl rfl [(0, _), (1, _)] rfl ?_
 refine sreg (sv (xassign rfl) (send (fg [(0, _), (1, _)] ⟨rfl, rfl, ⟨⟩⟩ fun _ => (sreg (sv (xmove rfl) (sv (xmove rfl) (sv (xshr (b := 8) (by decide) rfl rfl) (sv (xconv hs22 ki5 rfl (wu8m _)) (sv (xmove rfl) (sv (xconv hs22 ki5 rfl (wu8m _)) ?_))))))))))
 refine svK (xslit (bvs (be16 x)) sl37 in5 rfl (by decide) rfl rfl rfl rfl (by decide) (by simp [be16, bvs, bv, Value.cells]) (bvs_one _)) ?_
 rintro _ w2 ⟨b11, rfl, m3, h11, e11, s11, r11⟩
 have hR := hR.keep m3 id
 have hf := hf.step0 m3
 refine svK (xappIn sl37 in5 rfl rfl hR (r11.src sl37) (by simpa [bvs] using hp) (by simp [bvs, be16, hx2]) (by omega) (by omega) (bvs_one _)) ?_
 rintro _ w4 ⟨rfl, m5, hR, s12⟩
 have hf := hf.step m5 (fun k hk hS => by have hS : k = g := hS; show k = g; omega)
 refine sv (xassign rfl) (send (fg [(4, _)] ⟨rfl, ⟨⟩⟩ fun _ => (wp_ret ?_)))
 refine rp1 rfl rfl ?_
 refine ⟨rfl, ?_, hf⟩
 rw [BR, bvs_app, bvs_app]; exact hR
set_option maxHeartbeats 4000000 in
set_option maxRecDepth 100000 in
theorem c90 {w : World} {b o : Nat} {h : HeadD} (hN : SR w b o lHead (headSegs h)) (hb0 : b < w.heap.size) :
  Ret PP 90 [.pointer (some ⟨b, o, none⟩)] w (fun u w' => u = .tuple #[.int .u16 (h.id.toNat : Int), .int .u16 ((hbits h).toNat : Int)] ∧ Fr0 w w') := by
 have hf : Fr (fun _ => False) w w := Fr.refl _ _
 refine ret_of Tryz.func90 rfl rfl rfl [(0, _)] rfl ?_
 refine sreg (sv (xassign rfl) (sv (xassign rfl) (send (fg [(0, _)] ⟨rfl, ⟨⟩⟩ fun _ => (sreg (sv (xmove rfl) (sv (xnilc rfl) (sv (xfld fl73_0 rfl) (sv (xld on22 rfl (hN.c 0 rfl rfl)) (sv (xassign rfl) (send ?_)))))))))))
 refine fg [(0, _), (2, _)] ⟨rfl, rfl, ⟨⟩⟩ fun _ => ?_
 refine sdraw (Fr (fun _ => False) w.drew) [(0, .rd), (1, .rd), (2, .rd), (3, .rd), (4, .rd), (5, .rd), (6, .rd), (7, .rd), (8, .rd), (9, .rd), (10, .rd)] mixed (by kernel_rfl) (fun _ _ _ _ _ h => h) ?_
 have z1 : w.drew.heap.size = w.heap.size := rfl
 have hN := hN.keep (Fr.drew (Fr.refl (fun _ => False) w)) (by omega) id
 have hf := hf.drew
 have hS2 : Fr (fun _ => False) w.drew w.drew := Fr.refl _ _
 refine hv rfl (fun _ _ => xmove rfl) hS2 (hv rfl (fun _ _ => xnilc rfl) hS2 (hv rfl (fun _ _ => xfld fl73_2 rfl) hS2 (hv rfl (fun w' hS => xld on70 rfl ((hN.keep hS (by omega) id).c 2 rfl rfl)) hS2 (hv rfl (fun _ _ => xshl16 (b := 11) (by decide) rfl rfl) hS2 (hv rfl (fun _ _ => xmove rfl) hS2 (hv rfl (fun _ _ => xnilc rfl) hS2 (hv rfl (fun _ _ => xfld fl73_9 rfl) hS2 (hv rfl (fun w' hS => xld on71 rfl ((hN.keep hS (by omega) id).c 9 rfl rfl)) hS2 (hv rfl (fun _ _ => xor16 rfl rfl) hS2 (hv rfl (fun _ _ => xassign rfl) hS2 (hend ?_)))))))))))
 refine fg [(0, _), (2, _), (3, _)] ⟨rfl, rfl, rfl, ⟨⟩⟩ fun _ => (wp_seq ?_)
 obtain ⟨y0, hy0⟩ : ∃ y, y = ((h.op <<< 11) ||| h.code) := ⟨_, rfl⟩
 rw [← hy0]
 refine sreg (sv (xmove rfl) (sv (xnilc rfl) (sv (xfld fl73_6 rfl) (sv (xld on4 rfl (hN.c 6 rfl rfl)) (send (fg [(0, _), (2, _), (3, _), (21, _)] ⟨rfl, rfl, rfl, rfl, ⟨⟩⟩ fun _ => ?_))))))
 refine jcut [(0, _), (2, _)] ⟨rfl, rfl, trivial⟩ (fun (x : UInt16) => match x with | y1 => [(3, .int .u16 (y1.toNat : Int))]) (fun (x : UInt16) wx => match x with | y1 => Fr (fun _ => False) w.drew wx ∧ (y1 = (((h.op <<< 11) ||| h.code) ||| flagN h.avail 128))) ?_ ?_
 ·
  have hJ3 : Fr (fun _ => False) w.drew w.drew := Fr.refl _ _
  refine cB rfl (fun hb => ?_) (fun hb => ?_)
  ·
   refine lreg (sv (xmove rfl) (sv (xor16 (b := 128) rfl rfl) (sv (xassign rfl) (lend ?_))))
   exact ⟨rfl, (y0 ||| 128), _, env_okl ⟨rfl, rfl, rfl, trivial⟩, ⟨hJ3, (by rw [hy0, flagN_T (x := 128) (show h.avail = true from hb)])⟩⟩
  ·
   refine wp_skip ?_
   exact ⟨rfl, y0, _, env_okl ⟨rfl, rfl, rfl, trivial⟩, ⟨hJ3, (by rw [hy0, flagN_F (x := 128) (show h.avail = false from hb), UInt16.or_zero])⟩⟩
 ·
  rintro y1 _ w4 ⟨hJ3, hy1⟩
  have z5 := hJ3.size
  have hN := hN.keep hJ3 (by omega) id
  have hf := hf.step0 hJ3
  refine nThen (fg [(0, _), (2, _), (3, _)] ⟨rfl, rfl, rfl, ⟨⟩⟩ fun _ => (wp_seq (sreg (sv (xmove rfl) (sv (xnilc rfl) (sv (xfld fl73_5 rfl) (sv (xld on4 rfl (hN.c 5 rfl rfl)) (send (fg [(0, _), (2, _), (3, _), (27, _)] ⟨rfl, rfl, rfl, rfl, ⟨⟩⟩ fun _ => ?_)))))))))
  refine jcut [(0, _), (2, _)] ⟨rfl, rfl, trivial⟩ (fun (x : UInt16) => match x with | y2 => [(3, .int .u16 (y2.toNat : Int))]) (fun (x : UInt16) wx => match x with | y2 => Fr (fun _ => False) w4 wx ∧ (y2 = ((((h.op <<< 11) ||| h.code) ||| flagN h.avail 128) ||| flagN h.des 256))) ?_ ?_
  ·
   have hJ6 : Fr (fun _ => False) w4 w4 := Fr.refl _ _
   refine cB rfl (fun hb => ?_) (fun hb => ?_)
   ·
    refine lreg (sv (xmove rfl) (sv (xor16 (b := 256) rfl rfl) (sv (xassign rfl) (lend ?_))))
    exact ⟨rfl, (y1 ||| 256), _, env_okl ⟨rfl, rfl, rfl, trivial⟩, ⟨hJ6, (by rw [hy1, flagN_T (x := 256) (show h.des = true from hb)])⟩⟩
   ·
    refine wp_skip ?_
    exact ⟨rfl, y1, _, env_okl ⟨rfl, rfl, rfl, trivial⟩, ⟨hJ6, (by rw [hy1, flagN_F (x := 256) (show h.des = false from hb), UInt16.or_zero])⟩⟩
  ·
   rintro y2 _ w7 ⟨hJ6, hy2⟩
   have z8 := hJ6.size
   have hN := hN.keep hJ6 (by omega) id
   have hf := hf.step0 hJ6
   refine nThen (fg [(0, _), (2, _), (3, _)] ⟨rfl, rfl, rfl, ⟨⟩⟩ fun _ => (wp_seq (sreg (sv (xmove rfl) (sv (xnilc rfl) (sv (xfld fl73_4 rfl) (sv (xld on4 rfl (hN.c 4 rfl rfl)) (send (fg [(0, _), (2, _), (3, _), (33, _)] ⟨rfl, rfl, rfl, rfl, ⟨⟩⟩ fun _ => ?_)))))))))
   refine jcut [(0, _), (2, _)] ⟨rfl, rfl, trivial⟩ (fun (x : UInt16) => match x with | y3 => [(3, .int .u16 (y3.toNat : Int))]) (fun (x : UInt16) wx => match x with | y3 => Fr (fun _ => False) w7 wx ∧ (y3 = (((((h.op <<< 11) ||| h.code) ||| flagN h.avail 128) ||| flagN h.des 256) ||| flagN h.cut 512))) ?_ ?_
   ·
    have hJ9 : Fr (fun _ => False) w7 w7 := Fr.refl _ _
    refine cB rfl (fun hb => ?_) (fun hb => ?_)
    ·
     refine lreg (sv (xmove rfl) (sv (xor16 (b := 512) rfl rfl) (sv (xassign rfl) (lend ?_))))
     exact ⟨rfl, (y2 ||| 512), _, env_okl ⟨rfl, rfl, rfl, trivial⟩, ⟨hJ9, (by rw [hy2, flagN_T (x := 512) (show h.cut = true from hb)])⟩⟩
    ·
     refine wp_skip ?_
     exact ⟨rfl, y2, _, env_okl ⟨rfl, rfl, rfl, trivial⟩, ⟨hJ9, (by rw [hy2, flagN_F (x := 512) (show h.cut = false from hb), UInt16.or_zero])⟩⟩
   ·
    rintro y3 _ w10 ⟨hJ9, hy3⟩
    have z11 := hJ9.size
    have hN := hN.keep hJ9 (by omega) id
    have hf := hf.step0 hJ9
    refine nThen (fg [(0, _), (2, _), (3, _)] ⟨rfl, rfl, rfl, ⟨⟩⟩ fun _ => (wp_seq (sreg (sv (xmove rfl) (sv (xnilc rfl) (sv (xfld fl73_3 rfl) (sv (xld on4 rfl (hN.c 3 rfl rfl)) (send (fg [(0, _), (2, _), (3, _), (39, _)] ⟨rfl, rfl, rfl, rfl, ⟨⟩⟩ fun _ => ?_)))))))))
    refine jcut [(0, _), (2, _)] ⟨rfl, rfl, trivial⟩ (fun (x : UInt16) => match x with | y4 => [(3, .int .u16 (y4.toNat : Int))]) (fun (x : UInt16) wx => match x with | y4 => Fr (fun _ => False) w10 wx ∧ (y4 = ((((((h.op <<< 11) ||| h.code) ||| flagN h.avail 128) ||| flagN h.des 256) ||| flagN h.cut 512) ||| flagN h.auth 1024))) ?_ ?_
    ·
     have hJ12 : Fr (fun _ => False) w10 w10 := Fr.refl _ _
     refine cB rfl (fun hb => ?_) (fun hb => ?_)
     ·
      refine lreg (sv (xmove rfl) (sv (xor16 (b := 1024) rfl rfl) (sv (xassign rfl) (lend ?_))))
      exact ⟨rfl, (y3 ||| 1024), _, env_okl ⟨rfl, rfl, rfl, trivial⟩, ⟨hJ12, (by rw [hy3, flagN_T (x := 1024) (show h.auth = true from hb)])⟩⟩
     ·
      refine wp_skip ?_
      exact ⟨rfl, y3, _, env_okl ⟨rfl, rfl, rfl, trivial⟩, ⟨hJ12, (by rw [hy3, flagN_F (x := 1024) (show h.auth = false from hb), UInt16.or_zero])⟩⟩
    ·
     rintro y4 _ w13 ⟨hJ12, hy4⟩
     have z14 := hJ12.size
     have hN := hN.keep hJ12 (by omega) id
     have hf := hf.step0 hJ12
     refine nThen (fg [(0, _), (2, _), (3, _)] ⟨rfl, rfl, rfl, ⟨⟩⟩ fun _ => (wp_seq (sreg (sv (xmove rfl) (sv (xnilc rfl) (sv (xfld fl73_1 rfl) (sv (xld on4 rfl (hN.c 1 rfl rfl)) (send (fg [(0, _), (2, _), (3, _), (45, _)] ⟨rfl, rfl, rfl, rfl, ⟨⟩⟩ fun _ => ?_)))))))))
     refine jcut [(0, _), (2, _)] ⟨rfl, rfl, trivial⟩ (fun (x : UInt16) => match x with | y5 => [(3, .int .u16 (y5.toNat : Int))]) (fun (x : UInt16) wx => match x with | y5 => Fr (fun _ => False) w13 wx ∧ (y5 = (((((((h.op <<< 11) ||| h.code) ||| flagN h.avail 128) ||| flagN h.des 256) ||| flagN h.cut 512) ||| flagN h.auth 1024) ||| flagN h.resp 32768))) ?_ ?_
     ·
      have hJ15 : Fr (fun _ => False) w13 w13 := Fr.refl _ _
      refine cB rfl (fun hb => ?_) (fun hb => ?_)
      ·
       refine lreg (sv (xmove rfl) (sv (xor16 (b := 32768) rfl rfl) (sv (xassign rfl) (lend ?_))))
       exact ⟨rfl, (y4 ||| 32768), _, env_okl ⟨rfl, rfl, rfl, trivial⟩, ⟨hJ15, (by rw [hy4, flagN_T (x := 32768) (show h.resp = true from hb)])⟩⟩
      ·
       refine wp_skip ?_
       exact ⟨rfl, y4, _, env_okl ⟨rfl, rfl, rfl, trivial⟩, ⟨hJ15, (by rw [hy4, flagN_F (x := 32768) (show h.resp = false from hb), UInt16.or_zero])⟩⟩
     ·
      rintro y5 _ w16 ⟨hJ15, hy5⟩
      have z17 := hJ15.size
      have hN := hN.keep hJ15 (by omega) id
      have hf := hf.step0 hJ15
      refine nThen (fg [(0, _), (2, _), (3, _)] ⟨rfl, rfl, rfl, ⟨⟩⟩ fun _ => (wp_seq (sreg (sv (xmove rfl) (sv (xnilc rfl) (sv (xfld fl73_7 rfl) (sv (xld on4 rfl (hN.c 7 rfl rfl)) (send (fg [(0, _), (2, _), (3, _), (51, _)] ⟨rfl, rfl, rfl, rfl, ⟨⟩⟩ fun _ => ?_)))))))))
      refine jcut [(0, _), (2, _)] ⟨rfl, rfl, trivial⟩ (fun (x : UInt16) => match x with | y6 => [(3, .int .u16 (y6.toNat : Int))]) (fun (x : UInt16) wx => match x with | y6 => Fr (fun _ => False) w16 wx ∧ (y6 = ((((((((h.op <<< 11) ||| h.code) ||| flagN h.avail 128) ||| flagN h.des 256) ||| flagN h.cut 512) ||| flagN h.auth 1024) ||| flagN h.resp 32768) ||| flagN h.authc 32))) ?_ ?_
      ·
       have hJ18 : Fr (fun _ => False) w16 w16 := Fr.refl _ _
       refine cB rfl (fun hb => ?_) (fun hb => ?_)
       ·
        refine lreg (sv (xmove rfl) (sv (xor16 (b := 32) rfl rfl) (sv (xassign rfl) (lend ?_))))
        exact ⟨rfl, (y5 ||| 32), _, env_okl ⟨rfl, rfl, rfl, trivial⟩, ⟨hJ18, (by rw [hy5, flagN_T (x := 32) (show h.authc = true from hb)])⟩⟩
       ·
        refine wp_skip ?_
        exact ⟨rfl, y5, _, env_okl ⟨rfl, rfl, rfl, trivial⟩, ⟨hJ18, (by rw [hy5, flagN_F (x := 32) (show h.authc = false from hb), UInt16.or_zero])⟩⟩
      ·
       rintro y6 _ w19 ⟨hJ18, hy6⟩
       have z20 := hJ18.size
       have hN := hN.keep hJ18 (by omega) id
       have hf := hf.step0 hJ18
       refine nThen (fg [(0, _), (2, _), (3, _)] ⟨rfl, rfl, rfl, ⟨⟩⟩ fun _ => (wp_seq (sreg (sv (xmove rfl) (sv (xnilc rfl) (sv (xfld fl73_8 rfl) (sv (xld on4 rfl (hN.c 8 rfl rfl)) (send (fg [(2, _), (3, _), (57, _)] ⟨rfl, rfl, rfl, ⟨⟩⟩ fun _ => ?_)))))))))
       refine jcut [(2, _)] ⟨rfl, trivial⟩ (fun (x : UInt16) => match x with | y7 => [(3, .int .u16 (y7.toNat : Int))]) (fun (x : UInt16) wx => match x with | y7 => Fr (fun _ => False) w19 wx ∧ (y7 = (((((((((h.op <<< 11) ||| h.code) ||| flagN h.avail 128) ||| flagN h.des 256) ||| flagN h.cut 512) ||| flagN h.auth 1024) ||| flagN h.resp 32768) ||| flagN h.authc 32) ||| flagN h.unch 16))) ?_ ?_
       ·
        have hJ21 : Fr (fun _ => False) w19 w19 := Fr.refl _ _
        refine cB rfl (fun hb => ?_) (fun hb => ?_)
        ·
         refine lreg (sv (xmove rfl) (sv (xor16 (b := 16) rfl rfl) (sv (xassign rfl) (lend ?_))))
         exact ⟨rfl, (y6 ||| 16), _, env_okl ⟨rfl, rfl, trivial⟩, ⟨hJ21, (by rw [hy6, flagN_T (x := 16) (show h.unch = true from hb)])⟩⟩
        ·
         refine wp_skip ?_
         exact ⟨rfl, y6, _, env_okl ⟨rfl, rfl, trivial⟩, ⟨hJ21, (by rw [hy6, flagN_F (x := 16) (show h.unch = false from hb), UInt16.or_zero])⟩⟩
       ·
        rintro y7 _ w22 ⟨hJ21, hy7⟩
        have z23 := hJ21.size
        have hf := hf.step0 hJ21
        refine nThen (fg [(2, _), (3, _)] ⟨rfl, rfl, ⟨⟩⟩ fun _ => (wp_ret ?_))
        refine rp2 rfl rfl rfl ?_
        refine ⟨?_, hf⟩
        rw [← hbits_alt h, ← hy7]
end Go.Proofs.YtifnodoffgfpbaaGreatDoor

namespace Go.Proofs.YtifnodoffgfpbaaGreatDoor
open Go

theorem xcut1 {P : Program} {n : Nat} {l : List (Nat × Value)} {w : World} {ty : TypeId} {x : Operand} {T E : TypeId} {b o m c lo hi : Nat} {k k' : IntKind} {i j : Int} {p q : Operand} (hT : slcB P T E = true) (hE : szB P E 1 = true) (hx : ev n l x = some (.slice (some ⟨b, o, none⟩) m c))
    (hp : ev n l p = some (.int k i)) (hq : ev n l q = some (.int k' j)) (hi' : i = (lo : Int)) (hj : j = (hi : Int)) (h1 : lo ≤ hi) (h2 : hi ≤ c) (h3 : lo < c) : Ex P n l (.slice T x (some p) (some q) none) ty w (.slice (some ⟨b, o + lo, none⟩) (hi - lo) (c - lo)) w := by
  obtain ⟨v, w', h, o', rfl, ho, rfl⟩ := xcutLH (P := P) (w := w) (ty := ty) hT hE hx hp hq hi' hj h1 h2
  rw [ho h3, Nat.mul_one] at h
  exact h
theorem app_fin {w w' : World} {a : Option Addr} {c g g' m n' : Nat} {cs : List Value} {bs' : List UInt8} (h : Rw w' (.slice a m c) g' 5 1 m cs) (hm : m = n') (hcs : cs = bvs bs') (hf : Fr (fun k => k = g) w w') (hg : g' = g ∨ w.heap.size ≤ g') (hl : g' < w'.heap.size) : AppTo w g n' bs' (.slice a m c) w' := by
  subst hm hcs
  exact ⟨a, c, g', rfl, h, hf, hg, hl⟩
theorem ba_fix {w : World} {b o n c : Nat} {d : List UInt8} (h : SR w b o [n] [bvs (fixedL d n)]) : BA (· = b) w (.slice (some ⟨b, o + 0, none⟩) n c) (fixedL d n) := by
  have := h.seg (i := 0) (k := 0) rfl rfl
  have := ba_rng (c := c) this
  rw [fixedL_length] at this
  exact this
def hdrL (a b c d e f : Nat) : List UInt8 := be16 a ++ (be16 b ++ (be16 c ++ (be16 d ++ (be16 e ++ be16 f))))
def hdTail (typ cls : UInt16) (ttl : UInt32) (len : Nat) : List UInt8 := be16 typ.toNat ++ (be16 cls.toNat ++ (be32 ttl.toNat ++ be16 len))
theorem hdTail_length (typ cls : UInt16) (ttl : UInt32) (len : Nat) : (hdTail typ cls ttl len).length = 10 := rfl
/-- what the packing of a record's header gives back -/
def HdrC (w : World) (g gm : Nat) (cm : Option Nat) (n k : Nat) (bs out : List UInt8) (C' : Option Ent) (u : Value) (w' : World) : Prop :=
  ∃ a c g', u = .tuple #[.slice a (n + out.length) c, .int .i64 (k : Int), .nilIface] ∧ BR w' (.slice a (n + out.length) c) g' (n + out.length) (bs ++ out) ∧ Fr (fun k => k = g ∨ k = gm) w w' ∧ (g' = g ∨ w.heap.size ≤ g') ∧ g' < w'.heap.size ∧ Cmp w' cm C'
theorem hdr_of {w w' : World} {g gm n m k : Nat} {cm : Option Nat} {bs out : List UInt8} {C' : Option Ent} {a : Option Addr} {c g' : Nat} {cs : List Value} {z : Int} (h : Rw w' (.slice a m c) g' 5 1 m cs) (hm : m = n + out.length) (hcs : cs = bvs (bs ++ out)) (hz : z = (k : Int)) (hf : Fr (fun k => k = g ∨ k = gm) w w') (hg : g' = g ∨ w.heap.size ≤ g') (hl : g' < w'.heap.size) (hC : Cmp w' cm C') :
    HdrC w g gm cm n k bs out C' (.tuple #[.slice a m c, .int .i64 z, .nilIface]) w' := by
  subst hm hcs hz
  exact ⟨a, c, g', rfl, h, hf, hg, hl, hC⟩
theorem n16 (x : UInt32) : be16 (x.toNat % 65536) = be16 x.toNat := be16_mod _
theorem packName_bound {C : Option Ent} {pos : Nat} {s : List UInt8} (hs : nameL s) : (packName C pos s).1.length ≤ 510 := by
  have := packName_le C pos s
  have := (name_pos hs).2
  omega

set_option maxHeartbeats 4000000 in
set_option maxRecDepth 100000 in
theorem c91 {w : World} {v : Value} {g n b o : Nat} {bs : List UInt8} {x0 x1 x2 x3 x4 x5 : Nat} (hR : BR w v g n bs) (hg : g < w.heap.size) (hN : SR w b o lHdr6 (hdrSegs x0 x1 x2 x3 x4 x5)) (hb0 : b < w.heap.size) (hbg : b ≠ g) (hx : x0 < 65536 ∧ x1 < 65536 ∧ x2 < 65536 ∧ x3 < 65536 ∧ x4 < 65536 ∧ x5 < 65536) (hl : n < 999000000) :
  Ret PP 91 [.pointer (some ⟨b, o, none⟩), v] w (fun u w' => AppTo w g (n + 12) (bs ++ hdrL x0 x1 x2 x3 x4 x5) u w') := by
 obtain ⟨a0, c0, rfl, -⟩ := hR.form
 have hf : Fr (fun k => k = g) w w := Fr.refl _ _
 refine ret_of Tryz.func91 rfl rfl rfl [(0, _), (1, _)] rfl ?_
 refine sreg (sv (xassign rfl) (send (fg [(0, _), (1, _)] ⟨rfl, rfl, ⟨⟩⟩ fun _ => (sreg (sv (xmove rfl) (sv (xmove rfl) (sv (xnilc rfl) (sv (xfld fl121_0 rfl) (sv (xld on22 rfl (hN.c 0 rfl rfl)) ?_)))))))))
 refine sc (xcall ca148 rfl) (c148 hR (by omega) (by first | omega | exact u16lt _) (by omega)) ?_
 rintro _ w1 ⟨p10, q10, g10, rfl, r10, m2, a10, l10⟩
 have z3 := m2.size
 have hN := hN.keep m2 (by omega) (by show ¬ (b = g); omega)
 have hf := hf.step m2 (fun k hk hS => by have hS : k = g := hS; show k = g; omega)
 refine sv (xassign rfl) (send (fg [(0, _), (1, _)] ⟨rfl, rfl, ⟨⟩⟩ fun _ => (sreg (sv (xmove rfl) (sv (xmove rfl) (sv (xnilc rfl) (sv (xfld fl121_1 rfl) (sv (xld on22 rfl (hN.c 1 rfl rfl)) ?_))))))))
 refine sc (xcall ca148 rfl) (c148 r10 (by omega) (by first | omega | exact u16lt _) (by omega)) ?_
 rintro _ w4 ⟨p16, q16, g16, rfl, r16, m5, a16, l16⟩
 have z6 := m5.size
 have hN := hN.keep m5 (by omega) (by show ¬ (b = g10); omega)
 have hf := hf.step m5 (fun k hk hS => by have hS : k = g10 := hS; show k = g; omega)
 refine sv (xassign rfl) (send (fg [(0, _), (1, _)] ⟨rfl, rfl, ⟨⟩⟩ fun _ => (sreg (sv (xmove rfl) (sv (xmove rfl) (sv (xnilc rfl) (sv (xfld fl121_2 rfl) (sv (xld on22 rfl (hN.c 2 rfl rfl)) ?_))))))))
 refine sc (xcall ca148 rfl) (c148 r16 (by omega) (by first | omega | exact u16lt _) (by omega)) ?_
 rintro _ w7 ⟨p22, q22, g22, rfl, r22, m8, a22, l22⟩
 have z9 := m8.size
 have hN := hN.keep m8 (by omega) (by show ¬ (b = g16); omega)
 have hf := hf.step m8 (fun k hk hS => by have hS : k = g16 := hS; show k = g; omega)
 refine sv (xassign rfl) (send (fg [(0, _), (1, _)] ⟨rfl, rfl, ⟨⟩⟩ fun _ => (sreg (sv (xmove rfl) (sv (xmove rfl) (sv (xnilc rfl) (sv (xfld fl121_3 rfl) (sv (xld on22 rfl (hN.c 3 rfl rfl)) ?_))))))))
 refine sc (xcall ca148 rfl) (c148 r22 (by omega) (by first | omega | exact u16lt _) (by omega)) ?_
 rintro _ w10 ⟨p28, q28, g28, rfl, r28, m11, a28, l28⟩
 have z12 := m11.size
 have hN := hN.keep m11 (by omega) (by show ¬ (b = g22); omega)
 have hf := hf.step m11 (fun k hk hS => by have hS : k = g22 := hS; show k = g; omega)
 refine sv (xassign rfl) (send (fg [(0, _), (1, _)] ⟨rfl, rfl, ⟨⟩⟩ fun _ => (sreg (sv (xmove rfl) (sv (xmove rfl) (sv (xnilc rfl) (sv (xfld fl121_4 rfl) (sv (xld on22 rfl (hN.c 4 rfl rfl)) ?_))))))))
 refine sc (xcall ca148 rfl) (c148 r28 (by omega) (by first | omega | exact u16lt _) (by omega)) ?_
 rintro _ w13 ⟨p34, q34, g34, rfl, r34, m14, a34, l34⟩
 have z15 := m14.size
 have hN := hN.keep m14 (by omega) (by show ¬ (b = g28); omega)
 have hf := hf.step m14 (fun k hk hS => by have hS : k = g28 := hS; show k = g; omega)
 refine sv (xassign rfl) (send (fg [(0, _), (1, _)] ⟨rfl, rfl, ⟨⟩⟩ fun _ => (sreg (sv (xmove rfl) (sv (xmove rfl) (sv (xnilc rfl) (sv (xfld fl121_5 rfl) (sv (xld on22 rfl (hN.c 5 rfl rfl)) ?_))))))))
 refine sc (xcall ca148 rfl) (c148 r34 (by omega) (by first | omega | exact u16lt _) (by omega)) ?_
 rintro _ w16 ⟨p40, q40, g40, rfl, r40, m17, a40, l40⟩
 have z18 := m17.size
 have hf := hf.step m17 (fun k hk hS => by have hS : k = g34 := hS; show k = g; omega)
 refine sv (xassign rfl) (send (fg [(4, _)] ⟨rfl, ⟨⟩⟩ fun _ => (wp_ret ?_)))
 refine rp1 rfl rfl ?_
 exact app_fin r40 (by omega) (by simp [bvs_app, hdrL]) hf (by omega) (by omega)
set_option maxHeartbeats 4000000 in
set_option maxRecDepth 100000 in
theorem c92 {w : World} {v : Value} {g gm n start pos : Nat} {bs : List UInt8} {cm : Option Nat} {C : Option Ent} (hR : BR w v g n bs) (hg : g < w.heap.size) {bo o : Nat} (hbo : bo < w.heap.size) (hbg : bo ≠ g) (hbm : bo ≠ gm) {a : AskD} (hN : SR w bo o lQ (questSegs a)) (hs : nameL (bt a.name)) (hC : Cmp w cm C) (hm : ∀ b, cm = some b → b = gm ∧ gm ≠ g ∧ gm < w.heap.size) (hp : n = start + pos) (hl : n < 999000000)  :
  Ret PP 92 [.pointer (some ⟨bo, o, none⟩), v, .map cm, .int .i64 (start : Int)] w (AppC w g gm cm n bs (packAsk C pos a).1 (packAsk C pos a).2) := by
 obtain ⟨a0, c0, rfl, -⟩ := hR.form
 have hf : Fr (fun k => k = g ∨ k = gm) w w := Fr.refl _ _
 refine ret_of Tryz.func92 rfl rfl rfl [(0, _), (1, _), (2, _), (3, _)] rfl ?_
 refine sreg (sv (xassign rfl) (sv (xassign rfl) (send (fg [(0, _), (1, _), (2, _), (3, _)] ⟨rfl, rfl, rfl, rfl, ⟨⟩⟩ fun _ => (sreg (sv (xmove rfl) (sv (xnilc rfl) (sv (xfld fl86_0 rfl) (sv (xmove rfl) (sv (xmove rfl) (sv (xmove rfl) ?_)))))))))))
 refine sc (xcall ca149 rfl) (c149 (gm := gm) (pos := pos) (s := bt a.name) hR (by omega) (SR.sub hN 0 1 rfl) (by omega) (by omega) (by omega) hC (fun b hb => by have hb := hm b hb; omega) (by omega) (by omega) hs) ?_
 rintro _ w1 ⟨p18, q18, g18, rfl, r18, m2, a18, l18, hC⟩
 have z3 := m2.size
 have hN := hN.keep m2 (by omega) (by show ¬ (bo = g ∨ bo = gm); omega)
 have hf := hf.step m2 (fun k hk hS => by have hS : k = g ∨ k = gm := hS; show k = g ∨ k = gm; omega)
 have hpl18 := packName_bound (C := C) (pos := pos) (s := bt a.name) hs
 refine sv (xmove rfl) (sv (xextr rfl rfl) (sv (xextr rfl rfl) (sv (xassign rfl) (sv (xassign rfl) (send (fg [(0, _), (1, _), (10, _)] ⟨rfl, rfl, rfl, ⟨⟩⟩ fun _ => (wp_seq (sreg (sv (xmove rfl) (sv (xneN if89 rfl) (send ?_)))))))))))
 refine fg [(0, _), (1, _), (10, _), (22, _)] ⟨rfl, rfl, rfl, rfl, ⟨⟩⟩ fun _ => (cno rfl (wp_skip (nThen (fg [(0, _), (1, _)] ⟨rfl, rfl, ⟨⟩⟩ fun _ => (sreg (sv (xmove rfl) (sv (xmove rfl) (sv (xnilc rfl) (sv (xfld fl86_1 rfl) (sv (xld on83 rfl (hN.c 1 rfl rfl)) ?_))))))))))
 refine sc (xcall ca150 rfl) (c150 r18 (by omega) (by first | omega | exact u16lt _) (by omega)) ?_
 rintro _ w4 ⟨p33, q33, g33, rfl, r33, m5, a33, l33⟩
 have z6 := m5.size
 have hN := hN.keep m5 (by omega) (by show ¬ (bo = g18); omega)
 have hf := hf.step m5 (fun k hk hS => by have hS : k = g18 := hS; show k = g ∨ k = gm; omega)
 have hC := hC.keep m5 (fun b hb => by have hb := hm b hb; show ¬ (b = g18); omega)
 refine sv (xassign rfl) (send (fg [(0, _), (1, _)] ⟨rfl, rfl, ⟨⟩⟩ fun _ => (sreg (sv (xmove rfl) (sv (xmove rfl) (sv (xnilc rfl) (sv (xfld fl86_2 rfl) (sv (xld on84 rfl (hN.c 2 rfl rfl)) ?_))))))))
 refine sc (xcall ca151 rfl) (c151 r33 (by omega) (by first | omega | exact u16lt _) (by omega)) ?_
 rintro _ w7 ⟨p39, q39, g39, rfl, r39, m8, a39, l39⟩
 have z9 := m8.size
 have hf := hf.step m8 (fun k hk hS => by have hS : k = g33 := hS; show k = g ∨ k = gm; omega)
 have hC := hC.keep m8 (fun b hb => by have hb := hm b hb; show ¬ (b = g33); omega)
 refine sv (xassign rfl) (sv (xassign rfl) (send (fg [(8, _), (9, _)] ⟨rfl, rfl, ⟨⟩⟩ fun _ => (wp_ret ?_))))
 refine rp2 rfl rfl rfl ?_
 exact app_ofC r39 (by simp [packAsk, be16_length]; omega) (by simp [packAsk, bvs_app]) hf (by omega) (by omega) hC
set_option maxHeartbeats 4000000 in
set_option maxRecDepth 100000 in
theorem c152 {w : World} {v : Value} {g gm n start pos : Nat} {bs : List UInt8} {cm : Option Nat} {C : Option Ent} (hR : BR w v g n bs) (hg : g < w.heap.size) {bo o : Nat} (hbo : bo < w.heap.size) (hbg : bo ≠ g) (hbm : bo ≠ gm) {s : List UInt8} {typ cls : UInt16} {ttl : UInt32} {len : Nat} (hN : SR w bo o lRH (rhSegs s typ cls ttl len)) (hs : nameL s) (hlen : len < 65536) (hC : Cmp w cm C) (hm : ∀ b, cm = some b → b = gm ∧ gm ≠ g ∧ gm < w.heap.size) (hp : n = start + pos) (hl : n < 999000000)  :
  Ret PP 152 [.pointer (some ⟨bo, o, none⟩), v, .map cm, .int .i64 (start : Int)] w (HdrC w g gm cm n (n + (packName C pos s).1.length + 8) bs ((packName C pos s).1 ++ hdTail typ cls ttl len) (packName C pos s).2) := by
 obtain ⟨a0, c0, rfl, -⟩ := hR.form
 have hf : Fr (fun k => k = g ∨ k = gm) w w := Fr.refl _ _
 refine ret_of Tryz.func152 rfl rfl rfl [(0, _), (1, _), (2, _), (3, _)] rfl ?_
 refine sreg (sv (xassign rfl) (sv (xassign rfl) (sv (xassign rfl) (send (fg [(0, _), (1, _), (2, _), (3, _)] ⟨rfl, rfl, rfl, rfl, ⟨⟩⟩ fun _ => (sreg (sv (xmove rfl) (sv (xassign rfl) (send (fg [(0, _), (1, _), (2, _), (3, _), (8, _)] ⟨rfl, rfl, rfl, rfl, rfl, ⟨⟩⟩ fun _ => (wp_seq ?_)))))))))))
 refine sreg (sv (xmove rfl) (sv (xnilc rfl) (sv (xfld fl135_0 rfl) (sv (xmove rfl) (sv (xmove rfl) (sv (xmove rfl) ?_))))))
 refine sc (xcall ca149 rfl) (c149 (gm := gm) (pos := pos) (s := s) hR (by omega) (SR.sub hN 0 1 rfl) (by omega) (by omega) (by omega) hC (fun b hb => by have hb := hm b hb; omega) (by omega) (by omega) hs) ?_
 rintro _ w1 ⟨p19, q19, g19, rfl, r19, m2, a19, l19, hC⟩
 have z3 := m2.size
 have hN := hN.keep m2 (by omega) (by show ¬ (bo = g ∨ bo = gm); omega)
 have hf := hf.step m2 (fun k hk hS => by have hS : k = g ∨ k = gm := hS; show k = g ∨ k = gm; omega)
 have hpl19 := packName_bound (C := C) (pos := pos) (s := s) hs
 refine sv (xmove rfl) (sv (xextr rfl rfl) (sv (xextr rfl rfl) (sv (xassign rfl) (sv (xassign rfl) (send (fg [(0, _), (1, _), (8, _), (10, _)] ⟨rfl, rfl, rfl, rfl, ⟨⟩⟩ fun _ => (sreg (sv (xmove rfl) (sv (xneN if89 rfl) (send (fg [(0, _), (1, _), (8, _), (10, _), (23, _)] ⟨rfl, rfl, rfl, rfl, rfl, ⟨⟩⟩ fun _ => ?_)))))))))))
 refine cno rfl (wp_skip (nThen (fg [(0, _), (8, _)] ⟨rfl, rfl, ⟨⟩⟩ fun _ => (sreg (sv (xmove rfl) (sv (xmove rfl) (sv (xnilc rfl) (sv (xfld fl135_1 rfl) (sv (xld on83 rfl (hN.c 1 rfl rfl)) ?_)))))))))
 refine sc (xcall ca150 rfl) (c150 r19 (by omega) (by first | omega | exact u16lt _) (by omega)) ?_
 rintro _ w4 ⟨p34, q34, g34, rfl, r34, m5, a34, l34⟩
 have z6 := m5.size
 have hN := hN.keep m5 (by omega) (by show ¬ (bo = g19); omega)
 have hf := hf.step m5 (fun k hk hS => by have hS : k = g19 := hS; show k = g ∨ k = gm; omega)
 have hC := hC.keep m5 (fun b hb => by have hb := hm b hb; show ¬ (b = g19); omega)
 refine sv (xassign rfl) (send (fg [(0, _), (8, _)] ⟨rfl, rfl, ⟨⟩⟩ fun _ => (sreg (sv (xmove rfl) (sv (xmove rfl) (sv (xnilc rfl) (sv (xfld fl135_2 rfl) (sv (xld on84 rfl (hN.c 2 rfl rfl)) ?_))))))))
 refine sc (xcall ca151 rfl) (c151 r34 (by omega) (by first | omega | exact u16lt _) (by omega)) ?_
 rintro _ w7 ⟨p40, q40, g40, rfl, r40, m8, a40, l40⟩
 have z9 := m8.size
 have hN := hN.keep m8 (by omega) (by show ¬ (bo = g34); omega)
 have hf := hf.step m8 (fun k hk hS => by have hS : k = g34 := hS; show k = g ∨ k = gm; omega)
 have hC := hC.keep m8 (fun b hb => by have hb := hm b hb; show ¬ (b = g34); omega)
 refine sv (xassign rfl) (send (fg [(0, _), (8, _)] ⟨rfl, rfl, ⟨⟩⟩ fun _ => (sreg (sv (xmove rfl) (sv (xmove rfl) (sv (xnilc rfl) (sv (xfld fl135_3 rfl) (sv (xld on61 rfl (hN.c 3 rfl rfl)) ?_))))))))
 refine sc (xcall ca191 rfl) (c191 r40 (by omega) (by first | omega | exact u32lt _) (by omega)) ?_
 rintro _ w10 ⟨p46, q46, g46, rfl, r46, m11, a46, l46⟩
 have z12 := m11.size
 have hN := hN.keep m11 (by omega) (by show ¬ (bo = g40); omega)
 have hf := hf.step m11 (fun k hk hS => by have hS : k = g40 := hS; show k = g ∨ k = gm; omega)
 have hC := hC.keep m11 (fun b hb => by have hb := hm b hb; show ¬ (b = g40); omega)
 refine sv (xassign rfl) (send (fg [(0, _), (8, _)] ⟨rfl, rfl, ⟨⟩⟩ fun _ => (sreg (sv (xmove rfl) (sv (xlen sl37 rfl) (sv (xassign rfl) (send (fg [(0, _), (8, _), (9, _)] ⟨rfl, rfl, rfl, ⟨⟩⟩ fun _ => (sreg (sv (xmove rfl) (sv (xmove rfl) ?_)))))))))))
 refine sv (xnilc rfl) (sv (xfld fl135_4 rfl) (sv (xld on22 rfl (hN.c 4 rfl rfl)) ?_))
 refine sc (xcall ca148 rfl) (c148 r46 (by omega) (by first | omega | exact u16lt _) (by omega)) ?_
 rintro _ w13 ⟨p54, q54, g54, rfl, r54, m14, a54, l54⟩
 have z15 := m14.size
 have hf := hf.step m14 (fun k hk hS => by have hS : k = g46 := hS; show k = g ∨ k = gm; omega)
 have hC := hC.keep m14 (fun b hb => by have hb := hm b hb; show ¬ (b = g46); omega)
 refine sv (xassign rfl) (send (fg [(8, _), (9, _)] ⟨rfl, rfl, ⟨⟩⟩ fun _ => (sreg (sv (xmove rfl) (sv (xmove rfl) (sv (xassign rfl) (sv (xassign rfl) (sv (xassign rfl) (send (fg [(8, _), (9, _), (10, _)] ⟨rfl, rfl, rfl, ⟨⟩⟩ fun _ => (wp_ret ?_)))))))))))
 refine rp3 rfl rfl rfl rfl ?_
 exact hdr_of r54 (by simp [hdTail_length]; omega) (by simp [hdTail, bvs_app]) (by omega) hf (by omega) (by omega) hC
set_option maxHeartbeats 4000000 in
set_option maxRecDepth 100000 in
theorem c153 {w : World} {V : Value} {g N bh o lo preLen len : Nat} {T : TypeId} {pre post : List Value} {s : List UInt8} {typ cls : UInt16} {ttl : UInt32} {b1 x2 b3 : List UInt8} (hR : BR w V g N (b1 ++ (x2 ++ b3))) (_hg : g < w.heap.size) (hx2 : x2.length = 2) (hE : SE w bh T pre lRH (rhSegs s typ cls ttl len) post) (hpo : pre.length = o) (hbg : bh ≠ g) (hlo : b1.length = lo) (hpl : preLen ≤ N) (hcl : N - preLen < 65536) (hN9 : N < 1000000000) :
  Ret PP 153 [.pointer (some ⟨bh, o, none⟩), V, .int .i64 (lo : Int), .int .i64 (preLen : Int)] w (fun u w' => u = .nilIface ∧ BR w' V g N (b1 ++ (be16 (N - preLen) ++ b3)) ∧ SE w' bh T pre lRH (rhSegs s typ cls ttl (N - preLen)) post ∧ Fr (fun k => k = g ∨ k = bh) w w') := by
 have hz0 := hE.lt
 have hNl := hR.len
 simp only [List.length_append, hx2] at hNl
 obtain ⟨a0, c0, rfl, hnc, hcm, ha, -⟩ := hR.form
 obtain rfl := ha (by omega)
 obtain ⟨V, hV⟩ : ∃ V, V = Value.slice (some ⟨g, 0, none⟩) N c0 := ⟨_, rfl⟩
 have hf : Fr (fun k => k = g ∨ k = bh) w w := Fr.refl _ _
 refine ret_of Tryz.func153 rfl rfl rfl [(0, _), (1, _), (2, _), (3, _)] rfl ?_
 refine sreg (sv (xassign rfl) (send (fg [(0, _), (1, _), (2, _), (3, _)] ⟨rfl, rfl, rfl, rfl, ⟨⟩⟩ fun _ => (sreg (sv (xmove rfl) (sv (xlen sl37 rfl) (sv (xmove rfl) (sv (xsub rfl rfl (w64 (by omega) (by omega))) (sv (xassign rfl) (send (fg [(0, _), (1, _), (2, _), (9, _)] ⟨rfl, rfl, rfl, rfl, ⟨⟩⟩ fun _ => ?_)))))))))))
 refine wp_seq (sreg (sv (xmove rfl) (sv (exF (xgtr rfl rfl) (by omega)) (send (fg [(0, _), (1, _), (2, _), (9, _), (15, _)] ⟨rfl, rfl, rfl, rfl, rfl, ⟨⟩⟩ fun _ => (cno rfl (wp_skip (nThen (fg [(0, _), (1, _), (2, _), (9, _)] ⟨rfl, rfl, rfl, rfl, ⟨⟩⟩ fun _ => (sreg (sv (xmove rfl) ?_)))))))))))
 refine sv (xmove rfl) (sv (xmove rfl) (sv (xcut1 (lo := lo) (hi := lo) sl37 sz5 rfl rfl rfl rfl rfl (by omega) (by omega) (by omega)) (sv (xmove rfl) (sv (xconv hs3 ki22 rfl (wu16n (N - preLen) (by omega))) ?_))))
 refine sc (xcall ca148 rfl) (c148i (V := .slice (some ⟨g, 0, none⟩) N c0) (N := N) (b1 := b1) (x2 := x2) (b3 := b3) hR (by omega) hx2 (by omega) (by omega)) ?_
 rintro _ w1 ⟨rfl, hR, m2⟩
 have z3 := m2.size
 have hE := hE.keep m2 (by show ¬ (bh = g); omega)
 have hf := hf.step m2 (fun k hk hS => by have hS : k = g := hS; show k = g ∨ k = bh; omega)
 refine send (fg [(0, _), (9, _)] ⟨rfl, rfl, ⟨⟩⟩ fun _ => (sreg (sv (xmove rfl) (sv (xmove rfl) (sv (xconv hs3 ki22 rfl (wu16n (N - preLen) (by omega))) (sv (xnilc rfl) (sv (xfld fl135_4 rfl) ?_)))))))
 refine suK (xstE 4 sz22 hE hpo rfl rfl rfl rfl rfl) ?_
 rintro w5 ⟨m6, hE, s4⟩
 have hf := hf.step m6 (fun k hk hS => by have hS : k = bh := hS; show k = g ∨ k = bh; omega)
 have hR := hR.keep m6 (by show ¬ (g = bh); omega)
 refine send (fg [] trivial fun _ => (sreg (sv (xassign rfl) (send (fg [(8, _)] ⟨rfl, ⟨⟩⟩ fun _ => (wp_ret ?_))))))
 refine rp1 rfl rfl ?_
 exact ⟨rfl, hR, hE, hf⟩
set_option maxHeartbeats 4000000 in
set_option maxRecDepth 100000 in
theorem c164 {w : World} {v : Value} {g gm n start pos : Nat} {bs : List UInt8} {cm : Option Nat} {C : Option Ent} (hR : BR w v g n bs) (hg : g < w.heap.size) {bo o : Nat} (_hbo : bo < w.heap.size) (_hbg : bo ≠ g) (_hbm : bo ≠ gm) {r : RecD} (hk : r.kind = 1) (hN : SR w bo o [4] [bvs (fixedL r.data 4)]) (hn0 : 0 < n) (hC : Cmp w cm C) (hm : ∀ b, cm = some b → b = gm ∧ gm ≠ g ∧ gm < w.heap.size) (hp : n = start + pos) (hl : n < 999000000)  :
  Ret PP 164 [.pointer (some ⟨bo, o, none⟩), v, .map cm, .int .i64 (start : Int)] w (AppC w g gm cm n bs (packBody C pos r).1 (packBody C pos r).2) := by
 obtain ⟨a0, c0, rfl, -⟩ := hR.form
 have hf : Fr (fun k => k = g ∨ k = gm) w w := Fr.refl _ _
 refine ret_of Tryz.func164 rfl rfl rfl [(0, _), (1, _), (2, _), (3, _)] rfl ?_
 refine sreg (sv (xassign rfl) (sv (xassign rfl) (send (fg [(0, _), (1, _)] ⟨rfl, rfl, ⟨⟩⟩ fun _ => (sreg (sv (xmove rfl) (sv (xmove rfl) (sv (xnilc rfl) (sv (xfld fl189_0 rfl) (sv (xcutA ar187 sz5 rfl) ?_))))))))))
 refine sc (xcall ca208 rfl) (c208 hR (by omega) (ba_fix hN) (by rw [fixedL_length]; omega) (by omega) (by omega)) ?_
 rintro _ w1 ⟨p15, q15, g15, rfl, r15, m2, a15, l15⟩
 have z3 := m2.size
 have hC := hC.keep m2 (fun b hb => by have hb := hm b hb; show ¬ (b = g); omega)
 have hf := hf.step m2 (fun k hk hS => by have hS : k = g := hS; show k = g ∨ k = gm; omega)
 refine sv (xassign rfl) (sv (xassign rfl) (send (fg [(8, _), (9, _)] ⟨rfl, rfl, ⟨⟩⟩ fun _ => (wp_ret ?_))))
 refine rp2 rfl rfl rfl ?_
 rw [pb_rest (by omega), bodyL_simp.1 hk]
 exact app_ofC r15 (by simp [fixedL_length]) (by simp [bvs_app]) hf (by omega) (by omega) hC
set_option maxHeartbeats 4000000 in
set_option maxRecDepth 100000 in
theorem c178 {w : World} {v : Value} {g gm n start pos : Nat} {bs : List UInt8} {cm : Option Nat} {C : Option Ent} (hR : BR w v g n bs) (hg : g < w.heap.size) {bo o : Nat} (_hbo : bo < w.heap.size) (_hbg : bo ≠ g) (_hbm : bo ≠ gm) {r : RecD} (hk : r.kind = 8) (hN : SR w bo o [16] [bvs (fixedL r.data 16)]) (hn0 : 0 < n) (hC : Cmp w cm C) (hm : ∀ b, cm = some b → b = gm ∧ gm ≠ g ∧ gm < w.heap.size) (hp : n = start + pos) (hl : n < 999000000)  :
  Ret PP 178 [.pointer (some ⟨bo, o, none⟩), v, .map cm, .int .i64 (start : Int)] w (AppC w g gm cm n bs (packBody C pos r).1 (packBody C pos r).2) := by
 obtain ⟨a0, c0, rfl, -⟩ := hR.form
 have hf : Fr (fun k => k = g ∨ k = gm) w w := Fr.refl _ _
 refine ret_of Tryz.func178 rfl rfl rfl [(0, _), (1, _), (2, _), (3, _)] rfl ?_
 refine sreg (sv (xassign rfl) (sv (xassign rfl) (send (fg [(0, _), (1, _)] ⟨rfl, rfl, ⟨⟩⟩ fun _ => (sreg (sv (xmove rfl) (sv (xmove rfl) (sv (xnilc rfl) (sv (xfld fl211_0 rfl) (sv (xcutA ar209 sz5 rfl) ?_))))))))))
 refine sc (xcall ca208 rfl) (c208 hR (by omega) (ba_fix hN) (by rw [fixedL_length]; omega) (by omega) (by omega)) ?_
 rintro _ w1 ⟨p15, q15, g15, rfl, r15, m2, a15, l15⟩
 have z3 := m2.size
 have hC := hC.keep m2 (fun b hb => by have hb := hm b hb; show ¬ (b = g); omega)
 have hf := hf.step m2 (fun k hk hS => by have hS : k = g := hS; show k = g ∨ k = gm; omega)
 refine sv (xassign rfl) (sv (xassign rfl) (send (fg [(8, _), (9, _)] ⟨rfl, rfl, ⟨⟩⟩ fun _ => (wp_ret ?_))))
 refine rp2 rfl rfl rfl ?_
 rw [pb_rest (by omega), bodyL_simp.2.1 hk]
 exact app_ofC r15 (by simp [fixedL_length]) (by simp [bvs_app]) hf (by omega) (by omega) hC
end Go.Proofs.YtifnodoffgfpbaaGreatDoor

namespace Go.Proofs.YtifnodoffgfpbaaGreatDoor
open Go

theorem xcutF {P : Program} {n : Nat} {l : List (Nat × Value)} {w : World} {ty : TypeId} {x : Operand} {T E : TypeId} {sz m c : Nat} {a : Option Addr} (hT : slcB P T E = true) (hE : szB P E sz = true) (hx : ev n l x = some (.slice a m c)) :
    Ex P n l (.slice T x none none none) ty w (.slice a m c) w := fun r _ _ _ _ => by
  have hs := szB_spec hE
  cases hi' : P.info? E with
  | none => rw [hi'] at hs; cases hs
  | some u =>
    rw [hi'] at hs
    simp only [Option.map_some, Option.some.injEq] at hs
    simp only [execOp, ev_eval r hx]
    simp [Instr.sliceAt, Instr.slice, run_underlying (slcB_spec hT), Instr.sliceBounds, sizeOf, typeInfo, hi']
    cases a with
    | none => simp
    | some a => simp [Addr.add]
theorem asc_pos {ps : List PairD} (h : asc ps) {k : Nat} {p : PairD} (hp : ps[k]? = some p) (hk : 0 < k) : 0 < p.key.toNat := by
  obtain ⟨q, hq⟩ := some_of_lt (l := ps) (k := k - 1) (by have := (List.getElem?_eq_some_iff.1 hp).1; omega)
  have := h (k - 1) q p hq (by rw [show k - 1 + 1 = k by omega]; exact hp)
  omega
theorem pairs_take_le (ps : List PairD) (k : Nat) : (pairsL (ps.take k)).length ≤ (pairsL ps).length := by
  conv => rhs; rw [← List.take_append_drop k ps]
  simp only [pairsL, List.map_append, List.flatten_append, List.length_append]; omega
theorem texts_take_le (ps : List ByteArray) (k : Nat) : (textsL (ps.take k)).length ≤ (textsL ps).length := by
  conv => rhs; rw [← List.take_append_drop k ps]
  simp only [textsL, List.map_append, List.flatten_append, List.length_append]; omega

set_option maxHeartbeats 4000000 in
set_option maxRecDepth 100000 in
theorem c166 {w : World} {v : Value} {g gm n start pos : Nat} {bs : List UInt8} {cm : Option Nat} {C : Option Ent} (hR : BR w v g n bs) (hg : g < w.heap.size) {bo o : Nat} (hbo : bo < w.heap.size) (hbg : bo ≠ g) (hbm : bo ≠ gm) {r : RecD} (hk : r.kind = 2) (hN : SR w bo o [256] [nm (bt r.host)]) (hn0 : 0 < n) (hsh : nameL (bt r.host)) (hC : Cmp w cm C) (hm : ∀ b, cm = some b → b = gm ∧ gm ≠ g ∧ gm < w.heap.size) (hp : n = start + pos) (hl : n < 999000000)  :
  Ret PP 166 [.pointer (some ⟨bo, o, none⟩), v, .map cm, .int .i64 (start : Int)] w (AppC w g gm cm n bs (packBody C pos r).1 (packBody C pos r).2) := by
 obtain ⟨a0, c0, rfl, -⟩ := hR.form
 have hf : Fr (fun k => k = g ∨ k = gm) w w := Fr.refl _ _
 refine ret_of Tryz.func166 rfl rfl rfl [(0, _), (1, _), (2, _), (3, _)] rfl ?_
 refine sreg (sv (xassign rfl) (sv (xassign rfl) (send (fg [(0, _), (1, _), (2, _), (3, _)] ⟨rfl, rfl, rfl, rfl, ⟨⟩⟩ fun _ => (sreg (sv (xmove rfl) (sv (xnilc rfl) (sv (xfld fl192_0 rfl) (sv (xmove rfl) (sv (xmove rfl) (sv (xmove rfl) ?_)))))))))))
 refine sc (xcall ca149 rfl) (c149 (gm := gm) (pos := pos) (s := bt r.host) hR (by omega) (SR.sub hN 0 1 rfl) (by omega) (by omega) (by omega) hC (fun b hb => by have hb := hm b hb; omega) (by omega) (by omega) hsh) ?_
 rintro _ w1 ⟨p16, q16, g16, rfl, r16, m2, a16, l16, hC⟩
 have z3 := m2.size
 have hf := hf.step m2 (fun k hk hS => by have hS : k = g ∨ k = gm := hS; show k = g ∨ k = gm; omega)
 have hpl16 := packName_bound (C := C) (pos := pos) (s := bt r.host) hsh
 refine sv (xextr rfl rfl) (sv (xextr rfl rfl) (sv (xassign rfl) (sv (xassign rfl) (send (fg [(8, _), (9, _)] ⟨rfl, rfl, ⟨⟩⟩ fun _ => (wp_ret ?_))))))
 refine rp2 rfl rfl rfl ?_
 rw [pb_name (by omega)]
 exact app_ofC r16 rfl rfl hf (by omega) (by omega) hC
set_option maxHeartbeats 4000000 in
set_option maxRecDepth 100000 in
theorem c168 {w : World} {v : Value} {g gm n start pos : Nat} {bs : List UInt8} {cm : Option Nat} {C : Option Ent} (hR : BR w v g n bs) (hg : g < w.heap.size) {bo o : Nat} (hbo : bo < w.heap.size) (hbg : bo ≠ g) (hbm : bo ≠ gm) {r : RecD} (hk : r.kind = 3) (hN : SR w bo o [256] [nm (bt r.host)]) (hn0 : 0 < n) (hsh : nameL (bt r.host)) (hC : Cmp w cm C) (hm : ∀ b, cm = some b → b = gm ∧ gm ≠ g ∧ gm < w.heap.size) (hp : n = start + pos) (hl : n < 999000000)  :
  Ret PP 168 [.pointer (some ⟨bo, o, none⟩), v, .map cm, .int .i64 (start : Int)] w (AppC w g gm cm n bs (packBody C pos r).1 (packBody C pos r).2) := by
 obtain ⟨a0, c0, rfl, -⟩ := hR.form
 have hf : Fr (fun k => k = g ∨ k = gm) w w := Fr.refl _ _
 refine ret_of Tryz.func168 rfl rfl rfl [(0, _), (1, _), (2, _), (3, _)] rfl ?_
 refine sreg (sv (xassign rfl) (sv (xassign rfl) (send (fg [(0, _), (1, _), (2, _), (3, _)] ⟨rfl, rfl, rfl, rfl, ⟨⟩⟩ fun _ => (sreg (sv (xmove rfl) (sv (xnilc rfl) (sv (xfld fl195_0 rfl) (sv (xmove rfl) (sv (xmove rfl) (sv (xmove rfl) ?_)))))))))))
 refine sc (xcall ca149 rfl) (c149 (gm := gm) (pos := pos) (s := bt r.host) hR (by omega) (SR.sub hN 0 1 rfl) (by omega) (by omega) (by omega) hC (fun b hb => by have hb := hm b hb; omega) (by omega) (by omega) hsh) ?_
 rintro _ w1 ⟨p16, q16, g16, rfl, r16, m2, a16, l16, hC⟩
 have z3 := m2.size
 have hf := hf.step m2 (fun k hk hS => by have hS : k = g ∨ k = gm := hS; show k = g ∨ k = gm; omega)
 have hpl16 := packName_bound (C := C) (pos := pos) (s := bt r.host) hsh
 refine sv (xextr rfl rfl) (sv (xextr rfl rfl) (sv (xassign rfl) (sv (xassign rfl) (send (fg [(8, _), (9, _)] ⟨rfl, rfl, ⟨⟩⟩ fun _ => (wp_ret ?_))))))
 refine rp2 rfl rfl rfl ?_
 rw [pb_name (by omega)]
 exact app_ofC r16 rfl rfl hf (by omega) (by omega) hC
set_option maxHeartbeats 4000000 in
set_option maxRecDepth 100000 in
theorem c172 {w : World} {v : Value} {g gm n start pos : Nat} {bs : List UInt8} {cm : Option Nat} {C : Option Ent} (hR : BR w v g n bs) (hg : g < w.heap.size) {bo o : Nat} (hbo : bo < w.heap.size) (hbg : bo ≠ g) (hbm : bo ≠ gm) {r : RecD} (hk : r.kind = 5) (hN : SR w bo o [256] [nm (bt r.host)]) (hn0 : 0 < n) (hsh : nameL (bt r.host)) (hC : Cmp w cm C) (hm : ∀ b, cm = some b → b = gm ∧ gm ≠ g ∧ gm < w.heap.size) (hp : n = start + pos) (hl : n < 999000000)  :
  Ret PP 172 [.pointer (some ⟨bo, o, none⟩), v, .map cm, .int .i64 (start : Int)] w (AppC w g gm cm n bs (packBody C pos r).1 (packBody C pos r).2) := by
 obtain ⟨a0, c0, rfl, -⟩ := hR.form
 have hf : Fr (fun k => k = g ∨ k = gm) w w := Fr.refl _ _
 refine ret_of Tryz.func172 rfl rfl rfl [(0, _), (1, _), (2, _), (3, _)] rfl ?_
 refine sreg (sv (xassign rfl) (sv (xassign rfl) (send (fg [(0, _), (1, _), (2, _), (3, _)] ⟨rfl, rfl, rfl, rfl, ⟨⟩⟩ fun _ => (sreg (sv (xmove rfl) (sv (xnilc rfl) (sv (xfld fl201_0 rfl) (sv (xmove rfl) (sv (xmove rfl) (sv (xmove rfl) ?_)))))))))))
 refine sc (xcall ca149 rfl) (c149 (gm := gm) (pos := pos) (s := bt r.host) hR (by omega) (SR.sub hN 0 1 rfl) (by omega) (by omega) (by omega) hC (fun b hb => by have hb := hm b hb; omega) (by omega) (by omega) hsh) ?_
 rintro _ w1 ⟨p16, q16, g16, rfl, r16, m2, a16, l16, hC⟩
 have z3 := m2.size
 have hf := hf.step m2 (fun k hk hS => by have hS : k = g ∨ k = gm := hS; show k = g ∨ k = gm; omega)
 have hpl16 := packName_bound (C := C) (pos := pos) (s := bt r.host) hsh
 refine sv (xextr rfl rfl) (sv (xextr rfl rfl) (sv (xassign rfl) (sv (xassign rfl) (send (fg [(8, _), (9, _)] ⟨rfl, rfl, ⟨⟩⟩ fun _ => (wp_ret ?_))))))
 refine rp2 rfl rfl rfl ?_
 rw [pb_name (by omega)]
 exact app_ofC r16 rfl rfl hf (by omega) (by omega) hC
set_option maxHeartbeats 4000000 in
set_option maxRecDepth 100000 in
theorem c174 {w : World} {v : Value} {g gm n start pos : Nat} {bs : List UInt8} {cm : Option Nat} {C : Option Ent} (hR : BR w v g n bs) (hg : g < w.heap.size) {bo o : Nat} (hbo : bo < w.heap.size) (hbg : bo ≠ g) (hbm : bo ≠ gm) {r : RecD} (hk : r.kind = 6) (hN : SR w bo o [1, 256] [[.int .u16 ((r.n1.toNat % 65536 : Nat) : Int)], nm (bt r.host)]) (hn0 : 0 < n) (hsh : nameL (bt r.host)) (hC : Cmp w cm C) (hm : ∀ b, cm = some b → b = gm ∧ gm ≠ g ∧ gm < w.heap.size) (hp : n = start + pos) (hl : n < 999000000)  :
  Ret PP 174 [.pointer (some ⟨bo, o, none⟩), v, .map cm, .int .i64 (start : Int)] w (AppC w g gm cm n bs (packBody C pos r).1 (packBody C pos r).2) := by
 obtain ⟨a0, c0, rfl, -⟩ := hR.form
 have hf : Fr (fun k => k = g ∨ k = gm) w w := Fr.refl _ _
 refine ret_of Tryz.func174 rfl rfl rfl [(0, _), (1, _), (2, _), (3, _)] rfl ?_
 refine sreg (sv (xassign rfl) (sv (xassign rfl) (send (fg [(0, _), (1, _), (2, _), (3, _)] ⟨rfl, rfl, rfl, rfl, ⟨⟩⟩ fun _ => (sreg (sv (xmove rfl) (sv (xassign rfl) (send (fg [(0, _), (1, _), (2, _), (3, _), (10, _)] ⟨rfl, rfl, rfl, rfl, rfl, ⟨⟩⟩ fun _ => (sreg (sv (xmove rfl) ?_)))))))))))
 refine sv (xmove rfl) (sv (xnilc rfl) (sv (xfld fl204_0 rfl) (sv (xld on22 rfl (hN.c 0 rfl rfl)) ?_)))
 refine sc (xcall ca148 rfl) (c148 hR (by omega) (by first | omega | exact u16lt _) (by omega)) ?_
 rintro _ w1 ⟨p18, q18, g18, rfl, r18, m2, a18, l18⟩
 have z3 := m2.size
 have hC := hC.keep m2 (fun b hb => by have hb := hm b hb; show ¬ (b = g); omega)
 have hN := hN.keep m2 (by omega) (by show ¬ (bo = g); omega)
 have hf := hf.step m2 (fun k hk hS => by have hS : k = g := hS; show k = g ∨ k = gm; omega)
 refine sv (xassign rfl) (send (fg [(0, _), (1, _), (2, _), (3, _), (10, _)] ⟨rfl, rfl, rfl, rfl, rfl, ⟨⟩⟩ fun _ => (sreg (sv (xmove rfl) (sv (xnilc rfl) (sv (xfld fl204_1 rfl) (sv (xmove rfl) (sv (xmove rfl) (sv (xmove rfl) ?_)))))))))
 refine sc (xcall ca149 rfl) (c149 (gm := gm) (pos := pos + 2) (s := bt r.host) r18 (by omega) (SR.sub hN 1 1 rfl) (by omega) (by omega) (by omega) hC (fun b hb => by have hb := hm b hb; omega) (by omega) (by omega) hsh) ?_
 rintro _ w4 ⟨p26, q26, g26, rfl, r26, m5, a26, l26, hC⟩
 have z6 := m5.size
 have hf := hf.step m5 (fun k hk hS => by have hS : k = g18 ∨ k = gm := hS; show k = g ∨ k = gm; omega)
 have hpl26 := packName_bound (C := C) (pos := pos + 2) (s := bt r.host) hsh
 refine sv (xmove rfl) (sv (xextr rfl rfl) (sv (xextr rfl rfl) (sv (xassign rfl) (sv (xassign rfl) (send (fg [(1, _), (10, _), (11, _)] ⟨rfl, rfl, rfl, ⟨⟩⟩ fun _ => (wp_seq (sreg (sv (xmove rfl) (sv (xneN if89 rfl) (send ?_)))))))))))
 refine fg [(1, _), (10, _), (11, _), (30, _)] ⟨rfl, rfl, rfl, rfl, ⟨⟩⟩ fun _ => (cno rfl (wp_skip (nThen (fg [(1, _)] ⟨rfl, ⟨⟩⟩ fun _ => (sreg (sv (xmove rfl) (sv (xassign rfl) (sv (xassign rfl) (send (fg [(8, _), (9, _)] ⟨rfl, rfl, ⟨⟩⟩ fun _ => (wp_ret ?_)))))))))))
 refine rp2 rfl rfl rfl ?_
 rw [pb_mx hk]
 exact app_ofC r26 (by simp [packMx, be16_length]; omega) (by simp [packMx, bvs_app, n16]) hf (by omega) (by omega) hC
set_option maxHeartbeats 4000000 in
set_option maxRecDepth 100000 in
theorem c170 {w : World} {v : Value} {g gm n start pos : Nat} {bs : List UInt8} {cm : Option Nat} {C : Option Ent} (hR : BR w v g n bs) (hg : g < w.heap.size) {bo o : Nat} (hbo : bo < w.heap.size) (hbg : bo ≠ g) (hbm : bo ≠ gm) {r : RecD} (hk : r.kind = 4) (hN : SR w bo o [256, 256, 1, 1, 1, 1, 1] [nm (bt r.host), nm (bt r.box), [.int .u32 (r.n1.toNat : Int)], [.int .u32 (r.n2.toNat : Int)], [.int .u32 (r.n3.toNat : Int)], [.int .u32 (r.n4.toNat : Int)], [.int .u32 (r.n5.toNat : Int)]]) (hn0 : 0 < n) (hsh : nameL (bt r.host)) (hsb : nameL (bt r.box)) (hC : Cmp w cm C) (hm : ∀ b, cm = some b → b = gm ∧ gm ≠ g ∧ gm < w.heap.size) (hp : n = start + pos) (hl : n < 999000000)  :
  Ret PP 170 [.pointer (some ⟨bo, o, none⟩), v, .map cm, .int .i64 (start : Int)] w (AppC w g gm cm n bs (packBody C pos r).1 (packBody C pos r).2) := by
 obtain ⟨a0, c0, rfl, -⟩ := hR.form
 have hf : Fr (fun k => k = g ∨ k = gm) w w := Fr.refl _ _
 refine ret_of Tryz.func170 rfl rfl rfl [(0, _), (1, _), (2, _), (3, _)] rfl ?_
 refine sreg (sv (xassign rfl) (sv (xassign rfl) (send (fg [(0, _), (1, _), (2, _), (3, _)] ⟨rfl, rfl, rfl, rfl, ⟨⟩⟩ fun _ => (sreg (sv (xmove rfl) (sv (xassign rfl) (send (fg [(0, _), (1, _), (2, _), (3, _), (10, _)] ⟨rfl, rfl, rfl, rfl, rfl, ⟨⟩⟩ fun _ => (sreg (sv (xmove rfl) ?_)))))))))))
 refine sv (xnilc rfl) (sv (xfld fl198_0 rfl) (sv (xmove rfl) (sv (xmove rfl) (sv (xmove rfl) ?_))))
 refine sc (xcall ca149 rfl) (c149 (gm := gm) (pos := pos) (s := bt r.host) hR (by omega) (SR.sub hN 0 1 rfl) (by omega) (by omega) (by omega) hC (fun b hb => by have hb := hm b hb; omega) (by omega) (by omega) hsh) ?_
 rintro _ w1 ⟨p20, q20, g20, rfl, r20, m2, a20, l20, hC⟩
 have z3 := m2.size
 have hN := hN.keep m2 (by omega) (by show ¬ (bo = g ∨ bo = gm); omega)
 have hf := hf.step m2 (fun k hk hS => by have hS : k = g ∨ k = gm := hS; show k = g ∨ k = gm; omega)
 have hpl20 := packName_bound (C := C) (pos := pos) (s := bt r.host) hsh
 refine sv (xmove rfl) (sv (xextr rfl rfl) (sv (xextr rfl rfl) (sv (xassign rfl) (sv (xassign rfl) (send (fg [(0, _), (1, _), (2, _), (3, _), (10, _), (11, _)] ⟨rfl, rfl, rfl, rfl, rfl, rfl, ⟨⟩⟩ fun _ => (wp_seq (sreg (sv (xmove rfl) (sv (xneN if89 rfl) (send ?_)))))))))))
 refine fg [(0, _), (1, _), (2, _), (3, _), (10, _), (11, _), (24, _)] ⟨rfl, rfl, rfl, rfl, rfl, rfl, rfl, ⟨⟩⟩ fun _ => (cno rfl (wp_skip (nThen (fg [(0, _), (1, _), (2, _), (3, _), (10, _)] ⟨rfl, rfl, rfl, rfl, rfl, ⟨⟩⟩ fun _ => (sreg (sv (xmove rfl) (sv (xnilc rfl) (sv (xfld fl198_1 rfl) (sv (xmove rfl) (sv (xmove rfl) (sv (xmove rfl) ?_)))))))))))
 refine sc (xcall ca149 rfl) (c149 (gm := gm) (pos := pos + (packName C pos (bt r.host)).1.length) (s := bt r.box) r20 (by omega) (SR.sub hN 1 1 rfl) (by omega) (by omega) (by omega) hC (fun b hb => by have hb := hm b hb; omega) (by omega) (by omega) hsb) ?_
 rintro _ w4 ⟨p37, q37, g37, rfl, r37, m5, a37, l37, hC⟩
 have z6 := m5.size
 have hN := hN.keep m5 (by omega) (by show ¬ (bo = g20 ∨ bo = gm); omega)
 have hf := hf.step m5 (fun k hk hS => by have hS : k = g20 ∨ k = gm := hS; show k = g ∨ k = gm; omega)
 have hpl37 := packName_bound (C := (packName C pos (bt r.host)).2) (pos := pos + (packName C pos (bt r.host)).1.length) (s := bt r.box) hsb
 refine sv (xmove rfl) (sv (xextr rfl rfl) (sv (xextr rfl rfl) (sv (xassign rfl) (sv (xassign rfl) (send (fg [(0, _), (1, _), (10, _), (11, _)] ⟨rfl, rfl, rfl, rfl, ⟨⟩⟩ fun _ => (wp_seq (sreg (sv (xmove rfl) (sv (xneN if89 rfl) (send ?_)))))))))))
 refine fg [(0, _), (1, _), (10, _), (11, _), (41, _)] ⟨rfl, rfl, rfl, rfl, rfl, ⟨⟩⟩ fun _ => (cno rfl (wp_skip (nThen (fg [(0, _), (1, _)] ⟨rfl, rfl, ⟨⟩⟩ fun _ => (sreg (sv (xmove rfl) (sv (xmove rfl) (sv (xnilc rfl) (sv (xfld fl198_2 rfl) (sv (xld on61 rfl (hN.c 2 rfl rfl)) ?_))))))))))
 refine sc (xcall ca191 rfl) (c191 r37 (by omega) (by first | omega | exact u32lt _) (by omega)) ?_
 rintro _ w7 ⟨p52, q52, g52, rfl, r52, m8, a52, l52⟩
 have z9 := m8.size
 have hN := hN.keep m8 (by omega) (by show ¬ (bo = g37); omega)
 have hf := hf.step m8 (fun k hk hS => by have hS : k = g37 := hS; show k = g ∨ k = gm; omega)
 have hC := hC.keep m8 (fun b hb => by have hb := hm b hb; show ¬ (b = g37); omega)
 refine sv (xassign rfl) (send (fg [(0, _), (1, _)] ⟨rfl, rfl, ⟨⟩⟩ fun _ => (sreg (sv (xmove rfl) (sv (xmove rfl) (sv (xnilc rfl) (sv (xfld fl198_3 rfl) (sv (xld on61 rfl (hN.c 3 rfl rfl)) ?_))))))))
 refine sc (xcall ca191 rfl) (c191 r52 (by omega) (by first | omega | exact u32lt _) (by omega)) ?_
 rintro _ w10 ⟨p58, q58, g58, rfl, r58, m11, a58, l58⟩
 have z12 := m11.size
 have hN := hN.keep m11 (by omega) (by show ¬ (bo = g52); omega)
 have hf := hf.step m11 (fun k hk hS => by have hS : k = g52 := hS; show k = g ∨ k = gm; omega)
 have hC := hC.keep m11 (fun b hb => by have hb := hm b hb; show ¬ (b = g52); omega)
 refine sv (xassign rfl) (send (fg [(0, _), (1, _)] ⟨rfl, rfl, ⟨⟩⟩ fun _ => (sreg (sv (xmove rfl) (sv (xmove rfl) (sv (xnilc rfl) (sv (xfld fl198_4 rfl) (sv (xld on61 rfl (hN.c 4 rfl rfl)) ?_))))))))
 refine sc (xcall ca191 rfl) (c191 r58 (by omega) (by first | omega | exact u32lt _) (by omega)) ?_
 rintro _ w13 ⟨p64, q64, g64, rfl, r64, m14, a64, l64⟩
 have z15 := m14.size
 have hN := hN.keep m14 (by omega) (by show ¬ (bo = g58); omega)
 have hf := hf.step m14 (fun k hk hS => by have hS : k = g58 := hS; show k = g ∨ k = gm; omega)
 have hC := hC.keep m14 (fun b hb => by have hb := hm b hb; show ¬ (b = g58); omega)
 refine sv (xassign rfl) (send (fg [(0, _), (1, _)] ⟨rfl, rfl, ⟨⟩⟩ fun _ => (sreg (sv (xmove rfl) (sv (xmove rfl) (sv (xnilc rfl) (sv (xfld fl198_5 rfl) (sv (xld on61 rfl (hN.c 5 rfl rfl)) ?_))))))))
 refine sc (xcall ca191 rfl) (c191 r64 (by omega) (by first | omega | exact u32lt _) (by omega)) ?_
 rintro _ w16 ⟨p70, q70, g70, rfl, r70, m17, a70, l70⟩
 have z18 := m17.size
 have hN := hN.keep m17 (by omega) (by show ¬ (bo = g64); omega)
 have hf := hf.step m17 (fun k hk hS => by have hS : k = g64 := hS; show k = g ∨ k = gm; omega)
 have hC := hC.keep m17 (fun b hb => by have hb := hm b hb; show ¬ (b = g64); omega)
 refine sv (xassign rfl) (send (fg [(0, _), (1, _)] ⟨rfl, rfl, ⟨⟩⟩ fun _ => (sreg (sv (xmove rfl) (sv (xmove rfl) (sv (xnilc rfl) (sv (xfld fl198_6 rfl) (sv (xld on61 rfl (hN.c 6 rfl rfl)) ?_))))))))
 refine sc (xcall ca191 rfl) (c191 r70 (by omega) (by first | omega | exact u32lt _) (by omega)) ?_
 rintro _ w19 ⟨p76, q76, g76, rfl, r76, m20, a76, l76⟩
 have z21 := m20.size
 have hf := hf.step m20 (fun k hk hS => by have hS : k = g70 := hS; show k = g ∨ k = gm; omega)
 have hC := hC.keep m20 (fun b hb => by have hb := hm b hb; show ¬ (b = g70); omega)
 refine sv (xassign rfl) (sv (xassign rfl) (send (fg [(8, _), (9, _)] ⟨rfl, rfl, ⟨⟩⟩ fun _ => (wp_ret ?_))))
 refine rp2 rfl rfl rfl ?_
 rw [pb_soa hk]
 exact app_ofC r76 (by simp [packSoa, soaL_length]; omega) (by simp [packSoa, soaL, bvs_app]) hf (by omega) (by omega) hC
set_option maxHeartbeats 4000000 in
set_option maxRecDepth 100000 in
theorem c180 {w : World} {v : Value} {g gm n start pos : Nat} {bs : List UInt8} {cm : Option Nat} {C : Option Ent} (hR : BR w v g n bs) (hg : g < w.heap.size) {bo o : Nat} (hbo : bo < w.heap.size) (hbg : bo ≠ g) (hbm : bo ≠ gm) {r : RecD} (hk : r.kind = 9) (hN : SR w bo o [1, 1, 1, 256] [[.int .u16 ((r.n1.toNat % 65536 : Nat) : Int)], [.int .u16 ((r.n2.toNat % 65536 : Nat) : Int)], [.int .u16 ((r.n3.toNat % 65536 : Nat) : Int)], nm (bt r.host)]) (hn0 : 0 < n) (hsh : nameL (bt r.host)) (hC : Cmp w cm C) (hm : ∀ b, cm = some b → b = gm ∧ gm ≠ g ∧ gm < w.heap.size) (hp : n = start + pos) (hl : n < 999000000)  :
  Ret PP 180 [.pointer (some ⟨bo, o, none⟩), v, .map cm, .int .i64 (start : Int)] w (AppC w g gm cm n bs (packBody C pos r).1 (packBody C pos r).2) := by
 obtain ⟨a0, c0, rfl, -⟩ := hR.form
 have hf : Fr (fun k => k = g ∨ k = gm) w w := Fr.refl _ _
 refine ret_of Tryz.func180 rfl rfl rfl [(0, _), (1, _), (2, _), (3, _)] rfl ?_
 refine sreg (sv (xassign rfl) (sv (xassign rfl) (send (fg [(0, _), (1, _), (3, _)] ⟨rfl, rfl, rfl, ⟨⟩⟩ fun _ => (sreg (sv (xmove rfl) (sv (xassign rfl) (send (fg [(0, _), (1, _), (3, _), (10, _)] ⟨rfl, rfl, rfl, rfl, ⟨⟩⟩ fun _ => (sreg (sv (xmove rfl) ?_)))))))))))
 refine sv (xmove rfl) (sv (xnilc rfl) (sv (xfld fl214_0 rfl) (sv (xld on22 rfl (hN.c 0 rfl rfl)) ?_)))
 refine sc (xcall ca148 rfl) (c148 hR (by omega) (by first | omega | exact u16lt _) (by omega)) ?_
 rintro _ w1 ⟨p18, q18, g18, rfl, r18, m2, a18, l18⟩
 have z3 := m2.size
 have hC := hC.keep m2 (fun b hb => by have hb := hm b hb; show ¬ (b = g); omega)
 have hN := hN.keep m2 (by omega) (by show ¬ (bo = g); omega)
 have hf := hf.step m2 (fun k hk hS => by have hS : k = g := hS; show k = g ∨ k = gm; omega)
 refine sv (xassign rfl) (send (fg [(0, _), (1, _), (3, _), (10, _)] ⟨rfl, rfl, rfl, rfl, ⟨⟩⟩ fun _ => (sreg (sv (xmove rfl) (sv (xmove rfl) (sv (xnilc rfl) (sv (xfld fl214_1 rfl) (sv (xld on22 rfl (hN.c 1 rfl rfl)) ?_))))))))
 refine sc (xcall ca148 rfl) (c148 r18 (by omega) (by first | omega | exact u16lt _) (by omega)) ?_
 rintro _ w4 ⟨p24, q24, g24, rfl, r24, m5, a24, l24⟩
 have z6 := m5.size
 have hC := hC.keep m5 (fun b hb => by have hb := hm b hb; show ¬ (b = g18); omega)
 have hN := hN.keep m5 (by omega) (by show ¬ (bo = g18); omega)
 have hf := hf.step m5 (fun k hk hS => by have hS : k = g18 := hS; show k = g ∨ k = gm; omega)
 refine sv (xassign rfl) (send (fg [(0, _), (1, _), (3, _), (10, _)] ⟨rfl, rfl, rfl, rfl, ⟨⟩⟩ fun _ => (sreg (sv (xmove rfl) (sv (xmove rfl) (sv (xnilc rfl) (sv (xfld fl214_2 rfl) (sv (xld on22 rfl (hN.c 2 rfl rfl)) ?_))))))))
 refine sc (xcall ca148 rfl) (c148 r24 (by omega) (by first | omega | exact u16lt _) (by omega)) ?_
 rintro _ w7 ⟨p30, q30, g30, rfl, r30, m8, a30, l30⟩
 have z9 := m8.size
 have hC := hC.keep m8 (fun b hb => by have hb := hm b hb; show ¬ (b = g24); omega)
 have hN := hN.keep m8 (by omega) (by show ¬ (bo = g24); omega)
 have hf := hf.step m8 (fun k hk hS => by have hS : k = g24 := hS; show k = g ∨ k = gm; omega)
 refine sv (xassign rfl) (send (fg [(0, _), (1, _), (3, _), (10, _)] ⟨rfl, rfl, rfl, rfl, ⟨⟩⟩ fun _ => (sreg (sv (xmove rfl) (sv (xnilc rfl) (sv (xfld fl214_3 rfl) (sv (xmove rfl) (sv (xmove rfl) ?_))))))))
 refine sc (xcall ca149 rfl) (c149n (start := start) (pos := pos + 6) (s := bt r.host) r30 (by omega) (SR.sub hN 3 1 rfl) (by omega) (by omega) (by omega) (by omega) hsh) ?_
 rintro _ w10 ⟨_, rfl, p37, q37, g37, rfl, r37, m11, a37, l37⟩
 have z12 := m11.size
 have hC := hC.keep m11 (fun b hb => by have hb := hm b hb; show ¬ (b = g30); omega)
 have hf := hf.step m11 (fun k hk hS => by have hS : k = g30 := hS; show k = g ∨ k = gm; omega)
 have hpl37 := wire_bound hsh
 refine sv (xmove rfl) (sv (xextr rfl rfl) (sv (xextr rfl rfl) (sv (xassign rfl) (sv (xassign rfl) (send (fg [(1, _), (10, _), (11, _)] ⟨rfl, rfl, rfl, ⟨⟩⟩ fun _ => (wp_seq (sreg (sv (xmove rfl) (sv (xneN if89 rfl) (send ?_)))))))))))
 refine fg [(1, _), (10, _), (11, _), (41, _)] ⟨rfl, rfl, rfl, rfl, ⟨⟩⟩ fun _ => (cno rfl (wp_skip (nThen (fg [(1, _)] ⟨rfl, ⟨⟩⟩ fun _ => (sreg (sv (xmove rfl) (sv (xassign rfl) (sv (xassign rfl) (send (fg [(8, _), (9, _)] ⟨rfl, rfl, ⟨⟩⟩ fun _ => (wp_ret ?_)))))))))))
 refine rp2 rfl rfl rfl ?_
 rw [pb_rest (by omega), bodyL_simp.2.2.2.1 hk]
 exact app_ofC r37 (by simp [be16_length]; omega) (by simp [bvs_app, n16]) hf (by omega) (by omega) hC
set_option maxHeartbeats 4000000 in
set_option maxRecDepth 100000 in
theorem c189 {w : World} {v : Value} {g gm n start pos : Nat} {bs : List UInt8} {cm : Option Nat} {C : Option Ent} (hR : BR w v g n bs) (hg : g < w.heap.size) {bo o : Nat} (_hbo : bo < w.heap.size) (_hbg : bo ≠ g) (_hbm : bo ≠ gm) {r : RecD} {vd : Value} (hk : r.kind = 13) (hN : SR w bo o [1, 1] [[.int .u16 ((typeN r).toNat : Int)], [vd]]) (hn0 : 0 < n) {U : Nat → Prop} (_hU : ∀ k, U k → k < w.heap.size ∧ k ≠ g ∧ k ≠ gm) (hd : BA U w vd r.data) (hdl : r.data.length ≤ 900000) (hC : Cmp w cm C) (hm : ∀ b, cm = some b → b = gm ∧ gm ≠ g ∧ gm < w.heap.size) (hp : n = start + pos) (hl : n < 999000000)  :
  Ret PP 189 [.pointer (some ⟨bo, o, none⟩), v, .map cm, .int .i64 (start : Int)] w (AppC w g gm cm n bs (packBody C pos r).1 (packBody C pos r).2) := by
 obtain ⟨a0, c0, rfl, -⟩ := hR.form
 obtain ⟨ad0, cd0, rfl, -⟩ := id hd
 have hf : Fr (fun k => k = g ∨ k = gm) w w := Fr.refl _ _
 refine ret_of Tryz.func189 rfl rfl rfl [(0, _), (1, _), (2, _), (3, _)] rfl ?_
 refine sreg (sv (xassign rfl) (sv (xassign rfl) (send (fg [(0, _), (1, _)] ⟨rfl, rfl, ⟨⟩⟩ fun _ => (sreg (sv (xmove rfl) (sv (xmove rfl) (sv (xnilc rfl) (sv (xfld fl231_1 rfl) (sv (xld on37 rfl (hN.c 1 rfl rfl)) (sv (xcutF sl37 sz5 rfl) ?_)))))))))))
 refine sc (xcall ca208 rfl) (c208 hR (by omega) hd (by omega) (by omega) (by omega)) ?_
 rintro _ w1 ⟨p16, q16, g16, rfl, r16, m2, a16, l16⟩
 have z3 := m2.size
 have hC := hC.keep m2 (fun b hb => by have hb := hm b hb; show ¬ (b = g); omega)
 have hf := hf.step m2 (fun k hk hS => by have hS : k = g := hS; show k = g ∨ k = gm; omega)
 refine sv (xassign rfl) (sv (xassign rfl) (send (fg [(8, _), (9, _)] ⟨rfl, rfl, ⟨⟩⟩ fun _ => (wp_ret ?_))))
 refine rp2 rfl rfl rfl ?_
 rw [pb_rest (by omega), bodyL_simp.2.2.2.2.2.2 hk]
 exact app_ofC r16 rfl (by rw [bvs_app]) hf (by omega) (by omega) hC
set_option maxHeartbeats 4000000 in
set_option maxRecDepth 100000 in
theorem c176 {w : World} {v : Value} {g gm n start pos : Nat} {bs : List UInt8} {cm : Option Nat} {C : Option Ent} (hR : BR w v g n bs) (hg : g < w.heap.size) {bo o : Nat} (_hbo : bo < w.heap.size) (_hbg : bo ≠ g) (_hbm : bo ≠ gm) {r : RecD} {vt : Value} (hk : r.kind = 7) (hN : SR w bo o [1] [[vt]]) (hn0 : 0 < n) {U : Nat → Prop} (hU : ∀ k, U k → k < w.heap.size ∧ k ≠ g ∧ k ≠ gm) (ht : LA TextEl [1] U w vt r.texts) (htl : ∀ s ∈ r.texts, s.size ≤ 255) (htn : r.texts.length ≤ 1048576) (hpl : (textsL r.texts).length ≤ 900000) (hC : Cmp w cm C) (hm : ∀ b, cm = some b → b = gm ∧ gm ≠ g ∧ gm < w.heap.size) (hp : n = start + pos) (hl : n < 999000000)  :
  Ret PP 176 [.pointer (some ⟨bo, o, none⟩), v, .map cm, .int .i64 (start : Int)] w (AppC w g gm cm n bs (packBody C pos r).1 (packBody C pos r).2) := by
 obtain ⟨a0, c0, rfl, -⟩ := hR.form
 obtain ⟨at0, ct0, rfl⟩ := ht.form
 have hf : Fr (fun k => k = g ∨ k = gm) w w := Fr.refl _ _
 refine ret_of Tryz.func176 rfl rfl rfl [(0, _), (1, _), (2, _), (3, _)] rfl ?_
 refine sreg (sv (xassign rfl) (sv (xassign rfl) (send (fg [(0, _), (1, _)] ⟨rfl, rfl, ⟨⟩⟩ fun _ => (sreg (sv (xmove rfl) (sv (xassign rfl) (send (fg [(0, _), (1, _), (10, _)] ⟨rfl, rfl, rfl, ⟨⟩⟩ fun _ => (wp_seq (sreg ?_)))))))))))
 refine sv (xmove rfl) (sv (xnilc rfl) (sv (xfld fl207_0 rfl) (sv (xld on62 rfl (hN.c 0 rfl rfl)) (sv (xlen sl62 rfl) (sv (xmove rfl) (send (fg [(1, _), (10, _), (18, _), (19, _), (20, _)] ⟨rfl, rfl, rfl, rfl, rfl, ⟨⟩⟩ fun _ => (wp_block ?_))))))))
 refine lp [(10, _), (18, _), (19, _)] (fun (x : Nat × Value × Nat) => match x with | (k, v, gk) => [(1, v), (20, .int .i64 (k : Int))]) (fun (x : Nat × Value × Nat) wx => match x with | (k, v, gk) => Fr (fun k => k = g) w wx ∧ (k ≤ r.texts.length) ∧ (BR wx v gk (n + (textsL (r.texts.take k)).length) (bs ++ textsL (r.texts.take k))) ∧ (gk = g ∨ w.heap.size ≤ gk) ∧ (gk < wx.heap.size)) (fun (x : Nat × Value × Nat) => match x with | (k, v, gk) => r.texts.length - k) (0, _, g) ⟨rfl, rfl, rfl, rfl, rfl, trivial⟩ ⟨Fr.refl _ _, Nat.zero_le _, by simpa [textsL] using hR, .inl rfl, by omega⟩ ?_
 rintro ⟨k, v, gk⟩ _ w2 ⟨hL1, hk2, hR, hgk, hgk2⟩
 refine fg [(1, _), (10, _), (18, _), (19, _), (20, _)] ⟨rfl, rfl, rfl, rfl, rfl, ⟨⟩⟩ fun _ => ?_
 have z3 := hL1.size
 have hC := hC.keep hL1 (fun b hb => by have hb := hm b hb; show ¬ (b = g); omega)
 have ht := ht.keep text_st (fun k hk => by have hk := hU k hk; omega) hL1 (fun k hk hS => by have hk := hU k hk; have hS : k = g := hS; omega)
 have hf := hf.step hL1 (fun k hk hS => by have hS : k = g := hS; show k = g ∨ k = gm; omega)
 obtain ⟨a1, c1, rfl, -⟩ := hR.form
 have htt := texts_take_le r.texts k
 refine sreg ?_
 refine svP (xlss rfl rfl) (fun hc21 => ?_) (fun hc21 => ?_)
 ·
  refine send (fg [(1, _), (10, _), (18, _), (19, _), (20, _), (21, _)] ⟨rfl, rfl, rfl, rfl, rfl, rfl, ⟨⟩⟩ fun _ => (wp_seq (cyes rfl (wp_skip (nThen (fg [(1, _), (10, _), (18, _), (19, _), (20, _)] ⟨rfl, rfl, rfl, rfl, rfl, ⟨⟩⟩ fun _ => (wp_seq (wp_block ?_))))))))
  obtain ⟨t, htk⟩ := some_of_lt (by omega : k < r.texts.length)
  have hts := htl _ (List.mem_of_getElem? htk)
  have htt := texts_take_le r.texts k
  refine sreg ?_
  obtain ⟨bE22, oE22, sgE22, rfl, uE22, hsE22, heE22⟩ := LA.get ht htk
  obtain rfl := heE22
  have zE22 := hU _ uE22
  refine sv (xidx sl62 sz9 rfl rfl rfl (by omega)) (sv (xld on9 rfl (hsE22.c 0 rfl rfl)) (sv (xassign rfl) (send (fg [(1, _), (10, _), (12, _), (18, _), (19, _), (20, _)] ⟨rfl, rfl, rfl, rfl, rfl, rfl, ⟨⟩⟩ fun _ => (sreg (sv (xassign rfl) (send (fg [(1, _), (10, _), (12, _), (18, _), (19, _), (20, _)] ⟨rfl, rfl, rfl, rfl, rfl, rfl, ⟨⟩⟩ fun _ => (sreg (sv (xmove rfl) (sv (xmove rfl) ?_)))))))))))
  refine sc (xcall ca209 rfl) (c209 hR (by omega) (by omega) (by omega)) ?_
  rintro _ w4 ⟨_, rfl, p27, q27, g27, rfl, r27, m5, a27, l27⟩
  have z6 := m5.size
  have hC := hC.keep m5 (fun b hb => by have hb := hm b hb; show ¬ (b = gk); omega)
  have hf := hf.step m5 (fun k hk hS => by have hS : k = gk := hS; show k = g ∨ k = gm; omega)
  have hL1 := hL1.step m5 (fun k hk hS => by have hS : k = gk := hS; show k = g; omega)
  refine sv (xmove rfl) (sv (xextr rfl rfl) (sv (xextr rfl rfl) (sv (xassign rfl) (sv (xassign rfl) (send (fg [(1, _), (10, _), (13, _), (18, _), (19, _), (20, _)] ⟨rfl, rfl, rfl, rfl, rfl, rfl, ⟨⟩⟩ fun _ => (sreg (sv (xmove rfl) (sv (xneN if89 rfl) (send (fg [(1, _), (10, _), (13, _), (18, _), (19, _), (20, _), (31, _)] ⟨rfl, rfl, rfl, rfl, rfl, rfl, rfl, ⟨⟩⟩ fun _ => ?_)))))))))))
  refine cno rfl (wp_skip (nBlock (nThen (fg [(1, _), (10, _), (18, _), (19, _), (20, _)] ⟨rfl, rfl, rfl, rfl, rfl, ⟨⟩⟩ fun _ => (lreg (sv (xadd rfl rfl (w64 (by omega) (by omega))) (sv (xmove rfl) (lend (nThen ?_)))))))))
  refine ⟨(k + 1, _, g27), _, env_okl ⟨rfl, rfl, rfl, rfl, rfl, trivial⟩, ⟨hL1, (by omega), (by rw [texts_snoc htk]; exact br_cast r27 (by simp [textL]) (by simp [textL]; omega)), (by omega), (l27)⟩, ?_⟩
  show r.texts.length - (k + 1) < r.texts.length - k; omega
 ·
  refine send (fg [(1, _), (10, _), (18, _), (19, _), (20, _), (21, _)] ⟨rfl, rfl, rfl, rfl, rfl, rfl, ⟨⟩⟩ fun _ => (wp_seq (cno rfl (wp_exit (eThen (eThen (eHit (nThen (fg [(1, _)] ⟨rfl, ⟨⟩⟩ fun _ => (sreg (sv (xmove rfl) ?_)))))))))))
  refine sv (xassign rfl) (sv (xassign rfl) (send (fg [(8, _), (9, _)] ⟨rfl, rfl, ⟨⟩⟩ fun _ => (wp_ret ?_))))
  refine rp2 rfl rfl rfl ?_
  have e : r.texts.take k = r.texts := List.take_of_length_le (by omega)
  rw [e] at hR ⊢
  rw [pb_rest (by omega), bodyL_simp.2.2.1 hk]
  exact app_ofC hR rfl rfl hf (by omega) (by omega) hC
set_option maxHeartbeats 4000000 in
set_option maxRecDepth 100000 in
theorem c182 {w : World} {v : Value} {g gm n start pos : Nat} {bs : List UInt8} {cm : Option Nat} {C : Option Ent} (hR : BR w v g n bs) (hg : g < w.heap.size) {bo o : Nat} (_hbo : bo < w.heap.size) (_hbg : bo ≠ g) (_hbm : bo ≠ gm) {r : RecD} {vp : Value} (hk : r.kind = 10) (hN : SR w bo o [1] [[vp]]) (hn0 : 0 < n) {U : Nat → Prop} (hU : ∀ k, U k → k < w.heap.size ∧ k ≠ g ∧ k ≠ gm) (hpr : LA PairEl lPair U w vp r.pairs) (hpd : ∀ p ∈ r.pairs, p.data.length ≤ 65535) (hpn : r.pairs.length ≤ 1048576) (hpl : (pairsL r.pairs).length ≤ 900000) (hC : Cmp w cm C) (hm : ∀ b, cm = some b → b = gm ∧ gm ≠ g ∧ gm < w.heap.size) (hp : n = start + pos) (hl : n < 999000000)  :
  Ret PP 182 [.pointer (some ⟨bo, o, none⟩), v, .map cm, .int .i64 (start : Int)] w (AppC w g gm cm n bs (packBody C pos r).1 (packBody C pos r).2) := by
 obtain ⟨a0, c0, rfl, -⟩ := hR.form
 obtain ⟨ap0, cp0, rfl⟩ := hpr.form
 have hf : Fr (fun k => k = g ∨ k = gm) w w := Fr.refl _ _
 refine ret_of Tryz.func182 rfl rfl rfl [(0, _), (1, _), (2, _), (3, _)] rfl ?_
 refine sreg (sv (xassign rfl) (sv (xassign rfl) (send (fg [(0, _), (1, _)] ⟨rfl, rfl, ⟨⟩⟩ fun _ => (wp_seq (sreg (sv (xmove rfl) (sv (xnilc rfl) (sv (xfld fl218_0 rfl) (sv (xld on216 rfl (hN.c 0 rfl rfl)) (sv (xlen sl216 rfl) ?_)))))))))))
 refine sv (xmove rfl) (send (fg [(1, _), (16, _), (17, _), (18, _)] ⟨rfl, rfl, rfl, rfl, ⟨⟩⟩ fun _ => (wp_block ?_)))
 refine lp [(16, _), (17, _)] (fun (x : Nat × Value × Nat) => match x with | (k, v, gk) => [(1, v), (18, .int .i64 (k : Int))]) (fun (x : Nat × Value × Nat) wx => match x with | (k, v, gk) => Fr (fun k => k = g) w wx ∧ (k ≤ r.pairs.length) ∧ (BR wx v gk (n + (pairsL (r.pairs.take k)).length) (bs ++ pairsL (r.pairs.take k))) ∧ (gk = g ∨ w.heap.size ≤ gk) ∧ (gk < wx.heap.size)) (fun (x : Nat × Value × Nat) => match x with | (k, v, gk) => r.pairs.length - k) (0, _, g) ⟨rfl, rfl, rfl, rfl, trivial⟩ ⟨Fr.refl _ _, Nat.zero_le _, by simpa [pairsL] using hR, .inl rfl, by omega⟩ ?_
 rintro ⟨k, v, gk⟩ _ w2 ⟨hL1, hk2, hR, hgk, hgk2⟩
 refine fg [(1, _), (16, _), (17, _), (18, _)] ⟨rfl, rfl, rfl, rfl, ⟨⟩⟩ fun _ => ?_
 have z3 := hL1.size
 have hC := hC.keep hL1 (fun b hb => by have hb := hm b hb; show ¬ (b = g); omega)
 have hpr := hpr.keep pair_st (fun k hk => by have hk := hU k hk; omega) hL1 (fun k hk hS => by have hk := hU k hk; have hS : k = g := hS; omega)
 have hf := hf.step hL1 (fun k hk hS => by have hS : k = g := hS; show k = g ∨ k = gm; omega)
 obtain ⟨a1, c1, rfl, -⟩ := hR.form
 have htt := pairs_take_le r.pairs k
 refine sreg ?_
 refine svP (xlss rfl rfl) (fun hc19 => ?_) (fun hc19 => ?_)
 ·
  refine send (fg [(1, _), (16, _), (17, _), (18, _), (19, _)] ⟨rfl, rfl, rfl, rfl, rfl, ⟨⟩⟩ fun _ => (wp_seq (cyes rfl (wp_skip (nThen (fg [(1, _), (16, _), (17, _), (18, _)] ⟨rfl, rfl, rfl, rfl, ⟨⟩⟩ fun _ => (wp_seq (wp_block ?_))))))))
  obtain ⟨p, hpk⟩ := some_of_lt (by omega : k < r.pairs.length)
  have hpz := hpd _ (List.mem_of_getElem? hpk)
  have htt := pairs_take_le r.pairs k
  refine sreg ?_
  obtain ⟨bE20, oE20, sgE20, rfl, uE20, hsE20, heE20⟩ := LA.get hpr hpk
  obtain ⟨vd, rfl, hd⟩ := heE20
  have zE20 := hU _ uE20
  obtain ⟨ad, cd, rfl, -⟩ := id hd
  refine sv (xidx sl216 sz220 rfl rfl rfl (by omega)) (sv (xldS (lens := [1, 1]) ro220 rfl hsE20) ?_)
  refine svK (xallS (lens := [1, 1]) in220 rfl) ?_
  rintro _ w5 ⟨b11, rfl, m6, h11, e4, s4⟩
  have hC := hC.keep m6 nF
  have hf := hf.step0 m6
  have hR := hR.keep m6 id
  have hL1 := hL1.step0 m6
  have hd := hd.keep (fun k hk => by have hk := hU k hk; omega) m6 nF
  refine suK (xstW h11 (lens' := [1, 1]) sz220 rfl rfl rfl rfl rfl) ?_
  rintro w8 ⟨m9, h11, s7⟩
  have hC := hC.keep m9 (fun b hb => by have hb := hm b hb; show ¬ (b = b11); omega)
  have hf := hf.step m9 (fun k hk hS => by have hS : k = b11 := hS; show k = g ∨ k = gm; omega)
  have hR := hR.keep m9 (by show ¬ (gk = b11); omega)
  have hL1 := hL1.step m9 (fun k hk hS => by have hS : k = b11 := hS; show k = g; omega)
  have hd := hd.keep (fun k hk => by have hk := hU k hk; omega) m9 (fun k hk hS => by have hk := hU k hk; have hS : k = b11 := hS; omega)
  refine send (fg [(1, _), (11, _), (16, _), (17, _), (18, _)] ⟨rfl, rfl, rfl, rfl, rfl, ⟨⟩⟩ fun _ => (sreg (sv (xmove rfl) (sv (xfld fl220_0 rfl) (sv (xld on22 rfl (h11.r.c 0 rfl rfl)) ?_)))))
  refine sc (xcall ca148 rfl) (c148 hR (by omega) (by first | omega | exact u16lt _) (by omega)) ?_
  rintro _ w10 ⟨p25, q25, g25, rfl, r25, m11, a25, l25⟩
  have z12 := m11.size
  have hC := hC.keep m11 (fun b hb => by have hb := hm b hb; show ¬ (b = gk); omega)
  have hf := hf.step m11 (fun k hk hS => by have hS : k = gk := hS; show k = g ∨ k = gm; omega)
  have hL1 := hL1.step m11 (fun k hk hS => by have hS : k = gk := hS; show k = g; omega)
  have hd := hd.keep (fun k hk => by have hk := hU k hk; omega) m11 (fun k hk hS => by have hk := hU k hk; have hS : k = gk := hS; omega)
  have h11 := h11.keep m11 (by show ¬ (b11 = gk); omega)
  refine sv (xassign rfl) (send (fg [(1, _), (11, _), (16, _), (17, _), (18, _)] ⟨rfl, rfl, rfl, rfl, rfl, ⟨⟩⟩ fun _ => (sreg (sv (xfld fl220_1 rfl) (sv (xld on37 rfl (h11.r.c 1 rfl rfl)) (sv (xlen sl37 rfl) (sv (xconv hs3 ki22 rfl (wu16n p.data.length (by omega))) (sv (xassign rfl) (send (fg [(1, _), (11, _), (12, _), (16, _), (17, _), (18, _)] ⟨rfl, rfl, rfl, rfl, rfl, rfl, ⟨⟩⟩ fun _ => (sreg ?_)))))))))))
  refine sv (xmove rfl) (sv (xmove rfl) ?_)
  refine sc (xcall ca148 rfl) (c148 r25 (by omega) (by first | omega | exact u16lt _) (by omega)) ?_
  rintro _ w13 ⟨p32, q32, g32, rfl, r32, m14, a32, l32⟩
  have z15 := m14.size
  have hC := hC.keep m14 (fun b hb => by have hb := hm b hb; show ¬ (b = g25); omega)
  have hf := hf.step m14 (fun k hk hS => by have hS : k = g25 := hS; show k = g ∨ k = gm; omega)
  have hL1 := hL1.step m14 (fun k hk hS => by have hS : k = g25 := hS; show k = g; omega)
  have hd := hd.keep (fun k hk => by have hk := hU k hk; omega) m14 (fun k hk hS => by have hk := hU k hk; have hS : k = g25 := hS; omega)
  have h11 := h11.keep m14 (by show ¬ (b11 = g25); omega)
  refine sv (xassign rfl) (send (fg [(1, _), (11, _), (16, _), (17, _), (18, _)] ⟨rfl, rfl, rfl, rfl, rfl, ⟨⟩⟩ fun _ => (lreg (sv (xmove rfl) (sv (xfld fl220_1 rfl) (sv (xld on37 rfl (h11.r.c 1 rfl rfl)) ?_))))))
  refine sc (xcall ca208 rfl) (c208 r32 (by omega) hd (by omega) (by omega) (by omega)) ?_
  rintro _ w16 ⟨p36, q36, g36, rfl, r36, m17, a36, l36⟩
  have z18 := m17.size
  have hC := hC.keep m17 (fun b hb => by have hb := hm b hb; show ¬ (b = g32); omega)
  have hf := hf.step m17 (fun k hk hS => by have hS : k = g32 := hS; show k = g ∨ k = gm; omega)
  have hL1 := hL1.step m17 (fun k hk hS => by have hS : k = g32 := hS; show k = g; omega)
  refine sv (xassign rfl) (lend (nBlock (nThen (fg [(1, _), (16, _), (17, _), (18, _)] ⟨rfl, rfl, rfl, rfl, ⟨⟩⟩ fun _ => (lreg (sv (xadd rfl rfl (w64 (by omega) (by omega))) (sv (xmove rfl) (lend (nThen ?_)))))))))
  refine ⟨(k + 1, _, g36), _, env_okl ⟨rfl, rfl, rfl, rfl, trivial⟩, ⟨hL1, (by omega), (by rw [pairs_snoc hpk]; exact br_cast r36 (by simp [pairL, bvs_app]) (by simp [pairL, be16_length]; omega)), (by omega), (l36)⟩, ?_⟩
  show r.pairs.length - (k + 1) < r.pairs.length - k; omega
 ·
  refine send (fg [(1, _), (16, _), (17, _), (18, _), (19, _)] ⟨rfl, rfl, rfl, rfl, rfl, ⟨⟩⟩ fun _ => (wp_seq (cno rfl (wp_exit (eThen (eThen (eHit (nThen (fg [(1, _)] ⟨rfl, ⟨⟩⟩ fun _ => (sreg (sv (xmove rfl) ?_)))))))))))
  refine sv (xassign rfl) (sv (xassign rfl) (send (fg [(8, _), (9, _)] ⟨rfl, rfl, ⟨⟩⟩ fun _ => (wp_ret ?_))))
  refine rp2 rfl rfl rfl ?_
  have e : r.pairs.take k = r.pairs := List.take_of_length_le (by omega)
  rw [e] at hR ⊢
  rw [pb_rest (by omega), bodyL_simp.2.2.2.2.1 hk]
  exact app_ofC hR rfl rfl hf (by omega) (by omega) hC
set_option maxHeartbeats 4000000 in
set_option maxRecDepth 100000 in
theorem c210 {w : World} {v : Value} {g gm n start pos : Nat} {bs : List UInt8} {cm : Option Nat} {C : Option Ent} (hR : BR w v g n bs) (hg : g < w.heap.size) {bo o : Nat} (hbo : bo < w.heap.size) (hbg : bo ≠ g) (hbm : bo ≠ gm) {r : RecD} {vp : Value} (hk : r.kind = 11 ∨ r.kind = 12) (hN : SR w bo o [1, 256, 1] [[.int .u16 ((r.n1.toNat % 65536 : Nat) : Int)], nm (bt r.host), [vp]]) (hn0 : 0 < n) (hsh : nameL (bt r.host)) {U : Nat → Prop} (hU : ∀ k, U k → k < w.heap.size ∧ k ≠ g ∧ k ≠ gm) (hpr : LA PairEl lPair U w vp r.pairs) (hasc : asc r.pairs) (hpd : ∀ p ∈ r.pairs, p.data.length ≤ 65535) (hpn : r.pairs.length ≤ 1048576) (hpl : (pairsL r.pairs).length ≤ 900000) (hC : Cmp w cm C) (hm : ∀ b, cm = some b → b = gm ∧ gm ≠ g ∧ gm < w.heap.size) (hp : n = start + pos) (hl : n < 999000000)  :
  Ret PP 210 [.pointer (some ⟨bo, o, none⟩), v, .map cm, .int .i64 (start : Int)] w (AppC w g gm cm n bs (packBody C pos r).1 (packBody C pos r).2) := by
 obtain ⟨a0, c0, rfl, -⟩ := hR.form
 obtain ⟨ap0, cp0, rfl⟩ := hpr.form
 have hf : Fr (fun k => k = g ∨ k = gm) w w := Fr.refl _ _
 refine ret_of Tryz.func210 rfl rfl rfl [(0, _), (1, _), (2, _), (3, _)] rfl ?_
 refine sreg (sv (xassign rfl) (sv (xassign rfl) (send (fg [(0, _), (1, _)] ⟨rfl, rfl, ⟨⟩⟩ fun _ => (sreg (sv (xmove rfl) (sv (xassign rfl) (send (fg [(0, _), (1, _), (10, _)] ⟨rfl, rfl, rfl, ⟨⟩⟩ fun _ => (sreg (sv (xmove rfl) ?_)))))))))))
 refine sv (xmove rfl) (sv (xnilc rfl) (sv (xfld fl224_0 rfl) (sv (xld on22 rfl (hN.c 0 rfl rfl)) ?_)))
 refine sc (xcall ca148 rfl) (c148 hR (by omega) (by first | omega | exact u16lt _) (by omega)) ?_
 rintro _ w1 ⟨p21, q21, g21, rfl, r21, m2, a21, l21⟩
 have z3 := m2.size
 have hC := hC.keep m2 (fun b hb => by have hb := hm b hb; show ¬ (b = g); omega)
 have hN := hN.keep m2 (by omega) (by show ¬ (bo = g); omega)
 have hpr := hpr.keep pair_st (fun k hk => by have hk := hU k hk; omega) m2 (fun k hk hS => by have hk := hU k hk; have hS : k = g := hS; omega)
 have hf := hf.step m2 (fun k hk hS => by have hS : k = g := hS; show k = g ∨ k = gm; omega)
 refine sv (xassign rfl) (send (fg [(0, _), (1, _), (10, _)] ⟨rfl, rfl, rfl, ⟨⟩⟩ fun _ => (sreg (sv (xmove rfl) (sv (xnilc rfl) (sv (xfld fl224_1 rfl) (sv (xmove rfl) ?_)))))))
 refine sc (xcall ca149 rfl) (c149n (start := 0) (pos := n + 2) (s := bt r.host) r21 (by omega) (SR.sub hN 1 1 rfl) (by omega) (by omega) (by omega) (by omega) hsh) ?_
 rintro _ w4 ⟨_, rfl, p27, q27, g27, rfl, r27, m5, a27, l27⟩
 have z6 := m5.size
 have hC := hC.keep m5 (fun b hb => by have hb := hm b hb; show ¬ (b = g21); omega)
 have hN := hN.keep m5 (by omega) (by show ¬ (bo = g21); omega)
 have hpr := hpr.keep pair_st (fun k hk => by have hk := hU k hk; omega) m5 (fun k hk hS => by have hk := hU k hk; have hS : k = g21 := hS; omega)
 have hf := hf.step m5 (fun k hk hS => by have hS : k = g21 := hS; show k = g ∨ k = gm; omega)
 have hpl27 := wire_bound hsh
 refine sv (xmove rfl) (sv (xextr rfl rfl) (sv (xextr rfl rfl) (sv (xassign rfl) (sv (xassign rfl) (send (fg [(0, _), (1, _), (10, _), (11, _)] ⟨rfl, rfl, rfl, rfl, ⟨⟩⟩ fun _ => (wp_seq (sreg (sv (xmove rfl) (sv (xneN if89 rfl) (send ?_)))))))))))
 refine fg [(0, _), (1, _), (10, _), (11, _), (31, _)] ⟨rfl, rfl, rfl, rfl, rfl, ⟨⟩⟩ fun _ => (cno rfl (wp_skip (nThen (fg [(0, _), (1, _), (10, _)] ⟨rfl, rfl, rfl, ⟨⟩⟩ fun _ => (sreg (sv (xassign rfl) (send (fg [(0, _), (1, _), (10, _), (12, _)] ⟨rfl, rfl, rfl, rfl, ⟨⟩⟩ fun _ => (wp_seq (sreg (sv (xmove rfl) ?_)))))))))))
 refine sv (xnilc rfl) (sv (xfld fl224_2 rfl) (sv (xld on222 rfl (hN.c 2 rfl rfl)) (sv (xlen sl222 rfl) (sv (xmove rfl) (send (fg [(1, _), (10, _), (12, _), (40, _), (41, _), (42, _)] ⟨rfl, rfl, rfl, rfl, rfl, rfl, ⟨⟩⟩ fun _ => (wp_block ?_)))))))
 refine lp [(10, _), (12, _), (40, _), (41, _)] (fun (x : Nat × Value × Nat) => match x with | (k, v, gk) => [(1, v), (42, .int .i64 (k : Int))]) (fun (x : Nat × Value × Nat) wx => match x with | (k, v, gk) => Fr (fun k => k = g27) w4 wx ∧ (k ≤ r.pairs.length) ∧ (BR wx v gk (n + 2 + (wire (bt r.host)).length + (pairsL (r.pairs.take k)).length) (bs ++ be16 r.n1.toNat ++ wire (bt r.host) ++ pairsL (r.pairs.take k))) ∧ (gk = g27 ∨ w4.heap.size ≤ gk) ∧ (gk < wx.heap.size)) (fun (x : Nat × Value × Nat) => match x with | (k, v, gk) => r.pairs.length - k) (0, _, g27) ⟨rfl, rfl, rfl, rfl, rfl, rfl, trivial⟩ ⟨Fr.refl _ _, Nat.zero_le _, br_cast r27 (by simp [bvs_app, pairsL, n16]) (by simp [pairsL]), .inl rfl, by omega⟩ ?_
 rintro ⟨k, v, gk⟩ _ w8 ⟨hL7, hk2, hR, hgk, hgk2⟩
 refine fg [(1, _), (10, _), (12, _), (40, _), (41, _), (42, _)] ⟨rfl, rfl, rfl, rfl, rfl, rfl, ⟨⟩⟩ fun _ => ?_
 have z9 := hL7.size
 have hC := hC.keep hL7 (fun b hb => by have hb := hm b hb; show ¬ (b = g27); omega)
 have hpr := hpr.keep pair_st (fun k hk => by have hk := hU k hk; omega) hL7 (fun k hk hS => by have hk := hU k hk; have hS : k = g27 := hS; omega)
 have hf := hf.step hL7 (fun k hk hS => by have hS : k = g27 := hS; show k = g ∨ k = gm; omega)
 obtain ⟨a1, c1, rfl, -⟩ := hR.form
 have htt := pairs_take_le r.pairs k
 refine sreg ?_
 refine svP (xlss rfl rfl) (fun hc43 => ?_) (fun hc43 => ?_)
 ·
  refine send (fg [(1, _), (10, _), (12, _), (40, _), (41, _), (42, _), (43, _)] ⟨rfl, rfl, rfl, rfl, rfl, rfl, rfl, ⟨⟩⟩ fun _ => (wp_seq (cyes rfl (wp_skip (nThen (fg [(1, _), (10, _), (12, _), (40, _), (41, _), (42, _)] ⟨rfl, rfl, rfl, rfl, rfl, rfl, ⟨⟩⟩ fun _ => (wp_seq (wp_block ?_))))))))
  obtain ⟨p, hpk⟩ := some_of_lt (by omega : k < r.pairs.length)
  have hpz := hpd _ (List.mem_of_getElem? hpk)
  have htt := pairs_take_le r.pairs k
  have hky := asc_pos hasc hpk
  refine sreg (sv (xmove rfl) ?_)
  obtain ⟨bE45, oE45, sgE45, rfl, uE45, hsE45, heE45⟩ := LA.get hpr hpk
  obtain ⟨vd, rfl, hd⟩ := heE45
  have zE45 := hU _ uE45
  obtain ⟨ad, cd, rfl, -⟩ := id hd
  refine sv (xidx sl222 sz291 rfl rfl rfl (by omega)) (sv (xldS (lens := [1, 1]) ro291 rfl hsE45) ?_)
  refine svK (xallS (lens := [1, 1]) in291 rfl) ?_
  rintro _ w11 ⟨b14, rfl, m12, h14, e10, s10⟩
  have hC := hC.keep m12 nF
  have hf := hf.step0 m12
  have hR := hR.keep m12 id
  have hL7 := hL7.step0 m12
  have hd := hd.keep (fun k hk => by have hk := hU k hk; omega) m12 nF
  refine sv (xassign rfl) ?_
  refine suK (xstW h14 (lens' := [1, 1]) sz291 rfl rfl rfl rfl rfl) ?_
  rintro w14 ⟨m15, h14, s13⟩
  have hC := hC.keep m15 (fun b hb => by have hb := hm b hb; show ¬ (b = b14); omega)
  have hf := hf.step m15 (fun k hk hS => by have hS : k = b14 := hS; show k = g ∨ k = gm; omega)
  have hR := hR.keep m15 (by show ¬ (gk = b14); omega)
  have hL7 := hL7.step m15 (fun k hk hS => by have hS : k = b14 := hS; show k = g27; omega)
  have hd := hd.keep (fun k hk => by have hk := hU k hk; omega) m15 (fun k hk hS => by have hk := hU k hk; have hS : k = b14 := hS; omega)
  refine send (fg [(1, _), (10, _), (12, _), (13, _), (14, _), (40, _), (41, _), (42, _)] ⟨rfl, rfl, rfl, rfl, rfl, rfl, rfl, rfl, ⟨⟩⟩ fun _ => (wp_seq (sreg (sv (xmove rfl) ?_))))
  refine svP (xgtr rfl rfl) (fun hc48 => ?_) (fun hc48 => ?_)
  ·
   refine sv (xmove rfl) (gyes rfl rfl rfl (sv (xfld fl291_0 rfl) (gyes rfl rfl rfl (sv (xld on289 rfl (h14.r.c 0 rfl rfl)) (gyes rfl rfl rfl (sv (xmove rfl) (gyes rfl rfl rfl (sv (exF (xleq rfl rfl) (by omega)) (sv (xpickT rfl rfl) (send (fg [(1, _), (10, _), (12, _), (14, _), (40, _), (41, _), (42, _), (54, _)] ⟨rfl, rfl, rfl, rfl, rfl, rfl, rfl, rfl, ⟨⟩⟩ fun _ => ?_)))))))))))
   refine cno rfl (wp_skip (nThen (fg [(1, _), (10, _), (12, _), (14, _), (40, _), (41, _), (42, _)] ⟨rfl, rfl, rfl, rfl, rfl, rfl, rfl, ⟨⟩⟩ fun _ => (wp_seq (sreg (sv (xfld fl291_1 rfl) (sv (xld on37 rfl (h14.r.c 1 rfl rfl)) (sv (xlen sl37 rfl) (sv (exF (xgtr rfl rfl) (by omega)) (send (fg [(1, _), (10, _), (12, _), (14, _), (40, _), (41, _), (42, _), (63, _)] ⟨rfl, rfl, rfl, rfl, rfl, rfl, rfl, rfl, ⟨⟩⟩ fun _ => ?_)))))))))))
   refine cno rfl (wp_skip (nThen (fg [(1, _), (10, _), (12, _), (14, _), (40, _), (41, _), (42, _)] ⟨rfl, rfl, rfl, rfl, rfl, rfl, rfl, ⟨⟩⟩ fun _ => (sreg (sv (xmove rfl) (sv (xfld fl291_0 rfl) (sv (xld on289 rfl (h14.r.c 0 rfl rfl)) ?_)))))))
   refine sc (xcall ca148 rfl) (c148 hR (by omega) (by first | omega | exact u16lt _) (by omega)) ?_
   rintro _ w16 ⟨p72, q72, g72, rfl, r72, m17, a72, l72⟩
   have z18 := m17.size
   have hC := hC.keep m17 (fun b hb => by have hb := hm b hb; show ¬ (b = gk); omega)
   have hf := hf.step m17 (fun k hk hS => by have hS : k = gk := hS; show k = g ∨ k = gm; omega)
   have hL7 := hL7.step m17 (fun k hk hS => by have hS : k = gk := hS; show k = g27; omega)
   have hd := hd.keep (fun k hk => by have hk := hU k hk; omega) m17 (fun k hk hS => by have hk := hU k hk; have hS : k = gk := hS; omega)
   have h14 := h14.keep m17 (by show ¬ (b14 = gk); omega)
   refine sv (xassign rfl) (send (fg [(1, _), (10, _), (12, _), (14, _), (40, _), (41, _), (42, _)] ⟨rfl, rfl, rfl, rfl, rfl, rfl, rfl, ⟨⟩⟩ fun _ => (sreg (sv (xmove rfl) (sv (xfld fl291_1 rfl) (sv (xld on37 rfl (h14.r.c 1 rfl rfl)) (sv (xlen sl37 rfl) (sv (xconv hs3 ki22 rfl (wu16n p.data.length (by omega))) ?_))))))))
   refine sc (xcall ca148 rfl) (c148 r72 (by omega) (by first | omega | exact u16lt _) (by omega)) ?_
   rintro _ w19 ⟨p78, q78, g78, rfl, r78, m20, a78, l78⟩
   have z21 := m20.size
   have hC := hC.keep m20 (fun b hb => by have hb := hm b hb; show ¬ (b = g72); omega)
   have hf := hf.step m20 (fun k hk hS => by have hS : k = g72 := hS; show k = g ∨ k = gm; omega)
   have hL7 := hL7.step m20 (fun k hk hS => by have hS : k = g72 := hS; show k = g27; omega)
   have hd := hd.keep (fun k hk => by have hk := hU k hk; omega) m20 (fun k hk hS => by have hk := hU k hk; have hS : k = g72 := hS; omega)
   have h14 := h14.keep m20 (by show ¬ (b14 = g72); omega)
   refine sv (xassign rfl) (send (fg [(1, _), (10, _), (12, _), (14, _), (40, _), (41, _), (42, _)] ⟨rfl, rfl, rfl, rfl, rfl, rfl, rfl, ⟨⟩⟩ fun _ => (lreg (sv (xmove rfl) (sv (xfld fl291_1 rfl) (sv (xld on37 rfl (h14.r.c 1 rfl rfl)) ?_))))))
   refine svK (xapp sl37 in5 rfl (by decide) rfl rfl r78 (hd.src sl37) (by simp only [maxLen]; omega) (by omega)) ?_
   rintro _ w22 ⟨g82, r82, m23, a82, l82⟩
   have z24 := m23.size
   have hC := hC.keep m23 (fun b hb => by have hb := hm b hb; show ¬ (b = g78); omega)
   have hf := hf.step m23 (fun k hk hS => by have hS : k = g78 := hS; show k = g ∨ k = gm; omega)
   have hL7 := hL7.step m23 (fun k hk hS => by have hS : k = g78 := hS; show k = g27; omega)
   have hd := hd.keep (fun k hk => by have hk := hU k hk; omega) m23 (fun k hk hS => by have hk := hU k hk; have hS : k = g78 := hS; omega)
   have h14 := h14.keep m23 (by show ¬ (b14 = g78); omega)
   obtain ⟨p82, q82, rfl, -⟩ := r82.form
   refine sv (xassign rfl) (lend (nBlock (nThen (fg [(1, _), (10, _), (12, _), (40, _), (41, _), (42, _)] ⟨rfl, rfl, rfl, rfl, rfl, rfl, ⟨⟩⟩ fun _ => (lreg (sv (xadd rfl rfl (w64 (by omega) (by omega))) (sv (xmove rfl) (lend (nThen ?_)))))))))
   refine ⟨(k + 1, _, g82), _, env_okl ⟨rfl, rfl, rfl, rfl, rfl, rfl, trivial⟩, ⟨hL7, (by omega), (by rw [pairs_snoc hpk]; exact br_cast r82 (by simp [pairL, bvs_app]) (by simp [pairL, be16_length]; omega)), (by omega), (l82 (by omega))⟩, ?_⟩
   show r.pairs.length - (k + 1) < r.pairs.length - k; omega
  ·
   refine sv (xmove rfl) (gno rfl rfl rfl (gno rfl rfl rfl (gno rfl rfl rfl (gno rfl rfl rfl (sv (xpickF rfl rfl) (send (fg [(1, _), (10, _), (12, _), (14, _), (40, _), (41, _), (42, _), (54, _)] ⟨rfl, rfl, rfl, rfl, rfl, rfl, rfl, rfl, ⟨⟩⟩ fun _ => (cno rfl (wp_skip (nThen (fg [(1, _), (10, _), (12, _), (14, _), (40, _), (41, _), (42, _)] ⟨rfl, rfl, rfl, rfl, rfl, rfl, rfl, ⟨⟩⟩ fun _ => ?_)))))))))))
   refine wp_seq (sreg (sv (xfld fl291_1 rfl) (sv (xld on37 rfl (h14.r.c 1 rfl rfl)) (sv (xlen sl37 rfl) (sv (exF (xgtr rfl rfl) (by omega)) (send (fg [(1, _), (10, _), (12, _), (14, _), (40, _), (41, _), (42, _), (63, _)] ⟨rfl, rfl, rfl, rfl, rfl, rfl, rfl, rfl, ⟨⟩⟩ fun _ => (cno rfl (wp_skip (nThen (fg [(1, _), (10, _), (12, _), (14, _), (40, _), (41, _), (42, _)] ⟨rfl, rfl, rfl, rfl, rfl, rfl, rfl, ⟨⟩⟩ fun _ => ?_)))))))))))
   refine sreg (sv (xmove rfl) (sv (xfld fl291_0 rfl) (sv (xld on289 rfl (h14.r.c 0 rfl rfl)) ?_)))
   refine sc (xcall ca148 rfl) (c148 hR (by omega) (by first | omega | exact u16lt _) (by omega)) ?_
   rintro _ w25 ⟨p72, q72, g72, rfl, r72, m26, a72, l72⟩
   have z27 := m26.size
   have hC := hC.keep m26 (fun b hb => by have hb := hm b hb; show ¬ (b = gk); omega)
   have hf := hf.step m26 (fun k hk hS => by have hS : k = gk := hS; show k = g ∨ k = gm; omega)
   have hL7 := hL7.step m26 (fun k hk hS => by have hS : k = gk := hS; show k = g27; omega)
   have hd := hd.keep (fun k hk => by have hk := hU k hk; omega) m26 (fun k hk hS => by have hk := hU k hk; have hS : k = gk := hS; omega)
   have h14 := h14.keep m26 (by show ¬ (b14 = gk); omega)
   refine sv (xassign rfl) (send (fg [(1, _), (10, _), (12, _), (14, _), (40, _), (41, _), (42, _)] ⟨rfl, rfl, rfl, rfl, rfl, rfl, rfl, ⟨⟩⟩ fun _ => (sreg (sv (xmove rfl) (sv (xfld fl291_1 rfl) (sv (xld on37 rfl (h14.r.c 1 rfl rfl)) (sv (xlen sl37 rfl) (sv (xconv hs3 ki22 rfl (wu16n p.data.length (by omega))) ?_))))))))
   refine sc (xcall ca148 rfl) (c148 r72 (by omega) (by first | omega | exact u16lt _) (by omega)) ?_
   rintro _ w28 ⟨p78, q78, g78, rfl, r78, m29, a78, l78⟩
   have z30 := m29.size
   have hC := hC.keep m29 (fun b hb => by have hb := hm b hb; show ¬ (b = g72); omega)
   have hf := hf.step m29 (fun k hk hS => by have hS : k = g72 := hS; show k = g ∨ k = gm; omega)
   have hL7 := hL7.step m29 (fun k hk hS => by have hS : k = g72 := hS; show k = g27; omega)
   have hd := hd.keep (fun k hk => by have hk := hU k hk; omega) m29 (fun k hk hS => by have hk := hU k hk; have hS : k = g72 := hS; omega)
   have h14 := h14.keep m29 (by show ¬ (b14 = g72); omega)
   refine sv (xassign rfl) (send (fg [(1, _), (10, _), (12, _), (14, _), (40, _), (41, _), (42, _)] ⟨rfl, rfl, rfl, rfl, rfl, rfl, rfl, ⟨⟩⟩ fun _ => (lreg (sv (xmove rfl) (sv (xfld fl291_1 rfl) (sv (xld on37 rfl (h14.r.c 1 rfl rfl)) ?_))))))
   refine svK (xapp sl37 in5 rfl (by decide) rfl rfl r78 (hd.src sl37) (by simp only [maxLen]; omega) (by omega)) ?_
   rintro _ w31 ⟨g82, r82, m32, a82, l82⟩
   have z33 := m32.size
   have hC := hC.keep m32 (fun b hb => by have hb := hm b hb; show ¬ (b = g78); omega)
   have hf := hf.step m32 (fun k hk hS => by have hS : k = g78 := hS; show k = g ∨ k = gm; omega)
   have hL7 := hL7.step m32 (fun k hk hS => by have hS : k = g78 := hS; show k = g27; omega)
   obtain ⟨p82, q82, rfl, -⟩ := r82.form
   refine sv (xassign rfl) (lend (nBlock (nThen (fg [(1, _), (10, _), (12, _), (40, _), (41, _), (42, _)] ⟨rfl, rfl, rfl, rfl, rfl, rfl, ⟨⟩⟩ fun _ => (lreg (sv (xadd rfl rfl (w64 (by omega) (by omega))) (sv (xmove rfl) (lend (nThen ?_)))))))))
   refine ⟨(k + 1, _, g82), _, env_okl ⟨rfl, rfl, rfl, rfl, rfl, rfl, trivial⟩, ⟨hL7, (by omega), (by rw [pairs_snoc hpk]; exact br_cast r82 (by simp [pairL, bvs_app]) (by simp [pairL, be16_length]; omega)), (by omega), (l82 (by omega))⟩, ?_⟩
   show r.pairs.length - (k + 1) < r.pairs.length - k; omega
 ·
  refine send (fg [(1, _), (10, _), (12, _), (40, _), (41, _), (42, _), (43, _)] ⟨rfl, rfl, rfl, rfl, rfl, rfl, rfl, ⟨⟩⟩ fun _ => (wp_seq (cno rfl (wp_exit (eThen (eThen (eHit (nThen (fg [(1, _)] ⟨rfl, ⟨⟩⟩ fun _ => (sreg (sv (xmove rfl) ?_)))))))))))
  refine sv (xassign rfl) (sv (xassign rfl) (send (fg [(8, _), (9, _)] ⟨rfl, rfl, ⟨⟩⟩ fun _ => (wp_ret ?_))))
  refine rp2 rfl rfl rfl ?_
  have e : r.pairs.take k = r.pairs := List.take_of_length_le (by omega)
  rw [e] at hR ⊢
  rw [pb_rest (by omega), bodyL_simp.2.2.2.2.2.1 hk]
  exact app_ofC hR (by simp [be16_length]; omega) (by simp) hf (by omega) (by omega) hC
end Go.Proofs.YtifnodoffgfpbaaGreatDoor

namespace Go.Proofs.YtifnodoffgfpbaaGreatDoor
open Go
set_option maxRecDepth 100000
theorem mt186 : mthB PP 186 "loop.example/pub-messagesmixed/pub/dnsmessage.realType" 163 = true := by kernel_rfl
theorem cb163 : callB PP 163 = true := by kernel_rfl
theorem mt190 : mthB PP 190 "loop.example/pub-messagesmixed/pub/dnsmessage.realType" 165 = true := by kernel_rfl
theorem cb165 : callB PP 165 = true := by kernel_rfl
theorem mt193 : mthB PP 193 "loop.example/pub-messagesmixed/pub/dnsmessage.realType" 167 = true := by kernel_rfl
theorem cb167 : callB PP 167 = true := by kernel_rfl
theorem mt196 : mthB PP 196 "loop.example/pub-messagesmixed/pub/dnsmessage.realType" 169 = true := by kernel_rfl
theorem cb169 : callB PP 169 = true := by kernel_rfl
theorem mt199 : mthB PP 199 "loop.example/pub-messagesmixed/pub/dnsmessage.realType" 171 = true := by kernel_rfl
theorem cb171 : callB PP 171 = true := by kernel_rfl
theorem mt202 : mthB PP 202 "loop.example/pub-messagesmixed/pub/dnsmessage.realType" 173 = true := by kernel_rfl
theorem cb173 : callB PP 173 = true := by kernel_rfl
theorem mt205 : mthB PP 205 "loop.example/pub-messagesmixed/pub/dnsmessage.realType" 175 = true := by kernel_rfl
theorem cb175 : callB PP 175 = true := by kernel_rfl
theorem mt208 : mthB PP 208 "loop.example/pub-messagesmixed/pub/dnsmessage.realType" 177 = true := by kernel_rfl
theorem cb177 : callB PP 177 = true := by kernel_rfl
theorem mt212 : mthB PP 212 "loop.example/pub-messagesmixed/pub/dnsmessage.realType" 179 = true := by kernel_rfl
theorem cb179 : callB PP 179 = true := by kernel_rfl
theorem mt215 : mthB PP 215 "loop.example/pub-messagesmixed/pub/dnsmessage.realType" 181 = true := by kernel_rfl
theorem cb181 : callB PP 181 = true := by kernel_rfl
theorem mt221 : mthB PP 221 "loop.example/pub-messagesmixed/pub/dnsmessage.realType" 184 = true := by kernel_rfl
theorem cb184 : callB PP 184 = true := by kernel_rfl
theorem mt226 : mthB PP 226 "loop.example/pub-messagesmixed/pub/dnsmessage.realType" 187 = true := by kernel_rfl
theorem cb187 : callB PP 187 = true := by kernel_rfl
theorem mt229 : mthB PP 229 "loop.example/pub-messagesmixed/pub/dnsmessage.realType" 188 = true := by kernel_rfl
theorem cb188 : callB PP 188 = true := by kernel_rfl
theorem mp_186 : mthB PP 186 "loop.example/pub-messagesmixed/pub/dnsmessage.pack" 164 = true := by kernel_rfl
theorem cb164 : callB PP 164 = true := by kernel_rfl
theorem mp_190 : mthB PP 190 "loop.example/pub-messagesmixed/pub/dnsmessage.pack" 166 = true := by kernel_rfl
theorem cb166 : callB PP 166 = true := by kernel_rfl
theorem mp_193 : mthB PP 193 "loop.example/pub-messagesmixed/pub/dnsmessage.pack" 168 = true := by kernel_rfl
theorem cb168 : callB PP 168 = true := by kernel_rfl
theorem mp_196 : mthB PP 196 "loop.example/pub-messagesmixed/pub/dnsmessage.pack" 170 = true := by kernel_rfl
theorem cb170 : callB PP 170 = true := by kernel_rfl
theorem mp_199 : mthB PP 199 "loop.example/pub-messagesmixed/pub/dnsmessage.pack" 172 = true := by kernel_rfl
theorem cb172 : callB PP 172 = true := by kernel_rfl
theorem mp_202 : mthB PP 202 "loop.example/pub-messagesmixed/pub/dnsmessage.pack" 174 = true := by kernel_rfl
theorem cb174 : callB PP 174 = true := by kernel_rfl
theorem mp_205 : mthB PP 205 "loop.example/pub-messagesmixed/pub/dnsmessage.pack" 176 = true := by kernel_rfl
theorem cb176 : callB PP 176 = true := by kernel_rfl
theorem mp_208 : mthB PP 208 "loop.example/pub-messagesmixed/pub/dnsmessage.pack" 178 = true := by kernel_rfl
theorem cb178 : callB PP 178 = true := by kernel_rfl
theorem mp_212 : mthB PP 212 "loop.example/pub-messagesmixed/pub/dnsmessage.pack" 180 = true := by kernel_rfl
theorem cb180 : callB PP 180 = true := by kernel_rfl
theorem mp_215 : mthB PP 215 "loop.example/pub-messagesmixed/pub/dnsmessage.pack" 182 = true := by kernel_rfl
theorem cb182 : callB PP 182 = true := by kernel_rfl
theorem mp_221 : mthB PP 221 "loop.example/pub-messagesmixed/pub/dnsmessage.pack" 210 = true := by kernel_rfl
theorem mp_229 : mthB PP 229 "loop.example/pub-messagesmixed/pub/dnsmessage.pack" 189 = true := by kernel_rfl
theorem cb189 : callB PP 189 = true := by kernel_rfl
theorem cb210 : callB PP 210 = true := by kernel_rfl
set_option maxHeartbeats 4000000 in
set_option maxRecDepth 100000 in
theorem c163 {w : World} {v : Value} :
  Ret PP 163 [v] w (fun u w' => u = .int .u16 1 ∧ Fr0 w w') := by
 have hf : Fr (fun _ => False) w w := Fr.refl _ _
 refine ret_of Tryz.func163 rfl rfl rfl [(0, _)] rfl ?_
 refine sreg (sv (xassign rfl) (send (fg [] trivial fun _ => (sreg (sv (xassign rfl) (send (fg [(2, _)] ⟨rfl, ⟨⟩⟩ fun _ => (wp_ret ?_))))))))
 refine rp1 rfl rfl ?_
 exact ⟨rfl, hf⟩
set_option maxHeartbeats 4000000 in
set_option maxRecDepth 100000 in
theorem c165 {w : World} {v : Value} :
  Ret PP 165 [v] w (fun u w' => u = .int .u16 2 ∧ Fr0 w w') := by
 have hf : Fr (fun _ => False) w w := Fr.refl _ _
 refine ret_of Tryz.func165 rfl rfl rfl [(0, _)] rfl ?_
 refine sreg (sv (xassign rfl) (send (fg [] trivial fun _ => (sreg (sv (xassign rfl) (send (fg [(2, _)] ⟨rfl, ⟨⟩⟩ fun _ => (wp_ret ?_))))))))
 refine rp1 rfl rfl ?_
 exact ⟨rfl, hf⟩
set_option maxHeartbeats 4000000 in
set_option maxRecDepth 100000 in
theorem c167 {w : World} {v : Value} :
  Ret PP 167 [v] w (fun u w' => u = .int .u16 5 ∧ Fr0 w w') := by
 have hf : Fr (fun _ => False) w w := Fr.refl _ _
 refine ret_of Tryz.func167 rfl rfl rfl [(0, _)] rfl ?_
 refine sreg (sv (xassign rfl) (send (fg [] trivial fun _ => (sreg (sv (xassign rfl) (send (fg [(2, _)] ⟨rfl, ⟨⟩⟩ fun _ => (wp_ret ?_))))))))
 refine rp1 rfl rfl ?_
 exact ⟨rfl, hf⟩
set_option maxHeartbeats 4000000 in
set_option maxRecDepth 100000 in
theorem c169 {w : World} {v : Value} :
  Ret PP 169 [v] w (fun u w' => u = .int .u16 6 ∧ Fr0 w w') := by
 have hf : Fr (fun _ => False) w w := Fr.refl _ _
 refine ret_of Tryz.func169 rfl rfl rfl [(0, _)] rfl ?_
 refine sreg (sv (xassign rfl) (send (fg [] trivial fun _ => (sreg (sv (xassign rfl) (send (fg [(2, _)] ⟨rfl, ⟨⟩⟩ fun _ => (wp_ret ?_))))))))
 refine rp1 rfl rfl ?_
 exact ⟨rfl, hf⟩
set_option maxHeartbeats 4000000 in
set_option maxRecDepth 100000 in
theorem c171 {w : World} {v : Value} :
  Ret PP 171 [v] w (fun u w' => u = .int .u16 12 ∧ Fr0 w w') := by
 have hf : Fr (fun _ => False) w w := Fr.refl _ _
 refine ret_of Tryz.func171 rfl rfl rfl [(0, _)] rfl ?_
 refine sreg (sv (xassign rfl) (send (fg [] trivial fun _ => (sreg (sv (xassign rfl) (send (fg [(2, _)] ⟨rfl, ⟨⟩⟩ fun _ => (wp_ret ?_))))))))
 refine rp1 rfl rfl ?_
 exact ⟨rfl, hf⟩
set_option maxHeartbeats 4000000 in
set_option maxRecDepth 100000 in
theorem c173 {w : World} {v : Value} :
  Ret PP 173 [v] w (fun u w' => u = .int .u16 15 ∧ Fr0 w w') := by
 have hf : Fr (fun _ => False) w w := Fr.refl _ _
 refine ret_of Tryz.func173 rfl rfl rfl [(0, _)] rfl ?_
 refine sreg (sv (xassign rfl) (send (fg [] trivial fun _ => (sreg (sv (xassign rfl) (send (fg [(2, _)] ⟨rfl, ⟨⟩⟩ fun _ => (wp_ret ?_))))))))
 refine rp1 rfl rfl ?_
 exact ⟨rfl, hf⟩
set_option maxHeartbeats 4000000 in
set_option maxRecDepth 100000 in
theorem c175 {w : World} {v : Value} :
  Ret PP 175 [v] w (fun u w' => u = .int .u16 16 ∧ Fr0 w w') := by
 have hf : Fr (fun _ => False) w w := Fr.refl _ _
 refine ret_of Tryz.func175 rfl rfl rfl [(0, _)] rfl ?_
 refine sreg (sv (xassign rfl) (send (fg [] trivial fun _ => (sreg (sv (xassign rfl) (send (fg [(2, _)] ⟨rfl, ⟨⟩⟩ fun _ => (wp_ret ?_))))))))
 refine rp1 rfl rfl ?_
 exact ⟨rfl, hf⟩
set_option maxHeartbeats 4000000 in
set_option maxRecDepth 100000 in
theorem c177 {w : World} {v : Value} :
  Ret PP 177 [v] w (fun u w' => u = .int .u16 28 ∧ Fr0 w w') := by
 have hf : Fr (fun _ => False) w w := Fr.refl _ _
 refine ret_of Tryz.func177 rfl rfl rfl [(0, _)] rfl ?_
 refine sreg (sv (xassign rfl) (send (fg [] trivial fun _ => (sreg (sv (xassign rfl) (send (fg [(2, _)] ⟨rfl, ⟨⟩⟩ fun _ => (wp_ret ?_))))))))
 refine rp1 rfl rfl ?_
 exact ⟨rfl, hf⟩
set_option maxHeartbeats 4000000 in
set_option maxRecDepth 100000 in
theorem c179 {w : World} {v : Value} :
  Ret PP 179 [v] w (fun u w' => u = .int .u16 33 ∧ Fr0 w w') := by
 have hf : Fr (fun _ => False) w w := Fr.refl _ _
 refine ret_of Tryz.func179 rfl rfl rfl [(0, _)] rfl ?_
 refine sreg (sv (xassign rfl) (send (fg [] trivial fun _ => (sreg (sv (xassign rfl) (send (fg [(2, _)] ⟨rfl, ⟨⟩⟩ fun _ => (wp_ret ?_))))))))
 refine rp1 rfl rfl ?_
 exact ⟨rfl, hf⟩
set_option maxHeartbeats 4000000 in
set_option maxRecDepth 100000 in
theorem c181 {w : World} {v : Value} :
  Ret PP 181 [v] w (fun u w' => u = .int .u16 41 ∧ Fr0 w w') := by
 have hf : Fr (fun _ => False) w w := Fr.refl _ _
 refine ret_of Tryz.func181 rfl rfl rfl [(0, _)] rfl ?_
 refine sreg (sv (xassign rfl) (send (fg [] trivial fun _ => (sreg (sv (xassign rfl) (send (fg [(2, _)] ⟨rfl, ⟨⟩⟩ fun _ => (wp_ret ?_))))))))
 refine rp1 rfl rfl ?_
 exact ⟨rfl, hf⟩
set_option maxHeartbeats 4000000 in
set_option maxRecDepth 100000 in
theorem c184 {w : World} {v : Value} :
  Ret PP 184 [v] w (fun u w' => u = .int .u16 64 ∧ Fr0 w w') := by
 have hf : Fr (fun _ => False) w w := Fr.refl _ _
 refine ret_of Tryz.func184 rfl rfl rfl [(0, _)] rfl ?_
 refine sreg (sv (xassign rfl) (send (fg [] trivial fun _ => (sreg (sv (xassign rfl) (send (fg [(2, _)] ⟨rfl, ⟨⟩⟩ fun _ => (wp_ret ?_))))))))
 refine rp1 rfl rfl ?_
 exact ⟨rfl, hf⟩
set_option maxHeartbeats 4000000 in
set_option maxRecDepth 100000 in
theorem c187 {w : World} {v : Value} :
  Ret PP 187 [v] w (fun u w' => u = .int .u16 65 ∧ Fr0 w w') := by
 have hf : Fr (fun _ => False) w w := Fr.refl _ _
 refine ret_of Tryz.func187 rfl rfl rfl [(0, _)] rfl ?_
 refine sreg (sv (xassign rfl) (send (fg [] trivial fun _ => (sreg (sv (xassign rfl) (send (fg [(2, _)] ⟨rfl, ⟨⟩⟩ fun _ => (wp_ret ?_))))))))
 refine rp1 rfl rfl ?_
 exact ⟨rfl, hf⟩
set_option maxHeartbeats 4000000 in
set_option maxRecDepth 100000 in
theorem c188 {w : World} {bo o : Nat} {x : UInt16} {vd : Value} (hN : SR w bo o [1, 1] [[.int .u16 (x.toNat : Int)], [vd]]) :
  Ret PP 188 [.pointer (some ⟨bo, o, none⟩)] w (fun u w' => u = .int .u16 (x.toNat : Int) ∧ Fr0 w w') := by
 have hf : Fr (fun _ => False) w w := Fr.refl _ _
 refine ret_of Tryz.func188 rfl rfl rfl [(0, _)] rfl ?_
 refine sreg (sv (xassign rfl) (send (fg [(0, _)] ⟨rfl, ⟨⟩⟩ fun _ => (sreg (sv (xmove rfl) (sv (xnilc rfl) (sv (xfld fl231_0 rfl) (sv (xld on83 rfl (hN.c 0 rfl rfl)) (sv (xassign rfl) (send (fg [(2, _)] ⟨rfl, ⟨⟩⟩ fun _ => ?_)))))))))))
 refine wp_ret ?_
 refine rp1 rfl rfl ?_
 exact ⟨rfl, hf⟩

theorem typeN_of {r : RecD} : (r.kind = 1 → typeN r = 1) ∧ (r.kind = 2 → typeN r = 2) ∧ (r.kind = 3 → typeN r = 5) ∧ (r.kind = 4 → typeN r = 6) ∧ (r.kind = 5 → typeN r = 12) ∧ (r.kind = 6 → typeN r = 15) ∧ (r.kind = 7 → typeN r = 16) ∧ (r.kind = 8 → typeN r = 28) ∧ (r.kind = 9 → typeN r = 33) ∧ (r.kind = 10 → typeN r = 41) ∧ (r.kind = 11 → typeN r = 64) ∧ (r.kind = 12 → typeN r = 65) := by
  refine ⟨fun h => ?_, fun h => ?_, fun h => ?_, fun h => ?_, fun h => ?_, fun h => ?_, fun h => ?_, fun h => ?_, fun h => ?_, fun h => ?_, fun h => ?_, fun h => ?_⟩ <;> simp [typeN, h]
/-- the type of a body, asked through the interface -/
theorem inv_type {U : Nat → Prop} {w : World} {v : Value} {r : RecD} (hB : BodyEl U w v r) : ∃ f a, (∀ (n : Nat) (l : List (Nat × Value)) (ty : TypeId) (x : Operand) (ts : Array TypeId), ev n l x = some v → ExC PP n l (.call { callee := .invoke x "loop.example/pub-messagesmixed/pub/dnsmessage.realType", args := #[], argTypes := ts }) ty w f [a]) ∧
    Ret PP f [a] w (fun u w' => u = .int .u16 ((typeN r).toNat : Int) ∧ Fr0 w w') := by
  obtain ⟨b, T, lens, segs, rfl, hb, hr, h⟩ := hB
  cases h with
  | a h => exact ⟨163, _, fun n l ty x ts hx => xinv (xs := []) mt186 cb163 hx rfl, by rw [typeN_of.1 h]; exact c163⟩
  | ns h => exact ⟨165, _, fun n l ty x ts hx => xinv (xs := []) mt190 cb165 hx rfl, by rw [typeN_of.2.1 h]; exact c165⟩
  | cname h => exact ⟨167, _, fun n l ty x ts hx => xinv (xs := []) mt193 cb167 hx rfl, by rw [typeN_of.2.2.1 h]; exact c167⟩
  | soa h => exact ⟨169, _, fun n l ty x ts hx => xinv (xs := []) mt196 cb169 hx rfl, by rw [typeN_of.2.2.2.1 h]; exact c169⟩
  | ptr h => exact ⟨171, _, fun n l ty x ts hx => xinv (xs := []) mt199 cb171 hx rfl, by rw [typeN_of.2.2.2.2.1 h]; exact c171⟩
  | mx h => exact ⟨173, _, fun n l ty x ts hx => xinv (xs := []) mt202 cb173 hx rfl, by rw [typeN_of.2.2.2.2.2.1 h]; exact c173⟩
  | txt h ht => exact ⟨175, _, fun n l ty x ts hx => xinv (xs := []) mt205 cb175 hx rfl, by rw [typeN_of.2.2.2.2.2.2.1 h]; exact c175⟩
  | aaaa h => exact ⟨177, _, fun n l ty x ts hx => xinv (xs := []) mt208 cb177 hx rfl, by rw [typeN_of.2.2.2.2.2.2.2.1 h]; exact c177⟩
  | srv h => exact ⟨179, _, fun n l ty x ts hx => xinv (xs := []) mt212 cb179 hx rfl, by rw [typeN_of.2.2.2.2.2.2.2.2.1 h]; exact c179⟩
  | opt h hp => exact ⟨181, _, fun n l ty x ts hx => xinv (xs := []) mt215 cb181 hx rfl, by rw [typeN_of.2.2.2.2.2.2.2.2.2.1 h]; exact c181⟩
  | svcb h hp => exact ⟨184, _, fun n l ty x ts hx => xinv (xs := []) mt221 cb184 hx rfl, by rw [typeN_of.2.2.2.2.2.2.2.2.2.2.1 h]; exact c184⟩
  | https h hp => exact ⟨187, _, fun n l ty x ts hx => xinv (xs := []) mt226 cb187 hx rfl, by rw [typeN_of.2.2.2.2.2.2.2.2.2.2.2 h]; exact c187⟩
  | other h hd => exact ⟨188, _, fun n l ty x ts hx => xinv (xs := []) mt229 cb188 hx rfl, c188 hr⟩

/-- method name of values of type T is function f, which takes the place of the first field of what the value points to -/
def mthE (P : Program) (T : TypeId) (name : String) (f : FuncId) : Bool :=
  match P.info? T with
    | some i => match i.methods.find? (·.name == name) with
      | some m => (match m.path.toList with
        | [s] => s.deref && (match P.underlying s.struct with
          | some (.struct fs) => (match fs[s.index]? with
            | some fd => fd.offset == 0 && (match P.info? fd.type with
              | some j => j.size != 0
              | none => false) && (match P.underlying fd.type with
              | some (.struct _) => true
              | _ => false)
            | none => false)
          | _ => false)
        | _ => false) && (match m.func with
        | some (g, b) => g == f && b
        | none => false)
      | none => false
    | none => false
theorem xinvE {P : Program} {n : Nat} {l : List (Nat × Value)} {w : World} {ty : TypeId} {T : TypeId} {bb : Nat} {x : Operand} {name : String} {f : FuncId} {xs : List Operand} {ts : Array TypeId} {vs : List Value} (hm : mthE P T name f = true) (hf : callB P f = true)
    (hx : ev n l x = some (.iface T (.pointer (some ⟨bb, 0, none⟩)))) (hxs : evs n l xs = some vs) :
    ExC P n l (.call { callee := .invoke x name, args := xs.toArray, argTypes := ts }) ty w f (.pointer (some ⟨bb, 0, none⟩) :: vs) := fun r _ _ _ _ => by
  unfold callB at hf
  split at hf
  · rename_i fn hfn
    simp only [Bool.and_eq_true, Bool.not_eq_true'] at hf
    have hn : ¬ fn.name = "runtime.NumGoroutine" := by simpa using hf.1
    have hb : ¬ fn.body = none := fun h => by rw [h] at hf; cases hf.2
    unfold mthE at hm
    split at hm
    · rename_i i hi
      split at hm
      · rename_i m hmm
        simp only [Bool.and_eq_true] at hm
        obtain ⟨hp, hg⟩ := hm
        split at hp
        · rename_i s hpath
          simp only [Bool.and_eq_true] at hp
          obtain ⟨hd, hp⟩ := hp
          split at hp
          · rename_i fs hfs
            split at hp
            · rename_i fd hfd
              simp only [Bool.and_eq_true, beq_iff_eq] at hp
              obtain ⟨⟨ho, hj⟩, hu⟩ := hp
              split at hj
              · rename_i j hj'
                simp only [bne_iff_ne, ne_eq] at hj
                split at hu
                · rename_i fs2 hfs2
                  split at hg
                  · rename_i g b hgb
                    simp only [Bool.and_eq_true, beq_iff_eq] at hg
                    obtain ⟨rfl, rfl⟩ := hg
                    simp only [execOp]
                    have hadd : (⟨bb, 0, none⟩ : Addr).add 0 = ⟨bb, 0, none⟩ := addr_add bb 0 0
                    have hmeth : (method (P.types.size + Made.depth) T (.pointer (some ⟨bb, 0, none⟩)) name).run P w = .ok (g, .pointer (some ⟨bb, 0, none⟩)) w := by
                      have hdp : 0 < Made.depth := by decide
                      obtain ⟨d, hd'⟩ : ∃ d, P.types.size + Made.depth = d + 1 := ⟨P.types.size + Made.depth - 1, by omega⟩
                      rw [hd']
                      simp [method, typeInfo, hi, hmm, hpath, follow, hgb, receiverAt, run_underlying hfs, run_underlying hfs2, Place.get, hfd, hd, asAddr, fieldPlace, ho, sizeOf, hj', hj, hadd]
                    simp [resolve, invoke, callMethod, ev_eval r hx, evs_eval r hxs, hmeth, callFunc, hfn]
                    rw [if_neg hn, if_neg hb]
                  · cases hg
                · cases hu
              · cases hj
            · cases hp
          · cases hp
        · cases hp
      · cases hm
    · cases hm
  · cases hf
theorem mp_226 : mthE PP 226 "loop.example/pub-messagesmixed/pub/dnsmessage.pack" 210 = true := by kernel_rfl
/-- what a body must be so that it can be packed -/
def FitP (r : RecD) : Prop := r.data.length ≤ 900000 ∧ (r.kind = 7 → ∀ s ∈ r.texts, s.size ≤ 255) ∧ r.texts.length ≤ 1048576 ∧ (textsL r.texts).length ≤ 900000 ∧ (∀ p ∈ r.pairs, p.data.length ≤ 65535) ∧ r.pairs.length ≤ 1048576 ∧ (pairsL r.pairs).length ≤ 900000 ∧ (r.kind = 11 ∨ r.kind = 12 → asc r.pairs)
theorem inv_pack {w : World} {v vb : Value} {g gm n start pos : Nat} {bs : List UInt8} {cm : Option Nat} {C : Option Ent} (hR : BR w v g n bs) (hg : g < w.heap.size) {r : RecD} (hnm : NamesOk r) (hfp : FitP r) {U : Nat → Prop} (hU : ∀ k, U k → k < w.heap.size ∧ k ≠ g ∧ k ≠ gm) (hB : BodyEl U w vb r) (hn0 : 0 < n)
    (hC : Cmp w cm C) (hm : ∀ b, cm = some b → b = gm ∧ gm ≠ g ∧ gm < w.heap.size) (hp : n = start + pos) (hl : n < 999000000) :
    ∃ f a, (∀ (m : Nat) (l : List (Nat × Value)) (ty : TypeId) (x : Operand) (xs : List Operand) (ts : Array TypeId), ev m l x = some vb → evs m l xs = some [v, .map cm, .int .i64 (start : Int)] → ExC PP m l (.call { callee := .invoke x "loop.example/pub-messagesmixed/pub/dnsmessage.pack", args := xs.toArray, argTypes := ts }) ty w f (a :: [v, .map cm, .int .i64 (start : Int)])) ∧
    Ret PP f (a :: [v, .map cm, .int .i64 (start : Int)]) w (AppC w g gm cm n bs (packBody C pos r).1 (packBody C pos r).2) := by
  obtain ⟨b, T, lens, segs, rfl, hb, hr, h⟩ := hB
  obtain ⟨hb1, hb2, hb3⟩ := hU b hb
  obtain ⟨f1, f2, f3, f4, f5, f6, f7, f8⟩ := hfp
  cases h with
  | a h => exact ⟨164, _, fun m l ty x xs ts hx hxs => xinv mp_186 cb164 hx hxs, c164 hR hg hb1 hb2 hb3 h hr hn0 hC hm hp hl⟩
  | ns h => exact ⟨166, _, fun m l ty x xs ts hx hxs => xinv mp_190 cb166 hx hxs, c166 hR hg hb1 hb2 hb3 h hr hn0 (hnm.2.1 (by omega)) hC hm hp hl⟩
  | cname h => exact ⟨168, _, fun m l ty x xs ts hx hxs => xinv mp_193 cb168 hx hxs, c168 hR hg hb1 hb2 hb3 h hr hn0 (hnm.2.1 (by omega)) hC hm hp hl⟩
  | soa h => exact ⟨170, _, fun m l ty x xs ts hx hxs => xinv mp_196 cb170 hx hxs, c170 hR hg hb1 hb2 hb3 h hr hn0 (hnm.2.1 (by omega)) (hnm.2.2 h) hC hm hp hl⟩
  | ptr h => exact ⟨172, _, fun m l ty x xs ts hx hxs => xinv mp_199 cb172 hx hxs, c172 hR hg hb1 hb2 hb3 h hr hn0 (hnm.2.1 (by omega)) hC hm hp hl⟩
  | mx h => exact ⟨174, _, fun m l ty x xs ts hx hxs => xinv mp_202 cb174 hx hxs, c174 hR hg hb1 hb2 hb3 h hr hn0 (hnm.2.1 (by omega)) hC hm hp hl⟩
  | txt h ht => exact ⟨176, _, fun m l ty x xs ts hx hxs => xinv mp_205 cb176 hx hxs, c176 hR hg hb1 hb2 hb3 h hr hn0 hU ht (f2 h) f3 f4 hC hm hp hl⟩
  | aaaa h => exact ⟨178, _, fun m l ty x xs ts hx hxs => xinv mp_208 cb178 hx hxs, c178 hR hg hb1 hb2 hb3 h hr hn0 hC hm hp hl⟩
  | srv h => exact ⟨180, _, fun m l ty x xs ts hx hxs => xinv mp_212 cb180 hx hxs, c180 hR hg hb1 hb2 hb3 h hr hn0 (hnm.2.1 (by omega)) hC hm hp hl⟩
  | opt h hp' => exact ⟨182, _, fun m l ty x xs ts hx hxs => xinv mp_215 cb182 hx hxs, c182 hR hg hb1 hb2 hb3 h hr hn0 hU hp' f5 f6 f7 hC hm hp hl⟩
  | svcb h hp' => exact ⟨210, _, fun m l ty x xs ts hx hxs => xinv mp_221 cb210 hx hxs, c210 hR hg hb1 hb2 hb3 (.inl h) hr hn0 (hnm.2.1 (by omega)) hU hp' (f8 (.inl h)) f5 f6 f7 hC hm hp hl⟩
  | https h hp' => exact ⟨210, _, fun m l ty x xs ts hx hxs => xinvE mp_226 cb210 hx hxs, c210 hR hg hb1 hb2 hb3 (.inr h) hr hn0 (hnm.2.1 (by omega)) hU hp' (f8 (.inr h)) f5 f6 f7 hC hm hp hl⟩
  | other h hd => exact ⟨189, _, fun m l ty x xs ts hx hxs => xinv mp_229 cb189 hx hxs, c189 hR hg hb1 hb2 hb3 h hr hn0 hU hd f1 hC hm hp hl⟩

end Go.Proofs.YtifnodoffgfpbaaGreatDoor

namespace Go.Proofs.YtifnodoffgfpbaaGreatDoor
open Go

/-- what the packing of a resource gives back: the message, and the element's header with type and length -/
def ResC (w : World) (g gm bR : Nat) (cm : Option Nat) (n : Nat) (bs out : List UInt8) (C' : Option Ent) (pre post : List Value) (r : RecD) (vb : Value) (u : Value) (w' : World) : Prop :=
  ∃ a c g' len', u = .tuple #[.slice a (n + out.length) c, .nilIface] ∧ BR w' (.slice a (n + out.length) c) g' (n + out.length) (bs ++ out) ∧ Fr (fun k => k = g ∨ k = gm ∨ k = bR) w w' ∧ (g' = g ∨ w.heap.size ≤ g') ∧ g' < w'.heap.size ∧ Cmp w' cm C' ∧
    len' < 65536 ∧ SE w' bR 139 pre lRes (rhSegs (bt r.name) (typeN r) r.cls r.ttl len' ++ [[vb]]) post
theorem ag_flat (segs : List (List Value)) : ([ag segs].map (·.cells.toList)).flatten = segs.flatten := by simp [Value.cells]
theorem packBody_len {C : Option Ent} {pos : Nat} {r : RecD} (h : NamesOk r) (hl : (bodyL r).length < 65536) : (packBody C pos r).1.length < 65536 := by
  cases C with
  | none => rw [packBody_non h]; exact hl
  | some M => have := (packBody_short h M pos).1; omega

set_option maxHeartbeats 4000000 in
set_option maxRecDepth 100000 in
theorem c93 {w : World} {v : Value} {g gm n start pos : Nat} {bs : List UInt8} {cm : Option Nat} {C : Option Ent} (hR : BR w v g n bs) (hg : g < w.heap.size) {bR o len : Nat} {pre post : List Value} {typ : UInt16} {vb : Value} {r : RecD} {U : Nat → Prop} (hbg : bR ≠ g) (hbm : bR ≠ gm) (hE : SE w bR 139 pre lRes (rhSegs (bt r.name) typ r.cls r.ttl len ++ [[vb]]) post) (hpo : pre.length = o) (hlen : len < 65536) (hU : ∀ k, U k → k < w.heap.size ∧ k ≠ g ∧ k ≠ gm ∧ k ≠ bR) (hB : BodyEl U w vb r) (hnm : NamesOk r) (hfp : FitP r) (hlb : (bodyL r).length < 65536) (hn0 : 0 < n) (hC : Cmp w cm C) (hm : ∀ b, cm = some b → b = gm ∧ gm ≠ g ∧ gm < w.heap.size) (hp : n = start + pos) (hl : n < 990000000)  :
  Ret PP 93 [.pointer (some ⟨bR, o, none⟩), v, .map cm, .int .i64 (start : Int)] w (ResC w g gm bR cm n bs (packRec C pos r).1 (packRec C pos r).2 pre post r vb) := by
 have hz0 := hE.lt
 have hbn := hR.len
 obtain ⟨a0, c0, rfl, -⟩ := hR.form
 obtain ⟨bB, TB, lensB, segsB, rfl, -⟩ := id hB
 have hf : Fr (fun k => k = g ∨ k = gm ∨ k = bR) w w := Fr.refl _ _
 refine ret_of Tryz.func93 rfl rfl rfl [(0, _), (1, _), (2, _), (3, _)] rfl ?_
 refine sreg (sv (xassign rfl) (sv (xassign rfl) (send (fg [(0, _), (1, _), (2, _), (3, _)] ⟨rfl, rfl, rfl, rfl, ⟨⟩⟩ fun _ => (wp_seq (sreg (sv (xmove rfl) (sv (xnilc rfl) (sv (xfld fl139_1 rfl) (sv (xld on137 rfl ((hE.r hpo).c 5 rfl rfl)) (sv (xeqI if137 rfl) ?_)))))))))))
 refine send (fg [(0, _), (1, _), (2, _), (3, _), (19, _)] ⟨rfl, rfl, rfl, rfl, rfl, ⟨⟩⟩ fun _ => (cno rfl (wp_skip (nThen (fg [(0, _), (1, _), (2, _), (3, _)] ⟨rfl, rfl, rfl, rfl, ⟨⟩⟩ fun _ => (sreg (sv (xmove rfl) (sv (xassign rfl) (send (fg [(0, _), (1, _), (2, _), (3, _), (10, _)] ⟨rfl, rfl, rfl, rfl, rfl, ⟨⟩⟩ fun _ => (sreg ?_)))))))))))
 refine sv (xmove rfl) (sv (xmove rfl) (sv (xnilc rfl) (sv (xfld fl139_1 rfl) (sv (xld on137 rfl ((hE.r hpo).c 5 rfl rfl)) ?_))))
 obtain ⟨fT, aT, hxT, hrT⟩ := inv_type hB
 refine sc (hxT _ _ _ _ _ rfl) (hrT) ?_
 rintro _ w1 ⟨rfl, m2⟩
 have z3 := m2.size
 have hR := hR.keep m2 id
 have hC := hC.keep m2 nF
 have hE := hE.keep m2 id
 have hB := hB.keep (fun k hk => by have hk := hU k hk; omega) m2 nF
 have hf := hf.step0 m2
 refine sv (xnilc rfl) (sv (xfld fl139_0 rfl) (sv (xfld fl135_1 rfl) ?_))
 refine suK (xstE 1 sz83 hE hpo rfl rfl rfl rfl rfl) ?_
 rintro w5 ⟨m6, hE, s4⟩
 have hR := hR.keep m6 (by show ¬ (g = bR); omega)
 have hC := hC.keep m6 (fun b hb => by have hb := hm b hb; show ¬ (b = bR); omega)
 have hB := hB.keep (fun k hk => by have hk := hU k hk; omega) m6 (fun k hk hS => by have hk := hU k hk; have hS : k = bR := hS; omega)
 have hf := hf.step m6 (fun k hk hS => by have hS : k = bR := hS; show k = g ∨ k = gm ∨ k = bR; omega)
 refine send (fg [(0, _), (1, _), (2, _), (3, _), (10, _)] ⟨rfl, rfl, rfl, rfl, rfl, ⟨⟩⟩ fun _ => (sreg (sv (xmove rfl) (sv (xnilc rfl) (sv (xfld fl139_0 rfl) (sv (xmove rfl) (sv (xmove rfl) (sv (xmove rfl) ?_))))))))
 refine sc (xcall ca152 rfl) (c152 (gm := gm) (pos := pos) hR (by omega) (by omega) (by omega) (by omega) (SR.sub (hE.r hpo) 0 5 rfl) hnm.1 (by omega) hC (fun b hb => by have hb := hm b hb; omega) (by omega) (by omega)) ?_
 rintro _ w7 ⟨p39, q39, g39, rfl, r39, m8, a39, l39, hC⟩
 have z9 := m8.size
 have hE := hE.keep m8 (by show ¬ (bR = g ∨ bR = gm); omega)
 have hB := hB.keep (fun k hk => by have hk := hU k hk; omega) m8 (fun k hk hS => by have hk := hU k hk; have hS : k = g ∨ k = gm := hS; omega)
 have hf := hf.step m8 (fun k hk hS => by have hS : k = g ∨ k = gm := hS; show k = g ∨ k = gm ∨ k = bR; omega)
 have hpn := packName_bound (C := C) (pos := pos) hnm.1
 have e39 : ((packName C pos (bt r.name)).1 ++ hdTail (typeN r) r.cls r.ttl len).length = (packName C pos (bt r.name)).1.length + 10 := by simp [hdTail_length]
 refine sv (xmove rfl) (sv (xextr rfl rfl) (sv (xextr rfl rfl) (sv (xextr rfl rfl) (sv (xassign rfl) (sv (xassign rfl) (sv (xassign rfl) (send (fg [(0, _), (1, _), (2, _), (3, _), (10, _), (11, _), (12, _)] ⟨rfl, rfl, rfl, rfl, rfl, rfl, rfl, ⟨⟩⟩ fun _ => (wp_seq (sreg (sv (xmove rfl) ?_)))))))))))
 refine sv (xneN if89 rfl) (send (fg [(0, _), (1, _), (2, _), (3, _), (10, _), (11, _), (12, _), (44, _)] ⟨rfl, rfl, rfl, rfl, rfl, rfl, rfl, rfl, ⟨⟩⟩ fun _ => (cno rfl (wp_skip (nThen (fg [(0, _), (1, _), (2, _), (3, _), (10, _), (11, _)] ⟨rfl, rfl, rfl, rfl, rfl, rfl, ⟨⟩⟩ fun _ => (sreg (sv (xmove rfl) (sv (xlen sl37 rfl) (sv (xassign rfl) (send ?_)))))))))))
 refine fg [(0, _), (1, _), (2, _), (3, _), (10, _), (11, _), (13, _)] ⟨rfl, rfl, rfl, rfl, rfl, rfl, rfl, ⟨⟩⟩ fun _ => (sreg (sv (xmove rfl) (sv (xnilc rfl) (sv (xfld fl139_1 rfl) (sv (xld on137 rfl ((hE.r hpo).c 5 rfl rfl)) (sv (xmove rfl) (sv (xmove rfl) (sv (xmove rfl) ?_))))))))
 obtain ⟨fP, aP, hxP, hrP⟩ := inv_pack (gm := gm) (pos := pos + (packName C pos (bt r.name)).1.length + 10) (start := start) r39 (by omega) hnm hfp (fun k hk => by have hk := hU k hk; omega) hB (by omega) hC (fun b hb => by have hb := hm b hb; omega) (by omega) (by omega)
 refine sc (hxP _ _ _ _ _ _ rfl rfl) (hrP) ?_
 rintro _ w10 ⟨p60, q60, g60, rfl, r60, m11, a60, l60, hC⟩
 have z12 := m11.size
 have hE := hE.keep m11 (by show ¬ (bR = g39 ∨ bR = gm); omega)
 have hf := hf.step m11 (fun k hk hS => by have hS : k = g39 ∨ k = gm := hS; show k = g ∨ k = gm ∨ k = bR; omega)
 have hbl := packBody_len (C := (packName C pos (bt r.name)).2) (pos := pos + (packName C pos (bt r.name)).1.length + 10) hnm hlb
 refine sv (xmove rfl) (sv (xextr rfl rfl) (sv (xextr rfl rfl) (sv (xassign rfl) (sv (xassign rfl) (send (fg [(0, _), (1, _), (10, _), (11, _), (12, _), (13, _)] ⟨rfl, rfl, rfl, rfl, rfl, rfl, ⟨⟩⟩ fun _ => (wp_seq (sreg (sv (xmove rfl) (sv (xneN if89 rfl) (send ?_)))))))))))
 refine fg [(0, _), (1, _), (10, _), (11, _), (12, _), (13, _), (64, _)] ⟨rfl, rfl, rfl, rfl, rfl, rfl, rfl, ⟨⟩⟩ fun _ => (cno rfl (wp_skip (nThen (fg [(0, _), (1, _), (10, _), (11, _), (13, _)] ⟨rfl, rfl, rfl, rfl, rfl, ⟨⟩⟩ fun _ => (wp_seq (sreg (sv (xmove rfl) (sv (xnilc rfl) (sv (xfld fl139_0 rfl) (sv (xmove rfl) (sv (xmove rfl) ?_)))))))))))
 refine sv (xmove rfl) ?_
 have r60 := br_cast (bs := (bs ++ ((packName C pos (bt r.name)).1 ++ (be16 (typeN r).toNat ++ (be16 r.cls.toNat ++ be32 r.ttl.toNat)))) ++ (be16 len ++ (packBody (packName C pos (bt r.name)).2 (pos + (packName C pos (bt r.name)).1.length + 10) r).1)) r60 (by simp [hdTail]) rfl
 refine sc (xcall ca153 rfl) (c153 (preLen := n + ((packName C pos (bt r.name)).1 ++ hdTail (typeN r) r.cls r.ttl len).length) (len := len) (typ := typeN r) (cls := r.cls) (ttl := r.ttl) (s := bt r.name) (pre := pre) (post := [Value.iface TB (.pointer (some ⟨bB, 0, none⟩))] ++ post) r60 (by omega) rfl ⟨by have := hE.1; simpa [rhSegs] using this, by simp [rhSegs, nm_length]⟩ hpo (by omega) (by simp [be16_length, be32_length]; omega) (by omega) (by omega) (by omega)) ?_
 rintro _ w13 ⟨rfl, r60, hE2, m14⟩
 have z15 := m14.size
 have hf := hf.step m14 (fun k hk hS => by have hS : k = g60 ∨ k = bR := hS; show k = g ∨ k = gm ∨ k = bR; omega)
 have hC := hC.keep m14 (fun b hb => by have hb := hm b hb; show ¬ (b = g60 ∨ b = bR); omega)
 have en : n + ((packName C pos (bt r.name)).1 ++ hdTail (typeN r) r.cls r.ttl len).length + (packBody (packName C pos (bt r.name)).2 (pos + (packName C pos (bt r.name)).1.length + 10) r).1.length - (n + ((packName C pos (bt r.name)).1 ++ hdTail (typeN r) r.cls r.ttl len).length) = (packBody (packName C pos (bt r.name)).2 (pos + (packName C pos (bt r.name)).1.length + 10) r).1.length := by omega
 rw [en] at r60 hE2
 have hE : SE w13 bR 139 pre lRes (rhSegs (bt r.name) (typeN r) r.cls r.ttl (packBody (packName C pos (bt r.name)).2 (pos + (packName C pos (bt r.name)).1.length + 10) r).1.length ++ [[Value.iface TB (.pointer (some ⟨bB, 0, none⟩))]]) post := ⟨by have := hE2.1; simpa [rhSegs] using this, by simp [rhSegs, nm_length]⟩
 refine sv (xassign rfl) (send (fg [(1, _), (10, _), (14, _)] ⟨rfl, rfl, rfl, ⟨⟩⟩ fun _ => (sreg (sv (xmove rfl) (sv (xneN if89 rfl) (send (fg [(1, _), (10, _), (14, _), (78, _)] ⟨rfl, rfl, rfl, rfl, ⟨⟩⟩ fun _ => (cno rfl (wp_skip (nThen (fg [(1, _)] ⟨rfl, ⟨⟩⟩ fun _ => ?_)))))))))))
 refine sreg (sv (xmove rfl) (sv (xassign rfl) (sv (xassign rfl) (send (fg [(8, _), (9, _)] ⟨rfl, rfl, ⟨⟩⟩ fun _ => (wp_ret ?_))))))
 refine rp2 rfl rfl rfl ?_
 have eo : n + (packRec C pos r).1.length = n + ((packName C pos (bt r.name)).1 ++ hdTail (typeN r) r.cls r.ttl len).length + (packBody (packName C pos (bt r.name)).2 (pos + (packName C pos (bt r.name)).1.length + 10) r).1.length := by simp only [packRec, packTail, List.length_append, be16_length, be32_length, hdTail_length]; omega
 refine ⟨p60, q60, g60, _, by rw [eo]; rfl, ?_, hf, by omega, by omega, hC, hbl, hE⟩
 rw [eo]
 exact br_cast r60 (by simp [packRec, packTail]) rfl
set_option maxHeartbeats 4000000 in
set_option maxRecDepth 100000 in
theorem c37 {w : World} {U : Nat → Prop} (hU : ∀ k, U k → k < w.heap.size) {v : Value} {l : List RecD} (hl : LA RecEl lRec U w v l) (hn : l.length ≤ 1048576) (hfr : ∀ r ∈ l, r.name.size ≤ 255 ∧ 1 ≤ r.kind ∧ r.kind ≤ 13 ∧ FitB r) :
  Ret PP 37 [v] w (fun u w' => ∃ gr, RX ResEl lRes U w.heap.size w'.heap.size w' u gr 139 l.length l ∧ w.heap.size ≤ gr ∧ gr < w'.heap.size ∧ Fr0 w w') := by
 obtain ⟨a0, c0, rfl⟩ := hl.form
 have hf : Fr (fun _ => False) w w := Fr.refl _ _
 refine ret_of Tryz.func37 rfl rfl rfl [(0, _)] rfl ?_
 refine sreg (sv (xassign rfl) (send (fg [(0, _)] ⟨rfl, ⟨⟩⟩ fun _ => (sreg ?_))))
 refine svK (xslit ([]) sl75 in139 rfl (by decide) rfl rfl rfl rfl (by decide) rfl rfl) ?_
 rintro _ w2 ⟨b6, rfl, m3, h6, e6, s6, r6⟩
 have hl := hl.keep rec_st (lU hU (by omega)) m3 nF
 have hf := hf.step0 m3
 have hv3 : RX ResEl lRes U w.heap.size w2.heap.size w2 _ b6 139 0 [] := RX.ofNil r6
 refine sv (xassign rfl) (send (fg [(0, _), (3, _)] ⟨rfl, rfl, ⟨⟩⟩ fun _ => (wp_seq (sreg (sv (xmove rfl) (sv (xlen sl26 rfl) (sv (xmove rfl) (send (fg [(3, _), (7, _), (8, _), (9, _)] ⟨rfl, rfl, rfl, rfl, ⟨⟩⟩ fun _ => (wp_block ?_))))))))))
 refine lp [(7, _), (8, _)] (fun (x : Nat × Value × Nat) => match x with | (k, v, g) => [(3, v), (9, .int .i64 (k : Int))]) (fun (x : Nat × Value × Nat) wx => match x with | (k, v, g) => Fr (fun k => k = b6) w2 wx ∧ (k ≤ l.length) ∧ (RX ResEl lRes U w.heap.size wx.heap.size wx v g 139 k (l.take k)) ∧ (w.heap.size ≤ g) ∧ (g < wx.heap.size) ∧ (g = b6 ∨ w2.heap.size ≤ g)) (fun (x : Nat × Value × Nat) => match x with | (k, v, g) => l.length - k) (0, _, b6) ⟨rfl, rfl, rfl, rfl, trivial⟩ ⟨Fr.refl _ _, Nat.zero_le _, hv3, by omega, by omega, .inl rfl⟩ ?_
 rintro ⟨k, v, g⟩ _ w5 ⟨hL4, hk, hv3, hg, hg2, hg3⟩
 refine fg [(3, _), (7, _), (8, _), (9, _)] ⟨rfl, rfl, rfl, rfl, ⟨⟩⟩ fun _ => ?_
 have z6 := hL4.size
 have hl := hl.keep rec_st (lU hU (by omega)) hL4 (fun k hk hS => by have hk := hU k hk; have hS : k = b6 := hS; omega)
 have hf := hf.step hL4 (fun k hk hS => by have hS : k = b6 := hS; show False; omega)
 obtain ⟨a3, c3, rfl⟩ := RA.form hv3
 refine sreg ?_
 refine svP (xlss rfl rfl) (fun hc10 => ?_) (fun hc10 => ?_)
 ·
  refine send (fg [(3, _), (7, _), (8, _), (9, _), (10, _)] ⟨rfl, rfl, rfl, rfl, rfl, ⟨⟩⟩ fun _ => (wp_seq (cyes rfl (wp_skip (nThen (fg [(3, _), (7, _), (8, _), (9, _)] ⟨rfl, rfl, rfl, rfl, ⟨⟩⟩ fun _ => (wp_seq (wp_block ?_))))))))
  obtain ⟨r, hrk⟩ := some_of_lt (by omega : k < l.length)
  refine sreg ?_
  obtain ⟨bE11, oE11, sgE11, rfl, uE11, hsE11, heE11⟩ := LA.get hl hrk
  obtain ⟨vd, vt, vp, rfl, hd, ht, hp⟩ := heE11
  have zE11 := hU _ uE11
  obtain ⟨ad, cd, rfl, -⟩ := id hd
  obtain ⟨at1, ct1, rfl⟩ := ht.form
  obtain ⟨ap1, cp1, rfl⟩ := hp.form
  refine sv (xidx sl26 sz112 rfl rfl rfl (by omega)) (sv (xldS (lens := lRec) ro112 rfl hsE11) ?_)
  refine svK (xallS (lens := lRec) in112 rfl) ?_
  rintro _ w8 ⟨b5, rfl, m9, h5, e7, s7⟩
  have hf := hf.step0 m9
  have hv3 := RX.keep hv3 res_st (lU hU (by omega)) (by omega) m9 (fun _ _ _ h => h) id
  have hL4 := hL4.step0 m9
  have hd := hd.keep (lU hU (by omega)) m9 nF
  have ht := ht.keep text_st (lU hU (by omega)) m9 nF
  have hp := hp.keep pair_st (lU hU (by omega)) m9 nF
  refine suK (xstW h5 (lens' := lRec) sz112 rfl rfl rfl rfl rfl) ?_
  rintro w11 ⟨m12, h5, s10⟩
  have hf := hf.step m12 (fun k hk hS => by have hS : k = b5 := hS; show False; omega)
  have hv3 := RX.keep hv3 res_st (lU hU (by omega)) (by omega) m12 (fun k hk hk3 hS => by have hS : k = b5 := hS; rcases hk with hk | hk <;> first | omega | (have := hU k hk; omega)) (by show ¬ (g = b5); omega)
  have hL4 := hL4.step m12 (fun k hk hS => by have hS : k = b5 := hS; show k = b6; omega)
  have hd := hd.keep (lU hU (by omega)) m12 (fun k hk hS => by have hk := hU k hk; have hS : k = b5 := hS; omega)
  have ht := ht.keep text_st (lU hU (by omega)) m12 (fun k hk hS => by have hk := hU k hk; have hS : k = b5 := hS; omega)
  have hp := hp.keep pair_st (lU hU (by omega)) m12 (fun k hk hS => by have hk := hU k hk; have hS : k = b5 := hS; omega)
  refine send (fg [(3, _), (5, _), (7, _), (8, _), (9, _)] ⟨rfl, rfl, rfl, rfl, rfl, ⟨⟩⟩ fun _ => ?_)
  refine ldraw (Fr (fun k => k = g) w11.drew) [(0, .rd), (1, .rd), (3, .rd), (2, .ld), (4, .ld), (5, .rd), (6, .ld), (7, .ld), (8, .rd)] mixed (by kernel_rfl) (fun _ _ _ _ _ h => h) ?_
  have z13 : w11.drew.heap.size = w11.heap.size := rfl
  have hf := hf.drew
  have hv3 := RX.keep hv3 res_st (lU hU (by omega)) (by omega) (Fr.drew (Fr.refl (fun _ => False) w11)) (fun _ _ _ h => h) id
  have hL4 := hL4.drew
  have hd := hd.keep (lU hU (by omega)) (Fr.drew (Fr.refl (fun _ => False) w11)) nF
  have ht := ht.keep text_st (lU hU (by omega)) (Fr.drew (Fr.refl (fun _ => False) w11)) nF
  have hp := hp.keep pair_st (lU hU (by omega)) (Fr.drew (Fr.refl (fun _ => False) w11)) nF
  have h5 := h5.drew
  have hS14 : Fr (fun k => k = g) w11.drew w11.drew := Fr.refl _ _
  refine hv rfl (fun _ _ => xmove rfl) hS14 (hv rfl (fun w' hS => xldS (lens := lRec) ro112 rfl (h5.keep hS (by show ¬ (b5 = g); omega)).r) hS14 (hv rfl (fun w' hS => xldS (lens := lRec) ro112 rfl (h5.keep hS (by show ¬ (b5 = g); omega)).r) hS14 ?_))
  refine hc rfl (xcall ca87 rfl) (c87 (hfr _ (List.mem_of_getElem? hrk)).1) ?_
  rintro _ w15 ⟨rfl, m16⟩
  have z17 := m16.size
  have hf := hf.step0 m16
  have hv3 := RX.keep hv3 res_st (lU hU (by omega)) (by omega) m16 (fun _ _ _ h => h) id
  have hL4 := hL4.step0 m16
  have hd := hd.keep (lU hU (by omega)) m16 nF
  have ht := ht.keep text_st (lU hU (by omega)) m16 nF
  have hp := hp.keep pair_st (lU hU (by omega)) m16 nF
  have hS18 := hS14.step0 m16
  refine ⟨hS18, ?_⟩
  refine hc rfl (xcall ca88 rfl) (c88 (U := U) (lU hU (by omega)) hd ht hp (hfr _ (List.mem_of_getElem? hrk)).2.1 (hfr _ (List.mem_of_getElem? hrk)).2.2.1 (hfr _ (List.mem_of_getElem? hrk)).2.2.2) ?_
  rintro v17 w19 ⟨hB17, m20⟩
  have z21 := m20.size
  have hf := hf.step0 m20
  have hv3 := RX.keep hv3 res_st (lU hU (by omega)) (by omega) m20 (fun _ _ _ h => h) id
  have hL4 := hL4.step0 m20
  have hS22 := hS18.step0 m20
  obtain ⟨bB, TB, lensB, segsB, rfl, -⟩ := id hB17
  refine ⟨hS22, ?_⟩
  refine hv rfl (fun _ _ => xbuildS (rhSegs (bt r.name) r.typ r.cls r.ttl r.len.toNat ++ [[Value.iface TB (.pointer (some ⟨bB, 0, none⟩))]]) zr139 ly139 rfl (by simp [fitAll, zs139, Value.cells, nm_length, rhSegs]) (by simp [setAll, zs139, Value.cells, rhSegs])) hS22 ?_
  refine hlK rfl (xslit ((rhSegs (bt r.name) r.typ r.cls r.ttl r.len.toNat ++ [[Value.iface TB (.pointer (some ⟨bB, 0, none⟩))]]).flatten) sl75 in139 rfl (by decide) rfl rfl rfl (by simp [rhSegs, nm_length, Value.cells]) (by decide) (ag_flat _) (by simp only [rhSegs, List.cons_append, List.nil_append, List.flatten_cons, List.flatten_nil, List.all_append, List.append_nil, nm_one, Bool.true_and] <;> rfl)) ?_
  rintro _ w24 ⟨b19, rfl, m25, h19, e19, s19, r19⟩
  have hf := hf.step0 m25
  have hv3 := RX.keep hv3 res_st (lU hU (by omega)) (by omega) m25 (fun _ _ _ h => h) id
  have hL4 := hL4.step0 m25
  have hB17 := hB17.keep (lB hU (by omega) (by omega)) m25 nF
  have hS26 := hS22.step0 m25
  refine ⟨hS26, ?_⟩
  obtain ⟨ss20, hR20, hA20⟩ := hv3
  refine hlK rfl (xapp sl75 in139 rfl (by decide) rfl rfl hR20 (r19.src sl75) (by simp only [maxLen]; omega) (by omega)) ?_
  rintro v20 w27 ⟨g20, r20, m28, a20, l20⟩
  have z29 := m28.size
  have hf := hf.step m28 (fun k hk hS => by have hS : k = g := hS; show False; omega)
  have hL4 := hL4.step m28 (fun k hk hS => by have hS : k = g := hS; show k = b6; omega)
  have hB17 := hB17.keep (lB hU (by omega) (by omega)) m28 (fun k hk hS => by have hk := Ub.num hU hk; have hS : k = g := hS; omega)
  have hS30 := hS26.step m28 (fun k hk hS => by have hS : k = g := hS; show k = g; omega)
  have hv3 := RX.snoc (x := r) w27.heap.size hA20 res_st res_gr (lU hU (by omega)) (by omega) (by omega) m28 a20 r20 (by simp [rhSegs, nm_length]) (⟨_, _, _, u16lt _, rfl, hB17.mono (fun k h => ⟨h.elim .inl (fun h => .inr ⟨by omega, by omega⟩), by have h := Ub.num hU h; omega⟩)⟩)
  refine ⟨hS30, ?_⟩
  refine hv rfl (fun _ _ => xassign rfl) hS30 (lhend (nBlock (nThen (fg [(3, _), (7, _), (8, _), (9, _)] ⟨rfl, rfl, rfl, rfl, ⟨⟩⟩ fun _ => (lreg (sv (xadd rfl rfl (w64 (by omega) (by omega))) (sv (xmove rfl) (lend (nThen ?_)))))))))
  refine ⟨(k + 1, _, g20), _, env_okl ⟨rfl, rfl, rfl, rfl, trivial⟩, ⟨hL4, (by omega), (by rw [take_snoc hrk]; exact RX.up res_gr hv3 (by omega)), (by omega), (l20 (by omega)), (by omega)⟩, ?_⟩
  show l.length - (k + 1) < l.length - k; omega
 ·
  refine send (fg [(3, _), (7, _), (8, _), (9, _), (10, _)] ⟨rfl, rfl, rfl, rfl, rfl, ⟨⟩⟩ fun _ => (wp_seq (cno rfl (wp_exit (eThen (eThen (eHit (nThen (fg [(3, _)] ⟨rfl, ⟨⟩⟩ fun _ => (sreg (sv (xmove rfl) ?_)))))))))))
  refine sv (xassign rfl) (send (fg [(2, _)] ⟨rfl, ⟨⟩⟩ fun _ => (wp_ret ?_)))
  refine rp1 rfl rfl ?_
  have e : l.take k = l := List.take_of_length_le (by omega)
  rw [e] at hv3
  obtain rfl : k = l.length := by omega
  exact ⟨g, hv3, hg, hg2, hf⟩
end Go.Proofs.YtifnodoffgfpbaaGreatDoor
