/- Walks: how a name is packed. Conditions: none. -/
import Derived.Test.YtifnodoffgfpbaaGreatDoorW15
import Derived.Test.YtifnodoffgfpbaaGreatDoorPk
import Derived.Test.YtifnodoffgfpbaaGreatDoorEmb
namespace Go.Proofs.YtifnodoffgfpbaaGreatDoor
open Go

theorem nm_cell {w : World} {b o : Nat} {s : List UInt8} (h : SR w b o [256] [nm s]) {i : Nat} (hi : i < s.length) (h2 : i < 255) : w.cell? ⟨b, o + 0 + i, none⟩ = some (.int .u8 ((s[i]'hi).toNat : Int)) := by
  have := h.seg (i := 0) (k := 0) rfl rfl i _ (nm_get s hi h2)
  exact this
theorem nm_part {w : World} {b o : Nat} {s : List UInt8} (h : SR w b o [256] [nm s]) (hs : s.length ≤ 255) (i : Nat) : w.rangeAt b (o + 0 + i) (bvs (s.drop i)) := nm_rng (h.seg (i := 0) (k := 0) rfl rfl) hs i
theorem mkB_size (s : List UInt8) : (mkB s).size = s.length := by simp [ByteArray.size]
theorem ptr_cells (p : UInt16) : ([Value.int .u8 (((p >>> 8 ||| 192).toNat : Int) % 256), .int .u8 ((p.toNat : Int) % 256)].map (·.cells.toList)).flatten = bvs (ptrL p) := by
  have e : ∀ x : Nat, ((UInt8.ofNat x).toNat : Int) = (x : Int) % 256 := fun x => by rw [UInt8.toNat_ofNat']; omega
  simp only [ptrL, bvs, bv, List.map_cons, List.map_nil, e]
  rfl
theorem optCases (cm : Option Nat) : (∃ b, cm = some b) ∨ cm = none := by cases cm <;> simp
theorem name_dotlen {s : List UInt8} (h : nameL s) (h0 : 0 < s.length) (hc : (s[0].toNat : Int) = 46) : (s.length : Int) = 1 := by rw [name_dot h h0 hc]; rfl
theorem pkE_nil {r : List UInt8 × Option Ent} : pkE [] r = r := rfl
theorem nonempty_size {s : List UInt8} (h : 0 < s.length) : mkB s ≠ ⟨#[]⟩ := by
  intro e
  have := congrArg bt e
  rw [bt_mkB] at this
  rw [this] at h
  simp at h
theorem pkE_eq {o r1 : List UInt8} {C : Option Ent} {t : List UInt8 × Option Ent} (h : pkE o (r1, C) = t) : o ++ r1 = t.1 ∧ C = t.2 := by subst h; exact ⟨rfl, rfl⟩
theorem ofNat_len {lab : List UInt8} {x : Nat} (h : x = lab.length) : UInt8.ofNat x = UInt8.ofNat lab.length := by rw [h]
theorem app_ofC {w w' : World} {g gm n m : Nat} {cm : Option Nat} {bs out : List UInt8} {C' : Option Ent} {a : Option Addr} {c g' : Nat} {cs : List Value} (h : Rw w' (.slice a m c) g' 5 1 m cs) (hm : m = n + out.length) (hcs : cs = bvs (bs ++ out)) (hf : Fr (fun k => k = g ∨ k = gm) w w') (hg : g' = g ∨ w.heap.size ≤ g') (hl : g' < w'.heap.size) (hC : Cmp w' cm C') :
    AppC w g gm cm n bs out C' (.tuple #[.slice a m c, .nilIface]) w' := by
  subst hm hcs
  exact ⟨a, c, g', rfl, h, hf, hg, hl, hC⟩
theorem pk_next {C : Option Ent} {p : Nat} {c : UInt8} {lab cs : List UInt8} (hc : c ≠ 46) (h : lab ≠ [] ∨ C = none) : packGo C p lab (c :: cs) = packGo C p (lab ++ [c]) cs := by
  by_cases hl : lab = []
  · subst hl
    obtain rfl := h.resolve_left (fun h => h rfl)
    exact pk_none hc
  · exact pk_mid hc hl
theorem lab_len {s lab : List UInt8} {i bg : Nat} (h : lab = (s.take i).drop bg) (hi : i ≤ s.length) : lab.length = i - bg := by
  subst h; rw [List.length_drop, List.length_take, Nat.min_eq_left hi]
theorem lab_mid {s lab : List UInt8} {i bg : Nat} (hf : bg = i → i = 0 ∨ s[i - 1]? = some 46) (hll : lab.length = i - bg) (hb : bg ≤ i) (h0 : ¬ (i : Int) = 0) (hi : i - 1 < s.length) (hd : ¬ ((s[i - 1]'hi).toNat : Int) = 46) : lab ≠ [] := by
  intro h
  have e : bg = i := by rw [h] at hll; simp at hll; omega
  rcases hf e with h1 | h1
  · omega
  · rw [List.getElem?_eq_getElem hi] at h1
    simp only [Option.some.injEq] at h1
    rw [h1] at hd; exact hd rfl
theorem lab_first {s lab : List UInt8} {i bg : Nat} (h : lab = (s.take i).drop bg) (hb : bg ≤ i) (hnd : ∀ c ∈ lab, c ≠ 46) (hi : i ≤ s.length) (hz : (i : Int) = 0 ∨ ∃ hi : i - 1 < s.length, ((s[i - 1]'hi).toNat : Int) = 46) : lab = [] := by
  cases hlab : lab with
  | nil => rfl
  | cons x xs =>
    exfalso
    have hll := lab_len h hi
    rw [hlab] at hll
    simp only [List.length_cons] at hll
    rcases hz with h0 | ⟨hi', h46⟩
    · omega
    · have hg := lab_get h (j := i - 1) (by omega) (by omega) hi
      have hm := List.mem_of_getElem? hg
      exact hnd _ hm (u8eq h46)
/-- the text of a slice of bytes -/
theorem xb2sR {P : Program} {n : Nat} {l : List (Nat × Value)} {w : World} {ty : TypeId} {x : Operand} {S D E : TypeId} {bs : List UInt8} {b o m c : Nat} (hS : slcB P S E = true) (hE : intB P E .u8 = true) (hD : strB P D = true) (hx : ev n l x = some (.slice (some ⟨b, o, none⟩) m c)) (hm : bs.length = m) (hr : w.rangeAt b o (bvs bs)) :
    Ex P n l (.convert S D x) ty w (.string (mkB bs)) w := xb2s hS hE hD hx hm hr

set_option maxHeartbeats 4000000 in
set_option maxRecDepth 100000 in
theorem c149 {w : World} {v : Value} {g gm n start pos : Nat} {bs : List UInt8} {cm : Option Nat} {C : Option Ent} (hR : BR w v g n bs) (hg : g < w.heap.size) {bo o : Nat} {s : List UInt8} (hN : SR w bo o [256] [nm s]) (hbo : bo < w.heap.size) (hbg : bo ≠ g) (hbm : bo ≠ gm) (hC : Cmp w cm C) (hm : ∀ b, cm = some b → b = gm ∧ gm ≠ g ∧ gm < w.heap.size) (hp : n = start + pos) (hl : n < 1000000000) (hs : nameL s) :
    Ret PP 149 [.pointer (some ⟨bo, o, none⟩), v, .map cm, .int .i64 (start : Int)] w (AppC w g gm cm n bs (packName C pos s).1 (packName C pos s).2) := by
  obtain ⟨a0, c0, rfl, -⟩ := hR.form
  have hs1 := name_pos hs
  obtain ⟨hs0, hs2⟩ := hs1
  have hf : Fr (fun k => k = g ∨ k = gm) w w := Fr.refl _ _
  refine ret_of Tryz.func149 rfl rfl rfl [(0, _), (1, _), (2, _), (3, _)] rfl ?_
  refine sreg ?_
  refine sv (xassign rfl) ?_
  refine sv (xassign rfl) ?_
  refine send ?_
  refine forget_wp [(0, _), (1, _), (2, _), (3, _)] ⟨rfl, rfl, rfl, rfl, trivial⟩ fun _ => ?_
  refine sreg ?_
  refine sv (xmove rfl) ?_
  refine sv (xassign rfl) ?_
  refine send ?_
  refine forget_wp [(0, _), (1, _), (2, _), (3, _), (10, _)] ⟨rfl, rfl, rfl, rfl, rfl, trivial⟩ fun _ => ?_
  refine wp_seq ?_
  refine sreg ?_
  refine sv (xmove rfl) ?_
  refine sv (xnilc rfl) ?_
  refine sv (xfld fl82_1 rfl) ?_
  refine sv (xld on5 rfl (hN.seg (i := 0) rfl rfl 255 _ (nm_last _))) ?_
  refine sv (exF (xgtr rfl rfl) (by omega)) ?_
  refine send ?_
  refine forget_wp [(0, _), (1, _), (2, _), (3, _), (10, _), (23, _)] ⟨rfl, rfl, rfl, rfl, rfl, rfl, trivial⟩ fun _ => ?_
  refine cno rfl ?_
  refine wp_skip ?_
  refine nThen ?_
  refine forget_wp [(0, _), (1, _), (2, _), (3, _), (10, _)] ⟨rfl, rfl, rfl, rfl, rfl, trivial⟩ fun _ => ?_
  refine wp_seq ?_
  refine sdraw (Fr (fun _ => False) w.drew) [(0, .rd), (1, .rd), (2, .rd), (3, .rd), (4, .rd), (5, .rd), (6, .rd), (7, .rd), (8, .rd), (9, .rd), (10, .rd), (11, .rd), (12, .rd), (13, .rd), (14, .rd), (15, .rd), (16, .rd), (17, .rd)] mixed (by kernel_rfl) (fun _ _ _ _ _ h => h) ?_
  have z1 : w.drew.heap.size = w.heap.size := rfl
  have hR := hR.keep (Fr.drew (Fr.refl (fun _ => False) w)) (fun h => h)
  have hN := hN.keep (Fr.drew (Fr.refl (fun _ => False) w)) (by omega) (fun h => h)
  have hC := hC.keep (Fr.drew (Fr.refl (fun _ => False) w)) (fun _ _ h => h)
  have hf := hf.drew
  have hS2 : Fr (fun _ => False) w.drew w.drew := Fr.refl _ _
  refine hv rfl (fun _ _ => xmove rfl) hS2 ?_
  refine hv rfl (fun _ _ => xnilc rfl) hS2 ?_
  refine hv rfl (fun _ _ => xfld fl82_1 rfl) hS2 ?_
  refine hv rfl (fun w' hS => xld on5 rfl ((hN.keep hS (by omega) (fun h => h)).seg (i := 0) rfl rfl 255 _ (nm_last _))) hS2 ?_
  refine hv rfl (fun _ _ => exF (xeql rfl rfl) (by omega)) hS2 ?_
  refine hv rfl (fun _ _ => xmove rfl) hS2 ?_
  refine hvg rfl rfl rfl (fun _ _ => xmove rfl) hS2 ?_
  refine hvg rfl rfl rfl (fun _ _ => xmove rfl) hS2 ?_
  refine hvg rfl rfl rfl (fun _ _ => xnilc rfl) hS2 ?_
  refine hvg rfl rfl rfl (fun _ _ => xfld fl82_1 rfl) hS2 ?_
  refine hvg rfl rfl rfl (fun w' hS => xld on5 rfl ((hN.keep hS (by omega) (fun h => h)).seg (i := 0) rfl rfl 255 _ (nm_last _))) hS2 ?_
  refine hvg rfl rfl rfl (fun _ _ => xsub rfl rfl (wu8 (by omega) (by omega))) hS2 ?_
  refine hvg rfl rfl rfl (fun _ _ => xnilc rfl) hS2 ?_
  refine hvg rfl rfl rfl (fun _ _ => xfld fl82_0 rfl) hS2 ?_
  refine hvg rfl rfl rfl (fun _ _ => xidxA1 (i := s.length - 1) ar80 sz5 rfl rfl (by omega) (by omega)) hS2 ?_
  refine hvg rfl rfl rfl (fun w' hS => xld on5 rfl (nm_cell (hN.keep hS (by omega) (fun h => h)) (i := s.length - 1) (by omega) (by omega))) hS2 ?_
  refine hvg rfl rfl rfl (fun _ _ => exF (xneq rfl rfl) (by rw [name_last hs (by omega)]; decide)) hS2 ?_
  refine hv rfl (fun _ _ => xpickF rfl rfl) hS2 ?_
  refine hend ?_
  refine forget_wp [(0, _), (1, _), (2, _), (3, _), (10, _), (42, _)] ⟨rfl, rfl, rfl, rfl, rfl, rfl, trivial⟩ fun _ => ?_
  refine cno rfl ?_
  refine wp_skip ?_
  refine nThen ?_
  refine forget_wp [(0, _), (1, _), (2, _), (3, _), (10, _)] ⟨rfl, rfl, rfl, rfl, rfl, trivial⟩ fun _ => ?_
  refine wp_seq ?_
  refine sreg ?_
  refine sv (xmove rfl) ?_
  refine sv (xnilc rfl) ?_
  refine sv (xfld fl82_0 rfl) ?_
  refine sv (xidxA1 (i := 0) ar80 sz5 rfl rfl (by omega) (by omega)) ?_
  refine sv (xld on5 rfl (nm_cell hN (i := 0) (by omega) (by omega))) ?_
  refine svP (xeql rfl rfl) (fun hc50 => ?_) (fun hc50 => ?_)
  · skip
    refine sv (xmove rfl) ?_
    refine gyes rfl rfl rfl ?_
    refine sv (xmove rfl) ?_
    refine gyes rfl rfl rfl ?_
    refine sv (xnilc rfl) ?_
    refine gyes rfl rfl rfl ?_
    refine sv (xfld fl82_1 rfl) ?_
    refine gyes rfl rfl rfl ?_
    refine sv (xld on5 rfl (hN.seg (i := 0) rfl rfl 255 _ (nm_last _))) ?_
    refine gyes rfl rfl rfl ?_
    refine sv (exT (xeql rfl rfl) (name_dotlen hs (by omega) hc50)) ?_
    refine sv (xpickT rfl rfl) ?_
    refine send ?_
    refine forget_wp [(0, _), (1, _), (2, _), (3, _), (10, _), (57, _)] ⟨rfl, rfl, rfl, rfl, rfl, rfl, trivial⟩ fun _ => ?_
    refine cyes rfl ?_
    refine sreg ?_
    refine sv (xmove rfl) ?_
    refine svK (xslit (bvs [0]) sl37 in5 rfl (by decide) rfl rfl rfl rfl (by decide) (by simp [bvs, bv, Value.cells]) (bvs_one _)) ?_
    rintro _ w4 ⟨b59, rfl, m5, h59, e59, s59, r59⟩
    have hR := hR.keep m5 (fun h => h)
    have hN := hN.keep m5 (by omega) (fun h => h)
    have hC := hC.keep m5 (fun _ _ h => h)
    have hf := hf.step0 m5
    refine svK (xapp sl37 in5 rfl (by decide) rfl rfl hR (r59.src sl37) (by simp only [maxLen]; omega) (by omega)) ?_
    rintro _ w6 ⟨g60, r60, m7, a60, l60⟩
    have z8 := m7.size
    have hN := hN.keep m7 (by omega) (by show ¬ (bo = g); omega)
    have hC := hC.keep m7 (fun b hb => by have hb := hm b hb; show ¬ (b = g); omega)
    have hf := hf.step m7 (fun k hk hS => by have hS : k = g := hS; show k = g ∨ k = gm; omega)
    obtain ⟨p60, q60, rfl, -⟩ := r60.form
    refine sv (xassign rfl) ?_
    refine sv (xassign rfl) ?_
    refine send ?_
    refine forget_wp [(8, _), (9, _)] ⟨rfl, rfl, trivial⟩ fun _ => ?_
    refine wp_ret ?_
    refine rThen ?_
    refine rp2 rfl rfl rfl ?_
    have es := name_dot hs (by omega) hc50
    subst es
    exact app_ofC (out := [0]) r60 rfl (by simp [bvs_app]) hf (by omega) (l60 (by omega)) hC
  · skip
    refine sv (xmove rfl) ?_
    refine gno rfl rfl rfl ?_
    refine gno rfl rfl rfl ?_
    refine gno rfl rfl rfl ?_
    refine gno rfl rfl rfl ?_
    refine gno rfl rfl rfl ?_
    refine sv (xpickF rfl rfl) ?_
    refine send ?_
    refine forget_wp [(0, _), (1, _), (2, _), (3, _), (10, _), (57, _)] ⟨rfl, rfl, rfl, rfl, rfl, rfl, trivial⟩ fun _ => ?_
    refine cno rfl ?_
    refine wp_skip ?_
    refine nThen ?_
    refine forget_wp [(0, _), (1, _), (2, _), (3, _), (10, _)] ⟨rfl, rfl, rfl, rfl, rfl, trivial⟩ fun _ => ?_
    have hgo := name_nodot hs (by omega) hc50
    refine sreg ?_
    refine sv (xassign rfl) ?_
    refine send ?_
    refine forget_wp [(0, _), (1, _), (2, _), (3, _), (10, _), (11, _)] ⟨rfl, rfl, rfl, rfl, rfl, rfl, trivial⟩ fun _ => ?_
    refine wp_seq ?_
    refine sreg ?_
    refine sv (xassign rfl) ?_
    refine sv (xassign rfl) ?_
    refine send ?_
    refine forget_wp [(0, _), (1, _), (2, _), (3, _), (10, _), (11, _), (12, _), (13, _)] ⟨rfl, rfl, rfl, rfl, rfl, rfl, rfl, rfl, trivial⟩ fun _ => ?_
    refine wp_block ?_
    refine lp [(0, _), (2, _), (3, _), (10, _)] (fun (x : Nat × Nat × Value × Nat × List UInt8 × List UInt8 × Option Ent × ByteArray) => match x with | (i, bg, v, gv, q, lab, C1, na) => [(1, v), (11, .string na), (12, .int .i64 (i : Int)), (13, .int .i64 (bg : Int))]) (fun (x : Nat × Nat × Value × Nat × List UInt8 × List UInt8 × Option Ent × ByteArray) wx => match x with | (i, bg, v, gv, q, lab, C1, na) => Fr (fun k => k = g ∨ k = gm) w.drew wx ∧ (i ≤ s.length) ∧ (bg ≤ i) ∧ (BR wx v gv (n + q.length) (bs ++ q)) ∧ (gv = g ∨ w.drew.heap.size ≤ gv) ∧ (gv < wx.heap.size) ∧ (Cmp wx cm C1) ∧ (pkE q (packGo C1 (pos + q.length) lab (s.drop i)) = packGo C pos [] s) ∧ (lab = (s.take i).drop bg) ∧ (nameGo lab.length (s.drop i) = true) ∧ (na = ⟨#[]⟩ ∨ na = mkB s) ∧ (bg = i → i = 0 ∨ s[i - 1]? = some 46) ∧ (∀ c ∈ lab, c ≠ 46) ∧ (q.length + lab.length ≤ 2 * i)) (fun (x : Nat × Nat × Value × Nat × List UInt8 × List UInt8 × Option Ent × ByteArray) => match x with | (i, bg, v, gv, q, lab, C1, na) => s.length - i) (0, 0, _, g, [], [], C, ⟨#[]⟩) ⟨rfl, rfl, rfl, rfl, rfl, rfl, rfl, rfl, trivial⟩ ⟨Fr.refl _ _, Nat.zero_le _, Nat.le_refl _, by simpa using hR, .inl rfl, by omega, hC, by simp [pkE], by simp, hgo.2, .inl rfl, fun _ => .inl rfl, by simp, by simp⟩ ?_
    rintro ⟨i, bg, v, gv, q, lab, C1, na⟩ _ w10 ⟨hL9, hi, hbi, hv1, hgv, hgv2, hC1, hE, hlab, hng, hna, hfst, hnd, hol⟩
    refine forget_wp [(0, _), (1, _), (2, _), (3, _), (10, _), (11, _), (12, _), (13, _)] ⟨rfl, rfl, rfl, rfl, rfl, rfl, rfl, rfl, trivial⟩ fun _ => ?_
    have z11 := hL9.size
    have hN := hN.keep hL9 (by omega) (by show ¬ (bo = g ∨ bo = gm); omega)
    have hf := hf.step hL9 (fun k hk hS => by have hS : k = g ∨ k = gm := hS; show k = g ∨ k = gm; omega)
    obtain ⟨a1, c1, rfl, -⟩ := hv1.form
    refine wp_seq ?_
    refine sreg ?_
    refine sv (xmove rfl) ?_
    refine sv (xmove rfl) ?_
    refine sv (xnilc rfl) ?_
    refine sv (xfld fl82_1 rfl) ?_
    refine sv (xld on5 rfl (hN.seg (i := 0) rfl rfl 255 _ (nm_last _))) ?_
    refine sv (xconv hs5 ki3 rfl (w64 (by omega) (by omega))) ?_
    refine svP (xlss rfl rfl) (fun hc67 => ?_) (fun hc67 => ?_)
    · skip
      refine send ?_
      refine forget_wp [(0, _), (1, _), (2, _), (3, _), (10, _), (11, _), (12, _), (13, _), (67, _)] ⟨rfl, rfl, rfl, rfl, rfl, rfl, rfl, rfl, rfl, trivial⟩ fun _ => ?_
      refine cyes rfl ?_
      refine wp_skip ?_
      refine nThen ?_
      refine forget_wp [(0, _), (1, _), (2, _), (3, _), (10, _), (11, _), (12, _), (13, _)] ⟨rfl, rfl, rfl, rfl, rfl, rfl, rfl, rfl, trivial⟩ fun _ => ?_
      refine wp_seq ?_
      refine wp_block ?_
      refine wp_seq ?_
      refine sreg ?_
      refine sv (xmove rfl) ?_
      refine sv (xmove rfl) ?_
      refine sv (xnilc rfl) ?_
      refine sv (xfld fl82_0 rfl) ?_
      refine sv (xidxA1 (i := i) ar80 sz5 rfl rfl (by omega) (by omega)) ?_
      refine sv (xld on5 rfl (nm_cell hN (i := i) (by omega) (by omega))) ?_
      refine svP (xeql rfl rfl) (fun hc76 => ?_) (fun hc76 => ?_)
      · skip
        refine send ?_
        refine forget_wp [(0, _), (1, _), (2, _), (3, _), (10, _), (11, _), (12, _), (13, _), (76, _)] ⟨rfl, rfl, rfl, rfl, rfl, rfl, rfl, rfl, rfl, trivial⟩ fun _ => ?_
        refine cyes rfl ?_
        refine wp_seq ?_
        have hll := lab_len hlab (by omega)
        have hng1 := hng
        rw [drop_one (s := s) (i := i) (by omega), u8eq hc76] at hng1
        have hnd1 := nameGo_dot hng1
        refine sreg ?_
        refine sv (xmove rfl) ?_
        refine sv (xmove rfl) ?_
        refine sv (xsub rfl rfl (w64 (by omega) (by omega))) ?_
        refine sv (exF (xgeq rfl rfl) (by omega)) ?_
        refine send ?_
        refine forget_wp [(0, _), (1, _), (2, _), (3, _), (10, _), (11, _), (12, _), (13, _), (80, _)] ⟨rfl, rfl, rfl, rfl, rfl, rfl, rfl, rfl, rfl, trivial⟩ fun _ => ?_
        refine cno rfl ?_
        refine wp_skip ?_
        refine nThen ?_
        refine forget_wp [(0, _), (1, _), (2, _), (3, _), (10, _), (11, _), (12, _), (13, _)] ⟨rfl, rfl, rfl, rfl, rfl, rfl, rfl, rfl, trivial⟩ fun _ => ?_
        refine wp_seq ?_
        refine sreg ?_
        refine sv (xmove rfl) ?_
        refine sv (xmove rfl) ?_
        refine sv (xsub rfl rfl (w64 (by omega) (by omega))) ?_
        refine sv (exF (xeql rfl rfl) (by omega)) ?_
        refine send ?_
        refine forget_wp [(0, _), (1, _), (2, _), (3, _), (10, _), (11, _), (12, _), (13, _), (86, _)] ⟨rfl, rfl, rfl, rfl, rfl, rfl, rfl, rfl, rfl, trivial⟩ fun _ => ?_
        refine cno rfl ?_
        refine wp_skip ?_
        refine nThen ?_
        refine forget_wp [(0, _), (1, _), (2, _), (3, _), (10, _), (11, _), (12, _), (13, _)] ⟨rfl, rfl, rfl, rfl, rfl, rfl, rfl, rfl, trivial⟩ fun _ => ?_
        refine sreg ?_
        refine sv (xmove rfl) ?_
        refine sv (xmove rfl) ?_
        refine sv (xmove rfl) ?_
        refine sv (xsub rfl rfl (w64 (by omega) (by omega))) ?_
        refine sv (xconv hs3 ki5 rfl (wu8m _)) ?_
        refine svK (xslit (bvs [UInt8.ofNat lab.length]) sl37 in5 rfl (by decide) rfl rfl rfl rfl (by decide) (by simp [bvs, bv, Value.cells]; omega) (bvs_one _)) ?_
        rintro _ w13 ⟨b94, rfl, m14, h94, e94, s94, r94⟩
        have hN := hN.keep m14 (by omega) (fun h => h)
        have hf := hf.step0 m14
        have hv1 := hv1.keep m14 (fun h => h)
        have hC1 := hC1.keep m14 (fun _ _ h => h)
        have hL9 := hL9.step0 m14
        refine svK (xapp sl37 in5 rfl (by decide) rfl rfl hv1 (r94.src sl37) (by simp only [maxLen]; omega) (by omega)) ?_
        rintro _ w15 ⟨g95, r95, m16, a95, l95⟩
        have z17 := m16.size
        have hN := hN.keep m16 (by omega) (by show ¬ (bo = gv); omega)
        have hf := hf.step m16 (fun k hk hS => by have hS : k = gv := hS; show k = g ∨ k = gm; omega)
        have hC1 := hC1.keep m16 (fun b hb => by have hb := hm b hb; show ¬ (b = gv); omega)
        have hL9 := hL9.step m16 (fun k hk hS => by have hS : k = gv := hS; show k = g ∨ k = gm; omega)
        obtain ⟨p95, q95, rfl, -⟩ := r95.form
        refine sv (xassign rfl) ?_
        refine send ?_
        refine forget_wp [(0, _), (1, _), (2, _), (3, _), (10, _), (11, _), (12, _), (13, _)] ⟨rfl, rfl, rfl, rfl, rfl, rfl, rfl, rfl, trivial⟩ fun _ => ?_
        refine wp_seq ?_
        refine sreg ?_
        refine sv (xmove rfl) ?_
        refine sv (xassign rfl) ?_
        refine send ?_
        refine forget_wp [(0, _), (1, _), (2, _), (3, _), (10, _), (11, _), (12, _), (14, _)] ⟨rfl, rfl, rfl, rfl, rfl, rfl, rfl, rfl, trivial⟩ fun _ => ?_
        refine wp_block ?_
        refine lp [(0, _), (2, _), (3, _), (10, _), (11, _), (12, _)] (fun (x : Nat × Value × Nat) => match x with | (j, v, gj) => [(1, v), (14, .int .i64 (j : Int))]) (fun (x : Nat × Value × Nat) wx => match x with | (j, v, gj) => Fr (fun k => k = g95) w15 wx ∧ (bg ≤ j) ∧ (j ≤ i) ∧ (BR wx v gj (n + q.length + 1 + (j - bg)) (bs ++ q ++ (UInt8.ofNat lab.length :: lab.take (j - bg)))) ∧ (gj = g95 ∨ w15.heap.size ≤ gj) ∧ (gj < wx.heap.size)) (fun (x : Nat × Value × Nat) => match x with | (j, v, gj) => i - j) (bg, _, g95) ⟨rfl, rfl, rfl, rfl, rfl, rfl, rfl, rfl, trivial⟩ ⟨Fr.refl _ _, Nat.le_refl _, hbi, br_cast r95 (by simp [bvs_app]) (by omega), .inl rfl, l95 (by omega)⟩ ?_
        rintro ⟨j, v, gj⟩ _ w19 ⟨hL18, hj1, hj2, hv2, hgj, hgj2⟩
        refine forget_wp [(0, _), (1, _), (2, _), (3, _), (10, _), (11, _), (12, _), (14, _)] ⟨rfl, rfl, rfl, rfl, rfl, rfl, rfl, rfl, trivial⟩ fun _ => ?_
        have z20 := hL18.size
        have hN := hN.keep hL18 (by omega) (by show ¬ (bo = g95); omega)
        have hf := hf.step hL18 (fun k hk hS => by have hS : k = g95 := hS; show k = g ∨ k = gm; omega)
        have hC1 := hC1.keep hL18 (fun b hb => by have hb := hm b hb; show ¬ (b = g95); omega)
        have hL9 := hL9.step hL18 (fun k hk hS => by have hS : k = g95 := hS; show k = g ∨ k = gm; omega)
        obtain ⟨a2, c2, rfl, -⟩ := hv2.form
        refine wp_seq ?_
        refine sreg ?_
        refine sv (xmove rfl) ?_
        refine sv (xmove rfl) ?_
        refine svP (xlss rfl rfl) (fun hc99 => ?_) (fun hc99 => ?_)
        · skip
          refine send ?_
          refine forget_wp [(0, _), (1, _), (2, _), (3, _), (10, _), (11, _), (12, _), (14, _), (99, _)] ⟨rfl, rfl, rfl, rfl, rfl, rfl, rfl, rfl, rfl, trivial⟩ fun _ => ?_
          refine cyes rfl ?_
          refine wp_skip ?_
          refine nThen ?_
          refine forget_wp [(0, _), (1, _), (2, _), (3, _), (10, _), (11, _), (12, _), (14, _)] ⟨rfl, rfl, rfl, rfl, rfl, rfl, rfl, rfl, trivial⟩ fun _ => ?_
          refine wp_seq ?_
          refine wp_block ?_
          refine lreg ?_
          refine sv (xmove rfl) ?_
          refine sv (xmove rfl) ?_
          refine sv (xmove rfl) ?_
          refine sv (xnilc rfl) ?_
          refine sv (xfld fl82_0 rfl) ?_
          refine sv (xidxA1 (i := j) ar80 sz5 rfl rfl (by omega) (by omega)) ?_
          refine sv (xld on5 rfl (nm_cell hN (i := j) (by omega) (by omega))) ?_
          refine svK (xslit (bvs [s[j]]) sl37 in5 rfl (by decide) rfl rfl rfl rfl (by decide) (by simp [bvs, bv, Value.cells]) (bvs_one _)) ?_
          rintro _ w22 ⟨b109, rfl, m23, h109, e109, s109, r109⟩
          have hN := hN.keep m23 (by omega) (fun h => h)
          have hf := hf.step0 m23
          have hC1 := hC1.keep m23 (fun _ _ h => h)
          have hL9 := hL9.step0 m23
          have hv2 := hv2.keep m23 (fun h => h)
          have hL18 := hL18.step0 m23
          refine svK (xapp sl37 in5 rfl (by decide) rfl rfl hv2 (r109.src sl37) (by simp only [maxLen]; omega) (by omega)) ?_
          rintro _ w24 ⟨g110, r110, m25, a110, l110⟩
          have z26 := m25.size
          have hN := hN.keep m25 (by omega) (by show ¬ (bo = gj); omega)
          have hf := hf.step m25 (fun k hk hS => by have hS : k = gj := hS; show k = g ∨ k = gm; omega)
          have hC1 := hC1.keep m25 (fun b hb => by have hb := hm b hb; show ¬ (b = gj); omega)
          have hL9 := hL9.step m25 (fun k hk hS => by have hS : k = gj := hS; show k = g ∨ k = gm; omega)
          have hL18 := hL18.step m25 (fun k hk hS => by have hS : k = gj := hS; show k = g95; omega)
          obtain ⟨p110, q110, rfl, -⟩ := r110.form
          refine sv (xassign rfl) ?_
          refine lend ?_
          refine nBlock ?_
          refine nThen ?_
          refine forget_wp [(0, _), (1, _), (2, _), (3, _), (10, _), (11, _), (12, _), (14, _)] ⟨rfl, rfl, rfl, rfl, rfl, rfl, rfl, rfl, trivial⟩ fun _ => ?_
          refine lreg ?_
          refine sv (xmove rfl) ?_
          refine sv (xadd rfl rfl (w64 (by omega) (by omega))) ?_
          refine sv (xassign rfl) ?_
          refine lend ?_
          refine nThen ?_
          refine ⟨(j + 1, _, g110), _, env_okl ⟨rfl, rfl, rfl, rfl, rfl, rfl, rfl, rfl, trivial⟩, ⟨hL18, (by omega), (by omega), (by rw [show j + 1 - bg = (j - bg) + 1 by omega, take_snoc (lab_get hlab hj1 (by omega) (by omega))]; exact br_cast r110 (by simp [bvs]) (by omega)), (by omega), (l110 (by omega))⟩, ?_⟩
          show i - (j + 1) < i - j; omega
        · skip
          refine send ?_
          refine forget_wp [(0, _), (1, _), (2, _), (3, _), (10, _), (11, _), (12, _), (14, _), (99, _)] ⟨rfl, rfl, rfl, rfl, rfl, rfl, rfl, rfl, rfl, trivial⟩ fun _ => ?_
          refine cno rfl ?_
          refine wp_exit ?_
          refine eThen ?_
          refine eThen ?_
          refine eHit ?_
          refine nThen ?_
          refine forget_wp [(0, _), (1, _), (2, _), (3, _), (10, _), (11, _), (12, _)] ⟨rfl, rfl, rfl, rfl, rfl, rfl, rfl, trivial⟩ fun _ => ?_
          refine sreg ?_
          refine sv (xmove rfl) ?_
          refine sv (xadd rfl rfl (w64 (by omega) (by omega))) ?_
          refine sv (xassign rfl) ?_
          refine send ?_
          refine forget_wp [(0, _), (1, _), (2, _), (3, _), (10, _), (11, _), (12, _), (13, _)] ⟨rfl, rfl, rfl, rfl, rfl, rfl, rfl, rfl, trivial⟩ fun _ => ?_
          refine wp_exit ?_
          refine eThen ?_
          refine eHit ?_
          refine nThen ?_
          refine forget_wp [(0, _), (1, _), (2, _), (3, _), (10, _), (11, _), (12, _), (13, _)] ⟨rfl, rfl, rfl, rfl, rfl, rfl, rfl, rfl, trivial⟩ fun _ => ?_
          refine lreg ?_
          refine sv (xmove rfl) ?_
          refine sv (xadd rfl rfl (w64 (by omega) (by omega))) ?_
          refine sv (xassign rfl) ?_
          refine lend ?_
          refine nThen ?_
          have hll := lab_len hlab (by omega)
          have hdr := drop_one (s := s) (i := i) (by omega)
          rw [hdr] at hE hng
          rw [u8eq hc76] at hE hng
          have hnd2 := nameGo_dot hng
          have elb : lab.take (j - bg) = lab := List.take_of_length_le (by omega)
          rw [elb] at hv2
          refine ⟨(i + 1, i + 1, _, gj, q ++ (UInt8.ofNat lab.length :: lab), [], C1, na), _, env_okl ⟨rfl, rfl, rfl, rfl, rfl, rfl, rfl, rfl, trivial⟩, ⟨hL9, (by omega), (Nat.le_refl _), (br_cast hv2 (by simp) (by simp; omega)), (by omega), (by omega), (hC1), (by rw [← hE, pk_dot]; simp only [List.length_append, List.length_cons, Nat.add_assoc]), (by simp), (hnd2.2.2), (hna), (fun _ => .inr (by rw [Nat.add_sub_cancel, List.getElem?_eq_getElem (by omega), u8eq hc76])), (by simp), (by simp; omega)⟩, ?_⟩
          show s.length - (i + 1) < s.length - i; omega
      · skip
        refine send ?_
        refine forget_wp [(0, _), (1, _), (2, _), (3, _), (10, _), (11, _), (12, _), (13, _), (76, _)] ⟨rfl, rfl, rfl, rfl, rfl, rfl, rfl, rfl, rfl, trivial⟩ fun _ => ?_
        refine cno rfl ?_
        refine wp_skip ?_
        refine nThen ?_
        refine forget_wp [(0, _), (1, _), (2, _), (3, _), (10, _), (11, _), (12, _), (13, _)] ⟨rfl, rfl, rfl, rfl, rfl, rfl, rfl, rfl, trivial⟩ fun _ => ?_
        refine sreg ?_
        refine sv (xmove rfl) ?_
        refine svP (xeql rfl rfl) (fun hc114 => ?_) (fun hc114 => ?_)
        · skip
          refine sv (xmove rfl) ?_
          refine gno rfl rfl rfl ?_
          refine gno rfl rfl rfl ?_
          refine gno rfl rfl rfl ?_
          refine gno rfl rfl rfl ?_
          refine gno rfl rfl rfl ?_
          refine gno rfl rfl rfl ?_
          refine gno rfl rfl rfl ?_
          refine gno rfl rfl rfl ?_
          refine sv (xpickT rfl rfl) ?_
          refine sv (xmove rfl) ?_
          refine gyes rfl rfl rfl ?_
          refine sv (xmove rfl) ?_
          refine gyes rfl rfl rfl ?_
          refine sv (xneM mp146 rfl) ?_
          rcases optCases cm with ⟨bm, rfl⟩ | rfl
          · skip
            refine sv (xpickT rfl rfl) ?_
            refine send ?_
            refine forget_wp [(0, _), (1, _), (2, _), (3, _), (10, _), (11, _), (12, _), (13, _), (128, _)] ⟨rfl, rfl, rfl, rfl, rfl, rfl, rfl, rfl, rfl, trivial⟩ fun _ => ?_
            refine cyes rfl ?_
            refine wp_seq ?_
            refine sdraw (Fr (fun _ => False) w10.drew) [(0, .rd), (1, .rd), (2, .rd), (3, .rd), (4, .rd), (5, .rd), (6, .rd), (7, .rd), (8, .rd), (9, .rd), (10, .rd), (11, .rd), (12, .rd), (13, .rd), (14, .rd), (15, .rd), (16, .rd)] mixed (by kernel_rfl) (fun _ _ _ _ _ h => h) ?_
            have z27 : w10.drew.heap.size = w10.heap.size := rfl
            have hN := hN.keep (Fr.drew (Fr.refl (fun _ => False) w10)) (by omega) (fun h => h)
            have hf := hf.drew
            have hv1 := hv1.keep (Fr.drew (Fr.refl (fun _ => False) w10)) (fun h => h)
            have hC1 := hC1.keep (Fr.drew (Fr.refl (fun _ => False) w10)) (fun _ _ h => h)
            have hL9 := hL9.drew
            have hS28 : Fr (fun _ => False) w10.drew w10.drew := Fr.refl _ _
            refine hv rfl (fun _ _ => xmove rfl) hS28 ?_
            refine hv rfl (fun _ _ => xmove rfl) hS28 ?_
            refine hv rfl (fun _ _ => xnilc rfl) hS28 ?_
            refine hv rfl (fun _ _ => xfld fl82_0 rfl) hS28 ?_
            refine hv rfl (fun _ _ => xmove rfl) hS28 ?_
            refine hv rfl (fun _ _ => xmove rfl) hS28 ?_
            refine hv rfl (fun _ _ => xnilc rfl) hS28 ?_
            refine hv rfl (fun _ _ => xfld fl82_1 rfl) hS28 ?_
            refine hv rfl (fun w' hS => xld on5 rfl ((hN.keep hS (by omega) (fun h => h)).seg (i := 0) rfl rfl 255 _ (nm_last _))) hS28 ?_
            refine hv rfl (fun _ _ => xcutALH (lo := i) (hi := s.length) ar80 sz5 rfl rfl rfl (by omega) (by omega) (by omega) (by omega) (by omega)) hS28 ?_
            refine hv rfl (fun w' hS => xb2sR (bs := s.drop i) sl37 ki5 st9 rfl (by rw [List.length_drop]) (by rw [Nat.mul_one]; exact nm_part (hN.keep hS (by omega) (fun h => h)) (by omega) i)) hS28 ?_
            obtain ⟨M, rfl, -⟩ := Cmp.some hC1
            obtain rfl : gm = bm := (hm bm rfl).1.symm
            have hmg := hm gm rfl
            refine hv rfl (fun w' hS => xlook mp146 st9 in22 (show Mp w' gm M from (hC1.keep hS (fun _ _ h => h))) rfl rfl) hS28 ?_
            refine hv rfl (fun _ _ => xmove rfl) hS28 ?_
            refine hv rfl (fun _ _ => xextr rfl rfl) hS28 ?_
            refine hv rfl (fun _ _ => xextr rfl rfl) hS28 ?_
            cases hlk : look M (mkB (s.drop i)) with
            | some p =>
              refine hv rfl (fun _ _ => xassign rfl) hS28 ?_
              refine hv rfl (fun _ _ => xassign rfl) hS28 ?_
              refine hend ?_
              refine forget_wp [(0, _), (1, _), (2, _), (3, _), (10, _), (11, _), (12, _), (13, _), (15, _), (16, _)] ⟨rfl, rfl, rfl, rfl, rfl, rfl, rfl, rfl, rfl, rfl, trivial⟩ fun _ => ?_
              refine sreg ?_
              refine sv (xmove rfl) ?_
              refine send ?_
              refine forget_wp [(0, _), (1, _), (2, _), (3, _), (10, _), (11, _), (12, _), (13, _), (15, _), (144, _)] ⟨rfl, rfl, rfl, rfl, rfl, rfl, rfl, rfl, rfl, rfl, trivial⟩ fun _ => ?_
              refine cyes rfl ?_
              refine sreg ?_
              refine sv (xmove rfl) ?_
              refine sv (xmove rfl) ?_
              refine sv (xshr16 (a := p) (b := 8) (by decide) rfl rfl) ?_
              refine sv (xor16 (b := 192) rfl rfl) ?_
              refine sv (xconv hs22 ki5 rfl (wu8m _)) ?_
              refine sv (xmove rfl) ?_
              refine sv (xconv hs22 ki5 rfl (wu8m _)) ?_
              refine svK (xslit (bvs (ptrL p)) sl37 in5 rfl (by decide) rfl rfl rfl rfl (by decide) (ptr_cells p) (bvs_one _)) ?_
              rintro _ w30 ⟨b152, rfl, m31, h152, e152, s152, r152⟩
              have hN := hN.keep m31 (by omega) (fun h => h)
              have hf := hf.step0 m31
              have hv1 := hv1.keep m31 (fun h => h)
              have hC1 := hC1.keep m31 (fun _ _ h => h)
              have hL9 := hL9.step0 m31
              refine svK (xapp sl37 in5 rfl (by decide) rfl rfl hv1 (r152.src sl37) (by simp only [maxLen]; omega) (by omega)) ?_
              rintro _ w32 ⟨g153, r153, m33, a153, l153⟩
              have z34 := m33.size
              have hN := hN.keep m33 (by omega) (by show ¬ (bo = gv); omega)
              have hf := hf.step m33 (fun k hk hS => by have hS : k = gv := hS; show k = g ∨ k = gm; omega)
              have hC1 := hC1.keep m33 (fun b hb => by have hb := hm b hb; show ¬ (b = gv); omega)
              have hL9 := hL9.step m33 (fun k hk hS => by have hS : k = gv := hS; show k = g ∨ k = gm; omega)
              obtain ⟨p153, q153, rfl, -⟩ := r153.form
              refine sv (xassign rfl) ?_
              refine sv (xassign rfl) ?_
              refine send ?_
              refine forget_wp [(8, _), (9, _)] ⟨rfl, rfl, trivial⟩ fun _ => ?_
              refine wp_ret ?_
              refine rThen ?_
              refine rBlock ?_
              refine rThen ?_
              refine rThen ?_
              refine rBlock ?_
              refine rThen ?_
              refine rp2 rfl rfl rfl ?_
              obtain rfl : lab = [] := lab_first hlab hbi hnd (by omega) (by first | exact .inl hc114 | exact .inr ⟨by omega, hc123⟩)
              rw [drop_one (by omega)] at hE hlk
              rw [pk_hit (u8ne hc76) hlk] at hE
              obtain ⟨e1, e2⟩ := pkE_eq hE
              rw [packName, if_neg hgo.1]
              rw [← e1, ← e2]
              exact app_ofC (out := q ++ ptrL p) r153 (by simp [ptrL]; omega) (by simp [bvs_app]) hf (by omega) (l153 (by omega)) hC1
            | none =>
              refine hv rfl (fun _ _ => xassign rfl) hS28 ?_
              refine hv rfl (fun _ _ => xassign rfl) hS28 ?_
              refine hend ?_
              refine forget_wp [(0, _), (1, _), (2, _), (3, _), (10, _), (11, _), (12, _), (13, _), (15, _), (16, _)] ⟨rfl, rfl, rfl, rfl, rfl, rfl, rfl, rfl, rfl, rfl, trivial⟩ fun _ => ?_
              refine sreg ?_
              refine sv (xmove rfl) ?_
              refine send ?_
              refine forget_wp [(0, _), (1, _), (2, _), (3, _), (10, _), (11, _), (12, _), (13, _), (15, _), (144, _)] ⟨rfl, rfl, rfl, rfl, rfl, rfl, rfl, rfl, rfl, rfl, trivial⟩ fun _ => ?_
              refine cno rfl ?_
              refine wp_skip ?_
              refine nThen ?_
              refine forget_wp [(0, _), (1, _), (2, _), (3, _), (10, _), (11, _), (12, _), (13, _)] ⟨rfl, rfl, rfl, rfl, rfl, rfl, rfl, rfl, trivial⟩ fun _ => ?_
              refine sreg ?_
              refine sv (xmove rfl) ?_
              refine sv (xlen sl37 rfl) ?_
              refine sv (xmove rfl) ?_
              refine sv (xsub rfl rfl (w64 (by omega) (by omega))) ?_
              refine sv (xassign rfl) ?_
              refine send ?_
              refine forget_wp [(0, _), (1, _), (2, _), (3, _), (10, _), (11, _), (12, _), (13, _), (17, _)] ⟨rfl, rfl, rfl, rfl, rfl, rfl, rfl, rfl, rfl, trivial⟩ fun _ => ?_
              refine sreg ?_
              refine sv (xmove rfl) ?_
              refine svP (xleq rfl rfl) (fun hc159 => ?_) (fun hc159 => ?_)
              · skip
                refine send ?_
                refine forget_wp [(0, _), (1, _), (2, _), (3, _), (10, _), (11, _), (12, _), (13, _), (17, _), (159, _)] ⟨rfl, rfl, rfl, rfl, rfl, rfl, rfl, rfl, rfl, rfl, trivial⟩ fun _ => ?_
                refine cyes rfl ?_
                refine wp_seq ?_
                refine sreg ?_
                refine sv (xmove rfl) ?_
                refine sv (xeqs rfl rfl) ?_
                refine send ?_
                refine forget_wp [(0, _), (1, _), (2, _), (3, _), (10, _), (11, _), (12, _), (13, _), (17, _), (161, _)] ⟨rfl, rfl, rfl, rfl, rfl, rfl, rfl, rfl, rfl, rfl, trivial⟩ fun _ => ?_
                refine jcut [(0, _), (1, _), (2, _), (3, _), (10, _), (12, _), (13, _), (17, _)] ⟨rfl, rfl, rfl, rfl, rfl, rfl, rfl, rfl, trivial⟩ (fun (x : ByteArray) => match x with | nb => [(11, .string nb)]) (fun (x : ByteArray) wx => match x with | nb => Fr (fun _ => False) w10.drew wx ∧ (nb = mkB s)) ?_ ?_
                · skip
                  have hJ35 : Fr (fun _ => False) w10.drew w10.drew := Fr.refl _ _
                  refine cB rfl (fun hb => ?_) (fun hb => ?_)
                  · skip
                    refine ldraw (Fr (fun _ => False) w10.drew.drew) [(0, .rd), (1, .rd), (2, .rd), (3, .rd), (4, .rd), (5, .rd), (6, .rd), (7, .rd), (8, .rd), (9, .rd)] mixed (by kernel_rfl) (fun _ _ _ _ _ h => by cases h.1) ?_
                    have z36 : w10.drew.drew.heap.size = w10.drew.heap.size := rfl
                    have hN := hN.keep (Fr.drew (Fr.refl (fun _ => False) w10.drew)) (by omega) (fun h => h)
                    have hf := hf.drew
                    have hv1 := hv1.keep (Fr.drew (Fr.refl (fun _ => False) w10.drew)) (fun h => h)
                    have hC1 := hC1.keep (Fr.drew (Fr.refl (fun _ => False) w10.drew)) (fun _ _ h => h)
                    have hL9 := hL9.drew
                    have hJ35 := hJ35.drew
                    have hS37 : Fr (fun _ => False) w10.drew.drew w10.drew.drew := Fr.refl _ _
                    refine hv rfl (fun _ _ => xmove rfl) hS37 ?_
                    refine hv rfl (fun _ _ => xnilc rfl) hS37 ?_
                    refine hv rfl (fun _ _ => xfld fl82_0 rfl) hS37 ?_
                    refine hv rfl (fun _ _ => xmove rfl) hS37 ?_
                    refine hv rfl (fun _ _ => xnilc rfl) hS37 ?_
                    refine hv rfl (fun _ _ => xfld fl82_1 rfl) hS37 ?_
                    refine hv rfl (fun w' hS => xld on5 rfl ((hN.keep hS (by omega) (fun h => h)).seg (i := 0) rfl rfl 255 _ (nm_last _))) hS37 ?_
                    refine hv rfl (fun _ _ => xcutAH (hi := s.length) ar80 sz5 rfl rfl (by omega) (by omega)) hS37 ?_
                    refine hv rfl (fun w' hS => xb2sR (bs := s) sl37 ki5 st9 rfl rfl (nm_part (hN.keep hS (by omega) (fun h => h)) (by omega) 0)) hS37 ?_
                    refine hv rfl (fun _ _ => xassign rfl) hS37 ?_
                    refine lhend ?_
                    exact ⟨rfl, mkB s, _, env_okl ⟨rfl, rfl, rfl, rfl, rfl, rfl, rfl, rfl, rfl, trivial⟩, ⟨hJ35, (rfl)⟩⟩
                  · skip
                    refine wp_skip ?_
                    exact ⟨rfl, na, _, env_okl ⟨rfl, rfl, rfl, rfl, rfl, rfl, rfl, rfl, rfl, trivial⟩, ⟨hJ35, (hna.resolve_left (by simpa using hb))⟩⟩
                · skip
                  rintro nb _ w38 ⟨hJ35, hnb⟩
                  have z39 := hJ35.size
                  have hN := hN.keep hJ35 (by omega) (fun h => h)
                  have hf := hf.step0 hJ35
                  have hv1 := hv1.keep hJ35 (fun h => h)
                  have hC1 := hC1.keep hJ35 (fun _ _ h => h)
                  have hL9 := hL9.step0 hJ35
                  refine nThen ?_
                  refine forget_wp [(0, _), (1, _), (2, _), (3, _), (10, _), (11, _), (12, _), (13, _), (17, _)] ⟨rfl, rfl, rfl, rfl, rfl, rfl, rfl, rfl, rfl, trivial⟩ fun _ => ?_
                  refine lreg ?_
                  refine sv (xmove rfl) ?_
                  refine sv (xmove rfl) ?_
                  refine sv (xmove rfl) ?_
                  refine sv (xcutSL st9 rfl rfl rfl (by rw [hnb, mkB_size]; omega)) ?_
                  refine sv (xmove rfl) ?_
                  refine sv (xconv hs3 ki22 rfl (wu16n (UInt16.ofNat (pos + q.length)).toNat (by rw [UInt16.toNat_ofNat']; omega))) ?_
                  refine suK (xput (v := UInt16.ofNat (pos + q.length)) mp146 st9 (show Mp w38 gm M from hC1) (by rw [hnb, extr_drop]; exact hlk) rfl rfl rfl) ?_
                  rintro w40 ⟨m41, hP, hsz⟩
                  have hN := hN.keep m41 (by omega) (by show ¬ (bo = gm); omega)
                  have hf := hf.step m41 (fun k hk hS => by have hS : k = gm := hS; show k = g ∨ k = gm; omega)
                  have hv1 := hv1.keep m41 (by show ¬ (gv = gm); omega)
                  have hL9 := hL9.step m41 (fun k hk hS => by have hS : k = gm := hS; show k = g ∨ k = gm; omega)
                  rw [hnb, extr_drop] at hP
                  have hC1 : Cmp w40 (some gm) (some (M ++ [(mkB (s.drop i), UInt16.ofNat (pos + q.length))])) := hP
                  refine lend ?_
                  refine nBlock ?_
                  refine nThen ?_
                  refine forget_wp [(0, _), (1, _), (2, _), (3, _), (10, _), (11, _), (12, _), (13, _)] ⟨rfl, rfl, rfl, rfl, rfl, rfl, rfl, rfl, trivial⟩ fun _ => ?_
                  refine lreg ?_
                  refine sv (xmove rfl) ?_
                  refine sv (xadd rfl rfl (w64 (by omega) (by omega))) ?_
                  refine sv (xassign rfl) ?_
                  refine lend ?_
                  refine nThen ?_
                  have hll := lab_len hlab (by omega)
                  have hdr := drop_one (s := s) (i := i) (by omega)
                  rw [hdr] at hE hng
                  have hng2 := nameGo_let hng (u8ne hc76)
                  obtain rfl : lab = [] := lab_first hlab hbi hnd (by omega) (by first | exact .inl hc114 | exact .inr ⟨by omega, hc123⟩)
                  rw [hdr] at hlk
                  rw [hdr] at hC1
                  refine ⟨(i + 1, bg, _, gv, q, [] ++ [s[i]], some (M ++ [(mkB (s.drop i), UInt16.ofNat (pos + q.length))]), nb), _, env_okl ⟨rfl, rfl, rfl, rfl, rfl, rfl, rfl, rfl, trivial⟩, ⟨hL9, (by omega), (by omega), (hv1), (by omega), (by omega), (by rw [hdr]; exact hC1), (by rw [← hE, pk_miss (u8ne hc76) hlk, if_pos (by omega), List.nil_append, hdr]), (lab_next hlab hbi (by omega)), (by simpa using hng2), (.inr hnb), (fun h => by omega), (fun x hx => (List.mem_append.1 hx).elim (hnd x) (fun h => by simp at h; subst h; exact u8ne hc76)), (by simp at hol ⊢; omega)⟩, ?_⟩
                  show s.length - (i + 1) < s.length - i; omega
              · skip
                refine send ?_
                refine forget_wp [(0, _), (1, _), (2, _), (3, _), (10, _), (11, _), (12, _), (13, _), (17, _), (159, _)] ⟨rfl, rfl, rfl, rfl, rfl, rfl, rfl, rfl, rfl, rfl, trivial⟩ fun _ => ?_
                refine cno rfl ?_
                refine wp_skip ?_
                refine nBlock ?_
                refine nThen ?_
                refine forget_wp [(0, _), (1, _), (2, _), (3, _), (10, _), (11, _), (12, _), (13, _)] ⟨rfl, rfl, rfl, rfl, rfl, rfl, rfl, rfl, trivial⟩ fun _ => ?_
                refine lreg ?_
                refine sv (xmove rfl) ?_
                refine sv (xadd rfl rfl (w64 (by omega) (by omega))) ?_
                refine sv (xassign rfl) ?_
                refine lend ?_
                refine nThen ?_
                have hll := lab_len hlab (by omega)
                have hdr := drop_one (s := s) (i := i) (by omega)
                rw [hdr] at hE hng
                have hng2 := nameGo_let hng (u8ne hc76)
                obtain rfl : lab = [] := lab_first hlab hbi hnd (by omega) (by first | exact .inl hc114 | exact .inr ⟨by omega, hc123⟩)
                rw [hdr] at hlk
                refine ⟨(i + 1, bg, _, gv, q, [] ++ [s[i]], some M, na), _, env_okl ⟨rfl, rfl, rfl, rfl, rfl, rfl, rfl, rfl, trivial⟩, ⟨hL9, (by omega), (by omega), (hv1), (by omega), (by omega), (hC1), (by rw [← hE, pk_miss (u8ne hc76) hlk, if_neg (by omega), List.nil_append]), (lab_next hlab hbi (by omega)), (by simpa using hng2), (hna), (fun h => by omega), (fun x hx => (List.mem_append.1 hx).elim (hnd x) (fun h => by simp at h; subst h; exact u8ne hc76)), (by simp at hol ⊢; omega)⟩, ?_⟩
                show s.length - (i + 1) < s.length - i; omega
          · skip
            refine sv (xpickT rfl rfl) ?_
            refine send ?_
            refine forget_wp [(0, _), (1, _), (2, _), (3, _), (10, _), (11, _), (12, _), (13, _), (128, _)] ⟨rfl, rfl, rfl, rfl, rfl, rfl, rfl, rfl, rfl, trivial⟩ fun _ => ?_
            refine cno rfl ?_
            refine wp_skip ?_
            refine nBlock ?_
            refine nThen ?_
            refine forget_wp [(0, _), (1, _), (2, _), (3, _), (10, _), (11, _), (12, _), (13, _)] ⟨rfl, rfl, rfl, rfl, rfl, rfl, rfl, rfl, trivial⟩ fun _ => ?_
            refine lreg ?_
            refine sv (xmove rfl) ?_
            refine sv (xadd rfl rfl (w64 (by omega) (by omega))) ?_
            refine sv (xassign rfl) ?_
            refine lend ?_
            refine nThen ?_
            have hll := lab_len hlab (by omega)
            have hdr := drop_one (s := s) (i := i) (by omega)
            rw [hdr] at hE hng
            have hng2 := nameGo_let hng (u8ne hc76)
            have hside : lab ≠ [] ∨ C1 = none := by first | exact .inr (Cmp.none hC1) | exact .inl (lab_mid hfst hll hbi hc114 (by omega) hc123)
            refine ⟨(i + 1, bg, _, gv, q, lab ++ [s[i]], C1, na), _, env_okl ⟨rfl, rfl, rfl, rfl, rfl, rfl, rfl, rfl, trivial⟩, ⟨hL9, (by omega), (by omega), (hv1), (by omega), (by omega), (hC1), (by rw [← hE, pk_next (u8ne hc76) hside]), (lab_next hlab hbi (by omega)), (by simpa using hng2), (hna), (fun h => by omega), (fun x hx => (List.mem_append.1 hx).elim (hnd x) (fun h => by simp at h; subst h; exact u8ne hc76)), (by simp at hol ⊢; omega)⟩, ?_⟩
            show s.length - (i + 1) < s.length - i; omega
        · skip
          refine sv (xmove rfl) ?_
          refine gyes rfl rfl rfl ?_
          refine sv (xmove rfl) ?_
          refine gyes rfl rfl rfl ?_
          refine sv (xmove rfl) ?_
          refine gyes rfl rfl rfl ?_
          refine sv (xsub rfl rfl (w64 (by omega) (by omega))) ?_
          refine gyes rfl rfl rfl ?_
          refine sv (xnilc rfl) ?_
          refine gyes rfl rfl rfl ?_
          refine sv (xfld fl82_0 rfl) ?_
          refine gyes rfl rfl rfl ?_
          refine sv (xidxA1 (i := i - 1) ar80 sz5 rfl rfl (by omega) (by omega)) ?_
          refine gyes rfl rfl rfl ?_
          refine sv (xld on5 rfl (nm_cell hN (i := i - 1) (by omega) (by omega))) ?_
          refine gyes rfl rfl rfl ?_
          refine svP (xeql rfl rfl) (fun hc123 => ?_) (fun hc123 => ?_)
          · skip
            refine sv (xpickF rfl rfl) ?_
            refine sv (xmove rfl) ?_
            refine gyes rfl rfl rfl ?_
            refine sv (xmove rfl) ?_
            refine gyes rfl rfl rfl ?_
            refine sv (xneM mp146 rfl) ?_
            rcases optCases cm with ⟨bm, rfl⟩ | rfl
            · skip
              refine sv (xpickT rfl rfl) ?_
              refine send ?_
              refine forget_wp [(0, _), (1, _), (2, _), (3, _), (10, _), (11, _), (12, _), (13, _), (128, _)] ⟨rfl, rfl, rfl, rfl, rfl, rfl, rfl, rfl, rfl, trivial⟩ fun _ => ?_
              refine cyes rfl ?_
              refine wp_seq ?_
              refine sdraw (Fr (fun _ => False) w10.drew) [(0, .rd), (1, .rd), (2, .rd), (3, .rd), (4, .rd), (5, .rd), (6, .rd), (7, .rd), (8, .rd), (9, .rd), (10, .rd), (11, .rd), (12, .rd), (13, .rd), (14, .rd), (15, .rd), (16, .rd)] mixed (by kernel_rfl) (fun _ _ _ _ _ h => h) ?_
              have z42 : w10.drew.heap.size = w10.heap.size := rfl
              have hN := hN.keep (Fr.drew (Fr.refl (fun _ => False) w10)) (by omega) (fun h => h)
              have hf := hf.drew
              have hv1 := hv1.keep (Fr.drew (Fr.refl (fun _ => False) w10)) (fun h => h)
              have hC1 := hC1.keep (Fr.drew (Fr.refl (fun _ => False) w10)) (fun _ _ h => h)
              have hL9 := hL9.drew
              have hS43 : Fr (fun _ => False) w10.drew w10.drew := Fr.refl _ _
              refine hv rfl (fun _ _ => xmove rfl) hS43 ?_
              refine hv rfl (fun _ _ => xmove rfl) hS43 ?_
              refine hv rfl (fun _ _ => xnilc rfl) hS43 ?_
              refine hv rfl (fun _ _ => xfld fl82_0 rfl) hS43 ?_
              refine hv rfl (fun _ _ => xmove rfl) hS43 ?_
              refine hv rfl (fun _ _ => xmove rfl) hS43 ?_
              refine hv rfl (fun _ _ => xnilc rfl) hS43 ?_
              refine hv rfl (fun _ _ => xfld fl82_1 rfl) hS43 ?_
              refine hv rfl (fun w' hS => xld on5 rfl ((hN.keep hS (by omega) (fun h => h)).seg (i := 0) rfl rfl 255 _ (nm_last _))) hS43 ?_
              refine hv rfl (fun _ _ => xcutALH (lo := i) (hi := s.length) ar80 sz5 rfl rfl rfl (by omega) (by omega) (by omega) (by omega) (by omega)) hS43 ?_
              refine hv rfl (fun w' hS => xb2sR (bs := s.drop i) sl37 ki5 st9 rfl (by rw [List.length_drop]) (by rw [Nat.mul_one]; exact nm_part (hN.keep hS (by omega) (fun h => h)) (by omega) i)) hS43 ?_
              obtain ⟨M, rfl, -⟩ := Cmp.some hC1
              obtain rfl : gm = bm := (hm bm rfl).1.symm
              have hmg := hm gm rfl
              refine hv rfl (fun w' hS => xlook mp146 st9 in22 (show Mp w' gm M from (hC1.keep hS (fun _ _ h => h))) rfl rfl) hS43 ?_
              refine hv rfl (fun _ _ => xmove rfl) hS43 ?_
              refine hv rfl (fun _ _ => xextr rfl rfl) hS43 ?_
              refine hv rfl (fun _ _ => xextr rfl rfl) hS43 ?_
              cases hlk : look M (mkB (s.drop i)) with
              | some p =>
                refine hv rfl (fun _ _ => xassign rfl) hS43 ?_
                refine hv rfl (fun _ _ => xassign rfl) hS43 ?_
                refine hend ?_
                refine forget_wp [(0, _), (1, _), (2, _), (3, _), (10, _), (11, _), (12, _), (13, _), (15, _), (16, _)] ⟨rfl, rfl, rfl, rfl, rfl, rfl, rfl, rfl, rfl, rfl, trivial⟩ fun _ => ?_
                refine sreg ?_
                refine sv (xmove rfl) ?_
                refine send ?_
                refine forget_wp [(0, _), (1, _), (2, _), (3, _), (10, _), (11, _), (12, _), (13, _), (15, _), (144, _)] ⟨rfl, rfl, rfl, rfl, rfl, rfl, rfl, rfl, rfl, rfl, trivial⟩ fun _ => ?_
                refine cyes rfl ?_
                refine sreg ?_
                refine sv (xmove rfl) ?_
                refine sv (xmove rfl) ?_
                refine sv (xshr16 (a := p) (b := 8) (by decide) rfl rfl) ?_
                refine sv (xor16 (b := 192) rfl rfl) ?_
                refine sv (xconv hs22 ki5 rfl (wu8m _)) ?_
                refine sv (xmove rfl) ?_
                refine sv (xconv hs22 ki5 rfl (wu8m _)) ?_
                refine svK (xslit (bvs (ptrL p)) sl37 in5 rfl (by decide) rfl rfl rfl rfl (by decide) (ptr_cells p) (bvs_one _)) ?_
                rintro _ w45 ⟨b152, rfl, m46, h152, e152, s152, r152⟩
                have hN := hN.keep m46 (by omega) (fun h => h)
                have hf := hf.step0 m46
                have hv1 := hv1.keep m46 (fun h => h)
                have hC1 := hC1.keep m46 (fun _ _ h => h)
                have hL9 := hL9.step0 m46
                refine svK (xapp sl37 in5 rfl (by decide) rfl rfl hv1 (r152.src sl37) (by simp only [maxLen]; omega) (by omega)) ?_
                rintro _ w47 ⟨g153, r153, m48, a153, l153⟩
                have z49 := m48.size
                have hN := hN.keep m48 (by omega) (by show ¬ (bo = gv); omega)
                have hf := hf.step m48 (fun k hk hS => by have hS : k = gv := hS; show k = g ∨ k = gm; omega)
                have hC1 := hC1.keep m48 (fun b hb => by have hb := hm b hb; show ¬ (b = gv); omega)
                have hL9 := hL9.step m48 (fun k hk hS => by have hS : k = gv := hS; show k = g ∨ k = gm; omega)
                obtain ⟨p153, q153, rfl, -⟩ := r153.form
                refine sv (xassign rfl) ?_
                refine sv (xassign rfl) ?_
                refine send ?_
                refine forget_wp [(8, _), (9, _)] ⟨rfl, rfl, trivial⟩ fun _ => ?_
                refine wp_ret ?_
                refine rThen ?_
                refine rBlock ?_
                refine rThen ?_
                refine rThen ?_
                refine rBlock ?_
                refine rThen ?_
                refine rp2 rfl rfl rfl ?_
                obtain rfl : lab = [] := lab_first hlab hbi hnd (by omega) (by first | exact .inl hc114 | exact .inr ⟨by omega, hc123⟩)
                rw [drop_one (by omega)] at hE hlk
                rw [pk_hit (u8ne hc76) hlk] at hE
                obtain ⟨e1, e2⟩ := pkE_eq hE
                rw [packName, if_neg hgo.1]
                rw [← e1, ← e2]
                exact app_ofC (out := q ++ ptrL p) r153 (by simp [ptrL]; omega) (by simp [bvs_app]) hf (by omega) (l153 (by omega)) hC1
              | none =>
                refine hv rfl (fun _ _ => xassign rfl) hS43 ?_
                refine hv rfl (fun _ _ => xassign rfl) hS43 ?_
                refine hend ?_
                refine forget_wp [(0, _), (1, _), (2, _), (3, _), (10, _), (11, _), (12, _), (13, _), (15, _), (16, _)] ⟨rfl, rfl, rfl, rfl, rfl, rfl, rfl, rfl, rfl, rfl, trivial⟩ fun _ => ?_
                refine sreg ?_
                refine sv (xmove rfl) ?_
                refine send ?_
                refine forget_wp [(0, _), (1, _), (2, _), (3, _), (10, _), (11, _), (12, _), (13, _), (15, _), (144, _)] ⟨rfl, rfl, rfl, rfl, rfl, rfl, rfl, rfl, rfl, rfl, trivial⟩ fun _ => ?_
                refine cno rfl ?_
                refine wp_skip ?_
                refine nThen ?_
                refine forget_wp [(0, _), (1, _), (2, _), (3, _), (10, _), (11, _), (12, _), (13, _)] ⟨rfl, rfl, rfl, rfl, rfl, rfl, rfl, rfl, trivial⟩ fun _ => ?_
                refine sreg ?_
                refine sv (xmove rfl) ?_
                refine sv (xlen sl37 rfl) ?_
                refine sv (xmove rfl) ?_
                refine sv (xsub rfl rfl (w64 (by omega) (by omega))) ?_
                refine sv (xassign rfl) ?_
                refine send ?_
                refine forget_wp [(0, _), (1, _), (2, _), (3, _), (10, _), (11, _), (12, _), (13, _), (17, _)] ⟨rfl, rfl, rfl, rfl, rfl, rfl, rfl, rfl, rfl, trivial⟩ fun _ => ?_
                refine sreg ?_
                refine sv (xmove rfl) ?_
                refine svP (xleq rfl rfl) (fun hc159 => ?_) (fun hc159 => ?_)
                · skip
                  refine send ?_
                  refine forget_wp [(0, _), (1, _), (2, _), (3, _), (10, _), (11, _), (12, _), (13, _), (17, _), (159, _)] ⟨rfl, rfl, rfl, rfl, rfl, rfl, rfl, rfl, rfl, rfl, trivial⟩ fun _ => ?_
                  refine cyes rfl ?_
                  refine wp_seq ?_
                  refine sreg ?_
                  refine sv (xmove rfl) ?_
                  refine sv (xeqs rfl rfl) ?_
                  refine send ?_
                  refine forget_wp [(0, _), (1, _), (2, _), (3, _), (10, _), (11, _), (12, _), (13, _), (17, _), (161, _)] ⟨rfl, rfl, rfl, rfl, rfl, rfl, rfl, rfl, rfl, rfl, trivial⟩ fun _ => ?_
                  refine jcut [(0, _), (1, _), (2, _), (3, _), (10, _), (12, _), (13, _), (17, _)] ⟨rfl, rfl, rfl, rfl, rfl, rfl, rfl, rfl, trivial⟩ (fun (x : ByteArray) => match x with | nb => [(11, .string nb)]) (fun (x : ByteArray) wx => match x with | nb => Fr (fun _ => False) w10.drew wx ∧ (nb = mkB s)) ?_ ?_
                  · skip
                    have hJ50 : Fr (fun _ => False) w10.drew w10.drew := Fr.refl _ _
                    refine cB rfl (fun hb => ?_) (fun hb => ?_)
                    · skip
                      refine ldraw (Fr (fun _ => False) w10.drew.drew) [(0, .rd), (1, .rd), (2, .rd), (3, .rd), (4, .rd), (5, .rd), (6, .rd), (7, .rd), (8, .rd), (9, .rd)] mixed (by kernel_rfl) (fun _ _ _ _ _ h => by cases h.1) ?_
                      have z51 : w10.drew.drew.heap.size = w10.drew.heap.size := rfl
                      have hN := hN.keep (Fr.drew (Fr.refl (fun _ => False) w10.drew)) (by omega) (fun h => h)
                      have hf := hf.drew
                      have hv1 := hv1.keep (Fr.drew (Fr.refl (fun _ => False) w10.drew)) (fun h => h)
                      have hC1 := hC1.keep (Fr.drew (Fr.refl (fun _ => False) w10.drew)) (fun _ _ h => h)
                      have hL9 := hL9.drew
                      have hJ50 := hJ50.drew
                      have hS52 : Fr (fun _ => False) w10.drew.drew w10.drew.drew := Fr.refl _ _
                      refine hv rfl (fun _ _ => xmove rfl) hS52 ?_
                      refine hv rfl (fun _ _ => xnilc rfl) hS52 ?_
                      refine hv rfl (fun _ _ => xfld fl82_0 rfl) hS52 ?_
                      refine hv rfl (fun _ _ => xmove rfl) hS52 ?_
                      refine hv rfl (fun _ _ => xnilc rfl) hS52 ?_
                      refine hv rfl (fun _ _ => xfld fl82_1 rfl) hS52 ?_
                      refine hv rfl (fun w' hS => xld on5 rfl ((hN.keep hS (by omega) (fun h => h)).seg (i := 0) rfl rfl 255 _ (nm_last _))) hS52 ?_
                      refine hv rfl (fun _ _ => xcutAH (hi := s.length) ar80 sz5 rfl rfl (by omega) (by omega)) hS52 ?_
                      refine hv rfl (fun w' hS => xb2sR (bs := s) sl37 ki5 st9 rfl rfl (nm_part (hN.keep hS (by omega) (fun h => h)) (by omega) 0)) hS52 ?_
                      refine hv rfl (fun _ _ => xassign rfl) hS52 ?_
                      refine lhend ?_
                      exact ⟨rfl, mkB s, _, env_okl ⟨rfl, rfl, rfl, rfl, rfl, rfl, rfl, rfl, rfl, trivial⟩, ⟨hJ50, (rfl)⟩⟩
                    · skip
                      refine wp_skip ?_
                      exact ⟨rfl, na, _, env_okl ⟨rfl, rfl, rfl, rfl, rfl, rfl, rfl, rfl, rfl, trivial⟩, ⟨hJ50, (hna.resolve_left (by simpa using hb))⟩⟩
                  · skip
                    rintro nb _ w53 ⟨hJ50, hnb⟩
                    have z54 := hJ50.size
                    have hN := hN.keep hJ50 (by omega) (fun h => h)
                    have hf := hf.step0 hJ50
                    have hv1 := hv1.keep hJ50 (fun h => h)
                    have hC1 := hC1.keep hJ50 (fun _ _ h => h)
                    have hL9 := hL9.step0 hJ50
                    refine nThen ?_
                    refine forget_wp [(0, _), (1, _), (2, _), (3, _), (10, _), (11, _), (12, _), (13, _), (17, _)] ⟨rfl, rfl, rfl, rfl, rfl, rfl, rfl, rfl, rfl, trivial⟩ fun _ => ?_
                    refine lreg ?_
                    refine sv (xmove rfl) ?_
                    refine sv (xmove rfl) ?_
                    refine sv (xmove rfl) ?_
                    refine sv (xcutSL st9 rfl rfl rfl (by rw [hnb, mkB_size]; omega)) ?_
                    refine sv (xmove rfl) ?_
                    refine sv (xconv hs3 ki22 rfl (wu16n (UInt16.ofNat (pos + q.length)).toNat (by rw [UInt16.toNat_ofNat']; omega))) ?_
                    refine suK (xput (v := UInt16.ofNat (pos + q.length)) mp146 st9 (show Mp w53 gm M from hC1) (by rw [hnb, extr_drop]; exact hlk) rfl rfl rfl) ?_
                    rintro w55 ⟨m56, hP, hsz⟩
                    have hN := hN.keep m56 (by omega) (by show ¬ (bo = gm); omega)
                    have hf := hf.step m56 (fun k hk hS => by have hS : k = gm := hS; show k = g ∨ k = gm; omega)
                    have hv1 := hv1.keep m56 (by show ¬ (gv = gm); omega)
                    have hL9 := hL9.step m56 (fun k hk hS => by have hS : k = gm := hS; show k = g ∨ k = gm; omega)
                    rw [hnb, extr_drop] at hP
                    have hC1 : Cmp w55 (some gm) (some (M ++ [(mkB (s.drop i), UInt16.ofNat (pos + q.length))])) := hP
                    refine lend ?_
                    refine nBlock ?_
                    refine nThen ?_
                    refine forget_wp [(0, _), (1, _), (2, _), (3, _), (10, _), (11, _), (12, _), (13, _)] ⟨rfl, rfl, rfl, rfl, rfl, rfl, rfl, rfl, trivial⟩ fun _ => ?_
                    refine lreg ?_
                    refine sv (xmove rfl) ?_
                    refine sv (xadd rfl rfl (w64 (by omega) (by omega))) ?_
                    refine sv (xassign rfl) ?_
                    refine lend ?_
                    refine nThen ?_
                    have hll := lab_len hlab (by omega)
                    have hdr := drop_one (s := s) (i := i) (by omega)
                    rw [hdr] at hE hng
                    have hng2 := nameGo_let hng (u8ne hc76)
                    obtain rfl : lab = [] := lab_first hlab hbi hnd (by omega) (by first | exact .inl hc114 | exact .inr ⟨by omega, hc123⟩)
                    rw [hdr] at hlk
                    rw [hdr] at hC1
                    refine ⟨(i + 1, bg, _, gv, q, [] ++ [s[i]], some (M ++ [(mkB (s.drop i), UInt16.ofNat (pos + q.length))]), nb), _, env_okl ⟨rfl, rfl, rfl, rfl, rfl, rfl, rfl, rfl, trivial⟩, ⟨hL9, (by omega), (by omega), (hv1), (by omega), (by omega), (by rw [hdr]; exact hC1), (by rw [← hE, pk_miss (u8ne hc76) hlk, if_pos (by omega), List.nil_append, hdr]), (lab_next hlab hbi (by omega)), (by simpa using hng2), (.inr hnb), (fun h => by omega), (fun x hx => (List.mem_append.1 hx).elim (hnd x) (fun h => by simp at h; subst h; exact u8ne hc76)), (by simp at hol ⊢; omega)⟩, ?_⟩
                    show s.length - (i + 1) < s.length - i; omega
                · skip
                  refine send ?_
                  refine forget_wp [(0, _), (1, _), (2, _), (3, _), (10, _), (11, _), (12, _), (13, _), (17, _), (159, _)] ⟨rfl, rfl, rfl, rfl, rfl, rfl, rfl, rfl, rfl, rfl, trivial⟩ fun _ => ?_
                  refine cno rfl ?_
                  refine wp_skip ?_
                  refine nBlock ?_
                  refine nThen ?_
                  refine forget_wp [(0, _), (1, _), (2, _), (3, _), (10, _), (11, _), (12, _), (13, _)] ⟨rfl, rfl, rfl, rfl, rfl, rfl, rfl, rfl, trivial⟩ fun _ => ?_
                  refine lreg ?_
                  refine sv (xmove rfl) ?_
                  refine sv (xadd rfl rfl (w64 (by omega) (by omega))) ?_
                  refine sv (xassign rfl) ?_
                  refine lend ?_
                  refine nThen ?_
                  have hll := lab_len hlab (by omega)
                  have hdr := drop_one (s := s) (i := i) (by omega)
                  rw [hdr] at hE hng
                  have hng2 := nameGo_let hng (u8ne hc76)
                  obtain rfl : lab = [] := lab_first hlab hbi hnd (by omega) (by first | exact .inl hc114 | exact .inr ⟨by omega, hc123⟩)
                  rw [hdr] at hlk
                  refine ⟨(i + 1, bg, _, gv, q, [] ++ [s[i]], some M, na), _, env_okl ⟨rfl, rfl, rfl, rfl, rfl, rfl, rfl, rfl, trivial⟩, ⟨hL9, (by omega), (by omega), (hv1), (by omega), (by omega), (hC1), (by rw [← hE, pk_miss (u8ne hc76) hlk, if_neg (by omega), List.nil_append]), (lab_next hlab hbi (by omega)), (by simpa using hng2), (hna), (fun h => by omega), (fun x hx => (List.mem_append.1 hx).elim (hnd x) (fun h => by simp at h; subst h; exact u8ne hc76)), (by simp at hol ⊢; omega)⟩, ?_⟩
                  show s.length - (i + 1) < s.length - i; omega
            · skip
              refine sv (xpickT rfl rfl) ?_
              refine send ?_
              refine forget_wp [(0, _), (1, _), (2, _), (3, _), (10, _), (11, _), (12, _), (13, _), (128, _)] ⟨rfl, rfl, rfl, rfl, rfl, rfl, rfl, rfl, rfl, trivial⟩ fun _ => ?_
              refine cno rfl ?_
              refine wp_skip ?_
              refine nBlock ?_
              refine nThen ?_
              refine forget_wp [(0, _), (1, _), (2, _), (3, _), (10, _), (11, _), (12, _), (13, _)] ⟨rfl, rfl, rfl, rfl, rfl, rfl, rfl, rfl, trivial⟩ fun _ => ?_
              refine lreg ?_
              refine sv (xmove rfl) ?_
              refine sv (xadd rfl rfl (w64 (by omega) (by omega))) ?_
              refine sv (xassign rfl) ?_
              refine lend ?_
              refine nThen ?_
              have hll := lab_len hlab (by omega)
              have hdr := drop_one (s := s) (i := i) (by omega)
              rw [hdr] at hE hng
              have hng2 := nameGo_let hng (u8ne hc76)
              have hside : lab ≠ [] ∨ C1 = none := by first | exact .inr (Cmp.none hC1) | exact .inl (lab_mid hfst hll hbi hc114 (by omega) hc123)
              refine ⟨(i + 1, bg, _, gv, q, lab ++ [s[i]], C1, na), _, env_okl ⟨rfl, rfl, rfl, rfl, rfl, rfl, rfl, rfl, trivial⟩, ⟨hL9, (by omega), (by omega), (hv1), (by omega), (by omega), (hC1), (by rw [← hE, pk_next (u8ne hc76) hside]), (lab_next hlab hbi (by omega)), (by simpa using hng2), (hna), (fun h => by omega), (fun x hx => (List.mem_append.1 hx).elim (hnd x) (fun h => by simp at h; subst h; exact u8ne hc76)), (by simp at hol ⊢; omega)⟩, ?_⟩
              show s.length - (i + 1) < s.length - i; omega
          · skip
            refine sv (xpickF rfl rfl) ?_
            refine sv (xmove rfl) ?_
            refine gno rfl rfl rfl ?_
            refine gno rfl rfl rfl ?_
            refine sv (xpickF rfl rfl) ?_
            refine send ?_
            refine forget_wp [(0, _), (1, _), (2, _), (3, _), (10, _), (11, _), (12, _), (13, _), (128, _)] ⟨rfl, rfl, rfl, rfl, rfl, rfl, rfl, rfl, rfl, trivial⟩ fun _ => ?_
            refine cno rfl ?_
            refine wp_skip ?_
            refine nBlock ?_
            refine nThen ?_
            refine forget_wp [(0, _), (1, _), (2, _), (3, _), (10, _), (11, _), (12, _), (13, _)] ⟨rfl, rfl, rfl, rfl, rfl, rfl, rfl, rfl, trivial⟩ fun _ => ?_
            refine lreg ?_
            refine sv (xmove rfl) ?_
            refine sv (xadd rfl rfl (w64 (by omega) (by omega))) ?_
            refine sv (xassign rfl) ?_
            refine lend ?_
            refine nThen ?_
            have hll := lab_len hlab (by omega)
            have hdr := drop_one (s := s) (i := i) (by omega)
            rw [hdr] at hE hng
            have hng2 := nameGo_let hng (u8ne hc76)
            have hside : lab ≠ [] ∨ C1 = none := by first | exact .inr (Cmp.none hC1) | exact .inl (lab_mid hfst hll hbi hc114 (by omega) hc123)
            refine ⟨(i + 1, bg, _, gv, q, lab ++ [s[i]], C1, na), _, env_okl ⟨rfl, rfl, rfl, rfl, rfl, rfl, rfl, rfl, trivial⟩, ⟨hL9, (by omega), (by omega), (hv1), (by omega), (by omega), (hC1), (by rw [← hE, pk_next (u8ne hc76) hside]), (lab_next hlab hbi (by omega)), (by simpa using hng2), (hna), (fun h => by omega), (fun x hx => (List.mem_append.1 hx).elim (hnd x) (fun h => by simp at h; subst h; exact u8ne hc76)), (by simp at hol ⊢; omega)⟩, ?_⟩
            show s.length - (i + 1) < s.length - i; omega
    · skip
      refine send ?_
      refine forget_wp [(0, _), (1, _), (2, _), (3, _), (10, _), (11, _), (12, _), (13, _), (67, _)] ⟨rfl, rfl, rfl, rfl, rfl, rfl, rfl, rfl, rfl, trivial⟩ fun _ => ?_
      refine cno rfl ?_
      refine wp_exit ?_
      refine eThen ?_
      refine eThen ?_
      refine eHit ?_
      refine nThen ?_
      refine forget_wp [(1, _)] ⟨rfl, trivial⟩ fun _ => ?_
      refine sreg ?_
      refine sv (xmove rfl) ?_
      refine svK (xslit (bvs [0]) sl37 in5 rfl (by decide) rfl rfl rfl rfl (by decide) (by simp [bvs, bv, Value.cells]) (bvs_one _)) ?_
      rintro _ w58 ⟨b178, rfl, m59, h178, e178, s178, r178⟩
      have hN := hN.keep m59 (by omega) (fun h => h)
      have hf := hf.step0 m59
      have hv1 := hv1.keep m59 (fun h => h)
      have hC1 := hC1.keep m59 (fun _ _ h => h)
      refine svK (xapp sl37 in5 rfl (by decide) rfl rfl hv1 (r178.src sl37) (by simp only [maxLen]; omega) (by omega)) ?_
      rintro _ w60 ⟨g179, r179, m61, a179, l179⟩
      have z62 := m61.size
      have hN := hN.keep m61 (by omega) (by show ¬ (bo = gv); omega)
      have hf := hf.step m61 (fun k hk hS => by have hS : k = gv := hS; show k = g ∨ k = gm; omega)
      have hC1 := hC1.keep m61 (fun b hb => by have hb := hm b hb; show ¬ (b = gv); omega)
      obtain ⟨p179, q179, rfl, -⟩ := r179.form
      refine sv (xassign rfl) ?_
      refine sv (xassign rfl) ?_
      refine send ?_
      refine forget_wp [(8, _), (9, _)] ⟨rfl, rfl, trivial⟩ fun _ => ?_
      refine wp_ret ?_
      refine rp2 rfl rfl rfl ?_
      have ed : s.drop i = [] := List.drop_eq_nil_of_le (by omega)
      rw [ed] at hE hng
      obtain rfl : lab = [] := List.eq_nil_of_length_eq_zero (by simpa [nameGo] using hng)
      simp only [packGo] at hE
      obtain ⟨e1, e2⟩ := pkE_eq hE
      rw [packName, if_neg hgo.1]
      rw [← e1, ← e2]
      exact app_ofC (out := q ++ [0]) r179 (by simp; omega) (by simp [bvs_app]) hf (by omega) (l179 (by omega)) hC1
end Go.Proofs.YtifnodoffgfpbaaGreatDoor
