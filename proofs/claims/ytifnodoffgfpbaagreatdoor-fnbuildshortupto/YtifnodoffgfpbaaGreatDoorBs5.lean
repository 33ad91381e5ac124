/- Part 5 of the texts for a law of this seat: walks, and plain laws about messages; conditions: none. -/
import Derived.Test.YtifnodoffgfpbaaGreatDoorBs4
namespace Go.Proofs.YtifnodoffgfpbaaGreatDoor
open Go

theorem rd_cast {w : World} {br bb ob cb p q : Nat} {b : List UInt8} {wh : Bool} (h : SB w br lRd (rdSegs bb ob cb b p wh)) (hp : p = q) : SB w br lRd (rdSegs bb ob cb b q wh) := by subst hp; exact h
abbrev NoU : Nat → Prop := fun _ => False
/-- a record as it is begun, and with its kind -/
def recA (r : RecD) (len : UInt16) : RecD := { name := r.name, typ := typeN r, cls := r.cls, ttl := r.ttl, len := len, kind := 0, data := [], host := emptyB, box := emptyB, n1 := 0, n2 := 0, n3 := 0, n4 := 0, n5 := 0, texts := [], pairs := [] }
def rec0 (r : RecD) (len : UInt16) : RecD := { name := r.name, typ := typeN r, cls := r.cls, ttl := r.ttl, len := len, kind := r.kind, data := [], host := emptyB, box := emptyB, n1 := 0, n2 := 0, n3 := 0, n4 := 0, n5 := 0, texts := [], pairs := [] }
def m16 (x : UInt32) : UInt32 := UInt32.ofNat (x.toNat % 65536)
theorem norm_a {r : RecD} {len : UInt16} (h : r.kind = 1) : normR r len = { rec0 r len with data := fixedL r.data 4 } := by simp [normR, rec0, h]
theorem norm_aaaa {r : RecD} {len : UInt16} (h : r.kind = 8) : normR r len = { rec0 r len with data := fixedL r.data 16 } := by simp [normR, rec0, h]
theorem norm_ns {r : RecD} {len : UInt16} (h : r.kind = 2 ∨ r.kind = 3 ∨ r.kind = 5) : normR r len = { rec0 r len with host := r.host } := by rcases h with h | h | h <;> simp [normR, rec0, h]
theorem norm_mx {r : RecD} {len : UInt16} (h : r.kind = 6) : normR r len = { rec0 r len with n1 := m16 r.n1, host := r.host } := by simp [normR, rec0, h, m16]
theorem norm_soa {r : RecD} {len : UInt16} (h : r.kind = 4) : normR r len = { rec0 r len with host := r.host, box := r.box, n1 := r.n1, n2 := r.n2, n3 := r.n3, n4 := r.n4, n5 := r.n5 } := by simp [normR, rec0, h]
theorem norm_txt {r : RecD} {len : UInt16} (h : r.kind = 7) : normR r len = { rec0 r len with texts := r.texts } := by simp [normR, rec0, h]
theorem norm_srv {r : RecD} {len : UInt16} (h : r.kind = 9) : normR r len = { rec0 r len with n1 := m16 r.n1, n2 := m16 r.n2, n3 := m16 r.n3, host := r.host } := by simp [normR, rec0, h, m16]
theorem norm_opt {r : RecD} {len : UInt16} (h : r.kind = 10) : normR r len = { rec0 r len with pairs := r.pairs } := by simp [normR, rec0, h]
theorem norm_svc {r : RecD} {len : UInt16} (h : r.kind = 11 ∨ r.kind = 12) : normR r len = { rec0 r len with n1 := m16 r.n1, host := r.host, pairs := r.pairs } := by rcases h with h | h <;> simp [normR, rec0, h, m16]
theorem norm_unk {r : RecD} {len : UInt16} (h : r.kind = 13) : normR r len = { rec0 r len with data := r.data } := by simp [normR, rec0, h]
theorem m16_nat (x : UInt32) : (m16 x).toNat = x.toNat % 65536 := u32mod x
theorem texts_at {b : List UInt8} {p : Nat} {ts : List ByteArray} (h : Std b p (textsL ts)) {k : Nat} {t : ByteArray} (hk : ts[k]? = some t) : Std b (p + (textsL (ts.take k)).length) (textL t) := by
  have e : ts = ts.take (k + 1) ++ ts.drop (k + 1) := (List.take_append_drop _ _).symm
  rw [e, textsL, List.map_append, List.flatten_append, take_snoc hk, List.map_append, List.flatten_append] at h
  have := h.left.right
  rw [List.map_cons, List.map_nil, List.flatten_cons, List.flatten_nil, List.append_nil] at this
  exact this
theorem texts_take_lt {ts : List ByteArray} {k : Nat} {t : ByteArray} (hk : ts[k]? = some t) : (textsL (ts.take k)).length + 1 + t.size ≤ (textsL ts).length := by
  have h : (ts.map textL)[k]? = some (textL t) := by rw [List.getElem?_map, hk]; rfl
  have := flat_take_le h
  rw [← List.map_take] at this
  simp only [textsL]
  simp only [textL, List.length_cons, bt_length] at this
  omega
theorem std16 {b : List UInt8} {p n : Nat} (h : Std b p (be16 n)) : Std b p (be16 (n % 65536)) := by rw [be16_mod]; exact h
theorem body_bound {K : Nat → Prop} {b : List UInt8} {p e : Nat} {r : RecD} (h : BodyR K b p r e) (h1 : 1 ≤ r.kind) (h13 : r.kind ≤ 13) : p ≤ e := by
  obtain ⟨h2, h6, h4, h9, h11, ho⟩ := h
  have hk : r.kind = 2 ∨ r.kind = 3 ∨ r.kind = 5 ∨ r.kind = 6 ∨ r.kind = 4 ∨ r.kind = 9 ∨ (r.kind = 11 ∨ r.kind = 12) ∨ (r.kind = 1 ∨ r.kind = 7 ∨ r.kind = 8 ∨ r.kind = 10 ∨ r.kind = 13) := by omega
  have nl : ∀ {k i e : Nat} {s : List UInt8}, NameAt b k i s e → i < e := fun h => h.le.1
  rcases hk with h | h | h | h | h | h | h | h
  · obtain ⟨k, _, hk⟩ := h2 (by omega); have := nl hk; omega
  · obtain ⟨k, _, hk⟩ := h2 (by omega); have := nl hk; omega
  · obtain ⟨k, _, hk⟩ := h2 (by omega); have := nl hk; omega
  · obtain ⟨_, k, _, hk⟩ := h6 h; have := nl hk; omega
  · obtain ⟨e1, e2, ⟨k, _, hk⟩, ⟨k2, _, hk2⟩, _, _⟩ := h4 h; have := nl hk; have := nl hk2; omega
  · have := nl (h9 h).2; omega
  · obtain ⟨_, e1, hn, _, _⟩ := h11 h; have := nl hn; omega
  · have := (ho h).2; omega

set_option maxHeartbeats 4000000 in
set_option maxRecDepth 100000 in
theorem c192 {w : World} {br bb ob cb : Nat} {b : List UInt8} {p : Nat} {wh : Bool} (hr : SB w br lRd (rdSegs bb ob cb b p wh)) (hB : w.rangeAt bb ob (bvs b)) (hbb : bb < w.heap.size) (hbr : bb ≠ br) (hcb : b.length ≤ cb) (hbl : b.length < 100000000) {e : Nat} {S : List UInt8} (hN : NameAt b 0 p S e) (hS : nameL S) :
  Ret PP 192 [.pointer (some ⟨br, 0, none⟩)] w (fun u w' => u = .string (mkB S) ∧ SB w' br lRd (rdSegs bb ob cb b e wh) ∧ Fr (fun k => k = br) w w') := by
 have hf : Fr (fun k => k = br) w w := Fr.refl _ _
 have z_hr := hr.lt
 refine ret_of Tryz.func192 rfl rfl rfl [(0, _)] rfl ?_
 refine sreg (sA rfl (send (fg [(0, _)] ⟨rfl, ⟨⟩⟩ fun _ => (sreg (sM rfl (sN rfl (sv (xfld fl95_3 rfl) (sv (xld on4 rfl (hr.r.c 3 rfl rfl)) (sA rfl (send (fg [(0, _), (3, _)] ⟨rfl, rfl, ⟨⟩⟩ fun _ => (sreg (sM rfl (sN rfl (sv (xfld fl95_3 rfl) ?_)))))))))))))))
 refine suK (xstF 3 sz4 hr rfl rfl rfl rfl rfl) ?_
 rintro w2 ⟨m3, hr, s1⟩
 have hB := rng_fr hB m3 (by omega) (by show ¬ (bb = br); omega)
 have hf := hf.step m3 (fun k hk hS => by have hS : k = br := hS; show k = br; omega)
 refine send (fg [(0, _), (3, _)] ⟨rfl, rfl, ⟨⟩⟩ fun _ => (sreg (sM rfl ?_)))
 refine sc (xcall ca42 rfl) (c42 (bb := bb) (ob := ob) (cb := cb) (b := b) (p := p) (wh := true) (K := 0) (e := e) (S := S) hr hB (by omega) (by omega) hcb hbl hN hS) ?_
 rintro _ w4 ⟨rfl, hr, m5⟩
 have z6 := m5.size
 have hf := hf.step m5 (fun k hk hS => by have hS : k = br := hS; show k = br; omega)
 have hr : SB w4 br lRd (rdSegs bb ob cb b e true) := hr
 refine sA rfl (send (fg [(0, _), (3, _), (4, _)] ⟨rfl, rfl, rfl, ⟨⟩⟩ fun _ => (sreg (sM rfl (sM rfl (sN rfl (sv (xfld fl95_2 rfl) (sv (xld on4 rfl (hr.r.c 2 rfl rfl)) (sM rfl (gyes rfl rfl rfl (sM rfl (gyes rfl rfl rfl (sN rfl (gyes rfl rfl rfl (sv (xfld fl95_3 rfl) (gyes rfl rfl rfl (sv (xld on4 rfl (hr.r.c 3 rfl rfl)) (gyes rfl rfl rfl (sv (xnot rfl) (sv (xpickF rfl rfl) (sN rfl (sv (xfld fl95_2 rfl) ?_))))))))))))))))))))))
 refine suK (xstF 2 sz4 hr rfl rfl rfl rfl rfl) ?_
 rintro w8 ⟨m9, hr, s7⟩
 have hf := hf.step m9 (fun k hk hS => by have hS : k = br := hS; show k = br; omega)
 refine send (fg [(0, _), (3, _), (4, _)] ⟨rfl, rfl, rfl, ⟨⟩⟩ fun _ => (sreg (sM rfl (sM rfl (sN rfl (sv (xfld fl95_3 rfl) ?_))))))
 refine suK (xstF 3 sz4 hr rfl rfl rfl rfl rfl) ?_
 rintro w11 ⟨m12, hr, s10⟩
 have hf := hf.step m12 (fun k hk hS => by have hS : k = br := hS; show k = br; omega)
 refine send (fg [(4, _)] ⟨rfl, ⟨⟩⟩ fun _ => (sreg (sM rfl (sA rfl (send (fg [(2, _)] ⟨rfl, ⟨⟩⟩ fun _ => (wp_ret ?_)))))))
 refine rp1 rfl rfl ?_
 exact ⟨rfl, hr, hf⟩
set_option maxHeartbeats 4000000 in
set_option maxRecDepth 100000 in
theorem c193 {w : World} {br bb ob cb : Nat} {b : List UInt8} {p : Nat} {wh : Bool} (hr : SB w br lRd (rdSegs bb ob cb b p wh)) (hB : w.rangeAt bb ob (bvs b)) (hbb : bb < w.heap.size) (hbr : bb ≠ br) (hcb : b.length ≤ cb) (hbl : b.length < 100000000) {e : Nat} {ps : List PairD} (hps : Std b p (pairsL ps)) (he : e = p + (pairsL ps).length) (hpe : e ≤ b.length) (hpl : ∀ q ∈ ps, q.data.length ≤ 65535) :
  Ret PP 193 [.pointer (some ⟨br, 0, none⟩), .int .i64 (e : Int)] w (fun u w' => LA PairEl lPair (Ub NoU w w') w' u ps ∧ SB w' br lRd (rdSegs bb ob cb b e wh) ∧ Fr (fun k => k = br) w w') := by
 have hU : ∀ k, NoU k → k < w.heap.size ∧ k ≠ br := fun _ h => h.elim
 have hn4 : 4 * ps.length ≤ (pairsL ps).length := by rw [pairsL_length]; omega
 have hf : Fr (fun k => k = br) w w := Fr.refl _ _
 have z_hr := hr.lt
 refine ret_of Tryz.func193 rfl rfl rfl [(0, _), (1, _)] rfl ?_
 refine sreg (sA rfl (send (fg [(0, _), (1, _)] ⟨rfl, rfl, ⟨⟩⟩ fun _ => (sreg ?_))))
 refine svK (xslit ([]) sl63 in67 rfl (by decide) rfl rfl rfl rfl (by decide) rfl rfl) ?_
 rintro _ w2 ⟨b8, rfl, m3, h8, e8, s8, r8⟩
 have hr := hr.keep m3 id
 have hB := rng_fr hB m3 (by omega) id
 have hf := hf.step0 m3
 have hv5 : RX PairEl lPair NoU w.heap.size w2.heap.size w2 _ b8 67 0 [] := RX.ofNil r8
 refine sA rfl (send (fg [(0, _), (1, _), (5, _)] ⟨rfl, rfl, rfl, ⟨⟩⟩ fun _ => (wp_seq (wp_block ?_))))
 refine lp [(0, _), (1, _)] (fun (x : Nat × Value × Nat) => match x with | (k, v, g) => [(5, v)]) (fun (x : Nat × Value × Nat) wx => match x with | (k, v, g) => Fr (fun k => k = b8 ∨ k = br) w2 wx ∧ (k ≤ ps.length) ∧ (SB wx br lRd (rdSegs bb ob cb b (p + (pairsL (ps.take k)).length) wh)) ∧ (RX PairEl lPair NoU w.heap.size wx.heap.size wx v g 67 k (ps.take k)) ∧ (w.heap.size ≤ g) ∧ (g < wx.heap.size) ∧ (g = b8 ∨ w2.heap.size ≤ g)) (fun (x : Nat × Value × Nat) => match x with | (k, v, g) => ps.length - k) (0, _, b8) ⟨rfl, rfl, rfl, trivial⟩ ⟨Fr.refl _ _, Nat.zero_le _, by simpa [pairsL] using hr, hv5, by omega, by omega, .inl rfl⟩ ?_
 rintro ⟨k, v, g⟩ _ w5 ⟨hL4, hk, hr, hv5, hg, hg2, hg3⟩
 refine fg [(0, _), (1, _), (5, _)] ⟨rfl, rfl, rfl, ⟨⟩⟩ fun _ => ?_
 have z6 := hL4.size
 have hB := rng_fr hB hL4 (by omega) (by show ¬ (bb = b8 ∨ bb = br); omega)
 have hf := hf.step hL4 (fun k hk hS => by have hS : k = b8 ∨ k = br := hS; show k = br; omega)
 obtain ⟨a5, c5, rfl⟩ := RA.form hv5
 refine wp_seq (sreg (sM rfl (sN rfl (sv (xfld fl95_2 rfl) (sv (xld on4 rfl (hr.r.c 2 rfl rfl)) (sv (xnot rfl) (sM rfl (gyes rfl rfl rfl (sM rfl (gyes rfl rfl rfl (sN rfl (gyes rfl rfl rfl (sv (xfld fl95_1 rfl) (gyes rfl rfl rfl (sv (xld on3 rfl (hr.r.c 1 rfl rfl)) (gyes rfl rfl rfl (sM rfl (gyes rfl rfl rfl ?_))))))))))))))))))
 refine svP (xlss rfl rfl) (fun hc20 => ?_) (fun hc20 => ?_)
 ·
  refine sv (xpickT rfl rfl) (send (fg [(0, _), (1, _), (5, _), (21, _)] ⟨rfl, rfl, rfl, rfl, ⟨⟩⟩ fun _ => (cyes rfl (wp_skip (nThen (fg [(0, _), (1, _), (5, _)] ⟨rfl, rfl, rfl, ⟨⟩⟩ fun _ => (wp_block ?_)))))))
  have hkl : k < ps.length := by rcases Nat.lt_or_ge k ps.length with h | h; exact h; rw [List.take_of_length_le h] at hc20; omega
  obtain ⟨q, hqk⟩ := some_of_lt (by omega : k < ps.length)
  have hqs := pairs_at hps hqk
  have hqt := pairs_take_lt hqk
  have hqd := hpl q (List.mem_of_getElem? hqk)
  simp only [pairL] at hqs
  refine sreg (sM rfl ?_)
  refine sc (xcall ca41 rfl) (c41 (bb := bb) (ob := ob) (cb := cb) (b := b) (x := q.key.toNat) hr hB (by omega) (by omega) hcb hbl (u16lt _) (hqs.left)) ?_
  rintro _ w7 ⟨rfl, hr, m8⟩
  have z9 := m8.size
  have hB := rng_fr hB m8 (by omega) (by show ¬ (bb = br); omega)
  have hf := hf.step m8 (fun k hk hS => by have hS : k = br := hS; show k = br; omega)
  have hv5 := RX.keep hv5 pair_st (fun k hk => by have hk := hU k hk; omega) (by omega) m8 (fun k hk hk3 hS => by have hS : k = br := hS; rcases hk with hk | hk <;> first | omega | (have := hU k hk; omega)) (by show ¬ (g = br); omega)
  have hL4 := hL4.step m8 (fun k hk hS => by have hS : k = br := hS; show k = b8 ∨ k = br; omega)
  refine sA rfl (send (fg [(0, _), (1, _), (5, _), (6, _)] ⟨rfl, rfl, rfl, rfl, ⟨⟩⟩ fun _ => (sreg (sM rfl ?_))))
  refine sc (xcall ca41 rfl) (c41 (bb := bb) (ob := ob) (cb := cb) (b := b) (x := q.data.length) hr hB (by omega) (by omega) hcb hbl (by omega) ((hqs.right' rfl).left)) ?_
  rintro _ w10 ⟨rfl, hr, m11⟩
  have z12 := m11.size
  have hB := rng_fr hB m11 (by omega) (by show ¬ (bb = br); omega)
  have hf := hf.step m11 (fun k hk hS => by have hS : k = br := hS; show k = br; omega)
  have hv5 := RX.keep hv5 pair_st (fun k hk => by have hk := hU k hk; omega) (by omega) m11 (fun k hk hk3 hS => by have hS : k = br := hS; rcases hk with hk | hk <;> first | omega | (have := hU k hk; omega)) (by show ¬ (g = br); omega)
  have hL4 := hL4.step m11 (fun k hk hS => by have hS : k = br := hS; show k = b8 ∨ k = br; omega)
  refine sv (xconv hs22 ki3 rfl (w64 (by omega) (by omega))) (sA rfl (send (fg [(0, _), (1, _), (5, _), (6, _), (7, _)] ⟨rfl, rfl, rfl, rfl, rfl, ⟨⟩⟩ fun _ => (lreg (sM rfl (sM rfl (sM rfl (sM rfl ?_))))))))
  refine sc (xcall ca94 rfl) (c94 (bb := bb) (ob := ob) (cb := cb) (b := b) (xs := q.data) (k := q.data.length) hr hB (by omega) (by omega) hcb hbl (((hqs.right' rfl).right' rfl)) (rfl) (by omega)) ?_
  rintro _ w13 ⟨o31, c31, rfl, n31, hr, m14⟩
  have z15 := m14.size
  have hf := hf.step m14 (fun k hk hS => by have hS : k = br := hS; show k = br; omega)
  have hv5 := RX.keep hv5 pair_st (fun k hk => by have hk := hU k hk; omega) (by omega) m14 (fun k hk hk3 hS => by have hS : k = br := hS; rcases hk with hk | hk <;> first | omega | (have := hU k hk; omega)) (by show ¬ (g = br); omega)
  have hL4 := hL4.step m14 (fun k hk hS => by have hS : k = br := hS; show k = b8 ∨ k = br; omega)
  refine svK (xslit [_] sl105 in37 rfl (by decide) rfl rfl rfl rfl (by decide) rfl rfl) ?_
  rintro _ w17 ⟨b32, rfl, m18, h32, e32, s32, r32⟩
  have hf := hf.step0 m18
  have hv5 := RX.keep hv5 pair_st (fun k hk => by have hk := hU k hk; omega) (by omega) m18 (fun _ _ _ h => h) id
  have hL4 := hL4.step0 m18
  have hr := hr.keep m18 id
  have n31 := rng_fr n31 m18 (by omega) id
  refine sc (xcall ca21 rfl) (c21_1 (U := fun k => k = bb) (bs := q.data) (Rw.rng r32) (by omega) (fun k hk => by have hk : k = bb := hk; omega) (take_ba n31 (rfl)) (by omega)) ?_
  rintro _ w19 ⟨p33, q33, g33, rfl, r33, m20, a33, l33⟩
  have z21 := m20.size
  have hf := hf.step0 m20
  have hv5 := RX.keep hv5 pair_st (fun k hk => by have hk := hU k hk; omega) (by omega) m20 (fun _ _ _ h => h) id
  have hL4 := hL4.step0 m20
  have hr := hr.keep m20 id
  refine sv (xbuildS (pairSegs q (.slice p33 q.data.length q33)) zr67 ly67 rfl (by simp [fitAll, zs67, Value.cells]) rfl) ?_
  refine svK (xslit ((pairSegs q (.slice p33 q.data.length q33)).flatten) sl63 in67 rfl (by decide) rfl rfl rfl rfl (by decide) rfl rfl) ?_
  rintro _ w23 ⟨b35, rfl, m24, h35, e35, s35, r35⟩
  have hf := hf.step0 m24
  have hv5 := RX.keep hv5 pair_st (fun k hk => by have hk := hU k hk; omega) (by omega) m24 (fun _ _ _ h => h) id
  have hL4 := hL4.step0 m24
  have hr := hr.keep m24 id
  have r33 := r33.keep m24 id
  obtain ⟨ss36, hR36, hA36⟩ := hv5
  refine svK (xapp sl63 in67 rfl (by decide) rfl rfl hR36 (r35.src sl63) (by simp only [maxLen]; omega) (by omega)) ?_
  rintro v36 w25 ⟨g36, r36, m26, a36, l36⟩
  have z27 := m26.size
  have hf := hf.step m26 (fun k hk hS => by have hS : k = g := hS; show k = br; omega)
  have hL4 := hL4.step m26 (fun k hk hS => by have hS : k = g := hS; show k = b8 ∨ k = br; omega)
  have hr := hr.keep m26 (by show ¬ (br = g); omega)
  have r33 := r33.keep m26 (by show ¬ (g33 = g); omega)
  have hv5 := RX.snoc (x := q) w25.heap.size hA36 pair_st pair_gr (fun k hk => by have hk := hU k hk; omega) (by omega) (by omega) m26 a36 r36 rfl (⟨_, rfl, BR.ba (show BR _ _ _ _ q.data from r33) ⟨.inr ⟨by omega, by omega⟩, by omega⟩⟩)
  refine sA rfl (lend (nBlock (nThen ?_)))
  refine ⟨(k + 1, _, g36), _, env_okl ⟨rfl, rfl, rfl, trivial⟩, ⟨hL4, (by omega), (rd_cast hr (by rw [pairs_snoc hqk]; simp only [pairL, List.length_append, be16_length]; omega)), (by rw [take_snoc hqk]; exact RX.up pair_gr hv5 (by omega)), (by omega), (l36 (by omega)), (by omega)⟩, ?_⟩
  show ps.length - (k + 1) < ps.length - k; omega
 ·
  refine sv (xpickT rfl rfl) (send (fg [(0, _), (1, _), (5, _), (21, _)] ⟨rfl, rfl, rfl, rfl, ⟨⟩⟩ fun _ => (cno rfl (wp_exit (eThen (eThen (eHit (nThen (fg [(5, _)] ⟨rfl, ⟨⟩⟩ fun _ => (sreg (sM rfl (sA rfl (send (fg [(4, _)] ⟨rfl, ⟨⟩⟩ fun _ => (wp_ret ?_)))))))))))))))
  refine rp1 rfl rfl ?_
  have hkl : ps.length ≤ k := by rcases Nat.lt_or_ge k ps.length with h | h; exact absurd (pairs_take_lt (List.getElem?_eq_getElem h)) (by omega); exact h
  have e1 : ps.take k = ps := List.take_of_length_le hkl
  rw [e1] at hv5 hr
  rw [← he] at hr
  exact ⟨RX.la hv5 (by decide) pair_gr (fun k hk => hk.elim .inl .inr) (.inr ⟨hg, hg2⟩), hr, hf⟩
end Go.Proofs.YtifnodoffgfpbaaGreatDoor

namespace Go.Proofs.YtifnodoffgfpbaaGreatDoor
open Go

theorem la_texts {U' : Nat → Prop} {w : World} {v : Value} {g n : Nat} {ts : List ByteArray} (h : Rw w v g 9 1 n (strs ts)) (hn : n = ts.length) (hU : 0 < n → U' g) : LA TextEl [1] U' w v ts := by
  subst hn
  cases ts with
  | nil =>
    obtain ⟨a, c, rfl, -⟩ := h.form
    exact LA.nil
  | cons t ts => exact RA.la (RA.texts (U := NoU) h) (by decide) text_gr (fun _ h => h.elim) (hU (by simp))
theorem strs_snoc {ts : List ByteArray} {k : Nat} {t : ByteArray} (h : ts[k]? = some t) : strs (ts.take (k + 1)) = strs (ts.take k) ++ [.string t] := by
  rw [take_snoc h]; simp [strs]
/-- what a record must be so that it is read as it is -/
def ReadOk (r : RecD) : Prop := 1 ≤ r.kind ∧ r.kind ≤ 13 ∧ NamesOk r ∧ (∀ q ∈ r.pairs, q.data.length ≤ 65535) ∧ (r.kind = 7 → ∀ t ∈ r.texts, t.size ≤ 255) ∧ plainR r
theorem kind_is {r : RecD} {k : Nat} (h1 : 1 ≤ r.kind) (h13 : r.kind ≤ 13) (hp : plainR r) (hk : KindOf (typeN r) k) : (k : Int) = r.kind := by
  obtain ⟨k1, k13, ka, kb⟩ := hk
  have key : ∀ j : Nat, 1 ≤ j → j ≤ 12 → r.kind = (j : Int) → typeN r = typeN (kR j) := by
    intro j h1 h2 h
    have hj : j = 1 ∨ j = 2 ∨ j = 3 ∨ j = 4 ∨ j = 5 ∨ j = 6 ∨ j = 7 ∨ j = 8 ∨ j = 9 ∨ j = 10 ∨ j = 11 ∨ j = 12 := by omega
    rcases hj with rfl | rfl | rfl | rfl | rfl | rfl | rfl | rfl | rfl | rfl | rfl | rfl <;> simp [typeN, h, kR]
  have inj : ∀ i j : Fin 13, 1 ≤ i.val → 1 ≤ j.val → typeN (kR i) = typeN (kR j) → i = j := by decide
  by_cases h : r.kind = 13
  · have ht : typeN r = r.typ := by simp [typeN, h]
    obtain ⟨_, _, _, q⟩ := hp h
    rcases ka with ka | ka
    · omega
    · by_cases hk13 : k = 13
      · omega
      · exact absurd ka (by rw [ht]; exact q k k1 (by omega))
  · obtain ⟨j, hj⟩ := Int.eq_ofNat_of_zero_le (show 0 ≤ r.kind by omega)
    have ht := key j (by omega) (by omega) hj
    rcases ka with rfl | ka
    · exact absurd ht.symm (kb j (by omega) (by omega))
    · by_cases hk13 : k = 13
      · subst hk13; exact absurd ht.symm (kb j (by omega) (by omega))
      · have := inj ⟨k, by omega⟩ ⟨j, by omega⟩ k1 (by show 1 ≤ j; omega) (ka.trans ht)
        have : k = j := congrArg Fin.val this
        omega
theorem c35r {w : World} {r : RecD} (h1 : 1 ≤ r.kind) (h13 : r.kind ≤ 13) (hp : plainR r) : Ret PP 35 [.int .u16 ((typeN r).toNat : Int)] w (fun u w' => u = .int .i64 r.kind ∧ Fr0 w w') :=
  Ret.mono (c35 (t := typeN r)) fun u w' ⟨⟨k, hu, hk⟩, hf⟩ => ⟨by rw [hu, kind_is h1 h13 hp hk], hf⟩
theorem listR_drop {α : Type} {R : Nat → α → Nat → Prop} : ∀ {l : List α} {k q e : Nat} {x : α}, ListR R q (l.drop k) e → l[k]? = some x → ∃ e1, R q x e1 ∧ ListR R e1 (l.drop (k + 1)) e := by
  intro l k q e x h hx
  have hk : k < l.length := (List.getElem?_eq_some_iff.1 hx).1
  have e1 : l[k] = x := (List.getElem?_eq_some_iff.1 hx).2
  rw [List.drop_eq_getElem_cons hk, e1] at h
  exact h
theorem listR_le {α : Type} {R : Nat → α → Nat → Prop} : ∀ {l : List α} {q e : Nat}, ListR R q l e → (∀ x ∈ l, ∀ i j, R i x j → i ≤ j) → q ≤ e
  | [], q, e, h, _ => Nat.le_of_eq h
  | x :: xs, q, e, ⟨e1, h1, h2⟩, hR => Nat.le_trans (hR x (by simp) _ _ h1) (listR_le h2 (fun y hy => hR y (by simp [hy])))
theorem rec_le {K : Nat → Prop} {b : List UInt8} {i e : Nat} {r : RecD} (h : RecR K b i r e) : i ≤ e := by
  obtain ⟨e0, len, ⟨k, _, hk⟩, _, _, _, rfl⟩ := h
  have := hk.le; omega
theorem ask_le {K : Nat → Prop} {b : List UInt8} {i e : Nat} {a : AskD} (h : AskR K b i a e) : i ≤ e := by
  obtain ⟨e0, ⟨k, _, hk⟩, _, rfl⟩ := h
  have := hk.le; omega
theorem drop_le {α : Type} {R : Nat → α → Nat → Prop} {l : List α} {k q e : Nat} (h : ListR R q (l.drop k) e) (hR : ∀ x i j, R i x j → i ≤ j) : q ≤ e := listR_le h (fun x _ i j => hR x i j)

set_option maxHeartbeats 4000000 in
set_option maxRecDepth 100000 in
theorem c155 {w : World} {br bb ob cb : Nat} {b : List UInt8} {p : Nat} {wh : Bool} (hr : SB w br lRd (rdSegs bb ob cb b p wh)) (hB : w.rangeAt bb ob (bvs b)) (hbb : bb < w.heap.size) (hbr : bb ≠ br) (hcb : b.length ≤ cb) (hbl : b.length < 100000000) {bx e : Nat} {r : RecD} {len : UInt16} {Kp : Nat → Prop} (hx : SB w bx lRec (recSegs (rec0 r len) (.slice none 0 0) (.slice none 0 0) (.slice none 0 0))) (hxr : bx ≠ br) (hxb : bx ≠ bb) (hbody : BodyR Kp b p r e) (he : e ≤ b.length) (hk1 : 1 ≤ r.kind) (hk13 : r.kind ≤ 13) (hno : NamesOk r) (hpd : ∀ q ∈ r.pairs, q.data.length ≤ 65535) (htd : r.kind = 7 → ∀ t ∈ r.texts, t.size ≤ 255)  :
  Ret PP 155 [.pointer (some ⟨br, 0, none⟩), .pointer (some ⟨bx, 0, none⟩), .int .i64 (e : Int)] w (fun _ w' => (∃ vd vt vp wh', SB w' bx lRec (recSegs (normR r len) vd vt vp) ∧ BA (Ub NoU w w') w' vd (normR r len).data ∧ LA TextEl [1] (Ub NoU w w') w' vt (normR r len).texts ∧ LA PairEl lPair (Ub NoU w w') w' vp (normR r len).pairs ∧ SB w' br lRd (rdSegs bb ob cb b e wh')) ∧ Fr (fun k => k = br ∨ k = bx) w w') := by
 have hpe := body_bound hbody hk1 hk13
 have hf : Fr (fun k => k = br ∨ k = bx) w w := Fr.refl _ _
 have z_hr := hr.lt
 have z_hx := hx.lt
 refine ret_of Tryz.func155 rfl rfl rfl [(0, _), (1, _), (2, _)] rfl ?_
 refine wp_seq (sreg (sM rfl (sN rfl (sv (xfld fl65_5 rfl) (sv (xld (v := .int .i64 r.kind) on3 rfl (hx.r.c 5 rfl rfl)) (send (fg [(0, _), (1, _), (2, _), (9, _)] ⟨rfl, rfl, rfl, rfl, ⟨⟩⟩ fun _ => (wp_block (sreg ?_)))))))))
 refine svP (xeql rfl rfl) (fun hc24 => ?_) (fun hc24 => ?_)
 ·
  refine sA rfl (send (fg [(0, _), (1, _), (2, _), (9, _), (23, _)] ⟨rfl, rfl, rfl, rfl, rfl, ⟨⟩⟩ fun _ => (cyes rfl ?_)))
  have hbo := hbody.2.2.2.2.2 (by omega)
  have hbl4 : bodyL r = fixedL r.data 4 := by simp [bodyL, hc24]
  rw [hbl4] at hbo
  have hq4 := fixedL_length r.data 4
  refine lreg (sM rfl (sM rfl ?_))
  refine sc (xcall ca94 rfl) (c94 (bb := bb) (ob := ob) (cb := cb) (b := b) (xs := fixedL r.data 4) (k := 4) hr hB (by omega) (by omega) hcb hbl (hbo.1) (hq4) (by omega)) ?_
  rintro _ w1 ⟨o27, c27, rfl, n27, hr, m2⟩
  have z3 := m2.size
  have hB := rng_fr hB m2 (by omega) (by show ¬ (bb = br); omega)
  have hx := hx.keep m2 (by show ¬ (bx = br); omega)
  have hf := hf.step m2 (fun k hk hS => by have hS : k = br := hS; show k = br ∨ k = bx; omega)
  refine svK (xslit [_] sl105 in37 rfl (by decide) rfl rfl rfl rfl (by decide) rfl rfl) ?_
  rintro _ w5 ⟨b28, rfl, m6, h28, e28, s28, r28⟩
  have hB := rng_fr hB m6 (by omega) id
  have hx := hx.keep m6 id
  have hf := hf.step0 m6
  have hr := hr.keep m6 id
  have n27 := rng_fr n27 m6 (by omega) id
  refine sc (xcall ca21 rfl) (c21_1 (U := fun k => k = bb) (bs := fixedL r.data 4) (Rw.rng r28) (by omega) (fun k hk => by have hk : k = bb := hk; omega) (take_ba n27 (hq4)) (by omega)) ?_
  rintro _ w7 ⟨p29, q29, g29, rfl, r29, m8, a29, l29⟩
  have z9 := m8.size
  have hB := rng_fr hB m8 (by omega) id
  have hx := hx.keep m8 id
  have hf := hf.step0 m8
  have hr := hr.keep m8 id
  refine sN rfl (sv (xfld fl65_6 rfl) ?_)
  refine suK (xstF 6 sz37 hx rfl rfl rfl rfl rfl) ?_
  rintro w11 ⟨m12, hx, s10⟩
  have hB := rng_fr hB m12 (by omega) (by show ¬ (bb = bx); omega)
  have hf := hf.step m12 (fun k hk hS => by have hS : k = bx := hS; show k = br ∨ k = bx; omega)
  have hr := hr.keep m12 (by show ¬ (br = bx); omega)
  have r29 := r29.keep m12 (by show ¬ (g29 = bx); omega)
  refine lend (nBlock (nThen (fg [(0, _), (2, _)] ⟨rfl, rfl, ⟨⟩⟩ fun _ => (lreg (sM rfl (sM rfl (sN rfl (sv (xfld fl95_2 rfl) (sv (xld on4 rfl (hr.r.c 2 rfl rfl)) (sM rfl (gyes rfl rfl rfl (sM rfl (gyes rfl rfl rfl (sN rfl (gyes rfl rfl rfl (sv (xfld fl95_1 rfl) (gyes rfl rfl rfl (sv (xld on3 rfl (hr.r.c 1 rfl rfl)) (gyes rfl rfl rfl (sM rfl (gyes rfl rfl rfl (sv (exF (xneq rfl rfl) (by omega)) (sv (xpickF rfl rfl) (sN rfl ?_))))))))))))))))))))))))
  refine sv (xfld fl95_2 rfl) ?_
  refine suK (xstF 2 sz4 hr rfl rfl rfl rfl rfl) ?_
  rintro w14 ⟨m15, hr, s13⟩
  have hB := rng_fr hB m15 (by omega) (by show ¬ (bb = br); omega)
  have hx := hx.keep m15 (by show ¬ (bx = br); omega)
  have hf := hf.step m15 (fun k hk hS => by have hS : k = br := hS; show k = br ∨ k = bx; omega)
  have r29 := r29.keep m15 (by show ¬ (g29 = br); omega)
  refine lend ?_
  refine rp0n rfl ?_
  rw [norm_a hc24]
  exact ⟨⟨_, _, _, _, hx, (BR.ba (show BR _ _ _ _ (fixedL r.data 4) from r29) (.inr ⟨by omega, by omega⟩)), LA.nil, LA.nil, rd_cast hr (by omega)⟩, hf⟩
 ·
  refine sA rfl (send (fg [(0, _), (1, _), (2, _), (9, _), (23, _)] ⟨rfl, rfl, rfl, rfl, rfl, ⟨⟩⟩ fun _ => (cno rfl (sreg ?_))))
  refine svP (xeql rfl rfl) (fun hc33 => ?_) (fun hc33 => ?_)
  ·
   refine sA rfl (send (fg [(0, _), (1, _), (2, _), (9, _), (32, _)] ⟨rfl, rfl, rfl, rfl, rfl, ⟨⟩⟩ fun _ => (cyes rfl ?_)))
   have hbo := hbody.2.2.2.2.2 (by omega)
   have hbl4 : bodyL r = fixedL r.data 16 := by simp [bodyL, hc33]
   rw [hbl4] at hbo
   have hq4 := fixedL_length r.data 16
   refine lreg (sM rfl (sM rfl ?_))
   refine sc (xcall ca94 rfl) (c94 (bb := bb) (ob := ob) (cb := cb) (b := b) (xs := fixedL r.data 16) (k := 16) hr hB (by omega) (by omega) hcb hbl (hbo.1) (hq4) (by omega)) ?_
   rintro _ w16 ⟨o36, c36, rfl, n36, hr, m17⟩
   have z18 := m17.size
   have hB := rng_fr hB m17 (by omega) (by show ¬ (bb = br); omega)
   have hx := hx.keep m17 (by show ¬ (bx = br); omega)
   have hf := hf.step m17 (fun k hk hS => by have hS : k = br := hS; show k = br ∨ k = bx; omega)
   refine svK (xslit [_] sl105 in37 rfl (by decide) rfl rfl rfl rfl (by decide) rfl rfl) ?_
   rintro _ w20 ⟨b37, rfl, m21, h37, e37, s37, r37⟩
   have hB := rng_fr hB m21 (by omega) id
   have hx := hx.keep m21 id
   have hf := hf.step0 m21
   have hr := hr.keep m21 id
   have n36 := rng_fr n36 m21 (by omega) id
   refine sc (xcall ca21 rfl) (c21_1 (U := fun k => k = bb) (bs := fixedL r.data 16) (Rw.rng r37) (by omega) (fun k hk => by have hk : k = bb := hk; omega) (take_ba n36 (hq4)) (by omega)) ?_
   rintro _ w22 ⟨p38, q38, g38, rfl, r38, m23, a38, l38⟩
   have z24 := m23.size
   have hB := rng_fr hB m23 (by omega) id
   have hx := hx.keep m23 id
   have hf := hf.step0 m23
   have hr := hr.keep m23 id
   refine sN rfl (sv (xfld fl65_6 rfl) ?_)
   refine suK (xstF 6 sz37 hx rfl rfl rfl rfl rfl) ?_
   rintro w26 ⟨m27, hx, s25⟩
   have hB := rng_fr hB m27 (by omega) (by show ¬ (bb = bx); omega)
   have hf := hf.step m27 (fun k hk hS => by have hS : k = bx := hS; show k = br ∨ k = bx; omega)
   have hr := hr.keep m27 (by show ¬ (br = bx); omega)
   have r38 := r38.keep m27 (by show ¬ (g38 = bx); omega)
   refine lend (nBlock (nThen (fg [(0, _), (2, _)] ⟨rfl, rfl, ⟨⟩⟩ fun _ => (lreg (sM rfl (sM rfl (sN rfl (sv (xfld fl95_2 rfl) (sv (xld on4 rfl (hr.r.c 2 rfl rfl)) (sM rfl (gyes rfl rfl rfl (sM rfl (gyes rfl rfl rfl (sN rfl (gyes rfl rfl rfl (sv (xfld fl95_1 rfl) (gyes rfl rfl rfl (sv (xld on3 rfl (hr.r.c 1 rfl rfl)) (gyes rfl rfl rfl (sM rfl (gyes rfl rfl rfl (sv (exF (xneq rfl rfl) (by omega)) (sv (xpickF rfl rfl) (sN rfl ?_))))))))))))))))))))))))
   refine sv (xfld fl95_2 rfl) ?_
   refine suK (xstF 2 sz4 hr rfl rfl rfl rfl rfl) ?_
   rintro w29 ⟨m30, hr, s28⟩
   have hB := rng_fr hB m30 (by omega) (by show ¬ (bb = br); omega)
   have hx := hx.keep m30 (by show ¬ (bx = br); omega)
   have hf := hf.step m30 (fun k hk hS => by have hS : k = br := hS; show k = br ∨ k = bx; omega)
   have r38 := r38.keep m30 (by show ¬ (g38 = br); omega)
   refine lend ?_
   refine rp0n rfl ?_
   rw [norm_aaaa hc33]
   exact ⟨⟨_, _, _, _, hx, (BR.ba (show BR _ _ _ _ (fixedL r.data 16) from r38) (.inr ⟨by omega, by omega⟩)), LA.nil, LA.nil, rd_cast hr (by omega)⟩, hf⟩
  ·
   refine sA rfl (send (fg [(0, _), (1, _), (2, _), (9, _), (32, _)] ⟨rfl, rfl, rfl, rfl, rfl, ⟨⟩⟩ fun _ => (cno rfl (wp_seq (sreg ?_)))))
   refine svP (xeql rfl rfl) (fun hc42 => ?_) (fun hc42 => ?_)
   ·
    refine sA rfl (send (fg [(0, _), (1, _), (2, _), (9, _), (41, _)] ⟨rfl, rfl, rfl, rfl, rfl, ⟨⟩⟩ fun _ => (cyes rfl (wp_skip (nThen (fg [(0, _), (1, _), (2, _), (9, _), (41, _)] ⟨rfl, rfl, rfl, rfl, rfl, ⟨⟩⟩ fun _ => (cyes rfl ?_)))))))
    obtain ⟨kk, -, hnk⟩ := hbody.1 (by omega)
    refine lreg (sM rfl (sM rfl ?_))
    refine sc (xcall ca42 rfl) (c42 (bb := bb) (ob := ob) (cb := cb) (b := b) (K := _) (e := _) (S := bt r.host) hr hB (by omega) (by omega) hcb hbl (hnk) (hno.2.1 (by omega))) ?_
    rintro _ w31 ⟨rfl, hr, m32⟩
    have z33 := m32.size
    have hB := rng_fr hB m32 (by omega) (by show ¬ (bb = br); omega)
    have hx := hx.keep m32 (by show ¬ (bx = br); omega)
    have hf := hf.step m32 (fun k hk hS => by have hS : k = br := hS; show k = br ∨ k = bx; omega)
    refine sN rfl (sv (xfld fl65_7 rfl) ?_)
    refine suK (xstF 7 sz9 hx rfl rfl rfl rfl rfl) ?_
    rintro w35 ⟨m36, hx, s34⟩
    have hB := rng_fr hB m36 (by omega) (by show ¬ (bb = bx); omega)
    have hf := hf.step m36 (fun k hk hS => by have hS : k = bx := hS; show k = br ∨ k = bx; omega)
    have hr := hr.keep m36 (by show ¬ (br = bx); omega)
    refine lend (nBlock (nThen (fg [(0, _), (2, _)] ⟨rfl, rfl, ⟨⟩⟩ fun _ => (lreg (sM rfl (sM rfl (sN rfl (sv (xfld fl95_2 rfl) (sv (xld on4 rfl (hr.r.c 2 rfl rfl)) (sM rfl (gyes rfl rfl rfl (sM rfl (gyes rfl rfl rfl (sN rfl (gyes rfl rfl rfl (sv (xfld fl95_1 rfl) (gyes rfl rfl rfl (sv (xld on3 rfl (hr.r.c 1 rfl rfl)) (gyes rfl rfl rfl (sM rfl (gyes rfl rfl rfl (sv (exF (xneq rfl rfl) (by omega)) (sv (xpickF rfl rfl) (sN rfl ?_))))))))))))))))))))))))
    refine sv (xfld fl95_2 rfl) ?_
    refine suK (xstF 2 sz4 hr rfl rfl rfl rfl rfl) ?_
    rintro w38 ⟨m39, hr, s37⟩
    have hB := rng_fr hB m39 (by omega) (by show ¬ (bb = br); omega)
    have hx := hx.keep m39 (by show ¬ (bx = br); omega)
    have hf := hf.step m39 (fun k hk hS => by have hS : k = br := hS; show k = br ∨ k = bx; omega)
    refine lend ?_
    refine rp0n rfl ?_
    rw [norm_ns (by omega)]
    exact ⟨⟨_, _, _, _, hx, ⟨none, 0, rfl, fun h => absurd rfl h⟩, LA.nil, LA.nil, rd_cast hr (rfl)⟩, hf⟩
   ·
    refine sA rfl (send (fg [(0, _), (1, _), (2, _), (9, _), (41, _)] ⟨rfl, rfl, rfl, rfl, rfl, ⟨⟩⟩ fun _ => (cno rfl (sreg ?_))))
    refine svP (xeql rfl rfl) (fun hc43 => ?_) (fun hc43 => ?_)
    ·
     refine sA rfl (send (fg [(0, _), (1, _), (2, _), (9, _), (41, _)] ⟨rfl, rfl, rfl, rfl, rfl, ⟨⟩⟩ fun _ => (cyes rfl (wp_skip (nThen (fg [(0, _), (1, _), (2, _), (9, _), (41, _)] ⟨rfl, rfl, rfl, rfl, rfl, ⟨⟩⟩ fun _ => (cyes rfl ?_)))))))
     obtain ⟨kk, -, hnk⟩ := hbody.1 (by omega)
     refine lreg (sM rfl (sM rfl ?_))
     refine sc (xcall ca42 rfl) (c42 (bb := bb) (ob := ob) (cb := cb) (b := b) (K := _) (e := _) (S := bt r.host) hr hB (by omega) (by omega) hcb hbl (hnk) (hno.2.1 (by omega))) ?_
     rintro _ w40 ⟨rfl, hr, m41⟩
     have z42 := m41.size
     have hB := rng_fr hB m41 (by omega) (by show ¬ (bb = br); omega)
     have hx := hx.keep m41 (by show ¬ (bx = br); omega)
     have hf := hf.step m41 (fun k hk hS => by have hS : k = br := hS; show k = br ∨ k = bx; omega)
     refine sN rfl (sv (xfld fl65_7 rfl) ?_)
     refine suK (xstF 7 sz9 hx rfl rfl rfl rfl rfl) ?_
     rintro w44 ⟨m45, hx, s43⟩
     have hB := rng_fr hB m45 (by omega) (by show ¬ (bb = bx); omega)
     have hf := hf.step m45 (fun k hk hS => by have hS : k = bx := hS; show k = br ∨ k = bx; omega)
     have hr := hr.keep m45 (by show ¬ (br = bx); omega)
     refine lend (nBlock (nThen (fg [(0, _), (2, _)] ⟨rfl, rfl, ⟨⟩⟩ fun _ => (lreg (sM rfl (sM rfl (sN rfl (sv (xfld fl95_2 rfl) (sv (xld on4 rfl (hr.r.c 2 rfl rfl)) (sM rfl (gyes rfl rfl rfl (sM rfl (gyes rfl rfl rfl (sN rfl (gyes rfl rfl rfl (sv (xfld fl95_1 rfl) (gyes rfl rfl rfl (sv (xld on3 rfl (hr.r.c 1 rfl rfl)) (gyes rfl rfl rfl (sM rfl (gyes rfl rfl rfl (sv (exF (xneq rfl rfl) (by omega)) (sv (xpickF rfl rfl) (sN rfl ?_))))))))))))))))))))))))
     refine sv (xfld fl95_2 rfl) ?_
     refine suK (xstF 2 sz4 hr rfl rfl rfl rfl rfl) ?_
     rintro w47 ⟨m48, hr, s46⟩
     have hB := rng_fr hB m48 (by omega) (by show ¬ (bb = br); omega)
     have hx := hx.keep m48 (by show ¬ (bx = br); omega)
     have hf := hf.step m48 (fun k hk hS => by have hS : k = br := hS; show k = br ∨ k = bx; omega)
     refine lend ?_
     refine rp0n rfl ?_
     rw [norm_ns (by omega)]
     exact ⟨⟨_, _, _, _, hx, ⟨none, 0, rfl, fun h => absurd rfl h⟩, LA.nil, LA.nil, rd_cast hr (rfl)⟩, hf⟩
    ·
     refine sA rfl (send (fg [(0, _), (1, _), (2, _), (9, _), (41, _)] ⟨rfl, rfl, rfl, rfl, rfl, ⟨⟩⟩ fun _ => (cno rfl (lreg ?_))))
     refine svP (xeql rfl rfl) (fun hc44 => ?_) (fun hc44 => ?_)
     ·
      refine sA rfl (lend (nThen (fg [(0, _), (1, _), (2, _), (9, _), (41, _)] ⟨rfl, rfl, rfl, rfl, rfl, ⟨⟩⟩ fun _ => (cyes rfl ?_))))
      obtain ⟨kk, -, hnk⟩ := hbody.1 (by omega)
      refine lreg (sM rfl (sM rfl ?_))
      refine sc (xcall ca42 rfl) (c42 (bb := bb) (ob := ob) (cb := cb) (b := b) (K := _) (e := _) (S := bt r.host) hr hB (by omega) (by omega) hcb hbl (hnk) (hno.2.1 (by omega))) ?_
      rintro _ w49 ⟨rfl, hr, m50⟩
      have z51 := m50.size
      have hB := rng_fr hB m50 (by omega) (by show ¬ (bb = br); omega)
      have hx := hx.keep m50 (by show ¬ (bx = br); omega)
      have hf := hf.step m50 (fun k hk hS => by have hS : k = br := hS; show k = br ∨ k = bx; omega)
      refine sN rfl (sv (xfld fl65_7 rfl) ?_)
      refine suK (xstF 7 sz9 hx rfl rfl rfl rfl rfl) ?_
      rintro w53 ⟨m54, hx, s52⟩
      have hB := rng_fr hB m54 (by omega) (by show ¬ (bb = bx); omega)
      have hf := hf.step m54 (fun k hk hS => by have hS : k = bx := hS; show k = br ∨ k = bx; omega)
      have hr := hr.keep m54 (by show ¬ (br = bx); omega)
      refine lend (nBlock (nThen (fg [(0, _), (2, _)] ⟨rfl, rfl, ⟨⟩⟩ fun _ => (lreg (sM rfl (sM rfl (sN rfl (sv (xfld fl95_2 rfl) (sv (xld on4 rfl (hr.r.c 2 rfl rfl)) (sM rfl (gyes rfl rfl rfl (sM rfl (gyes rfl rfl rfl (sN rfl (gyes rfl rfl rfl (sv (xfld fl95_1 rfl) (gyes rfl rfl rfl (sv (xld on3 rfl (hr.r.c 1 rfl rfl)) (gyes rfl rfl rfl (sM rfl (gyes rfl rfl rfl (sv (exF (xneq rfl rfl) (by omega)) (sv (xpickF rfl rfl) (sN rfl ?_))))))))))))))))))))))))
      refine sv (xfld fl95_2 rfl) ?_
      refine suK (xstF 2 sz4 hr rfl rfl rfl rfl rfl) ?_
      rintro w56 ⟨m57, hr, s55⟩
      have hB := rng_fr hB m57 (by omega) (by show ¬ (bb = br); omega)
      have hx := hx.keep m57 (by show ¬ (bx = br); omega)
      have hf := hf.step m57 (fun k hk hS => by have hS : k = br := hS; show k = br ∨ k = bx; omega)
      refine lend ?_
      refine rp0n rfl ?_
      rw [norm_ns (by omega)]
      exact ⟨⟨_, _, _, _, hx, ⟨none, 0, rfl, fun h => absurd rfl h⟩, LA.nil, LA.nil, rd_cast hr (rfl)⟩, hf⟩
     ·
      refine sA rfl (lend (nThen (fg [(0, _), (1, _), (2, _), (9, _), (41, _)] ⟨rfl, rfl, rfl, rfl, rfl, ⟨⟩⟩ fun _ => (cno rfl (sreg ?_)))))
      refine svP (xeql rfl rfl) (fun hc51 => ?_) (fun hc51 => ?_)
      ·
       refine sA rfl (send (fg [(0, _), (1, _), (2, _), (9, _), (50, _)] ⟨rfl, rfl, rfl, rfl, rfl, ⟨⟩⟩ fun _ => (cyes rfl ?_)))
       obtain ⟨hb1, kk, -, hnk⟩ := hbody.2.1 hc51
       refine sreg (sM rfl (sM rfl ?_))
       refine sc (xcall ca41 rfl) (c41 (bb := bb) (ob := ob) (cb := cb) (b := b) (x := (r.n1.toNat % 65536)) hr hB (by omega) (by omega) hcb hbl (by omega) (std16 hb1)) ?_
       rintro _ w58 ⟨rfl, hr, m59⟩
       have z60 := m59.size
       have hB := rng_fr hB m59 (by omega) (by show ¬ (bb = br); omega)
       have hx := hx.keep m59 (by show ¬ (bx = br); omega)
       have hf := hf.step m59 (fun k hk hS => by have hS : k = br := hS; show k = br ∨ k = bx; omega)
       refine sv (xconv hs22 ki61 rfl (wu32n (m16 r.n1).toNat (by rw [m16_nat]; omega))) (sN rfl (sv (xfld fl65_9 rfl) ?_))
       refine suK (xstF 9 sz61 hx rfl rfl rfl rfl rfl) ?_
       rintro w62 ⟨m63, hx, s61⟩
       have hB := rng_fr hB m63 (by omega) (by show ¬ (bb = bx); omega)
       have hf := hf.step m63 (fun k hk hS => by have hS : k = bx := hS; show k = br ∨ k = bx; omega)
       have hr := hr.keep m63 (by show ¬ (br = bx); omega)
       refine send (fg [(0, _), (1, _), (2, _)] ⟨rfl, rfl, rfl, ⟨⟩⟩ fun _ => (lreg (sM rfl (sM rfl ?_))))
       refine sc (xcall ca42 rfl) (c42 (bb := bb) (ob := ob) (cb := cb) (b := b) (K := _) (e := _) (S := bt r.host) hr hB (by omega) (by omega) hcb hbl (hnk) (hno.2.1 (by omega))) ?_
       rintro _ w64 ⟨rfl, hr, m65⟩
       have z66 := m65.size
       have hB := rng_fr hB m65 (by omega) (by show ¬ (bb = br); omega)
       have hx := hx.keep m65 (by show ¬ (bx = br); omega)
       have hf := hf.step m65 (fun k hk hS => by have hS : k = br := hS; show k = br ∨ k = bx; omega)
       refine sN rfl (sv (xfld fl65_7 rfl) ?_)
       refine suK (xstF 7 sz9 hx rfl rfl rfl rfl rfl) ?_
       rintro w68 ⟨m69, hx, s67⟩
       have hB := rng_fr hB m69 (by omega) (by show ¬ (bb = bx); omega)
       have hf := hf.step m69 (fun k hk hS => by have hS : k = bx := hS; show k = br ∨ k = bx; omega)
       have hr := hr.keep m69 (by show ¬ (br = bx); omega)
       refine lend (nBlock (nThen (fg [(0, _), (2, _)] ⟨rfl, rfl, ⟨⟩⟩ fun _ => (lreg (sM rfl (sM rfl (sN rfl (sv (xfld fl95_2 rfl) (sv (xld on4 rfl (hr.r.c 2 rfl rfl)) (sM rfl (gyes rfl rfl rfl (sM rfl (gyes rfl rfl rfl (sN rfl (gyes rfl rfl rfl (sv (xfld fl95_1 rfl) (gyes rfl rfl rfl (sv (xld on3 rfl (hr.r.c 1 rfl rfl)) (gyes rfl rfl rfl (sM rfl (gyes rfl rfl rfl (sv (exF (xneq rfl rfl) (by omega)) (sv (xpickF rfl rfl) (sN rfl ?_))))))))))))))))))))))))
       refine sv (xfld fl95_2 rfl) ?_
       refine suK (xstF 2 sz4 hr rfl rfl rfl rfl rfl) ?_
       rintro w71 ⟨m72, hr, s70⟩
       have hB := rng_fr hB m72 (by omega) (by show ¬ (bb = br); omega)
       have hx := hx.keep m72 (by show ¬ (bx = br); omega)
       have hf := hf.step m72 (fun k hk hS => by have hS : k = br := hS; show k = br ∨ k = bx; omega)
       refine lend ?_
       refine rp0n rfl ?_
       rw [norm_mx hc51]
       exact ⟨⟨_, _, _, _, hx, ⟨none, 0, rfl, fun h => absurd rfl h⟩, LA.nil, LA.nil, rd_cast hr (rfl)⟩, hf⟩
      ·
       refine sA rfl (send (fg [(0, _), (1, _), (2, _), (9, _), (50, _)] ⟨rfl, rfl, rfl, rfl, rfl, ⟨⟩⟩ fun _ => (cno rfl (sreg ?_))))
       refine svP (xeql rfl rfl) (fun hc64 => ?_) (fun hc64 => ?_)
       ·
        refine sA rfl (send (fg [(0, _), (1, _), (2, _), (9, _), (63, _)] ⟨rfl, rfl, rfl, rfl, rfl, ⟨⟩⟩ fun _ => (cyes rfl ?_)))
        obtain ⟨e1, e2, ⟨k1, -, hnk1⟩, ⟨k2, -, hnk2⟩, hso, he2⟩ := hbody.2.2.1 hc64
        refine sreg (sM rfl (sM rfl (sM rfl ?_)))
        refine sc (xcall ca42 rfl) (c42 (bb := bb) (ob := ob) (cb := cb) (b := b) (K := _) (e := _) (S := bt r.host) hr hB (by omega) (by omega) hcb hbl (hnk1) (hno.2.1 (by omega))) ?_
        rintro _ w73 ⟨rfl, hr, m74⟩
        have z75 := m74.size
        have hB := rng_fr hB m74 (by omega) (by show ¬ (bb = br); omega)
        have hx := hx.keep m74 (by show ¬ (bx = br); omega)
        have hf := hf.step m74 (fun k hk hS => by have hS : k = br := hS; show k = br ∨ k = bx; omega)
        refine sM rfl ?_
        refine sc (xcall ca42 rfl) (c42 (bb := bb) (ob := ob) (cb := cb) (b := b) (K := _) (e := _) (S := bt r.box) hr hB (by omega) (by omega) hcb hbl (hnk2) (hno.2.2 hc64)) ?_
        rintro _ w76 ⟨rfl, hr, m77⟩
        have z78 := m77.size
        have hB := rng_fr hB m77 (by omega) (by show ¬ (bb = br); omega)
        have hx := hx.keep m77 (by show ¬ (bx = br); omega)
        have hf := hf.step m77 (fun k hk hS => by have hS : k = br := hS; show k = br ∨ k = bx; omega)
        refine sN rfl (sv (xfld fl65_7 rfl) ?_)
        refine suK (xstF 7 sz9 hx rfl rfl rfl rfl rfl) ?_
        rintro w80 ⟨m81, hx, s79⟩
        have hB := rng_fr hB m81 (by omega) (by show ¬ (bb = bx); omega)
        have hf := hf.step m81 (fun k hk hS => by have hS : k = bx := hS; show k = br ∨ k = bx; omega)
        have hr := hr.keep m81 (by show ¬ (br = bx); omega)
        refine sN rfl (sv (xfld fl65_8 rfl) ?_)
        refine suK (xstF 8 sz9 hx rfl rfl rfl rfl rfl) ?_
        rintro w83 ⟨m84, hx, s82⟩
        have hB := rng_fr hB m84 (by omega) (by show ¬ (bb = bx); omega)
        have hf := hf.step m84 (fun k hk hS => by have hS : k = bx := hS; show k = br ∨ k = bx; omega)
        have hr := hr.keep m84 (by show ¬ (br = bx); omega)
        refine send (fg [(0, _), (1, _), (2, _)] ⟨rfl, rfl, rfl, ⟨⟩⟩ fun _ => ?_)
        simp only [soaL] at hso
        refine lreg (sM rfl (sM rfl (sM rfl (sM rfl (sM rfl (sM rfl ?_))))))
        refine sc (xcall ca154 rfl) (c154 (bb := bb) (ob := ob) (cb := cb) (b := b) (x := r.n1.toNat) hr hB (by omega) (by omega) hcb hbl (u32lt _) (hso.left)) ?_
        rintro _ w85 ⟨rfl, hr, m86⟩
        have z87 := m86.size
        have hB := rng_fr hB m86 (by omega) (by show ¬ (bb = br); omega)
        have hx := hx.keep m86 (by show ¬ (bx = br); omega)
        have hf := hf.step m86 (fun k hk hS => by have hS : k = br := hS; show k = br ∨ k = bx; omega)
        refine sM rfl ?_
        refine sc (xcall ca154 rfl) (c154 (bb := bb) (ob := ob) (cb := cb) (b := b) (x := r.n2.toNat) hr hB (by omega) (by omega) hcb hbl (u32lt _) ((hso.right' rfl).left)) ?_
        rintro _ w88 ⟨rfl, hr, m89⟩
        have z90 := m89.size
        have hB := rng_fr hB m89 (by omega) (by show ¬ (bb = br); omega)
        have hx := hx.keep m89 (by show ¬ (bx = br); omega)
        have hf := hf.step m89 (fun k hk hS => by have hS : k = br := hS; show k = br ∨ k = bx; omega)
        refine sM rfl ?_
        refine sc (xcall ca154 rfl) (c154 (bb := bb) (ob := ob) (cb := cb) (b := b) (x := r.n3.toNat) hr hB (by omega) (by omega) hcb hbl (u32lt _) (((hso.right' rfl).right' rfl).left)) ?_
        rintro _ w91 ⟨rfl, hr, m92⟩
        have z93 := m92.size
        have hB := rng_fr hB m92 (by omega) (by show ¬ (bb = br); omega)
        have hx := hx.keep m92 (by show ¬ (bx = br); omega)
        have hf := hf.step m92 (fun k hk hS => by have hS : k = br := hS; show k = br ∨ k = bx; omega)
        refine sM rfl ?_
        refine sc (xcall ca154 rfl) (c154 (bb := bb) (ob := ob) (cb := cb) (b := b) (x := r.n4.toNat) hr hB (by omega) (by omega) hcb hbl (u32lt _) ((((hso.right' rfl).right' rfl).right' rfl).left)) ?_
        rintro _ w94 ⟨rfl, hr, m95⟩
        have z96 := m95.size
        have hB := rng_fr hB m95 (by omega) (by show ¬ (bb = br); omega)
        have hx := hx.keep m95 (by show ¬ (bx = br); omega)
        have hf := hf.step m95 (fun k hk hS => by have hS : k = br := hS; show k = br ∨ k = bx; omega)
        refine sM rfl ?_
        refine sc (xcall ca154 rfl) (c154 (bb := bb) (ob := ob) (cb := cb) (b := b) (x := r.n5.toNat) hr hB (by omega) (by omega) hcb hbl (u32lt _) (((((hso.right' rfl).right' rfl).right' rfl).right' rfl))) ?_
        rintro _ w97 ⟨rfl, hr, m98⟩
        have z99 := m98.size
        have hB := rng_fr hB m98 (by omega) (by show ¬ (bb = br); omega)
        have hx := hx.keep m98 (by show ¬ (bx = br); omega)
        have hf := hf.step m98 (fun k hk hS => by have hS : k = br := hS; show k = br ∨ k = bx; omega)
        refine sN rfl (sv (xfld fl65_9 rfl) ?_)
        refine suK (xstF 9 sz61 hx rfl rfl rfl rfl rfl) ?_
        rintro w101 ⟨m102, hx, s100⟩
        have hB := rng_fr hB m102 (by omega) (by show ¬ (bb = bx); omega)
        have hf := hf.step m102 (fun k hk hS => by have hS : k = bx := hS; show k = br ∨ k = bx; omega)
        have hr := hr.keep m102 (by show ¬ (br = bx); omega)
        refine sN rfl (sv (xfld fl65_10 rfl) ?_)
        refine suK (xstF 10 sz61 hx rfl rfl rfl rfl rfl) ?_
        rintro w104 ⟨m105, hx, s103⟩
        have hB := rng_fr hB m105 (by omega) (by show ¬ (bb = bx); omega)
        have hf := hf.step m105 (fun k hk hS => by have hS : k = bx := hS; show k = br ∨ k = bx; omega)
        have hr := hr.keep m105 (by show ¬ (br = bx); omega)
        refine sN rfl (sv (xfld fl65_11 rfl) ?_)
        refine suK (xstF 11 sz61 hx rfl rfl rfl rfl rfl) ?_
        rintro w107 ⟨m108, hx, s106⟩
        have hB := rng_fr hB m108 (by omega) (by show ¬ (bb = bx); omega)
        have hf := hf.step m108 (fun k hk hS => by have hS : k = bx := hS; show k = br ∨ k = bx; omega)
        have hr := hr.keep m108 (by show ¬ (br = bx); omega)
        refine sN rfl (sv (xfld fl65_12 rfl) ?_)
        refine suK (xstF 12 sz61 hx rfl rfl rfl rfl rfl) ?_
        rintro w110 ⟨m111, hx, s109⟩
        have hB := rng_fr hB m111 (by omega) (by show ¬ (bb = bx); omega)
        have hf := hf.step m111 (fun k hk hS => by have hS : k = bx := hS; show k = br ∨ k = bx; omega)
        have hr := hr.keep m111 (by show ¬ (br = bx); omega)
        refine sN rfl (sv (xfld fl65_13 rfl) ?_)
        refine suK (xstF 13 sz61 hx rfl rfl rfl rfl rfl) ?_
        rintro w113 ⟨m114, hx, s112⟩
        have hB := rng_fr hB m114 (by omega) (by show ¬ (bb = bx); omega)
        have hf := hf.step m114 (fun k hk hS => by have hS : k = bx := hS; show k = br ∨ k = bx; omega)
        have hr := hr.keep m114 (by show ¬ (br = bx); omega)
        refine lend (nBlock (nThen (fg [(0, _), (2, _)] ⟨rfl, rfl, ⟨⟩⟩ fun _ => (lreg (sM rfl (sM rfl (sN rfl (sv (xfld fl95_2 rfl) (sv (xld on4 rfl (hr.r.c 2 rfl rfl)) (sM rfl (gyes rfl rfl rfl (sM rfl (gyes rfl rfl rfl (sN rfl (gyes rfl rfl rfl (sv (xfld fl95_1 rfl) (gyes rfl rfl rfl (sv (xld on3 rfl (hr.r.c 1 rfl rfl)) (gyes rfl rfl rfl (sM rfl (gyes rfl rfl rfl (sv (exF (xneq rfl rfl) (by omega)) (sv (xpickF rfl rfl) (sN rfl ?_))))))))))))))))))))))))
        refine sv (xfld fl95_2 rfl) ?_
        refine suK (xstF 2 sz4 hr rfl rfl rfl rfl rfl) ?_
        rintro w116 ⟨m117, hr, s115⟩
        have hB := rng_fr hB m117 (by omega) (by show ¬ (bb = br); omega)
        have hx := hx.keep m117 (by show ¬ (bx = br); omega)
        have hf := hf.step m117 (fun k hk hS => by have hS : k = br := hS; show k = br ∨ k = bx; omega)
        refine lend ?_
        refine rp0n rfl ?_
        rw [norm_soa hc64]
        exact ⟨⟨_, _, _, _, hx, ⟨none, 0, rfl, fun h => absurd rfl h⟩, LA.nil, LA.nil, rd_cast hr (by omega)⟩, hf⟩
       ·
        refine sA rfl (send (fg [(0, _), (1, _), (2, _), (9, _), (63, _)] ⟨rfl, rfl, rfl, rfl, rfl, ⟨⟩⟩ fun _ => (cno rfl (sreg ?_))))
        refine svP (xeql rfl rfl) (fun hc101 => ?_) (fun hc101 => ?_)
        ·
         refine sA rfl (send (fg [(0, _), (1, _), (2, _), (9, _), (100, _)] ⟨rfl, rfl, rfl, rfl, rfl, ⟨⟩⟩ fun _ => (cyes rfl (wp_block ?_))))
         have hbo := hbody.2.2.2.2.2 (by omega)
         have hbl4 : bodyL r = textsL r.texts := by simp [bodyL, hc101]
         rw [hbl4] at hbo
         refine lp [(0, _), (1, _), (2, _)] (fun (x : Nat × Value × Nat) => match x with | (k, v, g) => []) (fun (x : Nat × Value × Nat) wx => match x with | (k, v, g) => Fr (fun k => k = br ∨ k = bx) w wx ∧ (k ≤ r.texts.length) ∧ (SB wx br lRd (rdSegs bb ob cb b (p + (textsL (r.texts.take k)).length) wh)) ∧ (SB wx bx lRec (recSegs (rec0 r len) (.slice none 0 0) v (.slice none 0 0))) ∧ (Rw wx v g 9 1 k (strs (r.texts.take k))) ∧ (w.heap.size ≤ g) ∧ (0 < k → g < wx.heap.size)) (fun (x : Nat × Value × Nat) => match x with | (k, v, g) => r.texts.length - k) (0, .slice none 0 0, w.heap.size) ⟨rfl, rfl, rfl, trivial⟩ ⟨Fr.refl _ _, Nat.zero_le _, rd_cast hr (by simp [textsL]), hx, Rw.nil _ _ _ _, Nat.le_refl _, fun h => absurd h (by omega)⟩ ?_
         rintro ⟨k, v, g⟩ _ w119 ⟨hL118, hk, hr, hx, hvt, hg, hg2⟩
         refine fg [(0, _), (1, _), (2, _)] ⟨rfl, rfl, rfl, ⟨⟩⟩ fun _ => ?_
         have z120 := hL118.size
         have hB := rng_fr hB hL118 (by omega) (by show ¬ (bb = br ∨ bb = bx); omega)
         have hf := hf.step hL118 (fun k hk hS => by have hS : k = br ∨ k = bx := hS; show k = br ∨ k = bx; omega)
         obtain ⟨av, cv, rfl, -⟩ := hvt.form
         refine wp_seq (sreg (sM rfl (sN rfl (sv (xfld fl95_2 rfl) (sv (xld on4 rfl (hr.r.c 2 rfl rfl)) (sv (xnot rfl) (sM rfl (gyes rfl rfl rfl (sM rfl (gyes rfl rfl rfl (sN rfl (gyes rfl rfl rfl (sv (xfld fl95_1 rfl) (gyes rfl rfl rfl (sv (xld on3 rfl (hr.r.c 1 rfl rfl)) (gyes rfl rfl rfl (sM rfl (gyes rfl rfl rfl ?_))))))))))))))))))
         refine svP (xlss rfl rfl) (fun hc113 => ?_) (fun hc113 => ?_)
         ·
          refine sv (xpickT rfl rfl) (send (fg [(0, _), (1, _), (2, _), (114, _)] ⟨rfl, rfl, rfl, rfl, ⟨⟩⟩ fun _ => (cyes rfl (wp_skip (nThen (fg [(0, _), (1, _), (2, _)] ⟨rfl, rfl, rfl, ⟨⟩⟩ fun _ => (wp_block ?_)))))))
          have hkl : k < r.texts.length := by rcases Nat.lt_or_ge k r.texts.length with h | h; exact h; rw [List.take_of_length_le h] at hc113; omega
          obtain ⟨t, htk⟩ := some_of_lt hkl
          have hts := texts_at hbo.1 htk
          have htt := texts_take_lt htk
          have htz := htd hc101 t (List.mem_of_getElem? htk)
          simp only [textL] at hts
          have htn := textsL_length r.texts
          refine ldraw (Fr (fun k => k = br ∨ k = g) w119.drew) [(0, .rd), (1, .rd), (2, .rd), (3, .rd), (4, .rd), (5, .rd), (6, .rd), (7, .ld), (8, .rd), (9, .ld), (10, .rd), (11, .ld), (12, .ld), (13, .ld), (14, .ld), (15, .rd), (16, .rd), (17, .bh)] mixed (by kernel_rfl) (fun _ _ _ _ _ h => h) ?_
          have z121 : w119.drew.heap.size = w119.heap.size := rfl
          have hB := rng_fr hB (fd w119) (by omega) id
          have hf := hf.drew
          have hr := hr.drew
          have hx := hx.drew
          have hvt := hvt.keep (fd w119) id
          have hL118 := hL118.drew
          have hS122 : Fr (fun k => k = br ∨ k = g) w119.drew w119.drew := Fr.refl _ _
          refine ggM rfl rfl hS122 (ggM rfl rfl hS122 (ggN rfl rfl hS122 (hv rfl (fun _ _ => xfld fl65_14 rfl) hS122 (hv rfl (fun w' hS => xld on62 rfl ((hx.keep hS (by show ¬ (bx = br ∨ bx = g); omega)).r.c 14 rfl rfl)) hS122 (ggM rfl rfl hS122 (ggM rfl rfl hS122 ?_))))))
          refine hc rfl (xcall ca94 rfl) (c94 (bb := bb) (ob := ob) (cb := cb) (b := b) (xs := [UInt8.ofNat t.size]) (k := 1) hr hB (by omega) (by omega) hcb hbl (Std.left (xs := [UInt8.ofNat t.size]) hts) (rfl) (by omega)) ?_
          rintro _ w123 ⟨o122, c122, rfl, n122, hr, m124⟩
          have z125 := m124.size
          have hB := rng_fr hB m124 (by omega) (by show ¬ (bb = br); omega)
          have hf := hf.step m124 (fun k hk hS => by have hS : k = br := hS; show k = br ∨ k = bx; omega)
          have hx := hx.keep m124 (by show ¬ (bx = br); omega)
          have hvt := hvt.keep m124 (by show ¬ (g = br); omega)
          have hL118 := hL118.step m124 (fun k hk hS => by have hS : k = br := hS; show k = br ∨ k = bx; omega)
          have hS126 := hS122.step m124 (fun k hk hS => by have hS : k = br := hS; show k = br ∨ k = g; omega)
          refine ⟨hS126, ?_⟩
          refine hv rfl (fun _ _ => xidx1 (i := 0) sl37 sz5 rfl rfl rfl (by omega)) hS126 ?_
          refine hl rfl (xld on5 rfl (n122 0 _ rfl)) hS126 ?_
          refine hv rfl (fun _ _ => xconv hs5 ki3 rfl (w64n t.size (by rw [UInt8.toNat_ofNat']; omega) (by omega))) hS126 ?_
          refine hc rfl (xcall ca94 rfl) (c94 (bb := bb) (ob := ob) (cb := cb) (b := b) (xs := (bt t)) (k := t.size) hr hB (by omega) (by omega) hcb hbl (Std.right' (xs := [UInt8.ofNat t.size]) hts rfl) (bt_length t) (by omega)) ?_
          rintro _ w127 ⟨o126, c126, rfl, n126, hr, m128⟩
          have z129 := m128.size
          have hB := rng_fr hB m128 (by omega) (by show ¬ (bb = br); omega)
          have hf := hf.step m128 (fun k hk hS => by have hS : k = br := hS; show k = br ∨ k = bx; omega)
          have hx := hx.keep m128 (by show ¬ (bx = br); omega)
          have hvt := hvt.keep m128 (by show ¬ (g = br); omega)
          have hL118 := hL118.step m128 (fun k hk hS => by have hS : k = br := hS; show k = br ∨ k = bx; omega)
          have hS130 := hS126.step m128 (fun k hk hS => by have hS : k = br := hS; show k = br ∨ k = g; omega)
          refine ⟨hS130, ?_⟩
          refine hl rfl (xb2sR (bs := bt t) sl37 ki5 st9 rfl (bt_length t) n126) hS130 ?_
          refine hlK rfl (xslit ([.string t]) sl62 in9 rfl (by decide) rfl rfl rfl rfl (by decide) rfl rfl) ?_
          rintro _ w132 ⟨b128, rfl, m133, h128, e128, s128, r128⟩
          have hB := rng_fr hB m133 (by omega) id
          have hf := hf.step0 m133
          have hx := hx.keep m133 id
          have hvt := hvt.keep m133 id
          have hL118 := hL118.step0 m133
          have hr := hr.keep m133 id
          have hS134 := hS130.step0 m133
          refine ⟨hS134, ?_⟩
          refine hlK rfl (xapp sl62 in9 rfl (by decide) rfl rfl hvt (r128.src sl62) (by simp only [maxLen]; omega) (by omega)) ?_
          rintro _ w135 ⟨g129, r129, m136, a129, l129⟩
          have z137 := m136.size
          have hB := rng_fr hB m136 (by omega) (by show ¬ (bb = g); omega)
          have hf := hf.step m136 (fun k hk hS => by have hS : k = g := hS; show k = br ∨ k = bx; omega)
          have hx := hx.keep m136 (by show ¬ (bx = g); omega)
          have hL118 := hL118.step m136 (fun k hk hS => by have hS : k = g := hS; show k = br ∨ k = bx; omega)
          have hr := hr.keep m136 (by show ¬ (br = g); omega)
          have hS138 := hS134.step m136 (fun k hk hS => by have hS : k = g := hS; show k = br ∨ k = g; omega)
          obtain ⟨p129, q129, rfl, -⟩ := r129.form
          refine ⟨hS138, ?_⟩
          refine ggN rfl rfl hS138 (hv rfl (fun _ _ => xfld fl65_14 rfl) hS138 ?_)
          refine bluK rfl (xstF 14 sz62 hx rfl rfl rfl rfl rfl) ?_
          rintro w140 ⟨m141, hx, s139⟩
          have hB := rng_fr hB m141 (by omega) (by show ¬ (bb = bx); omega)
          have hf := hf.step m141 (fun k hk hS => by have hS : k = bx := hS; show k = br ∨ k = bx; omega)
          have hL118 := hL118.step m141 (fun k hk hS => by have hS : k = bx := hS; show k = br ∨ k = bx; omega)
          have hr := hr.keep m141 (by show ¬ (br = bx); omega)
          have r129 := r129.keep m141 (by show ¬ (g129 = bx); omega)
          refine lhend (nBlock (nThen ?_))
          refine ⟨(k + 1, _, g129), _, env_okl ⟨rfl, rfl, rfl, trivial⟩, ⟨hL118, (by omega), (rd_cast hr (by rw [texts_snoc htk]; simp only [textL, List.length_append, List.length_cons, bt_length]; omega)), (hx), (by rw [strs_snoc htk]; exact r129), (by omega), (fun _ => by have hq := l129 (by omega); omega)⟩, ?_⟩
          show r.texts.length - (k + 1) < r.texts.length - k; omega
         ·
          refine sv (xpickT rfl rfl) (send (fg [(0, _), (1, _), (2, _), (114, _)] ⟨rfl, rfl, rfl, rfl, ⟨⟩⟩ fun _ => (cno rfl (wp_exit (eThen (eThen (eHit (nBlock (nThen (fg [(0, _), (2, _)] ⟨rfl, rfl, ⟨⟩⟩ fun _ => ?_))))))))))
          have hkl : r.texts.length ≤ k := by rcases Nat.lt_or_ge k r.texts.length with h | h; exact absurd (texts_take_lt (List.getElem?_eq_getElem h)) (by omega); exact h
          have e1 : r.texts.take k = r.texts := List.take_of_length_le hkl
          have hkn : k = r.texts.length := by omega
          rw [e1] at hvt hr
          refine lreg (sM rfl (sM rfl (sN rfl (sv (xfld fl95_2 rfl) (sv (xld on4 rfl (hr.r.c 2 rfl rfl)) (sM rfl (gyes rfl rfl rfl (sM rfl (gyes rfl rfl rfl (sN rfl (gyes rfl rfl rfl (sv (xfld fl95_1 rfl) (gyes rfl rfl rfl (sv (xld on3 rfl (hr.r.c 1 rfl rfl)) (gyes rfl rfl rfl (sM rfl (gyes rfl rfl rfl (sv (exF (xneq rfl rfl) (by omega)) (sv (xpickF rfl rfl) (sN rfl (sv (xfld fl95_2 rfl) ?_)))))))))))))))))))))
          refine suK (xstF 2 sz4 hr rfl rfl rfl rfl rfl) ?_
          rintro w143 ⟨m144, hr, s142⟩
          have hB := rng_fr hB m144 (by omega) (by show ¬ (bb = br); omega)
          have hf := hf.step m144 (fun k hk hS => by have hS : k = br := hS; show k = br ∨ k = bx; omega)
          have hx := hx.keep m144 (by show ¬ (bx = br); omega)
          have hvt := hvt.keep m144 (by show ¬ (g = br); omega)
          refine lend ?_
          refine rp0n rfl ?_
          rw [norm_txt hc101]
          exact ⟨⟨_, _, _, _, hx, ⟨none, 0, rfl, fun h => absurd rfl h⟩, (la_texts hvt hkn (fun h => .inr ⟨by omega, by have hq := hg2 h; omega⟩)), LA.nil, rd_cast hr (by omega)⟩, hf⟩
        ·
         refine sA rfl (send (fg [(0, _), (1, _), (2, _), (9, _), (100, _)] ⟨rfl, rfl, rfl, rfl, rfl, ⟨⟩⟩ fun _ => (cno rfl (sreg ?_))))
         refine svP (xeql rfl rfl) (fun hc133 => ?_) (fun hc133 => ?_)
         ·
          refine sA rfl (send (fg [(0, _), (1, _), (2, _), (9, _), (132, _)] ⟨rfl, rfl, rfl, rfl, rfl, ⟨⟩⟩ fun _ => (cyes rfl ?_)))
          obtain ⟨hb3, hnk⟩ := hbody.2.2.2.1 hc133
          refine sreg (sM rfl (sM rfl (sM rfl (sM rfl ?_))))
          refine sc (xcall ca41 rfl) (c41 (bb := bb) (ob := ob) (cb := cb) (b := b) (x := (r.n1.toNat % 65536)) hr hB (by omega) (by omega) hcb hbl (by omega) (std16 hb3.left)) ?_
          rintro _ w145 ⟨rfl, hr, m146⟩
          have z147 := m146.size
          have hB := rng_fr hB m146 (by omega) (by show ¬ (bb = br); omega)
          have hx := hx.keep m146 (by show ¬ (bx = br); omega)
          have hf := hf.step m146 (fun k hk hS => by have hS : k = br := hS; show k = br ∨ k = bx; omega)
          refine sv (xconv hs22 ki61 rfl (wu32n (m16 r.n1).toNat (by rw [m16_nat]; omega))) (sM rfl ?_)
          refine sc (xcall ca41 rfl) (c41 (bb := bb) (ob := ob) (cb := cb) (b := b) (x := (r.n2.toNat % 65536)) hr hB (by omega) (by omega) hcb hbl (by omega) (std16 (hb3.right' rfl).left)) ?_
          rintro _ w148 ⟨rfl, hr, m149⟩
          have z150 := m149.size
          have hB := rng_fr hB m149 (by omega) (by show ¬ (bb = br); omega)
          have hx := hx.keep m149 (by show ¬ (bx = br); omega)
          have hf := hf.step m149 (fun k hk hS => by have hS : k = br := hS; show k = br ∨ k = bx; omega)
          refine sv (xconv hs22 ki61 rfl (wu32n (m16 r.n2).toNat (by rw [m16_nat]; omega))) (sM rfl ?_)
          refine sc (xcall ca41 rfl) (c41 (bb := bb) (ob := ob) (cb := cb) (b := b) (x := (r.n3.toNat % 65536)) hr hB (by omega) (by omega) hcb hbl (by omega) (std16 ((hb3.right' rfl).right' rfl))) ?_
          rintro _ w151 ⟨rfl, hr, m152⟩
          have z153 := m152.size
          have hB := rng_fr hB m152 (by omega) (by show ¬ (bb = br); omega)
          have hx := hx.keep m152 (by show ¬ (bx = br); omega)
          have hf := hf.step m152 (fun k hk hS => by have hS : k = br := hS; show k = br ∨ k = bx; omega)
          refine sv (xconv hs22 ki61 rfl (wu32n (m16 r.n3).toNat (by rw [m16_nat]; omega))) (sN rfl (sv (xfld fl65_9 rfl) ?_))
          refine suK (xstF 9 sz61 hx rfl rfl rfl rfl rfl) ?_
          rintro w155 ⟨m156, hx, s154⟩
          have hB := rng_fr hB m156 (by omega) (by show ¬ (bb = bx); omega)
          have hf := hf.step m156 (fun k hk hS => by have hS : k = bx := hS; show k = br ∨ k = bx; omega)
          have hr := hr.keep m156 (by show ¬ (br = bx); omega)
          refine sN rfl (sv (xfld fl65_10 rfl) ?_)
          refine suK (xstF 10 sz61 hx rfl rfl rfl rfl rfl) ?_
          rintro w158 ⟨m159, hx, s157⟩
          have hB := rng_fr hB m159 (by omega) (by show ¬ (bb = bx); omega)
          have hf := hf.step m159 (fun k hk hS => by have hS : k = bx := hS; show k = br ∨ k = bx; omega)
          have hr := hr.keep m159 (by show ¬ (br = bx); omega)
          refine sN rfl (sv (xfld fl65_11 rfl) ?_)
          refine suK (xstF 11 sz61 hx rfl rfl rfl rfl rfl) ?_
          rintro w161 ⟨m162, hx, s160⟩
          have hB := rng_fr hB m162 (by omega) (by show ¬ (bb = bx); omega)
          have hf := hf.step m162 (fun k hk hS => by have hS : k = bx := hS; show k = br ∨ k = bx; omega)
          have hr := hr.keep m162 (by show ¬ (br = bx); omega)
          refine send (fg [(0, _), (1, _), (2, _)] ⟨rfl, rfl, rfl, ⟨⟩⟩ fun _ => (lreg (sM rfl (sM rfl ?_))))
          refine sc (xcall ca192 rfl) (c192 (bb := bb) (ob := ob) (cb := cb) (b := b) (e := _) (S := bt r.host) hr hB (by omega) (by omega) hcb hbl (hnk) (hno.2.1 (by omega))) ?_
          rintro _ w163 ⟨rfl, hr, m164⟩
          have z165 := m164.size
          have hB := rng_fr hB m164 (by omega) (by show ¬ (bb = br); omega)
          have hx := hx.keep m164 (by show ¬ (bx = br); omega)
          have hf := hf.step m164 (fun k hk hS => by have hS : k = br := hS; show k = br ∨ k = bx; omega)
          refine sN rfl (sv (xfld fl65_7 rfl) ?_)
          refine suK (xstF 7 sz9 hx rfl rfl rfl rfl rfl) ?_
          rintro w167 ⟨m168, hx, s166⟩
          have hB := rng_fr hB m168 (by omega) (by show ¬ (bb = bx); omega)
          have hf := hf.step m168 (fun k hk hS => by have hS : k = bx := hS; show k = br ∨ k = bx; omega)
          have hr := hr.keep m168 (by show ¬ (br = bx); omega)
          refine lend (nBlock (nThen (fg [(0, _), (2, _)] ⟨rfl, rfl, ⟨⟩⟩ fun _ => (lreg (sM rfl (sM rfl (sN rfl (sv (xfld fl95_2 rfl) (sv (xld on4 rfl (hr.r.c 2 rfl rfl)) (sM rfl (gyes rfl rfl rfl (sM rfl (gyes rfl rfl rfl (sN rfl (gyes rfl rfl rfl (sv (xfld fl95_1 rfl) (gyes rfl rfl rfl (sv (xld on3 rfl (hr.r.c 1 rfl rfl)) (gyes rfl rfl rfl (sM rfl (gyes rfl rfl rfl (sv (exF (xneq rfl rfl) (by omega)) (sv (xpickF rfl rfl) (sN rfl ?_))))))))))))))))))))))))
          refine sv (xfld fl95_2 rfl) ?_
          refine suK (xstF 2 sz4 hr rfl rfl rfl rfl rfl) ?_
          rintro w170 ⟨m171, hr, s169⟩
          have hB := rng_fr hB m171 (by omega) (by show ¬ (bb = br); omega)
          have hx := hx.keep m171 (by show ¬ (bx = br); omega)
          have hf := hf.step m171 (fun k hk hS => by have hS : k = br := hS; show k = br ∨ k = bx; omega)
          refine lend ?_
          refine rp0n rfl ?_
          rw [norm_srv hc133]
          exact ⟨⟨_, _, _, _, hx, ⟨none, 0, rfl, fun h => absurd rfl h⟩, LA.nil, LA.nil, rd_cast hr (rfl)⟩, hf⟩
         ·
          refine sA rfl (send (fg [(0, _), (1, _), (2, _), (9, _), (132, _)] ⟨rfl, rfl, rfl, rfl, rfl, ⟨⟩⟩ fun _ => (cno rfl (sreg ?_))))
          refine svP (xeql rfl rfl) (fun hc158 => ?_) (fun hc158 => ?_)
          ·
           refine sA rfl (send (fg [(0, _), (1, _), (2, _), (9, _), (157, _)] ⟨rfl, rfl, rfl, rfl, rfl, ⟨⟩⟩ fun _ => (cyes rfl ?_)))
           have hbo := hbody.2.2.2.2.2 (by omega)
           have hbl4 : bodyL r = pairsL r.pairs := by simp [bodyL, hc158]
           rw [hbl4] at hbo
           refine lreg (sM rfl (sM rfl (sM rfl ?_)))
           refine sc (xcall ca193 rfl) (c193 (bb := bb) (ob := ob) (cb := cb) (b := b) (e := e) (ps := r.pairs) hr hB (by omega) (by omega) hcb hbl (hbo.1) (hbo.2) (by omega) hpd) ?_
           rintro v162 w172 ⟨L162, hr, m173⟩
           have z174 := m173.size
           have hB := rng_fr hB m173 (by omega) (by show ¬ (bb = br); omega)
           have hx := hx.keep m173 (by show ¬ (bx = br); omega)
           have hf := hf.step m173 (fun k hk hS => by have hS : k = br := hS; show k = br ∨ k = bx; omega)
           obtain ⟨aq162, cq162, rfl⟩ := L162.form
           refine sN rfl (sv (xfld fl65_15 rfl) ?_)
           refine suK (xstF 15 sz63 hx rfl rfl rfl rfl rfl) ?_
           rintro w176 ⟨m177, hx, s175⟩
           have hB := rng_fr hB m177 (by omega) (by show ¬ (bb = bx); omega)
           have hf := hf.step m177 (fun k hk hS => by have hS : k = bx := hS; show k = br ∨ k = bx; omega)
           have hr := hr.keep m177 (by show ¬ (br = bx); omega)
           have L162 := L162.keep pair_st (lNo (by omega)) m177 (fun k hk hS => by have hk := Ub.num (U := NoU) (n := 0) (fun _ h => h.elim) hk; have hS : k = bx := hS; omega)
           refine lend (nBlock (nThen (fg [(0, _), (2, _)] ⟨rfl, rfl, ⟨⟩⟩ fun _ => (lreg (sM rfl (sM rfl (sN rfl (sv (xfld fl95_2 rfl) (sv (xld on4 rfl (hr.r.c 2 rfl rfl)) (sM rfl (gyes rfl rfl rfl (sM rfl (gyes rfl rfl rfl (sN rfl (gyes rfl rfl rfl (sv (xfld fl95_1 rfl) (gyes rfl rfl rfl (sv (xld on3 rfl (hr.r.c 1 rfl rfl)) (gyes rfl rfl rfl (sM rfl (gyes rfl rfl rfl (sv (exF (xneq rfl rfl) (by omega)) (sv (xpickF rfl rfl) (sN rfl ?_))))))))))))))))))))))))
           refine sv (xfld fl95_2 rfl) ?_
           refine suK (xstF 2 sz4 hr rfl rfl rfl rfl rfl) ?_
           rintro w179 ⟨m180, hr, s178⟩
           have hB := rng_fr hB m180 (by omega) (by show ¬ (bb = br); omega)
           have hx := hx.keep m180 (by show ¬ (bx = br); omega)
           have hf := hf.step m180 (fun k hk hS => by have hS : k = br := hS; show k = br ∨ k = bx; omega)
           have L162 := L162.keep pair_st (lNo (by omega)) m180 (fun k hk hS => by have hk := Ub.num (U := NoU) (n := 0) (fun _ h => h.elim) hk; have hS : k = br := hS; omega)
           refine lend ?_
           refine rp0n rfl ?_
           rw [norm_opt hc158]
           exact ⟨⟨_, _, _, _, hx, ⟨none, 0, rfl, fun h => absurd rfl h⟩, LA.nil, (L162.mono pair_gr (fun k hk => hk.elim .inl (fun h => .inr ⟨by omega, by omega⟩))), rd_cast hr (rfl)⟩, hf⟩
          ·
           refine sA rfl (send (fg [(0, _), (1, _), (2, _), (9, _), (157, _)] ⟨rfl, rfl, rfl, rfl, rfl, ⟨⟩⟩ fun _ => (cno rfl (wp_seq (sreg ?_)))))
           refine svP (xeql rfl rfl) (fun hc166 => ?_) (fun hc166 => ?_)
           ·
            refine sA rfl (send (fg [(0, _), (1, _), (2, _), (9, _), (165, _)] ⟨rfl, rfl, rfl, rfl, rfl, ⟨⟩⟩ fun _ => (cyes rfl (wp_skip (nThen (fg [(0, _), (1, _), (2, _), (165, _)] ⟨rfl, rfl, rfl, rfl, ⟨⟩⟩ fun _ => (cyes rfl ?_)))))))
            obtain ⟨hb1, e1, hnk, hps, hee⟩ := hbody.2.2.2.2.1 (by omega)
            refine sreg (sM rfl (sM rfl ?_))
            refine sc (xcall ca41 rfl) (c41 (bb := bb) (ob := ob) (cb := cb) (b := b) (x := (r.n1.toNat % 65536)) hr hB (by omega) (by omega) hcb hbl (by omega) (std16 hb1)) ?_
            rintro _ w181 ⟨rfl, hr, m182⟩
            have z183 := m182.size
            have hB := rng_fr hB m182 (by omega) (by show ¬ (bb = br); omega)
            have hx := hx.keep m182 (by show ¬ (bx = br); omega)
            have hf := hf.step m182 (fun k hk hS => by have hS : k = br := hS; show k = br ∨ k = bx; omega)
            refine sv (xconv hs22 ki61 rfl (wu32n (m16 r.n1).toNat (by rw [m16_nat]; omega))) (sN rfl (sv (xfld fl65_9 rfl) ?_))
            refine suK (xstF 9 sz61 hx rfl rfl rfl rfl rfl) ?_
            rintro w185 ⟨m186, hx, s184⟩
            have hB := rng_fr hB m186 (by omega) (by show ¬ (bb = bx); omega)
            have hf := hf.step m186 (fun k hk hS => by have hS : k = bx := hS; show k = br ∨ k = bx; omega)
            have hr := hr.keep m186 (by show ¬ (br = bx); omega)
            refine send (fg [(0, _), (1, _), (2, _)] ⟨rfl, rfl, rfl, ⟨⟩⟩ fun _ => (sreg (sM rfl (sM rfl ?_))))
            refine sc (xcall ca192 rfl) (c192 (bb := bb) (ob := ob) (cb := cb) (b := b) (e := _) (S := bt r.host) hr hB (by omega) (by omega) hcb hbl (hnk) (hno.2.1 (by omega))) ?_
            rintro _ w187 ⟨rfl, hr, m188⟩
            have z189 := m188.size
            have hB := rng_fr hB m188 (by omega) (by show ¬ (bb = br); omega)
            have hx := hx.keep m188 (by show ¬ (bx = br); omega)
            have hf := hf.step m188 (fun k hk hS => by have hS : k = br := hS; show k = br ∨ k = bx; omega)
            refine sN rfl (sv (xfld fl65_7 rfl) ?_)
            refine suK (xstF 7 sz9 hx rfl rfl rfl rfl rfl) ?_
            rintro w191 ⟨m192, hx, s190⟩
            have hB := rng_fr hB m192 (by omega) (by show ¬ (bb = bx); omega)
            have hf := hf.step m192 (fun k hk hS => by have hS : k = bx := hS; show k = br ∨ k = bx; omega)
            have hr := hr.keep m192 (by show ¬ (br = bx); omega)
            refine send (fg [(0, _), (1, _), (2, _)] ⟨rfl, rfl, rfl, ⟨⟩⟩ fun _ => (lreg (sM rfl (sM rfl (sM rfl ?_)))))
            refine sc (xcall ca193 rfl) (c193 (bb := bb) (ob := ob) (cb := cb) (b := b) (e := e) (ps := r.pairs) hr hB (by omega) (by omega) hcb hbl (hps) (hee) (by omega) hpd) ?_
            rintro v182 w193 ⟨L182, hr, m194⟩
            have z195 := m194.size
            have hB := rng_fr hB m194 (by omega) (by show ¬ (bb = br); omega)
            have hx := hx.keep m194 (by show ¬ (bx = br); omega)
            have hf := hf.step m194 (fun k hk hS => by have hS : k = br := hS; show k = br ∨ k = bx; omega)
            obtain ⟨aq182, cq182, rfl⟩ := L182.form
            refine sN rfl (sv (xfld fl65_15 rfl) ?_)
            refine suK (xstF 15 sz63 hx rfl rfl rfl rfl rfl) ?_
            rintro w197 ⟨m198, hx, s196⟩
            have hB := rng_fr hB m198 (by omega) (by show ¬ (bb = bx); omega)
            have hf := hf.step m198 (fun k hk hS => by have hS : k = bx := hS; show k = br ∨ k = bx; omega)
            have hr := hr.keep m198 (by show ¬ (br = bx); omega)
            have L182 := L182.keep pair_st (lNo (by omega)) m198 (fun k hk hS => by have hk := Ub.num (U := NoU) (n := 0) (fun _ h => h.elim) hk; have hS : k = bx := hS; omega)
            refine lend (nBlock (nThen (fg [(0, _), (2, _)] ⟨rfl, rfl, ⟨⟩⟩ fun _ => (lreg (sM rfl (sM rfl (sN rfl (sv (xfld fl95_2 rfl) (sv (xld on4 rfl (hr.r.c 2 rfl rfl)) (sM rfl (gyes rfl rfl rfl (sM rfl (gyes rfl rfl rfl (sN rfl (gyes rfl rfl rfl (sv (xfld fl95_1 rfl) (gyes rfl rfl rfl (sv (xld on3 rfl (hr.r.c 1 rfl rfl)) (gyes rfl rfl rfl (sM rfl (gyes rfl rfl rfl (sv (exF (xneq rfl rfl) (by omega)) (sv (xpickF rfl rfl) (sN rfl ?_))))))))))))))))))))))))
            refine sv (xfld fl95_2 rfl) ?_
            refine suK (xstF 2 sz4 hr rfl rfl rfl rfl rfl) ?_
            rintro w200 ⟨m201, hr, s199⟩
            have hB := rng_fr hB m201 (by omega) (by show ¬ (bb = br); omega)
            have hx := hx.keep m201 (by show ¬ (bx = br); omega)
            have hf := hf.step m201 (fun k hk hS => by have hS : k = br := hS; show k = br ∨ k = bx; omega)
            have L182 := L182.keep pair_st (lNo (by omega)) m201 (fun k hk hS => by have hk := Ub.num (U := NoU) (n := 0) (fun _ h => h.elim) hk; have hS : k = br := hS; omega)
            refine lend ?_
            refine rp0n rfl ?_
            rw [norm_svc (by omega)]
            exact ⟨⟨_, _, _, _, hx, ⟨none, 0, rfl, fun h => absurd rfl h⟩, LA.nil, (L182.mono pair_gr (fun k hk => hk.elim .inl (fun h => .inr ⟨by omega, by omega⟩))), rd_cast hr (rfl)⟩, hf⟩
           ·
            refine sA rfl (send (fg [(0, _), (1, _), (2, _), (9, _), (165, _)] ⟨rfl, rfl, rfl, rfl, rfl, ⟨⟩⟩ fun _ => (cno rfl (lreg ?_))))
            refine svP (xeql rfl rfl) (fun hc167 => ?_) (fun hc167 => ?_)
            ·
             refine sA rfl (lend (nThen (fg [(0, _), (1, _), (2, _), (165, _)] ⟨rfl, rfl, rfl, rfl, ⟨⟩⟩ fun _ => (cyes rfl ?_))))
             obtain ⟨hb1, e1, hnk, hps, hee⟩ := hbody.2.2.2.2.1 (by omega)
             refine sreg (sM rfl (sM rfl ?_))
             refine sc (xcall ca41 rfl) (c41 (bb := bb) (ob := ob) (cb := cb) (b := b) (x := (r.n1.toNat % 65536)) hr hB (by omega) (by omega) hcb hbl (by omega) (std16 hb1)) ?_
             rintro _ w202 ⟨rfl, hr, m203⟩
             have z204 := m203.size
             have hB := rng_fr hB m203 (by omega) (by show ¬ (bb = br); omega)
             have hx := hx.keep m203 (by show ¬ (bx = br); omega)
             have hf := hf.step m203 (fun k hk hS => by have hS : k = br := hS; show k = br ∨ k = bx; omega)
             refine sv (xconv hs22 ki61 rfl (wu32n (m16 r.n1).toNat (by rw [m16_nat]; omega))) (sN rfl (sv (xfld fl65_9 rfl) ?_))
             refine suK (xstF 9 sz61 hx rfl rfl rfl rfl rfl) ?_
             rintro w206 ⟨m207, hx, s205⟩
             have hB := rng_fr hB m207 (by omega) (by show ¬ (bb = bx); omega)
             have hf := hf.step m207 (fun k hk hS => by have hS : k = bx := hS; show k = br ∨ k = bx; omega)
             have hr := hr.keep m207 (by show ¬ (br = bx); omega)
             refine send (fg [(0, _), (1, _), (2, _)] ⟨rfl, rfl, rfl, ⟨⟩⟩ fun _ => (sreg (sM rfl (sM rfl ?_))))
             refine sc (xcall ca192 rfl) (c192 (bb := bb) (ob := ob) (cb := cb) (b := b) (e := _) (S := bt r.host) hr hB (by omega) (by omega) hcb hbl (hnk) (hno.2.1 (by omega))) ?_
             rintro _ w208 ⟨rfl, hr, m209⟩
             have z210 := m209.size
             have hB := rng_fr hB m209 (by omega) (by show ¬ (bb = br); omega)
             have hx := hx.keep m209 (by show ¬ (bx = br); omega)
             have hf := hf.step m209 (fun k hk hS => by have hS : k = br := hS; show k = br ∨ k = bx; omega)
             refine sN rfl (sv (xfld fl65_7 rfl) ?_)
             refine suK (xstF 7 sz9 hx rfl rfl rfl rfl rfl) ?_
             rintro w212 ⟨m213, hx, s211⟩
             have hB := rng_fr hB m213 (by omega) (by show ¬ (bb = bx); omega)
             have hf := hf.step m213 (fun k hk hS => by have hS : k = bx := hS; show k = br ∨ k = bx; omega)
             have hr := hr.keep m213 (by show ¬ (br = bx); omega)
             refine send (fg [(0, _), (1, _), (2, _)] ⟨rfl, rfl, rfl, ⟨⟩⟩ fun _ => (lreg (sM rfl (sM rfl (sM rfl ?_)))))
             refine sc (xcall ca193 rfl) (c193 (bb := bb) (ob := ob) (cb := cb) (b := b) (e := e) (ps := r.pairs) hr hB (by omega) (by omega) hcb hbl (hps) (hee) (by omega) hpd) ?_
             rintro v182 w214 ⟨L182, hr, m215⟩
             have z216 := m215.size
             have hB := rng_fr hB m215 (by omega) (by show ¬ (bb = br); omega)
             have hx := hx.keep m215 (by show ¬ (bx = br); omega)
             have hf := hf.step m215 (fun k hk hS => by have hS : k = br := hS; show k = br ∨ k = bx; omega)
             obtain ⟨aq182, cq182, rfl⟩ := L182.form
             refine sN rfl (sv (xfld fl65_15 rfl) ?_)
             refine suK (xstF 15 sz63 hx rfl rfl rfl rfl rfl) ?_
             rintro w218 ⟨m219, hx, s217⟩
             have hB := rng_fr hB m219 (by omega) (by show ¬ (bb = bx); omega)
             have hf := hf.step m219 (fun k hk hS => by have hS : k = bx := hS; show k = br ∨ k = bx; omega)
             have hr := hr.keep m219 (by show ¬ (br = bx); omega)
             have L182 := L182.keep pair_st (lNo (by omega)) m219 (fun k hk hS => by have hk := Ub.num (U := NoU) (n := 0) (fun _ h => h.elim) hk; have hS : k = bx := hS; omega)
             refine lend (nBlock (nThen (fg [(0, _), (2, _)] ⟨rfl, rfl, ⟨⟩⟩ fun _ => (lreg (sM rfl (sM rfl (sN rfl (sv (xfld fl95_2 rfl) (sv (xld on4 rfl (hr.r.c 2 rfl rfl)) (sM rfl (gyes rfl rfl rfl (sM rfl (gyes rfl rfl rfl (sN rfl (gyes rfl rfl rfl (sv (xfld fl95_1 rfl) (gyes rfl rfl rfl (sv (xld on3 rfl (hr.r.c 1 rfl rfl)) (gyes rfl rfl rfl (sM rfl (gyes rfl rfl rfl (sv (exF (xneq rfl rfl) (by omega)) (sv (xpickF rfl rfl) (sN rfl ?_))))))))))))))))))))))))
             refine sv (xfld fl95_2 rfl) ?_
             refine suK (xstF 2 sz4 hr rfl rfl rfl rfl rfl) ?_
             rintro w221 ⟨m222, hr, s220⟩
             have hB := rng_fr hB m222 (by omega) (by show ¬ (bb = br); omega)
             have hx := hx.keep m222 (by show ¬ (bx = br); omega)
             have hf := hf.step m222 (fun k hk hS => by have hS : k = br := hS; show k = br ∨ k = bx; omega)
             have L182 := L182.keep pair_st (lNo (by omega)) m222 (fun k hk hS => by have hk := Ub.num (U := NoU) (n := 0) (fun _ h => h.elim) hk; have hS : k = br := hS; omega)
             refine lend ?_
             refine rp0n rfl ?_
             rw [norm_svc (by omega)]
             exact ⟨⟨_, _, _, _, hx, ⟨none, 0, rfl, fun h => absurd rfl h⟩, LA.nil, (L182.mono pair_gr (fun k hk => hk.elim .inl (fun h => .inr ⟨by omega, by omega⟩))), rd_cast hr (rfl)⟩, hf⟩
            ·
             refine sA rfl (lend (nThen (fg [(0, _), (1, _), (2, _), (165, _)] ⟨rfl, rfl, rfl, rfl, ⟨⟩⟩ fun _ => (cno rfl ?_))))
             have h13 : r.kind = 13 := by omega
             have hbo := hbody.2.2.2.2.2 (by omega)
             have hbl4 : bodyL r = r.data := by simp [bodyL, h13]
             rw [hbl4] at hbo
             refine lreg (sM rfl (sM rfl (sM rfl (sM rfl (sN rfl (sv (xfld fl95_1 rfl) (sv (xld on3 rfl (hr.r.c 1 rfl rfl)) (sv (xsub rfl rfl (w64n (r.data.length) (by omega) (by omega))) ?_))))))))
             refine sc (xcall ca94 rfl) (c94 (bb := bb) (ob := ob) (cb := cb) (b := b) (xs := r.data) (k := r.data.length) hr hB (by omega) (by omega) hcb hbl (hbo.1) (rfl) (by omega)) ?_
             rintro _ w223 ⟨o18, c18, rfl, n18, hr, m224⟩
             have z225 := m224.size
             have hx := hx.keep m224 (by show ¬ (bx = br); omega)
             have hf := hf.step m224 (fun k hk hS => by have hS : k = br := hS; show k = br ∨ k = bx; omega)
             refine svK (xslit [_] sl105 in37 rfl (by decide) rfl rfl rfl rfl (by decide) rfl rfl) ?_
             rintro _ w227 ⟨b19, rfl, m228, h19, e19, s19, r19⟩
             have hx := hx.keep m228 id
             have hf := hf.step0 m228
             have hr := hr.keep m228 id
             have n18 := rng_fr n18 m228 (by omega) id
             refine sc (xcall ca21 rfl) (c21_1 (U := fun k => k = bb) (bs := r.data) (Rw.rng r19) (by omega) (fun k hk => by have hk : k = bb := hk; omega) (take_ba n18 (rfl)) (by omega)) ?_
             rintro _ w229 ⟨p20, q20, g20, rfl, r20, m230, a20, l20⟩
             have z231 := m230.size
             have hx := hx.keep m230 id
             have hf := hf.step0 m230
             have hr := hr.keep m230 id
             refine sN rfl (sv (xfld fl65_6 rfl) ?_)
             refine suK (xstF 6 sz37 hx rfl rfl rfl rfl rfl) ?_
             rintro w233 ⟨m234, hx, s232⟩
             have hf := hf.step m234 (fun k hk hS => by have hS : k = bx := hS; show k = br ∨ k = bx; omega)
             have hr := hr.keep m234 (by show ¬ (br = bx); omega)
             have r20 := r20.keep m234 (by show ¬ (g20 = bx); omega)
             refine lend (nBlock (nThen (fg [(0, _), (2, _)] ⟨rfl, rfl, ⟨⟩⟩ fun _ => (lreg (sM rfl (sM rfl (sN rfl (sv (xfld fl95_2 rfl) (sv (xld on4 rfl (hr.r.c 2 rfl rfl)) (sM rfl (gyes rfl rfl rfl (sM rfl (gyes rfl rfl rfl (sN rfl (gyes rfl rfl rfl (sv (xfld fl95_1 rfl) (gyes rfl rfl rfl (sv (xld on3 rfl (hr.r.c 1 rfl rfl)) (gyes rfl rfl rfl (sM rfl (gyes rfl rfl rfl (sv (exF (xneq rfl rfl) (by omega)) (sv (xpickF rfl rfl) (sN rfl ?_))))))))))))))))))))))))
             refine sv (xfld fl95_2 rfl) ?_
             refine suK (xstF 2 sz4 hr rfl rfl rfl rfl rfl) ?_
             rintro w236 ⟨m237, hr, s235⟩
             have hx := hx.keep m237 (by show ¬ (bx = br); omega)
             have hf := hf.step m237 (fun k hk hS => by have hS : k = br := hS; show k = br ∨ k = bx; omega)
             have r20 := r20.keep m237 (by show ¬ (g20 = br); omega)
             refine lend ?_
             refine rp0n rfl ?_
             rw [norm_unk h13]
             exact ⟨⟨_, _, _, _, hx, (BR.ba (show BR _ _ _ _ r.data from r20) (.inr ⟨by omega, by omega⟩)), LA.nil, LA.nil, rd_cast hr (by omega)⟩, hf⟩
set_option maxHeartbeats 4000000 in
set_option maxRecDepth 100000 in
theorem c96 {w : World} {br bb ob cb : Nat} {b : List UInt8} {p : Nat} {wh : Bool} (hr : SB w br lRd (rdSegs bb ob cb b p wh)) (hB : w.rangeAt bb ob (bvs b)) (hbb : bb < w.heap.size) (hbr : bb ≠ br) (hcb : b.length ≤ cb) (hbl : b.length < 100000000) {e : Nat} {r : RecD} {Kp : Nat → Prop} (hrec : RecR Kp b p r e) (he : e ≤ b.length) (hok : ReadOk r)  :
  Ret PP 96 [.pointer (some ⟨br, 0, none⟩)] w (fun u w' => ∃ len vd vt vp wh', u = ag (recSegs (normR r len) vd vt vp) ∧ BA (Ub NoU w w') w' vd (normR r len).data ∧ LA TextEl [1] (Ub NoU w w') w' vt (normR r len).texts ∧ LA PairEl lPair (Ub NoU w w') w' vp (normR r len).pairs ∧ SB w' br lRd (rdSegs bb ob cb b e wh') ∧ Fr (fun k => k = br) w w') := by
 obtain ⟨e0, ln, ⟨kn, -, hkn⟩, hfix, hln, hbody, rfl⟩ := hrec
 obtain ⟨hk1, hk13, hno, hpd, htd, hpl⟩ := hok
 have hlnN : (UInt16.ofNat ln).toNat = ln := by rw [UInt16.toNat_ofNat']; omega
 rw [← hlnN] at hfix
 have hf : Fr (fun k => k = br) w w := Fr.refl _ _
 have z_hr := hr.lt
 refine ret_of Tryz.func96 rfl rfl rfl [(0, _)] rfl ?_
 refine sreg ?_
 refine svK (xallS (lens := lRec) in65 rfl) ?_
 rintro _ w2 ⟨b2, rfl, m3, h2, e1, s1⟩
 have hr := hr.keep m3 id
 have hB := rng_fr hB m3 (by omega) id
 have hf := hf.step0 m3
 refine send (fg [(0, _), (2, _)] ⟨rfl, rfl, ⟨⟩⟩ fun _ => (sreg (sM rfl ?_)))
 refine sc (xcall ca42 rfl) (c42 (bb := bb) (ob := ob) (cb := cb) (b := b) (K := _) (e := _) (S := bt r.name) hr hB (by omega) (by omega) hcb hbl (hkn) (hno.1)) ?_
 rintro _ w4 ⟨rfl, hr, m5⟩
 have z6 := m5.size
 have hB := rng_fr hB m5 (by omega) (by show ¬ (bb = br); omega)
 have hf := hf.step m5 (fun k hk hS => by have hS : k = br := hS; show k = br; omega)
 have h2 := h2.keep m5 (by show ¬ (b2 = br); omega)
 refine sM rfl ?_
 refine sc (xcall ca41 rfl) (c41 (bb := bb) (ob := ob) (cb := cb) (b := b) (x := (typeN r).toNat) hr hB (by omega) (by omega) hcb hbl (u16lt _) (hfix.left)) ?_
 rintro _ w7 ⟨rfl, hr, m8⟩
 have z9 := m8.size
 have hB := rng_fr hB m8 (by omega) (by show ¬ (bb = br); omega)
 have hf := hf.step m8 (fun k hk hS => by have hS : k = br := hS; show k = br; omega)
 have h2 := h2.keep m8 (by show ¬ (b2 = br); omega)
 refine sM rfl ?_
 refine sc (xcall ca41 rfl) (c41 (bb := bb) (ob := ob) (cb := cb) (b := b) (x := r.cls.toNat) hr hB (by omega) (by omega) hcb hbl (u16lt _) ((hfix.right' rfl).left)) ?_
 rintro _ w10 ⟨rfl, hr, m11⟩
 have z12 := m11.size
 have hB := rng_fr hB m11 (by omega) (by show ¬ (bb = br); omega)
 have hf := hf.step m11 (fun k hk hS => by have hS : k = br := hS; show k = br; omega)
 have h2 := h2.keep m11 (by show ¬ (b2 = br); omega)
 refine sM rfl ?_
 refine sc (xcall ca154 rfl) (c154 (bb := bb) (ob := ob) (cb := cb) (b := b) (x := r.ttl.toNat) hr hB (by omega) (by omega) hcb hbl (u32lt _) (((hfix.right' rfl).right' rfl).left)) ?_
 rintro _ w13 ⟨rfl, hr, m14⟩
 have z15 := m14.size
 have hB := rng_fr hB m14 (by omega) (by show ¬ (bb = br); omega)
 have hf := hf.step m14 (fun k hk hS => by have hS : k = br := hS; show k = br; omega)
 have h2 := h2.keep m14 (by show ¬ (b2 = br); omega)
 refine sM rfl ?_
 refine sc (xcall ca41 rfl) (c41 (bb := bb) (ob := ob) (cb := cb) (b := b) (x := (UInt16.ofNat ln).toNat) hr hB (by omega) (by omega) hcb hbl (u16lt _) (((hfix.right' rfl).right' rfl).right' rfl)) ?_
 rintro _ w16 ⟨rfl, hr, m17⟩
 have z18 := m17.size
 have hB := rng_fr hB m17 (by omega) (by show ¬ (bb = br); omega)
 have hf := hf.step m17 (fun k hk hS => by have hS : k = br := hS; show k = br; omega)
 have h2 := h2.keep m17 (by show ¬ (b2 = br); omega)
 refine sv (xbuildS (recSegs (recA r (UInt16.ofNat ln)) (.slice none 0 0) (.slice none 0 0) (.slice none 0 0)) zr65 ly65 rfl (by simp [fitAll, zs65, Value.cells]) rfl) ?_
 refine svK (xallS (lens := lRec) in65 rfl) ?_
 rintro _ w20 ⟨b3, rfl, m21, h3, e19, s19⟩
 have hB := rng_fr hB m21 (by omega) id
 have hf := hf.step0 m21
 have h2 := h2.keep m21 id
 have hr := hr.keep m21 id
 refine suK (xstW h3 (lens' := lRec) sz65 rfl rfl rfl rfl rfl) ?_
 rintro w23 ⟨m24, h3, s22⟩
 have hB := rng_fr hB m24 (by omega) (by show ¬ (bb = b3); omega)
 have hf := hf.step m24 (fun k hk hS => by have hS : k = b3 := hS; show k = br; omega)
 have h2 := h2.keep m24 (by show ¬ (b2 = b3); omega)
 have hr := hr.keep m24 (by show ¬ (br = b3); omega)
 refine send (fg [(0, _), (2, _), (3, _)] ⟨rfl, rfl, rfl, ⟨⟩⟩ fun _ => (sreg (sv (xfld fl65_1 rfl) (sv (xld on22 rfl (h3.r.c 1 rfl rfl)) ?_))))
 refine sc (xcall ca35 rfl) (c35r hk1 hk13 hpl) ?_
 rintro _ w25 ⟨rfl, m26⟩
 have z27 := m26.size
 have hB := rng_fr hB m26 (by omega) id
 have hf := hf.step0 m26
 have h2 := h2.keep m26 id
 have hr := hr.keep m26 id
 have h3 := h3.keep m26 id
 refine sv (xfld fl65_5 rfl) ?_
 refine suK (xstF 5 sz3 h3 rfl rfl rfl rfl rfl) ?_
 rintro w29 ⟨m30, h3, s28⟩
 have hB := rng_fr hB m30 (by omega) (by show ¬ (bb = b3); omega)
 have hf := hf.step m30 (fun k hk hS => by have hS : k = b3 := hS; show k = br; omega)
 have h2 := h2.keep m30 (by show ¬ (b2 = b3); omega)
 have hr := hr.keep m30 (by show ¬ (br = b3); omega)
 have h3 : SB w29 b3 lRec (recSegs (rec0 r (UInt16.ofNat ln)) (.slice none 0 0) (.slice none 0 0) (.slice none 0 0)) := h3
 refine send (fg [(0, _), (2, _), (3, _)] ⟨rfl, rfl, rfl, ⟨⟩⟩ fun _ => ?_)
 refine sdraw (Fr (fun _ => False) w29.drew) [(0, .rd), (1, .rd), (2, .rd), (3, .rd), (4, .rd), (5, .rd), (6, .rd), (7, .rd), (8, .rd)] mixed (by kernel_rfl) (fun _ _ _ _ _ h => h) ?_
 have z31 : w29.drew.heap.size = w29.heap.size := rfl
 have hB := rng_fr hB (fd w29) (by omega) id
 have hf := hf.drew
 have h2 := h2.drew
 have hr := hr.drew
 have h3 := h3.drew
 have hS32 : Fr (fun _ => False) w29.drew w29.drew := Fr.refl _ _
 refine ggM rfl rfl hS32 (ggN rfl rfl hS32 (hv rfl (fun _ _ => xfld fl95_1 rfl) hS32 (hv rfl (fun w' hS => xld on3 rfl ((hr.keep hS id).r.c 1 rfl rfl)) hS32 (hv rfl (fun _ _ => xfld fl65_4 rfl) hS32 (hv rfl (fun w' hS => xld (v := .int .u16 ((UInt16.ofNat ln).toNat : Int)) on22 rfl ((h3.keep hS id).r.c 4 rfl rfl)) hS32 (hv rfl (fun _ _ => xconv hs22 ki3 rfl (w64 (by omega) (by omega))) hS32 (hv rfl (fun _ _ => xadd rfl rfl (w64n (e0 + 10 + ln) (by omega) (by omega))) hS32 (ggA rfl rfl hS32 (hend (fg [(0, _), (2, _), (3, _), (4, _)] ⟨rfl, rfl, rfl, rfl, ⟨⟩⟩ fun _ => (wp_seq (sreg (sM rfl (sM rfl (sN rfl (sv (xfld fl95_0 rfl) (sv (xld on37 rfl (hr.r.c 0 rfl rfl)) (sv (xlen sl37 rfl) (sv (exF (xgtr rfl rfl) (by omega)) (send (fg [(0, _), (2, _), (3, _), (4, _), (34, _)] ⟨rfl, rfl, rfl, rfl, rfl, ⟨⟩⟩ fun _ => (cno rfl (wp_skip (nThen ?_))))))))))))))))))))))))
 refine fg [(0, _), (2, _), (3, _), (4, _)] ⟨rfl, rfl, rfl, rfl, ⟨⟩⟩ fun _ => (sreg (sM rfl (sM rfl ?_)))
 refine sc (xcall ca155 rfl) (c155 (bb := bb) (ob := ob) (cb := cb) (b := b) (p := e0 + 10) (r := r) (len := UInt16.ofNat ln) hr hB (by omega) (by omega) hcb hbl h3 (by omega) (by omega) hbody he hk1 hk13 hno hpd htd) ?_
 rintro _ w33 ⟨⟨vd, vt, vp, wh2, h3, hd, ht, hp, hr⟩, m34⟩
 have z35 := m34.size
 have hf := hf.step m34 (fun k hk hS => by have hS : k = br ∨ k = b3 := hS; show k = br; omega)
 have h2 := h2.keep m34 (by show ¬ (b2 = br ∨ b2 = b3); omega)
 obtain ⟨ad, cd, rfl, -⟩ := id hd
 obtain ⟨at1, ct1, rfl⟩ := ht.form
 obtain ⟨ap1, cp1, rfl⟩ := hp.form
 refine send (fg [(2, _), (3, _)] ⟨rfl, rfl, ⟨⟩⟩ fun _ => (sreg (sv (xldS (lens := lRec) ro65 rfl h3.r) ?_)))
 refine suK (xstW h2 (lens' := lRec) sz65 rfl rfl rfl rfl rfl) ?_
 rintro w37 ⟨m38, h2, s36⟩
 have hf := hf.step m38 (fun k hk hS => by have hS : k = b2 := hS; show k = br; omega)
 have hr := hr.keep m38 (by show ¬ (br = b2); omega)
 have hd := hd.keep (lNo (by omega)) m38 (fun k hk hS => by have hk := Ub.num (U := NoU) (n := 0) (fun _ h => h.elim) hk; have hS : k = b2 := hS; omega)
 have ht := ht.keep text_st (lNo (by omega)) m38 (fun k hk hS => by have hk := Ub.num (U := NoU) (n := 0) (fun _ h => h.elim) hk; have hS : k = b2 := hS; omega)
 have hp := hp.keep pair_st (lNo (by omega)) m38 (fun k hk hS => by have hk := Ub.num (U := NoU) (n := 0) (fun _ h => h.elim) hk; have hS : k = b2 := hS; omega)
 refine send (fg [(2, _)] ⟨rfl, ⟨⟩⟩ fun _ => (wp_ret ?_))
 refine rp1 rfl ⟨_, rfl, ldS (lens := lRec) ro65 h2.r⟩ ?_
 exact ⟨UInt16.ofNat ln, _, _, _, wh2, rfl, hd.mono (fun k hk => hk.elim .inl (fun h => .inr ⟨by omega, by omega⟩)), ht.mono text_gr (fun k hk => hk.elim .inl (fun h => .inr ⟨by omega, by omega⟩)), hp.mono pair_gr (fun k hk => hk.elim .inl (fun h => .inr ⟨by omega, by omega⟩)), hr, hf⟩
set_option maxHeartbeats 4000000 in
set_option maxRecDepth 100000 in
theorem c43 {w : World} {br bb ob cb : Nat} {b : List UInt8} {p : Nat} {wh : Bool} (hr : SB w br lRd (rdSegs bb ob cb b p wh)) (hB : w.rangeAt bb ob (bvs b)) (hbb : bb < w.heap.size) (hbr : bb ≠ br) (hcb : b.length ≤ cb) (hbl : b.length < 100000000) {e n : Nat} {l : List RecD} {Kp : Nat → Prop} (hl : ListR (RecR Kp b) p l e) (hn : l.length = n) (hn2 : n ≤ 65535) (he : e ≤ b.length) (hok : ∀ r ∈ l, ReadOk r) :
  Ret PP 43 [.pointer (some ⟨br, 0, none⟩), .int .i64 (n : Int)] w (fun u w' => ∃ l' wh', LA RecEl lRec (Ub NoU w w') w' u l' ∧ All2 Like l' l ∧ SB w' br lRd (rdSegs bb ob cb b e wh') ∧ Fr (fun k => k = br) w w') := by
 have hU : ∀ k, NoU k → k < w.heap.size ∧ k ≠ br := fun _ h => h.elim
 have hf : Fr (fun k => k = br) w w := Fr.refl _ _
 have z_hr := hr.lt
 refine ret_of Tryz.func43 rfl rfl rfl [(0, _), (1, _)] rfl ?_
 refine sreg (sA rfl (send (fg [(0, _), (1, _)] ⟨rfl, rfl, ⟨⟩⟩ fun _ => (sreg ?_))))
 refine svK (xslit ([]) sl32 in65 rfl (by decide) rfl rfl rfl rfl (by decide) rfl rfl) ?_
 rintro _ w2 ⟨b7, rfl, m3, h7, e7, s7, r7⟩
 have hr := hr.keep m3 id
 have hB := rng_fr hB m3 (by omega) id
 have hf := hf.step0 m3
 have hv5 : RX RecEl lRec NoU w.heap.size w2.heap.size w2 _ b7 65 0 [] := RX.ofNil r7
 refine sA rfl (send (fg [(0, _), (1, _), (5, _)] ⟨rfl, rfl, rfl, ⟨⟩⟩ fun _ => (wp_seq (sreg (sA rfl (send (fg [(0, _), (1, _), (5, _), (6, _)] ⟨rfl, rfl, rfl, rfl, ⟨⟩⟩ fun _ => (wp_block ?_))))))))
 refine lp [(0, _), (1, _)] (fun (x : Nat × Value × Nat × Nat × Bool × List RecD) => match x with | (k, v, g, q, wh2, l1) => [(5, v), (6, .int .i64 (k : Int))]) (fun (x : Nat × Value × Nat × Nat × Bool × List RecD) wx => match x with | (k, v, g, q, wh2, l1) => Fr (fun k => k = b7 ∨ k = br) w2 wx ∧ (k ≤ l.length) ∧ (SB wx br lRd (rdSegs bb ob cb b q wh2)) ∧ (ListR (RecR Kp b) q (l.drop k) e) ∧ (All2 Like l1 (l.take k)) ∧ (RX RecEl lRec NoU w.heap.size wx.heap.size wx v g 65 k l1) ∧ (w.heap.size ≤ g) ∧ (g < wx.heap.size) ∧ (g = b7 ∨ w2.heap.size ≤ g)) (fun (x : Nat × Value × Nat × Nat × Bool × List RecD) => match x with | (k, v, g, q, wh2, l1) => l.length - k) (0, _, b7, p, wh, []) ⟨rfl, rfl, rfl, rfl, trivial⟩ ⟨Fr.refl _ _, Nat.zero_le _, hr, hl, All2.nil, hv5, by omega, by omega, .inl rfl⟩ ?_
 rintro ⟨k, v, g, q, wh2, l1⟩ _ w5 ⟨hL4, hk, hr, hLR, hA, hv5, hg, hg2, hg3⟩
 refine fg [(0, _), (1, _), (5, _), (6, _)] ⟨rfl, rfl, rfl, rfl, ⟨⟩⟩ fun _ => ?_
 have z6 := hL4.size
 have hB := rng_fr hB hL4 (by omega) (by show ¬ (bb = b7 ∨ bb = br); omega)
 have hf := hf.step hL4 (fun k hk hS => by have hS : k = b7 ∨ k = br := hS; show k = br; omega)
 obtain ⟨a5, c5, rfl⟩ := RA.form hv5
 refine wp_seq (sreg (sM rfl (sM rfl ?_)))
 refine svP (xlss rfl rfl) (fun hc10 => ?_) (fun hc10 => ?_)
 ·
  refine sM rfl (gyes rfl rfl rfl (sM rfl (gyes rfl rfl rfl (sN rfl (gyes rfl rfl rfl (sv (xfld fl95_2 rfl) (gyes rfl rfl rfl (sv (xld on4 rfl (hr.r.c 2 rfl rfl)) (gyes rfl rfl rfl (sv (xnot rfl) (sv (xpickT rfl rfl) (send (fg [(0, _), (1, _), (5, _), (6, _), (17, _)] ⟨rfl, rfl, rfl, rfl, rfl, ⟨⟩⟩ fun _ => (cyes rfl (wp_skip (nThen (fg [(0, _), (1, _), (5, _), (6, _)] ⟨rfl, rfl, rfl, rfl, ⟨⟩⟩ fun _ => (wp_seq (wp_block ?_)))))))))))))))))))
  obtain ⟨r, hrk⟩ := some_of_lt (by omega : k < l.length)
  obtain ⟨q1, hrec, hLR1⟩ := listR_drop hLR hrk
  have hq1 := drop_le hLR1 (fun _ _ _ h => rec_le h)
  refine lreg (sM rfl (sM rfl ?_))
  refine sc (xcall ca96 rfl) (c96 (bb := bb) (ob := ob) (cb := cb) (b := b) (p := q) hr hB (by omega) (by omega) hcb hbl hrec (by omega) (hok _ (List.mem_of_getElem? hrk))) ?_
  rintro _ w7 ⟨ln, vd, vt, vp, wh3, rfl, hd, ht, hp, hr, m8⟩
  have z9 := m8.size
  have hf := hf.step m8 (fun k hk hS => by have hS : k = br := hS; show k = br; omega)
  have hv5 := RX.keep hv5 rec_st (fun k hk => by have hk := hU k hk; omega) (by omega) m8 (fun k hk hk3 hS => by have hS : k = br := hS; rcases hk with hk | hk <;> first | omega | (have := hU k hk; omega)) (by show ¬ (g = br); omega)
  have hL4 := hL4.step m8 (fun k hk hS => by have hS : k = br := hS; show k = b7 ∨ k = br; omega)
  obtain ⟨ad, cd, rfl, -⟩ := id hd
  obtain ⟨at1, ct1, rfl⟩ := ht.form
  obtain ⟨ap1, cp1, rfl⟩ := hp.form
  refine svK (xslit ((recSegs (normR r ln) (.slice ad (normR r ln).data.length cd) (.slice at1 (normR r ln).texts.length ct1) (.slice ap1 (normR r ln).pairs.length cp1)).flatten) sl32 in65 rfl (by decide) rfl rfl rfl rfl (by decide) (ag_flat _) rfl) ?_
  rintro _ w11 ⟨b23, rfl, m12, h23, e23, s23, r23⟩
  have hf := hf.step0 m12
  have hv5 := RX.keep hv5 rec_st (fun k hk => by have hk := hU k hk; omega) (by omega) m12 (fun _ _ _ h => h) id
  have hL4 := hL4.step0 m12
  have hr := hr.keep m12 id
  have hd := hd.keep (lNo (by omega)) m12 nF
  have ht := ht.keep text_st (lNo (by omega)) m12 nF
  have hp := hp.keep pair_st (lNo (by omega)) m12 nF
  obtain ⟨ss24, hR24, hA24⟩ := hv5
  refine svK (xapp sl32 in65 rfl (by decide) rfl rfl hR24 (r23.src sl32) (by simp only [maxLen]; omega) (by omega)) ?_
  rintro v24 w13 ⟨g24, r24, m14, a24, l24⟩
  have z15 := m14.size
  have hf := hf.step m14 (fun k hk hS => by have hS : k = g := hS; show k = br; omega)
  have hL4 := hL4.step m14 (fun k hk hS => by have hS : k = g := hS; show k = b7 ∨ k = br; omega)
  have hr := hr.keep m14 (by show ¬ (br = g); omega)
  have hd := hd.keep (lNo (by omega)) m14 (fun k hk hS => by have hk := Ub.num (U := NoU) (n := 0) (fun _ h => h.elim) hk; have hS : k = g := hS; omega)
  have ht := ht.keep text_st (lNo (by omega)) m14 (fun k hk hS => by have hk := Ub.num (U := NoU) (n := 0) (fun _ h => h.elim) hk; have hS : k = g := hS; omega)
  have hp := hp.keep pair_st (lNo (by omega)) m14 (fun k hk hS => by have hk := Ub.num (U := NoU) (n := 0) (fun _ h => h.elim) hk; have hS : k = g := hS; omega)
  have hv5 := RX.snoc (x := (normR r ln)) w13.heap.size hA24 rec_st rec_gr (fun k hk => by have hk := hU k hk; omega) (by omega) (by omega) m14 a24 r24 rfl (⟨_, _, _, rfl, hd.mono (fun k h => ⟨.inr (by have h := Ub.num (U := NoU) (n := 0) (fun _ h => h.elim) h; omega), by have h := Ub.num (U := NoU) (n := 0) (fun _ h => h.elim) h; omega⟩), ht.mono text_gr (fun k h => ⟨.inr (by have h := Ub.num (U := NoU) (n := 0) (fun _ h => h.elim) h; omega), by have h := Ub.num (U := NoU) (n := 0) (fun _ h => h.elim) h; omega⟩), hp.mono pair_gr (fun k h => ⟨.inr (by have h := Ub.num (U := NoU) (n := 0) (fun _ h => h.elim) h; omega), by have h := Ub.num (U := NoU) (n := 0) (fun _ h => h.elim) h; omega⟩)⟩)
  refine sA rfl (lend (nBlock (nThen (fg [(0, _), (1, _), (5, _), (6, _)] ⟨rfl, rfl, rfl, rfl, ⟨⟩⟩ fun _ => (lreg (sM rfl (sv (xadd rfl rfl (w64 (by omega) (by omega))) (sA rfl (lend (nThen ?_))))))))))
  refine ⟨(k + 1, _, g24, q1, wh3, l1 ++ [normR r ln]), _, env_okl ⟨rfl, rfl, rfl, rfl, trivial⟩, ⟨hL4, (by omega), (hr), (hLR1), (by rw [take_snoc hrk]; exact hA.snoc ⟨ln, rfl⟩), (RX.up rec_gr hv5 (by omega)), (by omega), (l24 (by omega)), (by omega)⟩, ?_⟩
  show l.length - (k + 1) < l.length - k; omega
 ·
  refine sM rfl (gno rfl rfl rfl (gno rfl rfl rfl (gno rfl rfl rfl (gno rfl rfl rfl (gno rfl rfl rfl (sv (xpickF rfl rfl) (send (fg [(0, _), (1, _), (5, _), (6, _), (17, _)] ⟨rfl, rfl, rfl, rfl, rfl, ⟨⟩⟩ fun _ => (cno rfl (wp_exit (eThen (eThen (eHit (nThen (fg [(5, _)] ⟨rfl, ⟨⟩⟩ fun _ => (sreg (sM rfl (sA rfl (send (fg [(4, _)] ⟨rfl, ⟨⟩⟩ fun _ => (wp_ret ?_)))))))))))))))))))))
  refine rp1 rfl rfl ?_
  have e1 : l.take k = l := List.take_of_length_le (by omega)
  have e2 : l.drop k = [] := List.drop_eq_nil_of_le (by omega)
  rw [e1] at hA
  rw [e2] at hLR
  have hqe : q = e := hLR
  exact ⟨l1, wh2, RX.la hv5 (by decide) rec_gr (fun k hk => hk.elim .inl .inr) (.inr ⟨hg, hg2⟩), hA, rd_cast hr hqe, hf⟩
end Go.Proofs.YtifnodoffgfpbaaGreatDoor

namespace Go.Proofs.YtifnodoffgfpbaaGreatDoor
open Go

theorem xbit {P : Program} {n : Nat} {l : List (Nat × Value)} {w : World} {ty : TypeId} {x y : Operand} {T U : TypeId} {c : Nat} {B : Bool} (hx : ev n l x = some (.int .u16 ((c * bN B : Nat) : Int))) (hy : ev n l y = some (.int .u16 0)) (hc : c ≠ 0) : Ex P n l (.binOp .neq T x y U) ty w (.bool B) w := by
  have := xneq (P := P) (w := w) (ty := ty) (T := T) (U := U) hx hy
  cases B with
  | true => have e : (decide (((c * bN true : Nat) : Int) ≠ 0)) = true := by simp [bN]; omega
            rw [e] at this; exact this
  | false => have e : (decide (((c * bN false : Nat) : Int) ≠ 0)) = false := by simp [bN]
             rw [e] at this; exact this
theorem xshrN {P : Program} {n : Nat} {l : List (Nat × Value)} {w : World} {ty : TypeId} {x y : Operand} {T U : TypeId} {k j : IntKind} {a c : Nat} (b : Nat) (hb : b ≤ k.bits) (hx : ev n l x = some (.int k (a : Int))) (hy : ev n l y = some (.int j b)) (hc : a / 2 ^ b = c) :
    Ex P n l (.binOp .shr T x y U) ty w (.int k (c : Int)) w := by
  have := xshr (P := P) (w := w) (ty := ty) (T := T) (U := U) hb hx hy
  have e : (a : Int) / 2 ^ b = (c : Int) := by rw [← hc]; simp
  rw [e] at this; exact this
theorem hbits_and {h : HeadD} (ho : h.ok) : (hbits h).toNat &&& 32768 = 32768 * bN h.resp ∧ (hbits h).toNat &&& 1024 = 1024 * bN h.auth ∧ (hbits h).toNat &&& 512 = 512 * bN h.cut ∧ (hbits h).toNat &&& 256 = 256 * bN h.des ∧ (hbits h).toNat &&& 128 = 128 * bN h.avail ∧
    (hbits h).toNat &&& 32 = 32 * bN h.authc ∧ (hbits h).toNat &&& 16 = 16 * bN h.unch ∧ (hbits h).toNat &&& 15 = h.code.toNat ∧ (hbits h).toNat / 2 ^ 11 &&& 15 = h.op.toNat ∧ (hbits h).toNat &&& 64 = 0 := by
  have e := hbits_nat h ho.1 ho.2
  obtain ⟨h1, h2⟩ := ho
  have b1 := bN_lt h.resp
  have b2 := bN_lt h.auth
  have b3 := bN_lt h.cut
  have b4 := bN_lt h.des
  have b5 := bN_lt h.avail
  have b6 := bN_lt h.authc
  have b7 := bN_lt h.unch
  have m15 : ∀ x : Nat, x &&& 15 = x % 16 := fun x => Nat.and_two_pow_sub_one_eq_mod x 4
  have t : ∀ i, (hbits h).toNat &&& 2 ^ i = 2 ^ i * ((hbits h).toNat / 2 ^ i % 2) := fun i => bit_of _ i
  refine ⟨?_, ?_, ?_, ?_, ?_, ?_, ?_, ?_, ?_, ?_⟩
  · have := t 15; rw [show (2 : Nat) ^ 15 = 32768 by decide] at this; rw [this, e]; omega
  · have := t 10; rw [show (2 : Nat) ^ 10 = 1024 by decide] at this; rw [this, e]; omega
  · have := t 9; rw [show (2 : Nat) ^ 9 = 512 by decide] at this; rw [this, e]; omega
  · have := t 8; rw [show (2 : Nat) ^ 8 = 256 by decide] at this; rw [this, e]; omega
  · have := t 7; rw [show (2 : Nat) ^ 7 = 128 by decide] at this; rw [this, e]; omega
  · have := t 5; rw [show (2 : Nat) ^ 5 = 32 by decide] at this; rw [this, e]; omega
  · have := t 4; rw [show (2 : Nat) ^ 4 = 16 by decide] at this; rw [this, e]; omega
  · rw [m15, e]; omega
  · rw [m15, e, show (2 : Nat) ^ 11 = 2048 by decide]; omega
  · have := t 6; rw [show (2 : Nat) ^ 6 = 64 by decide] at this; rw [this, e]; omega
theorem head_std {b : List UInt8} {m : MsgD} (h : Std b 0 (headL m.head (countsM m))) : Std b 0 (be16 m.head.id.toNat) ∧ Std b (0 + 2) (be16 (hbits m.head).toNat) ∧ Std b (0 + 2 + 2) (be16 m.asks.length) ∧ Std b (0 + 2 + 2 + 2) (be16 m.one.length) ∧ Std b (0 + 2 + 2 + 2 + 2) (be16 m.two.length) ∧ Std b (0 + 2 + 2 + 2 + 2 + 2) (be16 m.three.length) := by
  simp only [headL, countsM, List.map_cons, List.map_nil, List.flatten_cons, List.flatten_nil, List.append_nil] at h
  have h1 := h.right' (k := 0 + 2) rfl
  have h2 := h1.right' (k := 0 + 2 + 2) rfl
  have h3 := h2.right' (k := 0 + 2 + 2 + 2) rfl
  have h4 := h3.right' (k := 0 + 2 + 2 + 2 + 2) rfl
  have h5 := h4.right' (k := 0 + 2 + 2 + 2 + 2 + 2) rfl
  exact ⟨h.left, h1.left, h2.left, h3.left, h4.left, h5⟩

set_option maxHeartbeats 4000000 in
set_option maxRecDepth 100000 in
theorem c18 {w : World} {bb ob cb : Nat} {b : List UInt8} {m : MsgD} {Kp : Nat → Prop} (hB : w.rangeAt bb ob (bvs b)) (hbb : bb < w.heap.size) (hcb : b.length ≤ cb) (hbl : b.length < 100000000) (hM : MsgR Kp b m) (hho : m.head.ok) (hcn : m.asks.length ≤ 40 ∧ m.one.length ≤ 40 ∧ m.two.length ≤ 40 ∧ m.three.length ≤ 40) (hna : ∀ a ∈ m.asks, nameL (bt a.name)) (hok1 : ∀ r ∈ m.one, ReadOk r) (hok2 : ∀ r ∈ m.two, ReadOk r) (hok3 : ∀ r ∈ m.three, ReadOk r) :
  Ret PP 18 [.slice (some ⟨bb, ob, none⟩) b.length cb] w (fun u w' => ∃ (l1 l2 l3 : List RecD) (va v1 v2 v3 : Value), u = .tuple #[ag (msgSegs m.head va v1 v2 v3), .bool true] ∧ LA AskEl lAsk (Ub NoU w w') w' va m.asks ∧ (LA RecEl lRec (Ub NoU w w') w' v1 l1 ∧ All2 Like l1 m.one) ∧ (LA RecEl lRec (Ub NoU w w') w' v2 l2 ∧ All2 Like l2 m.two) ∧ (LA RecEl lRec (Ub NoU w w') w' v3 l3 ∧ All2 Like l3 m.three) ∧ Fr0 w w') := by
 obtain ⟨hMh, ee0, ee1, ee2, hLa, hL1, hL2, hL3⟩ := hM
 obtain ⟨hs0, hs2, hs4, hs6, hs8, hs10⟩ := head_std hMh
 have hle3 := listR_le hL3 (fun _ _ _ _ h => rec_le h)
 have hle2 := listR_le hL2 (fun _ _ _ _ h => rec_le h)
 have hle1 := listR_le hL1 (fun _ _ _ _ h => rec_le h)
 obtain ⟨an1, an2, an3, an4, an5, an6, an7, an8, an9, an10⟩ := hbits_and hho
 have hf : Fr (fun _ => False) w w := Fr.refl _ _
 refine ret_of Tryz.func18 rfl rfl rfl [(0, _)] rfl ?_
 refine sreg ?_
 refine svK (xallS (lens := lMsg) in34 rfl) ?_
 rintro _ w2 ⟨b2, rfl, m3, h2, e1, s1⟩
 have hB := rng_fr hB m3 (by omega) id
 have hf := hf.step0 m3
 refine sA rfl (send (fg [(0, _), (2, _)] ⟨rfl, rfl, ⟨⟩⟩ fun _ => (sreg (sM rfl (sv (xbuildS (rdSegs bb ob cb b 0 true) zr95 ly95 rfl (by simp [fitAll, zs95, Value.cells]) rfl) ?_)))))
 refine svK (xboxS (lens := [1, 1, 1, 1]) rfl rfl) ?_
 rintro _ w4 ⟨br, rfl, m5, hr, e12, s12⟩
 have hB := rng_fr hB m5 (by omega) id
 have hf := hf.step0 m5
 have h2 := h2.keep m5 id
 have hr : SB w4 br lRd (rdSegs bb ob cb b 0 true) := hr
 refine sA rfl (send (fg [(0, _), (2, _), (4, _)] ⟨rfl, rfl, rfl, ⟨⟩⟩ fun _ => (sreg (sv (xbuildS [[.int .u16 0], [.bool false], [.int .u16 0], [.bool false], [.bool false], [.bool false], [.bool false], [.bool false], [.bool false], [.int .u16 0], [.slice none 0 0], [.slice none 0 0], [.slice none 0 0], [.slice none 0 0]] zr34 ly34 rfl trivial (by simp [setAll, zs34])) ?_))))
 refine svK (xallS (lens := lMsg) in34 rfl) ?_
 rintro _ w7 ⟨b5, rfl, m8, h5, e6, s6⟩
 have hB := rng_fr hB m8 (by omega) id
 have hf := hf.step0 m8
 have h2 := h2.keep m8 id
 have hr := hr.keep m8 id
 refine suK (xstW h5 (lens' := lMsg) sz34 rfl rfl rfl rfl rfl) ?_
 rintro w10 ⟨m11, h5, s9⟩
 have hB := rng_fr hB m11 (by omega) (by show ¬ (bb = b5); omega)
 have hf := hf.step m11 (fun k hk hS => by have hS : k = b5 := hS; show False; omega)
 have h2 := h2.keep m11 (by show ¬ (b2 = b5); omega)
 have hr := hr.keep m11 (by show ¬ (br = b5); omega)
 refine send (fg [(0, _), (2, _), (4, _), (5, _)] ⟨rfl, rfl, rfl, rfl, ⟨⟩⟩ fun _ => (sreg (sM rfl ?_)))
 refine sc (xcall ca41 rfl) (c41 (bb := bb) (ob := ob) (cb := cb) (b := b) (x := m.head.id.toNat) hr hB (by omega) (by omega) hcb hbl (u16lt _) (hs0)) ?_
 rintro _ w12 ⟨rfl, hr, m13⟩
 have z14 := m13.size
 have hB := rng_fr hB m13 (by omega) (by show ¬ (bb = br); omega)
 have hf := hf.step m13 (fun k hk hS => by have hS : k = br := hS; show False; omega)
 have h2 := h2.keep m13 (by show ¬ (b2 = br); omega)
 have h5 := h5.keep m13 (by show ¬ (b5 = br); omega)
 refine sv (xfld fl34_0 rfl) (sv (xfld fl30_0 rfl) ?_)
 refine suK (xstF 0 sz22 h5 rfl rfl rfl rfl rfl) ?_
 rintro w16 ⟨m17, h5, s15⟩
 have hB := rng_fr hB m17 (by omega) (by show ¬ (bb = b5); omega)
 have hf := hf.step m17 (fun k hk hS => by have hS : k = b5 := hS; show False; omega)
 have h2 := h2.keep m17 (by show ¬ (b2 = b5); omega)
 have hr := hr.keep m17 (by show ¬ (br = b5); omega)
 refine send (fg [(0, _), (2, _), (4, _), (5, _)] ⟨rfl, rfl, rfl, rfl, ⟨⟩⟩ fun _ => (sreg (sM rfl ?_)))
 refine sc (xcall ca41 rfl) (c41 (bb := bb) (ob := ob) (cb := cb) (b := b) (x := (hbits m.head).toNat) hr hB (by omega) (by omega) hcb hbl (u16lt _) (hs2)) ?_
 rintro _ w18 ⟨rfl, hr, m19⟩
 have z20 := m19.size
 have hB := rng_fr hB m19 (by omega) (by show ¬ (bb = br); omega)
 have hf := hf.step m19 (fun k hk hS => by have hS : k = br := hS; show False; omega)
 have h2 := h2.keep m19 (by show ¬ (b2 = br); omega)
 have h5 := h5.keep m19 (by show ¬ (b5 = br); omega)
 refine sA rfl (send (fg [(0, _), (2, _), (4, _), (5, _), (6, _)] ⟨rfl, rfl, rfl, rfl, rfl, ⟨⟩⟩ fun _ => (sreg (sv (xfld fl34_0 rfl) (sA rfl (send (fg [(0, _), (2, _), (4, _), (5, _), (6, _), (7, _)] ⟨rfl, rfl, rfl, rfl, rfl, rfl, ⟨⟩⟩ fun _ => (sreg (sM rfl (sM rfl (sM rfl (sM rfl (sM rfl (sM rfl (sv (xand16N (a := (hbits m.head).toNat) (c := 32768 * bN m.head.resp) rfl rfl (by have hq := u16lt (hbits m.head); omega) (by decide) an1) (sv (xbit (c := 32768) rfl rfl (by decide)) (sM rfl (sv (xshrN 11 (by decide) rfl rfl rfl) (sv (xand16N (a := (hbits m.head).toNat / 2 ^ 11) (c := m.head.op.toNat) rfl rfl (by have hq := u16lt (hbits m.head); omega) (by decide) an9) (sM rfl (sv (xand16N (a := (hbits m.head).toNat) (c := 1024 * bN m.head.auth) rfl rfl (by have hq := u16lt (hbits m.head); omega) (by decide) an2) (sv (xbit (c := 1024) rfl rfl (by decide)) (sM rfl (sv (xand16N (a := (hbits m.head).toNat) (c := 512 * bN m.head.cut) rfl rfl (by have hq := u16lt (hbits m.head); omega) (by decide) an3) ?_))))))))))))))))))))))))
 refine sv (xbit (c := 512) rfl rfl (by decide)) (sM rfl (sv (xand16N (a := (hbits m.head).toNat) (c := 256 * bN m.head.des) rfl rfl (by have hq := u16lt (hbits m.head); omega) (by decide) an4) (sv (xbit (c := 256) rfl rfl (by decide)) (sN rfl (sv (xfld fl30_1 rfl) ?_)))))
 refine suK (xstF 1 sz4 h5 rfl rfl rfl rfl rfl) ?_
 rintro w22 ⟨m23, h5, s21⟩
 have hB := rng_fr hB m23 (by omega) (by show ¬ (bb = b5); omega)
 have hf := hf.step m23 (fun k hk hS => by have hS : k = b5 := hS; show False; omega)
 have h2 := h2.keep m23 (by show ¬ (b2 = b5); omega)
 have hr := hr.keep m23 (by show ¬ (br = b5); omega)
 refine sN rfl (sv (xfld fl30_2 rfl) ?_)
 refine suK (xstF 2 sz22 h5 rfl rfl rfl rfl rfl) ?_
 rintro w25 ⟨m26, h5, s24⟩
 have hB := rng_fr hB m26 (by omega) (by show ¬ (bb = b5); omega)
 have hf := hf.step m26 (fun k hk hS => by have hS : k = b5 := hS; show False; omega)
 have h2 := h2.keep m26 (by show ¬ (b2 = b5); omega)
 have hr := hr.keep m26 (by show ¬ (br = b5); omega)
 refine sN rfl (sv (xfld fl30_3 rfl) ?_)
 refine suK (xstF 3 sz4 h5 rfl rfl rfl rfl rfl) ?_
 rintro w28 ⟨m29, h5, s27⟩
 have hB := rng_fr hB m29 (by omega) (by show ¬ (bb = b5); omega)
 have hf := hf.step m29 (fun k hk hS => by have hS : k = b5 := hS; show False; omega)
 have h2 := h2.keep m29 (by show ¬ (b2 = b5); omega)
 have hr := hr.keep m29 (by show ¬ (br = b5); omega)
 refine sN rfl (sv (xfld fl30_4 rfl) ?_)
 refine suK (xstF 4 sz4 h5 rfl rfl rfl rfl rfl) ?_
 rintro w31 ⟨m32, h5, s30⟩
 have hB := rng_fr hB m32 (by omega) (by show ¬ (bb = b5); omega)
 have hf := hf.step m32 (fun k hk hS => by have hS : k = b5 := hS; show False; omega)
 have h2 := h2.keep m32 (by show ¬ (b2 = b5); omega)
 have hr := hr.keep m32 (by show ¬ (br = b5); omega)
 refine sN rfl (sv (xfld fl30_5 rfl) ?_)
 refine suK (xstF 5 sz4 h5 rfl rfl rfl rfl rfl) ?_
 rintro w34 ⟨m35, h5, s33⟩
 have hB := rng_fr hB m35 (by omega) (by show ¬ (bb = b5); omega)
 have hf := hf.step m35 (fun k hk hS => by have hS : k = b5 := hS; show False; omega)
 have h2 := h2.keep m35 (by show ¬ (b2 = b5); omega)
 have hr := hr.keep m35 (by show ¬ (br = b5); omega)
 refine send (fg [(0, _), (2, _), (4, _), (5, _), (6, _), (7, _)] ⟨rfl, rfl, rfl, rfl, rfl, rfl, ⟨⟩⟩ fun _ => (sreg (sM rfl (sM rfl (sM rfl (sM rfl (sM rfl (sv (xand16N (a := (hbits m.head).toNat) (c := 128 * bN m.head.avail) rfl rfl (by have hq := u16lt (hbits m.head); omega) (by decide) an5) (sv (xbit (c := 128) rfl rfl (by decide)) (sM rfl (sv (xand16N (a := (hbits m.head).toNat) (c := 32 * bN m.head.authc) rfl rfl (by have hq := u16lt (hbits m.head); omega) (by decide) an6) (sv (xbit (c := 32) rfl rfl (by decide)) (sM rfl (sv (xand16N (a := (hbits m.head).toNat) (c := 16 * bN m.head.unch) rfl rfl (by have hq := u16lt (hbits m.head); omega) (by decide) an7) (sv (xbit (c := 16) rfl rfl (by decide)) (sM rfl (sv (xand16N (a := (hbits m.head).toNat) (c := m.head.code.toNat) rfl rfl (by have hq := u16lt (hbits m.head); omega) (by decide) an8) (sN rfl (sv (xfld fl30_6 rfl) ?_)))))))))))))))))))
 refine suK (xstF 6 sz4 h5 rfl rfl rfl rfl rfl) ?_
 rintro w37 ⟨m38, h5, s36⟩
 have hB := rng_fr hB m38 (by omega) (by show ¬ (bb = b5); omega)
 have hf := hf.step m38 (fun k hk hS => by have hS : k = b5 := hS; show False; omega)
 have h2 := h2.keep m38 (by show ¬ (b2 = b5); omega)
 have hr := hr.keep m38 (by show ¬ (br = b5); omega)
 refine sN rfl (sv (xfld fl30_7 rfl) ?_)
 refine suK (xstF 7 sz4 h5 rfl rfl rfl rfl rfl) ?_
 rintro w40 ⟨m41, h5, s39⟩
 have hB := rng_fr hB m41 (by omega) (by show ¬ (bb = b5); omega)
 have hf := hf.step m41 (fun k hk hS => by have hS : k = b5 := hS; show False; omega)
 have h2 := h2.keep m41 (by show ¬ (b2 = b5); omega)
 have hr := hr.keep m41 (by show ¬ (br = b5); omega)
 refine sN rfl (sv (xfld fl30_8 rfl) ?_)
 refine suK (xstF 8 sz4 h5 rfl rfl rfl rfl rfl) ?_
 rintro w43 ⟨m44, h5, s42⟩
 have hB := rng_fr hB m44 (by omega) (by show ¬ (bb = b5); omega)
 have hf := hf.step m44 (fun k hk hS => by have hS : k = b5 := hS; show False; omega)
 have h2 := h2.keep m44 (by show ¬ (b2 = b5); omega)
 have hr := hr.keep m44 (by show ¬ (br = b5); omega)
 refine sN rfl (sv (xfld fl30_9 rfl) ?_)
 refine suK (xstF 9 sz22 h5 rfl rfl rfl rfl rfl) ?_
 rintro w46 ⟨m47, h5, s45⟩
 have hB := rng_fr hB m47 (by omega) (by show ¬ (bb = b5); omega)
 have hf := hf.step m47 (fun k hk hS => by have hS : k = b5 := hS; show False; omega)
 have h2 := h2.keep m47 (by show ¬ (b2 = b5); omega)
 have hr := hr.keep m47 (by show ¬ (br = b5); omega)
 have h5 : SB w46 b5 lMsg (msgSegs m.head (.slice none 0 0) (.slice none 0 0) (.slice none 0 0) (.slice none 0 0)) := h5
 refine send (fg [(0, _), (2, _), (4, _), (5, _), (6, _)] ⟨rfl, rfl, rfl, rfl, rfl, ⟨⟩⟩ fun _ => (sreg (sM rfl ?_)))
 refine sc (xcall ca41 rfl) (c41 (bb := bb) (ob := ob) (cb := cb) (b := b) (x := m.asks.length) hr hB (by omega) (by omega) hcb hbl (by omega) (hs4)) ?_
 rintro _ w48 ⟨rfl, hr, m49⟩
 have z50 := m49.size
 have hB := rng_fr hB m49 (by omega) (by show ¬ (bb = br); omega)
 have hf := hf.step m49 (fun k hk hS => by have hS : k = br := hS; show False; omega)
 have h2 := h2.keep m49 (by show ¬ (b2 = br); omega)
 have h5 := h5.keep m49 (by show ¬ (b5 = br); omega)
 refine sv (xconv hs22 ki3 rfl (w64 (by omega) (by omega))) (sM rfl ?_)
 refine sc (xcall ca41 rfl) (c41 (bb := bb) (ob := ob) (cb := cb) (b := b) (x := m.one.length) hr hB (by omega) (by omega) hcb hbl (by omega) (hs6)) ?_
 rintro _ w51 ⟨rfl, hr, m52⟩
 have z53 := m52.size
 have hB := rng_fr hB m52 (by omega) (by show ¬ (bb = br); omega)
 have hf := hf.step m52 (fun k hk hS => by have hS : k = br := hS; show False; omega)
 have h2 := h2.keep m52 (by show ¬ (b2 = br); omega)
 have h5 := h5.keep m52 (by show ¬ (b5 = br); omega)
 refine sv (xconv hs22 ki3 rfl (w64 (by omega) (by omega))) (sM rfl ?_)
 refine sc (xcall ca41 rfl) (c41 (bb := bb) (ob := ob) (cb := cb) (b := b) (x := m.two.length) hr hB (by omega) (by omega) hcb hbl (by omega) (hs8)) ?_
 rintro _ w54 ⟨rfl, hr, m55⟩
 have z56 := m55.size
 have hB := rng_fr hB m55 (by omega) (by show ¬ (bb = br); omega)
 have hf := hf.step m55 (fun k hk hS => by have hS : k = br := hS; show False; omega)
 have h2 := h2.keep m55 (by show ¬ (b2 = br); omega)
 have h5 := h5.keep m55 (by show ¬ (b5 = br); omega)
 refine sv (xconv hs22 ki3 rfl (w64 (by omega) (by omega))) (sM rfl ?_)
 refine sc (xcall ca41 rfl) (c41 (bb := bb) (ob := ob) (cb := cb) (b := b) (x := m.three.length) hr hB (by omega) (by omega) hcb hbl (by omega) (hs10)) ?_
 rintro _ w57 ⟨rfl, hr, m58⟩
 have z59 := m58.size
 have hB := rng_fr hB m58 (by omega) (by show ¬ (bb = br); omega)
 have hf := hf.step m58 (fun k hk hS => by have hS : k = br := hS; show False; omega)
 have h2 := h2.keep m58 (by show ¬ (b2 = br); omega)
 have h5 := h5.keep m58 (by show ¬ (b5 = br); omega)
 refine sv (xconv hs22 ki3 rfl (w64 (by omega) (by omega))) ?_
 refine svK (xslit ([.int .i64 (m.asks.length : Int), .int .i64 (m.one.length : Int), .int .i64 (m.two.length : Int), .int .i64 (m.three.length : Int)]) sl99 in3 rfl (by decide) rfl rfl rfl rfl (by decide) rfl rfl) ?_
 rintro _ w61 ⟨b86, rfl, m62, h86, e86, s86, r86⟩
 have hB := rng_fr hB m62 (by omega) id
 have hf := hf.step0 m62
 have h2 := h2.keep m62 id
 have h5 := h5.keep m62 id
 have hr := hr.keep m62 id
 refine sA rfl (send (fg [(0, _), (2, _), (4, _), (5, _), (6, _), (8, _)] ⟨rfl, rfl, rfl, rfl, rfl, rfl, ⟨⟩⟩ fun _ => (wp_seq (sreg (sA rfl (send (fg [(0, _), (2, _), (4, _), (5, _), (6, _), (8, _), (9, _)] ⟨rfl, rfl, rfl, rfl, rfl, rfl, rfl, ⟨⟩⟩ fun _ => (wp_block ?_))))))))
 refine lp [(0, _), (2, _), (4, _), (5, _), (6, _), (8, _)] (fun (x : Nat × Value × Nat × Nat × Bool) => match x with | (k, v, g, q, wh2) => [(9, .int .i64 (k : Int))]) (fun (x : Nat × Value × Nat × Nat × Bool) wx => match x with | (k, v, g, q, wh2) => Fr (fun k => k = br ∨ k = b5) w61 wx ∧ (k ≤ m.asks.length) ∧ (SB wx br lRd (rdSegs bb ob cb b q wh2)) ∧ (SB wx b5 lMsg (msgSegs m.head v (.slice none 0 0) (.slice none 0 0) (.slice none 0 0))) ∧ (ListR (AskR Kp b) q (m.asks.drop k) ee0) ∧ (RA AskEl lAsk NoU wx v g 59 k (m.asks.take k)) ∧ (w61.heap.size ≤ g) ∧ (0 < k → g < wx.heap.size)) (fun (x : Nat × Value × Nat × Nat × Bool) => match x with | (k, v, g, q, wh2) => m.asks.length - k) (0, .slice none 0 0, w61.heap.size, 12, true) ⟨rfl, rfl, rfl, rfl, rfl, rfl, rfl, trivial⟩ ⟨Fr.refl _ _, Nat.zero_le _, hr, h5, hLa, RA.nil _ _ _ _, Nat.le_refl _, fun h => absurd h (by omega)⟩ ?_
 rintro ⟨k, v, g, q, wh2⟩ _ w65 ⟨hL63, hk, hr, h5, hLR, hq, hg, hg2⟩
 refine fg [(0, _), (2, _), (4, _), (5, _), (6, _), (8, _), (9, _)] ⟨rfl, rfl, rfl, rfl, rfl, rfl, rfl, ⟨⟩⟩ fun _ => ?_
 have z66 := hL63.size
 have hB := rng_fr hB hL63 (by omega) (by show ¬ (bb = br ∨ bb = b5); omega)
 have hf := hf.step hL63 (fun k hk hS => by have hS : k = br ∨ k = b5 := hS; show False; omega)
 have h2 := h2.keep hL63 (by show ¬ (b2 = br ∨ b2 = b5); omega)
 have r86 := r86.keep hL63 (by show ¬ (b86 = br ∨ b86 = b5); omega)
 obtain ⟨av, cv, rfl⟩ := RA.form hq
 refine wp_seq (sreg (sM rfl (sM rfl (sv (xidx1 (i := 0) sl99 sz3 rfl rfl rfl (by decide)) (sv (xld on3 rfl (Rw.rng r86 0 _ rfl)) ?_)))))
 refine svP (xlss rfl rfl) (fun hc91 => ?_) (fun hc91 => ?_)
 ·
  refine sM rfl (gyes rfl rfl rfl (sM rfl (gyes rfl rfl rfl (sN rfl (gyes rfl rfl rfl (sv (xfld fl95_2 rfl) (gyes rfl rfl rfl (sv (xld on4 rfl (hr.r.c 2 rfl rfl)) (gyes rfl rfl rfl (sv (xnot rfl) (sv (xpickT rfl rfl) (send (fg [(0, _), (2, _), (4, _), (5, _), (6, _), (8, _), (9, _), (98, _)] ⟨rfl, rfl, rfl, rfl, rfl, rfl, rfl, rfl, ⟨⟩⟩ fun _ => (cyes rfl (wp_skip (nThen (fg [(0, _), (2, _), (4, _), (5, _), (6, _), (8, _), (9, _)] ⟨rfl, rfl, rfl, rfl, rfl, rfl, rfl, ⟨⟩⟩ fun _ => (wp_seq (wp_block ?_)))))))))))))))))))
  obtain ⟨a, hak⟩ := some_of_lt (by omega : k < m.asks.length)
  obtain ⟨q1, hask, hLR1⟩ := listR_drop hLR hak
  have hq1 := drop_le hLR1 (fun _ _ _ h => ask_le h)
  obtain ⟨ea, ⟨ka, -, hka⟩, hast, hea⟩ := hask
  have hna1 := hna a (List.mem_of_getElem? hak)
  have hq1e : ea + 2 + 2 = q1 := by omega
  refine ldraw (Fr (fun k => k = br ∨ k = g) w65.drew) [(0, .rd), (1, .rd), (2, .rd), (4, .rd), (6, .rd), (3, .ld), (5, .ld), (7, .ld), (8, .rd), (9, .ld), (10, .ld), (11, .rd), (12, .bh)] mixed (by kernel_rfl) (fun _ _ _ _ _ h => h) ?_
  have z67 : w65.drew.heap.size = w65.heap.size := rfl
  have hB := rng_fr hB (fd w65) (by omega) id
  have hf := hf.drew
  have h2 := h2.drew
  have r86 := r86.keep (fd w65) id
  have hr := hr.drew
  have h5 := h5.drew
  have hq := hq.keep ask_st (fun k hk => by have hk := (show k + 1 ≤ 0 from (show False from hk).elim); omega) (fd w65) nF id
  have hL63 := hL63.drew
  have hS68 : Fr (fun k => k = br ∨ k = g) w65.drew w65.drew := Fr.refl _ _
  refine hv rfl (fun _ _ => xfld fl34_1 rfl) hS68 (hv rfl (fun w' hS => xld on31 rfl ((h5.keep hS (by show ¬ (b5 = br ∨ b5 = g); omega)).r.c 10 rfl rfl)) hS68 (ggM rfl rfl hS68 (ggM rfl rfl hS68 (ggM rfl rfl hS68 ?_))))
  refine hc rfl (xcall ca42 rfl) (c42 (bb := bb) (ob := ob) (cb := cb) (b := b) (K := _) (e := _) (S := bt a.name) hr hB (by omega) (by omega) hcb hbl (hka) (hna1)) ?_
  rintro _ w69 ⟨rfl, hr, m70⟩
  have z71 := m70.size
  have hB := rng_fr hB m70 (by omega) (by show ¬ (bb = br); omega)
  have hf := hf.step m70 (fun k hk hS => by have hS : k = br := hS; show False; omega)
  have h2 := h2.keep m70 (by show ¬ (b2 = br); omega)
  have r86 := r86.keep m70 (by show ¬ (b86 = br); omega)
  have h5 := h5.keep m70 (by show ¬ (b5 = br); omega)
  have hq := hq.keep ask_st (fun k hk => by have hk := (show k + 1 ≤ 0 from (show False from hk).elim); omega) m70 (fun k hk hS => by have hk := (show k + 1 ≤ 0 from (show False from hk).elim); have hS : k = br := hS; omega) (by show ¬ (g = br); omega)
  have hL63 := hL63.step m70 (fun k hk hS => by have hS : k = br := hS; show k = br ∨ k = b5; omega)
  have hS72 := hS68.step m70 (fun k hk hS => by have hS : k = br := hS; show k = br ∨ k = g; omega)
  refine ⟨hS72, ?_⟩
  refine hc rfl (xcall ca41 rfl) (c41 (bb := bb) (ob := ob) (cb := cb) (b := b) (x := a.typ.toNat) hr hB (by omega) (by omega) hcb hbl (u16lt _) (hast.left)) ?_
  rintro _ w73 ⟨rfl, hr, m74⟩
  have z75 := m74.size
  have hB := rng_fr hB m74 (by omega) (by show ¬ (bb = br); omega)
  have hf := hf.step m74 (fun k hk hS => by have hS : k = br := hS; show False; omega)
  have h2 := h2.keep m74 (by show ¬ (b2 = br); omega)
  have r86 := r86.keep m74 (by show ¬ (b86 = br); omega)
  have h5 := h5.keep m74 (by show ¬ (b5 = br); omega)
  have hq := hq.keep ask_st (fun k hk => by have hk := (show k + 1 ≤ 0 from (show False from hk).elim); omega) m74 (fun k hk hS => by have hk := (show k + 1 ≤ 0 from (show False from hk).elim); have hS : k = br := hS; omega) (by show ¬ (g = br); omega)
  have hL63 := hL63.step m74 (fun k hk hS => by have hS : k = br := hS; show k = br ∨ k = b5; omega)
  have hS76 := hS72.step m74 (fun k hk hS => by have hS : k = br := hS; show k = br ∨ k = g; omega)
  refine ⟨hS76, ?_⟩
  refine hc rfl (xcall ca41 rfl) (c41 (bb := bb) (ob := ob) (cb := cb) (b := b) (x := a.cls.toNat) hr hB (by omega) (by omega) hcb hbl (u16lt _) (hast.right' rfl)) ?_
  rintro _ w77 ⟨rfl, hr, m78⟩
  have z79 := m78.size
  have hB := rng_fr hB m78 (by omega) (by show ¬ (bb = br); omega)
  have hf := hf.step m78 (fun k hk hS => by have hS : k = br := hS; show False; omega)
  have h2 := h2.keep m78 (by show ¬ (b2 = br); omega)
  have r86 := r86.keep m78 (by show ¬ (b86 = br); omega)
  have h5 := h5.keep m78 (by show ¬ (b5 = br); omega)
  have hq := hq.keep ask_st (fun k hk => by have hk := (show k + 1 ≤ 0 from (show False from hk).elim); omega) m78 (fun k hk hS => by have hk := (show k + 1 ≤ 0 from (show False from hk).elim); have hS : k = br := hS; omega) (by show ¬ (g = br); omega)
  have hL63 := hL63.step m78 (fun k hk hS => by have hS : k = br := hS; show k = br ∨ k = b5; omega)
  have hS80 := hS76.step m78 (fun k hk hS => by have hS : k = br := hS; show k = br ∨ k = g; omega)
  refine ⟨hS80, ?_⟩
  refine hv rfl (fun _ _ => xbuildS (askSegs a) zr59 ly59 rfl (by simp [fitAll, zs59, Value.cells]) rfl) hS80 ?_
  refine hlK rfl (xslit ((askSegs a).flatten) sl31 in59 rfl (by decide) rfl rfl rfl rfl (by decide) (ag_flat _) rfl) ?_
  rintro _ w82 ⟨b110, rfl, m83, h110, e110, s110, r110⟩
  have hB := rng_fr hB m83 (by omega) id
  have hf := hf.step0 m83
  have h2 := h2.keep m83 id
  have r86 := r86.keep m83 id
  have h5 := h5.keep m83 id
  have hq := hq.keep ask_st (fun k hk => by have hk := (show k + 1 ≤ 0 from (show False from hk).elim); omega) m83 nF id
  have hL63 := hL63.step0 m83
  have hr := hr.keep m83 id
  have hS84 := hS80.step0 m83
  refine ⟨hS84, ?_⟩
  obtain ⟨ss111, hR111, hA111⟩ := hq
  refine hlK rfl (xapp sl31 in59 rfl (by decide) rfl rfl hR111 (r110.src sl31) (by simp only [maxLen]; omega) (by omega)) ?_
  rintro v111 w85 ⟨g111, r111, m86, a111, l111⟩
  have z87 := m86.size
  have hB := rng_fr hB m86 (by omega) (by show ¬ (bb = g); omega)
  have hf := hf.step m86 (fun k hk hS => by have hS : k = g := hS; show False; omega)
  have h2 := h2.keep m86 (by show ¬ (b2 = g); omega)
  have r86 := r86.keep m86 (by show ¬ (b86 = g); omega)
  have h5 := h5.keep m86 (by show ¬ (b5 = g); omega)
  have hL63 := hL63.step m86 (fun k hk hS => by have hS : k = g := hS; show k = br ∨ k = b5; omega)
  have hr := hr.keep m86 (by show ¬ (br = g); omega)
  have hS88 := hS84.step m86 (fun k hk hS => by have hS : k = g := hS; show k = br ∨ k = g; omega)
  have hq := RA.snoc (x := a) hA111 ask_st ask_gr (fun k hk => by have hk := (show k + 1 ≤ 0 from (show False from hk).elim); omega) m86 (fun k hk hS => by have hk := (show k + 1 ≤ 0 from (show False from hk).elim); have hS : k = g := hS; omega) (fun _ h => h) r111 rfl (rfl)
  refine ⟨hS88, ?_⟩
  obtain ⟨p111, q111, rfl⟩ := RA.form hq
  refine hv rfl (fun _ _ => xfld fl34_1 rfl) hS88 ?_
  refine bluK rfl (xstF 10 sz31 h5 rfl rfl rfl rfl rfl) ?_
  rintro w90 ⟨m91, h5, s89⟩
  have hB := rng_fr hB m91 (by omega) (by show ¬ (bb = b5); omega)
  have hf := hf.step m91 (fun k hk hS => by have hS : k = b5 := hS; show False; omega)
  have h2 := h2.keep m91 (by show ¬ (b2 = b5); omega)
  have r86 := r86.keep m91 (by show ¬ (b86 = b5); omega)
  have hL63 := hL63.step m91 (fun k hk hS => by have hS : k = b5 := hS; show k = br ∨ k = b5; omega)
  have hr := hr.keep m91 (by show ¬ (br = b5); omega)
  have hq := hq.keep ask_st (fun k hk => by have hk := (show k + 1 ≤ 0 from (show False from hk).elim); omega) m91 (fun k hk hS => by have hk := (show k + 1 ≤ 0 from (show False from hk).elim); have hS : k = b5 := hS; omega) (by show ¬ (g111 = b5); omega)
  refine lhend (nBlock (nThen (fg [(0, _), (2, _), (4, _), (5, _), (6, _), (8, _), (9, _)] ⟨rfl, rfl, rfl, rfl, rfl, rfl, rfl, ⟨⟩⟩ fun _ => (lreg (sM rfl (sv (xadd rfl rfl (w64 (by omega) (by omega))) (sA rfl (lend (nThen ?_)))))))))
  refine ⟨(k + 1, _, g111, q1, _), _, env_okl ⟨rfl, rfl, rfl, rfl, rfl, rfl, rfl, trivial⟩, ⟨hL63, (by omega), (rd_cast hr hq1e), (h5), (hLR1), (by rw [take_snoc hak]; exact hq), (by omega), (fun _ => by have hq := l111 (by omega); omega)⟩, ?_⟩
  show m.asks.length - (k + 1) < m.asks.length - k; omega
 ·
  refine sM rfl (gno rfl rfl rfl (gno rfl rfl rfl (gno rfl rfl rfl (gno rfl rfl rfl (gno rfl rfl rfl (sv (xpickF rfl rfl) (send (fg [(0, _), (2, _), (4, _), (5, _), (6, _), (8, _), (9, _), (98, _)] ⟨rfl, rfl, rfl, rfl, rfl, rfl, rfl, rfl, ⟨⟩⟩ fun _ => (cno rfl (wp_exit (eThen (eThen (eHit (nThen (fg [(0, _), (2, _), (4, _), (5, _), (6, _), (8, _)] ⟨rfl, rfl, rfl, rfl, rfl, rfl, ⟨⟩⟩ fun _ => ?_)))))))))))))))
  have eT1 : m.asks.take k = m.asks := List.take_of_length_le (by omega)
  have eT2 : m.asks.drop k = [] := List.drop_eq_nil_of_le (by omega)
  rw [eT1] at hq
  rw [eT2] at hLR
  have hqe : q = ee0 := hLR
  obtain rfl : k = m.asks.length := by omega
  have hr := rd_cast hr hqe
  refine sdraw (Fr (fun k => k = br ∨ k = b5) w65.drew) [(0, .rd), (1, .rd), (2, .rd), (3, .rd), (5, .rd), (6, .rd), (7, .rd), (8, .rd), (10, .rd), (11, .rd), (12, .rd), (13, .rd), (4, .ld), (9, .ld), (14, .ld), (15, .rd), (16, .ld), (17, .rd), (18, .ld), (19, .rd), (20, .bh)] mixed (by kernel_rfl) (fun _ _ _ _ _ h => h) ?_
  have z92 : w65.drew.heap.size = w65.heap.size := rfl
  have hB := rng_fr hB (fd w65) (by omega) id
  have hf := hf.drew
  have h2 := h2.drew
  have r86 := r86.keep (fd w65) id
  have hr := hr.drew
  have h5 := h5.drew
  have hq := hq.keep ask_st (fun k hk => by have hk := (show k + 1 ≤ 0 from (show False from hk).elim); omega) (fd w65) nF id
  have hS93 : Fr (fun k => k = br ∨ k = b5) w65.drew w65.drew := Fr.refl _ _
  refine ggM rfl rfl hS93 (ggM rfl rfl hS93 (hv rfl (fun _ _ => xidx1 (i := 1) sl99 sz3 rfl rfl rfl (by decide)) hS93 (hv rfl (fun w' hS => xld on3 rfl (Rw.rng (r86.keep hS (by show ¬ (b86 = br ∨ b86 = b5); omega)) 1 _ rfl)) hS93 (ggM rfl rfl hS93 (ggM rfl rfl hS93 (hv rfl (fun _ _ => xidx1 (i := 2) sl99 sz3 rfl rfl rfl (by decide)) hS93 (hv rfl (fun w' hS => xld on3 rfl (Rw.rng (r86.keep hS (by show ¬ (b86 = br ∨ b86 = b5); omega)) 2 _ rfl)) hS93 (ggM rfl rfl hS93 (ggM rfl rfl hS93 (hv rfl (fun _ _ => xidx1 (i := 3) sl99 sz3 rfl rfl rfl (by decide)) hS93 (hv rfl (fun w' hS => xld on3 rfl (Rw.rng (r86.keep hS (by show ¬ (b86 = br ∨ b86 = b5); omega)) 3 _ rfl)) hS93 ?_)))))))))))
  refine hc rfl (xcall ca43 rfl) (c43 (bb := bb) (ob := ob) (cb := cb) (b := b) (p := ee0) (l := m.one) (n := m.one.length) hr hB (by omega) (by omega) hcb hbl hL1 rfl (by omega) (by omega) hok1) ?_
  rintro v117 w94 ⟨l117, wq117, L117, A117, hr, m95⟩
  have z96 := m95.size
  have hB := rng_fr hB m95 (by omega) (by show ¬ (bb = br); omega)
  have hf := hf.step m95 (fun k hk hS => by have hS : k = br := hS; show False; omega)
  have h2 := h2.keep m95 (by show ¬ (b2 = br); omega)
  have h5 := h5.keep m95 (by show ¬ (b5 = br); omega)
  have hq := hq.keep ask_st (fun k hk => by have hk := (show k + 1 ≤ 0 from (show False from hk).elim); omega) m95 (fun k hk hS => by have hk := (show k + 1 ≤ 0 from (show False from hk).elim); have hS : k = br := hS; omega) (by show ¬ (g = br); omega)
  have hS97 := hS93.step m95 (fun k hk hS => by have hS : k = br := hS; show k = br ∨ k = b5; omega)
  obtain ⟨aq117, cq117, rfl⟩ := L117.form
  refine ⟨hS97, ?_⟩
  refine hc rfl (xcall ca43 rfl) (c43 (bb := bb) (ob := ob) (cb := cb) (b := b) (p := ee1) (l := m.two) (n := m.two.length) hr hB (by omega) (by omega) hcb hbl hL2 rfl (by omega) (by omega) hok2) ?_
  rintro v122 w98 ⟨l122, wq122, L122, A122, hr, m99⟩
  have z100 := m99.size
  have hB := rng_fr hB m99 (by omega) (by show ¬ (bb = br); omega)
  have hf := hf.step m99 (fun k hk hS => by have hS : k = br := hS; show False; omega)
  have h2 := h2.keep m99 (by show ¬ (b2 = br); omega)
  have h5 := h5.keep m99 (by show ¬ (b5 = br); omega)
  have hq := hq.keep ask_st (fun k hk => by have hk := (show k + 1 ≤ 0 from (show False from hk).elim); omega) m99 (fun k hk hS => by have hk := (show k + 1 ≤ 0 from (show False from hk).elim); have hS : k = br := hS; omega) (by show ¬ (g = br); omega)
  have L117 := L117.keep rec_st (lNo (by omega)) m99 (fun k hk hS => by have hk := Ub.num (U := NoU) (n := 0) (fun _ h => h.elim) hk; have hS : k = br := hS; omega)
  have hS101 := hS97.step m99 (fun k hk hS => by have hS : k = br := hS; show k = br ∨ k = b5; omega)
  obtain ⟨aq122, cq122, rfl⟩ := L122.form
  refine ⟨hS101, ?_⟩
  refine hc rfl (xcall ca43 rfl) (c43 (bb := bb) (ob := ob) (cb := cb) (b := b) (p := ee2) (l := m.three) (n := m.three.length) hr hB (by omega) (by omega) hcb hbl hL3 rfl (by omega) (by omega) hok3) ?_
  rintro v127 w102 ⟨l127, wq127, L127, A127, hr, m103⟩
  have z104 := m103.size
  have hf := hf.step m103 (fun k hk hS => by have hS : k = br := hS; show False; omega)
  have h2 := h2.keep m103 (by show ¬ (b2 = br); omega)
  have h5 := h5.keep m103 (by show ¬ (b5 = br); omega)
  have hq := hq.keep ask_st (fun k hk => by have hk := (show k + 1 ≤ 0 from (show False from hk).elim); omega) m103 (fun k hk hS => by have hk := (show k + 1 ≤ 0 from (show False from hk).elim); have hS : k = br := hS; omega) (by show ¬ (g = br); omega)
  have L117 := L117.keep rec_st (lNo (by omega)) m103 (fun k hk hS => by have hk := Ub.num (U := NoU) (n := 0) (fun _ h => h.elim) hk; have hS : k = br := hS; omega)
  have L122 := L122.keep rec_st (lNo (by omega)) m103 (fun k hk hS => by have hk := Ub.num (U := NoU) (n := 0) (fun _ h => h.elim) hk; have hS : k = br := hS; omega)
  have hS105 := hS101.step m103 (fun k hk hS => by have hS : k = br := hS; show k = br ∨ k = b5; omega)
  obtain ⟨aq127, cq127, rfl⟩ := L127.form
  refine ⟨hS105, ?_⟩
  refine hv rfl (fun _ _ => xfld fl34_2 rfl) hS105 ?_
  refine hluK rfl (xstF 11 sz32 h5 rfl rfl rfl rfl rfl) ?_
  rintro w107 ⟨m108, h5, s106⟩
  have hf := hf.step m108 (fun k hk hS => by have hS : k = b5 := hS; show False; omega)
  have h2 := h2.keep m108 (by show ¬ (b2 = b5); omega)
  have hq := hq.keep ask_st (fun k hk => by have hk := (show k + 1 ≤ 0 from (show False from hk).elim); omega) m108 (fun k hk hS => by have hk := (show k + 1 ≤ 0 from (show False from hk).elim); have hS : k = b5 := hS; omega) (by show ¬ (g = b5); omega)
  have L117 := L117.keep rec_st (lNo (by omega)) m108 (fun k hk hS => by have hk := Ub.num (U := NoU) (n := 0) (fun _ h => h.elim) hk; have hS : k = b5 := hS; omega)
  have L122 := L122.keep rec_st (lNo (by omega)) m108 (fun k hk hS => by have hk := Ub.num (U := NoU) (n := 0) (fun _ h => h.elim) hk; have hS : k = b5 := hS; omega)
  have hr := hr.keep m108 (by show ¬ (br = b5); omega)
  have L127 := L127.keep rec_st (lNo (by omega)) m108 (fun k hk hS => by have hk := Ub.num (U := NoU) (n := 0) (fun _ h => h.elim) hk; have hS : k = b5 := hS; omega)
  have hS109 := hS105.step m108 (fun k hk hS => by have hS : k = b5 := hS; show k = br ∨ k = b5; omega)
  refine ⟨hS109, ?_⟩
  refine hv rfl (fun _ _ => xfld fl34_3 rfl) hS109 ?_
  refine hluK rfl (xstF 12 sz32 h5 rfl rfl rfl rfl rfl) ?_
  rintro w111 ⟨m112, h5, s110⟩
  have hf := hf.step m112 (fun k hk hS => by have hS : k = b5 := hS; show False; omega)
  have h2 := h2.keep m112 (by show ¬ (b2 = b5); omega)
  have hq := hq.keep ask_st (fun k hk => by have hk := (show k + 1 ≤ 0 from (show False from hk).elim); omega) m112 (fun k hk hS => by have hk := (show k + 1 ≤ 0 from (show False from hk).elim); have hS : k = b5 := hS; omega) (by show ¬ (g = b5); omega)
  have L117 := L117.keep rec_st (lNo (by omega)) m112 (fun k hk hS => by have hk := Ub.num (U := NoU) (n := 0) (fun _ h => h.elim) hk; have hS : k = b5 := hS; omega)
  have L122 := L122.keep rec_st (lNo (by omega)) m112 (fun k hk hS => by have hk := Ub.num (U := NoU) (n := 0) (fun _ h => h.elim) hk; have hS : k = b5 := hS; omega)
  have hr := hr.keep m112 (by show ¬ (br = b5); omega)
  have L127 := L127.keep rec_st (lNo (by omega)) m112 (fun k hk hS => by have hk := Ub.num (U := NoU) (n := 0) (fun _ h => h.elim) hk; have hS : k = b5 := hS; omega)
  have hS113 := hS109.step m112 (fun k hk hS => by have hS : k = b5 := hS; show k = br ∨ k = b5; omega)
  refine ⟨hS113, ?_⟩
  refine hv rfl (fun _ _ => xfld fl34_4 rfl) hS113 ?_
  refine bluK rfl (xstF 13 sz32 h5 rfl rfl rfl rfl rfl) ?_
  rintro w115 ⟨m116, h5, s114⟩
  have hf := hf.step m116 (fun k hk hS => by have hS : k = b5 := hS; show False; omega)
  have h2 := h2.keep m116 (by show ¬ (b2 = b5); omega)
  have hq := hq.keep ask_st (fun k hk => by have hk := (show k + 1 ≤ 0 from (show False from hk).elim); omega) m116 (fun k hk hS => by have hk := (show k + 1 ≤ 0 from (show False from hk).elim); have hS : k = b5 := hS; omega) (by show ¬ (g = b5); omega)
  have L117 := L117.keep rec_st (lNo (by omega)) m116 (fun k hk hS => by have hk := Ub.num (U := NoU) (n := 0) (fun _ h => h.elim) hk; have hS : k = b5 := hS; omega)
  have L122 := L122.keep rec_st (lNo (by omega)) m116 (fun k hk hS => by have hk := Ub.num (U := NoU) (n := 0) (fun _ h => h.elim) hk; have hS : k = b5 := hS; omega)
  have hr := hr.keep m116 (by show ¬ (br = b5); omega)
  have L127 := L127.keep rec_st (lNo (by omega)) m116 (fun k hk hS => by have hk := Ub.num (U := NoU) (n := 0) (fun _ h => h.elim) hk; have hS : k = b5 := hS; omega)
  refine hend (fg [(0, _), (2, _), (4, _), (5, _), (6, _)] ⟨rfl, rfl, rfl, rfl, rfl, ⟨⟩⟩ fun _ => ?_)
  refine sdraw (Fr (fun k => k = b2) w115.drew) [(0, .rd), (1, .rd), (2, .rd), (3, .rd), (4, .rd), (5, .rd), (6, .rd), (7, .rd), (8, .rd), (9, .rd), (10, .rd), (11, .rd), (12, .rd), (13, .rd), (14, .rd), (15, .rd), (16, .rd), (17, .rd), (18, .rd), (19, .rd), (20, .ld), (21, .rd)] mixed (by kernel_rfl) (fun _ _ _ _ _ h => h) ?_
  have z117 : w115.drew.heap.size = w115.heap.size := rfl
  have hf := hf.drew
  have h2 := h2.drew
  have h5 := h5.drew
  have hq := hq.keep ask_st (fun k hk => by have hk := (show k + 1 ≤ 0 from (show False from hk).elim); omega) (fd w115) nF id
  have L117 := L117.keep rec_st (lNo (by omega)) (fd w115) nF
  have L122 := L122.keep rec_st (lNo (by omega)) (fd w115) nF
  have hr := hr.drew
  have L127 := L127.keep rec_st (lNo (by omega)) (fd w115) nF
  have hS118 : Fr (fun k => k = b2) w115.drew w115.drew := Fr.refl _ _
  refine hv rfl (fun w' hS => xldS (lens := lMsg) ro34 rfl (h5.keep hS (by show ¬ (b5 = b2); omega)).r) hS118 (ggM rfl rfl hS118 (ggN rfl rfl hS118 (hv rfl (fun _ _ => xfld fl95_2 rfl) hS118 (hv rfl (fun w' hS => xld on4 rfl ((hr.keep hS (by show ¬ (br = b2); omega)).r.c 2 rfl rfl)) hS118 (hv rfl (fun _ _ => xnot rfl) hS118 (ggM rfl rfl hS118 (hvg rfl rfl rfl (fun _ _ => xmove rfl) hS118 (hvg rfl rfl rfl (fun _ _ => xnilc rfl) hS118 (hvg rfl rfl rfl (fun _ _ => xfld fl95_1 rfl) hS118 (hvg rfl rfl rfl (fun w' hS => xld on3 rfl ((hr.keep hS (by show ¬ (br = b2); omega)).r.c 1 rfl rfl)) hS118 (hvg rfl rfl rfl (fun _ _ => xmove rfl) hS118 (hvg rfl rfl rfl (fun _ _ => xlen sl37 rfl) hS118 (hvg rfl rfl rfl (fun _ _ => exT (xeql rfl rfl) (by omega)) hS118 (hv rfl (fun _ _ => xpickT rfl rfl) hS118 (ggM rfl rfl hS118 (hvg rfl rfl rfl (fun _ _ => xmove rfl) hS118 (hvg rfl rfl rfl (fun _ _ => xand16N (a := (hbits m.head).toNat) (c := 0) rfl rfl (by have hq := u16lt (hbits m.head); omega) (by decide) an10) hS118 (hvg rfl rfl rfl (fun _ _ => exT (xeql rfl rfl) (by omega)) hS118 (hv rfl (fun _ _ => xpickT rfl rfl) hS118 ?_)))))))))))))))))))
  refine hluK rfl (xstW h2 (lens' := lMsg) sz34 rfl rfl rfl rfl rfl) ?_
  rintro w120 ⟨m121, h2, s119⟩
  have hf := hf.step m121 (fun k hk hS => by have hS : k = b2 := hS; show False; omega)
  have hq := hq.keep ask_st (fun k hk => by have hk := (show k + 1 ≤ 0 from (show False from hk).elim); omega) m121 (fun k hk hS => by have hk := (show k + 1 ≤ 0 from (show False from hk).elim); have hS : k = b2 := hS; omega) (by show ¬ (g = b2); omega)
  have L117 := L117.keep rec_st (lNo (by omega)) m121 (fun k hk hS => by have hk := Ub.num (U := NoU) (n := 0) (fun _ h => h.elim) hk; have hS : k = b2 := hS; omega)
  have L122 := L122.keep rec_st (lNo (by omega)) m121 (fun k hk hS => by have hk := Ub.num (U := NoU) (n := 0) (fun _ h => h.elim) hk; have hS : k = b2 := hS; omega)
  have L127 := L127.keep rec_st (lNo (by omega)) m121 (fun k hk hS => by have hk := Ub.num (U := NoU) (n := 0) (fun _ h => h.elim) hk; have hS : k = b2 := hS; omega)
  have hS122 := hS118.step m121 (fun k hk hS => by have hS : k = b2 := hS; show k = b2; omega)
  refine ⟨hS122, ?_⟩
  refine ggA rfl rfl hS122 (hend (fg [(2, _), (3, _)] ⟨rfl, rfl, ⟨⟩⟩ fun _ => (wp_ret ?_)))
  refine rp2 rfl ⟨_, rfl, ldS (lens := lMsg) ro34 h2.r⟩ rfl ?_
  exact ⟨l117, l122, l127, _, _, _, _, rfl, RA.la0 hq (by decide) ask_gr (fun _ h => h.elim) ((Nat.eq_zero_or_pos m.asks.length).imp id (fun h0 => .inr ⟨by omega, by have hq2 := hg2 h0; omega⟩)), ⟨L117.mono rec_gr (fun k hk => hk.elim .inl (fun h => .inr ⟨by omega, by omega⟩)), A117⟩, ⟨L122.mono rec_gr (fun k hk => hk.elim .inl (fun h => .inr ⟨by omega, by omega⟩)), A122⟩, ⟨L127.mono rec_gr (fun k hk => hk.elim .inl (fun h => .inr ⟨by omega, by omega⟩)), A127⟩, hf⟩
end Go.Proofs.YtifnodoffgfpbaaGreatDoor

namespace Go.Proofs.YtifnodoffgfpbaaGreatDoor
open Go

structure RH (P : Program) (ops : Array Oper) (Q : Exit → Act → World → Prop) (S : World → Prop) (o : List (Nat × Kd)) (a : Act) (w : World) : Prop where
  out : runH P ops Q S o a w

section
variable {P : Program} {ops : Array Oper} {Q : Exit → Act → World → Prop} {S : World → Prop} {rest : List (Nat × Kd)} {n : Nat} {l : List (Nat × Value)} {r : Nat → Value} {w w' : World}
  {op : Op} {ty : TypeId} {pos : String} {af : Array Edge} {v : Value} {d i : Nat} {a : Act}

theorem hvH (ho : ops[i]? = some ⟨some d, op, ty, pos, af, none⟩) (h : ∀ w, S w → Ex P n l op ty w v w) (hS : S w)
    (k : RH P ops Q S rest (env n ((d, v) :: l) r) w) : RH P ops Q S ((i, .rd) :: rest) (env n l r) w := ⟨hv ho h hS k.out⟩
theorem hvgH {j dj : Nat} {want : Bool} (ho : ops[i]? = some ⟨some d, op, ty, pos, af, some (j, want)⟩) (hj : (ops[j]?).bind (·.dst) = some dj) (hb : ev n l (.tmp dj) = some (.bool want))
    (h : ∀ w, S w → Ex P n l op ty w v w) (hS : S w) (k : RH P ops Q S rest (env n ((d, v) :: l) r) w) : RH P ops Q S ((i, .rd) :: rest) (env n l r) w := ⟨hvg ho hj hb h hS k.out⟩
theorem hlKH {R : Value → World → Prop} (ho : ops[i]? = some ⟨some d, op, ty, pos, af, none⟩) (h : ExK P n l op ty w R)
    (k : ∀ v w', R v w' → S w' ∧ RH P ops Q S rest (env n ((d, v) :: l) r) w') : RH P ops Q S ((i, .ld) :: rest) (env n l r) w := ⟨hlK ho h fun v w' hR => ⟨(k v w' hR).1, (k v w' hR).2.out⟩⟩
theorem bluKH {R : World → Prop} (ho : ops[i]? = some ⟨none, op, ty, pos, af, none⟩) (h : ExUK P n l op ty w R)
    (k : ∀ w', R w' → RH P ops Q S rest (env n l r) w') : RH P ops Q S ((i, .bh) :: rest) (env n l r) w := ⟨bluK ho h fun w' hR => (k w' hR).out⟩
theorem hcH {f : FuncId} {vs : List Value} {R : Value → World → Prop} (ho : ops[i]? = some ⟨some d, op, ty, pos, af, none⟩) (h : ExC P n l op ty w f vs) (hc' : Ret P f vs w R)
    (k : ∀ v w', R v w' → S w' ∧ RH P ops Q S rest (env n ((d, v) :: l) r) w') : RH P ops Q S ((i, .ld) :: rest) (env n l r) w := ⟨hc ho h hc' fun v w' hR => ⟨(k v w' hR).1, (k v w' hR).2.out⟩⟩
theorem hcgH {f : FuncId} {vs : List Value} {R : Value → World → Prop} {j dj : Nat} {want : Bool} (ho : ops[i]? = some ⟨some d, op, ty, pos, af, some (j, want)⟩)
    (hj : (ops[j]?).bind (·.dst) = some dj) (hb : ev n l (.tmp dj) = some (.bool want)) (h : ExC P n l op ty w f vs) (hc' : Ret P f vs w R)
    (k : ∀ v w', R v w' → S w' ∧ RH P ops Q S rest (env n ((d, v) :: l) r) w') : RH P ops Q S ((i, .ld) :: rest) (env n l r) w := ⟨hcg ho hj hb h hc' fun v w' hR => ⟨(k v w' hR).1, (k v w' hR).2.out⟩⟩
theorem bcH {f : FuncId} {vs : List Value} {R : Value → World → Prop} (ho : ops[i]? = some ⟨some d, op, ty, pos, af, none⟩) (h : ExC P n l op ty w f vs) (hc' : Ret P f vs w R)
    (k : ∀ v w', R v w' → RH P ops Q S rest (env n ((d, v) :: l) r) w') : RH P ops Q S ((i, .bh) :: rest) (env n l r) w := ⟨bc ho h hc' fun v w' hR => (k v w' hR).out⟩
theorem hendH {y : Code} (h : y.wp P Q a w) : RH P ops (Exit.then (y.wp P Q) Q) S [] a w := ⟨h⟩
theorem sdrawH {id : Nat} {y : Code} (S : World → Prop) (order : List (Nat × Kd)) (hm : P.follows .mixedOrders = true)
    (hk : (Region.noSelect ops && okRun ops (reads order) (Array.replicate ops.size false) order && order.length.ble ops.size) = true)
    (hQ : ∀ c d v a w, Q (.panic c) (a.put d v) w → Q (.panic c) a w)
    (h : RH P ops (Exit.then (y.wp P Q) Q) S order a w.drew) : (Code.seq (.region id ops true) y).wp P Q a w := sdraw S order hm hk hQ h.out
end
section
variable {P : Program} {ops : Array Oper} {Q : Exit → Act → World → Prop} {n : Nat} {l : List (Nat × Value)} {r : Nat → Value} {w : World} {ty : TypeId} {pos : String} {af : Array Edge} {v : Value} {d i : Nat} {S : World → Prop} {more : List (Nat × Kd)} {x : Operand} {a : Addr}
theorem qqM (ho : ops[i]? = some ⟨some d, .move x, ty, pos, af, none⟩) (h : ev n l x = some v) (hS : S w) (k : RH P ops Q S more (env n ((d, v) :: l) r) w) : RH P ops Q S ((i, .rd) :: more) (env n l r) w := hvH ho (fun _ _ => xmove h) hS k
theorem qqA (ho : ops[i]? = some ⟨some d, .assign x, ty, pos, af, none⟩) (h : ev n l x = some v) (hS : S w) (k : RH P ops Q S more (env n ((d, v) :: l) r) w) : RH P ops Q S ((i, .rd) :: more) (env n l r) w := hvH ho (fun _ _ => xassign h) hS k
theorem qqN (ho : ops[i]? = some ⟨some d, .nilCheck x, ty, pos, af, none⟩) (h : ev n l x = some (.pointer (some a))) (hS : S w) (k : RH P ops Q S more (env n ((d, .pointer (some a)) :: l) r) w) : RH P ops Q S ((i, .rd) :: more) (env n l r) w := hvH ho (fun _ _ => xnilc h) hS k
end
end Go.Proofs.YtifnodoffgfpbaaGreatDoor

namespace Go.Proofs.YtifnodoffgfpbaaGreatDoor
open Go

theorem packM_leC {m : MsgD} (h : fewM m) (C : Option Ent) : (packM C m).length ≤ 10000000 := by
  obtain ⟨hna, hpk, hc, _⟩ := few_pack h
  have h0 := packAsks_bound hna (by omega) C 12
  have h1 := packRecs_bound (fun r hr => (hpk m.one (by simp) r hr).2) (by omega) (packA C m).2 (12 + (packA C m).1.length)
  have h2 := packRecs_bound (fun r hr => (hpk m.two (by simp) r hr).2) (by omega) (pack1 C m).2 (12 + (packA C m).1.length + (pack1 C m).1.length)
  have h3 := packRecs_bound (fun r hr => (hpk m.three (by simp) r hr).2) (by omega) (pack2 C m).2 (12 + (packA C m).1.length + (pack1 C m).1.length + (pack2 C m).1.length)
  have e0 : (packA C m).1.length ≤ 24000 := h0
  have e1 : (pack1 C m).1.length ≤ 2680000 := h1
  have e2 : (pack2 C m).1.length ≤ 2680000 := h2
  have e3 : (pack3 C m).1.length ≤ 2680000 := h3
  simp only [packM, List.length_append, headL_len]; omega
theorem few_names {m : MsgD} (h : fewM m) : MsgNames m ∧ ∀ r, r ∈ m.one ∨ r ∈ m.two ∨ r ∈ m.three → (bodyL r).length < 65536 := by
  obtain ⟨hna, hpk, hc, _⟩ := few_pack h
  refine ⟨⟨hna, fun r hr => (hpk m.one (by simp) r hr).2.1, fun r hr => (hpk m.two (by simp) r hr).2.1, fun r hr => (hpk m.three (by simp) r hr).2.1⟩, fun r hr => ?_⟩
  rcases hr with hr | hr | hr
  · exact (hpk m.one (by simp) r hr).2.2.2
  · exact (hpk m.two (by simp) r hr).2.2.2
  · exact (hpk m.three (by simp) r hr).2.2.2
theorem msgL_le {m : MsgD} (h : fewM m) : (msgL m).length ≤ 10000000 := by
  rw [← packM_non (few_names h).1]; exact packM_leC h none
theorem readOk_of {r : RecD} (h : PackOk r) (hp : plainR r) : ReadOk r := ⟨h.1.2.1, h.1.2.2.1, h.2.1, h.2.2.1.2.2.2.2.1, h.2.2.1.2.1, hp⟩
theorem fits_norm {r : RecD} {len : UInt16} (h : r.fits) : (normR r len).fits := by
  obtain ⟨h1, h2, h3, h4, h5, h6, h7, h8, h9, h10, h11, h12⟩ := h
  refine ⟨h1, ?_, ?_, ?_, ?_, ?_, ?_, ?_, ?_, ?_, h11, h12⟩
  · simp only [normR]; repeat' split
    all_goals first | exact h2 | (rw [fixedL_length]; omega) | simp
  · simp only [normR]; split
    · exact h3
    · show (0 : Nat) ≤ _; omega
  · simp only [normR]; split
    · exact h4
    · show (0 : Nat) ≤ _; omega
  · simp only [normR]; split <;> simp [h5]
  · simp only [normR]; split
    · exact h6
    · simp
  · simp only [normR]; split <;> simp [h7]
  · simp only [normR]; split <;> simp [h8]
  · simp only [normR]; split
    · exact h9
    · simp
  · simp only [normR]; split <;> simp [h10]
/-- a message that is read -/
def backM (m : MsgD) (l1 l2 l3 : List RecD) : MsgD := { m with one := l1, two := l2, three := l3 }
theorem like_mem {l1 l : List RecD} (h : All2 Like l1 l) {r' : RecD} (hr : r' ∈ l1) : ∃ r ∈ l, ∃ len, r' = normR r len := by
  obtain ⟨i, hi, rfl⟩ := List.mem_iff_getElem.1 hr
  obtain ⟨a, b, ha, hb, hab⟩ := h.get (k := i) (by rw [← h.1]; exact hi)
  rw [List.getElem?_eq_getElem hi] at ha
  simp only [Option.some.injEq] at ha
  subst ha
  exact ⟨b, List.mem_of_getElem? hb, hab⟩
theorem back_fits {m : MsgD} {l1 l2 l3 : List RecD} (hm : m.fits) (hf : fewM m) (h1 : All2 Like l1 m.one) (h2 : All2 Like l2 m.two) (h3 : All2 Like l3 m.three) :
    (∀ l ∈ [l1, l2, l3], ∀ r ∈ l, r.fits ∧ 1 ≤ r.kind ∧ r.kind ≤ 13) ∧ (∀ l ∈ [l1, l2, l3], l.length ≤ 1048576) ∧ msgL (backM m l1 l2 l3) = msgL m := by
  obtain ⟨hna, hpk, hc, _⟩ := few_pack hf
  have hfl := hm.lists
  refine ⟨?_, ?_, ?_⟩
  · intro l hl r hr
    simp only [List.mem_cons, List.not_mem_nil, or_false] at hl
    rcases hl with rfl | rfl | rfl
    · obtain ⟨r0, h0, len, rfl⟩ := like_mem h1 hr
      have := hpk m.one (by simp) r0 h0
      exact ⟨fits_norm (hfl.2 _ (by simp) r0 h0), this.1.2.1, this.1.2.2.1⟩
    · obtain ⟨r0, h0, len, rfl⟩ := like_mem h2 hr
      have := hpk m.two (by simp) r0 h0
      exact ⟨fits_norm (hfl.2 _ (by simp) r0 h0), this.1.2.1, this.1.2.2.1⟩
    · obtain ⟨r0, h0, len, rfl⟩ := like_mem h3 hr
      have := hpk m.three (by simp) r0 h0
      exact ⟨fits_norm (hfl.2 _ (by simp) r0 h0), this.1.2.1, this.1.2.2.1⟩
  · intro l hl
    simp only [List.mem_cons, List.not_mem_nil, or_false] at hl
    rcases hl with rfl | rfl | rfl
    · rw [h1.1]; omega
    · rw [h2.1]; omega
    · rw [h3.1]; omega
  · refine msgL_like ⟨rfl, rfl, h1, h2, h3⟩ fun r hr => ?_
    rcases hr with hr | hr | hr
    · have := hpk m.one (by simp) r hr; exact ⟨this.1.2.1, this.1.2.2.1⟩
    · have := hpk m.two (by simp) r hr; exact ⟨this.1.2.1, this.1.2.2.1⟩
    · have := hpk m.three (by simp) r hr; exact ⟨this.1.2.1, this.1.2.2.1⟩
theorem c20b {w : World} {U : Nat → Prop} (hU : ∀ k, U k → k < w.heap.size) {m : MsgD} {l1 l2 l3 : List RecD} {va v1 v2 v3 : Value} (hm : m.fits) (hf : fewM m) (ja : LA AskEl lAsk U w va m.asks) (j1 : LA RecEl lRec U w v1 l1) (j2 : LA RecEl lRec U w v2 l2) (j3 : LA RecEl lRec U w v3 l3)
    (h1 : All2 Like l1 m.one) (h2 : All2 Like l2 m.two) (h3 : All2 Like l3 m.three) : Ret PP 20 [ag (msgSegs m.head va v1 v2 v3)] w (New w (msgL m).length (msgL m)) := by
  obtain ⟨bf1, bf2, bf3⟩ := back_fits hm hf h1 h2 h3
  have hl := msgL_le hf
  have := c20 (m := backM m l1 l2 l3) hU ja j1 j2 j3 hm.2.1 (fun l hl r hr => ⟨(bf1 l hl r hr).1, Int.le_trans (by decide) (bf1 l hl r hr).2.1, (bf1 l hl r hr).2.2⟩) hm.1 bf2 (by rw [bf3]; omega)
  rw [bf3] at this
  exact this
theorem c20f {w : World} {U : Nat → Prop} (hU : ∀ k, U k → k < w.heap.size) {m : MsgD} {va v1 v2 v3 : Value} (hm : m.fits) (hf : fewM m) (ja : LA AskEl lAsk U w va m.asks) (j1 : LA RecEl lRec U w v1 m.one) (j2 : LA RecEl lRec U w v2 m.two) (j3 : LA RecEl lRec U w v3 m.three) :
    Ret PP 20 [ag (msgSegs m.head va v1 v2 v3)] w (New w (msgL m).length (msgL m)) := by
  have hl := msgL_le hf
  have hfl := hm.lists
  have hpk := (few_pack hf).2.1
  exact c20 hU ja j1 j2 j3 hm.2.1 (fun l hl r hr => ⟨hfl.2 l hl r hr, Int.le_trans (by decide) (hpk l hl r hr).1.2.1, (hpk l hl r hr).1.2.2.1⟩) hm.1 hfl.1 (by omega)
theorem c19_eq {w : World} {U V : Nat → Prop} {a b : Value} {cs : List UInt8} (ha : BA U w a cs) (hb : BA V w b cs) : Ret PP 19 [a, b] w (fun u w' => u = .bool true ∧ Fr0 w w') :=
  Ret.mono (c19 ha hb) fun u w' ⟨h, hf⟩ => ⟨by rw [h]; simp, hf⟩
theorem kmsg_all (m : MsgD) : KMsg (fun _ => True) m := ⟨fun _ _ _ _ => trivial, fun _ _ => ⟨fun _ _ => trivial, fun _ _ => trivial, fun _ _ => trivial⟩, fun _ _ => ⟨fun _ _ => trivial, fun _ _ => trivial, fun _ _ => trivial⟩, fun _ _ => ⟨fun _ _ => trivial, fun _ _ => trivial, fun _ _ => trivial⟩⟩

end Go.Proofs.YtifnodoffgfpbaaGreatDoor
