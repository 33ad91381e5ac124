/- Part 5 of the texts for a law of this seat: walks, and plain laws about messages; conditions: none. -/
import Derived.Test.YtifnodoffgfpbaaGreatDoorSk4
set_option maxHeartbeats 4000000
set_option maxRecDepth 100000
namespace Go.Proofs.YtifnodoffgfpbaaGreatDoor
open Go

theorem mp288 : mapB PP 288 122 9 = true := by kernel_rfl
theorem ki122 : intB PP 122 .u8 = true := by kernel_rfl
theorem st9z : Inf PP 9 (.string ⟨#[]⟩) 1 16 := inf_of (by kernel_rfl)
def CmpT (T : TypeId) : Prop := T ≠ 166 ∧ ∃ te i j, PP.underlying T = some (.pointer te) ∧ PP.info? T = some i ∧ i.comparable = true ∧ PP.info? te = some j
def SecMap (B mb : Nat) (f : Int → ByteArray) (w : World) : Prop :=
  14 < B ∧ mb < B ∧ w.cell? ⟨14, 0, none⟩ = some (.map (some mb)) ∧ ∃ es c, w.heap[mb]? = some (.map es c) ∧ ∀ q : Int, 2 ≤ q → q ≤ 5 → (f q).size < 1000000 ∧
    ((Instr.findNow (.int .u8) (.int .u8 q) es.toList 0 = some none ∧ f q = ⟨#[]⟩) ∨ ∃ j, Instr.findNow (.int .u8) (.int .u8 q) es.toList 0 = some (some (j, .string (f q))))
def SecOr (p : Prop) (B mb : Nat) (f : Int → ByteArray) (w : World) : Prop := p ∨ SecMap B mb f w
theorem SecMap.keep {S : Nat → Prop} {B mb : Nat} {f : Int → ByteArray} {w w' : World} (h : SecMap B mb f w) (hU : ∀ k, k < B → k < w.heap.size) (m : Fr S w w') (hn : ∀ k, k < B → ¬ S k) : SecMap B mb f w' := by
  obtain ⟨h1, h2, h3, es, c, h4, h5⟩ := h
  exact ⟨h1, h2, cell_keep h3 m (hU _ h1) (hn _ h1), es, c, (m.block mb (hU _ h2) (hn _ h2)).trans h4, h5⟩
theorem SecOr.keep {p : Prop} {S : Nat → Prop} {B mb : Nat} {f : Int → ByteArray} {w w' : World} (h : SecOr p B mb f w) (hU : ∀ k, k < B → k < w.heap.size) (m : Fr S w w') (hn : ∀ k, k < B → ¬ S k) : SecOr p B mb f w' := h.imp_right (fun h => h.keep hU m hn)
theorem SecMap.k0 {B mb : Nat} {f : Int → ByteArray} {w w' : World} (h : SecMap B mb f w) (m : Fr0 w w') (hs : B ≤ w.heap.size) : SecMap B mb f w' := h.keep (fun k hk => by omega) m fun _ _ h => h
theorem SecMap.k1 {B mb b : Nat} {f : Int → ByteArray} {w w' : World} (h : SecMap B mb f w) (m : Fr (fun k => k = b) w w') (hs : B ≤ w.heap.size) (hb : B ≤ b) : SecMap B mb f w' := h.keep (fun k hk => by omega) m fun k hk e => by have e : k = b := e; omega
theorem SecOr.k0 {p : Prop} {B mb : Nat} {f : Int → ByteArray} {w w' : World} (h : SecOr p B mb f w) (m : Fr0 w w') (hs : B ≤ w.heap.size) : SecOr p B mb f w' := h.imp_right fun h => h.k0 m hs
theorem SecOr.k1 {p : Prop} {B mb b : Nat} {f : Int → ByteArray} {w w' : World} (h : SecOr p B mb f w) (m : Fr (fun k => k = b) w w') (hs : B ≤ w.heap.size) (hb : B ≤ b) : SecOr p B mb f w' := h.imp_right fun h => h.k1 m hs hb
theorem SecOr.imp {p q : Prop} {B mb : Nat} {f : Int → ByteArray} {w : World} (h : SecOr p B mb f w) (hi : p → q) : SecOr q B mb f w := Or.imp_left hi h
section
variable {n : Nat} {l : List (Nat × Value)} {w : World} {ty : TypeId} {x y : Operand}
theorem xsec {B mb : Nat} {f : Int → ByteArray} {q : Int} (h : SecMap B mb f w) (h2 : 2 ≤ q) (h5 : q ≤ 5) (hx : ev n l x = some (.map (some mb))) (hy : ev n l y = some (.int .u8 q)) : Ex PP n l (.lookup 288 x y false) ty w (.string (f q)) w := fun r _ _ _ _ => by
  obtain ⟨_, _, _, es, c, hb, hq⟩ := h
  obtain ⟨i, hi, hz, _, _⟩ := st9z
  have hck := fun e => MapKept.run_checkKey (P := PP) (w := w) (k := .int .u8 q) (intB_spec ki122) (by simp [MapKept.IsKey]) e 9999
  simp only [execOp, ev_eval r hx, ev_eval r hy]
  rcases (hq q h2 h5).2 with ⟨hf, e⟩ | ⟨j, hf⟩
  · have := MapKept.run_findKey (P := PP) (w := w) (intB_spec ki122) hf
    simp [Instr.lookup, run_underlying (mapB_spec mp288), MapKept.run_getObj_map hb, hck, this, zeroValue, typeInfo, hi, hz, e]
  · have := MapKept.run_findKey (P := PP) (w := w) (intB_spec ki122) hf
    simp [Instr.lookup, run_underlying (mapB_spec mp288), MapKept.run_getObj_map hb, hck, this]
theorem xeqES {T U A : TypeId} {p : Option Addr} (hT : ifcB PP T = true) (hA : CmpT A) (hx : ev n l x = some (.iface A (.pointer p))) (hy : ev n l y = some (.iface A (.pointer p))) : Ex PP n l (.binOp .eql T x y U) ty w (.bool true) w := by
  obtain ⟨_, te, i, j, hp, hi, hc, hj⟩ := hA
  cases p with
  | some a => exact xbin hx hy (by simp [eqGuard]) (run_eql_iface_ptr_same w a (ifcB_spec hT) hp hi hc hj)
  | none =>
    refine xbin hx hy (by simp [eqGuard]) ?_
    have h : ∀ d : Nat, (Op.equalIn (d + 2) T (.iface A (.pointer none)) (.iface A (.pointer none))).run PP w = .ok true w := fun d => by
      simp [Op.equalIn, run_underlying (ifcB_spec hT), run_underlying hp, typeInfo, hi, hc]
    simp only [binOp]
    simp [Op.equal, Op.maxDepth, h 9998]
theorem xeqEN {T U A : TypeId} {v : Value} (hT : ifcB PP T = true) (hx : ev n l x = some .nilIface) (hy : ev n l y = some (.iface A v)) : Ex PP n l (.binOp .eql T x y U) ty w (.bool false) w :=
  xbin hx hy (by simp [eqGuard]) (run_eql_iface_nil_left w A v (ifcB_spec hT))
theorem xeqEO {T U A A' : TypeId} {u v : Value} (hT : ifcB PP T = true) (hne : A' ≠ A) (hx : ev n l x = some (.iface A u)) (hy : ev n l y = some (.iface A' v)) : Ex PP n l (.binOp .eql T x y U) ty w (.bool false) w := by
  refine xbin hx hy (by simp [eqGuard]) ?_
  have h : ∀ d : Nat, (Op.equalIn (d + 1) T (.iface A u) (.iface A' v)).run PP w = .ok false w := fun d => by
    simp [Op.equalIn, run_underlying (ifcB_spec hT), Ne.symm hne]
  simp only [binOp]
  simp [Op.equal, Op.maxDepth, h 9999]
end
theorem one6 (S : List UInt8) (x1 x2 x3 x4 : Int) (v : Value) (h : v.oneCell' = true) : ([nm S, [Value.int .u16 x1], [Value.int .u16 x2], [Value.int .u32 x3], [Value.int .u16 x4], [v]].flatten.all (·.oneCell')) = true := by
  simp only [List.flatten_cons, List.flatten_nil, List.all_append, List.append_nil, nm_one, Bool.true_and, List.all_cons, List.all_nil, h]; rfl
def ResV (U : Nat → Prop) (w : World) (segs : List (List Value)) (r : RecD) : Prop := ∃ (len : Nat) (vb : Value), len < 65536 ∧ segs = rhSegs (bt r.name) (typeN r) r.cls r.ttl len ++ [[vb]] ∧ BodyEl U w vb r
theorem resv_st : Stays ResV := fun _ _ _ _ _ _ ⟨n, v, h0, h1, h2⟩ hU m hn => ⟨n, v, h0, h1, h2.keep hU m hn⟩
theorem resv_gr : Grows ResV := fun _ _ _ _ _ ⟨n, v, h0, h1, h2⟩ hU => ⟨n, v, h0, h1, h2.mono hU⟩
theorem recR_open {Kp : Nat → Prop} {b : List UInt8} {i e : Nat} {r : RecD} (h : RecR Kp b i r e) : ∃ e0 len k, Kp k ∧ NameAt b k i (bt r.name) e0 ∧ Std b e0 (be16 (typeN r).toNat ++ (be16 r.cls.toNat ++ (be32 r.ttl.toNat ++ be16 len))) ∧ len < 65536 ∧ BodyR Kp b (e0 + 2 + 2 + 4 + 2) r (e0 + 10 + len) ∧ e = e0 + 10 + len := by
  obtain ⟨e0, len, ⟨k, hk, hN⟩, h1, h2, h3, h4⟩ := h
  exact ⟨e0, len, k, hk, hN, h1, h2, h3, h4⟩
def PrAt (w : World) (bp : Nat) (vm : Value) (y0 y1 y2 y3 y4 y5 sec off idx : Int) : Prop := ∃ ho ty ln : Int, SB w bp lPr (prSegs vm y0 y1 y2 y3 y4 y5 sec off idx false ho ty ln)
theorem ResV.mk {U : Nat → Prop} {w : World} {r : RecD} {len : Nat} {vb : Value} (h : len < 65536) (hb : BodyEl U w vb r) : ResV U w (rhSegs (bt r.name) (typeN r) r.cls r.ttl len ++ [[vb]]) r := ⟨len, vb, h, rfl, hb⟩
theorem PrAt.keep {S : Nat → Prop} {w w' : World} {bp : Nat} {vm : Value} {y0 y1 y2 y3 y4 y5 sec off idx : Int} (h : PrAt w bp vm y0 y1 y2 y3 y4 y5 sec off idx) (m : Fr S w w') (hn : ¬ S bp) : PrAt w' bp vm y0 y1 y2 y3 y4 y5 sec off idx := by
  obtain ⟨a, b, c, h⟩ := h
  exact ⟨a, b, c, h.keep m hn⟩

theorem PrAt.k {w w' : World} {bp : Nat} {vm : Value} {y0 y1 y2 y3 y4 y5 sec off idx : Int} (h : PrAt w bp vm y0 y1 y2 y3 y4 y5 sec off idx) (m : Fr0 w w') : PrAt w' bp vm y0 y1 y2 y3 y4 y5 sec off idx := h.keep m id
theorem c108d {w : World} {bp : Nat} {vm : Value} {y0 y1 y2 y3 y4 y5 po idx ho ty ln : Int} {q : Int} (hP : SB w bp lPr (prSegs vm y0 y1 y2 y3 y4 y5 q po idx false ho ty ln)) {Tz : TypeId} {xz : Option Addr} (hg0 : w.rangeAt 0 0 [.iface Tz (.pointer xz)]) (hG : GE w) (hsz : 21 ≤ w.heap.size) (hgp : 20 < bp) (hs0 : 0 ≤ q) (hs1 : q ≤ 6) (hq0 : 0 ≤ cntI q y2 y3 y4 y5) (hq1 : cntI q y2 y3 y4 y5 < 65536) (hie : idx = cntI q y2 y3 y4 y5)  :
  Ret PP 108 [.pointer (some ⟨bp, 0, none⟩), .int .u8 q] w (fun u w' => (u = .tuple #[ag ([nm [], [.int .u16 0], [.int .u16 0], [.int .u32 0], [.int .u16 0], [.nilIface]]), .iface Tz (.pointer xz)] ∧ SB w' bp lPr (prSegs vm y0 y1 y2 y3 y4 y5 (q + 1) po 0 false ho ty ln)) ∧ Fr (fun k => k = bp) w w') := by
 have hf : Fr (fun k => k = bp) w w := Fr.refl _ _
 have z_hP := hP.lt
 refine ret_of Tryz.func108 rfl rfl rfl [(0, _), (1, _)] rfl ?_
 refine sreg (svK (xallS (lens := [256, 1, 1, 1, 1, 1]) in139 (by simp [nm_length])) ?_)
 rintro _ w2 ⟨b4, rfl, m3, h4, e1, s1⟩
 refine sA rfl (send (fdg 0 1 4 rfl fun _ => sreg (svK (xallS (lens := [256, 1, 1, 1, 1, 1]) in139 (by simp [nm_length])) ?_)))
 rintro _ w5 ⟨b6, rfl, m6, h6, e4, s4⟩
 have hP := (hP.k m3).k m6
 have hg0 := rng_fr (rng_fr hg0 m3 (by omega) id) m6 (by omega) id
 have hG := (hG.k0 m3 (by omega)).k0 m6 (by omega)
 refine send ((sreg (sA rfl (send (feg 0 1 4 6 rfl fun _ => sreg (sM rfl (sM rfl (sc (xcall ca158 rfl) (c158d (q := q) hP hg0 hG (by omega) hgp hs0 hs1 hq0 hq1 hie) ?_))))))))
 rintro _ w7 ⟨⟨rfl, hP⟩, m8⟩
 have z9 := m8.size
 have h6 := h6.keep m8 (nE (by omega))
 refine sM rfl (sE2 rfl (sv (xfld fl139_0 rfl) (suK (xstS 0 h6 (lens' := [256, 1, 1, 1, 1]) sz135 (by simp [nm_length]) rfl rfl (by simp only [fC, fN, aA, aN, nm_one, bT] <;> rfl) rfl rfl) ?_)))
 rintro w11 ⟨m12, h6, s10⟩
 have h4 := ((h4.k m6).keep m8 (nE (by omega))).keep m12 (nE (by omega))
 refine sA rfl (send ((wp_seq (sreg (sM rfl (sv (xneI if89 rfl) (send (fgg 0 1 4 6 7 16 rfl fun _ => cyes rfl (sreg (sv (xldS (lens := [256, 1, 1, 1, 1, 1]) ro139 rfl h6.r) (sM rfl (suK (xstW h4 (lens' := [256, 1, 1, 1, 1, 1]) sz139 (by simp [nm_length]) rfl (one6 _ _ _ _ _ _ rfl) rfl rfl) ?_))))))))))))
 rintro w14 ⟨m15, h4, s13⟩
 have hf := ((((hf.s m3).s m6).step m8 nI).t m12 (by omega)).t m15 (by omega)
 have hP := (hP.keep m12 (nE (by omega))).keep m15 (nE (by omega))
 refine sA rfl (send (fcg 4 5 rfl fun _ => wp_ret (rThen (rp2 rfl ⟨_, rfl, ldS (lens := [256, 1, 1, 1, 1, 1]) ro139 h4.r⟩ rfl ?_))))
 exact ⟨⟨rfl, hP⟩, hf⟩
theorem c108g {w : World} {a : Option Addr} {bm om km n : Nat} {b : List UInt8} (hms : n ≠ 0 → a = some ⟨bm, om, none⟩) (hm : w.rangeAt bm om (bvs (b.take n))) (hbm : bm < w.heap.size) (hnb : n ≤ b.length) (hkm : n ≤ km) (hbl : b.length < 100000000) {bp : Nat} {y0 y1 y2 y3 y4 y5 idx ho ty ln : Int} {q : Int} {off e : Nat} {r : RecD} {Kp : Nat → Prop} (hP : SB w bp lPr (prSegs (.slice a n km) y0 y1 y2 y3 y4 y5 q (off : Int) idx false ho ty ln)) {Tz : TypeId} {xz : Option Addr} (hg0 : w.rangeAt 0 0 [.iface Tz (.pointer xz)]) (hG : GE w) (hsz : 21 ≤ w.heap.size) (hgp : 20 < bp) (hs0 : 0 ≤ q) (hs1 : q ≤ 6) (hq0 : 0 ≤ cntI q y2 y3 y4 y5) (hq1 : cntI q y2 y3 y4 y5 < 65536) (hbp : bp ≠ bm) (hne : idx ≠ cntI q y2 y3 y4 y5) (hi0 : 0 ≤ idx) (hi1 : idx < 65536) {B mb : Nat} {sf : Int → ByteArray} (hBp : B ≤ bp) (hq2 : 2 ≤ q) (hq5 : q ≤ 5) (hKp : ∀ k, Kp k → k ≤ 10 ∧ (k = 0 ∨ n = b.length)) (hR : RecR Kp b off r e) (hr : ReadOk r) (hasc : r.kind = 11 ∨ r.kind = 12 → asc r.pairs) (heb : e ≤ b.length) (hSO : SecOr (e ≤ n) B mb sf w) :
  Ret PP 108 [.pointer (some ⟨bp, 0, none⟩), .int .u8 q] w (fun u w' => ((e ≤ n ∧ ∃ segs, u = .tuple #[ag segs, .nilIface] ∧ ResV (Ub NoU w w') w' segs r ∧ PrAt w' bp (.slice a n km) y0 y1 y2 y3 y4 y5 q (e : Int) (idx + 1)) ∨ (n < e ∧ ∃ (x : Option Addr), u = .tuple #[ag ([nm [], [.int .u16 0], [.int .u16 0], [.int .u32 0], [.int .u16 0], [.nilIface]]), .iface 166 (.pointer x)])) ∧ Fr (fun k => k = bp) w w') := by
 have hzb : bp < w.heap.size := hP.lt
 obtain ⟨e0, len, kk, hkk, hN, hst, hl16, hbody, rfl⟩ := recR_open hR
 have hNl := (show NameR b off kk off (txt (bt r.name)) e0 from hN).le
 have hf : Fr (fun k => k = bp) w w := Fr.refl _ _
 have z_hP := hP.lt
 refine ret_of Tryz.func108 rfl rfl rfl [(0, _), (1, _)] rfl ?_
 refine sreg (svK (xallS (lens := [256, 1, 1, 1, 1, 1]) in139 (by simp [nm_length])) ?_)
 rintro _ w2 ⟨b4, rfl, m3, h4, e1, s1⟩
 refine sA rfl (send (fdg 0 1 4 rfl fun _ => sreg (svK (xallS (lens := [256, 1, 1, 1, 1, 1]) in139 (by simp [nm_length])) ?_)))
 rintro _ w5 ⟨b6, rfl, m6, h6, e4, s4⟩
 have hP := (hP.k m3).k m6
 have hg0 := rng_fr (rng_fr hg0 m3 (by omega) id) m6 (by omega) id
 have hG := (hG.k0 m3 (by omega)).k0 m6 (by omega)
 have hm := rng_fr (rng_fr hm m3 (by omega) id) m6 (by omega) id
 refine send ((sreg (sA rfl (send (feg 0 1 4 6 rfl fun _ => sreg (sM rfl (sM rfl (sc (xcall ca158 rfl) (c158g (b := b) (q := q) (K := kk) (off := off) (e := e0) (S := bt r.name) (ka := (typeN r).toNat) (kb := r.cls.toNat) (kc := r.ttl.toNat) (kd := len) hms hm (by omega) hnb hkm hbl hP hg0 hG (by omega) hgp hs0 hs1 hq0 hq1 hbp hne hN hr.2.2.1.1 (hKp kk hkk).1 (hKp kk hkk).2 (u16lt _) (u16lt _) (u32lt _) hl16 hst.left (hst.right' rfl).left ((hst.right' rfl).right' rfl).left (((hst.right' rfl).right' rfl).right' rfl) (by omega)) ?_))))))))
 have hf := (hf.s m3).s m6
 have h4 := h4.k m6
 rintro _ w7 ⟨⟨hle11, rfl, hP⟩ | ⟨hgt11, x11, rfl⟩, m8⟩
 rotate_left
 ·
  have z74 := m8.size
  have h6 := h6.keep m8 (nE (by omega))
  refine sM rfl (sE2 rfl (sv (xfld fl139_0 rfl) (suK (xstS 0 h6 (lens' := [256, 1, 1, 1, 1]) sz135 (by simp [nm_length]) rfl rfl (by simp only [fC, fN, aA, aN, nm_one, bT] <;> rfl) rfl rfl) ?_)))
  rintro w76 ⟨m77, h6, s75⟩
  have h4 := (h4.keep m8 (nE (by omega))).keep m77 (nE (by omega))
  refine sA rfl (send ((wp_seq (sreg (sM rfl (sv (xneI if89 rfl) (send (fgg 0 1 4 6 7 16 rfl fun _ => cyes rfl (sreg (sv (xldS (lens := [256, 1, 1, 1, 1, 1]) ro139 rfl h6.r) (sM rfl (suK (xstW h4 (lens' := [256, 1, 1, 1, 1, 1]) sz139 (by simp [nm_length]) rfl (one6 _ _ _ _ _ _ rfl) rfl rfl) ?_))))))))))))
  rintro w79 ⟨m80, h4, s78⟩
  have hf := ((hf.step m8 nI).t m77 (by omega)).t m80 (by omega)
  refine sA rfl (send (fcg 4 5 rfl fun _ => wp_ret (rThen (rp2 rfl ⟨_, rfl, ldS (lens := [256, 1, 1, 1, 1, 1]) ro139 h4.r⟩ rfl ?_))))
  exact ⟨.inr ⟨by omega, _, rfl⟩, hf⟩
 have z9 := m8.size
 have h6 := h6.keep m8 (nE (by omega))
 refine sM rfl (sE2 rfl (sv (xfld fl139_0 rfl) (suK (xstS 0 h6 (lens' := [256, 1, 1, 1, 1]) sz135 (by simp [nm_length]) rfl rfl (by simp only [fC, fN, aA, aN, nm_one, bT] <;> rfl) rfl rfl) ?_)))
 rintro w11 ⟨m12, h6, s10⟩
 have hP := hP.keep m12 (nE (by omega))
 refine sA rfl (send ((wp_seq (sreg (sM rfl (sv (xneN if89 rfl) (send ((cno rfl (wp_skip (nThen (feg 0 1 4 6 rfl fun _ => sreg (sM rfl (sN rfl (sv (xfld fl124_5 rfl) (suK (xstF 10 sz4 hP rfl rfl rfl rfl rfl) ?_))))))))))))))))
 rintro w14 ⟨m15, hP, s13⟩
 refine send (feg 0 1 4 6 rfl fun _ => ?_)
 refine sdrawH (fun wx => Fr (fun k => k = b6 ∨ k = bp) w14.drew wx ∧ ((∃ o : Int, SB wx bp lPr (prSegs (.slice a n km) y0 y1 y2 y3 y4 y5 q o idx false (off : Int) ((typeN r).toNat : Int) (len : Int))) ∧ ∃ vb : Value, SB wx b6 lRes ([nm (bt r.name), [.int .u16 ((typeN r).toNat : Int)], [.int .u16 (r.cls.toNat : Int)], [.int .u32 (r.ttl.toNat : Int)], [.int .u16 (len : Int)]] ++ [[vb]]))) [rd0, rd1, rd2, rd3, rd4, rd5, rd6, rd7, rd9, rd10, ld8, ld11, rd12, rd13, rd14, rd15, rd16, (17, .ld), rd18, rd19, (20, .ld), rd21] mixed (by kernel_rfl) (fun _ _ _ _ _ h => h) ?_
 have z16 : w14.drew.heap.size = w14.heap.size := rfl
 have hS17 : Fr (fun k => k = b6 ∨ k = bp) w14.drew w14.drew := Fr.refl _ _
 have h6 := (h6.keep m15 (nE (by omega))).drew
 have hP := hP.drew
 have hS18 : Fr (fun k => k = b6 ∨ k = bp) w14.drew w14.drew ∧ ((∃ o : Int, SB w14.drew bp lPr (prSegs (.slice a n km) y0 y1 y2 y3 y4 y5 q o idx false (off : Int) ((typeN r).toNat : Int) (len : Int))) ∧ ∃ vb : Value, SB w14.drew b6 lRes ([nm (bt r.name), [.int .u16 ((typeN r).toNat : Int)], [.int .u16 (r.cls.toNat : Int)], [.int .u32 (r.ttl.toNat : Int)], [.int .u16 (len : Int)]] ++ [[vb]])) := ⟨hS17, ⟨⟨_, hP⟩, _, h6⟩⟩
 have hG := (((hG.k1 m8 (by omega) (by omega)).k1 m12 (by omega) (by omega)).k1 m15 (by omega) (by omega)).k0 (fd w14) (by omega)
 have hm := rng_fr (rng_fr (rng_fr (rng_fr hm m8 (by omega) (nE (by omega))) m12 (by omega) (nE (by omega))) m15 (by omega) (nE (by omega))) (fd w14) (by omega) id
 refine qqM rfl rfl hS18 (qqM rfl rfl hS18 (qqN rfl rfl hS18 (hvH rfl (fun _ _ => xfld fl124_0 rfl) hS18 (hvH rfl (fun w' hS => xld (v := .slice a n km) on37 rfl (by obtain ⟨-, ⟨o, hq⟩, -⟩ := hS; exact hq.r.c 0 rfl rfl)) hS18 (qqM rfl rfl hS18 (qqN rfl rfl hS18 (hvH rfl (fun _ _ => xfld fl124_3 rfl) hS18 (hvH rfl (fun _ _ => xfld fl139_0 rfl) hS18 (hvH rfl (fun w' hS => xldS (lens := [256, 1, 1, 1, 1]) (segs := [nm (bt r.name), [.int .u16 ((typeN r).toNat : Int)], [.int .u16 (r.cls.toNat : Int)], [.int .u32 (r.ttl.toNat : Int)], [.int .u16 (len : Int)]]) ro135 rfl (by obtain ⟨-, -, vb, hq⟩ := hS; exact hq.r.sub 0 5 rfl)) hS18 ?_)))))))))
 refine hlH rfl (xld on3 rfl (hP.r.c 8 rfl rfl)) hS18 ?_
 refine hcH rfl (xcall ca159 rfl) (c159 (b := b) (off := e0 + 2 + 2 + 4 + 2) (e := e0 + 10 + len) (len := len) (r := r) (Kp := Kp) hms hm (by omega) hnb hkm hbl hG (by omega) hKp hbody (by omega) hl16 heb (by omega) (by omega) hr hasc) ?_
 have hSO := (((((hSO.k0 m3 (by omega)).k0 m6 (by omega)).k1 m8 (by omega) (by omega)).k1 m12 (by omega) (by omega)).k1 m15 (by omega) (by omega)).k0 (fd w14) (by omega)
 have hf := (((hf.step m8 nI).t m12 (by omega)).step m15 nI).drew
 have h4 := (((h4.keep m8 (nE (by omega))).keep m12 (nE (by omega))).keep m15 (nE (by omega))).drew
 rintro _ w19 ⟨⟨hle34, v34, rfl, hbe⟩ | ⟨hgt34, x34, rfl⟩, m20⟩
 ·
  have z21 := m20.size
  have hS22 := hS18.1.s m20
  obtain ⟨bq34, Tq34, lq34, sq34, rfl, -⟩ := id hbe
  have h6 := h6.k m20
  have hP := hP.k m20
  have hS23 : Fr (fun k => k = b6 ∨ k = bp) w14.drew w19 ∧ ((∃ o : Int, SB w19 bp lPr (prSegs (.slice a n km) y0 y1 y2 y3 y4 y5 q o idx false (off : Int) ((typeN r).toNat : Int) (len : Int))) ∧ ∃ vb : Value, SB w19 b6 lRes ([nm (bt r.name), [.int .u16 ((typeN r).toNat : Int)], [.int .u16 (r.cls.toNat : Int)], [.int .u32 (r.ttl.toNat : Int)], [.int .u16 (len : Int)]] ++ [[vb]])) := ⟨hS22, ⟨⟨_, hP⟩, _, h6⟩⟩
  refine ⟨hS23, ?_⟩
  refine qqM rfl rfl hS23 (hvH rfl (fun _ _ => xex30 rfl) hS23 (hvH rfl (fun _ _ => xex31 rfl) hS23 (hvH rfl (fun _ _ => xex32 rfl) hS23 (hvH rfl (fun _ _ => xfld fl139_1 rfl) hS23 ?_))))
  refine hluKH rfl (xstF 5 sz137 h6 rfl rfl rfl rfl rfl) ?_
  rintro w25 ⟨m26, h6, s24⟩
  have hS27 := hS23.1.step m26 (fun k hk hS => by have hS : k = b6 := hS; show k = b6 ∨ k = bp; omega)
  have hP := hP.keep m26 (nE (by omega))
  have hS28 : Fr (fun k => k = b6 ∨ k = bp) w14.drew w25 ∧ ((∃ o : Int, SB w25 bp lPr (prSegs (.slice a n km) y0 y1 y2 y3 y4 y5 q o idx false (off : Int) ((typeN r).toNat : Int) (len : Int))) ∧ ∃ vb : Value, SB w25 b6 lRes ([nm (bt r.name), [.int .u16 ((typeN r).toNat : Int)], [.int .u16 (r.cls.toNat : Int)], [.int .u32 (r.ttl.toNat : Int)], [.int .u16 (len : Int)]] ++ [[vb]])) := ⟨hS27, ⟨⟨_, hP⟩, _, h6⟩⟩
  refine ⟨hS28, ?_⟩
  refine qqN rfl rfl hS28 (hvH rfl (fun _ _ => xfld fl124_3 rfl) hS28 ?_)
  refine hluKH rfl (xstF 8 sz3 hP rfl rfl rfl rfl rfl) ?_
  rintro w30 ⟨m31, hP, s29⟩
  have hS32 := hS28.1.step m31 (fun k hk hS => by have hS : k = bp := hS; show k = b6 ∨ k = bp; omega)
  have h6 := h6.keep m31 (nE (by omega))
  have hS33 : Fr (fun k => k = b6 ∨ k = bp) w14.drew w30 ∧ ((∃ o : Int, SB w30 bp lPr (prSegs (.slice a n km) y0 y1 y2 y3 y4 y5 q o idx false (off : Int) ((typeN r).toNat : Int) (len : Int))) ∧ ∃ vb : Value, SB w30 b6 lRes ([nm (bt r.name), [.int .u16 ((typeN r).toNat : Int)], [.int .u16 (r.cls.toNat : Int)], [.int .u32 (r.ttl.toNat : Int)], [.int .u16 (len : Int)]] ++ [[vb]])) := ⟨hS32, ⟨⟨_, hP⟩, _, h6⟩⟩
  refine ⟨hS33, ?_⟩
  refine qqA rfl rfl hS33 (hendH ((wp_seq (sreg (sM rfl (sv (xneN if89 rfl) (send ((cno rfl (wp_skip (nThen (fdg 0 4 6 rfl fun _ => sreg (sM rfl (sN rfl (sv (xfld fl124_4 rfl) (sv (xld on3 rfl (hP.r.c 9 rfl rfl)) (sv (xadd rfl rfl (w64 (by omega) (by omega))) (sN rfl (sv (xfld fl124_4 rfl) (suK (xstF 9 sz3 hP rfl rfl rfl rfl rfl) ?_))))))))))))))))))))
  rintro w35 ⟨m36, hP, s34⟩
  have h6 := h6.keep m36 (nE (by omega))
  have h4 := (((h4.k m20).keep m26 (nE (by omega))).keep m31 (nE (by omega))).keep m36 (nE (by omega))
  refine send (fcg 4 6 rfl fun _ => sreg (sv (xldS (lens := [256, 1, 1, 1, 1, 1]) ro139 rfl h6.r) (suK (xstW h4 (lens' := [256, 1, 1, 1, 1, 1]) sz139 (by simp [nm_length]) rfl (one6 _ _ _ _ _ _ rfl) rfl rfl) ?_)))
  rintro w38 ⟨m39, h4, s37⟩
  have hf := ((((hf.s m20).t m26 (by omega)).step m31 nI).step m36 nI).t m39 (by omega)
  have hbe := (((hbe.keep (lNo (by omega)) m26 (lN1 (by omega))).keep (lNo (by omega)) m31 (lN1 (by omega))).keep (lNo (by omega)) m36 (lN1 (by omega))).keep (lNo (by omega)) m39 (lN1 (by omega))
  have hP := hP.keep m39 (nE (by omega))
  refine sA rfl (send (fcg 4 5 rfl fun _ => wp_ret (rp2 rfl ⟨_, rfl, ldS (lens := [256, 1, 1, 1, 1, 1]) ro139 h4.r⟩ rfl ?_)))
  exact ⟨.inl ⟨by omega, _, rfl, ⟨len, _, hl16, rfl, hbe.mono (fun k hk => hk.elim .inl (fun h => .inr ⟨by omega, by omega⟩))⟩, _, _, _, hP⟩, hf⟩
 have z40 := m20.size
 have hS41 := hS18.1.s m20
 have h6 := h6.k m20
 have hP := hP.k m20
 have hS42 : Fr (fun k => k = b6 ∨ k = bp) w14.drew w19 ∧ ((∃ o : Int, SB w19 bp lPr (prSegs (.slice a n km) y0 y1 y2 y3 y4 y5 q o idx false (off : Int) ((typeN r).toNat : Int) (len : Int))) ∧ ∃ vb : Value, SB w19 b6 lRes ([nm (bt r.name), [.int .u16 ((typeN r).toNat : Int)], [.int .u16 (r.cls.toNat : Int)], [.int .u32 (r.ttl.toNat : Int)], [.int .u16 (len : Int)]] ++ [[vb]])) := ⟨hS41, ⟨⟨_, hP⟩, _, h6⟩⟩
 refine ⟨hS42, ?_⟩
 refine qqM rfl rfl hS42 (hvH rfl (fun _ _ => xex30 rfl) hS42 (hvH rfl (fun _ _ => xex31 rfl) hS42 (hvH rfl (fun _ _ => xex32 rfl) hS42 (hvH rfl (fun _ _ => xfld fl139_1 rfl) hS42 ?_))))
 refine hluKH rfl (xstF 5 sz137 h6 rfl rfl rfl rfl rfl) ?_
 rintro w44 ⟨m45, h6, s43⟩
 have hS46 := hS42.1.step m45 (fun k hk hS => by have hS : k = b6 := hS; show k = b6 ∨ k = bp; omega)
 have hP := hP.keep m45 (nE (by omega))
 have hS47 : Fr (fun k => k = b6 ∨ k = bp) w14.drew w44 ∧ ((∃ o : Int, SB w44 bp lPr (prSegs (.slice a n km) y0 y1 y2 y3 y4 y5 q o idx false (off : Int) ((typeN r).toNat : Int) (len : Int))) ∧ ∃ vb : Value, SB w44 b6 lRes ([nm (bt r.name), [.int .u16 ((typeN r).toNat : Int)], [.int .u16 (r.cls.toNat : Int)], [.int .u32 (r.ttl.toNat : Int)], [.int .u16 (len : Int)]] ++ [[vb]])) := ⟨hS46, ⟨⟨_, hP⟩, _, h6⟩⟩
 refine ⟨hS47, ?_⟩
 refine qqN rfl rfl hS47 (hvH rfl (fun _ _ => xfld fl124_3 rfl) hS47 ?_)
 refine hluKH rfl (xstF 8 sz3 hP rfl rfl rfl rfl rfl) ?_
 rintro w49 ⟨m50, hP, s48⟩
 have hS51 := hS47.1.step m50 (fun k hk hS => by have hS : k = bp := hS; show k = b6 ∨ k = bp; omega)
 have h6 := h6.keep m50 (nE (by omega))
 have hS52 : Fr (fun k => k = b6 ∨ k = bp) w14.drew w49 ∧ ((∃ o : Int, SB w49 bp lPr (prSegs (.slice a n km) y0 y1 y2 y3 y4 y5 q o idx false (off : Int) ((typeN r).toNat : Int) (len : Int))) ∧ ∃ vb : Value, SB w49 b6 lRes ([nm (bt r.name), [.int .u16 ((typeN r).toNat : Int)], [.int .u16 (r.cls.toNat : Int)], [.int .u32 (r.ttl.toNat : Int)], [.int .u16 (len : Int)]] ++ [[vb]])) := ⟨hS51, ⟨⟨_, hP⟩, _, h6⟩⟩
 have hSO := ((hSO.k0 m20 (by omega)).k1 m45 (by omega) (by omega)).k1 m50 (by omega) (by omega)
 refine ⟨hS52, ?_⟩
 refine qqA rfl rfl hS52 (hendH ((wp_seq (sreg (sM rfl (sv (xneI if89 rfl) (send (fgg 0 1 4 6 7 42 rfl fun _ => cyes rfl ?_))))))))
 have hSM := Or.resolve_left hSO (by omega)
 have hf := ((hf.s m20).t m45 (by omega)).step m50 nI
 have h4 := ((h4.k m20).keep m45 (nE (by omega))).keep m50 (nE (by omega))
 refine sdrawI [(4, _)] ⟨rfl, trivial⟩ (fun (x : Option Addr) => match x with | xq => [(5, .iface 166 (.pointer xq))]) (fun (x : Option Addr) wx => match x with | xq => Fr (fun k => k = b4) w49 wx ∧ (SB wx b4 lRes [nm [], [.int .u16 0], [.int .u16 0], [.int .u32 0], [.int .u16 0], [.nilIface]])) (Fr (fun k => k = b4) w49.drew) (.rd 0 (.rd 1 (.rd 2 (.rd 3 (.rd 4 (.rd 5 (.rd 6 (.two 7 (.lst [rd8, ld9, rd10]) 9 (.lst [ld7, rd8, rd10]))))))))) mixed (by kernel_rfl) ?_ ?_
 rotate_left
 ·
  rintro xq _ w72 ⟨hC, h4⟩
  have z73 := hC.size
  have hf := hf.step hC (fun k hk hS => by have hS : k = b4 := hS; show k = bp; omega)
  refine fcg 4 5 rfl fun _ => wp_ret (rThen ?_)
  refine rp2 rfl ⟨_, rfl, ldS (lens := [256, 1, 1, 1, 1, 1]) ro139 h4.r⟩ rfl ?_
  exact ⟨.inr ⟨by omega, _, rfl⟩, hf⟩
 have hC : Fr (fun k => k = b4) w49 w49 := Fr.refl _ _
 have z53 : w49.drew.heap.size = w49.heap.size := rfl
 have hS54 : Fr (fun k => k = b4) w49.drew w49.drew := Fr.refl _ _
 have hSM := hSM.k0 (fd w49) (by omega)
 have hf := hf.drew
 have h4 := h4.drew
 have h6 := h6.drew
 have hC := hC.drew
 refine hvT rfl (fun _ _ => xbuildS [nm [], [.int .u16 0], [.int .u16 0], [.int .u32 0], [.int .u16 0], [.nilIface]] zr139 ly139 rfl trivial (by simp [setAll, zs139])) hS54 ?_
 refine hvT rfl (fun w' hS => xld on288 rfl ((hSM.k1 hS (by omega) (by omega)).2.2.1)) hS54 ?_
 refine hvT rfl (fun _ _ => xmove rfl) hS54 ?_
 refine hvT rfl (fun w' hS => xsec (hSM.k1 hS (by omega) (by omega)) hq2 hq5 rfl rfl) hS54 ?_
 refine hvT rfl (fun w' hS => xadds rfl rfl (by decide) (by have := (hSM.2.2.2); obtain ⟨_, _, _, hq⟩ := this; have := (hq q hq2 hq5).1; omega)) hS54 ?_
 refine hvT rfl (fun _ _ => xmove rfl) hS54 ?_
 refine hvT rfl (fun _ _ => xbuildS [[_], [_]] zr168 ly168 rfl (by simp [fitAll, zs168, Value.cells]) rfl) hS54 ?_
 refine twoT ?_ ?_
 ·
  refine hlKT rfl (xboxS (lens := [1, 1]) rfl (by simp [])) ?_
  rintro _ w56 ⟨b50, rfl, m57, h50, e55, s55⟩
  have hS58 := hS54.s m57
  have h4 := h4.k m57
  refine ⟨hS58, ?_⟩
  refine lstT (hv rfl (fun _ _ => xmkif ni166 rfl) hS58 ?_)
  refine hluK rfl (xstW h4 (lens' := [256, 1, 1, 1, 1, 1]) sz139 (by simp [nm_length]) rfl (by simp only [fC, fN, aA, aN, nm_one, bT] <;> rfl) rfl rfl) ?_
  rintro w60 ⟨m61, h4, s59⟩
  have hS62 := hS58.step m61 nI
  have hC := (hC.s m57).step m61 nI
  refine ⟨hS62, ?_⟩
  refine ggA rfl rfl hS62 ?_
  exact ⟨rfl, _, _, env_okl ⟨rfl, rfl, trivial⟩, ⟨hC, (h4)⟩⟩
 refine hluKT rfl (xstW h4 (lens' := [256, 1, 1, 1, 1, 1]) sz139 (by simp [nm_length]) rfl (by simp only [fC, fN, aA, aN, nm_one, bT] <;> rfl) rfl rfl) ?_
 rintro w65 ⟨m66, h4, s63⟩
 have hS67 := hS54.step m66 nI
 refine ⟨hS67, ?_⟩
 refine lstT (hlK rfl (xboxS (lens := [1, 1]) rfl (by simp [])) ?_)
 rintro _ w69 ⟨b50, rfl, m70, h50, e68, s68⟩
 have hS71 := hS67.s m70
 have hC := (hC.step m66 nI).s m70
 have h4 := h4.k m70
 refine ⟨hS71, ?_⟩
 refine hv rfl (fun _ _ => xmkif ni166 rfl) hS71 (ggA rfl rfl hS71 ?_)
 exact ⟨rfl, _, _, env_okl ⟨rfl, rfl, trivial⟩, ⟨hC, (h4)⟩⟩
theorem c63d {w : World} {bp : Nat} {vm : Value} {y0 y1 y2 y3 y4 y5 po idx ho ty ln : Int} (hP : SB w bp lPr (prSegs vm y0 y1 y2 y3 y4 y5 5 po idx false ho ty ln)) {Tz : TypeId} {xz : Option Addr} (hg0 : w.rangeAt 0 0 [.iface Tz (.pointer xz)]) (hG : GE w) (hsz : 21 ≤ w.heap.size) (hgp : 20 < bp) (hq0 : 0 ≤ cntI 5 y2 y3 y4 y5) (hq1 : cntI 5 y2 y3 y4 y5 < 65536) (hie : idx = cntI 5 y2 y3 y4 y5)  :
  Ret PP 63 [.pointer (some ⟨bp, 0, none⟩)] w (fun u w' => (u = .tuple #[ag ([nm [], [.int .u16 0], [.int .u16 0], [.int .u32 0], [.int .u16 0], [.nilIface]]), .iface Tz (.pointer xz)] ∧ SB w' bp lPr (prSegs vm y0 y1 y2 y3 y4 y5 (5 + 1) po 0 false ho ty ln)) ∧ Fr (fun k => k = bp) w w') := by
 have hf : Fr (fun k => k = bp) w w := Fr.refl _ _
 have z_hP := hP.lt
 refine ret_of Tryz.func63 rfl rfl rfl [(0, _)] rfl ?_
 refine sreg (svK (xallS (lens := [256, 1, 1, 1, 1, 1]) in139 (by simp [nm_length])) ?_)
 rintro _ w2 ⟨b2, rfl, m3, h2, e1, s1⟩
 have hP := hP.k m3
 have hg0 := rng_fr hg0 m3 (by omega) id
 have hG := hG.k0 m3 (by omega)
 refine sA rfl (send (fcg 0 2 rfl fun _ => sreg (sM rfl (sc (xcall ca108 rfl) (c108d (q := 5) hP hg0 hG (by omega) hgp (by decide) (by decide) hq0 hq1 hie) ?_))))
 rintro _ w4 ⟨⟨rfl, hP⟩, m5⟩
 have z6 := m5.size
 have h2 := h2.keep m5 (nE (by omega))
 refine sE2 rfl (suK (xstW h2 (lens' := [256, 1, 1, 1, 1, 1]) sz139 (by simp [nm_length]) rfl (by simp only [fC, fN, aA, aN, nm_one, bT] <;> rfl) rfl rfl) ?_)
 rintro w8 ⟨m9, h2, s7⟩
 have hf := ((hf.s m3).step m5 nI).t m9 (by omega)
 have hP := hP.keep m9 (nE (by omega))
 refine sA rfl (send (fcg 2 3 rfl fun _ => wp_ret (rp2 rfl ⟨_, rfl, ldS (lens := [256, 1, 1, 1, 1, 1]) ro139 h2.r⟩ rfl ?_)))
 exact ⟨⟨rfl, hP⟩, hf⟩
theorem c63g {w : World} {a : Option Addr} {bm om km n : Nat} {b : List UInt8} (hms : n ≠ 0 → a = some ⟨bm, om, none⟩) (hm : w.rangeAt bm om (bvs (b.take n))) (hbm : bm < w.heap.size) (hnb : n ≤ b.length) (hkm : n ≤ km) (hbl : b.length < 100000000) {bp : Nat} {y0 y1 y2 y3 y4 y5 idx ho ty ln : Int} {off e : Nat} {r : RecD} {Kp : Nat → Prop} (hP : SB w bp lPr (prSegs (.slice a n km) y0 y1 y2 y3 y4 y5 5 (off : Int) idx false ho ty ln)) {Tz : TypeId} {xz : Option Addr} (hg0 : w.rangeAt 0 0 [.iface Tz (.pointer xz)]) (hG : GE w) (hsz : 21 ≤ w.heap.size) (hgp : 20 < bp) (hq0 : 0 ≤ cntI 5 y2 y3 y4 y5) (hq1 : cntI 5 y2 y3 y4 y5 < 65536) (hbp : bp ≠ bm) (hne : idx ≠ cntI 5 y2 y3 y4 y5) (hi0 : 0 ≤ idx) (hi1 : idx < 65536) {B mb : Nat} {sf : Int → ByteArray} (hBp : B ≤ bp) (hKp : ∀ k, Kp k → k ≤ 10 ∧ (k = 0 ∨ n = b.length)) (hR : RecR Kp b off r e) (hr : ReadOk r) (hasc : r.kind = 11 ∨ r.kind = 12 → asc r.pairs) (heb : e ≤ b.length) (hSO : SecOr (e ≤ n) B mb sf w) :
  Ret PP 63 [.pointer (some ⟨bp, 0, none⟩)] w (fun u w' => ((e ≤ n ∧ ∃ segs, u = .tuple #[ag segs, .nilIface] ∧ ResV (Ub NoU w w') w' segs r ∧ PrAt w' bp (.slice a n km) y0 y1 y2 y3 y4 y5 5 (e : Int) (idx + 1)) ∨ (n < e ∧ ∃ (x : Option Addr), u = .tuple #[ag ([nm [], [.int .u16 0], [.int .u16 0], [.int .u32 0], [.int .u16 0], [.nilIface]]), .iface 166 (.pointer x)])) ∧ Fr (fun k => k = bp) w w') := by
 have hzb : bp < w.heap.size := hP.lt
 have hf : Fr (fun k => k = bp) w w := Fr.refl _ _
 have z_hP := hP.lt
 refine ret_of Tryz.func63 rfl rfl rfl [(0, _)] rfl ?_
 refine sreg (svK (xallS (lens := [256, 1, 1, 1, 1, 1]) in139 (by simp [nm_length])) ?_)
 rintro _ w2 ⟨b2, rfl, m3, h2, e1, s1⟩
 have hP := hP.k m3
 have hg0 := rng_fr hg0 m3 (by omega) id
 have hG := hG.k0 m3 (by omega)
 have hm := rng_fr hm m3 (by omega) id
 have hSO := hSO.k0 m3 (by omega)
 refine sA rfl (send (fcg 0 2 rfl fun _ => sreg (sM rfl (sc (xcall ca108 rfl) (c108g (q := 5) (Kp := Kp) (e := e) (r := r) hms hm (by omega) hnb hkm hbl hP hg0 hG (by omega) hgp (by decide) (by decide) hq0 hq1 hbp hne hi0 hi1 hBp (by decide) (by decide) hKp hR hr hasc heb hSO) ?_))))
 have hf := hf.s m3
 rintro _ w4 ⟨⟨hle5, sg5, rfl, hv5, hP⟩ | ⟨hgt5, x5, rfl⟩, m5⟩
 ·
  have z6 := m5.size
  obtain ⟨len, vb, hl16, rfl, hbe⟩ := hv5
  obtain ⟨bq, Tq, lq, sq, rfl, -⟩ := id hbe
  have h2 := h2.keep m5 (nE (by omega))
  refine sE2 rfl (suK (xstW h2 (lens' := [256, 1, 1, 1, 1, 1]) sz139 (by simp [rhSegs, nm_length]) rfl (by simp only [rhSegs, List.cons_append, List.nil_append, fC, fN, aA, aN, nm_one, bT] <;> rfl) rfl rfl) ?_)
  rintro w8 ⟨m9, h2, s7⟩
  have hf := (hf.step m5 nI).t m9 (by omega)
  have hP := hP.keep m9 (nE (by omega))
  have hbe := hbe.keep (lNo (by omega)) m9 (lN1 (by omega))
  refine sA rfl (send (fcg 2 3 rfl fun _ => wp_ret (rp2 rfl ⟨_, rfl, ldS (lens := [256, 1, 1, 1, 1, 1]) ro139 h2.r⟩ rfl ?_)))
  exact ⟨.inl ⟨by omega, _, rfl, ResV.mk hl16 (hbe.mono (fun k hk => hk.elim .inl (fun h => .inr ⟨by omega, by omega⟩))), hP⟩, hf⟩
 have z10 := m5.size
 have h2 := h2.keep m5 (nE (by omega))
 refine sE2 rfl (suK (xstW h2 (lens' := [256, 1, 1, 1, 1, 1]) sz139 (by simp [nm_length]) rfl (by simp only [List.cons_append, List.nil_append, fC, fN, aA, aN, nm_one, bT] <;> rfl) rfl rfl) ?_)
 rintro w12 ⟨m13, h2, s11⟩
 have hf := (hf.step m5 nI).t m13 (by omega)
 refine sA rfl (send (fcg 2 3 rfl fun _ => wp_ret (rp2 rfl ⟨_, rfl, ldS (lens := [256, 1, 1, 1, 1, 1]) ro139 h2.r⟩ rfl ?_)))
 exact ⟨.inr ⟨by omega, _, rfl⟩, hf⟩
end Go.Proofs.YtifnodoffgfpbaaGreatDoor

namespace Go.Proofs.YtifnodoffgfpbaaGreatDoor
open Go

theorem PrAt.lt {w : World} {bp : Nat} {vm : Value} {y0 y1 y2 y3 y4 y5 sec off idx : Int} (h : PrAt w bp vm y0 y1 y2 y3 y4 y5 sec off idx) : bp < w.heap.size := by
  obtain ⟨_, _, _, h⟩ := h; exact h.lt
theorem listR_end {α : Type} {R : Nat → α → Nat → Prop} {l : List α} {k q e : Nat} (h : ListR R q (l.drop k) e) (hk : l.length ≤ k) : q = e := by
  rw [List.drop_of_length_le hk] at h; exact h
theorem prat_cast {w : World} {bp : Nat} {vm : Value} {y0 y1 y2 y3 y4 y5 sec off idx off' idx' : Int} (h : PrAt w bp vm y0 y1 y2 y3 y4 y5 sec off idx) (h1 : off = off') (h2 : idx = idx') : PrAt w bp vm y0 y1 y2 y3 y4 y5 sec off' idx' := by subst h1 h2; exact h

theorem c59 {w : World} {a : Option Addr} {bm om km n : Nat} {b : List UInt8} (hms : n ≠ 0 → a = some ⟨bm, om, none⟩) (hm : w.rangeAt bm om (bvs (b.take n))) (hbm : bm < w.heap.size) (hnb : n ≤ b.length) (hkm : n ≤ km) (hbl : b.length < 100000000) {bp : Nat} {y0 y1 y2 y3 y4 y5  : Int} {l : List RecD} {off e : Nat} {Kp : Nat → Prop} (hP : PrAt w bp (.slice a n km) y0 y1 y2 y3 y4 y5 5 (off : Int) 0) {Tz : TypeId} {xz : Option Addr} (hg0 : w.rangeAt 0 0 [.iface Tz (.pointer xz)]) (hG : GE w) (hsz : 21 ≤ w.heap.size) (hgp : 20 < bp) (hCT : CmpT Tz) (hbp : bp ≠ bm) (hKp : ∀ k, Kp k → k ≤ 10 ∧ (k = 0 ∨ n = b.length)) (heb : e ≤ b.length) (hon : off ≤ n) {B mb : Nat} {sf : Int → ByteArray} (hBp : B ≤ bp) (hcn : cntI 5 y2 y3 y4 y5 = (l.length : Int)) (hal : l.length < 65536) (hls : ListR (RecR Kp b) off l e) (hrs : ∀ r ∈ l, ReadOk r ∧ (r.kind = 11 ∨ r.kind = 12 → asc r.pairs)) (hSO : SecOr (e ≤ n) B mb sf w)  :
  Ret PP 59 [.pointer (some ⟨bp, 0, none⟩)] w (fun u w' => ((e ≤ n ∧ ∃ v, u = .tuple #[v, .nilIface] ∧ LA ResV lRes (Ub NoU w w') w' v l ∧ PrAt w' bp (.slice a n km) y0 y1 y2 y3 y4 y5 (5 + 1) (e : Int) 0) ∨ (n < e ∧ ∃ (x : Option Addr), u = .tuple #[.slice none 0 0, .iface 166 (.pointer x)])) ∧ Fr (fun k => k = bp) w w') := by
 have hzb : bp < w.heap.size := hP.lt
 have hU : ∀ k, NoU k → k < w.heap.size := fun _ h => h.elim
 obtain ⟨ho', ty', ln', hQ⟩ := id hP
 have hcnv : y5 = (l.length : Int) := hcn
 have hf : Fr (fun k => k = bp) w w := Fr.refl _ _
 refine ret_of Tryz.func59 rfl rfl rfl [(0, _)] rfl ?_
 refine sreg (sA rfl (sA rfl (send ((sreg (sM rfl (sN rfl (sv (xfld fl124_1 rfl) (sv (xfld fl121_5 rfl) (sv (xld on22 rfl (hQ.r.c 6 rfl rfl)) (sv (xconv hs22 ki3 rfl (w64n l.length hcnv (by omega))) (sA rfl (send ((wp_seq (sreg (sM rfl (sv (xgtr rfl rfl) (send (fdg 0 4 15 rfl fun _ => ?_))))))))))))))))))))
 refine jcut [(0, _)] ⟨rfl, trivial⟩ (fun (x : Nat) => match x with | cp => [(4, .int .i64 (cp : Int))]) (fun (x : Nat) wx => match x with | cp => Fr (fun _ => False) w wx ∧ (cp ≤ 65536)) ?_ ?_
 ·
  have hJ1 : Fr (fun _ => False) w w := Fr.refl _ _
  refine cB rfl (fun hb => ?_) (fun hb => ?_)
  ·
   refine lreg (sA rfl (lend ?_))
   exact ⟨rfl, 10, _, env_okl ⟨rfl, rfl, trivial⟩, ⟨hJ1, (by omega)⟩⟩
  refine wp_skip ?_
  exact ⟨rfl, l.length, _, env_okl ⟨rfl, rfl, trivial⟩, ⟨hJ1, (by omega)⟩⟩
 rintro cp _ w2 ⟨hJ1, hcp⟩
 have z3 := hJ1.size
 refine nThen (fcg 0 4 rfl fun _ => sreg (sM rfl (svK (xmake (lo := 0) (hi := cp) sl75 in139 rfl (by decide) rfl rfl (by omega) rfl (by omega) (by omega) (by simp only [maxLen]; omega) (one6 _ _ _ _ _ _ rfl)) ?_)))
 rintro _ w4 ⟨b17, rfl, m5, -, ez17, sz17, r17⟩
 have hv : RX ResV lRes NoU w.heap.size w4.heap.size w4 _ b17 139 0 [] := RX.ofNil r17
 have hP := (hP.k hJ1).k m5
 have hG := (hG.k0 hJ1 (by omega)).k0 m5 (by omega)
 have hSO := (hSO.k0 hJ1 (by omega)).k0 m5 (by omega)
 refine sA rfl (send (fcg 0 5 rfl fun _ => wp_block (lp [(0, _)] (fun (x : Nat × Nat × Value × Nat) => match x with | (k, o, v, g) => [(5, v)]) (fun (x : Nat × Nat × Value × Nat) wx => match x with | (k, o, v, g) => Fr (fun k => k = b17 ∨ k = bp) w4 wx ∧ (k ≤ l.length) ∧ (ListR (RecR Kp b) o (l.drop k) e) ∧ (o ≤ n) ∧ (PrAt wx bp (.slice a n km) y0 y1 y2 y3 y4 y5 5 (o : Int) (k : Int)) ∧ (RX ResV lRes NoU w.heap.size wx.heap.size wx v g 139 k (l.take k)) ∧ (w.heap.size ≤ g) ∧ (g < wx.heap.size) ∧ (g = b17 ∨ w4.heap.size ≤ g)) (fun (x : Nat × Nat × Value × Nat) => match x with | (k, o, v, g) => l.length - k) (0, off, _, b17) ⟨rfl, rfl, trivial⟩ ⟨Fr.refl _ _, Nat.zero_le _, hls, hon, hP, hv, by omega, by omega, .inl rfl⟩ ?_)))
 rintro ⟨k, o, v, g⟩ _ w7 ⟨hL6, hk, hls, hon, hP, hv, hg, hg2, hg3⟩
 refine fcg 0 5 rfl fun _ => ?_
 have z8 := hL6.size
 obtain ⟨av, cv, rfl⟩ := RA.form hv
 have hg0 := rng_fr (rng_fr (rng_fr hg0 hJ1 (by omega) id) m5 (by omega) id) hL6 (by omega) (by show ¬ (0 = b17 ∨ 0 = bp); omega)
 have hf := ((hf.s hJ1).s m5).step hL6 (fun k hk hS => by have hS : k = b17 ∨ k = bp := hS; show k = bp; omega)
 have hG := hG.keep (fun k hk => by omega) hL6 (fun k hk hS => by have hk := hk; have hS : k = b17 ∨ k = bp := hS; omega)
 rcases Nat.lt_or_ge k l.length with hlt | hge
 rotate_left
 ·
  refine wp_block (sreg (sM rfl ?_))
  obtain ⟨ho, ty, ln, hP⟩ := hP
  refine sc (xcall ca63 rfl) (c63d hP hg0 hG (by omega) hgp (by omega) (by omega) (by omega)) ?_
  rintro _ w31 ⟨⟨rfl, hP⟩, m32⟩
  have z33 := m32.size
  refine sM rfl (sE2 rfl (svK (xallS (lens := [256, 1, 1, 1, 1, 1]) in139 (by simp [nm_length])) ?_))
  rintro _ w35 ⟨b6, rfl, m36, h6, e34, s34⟩
  refine suK (xstW h6 (lens' := [256, 1, 1, 1, 1, 1]) sz139 (by simp [nm_length]) rfl (by simp only [List.cons_append, List.nil_append, fC, fN, aA, aN, nm_one, bT] <;> rfl) rfl rfl) ?_
  rintro w38 ⟨m39, h6, s37⟩
  have hg0 := rng_fr (rng_fr (rng_fr hg0 m32 (by omega) (nE (by omega))) m36 (by omega) id) m39 (by omega) (nE (by omega))
  have hP := (hP.k m36).keep m39 (nE (by omega))
  refine sA rfl (send ((wp_seq (sreg (sM rfl (sv (xld on89 rfl (hg0 0 _ rfl)) (sv (xeqES if89 hCT rfl rfl) (send ((cyes rfl (sreg (sM rfl (sA rfl (sA rfl (send (fcg 2 3 rfl fun _ => wp_ret (rThen (rBlock (rThen (rBlock (rp2 rfl rfl rfl ?_)))))))))))))))))))))
  have hPz := hP
  have hoe := listR_end hls hge
  subst hoe
  have hke : l.take k = l := List.take_of_length_le hge
  have hv := RX.keep (RX.keep (RX.keep hv resv_st (fun k hk => by have hk := hU k hk; omega) (by omega) m32 (fun k hk hk3 hS => by have hS : k = bp := hS; rcases hk with hk | hk <;> first | omega | (have := hU k hk; omega)) (nE (by omega))) resv_st (fun k hk => by have hk := hU k hk; omega) (by omega) m36 (fun _ _ _ h => h) id) resv_st (fun k hk => by have hk := hU k hk; omega) (by omega) m39 (fun k hk hk3 hS => by have hS : k = b6 := hS; rcases hk with hk | hk <;> first | omega | (have := hU k hk; omega)) (nE (by omega))
  rw [hke] at hv
  have hf := ((hf.step m32 nI).s m36).t m39 (by omega)
  obtain rfl : k = l.length := by omega
  exact ⟨.inl ⟨hon, _, rfl, RX.la hv (by decide) resv_gr (fun k hk => hk.elim .inl (fun h => .inr ⟨by omega, by omega⟩)) (.inr ⟨by omega, by omega⟩), _, _, _, hPz⟩, hf⟩
 obtain ⟨r, hrk⟩ := some_of_lt hlt
 obtain ⟨o1, hRa, hls1⟩ := listR_drop hls hrk
 have hoe := listR_le hls1 (fun _ _ _ _ h => rec_le h)
 refine wp_block (sreg (sM rfl ?_))
 obtain ⟨ho, ty, ln, hP⟩ := hP
 have hm := rng_fr (rng_fr (rng_fr hm hJ1 (by omega) id) m5 (by omega) id) hL6 (by omega) (by show ¬ (bm = b17 ∨ bm = bp); omega)
 have hSO := hSO.keep (fun k hk => by omega) hL6 (fun k hk hS => by have hk := hk; have hS : k = b17 ∨ k = bp := hS; omega)
 refine sc (xcall ca63 rfl) (c63g (Kp := Kp) (e := o1) (r := r) hms hm (by omega) hnb hkm hbl hP hg0 hG (by omega) hgp (by omega) (by omega) hbp (by omega) (by omega) (by omega) hBp hKp hRa (hrs r (List.mem_of_getElem? hrk)).1 (hrs r (List.mem_of_getElem? hrk)).2 (by omega) (hSO.imp (by omega))) ?_
 rintro _ w9 ⟨⟨hle20, sg20, rfl, hV, hP⟩ | ⟨hgt20, x20, rfl⟩, m10⟩
 rotate_left
 ·
  have z24 := m10.size
  refine sM rfl (sE2 rfl (svK (xallS (lens := [256, 1, 1, 1, 1, 1]) in139 (by simp [nm_length])) ?_))
  rintro _ w26 ⟨b6, rfl, m27, h6, e25, s25⟩
  refine suK (xstW h6 (lens' := [256, 1, 1, 1, 1, 1]) sz139 (by simp [nm_length]) rfl (by simp only [List.cons_append, List.nil_append, fC, fN, aA, aN, nm_one, bT] <;> rfl) rfl rfl) ?_
  rintro w29 ⟨m30, h6, s28⟩
  have hg0 := rng_fr (rng_fr (rng_fr hg0 m10 (by omega) (nE (by omega))) m27 (by omega) id) m30 (by omega) (nE (by omega))
  have hf := ((hf.step m10 nI).s m27).t m30 (by omega)
  refine sA rfl (send ((wp_seq (sreg (sM rfl (sv (xld on89 rfl (hg0 0 _ rfl)) (sv (xeqEO if89 hCT.1 rfl rfl) (send ((cno rfl (wp_skip (nThen ((wp_seq (sreg (sM rfl (sv (xneI if89 rfl) (send (ffg 0 5 6 7 28 rfl fun _ => cyes rfl (sreg (sM rfl (sA rfl (sA rfl (send (fcg 2 3 rfl fun _ => wp_ret (rThen (rBlock (rThen (rBlock (rp2 rfl rfl rfl ?_))))))))))))))))))))))))))))))
  exact ⟨.inr ⟨by omega, _, rfl⟩, hf⟩
 have z11 := m10.size
 obtain ⟨len, vb, hl16, rfl, hbe⟩ := hV
 obtain ⟨bB, TB, lB, sB, rfl, -⟩ := id hbe
 refine sM rfl (sE2 rfl (svK (xallS (lens := [256, 1, 1, 1, 1, 1]) in139 (by simp [nm_length])) ?_))
 rintro _ w13 ⟨b6, rfl, m14, h6, e12, s12⟩
 refine suK (xstW h6 (lens' := [256, 1, 1, 1, 1, 1]) sz139 (by simp [rhSegs, nm_length]) rfl (by simp only [rhSegs, List.cons_append, List.nil_append, fC, fN, aA, aN, nm_one, bT] <;> rfl) rfl rfl) ?_
 rintro w16 ⟨m17, h6, s15⟩
 have hg0 := rng_fr (rng_fr (rng_fr hg0 m10 (by omega) (nE (by omega))) m14 (by omega) id) m17 (by omega) (nE (by omega))
 have hv := RX.keep (RX.keep (RX.keep hv resv_st (fun k hk => by have hk := hU k hk; omega) (by omega) m10 (fun k hk hk3 hS => by have hS : k = bp := hS; rcases hk with hk | hk <;> first | omega | (have := hU k hk; omega)) (nE (by omega))) resv_st (fun k hk => by have hk := hU k hk; omega) (by omega) m14 (fun _ _ _ h => h) id) resv_st (fun k hk => by have hk := hU k hk; omega) (by omega) m17 (fun k hk hk3 hS => by have hS : k = b6 := hS; rcases hk with hk | hk <;> first | omega | (have := hU k hk; omega)) (nE (by omega))
 have hbe := (hbe.keep (lNo (by omega)) m14 nF).keep (lNo (by omega)) m17 (lN1 (by omega))
 refine sA rfl (send ((wp_seq (sreg (sM rfl (sv (xld on89 rfl (hg0 0 _ rfl)) (sv (xeqEN if89 rfl rfl) (send ((cno rfl (wp_skip (nThen ((wp_seq (sreg (sM rfl (sv (xneN if89 rfl) (send (ffg 0 5 6 7 28 rfl fun _ => cno rfl (wp_skip (nThen (fdg 0 5 6 rfl fun _ => lreg (sM rfl (sv (xldS (lens := [256, 1, 1, 1, 1, 1]) ro139 rfl h6.r) (svK (xslit ((rhSegs (bt r.name) (typeN r) r.cls r.ttl len ++ [[Value.iface TB (.pointer (some ⟨bB, 0, none⟩))]]).flatten) sl75 in139 rfl (by decide) rfl rfl rfl (by simp [rhSegs, nm_length, Value.cells]) (by decide) (ag_flat _) (by simp only [rhSegs, List.cons_append, List.nil_append, fC, fN, aA, aN, nm_one, bT] <;> rfl)) ?_)))))))))))))))))))))))))
 rintro _ w19 ⟨b32, rfl, m20, h32, e32, s32, r32⟩
 have hv := RX.keep hv resv_st (fun k hk => by have hk := hU k hk; omega) (by omega) m20 (fun _ _ _ h => h) id
 obtain ⟨ss33, hR33, hA33⟩ := hv
 refine svK (xapp sl75 in139 rfl (by decide) rfl rfl hR33 (r32.src sl75) (by simp only [maxLen]; omega) (by omega)) ?_
 rintro v33 w21 ⟨g33, r33, m22, a33, l33⟩
 have z23 := m22.size
 have hbe := (hbe.keep (lNo (by omega)) m20 nF).keep (lNo (by omega)) m22 (lN1 (by omega))
 have hv := RX.snoc (x := r) w21.heap.size hA33 resv_st resv_gr (fun k hk => by have hk := hU k hk; omega) (by omega) (by omega) m22 a33 r33 (by simp [rhSegs, nm_length]) (ResV.mk hl16 (hbe.mono (fun k h => ⟨h.elim .inl (fun h => .inr ⟨by omega, by omega⟩), by have h := Ub.num (U := NoU) (n := 0) (fun _ h => h.elim) h; omega⟩)))
 have hL6 := ((((hL6.step m10 (fun k hk hS => by have hS : k = bp := hS; show k = b17 ∨ k = bp; omega)).s m14).step m17 (fun k hk hS => by have hS : k = b6 := hS; show k = b17 ∨ k = bp; omega)).s m20).step m22 (fun k hk hS => by have hS : k = g := hS; show k = b17 ∨ k = bp; omega)
 have hP := (((hP.k m14).keep m17 (nE (by omega))).k m20).keep m22 (nE (by omega))
 refine sA rfl (lend (nBlock (nThen ?_)))
 refine ⟨(k + 1, o1, _, g33), _, env_okl ⟨rfl, rfl, trivial⟩, ⟨hL6, (by omega), (hls1), (by omega), (prat_cast hP rfl (by omega)), (by rw [take_snoc hrk]; exact RX.up resv_gr hv (by omega)), (by omega), (l33 (by omega)), (by omega)⟩, ?_⟩
 show l.length - (k + 1) < l.length - k; omega
end Go.Proofs.YtifnodoffgfpbaaGreatDoor

namespace Go.Proofs.YtifnodoffgfpbaaGreatDoor
open Go

theorem nm_pre0 {w : World} {b o : Nat} {S : List UInt8} (h : w.rangeAt b o (nm S)) (hl : S.length ≤ 255) : w.rangeAt b o (bvs S) := fun j v hv => h j v (nm_pre S hl j v hv)
theorem cnt2 {y2 y3 y4 y5 : Int} : cntI 2 y2 y3 y4 y5 = y2 := rfl
theorem cnt3 {y2 y3 y4 y5 : Int} : cntI 3 y2 y3 y4 y5 = y3 := rfl
theorem cnt4 {y2 y3 y4 y5 : Int} : cntI 4 y2 y3 y4 y5 = y4 := rfl
theorem cnt5 {y2 y3 y4 y5 : Int} : cntI 5 y2 y3 y4 y5 = y5 := rfl

theorem c55 {w : World} {a : Option Addr} {bm om km n : Nat} {b : List UInt8} (hms : n ≠ 0 → a = some ⟨bm, om, none⟩) (hm : w.rangeAt bm om (bvs (b.take n))) (hbm : bm < w.heap.size) (hnb : n ≤ b.length) (hkm : n ≤ km) (hbl : b.length < 100000000) (hG : GE w) (hsz : 21 ≤ w.heap.size) {bp : Nat} {hd : HeadD} {k0 k1 k2 k3 : Nat} (hP : SB w bp lPr (prSegs (.slice none 0 0) 0 0 0 0 0 0 0 0 0 false 0 0 0)) (hbp : bp ≠ bm) (hgp : 20 < bp) (hho : hd.ok) (hst : Std b 0 (headL hd [k0, k1, k2, k3])) (l0 : k0 < 65536) (l1 : k1 < 65536) (l2 : k2 < 65536) (l3 : k3 < 65536) (hb12 : 12 ≤ b.length) :
  Ret PP 55 [.pointer (some ⟨bp, 0, none⟩), .slice a n km] w (fun u w' => ((12 ≤ n ∧ u = .tuple #[ag (headSegs hd), .nilIface] ∧ SB w' bp lPr (prSegs (.slice a n km) (hd.id.toNat : Int) ((hbits hd).toNat : Int) (k0 : Int) (k1 : Int) (k2 : Int) (k3 : Int) 2 ((12 : Nat) : Int) 0 false 0 0 0)) ∨ (n < 12 ∧ ∃ (x : Option Addr), u = .tuple #[ag ([[.int .u16 0], [.bool false], [.int .u16 0], [.bool false], [.bool false], [.bool false], [.bool false], [.bool false], [.bool false], [.int .u16 0]]), .iface 166 (.pointer x)])) ∧ Fr (fun k => k = bp) w w') := by
 have hst : Std b 0 (be16 hd.id.toNat ++ (be16 (hbits hd).toNat ++ (be16 k0 ++ (be16 k1 ++ (be16 k2 ++ (be16 k3 ++ [])))))) := hst
 have hf : Fr (fun k => k = bp) w w := Fr.refl _ _
 have z_hP := hP.lt
 refine ret_of Tryz.func55 rfl rfl rfl [(0, _), (1, _)] rfl ?_
 refine sreg (svK (xallS (lens := [1, 1, 1, 1, 1, 1, 1, 1, 1, 1]) in73 rfl) ?_)
 rintro _ w2 ⟨b4, rfl, m3, h4, e1, s1⟩
 have hP := hP.k m3
 refine sA rfl (send ((wp_seq (sreg (sM rfl (sN rfl (sv (xfld fl124_0 rfl) (sv (xld on37 rfl (hP.r.c 0 rfl rfl)) (sv (xneSl sl37 rfl) (send ((cno rfl (wp_skip (nThen (fdg 0 1 4 rfl fun _ => sreg (sM rfl (sM rfl (sN rfl (sv (xfld fl124_0 rfl) (suK (xstF 0 sz37 hP rfl rfl rfl rfl rfl) ?_))))))))))))))))))))
 rintro w5 ⟨m6, hP, s4⟩
 have hm := rng_fr (rng_fr hm m3 (by omega) id) m6 (by omega) (nE (by omega))
 have hG := (hG.k0 m3 (by omega)).k1 m6 (by omega) (by omega)
 refine send ((sreg (sA rfl (send (fdg 0 1 4 rfl fun _ => wp_seq (sreg (sM rfl (sM rfl (sN rfl (sv (xfld fl124_1 rfl) (sM rfl (sc (xcall ca102 rfl) (c102 (b := b) (ka := hd.id.toNat) (kb := (hbits hd).toNat) (kc := k0) (kd := k1) (ke := k2) (kf := k3) hms hm (by omega) hnb hkm hbl hG (by omega) hP hbp hgp (u16lt _) (u16lt _) l0 l1 l2 l3 hst.left (hst.right' rfl).left ((hst.right' rfl).right' rfl).left (((hst.right' rfl).right' rfl).right' rfl).left ((((hst.right' rfl).right' rfl).right' rfl).right' rfl).left (((((hst.right' rfl).right' rfl).right' rfl).right' rfl).right' rfl).left hb12) ?_))))))))))))
 have hf := (hf.s m3).step m6 nI
 have h4 := h4.keep m6 (nE (by omega))
 rintro _ w7 ⟨⟨hle25, rfl, hP⟩ | ⟨hgt25, ⟨T25, x25, rfl⟩, i0, i1, i2, i3, i4, i5, hP⟩, m8⟩
 ·
  have z9 := m8.size
  refine sM rfl (sE2 rfl (sN rfl (sv (xfld fl124_3 rfl) (suK (xstF 8 sz3 hP rfl rfl rfl rfl rfl) ?_))))
  rintro w11 ⟨m12, hP, s10⟩
  refine sA rfl (send ((sreg (sM rfl (sv (xneN if89 rfl) (send ((cno rfl (wp_skip (nThen (fcg 0 4 rfl fun _ => sreg (sM rfl (sN rfl (sv (xfld fl124_2 rfl) (suK (xstF 7 sz122 hP rfl rfl rfl rfl rfl) ?_)))))))))))))))
  rintro w14 ⟨m15, hP, s13⟩
  refine send (fcg 0 4 rfl fun _ => sreg (sM rfl (sN rfl (sv (xfld fl124_1 rfl) (sc (xcall ca103 rfl) (c103 hho hP) ?_)))))
  rintro _ w16 ⟨rfl, m17⟩
  have z18 := m17.size
  have h4 := (((h4.keep m8 (nE (by omega))).keep m12 (nE (by omega))).keep m15 (nE (by omega))).k m17
  refine suK (xstW h4 (lens' := [1, 1, 1, 1, 1, 1, 1, 1, 1, 1]) sz73 rfl rfl rfl rfl rfl) ?_
  rintro w20 ⟨m21, h4, s19⟩
  have hf := ((((hf.step m8 nI).step m12 nI).step m15 nI).s m17).t m21 (by omega)
  have hP := (hP.k m17).keep m21 (nE (by omega))
  refine sA rfl (send (fcg 4 5 rfl fun _ => wp_ret (rp2 rfl ⟨_, rfl, ldS (lens := [1, 1, 1, 1, 1, 1, 1, 1, 1, 1]) ro73 h4.r⟩ rfl ?_)))
  exact ⟨.inl ⟨by omega, rfl, hP⟩, hf⟩
 have z22 := m8.size
 refine sM rfl (sE2 rfl (sN rfl (sv (xfld fl124_3 rfl) (suK (xstF 8 sz3 hP rfl rfl rfl rfl rfl) ?_))))
 rintro w24 ⟨m25, hP, s23⟩
 refine sA rfl (send ((sreg (sM rfl (sv (xneI if89 rfl) (send (feg 0 4 6 31 rfl fun _ => cyes rfl (sreg (sv (xbuildS [[.int .u16 0], [.bool false], [.int .u16 0], [.bool false], [.bool false], [.bool false], [.bool false], [.bool false], [.bool false], [.int .u16 0]] zr73 ly73 rfl trivial (by simp [setAll, zs73])) (sM rfl (sv (xbuildS [[_], [_]] zr168 ly168 rfl (by simp [fitAll, zs168, Value.cells]) rfl) (svK (xboxS (lens := [1, 1]) rfl (by simp [])) ?_))))))))))))
 rintro _ w27 ⟨b35, rfl, m28, h35, e26, s26⟩
 have h4 := ((h4.keep m8 (nE (by omega))).keep m25 (nE (by omega))).k m28
 refine sv (xmkif ni166 rfl) (suK (xstW h4 (lens' := [1, 1, 1, 1, 1, 1, 1, 1, 1, 1]) sz73 rfl rfl rfl rfl rfl) ?_)
 rintro w30 ⟨m31, h4, s29⟩
 have hf := (((hf.step m8 nI).step m25 nI).s m28).t m31 (by omega)
 refine sA rfl (send (fcg 4 5 rfl fun _ => wp_ret (rThen (rp2 rfl ⟨_, rfl, ldS (lens := [1, 1, 1, 1, 1, 1, 1, 1, 1, 1]) ro73 h4.r⟩ rfl ?_))))
 exact ⟨.inr ⟨by omega, _, rfl⟩, hf⟩
end Go.Proofs.YtifnodoffgfpbaaGreatDoor

namespace Go.Proofs.YtifnodoffgfpbaaGreatDoor
open Go

theorem rec_k {r' : RecD} {k : Int} (h : r'.kind = k) (vd vt vp : Value) : recSegs r' vd vt vp = recSegs { r' with kind := k } vd vt vp := by subst h; rfl
theorem ag_rec {r' : RecD} {k : Int} {vd vt vp : Value} {segs : List (List Value)} (h : r'.kind = k) (he : ag segs = ag (recSegs { r' with kind := k } vd vt vp)) : ag segs = ag (recSegs r' vd vt vp) := by rw [rec_k h]; exact he
theorem one5 (S : List UInt8) (x1 x2 x3 x4 : Int) : ([nm S, [Value.int .u16 x1], [Value.int .u16 x2], [Value.int .u32 x3], [Value.int .u16 x4]].flatten.all (·.oneCell')) = true := by
  simp only [List.flatten_cons, List.flatten_nil, List.all_append, List.append_nil, nm_one, Bool.true_and]; rfl
theorem ba0 {U : Nat → Prop} {w : World} : BA U w (.slice none 0 0) [] := ⟨none, 0, rfl, fun h => absurd rfl h⟩

theorem c100 {w : World} {S : List UInt8} (hS : S.length ≤ 255) :
  Ret PP 100 [ag [nm S]] w (fun u w' => u = .string (mkB S) ∧ Fr0 w w') := by
 have hf : Fr (fun _ => False) w w := Fr.refl _ _
 refine ret_of Tryz.func100 rfl rfl rfl [(0, _)] rfl ?_
 refine sreg (svK (xboxS (lens := [256]) rfl (by simp [nm_length])) ?_)
 rintro _ w2 ⟨b1, rfl, m3, h1, e1, s1⟩
 have hf := hf.s m3
 refine sA rfl (send ((sreg (sv (xfld fl82_0 rfl) (sv (xfld fl82_1 rfl) (sv (xld on5 rfl (h1.r.seg (i := 0) rfl rfl 255 _ (nm_last _))) (sv (xcutAH (hi := S.length) ar80 sz5 rfl rfl rfl hS) (sv (xb2sR (bs := S) sl37 ki5 st9 rfl rfl (nm_pre0 (h1.r.seg (i := 0) (k := 0) rfl rfl) hS)) (sA rfl (send (fbg 2 rfl fun _ => wp_ret (rp1 rfl rfl ?_))))))))))))
 exact ⟨rfl, hf⟩
theorem c109 {w : World} {U : Nat → Prop} (hU : ∀ k, U k → k < w.heap.size) {v : Value} {ps : List PairD} (hp : LA PairEl lPair U w v ps) (hn : ps.length ≤ 1048576) (hpl : ∀ p ∈ ps, p.data.length ≤ 1048576) :
  Ret PP 109 [v] w (fun u w' => LA PairEl lPair (Ub U w w') w' u ps ∧ Fr0 w w') := by
 obtain ⟨a0, c0, rfl⟩ := hp.form
 have hf : Fr (fun _ => False) w w := Fr.refl _ _
 refine ret_of Tryz.func109 rfl rfl rfl [(0, _)] rfl ?_
 refine sreg (sA rfl (send (fbg 0 rfl fun _ => sreg (svK (xslit ([]) sl110 in145 rfl (by decide) rfl rfl rfl rfl (by decide) rfl rfl) ?_))))
 rintro _ w2 ⟨b6, rfl, m3, h6, e6, s6, r6⟩
 have hv3 : RX PairEl lPair U w.heap.size w2.heap.size w2 _ b6 145 0 [] := RX.ofNil r6
 refine sA rfl (send ((wp_seq (sreg (sM rfl (sv (xlen sl222 rfl) (sM rfl (send (feg 3 7 8 9 rfl fun _ => wp_block (lp [(7, _), (8, _)] (fun (x : Nat × Value × Nat) => match x with | (k, v, g) => [(3, v), (9, .int .i64 (k : Int))]) (fun (x : Nat × Value × Nat) wx => match x with | (k, v, g) => Fr (fun k => k = b6) w2 wx ∧ (k ≤ ps.length) ∧ (RX PairEl lPair U w.heap.size wx.heap.size wx v g 145 k (ps.take k)) ∧ (w.heap.size ≤ g) ∧ (g < wx.heap.size) ∧ (g = b6 ∨ w2.heap.size ≤ g)) (fun (x : Nat × Value × Nat) => match x with | (k, v, g) => ps.length - k) (0, _, b6) ⟨rfl, rfl, rfl, rfl, trivial⟩ ⟨Fr.refl _ _, Nat.zero_le _, hv3, by omega, by omega, .inl rfl⟩ ?_))))))))))
 rintro ⟨k, v, g⟩ _ w5 ⟨hL4, hk, hv3, hg, hg2, hg3⟩
 refine feg 3 7 8 9 rfl fun _ => ?_
 have z6 := hL4.size
 obtain ⟨a3, c3, rfl⟩ := RA.form hv3
 have hf := (hf.s m3).t hL4 (by omega)
 refine sreg (svP (xlss rfl rfl) (fun hc10 => ?_) (fun hc10 => ?_))
 rotate_left
 ·
  refine send ((wp_seq (cno rfl (wp_exit (eThen (eThen (eHit (nThen ((sreg (sM rfl (sA rfl (send (fbg 2 rfl fun _ => wp_ret (rp1 rfl rfl ?_)))))))))))))))
  have e : ps.take k = ps := List.take_of_length_le (by omega)
  rw [e] at hv3
  exact ⟨RX.la hv3 (by decide) pair_gr (fun k hk => hk.elim .inl .inr) (.inr ⟨hg, hg2⟩), hf⟩
 refine send ((wp_seq (cyes rfl (wp_skip (nThen (feg 3 7 8 9 rfl fun _ => wp_seq (wp_block ?_)))))))
 obtain ⟨p, hpk⟩ := some_of_lt (by omega : k < ps.length)
 have hpd := hpl _ (List.mem_of_getElem? hpk)
 have hp := (hp.keep pair_st (lU hU (by omega)) m3 nF).keep pair_st (lU hU (by omega)) hL4 (nU hU (by omega))
 refine sreg ?_
 obtain ⟨bE11, oE11, sgE11, rfl, uE11, hsE11, heE11⟩ := LA.get hp hpk
 obtain ⟨vd, rfl, hd⟩ := heE11
 have zE11 := hU _ uE11
 obtain ⟨ad, cd, rfl, -⟩ := id hd
 refine sv (xidx sl222 sz291 rfl rfl rfl (by omega)) (sv (xldS (lens := [1, 1]) ro291 rfl hsE11) (svK (xallS (lens := [1, 1]) in291 rfl) ?_))
 rintro _ w8 ⟨b5, rfl, m9, h5, e7, s7⟩
 refine suK (xstW h5 (lens' := [1, 1]) sz291 rfl rfl rfl rfl rfl) ?_
 rintro w11 ⟨m12, h5, s10⟩
 refine send (ffg 3 5 7 8 9 rfl fun _ => ?_)
 refine ldrawH (Fr (fun k => k = g) w11.drew) [rd0, rd1, rd2, rd4, rd5, ld3, ld6, rd7, ld8, ld9, rd10] mixed (by kernel_rfl) (fun _ _ _ _ _ h => h) ?_
 have z13 : w11.drew.heap.size = w11.heap.size := rfl
 have h5 := h5.drew
 have zb_h5 := h5
 have hS14 : Fr (fun k => k = g) w11.drew w11.drew := Fr.refl _ _
 have hv3 := RX.keep (RX.keep (RX.keep hv3 pair_st (lU hU (by omega)) (by omega) m9 (fun _ _ _ h => h) id) pair_st (lU hU (by omega)) (by omega) m12 (fun k hk hk3 hS => by have hS : k = b5 := hS; rcases hk with hk | hk <;> first | omega | (have := hU k hk; omega)) (nE (by omega))) pair_st (lU hU (by omega)) (by omega) (fd w11) (fun _ _ _ h => h) id
 refine qqM rfl rfl hS14 (hvH rfl (fun _ _ => xfld fl291_0 rfl) hS14 (hvH rfl (fun w' hS => xld on289 rfl ((zb_h5.keep hS (nE (by omega))).r.c 0 rfl rfl)) hS14 (hvH rfl (fun _ _ => xfld fl291_1 rfl) hS14 (hvH rfl (fun w' hS => xld on37 rfl ((zb_h5.keep hS (nE (by omega))).r.c 1 rfl rfl)) hS14 ?_))))
 refine hlKH rfl (xslit (bvs []) sl37 in5 rfl (by decide) rfl rfl rfl rfl (by decide) rfl (bvs_one _)) ?_
 rintro _ w16 ⟨b16, rfl, m17, h16, e16, s16, r16⟩
 have hS18 := hS14.s m17
 have hd := (((hd.keep (lU hU (by omega)) m9 nF).keep (lU hU (by omega)) m12 (nU hU (by omega))).keep (lU hU (by omega)) (fd w11) nF).keep (lU hU (by omega)) m17 nF
 have hv3 := RX.keep hv3 pair_st (lU hU (by omega)) (by omega) m17 (fun _ _ _ h => h) id
 refine ⟨hS18, ?_⟩
 refine hlKH rfl (xapp sl37 in5 rfl (by decide) rfl rfl r16 (hd.src sl37) (by simp only [maxLen]; omega) (by omega)) ?_
 rintro _ w19 ⟨g19, r19, m20, a19, l19⟩
 have z21 := m20.size
 have hS22 := hS18.step m20 (fun k hk hS => by have hS : k = b16 := hS; show k = g; omega)
 obtain ⟨p19, q19, rfl, -⟩ := r19.form
 refine ⟨hS22, ?_⟩
 refine hvH rfl (fun _ _ => xbuildS (pairSegs p (.slice p19 (0 + p.data.length) q19)) zr145 ly145 rfl (by simp [fitAll, zs145, Value.cells]) rfl) hS22 ?_
 refine hlKH rfl (xslit ((pairSegs p (.slice p19 (0 + p.data.length) q19)).flatten) sl110 in145 rfl (by decide) rfl rfl rfl rfl (by decide) rfl rfl) ?_
 rintro _ w24 ⟨b21, rfl, m25, h21, e21, s21, r21⟩
 have hS26 := hS22.s m25
 have hv3 := RX.keep (RX.keep hv3 pair_st (lU hU (by omega)) (by omega) m20 (fun k hk hk3 hS => by have hS : k = b16 := hS; rcases hk with hk | hk <;> first | omega | (have := hU k hk; omega)) (nE (by omega))) pair_st (lU hU (by omega)) (by omega) m25 (fun _ _ _ h => h) id
 refine ⟨hS26, ?_⟩
 obtain ⟨ss22, hR22, hA22⟩ := hv3
 refine hlKH rfl (xapp sl110 in145 rfl (by decide) rfl rfl hR22 (r21.src sl110) (by simp only [maxLen]; omega) (by omega)) ?_
 rintro v22 w27 ⟨g22, r22, m28, a22, l22⟩
 have z29 := m28.size
 have hS30 := hS26.step m28 nI
 have r19 := (r19.k m25).keep m28 (nE (by omega))
 have hv3 := RX.snoc (x := p) w27.heap.size hA22 pair_st pair_gr (lU hU (by omega)) (by omega) (by omega) m28 a22 r22 rfl (⟨_, rfl, BR.ba (show BR _ _ _ _ p.data from r19) ⟨.inr ⟨by omega, by omega⟩, by omega⟩⟩)
 have hL4 := ((((((hL4.s m9).step m12 (fun k hk hS => by have hS : k = b5 := hS; show k = b6; omega)).drew).s m17).step m20 (fun k hk hS => by have hS : k = b16 := hS; show k = b6; omega)).s m25).step m28 (fun k hk hS => by have hS : k = g := hS; show k = b6; omega)
 refine ⟨hS30, ?_⟩
 refine qqA rfl rfl hS30 (lhendH (nBlock (nThen (feg 3 7 8 9 rfl fun _ => lreg (sv (xadd rfl rfl (w64 (by omega) (by omega))) (sM rfl (lend (nThen ?_))))))))
 refine ⟨(k + 1, _, g22), _, env_okl ⟨rfl, rfl, rfl, rfl, trivial⟩, ⟨hL4, (by omega), (by rw [take_snoc hpk]; exact RX.up pair_gr hv3 (by omega)), (by omega), (l22 (by omega)), (by omega)⟩, ?_⟩
 show ps.length - (k + 1) < ps.length - k; omega
theorem c64 {w : World} {U : Nat → Prop} (hU : ∀ k, U k → k < w.heap.size) {r : RecD} {l : UInt16} {vb : Value} (hb : BodyEl U w vb r) (hno : NamesOk r) (hpn : r.pairs.length ≤ 1048576) (htn : r.texts.length ≤ 1048576) (hdn : r.data.length ≤ 1048576) (hpd : ∀ q ∈ r.pairs, q.data.length ≤ 65535) :
  Ret PP 64 [ag (rhSegs (bt r.name) (typeN r) r.cls r.ttl l.toNat ++ [[vb]])] w (fun u w' => ∃ vd vt vp, u = ag (recSegs (normR r l) vd vt vp) ∧ BA (Ub U w w') w' vd (normR r l).data ∧ LA TextEl [1] (Ub U w w') w' vt (normR r l).texts ∧ LA PairEl lPair (Ub U w w') w' vp (normR r l).pairs ∧ Fr0 w w') := by
 obtain ⟨bB, TB, lB, sB, rfl, hub, hsr, hbs⟩ := hb
 have hzB := hU bB hub
 have hf : Fr (fun _ => False) w w := Fr.refl _ _
 refine ret_of Tryz.func64 rfl rfl rfl [(0, _)] rfl ?_
 refine sreg (svK (xboxS (lens := [256, 1, 1, 1, 1, 1]) rfl (by simp [rhSegs, nm_length])) ?_)
 rintro _ w2 ⟨b1, rfl, m3, h1, e1, s1⟩
 refine svK (xallS (lens := lRec) in112 rfl) ?_
 rintro _ w5 ⟨b2, rfl, m6, h2, e4, s4⟩
 have h1 := h1.k m6
 refine send (fcg 1 2 rfl fun _ => sreg (sv (xfld fl139_0 rfl) (sv (xldS (lens := [256, 1, 1, 1, 1]) ro135 rfl (h1.r.sub 0 5 rfl)) (svK (xallS (lens := [256, 1, 1, 1, 1]) in135 (by simp [nm_length])) ?_))))
 rintro _ w8 ⟨b3, rfl, m9, h3, e7, s7⟩
 refine suK (xstW h3 (lens' := [256, 1, 1, 1, 1]) sz135 (by simp [nm_length]) rfl (one5 _ _ _ _ _) rfl rfl) ?_
 rintro w11 ⟨m12, h3, s10⟩
 have hsr := (((hsr.keep m3 (by omega) id).keep m6 (by omega) id).keep m9 (by omega) id).keep m12 (by omega) (nE (by omega))
 have hbs := (((hbs.keep (lU hU (by omega)) m3 nF).keep (lU hU (by omega)) m6 nF).keep (lU hU (by omega)) m9 nF).keep (lU hU (by omega)) m12 (nU hU (by omega))
 have hf := (((hf.s m3).s m6).s m9).t m12 (by omega)
 have h1 := (h1.k m9).keep m12 (nE (by omega))
 have h2 := (h2.k m9).keep m12 (nE (by omega))
 refine send (fdg 1 2 3 rfl fun _ => ?_)
 refine sdrawI [(1, _), (2, _)] ⟨rfl, rfl, trivial⟩ (fun (x : Nat) => match x with | b4 => [(4, .pointer (some ⟨b4, 0, none⟩))]) (fun (x : Nat) wx => match x with | b4 => Fr (fun _ => False) w11 wx ∧ (SB wx b4 lRec ([[.string r.name], [.int .u16 ((typeN r).toNat : Int)], [.int .u16 (r.cls.toNat : Int)], [.int .u32 (r.ttl.toNat : Int)], [.int .u16 (l.toNat : Int)], [.int .i64 0], [.slice none 0 0], [.string emptyB], [.string emptyB], [.int .u32 0], [.int .u32 0], [.int .u32 0], [.int .u32 0], [.int .u32 0], [.slice none 0 0], [.slice none 0 0]])) ∧ (w11.heap.size ≤ b4) ∧ (b4 < wx.heap.size)) (Fr (fun _ => False) w11.drew) (.rd 0 (.rd 1 (.rd 3 (.rd 4 (.rd 5 (.rd 6 (.rd 7 (.rd 8 (.rd 9 (.rd 10 (.two 2 (.lst [rd11, ld12, bh13]) 12 (.lst [ld2, rd11, bh13])))))))))))) mixed (by kernel_rfl) ?_ ?_
 ·
  have hC : Fr (fun _ => False) w11 w11 := Fr.refl _ _
  have z13 : w11.drew.heap.size = w11.heap.size := rfl
  have hS14 : Fr (fun _ => False) w11.drew w11.drew := Fr.refl _ _
  have h3 := h3.drew
  have hsr := hsr.keep (fd w11) (by omega) id
  have hbs := hbs.keep (lU hU (by omega)) (fd w11) nF
  have hf := hf.drew
  have h1 := h1.drew
  have h2 := h2.drew
  have hC := hC.drew
  refine hvT rfl (fun _ _ => xfld fl135_0 rfl) hS14 ?_
  refine hvT rfl (fun w' hS => xldS (lens := [256]) ro82 rfl ((h3.k hS).r.sub 0 1 rfl)) hS14 ?_
  refine hvT rfl (fun _ _ => xfld fl135_1 rfl) hS14 ?_
  refine hvT rfl (fun w' hS => xld on83 rfl ((h3.k hS).r.c 1 rfl rfl)) hS14 ?_
  refine hvT rfl (fun _ _ => xfld fl135_2 rfl) hS14 ?_
  refine hvT rfl (fun w' hS => xld on84 rfl ((h3.k hS).r.c 2 rfl rfl)) hS14 ?_
  refine hvT rfl (fun _ _ => xfld fl135_3 rfl) hS14 ?_
  refine hvT rfl (fun w' hS => xld on61 rfl ((h3.k hS).r.c 3 rfl rfl)) hS14 ?_
  refine hvT rfl (fun _ _ => xfld fl135_4 rfl) hS14 ?_
  refine hvT rfl (fun w' hS => xld on22 rfl ((h3.k hS).r.c 4 rfl rfl)) hS14 ?_
  refine twoT ?_ ?_
  ·
   refine hcT rfl (xcall ca100 rfl) (c100 (S := bt r.name) (by have := (name_pos hno.1).2; omega)) ?_
   rintro _ w15 ⟨rfl, m16⟩
   have z17 := m16.size
   have hS18 := hS14.s m16
   refine ⟨hS18, ?_⟩
   refine lstT (hv rfl (fun _ _ => xbuildS [[.string r.name], [.int .u16 ((typeN r).toNat : Int)], [.int .u16 (r.cls.toNat : Int)], [.int .u32 (r.ttl.toNat : Int)], [.int .u16 (l.toNat : Int)], [.int .i64 0], [.slice none 0 0], [.string emptyB], [.string emptyB], [.int .u32 0], [.int .u32 0], [.int .u32 0], [.int .u32 0], [.int .u32 0], [.slice none 0 0], [.slice none 0 0]] zr112 ly112 rfl (by simp [fitAll, zs112, Value.cells]) rfl) hS18 (hlK rfl (xallS (lens := lRec) in112 (by simp [])) ?_))
   rintro _ w20 ⟨b4, rfl, m21, h4, e19, s19⟩
   have hS22 := hS18.s m21
   refine ⟨hS22, ?_⟩
   refine bluK rfl (xstW h4 (lens' := lRec) sz112 rfl rfl rfl rfl rfl) ?_
   rintro w24 ⟨m25, h4, s23⟩
   have hC := ((hC.s m16).s m21).t m25 (by omega)
   exact ⟨rfl, b4, _, env_okl ⟨rfl, rfl, rfl, trivial⟩, ⟨hC, (h4), (by omega), (by omega)⟩⟩
  refine hlKT rfl (xallS (lens := lRec) in112 (by simp [])) ?_
  rintro _ w27 ⟨b4, rfl, m28, h4, e26, s26⟩
  have hS29 := hS14.s m28
  refine ⟨hS29, ?_⟩
  refine lstT (hc rfl (xcall ca100 rfl) (c100 (S := bt r.name) (by have := (name_pos hno.1).2; omega)) ?_)
  rintro _ w30 ⟨rfl, m31⟩
  have z32 := m31.size
  have hS33 := hS29.s m31
  have h4 := h4.k m31
  refine ⟨hS33, ?_⟩
  refine hv rfl (fun _ _ => xbuildS [[.string r.name], [.int .u16 ((typeN r).toNat : Int)], [.int .u16 (r.cls.toNat : Int)], [.int .u32 (r.ttl.toNat : Int)], [.int .u16 (l.toNat : Int)], [.int .i64 0], [.slice none 0 0], [.string emptyB], [.string emptyB], [.int .u32 0], [.int .u32 0], [.int .u32 0], [.int .u32 0], [.int .u32 0], [.slice none 0 0], [.slice none 0 0]] zr112 ly112 rfl (by simp [fitAll, zs112, Value.cells]) rfl) hS33 (bluK rfl (xstW h4 (lens' := lRec) sz112 rfl rfl rfl rfl rfl) ?_)
  rintro w35 ⟨m36, h4, s34⟩
  have hC := ((hC.s m28).s m31).t m36 (by omega)
  exact ⟨rfl, b4, _, env_okl ⟨rfl, rfl, rfl, trivial⟩, ⟨hC, (h4), (by omega), (by omega)⟩⟩
 rintro b4 _ w37 ⟨hC, h4, hb4, hb5⟩
 have z38 := hC.size
 have h1 := h1.k hC
 have hbs := hbs.keep (lU hU (by omega)) hC nF
 refine fdg 1 2 4 rfl fun _ => wp_seq (sreg (sv (xfld fl139_1 rfl) (sv (xld on137 rfl (h1.r.c 5 rfl rfl)) ?_)))
 have hsr := hsr.keep hC (by omega) id
 have hf := hf.s hC
 have h2 := h2.k hC
 rcases hbs with hk | hk | hk | hk | hk | hk | ⟨hk, ht⟩ | hk | hk | ⟨hk, hp⟩ | ⟨hk, hp⟩ | ⟨hk, hp⟩ | ⟨hk, hd⟩
 ·
  refine send ((wp_block (sreg (sv (xtaY ni186 rfl) (sv (xex21 rfl) (sv (xex20 rfl) (send ((cyes rfl (sreg (sA rfl (send (fdg 2 4 5 rfl fun _ => lreg (svK (xslit (bvs []) sl37 in5 rfl (by decide) rfl rfl rfl rfl (by decide) rfl (bvs_one _)) ?_))))))))))))))
  rintro _ w40 ⟨b39, rfl, m41, h39, e39, s39, r39⟩
  have hsr := hsr.keep m41 (by omega) id
  refine sM rfl (sN rfl (sv (xfld fl189_0 rfl) (sv (xcutA ar187 sz5 rfl) (svK (xapp sl37 in5 rfl (by decide) rfl rfl r39 (src_cut (hsr.seg (i := 0) (k := 0) rfl rfl) (fixedL_length _ _)) (by simp only [maxLen]; omega) (by omega)) ?_))))
  rintro _ w42 ⟨g44, r44, m43, a44, l44⟩
  have z44 := m43.size
  obtain ⟨p44, q44, rfl, -⟩ := r44.form
  have h4 := (h4.k m41).keep m43 (nE (by omega))
  refine sv (xfld fl112_5 rfl) (suK (xstF 5 sz3 h4 rfl rfl rfl rfl rfl) ?_)
  rintro w46 ⟨m47, h4, s45⟩
  refine sv (xfld fl112_6 rfl) (suK (xstF 6 sz37 h4 rfl rfl rfl rfl rfl) ?_)
  rintro w49 ⟨m50, h4, s48⟩
  have h2 := (((h2.k m41).keep m43 (nE (by omega))).keep m47 (nE (by omega))).keep m50 (nE (by omega))
  refine lend (nBlock (nThen (fcg 2 4 rfl fun _ => sreg (sv (xldS (lens := lRec) ro112 rfl h4.r) (suK (xstW h2 (lens' := lRec) sz112 rfl rfl rfl rfl rfl) ?_)))))
  rintro w52 ⟨m53, h2, s51⟩
  refine send (fbg 2 rfl fun _ => wp_ret (rp1 rfl ⟨_, rfl, ldS (lens := lRec) ro112 h2.r⟩ ?_))
  rw [norm_a hk]
  have hf := ((((hf.s m41).t m43 (by omega)).t m47 (by omega)).t m50 (by omega)).t m53 (by omega)
  have r44 := ((r44.keep m47 (nE (by omega))).keep m50 (nE (by omega))).keep m53 (nE (by omega))
  exact ⟨_, _, _, ag_rec (r' := { rec0 r l with data := fixedL r.data 4 }) (k := 1) hk rfl, (BR.ba (show BR _ _ _ _ (fixedL r.data 4) from r44) (.inr ⟨by omega, by omega⟩)), LA.nil, LA.nil, hf⟩
 ·
  refine send ((wp_block (sreg (sv (xtaN ni186 in186 rfl rfl) (sv (xex21 rfl) (sv (xex20 rfl) (send ((cno rfl (sreg (sv (xtaY ni190 rfl) (sv (xex21 rfl) (sv (xex20 rfl) (send ((cyes rfl (sreg (sA rfl (send (fdg 2 4 6 rfl fun _ => lreg (sM rfl (sN rfl (sv (xfld fl192_0 rfl) (sv (xldS (lens := [256]) ro82 rfl hsr) (sc (xcall ca100 rfl) (c100 (S := bt r.host) (by have := (name_pos (hno.2.1 (by omega))).2; omega)) ?_)))))))))))))))))))))))))
  rintro _ w54 ⟨rfl, m55⟩
  have z56 := m55.size
  have h4 := h4.k m55
  refine sv (xfld fl112_5 rfl) (suK (xstF 5 sz3 h4 rfl rfl rfl rfl rfl) ?_)
  rintro w58 ⟨m59, h4, s57⟩
  refine sv (xfld fl112_7 rfl) (suK (xstF 7 sz9 h4 rfl rfl rfl rfl rfl) ?_)
  rintro w61 ⟨m62, h4, s60⟩
  have h2 := ((h2.k m55).keep m59 (nE (by omega))).keep m62 (nE (by omega))
  refine lend (nBlock (nThen (fcg 2 4 rfl fun _ => sreg (sv (xldS (lens := lRec) ro112 rfl h4.r) (suK (xstW h2 (lens' := lRec) sz112 rfl rfl rfl rfl rfl) ?_)))))
  rintro w65 ⟨m66, h2, s63⟩
  refine send (fbg 2 rfl fun _ => wp_ret (rp1 rfl ⟨_, rfl, ldS (lens := lRec) ro112 h2.r⟩ ?_))
  rw [norm_ns (by omega)]
  have hf := (((hf.s m55).t m59 (by omega)).t m62 (by omega)).t m66 (by omega)
  exact ⟨_, _, _, ag_rec (r' := { rec0 r l with host := r.host }) (k := 2) hk rfl, ba0, LA.nil, LA.nil, hf⟩
 ·
  refine send ((wp_block (sreg (sv (xtaN ni186 in186 rfl rfl) (sv (xex21 rfl) (sv (xex20 rfl) (send ((cno rfl (sreg (sv (xtaN ni190 in190 rfl rfl) (sv (xex21 rfl) (sv (xex20 rfl) (send ((cno rfl (sreg (sv (xtaY ni193 rfl) (sv (xex21 rfl) (sv (xex20 rfl) (send (ffg 2 4 35 58 59 rfl fun _ => cyes rfl (sreg (sA rfl (send (fdg 2 4 7 rfl fun _ => lreg (sM rfl (sN rfl (sv (xfld fl195_0 rfl) (sv (xldS (lens := [256]) ro82 rfl hsr) (sc (xcall ca100 rfl) (c100 (S := bt r.host) (by have := (name_pos (hno.2.1 (by omega))).2; omega)) ?_)))))))))))))))))))))))))))))))
  rintro _ w67 ⟨rfl, m68⟩
  have z69 := m68.size
  have h4 := h4.k m68
  refine sv (xfld fl112_5 rfl) (suK (xstF 5 sz3 h4 rfl rfl rfl rfl rfl) ?_)
  rintro w71 ⟨m72, h4, s70⟩
  refine sv (xfld fl112_7 rfl) (suK (xstF 7 sz9 h4 rfl rfl rfl rfl rfl) ?_)
  rintro w74 ⟨m75, h4, s73⟩
  have h2 := ((h2.k m68).keep m72 (nE (by omega))).keep m75 (nE (by omega))
  refine lend (nBlock (nThen (fcg 2 4 rfl fun _ => sreg (sv (xldS (lens := lRec) ro112 rfl h4.r) (suK (xstW h2 (lens' := lRec) sz112 rfl rfl rfl rfl rfl) ?_)))))
  rintro w77 ⟨m78, h2, s76⟩
  refine send (fbg 2 rfl fun _ => wp_ret (rp1 rfl ⟨_, rfl, ldS (lens := lRec) ro112 h2.r⟩ ?_))
  rw [norm_ns (by omega)]
  have hf := (((hf.s m68).t m72 (by omega)).t m75 (by omega)).t m78 (by omega)
  exact ⟨_, _, _, ag_rec (r' := { rec0 r l with host := r.host }) (k := 3) hk rfl, ba0, LA.nil, LA.nil, hf⟩
 ·
  refine send ((wp_block (sreg (sv (xtaN ni186 in186 rfl rfl) (sv (xex21 rfl) (sv (xex20 rfl) (send ((cno rfl (sreg (sv (xtaN ni190 in190 rfl rfl) (sv (xex21 rfl) (sv (xex20 rfl) (send ((cno rfl (sreg (sv (xtaN ni193 in193 rfl rfl) (sv (xex21 rfl) (sv (xex20 rfl) (send (ffg 2 4 35 58 59 rfl fun _ => cno rfl (sreg (sv (xtaY ni196 rfl) (sv (xex21 rfl) (sv (xex20 rfl) (send ((cyes rfl (sreg (sA rfl (send (fdg 2 4 8 rfl fun _ => ?_)))))))))))))))))))))))))))))))))
  refine sdrawH (Fr (fun k => k = b4) w37.drew) [rd0, rd1, rd2, rd3, rd5, rd6, rd7, rd8, rd10, ld4, ld9, ld11, rd12, ld13, rd14, bh15] mixed (by kernel_rfl) (fun _ _ _ _ _ h => h) ?_
  have z79 : w37.drew.heap.size = w37.heap.size := rfl
  have hsr := hsr.keep (fd w37) (by omega) id
  have zb_hsr := hsr
  have hS80 : Fr (fun k => k = b4) w37.drew w37.drew := Fr.refl _ _
  refine qqM rfl rfl hS80 (qqN rfl rfl hS80 (hvH rfl (fun _ _ => xfld fl198_0 rfl) hS80 (hvH rfl (fun w' hS => xldS (lens := [256]) ro82 rfl ((zb_hsr.keep hS (by omega) (nE (by omega))).sub 0 1 rfl)) hS80 (qqM rfl rfl hS80 (qqN rfl rfl hS80 (hvH rfl (fun _ _ => xfld fl198_1 rfl) hS80 (hvH rfl (fun w' hS => xldS (lens := [256]) ro82 rfl ((zb_hsr.keep hS (by omega) (nE (by omega))).sub 1 1 rfl)) hS80 (hvH rfl (fun _ _ => xfld fl112_5 rfl) hS80 ?_))))))))
  refine hcH rfl (xcall ca100 rfl) (c100 (S := bt r.host) (by have := (name_pos (hno.2.1 (by omega))).2; omega)) ?_
  rintro _ w81 ⟨rfl, m82⟩
  have z83 := m82.size
  have hS84 := hS80.s m82
  refine ⟨hS84, ?_⟩
  refine hcH rfl (xcall ca100 rfl) (c100 (S := bt r.box) (by have := (name_pos (hno.2.2 hk)).2; omega)) ?_
  rintro _ w85 ⟨rfl, m86⟩
  have z87 := m86.size
  have hS88 := hS84.s m86
  have h4 := ((h4.drew).k m82).k m86
  refine ⟨hS88, ?_⟩
  refine hluKH rfl (xstF 5 sz3 h4 rfl rfl rfl rfl rfl) ?_
  rintro w90 ⟨m91, h4, s89⟩
  have hS92 := hS88.step m91 nI
  refine ⟨hS92, ?_⟩
  refine hvH rfl (fun _ _ => xfld fl112_7 rfl) hS92 ?_
  refine hluKH rfl (xstF 7 sz9 h4 rfl rfl rfl rfl rfl) ?_
  rintro w94 ⟨m95, h4, s93⟩
  have hS96 := hS92.step m95 nI
  refine ⟨hS96, ?_⟩
  refine hvH rfl (fun _ _ => xfld fl112_8 rfl) hS96 ?_
  refine bluKH rfl (xstF 8 sz9 h4 rfl rfl rfl rfl rfl) ?_
  rintro w98 ⟨m99, h4, s97⟩
  refine hendH (fdg 2 4 8 rfl fun _ => ?_)
  refine ldrawH (Fr (fun k => k = b4) w98.drew) [rd0, rd1, rd2, rd3, rd4, rd5, rd6, rd7, rd8, rd9, rd10, rd11, rd12, rd13, rd14, rd15, rd16, rd17, rd18, rd19, rd20, (21, .ld), rd22, (23, .ld), rd24, (25, .ld), rd26, (27, .ld), rd28, (29, .bh)] mixed (by kernel_rfl) (fun _ _ _ _ _ h => h) ?_
  have z100 : w98.drew.heap.size = w98.heap.size := rfl
  have hsr := (((((hsr.keep m82 (by omega) id).keep m86 (by omega) id).keep m91 (by omega) (nE (by omega))).keep m95 (by omega) (nE (by omega))).keep m99 (by omega) (nE (by omega))).keep (fd w98) (by omega) id
  have zb_hsr := hsr
  have hS101 : Fr (fun k => k = b4) w98.drew w98.drew := Fr.refl _ _
  have h4 := h4.drew
  refine qqM rfl rfl hS101 (qqN rfl rfl hS101 (hvH rfl (fun _ _ => xfld fl198_2 rfl) hS101 (hvH rfl (fun w' hS => xld on61 rfl ((zb_hsr.keep hS (by omega) (nE (by omega))).c 2 rfl rfl)) hS101 (qqM rfl rfl hS101 (qqN rfl rfl hS101 (hvH rfl (fun _ _ => xfld fl198_3 rfl) hS101 (hvH rfl (fun w' hS => xld on61 rfl ((zb_hsr.keep hS (by omega) (nE (by omega))).c 3 rfl rfl)) hS101 (qqM rfl rfl hS101 (qqN rfl rfl hS101 (hvH rfl (fun _ _ => xfld fl198_4 rfl) hS101 (hvH rfl (fun w' hS => xld on61 rfl ((zb_hsr.keep hS (by omega) (nE (by omega))).c 4 rfl rfl)) hS101 (qqM rfl rfl hS101 (qqN rfl rfl hS101 (hvH rfl (fun _ _ => xfld fl198_5 rfl) hS101 (hvH rfl (fun w' hS => xld on61 rfl ((zb_hsr.keep hS (by omega) (nE (by omega))).c 5 rfl rfl)) hS101 (qqM rfl rfl hS101 (qqN rfl rfl hS101 (hvH rfl (fun _ _ => xfld fl198_6 rfl) hS101 (hvH rfl (fun w' hS => xld on61 rfl ((zb_hsr.keep hS (by omega) (nE (by omega))).c 6 rfl rfl)) hS101 (hvH rfl (fun _ _ => xfld fl112_9 rfl) hS101 ?_))))))))))))))))))))
  refine hluKH rfl (xstF 9 sz61 h4 rfl rfl rfl rfl rfl) ?_
  rintro w103 ⟨m104, h4, s102⟩
  have hS105 := hS101.step m104 nI
  refine ⟨hS105, ?_⟩
  refine hvH rfl (fun _ _ => xfld fl112_10 rfl) hS105 ?_
  refine hluKH rfl (xstF 10 sz61 h4 rfl rfl rfl rfl rfl) ?_
  rintro w107 ⟨m108, h4, s106⟩
  have hS109 := hS105.step m108 nI
  refine ⟨hS109, ?_⟩
  refine hvH rfl (fun _ _ => xfld fl112_11 rfl) hS109 ?_
  refine hluKH rfl (xstF 11 sz61 h4 rfl rfl rfl rfl rfl) ?_
  rintro w111 ⟨m112, h4, s110⟩
  have hS113 := hS109.step m112 nI
  refine ⟨hS113, ?_⟩
  refine hvH rfl (fun _ _ => xfld fl112_12 rfl) hS113 ?_
  refine hluKH rfl (xstF 12 sz61 h4 rfl rfl rfl rfl rfl) ?_
  rintro w115 ⟨m116, h4, s114⟩
  have hS117 := hS113.step m116 nI
  refine ⟨hS117, ?_⟩
  refine hvH rfl (fun _ _ => xfld fl112_13 rfl) hS117 ?_
  refine bluKH rfl (xstF 13 sz61 h4 rfl rfl rfl rfl rfl) ?_
  rintro w119 ⟨m120, h4, s118⟩
  have h2 := (((((((((((h2.drew).k m82).k m86).keep m91 (nE (by omega))).keep m95 (nE (by omega))).keep m99 (nE (by omega))).drew).keep m104 (nE (by omega))).keep m108 (nE (by omega))).keep m112 (nE (by omega))).keep m116 (nE (by omega))).keep m120 (nE (by omega))
  refine lhendH (nBlock (nThen (fcg 2 4 rfl fun _ => sreg (sv (xldS (lens := lRec) ro112 rfl h4.r) (suK (xstW h2 (lens' := lRec) sz112 rfl rfl rfl rfl rfl) ?_)))))
  rintro w122 ⟨m123, h2, s121⟩
  refine send (fbg 2 rfl fun _ => wp_ret (rp1 rfl ⟨_, rfl, ldS (lens := lRec) ro112 h2.r⟩ ?_))
  rw [norm_soa hk]
  have hf := ((((((((((((hf.drew).s m82).s m86).t m91 (by omega)).t m95 (by omega)).t m99 (by omega)).drew).t m104 (by omega)).t m108 (by omega)).t m112 (by omega)).t m116 (by omega)).t m120 (by omega)).t m123 (by omega)
  exact ⟨_, _, _, ag_rec (r' := { rec0 r l with host := r.host, box := r.box, n1 := r.n1, n2 := r.n2, n3 := r.n3, n4 := r.n4, n5 := r.n5 }) (k := 4) hk rfl, ba0, LA.nil, LA.nil, hf⟩
 ·
  refine send ((wp_block (sreg (sv (xtaN ni186 in186 rfl rfl) (sv (xex21 rfl) (sv (xex20 rfl) (send ((cno rfl (sreg (sv (xtaN ni190 in190 rfl rfl) (sv (xex21 rfl) (sv (xex20 rfl) (send ((cno rfl (sreg (sv (xtaN ni193 in193 rfl rfl) (sv (xex21 rfl) (sv (xex20 rfl) (send (ffg 2 4 35 58 59 rfl fun _ => cno rfl (sreg (sv (xtaN ni196 in196 rfl rfl) (sv (xex21 rfl) (sv (xex20 rfl) (send ((cno rfl (sreg (sv (xtaY ni199 rfl) (sv (xex21 rfl) (sv (xex20 rfl) (send ((cyes rfl (sreg (sA rfl (send (fdg 2 4 9 rfl fun _ => lreg (sM rfl (sN rfl (sv (xfld fl201_0 rfl) (sv (xldS (lens := [256]) ro82 rfl hsr) (sc (xcall ca100 rfl) (c100 (S := bt r.host) (by have := (name_pos (hno.2.1 (by omega))).2; omega)) ?_)))))))))))))))))))))))))))))))))))))))))))))
  rintro _ w124 ⟨rfl, m125⟩
  have z126 := m125.size
  have h4 := h4.k m125
  refine sv (xfld fl112_5 rfl) (suK (xstF 5 sz3 h4 rfl rfl rfl rfl rfl) ?_)
  rintro w128 ⟨m129, h4, s127⟩
  refine sv (xfld fl112_7 rfl) (suK (xstF 7 sz9 h4 rfl rfl rfl rfl rfl) ?_)
  rintro w131 ⟨m132, h4, s130⟩
  have h2 := ((h2.k m125).keep m129 (nE (by omega))).keep m132 (nE (by omega))
  refine lend (nBlock (nThen (fcg 2 4 rfl fun _ => sreg (sv (xldS (lens := lRec) ro112 rfl h4.r) (suK (xstW h2 (lens' := lRec) sz112 rfl rfl rfl rfl rfl) ?_)))))
  rintro w134 ⟨m135, h2, s133⟩
  refine send (fbg 2 rfl fun _ => wp_ret (rp1 rfl ⟨_, rfl, ldS (lens := lRec) ro112 h2.r⟩ ?_))
  rw [norm_ns (by omega)]
  have hf := (((hf.s m125).t m129 (by omega)).t m132 (by omega)).t m135 (by omega)
  exact ⟨_, _, _, ag_rec (r' := { rec0 r l with host := r.host }) (k := 5) hk rfl, ba0, LA.nil, LA.nil, hf⟩
 ·
  refine send ((wp_block (sreg (sv (xtaN ni186 in186 rfl rfl) (sv (xex21 rfl) (sv (xex20 rfl) (send ((cno rfl (sreg (sv (xtaN ni190 in190 rfl rfl) (sv (xex21 rfl) (sv (xex20 rfl) (send ((cno rfl (sreg (sv (xtaN ni193 in193 rfl rfl) (sv (xex21 rfl) (sv (xex20 rfl) (send (ffg 2 4 35 58 59 rfl fun _ => cno rfl (sreg (sv (xtaN ni196 in196 rfl rfl) (sv (xex21 rfl) (sv (xex20 rfl) (send ((cno rfl (sreg (sv (xtaN ni199 in199 rfl rfl) (sv (xex21 rfl) (sv (xex20 rfl) (send ((cno rfl (sreg (sv (xtaY ni202 rfl) (sv (xex21 rfl) (sv (xex20 rfl) (send ((cyes rfl (sreg (sA rfl (send (fdg 2 4 10 rfl fun _ => ?_)))))))))))))))))))))))))))))))))))))))))))))))
  refine ldrawH (Fr (fun k => k = b4) w37.drew) [rd0, rd1, rd2, rd3, rd4, rd5, rd6, rd7, rd8, rd10, ld9, ld11, rd12, ld13, rd14, bh15] mixed (by kernel_rfl) (fun _ _ _ _ _ h => h) ?_
  have z136 : w37.drew.heap.size = w37.heap.size := rfl
  have hsr := hsr.keep (fd w37) (by omega) id
  have zb_hsr := hsr
  have hS137 : Fr (fun k => k = b4) w37.drew w37.drew := Fr.refl _ _
  refine qqM rfl rfl hS137 (qqN rfl rfl hS137 (hvH rfl (fun _ _ => xfld fl204_0 rfl) hS137 (hvH rfl (fun w' hS => xld on22 rfl ((zb_hsr.keep hS (by omega) (nE (by omega))).c 0 rfl rfl)) hS137 (hvH rfl (fun _ _ => xconv hs22 ki61 rfl (wu32n (m16 r.n1).toNat (by rw [m16_nat]; omega))) hS137 (qqM rfl rfl hS137 (qqN rfl rfl hS137 (hvH rfl (fun _ _ => xfld fl204_1 rfl) hS137 (hvH rfl (fun w' hS => xldS (lens := [256]) ro82 rfl ((zb_hsr.keep hS (by omega) (nE (by omega))).sub 1 1 rfl)) hS137 (hvH rfl (fun _ _ => xfld fl112_5 rfl) hS137 ?_)))))))))
  refine hcH rfl (xcall ca100 rfl) (c100 (S := bt r.host) (by have := (name_pos (hno.2.1 (by omega))).2; omega)) ?_
  rintro _ w138 ⟨rfl, m139⟩
  have z140 := m139.size
  have hS141 := hS137.s m139
  have h4 := (h4.drew).k m139
  refine ⟨hS141, ?_⟩
  refine hluKH rfl (xstF 5 sz3 h4 rfl rfl rfl rfl rfl) ?_
  rintro w143 ⟨m144, h4, s142⟩
  have hS145 := hS141.step m144 nI
  refine ⟨hS145, ?_⟩
  refine hvH rfl (fun _ _ => xfld fl112_9 rfl) hS145 ?_
  refine hluKH rfl (xstF 9 sz61 h4 rfl rfl rfl rfl rfl) ?_
  rintro w147 ⟨m148, h4, s146⟩
  have hS149 := hS145.step m148 nI
  refine ⟨hS149, ?_⟩
  refine hvH rfl (fun _ _ => xfld fl112_7 rfl) hS149 ?_
  refine bluKH rfl (xstF 7 sz9 h4 rfl rfl rfl rfl rfl) ?_
  rintro w151 ⟨m152, h4, s150⟩
  have h2 := ((((h2.drew).k m139).keep m144 (nE (by omega))).keep m148 (nE (by omega))).keep m152 (nE (by omega))
  refine lhendH (nBlock (nThen (fcg 2 4 rfl fun _ => sreg (sv (xldS (lens := lRec) ro112 rfl h4.r) (suK (xstW h2 (lens' := lRec) sz112 rfl rfl rfl rfl rfl) ?_)))))
  rintro w154 ⟨m155, h2, s153⟩
  refine send (fbg 2 rfl fun _ => wp_ret (rp1 rfl ⟨_, rfl, ldS (lens := lRec) ro112 h2.r⟩ ?_))
  rw [norm_mx hk]
  have hf := (((((hf.drew).s m139).t m144 (by omega)).t m148 (by omega)).t m152 (by omega)).t m155 (by omega)
  exact ⟨_, _, _, ag_rec (r' := { rec0 r l with n1 := m16 r.n1, host := r.host }) (k := 6) hk rfl, ba0, LA.nil, LA.nil, hf⟩
 ·
  obtain ⟨aq, cq, rfl⟩ := ht.form
  refine send ((wp_block (sreg (sv (xtaN ni186 in186 rfl rfl) (sv (xex21 rfl) (sv (xex20 rfl) (send ((cno rfl (sreg (sv (xtaN ni190 in190 rfl rfl) (sv (xex21 rfl) (sv (xex20 rfl) (send ((cno rfl (sreg (sv (xtaN ni193 in193 rfl rfl) (sv (xex21 rfl) (sv (xex20 rfl) (send (ffg 2 4 35 58 59 rfl fun _ => cno rfl (sreg (sv (xtaN ni196 in196 rfl rfl) (sv (xex21 rfl) (sv (xex20 rfl) (send ((cno rfl (sreg (sv (xtaN ni199 in199 rfl rfl) (sv (xex21 rfl) (sv (xex20 rfl) (send ((cno rfl (sreg (sv (xtaN ni202 in202 rfl rfl) (sv (xex21 rfl) (sv (xex20 rfl) (send ((cno rfl (sreg (sv (xtaY ni205 rfl) (sv (xex21 rfl) (sv (xex20 rfl) (send (ffg 2 4 35 135 136 rfl fun _ => cyes rfl (sreg (sA rfl (send (fdg 2 4 11 rfl fun _ => lreg ?_)))))))))))))))))))))))))))))))))))))))))))))))))))))
  refine svK (xslit ([]) sl62 in9 rfl (by decide) rfl rfl rfl rfl (by decide) rfl rfl) ?_
  rintro _ w157 ⟨b137, rfl, m158, h137, e137, s137, r137⟩
  have hsr := hsr.keep m158 (by omega) id
  have ht := ht.keep text_st (lU hU (by omega)) m158 nF
  refine sM rfl (sN rfl (sv (xfld fl207_0 rfl) (sv (xld on62 rfl (hsr.c 0 rfl rfl)) (svK (xapp sl62 in9 rfl (by decide) rfl rfl r137 (LA.strs ht sl62) (by simp only [maxLen]; omega) (by omega)) ?_))))
  rintro _ w159 ⟨g142, r142, m160, a142, l142⟩
  have z161 := m160.size
  obtain ⟨p142, q142, rfl, -⟩ := r142.form
  have h4 := (h4.k m158).keep m160 (nE (by omega))
  refine sv (xfld fl112_5 rfl) (suK (xstF 5 sz3 h4 rfl rfl rfl rfl rfl) ?_)
  rintro w163 ⟨m164, h4, s162⟩
  refine sv (xfld fl112_14 rfl) (suK (xstF 14 sz62 h4 rfl rfl rfl rfl rfl) ?_)
  rintro w166 ⟨m167, h4, s165⟩
  have h2 := (((h2.k m158).keep m160 (nE (by omega))).keep m164 (nE (by omega))).keep m167 (nE (by omega))
  refine lend (nBlock (nThen (fcg 2 4 rfl fun _ => sreg (sv (xldS (lens := lRec) ro112 rfl h4.r) (suK (xstW h2 (lens' := lRec) sz112 rfl rfl rfl rfl rfl) ?_)))))
  rintro w169 ⟨m170, h2, s168⟩
  refine send (fbg 2 rfl fun _ => wp_ret (rp1 rfl ⟨_, rfl, ldS (lens := lRec) ro112 h2.r⟩ ?_))
  rw [norm_txt hk]
  have hf := ((((hf.s m158).t m160 (by omega)).t m164 (by omega)).t m167 (by omega)).t m170 (by omega)
  have r142 := ((r142.keep m164 (nE (by omega))).keep m167 (nE (by omega))).keep m170 (nE (by omega))
  exact ⟨_, _, _, ag_rec (r' := { rec0 r l with texts := r.texts }) (k := 7) hk rfl, ba0, (RA.la (RA.texts (U := NoU) (show Rw _ _ _ _ _ _ (strs r.texts) from r142)) (by decide) text_gr (fun _ h => h.elim) (.inr ⟨by omega, by omega⟩)), LA.nil, hf⟩
 ·
  refine send ((wp_block (sreg (sv (xtaN ni186 in186 rfl rfl) (sv (xex21 rfl) (sv (xex20 rfl) (send ((cno rfl (sreg (sv (xtaN ni190 in190 rfl rfl) (sv (xex21 rfl) (sv (xex20 rfl) (send ((cno rfl (sreg (sv (xtaN ni193 in193 rfl rfl) (sv (xex21 rfl) (sv (xex20 rfl) (send (ffg 2 4 35 58 59 rfl fun _ => cno rfl (sreg (sv (xtaN ni196 in196 rfl rfl) (sv (xex21 rfl) (sv (xex20 rfl) (send ((cno rfl (sreg (sv (xtaN ni199 in199 rfl rfl) (sv (xex21 rfl) (sv (xex20 rfl) (send ((cno rfl (sreg (sv (xtaN ni202 in202 rfl rfl) (sv (xex21 rfl) (sv (xex20 rfl) (send ((cno rfl (sreg (sv (xtaN ni205 in205 rfl rfl) (sv (xex21 rfl) (sv (xex20 rfl) (send (ffg 2 4 35 135 136 rfl fun _ => cno rfl (sreg (sv (xtaY ni208 rfl) (sv (xex21 rfl) (sv (xex20 rfl) (send ((cyes rfl (sreg (sA rfl (send (fdg 2 4 12 rfl fun _ => lreg ?_))))))))))))))))))))))))))))))))))))))))))))))))))))))))))))
  refine svK (xslit (bvs []) sl37 in5 rfl (by decide) rfl rfl rfl rfl (by decide) rfl (bvs_one _)) ?_
  rintro _ w172 ⟨b148, rfl, m173, h148, e148, s148, r148⟩
  have hsr := hsr.keep m173 (by omega) id
  refine sM rfl (sN rfl (sv (xfld fl211_0 rfl) (sv (xcutA ar209 sz5 rfl) (svK (xapp sl37 in5 rfl (by decide) rfl rfl r148 (src_cut (hsr.seg (i := 0) (k := 0) rfl rfl) (fixedL_length _ _)) (by simp only [maxLen]; omega) (by omega)) ?_))))
  rintro _ w174 ⟨g153, r153, m175, a153, l153⟩
  have z176 := m175.size
  obtain ⟨p153, q153, rfl, -⟩ := r153.form
  have h4 := (h4.k m173).keep m175 (nE (by omega))
  refine sv (xfld fl112_5 rfl) (suK (xstF 5 sz3 h4 rfl rfl rfl rfl rfl) ?_)
  rintro w178 ⟨m179, h4, s177⟩
  refine sv (xfld fl112_6 rfl) (suK (xstF 6 sz37 h4 rfl rfl rfl rfl rfl) ?_)
  rintro w181 ⟨m182, h4, s180⟩
  have h2 := (((h2.k m173).keep m175 (nE (by omega))).keep m179 (nE (by omega))).keep m182 (nE (by omega))
  refine lend (nBlock (nThen (fcg 2 4 rfl fun _ => sreg (sv (xldS (lens := lRec) ro112 rfl h4.r) (suK (xstW h2 (lens' := lRec) sz112 rfl rfl rfl rfl rfl) ?_)))))
  rintro w184 ⟨m185, h2, s183⟩
  refine send (fbg 2 rfl fun _ => wp_ret (rp1 rfl ⟨_, rfl, ldS (lens := lRec) ro112 h2.r⟩ ?_))
  rw [norm_aaaa hk]
  have hf := ((((hf.s m173).t m175 (by omega)).t m179 (by omega)).t m182 (by omega)).t m185 (by omega)
  have r153 := ((r153.keep m179 (nE (by omega))).keep m182 (nE (by omega))).keep m185 (nE (by omega))
  exact ⟨_, _, _, ag_rec (r' := { rec0 r l with data := fixedL r.data 16 }) (k := 8) hk rfl, (BR.ba (show BR _ _ _ _ (fixedL r.data 16) from r153) (.inr ⟨by omega, by omega⟩)), LA.nil, LA.nil, hf⟩
 ·
  refine send ((wp_block (sreg (sv (xtaN ni186 in186 rfl rfl) (sv (xex21 rfl) (sv (xex20 rfl) (send ((cno rfl (sreg (sv (xtaN ni190 in190 rfl rfl) (sv (xex21 rfl) (sv (xex20 rfl) (send ((cno rfl (sreg (sv (xtaN ni193 in193 rfl rfl) (sv (xex21 rfl) (sv (xex20 rfl) (send (ffg 2 4 35 58 59 rfl fun _ => cno rfl (sreg (sv (xtaN ni196 in196 rfl rfl) (sv (xex21 rfl) (sv (xex20 rfl) (send ((cno rfl (sreg (sv (xtaN ni199 in199 rfl rfl) (sv (xex21 rfl) (sv (xex20 rfl) (send ((cno rfl (sreg (sv (xtaN ni202 in202 rfl rfl) (sv (xex21 rfl) (sv (xex20 rfl) (send ((cno rfl (sreg (sv (xtaN ni205 in205 rfl rfl) (sv (xex21 rfl) (sv (xex20 rfl) (send (ffg 2 4 35 135 136 rfl fun _ => cno rfl (sreg (sv (xtaN ni208 in208 rfl rfl) (sv (xex21 rfl) (sv (xex20 rfl) (send ((cno rfl (sreg (sv (xtaY ni212 rfl) (sv (xex21 rfl) (sv (xex20 rfl) (send ((cyes rfl (sreg (sA rfl (send (fdg 2 4 13 rfl fun _ => ?_)))))))))))))))))))))))))))))))))))))))))))))))))))))))))))))))))))
  refine ldrawH (Fr (fun k => k = b4) w37.drew) [rd0, rd1, rd2, rd3, rd4, rd5, rd6, rd7, rd8, rd9, rd10, rd11, rd12, rd13, rd14, rd15, rd16, rd17, rd18, rd20, (19, .ld), (21, .ld), rd22, (23, .ld), rd24, (25, .ld), rd26, (27, .ld), rd28, (29, .bh)] mixed (by kernel_rfl) (fun _ _ _ _ _ h => h) ?_
  have z186 : w37.drew.heap.size = w37.heap.size := rfl
  have hsr := hsr.keep (fd w37) (by omega) id
  have zb_hsr := hsr
  have hS187 : Fr (fun k => k = b4) w37.drew w37.drew := Fr.refl _ _
  refine qqM rfl rfl hS187 (qqN rfl rfl hS187 (hvH rfl (fun _ _ => xfld fl214_0 rfl) hS187 (hvH rfl (fun w' hS => xld on22 rfl ((zb_hsr.keep hS (by omega) (nE (by omega))).c 0 rfl rfl)) hS187 (hvH rfl (fun _ _ => xconv hs22 ki61 rfl (wu32n (m16 r.n1).toNat (by rw [m16_nat]; omega))) hS187 (qqM rfl rfl hS187 (qqN rfl rfl hS187 (hvH rfl (fun _ _ => xfld fl214_1 rfl) hS187 (hvH rfl (fun w' hS => xld on22 rfl ((zb_hsr.keep hS (by omega) (nE (by omega))).c 1 rfl rfl)) hS187 (hvH rfl (fun _ _ => xconv hs22 ki61 rfl (wu32n (m16 r.n2).toNat (by rw [m16_nat]; omega))) hS187 (qqM rfl rfl hS187 (qqN rfl rfl hS187 (hvH rfl (fun _ _ => xfld fl214_2 rfl) hS187 (hvH rfl (fun w' hS => xld on22 rfl ((zb_hsr.keep hS (by omega) (nE (by omega))).c 2 rfl rfl)) hS187 (hvH rfl (fun _ _ => xconv hs22 ki61 rfl (wu32n (m16 r.n3).toNat (by rw [m16_nat]; omega))) hS187 (qqM rfl rfl hS187 (qqN rfl rfl hS187 (hvH rfl (fun _ _ => xfld fl214_3 rfl) hS187 (hvH rfl (fun w' hS => xldS (lens := [256]) ro82 rfl ((zb_hsr.keep hS (by omega) (nE (by omega))).sub 3 1 rfl)) hS187 (hvH rfl (fun _ _ => xfld fl112_5 rfl) hS187 ?_)))))))))))))))))))
  refine hcH rfl (xcall ca100 rfl) (c100 (S := bt r.host) (by have := (name_pos (hno.2.1 (by omega))).2; omega)) ?_
  rintro _ w188 ⟨rfl, m189⟩
  have z190 := m189.size
  have hS191 := hS187.s m189
  have h4 := (h4.drew).k m189
  refine ⟨hS191, ?_⟩
  refine hluKH rfl (xstF 5 sz3 h4 rfl rfl rfl rfl rfl) ?_
  rintro w193 ⟨m194, h4, s192⟩
  have hS195 := hS191.step m194 nI
  refine ⟨hS195, ?_⟩
  refine hvH rfl (fun _ _ => xfld fl112_9 rfl) hS195 ?_
  refine hluKH rfl (xstF 9 sz61 h4 rfl rfl rfl rfl rfl) ?_
  rintro w197 ⟨m198, h4, s196⟩
  have hS199 := hS195.step m198 nI
  refine ⟨hS199, ?_⟩
  refine hvH rfl (fun _ _ => xfld fl112_10 rfl) hS199 ?_
  refine hluKH rfl (xstF 10 sz61 h4 rfl rfl rfl rfl rfl) ?_
  rintro w201 ⟨m202, h4, s200⟩
  have hS203 := hS199.step m202 nI
  refine ⟨hS203, ?_⟩
  refine hvH rfl (fun _ _ => xfld fl112_11 rfl) hS203 ?_
  refine hluKH rfl (xstF 11 sz61 h4 rfl rfl rfl rfl rfl) ?_
  rintro w205 ⟨m206, h4, s204⟩
  have hS207 := hS203.step m206 nI
  refine ⟨hS207, ?_⟩
  refine hvH rfl (fun _ _ => xfld fl112_7 rfl) hS207 ?_
  refine bluKH rfl (xstF 7 sz9 h4 rfl rfl rfl rfl rfl) ?_
  rintro w209 ⟨m210, h4, s208⟩
  have h2 := ((((((h2.drew).k m189).keep m194 (nE (by omega))).keep m198 (nE (by omega))).keep m202 (nE (by omega))).keep m206 (nE (by omega))).keep m210 (nE (by omega))
  refine lhendH (nBlock (nThen (fcg 2 4 rfl fun _ => sreg (sv (xldS (lens := lRec) ro112 rfl h4.r) (suK (xstW h2 (lens' := lRec) sz112 rfl rfl rfl rfl rfl) ?_)))))
  rintro w212 ⟨m213, h2, s211⟩
  refine send (fbg 2 rfl fun _ => wp_ret (rp1 rfl ⟨_, rfl, ldS (lens := lRec) ro112 h2.r⟩ ?_))
  rw [norm_srv hk]
  have hf := (((((((hf.drew).s m189).t m194 (by omega)).t m198 (by omega)).t m202 (by omega)).t m206 (by omega)).t m210 (by omega)).t m213 (by omega)
  exact ⟨_, _, _, ag_rec (r' := { rec0 r l with n1 := m16 r.n1, n2 := m16 r.n2, n3 := m16 r.n3, host := r.host }) (k := 9) hk rfl, ba0, LA.nil, LA.nil, hf⟩
 ·
  obtain ⟨aq, cq, rfl⟩ := hp.form
  refine send ((wp_block (sreg (sv (xtaN ni186 in186 rfl rfl) (sv (xex21 rfl) (sv (xex20 rfl) (send ((cno rfl (sreg (sv (xtaN ni190 in190 rfl rfl) (sv (xex21 rfl) (sv (xex20 rfl) (send ((cno rfl (sreg (sv (xtaN ni193 in193 rfl rfl) (sv (xex21 rfl) (sv (xex20 rfl) (send (ffg 2 4 35 58 59 rfl fun _ => cno rfl (sreg (sv (xtaN ni196 in196 rfl rfl) (sv (xex21 rfl) (sv (xex20 rfl) (send ((cno rfl (sreg (sv (xtaN ni199 in199 rfl rfl) (sv (xex21 rfl) (sv (xex20 rfl) (send ((cno rfl (sreg (sv (xtaN ni202 in202 rfl rfl) (sv (xex21 rfl) (sv (xex20 rfl) (send ((cno rfl (sreg (sv (xtaN ni205 in205 rfl rfl) (sv (xex21 rfl) (sv (xex20 rfl) (send (ffg 2 4 35 135 136 rfl fun _ => cno rfl (sreg (sv (xtaN ni208 in208 rfl rfl) (sv (xex21 rfl) (sv (xex20 rfl) (send ((cno rfl (sreg (sv (xtaN ni212 in212 rfl rfl) (sv (xex21 rfl) (sv (xex20 rfl) (send ((cno rfl (sreg (sv (xtaY ni215 rfl) (sv (xex21 rfl) (sv (xex20 rfl) (send (ffg 2 4 35 185 186 rfl fun _ => cyes rfl (sreg (sA rfl ?_)))))))))))))))))))))))))))))))))))))))))))))))))))))))))))))))))))))))
  refine send (fdg 2 4 14 rfl fun _ => sreg (sv (xfld fl112_5 rfl) (suK (xstF 5 sz3 h4 rfl rfl rfl rfl rfl) ?_)))
  rintro w215 ⟨m216, h4, s214⟩
  have hsr := hsr.keep m216 (by omega) (nE (by omega))
  have hp := hp.keep pair_st (lU hU (by omega)) m216 (nU hU (by omega))
  refine send ((sreg (sM rfl (sN rfl (sv (xfld fl218_0 rfl) (sv (xld on216 rfl (hsr.c 0 rfl rfl)) (sv (xlen sl216 rfl) (sM rfl (send (ffg 2 4 191 192 193 rfl fun _ => wp_block (lp [(2, _), (4, _), (191, _), (192, _)] (fun (x : Nat × Value × Nat) => match x with | (k, v, g) => [(193, .int .i64 (k : Int))]) (fun (x : Nat × Value × Nat) wx => match x with | (k, v, g) => Fr (fun k => k = b4) w215 wx ∧ (k ≤ r.pairs.length) ∧ (SB wx b4 lRec ([[.string r.name], [.int .u16 ((typeN r).toNat : Int)], [.int .u16 (r.cls.toNat : Int)], [.int .u32 (r.ttl.toNat : Int)], [.int .u16 (l.toNat : Int)], [.int .i64 10], [.slice none 0 0], [.string emptyB], [.string emptyB], [.int .u32 0], [.int .u32 0], [.int .u32 0], [.int .u32 0], [.int .u32 0], [.slice none 0 0], [v]])) ∧ ((v = .slice none 0 0 ∧ k = 0) ∨ (RX PairEl lPair U (b4 + 1) wx.heap.size wx v g 145 k (r.pairs.take k) ∧ b4 < g ∧ g < wx.heap.size ∧ w215.heap.size ≤ g))) (fun (x : Nat × Value × Nat) => match x with | (k, v, g) => r.pairs.length - k) (0, .slice none 0 0, 0) ⟨rfl, rfl, rfl, rfl, rfl, trivial⟩ ⟨Fr.refl _ _, Nat.zero_le _, h4, .inl ⟨rfl, rfl⟩⟩ ?_)))))))))))
  rintro ⟨k, v, g⟩ _ w218 ⟨hL217, hki, h4, hnv⟩
  refine ffg 2 4 191 192 193 rfl fun _ => ?_
  have z219 := hL217.size
  have hf := (hf.t m216 (by omega)).t hL217 (by omega)
  have h2 := (h2.keep m216 (nE (by omega))).keep hL217 (nE (by omega))
  have hsr := hsr.keep hL217 (by omega) (nE (by omega))
  have hp := hp.keep pair_st (lU hU (by omega)) hL217 (nU hU (by omega))
  rcases hnv with ⟨rfl, hk0⟩ | ⟨hv3, hg1, hg2, hg3⟩
  ·
   refine sreg (svP (xlss rfl rfl) (fun hc194 => ?_) (fun hc194 => ?_))
   rotate_left
   ·
    refine send ((wp_seq (cno rfl (wp_exit (eThen (eThen (eHit (nBlock (nThen (fcg 2 4 rfl fun _ => sreg (sv (xldS (lens := lRec) ro112 rfl h4.r) (suK (xstW h2 (lens' := lRec) sz112 rfl rfl rfl rfl rfl) ?_))))))))))))
    rintro w248 ⟨m249, h2, s247⟩
    refine send (fbg 2 rfl fun _ => wp_ret (rp1 rfl ⟨_, rfl, ldS (lens := lRec) ro112 h2.r⟩ ?_))
    have hkl : r.pairs.length ≤ k := by omega
    have hke : r.pairs.take k = r.pairs := List.take_of_length_le hkl
    have hr0 : r.pairs = [] := List.eq_nil_of_length_eq_zero (by omega)
    rw [norm_opt hk]
    have hf := hf.t m249 (by omega)
    exact ⟨_, _, _, ag_rec (r' := { rec0 r l with pairs := r.pairs }) (k := 10) hk rfl, ba0, LA.nil, (by show LA PairEl lPair _ _ _ r.pairs; rw [hr0]; exact LA.nil), hf⟩
   refine send ((wp_seq (cyes rfl (wp_skip (nThen (ffg 2 4 191 192 193 rfl fun _ => wp_seq (wp_block ?_)))))))
   obtain ⟨p, hpk⟩ := some_of_lt (by omega : k < r.pairs.length)
   refine sreg ?_
   obtain ⟨bE195, oE195, sgE195, rfl, uE195, hsE195, heE195⟩ := LA.get hp hpk
   obtain ⟨vd, rfl, hd⟩ := heE195
   have zE195 := hU _ uE195
   obtain ⟨ad, cd, rfl, -⟩ := id hd
   have hpdl := hpd p (List.mem_of_getElem? hpk)
   refine sv (xidx sl216 sz220 rfl rfl rfl (by omega)) (sv (xldS (lens := [1, 1]) ro220 rfl hsE195) (svK (xallS (lens := [1, 1]) in220 (by simp [])) ?_))
   rintro _ w221 ⟨b16, rfl, m222, h16, e220, s220⟩
   refine suK (xstW h16 (lens' := [1, 1]) sz220 rfl rfl rfl rfl rfl) ?_
   rintro w224 ⟨m225, h16, s223⟩
   refine send (fgg 2 4 16 191 192 193 rfl fun _ => ?_)
   refine ldrawH (Fr (fun _ => False) w224.drew) [rd0, rd1, rd2, rd3, rd5, rd6, ld4, ld7, rd8, ld9, ld10, rd11, bh12] mixed (by kernel_rfl) (fun _ _ _ _ _ h => h) ?_
   have z226 : w224.drew.heap.size = w224.heap.size := rfl
   have h4 := ((h4.k m222).keep m225 (nE (by omega))).drew
   have zb_h4 := h4
   have h16 := h16.drew
   have zb_h16 := h16
   have hS227 : Fr (fun _ => False) w224.drew w224.drew := Fr.refl _ _
   refine hvH rfl (fun _ _ => xfld fl112_15 rfl) hS227 (hvH rfl (fun w' hS => xld on110 rfl ((zb_h4.k hS).r.c 15 rfl rfl)) hS227 (hvH rfl (fun _ _ => xfld fl220_0 rfl) hS227 (hvH rfl (fun w' hS => xld on22 rfl ((zb_h16.k hS).r.c 0 rfl rfl)) hS227 (hvH rfl (fun _ _ => xfld fl220_1 rfl) hS227 (hvH rfl (fun w' hS => xld on37 rfl ((zb_h16.k hS).r.c 1 rfl rfl)) hS227 ?_)))))
   refine hlKH rfl (xslit (bvs []) sl37 in5 rfl (by decide) rfl rfl rfl rfl (by decide) rfl (bvs_one _)) ?_
   rintro _ w229 ⟨b201, rfl, m230, h201, e201, s201, r201⟩
   have hS231 := hS227.s m230
   have hd := (((hd.keep (lU hU (by omega)) m222 nF).keep (lU hU (by omega)) m225 (nU hU (by omega))).keep (lU hU (by omega)) (fd w224) nF).keep (lU hU (by omega)) m230 nF
   refine ⟨hS231, ?_⟩
   refine hlKH rfl (xapp sl37 in5 rfl (by decide) rfl rfl r201 (hd.src sl37) (by simp only [maxLen]; omega) (by omega)) ?_
   rintro _ w232 ⟨g204, r204, m233, a204, l204⟩
   have z234 := m233.size
   have hS235 := hS231.t m233 (by omega)
   obtain ⟨p204, q204, rfl, -⟩ := r204.form
   refine ⟨hS235, ?_⟩
   refine hvH rfl (fun _ _ => xbuildS (pairSegs p (.slice p204 (0 + p.data.length) q204)) zr145 ly145 rfl (by simp [fitAll, zs145, Value.cells]) rfl) hS235 ?_
   refine hlKH rfl (xslit ((pairSegs p (.slice p204 (0 + p.data.length) q204)).flatten) sl110 in145 rfl (by decide) rfl rfl rfl rfl (by decide) rfl rfl) ?_
   rintro _ w237 ⟨b206, rfl, m238, h206, e206, s206, r206⟩
   have hS239 := hS235.s m238
   refine ⟨hS239, ?_⟩
   have hv3 : RX PairEl lPair U (b4 + 1) w237.heap.size w237 (.slice none 0 0) w237.heap.size 145 k (r.pairs.take k) := by rw [hk0]; exact RX.ofNil (Rw.nil _ _ _ _)
   obtain ⟨ss207, hR207, hA207⟩ := hv3
   refine hlKH rfl (xapp sl110 in145 rfl (by decide) rfl rfl hR207 (r206.src sl110) (by simp only [maxLen]; omega) (by omega)) ?_
   rintro v207 w240 ⟨g207, r207, m241, a207, l207⟩
   have z242 := m241.size
   have hS243 := hS239.step m241 (fun k hk hS => by have hS : k = w237.heap.size := hS; show False; omega)
   have r204 := (r204.k m238).keep m241 (by show ¬ (g204 = w237.heap.size); omega)
   have hv3 := RX.snoc (x := p) w240.heap.size hA207 pair_st pair_gr (lU hU (by omega)) (by omega) (by omega) m241 a207 r207 rfl (⟨_, rfl, BR.ba (show BR _ _ _ _ p.data from r204) ⟨.inr ⟨by omega, by omega⟩, by omega⟩⟩)
   have h4 := (((h4.k m230).keep m233 (nE (by omega))).k m238).keep m241 (by show ¬ (b4 = w237.heap.size); omega)
   refine ⟨hS243, ?_⟩
   refine hvH rfl (fun _ _ => xfld fl112_15 rfl) hS243 ?_
   refine bluKH rfl (xstF 15 sz110 h4 rfl rfl rfl rfl (by obtain ⟨_, _, rfl⟩ := RA.form hv3; rfl)) ?_
   rintro w245 ⟨m246, h4, s244⟩
   have hL217 := (((((((hL217.s m222).step m225 (fun k hk hS => by have hS : k = b16 := hS; show k = b4; omega)).drew).s m230).step m233 (fun k hk hS => by have hS : k = b201 := hS; show k = b4; omega)).s m238).step m241 (fun k hk hS => by have hS : k = w237.heap.size := hS; show k = b4; omega)).step m246 nI
   have hv3 := RX.keep hv3 pair_st (lU hU (by omega)) (by omega) m246 (fun k hk hk3 hS => by have hS : k = b4 := hS; rcases hk with hk | hk <;> first | omega | (have := hU k hk; omega)) (nE (by omega))
   refine lhendH (nBlock (nThen (ffg 2 4 191 192 193 rfl fun _ => lreg (sv (xadd rfl rfl (w64 (by omega) (by omega))) (sM rfl (lend (nThen ?_)))))))
   refine ⟨(k + 1, _, g207), _, env_okl ⟨rfl, rfl, rfl, rfl, rfl, trivial⟩, ⟨hL217, (by omega), (h4), (.inr ⟨by rw [take_snoc hpk]; exact RX.up pair_gr hv3 (by omega), by omega, by have hq := l207 (by omega); omega, by omega⟩)⟩, ?_⟩
   show r.pairs.length - (k + 1) < r.pairs.length - k; omega
  obtain ⟨a3, c3, rfl⟩ := RA.form hv3
  refine sreg (svP (xlss rfl rfl) (fun hc194 => ?_) (fun hc194 => ?_))
  rotate_left
  ·
   refine send ((wp_seq (cno rfl (wp_exit (eThen (eThen (eHit (nBlock (nThen (fcg 2 4 rfl fun _ => sreg (sv (xldS (lens := lRec) ro112 rfl h4.r) (suK (xstW h2 (lens' := lRec) sz112 rfl rfl rfl rfl rfl) ?_))))))))))))
   rintro w278 ⟨m279, h2, s277⟩
   refine send (fbg 2 rfl fun _ => wp_ret (rp1 rfl ⟨_, rfl, ldS (lens := lRec) ro112 h2.r⟩ ?_))
   have hkl : r.pairs.length ≤ k := by omega
   have hke : r.pairs.take k = r.pairs := List.take_of_length_le hkl
   have hv3 := RX.keep hv3 pair_st (lU hU (by omega)) (by omega) m279 (fun k hk hk3 hS => by have hS : k = b2 := hS; rcases hk with hk | hk <;> first | omega | (have := hU k hk; omega)) (nE (by omega))
   rw [hke] at hv3
   have hp := hp.keep pair_st (lU hU (by omega)) m279 (nU hU (by omega))
   obtain rfl : k = r.pairs.length := by omega
   rw [norm_opt hk]
   have hf := hf.t m279 (by omega)
   exact ⟨_, _, _, ag_rec (r' := { rec0 r l with pairs := r.pairs }) (k := 10) hk rfl, ba0, LA.nil, (RX.la hv3 (by decide) pair_gr (fun k hk => hk.elim .inl (fun h => .inr ⟨by omega, by omega⟩)) (.inr ⟨by omega, by omega⟩)), hf⟩
  refine send ((wp_seq (cyes rfl (wp_skip (nThen (ffg 2 4 191 192 193 rfl fun _ => wp_seq (wp_block ?_)))))))
  obtain ⟨p, hpk⟩ := some_of_lt (by omega : k < r.pairs.length)
  refine sreg ?_
  obtain ⟨bE195, oE195, sgE195, rfl, uE195, hsE195, heE195⟩ := LA.get hp hpk
  obtain ⟨vd, rfl, hd⟩ := heE195
  have zE195 := hU _ uE195
  obtain ⟨ad, cd, rfl, -⟩ := id hd
  have hpdl := hpd p (List.mem_of_getElem? hpk)
  refine sv (xidx sl216 sz220 rfl rfl rfl (by omega)) (sv (xldS (lens := [1, 1]) ro220 rfl hsE195) (svK (xallS (lens := [1, 1]) in220 (by simp [])) ?_))
  rintro _ w251 ⟨b16, rfl, m252, h16, e250, s250⟩
  refine suK (xstW h16 (lens' := [1, 1]) sz220 rfl rfl rfl rfl rfl) ?_
  rintro w254 ⟨m255, h16, s253⟩
  refine send (fgg 2 4 16 191 192 193 rfl fun _ => ?_)
  refine ldrawH (Fr (fun k => k = g) w254.drew) [rd0, rd1, rd2, rd3, rd5, rd6, ld4, ld7, rd8, ld9, ld10, rd11, bh12] mixed (by kernel_rfl) (fun _ _ _ _ _ h => h) ?_
  have z256 : w254.drew.heap.size = w254.heap.size := rfl
  have h4 := ((h4.k m252).keep m255 (nE (by omega))).drew
  have zb_h4 := h4
  have h16 := h16.drew
  have zb_h16 := h16
  have hS257 : Fr (fun k => k = g) w254.drew w254.drew := Fr.refl _ _
  have hv3 := RX.keep (RX.keep (RX.keep hv3 pair_st (lU hU (by omega)) (by omega) m252 (fun _ _ _ h => h) id) pair_st (lU hU (by omega)) (by omega) m255 (fun k hk hk3 hS => by have hS : k = b16 := hS; rcases hk with hk | hk <;> first | omega | (have := hU k hk; omega)) (nE (by omega))) pair_st (lU hU (by omega)) (by omega) (fd w254) (fun _ _ _ h => h) id
  refine hvH rfl (fun _ _ => xfld fl112_15 rfl) hS257 (hvH rfl (fun w' hS => xld on110 rfl ((zb_h4.keep hS (nE (by omega))).r.c 15 rfl rfl)) hS257 (hvH rfl (fun _ _ => xfld fl220_0 rfl) hS257 (hvH rfl (fun w' hS => xld on22 rfl ((zb_h16.keep hS (nE (by omega))).r.c 0 rfl rfl)) hS257 (hvH rfl (fun _ _ => xfld fl220_1 rfl) hS257 (hvH rfl (fun w' hS => xld on37 rfl ((zb_h16.keep hS (nE (by omega))).r.c 1 rfl rfl)) hS257 ?_)))))
  refine hlKH rfl (xslit (bvs []) sl37 in5 rfl (by decide) rfl rfl rfl rfl (by decide) rfl (bvs_one _)) ?_
  rintro _ w259 ⟨b201, rfl, m260, h201, e201, s201, r201⟩
  have hS261 := hS257.s m260
  have hd := (((hd.keep (lU hU (by omega)) m252 nF).keep (lU hU (by omega)) m255 (nU hU (by omega))).keep (lU hU (by omega)) (fd w254) nF).keep (lU hU (by omega)) m260 nF
  have hv3 := RX.keep hv3 pair_st (lU hU (by omega)) (by omega) m260 (fun _ _ _ h => h) id
  refine ⟨hS261, ?_⟩
  refine hlKH rfl (xapp sl37 in5 rfl (by decide) rfl rfl r201 (hd.src sl37) (by simp only [maxLen]; omega) (by omega)) ?_
  rintro _ w262 ⟨g204, r204, m263, a204, l204⟩
  have z264 := m263.size
  have hS265 := hS261.step m263 (fun k hk hS => by have hS : k = b201 := hS; show k = g; omega)
  obtain ⟨p204, q204, rfl, -⟩ := r204.form
  refine ⟨hS265, ?_⟩
  refine hvH rfl (fun _ _ => xbuildS (pairSegs p (.slice p204 (0 + p.data.length) q204)) zr145 ly145 rfl (by simp [fitAll, zs145, Value.cells]) rfl) hS265 ?_
  refine hlKH rfl (xslit ((pairSegs p (.slice p204 (0 + p.data.length) q204)).flatten) sl110 in145 rfl (by decide) rfl rfl rfl rfl (by decide) rfl rfl) ?_
  rintro _ w267 ⟨b206, rfl, m268, h206, e206, s206, r206⟩
  have hS269 := hS265.s m268
  have hv3 := RX.keep (RX.keep hv3 pair_st (lU hU (by omega)) (by omega) m263 (fun k hk hk3 hS => by have hS : k = b201 := hS; rcases hk with hk | hk <;> first | omega | (have := hU k hk; omega)) (nE (by omega))) pair_st (lU hU (by omega)) (by omega) m268 (fun _ _ _ h => h) id
  refine ⟨hS269, ?_⟩
  obtain ⟨ss207, hR207, hA207⟩ := hv3
  refine hlKH rfl (xapp sl110 in145 rfl (by decide) rfl rfl hR207 (r206.src sl110) (by simp only [maxLen]; omega) (by omega)) ?_
  rintro v207 w270 ⟨g207, r207, m271, a207, l207⟩
  have z272 := m271.size
  have hS273 := hS269.step m271 nI
  have r204 := (r204.k m268).keep m271 (nE (by omega))
  have hv3 := RX.snoc (x := p) w270.heap.size hA207 pair_st pair_gr (lU hU (by omega)) (by omega) (by omega) m271 a207 r207 rfl (⟨_, rfl, BR.ba (show BR _ _ _ _ p.data from r204) ⟨.inr ⟨by omega, by omega⟩, by omega⟩⟩)
  have h4 := (((h4.k m260).keep m263 (nE (by omega))).k m268).keep m271 (nE (by omega))
  refine ⟨hS273, ?_⟩
  refine hvH rfl (fun _ _ => xfld fl112_15 rfl) hS273 ?_
  refine bluKH rfl (xstF 15 sz110 h4 rfl rfl rfl rfl (by obtain ⟨_, _, rfl⟩ := RA.form hv3; rfl)) ?_
  rintro w275 ⟨m276, h4, s274⟩
  have hL217 := (((((((hL217.s m252).step m255 (fun k hk hS => by have hS : k = b16 := hS; show k = b4; omega)).drew).s m260).step m263 (fun k hk hS => by have hS : k = b201 := hS; show k = b4; omega)).s m268).step m271 (fun k hk hS => by have hS : k = g := hS; show k = b4; omega)).step m276 nI
  have hv3 := RX.keep hv3 pair_st (lU hU (by omega)) (by omega) m276 (fun k hk hk3 hS => by have hS : k = b4 := hS; rcases hk with hk | hk <;> first | omega | (have := hU k hk; omega)) (nE (by omega))
  refine lhendH (nBlock (nThen (ffg 2 4 191 192 193 rfl fun _ => lreg (sv (xadd rfl rfl (w64 (by omega) (by omega))) (sM rfl (lend (nThen ?_)))))))
  refine ⟨(k + 1, _, g207), _, env_okl ⟨rfl, rfl, rfl, rfl, rfl, trivial⟩, ⟨hL217, (by omega), (h4), (.inr ⟨by rw [take_snoc hpk]; exact RX.up pair_gr hv3 (by omega), by omega, by have hq := l207 (by omega); omega, by omega⟩)⟩, ?_⟩
  show r.pairs.length - (k + 1) < r.pairs.length - k; omega
 ·
  obtain ⟨aq, cq, rfl⟩ := hp.form
  refine send ((wp_block (sreg (sv (xtaN ni186 in186 rfl rfl) (sv (xex21 rfl) (sv (xex20 rfl) (send ((cno rfl (sreg (sv (xtaN ni190 in190 rfl rfl) (sv (xex21 rfl) (sv (xex20 rfl) (send ((cno rfl (sreg (sv (xtaN ni193 in193 rfl rfl) (sv (xex21 rfl) (sv (xex20 rfl) (send (ffg 2 4 35 58 59 rfl fun _ => cno rfl (sreg (sv (xtaN ni196 in196 rfl rfl) (sv (xex21 rfl) (sv (xex20 rfl) (send ((cno rfl (sreg (sv (xtaN ni199 in199 rfl rfl) (sv (xex21 rfl) (sv (xex20 rfl) (send ((cno rfl (sreg (sv (xtaN ni202 in202 rfl rfl) (sv (xex21 rfl) (sv (xex20 rfl) (send ((cno rfl (sreg (sv (xtaN ni205 in205 rfl rfl) (sv (xex21 rfl) (sv (xex20 rfl) (send (ffg 2 4 35 135 136 rfl fun _ => cno rfl (sreg (sv (xtaN ni208 in208 rfl rfl) (sv (xex21 rfl) (sv (xex20 rfl) (send ((cno rfl (sreg (sv (xtaN ni212 in212 rfl rfl) (sv (xex21 rfl) (sv (xex20 rfl) (send ((cno rfl (sreg (sv (xtaN ni215 in215 rfl rfl) (sv (xex21 rfl) (sv (xex20 rfl) (send (ffg 2 4 35 185 186 rfl fun _ => cno rfl (sreg (sv (xtaY ni221 rfl) ?_)))))))))))))))))))))))))))))))))))))))))))))))))))))))))))))))))))))))
  refine sv (xex21 rfl) (sv (xex20 rfl) (send ((cyes rfl (sreg (sA rfl (send (fdg 2 4 17 rfl fun _ => ?_))))))))
  refine ldrawH (Fr (fun k => k = b4) w37.drew) [rd0, rd1, rd2, rd3, rd4, rd5, rd6, rd7, rd8, rd10, rd11, rd12, rd13, rd15, ld9, ld14, (16, .ld), rd17, (18, .ld), rd19, (20, .ld), rd21, (22, .bh)] mixed (by kernel_rfl) (fun _ _ _ _ _ h => h) ?_
  have z280 : w37.drew.heap.size = w37.heap.size := rfl
  have hsr := hsr.keep (fd w37) (by omega) id
  have zb_hsr := hsr
  have hS281 : Fr (fun k => k = b4) w37.drew w37.drew := Fr.refl _ _
  refine qqM rfl rfl hS281 (qqN rfl rfl hS281 (hvH rfl (fun _ _ => xfld fl224_0 rfl) hS281 (hvH rfl (fun w' hS => xld on22 rfl ((zb_hsr.keep hS (by omega) (nE (by omega))).c 0 rfl rfl)) hS281 (hvH rfl (fun _ _ => xconv hs22 ki61 rfl (wu32n (m16 r.n1).toNat (by rw [m16_nat]; omega))) hS281 (qqM rfl rfl hS281 (qqN rfl rfl hS281 (hvH rfl (fun _ _ => xfld fl224_1 rfl) hS281 (hvH rfl (fun w' hS => xldS (lens := [256]) ro82 rfl ((zb_hsr.keep hS (by omega) (nE (by omega))).sub 1 1 rfl)) hS281 (qqM rfl rfl hS281 (qqN rfl rfl hS281 (hvH rfl (fun _ _ => xfld fl224_2 rfl) hS281 (hvH rfl (fun w' hS => xld on222 rfl ((zb_hsr.keep hS (by omega) (nE (by omega))).c 2 rfl rfl)) hS281 (hvH rfl (fun _ _ => xfld fl112_5 rfl) hS281 ?_)))))))))))))
  refine hcH rfl (xcall ca100 rfl) (c100 (S := bt r.host) (by have := (name_pos (hno.2.1 (by omega))).2; omega)) ?_
  rintro _ w282 ⟨rfl, m283⟩
  have z284 := m283.size
  have hS285 := hS281.s m283
  have hp := (hp.keep pair_st (lU hU (by omega)) (fd w37) nF).keep pair_st (lU hU (by omega)) m283 nF
  refine ⟨hS285, ?_⟩
  refine hcH rfl (xcall ca109 rfl) (c109 (U := U) (lU hU (by omega)) hp hpn (fun q hq => by have := hpd q hq; omega)) ?_
  rintro v227 w286 ⟨L227, m287⟩
  have z288 := m287.size
  have hS289 := hS285.s m287
  obtain ⟨av227, cv227, rfl⟩ := L227.form
  have h4 := ((h4.drew).k m283).k m287
  refine ⟨hS289, ?_⟩
  refine hluKH rfl (xstF 5 sz3 h4 rfl rfl rfl rfl rfl) ?_
  rintro w291 ⟨m292, h4, s290⟩
  have hS293 := hS289.step m292 nI
  refine ⟨hS293, ?_⟩
  refine hvH rfl (fun _ _ => xfld fl112_9 rfl) hS293 ?_
  refine hluKH rfl (xstF 9 sz61 h4 rfl rfl rfl rfl rfl) ?_
  rintro w295 ⟨m296, h4, s294⟩
  have hS297 := hS293.step m296 nI
  refine ⟨hS297, ?_⟩
  refine hvH rfl (fun _ _ => xfld fl112_7 rfl) hS297 ?_
  refine hluKH rfl (xstF 7 sz9 h4 rfl rfl rfl rfl rfl) ?_
  rintro w299 ⟨m300, h4, s298⟩
  have hS301 := hS297.step m300 nI
  refine ⟨hS301, ?_⟩
  refine hvH rfl (fun _ _ => xfld fl112_15 rfl) hS301 ?_
  refine bluKH rfl (xstF 15 sz110 h4 rfl rfl rfl rfl rfl) ?_
  rintro w303 ⟨m304, h4, s302⟩
  have h2 := ((((((h2.drew).k m283).k m287).keep m292 (nE (by omega))).keep m296 (nE (by omega))).keep m300 (nE (by omega))).keep m304 (nE (by omega))
  refine lhendH (nBlock (nThen (fcg 2 4 rfl fun _ => sreg (sv (xldS (lens := lRec) ro112 rfl h4.r) (suK (xstW h2 (lens' := lRec) sz112 rfl rfl rfl rfl rfl) ?_)))))
  rintro w306 ⟨m307, h2, s305⟩
  refine send (fbg 2 rfl fun _ => wp_ret (rp1 rfl ⟨_, rfl, ldS (lens := lRec) ro112 h2.r⟩ ?_))
  rw [norm_svc (by omega)]
  have hf := (((((((hf.drew).s m283).s m287).t m292 (by omega)).t m296 (by omega)).t m300 (by omega)).t m304 (by omega)).t m307 (by omega)
  have L227 := ((((L227.keep pair_st (lUb hU (by omega) (by omega)) m292 (nUb hU (by omega) (by omega))).keep pair_st (lUb hU (by omega) (by omega)) m296 (nUb hU (by omega) (by omega))).keep pair_st (lUb hU (by omega) (by omega)) m300 (nUb hU (by omega) (by omega))).keep pair_st (lUb hU (by omega) (by omega)) m304 (nUb hU (by omega) (by omega))).keep pair_st (lUb hU (by omega) (by omega)) m307 (nUb hU (by omega) (by omega))
  exact ⟨_, _, _, ag_rec (r' := { rec0 r l with n1 := m16 r.n1, host := r.host, pairs := r.pairs }) (k := 11) hk rfl, ba0, LA.nil, (L227.mono pair_gr (fun k hk => hk.elim .inl (fun h => .inr ⟨by omega, by omega⟩))), hf⟩
 ·
  obtain ⟨aq, cq, rfl⟩ := hp.form
  refine send ((wp_block (sreg (sv (xtaN ni186 in186 rfl rfl) (sv (xex21 rfl) (sv (xex20 rfl) (send ((cno rfl (sreg (sv (xtaN ni190 in190 rfl rfl) (sv (xex21 rfl) (sv (xex20 rfl) (send ((cno rfl (sreg (sv (xtaN ni193 in193 rfl rfl) (sv (xex21 rfl) (sv (xex20 rfl) (send (ffg 2 4 35 58 59 rfl fun _ => cno rfl (sreg (sv (xtaN ni196 in196 rfl rfl) (sv (xex21 rfl) (sv (xex20 rfl) (send ((cno rfl (sreg (sv (xtaN ni199 in199 rfl rfl) (sv (xex21 rfl) (sv (xex20 rfl) (send ((cno rfl (sreg (sv (xtaN ni202 in202 rfl rfl) (sv (xex21 rfl) (sv (xex20 rfl) (send ((cno rfl (sreg (sv (xtaN ni205 in205 rfl rfl) (sv (xex21 rfl) (sv (xex20 rfl) (send (ffg 2 4 35 135 136 rfl fun _ => cno rfl (sreg (sv (xtaN ni208 in208 rfl rfl) (sv (xex21 rfl) (sv (xex20 rfl) (send ((cno rfl (sreg (sv (xtaN ni212 in212 rfl rfl) (sv (xex21 rfl) (sv (xex20 rfl) (send ((cno rfl (sreg (sv (xtaN ni215 in215 rfl rfl) (sv (xex21 rfl) (sv (xex20 rfl) (send (ffg 2 4 35 185 186 rfl fun _ => cno rfl (sreg (sv (xtaN ni221 in221 rfl rfl) ?_)))))))))))))))))))))))))))))))))))))))))))))))))))))))))))))))))))))))
  refine sv (xex21 rfl) (sv (xex20 rfl) (send ((cno rfl (sreg (sv (xtaY ni226 rfl) (sv (xex21 rfl) (sv (xex20 rfl) (send ((cyes rfl (sreg (sA rfl (send (fdg 2 4 18 rfl fun _ => ?_)))))))))))))))
  refine ldrawH (Fr (fun k => k = b4) w37.drew) [rd0, rd1, rd2, rd3, rd4, rd5, rd6, rd7, rd8, rd9, rd10, rd12, rd13, rd14, rd15, rd16, rd18, ld11, (17, .ld), (19, .ld), rd20, (21, .ld), rd22, (23, .ld), rd24, (25, .bh)] mixed (by kernel_rfl) (fun _ _ _ _ _ h => h) ?_
  have z308 : w37.drew.heap.size = w37.heap.size := rfl
  have hsr := hsr.keep (fd w37) (by omega) id
  have zb_hsr := hsr
  have hS309 : Fr (fun k => k = b4) w37.drew w37.drew := Fr.refl _ _
  refine qqM rfl rfl hS309 (qqN rfl rfl hS309 (hvH rfl (fun _ _ => xfld fl228_0 rfl) hS309 (hvH rfl (fun _ _ => xfld fl224_0 rfl) hS309 (hvH rfl (fun w' hS => xld on22 rfl ((zb_hsr.keep hS (by omega) (nE (by omega))).c 0 rfl rfl)) hS309 (hvH rfl (fun _ _ => xconv hs22 ki61 rfl (wu32n (m16 r.n1).toNat (by rw [m16_nat]; omega))) hS309 (qqM rfl rfl hS309 (qqN rfl rfl hS309 (hvH rfl (fun _ _ => xfld fl228_0 rfl) hS309 (hvH rfl (fun _ _ => xfld fl224_1 rfl) hS309 (hvH rfl (fun w' hS => xldS (lens := [256]) ro82 rfl ((zb_hsr.keep hS (by omega) (nE (by omega))).sub 1 1 rfl)) hS309 (qqM rfl rfl hS309 (qqN rfl rfl hS309 (hvH rfl (fun _ _ => xfld fl228_0 rfl) hS309 (hvH rfl (fun _ _ => xfld fl224_2 rfl) hS309 (hvH rfl (fun w' hS => xld on222 rfl ((zb_hsr.keep hS (by omega) (nE (by omega))).c 2 rfl rfl)) hS309 (hvH rfl (fun _ _ => xfld fl112_5 rfl) hS309 ?_))))))))))))))))
  refine hcH rfl (xcall ca100 rfl) (c100 (S := bt r.host) (by have := (name_pos (hno.2.1 (by omega))).2; omega)) ?_
  rintro _ w310 ⟨rfl, m311⟩
  have z312 := m311.size
  have hS313 := hS309.s m311
  have hp := (hp.keep pair_st (lU hU (by omega)) (fd w37) nF).keep pair_st (lU hU (by omega)) m311 nF
  refine ⟨hS313, ?_⟩
  refine hcH rfl (xcall ca109 rfl) (c109 (U := U) (lU hU (by omega)) hp hpn (fun q hq => by have := hpd q hq; omega)) ?_
  rintro v252 w314 ⟨L252, m315⟩
  have z316 := m315.size
  have hS317 := hS313.s m315
  obtain ⟨av252, cv252, rfl⟩ := L252.form
  have h4 := ((h4.drew).k m311).k m315
  refine ⟨hS317, ?_⟩
  refine hluKH rfl (xstF 5 sz3 h4 rfl rfl rfl rfl rfl) ?_
  rintro w319 ⟨m320, h4, s318⟩
  have hS321 := hS317.step m320 nI
  refine ⟨hS321, ?_⟩
  refine hvH rfl (fun _ _ => xfld fl112_9 rfl) hS321 ?_
  refine hluKH rfl (xstF 9 sz61 h4 rfl rfl rfl rfl rfl) ?_
  rintro w323 ⟨m324, h4, s322⟩
  have hS325 := hS321.step m324 nI
  refine ⟨hS325, ?_⟩
  refine hvH rfl (fun _ _ => xfld fl112_7 rfl) hS325 ?_
  refine hluKH rfl (xstF 7 sz9 h4 rfl rfl rfl rfl rfl) ?_
  rintro w327 ⟨m328, h4, s326⟩
  have hS329 := hS325.step m328 nI
  refine ⟨hS329, ?_⟩
  refine hvH rfl (fun _ _ => xfld fl112_15 rfl) hS329 ?_
  refine bluKH rfl (xstF 15 sz110 h4 rfl rfl rfl rfl rfl) ?_
  rintro w331 ⟨m332, h4, s330⟩
  have h2 := ((((((h2.drew).k m311).k m315).keep m320 (nE (by omega))).keep m324 (nE (by omega))).keep m328 (nE (by omega))).keep m332 (nE (by omega))
  refine lhendH (nBlock (nThen (fcg 2 4 rfl fun _ => sreg (sv (xldS (lens := lRec) ro112 rfl h4.r) (suK (xstW h2 (lens' := lRec) sz112 rfl rfl rfl rfl rfl) ?_)))))
  rintro w334 ⟨m335, h2, s333⟩
  refine send (fbg 2 rfl fun _ => wp_ret (rp1 rfl ⟨_, rfl, ldS (lens := lRec) ro112 h2.r⟩ ?_))
  rw [norm_svc (by omega)]
  have hf := (((((((hf.drew).s m311).s m315).t m320 (by omega)).t m324 (by omega)).t m328 (by omega)).t m332 (by omega)).t m335 (by omega)
  have L252 := ((((L252.keep pair_st (lUb hU (by omega) (by omega)) m320 (nUb hU (by omega) (by omega))).keep pair_st (lUb hU (by omega) (by omega)) m324 (nUb hU (by omega) (by omega))).keep pair_st (lUb hU (by omega) (by omega)) m328 (nUb hU (by omega) (by omega))).keep pair_st (lUb hU (by omega) (by omega)) m332 (nUb hU (by omega) (by omega))).keep pair_st (lUb hU (by omega) (by omega)) m335 (nUb hU (by omega) (by omega))
  exact ⟨_, _, _, ag_rec (r' := { rec0 r l with n1 := m16 r.n1, host := r.host, pairs := r.pairs }) (k := 12) hk rfl, ba0, LA.nil, (L252.mono pair_gr (fun k hk => hk.elim .inl (fun h => .inr ⟨by omega, by omega⟩))), hf⟩
 obtain ⟨aq, cq, rfl, -⟩ := id hd
 refine send ((wp_block (sreg (sv (xtaN ni186 in186 rfl rfl) (sv (xex21 rfl) (sv (xex20 rfl) (send ((cno rfl (sreg (sv (xtaN ni190 in190 rfl rfl) (sv (xex21 rfl) (sv (xex20 rfl) (send ((cno rfl (sreg (sv (xtaN ni193 in193 rfl rfl) (sv (xex21 rfl) (sv (xex20 rfl) (send (ffg 2 4 35 58 59 rfl fun _ => cno rfl (sreg (sv (xtaN ni196 in196 rfl rfl) (sv (xex21 rfl) (sv (xex20 rfl) (send ((cno rfl (sreg (sv (xtaN ni199 in199 rfl rfl) (sv (xex21 rfl) (sv (xex20 rfl) (send ((cno rfl (sreg (sv (xtaN ni202 in202 rfl rfl) (sv (xex21 rfl) (sv (xex20 rfl) (send ((cno rfl (sreg (sv (xtaN ni205 in205 rfl rfl) (sv (xex21 rfl) (sv (xex20 rfl) (send (ffg 2 4 35 135 136 rfl fun _ => cno rfl (sreg (sv (xtaN ni208 in208 rfl rfl) (sv (xex21 rfl) (sv (xex20 rfl) (send ((cno rfl (sreg (sv (xtaN ni212 in212 rfl rfl) (sv (xex21 rfl) (sv (xex20 rfl) (send ((cno rfl (sreg (sv (xtaN ni215 in215 rfl rfl) (sv (xex21 rfl) (sv (xex20 rfl) (send (ffg 2 4 35 185 186 rfl fun _ => cno rfl (sreg (sv (xtaN ni221 in221 rfl rfl) ?_)))))))))))))))))))))))))))))))))))))))))))))))))))))))))))))))))))))))
 refine sv (xex21 rfl) (sv (xex20 rfl) (send ((cno rfl (sreg (sv (xtaN ni226 in226 rfl rfl) (sv (xex21 rfl) (sv (xex20 rfl) (send ((cno rfl (sreg (sv (xtaY ni229 rfl) (sv (xex21 rfl) (sv (xex20 rfl) (send ((cyes rfl (sreg (sA rfl (send (fdg 2 4 19 rfl fun _ => lreg (svK (xslit (bvs []) sl37 in5 rfl (by decide) rfl rfl rfl rfl (by decide) rfl (bvs_one _)) ?_)))))))))))))))))))))))
 rintro _ w337 ⟨b260, rfl, m338, h260, e260, s260, r260⟩
 have hsr := hsr.keep m338 (by omega) id
 have hd := hd.keep (lU hU (by omega)) m338 nF
 refine sM rfl (sN rfl (sv (xfld fl231_1 rfl) (sv (xld on37 rfl (hsr.c 1 rfl rfl)) (svK (xapp sl37 in5 rfl (by decide) rfl rfl r260 (hd.src sl37) (by simp only [maxLen]; omega) (by omega)) ?_))))
 rintro _ w339 ⟨g265, r265, m340, a265, l265⟩
 have z341 := m340.size
 obtain ⟨p265, q265, rfl, -⟩ := r265.form
 have h4 := (h4.k m338).keep m340 (nE (by omega))
 refine sv (xfld fl112_5 rfl) (suK (xstF 5 sz3 h4 rfl rfl rfl rfl rfl) ?_)
 rintro w343 ⟨m344, h4, s342⟩
 refine sv (xfld fl112_6 rfl) (suK (xstF 6 sz37 h4 rfl rfl rfl rfl rfl) ?_)
 rintro w346 ⟨m347, h4, s345⟩
 have h2 := (((h2.k m338).keep m340 (nE (by omega))).keep m344 (nE (by omega))).keep m347 (nE (by omega))
 refine lend (nBlock (nThen (fcg 2 4 rfl fun _ => sreg (sv (xldS (lens := lRec) ro112 rfl h4.r) (suK (xstW h2 (lens' := lRec) sz112 rfl rfl rfl rfl rfl) ?_)))))
 rintro w349 ⟨m350, h2, s348⟩
 refine send (fbg 2 rfl fun _ => wp_ret (rp1 rfl ⟨_, rfl, ldS (lens := lRec) ro112 h2.r⟩ ?_))
 rw [norm_unk hk]
 have hf := ((((hf.s m338).t m340 (by omega)).t m344 (by omega)).t m347 (by omega)).t m350 (by omega)
 have r265 := ((r265.keep m344 (nE (by omega))).keep m347 (nE (by omega))).keep m350 (nE (by omega))
 exact ⟨_, _, _, ag_rec (r' := { rec0 r l with data := r.data }) (k := 13) hk rfl, (BR.ba (show BR _ _ _ _ r.data from r265) (.inr ⟨by omega, by omega⟩)), LA.nil, LA.nil, hf⟩
end Go.Proofs.YtifnodoffgfpbaaGreatDoor

namespace Go.Proofs.YtifnodoffgfpbaaGreatDoor
open Go

theorem u16_of {len : Nat} (h : len < 65536) : ∃ l : UInt16, len = l.toNat := ⟨UInt16.ofNat len, by rw [UInt16.toNat_ofNat']; omega⟩
theorem msg_of {w : World} {v : Value} {g n n0 : Nat} {xs : List UInt8} (h : Rw w v g 5 1 n0 (bvs xs)) (hn : xs.length = n) (hn0 : n0 = n) (h0 : 0 < w.heap.size) (hg : 0 < n → g < w.heap.size) : ∃ a c bm, v = .slice a n c ∧ n ≤ c ∧ (n ≠ 0 → a = some ⟨bm, 0, none⟩) ∧ w.rangeAt bm 0 (bvs xs) ∧ bm < w.heap.size ∧ (bm = 0 ∨ bm = g) := by
  subst hn0
  obtain ⟨a, c, rfl, h1, _, h3, _⟩ := h.form
  by_cases hz : n0 = 0
  · subst hz
    obtain rfl : xs = [] := List.eq_nil_of_length_eq_zero hn
    exact ⟨a, c, 0, rfl, h1, fun h => absurd rfl h, fun j u hu => by simp [bvs] at hu, h0, .inl rfl⟩
  · exact ⟨a, c, g, rfl, h1, fun _ => h3 (by omega), h.rng, hg (by omega), .inr rfl⟩

theorem c50 {w : World} {U : Nat → Prop} (hU : ∀ k, U k → k < w.heap.size) {v : Value} {l : List RecD} (hl : LA ResV lRes U w v l) (hn : l.length ≤ 1048576) (hok : ∀ r ∈ l, NamesOk r ∧ r.pairs.length ≤ 1048576 ∧ r.texts.length ≤ 1048576 ∧ r.data.length ≤ 1048576 ∧ ∀ q ∈ r.pairs, q.data.length ≤ 65535) :
  Ret PP 50 [v] w (fun u w' => ∃ l', LA RecEl lRec (Ub U w w') w' u l' ∧ All2 Like l' l ∧ Fr0 w w') := by
 obtain ⟨a0, c0, rfl⟩ := hl.form
 have hf : Fr (fun _ => False) w w := Fr.refl _ _
 refine ret_of Tryz.func50 rfl rfl rfl [(0, _)] rfl ?_
 refine sreg (sA rfl (send (fbg 0 rfl fun _ => sreg (svK (xslit ([]) sl26 in112 rfl (by decide) rfl rfl rfl rfl (by decide) rfl rfl) ?_))))
 rintro _ w2 ⟨b6, rfl, m3, h6, e6, s6, r6⟩
 have hv3 : RX RecEl lRec U w.heap.size w2.heap.size w2 _ b6 112 0 [] := RX.ofNil r6
 refine sA rfl (send ((wp_seq (sreg (sM rfl (sv (xlen sl75 rfl) (sM rfl (send (feg 3 7 8 9 rfl fun _ => wp_block (lp [(7, _), (8, _)] (fun (x : Nat × Value × Nat × List RecD) => match x with | (k, v, g, l1) => [(3, v), (9, .int .i64 (k : Int))]) (fun (x : Nat × Value × Nat × List RecD) wx => match x with | (k, v, g, l1) => Fr (fun k => k = b6) w2 wx ∧ (k ≤ l.length) ∧ (All2 Like l1 (l.take k)) ∧ (RX RecEl lRec U w.heap.size wx.heap.size wx v g 112 k l1) ∧ (w.heap.size ≤ g) ∧ (g < wx.heap.size) ∧ (g = b6 ∨ w2.heap.size ≤ g)) (fun (x : Nat × Value × Nat × List RecD) => match x with | (k, v, g, l1) => l.length - k) (0, _, b6, []) ⟨rfl, rfl, rfl, rfl, trivial⟩ ⟨Fr.refl _ _, Nat.zero_le _, All2.nil, hv3, by omega, by omega, .inl rfl⟩ ?_))))))))))
 rintro ⟨k, v, g, l1⟩ _ w5 ⟨hL4, hk, hA, hv3, hg, hg2, hg3⟩
 refine feg 3 7 8 9 rfl fun _ => ?_
 have z6 := hL4.size
 obtain ⟨a3, c3, rfl⟩ := RA.form hv3
 have hf := (hf.s m3).t hL4 (by omega)
 refine sreg (svP (xlss rfl rfl) (fun hc10 => ?_) (fun hc10 => ?_))
 rotate_left
 ·
  refine send ((wp_seq (cno rfl (wp_exit (eThen (eThen (eHit (nThen ((sreg (sM rfl (sA rfl (send (fbg 2 rfl fun _ => wp_ret (rp1 rfl rfl ?_)))))))))))))))
  have e1 : l.take k = l := List.take_of_length_le (by omega)
  rw [e1] at hA
  exact ⟨l1, RX.la hv3 (by decide) rec_gr (fun k hk => hk.elim .inl .inr) (.inr ⟨hg, hg2⟩), hA, hf⟩
 refine send ((wp_seq (cyes rfl (wp_skip (nThen (feg 3 7 8 9 rfl fun _ => wp_seq (wp_block ?_)))))))
 obtain ⟨r, hrk⟩ := some_of_lt (by omega : k < l.length)
 have hl := (hl.keep resv_st (lU hU (by omega)) m3 nF).keep resv_st (lU hU (by omega)) hL4 (nU hU (by omega))
 refine sreg ?_
 obtain ⟨bE11, oE11, sgE11, rfl, uE11, hsE11, heE11⟩ := LA.get hl hrk
 obtain ⟨len, vb, hl16, rfl, hbe⟩ := heE11
 have zE11 := hU _ uE11
 obtain ⟨bB, TB, lB, sB, rfl, -⟩ := id hbe
 obtain ⟨l0, rfl⟩ := u16_of hl16
 refine sv (xidx sl75 sz139 rfl rfl rfl (by omega)) (sv (xldS (lens := [256, 1, 1, 1, 1, 1]) ro139 rfl hsE11) (svK (xallS (lens := [256, 1, 1, 1, 1, 1]) in139 (by simp [nm_length])) ?_))
 rintro _ w8 ⟨b5, rfl, m9, h5, e7, s7⟩
 refine suK (xstW h5 (lens' := [256, 1, 1, 1, 1, 1]) sz139 (by simp [rhSegs, nm_length]) rfl (by simp only [rhSegs, List.cons_append, List.nil_append, fC, fN, aA, aN, nm_one, bT] <;> rfl) rfl rfl) ?_
 rintro w11 ⟨m12, h5, s10⟩
 have hbe := (hbe.keep (lU hU (by omega)) m9 nF).keep (lU hU (by omega)) m12 (nU hU (by omega))
 have hv3 := RX.keep (RX.keep hv3 rec_st (lU hU (by omega)) (by omega) m9 (fun _ _ _ h => h) id) rec_st (lU hU (by omega)) (by omega) m12 (fun k hk hk3 hS => by have hS : k = b5 := hS; rcases hk with hk | hk <;> first | omega | (have := hU k hk; omega)) (nE (by omega))
 refine send (ffg 3 5 7 8 9 rfl fun _ => lreg (sM rfl (sv (xldS (lens := [256, 1, 1, 1, 1, 1]) ro139 rfl h5.r) (sc (xcall ca64 rfl) (c64 (U := U) (lU hU (by omega)) hbe (hok r (List.mem_of_getElem? hrk)).1 (hok r (List.mem_of_getElem? hrk)).2.1 (hok r (List.mem_of_getElem? hrk)).2.2.1 (hok r (List.mem_of_getElem? hrk)).2.2.2.1 (hok r (List.mem_of_getElem? hrk)).2.2.2.2) ?_))))
 rintro _ w13 ⟨vd, vt, vp, rfl, hd, ht, hp, m14⟩
 have z15 := m14.size
 obtain ⟨ad, cd, rfl, -⟩ := id hd
 obtain ⟨at1, ct1, rfl⟩ := ht.form
 obtain ⟨ap1, cp1, rfl⟩ := hp.form
 have hv3 := RX.keep hv3 rec_st (lU hU (by omega)) (by omega) m14 (fun _ _ _ h => h) id
 refine svK (xslit ((recSegs (normR r l0) (.slice ad (normR r l0).data.length cd) (.slice at1 (normR r l0).texts.length ct1) (.slice ap1 (normR r l0).pairs.length cp1)).flatten) sl26 in112 rfl (by decide) rfl rfl rfl rfl (by decide) (ag_flat _) rfl) ?_
 rintro _ w17 ⟨b16, rfl, m18, h16, e16, s16, r16⟩
 have hv3 := RX.keep hv3 rec_st (lU hU (by omega)) (by omega) m18 (fun _ _ _ h => h) id
 obtain ⟨ss17, hR17, hA17⟩ := hv3
 refine svK (xapp sl26 in112 rfl (by decide) rfl rfl hR17 (r16.src sl26) (by simp only [maxLen]; omega) (by omega)) ?_
 rintro v17 w19 ⟨g17, r17, m20, a17, l17⟩
 have z21 := m20.size
 have hd := (hd.keep (lUb hU (by omega) (by omega)) m18 nF).keep (lUb hU (by omega) (by omega)) m20 (nUb hU (by omega) (by omega))
 have ht := (ht.keep text_st (lUb hU (by omega) (by omega)) m18 nF).keep text_st (lUb hU (by omega) (by omega)) m20 (nUb hU (by omega) (by omega))
 have hp := (hp.keep pair_st (lUb hU (by omega) (by omega)) m18 nF).keep pair_st (lUb hU (by omega) (by omega)) m20 (nUb hU (by omega) (by omega))
 have hv3 := RX.snoc (x := (normR r l0)) w19.heap.size hA17 rec_st rec_gr (lU hU (by omega)) (by omega) (by omega) m20 a17 r17 rfl (⟨_, _, _, rfl, hd.mono (fun k h => ⟨h.elim .inl (fun h => .inr ⟨by omega, by omega⟩), by have h := Ub.num hU h; omega⟩), ht.mono text_gr (fun k h => ⟨h.elim .inl (fun h => .inr ⟨by omega, by omega⟩), by have h := Ub.num hU h; omega⟩), hp.mono pair_gr (fun k h => ⟨h.elim .inl (fun h => .inr ⟨by omega, by omega⟩), by have h := Ub.num hU h; omega⟩)⟩)
 have hL4 := ((((hL4.s m9).step m12 (fun k hk hS => by have hS : k = b5 := hS; show k = b6; omega)).s m14).s m18).step m20 (fun k hk hS => by have hS : k = g := hS; show k = b6; omega)
 refine sA rfl (lend (nBlock (nThen (feg 3 7 8 9 rfl fun _ => lreg (sv (xadd rfl rfl (w64 (by omega) (by omega))) (sM rfl (lend (nThen ?_))))))))
 refine ⟨(k + 1, _, g17, l1 ++ [normR r l0]), _, env_okl ⟨rfl, rfl, rfl, rfl, trivial⟩, ⟨hL4, (by omega), (by rw [take_snoc hrk]; exact hA.snoc ⟨l0, rfl⟩), (RX.up rec_gr hv3 (by omega)), (by omega), (l17 (by omega)), (by omega)⟩, ?_⟩
 show l.length - (k + 1) < l.length - k; omega
end Go.Proofs.YtifnodoffgfpbaaGreatDoor

namespace Go.Proofs.YtifnodoffgfpbaaGreatDoor
open Go

theorem uu_mono {U : Nat → Prop} {w w' wa wb wc wd : World} {k : Nat} (h : Ub (Ub NoU wa wb) wc wd k) (h1 : w.heap.size ≤ wa.heap.size) (h2 : wb.heap.size ≤ w'.heap.size) (h3 : w.heap.size ≤ wc.heap.size) (h4 : wd.heap.size ≤ w'.heap.size) : Ub U w w' k := by
  rcases h with (h | h) | h
  · exact h.elim
  · exact .inr ⟨by omega, by omega⟩
  · exact .inr ⟨by omega, by omega⟩

end Go.Proofs.YtifnodoffgfpbaaGreatDoor

namespace Go.Proofs.YtifnodoffgfpbaaGreatDoor
open Go

def Sk {α : Type} (w : World) (bp : Nat) (vm : Value) (y0 y1 y2 y3 y4 y5 : Int) (Tz : TypeId) (xz : Option Addr) (q : Int) (R : Nat → α → Nat → Prop) (l : List α) (e j : Nat) (u : Value) : Prop :=
  (∃ o, u = .nilIface ∧ j ≤ l.length ∧ ListR R o (l.drop j) e ∧ PrAt w bp vm y0 y1 y2 y3 y4 y5 q (o : Int) (j : Int)) ∨ (u = .iface Tz (.pointer xz) ∧ PrAt w bp vm y0 y1 y2 y3 y4 y5 (q + 1) (e : Int) 0)

theorem c161 {w : World} {a : Option Addr} {bm om km n : Nat} {b : List UInt8} (hms : n ≠ 0 → a = some ⟨bm, om, none⟩) (hm : w.rangeAt bm om (bvs (b.take n))) (hbm : bm < w.heap.size) (hnb : n ≤ b.length) (hkm : n ≤ km) (hbl : b.length < 100000000) (hG : GE w) (hsz : 21 ≤ w.heap.size) (hfn : b.length ≤ n) {off e : Nat} {r : RecD} {Kp : Nat → Prop} (hR : RecR Kp b off r e) (heb : e ≤ b.length) :
  Ret PP 161 [.slice a n km, .int .i64 (off : Int)] w (fun u w' => u = .tuple #[.int .i64 (e : Int), .nilIface] ∧ Fr0 w w') := by
 obtain ⟨e0, len, kk, hkk, hN, hst, hl16, hbody, rfl⟩ := recR_open hR
 have hNl := (show NameR b off kk off (txt (bt r.name)) e0 from hN).le
 have hf : Fr (fun _ => False) w w := Fr.refl _ _
 refine ret_of Tryz.func161 rfl rfl rfl [(0, _), (1, _)] rfl ?_
 refine sreg (sA rfl (sA rfl (send (fcg 0 1 rfl fun _ => sreg (sM rfl (sM rfl (sc (xcall ca110 rfl) (c110 (b := b) (K := kk) (off := off) (e := e0) (S := bt r.name) hms hm (by omega) hnb hkm hbl hG (by omega) hN (.inr (by omega))) ?_)))))))
 rintro _ w1 ⟨⟨hle12, rfl⟩ | ⟨hgt12, -⟩, m2⟩
 rotate_left
 · exact absurd hgt12 (by omega)
 have z3 := m2.size
 have hm := rng_fr hm m2 (by omega) id
 have hG := hG.k0 m2 (by omega)
 refine sM rfl (sE2 rfl (sA rfl (sA rfl (send ((wp_seq (sreg (sM rfl (sv (xneN if89 rfl) (send ((cno rfl (wp_skip (nThen (fdg 0 1 6 rfl fun _ => wp_seq (sreg (sM rfl (sM rfl (sc (xcall ca111 rfl) (c111 (b := b) (off := e0) hms hm (by omega) hnb hkm hbl hG (by omega) (by omega)) ?_)))))))))))))))))))
 rintro _ w4 ⟨⟨hle25, rfl⟩ | ⟨hgt25, -⟩, m5⟩
 rotate_left
 · exact absurd hgt25 (by omega)
 have z6 := m5.size
 have hm := rng_fr hm m5 (by omega) id
 have hG := hG.k0 m5 (by omega)
 refine sM rfl (sE2 rfl (sA rfl (sA rfl (send ((sreg (sM rfl (sv (xneN if89 rfl) (send ((cno rfl (wp_skip (nThen (fdg 0 1 6 rfl fun _ => wp_seq (sreg (sM rfl (sM rfl (sc (xcall ca112 rfl) (c112 (b := b) (off := e0 + 2) hms hm (by omega) hnb hkm hbl hG (by omega) (by omega)) ?_))))))))))))))))))
 rintro _ w7 ⟨⟨hle38, rfl⟩ | ⟨hgt38, -⟩, m8⟩
 rotate_left
 · exact absurd hgt38 (by omega)
 have z9 := m8.size
 have hm := rng_fr hm m8 (by omega) id
 have hG := hG.k0 m8 (by omega)
 refine sM rfl (sE2 rfl (sA rfl (sA rfl (send ((sreg (sM rfl (sv (xneN if89 rfl) (send ((cno rfl (wp_skip (nThen (fdg 0 1 6 rfl fun _ => wp_seq (sreg (sM rfl (sM rfl (sc (xcall ca207 rfl) (c207 (b := b) (off := e0 + 2 + 2) hms hm (by omega) hnb hkm hbl hG (by omega) (by omega)) ?_))))))))))))))))))
 rintro _ w10 ⟨⟨hle51, rfl⟩ | ⟨hgt51, -⟩, m11⟩
 ·
  have z12 := m11.size
  have hm := rng_fr hm m11 (by omega) id
  have hG := hG.k0 m11 (by omega)
  refine sM rfl (sE2 rfl (sA rfl (sA rfl (send ((sreg (sM rfl (sv (xneN if89 rfl) (send ((cno rfl (wp_skip (nThen (fdg 0 1 6 rfl fun _ => sreg (sM rfl (sM rfl (sc (xcall ca156 rfl) (c156 (b := b) (off := e0 + 2 + 2 + 4) (x := len) hms hm (by omega) hnb hkm hbl hG (by omega) hl16 (((hst.right' rfl).right' rfl).right' rfl) (by omega)) ?_)))))))))))))))))
  rintro _ w13 ⟨⟨hle64, rfl⟩ | ⟨hgt64, -⟩, m14⟩
  ·
   have z15 := m14.size
   have hf := ((((hf.s m2).s m5).s m8).s m11).s m14
   refine sM rfl (sE3 rfl (sA rfl (sA rfl (sA rfl (send ((wp_seq (sreg (sM rfl (sv (xneN if89 rfl) (send ((cno rfl (wp_skip (nThen ((wp_seq (sreg (sM rfl (sM rfl (sv (xconv hs22 ki3 rfl (w64 (by omega) (by omega))) (sv (xadd rfl rfl (w64n (e0 + 10 + len) (by omega) (by omega))) (sA rfl (send (fdg 0 1 6 rfl fun _ => sreg (sM rfl (sM rfl (sv (xlen sl37 rfl) (sv (exF (xgtr rfl rfl) (by omega)) (send ((cno rfl (wp_skip (nThen ((sreg (sM rfl (sA rfl (sA rfl (send (fcg 4 5 rfl fun _ => wp_ret (rp2 rfl rfl rfl ?_))))))))))))))))))))))))))))))))))))))))))
   exact ⟨rfl, hf⟩
  exact absurd hgt64 (by omega)
 exact absurd hgt51 (by omega)
theorem c65d {w : World} {bp : Nat} {vm : Value} {y0 y1 y2 y3 y4 y5 po idx ho ty ln : Int} (hP : SB w bp lPr (prSegs vm y0 y1 y2 y3 y4 y5 2 po idx false ho ty ln)) {Tz : TypeId} {xz : Option Addr} (hg0 : w.rangeAt 0 0 [.iface Tz (.pointer xz)]) (hG : GE w) (hsz : 21 ≤ w.heap.size) (hgp : 20 < bp) (hq0 : 0 ≤ cntI 2 y2 y3 y4 y5) (hq1 : cntI 2 y2 y3 y4 y5 < 65536) (hie : idx = cntI 2 y2 y3 y4 y5)  :
  Ret PP 65 [.pointer (some ⟨bp, 0, none⟩)] w (fun u w' => (u = .iface Tz (.pointer xz) ∧ SB w' bp lPr (prSegs vm y0 y1 y2 y3 y4 y5 (2 + 1) po 0 false ho ty ln)) ∧ Fr (fun k => k = bp) w w') := by
 have hf : Fr (fun k => k = bp) w w := Fr.refl _ _
 have z_hP := hP.lt
 refine ret_of Tryz.func65 rfl rfl rfl [(0, _)] rfl ?_
 refine sreg (sA rfl (send (fbg 0 rfl fun _ => wp_seq (sreg (sM rfl (sc (xcall ca104 rfl) (c104 (q := 2) hP hg0 hG (by omega) hgp (by decide) (by decide) hq0 hq1) ?_))))))
 rintro _ w1 ⟨⟨hlt, _⟩ | ⟨hlt, _⟩ | ⟨-, hix, rfl, hP⟩ | ⟨-, hix, rfl, hP⟩, m2⟩
 · omega
 · omega
 ·
  have z3 := m2.size
  have hf := hf.step m2 nI
  refine sA rfl (send ((sreg (sM rfl (sv (xneI if89 rfl) (send ((cyes rfl (sreg (sM rfl (sA rfl (send (fbg 2 rfl fun _ => wp_ret (rThen (rp1 rfl rfl ?_)))))))))))))))
  exact ⟨⟨rfl, hP⟩, hf⟩
 exact absurd hie hix
theorem c65g {w : World} {a : Option Addr} {bm om km n : Nat} {b : List UInt8} (hms : n ≠ 0 → a = some ⟨bm, om, none⟩) (hm : w.rangeAt bm om (bvs (b.take n))) (hbm : bm < w.heap.size) (hnb : n ≤ b.length) (hkm : n ≤ km) (hbl : b.length < 100000000) (hfn : b.length ≤ n) {bp : Nat} {y0 y1 y2 y3 y4 y5 idx ho ty ln : Int} {K off e : Nat} {S : List UInt8} (hP : SB w bp lPr (prSegs (.slice a n km) y0 y1 y2 y3 y4 y5 2 (off : Int) idx false ho ty ln)) {Tz : TypeId} {xz : Option Addr} (hg0 : w.rangeAt 0 0 [.iface Tz (.pointer xz)]) (hG : GE w) (hsz : 21 ≤ w.heap.size) (hgp : 20 < bp) (hq0 : 0 ≤ cntI 2 y2 y3 y4 y5) (hq1 : cntI 2 y2 y3 y4 y5 < 65536) (hbp : bp ≠ bm) (hne : idx ≠ cntI 2 y2 y3 y4 y5) (hi0 : 0 ≤ idx) (hi1 : idx < 65536) (hN : NameAt b K off S e) (hel : e + 4 ≤ b.length)  :
  Ret PP 65 [.pointer (some ⟨bp, 0, none⟩)] w (fun u w' => (u = .nilIface ∧ SB w' bp lPr (prSegs (.slice a n km) y0 y1 y2 y3 y4 y5 2 ((e + 2 + 2 : Nat) : Int) (idx + 1) false ho ty ln)) ∧ Fr (fun k => k = bp) w w') := by
 have hNl := (show NameR b off K off (txt S) e from hN).le
 have hf : Fr (fun k => k = bp) w w := Fr.refl _ _
 have z_hP := hP.lt
 refine ret_of Tryz.func65 rfl rfl rfl [(0, _)] rfl ?_
 refine sreg (sA rfl (send (fbg 0 rfl fun _ => wp_seq (sreg (sM rfl (sc (xcall ca104 rfl) (c104 (q := 2) hP hg0 hG (by omega) hgp (by decide) (by decide) hq0 hq1) ?_))))))
 rintro _ w1 ⟨⟨hlt, _⟩ | ⟨hlt, _⟩ | ⟨-, hix, rfl, hP⟩ | ⟨-, hix, rfl, hP⟩, m2⟩
 · omega
 · omega
 · exact absurd hix hne
 have z3 := m2.size
 refine sA rfl (send ((sreg (sM rfl (sv (xneN if89 rfl) (send ((cno rfl (wp_skip (nThen (fbg 0 rfl fun _ => ?_)))))))))))
 refine sdrawH (Fr (fun _ => False) w1.drew) [rd0, rd1, rd2, rd3, rd4, rd5, rd6, rd7, ld8, rd9, rd10, rd11, rd12, rd13] mixed (by kernel_rfl) (fun _ _ _ _ _ h => h) ?_
 have z4 : w1.drew.heap.size = w1.heap.size := rfl
 have hP := hP.drew
 have zb_hP := hP
 have hS5 : Fr (fun _ => False) w1.drew w1.drew := Fr.refl _ _
 have hG := (hG.k1 m2 (by omega) (by omega)).k0 (fd w1) (by omega)
 have hm := rng_fr (rng_fr hm m2 (by omega) (nE (by omega))) (fd w1) (by omega) id
 refine qqM rfl rfl hS5 (qqN rfl rfl hS5 (hvH rfl (fun _ _ => xfld fl124_0 rfl) hS5 (hvH rfl (fun w' hS => xld on37 rfl ((zb_hP.k hS).r.c 0 rfl rfl)) hS5 (qqM rfl rfl hS5 (qqN rfl rfl hS5 (hvH rfl (fun _ _ => xfld fl124_3 rfl) hS5 (hvH rfl (fun w' hS => xld on3 rfl ((zb_hP.k hS).r.c 8 rfl rfl)) hS5 ?_)))))))
 refine hcH rfl (xcall ca110 rfl) (c110 (b := b) (K := K) (off := off) (e := e) (S := S) hms hm (by omega) hnb hkm hbl hG (by omega) hN (.inr (by omega))) ?_
 rintro _ w6 ⟨⟨hle20, rfl⟩ | ⟨hgt20, -⟩, m7⟩
 rotate_left
 · exact absurd hgt20 (by omega)
 have z8 := m7.size
 have hS9 := hS5.s m7
 have hP := hP.k m7
 have hG := hG.k0 m7 (by omega)
 have hm := rng_fr hm m7 (by omega) id
 refine ⟨hS9, ?_⟩
 refine qqM rfl rfl hS9 (hvH rfl (fun _ _ => xex20 rfl) hS9 (hvH rfl (fun _ _ => xex21 rfl) hS9 (qqA rfl rfl hS9 (qqA rfl rfl hS9 (hendH ((wp_seq (sreg (sM rfl (sv (xneN if89 rfl) (send ((cno rfl (wp_skip (nThen (fcg 0 4 rfl fun _ => wp_seq (sreg (sM rfl (sN rfl (sv (xfld fl124_0 rfl) (sv (xld on37 rfl (hP.r.c 0 rfl rfl)) (sM rfl (sc (xcall ca111 rfl) (c111 (b := b) (off := e) hms hm (by omega) hnb hkm hbl hG (by omega) (by omega)) ?_)))))))))))))))))))))))
 rintro _ w10 ⟨⟨hle35, rfl⟩ | ⟨hgt35, -⟩, m11⟩
 rotate_left
 · exact absurd hgt35 (by omega)
 have z12 := m11.size
 have hP := hP.k m11
 have hG := hG.k0 m11 (by omega)
 have hm := rng_fr hm m11 (by omega) id
 refine sM rfl (sE2 rfl (sA rfl (sA rfl (send ((sreg (sM rfl (sv (xneN if89 rfl) (send ((cno rfl (wp_skip (nThen (fcg 0 4 rfl fun _ => wp_seq (sreg (sM rfl (sN rfl (sv (xfld fl124_0 rfl) (sv (xld on37 rfl (hP.r.c 0 rfl rfl)) (sM rfl (sc (xcall ca112 rfl) (c112 (b := b) (off := e + 2) hms hm (by omega) hnb hkm hbl hG (by omega) (by omega)) ?_)))))))))))))))))))))
 rintro _ w13 ⟨⟨hle50, rfl⟩ | ⟨hgt50, -⟩, m14⟩
 ·
  have z15 := m14.size
  have hP := hP.k m14
  refine sM rfl (sE2 rfl (sA rfl (sA rfl (send ((sreg (sM rfl (sv (xneN if89 rfl) (send ((cno rfl (wp_skip (nThen (fcg 0 4 rfl fun _ => sreg (sM rfl (sM rfl (sN rfl (sv (xfld fl124_3 rfl) (suK (xstF 8 sz3 hP rfl rfl rfl rfl rfl) ?_)))))))))))))))))))
  rintro w17 ⟨m18, hP, s16⟩
  refine send (fbg 0 rfl fun _ => sreg (sM rfl (sN rfl (sv (xfld fl124_4 rfl) (sv (xld on3 rfl (hP.r.c 9 rfl rfl)) (sv (xadd rfl rfl (w64 (by omega) (by omega))) (sN rfl (sv (xfld fl124_4 rfl) (suK (xstF 9 sz3 hP rfl rfl rfl rfl rfl) ?_)))))))))
  rintro w20 ⟨m21, hP, s19⟩
  have hf := ((((((hf.step m2 nI).drew).s m7).s m11).s m14).step m18 nI).step m21 nI
  refine send (fg [] trivial fun _ => sreg (sA rfl (send (fbg 2 rfl fun _ => wp_ret (rp1 rfl rfl ?_)))))
  exact ⟨⟨rfl, hP⟩, hf⟩
 exact absurd hgt50 (by omega)
theorem c113d {w : World} {bp : Nat} {vm : Value} {y0 y1 y2 y3 y4 y5 po idx ho ty ln : Int} {q : Int} (hP : SB w bp lPr (prSegs vm y0 y1 y2 y3 y4 y5 q po idx false ho ty ln)) {Tz : TypeId} {xz : Option Addr} (hg0 : w.rangeAt 0 0 [.iface Tz (.pointer xz)]) (hG : GE w) (hsz : 21 ≤ w.heap.size) (hgp : 20 < bp) (hs0 : 0 ≤ q) (hs1 : q ≤ 6) (hq0 : 0 ≤ cntI q y2 y3 y4 y5) (hq1 : cntI q y2 y3 y4 y5 < 65536) (hie : idx = cntI q y2 y3 y4 y5)  :
  Ret PP 113 [.pointer (some ⟨bp, 0, none⟩), .int .u8 q] w (fun u w' => (u = .iface Tz (.pointer xz) ∧ SB w' bp lPr (prSegs vm y0 y1 y2 y3 y4 y5 (q + 1) po 0 false ho ty ln)) ∧ Fr (fun k => k = bp) w w') := by
 have hf : Fr (fun k => k = bp) w w := Fr.refl _ _
 have z_hP := hP.lt
 refine ret_of Tryz.func113 rfl rfl rfl [(0, _), (1, _)] rfl ?_
 refine sreg (sA rfl (send ((wp_seq (sreg (sM rfl (sN rfl (sv (xfld fl124_5 rfl) (sv (xld on4 rfl (hP.r.c 10 rfl rfl)) (sM rfl (gno rfl rfl rfl (gno rfl rfl rfl (gno rfl rfl rfl (gno rfl rfl rfl (gno rfl rfl rfl (gno rfl rfl rfl (sv (xpickF rfl rfl) (send ((cno rfl (wp_skip (nThen (fcg 0 1 rfl fun _ => wp_seq (sreg (sM rfl (sM rfl (sc (xcall ca104 rfl) (c104 (q := q) hP hg0 hG (by omega) hgp hs0 hs1 hq0 hq1) ?_)))))))))))))))))))))))))))
 rintro _ w1 ⟨⟨hlt, _⟩ | ⟨hlt, _⟩ | ⟨-, hix, rfl, hP⟩ | ⟨-, hix, rfl, hP⟩, m2⟩
 · omega
 · omega
 ·
  have z3 := m2.size
  have hf := hf.step m2 nI
  refine sA rfl (send ((sreg (sM rfl (sv (xneI if89 rfl) (send ((cyes rfl (sreg (sM rfl (sA rfl (send (fbg 4 rfl fun _ => wp_ret (rThen (rp1 rfl rfl ?_)))))))))))))))
  exact ⟨⟨rfl, hP⟩, hf⟩
 exact absurd hie hix
theorem c113g {w : World} {a : Option Addr} {bm om km n : Nat} {b : List UInt8} (hms : n ≠ 0 → a = some ⟨bm, om, none⟩) (hm : w.rangeAt bm om (bvs (b.take n))) (hbm : bm < w.heap.size) (hnb : n ≤ b.length) (hkm : n ≤ km) (hbl : b.length < 100000000) (hfn : b.length ≤ n) {bp : Nat} {y0 y1 y2 y3 y4 y5 idx ho ty ln : Int} {q : Int} {off e : Nat} {r : RecD} {Kp : Nat → Prop} (hP : SB w bp lPr (prSegs (.slice a n km) y0 y1 y2 y3 y4 y5 q (off : Int) idx false ho ty ln)) {Tz : TypeId} {xz : Option Addr} (hg0 : w.rangeAt 0 0 [.iface Tz (.pointer xz)]) (hG : GE w) (hsz : 21 ≤ w.heap.size) (hgp : 20 < bp) (hs0 : 0 ≤ q) (hs1 : q ≤ 6) (hq0 : 0 ≤ cntI q y2 y3 y4 y5) (hq1 : cntI q y2 y3 y4 y5 < 65536) (hbp : bp ≠ bm) (hne : idx ≠ cntI q y2 y3 y4 y5) (hi0 : 0 ≤ idx) (hi1 : idx < 65536) (hR : RecR Kp b off r e) (heb : e ≤ b.length)  :
  Ret PP 113 [.pointer (some ⟨bp, 0, none⟩), .int .u8 q] w (fun u w' => (u = .nilIface ∧ SB w' bp lPr (prSegs (.slice a n km) y0 y1 y2 y3 y4 y5 q (e : Int) (idx + 1) false ho ty ln)) ∧ Fr (fun k => k = bp) w w') := by
 have hf : Fr (fun k => k = bp) w w := Fr.refl _ _
 have z_hP := hP.lt
 refine ret_of Tryz.func113 rfl rfl rfl [(0, _), (1, _)] rfl ?_
 refine sreg (sA rfl (send ((wp_seq (sreg (sM rfl (sN rfl (sv (xfld fl124_5 rfl) (sv (xld on4 rfl (hP.r.c 10 rfl rfl)) (sM rfl (gno rfl rfl rfl (gno rfl rfl rfl (gno rfl rfl rfl (gno rfl rfl rfl (gno rfl rfl rfl (gno rfl rfl rfl (sv (xpickF rfl rfl) (send ((cno rfl (wp_skip (nThen (fcg 0 1 rfl fun _ => wp_seq (sreg (sM rfl (sM rfl (sc (xcall ca104 rfl) (c104 (q := q) hP hg0 hG (by omega) hgp hs0 hs1 hq0 hq1) ?_)))))))))))))))))))))))))))
 rintro _ w1 ⟨⟨hlt, _⟩ | ⟨hlt, _⟩ | ⟨-, hix, rfl, hP⟩ | ⟨-, hix, rfl, hP⟩, m2⟩
 · omega
 · omega
 · exact absurd hix hne
 have z3 := m2.size
 refine sA rfl (send ((sreg (sM rfl (sv (xneN if89 rfl) (send ((cno rfl (wp_skip (nThen ((sreg (sA rfl (send (fcg 0 1 rfl fun _ => ?_)))))))))))))))
 refine sdrawH (fun wx => Fr (fun k => k = bp) w1.drew wx ∧ (∃ o : Int, SB wx bp lPr (prSegs (.slice a n km) y0 y1 y2 y3 y4 y5 q o idx false ho ty ln))) [rd0, rd1, rd2, rd3, rd4, rd5, rd6, rd7, ld8, ld9, rd10, rd11, rd12, rd13, rd14, ld15, rd16] mixed (by kernel_rfl) (fun _ _ _ _ _ h => h) ?_
 have z4 : w1.drew.heap.size = w1.heap.size := rfl
 have hS5 : Fr (fun k => k = bp) w1.drew w1.drew := Fr.refl _ _
 have hP := hP.drew
 have hS6 : Fr (fun k => k = bp) w1.drew w1.drew ∧ (∃ o : Int, SB w1.drew bp lPr (prSegs (.slice a n km) y0 y1 y2 y3 y4 y5 q o idx false ho ty ln)) := ⟨hS5, ⟨_, hP⟩⟩
 have hG := (hG.k1 m2 (by omega) (by omega)).k0 (fd w1) (by omega)
 have hm := rng_fr (rng_fr hm m2 (by omega) (nE (by omega))) (fd w1) (by omega) id
 refine qqM rfl rfl hS6 (qqM rfl rfl hS6 (qqN rfl rfl hS6 (hvH rfl (fun _ _ => xfld fl124_0 rfl) hS6 (hvH rfl (fun w' hS => xld (v := .slice a n km) on37 rfl (by obtain ⟨-, o, hq⟩ := hS; exact hq.r.c 0 rfl rfl)) hS6 (qqM rfl rfl hS6 (qqN rfl rfl hS6 (hvH rfl (fun _ _ => xfld fl124_3 rfl) hS6 ?_)))))))
 refine hlH rfl (xld on3 rfl (hP.r.c 8 rfl rfl)) hS6 ?_
 refine hcH rfl (xcall ca161 rfl) (c161 (b := b) hms hm (by omega) hnb hkm hbl hG (by omega) hfn hR heb) ?_
 rintro _ w7 ⟨rfl, m8⟩
 have z9 := m8.size
 have hS10 := hS6.1.s m8
 have hP := hP.k m8
 have hS11 : Fr (fun k => k = bp) w1.drew w7 ∧ (∃ o : Int, SB w7 bp lPr (prSegs (.slice a n km) y0 y1 y2 y3 y4 y5 q o idx false ho ty ln)) := ⟨hS10, ⟨_, hP⟩⟩
 refine ⟨hS11, ?_⟩
 refine qqM rfl rfl hS11 (hvH rfl (fun _ _ => xex20 rfl) hS11 (hvH rfl (fun _ _ => xex21 rfl) hS11 (qqN rfl rfl hS11 (hvH rfl (fun _ _ => xfld fl124_3 rfl) hS11 ?_))))
 refine hluKH rfl (xstF 8 sz3 hP rfl rfl rfl rfl rfl) ?_
 rintro w13 ⟨m14, hP, s12⟩
 have hS15 := hS11.1.step m14 nI
 have hS16 : Fr (fun k => k = bp) w1.drew w13 ∧ (∃ o : Int, SB w13 bp lPr (prSegs (.slice a n km) y0 y1 y2 y3 y4 y5 q o idx false ho ty ln)) := ⟨hS15, ⟨_, hP⟩⟩
 refine ⟨hS16, ?_⟩
 refine qqA rfl rfl hS16 (hendH ((wp_seq (sreg (sM rfl (sv (xneN if89 rfl) (send ((cno rfl (wp_skip (nThen (fbg 0 rfl fun _ => sreg (sM rfl (sN rfl (sv (xfld fl124_4 rfl) (sv (xld on3 rfl (hP.r.c 9 rfl rfl)) (sv (xadd rfl rfl (w64 (by omega) (by omega))) (sN rfl (sv (xfld fl124_4 rfl) (suK (xstF 9 sz3 hP rfl rfl rfl rfl rfl) ?_))))))))))))))))))))
 rintro w18 ⟨m19, hP, s17⟩
 have hf := ((((hf.step m2 nI).drew).s m8).step m14 nI).step m19 nI
 refine send (fg [] trivial fun _ => sreg (sA rfl (send (fbg 4 rfl fun _ => wp_ret (rp1 rfl rfl ?_)))))
 exact ⟨⟨rfl, hP⟩, hf⟩
theorem c65 {w : World} {a : Option Addr} {bm om km n : Nat} {b : List UInt8} (hms : n ≠ 0 → a = some ⟨bm, om, none⟩) (hm : w.rangeAt bm om (bvs (b.take n))) (hbm : bm < w.heap.size) (hnb : n ≤ b.length) (hkm : n ≤ km) (hbl : b.length < 100000000) (hfn : b.length ≤ n) {bp : Nat} {y0 y1 y2 y3 y4 y5 : Int} {asks : List AskD} {off e j : Nat} {Kp : Nat → Prop} (hP : PrAt w bp (.slice a n km) y0 y1 y2 y3 y4 y5 2 (off : Int) (j : Int)) {Tz : TypeId} {xz : Option Addr} (hg0 : w.rangeAt 0 0 [.iface Tz (.pointer xz)]) (hG : GE w) (hsz : 21 ≤ w.heap.size) (hgp : 20 < bp) (hbp : bp ≠ bm) (heb : e ≤ b.length) (hcn : cntI 2 y2 y3 y4 y5 = (asks.length : Int)) (hal : asks.length < 65536) (hj : j ≤ asks.length) (hls : ListR (AskR Kp b) off (asks.drop j) e) :
    Ret PP 65 [.pointer (some ⟨bp, 0, none⟩)] w (fun u w' => Sk w' bp (.slice a n km) y0 y1 y2 y3 y4 y5 Tz xz 2 (AskR Kp b) asks e (j + 1) u ∧ Fr (fun k => k = bp) w w') := by
  obtain ⟨ho, ty, ln, hP⟩ := hP
  rcases Nat.lt_or_ge j asks.length with h | h
  · obtain ⟨a, hak⟩ := some_of_lt h
    obtain ⟨o1, hRa, hls1⟩ := listR_drop hls hak
    have hoe := listR_le hls1 (fun _ _ _ _ h => ask_le h)
    obtain ⟨e0, ⟨kk, hkk, hN⟩, hst, rfl⟩ := hRa
    exact Ret.mono (c65g hms hm hbm hnb hkm hbl hfn hP hg0 hG hsz hgp (by omega) (by omega) hbp (by omega) (by omega) (by omega) hN (by omega)) fun u w' ⟨⟨hu, hP⟩, hf⟩ => ⟨.inl ⟨_, hu, h, hls1, _, _, _, hP⟩, hf⟩
  · have hoe := listR_end hls h
    subst hoe
    exact Ret.mono (c65d hP hg0 hG hsz hgp (by omega) (by omega) (by omega)) fun u w' ⟨⟨hu, hP⟩, hf⟩ => ⟨.inr ⟨hu, _, _, _, hP⟩, hf⟩

theorem c113 {w : World} {a : Option Addr} {bm om km n : Nat} {b : List UInt8} (hms : n ≠ 0 → a = some ⟨bm, om, none⟩) (hm : w.rangeAt bm om (bvs (b.take n))) (hbm : bm < w.heap.size) (hnb : n ≤ b.length) (hkm : n ≤ km) (hbl : b.length < 100000000) (hfn : b.length ≤ n) {bp : Nat} {y0 y1 y2 y3 y4 y5 : Int} {q : Int} {l : List RecD} {off e j : Nat} {Kp : Nat → Prop} (hP : PrAt w bp (.slice a n km) y0 y1 y2 y3 y4 y5 q (off : Int) (j : Int)) {Tz : TypeId} {xz : Option Addr} (hg0 : w.rangeAt 0 0 [.iface Tz (.pointer xz)]) (hG : GE w) (hsz : 21 ≤ w.heap.size) (hgp : 20 < bp) (hs0 : 0 ≤ q) (hs1 : q ≤ 6) (hbp : bp ≠ bm) (heb : e ≤ b.length) (hcn : cntI q y2 y3 y4 y5 = (l.length : Int)) (hal : l.length < 65536) (hj : j ≤ l.length) (hls : ListR (RecR Kp b) off (l.drop j) e) :
    Ret PP 113 [.pointer (some ⟨bp, 0, none⟩), .int .u8 q] w (fun u w' => Sk w' bp (.slice a n km) y0 y1 y2 y3 y4 y5 Tz xz q (RecR Kp b) l e (j + 1) u ∧ Fr (fun k => k = bp) w w') := by
  obtain ⟨ho, ty, ln, hP⟩ := hP
  rcases Nat.lt_or_ge j l.length with h | h
  · obtain ⟨r, hrk⟩ := some_of_lt h
    obtain ⟨o1, hRa, hls1⟩ := listR_drop hls hrk
    have hoe := listR_le hls1 (fun _ _ _ _ h => rec_le h)
    exact Ret.mono (c113g hms hm hbm hnb hkm hbl hfn hP hg0 hG hsz hgp hs0 hs1 (by omega) (by omega) hbp (by omega) (by omega) (by omega) hRa (by omega)) fun u w' ⟨⟨hu, hP⟩, hf⟩ => ⟨.inl ⟨_, hu, h, hls1, _, _, _, hP⟩, hf⟩
  · have hoe := listR_end hls h
    subst hoe
    exact Ret.mono (c113d hP hg0 hG hsz hgp hs0 hs1 (by omega) (by omega) (by omega)) fun u w' ⟨⟨hu, hP⟩, hf⟩ => ⟨.inr ⟨hu, _, _, _, hP⟩, hf⟩

theorem c66 {w : World} {a : Option Addr} {bm om km n : Nat} {b : List UInt8} (hms : n ≠ 0 → a = some ⟨bm, om, none⟩) (hm : w.rangeAt bm om (bvs (b.take n))) (hbm : bm < w.heap.size) (hnb : n ≤ b.length) (hkm : n ≤ km) (hbl : b.length < 100000000) (hfn : b.length ≤ n) {bp : Nat} {y0 y1 y2 y3 y4 y5 : Int} {l : List RecD} {off e j : Nat} {Kp : Nat → Prop} (hP : PrAt w bp (.slice a n km) y0 y1 y2 y3 y4 y5 3 (off : Int) (j : Int)) {Tz : TypeId} {xz : Option Addr} (hg0 : w.rangeAt 0 0 [.iface Tz (.pointer xz)]) (hG : GE w) (hsz : 21 ≤ w.heap.size) (hgp : 20 < bp) (hbp : bp ≠ bm) (heb : e ≤ b.length) (hcn : cntI 3 y2 y3 y4 y5 = (l.length : Int)) (hal : l.length < 65536) (hj : j ≤ l.length) (hls : ListR (RecR Kp b) off (l.drop j) e) :
  Ret PP 66 [.pointer (some ⟨bp, 0, none⟩)] w (fun u w' => Sk w' bp (.slice a n km) y0 y1 y2 y3 y4 y5 Tz xz 3 (RecR Kp b) l e (j + 1) u ∧ Fr (fun k => k = bp) w w') := by
 have hf : Fr (fun k => k = bp) w w := Fr.refl _ _
 refine ret_of Tryz.func66 rfl rfl rfl [(0, _)] rfl ?_
 refine sreg (sA rfl (send (fbg 0 rfl fun _ => sreg (sM rfl (sc (xcall ca113 rfl) (c113 (q := 3) hms hm (by omega) hnb hkm hbl hfn hP hg0 hG (by omega) hgp (by decide) (by decide) hbp heb hcn hal hj hls) ?_)))))
 rintro u4 w1 ⟨hSk, m2⟩
 have z3 := m2.size
 have hf := hf.step m2 nI
 refine sA rfl (send (fbg 2 rfl fun _ => wp_ret (rp1 rfl rfl ?_)))
 exact ⟨hSk, hf⟩
theorem c67 {w : World} {a : Option Addr} {bm om km n : Nat} {b : List UInt8} (hms : n ≠ 0 → a = some ⟨bm, om, none⟩) (hm : w.rangeAt bm om (bvs (b.take n))) (hbm : bm < w.heap.size) (hnb : n ≤ b.length) (hkm : n ≤ km) (hbl : b.length < 100000000) (hfn : b.length ≤ n) {bp : Nat} {y0 y1 y2 y3 y4 y5 : Int} {l : List RecD} {off e j : Nat} {Kp : Nat → Prop} (hP : PrAt w bp (.slice a n km) y0 y1 y2 y3 y4 y5 4 (off : Int) (j : Int)) {Tz : TypeId} {xz : Option Addr} (hg0 : w.rangeAt 0 0 [.iface Tz (.pointer xz)]) (hG : GE w) (hsz : 21 ≤ w.heap.size) (hgp : 20 < bp) (hbp : bp ≠ bm) (heb : e ≤ b.length) (hcn : cntI 4 y2 y3 y4 y5 = (l.length : Int)) (hal : l.length < 65536) (hj : j ≤ l.length) (hls : ListR (RecR Kp b) off (l.drop j) e) :
  Ret PP 67 [.pointer (some ⟨bp, 0, none⟩)] w (fun u w' => Sk w' bp (.slice a n km) y0 y1 y2 y3 y4 y5 Tz xz 4 (RecR Kp b) l e (j + 1) u ∧ Fr (fun k => k = bp) w w') := by
 have hf : Fr (fun k => k = bp) w w := Fr.refl _ _
 refine ret_of Tryz.func67 rfl rfl rfl [(0, _)] rfl ?_
 refine sreg (sA rfl (send (fbg 0 rfl fun _ => sreg (sM rfl (sc (xcall ca113 rfl) (c113 (q := 4) hms hm (by omega) hnb hkm hbl hfn hP hg0 hG (by omega) hgp (by decide) (by decide) hbp heb hcn hal hj hls) ?_)))))
 rintro u4 w1 ⟨hSk, m2⟩
 have z3 := m2.size
 have hf := hf.step m2 nI
 refine sA rfl (send (fbg 2 rfl fun _ => wp_ret (rp1 rfl rfl ?_)))
 exact ⟨hSk, hf⟩
theorem c68 {w : World} {a : Option Addr} {bm om km n : Nat} {b : List UInt8} (hms : n ≠ 0 → a = some ⟨bm, om, none⟩) (hm : w.rangeAt bm om (bvs (b.take n))) (hbm : bm < w.heap.size) (hnb : n ≤ b.length) (hkm : n ≤ km) (hbl : b.length < 100000000) (hfn : b.length ≤ n) {bp : Nat} {y0 y1 y2 y3 y4 y5 : Int} {asks : List AskD} {off e : Nat} {Kp : Nat → Prop} (hP : PrAt w bp (.slice a n km) y0 y1 y2 y3 y4 y5 2 (off : Int) ((0 : Nat) : Int)) {Tz : TypeId} {xz : Option Addr} (hg0 : w.rangeAt 0 0 [.iface Tz (.pointer xz)]) (hG : GE w) (hsz : 21 ≤ w.heap.size) (hgp : 20 < bp) (hCT : CmpT Tz) (hbp : bp ≠ bm) (heb : e ≤ b.length) (hcn : cntI 2 y2 y3 y4 y5 = (asks.length : Int)) (hal : asks.length < 65536) (hls : ListR (AskR Kp b) off asks e) :
  Ret PP 68 [.pointer (some ⟨bp, 0, none⟩)] w (fun u w' => (u = .nilIface ∧ PrAt w' bp (.slice a n km) y0 y1 y2 y3 y4 y5 (2 + 1) (e : Int) 0) ∧ Fr (fun k => k = bp) w w') := by
 have hzb : bp < w.heap.size := hP.lt
 have hf : Fr (fun k => k = bp) w w := Fr.refl _ _
 refine ret_of Tryz.func68 rfl rfl rfl [(0, _)] rfl ?_
 refine sreg (sA rfl (send (fbg 0 rfl fun _ => wp_block (lp [(0, _)] (fun (x : Nat × Nat) => match x with | (j, o) => []) (fun (x : Nat × Nat) wx => match x with | (j, o) => Fr (fun k => k = bp) w wx ∧ (j ≤ asks.length) ∧ (ListR (AskR Kp b) o (asks.drop j) e) ∧ (PrAt wx bp (.slice a n km) y0 y1 y2 y3 y4 y5 2 (o : Int) (j : Int))) (fun (x : Nat × Nat) => match x with | (j, o) => asks.length - j) (0, off) ⟨rfl, trivial⟩ ⟨Fr.refl _ _, Nat.zero_le _, hls, hP⟩ ?_))))
 rintro ⟨j, o⟩ _ w2 ⟨hL1, hj, hls, hP⟩
 refine fbg 0 rfl fun _ => ?_
 have z3 := hL1.size
 have hg0 := rng_fr hg0 hL1 (by omega) (nE (by omega))
 have hG := hG.k1 hL1 (by omega) (by omega)
 have hm := rng_fr hm hL1 (by omega) (nE (by omega))
 refine wp_block (sreg (sM rfl (sc (xcall ca65 rfl) (c65 hms hm (by omega) hnb hkm hbl hfn hP hg0 hG (by omega) (by omega) hbp heb hcn hal hj hls) ?_)))
 rintro u5 w4 ⟨hSk, m5⟩
 have z6 := m5.size
 have hg0 := rng_fr hg0 m5 (by omega) (nE (by omega))
 rcases hSk with ⟨o1, rfl, hj1, hls1, hP⟩ | ⟨rfl, hP⟩
 ·
  have hL1 := hL1.step m5 nI
  refine sA rfl (send ((sreg (sM rfl (sv (xld on89 rfl (hg0 0 _ rfl)) (sv (xeqEN if89 rfl rfl) (send ((cno rfl (sreg (sM rfl (sv (xneN if89 rfl) (send (fdg 0 3 10 rfl fun _ => cno rfl (wp_skip (nBlock (nThen ?_)))))))))))))))))
  refine ⟨(j + 1, o1), _, env_okl ⟨rfl, trivial⟩, ⟨hL1, (hj1), (hls1), (hP)⟩, ?_⟩
  show asks.length - (j + 1) < asks.length - j; omega
 have hf := (hf.step hL1 nI).step m5 nI
 refine sA rfl (send ((sreg (sM rfl (sv (xld on89 rfl (hg0 0 _ rfl)) (sv (xeqES if89 hCT rfl rfl) (send ((cyes rfl (sreg (sA rfl (send (fbg 2 rfl fun _ => wp_ret (rBlock (rThen (rBlock (rp1 rfl rfl ?_)))))))))))))))))
 exact ⟨⟨rfl, hP⟩, hf⟩
theorem c69 {w : World} {a : Option Addr} {bm om km n : Nat} {b : List UInt8} (hms : n ≠ 0 → a = some ⟨bm, om, none⟩) (hm : w.rangeAt bm om (bvs (b.take n))) (hbm : bm < w.heap.size) (hnb : n ≤ b.length) (hkm : n ≤ km) (hbl : b.length < 100000000) (hfn : b.length ≤ n) {bp : Nat} {y0 y1 y2 y3 y4 y5 : Int} {l : List RecD} {off e : Nat} {Kp : Nat → Prop} (hP : PrAt w bp (.slice a n km) y0 y1 y2 y3 y4 y5 3 (off : Int) ((0 : Nat) : Int)) {Tz : TypeId} {xz : Option Addr} (hg0 : w.rangeAt 0 0 [.iface Tz (.pointer xz)]) (hG : GE w) (hsz : 21 ≤ w.heap.size) (hgp : 20 < bp) (hCT : CmpT Tz) (hbp : bp ≠ bm) (heb : e ≤ b.length) (hcn : cntI 3 y2 y3 y4 y5 = (l.length : Int)) (hal : l.length < 65536) (hls : ListR (RecR Kp b) off l e) :
  Ret PP 69 [.pointer (some ⟨bp, 0, none⟩)] w (fun u w' => (u = .nilIface ∧ PrAt w' bp (.slice a n km) y0 y1 y2 y3 y4 y5 (3 + 1) (e : Int) 0) ∧ Fr (fun k => k = bp) w w') := by
 have hzb : bp < w.heap.size := hP.lt
 have hf : Fr (fun k => k = bp) w w := Fr.refl _ _
 refine ret_of Tryz.func69 rfl rfl rfl [(0, _)] rfl ?_
 refine sreg (sA rfl (send (fbg 0 rfl fun _ => wp_block (lp [(0, _)] (fun (x : Nat × Nat) => match x with | (j, o) => []) (fun (x : Nat × Nat) wx => match x with | (j, o) => Fr (fun k => k = bp) w wx ∧ (j ≤ l.length) ∧ (ListR (RecR Kp b) o (l.drop j) e) ∧ (PrAt wx bp (.slice a n km) y0 y1 y2 y3 y4 y5 3 (o : Int) (j : Int))) (fun (x : Nat × Nat) => match x with | (j, o) => l.length - j) (0, off) ⟨rfl, trivial⟩ ⟨Fr.refl _ _, Nat.zero_le _, hls, hP⟩ ?_))))
 rintro ⟨j, o⟩ _ w2 ⟨hL1, hj, hls, hP⟩
 refine fbg 0 rfl fun _ => ?_
 have z3 := hL1.size
 have hg0 := rng_fr hg0 hL1 (by omega) (nE (by omega))
 have hG := hG.k1 hL1 (by omega) (by omega)
 have hm := rng_fr hm hL1 (by omega) (nE (by omega))
 refine wp_block (sreg (sM rfl (sc (xcall ca66 rfl) (c66 hms hm (by omega) hnb hkm hbl hfn hP hg0 hG (by omega) (by omega) hbp heb hcn hal hj hls) ?_)))
 rintro u5 w4 ⟨hSk, m5⟩
 have z6 := m5.size
 have hg0 := rng_fr hg0 m5 (by omega) (nE (by omega))
 rcases hSk with ⟨o1, rfl, hj1, hls1, hP⟩ | ⟨rfl, hP⟩
 ·
  have hL1 := hL1.step m5 nI
  refine sA rfl (send ((sreg (sM rfl (sv (xld on89 rfl (hg0 0 _ rfl)) (sv (xeqEN if89 rfl rfl) (send ((cno rfl (sreg (sM rfl (sv (xneN if89 rfl) (send (fdg 0 3 10 rfl fun _ => cno rfl (wp_skip (nBlock (nThen ?_)))))))))))))))))
  refine ⟨(j + 1, o1), _, env_okl ⟨rfl, trivial⟩, ⟨hL1, (hj1), (hls1), (hP)⟩, ?_⟩
  show l.length - (j + 1) < l.length - j; omega
 have hf := (hf.step hL1 nI).step m5 nI
 refine sA rfl (send ((sreg (sM rfl (sv (xld on89 rfl (hg0 0 _ rfl)) (sv (xeqES if89 hCT rfl rfl) (send ((cyes rfl (sreg (sA rfl (send (fbg 2 rfl fun _ => wp_ret (rBlock (rThen (rBlock (rp1 rfl rfl ?_)))))))))))))))))
 exact ⟨⟨rfl, hP⟩, hf⟩
theorem c70 {w : World} {a : Option Addr} {bm om km n : Nat} {b : List UInt8} (hms : n ≠ 0 → a = some ⟨bm, om, none⟩) (hm : w.rangeAt bm om (bvs (b.take n))) (hbm : bm < w.heap.size) (hnb : n ≤ b.length) (hkm : n ≤ km) (hbl : b.length < 100000000) (hfn : b.length ≤ n) {bp : Nat} {y0 y1 y2 y3 y4 y5 : Int} {l : List RecD} {off e : Nat} {Kp : Nat → Prop} (hP : PrAt w bp (.slice a n km) y0 y1 y2 y3 y4 y5 4 (off : Int) ((0 : Nat) : Int)) {Tz : TypeId} {xz : Option Addr} (hg0 : w.rangeAt 0 0 [.iface Tz (.pointer xz)]) (hG : GE w) (hsz : 21 ≤ w.heap.size) (hgp : 20 < bp) (hCT : CmpT Tz) (hbp : bp ≠ bm) (heb : e ≤ b.length) (hcn : cntI 4 y2 y3 y4 y5 = (l.length : Int)) (hal : l.length < 65536) (hls : ListR (RecR Kp b) off l e) :
  Ret PP 70 [.pointer (some ⟨bp, 0, none⟩)] w (fun u w' => (u = .nilIface ∧ PrAt w' bp (.slice a n km) y0 y1 y2 y3 y4 y5 (4 + 1) (e : Int) 0) ∧ Fr (fun k => k = bp) w w') := by
 have hzb : bp < w.heap.size := hP.lt
 have hf : Fr (fun k => k = bp) w w := Fr.refl _ _
 refine ret_of Tryz.func70 rfl rfl rfl [(0, _)] rfl ?_
 refine sreg (sA rfl (send (fbg 0 rfl fun _ => wp_block (lp [(0, _)] (fun (x : Nat × Nat) => match x with | (j, o) => []) (fun (x : Nat × Nat) wx => match x with | (j, o) => Fr (fun k => k = bp) w wx ∧ (j ≤ l.length) ∧ (ListR (RecR Kp b) o (l.drop j) e) ∧ (PrAt wx bp (.slice a n km) y0 y1 y2 y3 y4 y5 4 (o : Int) (j : Int))) (fun (x : Nat × Nat) => match x with | (j, o) => l.length - j) (0, off) ⟨rfl, trivial⟩ ⟨Fr.refl _ _, Nat.zero_le _, hls, hP⟩ ?_))))
 rintro ⟨j, o⟩ _ w2 ⟨hL1, hj, hls, hP⟩
 refine fbg 0 rfl fun _ => ?_
 have z3 := hL1.size
 have hg0 := rng_fr hg0 hL1 (by omega) (nE (by omega))
 have hG := hG.k1 hL1 (by omega) (by omega)
 have hm := rng_fr hm hL1 (by omega) (nE (by omega))
 refine wp_block (sreg (sM rfl (sc (xcall ca67 rfl) (c67 hms hm (by omega) hnb hkm hbl hfn hP hg0 hG (by omega) (by omega) hbp heb hcn hal hj hls) ?_)))
 rintro u5 w4 ⟨hSk, m5⟩
 have z6 := m5.size
 have hg0 := rng_fr hg0 m5 (by omega) (nE (by omega))
 rcases hSk with ⟨o1, rfl, hj1, hls1, hP⟩ | ⟨rfl, hP⟩
 ·
  have hL1 := hL1.step m5 nI
  refine sA rfl (send ((sreg (sM rfl (sv (xld on89 rfl (hg0 0 _ rfl)) (sv (xeqEN if89 rfl rfl) (send ((cno rfl (sreg (sM rfl (sv (xneN if89 rfl) (send (fdg 0 3 10 rfl fun _ => cno rfl (wp_skip (nBlock (nThen ?_)))))))))))))))))
  refine ⟨(j + 1, o1), _, env_okl ⟨rfl, trivial⟩, ⟨hL1, (hj1), (hls1), (hP)⟩, ?_⟩
  show l.length - (j + 1) < l.length - j; omega
 have hf := (hf.step hL1 nI).step m5 nI
 refine sA rfl (send ((sreg (sM rfl (sv (xld on89 rfl (hg0 0 _ rfl)) (sv (xeqES if89 hCT rfl rfl) (send ((cyes rfl (sreg (sA rfl (send (fbg 2 rfl fun _ => wp_ret (rBlock (rThen (rBlock (rp1 rfl rfl ?_)))))))))))))))))
 exact ⟨⟨rfl, hP⟩, hf⟩
end Go.Proofs.YtifnodoffgfpbaaGreatDoor

namespace Go.Proofs.YtifnodoffgfpbaaGreatDoor
open Go

theorem callB_spec {P : Program} {f : FuncId} (h : callB P f = true) : ∃ fn, P.funcs[f]? = some fn ∧ ¬ fn.name = "runtime.NumGoroutine" ∧ ¬ fn.body = none := by
  unfold callB at h
  split at h
  · rename_i fn hfn
    simp only [Bool.and_eq_true, Bool.not_eq_true'] at h
    exact ⟨fn, hfn, by simpa using h.1, fun e => by rw [e] at h; cases h.2⟩
  · cases h
section
variable {P : Program} {n : Nat} {l : List (Nat × Value)} {w : World} {ty : TypeId}
theorem xmkF {f : FuncId} {x : Operand} {v : Value} (hx : ev n l x = some v) : Ex P n l (.makeFunc (.func f) #[x] #[]) ty w (.func (.func f) #[v] #[]) w := fun r _ _ _ _ => by
  simp only [execOp]
  simp [Instr.makeFunc, ev_eval r hx]
theorem xcallV {f : FuncId} {x : Operand} {v : Value} (hf : callB P f = true) (hx : ev n l x = some (.func (.func f) #[v] #[])) :
    ExC P n l (.call { callee := .value x, args := #[], argTypes := #[] }) ty w f [v] := fun r _ _ _ _ => by
  obtain ⟨fn, hfn, hn, hb⟩ := callB_spec hf
  simp only [execOp]
  simp [resolve, Deferred.ofValue, invoke, callFunc, hfn, ev_eval r hx]
  rw [if_neg hn, if_neg hb]
end
theorem xneES {n : Nat} {l : List (Nat × Value)} {w : World} {ty : TypeId} {x y : Operand} {T U A : TypeId} {p : Option Addr} (hT : ifcB PP T = true) (hA : CmpT A) (hx : ev n l x = some (.iface A (.pointer p))) (hy : ev n l y = some (.iface A (.pointer p))) : Ex PP n l (.binOp .neq T x y U) ty w (.bool false) w := by
  obtain ⟨_, te, i, j, hp, hi, hc, hj⟩ := hA
  cases p with
  | some a => exact xbin hx hy (by simp [eqGuard]) (by simp only [binOp]; simp [Op.equal, Op.maxDepth, run_equalIn_iface_ptr_same w 9998 a (ifcB_spec hT) hp hi hc hj])
  | none =>
    refine xbin hx hy (by simp [eqGuard]) ?_
    have h : ∀ d : Nat, (Op.equalIn (d + 2) T (.iface A (.pointer none)) (.iface A (.pointer none))).run PP w = .ok true w := fun d => by
      simp [Op.equalIn, run_underlying (ifcB_spec hT), run_underlying hp, typeInfo, hi, hc]
    simp only [binOp]
    simp [Op.equal, Op.maxDepth, h 9998]

theorem c28 {w : World} {U : Nat → Prop} (hU : ∀ k, U k → k < w.heap.size) {v : Value} {b : List UInt8} {n : Nat} {m : MsgD} (hd : BA U w v (b.take n)) (hnb : n ≤ b.length) (hfn : b.length ≤ n) (hbl : b.length < 100000000) (hG : GE w) (hsz : 21 ≤ w.heap.size) {Kp : Nat → Prop} (hMR : MsgR Kp b m) (hKp : ∀ k, Kp k → k ≤ 10 ∧ (k = 0 ∨ n = b.length)) (hho : m.head.ok) (l0 : m.asks.length < 65536) (l1 : m.one.length < 65536) (l2 : m.two.length < 65536) (l3 : m.three.length < 65536) (_hna : ∀ a ∈ m.asks, nameL (bt a.name)) (_hr1 : ∀ r ∈ m.one, ReadOk r ∧ (r.kind = 11 ∨ r.kind = 12 → asc r.pairs)) (_hr2 : ∀ r ∈ m.two, ReadOk r ∧ (r.kind = 11 ∨ r.kind = 12 → asc r.pairs)) (hr3 : ∀ r ∈ m.three, ReadOk r ∧ (r.kind = 11 ∨ r.kind = 12 → asc r.pairs)) {Tz : TypeId} {xz : Option Addr} (hg0 : w.rangeAt 0 0 [.iface Tz (.pointer xz)]) (hCT : CmpT Tz) (_hb1 : ∀ r ∈ m.one, NamesOk r ∧ r.pairs.length ≤ 1048576 ∧ r.texts.length ≤ 1048576 ∧ r.data.length ≤ 1048576 ∧ ∀ q ∈ r.pairs, q.data.length ≤ 65535) (_hb2 : ∀ r ∈ m.two, NamesOk r ∧ r.pairs.length ≤ 1048576 ∧ r.texts.length ≤ 1048576 ∧ r.data.length ≤ 1048576 ∧ ∀ q ∈ r.pairs, q.data.length ≤ 65535) (hb3 : ∀ r ∈ m.three, NamesOk r ∧ r.pairs.length ≤ 1048576 ∧ r.texts.length ≤ 1048576 ∧ r.data.length ≤ 1048576 ∧ ∀ q ∈ r.pairs, q.data.length ≤ 65535) {ec2 : Bool}  :
  Ret PP 28 [v, .bool ec2] w (fun u w' => (∃ (l3 : List RecD) (v3 : Value), u = .tuple #[v3, .bool true] ∧ All2 Like l3 m.three ∧ LA RecEl lRec (Ub NoU w w') w' v3 l3) ∧ Fr0 w w') := by
 obtain ⟨ad0, cd0, rfl, -⟩ := id hd
 have htl : (b.take n).length = n := by rw [List.length_take]; omega
 obtain ⟨hst, ea, eb, ec, hla, hl1, hl2, hl3⟩ := hMR
 have hz0 := listR_le hla (fun _ _ _ _ h => ask_le h)
 have hz1 := listR_le hl1 (fun _ _ _ _ h => rec_le h)
 have hz2 := listR_le hl2 (fun _ _ _ _ h => rec_le h)
 have hz3 := listR_le hl3 (fun _ _ _ _ h => rec_le h)
 have hst : Std b 0 (headL m.head [m.asks.length, m.one.length, m.two.length, m.three.length]) := hst
 have hf : Fr (fun _ => False) w w := Fr.refl _ _
 refine ret_of Tryz.func28 rfl rfl rfl [(0, _), (1, _)] rfl ?_
 refine sreg (sA rfl (sA rfl (send (fcg 0 1 rfl fun _ => sreg (sv (xbuildS [[.slice none 0 0], [.int .u16 0], [.int .u16 0], [.int .u16 0], [.int .u16 0], [.int .u16 0], [.int .u16 0], [.int .u8 0], [.int .i64 0], [.int .i64 0], [.bool false], [.int .i64 0], [.int .u16 0], [.int .u16 0]] zr124 ly124 rfl trivial (by simp [setAll, zs124])) (svK (xallS (lens := lMsg) in124 rfl) ?_))))))
 rintro _ w2 ⟨b6, rfl, m3, h6, e1, s1⟩
 refine suK (xstW h6 (lens' := lMsg) sz124 rfl rfl rfl rfl rfl) ?_
 rintro w5 ⟨m6, h6, s4⟩
 have hd := (hd.keep (lU hU (by omega)) m3 nF).keep (lU hU (by omega)) m6 (nU hU (by omega))
 refine send (fdg 0 1 6 rfl fun _ => wp_seq (sreg (sM rfl (svK (xapp sl37 in5 rfl (by decide) rfl rfl (Rw.nil _ w5.heap.size _ _) (hd.src sl37) (by simp only [maxLen]; omega) (by omega)) ?_))))
 rintro v17 w7 ⟨g17, r17, m8, a17, l17⟩
 have z9 := m8.size
 obtain ⟨ma, mc, bm, rfl, hkm, hms, hm, hbm, hbg⟩ := msg_of (n := n) (xs := b.take n) (show Rw _ _ _ _ _ _ (bvs (b.take n)) from r17) htl (by omega) (by omega) (fun h => l17 (.inr (by omega)))
 have hG := ((hG.k0 m3 (by omega)).k1 m6 (by omega) (by omega)).keep (fun k hk => by omega) m8 (fun k hk hS => by have hk := hk; have hS : k = w5.heap.size := hS; omega)
 have hd := hd.keep (lU hU (by omega)) m8 (fun k hk hS => by have hk := hU k hk; have hS : k = w5.heap.size := hS; omega)
 have h6 := h6.keep m8 (by show ¬ (b6 = w5.heap.size); omega)
 refine sc (xcall ca55 rfl) (c55 (b := b) (hd := m.head) hms hm (by omega) hnb hkm hbl hG (by omega) h6 (by omega) (by omega) hho hst l0 l1 l2 l3 (by omega)) ?_
 rintro _ w10 ⟨⟨hle18, rfl, hP⟩ | ⟨hgt18, -⟩, m11⟩
 rotate_left
 · exact absurd hgt18 (by omega)
 have z12 := m11.size
 have hP : PrAt w10 b6 (.slice ma n mc) (m.head.id.toNat : Int) ((hbits m.head).toNat : Int) (m.asks.length : Int) (m.one.length : Int) (m.two.length : Int) (m.three.length : Int) 2 ((12 : Nat) : Int) 0 := ⟨_, _, _, hP⟩
 refine sM rfl (sE2 rfl (svK (xallS (lens := [1, 1, 1, 1, 1, 1, 1, 1, 1, 1]) in73 rfl) ?_))
 rintro _ w14 ⟨b7, rfl, m15, h7, e13, s13⟩
 refine suK (xstW h7 (lens' := [1, 1, 1, 1, 1, 1, 1, 1, 1, 1]) sz73 rfl rfl rfl rfl rfl) ?_
 rintro w17 ⟨m18, h7, s16⟩
 have hg0 := rng_fr (rng_fr (rng_fr (rng_fr (rng_fr (rng_fr hg0 m3 (by omega) id) m6 (by omega) (nE (by omega))) m8 (by omega) (by show ¬ (0 = w5.heap.size); omega)) m11 (by omega) (nE (by omega))) m15 (by omega) id) m18 (by omega) (nE (by omega))
 have hf := (((((hf.s m3).t m6 (by omega)).step m8 (fun k hk hS => by have hS : k = w5.heap.size := hS; show False; omega)).t m11 (by omega)).s m15).t m18 (by omega)
 have hG := ((hG.k1 m11 (by omega) (by omega)).k0 m15 (by omega)).k1 m18 (by omega) (by omega)
 have hm := rng_fr (rng_fr (rng_fr hm m11 (by omega) (nE (by omega))) m15 (by omega) id) m18 (by omega) (nE (by omega))
 have hP := (hP.k m15).keep m18 (nE (by omega))
 refine sA rfl (send ((sreg (sM rfl (sv (xneN if89 rfl) (send ((cno rfl (wp_skip (nThen ((wp_seq (sreg (sM rfl (send (fcg 6 23 rfl fun _ => ?_))))))))))))))))
 refine jcut [(6, _)] ⟨rfl, trivial⟩ (fun (x : Unit) => match x with | _ => []) (fun (x : Unit) wx => match x with | _ => Fr (fun k => k = b6) w17 wx ∧ (PrAt wx b6 (.slice ma n mc) (m.head.id.toNat : Int) ((hbits m.head).toNat : Int) (m.asks.length : Int) (m.one.length : Int) (m.two.length : Int) (m.three.length : Int) 5 (ec : Int) 0)) ?_ ?_
 rotate_left
 ·
  rintro _ _ w62 ⟨hJ19, hP⟩
  have z63 := hJ19.size
  have hG := hG.k1 hJ19 (by omega) (by omega)
  have hg0 := rng_fr hg0 hJ19 (by omega) (nE (by omega))
  have hm := rng_fr hm hJ19 (by omega) (nE (by omega))
  refine nThen (fbg 6 rfl fun _ => sreg (sc (xcall ca59 rfl) (c59 (b := b) (Kp := Kp) (e := b.length) (l := m.three) hms hm (by omega) hnb hkm hbl hP hg0 hG (by omega) (by omega) hCT (by omega) hKp (by omega) (by omega) (B := 0) (mb := 0) (sf := fun _ => emptyB) (Nat.zero_le _) cnt5 l3 hl3 hr3 (.inl (by omega))) ?_))
  rintro _ w65 ⟨⟨hle54, v54, rfl, hL59, hP⟩ | ⟨hgt54, -⟩, m66⟩
  rotate_left
  · exact absurd hgt54 (by omega)
  have z67 := m66.size
  obtain ⟨aq54, cq54, rfl⟩ := hL59.form
  refine sM rfl (sE2 rfl (sA rfl (sA rfl (send (fcg 12 13 rfl fun _ => ?_)))))
  refine sdrawH (Fr (fun _ => False) w65.drew) [rd0, rd2, rd3, ld1, rd4, rd5] mixed (by kernel_rfl) (fun _ _ _ _ _ h => h) ?_
  have z68 : w65.drew.heap.size = w65.heap.size := rfl
  have hS69 : Fr (fun _ => False) w65.drew w65.drew := Fr.refl _ _
  have hL59 := hL59.keep resv_st (lNo (by omega)) (fd w65) nF
  refine qqM rfl rfl hS69 (qqM rfl rfl hS69 (hvH rfl (fun _ _ => xeqN if89 rfl) hS69 ?_))
  refine hcH rfl (xcall ca50 rfl) (c50 (U := Ub NoU w62 w65) (fun k hk => by have hk := (show w62.heap.size ≤ k ∧ k < w65.heap.size from hk.elim (fun h => h.elim) id); omega) hL59 (by omega) hb3) ?_
  rintro v58 w70 ⟨l58, L58, hA58, m71⟩
  have z72 := m71.size
  have hS73 := hS69.s m71
  obtain ⟨aq58, cq58, rfl⟩ := L58.form
  have hf := (((hf.t hJ19 (by omega)).t m66 (by omega)).drew).s m71
  refine ⟨hS73, ?_⟩
  refine qqA rfl rfl hS73 (qqA rfl rfl hS73 (hendH (fcg 4 5 rfl fun _ => wp_ret (rp2 rfl rfl rfl ?_))))
  exact ⟨⟨l58, _, rfl, hA58, L58.mono rec_gr (fun k hk => uu_mono hk (by omega) (by omega) (by omega) (by omega))⟩, hf⟩
 have hJ19 : Fr (fun k => k = b6) w17 w17 := Fr.refl _ _
 refine cB rfl (fun hb => ?_) (fun hb => ?_)
 rotate_left
 ·
  refine sreg (sc (xcall ca68 rfl) (c68 (b := b) (Kp := Kp) (e := ea) hms hm (by omega) hnb hkm hbl (by omega) hP hg0 hG (by omega) (by omega) hCT (by omega) (by omega) cnt2 (by omega) hla) ?_)
  rintro _ w53 ⟨⟨rfl, hP⟩, m54⟩
  have z55 := m54.size
  have hG := hG.k1 m54 (by omega) (by omega)
  have hg0 := rng_fr hg0 m54 (by omega) (nE (by omega))
  have hm := rng_fr hm m54 (by omega) (nE (by omega))
  refine sv (xneN if89 rfl) (sM rfl (gyes rfl rfl rfl (sc (xcall ca69 rfl) (c69 (b := b) (Kp := Kp) (e := eb) hms hm (by omega) hnb hkm hbl (by omega) hP hg0 hG (by omega) (by omega) hCT (by omega) (by omega) cnt3 (by omega) hl1) ?_)))
  rintro _ w56 ⟨⟨rfl, hP⟩, m57⟩
  have z58 := m57.size
  have hG := hG.k1 m57 (by omega) (by omega)
  have hg0 := rng_fr hg0 m57 (by omega) (nE (by omega))
  have hm := rng_fr hm m57 (by omega) (nE (by omega))
  refine gyes rfl rfl rfl (sv (xneN if89 rfl) (sv (xpickF rfl rfl) (sM rfl (gyes rfl rfl rfl (sc (xcall ca70 rfl) (c70 (b := b) (Kp := Kp) (e := ec) hms hm (by omega) hnb hkm hbl (by omega) hP hg0 hG (by omega) (by omega) hCT (by omega) (by omega) cnt4 (by omega) hl2) ?_)))))
  rintro _ w59 ⟨⟨rfl, hP⟩, m60⟩
  have z61 := m60.size
  have hJ19 := ((hJ19.step m54 nI).step m57 nI).step m60 nI
  refine gyes rfl rfl rfl (sv (xneN if89 rfl) (sv (xpickF rfl rfl) (send (fcg 6 52 rfl fun _ => cno rfl (wp_skip ?_)))))
  exact ⟨rfl, (), _, env_okl ⟨rfl, trivial⟩, ⟨hJ19, (hP)⟩⟩
 refine sreg (sv (xmkF rfl) (sv (xmkF rfl) (sv (xmkF rfl) (svK (xslit ([.func (.func 65) #[.pointer (some ⟨b6, 0, none⟩)] #[], .func (.func 66) #[.pointer (some ⟨b6, 0, none⟩)] #[], .func (.func 67) #[.pointer (some ⟨b6, 0, none⟩)] #[]]) sl144 in143 rfl (by decide) rfl rfl rfl rfl (by decide) rfl rfl) ?_))))
 rintro _ w21 ⟨b27, rfl, m22, h27, e27, s27, r27⟩
 have hP := hP.k m22
 refine sv (xlen sl144 rfl) (sM rfl (send (feg 6 27 28 29 rfl fun _ => wp_block (lp [(6, _), (27, _), (28, _)] (fun (i : Nat) => [(29, .int .i64 (i : Int))]) (fun (i : Nat) wx => Fr (fun k => k = b6) w21 wx ∧ (i ≤ 3) ∧ ((i = 0 ∧ PrAt wx b6 (.slice ma n mc) (m.head.id.toNat : Int) ((hbits m.head).toNat : Int) (m.asks.length : Int) (m.one.length : Int) (m.two.length : Int) (m.three.length : Int) 2 ((12 : Nat) : Int) 0) ∨ (i = 1 ∧ PrAt wx b6 (.slice ma n mc) (m.head.id.toNat : Int) ((hbits m.head).toNat : Int) (m.asks.length : Int) (m.one.length : Int) (m.two.length : Int) (m.three.length : Int) 3 (ea : Int) 0) ∨ (i = 2 ∧ PrAt wx b6 (.slice ma n mc) (m.head.id.toNat : Int) ((hbits m.head).toNat : Int) (m.asks.length : Int) (m.one.length : Int) (m.two.length : Int) (m.three.length : Int) 4 (eb : Int) 0) ∨ (i = 3 ∧ PrAt wx b6 (.slice ma n mc) (m.head.id.toNat : Int) ((hbits m.head).toNat : Int) (m.asks.length : Int) (m.one.length : Int) (m.two.length : Int) (m.three.length : Int) 5 (ec : Int) 0))) (fun (i : Nat) => 3 - i) 0 ⟨rfl, rfl, rfl, rfl, trivial⟩ ⟨Fr.refl _ _, by omega, .inl ⟨rfl, hP⟩⟩ ?_))))
 rintro i _ w24 ⟨hL23, hi, hD⟩
 refine feg 6 27 28 29 rfl fun _ => ?_
 have z25 := hL23.size
 have hG := (hG.k0 m22 (by omega)).k1 hL23 (by omega) (by omega)
 have hg0 := rng_fr (rng_fr hg0 m22 (by omega) id) hL23 (by omega) (nE (by omega))
 have hf := (hf.s m22).t hL23 (by omega)
 have hm := rng_fr (rng_fr hm m22 (by omega) id) hL23 (by omega) (nE (by omega))
 have hJ19 := (hJ19.s m22).step hL23 nI
 have r27 := r27.keep hL23 (nE (by omega))
 rcases hD with ⟨rfl, hP⟩ | ⟨rfl, hP⟩ | ⟨rfl, hP⟩ | ⟨rfl, hP⟩
 ·
  refine sreg (sv (exT (xlss rfl rfl) (by omega)) (send ((wp_seq (cyes rfl (wp_skip (nThen ((wp_seq (wp_block (sreg (sv (xidx1 (i := 0) sl144 sz143 rfl rfl rfl (by omega)) (sv (xld on143 rfl (Rw.rng r27 0 _ rfl)) (sA rfl (send (ffg 6 10 27 28 29 rfl fun _ => sreg (sM rfl (sc (xcallV ca65 rfl) (c65 (b := b) (Kp := Kp) (e := ea) (j := 0) hms hm (by omega) hnb hkm hbl (by omega) hP hg0 hG (by omega) (by omega) (by omega) (by omega) cnt2 (by omega) (by omega) hla) ?_))))))))))))))))))
  rintro u34 w26 ⟨hSk, m27⟩
  have z28 := m27.size
  refine sA rfl (send (fgg 6 10 11 27 28 29 rfl fun _ => wp_seq (wp_block (lp [(6, _), (10, _), (27, _), (28, _), (29, _)] (fun (x : Nat × Value) => match x with | (j, u) => [(11, u)]) (fun (x : Nat × Value) wx => match x with | (j, u) => Fr (fun k => k = b6) w26 wx ∧ (Sk wx b6 (.slice ma n mc) (m.head.id.toNat : Int) ((hbits m.head).toNat : Int) (m.asks.length : Int) (m.one.length : Int) (m.two.length : Int) (m.three.length : Int) Tz xz 2 (AskR Kp b) m.asks ea j u) ∧ (1 ≤ j) ∧ (j ≤ m.asks.length + 1)) (fun (x : Nat × Value) => match x with | (j, u) => m.asks.length + 1 - j) (1, u34) ⟨rfl, rfl, rfl, rfl, rfl, rfl, trivial⟩ ⟨Fr.refl _ _, hSk, Nat.le_refl _, by omega⟩ ?_))))
  rintro ⟨j, u⟩ _ w30 ⟨hL29, hSk, hj1, hj2⟩
  refine fgg 6 10 11 27 28 29 rfl fun _ => ?_
  have z31 := hL29.size
  have hg0 := rng_fr (rng_fr hg0 m27 (by omega) (nE (by omega))) hL29 (by omega) (nE (by omega))
  have hL23 := (hL23.step m27 nI).step hL29 nI
  rcases hSk with ⟨o2, rfl, hj, hls2, hP⟩ | ⟨rfl, hP⟩
  ·
   have hG := (hG.k1 m27 (by omega) (by omega)).k1 hL29 (by omega) (by omega)
   have hm := rng_fr (rng_fr hm m27 (by omega) (nE (by omega))) hL29 (by omega) (nE (by omega))
   refine wp_seq (sreg (sM rfl (sv (xeqN if89 rfl) (send ((cyes rfl (wp_skip (nThen (ffg 6 10 27 28 29 rfl fun _ => wp_block (lreg (sM rfl (sc (xcallV ca65 rfl) (c65 (b := b) (Kp := Kp) (e := ea) (j := j) hms hm (by omega) hnb hkm hbl (by omega) hP hg0 hG (by omega) (by omega) (by omega) (by omega) cnt2 (by omega) (by omega) hls2) ?_))))))))))))
   rintro u38 w32 ⟨hSk, m33⟩
   have z34 := m33.size
   have hf := ((hf.t m27 (by omega)).t hL29 (by omega)).t m33 (by omega)
   have hJ19 := ((hJ19.step m27 nI).step hL29 nI).step m33 nI
   have r27 := ((r27.keep m27 (nE (by omega))).keep hL29 (nE (by omega))).keep m33 (nE (by omega))
   have hL29 := hL29.step m33 nI
   refine sA rfl (lend (nBlock (nThen ?_)))
   refine ⟨(j + 1, u38), _, env_okl ⟨rfl, rfl, rfl, rfl, rfl, rfl, trivial⟩, ⟨hL29, (hSk), (by omega), (by omega)⟩, ?_⟩
   show m.asks.length + 1 - (j + 1) < m.asks.length + 1 - j; omega
  refine wp_seq (sreg (sM rfl (sv (xeqI if89 rfl) (send ((cno rfl (wp_exit (eThen (eThen (eHit (nThen ((sreg (sM rfl (sv (xld on89 rfl (hg0 0 _ rfl)) (sv (xneES if89 hCT rfl rfl) (send ((cno rfl (wp_skip (nBlock (nThen (feg 6 27 28 29 rfl fun _ => lreg (sv (xadd rfl rfl (w64 (by omega) (by omega))) (sM rfl (lend (nThen ?_)))))))))))))))))))))))))))
  refine ⟨1, _, env_okl ⟨rfl, rfl, rfl, rfl, trivial⟩, ⟨hL23, (by omega), (.inr (.inl ⟨rfl, hP⟩))⟩, ?_⟩
  show 3 - (_ + 1) < 3 - _; omega
 ·
  refine sreg (sv (exT (xlss rfl rfl) (by omega)) (send ((wp_seq (cyes rfl (wp_skip (nThen ((wp_seq (wp_block (sreg (sv (xidx1 (i := 1) sl144 sz143 rfl rfl rfl (by omega)) (sv (xld on143 rfl (Rw.rng r27 1 _ rfl)) (sA rfl (send (ffg 6 10 27 28 29 rfl fun _ => sreg (sM rfl (sc (xcallV ca66 rfl) (c66 (b := b) (Kp := Kp) (e := eb) (j := 0) hms hm (by omega) hnb hkm hbl (by omega) hP hg0 hG (by omega) (by omega) (by omega) (by omega) cnt3 (by omega) (by omega) hl1) ?_))))))))))))))))))
  rintro u34 w35 ⟨hSk, m36⟩
  have z37 := m36.size
  refine sA rfl (send (fgg 6 10 11 27 28 29 rfl fun _ => wp_seq (wp_block (lp [(6, _), (10, _), (27, _), (28, _), (29, _)] (fun (x : Nat × Value) => match x with | (j, u) => [(11, u)]) (fun (x : Nat × Value) wx => match x with | (j, u) => Fr (fun k => k = b6) w35 wx ∧ (Sk wx b6 (.slice ma n mc) (m.head.id.toNat : Int) ((hbits m.head).toNat : Int) (m.asks.length : Int) (m.one.length : Int) (m.two.length : Int) (m.three.length : Int) Tz xz 3 (RecR Kp b) m.one eb j u) ∧ (1 ≤ j) ∧ (j ≤ m.one.length + 1)) (fun (x : Nat × Value) => match x with | (j, u) => m.one.length + 1 - j) (1, u34) ⟨rfl, rfl, rfl, rfl, rfl, rfl, trivial⟩ ⟨Fr.refl _ _, hSk, Nat.le_refl _, by omega⟩ ?_))))
  rintro ⟨j, u⟩ _ w39 ⟨hL38, hSk, hj1, hj2⟩
  refine fgg 6 10 11 27 28 29 rfl fun _ => ?_
  have z40 := hL38.size
  have hg0 := rng_fr (rng_fr hg0 m36 (by omega) (nE (by omega))) hL38 (by omega) (nE (by omega))
  have hL23 := (hL23.step m36 nI).step hL38 nI
  rcases hSk with ⟨o2, rfl, hj, hls2, hP⟩ | ⟨rfl, hP⟩
  ·
   have hG := (hG.k1 m36 (by omega) (by omega)).k1 hL38 (by omega) (by omega)
   have hm := rng_fr (rng_fr hm m36 (by omega) (nE (by omega))) hL38 (by omega) (nE (by omega))
   refine wp_seq (sreg (sM rfl (sv (xeqN if89 rfl) (send ((cyes rfl (wp_skip (nThen (ffg 6 10 27 28 29 rfl fun _ => wp_block (lreg (sM rfl (sc (xcallV ca66 rfl) (c66 (b := b) (Kp := Kp) (e := eb) (j := j) hms hm (by omega) hnb hkm hbl (by omega) hP hg0 hG (by omega) (by omega) (by omega) (by omega) cnt3 (by omega) (by omega) hls2) ?_))))))))))))
   rintro u38 w41 ⟨hSk, m42⟩
   have z43 := m42.size
   have hf := ((hf.t m36 (by omega)).t hL38 (by omega)).t m42 (by omega)
   have hJ19 := ((hJ19.step m36 nI).step hL38 nI).step m42 nI
   have r27 := ((r27.keep m36 (nE (by omega))).keep hL38 (nE (by omega))).keep m42 (nE (by omega))
   have hL38 := hL38.step m42 nI
   refine sA rfl (lend (nBlock (nThen ?_)))
   refine ⟨(j + 1, u38), _, env_okl ⟨rfl, rfl, rfl, rfl, rfl, rfl, trivial⟩, ⟨hL38, (hSk), (by omega), (by omega)⟩, ?_⟩
   show m.one.length + 1 - (j + 1) < m.one.length + 1 - j; omega
  refine wp_seq (sreg (sM rfl (sv (xeqI if89 rfl) (send ((cno rfl (wp_exit (eThen (eThen (eHit (nThen ((sreg (sM rfl (sv (xld on89 rfl (hg0 0 _ rfl)) (sv (xneES if89 hCT rfl rfl) (send ((cno rfl (wp_skip (nBlock (nThen (feg 6 27 28 29 rfl fun _ => lreg (sv (xadd rfl rfl (w64 (by omega) (by omega))) (sM rfl (lend (nThen ?_)))))))))))))))))))))))))))
  refine ⟨2, _, env_okl ⟨rfl, rfl, rfl, rfl, trivial⟩, ⟨hL23, (by omega), (.inr (.inr (.inl ⟨rfl, hP⟩)))⟩, ?_⟩
  show 3 - (_ + 1) < 3 - _; omega
 ·
  refine sreg (sv (exT (xlss rfl rfl) (by omega)) (send ((wp_seq (cyes rfl (wp_skip (nThen ((wp_seq (wp_block (sreg (sv (xidx1 (i := 2) sl144 sz143 rfl rfl rfl (by omega)) (sv (xld on143 rfl (Rw.rng r27 2 _ rfl)) (sA rfl (send (ffg 6 10 27 28 29 rfl fun _ => sreg (sM rfl (sc (xcallV ca67 rfl) (c67 (b := b) (Kp := Kp) (e := ec) (j := 0) hms hm (by omega) hnb hkm hbl (by omega) hP hg0 hG (by omega) (by omega) (by omega) (by omega) cnt4 (by omega) (by omega) hl2) ?_))))))))))))))))))
  rintro u34 w44 ⟨hSk, m45⟩
  have z46 := m45.size
  refine sA rfl (send (fgg 6 10 11 27 28 29 rfl fun _ => wp_seq (wp_block (lp [(6, _), (10, _), (27, _), (28, _), (29, _)] (fun (x : Nat × Value) => match x with | (j, u) => [(11, u)]) (fun (x : Nat × Value) wx => match x with | (j, u) => Fr (fun k => k = b6) w44 wx ∧ (Sk wx b6 (.slice ma n mc) (m.head.id.toNat : Int) ((hbits m.head).toNat : Int) (m.asks.length : Int) (m.one.length : Int) (m.two.length : Int) (m.three.length : Int) Tz xz 4 (RecR Kp b) m.two ec j u) ∧ (1 ≤ j) ∧ (j ≤ m.two.length + 1)) (fun (x : Nat × Value) => match x with | (j, u) => m.two.length + 1 - j) (1, u34) ⟨rfl, rfl, rfl, rfl, rfl, rfl, trivial⟩ ⟨Fr.refl _ _, hSk, Nat.le_refl _, by omega⟩ ?_))))
  rintro ⟨j, u⟩ _ w48 ⟨hL47, hSk, hj1, hj2⟩
  refine fgg 6 10 11 27 28 29 rfl fun _ => ?_
  have z49 := hL47.size
  have hg0 := rng_fr (rng_fr hg0 m45 (by omega) (nE (by omega))) hL47 (by omega) (nE (by omega))
  have hL23 := (hL23.step m45 nI).step hL47 nI
  rcases hSk with ⟨o2, rfl, hj, hls2, hP⟩ | ⟨rfl, hP⟩
  ·
   have hG := (hG.k1 m45 (by omega) (by omega)).k1 hL47 (by omega) (by omega)
   have hm := rng_fr (rng_fr hm m45 (by omega) (nE (by omega))) hL47 (by omega) (nE (by omega))
   refine wp_seq (sreg (sM rfl (sv (xeqN if89 rfl) (send ((cyes rfl (wp_skip (nThen (ffg 6 10 27 28 29 rfl fun _ => wp_block (lreg (sM rfl (sc (xcallV ca67 rfl) (c67 (b := b) (Kp := Kp) (e := ec) (j := j) hms hm (by omega) hnb hkm hbl (by omega) hP hg0 hG (by omega) (by omega) (by omega) (by omega) cnt4 (by omega) (by omega) hls2) ?_))))))))))))
   rintro u38 w50 ⟨hSk, m51⟩
   have z52 := m51.size
   have hf := ((hf.t m45 (by omega)).t hL47 (by omega)).t m51 (by omega)
   have hJ19 := ((hJ19.step m45 nI).step hL47 nI).step m51 nI
   have hL47 := hL47.step m51 nI
   refine sA rfl (lend (nBlock (nThen ?_)))
   refine ⟨(j + 1, u38), _, env_okl ⟨rfl, rfl, rfl, rfl, rfl, rfl, trivial⟩, ⟨hL47, (hSk), (by omega), (by omega)⟩, ?_⟩
   show m.two.length + 1 - (j + 1) < m.two.length + 1 - j; omega
  refine wp_seq (sreg (sM rfl (sv (xeqI if89 rfl) (send ((cno rfl (wp_exit (eThen (eThen (eHit (nThen ((sreg (sM rfl (sv (xld on89 rfl (hg0 0 _ rfl)) (sv (xneES if89 hCT rfl rfl) (send ((cno rfl (wp_skip (nBlock (nThen (feg 6 27 28 29 rfl fun _ => lreg (sv (xadd rfl rfl (w64 (by omega) (by omega))) (sM rfl (lend (nThen ?_)))))))))))))))))))))))))))
  refine ⟨3, _, env_okl ⟨rfl, rfl, rfl, rfl, trivial⟩, ⟨hL23, (by omega), (.inr (.inr (.inr ⟨rfl, hP⟩)))⟩, ?_⟩
  show 3 - (_ + 1) < 3 - _; omega
 refine sreg (sv (exF (xlss rfl rfl) (by omega)) (send (ffg 6 27 28 29 30 rfl fun _ => wp_seq (cno rfl (wp_exit (eThen (eThen (eHit ?_))))))))
 exact ⟨rfl, (), _, env_okl ⟨rfl, trivial⟩, ⟨hJ19, (hP)⟩⟩
end Go.Proofs.YtifnodoffgfpbaaGreatDoor

namespace Go.Proofs.YtifnodoffgfpbaaGreatDoor
open Go

theorem asc_of {r : RecD} (h : PackOk r) : r.kind = 11 ∨ r.kind = 12 → asc r.pairs := h.2.2.1.2.2.2.2.2.2.2
theorem back_of {r : RecD} (h : PackOk r) (hf : r.fits) : NamesOk r ∧ r.pairs.length ≤ 1048576 ∧ r.texts.length ≤ 1048576 ∧ r.data.length ≤ 1048576 ∧ ∀ q ∈ r.pairs, q.data.length ≤ 65535 :=
  ⟨h.2.1, hf.2.2.2.2.2.2.2.1, hf.2.2.2.2.1, hf.2.1, h.2.2.1.2.2.2.2.1⟩

end Go.Proofs.YtifnodoffgfpbaaGreatDoor

namespace Go.Proofs.YtifnodoffgfpbaaGreatDoor
open Go

theorem packGo_run : ∀ (lab' lab rest : List UInt8) (C : Option Ent) (pos : Nat), lab ≠ [] → (∀ c ∈ lab', c ≠ 46) →
    packGo C pos lab (lab' ++ 46 :: rest) = pkE (UInt8.ofNat (lab ++ lab').length :: (lab ++ lab')) (packGo C (pos + ((lab ++ lab').length + 1)) [] rest)
  | [], lab, rest, C, pos, _, _ => by simp [packGo, pkE]
  | c :: cs, lab, rest, C, pos, h0, hd => by
    rw [List.cons_append, pk_mid (hd c (by simp)) h0, packGo_run cs (lab ++ [c]) rest C pos (by simp) (fun x hx => hd x (by simp [hx]))]
    simp
theorem packGo_hit {M : Ent} {pos : Nat} {lab rest : List UInt8} {p : UInt16} (h0 : lab ≠ []) (hd : ∀ c ∈ lab, c ≠ 46) (hl : look M (mkB (lab ++ 46 :: rest)) = some p) :
    packGo (some M) pos [] (lab ++ 46 :: rest) = (ptrL p, some M) := by
  cases lab with
  | nil => exact absurd rfl h0
  | cons c cs => exact pk_hit (hd c (by simp)) hl
theorem packGo_miss {M : Ent} {pos : Nat} {lab rest : List UInt8} (h0 : lab ≠ []) (hd : ∀ c ∈ lab, c ≠ 46) (hl : look M (mkB (lab ++ 46 :: rest)) = none) :
    packGo (some M) pos [] (lab ++ 46 :: rest) = pkE (UInt8.ofNat lab.length :: lab) (packGo (some (if pos ≤ 16383 then M ++ [(mkB (lab ++ 46 :: rest), UInt16.ofNat pos)] else M)) (pos + (lab.length + 1)) [] rest) := by
  cases lab with
  | nil => exact absurd rfl h0
  | cons c cs =>
    rw [List.cons_append, pk_miss (hd c (by simp)) (by rw [List.cons_append] at hl; exact hl), packGo_run cs [c] rest _ pos (by simp) (fun x hx => hd x (by simp [hx]))]
    simp
theorem nameGo_split : ∀ {s : List UInt8} {n : Nat}, nameGo n s = true → s ≠ [] → ∃ lab rest, s = lab ++ 46 :: rest ∧ (∀ c ∈ lab, c ≠ 46) ∧ 1 ≤ n + lab.length ∧ n + lab.length ≤ 63 ∧ nameGo 0 rest = true
  | [], _, _, h => absurd rfl h
  | c :: cs, n, hn, _ => by
    by_cases hc : c = 46
    · subst hc
      obtain ⟨h1, h2, h3⟩ := nameGo_dot hn
      exact ⟨[], cs, rfl, by simp, by simpa using h1, by simpa using h2, h3⟩
    · have hn' := nameGo_let hn hc
      have hne : cs ≠ [] := by intro e; subst e; simp [nameGo] at hn'
      obtain ⟨lab, rest, rfl, hd, h1, h2, h3⟩ := nameGo_split hn' hne
      exact ⟨c :: lab, rest, rfl, by
        intro x hx
        rcases List.mem_cons.1 hx with rfl | hx
        · exact hc
        · exact hd x hx, by simp; omega, by simp; omega, h3⟩
theorem nameGo_first' {s : List UInt8} (h : nameGo 0 s = true) (h0 : s ≠ []) : ∃ lab rest, s = lab ++ 46 :: rest ∧ lab ≠ [] ∧ (∀ c ∈ lab, c ≠ 46) ∧ lab.length ≤ 63 ∧ nameGo 0 rest = true := by
  obtain ⟨lab, rest, e, hd, h1, h2, h3⟩ := nameGo_split h h0
  exact ⟨lab, rest, e, by intro hl; subst hl; simp at h1, hd, by omega, h3⟩
end Go.Proofs.YtifnodoffgfpbaaGreatDoor

namespace Go.Proofs.YtifnodoffgfpbaaGreatDoor
open Go

def ints (xs : List UInt16) : List Value := xs.map fun p => .int .i64 (p.toNat : Int)
def RN (w : World) (v : Value) (g e n : Nat) (cs : List Value) : Prop := (v = .slice none 0 0 ∧ n = 0 ∧ cs = []) ∨ (0 < n ∧ Rw w v g e 1 n cs)
section
variable {w w' : World} {v : Value} {g e n : Nat} {cs : List Value}
theorem RN.keep {S : Nat → Prop} (h : RN w v g e n cs) (m : Fr S w w') (hn : 0 < n → ¬ S g) : RN w' v g e n cs := h.imp_right fun ⟨h0, h⟩ => ⟨h0, h.keep m (hn h0)⟩
theorem RN.form (h : RN w v g e n cs) : ∃ a c, v = .slice a n c ∧ (0 < n → a = some ⟨g, 0, none⟩) := by
  rcases h with ⟨rfl, rfl, _⟩ | ⟨h0, h⟩
  · exact ⟨none, 0, rfl, fun h => absurd h (by omega)⟩
  · obtain ⟨a, c, rfl, _, _, h5, _⟩ := h.form
    exact ⟨a, c, rfl, h5⟩
theorem RN.rng (h : RN w v g e n cs) : w.rangeAt g 0 cs := by
  rcases h with ⟨_, _, rfl⟩ | ⟨_, h⟩
  · intro j u hu; simp at hu
  · exact h.rng
end
def lookI (M : Ent) (s : ByteArray) : Int := match look M s with | none => -1 | some p => (p.toNat : Int)
theorem lookI_some {M : Ent} {s : ByteArray} {p : UInt16} (h : look M s = some p) : lookI M s = (p.toNat : Int) := by simp [lookI, h]
theorem lookI_none {M : Ent} {s : ByteArray} (h : look M s = none) : lookI M s = -1 := by simp [lookI, h]
theorem look_of {M : Ent} {s : ByteArray} (h : 0 ≤ lookI M s) : ∃ p, look M s = some p := by
  cases hl : look M s with
  | none => rw [lookI_none hl] at h; omega
  | some p => exact ⟨p, rfl⟩
theorem look_no {M : Ent} {s : ByteArray} (h : ¬ 0 ≤ lookI M s) : look M s = none := by
  cases hl : look M s with
  | none => rfl
  | some p => rw [lookI_some hl] at h; omega
theorem look_drop {M : Ent} {s : ByteArray} {k : Nat} {q : ByteArray × UInt16} (h : M[k]? = some q) : look (M.drop k) s = if s = q.1 then some q.2 else look (M.drop (k + 1)) s := by
  have hk : k < M.length := (List.getElem?_eq_some_iff.1 h).1
  have he : M[k] = q := (List.getElem?_eq_some_iff.1 h).2
  rw [List.drop_eq_getElem_cons hk, he]
  obtain ⟨a, b⟩ := q
  rfl
abbrev lSh : List Nat := [1, 1, 1]
theorem map_at {α : Type} {f : α → Value} {l : List α} {k : Nat} {x : α} (h : l[k]? = some x) : (l.map f)[k]? = some (f x) := by rw [List.getElem?_map, h]; rfl

theorem c101 {w : World} {bw g1 g2 : Nat} {v0 v1 v2 : Value} {M : Ent} {s : ByteArray} (hW : SB w bw lSh [[v0], [v1], [v2]]) (q1 : RN w v1 g1 9 M.length (strs (M.map Prod.fst))) (q2 : RN w v2 g2 3 M.length (ints (M.map Prod.snd))) (hM : M.length < 1000000) :
  Ret PP 101 [.pointer (some ⟨bw, 0, none⟩), .string s] w (fun u w' => u = .int .i64 (lookI M s) ∧ Fr0 w w') := by
 obtain ⟨a1, c1, rfl, hs1⟩ := q1.form
 obtain ⟨a2, c2, rfl, hs2⟩ := q2.form
 have hf : Fr (fun _ => False) w w := Fr.refl _ _
 have z_hW := hW.lt
 refine ret_of Tryz.func101 rfl rfl rfl [(0, _), (1, _)] rfl ?_
 refine sreg (sA rfl (send ((wp_seq (sreg (sM rfl (sN rfl (sv (xfld fl116_1 rfl) (sv (xld on62 rfl (hW.r.c 1 rfl rfl)) (sv (xlen sl62 rfl) (sM rfl (send (ffg 0 1 10 11 12 rfl fun _ => wp_block (lp [(0, _), (1, _), (10, _), (11, _)] (fun (k : Nat) => [(12, .int .i64 (k : Int))]) (fun (k : Nat) wx => Fr (fun _ => False) w wx ∧ (k ≤ M.length) ∧ (look M s = look (M.drop k) s)) (fun (k : Nat) => M.length - k) 0 ⟨rfl, rfl, rfl, rfl, rfl, trivial⟩ ⟨Fr.refl _ _, Nat.zero_le _, rfl⟩ ?_))))))))))))))
 rintro k _ w2 ⟨hL1, hk, hlk⟩
 refine ffg 0 1 10 11 12 rfl fun _ => ?_
 have z3 := hL1.size
 have hf := hf.s hL1
 refine sreg (svP (xlss rfl rfl) (fun hc13 => ?_) (fun hc13 => ?_))
 ·
  refine send ((wp_seq (cyes rfl (wp_skip (nThen (ffg 0 1 10 11 12 rfl fun _ => wp_seq (wp_block ?_)))))))
  obtain ⟨q, hqk⟩ := some_of_lt (by omega : k < M.length)
  have hld := look_drop (s := s) hqk
  obtain rfl := hs1 (by omega)
  have q1 := q1.keep hL1 (fun h0 => id)
  refine sreg (sM rfl (sv (xidx1 (i := k) sl62 sz9 rfl rfl rfl (by omega)) (sv (xld (v := .string q.1) on9 rfl (by have hq := q1.rng k (.string q.1) (by rw [strs, List.map_map]; exact map_at hqk); rwa [Nat.zero_add] at hq ⊢)) (sA rfl (sA rfl (send (fhg 0 1 5 6 10 11 12 rfl fun _ => sreg (sM rfl (sM rfl (svP (xeqs rfl rfl) (fun hc19 => ?_) (fun hc19 => ?_)))))))))))
  ·
   refine send (fhg 0 1 5 10 11 12 19 rfl fun _ => cyes rfl ?_)
   obtain rfl := hs2 (by omega)
   rw [if_pos hc19.symm, ← hlk] at hld
   have hW := hW.k hL1
   have q2 := q2.keep hL1 (fun h0 => id)
   refine sreg (sM rfl (sN rfl (sv (xfld fl116_2 rfl) (sv (xld on99 rfl (hW.r.c 2 rfl rfl)) (sM rfl (sv (xidx1 (i := k) sl99 sz3 rfl rfl rfl (by omega)) (sv (xld (v := .int .i64 (q.2.toNat : Int)) on3 rfl (by have hq := q2.rng k (.int .i64 (q.2.toNat : Int)) (by rw [ints, List.map_map]; exact map_at hqk); rwa [Nat.zero_add] at hq ⊢)) (sA rfl (send (fbg 4 rfl fun _ => wp_ret (rBlock (rThen (rThen (rBlock (rThen (rp1 rfl rfl ?_))))))))))))))))
   exact ⟨by rw [lookI_some hld], hf⟩
  refine send ((cno rfl (wp_skip (nBlock (nThen (ffg 0 1 10 11 12 rfl fun _ => lreg (sv (xadd rfl rfl (w64 (by omega) (by omega))) (sM rfl (lend (nThen ?_))))))))))
  refine ⟨k + 1, _, env_okl ⟨rfl, rfl, rfl, rfl, rfl, trivial⟩, ⟨hL1, (by omega), (by rw [hlk, hld, if_neg (fun e => hc19 e.symm)])⟩, ?_⟩
  show M.length - (k + 1) < M.length - k; omega
 refine send ((wp_seq (cno rfl (wp_exit (eThen (eThen (eHit (nThen (fg [] trivial fun _ => sreg (sA rfl (send (fbg 4 rfl fun _ => wp_ret (rp1 rfl rfl ?_)))))))))))))
 have hkl : M.drop k = [] := List.drop_of_length_le (by omega)
 rw [hkl] at hlk
 exact ⟨by rw [lookI_none hlk], hf⟩
end Go.Proofs.YtifnodoffgfpbaaGreatDoor
