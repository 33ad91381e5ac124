/- Part 5 of the texts for a law of this seat: walks, and plain laws about messages; conditions: none. -/
import Derived.Test.YtifnodoffgfpbaaGreatDoorPa4
set_option maxHeartbeats 4000000
set_option maxRecDepth 100000
namespace Go.Proofs.YtifnodoffgfpbaaGreatDoor
open Go

theorem qel_st : Stays QEl := fun _ _ _ _ _ _ h _ _ _ => h
theorem qel_gr : Grows QEl := fun _ _ _ _ _ h _ => h
theorem PrAt.lt {w : World} {bp : Nat} {vm : Value} {y0 y1 y2 y3 y4 y5 sec off idx : Int} (h : PrAt w bp vm y0 y1 y2 y3 y4 y5 sec off idx) : bp < w.heap.size := by
  obtain ⟨_, _, _, h⟩ := h; exact h.lt
theorem listR_end {α : Type} {R : Nat → α → Nat → Prop} {l : List α} {k q e : Nat} (h : ListR R q (l.drop k) e) (hk : l.length ≤ k) : q = e := by
  rw [List.drop_of_length_le hk] at h; exact h
theorem prat_cast {w : World} {bp : Nat} {vm : Value} {y0 y1 y2 y3 y4 y5 sec off idx off' idx' : Int} (h : PrAt w bp vm y0 y1 y2 y3 y4 y5 sec off idx) (h1 : off = off') (h2 : idx = idx') : PrAt w bp vm y0 y1 y2 y3 y4 y5 sec off' idx' := by subst h1 h2; exact h

theorem c56 {w : World} {a : Option Addr} {bm om km n : Nat} {b : List UInt8} (hms : n ≠ 0 → a = some ⟨bm, om, none⟩) (hm : w.rangeAt bm om (bvs (b.take n))) (hbm : bm < w.heap.size) (hnb : n ≤ b.length) (hkm : n ≤ km) (hbl : b.length < 100000000) {bp : Nat} {y0 y1 y2 y3 y4 y5  : Int} {asks : List AskD} {off e : Nat} {Kp : Nat → Prop} (hP : PrAt w bp (.slice a n km) y0 y1 y2 y3 y4 y5 2 (off : Int) 0) {Tz : TypeId} {xz : Option Addr} (hg0 : w.rangeAt 0 0 [.iface Tz (.pointer xz)]) (hG : GE w) (hsz : 21 ≤ w.heap.size) (hgp : 20 < bp) (hCT : CmpT Tz) (hbp : bp ≠ bm) (hKp : ∀ k, Kp k → k ≤ 10 ∧ (k = 0 ∨ n = b.length)) (heb : e ≤ b.length) (hon : off ≤ n) (hcn : cntI 2 y2 y3 y4 y5 = (asks.length : Int)) (hal : asks.length < 65536) (hls : ListR (AskR Kp b) off asks e) (hna : ∀ a ∈ asks, nameL (bt a.name))  :
  Ret PP 56 [.pointer (some ⟨bp, 0, none⟩)] w (fun u w' => ((e ≤ n ∧ ∃ v, u = .tuple #[v, .nilIface] ∧ LA QEl lQ (Ub NoU w w') w' v asks ∧ PrAt w' bp (.slice a n km) y0 y1 y2 y3 y4 y5 (2 + 1) (e : Int) 0) ∨ (n < e ∧ ∃ (x : Option Addr), u = .tuple #[.slice none 0 0, .iface 166 (.pointer x)])) ∧ Fr (fun k => k = bp) w w') := by
 have hzb : bp < w.heap.size := hP.lt
 have hf : Fr (fun k => k = bp) w w := Fr.refl _ _
 refine ret_of Tryz.func56 rfl rfl rfl [(0, _)] rfl ?_
 refine sreg (sA rfl (sA rfl (send (fbg 0 rfl fun _ => sreg (svK (xslit ([]) sl77 in86 rfl (by decide) rfl rfl rfl rfl (by decide) rfl rfl) ?_)))))
 rintro _ w2 ⟨b7, rfl, m3, h7, e7, s7, r7⟩
 have hv : RA QEl lQ NoU w2 _ b7 86 0 [] := ⟨[], r7, All2.nil⟩
 have hP := hP.k m3
 have hG := hG.k0 m3 (by omega)
 refine sA rfl (send (fcg 0 4 rfl fun _ => wp_block (lp [(0, _)] (fun (x : Nat × Nat × Value × Nat) => match x with | (k, o, v, g) => [(4, v)]) (fun (x : Nat × Nat × Value × Nat) wx => match x with | (k, o, v, g) => Fr (fun k => k = b7 ∨ k = bp) w2 wx ∧ (k ≤ asks.length) ∧ (ListR (AskR Kp b) o (asks.drop k) e) ∧ (o ≤ n) ∧ (PrAt wx bp (.slice a n km) y0 y1 y2 y3 y4 y5 2 (o : Int) (k : Int)) ∧ (RA QEl lQ NoU wx v g 86 k (asks.take k)) ∧ (w.heap.size ≤ g) ∧ (g < wx.heap.size) ∧ (g = b7 ∨ w2.heap.size ≤ g)) (fun (x : Nat × Nat × Value × Nat) => match x with | (k, o, v, g) => asks.length - k) (0, off, _, b7) ⟨rfl, rfl, trivial⟩ ⟨Fr.refl _ _, Nat.zero_le _, hls, hon, hP, hv, by omega, by omega, .inl rfl⟩ ?_)))
 rintro ⟨k, o, v, g⟩ _ w5 ⟨hL4, hk, hls, hon, hP, hv, hg, hg2, hg3⟩
 refine fcg 0 4 rfl fun _ => ?_
 have z6 := hL4.size
 obtain ⟨av, cv, rfl⟩ := RA.form hv
 have hg0 := rng_fr (rng_fr hg0 m3 (by omega) id) hL4 (by omega) (by show ¬ (0 = b7 ∨ 0 = bp); omega)
 have hf := (hf.s m3).step hL4 (fun k hk hS => by have hS : k = b7 ∨ k = bp := hS; show k = bp; omega)
 have hG := hG.keep (fun k hk => by omega) hL4 (fun k hk hS => by have hk := hk; have hS : k = b7 ∨ k = bp := hS; omega)
 rcases Nat.lt_or_ge k asks.length with hlt | hge
 rotate_left
 ·
  refine wp_block (sreg (sM rfl ?_))
  obtain ⟨ho, ty, ln, hP⟩ := hP
  refine sc (xcall ca60 rfl) (c60d hP hg0 hG (by omega) hgp (by omega) (by omega) (by omega)) ?_
  rintro _ w29 ⟨⟨rfl, hP⟩, m30⟩
  have z31 := m30.size
  refine sM rfl (sE2 rfl (svK (xallS (lens := [256, 1, 1]) in86 (by simp [nm_length])) ?_))
  rintro _ w33 ⟨b5, rfl, m34, h5, e32, s32⟩
  refine suK (xstW h5 (lens' := [256, 1, 1]) sz86 (by simp [nm_length]) rfl (by simp only [fC, fN, aA, aN, nm_one, bT] <;> rfl) rfl rfl) ?_
  rintro w36 ⟨m37, h5, s35⟩
  have hg0 := rng_fr (rng_fr (rng_fr hg0 m30 (by omega) (nE (by omega))) m34 (by omega) id) m37 (by omega) (nE (by omega))
  have hP := (hP.k m34).keep m37 (nE (by omega))
  refine sA rfl (send ((wp_seq (sreg (sM rfl (sv (xld on89 rfl (hg0 0 _ rfl)) (sv (xeqES if89 hCT rfl rfl) (send ((cyes rfl (sreg (sM rfl (sA rfl (sA rfl (send (fcg 2 3 rfl fun _ => wp_ret (rThen (rBlock (rThen (rBlock (rp2 rfl rfl rfl ?_)))))))))))))))))))))
  have hPz := hP
  have hoe := listR_end hls hge
  subst hoe
  have hke : asks.take k = asks := List.take_of_length_le hge
  have hv := ((hv.keep qel_st (fun k hk => by have hk := (show k + 1 ≤ 0 from (show False from hk).elim); omega) m30 (fun k hk hS => by have hk := (show k + 1 ≤ 0 from (show False from hk).elim); have hS : k = bp := hS; omega) (nE (by omega))).keep qel_st (fun k hk => by have hk := (show k + 1 ≤ 0 from (show False from hk).elim); omega) m34 nF id).keep qel_st (fun k hk => by have hk := (show k + 1 ≤ 0 from (show False from hk).elim); omega) m37 (fun k hk hS => by have hk := (show k + 1 ≤ 0 from (show False from hk).elim); have hS : k = b5 := hS; omega) (nE (by omega))
  rw [hke] at hv
  have hf := ((hf.step m30 nI).s m34).t m37 (by omega)
  obtain rfl : k = asks.length := by omega
  exact ⟨.inl ⟨hon, _, rfl, RA.la hv (by decide) (fun _ _ _ _ _ h _ => h) (fun _ h => h.elim) (.inr ⟨by omega, by omega⟩), _, _, _, hPz⟩, hf⟩
 obtain ⟨a, hak⟩ := some_of_lt hlt
 obtain ⟨o1, hRa, hls1⟩ := listR_drop hls hak
 have hoe := listR_le hls1 (fun _ _ _ _ h => ask_le h)
 obtain ⟨e0, ⟨kk, hkk, hN⟩, hst, rfl⟩ := hRa
 have hNl := (show NameR b o kk o (txt (bt a.name)) e0 from hN).le
 refine wp_block (sreg (sM rfl ?_))
 obtain ⟨ho, ty, ln, hP⟩ := hP
 have hm := rng_fr (rng_fr hm m3 (by omega) id) hL4 (by omega) (by show ¬ (bm = b7 ∨ bm = bp); omega)
 refine sc (xcall ca60 rfl) (c60g (b := b) (K := kk) (off := o) (e := e0) (S := bt a.name) (ka := a.typ.toNat) (kb := a.cls.toNat) hms hm (by omega) hnb hkm hbl hP hg0 hG (by omega) hgp (by omega) (by omega) hbp (by omega) (by omega) (by omega) hN (hna _ (List.mem_of_getElem? hak)) (hKp kk hkk).1 (hKp kk hkk).2 (u16lt _) (u16lt _) hst.left (hst.right' rfl) (by omega)) ?_
 rintro _ w7 ⟨⟨hle10, rfl, hP⟩ | ⟨hgt10, x10, rfl⟩, m8⟩
 ·
  have z9 := m8.size
  refine sM rfl (sE2 rfl (svK (xallS (lens := [256, 1, 1]) in86 (by simp [nm_length])) ?_))
  rintro _ w11 ⟨b5, rfl, m12, h5, e10, s10⟩
  refine suK (xstW h5 (lens' := [256, 1, 1]) sz86 (by simp [nm_length]) rfl (by simp only [fC, fN, aA, aN, nm_one, bT] <;> rfl) rfl rfl) ?_
  rintro w14 ⟨m15, h5, s13⟩
  have hg0 := rng_fr (rng_fr (rng_fr hg0 m8 (by omega) (nE (by omega))) m12 (by omega) id) m15 (by omega) (nE (by omega))
  refine sA rfl (send ((wp_seq (sreg (sM rfl (sv (xld on89 rfl (hg0 0 _ rfl)) (sv (xeqEN if89 rfl rfl) (send ((cno rfl (wp_skip (nThen ((wp_seq (sreg (sM rfl (sv (xneN if89 rfl) (send (ffg 0 4 5 6 18 rfl fun _ => cno rfl (wp_skip (nThen (fdg 0 4 5 rfl fun _ => lreg (sM rfl (sv (xldS (lens := [256, 1, 1]) ro86 rfl h5.r) (svK (xslit ((questSegs a).flatten) sl77 in86 rfl (by decide) rfl rfl rfl (by simp [nm_length, Value.cells]) (by decide) (ag_flat _) (by simp only [questSegs, fC, fN, aA, aN, nm_one, bT] <;> rfl)) ?_)))))))))))))))))))))))))
  rintro _ w17 ⟨b22, rfl, m18, h22, e22, s22, r22⟩
  have hv := (((hv.keep qel_st (fun k hk => by have hk := (show k + 1 ≤ 0 from (show False from hk).elim); omega) m8 (fun k hk hS => by have hk := (show k + 1 ≤ 0 from (show False from hk).elim); have hS : k = bp := hS; omega) (nE (by omega))).keep qel_st (fun k hk => by have hk := (show k + 1 ≤ 0 from (show False from hk).elim); omega) m12 nF id).keep qel_st (fun k hk => by have hk := (show k + 1 ≤ 0 from (show False from hk).elim); omega) m15 (fun k hk hS => by have hk := (show k + 1 ≤ 0 from (show False from hk).elim); have hS : k = b5 := hS; omega) (nE (by omega))).keep qel_st (fun k hk => by have hk := (show k + 1 ≤ 0 from (show False from hk).elim); omega) m18 nF id
  obtain ⟨ss23, hR23, hA23⟩ := hv
  refine svK (xapp sl77 in86 rfl (by decide) rfl rfl hR23 (r22.src sl77) (by simp only [maxLen]; omega) (by omega)) ?_
  rintro v23 w19 ⟨g23, r23, m20, a23, l23⟩
  have z21 := m20.size
  have hv := RA.snoc (x := a) hA23 qel_st qel_gr (fun k hk => by have hk := (show k + 1 ≤ 0 from (show False from hk).elim); omega) m20 (fun k hk hS => by have hk := (show k + 1 ≤ 0 from (show False from hk).elim); have hS : k = g := hS; omega) (fun _ h => h) r23 (by simp [questSegs, nm_length]) (rfl)
  have hL4 := ((((hL4.step m8 (fun k hk hS => by have hS : k = bp := hS; show k = b7 ∨ k = bp; omega)).s m12).step m15 (fun k hk hS => by have hS : k = b5 := hS; show k = b7 ∨ k = bp; omega)).s m18).step m20 (fun k hk hS => by have hS : k = g := hS; show k = b7 ∨ k = bp; omega)
  have hP := (((hP.k m12).keep m15 (nE (by omega))).k m18).keep m20 (nE (by omega))
  refine sA rfl (lend (nBlock (nThen ?_)))
  refine ⟨(k + 1, e0 + 4, _, g23), _, env_okl ⟨rfl, rfl, trivial⟩, ⟨hL4, (by omega), (hls1), (by omega), (⟨_, _, _, hP⟩), (by rw [take_snoc hak]; exact hv), (by omega), (l23 (by omega)), (by omega)⟩, ?_⟩
  show asks.length - (k + 1) < asks.length - k; omega
 have z22 := m8.size
 refine sM rfl (sE2 rfl (svK (xallS (lens := [256, 1, 1]) in86 (by simp [nm_length])) ?_))
 rintro _ w24 ⟨b5, rfl, m25, h5, e23, s23⟩
 refine suK (xstW h5 (lens' := [256, 1, 1]) sz86 (by simp [nm_length]) rfl (by simp only [fC, fN, aA, aN, nm_one, bT] <;> rfl) rfl rfl) ?_
 rintro w27 ⟨m28, h5, s26⟩
 have hg0 := rng_fr (rng_fr (rng_fr hg0 m8 (by omega) (nE (by omega))) m25 (by omega) id) m28 (by omega) (nE (by omega))
 have hf := ((hf.step m8 nI).s m25).t m28 (by omega)
 refine sA rfl (send ((wp_seq (sreg (sM rfl (sv (xld on89 rfl (hg0 0 _ rfl)) (sv (xeqEO if89 hCT.1 rfl rfl) (send ((cno rfl (wp_skip (nThen ((wp_seq (sreg (sM rfl (sv (xneI if89 rfl) (send (ffg 0 4 5 6 18 rfl fun _ => cyes rfl (sreg (sM rfl (sA rfl (sA rfl (send (fcg 2 3 rfl fun _ => wp_ret (rThen (rBlock (rThen (rBlock (rp2 rfl rfl rfl ?_))))))))))))))))))))))))))))))
 exact ⟨.inr ⟨by omega, _, rfl⟩, hf⟩
theorem c57 {w : World} {a : Option Addr} {bm om km n : Nat} {b : List UInt8} (hms : n ≠ 0 → a = some ⟨bm, om, none⟩) (hm : w.rangeAt bm om (bvs (b.take n))) (hbm : bm < w.heap.size) (hnb : n ≤ b.length) (hkm : n ≤ km) (hbl : b.length < 100000000) {bp : Nat} {y0 y1 y2 y3 y4 y5  : Int} {l : List RecD} {off e : Nat} {Kp : Nat → Prop} (hP : PrAt w bp (.slice a n km) y0 y1 y2 y3 y4 y5 3 (off : Int) 0) {Tz : TypeId} {xz : Option Addr} (hg0 : w.rangeAt 0 0 [.iface Tz (.pointer xz)]) (hG : GE w) (hsz : 21 ≤ w.heap.size) (hgp : 20 < bp) (hCT : CmpT Tz) (hbp : bp ≠ bm) (hKp : ∀ k, Kp k → k ≤ 10 ∧ (k = 0 ∨ n = b.length)) (heb : e ≤ b.length) (hon : off ≤ n) {B mb : Nat} {sf : Int → ByteArray} (hBp : B ≤ bp) (hcn : cntI 3 y2 y3 y4 y5 = (l.length : Int)) (hal : l.length < 65536) (hls : ListR (RecR Kp b) off l e) (hrs : ∀ r ∈ l, ReadOk r ∧ (r.kind = 11 ∨ r.kind = 12 → asc r.pairs)) (hSO : SecOr (e ≤ n) B mb sf w)  :
  Ret PP 57 [.pointer (some ⟨bp, 0, none⟩)] w (fun u w' => ((e ≤ n ∧ ∃ v, u = .tuple #[v, .nilIface] ∧ LA ResV lRes (Ub NoU w w') w' v l ∧ PrAt w' bp (.slice a n km) y0 y1 y2 y3 y4 y5 (3 + 1) (e : Int) 0) ∨ (n < e ∧ ∃ (x : Option Addr), u = .tuple #[.slice none 0 0, .iface 166 (.pointer x)])) ∧ Fr (fun k => k = bp) w w') := by
 have hzb : bp < w.heap.size := hP.lt
 have hU : ∀ k, NoU k → k < w.heap.size := fun _ h => h.elim
 obtain ⟨ho', ty', ln', hQ⟩ := id hP
 have hcnv : y3 = (l.length : Int) := hcn
 have hf : Fr (fun k => k = bp) w w := Fr.refl _ _
 refine ret_of Tryz.func57 rfl rfl rfl [(0, _)] rfl ?_
 refine sreg (sA rfl (sA rfl (send ((sreg (sM rfl (sN rfl (sv (xfld fl124_1 rfl) (sv (xfld fl121_3 rfl) (sv (xld on22 rfl (hQ.r.c 4 rfl rfl)) (sv (xconv hs22 ki3 rfl (w64n l.length hcnv (by omega))) (sA rfl (send ((wp_seq (sreg (sM rfl (sv (xgtr rfl rfl) (send (fdg 0 4 15 rfl fun _ => ?_))))))))))))))))))))
 refine jcut [(0, _)] ⟨rfl, trivial⟩ (fun (x : Nat) => match x with | cp => [(4, .int .i64 (cp : Int))]) (fun (x : Nat) wx => match x with | cp => Fr (fun _ => False) w wx ∧ (cp ≤ 65536)) ?_ ?_
 ·
  have hJ1 : Fr (fun _ => False) w w := Fr.refl _ _
  refine cB rfl (fun hb => ?_) (fun hb => ?_)
  ·
   refine lreg (sA rfl (lend ?_))
   exact ⟨rfl, 20, _, env_okl ⟨rfl, rfl, trivial⟩, ⟨hJ1, (by omega)⟩⟩
  refine wp_skip ?_
  exact ⟨rfl, l.length, _, env_okl ⟨rfl, rfl, trivial⟩, ⟨hJ1, (by omega)⟩⟩
 rintro cp _ w2 ⟨hJ1, hcp⟩
 have z3 := hJ1.size
 refine nThen (fcg 0 4 rfl fun _ => sreg (sM rfl (svK (xmake (lo := 0) (hi := cp) sl75 in139 rfl (by decide) rfl rfl (by omega) rfl (by omega) (by omega) (by simp only [maxLen]; omega) (one6 _ _ _ _ _ _ rfl)) ?_)))
 rintro _ w4 ⟨b17, rfl, m5, -, ez17, sz17, r17⟩
 have hv : RX ResV lRes NoU w.heap.size w4.heap.size w4 _ b17 139 0 [] := RX.ofNil r17
 have hP := (hP.k hJ1).k m5
 have hG := (hG.k0 hJ1 (by omega)).k0 m5 (by omega)
 have hSO := (hSO.k0 hJ1 (by omega)).k0 m5 (by omega)
 refine sA rfl (send (fcg 0 5 rfl fun _ => wp_block (lp [(0, _)] (fun (x : Nat × Nat × Value × Nat) => match x with | (k, o, v, g) => [(5, v)]) (fun (x : Nat × Nat × Value × Nat) wx => match x with | (k, o, v, g) => Fr (fun k => k = b17 ∨ k = bp) w4 wx ∧ (k ≤ l.length) ∧ (ListR (RecR Kp b) o (l.drop k) e) ∧ (o ≤ n) ∧ (PrAt wx bp (.slice a n km) y0 y1 y2 y3 y4 y5 3 (o : Int) (k : Int)) ∧ (RX ResV lRes NoU w.heap.size wx.heap.size wx v g 139 k (l.take k)) ∧ (w.heap.size ≤ g) ∧ (g < wx.heap.size) ∧ (g = b17 ∨ w4.heap.size ≤ g)) (fun (x : Nat × Nat × Value × Nat) => match x with | (k, o, v, g) => l.length - k) (0, off, _, b17) ⟨rfl, rfl, trivial⟩ ⟨Fr.refl _ _, Nat.zero_le _, hls, hon, hP, hv, by omega, by omega, .inl rfl⟩ ?_)))
 rintro ⟨k, o, v, g⟩ _ w7 ⟨hL6, hk, hls, hon, hP, hv, hg, hg2, hg3⟩
 refine fcg 0 5 rfl fun _ => ?_
 have z8 := hL6.size
 obtain ⟨av, cv, rfl⟩ := RA.form hv
 have hg0 := rng_fr (rng_fr (rng_fr hg0 hJ1 (by omega) id) m5 (by omega) id) hL6 (by omega) (by show ¬ (0 = b17 ∨ 0 = bp); omega)
 have hf := ((hf.s hJ1).s m5).step hL6 (fun k hk hS => by have hS : k = b17 ∨ k = bp := hS; show k = bp; omega)
 have hG := hG.keep (fun k hk => by omega) hL6 (fun k hk hS => by have hk := hk; have hS : k = b17 ∨ k = bp := hS; omega)
 rcases Nat.lt_or_ge k l.length with hlt | hge
 rotate_left
 ·
  refine wp_block (sreg (sM rfl ?_))
  obtain ⟨ho, ty, ln, hP⟩ := hP
  refine sc (xcall ca61 rfl) (c61d hP hg0 hG (by omega) hgp (by omega) (by omega) (by omega)) ?_
  rintro _ w31 ⟨⟨rfl, hP⟩, m32⟩
  have z33 := m32.size
  refine sM rfl (sE2 rfl (svK (xallS (lens := [256, 1, 1, 1, 1, 1]) in139 (by simp [nm_length])) ?_))
  rintro _ w35 ⟨b6, rfl, m36, h6, e34, s34⟩
  refine suK (xstW h6 (lens' := [256, 1, 1, 1, 1, 1]) sz139 (by simp [nm_length]) rfl (by simp only [List.cons_append, List.nil_append, fC, fN, aA, aN, nm_one, bT] <;> rfl) rfl rfl) ?_
  rintro w38 ⟨m39, h6, s37⟩
  have hg0 := rng_fr (rng_fr (rng_fr hg0 m32 (by omega) (nE (by omega))) m36 (by omega) id) m39 (by omega) (nE (by omega))
  have hP := (hP.k m36).keep m39 (nE (by omega))
  refine sA rfl (send ((wp_seq (sreg (sM rfl (sv (xld on89 rfl (hg0 0 _ rfl)) (sv (xeqES if89 hCT rfl rfl) (send ((cyes rfl (sreg (sM rfl (sA rfl (sA rfl (send (fcg 2 3 rfl fun _ => wp_ret (rThen (rBlock (rThen (rBlock (rp2 rfl rfl rfl ?_)))))))))))))))))))))
  have hPz := hP
  have hoe := listR_end hls hge
  subst hoe
  have hke : l.take k = l := List.take_of_length_le hge
  have hv := RX.keep (RX.keep (RX.keep hv resv_st (fun k hk => by have hk := hU k hk; omega) (by omega) m32 (fun k hk hk3 hS => by have hS : k = bp := hS; rcases hk with hk | hk <;> first | omega | (have := hU k hk; omega)) (nE (by omega))) resv_st (fun k hk => by have hk := hU k hk; omega) (by omega) m36 (fun _ _ _ h => h) id) resv_st (fun k hk => by have hk := hU k hk; omega) (by omega) m39 (fun k hk hk3 hS => by have hS : k = b6 := hS; rcases hk with hk | hk <;> first | omega | (have := hU k hk; omega)) (nE (by omega))
  rw [hke] at hv
  have hf := ((hf.step m32 nI).s m36).t m39 (by omega)
  obtain rfl : k = l.length := by omega
  exact ⟨.inl ⟨hon, _, rfl, RX.la hv (by decide) resv_gr (fun k hk => hk.elim .inl (fun h => .inr ⟨by omega, by omega⟩)) (.inr ⟨by omega, by omega⟩), _, _, _, hPz⟩, hf⟩
 obtain ⟨r, hrk⟩ := some_of_lt hlt
 obtain ⟨o1, hRa, hls1⟩ := listR_drop hls hrk
 have hoe := listR_le hls1 (fun _ _ _ _ h => rec_le h)
 refine wp_block (sreg (sM rfl ?_))
 obtain ⟨ho, ty, ln, hP⟩ := hP
 have hm := rng_fr (rng_fr (rng_fr hm hJ1 (by omega) id) m5 (by omega) id) hL6 (by omega) (by show ¬ (bm = b17 ∨ bm = bp); omega)
 have hSO := hSO.keep (fun k hk => by omega) hL6 (fun k hk hS => by have hk := hk; have hS : k = b17 ∨ k = bp := hS; omega)
 refine sc (xcall ca61 rfl) (c61g (Kp := Kp) (e := o1) (r := r) hms hm (by omega) hnb hkm hbl hP hg0 hG (by omega) hgp (by omega) (by omega) hbp (by omega) (by omega) (by omega) hBp hKp hRa (hrs r (List.mem_of_getElem? hrk)).1 (hrs r (List.mem_of_getElem? hrk)).2 (by omega) (hSO.imp (by omega))) ?_
 rintro _ w9 ⟨⟨hle20, sg20, rfl, hV, hP⟩ | ⟨hgt20, x20, rfl⟩, m10⟩
 rotate_left
 ·
  have z24 := m10.size
  refine sM rfl (sE2 rfl (svK (xallS (lens := [256, 1, 1, 1, 1, 1]) in139 (by simp [nm_length])) ?_))
  rintro _ w26 ⟨b6, rfl, m27, h6, e25, s25⟩
  refine suK (xstW h6 (lens' := [256, 1, 1, 1, 1, 1]) sz139 (by simp [nm_length]) rfl (by simp only [List.cons_append, List.nil_append, fC, fN, aA, aN, nm_one, bT] <;> rfl) rfl rfl) ?_
  rintro w29 ⟨m30, h6, s28⟩
  have hg0 := rng_fr (rng_fr (rng_fr hg0 m10 (by omega) (nE (by omega))) m27 (by omega) id) m30 (by omega) (nE (by omega))
  have hf := ((hf.step m10 nI).s m27).t m30 (by omega)
  refine sA rfl (send ((wp_seq (sreg (sM rfl (sv (xld on89 rfl (hg0 0 _ rfl)) (sv (xeqEO if89 hCT.1 rfl rfl) (send ((cno rfl (wp_skip (nThen ((wp_seq (sreg (sM rfl (sv (xneI if89 rfl) (send (ffg 0 5 6 7 28 rfl fun _ => cyes rfl (sreg (sM rfl (sA rfl (sA rfl (send (fcg 2 3 rfl fun _ => wp_ret (rThen (rBlock (rThen (rBlock (rp2 rfl rfl rfl ?_))))))))))))))))))))))))))))))
  exact ⟨.inr ⟨by omega, _, rfl⟩, hf⟩
 have z11 := m10.size
 obtain ⟨len, vb, hl16, rfl, hbe⟩ := hV
 obtain ⟨bB, TB, lB, sB, rfl, -⟩ := id hbe
 refine sM rfl (sE2 rfl (svK (xallS (lens := [256, 1, 1, 1, 1, 1]) in139 (by simp [nm_length])) ?_))
 rintro _ w13 ⟨b6, rfl, m14, h6, e12, s12⟩
 refine suK (xstW h6 (lens' := [256, 1, 1, 1, 1, 1]) sz139 (by simp [rhSegs, nm_length]) rfl (by simp only [rhSegs, List.cons_append, List.nil_append, fC, fN, aA, aN, nm_one, bT] <;> rfl) rfl rfl) ?_
 rintro w16 ⟨m17, h6, s15⟩
 have hg0 := rng_fr (rng_fr (rng_fr hg0 m10 (by omega) (nE (by omega))) m14 (by omega) id) m17 (by omega) (nE (by omega))
 have hv := RX.keep (RX.keep (RX.keep hv resv_st (fun k hk => by have hk := hU k hk; omega) (by omega) m10 (fun k hk hk3 hS => by have hS : k = bp := hS; rcases hk with hk | hk <;> first | omega | (have := hU k hk; omega)) (nE (by omega))) resv_st (fun k hk => by have hk := hU k hk; omega) (by omega) m14 (fun _ _ _ h => h) id) resv_st (fun k hk => by have hk := hU k hk; omega) (by omega) m17 (fun k hk hk3 hS => by have hS : k = b6 := hS; rcases hk with hk | hk <;> first | omega | (have := hU k hk; omega)) (nE (by omega))
 have hbe := (hbe.keep (lNo (by omega)) m14 nF).keep (lNo (by omega)) m17 (lN1 (by omega))
 refine sA rfl (send ((wp_seq (sreg (sM rfl (sv (xld on89 rfl (hg0 0 _ rfl)) (sv (xeqEN if89 rfl rfl) (send ((cno rfl (wp_skip (nThen ((wp_seq (sreg (sM rfl (sv (xneN if89 rfl) (send (ffg 0 5 6 7 28 rfl fun _ => cno rfl (wp_skip (nThen (fdg 0 5 6 rfl fun _ => lreg (sM rfl (sv (xldS (lens := [256, 1, 1, 1, 1, 1]) ro139 rfl h6.r) (svK (xslit ((rhSegs (bt r.name) (typeN r) r.cls r.ttl len ++ [[Value.iface TB (.pointer (some ⟨bB, 0, none⟩))]]).flatten) sl75 in139 rfl (by decide) rfl rfl rfl (by simp [rhSegs, nm_length, Value.cells]) (by decide) (ag_flat _) (by simp only [rhSegs, List.cons_append, List.nil_append, fC, fN, aA, aN, nm_one, bT] <;> rfl)) ?_)))))))))))))))))))))))))
 rintro _ w19 ⟨b32, rfl, m20, h32, e32, s32, r32⟩
 have hv := RX.keep hv resv_st (fun k hk => by have hk := hU k hk; omega) (by omega) m20 (fun _ _ _ h => h) id
 obtain ⟨ss33, hR33, hA33⟩ := hv
 refine svK (xapp sl75 in139 rfl (by decide) rfl rfl hR33 (r32.src sl75) (by simp only [maxLen]; omega) (by omega)) ?_
 rintro v33 w21 ⟨g33, r33, m22, a33, l33⟩
 have z23 := m22.size
 have hbe := (hbe.keep (lNo (by omega)) m20 nF).keep (lNo (by omega)) m22 (lN1 (by omega))
 have hv := RX.snoc (x := r) w21.heap.size hA33 resv_st resv_gr (fun k hk => by have hk := hU k hk; omega) (by omega) (by omega) m22 a33 r33 (by simp [rhSegs, nm_length]) (ResV.mk hl16 (hbe.mono (fun k h => ⟨h.elim .inl (fun h => .inr ⟨by omega, by omega⟩), by have h := Ub.num (U := NoU) (n := 0) (fun _ h => h.elim) h; omega⟩)))
 have hL6 := ((((hL6.step m10 (fun k hk hS => by have hS : k = bp := hS; show k = b17 ∨ k = bp; omega)).s m14).step m17 (fun k hk hS => by have hS : k = b6 := hS; show k = b17 ∨ k = bp; omega)).s m20).step m22 (fun k hk hS => by have hS : k = g := hS; show k = b17 ∨ k = bp; omega)
 have hP := (((hP.k m14).keep m17 (nE (by omega))).k m20).keep m22 (nE (by omega))
 refine sA rfl (lend (nBlock (nThen ?_)))
 refine ⟨(k + 1, o1, _, g33), _, env_okl ⟨rfl, rfl, trivial⟩, ⟨hL6, (by omega), (hls1), (by omega), (prat_cast hP rfl (by omega)), (by rw [take_snoc hrk]; exact RX.up resv_gr hv (by omega)), (by omega), (l33 (by omega)), (by omega)⟩, ?_⟩
 show l.length - (k + 1) < l.length - k; omega
theorem c58 {w : World} {a : Option Addr} {bm om km n : Nat} {b : List UInt8} (hms : n ≠ 0 → a = some ⟨bm, om, none⟩) (hm : w.rangeAt bm om (bvs (b.take n))) (hbm : bm < w.heap.size) (hnb : n ≤ b.length) (hkm : n ≤ km) (hbl : b.length < 100000000) {bp : Nat} {y0 y1 y2 y3 y4 y5  : Int} {l : List RecD} {off e : Nat} {Kp : Nat → Prop} (hP : PrAt w bp (.slice a n km) y0 y1 y2 y3 y4 y5 4 (off : Int) 0) {Tz : TypeId} {xz : Option Addr} (hg0 : w.rangeAt 0 0 [.iface Tz (.pointer xz)]) (hG : GE w) (hsz : 21 ≤ w.heap.size) (hgp : 20 < bp) (hCT : CmpT Tz) (hbp : bp ≠ bm) (hKp : ∀ k, Kp k → k ≤ 10 ∧ (k = 0 ∨ n = b.length)) (heb : e ≤ b.length) (hon : off ≤ n) {B mb : Nat} {sf : Int → ByteArray} (hBp : B ≤ bp) (hcn : cntI 4 y2 y3 y4 y5 = (l.length : Int)) (hal : l.length < 65536) (hls : ListR (RecR Kp b) off l e) (hrs : ∀ r ∈ l, ReadOk r ∧ (r.kind = 11 ∨ r.kind = 12 → asc r.pairs)) (hSO : SecOr (e ≤ n) B mb sf w)  :
  Ret PP 58 [.pointer (some ⟨bp, 0, none⟩)] w (fun u w' => ((e ≤ n ∧ ∃ v, u = .tuple #[v, .nilIface] ∧ LA ResV lRes (Ub NoU w w') w' v l ∧ PrAt w' bp (.slice a n km) y0 y1 y2 y3 y4 y5 (4 + 1) (e : Int) 0) ∨ (n < e ∧ ∃ (x : Option Addr), u = .tuple #[.slice none 0 0, .iface 166 (.pointer x)])) ∧ Fr (fun k => k = bp) w w') := by
 have hzb : bp < w.heap.size := hP.lt
 have hU : ∀ k, NoU k → k < w.heap.size := fun _ h => h.elim
 obtain ⟨ho', ty', ln', hQ⟩ := id hP
 have hcnv : y4 = (l.length : Int) := hcn
 have hf : Fr (fun k => k = bp) w w := Fr.refl _ _
 refine ret_of Tryz.func58 rfl rfl rfl [(0, _)] rfl ?_
 refine sreg (sA rfl (sA rfl (send ((sreg (sM rfl (sN rfl (sv (xfld fl124_1 rfl) (sv (xfld fl121_4 rfl) (sv (xld on22 rfl (hQ.r.c 5 rfl rfl)) (sv (xconv hs22 ki3 rfl (w64n l.length hcnv (by omega))) (sA rfl (send ((wp_seq (sreg (sM rfl (sv (xgtr rfl rfl) (send (fdg 0 4 15 rfl fun _ => ?_))))))))))))))))))))
 refine jcut [(0, _)] ⟨rfl, trivial⟩ (fun (x : Nat) => match x with | cp => [(4, .int .i64 (cp : Int))]) (fun (x : Nat) wx => match x with | cp => Fr (fun _ => False) w wx ∧ (cp ≤ 65536)) ?_ ?_
 ·
  have hJ1 : Fr (fun _ => False) w w := Fr.refl _ _
  refine cB rfl (fun hb => ?_) (fun hb => ?_)
  ·
   refine lreg (sA rfl (lend ?_))
   exact ⟨rfl, 10, _, env_okl ⟨rfl, rfl, trivial⟩, ⟨hJ1, (by omega)⟩⟩
  refine wp_skip ?_
  exact ⟨rfl, l.length, _, env_okl ⟨rfl, rfl, trivial⟩, ⟨hJ1, (by omega)⟩⟩
 rintro cp _ w2 ⟨hJ1, hcp⟩
 have z3 := hJ1.size
 refine nThen (fcg 0 4 rfl fun _ => sreg (sM rfl (svK (xmake (lo := 0) (hi := cp) sl75 in139 rfl (by decide) rfl rfl (by omega) rfl (by omega) (by omega) (by simp only [maxLen]; omega) (one6 _ _ _ _ _ _ rfl)) ?_)))
 rintro _ w4 ⟨b17, rfl, m5, -, ez17, sz17, r17⟩
 have hv : RX ResV lRes NoU w.heap.size w4.heap.size w4 _ b17 139 0 [] := RX.ofNil r17
 have hP := (hP.k hJ1).k m5
 have hG := (hG.k0 hJ1 (by omega)).k0 m5 (by omega)
 have hSO := (hSO.k0 hJ1 (by omega)).k0 m5 (by omega)
 refine sA rfl (send (fcg 0 5 rfl fun _ => wp_block (lp [(0, _)] (fun (x : Nat × Nat × Value × Nat) => match x with | (k, o, v, g) => [(5, v)]) (fun (x : Nat × Nat × Value × Nat) wx => match x with | (k, o, v, g) => Fr (fun k => k = b17 ∨ k = bp) w4 wx ∧ (k ≤ l.length) ∧ (ListR (RecR Kp b) o (l.drop k) e) ∧ (o ≤ n) ∧ (PrAt wx bp (.slice a n km) y0 y1 y2 y3 y4 y5 4 (o : Int) (k : Int)) ∧ (RX ResV lRes NoU w.heap.size wx.heap.size wx v g 139 k (l.take k)) ∧ (w.heap.size ≤ g) ∧ (g < wx.heap.size) ∧ (g = b17 ∨ w4.heap.size ≤ g)) (fun (x : Nat × Nat × Value × Nat) => match x with | (k, o, v, g) => l.length - k) (0, off, _, b17) ⟨rfl, rfl, trivial⟩ ⟨Fr.refl _ _, Nat.zero_le _, hls, hon, hP, hv, by omega, by omega, .inl rfl⟩ ?_)))
 rintro ⟨k, o, v, g⟩ _ w7 ⟨hL6, hk, hls, hon, hP, hv, hg, hg2, hg3⟩
 refine fcg 0 5 rfl fun _ => ?_
 have z8 := hL6.size
 obtain ⟨av, cv, rfl⟩ := RA.form hv
 have hg0 := rng_fr (rng_fr (rng_fr hg0 hJ1 (by omega) id) m5 (by omega) id) hL6 (by omega) (by show ¬ (0 = b17 ∨ 0 = bp); omega)
 have hf := ((hf.s hJ1).s m5).step hL6 (fun k hk hS => by have hS : k = b17 ∨ k = bp := hS; show k = bp; omega)
 have hG := hG.keep (fun k hk => by omega) hL6 (fun k hk hS => by have hk := hk; have hS : k = b17 ∨ k = bp := hS; omega)
 rcases Nat.lt_or_ge k l.length with hlt | hge
 rotate_left
 ·
  refine wp_block (sreg (sM rfl ?_))
  obtain ⟨ho, ty, ln, hP⟩ := hP
  refine sc (xcall ca62 rfl) (c62d hP hg0 hG (by omega) hgp (by omega) (by omega) (by omega)) ?_
  rintro _ w31 ⟨⟨rfl, hP⟩, m32⟩
  have z33 := m32.size
  refine sM rfl (sE2 rfl (svK (xallS (lens := [256, 1, 1, 1, 1, 1]) in139 (by simp [nm_length])) ?_))
  rintro _ w35 ⟨b6, rfl, m36, h6, e34, s34⟩
  refine suK (xstW h6 (lens' := [256, 1, 1, 1, 1, 1]) sz139 (by simp [nm_length]) rfl (by simp only [List.cons_append, List.nil_append, fC, fN, aA, aN, nm_one, bT] <;> rfl) rfl rfl) ?_
  rintro w38 ⟨m39, h6, s37⟩
  have hg0 := rng_fr (rng_fr (rng_fr hg0 m32 (by omega) (nE (by omega))) m36 (by omega) id) m39 (by omega) (nE (by omega))
  have hP := (hP.k m36).keep m39 (nE (by omega))
  refine sA rfl (send ((wp_seq (sreg (sM rfl (sv (xld on89 rfl (hg0 0 _ rfl)) (sv (xeqES if89 hCT rfl rfl) (send ((cyes rfl (sreg (sM rfl (sA rfl (sA rfl (send (fcg 2 3 rfl fun _ => wp_ret (rThen (rBlock (rThen (rBlock (rp2 rfl rfl rfl ?_)))))))))))))))))))))
  have hPz := hP
  have hoe := listR_end hls hge
  subst hoe
  have hke : l.take k = l := List.take_of_length_le hge
  have hv := RX.keep (RX.keep (RX.keep hv resv_st (fun k hk => by have hk := hU k hk; omega) (by omega) m32 (fun k hk hk3 hS => by have hS : k = bp := hS; rcases hk with hk | hk <;> first | omega | (have := hU k hk; omega)) (nE (by omega))) resv_st (fun k hk => by have hk := hU k hk; omega) (by omega) m36 (fun _ _ _ h => h) id) resv_st (fun k hk => by have hk := hU k hk; omega) (by omega) m39 (fun k hk hk3 hS => by have hS : k = b6 := hS; rcases hk with hk | hk <;> first | omega | (have := hU k hk; omega)) (nE (by omega))
  rw [hke] at hv
  have hf := ((hf.step m32 nI).s m36).t m39 (by omega)
  obtain rfl : k = l.length := by omega
  exact ⟨.inl ⟨hon, _, rfl, RX.la hv (by decide) resv_gr (fun k hk => hk.elim .inl (fun h => .inr ⟨by omega, by omega⟩)) (.inr ⟨by omega, by omega⟩), _, _, _, hPz⟩, hf⟩
 obtain ⟨r, hrk⟩ := some_of_lt hlt
 obtain ⟨o1, hRa, hls1⟩ := listR_drop hls hrk
 have hoe := listR_le hls1 (fun _ _ _ _ h => rec_le h)
 refine wp_block (sreg (sM rfl ?_))
 obtain ⟨ho, ty, ln, hP⟩ := hP
 have hm := rng_fr (rng_fr (rng_fr hm hJ1 (by omega) id) m5 (by omega) id) hL6 (by omega) (by show ¬ (bm = b17 ∨ bm = bp); omega)
 have hSO := hSO.keep (fun k hk => by omega) hL6 (fun k hk hS => by have hk := hk; have hS : k = b17 ∨ k = bp := hS; omega)
 refine sc (xcall ca62 rfl) (c62g (Kp := Kp) (e := o1) (r := r) hms hm (by omega) hnb hkm hbl hP hg0 hG (by omega) hgp (by omega) (by omega) hbp (by omega) (by omega) (by omega) hBp hKp hRa (hrs r (List.mem_of_getElem? hrk)).1 (hrs r (List.mem_of_getElem? hrk)).2 (by omega) (hSO.imp (by omega))) ?_
 rintro _ w9 ⟨⟨hle20, sg20, rfl, hV, hP⟩ | ⟨hgt20, x20, rfl⟩, m10⟩
 rotate_left
 ·
  have z24 := m10.size
  refine sM rfl (sE2 rfl (svK (xallS (lens := [256, 1, 1, 1, 1, 1]) in139 (by simp [nm_length])) ?_))
  rintro _ w26 ⟨b6, rfl, m27, h6, e25, s25⟩
  refine suK (xstW h6 (lens' := [256, 1, 1, 1, 1, 1]) sz139 (by simp [nm_length]) rfl (by simp only [List.cons_append, List.nil_append, fC, fN, aA, aN, nm_one, bT] <;> rfl) rfl rfl) ?_
  rintro w29 ⟨m30, h6, s28⟩
  have hg0 := rng_fr (rng_fr (rng_fr hg0 m10 (by omega) (nE (by omega))) m27 (by omega) id) m30 (by omega) (nE (by omega))
  have hf := ((hf.step m10 nI).s m27).t m30 (by omega)
  refine sA rfl (send ((wp_seq (sreg (sM rfl (sv (xld on89 rfl (hg0 0 _ rfl)) (sv (xeqEO if89 hCT.1 rfl rfl) (send ((cno rfl (wp_skip (nThen ((wp_seq (sreg (sM rfl (sv (xneI if89 rfl) (send (ffg 0 5 6 7 28 rfl fun _ => cyes rfl (sreg (sM rfl (sA rfl (sA rfl (send (fcg 2 3 rfl fun _ => wp_ret (rThen (rBlock (rThen (rBlock (rp2 rfl rfl rfl ?_))))))))))))))))))))))))))))))
  exact ⟨.inr ⟨by omega, _, rfl⟩, hf⟩
 have z11 := m10.size
 obtain ⟨len, vb, hl16, rfl, hbe⟩ := hV
 obtain ⟨bB, TB, lB, sB, rfl, -⟩ := id hbe
 refine sM rfl (sE2 rfl (svK (xallS (lens := [256, 1, 1, 1, 1, 1]) in139 (by simp [nm_length])) ?_))
 rintro _ w13 ⟨b6, rfl, m14, h6, e12, s12⟩
 refine suK (xstW h6 (lens' := [256, 1, 1, 1, 1, 1]) sz139 (by simp [rhSegs, nm_length]) rfl (by simp only [rhSegs, List.cons_append, List.nil_append, fC, fN, aA, aN, nm_one, bT] <;> rfl) rfl rfl) ?_
 rintro w16 ⟨m17, h6, s15⟩
 have hg0 := rng_fr (rng_fr (rng_fr hg0 m10 (by omega) (nE (by omega))) m14 (by omega) id) m17 (by omega) (nE (by omega))
 have hv := RX.keep (RX.keep (RX.keep hv resv_st (fun k hk => by have hk := hU k hk; omega) (by omega) m10 (fun k hk hk3 hS => by have hS : k = bp := hS; rcases hk with hk | hk <;> first | omega | (have := hU k hk; omega)) (nE (by omega))) resv_st (fun k hk => by have hk := hU k hk; omega) (by omega) m14 (fun _ _ _ h => h) id) resv_st (fun k hk => by have hk := hU k hk; omega) (by omega) m17 (fun k hk hk3 hS => by have hS : k = b6 := hS; rcases hk with hk | hk <;> first | omega | (have := hU k hk; omega)) (nE (by omega))
 have hbe := (hbe.keep (lNo (by omega)) m14 nF).keep (lNo (by omega)) m17 (lN1 (by omega))
 refine sA rfl (send ((wp_seq (sreg (sM rfl (sv (xld on89 rfl (hg0 0 _ rfl)) (sv (xeqEN if89 rfl rfl) (send ((cno rfl (wp_skip (nThen ((wp_seq (sreg (sM rfl (sv (xneN if89 rfl) (send (ffg 0 5 6 7 28 rfl fun _ => cno rfl (wp_skip (nThen (fdg 0 5 6 rfl fun _ => lreg (sM rfl (sv (xldS (lens := [256, 1, 1, 1, 1, 1]) ro139 rfl h6.r) (svK (xslit ((rhSegs (bt r.name) (typeN r) r.cls r.ttl len ++ [[Value.iface TB (.pointer (some ⟨bB, 0, none⟩))]]).flatten) sl75 in139 rfl (by decide) rfl rfl rfl (by simp [rhSegs, nm_length, Value.cells]) (by decide) (ag_flat _) (by simp only [rhSegs, List.cons_append, List.nil_append, fC, fN, aA, aN, nm_one, bT] <;> rfl)) ?_)))))))))))))))))))))))))
 rintro _ w19 ⟨b32, rfl, m20, h32, e32, s32, r32⟩
 have hv := RX.keep hv resv_st (fun k hk => by have hk := hU k hk; omega) (by omega) m20 (fun _ _ _ h => h) id
 obtain ⟨ss33, hR33, hA33⟩ := hv
 refine svK (xapp sl75 in139 rfl (by decide) rfl rfl hR33 (r32.src sl75) (by simp only [maxLen]; omega) (by omega)) ?_
 rintro v33 w21 ⟨g33, r33, m22, a33, l33⟩
 have z23 := m22.size
 have hbe := (hbe.keep (lNo (by omega)) m20 nF).keep (lNo (by omega)) m22 (lN1 (by omega))
 have hv := RX.snoc (x := r) w21.heap.size hA33 resv_st resv_gr (fun k hk => by have hk := hU k hk; omega) (by omega) (by omega) m22 a33 r33 (by simp [rhSegs, nm_length]) (ResV.mk hl16 (hbe.mono (fun k h => ⟨h.elim .inl (fun h => .inr ⟨by omega, by omega⟩), by have h := Ub.num (U := NoU) (n := 0) (fun _ h => h.elim) h; omega⟩)))
 have hL6 := ((((hL6.step m10 (fun k hk hS => by have hS : k = bp := hS; show k = b17 ∨ k = bp; omega)).s m14).step m17 (fun k hk hS => by have hS : k = b6 := hS; show k = b17 ∨ k = bp; omega)).s m20).step m22 (fun k hk hS => by have hS : k = g := hS; show k = b17 ∨ k = bp; omega)
 have hP := (((hP.k m14).keep m17 (nE (by omega))).k m20).keep m22 (nE (by omega))
 refine sA rfl (lend (nBlock (nThen ?_)))
 refine ⟨(k + 1, o1, _, g33), _, env_okl ⟨rfl, rfl, trivial⟩, ⟨hL6, (by omega), (hls1), (by omega), (prat_cast hP rfl (by omega)), (by rw [take_snoc hrk]; exact RX.up resv_gr hv (by omega)), (by omega), (l33 (by omega)), (by omega)⟩, ?_⟩
 show l.length - (k + 1) < l.length - k; omega
theorem c59 {w : World} {a : Option Addr} {bm om km n : Nat} {b : List UInt8} (hms : n ≠ 0 → a = some ⟨bm, om, none⟩) (hm : w.rangeAt bm om (bvs (b.take n))) (hbm : bm < w.heap.size) (hnb : n ≤ b.length) (hkm : n ≤ km) (hbl : b.length < 100000000) {bp : Nat} {y0 y1 y2 y3 y4 y5  : Int} {l : List RecD} {off e : Nat} {Kp : Nat → Prop} (hP : PrAt w bp (.slice a n km) y0 y1 y2 y3 y4 y5 5 (off : Int) 0) {Tz : TypeId} {xz : Option Addr} (hg0 : w.rangeAt 0 0 [.iface Tz (.pointer xz)]) (hG : GE w) (hsz : 21 ≤ w.heap.size) (hgp : 20 < bp) (hCT : CmpT Tz) (hbp : bp ≠ bm) (hKp : ∀ k, Kp k → k ≤ 10 ∧ (k = 0 ∨ n = b.length)) (heb : e ≤ b.length) (hon : off ≤ n) {B mb : Nat} {sf : Int → ByteArray} (hBp : B ≤ bp) (hcn : cntI 5 y2 y3 y4 y5 = (l.length : Int)) (hal : l.length < 65536) (hls : ListR (RecR Kp b) off l e) (hrs : ∀ r ∈ l, ReadOk r ∧ (r.kind = 11 ∨ r.kind = 12 → asc r.pairs)) (hSO : SecOr (e ≤ n) B mb sf w)  :
  Ret PP 59 [.pointer (some ⟨bp, 0, none⟩)] w (fun u w' => ((e ≤ n ∧ ∃ v, u = .tuple #[v, .nilIface] ∧ LA ResV lRes (Ub NoU w w') w' v l ∧ PrAt w' bp (.slice a n km) y0 y1 y2 y3 y4 y5 (5 + 1) (e : Int) 0) ∨ (n < e ∧ ∃ (x : Option Addr), u = .tuple #[.slice none 0 0, .iface 166 (.pointer x)])) ∧ Fr (fun k => k = bp) w w') := by
 have hzb : bp < w.heap.size := hP.lt
 have hU : ∀ k, NoU k → k < w.heap.size := fun _ h => h.elim
 obtain ⟨ho', ty', ln', hQ⟩ := id hP
 have hcnv : y5 = (l.length : Int) := hcn
 have hf : Fr (fun k => k = bp) w w := Fr.refl _ _
 refine ret_of Tryz.func59 rfl rfl rfl [(0, _)] rfl ?_
 refine sreg (sA rfl (sA rfl (send ((sreg (sM rfl (sN rfl (sv (xfld fl124_1 rfl) (sv (xfld fl121_5 rfl) (sv (xld on22 rfl (hQ.r.c 6 rfl rfl)) (sv (xconv hs22 ki3 rfl (w64n l.length hcnv (by omega))) (sA rfl (send ((wp_seq (sreg (sM rfl (sv (xgtr rfl rfl) (send (fdg 0 4 15 rfl fun _ => ?_))))))))))))))))))))
 refine jcut [(0, _)] ⟨rfl, trivial⟩ (fun (x : Nat) => match x with | cp => [(4, .int .i64 (cp : Int))]) (fun (x : Nat) wx => match x with | cp => Fr (fun _ => False) w wx ∧ (cp ≤ 65536)) ?_ ?_
 ·
  have hJ1 : Fr (fun _ => False) w w := Fr.refl _ _
  refine cB rfl (fun hb => ?_) (fun hb => ?_)
  ·
   refine lreg (sA rfl (lend ?_))
   exact ⟨rfl, 10, _, env_okl ⟨rfl, rfl, trivial⟩, ⟨hJ1, (by omega)⟩⟩
  refine wp_skip ?_
  exact ⟨rfl, l.length, _, env_okl ⟨rfl, rfl, trivial⟩, ⟨hJ1, (by omega)⟩⟩
 rintro cp _ w2 ⟨hJ1, hcp⟩
 have z3 := hJ1.size
 refine nThen (fcg 0 4 rfl fun _ => sreg (sM rfl (svK (xmake (lo := 0) (hi := cp) sl75 in139 rfl (by decide) rfl rfl (by omega) rfl (by omega) (by omega) (by simp only [maxLen]; omega) (one6 _ _ _ _ _ _ rfl)) ?_)))
 rintro _ w4 ⟨b17, rfl, m5, -, ez17, sz17, r17⟩
 have hv : RX ResV lRes NoU w.heap.size w4.heap.size w4 _ b17 139 0 [] := RX.ofNil r17
 have hP := (hP.k hJ1).k m5
 have hG := (hG.k0 hJ1 (by omega)).k0 m5 (by omega)
 have hSO := (hSO.k0 hJ1 (by omega)).k0 m5 (by omega)
 refine sA rfl (send (fcg 0 5 rfl fun _ => wp_block (lp [(0, _)] (fun (x : Nat × Nat × Value × Nat) => match x with | (k, o, v, g) => [(5, v)]) (fun (x : Nat × Nat × Value × Nat) wx => match x with | (k, o, v, g) => Fr (fun k => k = b17 ∨ k = bp) w4 wx ∧ (k ≤ l.length) ∧ (ListR (RecR Kp b) o (l.drop k) e) ∧ (o ≤ n) ∧ (PrAt wx bp (.slice a n km) y0 y1 y2 y3 y4 y5 5 (o : Int) (k : Int)) ∧ (RX ResV lRes NoU w.heap.size wx.heap.size wx v g 139 k (l.take k)) ∧ (w.heap.size ≤ g) ∧ (g < wx.heap.size) ∧ (g = b17 ∨ w4.heap.size ≤ g)) (fun (x : Nat × Nat × Value × Nat) => match x with | (k, o, v, g) => l.length - k) (0, off, _, b17) ⟨rfl, rfl, trivial⟩ ⟨Fr.refl _ _, Nat.zero_le _, hls, hon, hP, hv, by omega, by omega, .inl rfl⟩ ?_)))
 rintro ⟨k, o, v, g⟩ _ w7 ⟨hL6, hk, hls, hon, hP, hv, hg, hg2, hg3⟩
 refine fcg 0 5 rfl fun _ => ?_
 have z8 := hL6.size
 obtain ⟨av, cv, rfl⟩ := RA.form hv
 have hg0 := rng_fr (rng_fr (rng_fr hg0 hJ1 (by omega) id) m5 (by omega) id) hL6 (by omega) (by show ¬ (0 = b17 ∨ 0 = bp); omega)
 have hf := ((hf.s hJ1).s m5).step hL6 (fun k hk hS => by have hS : k = b17 ∨ k = bp := hS; show k = bp; omega)
 have hG := hG.keep (fun k hk => by omega) hL6 (fun k hk hS => by have hk := hk; have hS : k = b17 ∨ k = bp := hS; omega)
 rcases Nat.lt_or_ge k l.length with hlt | hge
 rotate_left
 ·
  refine wp_block (sreg (sM rfl ?_))
  obtain ⟨ho, ty, ln, hP⟩ := hP
  refine sc (xcall ca63 rfl) (c63d hP hg0 hG (by omega) hgp (by omega) (by omega) (by omega)) ?_
  rintro _ w31 ⟨⟨rfl, hP⟩, m32⟩
  have z33 := m32.size
  refine sM rfl (sE2 rfl (svK (xallS (lens := [256, 1, 1, 1, 1, 1]) in139 (by simp [nm_length])) ?_))
  rintro _ w35 ⟨b6, rfl, m36, h6, e34, s34⟩
  refine suK (xstW h6 (lens' := [256, 1, 1, 1, 1, 1]) sz139 (by simp [nm_length]) rfl (by simp only [List.cons_append, List.nil_append, fC, fN, aA, aN, nm_one, bT] <;> rfl) rfl rfl) ?_
  rintro w38 ⟨m39, h6, s37⟩
  have hg0 := rng_fr (rng_fr (rng_fr hg0 m32 (by omega) (nE (by omega))) m36 (by omega) id) m39 (by omega) (nE (by omega))
  have hP := (hP.k m36).keep m39 (nE (by omega))
  refine sA rfl (send ((wp_seq (sreg (sM rfl (sv (xld on89 rfl (hg0 0 _ rfl)) (sv (xeqES if89 hCT rfl rfl) (send ((cyes rfl (sreg (sM rfl (sA rfl (sA rfl (send (fcg 2 3 rfl fun _ => wp_ret (rThen (rBlock (rThen (rBlock (rp2 rfl rfl rfl ?_)))))))))))))))))))))
  have hPz := hP
  have hoe := listR_end hls hge
  subst hoe
  have hke : l.take k = l := List.take_of_length_le hge
  have hv := RX.keep (RX.keep (RX.keep hv resv_st (fun k hk => by have hk := hU k hk; omega) (by omega) m32 (fun k hk hk3 hS => by have hS : k = bp := hS; rcases hk with hk | hk <;> first | omega | (have := hU k hk; omega)) (nE (by omega))) resv_st (fun k hk => by have hk := hU k hk; omega) (by omega) m36 (fun _ _ _ h => h) id) resv_st (fun k hk => by have hk := hU k hk; omega) (by omega) m39 (fun k hk hk3 hS => by have hS : k = b6 := hS; rcases hk with hk | hk <;> first | omega | (have := hU k hk; omega)) (nE (by omega))
  rw [hke] at hv
  have hf := ((hf.step m32 nI).s m36).t m39 (by omega)
  obtain rfl : k = l.length := by omega
  exact ⟨.inl ⟨hon, _, rfl, RX.la hv (by decide) resv_gr (fun k hk => hk.elim .inl (fun h => .inr ⟨by omega, by omega⟩)) (.inr ⟨by omega, by omega⟩), _, _, _, hPz⟩, hf⟩
 obtain ⟨r, hrk⟩ := some_of_lt hlt
 obtain ⟨o1, hRa, hls1⟩ := listR_drop hls hrk
 have hoe := listR_le hls1 (fun _ _ _ _ h => rec_le h)
 refine wp_block (sreg (sM rfl ?_))
 obtain ⟨ho, ty, ln, hP⟩ := hP
 have hm := rng_fr (rng_fr (rng_fr hm hJ1 (by omega) id) m5 (by omega) id) hL6 (by omega) (by show ¬ (bm = b17 ∨ bm = bp); omega)
 have hSO := hSO.keep (fun k hk => by omega) hL6 (fun k hk hS => by have hk := hk; have hS : k = b17 ∨ k = bp := hS; omega)
 refine sc (xcall ca63 rfl) (c63g (Kp := Kp) (e := o1) (r := r) hms hm (by omega) hnb hkm hbl hP hg0 hG (by omega) hgp (by omega) (by omega) hbp (by omega) (by omega) (by omega) hBp hKp hRa (hrs r (List.mem_of_getElem? hrk)).1 (hrs r (List.mem_of_getElem? hrk)).2 (by omega) (hSO.imp (by omega))) ?_
 rintro _ w9 ⟨⟨hle20, sg20, rfl, hV, hP⟩ | ⟨hgt20, x20, rfl⟩, m10⟩
 rotate_left
 ·
  have z24 := m10.size
  refine sM rfl (sE2 rfl (svK (xallS (lens := [256, 1, 1, 1, 1, 1]) in139 (by simp [nm_length])) ?_))
  rintro _ w26 ⟨b6, rfl, m27, h6, e25, s25⟩
  refine suK (xstW h6 (lens' := [256, 1, 1, 1, 1, 1]) sz139 (by simp [nm_length]) rfl (by simp only [List.cons_append, List.nil_append, fC, fN, aA, aN, nm_one, bT] <;> rfl) rfl rfl) ?_
  rintro w29 ⟨m30, h6, s28⟩
  have hg0 := rng_fr (rng_fr (rng_fr hg0 m10 (by omega) (nE (by omega))) m27 (by omega) id) m30 (by omega) (nE (by omega))
  have hf := ((hf.step m10 nI).s m27).t m30 (by omega)
  refine sA rfl (send ((wp_seq (sreg (sM rfl (sv (xld on89 rfl (hg0 0 _ rfl)) (sv (xeqEO if89 hCT.1 rfl rfl) (send ((cno rfl (wp_skip (nThen ((wp_seq (sreg (sM rfl (sv (xneI if89 rfl) (send (ffg 0 5 6 7 28 rfl fun _ => cyes rfl (sreg (sM rfl (sA rfl (sA rfl (send (fcg 2 3 rfl fun _ => wp_ret (rThen (rBlock (rThen (rBlock (rp2 rfl rfl rfl ?_))))))))))))))))))))))))))))))
  exact ⟨.inr ⟨by omega, _, rfl⟩, hf⟩
 have z11 := m10.size
 obtain ⟨len, vb, hl16, rfl, hbe⟩ := hV
 obtain ⟨bB, TB, lB, sB, rfl, -⟩ := id hbe
 refine sM rfl (sE2 rfl (svK (xallS (lens := [256, 1, 1, 1, 1, 1]) in139 (by simp [nm_length])) ?_))
 rintro _ w13 ⟨b6, rfl, m14, h6, e12, s12⟩
 refine suK (xstW h6 (lens' := [256, 1, 1, 1, 1, 1]) sz139 (by simp [rhSegs, nm_length]) rfl (by simp only [rhSegs, List.cons_append, List.nil_append, fC, fN, aA, aN, nm_one, bT] <;> rfl) rfl rfl) ?_
 rintro w16 ⟨m17, h6, s15⟩
 have hg0 := rng_fr (rng_fr (rng_fr hg0 m10 (by omega) (nE (by omega))) m14 (by omega) id) m17 (by omega) (nE (by omega))
 have hv := RX.keep (RX.keep (RX.keep hv resv_st (fun k hk => by have hk := hU k hk; omega) (by omega) m10 (fun k hk hk3 hS => by have hS : k = bp := hS; rcases hk with hk | hk <;> first | omega | (have := hU k hk; omega)) (nE (by omega))) resv_st (fun k hk => by have hk := hU k hk; omega) (by omega) m14 (fun _ _ _ h => h) id) resv_st (fun k hk => by have hk := hU k hk; omega) (by omega) m17 (fun k hk hk3 hS => by have hS : k = b6 := hS; rcases hk with hk | hk <;> first | omega | (have := hU k hk; omega)) (nE (by omega))
 have hbe := (hbe.keep (lNo (by omega)) m14 nF).keep (lNo (by omega)) m17 (lN1 (by omega))
 refine sA rfl (send ((wp_seq (sreg (sM rfl (sv (xld on89 rfl (hg0 0 _ rfl)) (sv (xeqEN if89 rfl rfl) (send ((cno rfl (wp_skip (nThen ((wp_seq (sreg (sM rfl (sv (xneN if89 rfl) (send (ffg 0 5 6 7 28 rfl fun _ => cno rfl (wp_skip (nThen (fdg 0 5 6 rfl fun _ => lreg (sM rfl (sv (xldS (lens := [256, 1, 1, 1, 1, 1]) ro139 rfl h6.r) (svK (xslit ((rhSegs (bt r.name) (typeN r) r.cls r.ttl len ++ [[Value.iface TB (.pointer (some ⟨bB, 0, none⟩))]]).flatten) sl75 in139 rfl (by decide) rfl rfl rfl (by simp [rhSegs, nm_length, Value.cells]) (by decide) (ag_flat _) (by simp only [rhSegs, List.cons_append, List.nil_append, fC, fN, aA, aN, nm_one, bT] <;> rfl)) ?_)))))))))))))))))))))))))
 rintro _ w19 ⟨b32, rfl, m20, h32, e32, s32, r32⟩
 have hv := RX.keep hv resv_st (fun k hk => by have hk := hU k hk; omega) (by omega) m20 (fun _ _ _ h => h) id
 obtain ⟨ss33, hR33, hA33⟩ := hv
 refine svK (xapp sl75 in139 rfl (by decide) rfl rfl hR33 (r32.src sl75) (by simp only [maxLen]; omega) (by omega)) ?_
 rintro v33 w21 ⟨g33, r33, m22, a33, l33⟩
 have z23 := m22.size
 have hbe := (hbe.keep (lNo (by omega)) m20 nF).keep (lNo (by omega)) m22 (lN1 (by omega))
 have hv := RX.snoc (x := r) w21.heap.size hA33 resv_st resv_gr (fun k hk => by have hk := hU k hk; omega) (by omega) (by omega) m22 a33 r33 (by simp [rhSegs, nm_length]) (ResV.mk hl16 (hbe.mono (fun k h => ⟨h.elim .inl (fun h => .inr ⟨by omega, by omega⟩), by have h := Ub.num (U := NoU) (n := 0) (fun _ h => h.elim) h; omega⟩)))
 have hL6 := ((((hL6.step m10 (fun k hk hS => by have hS : k = bp := hS; show k = b17 ∨ k = bp; omega)).s m14).step m17 (fun k hk hS => by have hS : k = b6 := hS; show k = b17 ∨ k = bp; omega)).s m20).step m22 (fun k hk hS => by have hS : k = g := hS; show k = b17 ∨ k = bp; omega)
 have hP := (((hP.k m14).keep m17 (nE (by omega))).k m20).keep m22 (nE (by omega))
 refine sA rfl (lend (nBlock (nThen ?_)))
 refine ⟨(k + 1, o1, _, g33), _, env_okl ⟨rfl, rfl, trivial⟩, ⟨hL6, (by omega), (hls1), (by omega), (prat_cast hP rfl (by omega)), (by rw [take_snoc hrk]; exact RX.up resv_gr hv (by omega)), (by omega), (l33 (by omega)), (by omega)⟩, ?_⟩
 show l.length - (k + 1) < l.length - k; omega
end Go.Proofs.YtifnodoffgfpbaaGreatDoor

namespace Go.Proofs.YtifnodoffgfpbaaGreatDoor
open Go

theorem nm_pre0 {w : World} {b o : Nat} {S : List UInt8} (h : w.rangeAt b o (nm S)) (hl : S.length ≤ 255) : w.rangeAt b o (bvs S) := fun j v hv => h j v (nm_pre S hl j v hv)
theorem cnt2 {y2 y3 y4 y5 : Int} : cntI 2 y2 y3 y4 y5 = y2 := rfl
theorem cnt3 {y2 y3 y4 y5 : Int} : cntI 3 y2 y3 y4 y5 = y3 := rfl
theorem cnt4 {y2 y3 y4 y5 : Int} : cntI 4 y2 y3 y4 y5 = y4 := rfl
theorem cnt5 {y2 y3 y4 y5 : Int} : cntI 5 y2 y3 y4 y5 = y5 := rfl

theorem c55 {w : World} {a : Option Addr} {bm om km n : Nat} {b : List UInt8} (hms : n ≠ 0 → a = some ⟨bm, om, none⟩) (hm : w.rangeAt bm om (bvs (b.take n))) (hbm : bm < w.heap.size) (hnb : n ≤ b.length) (hkm : n ≤ km) (hbl : b.length < 100000000) (hG : GE w) (hsz : 21 ≤ w.heap.size) {bp : Nat} {hd : HeadD} {k0 k1 k2 k3 : Nat} (hP : SB w bp lPr (prSegs (.slice none 0 0) 0 0 0 0 0 0 0 0 0 false 0 0 0)) (hbp : bp ≠ bm) (hgp : 20 < bp) (hho : hd.ok) (hst : Std b 0 (headL hd [k0, k1, k2, k3])) (l0 : k0 < 65536) (l1 : k1 < 65536) (l2 : k2 < 65536) (l3 : k3 < 65536) (hb12 : 12 ≤ b.length) :
  Ret PP 55 [.pointer (some ⟨bp, 0, none⟩), .slice a n km] w (fun u w' => ((12 ≤ n ∧ u = .tuple #[ag (headSegs hd), .nilIface] ∧ SB w' bp lPr (prSegs (.slice a n km) (hd.id.toNat : Int) ((hbits hd).toNat : Int) (k0 : Int) (k1 : Int) (k2 : Int) (k3 : Int) 2 ((12 : Nat) : Int) 0 false 0 0 0)) ∨ (n < 12 ∧ ∃ (x : Option Addr), u = .tuple #[ag ([[.int .u16 0], [.bool false], [.int .u16 0], [.bool false], [.bool false], [.bool false], [.bool false], [.bool false], [.bool false], [.int .u16 0]]), .iface 166 (.pointer x)])) ∧ Fr (fun k => k = bp) w w') := by
 have hst : Std b 0 (be16 hd.id.toNat ++ (be16 (hbits hd).toNat ++ (be16 k0 ++ (be16 k1 ++ (be16 k2 ++ (be16 k3 ++ [])))))) := hst
 have hf : Fr (fun k => k = bp) w w := Fr.refl _ _
 have z_hP := hP.lt
 refine ret_of Tryz.func55 rfl rfl rfl [(0, _), (1, _)] rfl ?_
 refine sreg (svK (xallS (lens := [1, 1, 1, 1, 1, 1, 1, 1, 1, 1]) in73 rfl) ?_)
 rintro _ w2 ⟨b4, rfl, m3, h4, e1, s1⟩
 have hP := hP.k m3
 refine sA rfl (send ((wp_seq (sreg (sM rfl (sN rfl (sv (xfld fl124_0 rfl) (sv (xld on37 rfl (hP.r.c 0 rfl rfl)) (sv (xneSl sl37 rfl) (send ((cno rfl (wp_skip (nThen (fdg 0 1 4 rfl fun _ => sreg (sM rfl (sM rfl (sN rfl (sv (xfld fl124_0 rfl) (suK (xstF 0 sz37 hP rfl rfl rfl rfl rfl) ?_))))))))))))))))))))
 rintro w5 ⟨m6, hP, s4⟩
 have hm := rng_fr (rng_fr hm m3 (by omega) id) m6 (by omega) (nE (by omega))
 have hG := (hG.k0 m3 (by omega)).k1 m6 (by omega) (by omega)
 refine send ((sreg (sA rfl (send (fdg 0 1 4 rfl fun _ => wp_seq (sreg (sM rfl (sM rfl (sN rfl (sv (xfld fl124_1 rfl) (sM rfl (sc (xcall ca102 rfl) (c102 (b := b) (ka := hd.id.toNat) (kb := (hbits hd).toNat) (kc := k0) (kd := k1) (ke := k2) (kf := k3) hms hm (by omega) hnb hkm hbl hG (by omega) hP hbp hgp (u16lt _) (u16lt _) l0 l1 l2 l3 hst.left (hst.right' rfl).left ((hst.right' rfl).right' rfl).left (((hst.right' rfl).right' rfl).right' rfl).left ((((hst.right' rfl).right' rfl).right' rfl).right' rfl).left (((((hst.right' rfl).right' rfl).right' rfl).right' rfl).right' rfl).left hb12) ?_))))))))))))
 have hf := (hf.s m3).step m6 nI
 have h4 := h4.keep m6 (nE (by omega))
 rintro _ w7 ⟨⟨hle25, rfl, hP⟩ | ⟨hgt25, ⟨T25, x25, rfl⟩, i0, i1, i2, i3, i4, i5, hP⟩, m8⟩
 ·
  have z9 := m8.size
  refine sM rfl (sE2 rfl (sN rfl (sv (xfld fl124_3 rfl) (suK (xstF 8 sz3 hP rfl rfl rfl rfl rfl) ?_))))
  rintro w11 ⟨m12, hP, s10⟩
  refine sA rfl (send ((sreg (sM rfl (sv (xneN if89 rfl) (send ((cno rfl (wp_skip (nThen (fcg 0 4 rfl fun _ => sreg (sM rfl (sN rfl (sv (xfld fl124_2 rfl) (suK (xstF 7 sz122 hP rfl rfl rfl rfl rfl) ?_)))))))))))))))
  rintro w14 ⟨m15, hP, s13⟩
  refine send (fcg 0 4 rfl fun _ => sreg (sM rfl (sN rfl (sv (xfld fl124_1 rfl) (sc (xcall ca103 rfl) (c103 hho hP) ?_)))))
  rintro _ w16 ⟨rfl, m17⟩
  have z18 := m17.size
  have h4 := (((h4.keep m8 (nE (by omega))).keep m12 (nE (by omega))).keep m15 (nE (by omega))).k m17
  refine suK (xstW h4 (lens' := [1, 1, 1, 1, 1, 1, 1, 1, 1, 1]) sz73 rfl rfl rfl rfl rfl) ?_
  rintro w20 ⟨m21, h4, s19⟩
  have hf := ((((hf.step m8 nI).step m12 nI).step m15 nI).s m17).t m21 (by omega)
  have hP := (hP.k m17).keep m21 (nE (by omega))
  refine sA rfl (send (fcg 4 5 rfl fun _ => wp_ret (rp2 rfl ⟨_, rfl, ldS (lens := [1, 1, 1, 1, 1, 1, 1, 1, 1, 1]) ro73 h4.r⟩ rfl ?_)))
  exact ⟨.inl ⟨by omega, rfl, hP⟩, hf⟩
 have z22 := m8.size
 refine sM rfl (sE2 rfl (sN rfl (sv (xfld fl124_3 rfl) (suK (xstF 8 sz3 hP rfl rfl rfl rfl rfl) ?_))))
 rintro w24 ⟨m25, hP, s23⟩
 refine sA rfl (send ((sreg (sM rfl (sv (xneI if89 rfl) (send (feg 0 4 6 31 rfl fun _ => cyes rfl (sreg (sv (xbuildS [[.int .u16 0], [.bool false], [.int .u16 0], [.bool false], [.bool false], [.bool false], [.bool false], [.bool false], [.bool false], [.int .u16 0]] zr73 ly73 rfl trivial (by simp [setAll, zs73])) (sM rfl (sv (xbuildS [[_], [_]] zr168 ly168 rfl (by simp [fitAll, zs168, Value.cells]) rfl) (svK (xboxS (lens := [1, 1]) rfl (by simp [])) ?_))))))))))))
 rintro _ w27 ⟨b35, rfl, m28, h35, e26, s26⟩
 have h4 := ((h4.keep m8 (nE (by omega))).keep m25 (nE (by omega))).k m28
 refine sv (xmkif ni166 rfl) (suK (xstW h4 (lens' := [1, 1, 1, 1, 1, 1, 1, 1, 1, 1]) sz73 rfl rfl rfl rfl rfl) ?_)
 rintro w30 ⟨m31, h4, s29⟩
 have hf := (((hf.step m8 nI).step m25 nI).s m28).t m31 (by omega)
 refine sA rfl (send (fcg 4 5 rfl fun _ => wp_ret (rThen (rp2 rfl ⟨_, rfl, ldS (lens := [1, 1, 1, 1, 1, 1, 1, 1, 1, 1]) ro73 h4.r⟩ rfl ?_))))
 exact ⟨.inr ⟨by omega, _, rfl⟩, hf⟩
end Go.Proofs.YtifnodoffgfpbaaGreatDoor

namespace Go.Proofs.YtifnodoffgfpbaaGreatDoor
open Go

theorem rec_k {r' : RecD} {k : Int} (h : r'.kind = k) (vd vt vp : Value) : recSegs r' vd vt vp = recSegs { r' with kind := k } vd vt vp := by subst h; rfl
theorem ag_rec {r' : RecD} {k : Int} {vd vt vp : Value} {segs : List (List Value)} (h : r'.kind = k) (he : ag segs = ag (recSegs { r' with kind := k } vd vt vp)) : ag segs = ag (recSegs r' vd vt vp) := by rw [rec_k h]; exact he
theorem one5 (S : List UInt8) (x1 x2 x3 x4 : Int) : ([nm S, [Value.int .u16 x1], [Value.int .u16 x2], [Value.int .u32 x3], [Value.int .u16 x4]].flatten.all (·.oneCell')) = true := by
  simp only [List.flatten_cons, List.flatten_nil, List.all_append, List.append_nil, nm_one, Bool.true_and]; rfl
theorem ba0 {U : Nat → Prop} {w : World} : BA U w (.slice none 0 0) [] := ⟨none, 0, rfl, fun h => absurd rfl h⟩

theorem c48 {w : World} {hd : HeadD} :
  Ret PP 48 [ag (headSegs hd)] w (fun u w' => u = ag (headSegs hd) ∧ Fr0 w w') := by
 have hf : Fr (fun _ => False) w w := Fr.refl _ _
 refine ret_of Tryz.func48 rfl rfl rfl [(0, _)] rfl ?_
 refine sreg (svK (xboxS (lens := [1, 1, 1, 1, 1, 1, 1, 1, 1, 1]) rfl rfl) ?_)
 rintro _ w2 ⟨b1, rfl, m3, h1, e1, s1⟩
 refine svK (xallS (lens := [1, 1, 1, 1, 1, 1, 1, 1, 1, 1]) in24 rfl) ?_
 rintro _ w5 ⟨b2, rfl, m6, h2, e4, s4⟩
 have h1 := h1.k m6
 refine send (fcg 1 2 rfl fun _ => sreg (sv (xfld fl73_0 rfl) (sv (xld on22 rfl (h1.r.c 0 rfl rfl)) (sv (xfld fl73_1 rfl) (sv (xld on4 rfl (h1.r.c 1 rfl rfl)) (sv (xfld fl73_2 rfl) (sv (xld on70 rfl (h1.r.c 2 rfl rfl)) (sv (xfld fl73_3 rfl) (sv (xld on4 rfl (h1.r.c 3 rfl rfl)) (sv (xfld fl73_4 rfl) (sv (xld on4 rfl (h1.r.c 4 rfl rfl)) (sv (xfld fl73_5 rfl) (sv (xld on4 rfl (h1.r.c 5 rfl rfl)) (sv (xfld fl73_6 rfl) (sv (xld on4 rfl (h1.r.c 6 rfl rfl)) (sv (xfld fl73_7 rfl) (sv (xld on4 rfl (h1.r.c 7 rfl rfl)) (sv (xfld fl73_8 rfl) (sv (xld on4 rfl (h1.r.c 8 rfl rfl)) (sv (xfld fl73_9 rfl) (sv (xld on71 rfl (h1.r.c 9 rfl rfl)) (sv (xbuildS (headSegs hd) zr24 ly24 rfl (by simp [fitAll, zs24, Value.cells]) rfl) (suK (xstW h2 (lens' := [1, 1, 1, 1, 1, 1, 1, 1, 1, 1]) sz24 rfl rfl rfl rfl rfl) ?_)))))))))))))))))))))))
 rintro w8 ⟨m9, h2, s7⟩
 have hf := ((hf.s m3).s m6).t m9 (by omega)
 refine send (fbg 2 rfl fun _ => wp_ret (rp1 rfl ⟨_, rfl, ldS (lens := [1, 1, 1, 1, 1, 1, 1, 1, 1, 1]) ro24 h2.r⟩ ?_))
 exact ⟨rfl, hf⟩
theorem c100 {w : World} {S : List UInt8} (hS : S.length ≤ 255) :
  Ret PP 100 [ag [nm S]] w (fun u w' => u = .string (mkB S) ∧ Fr0 w w') := by
 have hf : Fr (fun _ => False) w w := Fr.refl _ _
 refine ret_of Tryz.func100 rfl rfl rfl [(0, _)] rfl ?_
 refine sreg (svK (xboxS (lens := [256]) rfl (by simp [nm_length])) ?_)
 rintro _ w2 ⟨b1, rfl, m3, h1, e1, s1⟩
 have hf := hf.s m3
 refine sA rfl (send ((sreg (sv (xfld fl82_0 rfl) (sv (xfld fl82_1 rfl) (sv (xld on5 rfl (h1.r.seg (i := 0) rfl rfl 255 _ (nm_last _))) (sv (xcutAH (hi := S.length) ar80 sz5 rfl rfl rfl hS) (sv (xb2sR (bs := S) sl37 ki5 st9 rfl rfl (nm_pre0 (h1.r.seg (i := 0) (k := 0) rfl rfl) hS)) (sA rfl (send (fbg 2 rfl fun _ => wp_ret (rp1 rfl rfl ?_))))))))))))
 exact ⟨rfl, hf⟩
theorem c49 {w : World} {U : Nat → Prop} (hU : ∀ k, U k → k < w.heap.size) {v : Value} {l : List AskD} (hl : LA QEl lQ U w v l) (hn : l.length ≤ 1048576) (hna : ∀ a ∈ l, (bt a.name).length ≤ 255) :
  Ret PP 49 [v] w (fun u w' => LA AskEl lAsk (Ub U w w') w' u l ∧ Fr0 w w') := by
 obtain ⟨a0, c0, rfl⟩ := hl.form
 have hf : Fr (fun _ => False) w w := Fr.refl _ _
 refine ret_of Tryz.func49 rfl rfl rfl [(0, _)] rfl ?_
 refine sreg (sA rfl (send (fbg 0 rfl fun _ => sreg (svK (xslit ([]) sl25 in58 rfl (by decide) rfl rfl rfl rfl (by decide) rfl rfl) ?_))))
 rintro _ w2 ⟨b6, rfl, m3, h6, e6, s6, r6⟩
 have hq : RA AskEl lAsk NoU w2 _ b6 58 0 [] := ⟨[], r6, All2.nil⟩
 refine sA rfl (send ((wp_seq (sreg (sM rfl (sv (xlen sl77 rfl) (sM rfl (send (feg 3 7 8 9 rfl fun _ => wp_block (lp [(7, _), (8, _)] (fun (x : Nat × Value × Nat) => match x with | (k, v, g) => [(3, v), (9, .int .i64 (k : Int))]) (fun (x : Nat × Value × Nat) wx => match x with | (k, v, g) => Fr (fun k => k = b6) w2 wx ∧ (k ≤ l.length) ∧ (RA AskEl lAsk NoU wx v g 58 k (l.take k)) ∧ (w.heap.size ≤ g) ∧ (g < wx.heap.size) ∧ (g = b6 ∨ w2.heap.size ≤ g)) (fun (x : Nat × Value × Nat) => match x with | (k, v, g) => l.length - k) (0, _, b6) ⟨rfl, rfl, rfl, rfl, trivial⟩ ⟨Fr.refl _ _, Nat.zero_le _, hq, by omega, by omega, .inl rfl⟩ ?_))))))))))
 rintro ⟨k, v, g⟩ _ w5 ⟨hL4, hk, hq, hg, hg2, hg3⟩
 refine feg 3 7 8 9 rfl fun _ => ?_
 have z6 := hL4.size
 obtain ⟨a3, c3, rfl⟩ := RA.form hq
 have hf := (hf.s m3).t hL4 (by omega)
 refine sreg (svP (xlss rfl rfl) (fun hc10 => ?_) (fun hc10 => ?_))
 rotate_left
 ·
  refine send ((wp_seq (cno rfl (wp_exit (eThen (eThen (eHit (nThen ((sreg (sM rfl (sA rfl (send (fbg 2 rfl fun _ => wp_ret (rp1 rfl rfl ?_)))))))))))))))
  have e : l.take k = l := List.take_of_length_le (by omega)
  rw [e] at hq
  exact ⟨RA.la hq (by decide) ask_gr (fun _ h => h.elim) (.inr ⟨hg, hg2⟩), hf⟩
 refine send ((wp_seq (cyes rfl (wp_skip (nThen (feg 3 7 8 9 rfl fun _ => wp_seq (wp_block ?_)))))))
 obtain ⟨a, hak⟩ := some_of_lt (by omega : k < l.length)
 have hl := (hl.keep qel_st (lU hU (by omega)) m3 nF).keep qel_st (lU hU (by omega)) hL4 (nU hU (by omega))
 refine sreg ?_
 obtain ⟨bE11, oE11, sgE11, rfl, uE11, hsE11, heE11⟩ := LA.get hl hak
 obtain rfl := heE11
 have zE11 := hU _ uE11
 refine sv (xidx sl77 sz86 rfl rfl rfl (by omega)) (sv (xldS (lens := [256, 1, 1]) ro86 rfl hsE11) (svK (xallS (lens := [256, 1, 1]) in86 (by simp [nm_length])) ?_))
 rintro _ w8 ⟨b5, rfl, m9, h5, e7, s7⟩
 refine suK (xstW h5 (lens' := [256, 1, 1]) sz86 (by simp [questSegs, nm_length]) rfl (by simp only [questSegs, fC, fN, aA, aN, nm_one, bT] <;> rfl) rfl rfl) ?_
 rintro w11 ⟨m12, h5, s10⟩
 refine send (ffg 3 5 7 8 9 rfl fun _ => ?_)
 refine ldrawH (Fr (fun k => k = g) w11.drew) [rd0, rd1, rd2, rd4, rd5, rd6, rd7, ld3, rd8, ld9, ld10, rd11] mixed (by kernel_rfl) (fun _ _ _ _ _ h => h) ?_
 have z13 : w11.drew.heap.size = w11.heap.size := rfl
 have h5 := h5.drew
 have zb_h5 := h5
 have hS14 : Fr (fun k => k = g) w11.drew w11.drew := Fr.refl _ _
 refine qqM rfl rfl hS14 (hvH rfl (fun _ _ => xfld fl86_0 rfl) hS14 (hvH rfl (fun w' hS => xldS (lens := [256]) ro82 rfl ((zb_h5.keep hS (nE (by omega))).r.sub 0 1 rfl)) hS14 (hvH rfl (fun _ _ => xfld fl86_1 rfl) hS14 (hvH rfl (fun w' hS => xld on83 rfl ((zb_h5.keep hS (nE (by omega))).r.c 1 rfl rfl)) hS14 (hvH rfl (fun _ _ => xfld fl86_2 rfl) hS14 (hvH rfl (fun w' hS => xld on84 rfl ((zb_h5.keep hS (nE (by omega))).r.c 2 rfl rfl)) hS14 ?_))))))
 refine hcH rfl (xcall ca100 rfl) (c100 (S := bt a.name) (hna _ (List.mem_of_getElem? hak))) ?_
 rintro _ w15 ⟨rfl, m16⟩
 have z17 := m16.size
 have hS18 := hS14.s m16
 refine ⟨hS18, ?_⟩
 refine hvH rfl (fun _ _ => xbuildS (askSegs a) zr58 ly58 rfl (by simp [fitAll, zs58, Value.cells]) rfl) hS18 ?_
 refine hlKH rfl (xslit ((askSegs a).flatten) sl25 in58 rfl (by decide) rfl rfl rfl rfl (by decide) rfl rfl) ?_
 rintro _ w20 ⟨b22, rfl, m21, h22, e22, s22, r22⟩
 have hS22 := hS18.s m21
 have hq := ((((hq.keep ask_st (fun k hk => by have hk := (show k + 1 ≤ 0 from (show False from hk).elim); omega) m9 nF id).keep ask_st (fun k hk => by have hk := (show k + 1 ≤ 0 from (show False from hk).elim); omega) m12 (fun k hk hS => by have hk := (show k + 1 ≤ 0 from (show False from hk).elim); have hS : k = b5 := hS; omega) (nE (by omega))).keep ask_st (fun k hk => by have hk := (show k + 1 ≤ 0 from (show False from hk).elim); omega) (fd w11) nF id).keep ask_st (fun k hk => by have hk := (show k + 1 ≤ 0 from (show False from hk).elim); omega) m16 nF id).keep ask_st (fun k hk => by have hk := (show k + 1 ≤ 0 from (show False from hk).elim); omega) m21 nF id
 refine ⟨hS22, ?_⟩
 obtain ⟨ss23, hR23, hA23⟩ := hq
 refine hlKH rfl (xapp sl25 in58 rfl (by decide) rfl rfl hR23 (r22.src sl25) (by simp only [maxLen]; omega) (by omega)) ?_
 rintro v23 w23 ⟨g23, r23, m24, a23, l23⟩
 have z25 := m24.size
 have hS26 := hS22.step m24 nI
 have hq := RA.snoc (x := a) hA23 ask_st ask_gr (fun k hk => by have hk := (show k + 1 ≤ 0 from (show False from hk).elim); omega) m24 (fun k hk hS => by have hk := (show k + 1 ≤ 0 from (show False from hk).elim); have hS : k = g := hS; omega) (fun _ h => h) r23 rfl (rfl)
 have hL4 := (((((hL4.s m9).step m12 (fun k hk hS => by have hS : k = b5 := hS; show k = b6; omega)).drew).s m16).s m21).step m24 (fun k hk hS => by have hS : k = g := hS; show k = b6; omega)
 refine ⟨hS26, ?_⟩
 refine qqA rfl rfl hS26 (lhendH (nBlock (nThen (feg 3 7 8 9 rfl fun _ => lreg (sv (xadd rfl rfl (w64 (by omega) (by omega))) (sM rfl (lend (nThen ?_))))))))
 refine ⟨(k + 1, _, g23), _, env_okl ⟨rfl, rfl, rfl, rfl, trivial⟩, ⟨hL4, (by omega), (by rw [take_snoc hak]; exact hq), (by omega), (l23 (by omega)), (by omega)⟩, ?_⟩
 show l.length - (k + 1) < l.length - k; omega
theorem c109 {w : World} {U : Nat → Prop} (hU : ∀ k, U k → k < w.heap.size) {v : Value} {ps : List PairD} (hp : LA PairEl lPair U w v ps) (hn : ps.length ≤ 1048576) (hpl : ∀ p ∈ ps, p.data.length ≤ 1048576) :
  Ret PP 109 [v] w (fun u w' => LA PairEl lPair (Ub U w w') w' u ps ∧ Fr0 w w') := by
 obtain ⟨a0, c0, rfl⟩ := hp.form
 have hf : Fr (fun _ => False) w w := Fr.refl _ _
 refine ret_of Tryz.func109 rfl rfl rfl [(0, _)] rfl ?_
 refine sreg (sA rfl (send (fbg 0 rfl fun _ => sreg (svK (xslit ([]) sl110 in145 rfl (by decide) rfl rfl rfl rfl (by decide) rfl rfl) ?_))))
 rintro _ w2 ⟨b6, rfl, m3, h6, e6, s6, r6⟩
 have hv3 : RX PairEl lPair U w.heap.size w2.heap.size w2 _ b6 145 0 [] := RX.ofNil r6
 refine sA rfl (send ((wp_seq (sreg (sM rfl (sv (xlen sl222 rfl) (sM rfl (send (feg 3 7 8 9 rfl fun _ => wp_block (lp [(7, _), (8, _)] (fun (x : Nat × Value × Nat) => match x with | (k, v, g) => [(3, v), (9, .int .i64 (k : Int))]) (fun (x : Nat × Value × Nat) wx => match x with | (k, v, g) => Fr (fun k => k = b6) w2 wx ∧ (k ≤ ps.length) ∧ (RX PairEl lPair U w.heap.size wx.heap.size wx v g 145 k (ps.take k)) ∧ (w.heap.size ≤ g) ∧ (g < wx.heap.size) ∧ (g = b6 ∨ w2.heap.size ≤ g)) (fun (x : Nat × Value × Nat) => match x with | (k, v, g) => ps.length - k) (0, _, b6) ⟨rfl, rfl, rfl, rfl, trivial⟩ ⟨Fr.refl _ _, Nat.zero_le _, hv3, by omega, by omega, .inl rfl⟩ ?_))))))))))
 rintro ⟨k, v, g⟩ _ w5 ⟨hL4, hk, hv3, hg, hg2, hg3⟩
 refine feg 3 7 8 9 rfl fun _ => ?_
 have z6 := hL4.size
 obtain ⟨a3, c3, rfl⟩ := RA.form hv3
 have hf := (hf.s m3).t hL4 (by omega)
 refine sreg (svP (xlss rfl rfl) (fun hc10 => ?_) (fun hc10 => ?_))
 rotate_left
 ·
  refine send ((wp_seq (cno rfl (wp_exit (eThen (eThen (eHit (nThen ((sreg (sM rfl (sA rfl (send (fbg 2 rfl fun _ => wp_ret (rp1 rfl rfl ?_)))))))))))))))
  have e : ps.take k = ps := List.take_of_length_le (by omega)
  rw [e] at hv3
  exact ⟨RX.la hv3 (by decide) pair_gr (fun k hk => hk.elim .inl .inr) (.inr ⟨hg, hg2⟩), hf⟩
 refine send ((wp_seq (cyes rfl (wp_skip (nThen (feg 3 7 8 9 rfl fun _ => wp_seq (wp_block ?_)))))))
 obtain ⟨p, hpk⟩ := some_of_lt (by omega : k < ps.length)
 have hpd := hpl _ (List.mem_of_getElem? hpk)
 have hp := (hp.keep pair_st (lU hU (by omega)) m3 nF).keep pair_st (lU hU (by omega)) hL4 (nU hU (by omega))
 refine sreg ?_
 obtain ⟨bE11, oE11, sgE11, rfl, uE11, hsE11, heE11⟩ := LA.get hp hpk
 obtain ⟨vd, rfl, hd⟩ := heE11
 have zE11 := hU _ uE11
 obtain ⟨ad, cd, rfl, -⟩ := id hd
 refine sv (xidx sl222 sz291 rfl rfl rfl (by omega)) (sv (xldS (lens := [1, 1]) ro291 rfl hsE11) (svK (xallS (lens := [1, 1]) in291 rfl) ?_))
 rintro _ w8 ⟨b5, rfl, m9, h5, e7, s7⟩
 refine suK (xstW h5 (lens' := [1, 1]) sz291 rfl rfl rfl rfl rfl) ?_
 rintro w11 ⟨m12, h5, s10⟩
 refine send (ffg 3 5 7 8 9 rfl fun _ => ?_)
 refine ldrawH (Fr (fun k => k = g) w11.drew) [rd0, rd1, rd2, rd4, rd5, ld3, ld6, rd7, ld8, ld9, rd10] mixed (by kernel_rfl) (fun _ _ _ _ _ h => h) ?_
 have z13 : w11.drew.heap.size = w11.heap.size := rfl
 have h5 := h5.drew
 have zb_h5 := h5
 have hS14 : Fr (fun k => k = g) w11.drew w11.drew := Fr.refl _ _
 have hv3 := RX.keep (RX.keep (RX.keep hv3 pair_st (lU hU (by omega)) (by omega) m9 (fun _ _ _ h => h) id) pair_st (lU hU (by omega)) (by omega) m12 (fun k hk hk3 hS => by have hS : k = b5 := hS; rcases hk with hk | hk <;> first | omega | (have := hU k hk; omega)) (nE (by omega))) pair_st (lU hU (by omega)) (by omega) (fd w11) (fun _ _ _ h => h) id
 refine qqM rfl rfl hS14 (hvH rfl (fun _ _ => xfld fl291_0 rfl) hS14 (hvH rfl (fun w' hS => xld on289 rfl ((zb_h5.keep hS (nE (by omega))).r.c 0 rfl rfl)) hS14 (hvH rfl (fun _ _ => xfld fl291_1 rfl) hS14 (hvH rfl (fun w' hS => xld on37 rfl ((zb_h5.keep hS (nE (by omega))).r.c 1 rfl rfl)) hS14 ?_))))
 refine hlKH rfl (xslit (bvs []) sl37 in5 rfl (by decide) rfl rfl rfl rfl (by decide) rfl (bvs_one _)) ?_
 rintro _ w16 ⟨b16, rfl, m17, h16, e16, s16, r16⟩
 have hS18 := hS14.s m17
 have hd := (((hd.keep (lU hU (by omega)) m9 nF).keep (lU hU (by omega)) m12 (nU hU (by omega))).keep (lU hU (by omega)) (fd w11) nF).keep (lU hU (by omega)) m17 nF
 have hv3 := RX.keep hv3 pair_st (lU hU (by omega)) (by omega) m17 (fun _ _ _ h => h) id
 refine ⟨hS18, ?_⟩
 refine hlKH rfl (xapp sl37 in5 rfl (by decide) rfl rfl r16 (hd.src sl37) (by simp only [maxLen]; omega) (by omega)) ?_
 rintro _ w19 ⟨g19, r19, m20, a19, l19⟩
 have z21 := m20.size
 have hS22 := hS18.step m20 (fun k hk hS => by have hS : k = b16 := hS; show k = g; omega)
 obtain ⟨p19, q19, rfl, -⟩ := r19.form
 refine ⟨hS22, ?_⟩
 refine hvH rfl (fun _ _ => xbuildS (pairSegs p (.slice p19 (0 + p.data.length) q19)) zr145 ly145 rfl (by simp [fitAll, zs145, Value.cells]) rfl) hS22 ?_
 refine hlKH rfl (xslit ((pairSegs p (.slice p19 (0 + p.data.length) q19)).flatten) sl110 in145 rfl (by decide) rfl rfl rfl rfl (by decide) rfl rfl) ?_
 rintro _ w24 ⟨b21, rfl, m25, h21, e21, s21, r21⟩
 have hS26 := hS22.s m25
 have hv3 := RX.keep (RX.keep hv3 pair_st (lU hU (by omega)) (by omega) m20 (fun k hk hk3 hS => by have hS : k = b16 := hS; rcases hk with hk | hk <;> first | omega | (have := hU k hk; omega)) (nE (by omega))) pair_st (lU hU (by omega)) (by omega) m25 (fun _ _ _ h => h) id
 refine ⟨hS26, ?_⟩
 obtain ⟨ss22, hR22, hA22⟩ := hv3
 refine hlKH rfl (xapp sl110 in145 rfl (by decide) rfl rfl hR22 (r21.src sl110) (by simp only [maxLen]; omega) (by omega)) ?_
 rintro v22 w27 ⟨g22, r22, m28, a22, l22⟩
 have z29 := m28.size
 have hS30 := hS26.step m28 nI
 have r19 := (r19.k m25).keep m28 (nE (by omega))
 have hv3 := RX.snoc (x := p) w27.heap.size hA22 pair_st pair_gr (lU hU (by omega)) (by omega) (by omega) m28 a22 r22 rfl (⟨_, rfl, BR.ba (show BR _ _ _ _ p.data from r19) ⟨.inr ⟨by omega, by omega⟩, by omega⟩⟩)
 have hL4 := ((((((hL4.s m9).step m12 (fun k hk hS => by have hS : k = b5 := hS; show k = b6; omega)).drew).s m17).step m20 (fun k hk hS => by have hS : k = b16 := hS; show k = b6; omega)).s m25).step m28 (fun k hk hS => by have hS : k = g := hS; show k = b6; omega)
 refine ⟨hS30, ?_⟩
 refine qqA rfl rfl hS30 (lhendH (nBlock (nThen (feg 3 7 8 9 rfl fun _ => lreg (sv (xadd rfl rfl (w64 (by omega) (by omega))) (sM rfl (lend (nThen ?_))))))))
 refine ⟨(k + 1, _, g22), _, env_okl ⟨rfl, rfl, rfl, rfl, trivial⟩, ⟨hL4, (by omega), (by rw [take_snoc hpk]; exact RX.up pair_gr hv3 (by omega)), (by omega), (l22 (by omega)), (by omega)⟩, ?_⟩
 show ps.length - (k + 1) < ps.length - k; omega
theorem c64 {w : World} {U : Nat → Prop} (hU : ∀ k, U k → k < w.heap.size) {r : RecD} {l : UInt16} {vb : Value} (hb : BodyEl U w vb r) (hno : NamesOk r) (hpn : r.pairs.length ≤ 1048576) (htn : r.texts.length ≤ 1048576) (hdn : r.data.length ≤ 1048576) (hpd : ∀ q ∈ r.pairs, q.data.length ≤ 65535) :
  Ret PP 64 [ag (rhSegs (bt r.name) (typeN r) r.cls r.ttl l.toNat ++ [[vb]])] w (fun u w' => ∃ vd vt vp, u = ag (recSegs (normR r l) vd vt vp) ∧ BA (Ub U w w') w' vd (normR r l).data ∧ LA TextEl [1] (Ub U w w') w' vt (normR r l).texts ∧ LA PairEl lPair (Ub U w w') w' vp (normR r l).pairs ∧ Fr0 w w') := by
 obtain ⟨bB, TB, lB, sB, rfl, hub, hsr, hbs⟩ := hb
 have hzB := hU bB hub
 have hf : Fr (fun _ => False) w w := Fr.refl _ _
 refine ret_of Tryz.func64 rfl rfl rfl [(0, _)] rfl ?_
 refine sreg (svK (xboxS (lens := [256, 1, 1, 1, 1, 1]) rfl (by simp [rhSegs, nm_length])) ?_)
 rintro _ w2 ⟨b1, rfl, m3, h1, e1, s1⟩
 refine svK (xallS (lens := lRec) in112 rfl) ?_
 rintro _ w5 ⟨b2, rfl, m6, h2, e4, s4⟩
 have h1 := h1.k m6
 refine send (fcg 1 2 rfl fun _ => sreg (sv (xfld fl139_0 rfl) (sv (xldS (lens := [256, 1, 1, 1, 1]) ro135 rfl (h1.r.sub 0 5 rfl)) (svK (xallS (lens := [256, 1, 1, 1, 1]) in135 (by simp [nm_length])) ?_))))
 rintro _ w8 ⟨b3, rfl, m9, h3, e7, s7⟩
 refine suK (xstW h3 (lens' := [256, 1, 1, 1, 1]) sz135 (by simp [nm_length]) rfl (one5 _ _ _ _ _) rfl rfl) ?_
 rintro w11 ⟨m12, h3, s10⟩
 have hsr := (((hsr.keep m3 (by omega) id).keep m6 (by omega) id).keep m9 (by omega) id).keep m12 (by omega) (nE (by omega))
 have hbs := (((hbs.keep (lU hU (by omega)) m3 nF).keep (lU hU (by omega)) m6 nF).keep (lU hU (by omega)) m9 nF).keep (lU hU (by omega)) m12 (nU hU (by omega))
 have hf := (((hf.s m3).s m6).s m9).t m12 (by omega)
 have h1 := (h1.k m9).keep m12 (nE (by omega))
 have h2 := (h2.k m9).keep m12 (nE (by omega))
 refine send (fdg 1 2 3 rfl fun _ => ?_)
 refine sdrawI [(1, _), (2, _)] ⟨rfl, rfl, trivial⟩ (fun (x : Nat) => match x with | b4 => [(4, .pointer (some ⟨b4, 0, none⟩))]) (fun (x : Nat) wx => match x with | b4 => Fr (fun _ => False) w11 wx ∧ (SB wx b4 lRec ([[.string r.name], [.int .u16 ((typeN r).toNat : Int)], [.int .u16 (r.cls.toNat : Int)], [.int .u32 (r.ttl.toNat : Int)], [.int .u16 (l.toNat : Int)], [.int .i64 0], [.slice none 0 0], [.string emptyB], [.string emptyB], [.int .u32 0], [.int .u32 0], [.int .u32 0], [.int .u32 0], [.int .u32 0], [.slice none 0 0], [.slice none 0 0]])) ∧ (w11.heap.size ≤ b4) ∧ (b4 < wx.heap.size)) (Fr (fun _ => False) w11.drew) (.rd 0 (.rd 1 (.rd 3 (.rd 4 (.rd 5 (.rd 6 (.rd 7 (.rd 8 (.rd 9 (.rd 10 (.two 2 (.lst [rd11, ld12, bh13]) 12 (.lst [ld2, rd11, bh13])))))))))))) mixed (by kernel_rfl) ?_ ?_
 ·
  have hC : Fr (fun _ => False) w11 w11 := Fr.refl _ _
  have z13 : w11.drew.heap.size = w11.heap.size := rfl
  have hS14 : Fr (fun _ => False) w11.drew w11.drew := Fr.refl _ _
  have h3 := h3.drew
  have hsr := hsr.keep (fd w11) (by omega) id
  have hbs := hbs.keep (lU hU (by omega)) (fd w11) nF
  have hf := hf.drew
  have h1 := h1.drew
  have h2 := h2.drew
  have hC := hC.drew
  refine hvT rfl (fun _ _ => xfld fl135_0 rfl) hS14 ?_
  refine hvT rfl (fun w' hS => xldS (lens := [256]) ro82 rfl ((h3.k hS).r.sub 0 1 rfl)) hS14 ?_
  refine hvT rfl (fun _ _ => xfld fl135_1 rfl) hS14 ?_
  refine hvT rfl (fun w' hS => xld on83 rfl ((h3.k hS).r.c 1 rfl rfl)) hS14 ?_
  refine hvT rfl (fun _ _ => xfld fl135_2 rfl) hS14 ?_
  refine hvT rfl (fun w' hS => xld on84 rfl ((h3.k hS).r.c 2 rfl rfl)) hS14 ?_
  refine hvT rfl (fun _ _ => xfld fl135_3 rfl) hS14 ?_
  refine hvT rfl (fun w' hS => xld on61 rfl ((h3.k hS).r.c 3 rfl rfl)) hS14 ?_
  refine hvT rfl (fun _ _ => xfld fl135_4 rfl) hS14 ?_
  refine hvT rfl (fun w' hS => xld on22 rfl ((h3.k hS).r.c 4 rfl rfl)) hS14 ?_
  refine twoT ?_ ?_
  ·
   refine hcT rfl (xcall ca100 rfl) (c100 (S := bt r.name) (by have := (name_pos hno.1).2; omega)) ?_
   rintro _ w15 ⟨rfl, m16⟩
   have z17 := m16.size
   have hS18 := hS14.s m16
   refine ⟨hS18, ?_⟩
   refine lstT (hv rfl (fun _ _ => xbuildS [[.string r.name], [.int .u16 ((typeN r).toNat : Int)], [.int .u16 (r.cls.toNat : Int)], [.int .u32 (r.ttl.toNat : Int)], [.int .u16 (l.toNat : Int)], [.int .i64 0], [.slice none 0 0], [.string emptyB], [.string emptyB], [.int .u32 0], [.int .u32 0], [.int .u32 0], [.int .u32 0], [.int .u32 0], [.slice none 0 0], [.slice none 0 0]] zr112 ly112 rfl (by simp [fitAll, zs112, Value.cells]) rfl) hS18 (hlK rfl (xallS (lens := lRec) in112 (by simp [])) ?_))
   rintro _ w20 ⟨b4, rfl, m21, h4, e19, s19⟩
   have hS22 := hS18.s m21
   refine ⟨hS22, ?_⟩
   refine bluK rfl (xstW h4 (lens' := lRec) sz112 rfl rfl rfl rfl rfl) ?_
   rintro w24 ⟨m25, h4, s23⟩
   have hC := ((hC.s m16).s m21).t m25 (by omega)
   exact ⟨rfl, b4, _, env_okl ⟨rfl, rfl, rfl, trivial⟩, ⟨hC, (h4), (by omega), (by omega)⟩⟩
  refine hlKT rfl (xallS (lens := lRec) in112 (by simp [])) ?_
  rintro _ w27 ⟨b4, rfl, m28, h4, e26, s26⟩
  have hS29 := hS14.s m28
  refine ⟨hS29, ?_⟩
  refine lstT (hc rfl (xcall ca100 rfl) (c100 (S := bt r.name) (by have := (name_pos hno.1).2; omega)) ?_)
  rintro _ w30 ⟨rfl, m31⟩
  have z32 := m31.size
  have hS33 := hS29.s m31
  have h4 := h4.k m31
  refine ⟨hS33, ?_⟩
  refine hv rfl (fun _ _ => xbuildS [[.string r.name], [.int .u16 ((typeN r).toNat : Int)], [.int .u16 (r.cls.toNat : Int)], [.int .u32 (r.ttl.toNat : Int)], [.int .u16 (l.toNat : Int)], [.int .i64 0], [.slice none 0 0], [.string emptyB], [.string emptyB], [.int .u32 0], [.int .u32 0], [.int .u32 0], [.int .u32 0], [.int .u32 0], [.slice none 0 0], [.slice none 0 0]] zr112 ly112 rfl (by simp [fitAll, zs112, Value.cells]) rfl) hS33 (bluK rfl (xstW h4 (lens' := lRec) sz112 rfl rfl rfl rfl rfl) ?_)
  rintro w35 ⟨m36, h4, s34⟩
  have hC := ((hC.s m28).s m31).t m36 (by omega)
  exact ⟨rfl, b4, _, env_okl ⟨rfl, rfl, rfl, trivial⟩, ⟨hC, (h4), (by omega), (by omega)⟩⟩
 rintro b4 _ w37 ⟨hC, h4, hb4, hb5⟩
 have z38 := hC.size
 have h1 := h1.k hC
 have hbs := hbs.keep (lU hU (by omega)) hC nF
 refine fdg 1 2 4 rfl fun _ => wp_seq (sreg (sv (xfld fl139_1 rfl) (sv (xld on137 rfl (h1.r.c 5 rfl rfl)) ?_)))
 have hsr := hsr.keep hC (by omega) id
 have hf := hf.s hC
 have h2 := h2.k hC
 rcases hbs with hk | hk | hk | hk | hk | hk | ⟨hk, ht⟩ | hk | hk | ⟨hk, hp⟩ | ⟨hk, hp⟩ | ⟨hk, hp⟩ | ⟨hk, hd⟩
 ·
  refine send ((wp_block (sreg (sv (xtaY ni186 rfl) (sv (xex21 rfl) (sv (xex20 rfl) (send ((cyes rfl (sreg (sA rfl (send (fdg 2 4 5 rfl fun _ => lreg (svK (xslit (bvs []) sl37 in5 rfl (by decide) rfl rfl rfl rfl (by decide) rfl (bvs_one _)) ?_))))))))))))))
  rintro _ w40 ⟨b39, rfl, m41, h39, e39, s39, r39⟩
  have hsr := hsr.keep m41 (by omega) id
  refine sM rfl (sN rfl (sv (xfld fl189_0 rfl) (sv (xcutA ar187 sz5 rfl) (svK (xapp sl37 in5 rfl (by decide) rfl rfl r39 (src_cut (hsr.seg (i := 0) (k := 0) rfl rfl) (fixedL_length _ _)) (by simp only [maxLen]; omega) (by omega)) ?_))))
  rintro _ w42 ⟨g44, r44, m43, a44, l44⟩
  have z44 := m43.size
  obtain ⟨p44, q44, rfl, -⟩ := r44.form
  have h4 := (h4.k m41).keep m43 (nE (by omega))
  refine sv (xfld fl112_5 rfl) (suK (xstF 5 sz3 h4 rfl rfl rfl rfl rfl) ?_)
  rintro w46 ⟨m47, h4, s45⟩
  refine sv (xfld fl112_6 rfl) (suK (xstF 6 sz37 h4 rfl rfl rfl rfl rfl) ?_)
  rintro w49 ⟨m50, h4, s48⟩
  have h2 := (((h2.k m41).keep m43 (nE (by omega))).keep m47 (nE (by omega))).keep m50 (nE (by omega))
  refine lend (nBlock (nThen (fcg 2 4 rfl fun _ => sreg (sv (xldS (lens := lRec) ro112 rfl h4.r) (suK (xstW h2 (lens' := lRec) sz112 rfl rfl rfl rfl rfl) ?_)))))
  rintro w52 ⟨m53, h2, s51⟩
  refine send (fbg 2 rfl fun _ => wp_ret (rp1 rfl ⟨_, rfl, ldS (lens := lRec) ro112 h2.r⟩ ?_))
  rw [norm_a hk]
  have hf := ((((hf.s m41).t m43 (by omega)).t m47 (by omega)).t m50 (by omega)).t m53 (by omega)
  have r44 := ((r44.keep m47 (nE (by omega))).keep m50 (nE (by omega))).keep m53 (nE (by omega))
  exact ⟨_, _, _, ag_rec (r' := { rec0 r l with data := fixedL r.data 4 }) (k := 1) hk rfl, (BR.ba (show BR _ _ _ _ (fixedL r.data 4) from r44) (.inr ⟨by omega, by omega⟩)), LA.nil, LA.nil, hf⟩
 ·
  refine send ((wp_block (sreg (sv (xtaN ni186 in186 rfl rfl) (sv (xex21 rfl) (sv (xex20 rfl) (send ((cno rfl (sreg (sv (xtaY ni190 rfl) (sv (xex21 rfl) (sv (xex20 rfl) (send ((cyes rfl (sreg (sA rfl (send (fdg 2 4 6 rfl fun _ => lreg (sM rfl (sN rfl (sv (xfld fl192_0 rfl) (sv (xldS (lens := [256]) ro82 rfl hsr) (sc (xcall ca100 rfl) (c100 (S := bt r.host) (by have := (name_pos (hno.2.1 (by omega))).2; omega)) ?_)))))))))))))))))))))))))
  rintro _ w54 ⟨rfl, m55⟩
  have z56 := m55.size
  have h4 := h4.k m55
  refine sv (xfld fl112_5 rfl) (suK (xstF 5 sz3 h4 rfl rfl rfl rfl rfl) ?_)
  rintro w58 ⟨m59, h4, s57⟩
  refine sv (xfld fl112_7 rfl) (suK (xstF 7 sz9 h4 rfl rfl rfl rfl rfl) ?_)
  rintro w61 ⟨m62, h4, s60⟩
  have h2 := ((h2.k m55).keep m59 (nE (by omega))).keep m62 (nE (by omega))
  refine lend (nBlock (nThen (fcg 2 4 rfl fun _ => sreg (sv (xldS (lens := lRec) ro112 rfl h4.r) (suK (xstW h2 (lens' := lRec) sz112 rfl rfl rfl rfl rfl) ?_)))))
  rintro w65 ⟨m66, h2, s63⟩
  refine send (fbg 2 rfl fun _ => wp_ret (rp1 rfl ⟨_, rfl, ldS (lens := lRec) ro112 h2.r⟩ ?_))
  rw [norm_ns (by omega)]
  have hf := (((hf.s m55).t m59 (by omega)).t m62 (by omega)).t m66 (by omega)
  exact ⟨_, _, _, ag_rec (r' := { rec0 r l with host := r.host }) (k := 2) hk rfl, ba0, LA.nil, LA.nil, hf⟩
 ·
  refine send ((wp_block (sreg (sv (xtaN ni186 in186 rfl rfl) (sv (xex21 rfl) (sv (xex20 rfl) (send ((cno rfl (sreg (sv (xtaN ni190 in190 rfl rfl) (sv (xex21 rfl) (sv (xex20 rfl) (send ((cno rfl (sreg (sv (xtaY ni193 rfl) (sv (xex21 rfl) (sv (xex20 rfl) (send (ffg 2 4 35 58 59 rfl fun _ => cyes rfl (sreg (sA rfl (send (fdg 2 4 7 rfl fun _ => lreg (sM rfl (sN rfl (sv (xfld fl195_0 rfl) (sv (xldS (lens := [256]) ro82 rfl hsr) (sc (xcall ca100 rfl) (c100 (S := bt r.host) (by have := (name_pos (hno.2.1 (by omega))).2; omega)) ?_)))))))))))))))))))))))))))))))
  rintro _ w67 ⟨rfl, m68⟩
  have z69 := m68.size
  have h4 := h4.k m68
  refine sv (xfld fl112_5 rfl) (suK (xstF 5 sz3 h4 rfl rfl rfl rfl rfl) ?_)
  rintro w71 ⟨m72, h4, s70⟩
  refine sv (xfld fl112_7 rfl) (suK (xstF 7 sz9 h4 rfl rfl rfl rfl rfl) ?_)
  rintro w74 ⟨m75, h4, s73⟩
  have h2 := ((h2.k m68).keep m72 (nE (by omega))).keep m75 (nE (by omega))
  refine lend (nBlock (nThen (fcg 2 4 rfl fun _ => sreg (sv (xldS (lens := lRec) ro112 rfl h4.r) (suK (xstW h2 (lens' := lRec) sz112 rfl rfl rfl rfl rfl) ?_)))))
  rintro w77 ⟨m78, h2, s76⟩
  refine send (fbg 2 rfl fun _ => wp_ret (rp1 rfl ⟨_, rfl, ldS (lens := lRec) ro112 h2.r⟩ ?_))
  rw [norm_ns (by omega)]
  have hf := (((hf.s m68).t m72 (by omega)).t m75 (by omega)).t m78 (by omega)
  exact ⟨_, _, _, ag_rec (r' := { rec0 r l with host := r.host }) (k := 3) hk rfl, ba0, LA.nil, LA.nil, hf⟩
 ·
  refine send ((wp_block (sreg (sv (xtaN ni186 in186 rfl rfl) (sv (xex21 rfl) (sv (xex20 rfl) (send ((cno rfl (sreg (sv (xtaN ni190 in190 rfl rfl) (sv (xex21 rfl) (sv (xex20 rfl) (send ((cno rfl (sreg (sv (xtaN ni193 in193 rfl rfl) (sv (xex21 rfl) (sv (xex20 rfl) (send (ffg 2 4 35 58 59 rfl fun _ => cno rfl (sreg (sv (xtaY ni196 rfl) (sv (xex21 rfl) (sv (xex20 rfl) (send ((cyes rfl (sreg (sA rfl (send (fdg 2 4 8 rfl fun _ => ?_)))))))))))))))))))))))))))))))))
  refine sdrawH (Fr (fun k => k = b4) w37.drew) [rd0, rd1, rd2, rd3, rd5, rd6, rd7, rd8, rd10, ld4, ld9, ld11, rd12, ld13, rd14, bh15] mixed (by kernel_rfl) (fun _ _ _ _ _ h => h) ?_
  have z79 : w37.drew.heap.size = w37.heap.size := rfl
  have hsr := hsr.keep (fd w37) (by omega) id
  have zb_hsr := hsr
  have hS80 : Fr (fun k => k = b4) w37.drew w37.drew := Fr.refl _ _
  refine qqM rfl rfl hS80 (qqN rfl rfl hS80 (hvH rfl (fun _ _ => xfld fl198_0 rfl) hS80 (hvH rfl (fun w' hS => xldS (lens := [256]) ro82 rfl ((zb_hsr.keep hS (by omega) (nE (by omega))).sub 0 1 rfl)) hS80 (qqM rfl rfl hS80 (qqN rfl rfl hS80 (hvH rfl (fun _ _ => xfld fl198_1 rfl) hS80 (hvH rfl (fun w' hS => xldS (lens := [256]) ro82 rfl ((zb_hsr.keep hS (by omega) (nE (by omega))).sub 1 1 rfl)) hS80 (hvH rfl (fun _ _ => xfld fl112_5 rfl) hS80 ?_))))))))
  refine hcH rfl (xcall ca100 rfl) (c100 (S := bt r.host) (by have := (name_pos (hno.2.1 (by omega))).2; omega)) ?_
  rintro _ w81 ⟨rfl, m82⟩
  have z83 := m82.size
  have hS84 := hS80.s m82
  refine ⟨hS84, ?_⟩
  refine hcH rfl (xcall ca100 rfl) (c100 (S := bt r.box) (by have := (name_pos (hno.2.2 hk)).2; omega)) ?_
  rintro _ w85 ⟨rfl, m86⟩
  have z87 := m86.size
  have hS88 := hS84.s m86
  have h4 := ((h4.drew).k m82).k m86
  refine ⟨hS88, ?_⟩
  refine hluKH rfl (xstF 5 sz3 h4 rfl rfl rfl rfl rfl) ?_
  rintro w90 ⟨m91, h4, s89⟩
  have hS92 := hS88.step m91 nI
  refine ⟨hS92, ?_⟩
  refine hvH rfl (fun _ _ => xfld fl112_7 rfl) hS92 ?_
  refine hluKH rfl (xstF 7 sz9 h4 rfl rfl rfl rfl rfl) ?_
  rintro w94 ⟨m95, h4, s93⟩
  have hS96 := hS92.step m95 nI
  refine ⟨hS96, ?_⟩
  refine hvH rfl (fun _ _ => xfld fl112_8 rfl) hS96 ?_
  refine bluKH rfl (xstF 8 sz9 h4 rfl rfl rfl rfl rfl) ?_
  rintro w98 ⟨m99, h4, s97⟩
  refine hendH (fdg 2 4 8 rfl fun _ => ?_)
  refine ldrawH (Fr (fun k => k = b4) w98.drew) [rd0, rd1, rd2, rd3, rd4, rd5, rd6, rd7, rd8, rd9, rd10, rd11, rd12, rd13, rd14, rd15, rd16, rd17, rd18, rd19, rd20, (21, .ld), rd22, (23, .ld), rd24, (25, .ld), rd26, (27, .ld), rd28, (29, .bh)] mixed (by kernel_rfl) (fun _ _ _ _ _ h => h) ?_
  have z100 : w98.drew.heap.size = w98.heap.size := rfl
  have hsr := (((((hsr.keep m82 (by omega) id).keep m86 (by omega) id).keep m91 (by omega) (nE (by omega))).keep m95 (by omega) (nE (by omega))).keep m99 (by omega) (nE (by omega))).keep (fd w98) (by omega) id
  have zb_hsr := hsr
  have hS101 : Fr (fun k => k = b4) w98.drew w98.drew := Fr.refl _ _
  have h4 := h4.drew
  refine qqM rfl rfl hS101 (qqN rfl rfl hS101 (hvH rfl (fun _ _ => xfld fl198_2 rfl) hS101 (hvH rfl (fun w' hS => xld on61 rfl ((zb_hsr.keep hS (by omega) (nE (by omega))).c 2 rfl rfl)) hS101 (qqM rfl rfl hS101 (qqN rfl rfl hS101 (hvH rfl (fun _ _ => xfld fl198_3 rfl) hS101 (hvH rfl (fun w' hS => xld on61 rfl ((zb_hsr.keep hS (by omega) (nE (by omega))).c 3 rfl rfl)) hS101 (qqM rfl rfl hS101 (qqN rfl rfl hS101 (hvH rfl (fun _ _ => xfld fl198_4 rfl) hS101 (hvH rfl (fun w' hS => xld on61 rfl ((zb_hsr.keep hS (by omega) (nE (by omega))).c 4 rfl rfl)) hS101 (qqM rfl rfl hS101 (qqN rfl rfl hS101 (hvH rfl (fun _ _ => xfld fl198_5 rfl) hS101 (hvH rfl (fun w' hS => xld on61 rfl ((zb_hsr.keep hS (by omega) (nE (by omega))).c 5 rfl rfl)) hS101 (qqM rfl rfl hS101 (qqN rfl rfl hS101 (hvH rfl (fun _ _ => xfld fl198_6 rfl) hS101 (hvH rfl (fun w' hS => xld on61 rfl ((zb_hsr.keep hS (by omega) (nE (by omega))).c 6 rfl rfl)) hS101 (hvH rfl (fun _ _ => xfld fl112_9 rfl) hS101 ?_))))))))))))))))))))
  refine hluKH rfl (xstF 9 sz61 h4 rfl rfl rfl rfl rfl) ?_
  rintro w103 ⟨m104, h4, s102⟩
  have hS105 := hS101.step m104 nI
  refine ⟨hS105, ?_⟩
  refine hvH rfl (fun _ _ => xfld fl112_10 rfl) hS105 ?_
  refine hluKH rfl (xstF 10 sz61 h4 rfl rfl rfl rfl rfl) ?_
  rintro w107 ⟨m108, h4, s106⟩
  have hS109 := hS105.step m108 nI
  refine ⟨hS109, ?_⟩
  refine hvH rfl (fun _ _ => xfld fl112_11 rfl) hS109 ?_
  refine hluKH rfl (xstF 11 sz61 h4 rfl rfl rfl rfl rfl) ?_
  rintro w111 ⟨m112, h4, s110⟩
  have hS113 := hS109.step m112 nI
  refine ⟨hS113, ?_⟩
  refine hvH rfl (fun _ _ => xfld fl112_12 rfl) hS113 ?_
  refine hluKH rfl (xstF 12 sz61 h4 rfl rfl rfl rfl rfl) ?_
  rintro w115 ⟨m116, h4, s114⟩
  have hS117 := hS113.step m116 nI
  refine ⟨hS117, ?_⟩
  refine hvH rfl (fun _ _ => xfld fl112_13 rfl) hS117 ?_
  refine bluKH rfl (xstF 13 sz61 h4 rfl rfl rfl rfl rfl) ?_
  rintro w119 ⟨m120, h4, s118⟩
  have h2 := (((((((((((h2.drew).k m82).k m86).keep m91 (nE (by omega))).keep m95 (nE (by omega))).keep m99 (nE (by omega))).drew).keep m104 (nE (by omega))).keep m108 (nE (by omega))).keep m112 (nE (by omega))).keep m116 (nE (by omega))).keep m120 (nE (by omega))
  refine lhendH (nBlock (nThen (fcg 2 4 rfl fun _ => sreg (sv (xldS (lens := lRec) ro112 rfl h4.r) (suK (xstW h2 (lens' := lRec) sz112 rfl rfl rfl rfl rfl) ?_)))))
  rintro w122 ⟨m123, h2, s121⟩
  refine send (fbg 2 rfl fun _ => wp_ret (rp1 rfl ⟨_, rfl, ldS (lens := lRec) ro112 h2.r⟩ ?_))
  rw [norm_soa hk]
  have hf := ((((((((((((hf.drew).s m82).s m86).t m91 (by omega)).t m95 (by omega)).t m99 (by omega)).drew).t m104 (by omega)).t m108 (by omega)).t m112 (by omega)).t m116 (by omega)).t m120 (by omega)).t m123 (by omega)
  exact ⟨_, _, _, ag_rec (r' := { rec0 r l with host := r.host, box := r.box, n1 := r.n1, n2 := r.n2, n3 := r.n3, n4 := r.n4, n5 := r.n5 }) (k := 4) hk rfl, ba0, LA.nil, LA.nil, hf⟩
 ·
  refine send ((wp_block (sreg (sv (xtaN ni186 in186 rfl rfl) (sv (xex21 rfl) (sv (xex20 rfl) (send ((cno rfl (sreg (sv (xtaN ni190 in190 rfl rfl) (sv (xex21 rfl) (sv (xex20 rfl) (send ((cno rfl (sreg (sv (xtaN ni193 in193 rfl rfl) (sv (xex21 rfl) (sv (xex20 rfl) (send (ffg 2 4 35 58 59 rfl fun _ => cno rfl (sreg (sv (xtaN ni196 in196 rfl rfl) (sv (xex21 rfl) (sv (xex20 rfl) (send ((cno rfl (sreg (sv (xtaY ni199 rfl) (sv (xex21 rfl) (sv (xex20 rfl) (send ((cyes rfl (sreg (sA rfl (send (fdg 2 4 9 rfl fun _ => lreg (sM rfl (sN rfl (sv (xfld fl201_0 rfl) (sv (xldS (lens := [256]) ro82 rfl hsr) (sc (xcall ca100 rfl) (c100 (S := bt r.host) (by have := (name_pos (hno.2.1 (by omega))).2; omega)) ?_)))))))))))))))))))))))))))))))))))))))))))))
  rintro _ w124 ⟨rfl, m125⟩
  have z126 := m125.size
  have h4 := h4.k m125
  refine sv (xfld fl112_5 rfl) (suK (xstF 5 sz3 h4 rfl rfl rfl rfl rfl) ?_)
  rintro w128 ⟨m129, h4, s127⟩
  refine sv (xfld fl112_7 rfl) (suK (xstF 7 sz9 h4 rfl rfl rfl rfl rfl) ?_)
  rintro w131 ⟨m132, h4, s130⟩
  have h2 := ((h2.k m125).keep m129 (nE (by omega))).keep m132 (nE (by omega))
  refine lend (nBlock (nThen (fcg 2 4 rfl fun _ => sreg (sv (xldS (lens := lRec) ro112 rfl h4.r) (suK (xstW h2 (lens' := lRec) sz112 rfl rfl rfl rfl rfl) ?_)))))
  rintro w134 ⟨m135, h2, s133⟩
  refine send (fbg 2 rfl fun _ => wp_ret (rp1 rfl ⟨_, rfl, ldS (lens := lRec) ro112 h2.r⟩ ?_))
  rw [norm_ns (by omega)]
  have hf := (((hf.s m125).t m129 (by omega)).t m132 (by omega)).t m135 (by omega)
  exact ⟨_, _, _, ag_rec (r' := { rec0 r l with host := r.host }) (k := 5) hk rfl, ba0, LA.nil, LA.nil, hf⟩
 ·
  refine send ((wp_block (sreg (sv (xtaN ni186 in186 rfl rfl) (sv (xex21 rfl) (sv (xex20 rfl) (send ((cno rfl (sreg (sv (xtaN ni190 in190 rfl rfl) (sv (xex21 rfl) (sv (xex20 rfl) (send ((cno rfl (sreg (sv (xtaN ni193 in193 rfl rfl) (sv (xex21 rfl) (sv (xex20 rfl) (send (ffg 2 4 35 58 59 rfl fun _ => cno rfl (sreg (sv (xtaN ni196 in196 rfl rfl) (sv (xex21 rfl) (sv (xex20 rfl) (send ((cno rfl (sreg (sv (xtaN ni199 in199 rfl rfl) (sv (xex21 rfl) (sv (xex20 rfl) (send ((cno rfl (sreg (sv (xtaY ni202 rfl) (sv (xex21 rfl) (sv (xex20 rfl) (send ((cyes rfl (sreg (sA rfl (send (fdg 2 4 10 rfl fun _ => ?_)))))))))))))))))))))))))))))))))))))))))))))))
  refine ldrawH (Fr (fun k => k = b4) w37.drew) [rd0, rd1, rd2, rd3, rd4, rd5, rd6, rd7, rd8, rd10, ld9, ld11, rd12, ld13, rd14, bh15] mixed (by kernel_rfl) (fun _ _ _ _ _ h => h) ?_
  have z136 : w37.drew.heap.size = w37.heap.size := rfl
  have hsr := hsr.keep (fd w37) (by omega) id
  have zb_hsr := hsr
  have hS137 : Fr (fun k => k = b4) w37.drew w37.drew := Fr.refl _ _
  refine qqM rfl rfl hS137 (qqN rfl rfl hS137 (hvH rfl (fun _ _ => xfld fl204_0 rfl) hS137 (hvH rfl (fun w' hS => xld on22 rfl ((zb_hsr.keep hS (by omega) (nE (by omega))).c 0 rfl rfl)) hS137 (hvH rfl (fun _ _ => xconv hs22 ki61 rfl (wu32n (m16 r.n1).toNat (by rw [m16_nat]; omega))) hS137 (qqM rfl rfl hS137 (qqN rfl rfl hS137 (hvH rfl (fun _ _ => xfld fl204_1 rfl) hS137 (hvH rfl (fun w' hS => xldS (lens := [256]) ro82 rfl ((zb_hsr.keep hS (by omega) (nE (by omega))).sub 1 1 rfl)) hS137 (hvH rfl (fun _ _ => xfld fl112_5 rfl) hS137 ?_)))))))))
  refine hcH rfl (xcall ca100 rfl) (c100 (S := bt r.host) (by have := (name_pos (hno.2.1 (by omega))).2; omega)) ?_
  rintro _ w138 ⟨rfl, m139⟩
  have z140 := m139.size
  have hS141 := hS137.s m139
  have h4 := (h4.drew).k m139
  refine ⟨hS141, ?_⟩
  refine hluKH rfl (xstF 5 sz3 h4 rfl rfl rfl rfl rfl) ?_
  rintro w143 ⟨m144, h4, s142⟩
  have hS145 := hS141.step m144 nI
  refine ⟨hS145, ?_⟩
  refine hvH rfl (fun _ _ => xfld fl112_9 rfl) hS145 ?_
  refine hluKH rfl (xstF 9 sz61 h4 rfl rfl rfl rfl rfl) ?_
  rintro w147 ⟨m148, h4, s146⟩
  have hS149 := hS145.step m148 nI
  refine ⟨hS149, ?_⟩
  refine hvH rfl (fun _ _ => xfld fl112_7 rfl) hS149 ?_
  refine bluKH rfl (xstF 7 sz9 h4 rfl rfl rfl rfl rfl) ?_
  rintro w151 ⟨m152, h4, s150⟩
  have h2 := ((((h2.drew).k m139).keep m144 (nE (by omega))).keep m148 (nE (by omega))).keep m152 (nE (by omega))
  refine lhendH (nBlock (nThen (fcg 2 4 rfl fun _ => sreg (sv (xldS (lens := lRec) ro112 rfl h4.r) (suK (xstW h2 (lens' := lRec) sz112 rfl rfl rfl rfl rfl) ?_)))))
  rintro w154 ⟨m155, h2, s153⟩
  refine send (fbg 2 rfl fun _ => wp_ret (rp1 rfl ⟨_, rfl, ldS (lens := lRec) ro112 h2.r⟩ ?_))
  rw [norm_mx hk]
  have hf := (((((hf.drew).s m139).t m144 (by omega)).t m148 (by omega)).t m152 (by omega)).t m155 (by omega)
  exact ⟨_, _, _, ag_rec (r' := { rec0 r l with n1 := m16 r.n1, host := r.host }) (k := 6) hk rfl, ba0, LA.nil, LA.nil, hf⟩
 ·
  obtain ⟨aq, cq, rfl⟩ := ht.form
  refine send ((wp_block (sreg (sv (xtaN ni186 in186 rfl rfl) (sv (xex21 rfl) (sv (xex20 rfl) (send ((cno rfl (sreg (sv (xtaN ni190 in190 rfl rfl) (sv (xex21 rfl) (sv (xex20 rfl) (send ((cno rfl (sreg (sv (xtaN ni193 in193 rfl rfl) (sv (xex21 rfl) (sv (xex20 rfl) (send (ffg 2 4 35 58 59 rfl fun _ => cno rfl (sreg (sv (xtaN ni196 in196 rfl rfl) (sv (xex21 rfl) (sv (xex20 rfl) (send ((cno rfl (sreg (sv (xtaN ni199 in199 rfl rfl) (sv (xex21 rfl) (sv (xex20 rfl) (send ((cno rfl (sreg (sv (xtaN ni202 in202 rfl rfl) (sv (xex21 rfl) (sv (xex20 rfl) (send ((cno rfl (sreg (sv (xtaY ni205 rfl) (sv (xex21 rfl) (sv (xex20 rfl) (send (ffg 2 4 35 135 136 rfl fun _ => cyes rfl (sreg (sA rfl (send (fdg 2 4 11 rfl fun _ => lreg ?_)))))))))))))))))))))))))))))))))))))))))))))))))))))
  refine svK (xslit ([]) sl62 in9 rfl (by decide) rfl rfl rfl rfl (by decide) rfl rfl) ?_
  rintro _ w157 ⟨b137, rfl, m158, h137, e137, s137, r137⟩
  have hsr := hsr.keep m158 (by omega) id
  have ht := ht.keep text_st (lU hU (by omega)) m158 nF
  refine sM rfl (sN rfl (sv (xfld fl207_0 rfl) (sv (xld on62 rfl (hsr.c 0 rfl rfl)) (svK (xapp sl62 in9 rfl (by decide) rfl rfl r137 (LA.strs ht sl62) (by simp only [maxLen]; omega) (by omega)) ?_))))
  rintro _ w159 ⟨g142, r142, m160, a142, l142⟩
  have z161 := m160.size
  obtain ⟨p142, q142, rfl, -⟩ := r142.form
  have h4 := (h4.k m158).keep m160 (nE (by omega))
  refine sv (xfld fl112_5 rfl) (suK (xstF 5 sz3 h4 rfl rfl rfl rfl rfl) ?_)
  rintro w163 ⟨m164, h4, s162⟩
  refine sv (xfld fl112_14 rfl) (suK (xstF 14 sz62 h4 rfl rfl rfl rfl rfl) ?_)
  rintro w166 ⟨m167, h4, s165⟩
  have h2 := (((h2.k m158).keep m160 (nE (by omega))).keep m164 (nE (by omega))).keep m167 (nE (by omega))
  refine lend (nBlock (nThen (fcg 2 4 rfl fun _ => sreg (sv (xldS (lens := lRec) ro112 rfl h4.r) (suK (xstW h2 (lens' := lRec) sz112 rfl rfl rfl rfl rfl) ?_)))))
  rintro w169 ⟨m170, h2, s168⟩
  refine send (fbg 2 rfl fun _ => wp_ret (rp1 rfl ⟨_, rfl, ldS (lens := lRec) ro112 h2.r⟩ ?_))
  rw [norm_txt hk]
  have hf := ((((hf.s m158).t m160 (by omega)).t m164 (by omega)).t m167 (by omega)).t m170 (by omega)
  have r142 := ((r142.keep m164 (nE (by omega))).keep m167 (nE (by omega))).keep m170 (nE (by omega))
  exact ⟨_, _, _, ag_rec (r' := { rec0 r l with texts := r.texts }) (k := 7) hk rfl, ba0, (RA.la (RA.texts (U := NoU) (show Rw _ _ _ _ _ _ (strs r.texts) from r142)) (by decide) text_gr (fun _ h => h.elim) (.inr ⟨by omega, by omega⟩)), LA.nil, hf⟩
 ·
  refine send ((wp_block (sreg (sv (xtaN ni186 in186 rfl rfl) (sv (xex21 rfl) (sv (xex20 rfl) (send ((cno rfl (sreg (sv (xtaN ni190 in190 rfl rfl) (sv (xex21 rfl) (sv (xex20 rfl) (send ((cno rfl (sreg (sv (xtaN ni193 in193 rfl rfl) (sv (xex21 rfl) (sv (xex20 rfl) (send (ffg 2 4 35 58 59 rfl fun _ => cno rfl (sreg (sv (xtaN ni196 in196 rfl rfl) (sv (xex21 rfl) (sv (xex20 rfl) (send ((cno rfl (sreg (sv (xtaN ni199 in199 rfl rfl) (sv (xex21 rfl) (sv (xex20 rfl) (send ((cno rfl (sreg (sv (xtaN ni202 in202 rfl rfl) (sv (xex21 rfl) (sv (xex20 rfl) (send ((cno rfl (sreg (sv (xtaN ni205 in205 rfl rfl) (sv (xex21 rfl) (sv (xex20 rfl) (send (ffg 2 4 35 135 136 rfl fun _ => cno rfl (sreg (sv (xtaY ni208 rfl) (sv (xex21 rfl) (sv (xex20 rfl) (send ((cyes rfl (sreg (sA rfl (send (fdg 2 4 12 rfl fun _ => lreg ?_))))))))))))))))))))))))))))))))))))))))))))))))))))))))))))
  refine svK (xslit (bvs []) sl37 in5 rfl (by decide) rfl rfl rfl rfl (by decide) rfl (bvs_one _)) ?_
  rintro _ w172 ⟨b148, rfl, m173, h148, e148, s148, r148⟩
  have hsr := hsr.keep m173 (by omega) id
  refine sM rfl (sN rfl (sv (xfld fl211_0 rfl) (sv (xcutA ar209 sz5 rfl) (svK (xapp sl37 in5 rfl (by decide) rfl rfl r148 (src_cut (hsr.seg (i := 0) (k := 0) rfl rfl) (fixedL_length _ _)) (by simp only [maxLen]; omega) (by omega)) ?_))))
  rintro _ w174 ⟨g153, r153, m175, a153, l153⟩
  have z176 := m175.size
  obtain ⟨p153, q153, rfl, -⟩ := r153.form
  have h4 := (h4.k m173).keep m175 (nE (by omega))
  refine sv (xfld fl112_5 rfl) (suK (xstF 5 sz3 h4 rfl rfl rfl rfl rfl) ?_)
  rintro w178 ⟨m179, h4, s177⟩
  refine sv (xfld fl112_6 rfl) (suK (xstF 6 sz37 h4 rfl rfl rfl rfl rfl) ?_)
  rintro w181 ⟨m182, h4, s180⟩
  have h2 := (((h2.k m173).keep m175 (nE (by omega))).keep m179 (nE (by omega))).keep m182 (nE (by omega))
  refine lend (nBlock (nThen (fcg 2 4 rfl fun _ => sreg (sv (xldS (lens := lRec) ro112 rfl h4.r) (suK (xstW h2 (lens' := lRec) sz112 rfl rfl rfl rfl rfl) ?_)))))
  rintro w184 ⟨m185, h2, s183⟩
  refine send (fbg 2 rfl fun _ => wp_ret (rp1 rfl ⟨_, rfl, ldS (lens := lRec) ro112 h2.r⟩ ?_))
  rw [norm_aaaa hk]
  have hf := ((((hf.s m173).t m175 (by omega)).t m179 (by omega)).t m182 (by omega)).t m185 (by omega)
  have r153 := ((r153.keep m179 (nE (by omega))).keep m182 (nE (by omega))).keep m185 (nE (by omega))
  exact ⟨_, _, _, ag_rec (r' := { rec0 r l with data := fixedL r.data 16 }) (k := 8) hk rfl, (BR.ba (show BR _ _ _ _ (fixedL r.data 16) from r153) (.inr ⟨by omega, by omega⟩)), LA.nil, LA.nil, hf⟩
 ·
  refine send ((wp_block (sreg (sv (xtaN ni186 in186 rfl rfl) (sv (xex21 rfl) (sv (xex20 rfl) (send ((cno rfl (sreg (sv (xtaN ni190 in190 rfl rfl) (sv (xex21 rfl) (sv (xex20 rfl) (send ((cno rfl (sreg (sv (xtaN ni193 in193 rfl rfl) (sv (xex21 rfl) (sv (xex20 rfl) (send (ffg 2 4 35 58 59 rfl fun _ => cno rfl (sreg (sv (xtaN ni196 in196 rfl rfl) (sv (xex21 rfl) (sv (xex20 rfl) (send ((cno rfl (sreg (sv (xtaN ni199 in199 rfl rfl) (sv (xex21 rfl) (sv (xex20 rfl) (send ((cno rfl (sreg (sv (xtaN ni202 in202 rfl rfl) (sv (xex21 rfl) (sv (xex20 rfl) (send ((cno rfl (sreg (sv (xtaN ni205 in205 rfl rfl) (sv (xex21 rfl) (sv (xex20 rfl) (send (ffg 2 4 35 135 136 rfl fun _ => cno rfl (sreg (sv (xtaN ni208 in208 rfl rfl) (sv (xex21 rfl) (sv (xex20 rfl) (send ((cno rfl (sreg (sv (xtaY ni212 rfl) (sv (xex21 rfl) (sv (xex20 rfl) (send ((cyes rfl (sreg (sA rfl (send (fdg 2 4 13 rfl fun _ => ?_)))))))))))))))))))))))))))))))))))))))))))))))))))))))))))))))))))
  refine ldrawH (Fr (fun k => k = b4) w37.drew) [rd0, rd1, rd2, rd3, rd4, rd5, rd6, rd7, rd8, rd9, rd10, rd11, rd12, rd13, rd14, rd15, rd16, rd17, rd18, rd20, (19, .ld), (21, .ld), rd22, (23, .ld), rd24, (25, .ld), rd26, (27, .ld), rd28, (29, .bh)] mixed (by kernel_rfl) (fun _ _ _ _ _ h => h) ?_
  have z186 : w37.drew.heap.size = w37.heap.size := rfl
  have hsr := hsr.keep (fd w37) (by omega) id
  have zb_hsr := hsr
  have hS187 : Fr (fun k => k = b4) w37.drew w37.drew := Fr.refl _ _
  refine qqM rfl rfl hS187 (qqN rfl rfl hS187 (hvH rfl (fun _ _ => xfld fl214_0 rfl) hS187 (hvH rfl (fun w' hS => xld on22 rfl ((zb_hsr.keep hS (by omega) (nE (by omega))).c 0 rfl rfl)) hS187 (hvH rfl (fun _ _ => xconv hs22 ki61 rfl (wu32n (m16 r.n1).toNat (by rw [m16_nat]; omega))) hS187 (qqM rfl rfl hS187 (qqN rfl rfl hS187 (hvH rfl (fun _ _ => xfld fl214_1 rfl) hS187 (hvH rfl (fun w' hS => xld on22 rfl ((zb_hsr.keep hS (by omega) (nE (by omega))).c 1 rfl rfl)) hS187 (hvH rfl (fun _ _ => xconv hs22 ki61 rfl (wu32n (m16 r.n2).toNat (by rw [m16_nat]; omega))) hS187 (qqM rfl rfl hS187 (qqN rfl rfl hS187 (hvH rfl (fun _ _ => xfld fl214_2 rfl) hS187 (hvH rfl (fun w' hS => xld on22 rfl ((zb_hsr.keep hS (by omega) (nE (by omega))).c 2 rfl rfl)) hS187 (hvH rfl (fun _ _ => xconv hs22 ki61 rfl (wu32n (m16 r.n3).toNat (by rw [m16_nat]; omega))) hS187 (qqM rfl rfl hS187 (qqN rfl rfl hS187 (hvH rfl (fun _ _ => xfld fl214_3 rfl) hS187 (hvH rfl (fun w' hS => xldS (lens := [256]) ro82 rfl ((zb_hsr.keep hS (by omega) (nE (by omega))).sub 3 1 rfl)) hS187 (hvH rfl (fun _ _ => xfld fl112_5 rfl) hS187 ?_)))))))))))))))))))
  refine hcH rfl (xcall ca100 rfl) (c100 (S := bt r.host) (by have := (name_pos (hno.2.1 (by omega))).2; omega)) ?_
  rintro _ w188 ⟨rfl, m189⟩
  have z190 := m189.size
  have hS191 := hS187.s m189
  have h4 := (h4.drew).k m189
  refine ⟨hS191, ?_⟩
  refine hluKH rfl (xstF 5 sz3 h4 rfl rfl rfl rfl rfl) ?_
  rintro w193 ⟨m194, h4, s192⟩
  have hS195 := hS191.step m194 nI
  refine ⟨hS195, ?_⟩
  refine hvH rfl (fun _ _ => xfld fl112_9 rfl) hS195 ?_
  refine hluKH rfl (xstF 9 sz61 h4 rfl rfl rfl rfl rfl) ?_
  rintro w197 ⟨m198, h4, s196⟩
  have hS199 := hS195.step m198 nI
  refine ⟨hS199, ?_⟩
  refine hvH rfl (fun _ _ => xfld fl112_10 rfl) hS199 ?_
  refine hluKH rfl (xstF 10 sz61 h4 rfl rfl rfl rfl rfl) ?_
  rintro w201 ⟨m202, h4, s200⟩
  have hS203 := hS199.step m202 nI
  refine ⟨hS203, ?_⟩
  refine hvH rfl (fun _ _ => xfld fl112_11 rfl) hS203 ?_
  refine hluKH rfl (xstF 11 sz61 h4 rfl rfl rfl rfl rfl) ?_
  rintro w205 ⟨m206, h4, s204⟩
  have hS207 := hS203.step m206 nI
  refine ⟨hS207, ?_⟩
  refine hvH rfl (fun _ _ => xfld fl112_7 rfl) hS207 ?_
  refine bluKH rfl (xstF 7 sz9 h4 rfl rfl rfl rfl rfl) ?_
  rintro w209 ⟨m210, h4, s208⟩
  have h2 := ((((((h2.drew).k m189).keep m194 (nE (by omega))).keep m198 (nE (by omega))).keep m202 (nE (by omega))).keep m206 (nE (by omega))).keep m210 (nE (by omega))
  refine lhendH (nBlock (nThen (fcg 2 4 rfl fun _ => sreg (sv (xldS (lens := lRec) ro112 rfl h4.r) (suK (xstW h2 (lens' := lRec) sz112 rfl rfl rfl rfl rfl) ?_)))))
  rintro w212 ⟨m213, h2, s211⟩
  refine send (fbg 2 rfl fun _ => wp_ret (rp1 rfl ⟨_, rfl, ldS (lens := lRec) ro112 h2.r⟩ ?_))
  rw [norm_srv hk]
  have hf := (((((((hf.drew).s m189).t m194 (by omega)).t m198 (by omega)).t m202 (by omega)).t m206 (by omega)).t m210 (by omega)).t m213 (by omega)
  exact ⟨_, _, _, ag_rec (r' := { rec0 r l with n1 := m16 r.n1, n2 := m16 r.n2, n3 := m16 r.n3, host := r.host }) (k := 9) hk rfl, ba0, LA.nil, LA.nil, hf⟩
 ·
  obtain ⟨aq, cq, rfl⟩ := hp.form
  refine send ((wp_block (sreg (sv (xtaN ni186 in186 rfl rfl) (sv (xex21 rfl) (sv (xex20 rfl) (send ((cno rfl (sreg (sv (xtaN ni190 in190 rfl rfl) (sv (xex21 rfl) (sv (xex20 rfl) (send ((cno rfl (sreg (sv (xtaN ni193 in193 rfl rfl) (sv (xex21 rfl) (sv (xex20 rfl) (send (ffg 2 4 35 58 59 rfl fun _ => cno rfl (sreg (sv (xtaN ni196 in196 rfl rfl) (sv (xex21 rfl) (sv (xex20 rfl) (send ((cno rfl (sreg (sv (xtaN ni199 in199 rfl rfl) (sv (xex21 rfl) (sv (xex20 rfl) (send ((cno rfl (sreg (sv (xtaN ni202 in202 rfl rfl) (sv (xex21 rfl) (sv (xex20 rfl) (send ((cno rfl (sreg (sv (xtaN ni205 in205 rfl rfl) (sv (xex21 rfl) (sv (xex20 rfl) (send (ffg 2 4 35 135 136 rfl fun _ => cno rfl (sreg (sv (xtaN ni208 in208 rfl rfl) (sv (xex21 rfl) (sv (xex20 rfl) (send ((cno rfl (sreg (sv (xtaN ni212 in212 rfl rfl) (sv (xex21 rfl) (sv (xex20 rfl) (send ((cno rfl (sreg (sv (xtaY ni215 rfl) (sv (xex21 rfl) (sv (xex20 rfl) (send (ffg 2 4 35 185 186 rfl fun _ => cyes rfl (sreg (sA rfl ?_)))))))))))))))))))))))))))))))))))))))))))))))))))))))))))))))))))))))
  refine send (fdg 2 4 14 rfl fun _ => sreg (sv (xfld fl112_5 rfl) (suK (xstF 5 sz3 h4 rfl rfl rfl rfl rfl) ?_)))
  rintro w215 ⟨m216, h4, s214⟩
  have hsr := hsr.keep m216 (by omega) (nE (by omega))
  have hp := hp.keep pair_st (lU hU (by omega)) m216 (nU hU (by omega))
  refine send ((sreg (sM rfl (sN rfl (sv (xfld fl218_0 rfl) (sv (xld on216 rfl (hsr.c 0 rfl rfl)) (sv (xlen sl216 rfl) (sM rfl (send (ffg 2 4 191 192 193 rfl fun _ => wp_block (lp [(2, _), (4, _), (191, _), (192, _)] (fun (x : Nat × Value × Nat) => match x with | (k, v, g) => [(193, .int .i64 (k : Int))]) (fun (x : Nat × Value × Nat) wx => match x with | (k, v, g) => Fr (fun k => k = b4) w215 wx ∧ (k ≤ r.pairs.length) ∧ (SB wx b4 lRec ([[.string r.name], [.int .u16 ((typeN r).toNat : Int)], [.int .u16 (r.cls.toNat : Int)], [.int .u32 (r.ttl.toNat : Int)], [.int .u16 (l.toNat : Int)], [.int .i64 10], [.slice none 0 0], [.string emptyB], [.string emptyB], [.int .u32 0], [.int .u32 0], [.int .u32 0], [.int .u32 0], [.int .u32 0], [.slice none 0 0], [v]])) ∧ ((v = .slice none 0 0 ∧ k = 0) ∨ (RX PairEl lPair U (b4 + 1) wx.heap.size wx v g 145 k (r.pairs.take k) ∧ b4 < g ∧ g < wx.heap.size ∧ w215.heap.size ≤ g))) (fun (x : Nat × Value × Nat) => match x with | (k, v, g) => r.pairs.length - k) (0, .slice none 0 0, 0) ⟨rfl, rfl, rfl, rfl, rfl, trivial⟩ ⟨Fr.refl _ _, Nat.zero_le _, h4, .inl ⟨rfl, rfl⟩⟩ ?_)))))))))))
  rintro ⟨k, v, g⟩ _ w218 ⟨hL217, hki, h4, hnv⟩
  refine ffg 2 4 191 192 193 rfl fun _ => ?_
  have z219 := hL217.size
  have hf := (hf.t m216 (by omega)).t hL217 (by omega)
  have h2 := (h2.keep m216 (nE (by omega))).keep hL217 (nE (by omega))
  have hsr := hsr.keep hL217 (by omega) (nE (by omega))
  have hp := hp.keep pair_st (lU hU (by omega)) hL217 (nU hU (by omega))
  rcases hnv with ⟨rfl, hk0⟩ | ⟨hv3, hg1, hg2, hg3⟩
  ·
   refine sreg (svP (xlss rfl rfl) (fun hc194 => ?_) (fun hc194 => ?_))
   rotate_left
   ·
    refine send ((wp_seq (cno rfl (wp_exit (eThen (eThen (eHit (nBlock (nThen (fcg 2 4 rfl fun _ => sreg (sv (xldS (lens := lRec) ro112 rfl h4.r) (suK (xstW h2 (lens' := lRec) sz112 rfl rfl rfl rfl rfl) ?_))))))))))))
    rintro w248 ⟨m249, h2, s247⟩
    refine send (fbg 2 rfl fun _ => wp_ret (rp1 rfl ⟨_, rfl, ldS (lens := lRec) ro112 h2.r⟩ ?_))
    have hkl : r.pairs.length ≤ k := by omega
    have hke : r.pairs.take k = r.pairs := List.take_of_length_le hkl
    have hr0 : r.pairs = [] := List.eq_nil_of_length_eq_zero (by omega)
    rw [norm_opt hk]
    have hf := hf.t m249 (by omega)
    exact ⟨_, _, _, ag_rec (r' := { rec0 r l with pairs := r.pairs }) (k := 10) hk rfl, ba0, LA.nil, (by show LA PairEl lPair _ _ _ r.pairs; rw [hr0]; exact LA.nil), hf⟩
   refine send ((wp_seq (cyes rfl (wp_skip (nThen (ffg 2 4 191 192 193 rfl fun _ => wp_seq (wp_block ?_)))))))
   obtain ⟨p, hpk⟩ := some_of_lt (by omega : k < r.pairs.length)
   refine sreg ?_
   obtain ⟨bE195, oE195, sgE195, rfl, uE195, hsE195, heE195⟩ := LA.get hp hpk
   obtain ⟨vd, rfl, hd⟩ := heE195
   have zE195 := hU _ uE195
   obtain ⟨ad, cd, rfl, -⟩ := id hd
   have hpdl := hpd p (List.mem_of_getElem? hpk)
   refine sv (xidx sl216 sz220 rfl rfl rfl (by omega)) (sv (xldS (lens := [1, 1]) ro220 rfl hsE195) (svK (xallS (lens := [1, 1]) in220 (by simp [])) ?_))
   rintro _ w221 ⟨b16, rfl, m222, h16, e220, s220⟩
   refine suK (xstW h16 (lens' := [1, 1]) sz220 rfl rfl rfl rfl rfl) ?_
   rintro w224 ⟨m225, h16, s223⟩
   refine send (fgg 2 4 16 191 192 193 rfl fun _ => ?_)
   refine ldrawH (Fr (fun _ => False) w224.drew) [rd0, rd1, rd2, rd3, rd5, rd6, ld4, ld7, rd8, ld9, ld10, rd11, bh12] mixed (by kernel_rfl) (fun _ _ _ _ _ h => h) ?_
   have z226 : w224.drew.heap.size = w224.heap.size := rfl
   have h4 := ((h4.k m222).keep m225 (nE (by omega))).drew
   have zb_h4 := h4
   have h16 := h16.drew
   have zb_h16 := h16
   have hS227 : Fr (fun _ => False) w224.drew w224.drew := Fr.refl _ _
   refine hvH rfl (fun _ _ => xfld fl112_15 rfl) hS227 (hvH rfl (fun w' hS => xld on110 rfl ((zb_h4.k hS).r.c 15 rfl rfl)) hS227 (hvH rfl (fun _ _ => xfld fl220_0 rfl) hS227 (hvH rfl (fun w' hS => xld on22 rfl ((zb_h16.k hS).r.c 0 rfl rfl)) hS227 (hvH rfl (fun _ _ => xfld fl220_1 rfl) hS227 (hvH rfl (fun w' hS => xld on37 rfl ((zb_h16.k hS).r.c 1 rfl rfl)) hS227 ?_)))))
   refine hlKH rfl (xslit (bvs []) sl37 in5 rfl (by decide) rfl rfl rfl rfl (by decide) rfl (bvs_one _)) ?_
   rintro _ w229 ⟨b201, rfl, m230, h201, e201, s201, r201⟩
   have hS231 := hS227.s m230
   have hd := (((hd.keep (lU hU (by omega)) m222 nF).keep (lU hU (by omega)) m225 (nU hU (by omega))).keep (lU hU (by omega)) (fd w224) nF).keep (lU hU (by omega)) m230 nF
   refine ⟨hS231, ?_⟩
   refine hlKH rfl (xapp sl37 in5 rfl (by decide) rfl rfl r201 (hd.src sl37) (by simp only [maxLen]; omega) (by omega)) ?_
   rintro _ w232 ⟨g204, r204, m233, a204, l204⟩
   have z234 := m233.size
   have hS235 := hS231.t m233 (by omega)
   obtain ⟨p204, q204, rfl, -⟩ := r204.form
   refine ⟨hS235, ?_⟩
   refine hvH rfl (fun _ _ => xbuildS (pairSegs p (.slice p204 (0 + p.data.length) q204)) zr145 ly145 rfl (by simp [fitAll, zs145, Value.cells]) rfl) hS235 ?_
   refine hlKH rfl (xslit ((pairSegs p (.slice p204 (0 + p.data.length) q204)).flatten) sl110 in145 rfl (by decide) rfl rfl rfl rfl (by decide) rfl rfl) ?_
   rintro _ w237 ⟨b206, rfl, m238, h206, e206, s206, r206⟩
   have hS239 := hS235.s m238
   refine ⟨hS239, ?_⟩
   have hv3 : RX PairEl lPair U (b4 + 1) w237.heap.size w237 (.slice none 0 0) w237.heap.size 145 k (r.pairs.take k) := by rw [hk0]; exact RX.ofNil (Rw.nil _ _ _ _)
   obtain ⟨ss207, hR207, hA207⟩ := hv3
   refine hlKH rfl (xapp sl110 in145 rfl (by decide) rfl rfl hR207 (r206.src sl110) (by simp only [maxLen]; omega) (by omega)) ?_
   rintro v207 w240 ⟨g207, r207, m241, a207, l207⟩
   have z242 := m241.size
   have hS243 := hS239.step m241 (fun k hk hS => by have hS : k = w237.heap.size := hS; show False; omega)
   have r204 := (r204.k m238).keep m241 (by show ¬ (g204 = w237.heap.size); omega)
   have hv3 := RX.snoc (x := p) w240.heap.size hA207 pair_st pair_gr (lU hU (by omega)) (by omega) (by omega) m241 a207 r207 rfl (⟨_, rfl, BR.ba (show BR _ _ _ _ p.data from r204) ⟨.inr ⟨by omega, by omega⟩, by omega⟩⟩)
   have h4 := (((h4.k m230).keep m233 (nE (by omega))).k m238).keep m241 (by show ¬ (b4 = w237.heap.size); omega)
   refine ⟨hS243, ?_⟩
   refine hvH rfl (fun _ _ => xfld fl112_15 rfl) hS243 ?_
   refine bluKH rfl (xstF 15 sz110 h4 rfl rfl rfl rfl (by obtain ⟨_, _, rfl⟩ := RA.form hv3; rfl)) ?_
   rintro w245 ⟨m246, h4, s244⟩
   have hL217 := (((((((hL217.s m222).step m225 (fun k hk hS => by have hS : k = b16 := hS; show k = b4; omega)).drew).s m230).step m233 (fun k hk hS => by have hS : k = b201 := hS; show k = b4; omega)).s m238).step m241 (fun k hk hS => by have hS : k = w237.heap.size := hS; show k = b4; omega)).step m246 nI
   have hv3 := RX.keep hv3 pair_st (lU hU (by omega)) (by omega) m246 (fun k hk hk3 hS => by have hS : k = b4 := hS; rcases hk with hk | hk <;> first | omega | (have := hU k hk; omega)) (nE (by omega))
   refine lhendH (nBlock (nThen (ffg 2 4 191 192 193 rfl fun _ => lreg (sv (xadd rfl rfl (w64 (by omega) (by omega))) (sM rfl (lend (nThen ?_)))))))
   refine ⟨(k + 1, _, g207), _, env_okl ⟨rfl, rfl, rfl, rfl, rfl, trivial⟩, ⟨hL217, (by omega), (h4), (.inr ⟨by rw [take_snoc hpk]; exact RX.up pair_gr hv3 (by omega), by omega, by have hq := l207 (by omega); omega, by omega⟩)⟩, ?_⟩
   show r.pairs.length - (k + 1) < r.pairs.length - k; omega
  obtain ⟨a3, c3, rfl⟩ := RA.form hv3
  refine sreg (svP (xlss rfl rfl) (fun hc194 => ?_) (fun hc194 => ?_))
  rotate_left
  ·
   refine send ((wp_seq (cno rfl (wp_exit (eThen (eThen (eHit (nBlock (nThen (fcg 2 4 rfl fun _ => sreg (sv (xldS (lens := lRec) ro112 rfl h4.r) (suK (xstW h2 (lens' := lRec) sz112 rfl rfl rfl rfl rfl) ?_))))))))))))
   rintro w278 ⟨m279, h2, s277⟩
   refine send (fbg 2 rfl fun _ => wp_ret (rp1 rfl ⟨_, rfl, ldS (lens := lRec) ro112 h2.r⟩ ?_))
   have hkl : r.pairs.length ≤ k := by omega
   have hke : r.pairs.take k = r.pairs := List.take_of_length_le hkl
   have hv3 := RX.keep hv3 pair_st (lU hU (by omega)) (by omega) m279 (fun k hk hk3 hS => by have hS : k = b2 := hS; rcases hk with hk | hk <;> first | omega | (have := hU k hk; omega)) (nE (by omega))
   rw [hke] at hv3
   have hp := hp.keep pair_st (lU hU (by omega)) m279 (nU hU (by omega))
   obtain rfl : k = r.pairs.length := by omega
   rw [norm_opt hk]
   have hf := hf.t m279 (by omega)
   exact ⟨_, _, _, ag_rec (r' := { rec0 r l with pairs := r.pairs }) (k := 10) hk rfl, ba0, LA.nil, (RX.la hv3 (by decide) pair_gr (fun k hk => hk.elim .inl (fun h => .inr ⟨by omega, by omega⟩)) (.inr ⟨by omega, by omega⟩)), hf⟩
  refine send ((wp_seq (cyes rfl (wp_skip (nThen (ffg 2 4 191 192 193 rfl fun _ => wp_seq (wp_block ?_)))))))
  obtain ⟨p, hpk⟩ := some_of_lt (by omega : k < r.pairs.length)
  refine sreg ?_
  obtain ⟨bE195, oE195, sgE195, rfl, uE195, hsE195, heE195⟩ := LA.get hp hpk
  obtain ⟨vd, rfl, hd⟩ := heE195
  have zE195 := hU _ uE195
  obtain ⟨ad, cd, rfl, -⟩ := id hd
  have hpdl := hpd p (List.mem_of_getElem? hpk)
  refine sv (xidx sl216 sz220 rfl rfl rfl (by omega)) (sv (xldS (lens := [1, 1]) ro220 rfl hsE195) (svK (xallS (lens := [1, 1]) in220 (by simp [])) ?_))
  rintro _ w251 ⟨b16, rfl, m252, h16, e250, s250⟩
  refine suK (xstW h16 (lens' := [1, 1]) sz220 rfl rfl rfl rfl rfl) ?_
  rintro w254 ⟨m255, h16, s253⟩
  refine send (fgg 2 4 16 191 192 193 rfl fun _ => ?_)
  refine ldrawH (Fr (fun k => k = g) w254.drew) [rd0, rd1, rd2, rd3, rd5, rd6, ld4, ld7, rd8, ld9, ld10, rd11, bh12] mixed (by kernel_rfl) (fun _ _ _ _ _ h => h) ?_
  have z256 : w254.drew.heap.size = w254.heap.size := rfl
  have h4 := ((h4.k m252).keep m255 (nE (by omega))).drew
  have zb_h4 := h4
  have h16 := h16.drew
  have zb_h16 := h16
  have hS257 : Fr (fun k => k = g) w254.drew w254.drew := Fr.refl _ _
  have hv3 := RX.keep (RX.keep (RX.keep hv3 pair_st (lU hU (by omega)) (by omega) m252 (fun _ _ _ h => h) id) pair_st (lU hU (by omega)) (by omega) m255 (fun k hk hk3 hS => by have hS : k = b16 := hS; rcases hk with hk | hk <;> first | omega | (have := hU k hk; omega)) (nE (by omega))) pair_st (lU hU (by omega)) (by omega) (fd w254) (fun _ _ _ h => h) id
  refine hvH rfl (fun _ _ => xfld fl112_15 rfl) hS257 (hvH rfl (fun w' hS => xld on110 rfl ((zb_h4.keep hS (nE (by omega))).r.c 15 rfl rfl)) hS257 (hvH rfl (fun _ _ => xfld fl220_0 rfl) hS257 (hvH rfl (fun w' hS => xld on22 rfl ((zb_h16.keep hS (nE (by omega))).r.c 0 rfl rfl)) hS257 (hvH rfl (fun _ _ => xfld fl220_1 rfl) hS257 (hvH rfl (fun w' hS => xld on37 rfl ((zb_h16.keep hS (nE (by omega))).r.c 1 rfl rfl)) hS257 ?_)))))
  refine hlKH rfl (xslit (bvs []) sl37 in5 rfl (by decide) rfl rfl rfl rfl (by decide) rfl (bvs_one _)) ?_
  rintro _ w259 ⟨b201, rfl, m260, h201, e201, s201, r201⟩
  have hS261 := hS257.s m260
  have hd := (((hd.keep (lU hU (by omega)) m252 nF).keep (lU hU (by omega)) m255 (nU hU (by omega))).keep (lU hU (by omega)) (fd w254) nF).keep (lU hU (by omega)) m260 nF
  have hv3 := RX.keep hv3 pair_st (lU hU (by omega)) (by omega) m260 (fun _ _ _ h => h) id
  refine ⟨hS261, ?_⟩
  refine hlKH rfl (xapp sl37 in5 rfl (by decide) rfl rfl r201 (hd.src sl37) (by simp only [maxLen]; omega) (by omega)) ?_
  rintro _ w262 ⟨g204, r204, m263, a204, l204⟩
  have z264 := m263.size
  have hS265 := hS261.step m263 (fun k hk hS => by have hS : k = b201 := hS; show k = g; omega)
  obtain ⟨p204, q204, rfl, -⟩ := r204.form
  refine ⟨hS265, ?_⟩
  refine hvH rfl (fun _ _ => xbuildS (pairSegs p (.slice p204 (0 + p.data.length) q204)) zr145 ly145 rfl (by simp [fitAll, zs145, Value.cells]) rfl) hS265 ?_
  refine hlKH rfl (xslit ((pairSegs p (.slice p204 (0 + p.data.length) q204)).flatten) sl110 in145 rfl (by decide) rfl rfl rfl rfl (by decide) rfl rfl) ?_
  rintro _ w267 ⟨b206, rfl, m268, h206, e206, s206, r206⟩
  have hS269 := hS265.s m268
  have hv3 := RX.keep (RX.keep hv3 pair_st (lU hU (by omega)) (by omega) m263 (fun k hk hk3 hS => by have hS : k = b201 := hS; rcases hk with hk | hk <;> first | omega | (have := hU k hk; omega)) (nE (by omega))) pair_st (lU hU (by omega)) (by omega) m268 (fun _ _ _ h => h) id
  refine ⟨hS269, ?_⟩
  obtain ⟨ss207, hR207, hA207⟩ := hv3
  refine hlKH rfl (xapp sl110 in145 rfl (by decide) rfl rfl hR207 (r206.src sl110) (by simp only [maxLen]; omega) (by omega)) ?_
  rintro v207 w270 ⟨g207, r207, m271, a207, l207⟩
  have z272 := m271.size
  have hS273 := hS269.step m271 nI
  have r204 := (r204.k m268).keep m271 (nE (by omega))
  have hv3 := RX.snoc (x := p) w270.heap.size hA207 pair_st pair_gr (lU hU (by omega)) (by omega) (by omega) m271 a207 r207 rfl (⟨_, rfl, BR.ba (show BR _ _ _ _ p.data from r204) ⟨.inr ⟨by omega, by omega⟩, by omega⟩⟩)
  have h4 := (((h4.k m260).keep m263 (nE (by omega))).k m268).keep m271 (nE (by omega))
  refine ⟨hS273, ?_⟩
  refine hvH rfl (fun _ _ => xfld fl112_15 rfl) hS273 ?_
  refine bluKH rfl (xstF 15 sz110 h4 rfl rfl rfl rfl (by obtain ⟨_, _, rfl⟩ := RA.form hv3; rfl)) ?_
  rintro w275 ⟨m276, h4, s274⟩
  have hL217 := (((((((hL217.s m252).step m255 (fun k hk hS => by have hS : k = b16 := hS; show k = b4; omega)).drew).s m260).step m263 (fun k hk hS => by have hS : k = b201 := hS; show k = b4; omega)).s m268).step m271 (fun k hk hS => by have hS : k = g := hS; show k = b4; omega)).step m276 nI
  have hv3 := RX.keep hv3 pair_st (lU hU (by omega)) (by omega) m276 (fun k hk hk3 hS => by have hS : k = b4 := hS; rcases hk with hk | hk <;> first | omega | (have := hU k hk; omega)) (nE (by omega))
  refine lhendH (nBlock (nThen (ffg 2 4 191 192 193 rfl fun _ => lreg (sv (xadd rfl rfl (w64 (by omega) (by omega))) (sM rfl (lend (nThen ?_)))))))
  refine ⟨(k + 1, _, g207), _, env_okl ⟨rfl, rfl, rfl, rfl, rfl, trivial⟩, ⟨hL217, (by omega), (h4), (.inr ⟨by rw [take_snoc hpk]; exact RX.up pair_gr hv3 (by omega), by omega, by have hq := l207 (by omega); omega, by omega⟩)⟩, ?_⟩
  show r.pairs.length - (k + 1) < r.pairs.length - k; omega
 ·
  obtain ⟨aq, cq, rfl⟩ := hp.form
  refine send ((wp_block (sreg (sv (xtaN ni186 in186 rfl rfl) (sv (xex21 rfl) (sv (xex20 rfl) (send ((cno rfl (sreg (sv (xtaN ni190 in190 rfl rfl) (sv (xex21 rfl) (sv (xex20 rfl) (send ((cno rfl (sreg (sv (xtaN ni193 in193 rfl rfl) (sv (xex21 rfl) (sv (xex20 rfl) (send (ffg 2 4 35 58 59 rfl fun _ => cno rfl (sreg (sv (xtaN ni196 in196 rfl rfl) (sv (xex21 rfl) (sv (xex20 rfl) (send ((cno rfl (sreg (sv (xtaN ni199 in199 rfl rfl) (sv (xex21 rfl) (sv (xex20 rfl) (send ((cno rfl (sreg (sv (xtaN ni202 in202 rfl rfl) (sv (xex21 rfl) (sv (xex20 rfl) (send ((cno rfl (sreg (sv (xtaN ni205 in205 rfl rfl) (sv (xex21 rfl) (sv (xex20 rfl) (send (ffg 2 4 35 135 136 rfl fun _ => cno rfl (sreg (sv (xtaN ni208 in208 rfl rfl) (sv (xex21 rfl) (sv (xex20 rfl) (send ((cno rfl (sreg (sv (xtaN ni212 in212 rfl rfl) (sv (xex21 rfl) (sv (xex20 rfl) (send ((cno rfl (sreg (sv (xtaN ni215 in215 rfl rfl) (sv (xex21 rfl) (sv (xex20 rfl) (send (ffg 2 4 35 185 186 rfl fun _ => cno rfl (sreg (sv (xtaY ni221 rfl) ?_)))))))))))))))))))))))))))))))))))))))))))))))))))))))))))))))))))))))
  refine sv (xex21 rfl) (sv (xex20 rfl) (send ((cyes rfl (sreg (sA rfl (send (fdg 2 4 17 rfl fun _ => ?_))))))))
  refine ldrawH (Fr (fun k => k = b4) w37.drew) [rd0, rd1, rd2, rd3, rd4, rd5, rd6, rd7, rd8, rd10, rd11, rd12, rd13, rd15, ld9, ld14, (16, .ld), rd17, (18, .ld), rd19, (20, .ld), rd21, (22, .bh)] mixed (by kernel_rfl) (fun _ _ _ _ _ h => h) ?_
  have z280 : w37.drew.heap.size = w37.heap.size := rfl
  have hsr := hsr.keep (fd w37) (by omega) id
  have zb_hsr := hsr
  have hS281 : Fr (fun k => k = b4) w37.drew w37.drew := Fr.refl _ _
  refine qqM rfl rfl hS281 (qqN rfl rfl hS281 (hvH rfl (fun _ _ => xfld fl224_0 rfl) hS281 (hvH rfl (fun w' hS => xld on22 rfl ((zb_hsr.keep hS (by omega) (nE (by omega))).c 0 rfl rfl)) hS281 (hvH rfl (fun _ _ => xconv hs22 ki61 rfl (wu32n (m16 r.n1).toNat (by rw [m16_nat]; omega))) hS281 (qqM rfl rfl hS281 (qqN rfl rfl hS281 (hvH rfl (fun _ _ => xfld fl224_1 rfl) hS281 (hvH rfl (fun w' hS => xldS (lens := [256]) ro82 rfl ((zb_hsr.keep hS (by omega) (nE (by omega))).sub 1 1 rfl)) hS281 (qqM rfl rfl hS281 (qqN rfl rfl hS281 (hvH rfl (fun _ _ => xfld fl224_2 rfl) hS281 (hvH rfl (fun w' hS => xld on222 rfl ((zb_hsr.keep hS (by omega) (nE (by omega))).c 2 rfl rfl)) hS281 (hvH rfl (fun _ _ => xfld fl112_5 rfl) hS281 ?_)))))))))))))
  refine hcH rfl (xcall ca100 rfl) (c100 (S := bt r.host) (by have := (name_pos (hno.2.1 (by omega))).2; omega)) ?_
  rintro _ w282 ⟨rfl, m283⟩
  have z284 := m283.size
  have hS285 := hS281.s m283
  have hp := (hp.keep pair_st (lU hU (by omega)) (fd w37) nF).keep pair_st (lU hU (by omega)) m283 nF
  refine ⟨hS285, ?_⟩
  refine hcH rfl (xcall ca109 rfl) (c109 (U := U) (lU hU (by omega)) hp hpn (fun q hq => by have := hpd q hq; omega)) ?_
  rintro v227 w286 ⟨L227, m287⟩
  have z288 := m287.size
  have hS289 := hS285.s m287
  obtain ⟨av227, cv227, rfl⟩ := L227.form
  have h4 := ((h4.drew).k m283).k m287
  refine ⟨hS289, ?_⟩
  refine hluKH rfl (xstF 5 sz3 h4 rfl rfl rfl rfl rfl) ?_
  rintro w291 ⟨m292, h4, s290⟩
  have hS293 := hS289.step m292 nI
  refine ⟨hS293, ?_⟩
  refine hvH rfl (fun _ _ => xfld fl112_9 rfl) hS293 ?_
  refine hluKH rfl (xstF 9 sz61 h4 rfl rfl rfl rfl rfl) ?_
  rintro w295 ⟨m296, h4, s294⟩
  have hS297 := hS293.step m296 nI
  refine ⟨hS297, ?_⟩
  refine hvH rfl (fun _ _ => xfld fl112_7 rfl) hS297 ?_
  refine hluKH rfl (xstF 7 sz9 h4 rfl rfl rfl rfl rfl) ?_
  rintro w299 ⟨m300, h4, s298⟩
  have hS301 := hS297.step m300 nI
  refine ⟨hS301, ?_⟩
  refine hvH rfl (fun _ _ => xfld fl112_15 rfl) hS301 ?_
  refine bluKH rfl (xstF 15 sz110 h4 rfl rfl rfl rfl rfl) ?_
  rintro w303 ⟨m304, h4, s302⟩
  have h2 := ((((((h2.drew).k m283).k m287).keep m292 (nE (by omega))).keep m296 (nE (by omega))).keep m300 (nE (by omega))).keep m304 (nE (by omega))
  refine lhendH (nBlock (nThen (fcg 2 4 rfl fun _ => sreg (sv (xldS (lens := lRec) ro112 rfl h4.r) (suK (xstW h2 (lens' := lRec) sz112 rfl rfl rfl rfl rfl) ?_)))))
  rintro w306 ⟨m307, h2, s305⟩
  refine send (fbg 2 rfl fun _ => wp_ret (rp1 rfl ⟨_, rfl, ldS (lens := lRec) ro112 h2.r⟩ ?_))
  rw [norm_svc (by omega)]
  have hf := (((((((hf.drew).s m283).s m287).t m292 (by omega)).t m296 (by omega)).t m300 (by omega)).t m304 (by omega)).t m307 (by omega)
  have L227 := ((((L227.keep pair_st (lUb hU (by omega) (by omega)) m292 (nUb hU (by omega) (by omega))).keep pair_st (lUb hU (by omega) (by omega)) m296 (nUb hU (by omega) (by omega))).keep pair_st (lUb hU (by omega) (by omega)) m300 (nUb hU (by omega) (by omega))).keep pair_st (lUb hU (by omega) (by omega)) m304 (nUb hU (by omega) (by omega))).keep pair_st (lUb hU (by omega) (by omega)) m307 (nUb hU (by omega) (by omega))
  exact ⟨_, _, _, ag_rec (r' := { rec0 r l with n1 := m16 r.n1, host := r.host, pairs := r.pairs }) (k := 11) hk rfl, ba0, LA.nil, (L227.mono pair_gr (fun k hk => hk.elim .inl (fun h => .inr ⟨by omega, by omega⟩))), hf⟩
 ·
  obtain ⟨aq, cq, rfl⟩ := hp.form
  refine send ((wp_block (sreg (sv (xtaN ni186 in186 rfl rfl) (sv (xex21 rfl) (sv (xex20 rfl) (send ((cno rfl (sreg (sv (xtaN ni190 in190 rfl rfl) (sv (xex21 rfl) (sv (xex20 rfl) (send ((cno rfl (sreg (sv (xtaN ni193 in193 rfl rfl) (sv (xex21 rfl) (sv (xex20 rfl) (send (ffg 2 4 35 58 59 rfl fun _ => cno rfl (sreg (sv (xtaN ni196 in196 rfl rfl) (sv (xex21 rfl) (sv (xex20 rfl) (send ((cno rfl (sreg (sv (xtaN ni199 in199 rfl rfl) (sv (xex21 rfl) (sv (xex20 rfl) (send ((cno rfl (sreg (sv (xtaN ni202 in202 rfl rfl) (sv (xex21 rfl) (sv (xex20 rfl) (send ((cno rfl (sreg (sv (xtaN ni205 in205 rfl rfl) (sv (xex21 rfl) (sv (xex20 rfl) (send (ffg 2 4 35 135 136 rfl fun _ => cno rfl (sreg (sv (xtaN ni208 in208 rfl rfl) (sv (xex21 rfl) (sv (xex20 rfl) (send ((cno rfl (sreg (sv (xtaN ni212 in212 rfl rfl) (sv (xex21 rfl) (sv (xex20 rfl) (send ((cno rfl (sreg (sv (xtaN ni215 in215 rfl rfl) (sv (xex21 rfl) (sv (xex20 rfl) (send (ffg 2 4 35 185 186 rfl fun _ => cno rfl (sreg (sv (xtaN ni221 in221 rfl rfl) ?_)))))))))))))))))))))))))))))))))))))))))))))))))))))))))))))))))))))))
  refine sv (xex21 rfl) (sv (xex20 rfl) (send ((cno rfl (sreg (sv (xtaY ni226 rfl) (sv (xex21 rfl) (sv (xex20 rfl) (send ((cyes rfl (sreg (sA rfl (send (fdg 2 4 18 rfl fun _ => ?_)))))))))))))))
  refine ldrawH (Fr (fun k => k = b4) w37.drew) [rd0, rd1, rd2, rd3, rd4, rd5, rd6, rd7, rd8, rd9, rd10, rd12, rd13, rd14, rd15, rd16, rd18, ld11, (17, .ld), (19, .ld), rd20, (21, .ld), rd22, (23, .ld), rd24, (25, .bh)] mixed (by kernel_rfl) (fun _ _ _ _ _ h => h) ?_
  have z308 : w37.drew.heap.size = w37.heap.size := rfl
  have hsr := hsr.keep (fd w37) (by omega) id
  have zb_hsr := hsr
  have hS309 : Fr (fun k => k = b4) w37.drew w37.drew := Fr.refl _ _
  refine qqM rfl rfl hS309 (qqN rfl rfl hS309 (hvH rfl (fun _ _ => xfld fl228_0 rfl) hS309 (hvH rfl (fun _ _ => xfld fl224_0 rfl) hS309 (hvH rfl (fun w' hS => xld on22 rfl ((zb_hsr.keep hS (by omega) (nE (by omega))).c 0 rfl rfl)) hS309 (hvH rfl (fun _ _ => xconv hs22 ki61 rfl (wu32n (m16 r.n1).toNat (by rw [m16_nat]; omega))) hS309 (qqM rfl rfl hS309 (qqN rfl rfl hS309 (hvH rfl (fun _ _ => xfld fl228_0 rfl) hS309 (hvH rfl (fun _ _ => xfld fl224_1 rfl) hS309 (hvH rfl (fun w' hS => xldS (lens := [256]) ro82 rfl ((zb_hsr.keep hS (by omega) (nE (by omega))).sub 1 1 rfl)) hS309 (qqM rfl rfl hS309 (qqN rfl rfl hS309 (hvH rfl (fun _ _ => xfld fl228_0 rfl) hS309 (hvH rfl (fun _ _ => xfld fl224_2 rfl) hS309 (hvH rfl (fun w' hS => xld on222 rfl ((zb_hsr.keep hS (by omega) (nE (by omega))).c 2 rfl rfl)) hS309 (hvH rfl (fun _ _ => xfld fl112_5 rfl) hS309 ?_))))))))))))))))
  refine hcH rfl (xcall ca100 rfl) (c100 (S := bt r.host) (by have := (name_pos (hno.2.1 (by omega))).2; omega)) ?_
  rintro _ w310 ⟨rfl, m311⟩
  have z312 := m311.size
  have hS313 := hS309.s m311
  have hp := (hp.keep pair_st (lU hU (by omega)) (fd w37) nF).keep pair_st (lU hU (by omega)) m311 nF
  refine ⟨hS313, ?_⟩
  refine hcH rfl (xcall ca109 rfl) (c109 (U := U) (lU hU (by omega)) hp hpn (fun q hq => by have := hpd q hq; omega)) ?_
  rintro v252 w314 ⟨L252, m315⟩
  have z316 := m315.size
  have hS317 := hS313.s m315
  obtain ⟨av252, cv252, rfl⟩ := L252.form
  have h4 := ((h4.drew).k m311).k m315
  refine ⟨hS317, ?_⟩
  refine hluKH rfl (xstF 5 sz3 h4 rfl rfl rfl rfl rfl) ?_
  rintro w319 ⟨m320, h4, s318⟩
  have hS321 := hS317.step m320 nI
  refine ⟨hS321, ?_⟩
  refine hvH rfl (fun _ _ => xfld fl112_9 rfl) hS321 ?_
  refine hluKH rfl (xstF 9 sz61 h4 rfl rfl rfl rfl rfl) ?_
  rintro w323 ⟨m324, h4, s322⟩
  have hS325 := hS321.step m324 nI
  refine ⟨hS325, ?_⟩
  refine hvH rfl (fun _ _ => xfld fl112_7 rfl) hS325 ?_
  refine hluKH rfl (xstF 7 sz9 h4 rfl rfl rfl rfl rfl) ?_
  rintro w327 ⟨m328, h4, s326⟩
  have hS329 := hS325.step m328 nI
  refine ⟨hS329, ?_⟩
  refine hvH rfl (fun _ _ => xfld fl112_15 rfl) hS329 ?_
  refine bluKH rfl (xstF 15 sz110 h4 rfl rfl rfl rfl rfl) ?_
  rintro w331 ⟨m332, h4, s330⟩
  have h2 := ((((((h2.drew).k m311).k m315).keep m320 (nE (by omega))).keep m324 (nE (by omega))).keep m328 (nE (by omega))).keep m332 (nE (by omega))
  refine lhendH (nBlock (nThen (fcg 2 4 rfl fun _ => sreg (sv (xldS (lens := lRec) ro112 rfl h4.r) (suK (xstW h2 (lens' := lRec) sz112 rfl rfl rfl rfl rfl) ?_)))))
  rintro w334 ⟨m335, h2, s333⟩
  refine send (fbg 2 rfl fun _ => wp_ret (rp1 rfl ⟨_, rfl, ldS (lens := lRec) ro112 h2.r⟩ ?_))
  rw [norm_svc (by omega)]
  have hf := (((((((hf.drew).s m311).s m315).t m320 (by omega)).t m324 (by omega)).t m328 (by omega)).t m332 (by omega)).t m335 (by omega)
  have L252 := ((((L252.keep pair_st (lUb hU (by omega) (by omega)) m320 (nUb hU (by omega) (by omega))).keep pair_st (lUb hU (by omega) (by omega)) m324 (nUb hU (by omega) (by omega))).keep pair_st (lUb hU (by omega) (by omega)) m328 (nUb hU (by omega) (by omega))).keep pair_st (lUb hU (by omega) (by omega)) m332 (nUb hU (by omega) (by omega))).keep pair_st (lUb hU (by omega) (by omega)) m335 (nUb hU (by omega) (by omega))
  exact ⟨_, _, _, ag_rec (r' := { rec0 r l with n1 := m16 r.n1, host := r.host, pairs := r.pairs }) (k := 12) hk rfl, ba0, LA.nil, (L252.mono pair_gr (fun k hk => hk.elim .inl (fun h => .inr ⟨by omega, by omega⟩))), hf⟩
 obtain ⟨aq, cq, rfl, -⟩ := id hd
 refine send ((wp_block (sreg (sv (xtaN ni186 in186 rfl rfl) (sv (xex21 rfl) (sv (xex20 rfl) (send ((cno rfl (sreg (sv (xtaN ni190 in190 rfl rfl) (sv (xex21 rfl) (sv (xex20 rfl) (send ((cno rfl (sreg (sv (xtaN ni193 in193 rfl rfl) (sv (xex21 rfl) (sv (xex20 rfl) (send (ffg 2 4 35 58 59 rfl fun _ => cno rfl (sreg (sv (xtaN ni196 in196 rfl rfl) (sv (xex21 rfl) (sv (xex20 rfl) (send ((cno rfl (sreg (sv (xtaN ni199 in199 rfl rfl) (sv (xex21 rfl) (sv (xex20 rfl) (send ((cno rfl (sreg (sv (xtaN ni202 in202 rfl rfl) (sv (xex21 rfl) (sv (xex20 rfl) (send ((cno rfl (sreg (sv (xtaN ni205 in205 rfl rfl) (sv (xex21 rfl) (sv (xex20 rfl) (send (ffg 2 4 35 135 136 rfl fun _ => cno rfl (sreg (sv (xtaN ni208 in208 rfl rfl) (sv (xex21 rfl) (sv (xex20 rfl) (send ((cno rfl (sreg (sv (xtaN ni212 in212 rfl rfl) (sv (xex21 rfl) (sv (xex20 rfl) (send ((cno rfl (sreg (sv (xtaN ni215 in215 rfl rfl) (sv (xex21 rfl) (sv (xex20 rfl) (send (ffg 2 4 35 185 186 rfl fun _ => cno rfl (sreg (sv (xtaN ni221 in221 rfl rfl) ?_)))))))))))))))))))))))))))))))))))))))))))))))))))))))))))))))))))))))
 refine sv (xex21 rfl) (sv (xex20 rfl) (send ((cno rfl (sreg (sv (xtaN ni226 in226 rfl rfl) (sv (xex21 rfl) (sv (xex20 rfl) (send ((cno rfl (sreg (sv (xtaY ni229 rfl) (sv (xex21 rfl) (sv (xex20 rfl) (send ((cyes rfl (sreg (sA rfl (send (fdg 2 4 19 rfl fun _ => lreg (svK (xslit (bvs []) sl37 in5 rfl (by decide) rfl rfl rfl rfl (by decide) rfl (bvs_one _)) ?_)))))))))))))))))))))))
 rintro _ w337 ⟨b260, rfl, m338, h260, e260, s260, r260⟩
 have hsr := hsr.keep m338 (by omega) id
 have hd := hd.keep (lU hU (by omega)) m338 nF
 refine sM rfl (sN rfl (sv (xfld fl231_1 rfl) (sv (xld on37 rfl (hsr.c 1 rfl rfl)) (svK (xapp sl37 in5 rfl (by decide) rfl rfl r260 (hd.src sl37) (by simp only [maxLen]; omega) (by omega)) ?_))))
 rintro _ w339 ⟨g265, r265, m340, a265, l265⟩
 have z341 := m340.size
 obtain ⟨p265, q265, rfl, -⟩ := r265.form
 have h4 := (h4.k m338).keep m340 (nE (by omega))
 refine sv (xfld fl112_5 rfl) (suK (xstF 5 sz3 h4 rfl rfl rfl rfl rfl) ?_)
 rintro w343 ⟨m344, h4, s342⟩
 refine sv (xfld fl112_6 rfl) (suK (xstF 6 sz37 h4 rfl rfl rfl rfl rfl) ?_)
 rintro w346 ⟨m347, h4, s345⟩
 have h2 := (((h2.k m338).keep m340 (nE (by omega))).keep m344 (nE (by omega))).keep m347 (nE (by omega))
 refine lend (nBlock (nThen (fcg 2 4 rfl fun _ => sreg (sv (xldS (lens := lRec) ro112 rfl h4.r) (suK (xstW h2 (lens' := lRec) sz112 rfl rfl rfl rfl rfl) ?_)))))
 rintro w349 ⟨m350, h2, s348⟩
 refine send (fbg 2 rfl fun _ => wp_ret (rp1 rfl ⟨_, rfl, ldS (lens := lRec) ro112 h2.r⟩ ?_))
 rw [norm_unk hk]
 have hf := ((((hf.s m338).t m340 (by omega)).t m344 (by omega)).t m347 (by omega)).t m350 (by omega)
 have r265 := ((r265.keep m344 (nE (by omega))).keep m347 (nE (by omega))).keep m350 (nE (by omega))
 exact ⟨_, _, _, ag_rec (r' := { rec0 r l with data := r.data }) (k := 13) hk rfl, (BR.ba (show BR _ _ _ _ r.data from r265) (.inr ⟨by omega, by omega⟩)), LA.nil, LA.nil, hf⟩
end Go.Proofs.YtifnodoffgfpbaaGreatDoor

namespace Go.Proofs.YtifnodoffgfpbaaGreatDoor
open Go

theorem u16_of {len : Nat} (h : len < 65536) : ∃ l : UInt16, len = l.toNat := ⟨UInt16.ofNat len, by rw [UInt16.toNat_ofNat']; omega⟩
theorem msg_of {w : World} {v : Value} {g n n0 : Nat} {xs : List UInt8} (h : Rw w v g 5 1 n0 (bvs xs)) (hn : xs.length = n) (hn0 : n0 = n) (h0 : 0 < w.heap.size) (hg : 0 < n → g < w.heap.size) : ∃ a c bm, v = .slice a n c ∧ n ≤ c ∧ (n ≠ 0 → a = some ⟨bm, 0, none⟩) ∧ w.rangeAt bm 0 (bvs xs) ∧ bm < w.heap.size ∧ (bm = 0 ∨ bm = g) := by
  subst hn0
  obtain ⟨a, c, rfl, h1, _, h3, _⟩ := h.form
  by_cases hz : n0 = 0
  · subst hz
    obtain rfl : xs = [] := List.eq_nil_of_length_eq_zero hn
    exact ⟨a, c, 0, rfl, h1, fun h => absurd rfl h, fun j u hu => by simp [bvs] at hu, h0, .inl rfl⟩
  · exact ⟨a, c, g, rfl, h1, fun _ => h3 (by omega), h.rng, hg (by omega), .inr rfl⟩

theorem c50 {w : World} {U : Nat → Prop} (hU : ∀ k, U k → k < w.heap.size) {v : Value} {l : List RecD} (hl : LA ResV lRes U w v l) (hn : l.length ≤ 1048576) (hok : ∀ r ∈ l, NamesOk r ∧ r.pairs.length ≤ 1048576 ∧ r.texts.length ≤ 1048576 ∧ r.data.length ≤ 1048576 ∧ ∀ q ∈ r.pairs, q.data.length ≤ 65535) :
  Ret PP 50 [v] w (fun u w' => ∃ l', LA RecEl lRec (Ub U w w') w' u l' ∧ All2 Like l' l ∧ Fr0 w w') := by
 obtain ⟨a0, c0, rfl⟩ := hl.form
 have hf : Fr (fun _ => False) w w := Fr.refl _ _
 refine ret_of Tryz.func50 rfl rfl rfl [(0, _)] rfl ?_
 refine sreg (sA rfl (send (fbg 0 rfl fun _ => sreg (svK (xslit ([]) sl26 in112 rfl (by decide) rfl rfl rfl rfl (by decide) rfl rfl) ?_))))
 rintro _ w2 ⟨b6, rfl, m3, h6, e6, s6, r6⟩
 have hv3 : RX RecEl lRec U w.heap.size w2.heap.size w2 _ b6 112 0 [] := RX.ofNil r6
 refine sA rfl (send ((wp_seq (sreg (sM rfl (sv (xlen sl75 rfl) (sM rfl (send (feg 3 7 8 9 rfl fun _ => wp_block (lp [(7, _), (8, _)] (fun (x : Nat × Value × Nat × List RecD) => match x with | (k, v, g, l1) => [(3, v), (9, .int .i64 (k : Int))]) (fun (x : Nat × Value × Nat × List RecD) wx => match x with | (k, v, g, l1) => Fr (fun k => k = b6) w2 wx ∧ (k ≤ l.length) ∧ (All2 Like l1 (l.take k)) ∧ (RX RecEl lRec U w.heap.size wx.heap.size wx v g 112 k l1) ∧ (w.heap.size ≤ g) ∧ (g < wx.heap.size) ∧ (g = b6 ∨ w2.heap.size ≤ g)) (fun (x : Nat × Value × Nat × List RecD) => match x with | (k, v, g, l1) => l.length - k) (0, _, b6, []) ⟨rfl, rfl, rfl, rfl, trivial⟩ ⟨Fr.refl _ _, Nat.zero_le _, All2.nil, hv3, by omega, by omega, .inl rfl⟩ ?_))))))))))
 rintro ⟨k, v, g, l1⟩ _ w5 ⟨hL4, hk, hA, hv3, hg, hg2, hg3⟩
 refine feg 3 7 8 9 rfl fun _ => ?_
 have z6 := hL4.size
 obtain ⟨a3, c3, rfl⟩ := RA.form hv3
 have hf := (hf.s m3).t hL4 (by omega)
 refine sreg (svP (xlss rfl rfl) (fun hc10 => ?_) (fun hc10 => ?_))
 rotate_left
 ·
  refine send ((wp_seq (cno rfl (wp_exit (eThen (eThen (eHit (nThen ((sreg (sM rfl (sA rfl (send (fbg 2 rfl fun _ => wp_ret (rp1 rfl rfl ?_)))))))))))))))
  have e1 : l.take k = l := List.take_of_length_le (by omega)
  rw [e1] at hA
  exact ⟨l1, RX.la hv3 (by decide) rec_gr (fun k hk => hk.elim .inl .inr) (.inr ⟨hg, hg2⟩), hA, hf⟩
 refine send ((wp_seq (cyes rfl (wp_skip (nThen (feg 3 7 8 9 rfl fun _ => wp_seq (wp_block ?_)))))))
 obtain ⟨r, hrk⟩ := some_of_lt (by omega : k < l.length)
 have hl := (hl.keep resv_st (lU hU (by omega)) m3 nF).keep resv_st (lU hU (by omega)) hL4 (nU hU (by omega))
 refine sreg ?_
 obtain ⟨bE11, oE11, sgE11, rfl, uE11, hsE11, heE11⟩ := LA.get hl hrk
 obtain ⟨len, vb, hl16, rfl, hbe⟩ := heE11
 have zE11 := hU _ uE11
 obtain ⟨bB, TB, lB, sB, rfl, -⟩ := id hbe
 obtain ⟨l0, rfl⟩ := u16_of hl16
 refine sv (xidx sl75 sz139 rfl rfl rfl (by omega)) (sv (xldS (lens := [256, 1, 1, 1, 1, 1]) ro139 rfl hsE11) (svK (xallS (lens := [256, 1, 1, 1, 1, 1]) in139 (by simp [nm_length])) ?_))
 rintro _ w8 ⟨b5, rfl, m9, h5, e7, s7⟩
 refine suK (xstW h5 (lens' := [256, 1, 1, 1, 1, 1]) sz139 (by simp [rhSegs, nm_length]) rfl (by simp only [rhSegs, List.cons_append, List.nil_append, fC, fN, aA, aN, nm_one, bT] <;> rfl) rfl rfl) ?_
 rintro w11 ⟨m12, h5, s10⟩
 have hbe := (hbe.keep (lU hU (by omega)) m9 nF).keep (lU hU (by omega)) m12 (nU hU (by omega))
 have hv3 := RX.keep (RX.keep hv3 rec_st (lU hU (by omega)) (by omega) m9 (fun _ _ _ h => h) id) rec_st (lU hU (by omega)) (by omega) m12 (fun k hk hk3 hS => by have hS : k = b5 := hS; rcases hk with hk | hk <;> first | omega | (have := hU k hk; omega)) (nE (by omega))
 refine send (ffg 3 5 7 8 9 rfl fun _ => lreg (sM rfl (sv (xldS (lens := [256, 1, 1, 1, 1, 1]) ro139 rfl h5.r) (sc (xcall ca64 rfl) (c64 (U := U) (lU hU (by omega)) hbe (hok r (List.mem_of_getElem? hrk)).1 (hok r (List.mem_of_getElem? hrk)).2.1 (hok r (List.mem_of_getElem? hrk)).2.2.1 (hok r (List.mem_of_getElem? hrk)).2.2.2.1 (hok r (List.mem_of_getElem? hrk)).2.2.2.2) ?_))))
 rintro _ w13 ⟨vd, vt, vp, rfl, hd, ht, hp, m14⟩
 have z15 := m14.size
 obtain ⟨ad, cd, rfl, -⟩ := id hd
 obtain ⟨at1, ct1, rfl⟩ := ht.form
 obtain ⟨ap1, cp1, rfl⟩ := hp.form
 have hv3 := RX.keep hv3 rec_st (lU hU (by omega)) (by omega) m14 (fun _ _ _ h => h) id
 refine svK (xslit ((recSegs (normR r l0) (.slice ad (normR r l0).data.length cd) (.slice at1 (normR r l0).texts.length ct1) (.slice ap1 (normR r l0).pairs.length cp1)).flatten) sl26 in112 rfl (by decide) rfl rfl rfl rfl (by decide) (ag_flat _) rfl) ?_
 rintro _ w17 ⟨b16, rfl, m18, h16, e16, s16, r16⟩
 have hv3 := RX.keep hv3 rec_st (lU hU (by omega)) (by omega) m18 (fun _ _ _ h => h) id
 obtain ⟨ss17, hR17, hA17⟩ := hv3
 refine svK (xapp sl26 in112 rfl (by decide) rfl rfl hR17 (r16.src sl26) (by simp only [maxLen]; omega) (by omega)) ?_
 rintro v17 w19 ⟨g17, r17, m20, a17, l17⟩
 have z21 := m20.size
 have hd := (hd.keep (lUb hU (by omega) (by omega)) m18 nF).keep (lUb hU (by omega) (by omega)) m20 (nUb hU (by omega) (by omega))
 have ht := (ht.keep text_st (lUb hU (by omega) (by omega)) m18 nF).keep text_st (lUb hU (by omega) (by omega)) m20 (nUb hU (by omega) (by omega))
 have hp := (hp.keep pair_st (lUb hU (by omega) (by omega)) m18 nF).keep pair_st (lUb hU (by omega) (by omega)) m20 (nUb hU (by omega) (by omega))
 have hv3 := RX.snoc (x := (normR r l0)) w19.heap.size hA17 rec_st rec_gr (lU hU (by omega)) (by omega) (by omega) m20 a17 r17 rfl (⟨_, _, _, rfl, hd.mono (fun k h => ⟨h.elim .inl (fun h => .inr ⟨by omega, by omega⟩), by have h := Ub.num hU h; omega⟩), ht.mono text_gr (fun k h => ⟨h.elim .inl (fun h => .inr ⟨by omega, by omega⟩), by have h := Ub.num hU h; omega⟩), hp.mono pair_gr (fun k h => ⟨h.elim .inl (fun h => .inr ⟨by omega, by omega⟩), by have h := Ub.num hU h; omega⟩)⟩)
 have hL4 := ((((hL4.s m9).step m12 (fun k hk hS => by have hS : k = b5 := hS; show k = b6; omega)).s m14).s m18).step m20 (fun k hk hS => by have hS : k = g := hS; show k = b6; omega)
 refine sA rfl (lend (nBlock (nThen (feg 3 7 8 9 rfl fun _ => lreg (sv (xadd rfl rfl (w64 (by omega) (by omega))) (sM rfl (lend (nThen ?_))))))))
 refine ⟨(k + 1, _, g17, l1 ++ [normR r l0]), _, env_okl ⟨rfl, rfl, rfl, rfl, trivial⟩, ⟨hL4, (by omega), (by rw [take_snoc hrk]; exact hA.snoc ⟨l0, rfl⟩), (RX.up rec_gr hv3 (by omega)), (by omega), (l17 (by omega)), (by omega)⟩, ?_⟩
 show l.length - (k + 1) < l.length - k; omega
theorem c23 {w : World} {U : Nat → Prop} (hU : ∀ k, U k → k < w.heap.size) {m' m : MsgD} {ua u1 u2 u3 va v1 v2 v3 : Value} (hL : LikeM m' m) (pa : LA AskEl lAsk U w ua m'.asks) (p1 : LA RecEl lRec U w u1 m'.one) (p2 : LA RecEl lRec U w u2 m'.two) (p3 : LA RecEl lRec U w u3 m'.three) (qa : LA AskEl lAsk U w va m.asks) (q1 : LA RecEl lRec U w v1 m.one) (q2 : LA RecEl lRec U w v2 m.two) (q3 : LA RecEl lRec U w v3 m.three) (_hal : m.asks.length ≤ 1048576) (hbl : m.one.length ≤ 1048576) (hcl : m.two.length ≤ 1048576) (hdl : m.three.length ≤ 1048576) :
  Ret PP 23 [ag (msgSegs m'.head ua u1 u2 u3), ag (msgSegs m.head va v1 v2 v3)] w (fun u w' => u = .bool true ∧ Fr0 w w') := by
 obtain ⟨hLh, hLa, hL1, hL2, hL3⟩ := hL
 have k1 := hL1.1
 have k2 := hL2.1
 have k3 := hL3.1
 have ka : m'.asks.length = m.asks.length := by rw [hLa]
 obtain ⟨apa, cpa, rfl⟩ := pa.form
 obtain ⟨ap1, cp1, rfl⟩ := p1.form
 obtain ⟨ap2, cp2, rfl⟩ := p2.form
 obtain ⟨ap3, cp3, rfl⟩ := p3.form
 obtain ⟨aqa, cqa, rfl⟩ := qa.form
 obtain ⟨aq1, cq1, rfl⟩ := q1.form
 obtain ⟨aq2, cq2, rfl⟩ := q2.form
 obtain ⟨aq3, cq3, rfl⟩ := q3.form
 have hf : Fr (fun _ => False) w w := Fr.refl _ _
 refine ret_of Tryz.func23 rfl rfl rfl [(0, _), (1, _)] rfl ?_
 refine sreg (svK (xboxS (lens := lMsg) rfl rfl) ?_)
 rintro _ w2 ⟨b2, rfl, m3, h2, e1, s1⟩
 refine svK (xboxS (lens := lMsg) rfl rfl) ?_
 rintro _ w5 ⟨b3, rfl, m6, h3, e4, s4⟩
 have h2 := h2.k m6
 refine sA rfl (send ((wp_seq (sreg (sv (xfld fl28_2 rfl) (sv (xld on26 rfl (h2.r.c 11 rfl rfl)) (sv (xlen sl26 rfl) (sv (xfld fl28_2 rfl) (sv (xld on26 rfl (h3.r.c 11 rfl rfl)) (sv (xlen sl26 rfl) (sv (exF (xneq rfl rfl) (by omega)) (sM rfl (gyes rfl rfl rfl (sv (xfld fl28_3 rfl) (gyes rfl rfl rfl (sv (xld on26 rfl (h2.r.c 12 rfl rfl)) (gyes rfl rfl rfl (sv (xlen sl26 rfl) (gyes rfl rfl rfl (sv (xfld fl28_3 rfl) (gyes rfl rfl rfl (sv (xld on26 rfl (h3.r.c 12 rfl rfl)) (gyes rfl rfl rfl (sv (xlen sl26 rfl) (gyes rfl rfl rfl (sv (exF (xneq rfl rfl) (by omega)) (sv (xpickF rfl rfl) (sM rfl (gyes rfl rfl rfl (sv (xfld fl28_4 rfl) (gyes rfl rfl rfl (sv (xld on26 rfl (h2.r.c 13 rfl rfl)) (gyes rfl rfl rfl (sv (xlen sl26 rfl) (gyes rfl rfl rfl (sv (xfld fl28_4 rfl) (gyes rfl rfl rfl (sv (xld on26 rfl (h3.r.c 13 rfl rfl)) (gyes rfl rfl rfl (sv (xlen sl26 rfl) (gyes rfl rfl rfl (sv (exF (xneq rfl rfl) (by omega)) (sv (xpickF rfl rfl) (sM rfl (gyes rfl rfl rfl (sv (xfld fl28_1 rfl) (gyes rfl rfl rfl (sv (xld on25 rfl (h2.r.c 10 rfl rfl)) (gyes rfl rfl rfl (sv (xlen sl25 rfl) (gyes rfl rfl rfl (sv (xfld fl28_1 rfl) (gyes rfl rfl rfl (sv (xld on25 rfl (h3.r.c 10 rfl rfl)) (gyes rfl rfl rfl (sv (xlen sl25 rfl) (gyes rfl rfl rfl (sv (exF (xneq rfl rfl) (by omega)) (sv (xpickF rfl rfl) (send ((cno rfl (wp_skip (nThen ((wp_seq (sreg (sv (xfld fl28_2 rfl) (sv (xld on26 rfl (h2.r.c 11 rfl rfl)) (sv (xlen sl26 rfl) (sM rfl (send (ffg 2 3 46 47 48 rfl fun _ => wp_block (lp [(2, _), (3, _), (46, _), (47, _)] (fun (k : Nat) => [(48, .int .i64 (k : Int))]) (fun (k : Nat) wx => Fr (fun _ => False) w5 wx ∧ (k ≤ m'.one.length)) (fun (k : Nat) => m'.one.length - k) 0 ⟨rfl, rfl, rfl, rfl, rfl, trivial⟩ ⟨Fr.refl _ _, Nat.zero_le _⟩ ?_))))))))))))))))))))))))))))))))))))))))))))))))))))))))))))))))))))))))))
 rintro k _ w8 ⟨hL7, hk⟩
 refine ffg 2 3 46 47 48 rfl fun _ => ?_
 have z9 := hL7.size
 have p2 := ((p2.keep rec_st (lU hU (by omega)) m3 nF).keep rec_st (lU hU (by omega)) m6 nF).keep rec_st (lU hU (by omega)) hL7 nF
 have p3 := ((p3.keep rec_st (lU hU (by omega)) m3 nF).keep rec_st (lU hU (by omega)) m6 nF).keep rec_st (lU hU (by omega)) hL7 nF
 have q2 := ((q2.keep rec_st (lU hU (by omega)) m3 nF).keep rec_st (lU hU (by omega)) m6 nF).keep rec_st (lU hU (by omega)) hL7 nF
 have q3 := ((q3.keep rec_st (lU hU (by omega)) m3 nF).keep rec_st (lU hU (by omega)) m6 nF).keep rec_st (lU hU (by omega)) hL7 nF
 have hf := ((hf.s m3).s m6).s hL7
 have h2 := h2.k hL7
 have h3 := h3.k hL7
 refine sreg (svP (xlss rfl rfl) (fun hc49 => ?_) (fun hc49 => ?_))
 ·
  refine send ((wp_seq (cyes rfl (wp_skip (nThen (ffg 2 3 46 47 48 rfl fun _ => wp_seq (wp_block ?_)))))))
  obtain ⟨r, hrk⟩ := some_of_lt (by omega : k < m'.one.length)
  obtain ⟨r2, hr2k⟩ := some_of_lt (by omega : k < m.one.length)
  obtain ⟨ln, rfl⟩ := hL1.2 k r r2 hrk hr2k
  have p1 := ((p1.keep rec_st (lU hU (by omega)) m3 nF).keep rec_st (lU hU (by omega)) m6 nF).keep rec_st (lU hU (by omega)) hL7 nF
  refine sreg (sM rfl ?_)
  obtain ⟨bE51, oE51, sgE51, rfl, uE51, hsE51, heE51⟩ := LA.get p1 hrk
  obtain ⟨vd, vt, vp, rfl, hd, ht, hp⟩ := heE51
  have zE51 := hU _ uE51
  obtain ⟨ad, cd, rfl, -⟩ := id hd
  obtain ⟨at1, ct1, rfl⟩ := ht.form
  obtain ⟨ap1, cp1, rfl⟩ := hp.form
  refine sv (xidx sl26 sz112 rfl rfl rfl (by omega)) (sv (xldS (lens := lRec) ro112 rfl hsE51) (svK (xallS (lens := lRec) in112 (by simp [])) ?_))
  rintro _ w11 ⟨b6, rfl, m12, h6, e10, s10⟩
  refine sA rfl (suK (xstW h6 (lens' := lRec) sz112 rfl rfl rfl rfl rfl) ?_)
  rintro w14 ⟨m15, h6, s13⟩
  refine send (fhg 2 3 5 6 46 47 48 rfl fun _ => ?_)
  refine sdrawH (Fr (fun _ => False) w14.drew) [rd0, rd1, rd2, rd3, rd4, rd5, rd6, rd7, rd8] mixed (by kernel_rfl) (fun _ _ _ _ _ h => h) ?_
  have z16 : w14.drew.heap.size = w14.heap.size := rfl
  have hS17 : Fr (fun _ => False) w14.drew w14.drew := Fr.refl _ _
  have h3 := ((h3.k m12).keep m15 (nE (by omega))).drew
  have h6 := h6.drew
  have q1 := (((((q1.keep rec_st (lU hU (by omega)) m3 nF).keep rec_st (lU hU (by omega)) m6 nF).keep rec_st (lU hU (by omega)) hL7 nF).keep rec_st (lU hU (by omega)) m12 nF).keep rec_st (lU hU (by omega)) m15 (nU hU (by omega))).keep rec_st (lU hU (by omega)) (fd w14) nF
  refine hvH rfl (fun _ _ => xfld fl112_5 rfl) hS17 (hvH rfl (fun w' hS => xld on3 rfl ((h6.k hS).r.c 5 rfl rfl)) hS17 (hvH rfl (fun _ _ => xfld fl28_2 rfl) hS17 (hvH rfl (fun w' hS => xld on26 rfl ((h3.k hS).r.c 11 rfl rfl)) hS17 (qqM rfl rfl hS17 ?_))))
  obtain ⟨bE58, oE58, sgE58, rfl, uE58, hsE58, heE58⟩ := LA.get q1 hr2k
  obtain ⟨vd2, vt2, vp2, rfl, -⟩ := heE58
  have zE58 := hU _ uE58
  have hL7 := ((hL7.s m12).t m15 (by omega)).drew
  refine hvH rfl (fun _ _ => xidx sl26 sz112 rfl rfl rfl (by omega)) hS17 (hvH rfl (fun _ _ => xfld fl112_5 rfl) hS17 (hvH rfl (fun w' hS => xld on3 rfl ((hsE58.keep hS (by omega) id).c 5 rfl rfl)) hS17 (hvH rfl (fun _ _ => exF (xneq rfl rfl) (fun h => h rfl)) hS17 (hendH ((cno rfl (wp_skip (nBlock (nThen (ffg 2 3 46 47 48 rfl fun _ => lreg (sv (xadd rfl rfl (w64 (by omega) (by omega))) (sM rfl (lend (nThen ?_))))))))))))))
  refine ⟨k + 1, _, env_okl ⟨rfl, rfl, rfl, rfl, rfl, trivial⟩, ⟨hL7, (by omega)⟩, ?_⟩
  show m'.one.length - (k + 1) < m'.one.length - k; omega
 refine send ((wp_seq (cno rfl (wp_exit (eThen (eThen (eHit (nThen ((wp_seq (sreg (sv (xfld fl28_3 rfl) (sv (xld on26 rfl (h2.r.c 12 rfl rfl)) (sv (xlen sl26 rfl) (sM rfl (send (ffg 2 3 64 65 66 rfl fun _ => wp_block (lp [(2, _), (3, _), (64, _), (65, _)] (fun (k : Nat) => [(66, .int .i64 (k : Int))]) (fun (k : Nat) wx => Fr (fun _ => False) w8 wx ∧ (k ≤ m'.two.length)) (fun (k : Nat) => m'.two.length - k) 0 ⟨rfl, rfl, rfl, rfl, rfl, trivial⟩ ⟨Fr.refl _ _, Nat.zero_le _⟩ ?_))))))))))))))))))
 rintro k _ w19 ⟨hL18, hk⟩
 refine ffg 2 3 64 65 66 rfl fun _ => ?_
 have z20 := hL18.size
 have p3 := p3.keep rec_st (lU hU (by omega)) hL18 nF
 have q3 := q3.keep rec_st (lU hU (by omega)) hL18 nF
 have hf := hf.s hL18
 have h2 := h2.k hL18
 have h3 := h3.k hL18
 refine sreg (svP (xlss rfl rfl) (fun hc67 => ?_) (fun hc67 => ?_))
 ·
  refine send ((wp_seq (cyes rfl (wp_skip (nThen (ffg 2 3 64 65 66 rfl fun _ => wp_seq (wp_block ?_)))))))
  obtain ⟨r, hrk⟩ := some_of_lt (by omega : k < m'.two.length)
  obtain ⟨r2, hr2k⟩ := some_of_lt (by omega : k < m.two.length)
  obtain ⟨ln, rfl⟩ := hL2.2 k r r2 hrk hr2k
  have p2 := p2.keep rec_st (lU hU (by omega)) hL18 nF
  refine sreg (sM rfl ?_)
  obtain ⟨bE69, oE69, sgE69, rfl, uE69, hsE69, heE69⟩ := LA.get p2 hrk
  obtain ⟨vd, vt, vp, rfl, hd, ht, hp⟩ := heE69
  have zE69 := hU _ uE69
  obtain ⟨ad, cd, rfl, -⟩ := id hd
  obtain ⟨at1, ct1, rfl⟩ := ht.form
  obtain ⟨ap1, cp1, rfl⟩ := hp.form
  refine sv (xidx sl26 sz112 rfl rfl rfl (by omega)) (sv (xldS (lens := lRec) ro112 rfl hsE69) (svK (xallS (lens := lRec) in112 (by simp [])) ?_))
  rintro _ w22 ⟨b8, rfl, m23, h8, e21, s21⟩
  refine sA rfl (suK (xstW h8 (lens' := lRec) sz112 rfl rfl rfl rfl rfl) ?_)
  rintro w25 ⟨m26, h8, s24⟩
  refine send (fhg 2 3 7 8 64 65 66 rfl fun _ => ?_)
  refine sdrawH (Fr (fun _ => False) w25.drew) [rd0, rd1, rd2, rd3, rd4, rd5, rd6, rd7, rd8] mixed (by kernel_rfl) (fun _ _ _ _ _ h => h) ?_
  have z27 : w25.drew.heap.size = w25.heap.size := rfl
  have hS28 : Fr (fun _ => False) w25.drew w25.drew := Fr.refl _ _
  have h3 := ((h3.k m23).keep m26 (nE (by omega))).drew
  have h8 := h8.drew
  have q2 := (((q2.keep rec_st (lU hU (by omega)) hL18 nF).keep rec_st (lU hU (by omega)) m23 nF).keep rec_st (lU hU (by omega)) m26 (nU hU (by omega))).keep rec_st (lU hU (by omega)) (fd w25) nF
  refine hvH rfl (fun _ _ => xfld fl112_5 rfl) hS28 (hvH rfl (fun w' hS => xld on3 rfl ((h8.k hS).r.c 5 rfl rfl)) hS28 (hvH rfl (fun _ _ => xfld fl28_3 rfl) hS28 (hvH rfl (fun w' hS => xld on26 rfl ((h3.k hS).r.c 12 rfl rfl)) hS28 (qqM rfl rfl hS28 ?_))))
  obtain ⟨bE76, oE76, sgE76, rfl, uE76, hsE76, heE76⟩ := LA.get q2 hr2k
  obtain ⟨vd2, vt2, vp2, rfl, -⟩ := heE76
  have zE76 := hU _ uE76
  have hL18 := ((hL18.s m23).t m26 (by omega)).drew
  refine hvH rfl (fun _ _ => xidx sl26 sz112 rfl rfl rfl (by omega)) hS28 (hvH rfl (fun _ _ => xfld fl112_5 rfl) hS28 (hvH rfl (fun w' hS => xld on3 rfl ((hsE76.keep hS (by omega) id).c 5 rfl rfl)) hS28 (hvH rfl (fun _ _ => exF (xneq rfl rfl) (fun h => h rfl)) hS28 (hendH ((cno rfl (wp_skip (nBlock (nThen (ffg 2 3 64 65 66 rfl fun _ => lreg (sv (xadd rfl rfl (w64 (by omega) (by omega))) (sM rfl (lend (nThen ?_))))))))))))))
  refine ⟨k + 1, _, env_okl ⟨rfl, rfl, rfl, rfl, rfl, trivial⟩, ⟨hL18, (by omega)⟩, ?_⟩
  show m'.two.length - (k + 1) < m'.two.length - k; omega
 refine send ((wp_seq (cno rfl (wp_exit (eThen (eThen (eHit (nThen ((wp_seq (sreg (sv (xfld fl28_4 rfl) (sv (xld on26 rfl (h2.r.c 13 rfl rfl)) (sv (xlen sl26 rfl) (sM rfl (send (feg 3 82 83 84 rfl fun _ => wp_block (lp [(3, _), (82, _), (83, _)] (fun (k : Nat) => [(84, .int .i64 (k : Int))]) (fun (k : Nat) wx => Fr (fun _ => False) w19 wx ∧ (k ≤ m'.three.length)) (fun (k : Nat) => m'.three.length - k) 0 ⟨rfl, rfl, rfl, rfl, trivial⟩ ⟨Fr.refl _ _, Nat.zero_le _⟩ ?_))))))))))))))))))
 rintro k _ w30 ⟨hL29, hk⟩
 refine feg 3 82 83 84 rfl fun _ => ?_
 have z31 := hL29.size
 have hf := hf.s hL29
 refine sreg (svP (xlss rfl rfl) (fun hc85 => ?_) (fun hc85 => ?_))
 rotate_left
 ·
  refine send ((wp_seq (cno rfl (wp_exit (eThen (eThen (eHit (nThen (fg [] trivial fun _ => sreg (sA rfl (send (fbg 4 rfl fun _ => wp_ret (rp1 rfl rfl ?_)))))))))))))
  exact ⟨rfl, hf⟩
 refine send ((wp_seq (cyes rfl (wp_skip (nThen (feg 3 82 83 84 rfl fun _ => wp_seq (wp_block ?_)))))))
 obtain ⟨r, hrk⟩ := some_of_lt (by omega : k < m'.three.length)
 obtain ⟨r2, hr2k⟩ := some_of_lt (by omega : k < m.three.length)
 obtain ⟨ln, rfl⟩ := hL3.2 k r r2 hrk hr2k
 have p3 := p3.keep rec_st (lU hU (by omega)) hL29 nF
 refine sreg (sM rfl ?_)
 obtain ⟨bE87, oE87, sgE87, rfl, uE87, hsE87, heE87⟩ := LA.get p3 hrk
 obtain ⟨vd, vt, vp, rfl, hd, ht, hp⟩ := heE87
 have zE87 := hU _ uE87
 obtain ⟨ad, cd, rfl, -⟩ := id hd
 obtain ⟨at1, ct1, rfl⟩ := ht.form
 obtain ⟨ap1, cp1, rfl⟩ := hp.form
 refine sv (xidx sl26 sz112 rfl rfl rfl (by omega)) (sv (xldS (lens := lRec) ro112 rfl hsE87) (svK (xallS (lens := lRec) in112 (by simp [])) ?_))
 rintro _ w33 ⟨b10, rfl, m34, h10, e32, s32⟩
 refine sA rfl (suK (xstW h10 (lens' := lRec) sz112 rfl rfl rfl rfl rfl) ?_)
 rintro w36 ⟨m37, h10, s35⟩
 refine send (fgg 3 9 10 82 83 84 rfl fun _ => ?_)
 refine sdrawH (Fr (fun _ => False) w36.drew) [rd0, rd1, rd2, rd3, rd4, rd5, rd6, rd7, rd8] mixed (by kernel_rfl) (fun _ _ _ _ _ h => h) ?_
 have z38 : w36.drew.heap.size = w36.heap.size := rfl
 have hS39 : Fr (fun _ => False) w36.drew w36.drew := Fr.refl _ _
 have h3 := (((h3.k hL29).k m34).keep m37 (nE (by omega))).drew
 have h10 := h10.drew
 have q3 := (((q3.keep rec_st (lU hU (by omega)) hL29 nF).keep rec_st (lU hU (by omega)) m34 nF).keep rec_st (lU hU (by omega)) m37 (nU hU (by omega))).keep rec_st (lU hU (by omega)) (fd w36) nF
 refine hvH rfl (fun _ _ => xfld fl112_5 rfl) hS39 (hvH rfl (fun w' hS => xld on3 rfl ((h10.k hS).r.c 5 rfl rfl)) hS39 (hvH rfl (fun _ _ => xfld fl28_4 rfl) hS39 (hvH rfl (fun w' hS => xld on26 rfl ((h3.k hS).r.c 13 rfl rfl)) hS39 (qqM rfl rfl hS39 ?_))))
 obtain ⟨bE94, oE94, sgE94, rfl, uE94, hsE94, heE94⟩ := LA.get q3 hr2k
 obtain ⟨vd2, vt2, vp2, rfl, -⟩ := heE94
 have zE94 := hU _ uE94
 have hL29 := ((hL29.s m34).t m37 (by omega)).drew
 refine hvH rfl (fun _ _ => xidx sl26 sz112 rfl rfl rfl (by omega)) hS39 (hvH rfl (fun _ _ => xfld fl112_5 rfl) hS39 (hvH rfl (fun w' hS => xld on3 rfl ((hsE94.keep hS (by omega) id).c 5 rfl rfl)) hS39 (hvH rfl (fun _ _ => exF (xneq rfl rfl) (fun h => h rfl)) hS39 (hendH ((cno rfl (wp_skip (nBlock (nThen (feg 3 82 83 84 rfl fun _ => lreg (sv (xadd rfl rfl (w64 (by omega) (by omega))) (sM rfl (lend (nThen ?_))))))))))))))
 refine ⟨k + 1, _, env_okl ⟨rfl, rfl, rfl, rfl, trivial⟩, ⟨hL29, (by omega)⟩, ?_⟩
 show m'.three.length - (k + 1) < m'.three.length - k; omega
end Go.Proofs.YtifnodoffgfpbaaGreatDoor

namespace Go.Proofs.YtifnodoffgfpbaaGreatDoor
open Go

theorem uu_mono {U : Nat → Prop} {w w' wa wb wc wd : World} {k : Nat} (h : Ub (Ub NoU wa wb) wc wd k) (h1 : w.heap.size ≤ wa.heap.size) (h2 : wb.heap.size ≤ w'.heap.size) (h3 : w.heap.size ≤ wc.heap.size) (h4 : wd.heap.size ≤ w'.heap.size) : Ub U w w' k := by
  rcases h with (h | h) | h
  · exact h.elim
  · exact .inr ⟨by omega, by omega⟩
  · exact .inr ⟨by omega, by omega⟩

end Go.Proofs.YtifnodoffgfpbaaGreatDoor

namespace Go.Proofs.YtifnodoffgfpbaaGreatDoor
open Go

theorem c26 {w : World} {U : Nat → Prop} (hU : ∀ k, U k → k < w.heap.size) {v : Value} {b : List UInt8} {n : Nat} {m : MsgD} (hd : BA U w v (b.take n)) (hnb : n ≤ b.length) (hfn : b.length ≤ n) (hbl : b.length < 100000000) (hG : GE w) (hsz : 21 ≤ w.heap.size) {Kp : Nat → Prop} (hMR : MsgR Kp b m) (hKp : ∀ k, Kp k → k ≤ 10 ∧ (k = 0 ∨ n = b.length)) (hho : m.head.ok) (l0 : m.asks.length < 65536) (l1 : m.one.length < 65536) (l2 : m.two.length < 65536) (l3 : m.three.length < 65536) (hna : ∀ a ∈ m.asks, nameL (bt a.name)) (hr1 : ∀ r ∈ m.one, ReadOk r ∧ (r.kind = 11 ∨ r.kind = 12 → asc r.pairs)) (hr2 : ∀ r ∈ m.two, ReadOk r ∧ (r.kind = 11 ∨ r.kind = 12 → asc r.pairs)) (hr3 : ∀ r ∈ m.three, ReadOk r ∧ (r.kind = 11 ∨ r.kind = 12 → asc r.pairs)) {Tz : TypeId} {xz : Option Addr} (hg0 : w.rangeAt 0 0 [.iface Tz (.pointer xz)]) (hCT : CmpT Tz) (hb1 : ∀ r ∈ m.one, NamesOk r ∧ r.pairs.length ≤ 1048576 ∧ r.texts.length ≤ 1048576 ∧ r.data.length ≤ 1048576 ∧ ∀ q ∈ r.pairs, q.data.length ≤ 65535) (hb2 : ∀ r ∈ m.two, NamesOk r ∧ r.pairs.length ≤ 1048576 ∧ r.texts.length ≤ 1048576 ∧ r.data.length ≤ 1048576 ∧ ∀ q ∈ r.pairs, q.data.length ≤ 65535) (hb3 : ∀ r ∈ m.three, NamesOk r ∧ r.pairs.length ≤ 1048576 ∧ r.texts.length ≤ 1048576 ∧ r.data.length ≤ 1048576 ∧ ∀ q ∈ r.pairs, q.data.length ≤ 65535)  :
  Ret PP 26 [v] w (fun u w' => (∃ (l1 l2 l3 : List RecD) (va v1 v2 v3 : Value), u = .tuple #[ag (msgSegs m.head va v1 v2 v3), .bool true] ∧ All2 Like l1 m.one ∧ All2 Like l2 m.two ∧ All2 Like l3 m.three ∧ LA AskEl lAsk (Ub NoU w w') w' va m.asks ∧ LA RecEl lRec (Ub NoU w w') w' v1 l1 ∧ LA RecEl lRec (Ub NoU w w') w' v2 l2 ∧ LA RecEl lRec (Ub NoU w w') w' v3 l3) ∧ Fr0 w w') := by
 obtain ⟨ad0, cd0, rfl, -⟩ := id hd
 have htl : (b.take n).length = n := by rw [List.length_take]; omega
 obtain ⟨hst, ea, eb, ec, hla, hl1, hl2, hl3⟩ := hMR
 have hz0 := listR_le hla (fun _ _ _ _ h => ask_le h)
 have hz1 := listR_le hl1 (fun _ _ _ _ h => rec_le h)
 have hz2 := listR_le hl2 (fun _ _ _ _ h => rec_le h)
 have hz3 := listR_le hl3 (fun _ _ _ _ h => rec_le h)
 have hst : Std b 0 (headL m.head [m.asks.length, m.one.length, m.two.length, m.three.length]) := hst
 have hf : Fr (fun _ => False) w w := Fr.refl _ _
 refine ret_of Tryz.func26 rfl rfl rfl [(0, _)] rfl ?_
 refine sreg (svK (xallS (lens := lMsg) in28 rfl) ?_)
 rintro _ w2 ⟨b2, rfl, m3, h2, e1, s1⟩
 refine sA rfl (send (fcg 0 2 rfl fun _ => sreg (sv (xbuildS [[.slice none 0 0], [.int .u16 0], [.int .u16 0], [.int .u16 0], [.int .u16 0], [.int .u16 0], [.int .u16 0], [.int .u8 0], [.int .i64 0], [.int .i64 0], [.bool false], [.int .i64 0], [.int .u16 0], [.int .u16 0]] zr124 ly124 rfl trivial (by simp [setAll, zs124])) (svK (xallS (lens := lMsg) in124 rfl) ?_))))
 rintro _ w5 ⟨b4, rfl, m6, h4, e4, s4⟩
 refine suK (xstW h4 (lens' := lMsg) sz124 rfl rfl rfl rfl rfl) ?_
 rintro w8 ⟨m9, h4, s7⟩
 have hd := ((hd.keep (lU hU (by omega)) m3 nF).keep (lU hU (by omega)) m6 nF).keep (lU hU (by omega)) m9 (nU hU (by omega))
 refine send (fdg 0 2 4 rfl fun _ => sreg (sM rfl (svK (xapp sl37 in5 rfl (by decide) rfl rfl (Rw.nil _ w8.heap.size _ _) (hd.src sl37) (by simp only [maxLen]; omega) (by omega)) ?_)))
 rintro v18 w10 ⟨g18, r18, m11, a18, l18⟩
 have z12 := m11.size
 obtain ⟨ma, mc, bm, rfl, hkm, hms, hm, hbm, hbg⟩ := msg_of (n := n) (xs := b.take n) (show Rw _ _ _ _ _ _ (bvs (b.take n)) from r18) htl (by omega) (by omega) (fun h => l18 (.inr (by omega)))
 have hG := (((hG.k0 m3 (by omega)).k0 m6 (by omega)).k1 m9 (by omega) (by omega)).keep (fun k hk => by omega) m11 (fun k hk hS => by have hk := hk; have hS : k = w8.heap.size := hS; omega)
 have hd := hd.keep (lU hU (by omega)) m11 (fun k hk hS => by have hk := hU k hk; have hS : k = w8.heap.size := hS; omega)
 have h4 := h4.keep m11 (by show ¬ (b4 = w8.heap.size); omega)
 refine sc (xcall ca55 rfl) (c55 (b := b) (hd := m.head) hms hm (by omega) hnb hkm hbl hG (by omega) h4 (by omega) (by omega) hho hst l0 l1 l2 l3 (by omega)) ?_
 rintro _ w13 ⟨⟨hle19, rfl, hP⟩ | ⟨hgt19, -⟩, m14⟩
 rotate_left
 · exact absurd hgt19 (by omega)
 have z15 := m14.size
 have hP : PrAt w13 b4 (.slice ma n mc) (m.head.id.toNat : Int) ((hbits m.head).toNat : Int) (m.asks.length : Int) (m.one.length : Int) (m.two.length : Int) (m.three.length : Int) 2 ((12 : Nat) : Int) 0 := ⟨_, _, _, hP⟩
 refine sM rfl (sE2 rfl (svK (xallS (lens := [1, 1, 1, 1, 1, 1, 1, 1, 1, 1]) in73 rfl) ?_))
 rintro _ w17 ⟨b5, rfl, m18, h5, e16, s16⟩
 refine suK (xstW h5 (lens' := [1, 1, 1, 1, 1, 1, 1, 1, 1, 1]) sz73 rfl rfl rfl rfl rfl) ?_
 rintro w20 ⟨m21, h5, s19⟩
 have hg0 := rng_fr (rng_fr (rng_fr (rng_fr (rng_fr (rng_fr (rng_fr hg0 m3 (by omega) id) m6 (by omega) id) m9 (by omega) (nE (by omega))) m11 (by omega) (by show ¬ (0 = w8.heap.size); omega)) m14 (by omega) (nE (by omega))) m18 (by omega) id) m21 (by omega) (nE (by omega))
 have hG := ((hG.k1 m14 (by omega) (by omega)).k0 m18 (by omega)).k1 m21 (by omega) (by omega)
 have hm := rng_fr (rng_fr (rng_fr hm m14 (by omega) (nE (by omega))) m18 (by omega) id) m21 (by omega) (nE (by omega))
 have hP := (hP.k m18).keep m21 (nE (by omega))
 refine sA rfl (send ((wp_seq (sreg (sM rfl (sv (xneN if89 rfl) (send ((cno rfl (wp_skip (nThen (fdg 2 4 5 rfl fun _ => sreg (sc (xcall ca56 rfl) (c56 (b := b) (Kp := Kp) (e := ea) (asks := m.asks) hms hm (by omega) hnb hkm hbl hP hg0 hG (by omega) (by omega) hCT (by omega) hKp (by omega) (by omega) cnt2 l0 hla hna) ?_)))))))))))))
 rintro _ w22 ⟨⟨hle26, v26, rfl, hL56, hP⟩ | ⟨hgt26, -⟩, m23⟩
 rotate_left
 · exact absurd hgt26 (by omega)
 have z24 := m23.size
 obtain ⟨aq26, cq26, rfl⟩ := hL56.form
 have hG := hG.k1 m23 (by omega) (by omega)
 have hg0 := rng_fr hg0 m23 (by omega) (nE (by omega))
 have hm := rng_fr hm m23 (by omega) (nE (by omega))
 refine sM rfl (sE2 rfl (sA rfl (sA rfl (send (ffg 2 4 5 7 8 rfl fun _ => sreg (sc (xcall ca57 rfl) (c57 (b := b) (Kp := Kp) (e := eb) (l := m.one) hms hm (by omega) hnb hkm hbl hP hg0 hG (by omega) (by omega) hCT (by omega) hKp (by omega) (by omega) (B := 0) (mb := 0) (sf := fun _ => emptyB) (Nat.zero_le _) cnt3 l1 hl1 hr1 (.inl (by omega))) ?_))))))
 rintro _ w25 ⟨⟨hle30, v30, rfl, hL57, hP⟩ | ⟨hgt30, -⟩, m26⟩
 rotate_left
 · exact absurd hgt30 (by omega)
 have z27 := m26.size
 obtain ⟨aq30, cq30, rfl⟩ := hL57.form
 have hG := hG.k1 m26 (by omega) (by omega)
 have hg0 := rng_fr hg0 m26 (by omega) (nE (by omega))
 have hm := rng_fr hm m26 (by omega) (nE (by omega))
 have hL56 := hL56.keep qel_st (lNo (by omega)) m26 (lN1 (by omega))
 refine sM rfl (sE2 rfl (sA rfl (sA rfl (send (fhg 2 4 5 7 8 9 10 rfl fun _ => sreg (sc (xcall ca58 rfl) (c58 (b := b) (Kp := Kp) (e := ec) (l := m.two) hms hm (by omega) hnb hkm hbl hP hg0 hG (by omega) (by omega) hCT (by omega) hKp (by omega) (by omega) (B := 0) (mb := 0) (sf := fun _ => emptyB) (Nat.zero_le _) cnt4 l2 hl2 hr2 (.inl (by omega))) ?_))))))
 rintro _ w28 ⟨⟨hle34, v34, rfl, hL58, hP⟩ | ⟨hgt34, -⟩, m29⟩
 rotate_left
 · exact absurd hgt34 (by omega)
 have z30 := m29.size
 obtain ⟨aq34, cq34, rfl⟩ := hL58.form
 have hG := hG.k1 m29 (by omega) (by omega)
 have hg0 := rng_fr hg0 m29 (by omega) (nE (by omega))
 have hm := rng_fr hm m29 (by omega) (nE (by omega))
 have hL56 := hL56.keep qel_st (lNo (by omega)) m29 (lN1 (by omega))
 have hL57 := hL57.keep resv_st (lNo (by omega)) m29 (lN1 (by omega))
 refine sM rfl (sE2 rfl (sA rfl (sA rfl (send (fjg 2 4 5 7 8 9 10 11 12 rfl fun _ => sreg (sc (xcall ca59 rfl) (c59 (b := b) (Kp := Kp) (e := b.length) (l := m.three) hms hm (by omega) hnb hkm hbl hP hg0 hG (by omega) (by omega) hCT (by omega) hKp (by omega) (by omega) (B := 0) (mb := 0) (sf := fun _ => emptyB) (Nat.zero_le _) cnt5 l3 hl3 hr3 (.inl (by omega))) ?_))))))
 rintro _ w31 ⟨⟨hle38, v38, rfl, hL59, hP⟩ | ⟨hgt38, -⟩, m32⟩
 rotate_left
 · exact absurd hgt38 (by omega)
 have z33 := m32.size
 obtain ⟨aq38, cq38, rfl⟩ := hL59.form
 have h5 := (((h5.keep m23 (nE (by omega))).keep m26 (nE (by omega))).keep m29 (nE (by omega))).keep m32 (nE (by omega))
 have hL56 := hL56.keep qel_st (lNo (by omega)) m32 (lN1 (by omega))
 have hL57 := hL57.keep resv_st (lNo (by omega)) m32 (lN1 (by omega))
 have hL58 := hL58.keep resv_st (lNo (by omega)) m32 (lN1 (by omega))
 refine sM rfl (sE2 rfl (sA rfl (sA rfl (send ((wp_seq (sreg (sM rfl (sv (xneN if89 rfl) (sM rfl (gyes rfl rfl rfl (sM rfl (gyes rfl rfl rfl (sv (xneN if89 rfl) (sv (xpickF rfl rfl) (sM rfl (gyes rfl rfl rfl (sM rfl (gyes rfl rfl rfl (sv (xneN if89 rfl) (sv (xpickF rfl rfl) (sM rfl (gyes rfl rfl rfl (sM rfl (gyes rfl rfl rfl (sv (xneN if89 rfl) (sv (xpickF rfl rfl) (send ((cno rfl (wp_skip (nThen (fgg 2 5 7 9 11 13 rfl fun _ => sreg (sv (xldS (lens := [1, 1, 1, 1, 1, 1, 1, 1, 1, 1]) ro73 rfl h5.r) (sc (xcall ca48 rfl) (c48) ?_)))))))))))))))))))))))))))))))))))
 rintro _ w34 ⟨rfl, m35⟩
 have z36 := m35.size
 have hL56 := hL56.keep qel_st (lNo (by omega)) m35 nF
 refine sM rfl (sc (xcall ca49 rfl) (c49 (U := Ub NoU w20 w22) (fun k hk => by have hk := (show w20.heap.size ≤ k ∧ k < w22.heap.size from hk.elim (fun h => h.elim) id); omega) hL56 (by omega) (fun a ha => by have := (name_pos (hna a ha)).2; omega)) ?_)
 rintro v59 w37 ⟨L59, m38⟩
 have z39 := m38.size
 obtain ⟨aq59, cq59, rfl⟩ := L59.form
 have hL57 := (hL57.keep resv_st (lNo (by omega)) m35 nF).keep resv_st (lNo (by omega)) m38 nF
 refine sM rfl (sc (xcall ca50 rfl) (c50 (U := Ub NoU w22 w25) (fun k hk => by have hk := (show w22.heap.size ≤ k ∧ k < w25.heap.size from hk.elim (fun h => h.elim) id); omega) hL57 (by omega) hb1) ?_)
 rintro v61 w40 ⟨l61, L61, hA61, m41⟩
 have z42 := m41.size
 obtain ⟨aq61, cq61, rfl⟩ := L61.form
 have hL58 := ((hL58.keep resv_st (lNo (by omega)) m35 nF).keep resv_st (lNo (by omega)) m38 nF).keep resv_st (lNo (by omega)) m41 nF
 refine sM rfl (sc (xcall ca50 rfl) (c50 (U := Ub NoU w25 w28) (fun k hk => by have hk := (show w25.heap.size ≤ k ∧ k < w28.heap.size from hk.elim (fun h => h.elim) id); omega) hL58 (by omega) hb2) ?_)
 rintro v63 w43 ⟨l63, L63, hA63, m44⟩
 have z45 := m44.size
 obtain ⟨aq63, cq63, rfl⟩ := L63.form
 have hL59 := (((hL59.keep resv_st (lNo (by omega)) m35 nF).keep resv_st (lNo (by omega)) m38 nF).keep resv_st (lNo (by omega)) m41 nF).keep resv_st (lNo (by omega)) m44 nF
 refine sM rfl (sc (xcall ca50 rfl) (c50 (U := Ub NoU w28 w31) (fun k hk => by have hk := (show w28.heap.size ≤ k ∧ k < w31.heap.size from hk.elim (fun h => h.elim) id); omega) hL59 (by omega) hb3) ?_)
 rintro v65 w46 ⟨l65, L65, hA65, m47⟩
 have z48 := m47.size
 obtain ⟨aq65, cq65, rfl⟩ := L65.form
 have h2 := ((((((((((((((h2.k m6).keep m9 (nE (by omega))).keep m11 (by show ¬ (b2 = w8.heap.size); omega)).keep m14 (nE (by omega))).k m18).keep m21 (nE (by omega))).keep m23 (nE (by omega))).keep m26 (nE (by omega))).keep m29 (nE (by omega))).keep m32 (nE (by omega))).k m35).k m38).k m41).k m44).k m47
 refine sv (xbuildS (msgSegs m.head (.slice aq59 m.asks.length cq59) (.slice aq61 l61.length cq61) (.slice aq63 l63.length cq63) (.slice aq65 l65.length cq65)) zr28 ly28 rfl (by simp [fitAll, zs28, Value.cells, headSegs]) rfl) (suK (xstW h2 (lens' := lMsg) sz28 rfl rfl rfl rfl rfl) ?_)
 rintro w50 ⟨m51, h2, s49⟩
 have hf := ((((((((((((((((hf.s m3).s m6).t m9 (by omega)).step m11 (fun k hk hS => by have hS : k = w8.heap.size := hS; show False; omega)).t m14 (by omega)).s m18).t m21 (by omega)).t m23 (by omega)).t m26 (by omega)).t m29 (by omega)).t m32 (by omega)).s m35).s m38).s m41).s m44).s m47).t m51 (by omega)
 have L59 := (((L59.keep ask_st (fun k hk => by have hk := (show (w20.heap.size ≤ k ∧ k < w22.heap.size) ∨ _ from hk.imp_left (fun h => h.elim (fun h => h.elim) id)); omega) m41 nF).keep ask_st (fun k hk => by have hk := (show (w20.heap.size ≤ k ∧ k < w22.heap.size) ∨ _ from hk.imp_left (fun h => h.elim (fun h => h.elim) id)); omega) m44 nF).keep ask_st (fun k hk => by have hk := (show (w20.heap.size ≤ k ∧ k < w22.heap.size) ∨ _ from hk.imp_left (fun h => h.elim (fun h => h.elim) id)); omega) m47 nF).keep ask_st (fun k hk => by have hk := (show (w20.heap.size ≤ k ∧ k < w22.heap.size) ∨ _ from hk.imp_left (fun h => h.elim (fun h => h.elim) id)); omega) m51 (fun k hk hS => by have hk := (show (w20.heap.size ≤ k ∧ k < w22.heap.size) ∨ _ from hk.imp_left (fun h => h.elim (fun h => h.elim) id)); have hS : k = b2 := hS; omega)
 have L61 := ((L61.keep rec_st (fun k hk => by have hk := (show (w22.heap.size ≤ k ∧ k < w25.heap.size) ∨ _ from hk.imp_left (fun h => h.elim (fun h => h.elim) id)); omega) m44 nF).keep rec_st (fun k hk => by have hk := (show (w22.heap.size ≤ k ∧ k < w25.heap.size) ∨ _ from hk.imp_left (fun h => h.elim (fun h => h.elim) id)); omega) m47 nF).keep rec_st (fun k hk => by have hk := (show (w22.heap.size ≤ k ∧ k < w25.heap.size) ∨ _ from hk.imp_left (fun h => h.elim (fun h => h.elim) id)); omega) m51 (fun k hk hS => by have hk := (show (w22.heap.size ≤ k ∧ k < w25.heap.size) ∨ _ from hk.imp_left (fun h => h.elim (fun h => h.elim) id)); have hS : k = b2 := hS; omega)
 have L63 := (L63.keep rec_st (fun k hk => by have hk := (show (w25.heap.size ≤ k ∧ k < w28.heap.size) ∨ _ from hk.imp_left (fun h => h.elim (fun h => h.elim) id)); omega) m47 nF).keep rec_st (fun k hk => by have hk := (show (w25.heap.size ≤ k ∧ k < w28.heap.size) ∨ _ from hk.imp_left (fun h => h.elim (fun h => h.elim) id)); omega) m51 (fun k hk hS => by have hk := (show (w25.heap.size ≤ k ∧ k < w28.heap.size) ∨ _ from hk.imp_left (fun h => h.elim (fun h => h.elim) id)); have hS : k = b2 := hS; omega)
 have L65 := L65.keep rec_st (fun k hk => by have hk := (show (w28.heap.size ≤ k ∧ k < w31.heap.size) ∨ _ from hk.imp_left (fun h => h.elim (fun h => h.elim) id)); omega) m51 (fun k hk hS => by have hk := (show (w28.heap.size ≤ k ∧ k < w31.heap.size) ∨ _ from hk.imp_left (fun h => h.elim (fun h => h.elim) id)); have hS : k = b2 := hS; omega)
 refine sA rfl (send (fcg 2 3 rfl fun _ => wp_ret (rp2 rfl ⟨_, rfl, ldS (lens := lMsg) ro28 h2.r⟩ rfl ?_)))
 exact ⟨⟨l61, l63, l65, _, _, _, _, rfl, hA61, hA63, hA65, L59.mono ask_gr (fun k hk => uu_mono hk (by omega) (by omega) (by omega) (by omega)), L61.mono rec_gr (fun k hk => uu_mono hk (by omega) (by omega) (by omega) (by omega)), L63.mono rec_gr (fun k hk => uu_mono hk (by omega) (by omega) (by omega) (by omega)), L65.mono rec_gr (fun k hk => uu_mono hk (by omega) (by omega) (by omega) (by omega))⟩, hf⟩
end Go.Proofs.YtifnodoffgfpbaaGreatDoor
