/- Part 6 of the texts for a law of this seat: walks, and plain laws about messages; conditions: none. -/
import Derived.Test.YtifnodoffgfpbaaGreatDoorCt5
namespace Go.Proofs.YtifnodoffgfpbaaGreatDoor
open Go

theorem qel_st : Stays QEl := fun _ _ _ _ _ _ h _ _ _ => h
theorem qel_gr : Grows QEl := fun _ _ _ _ _ h _ => h
theorem PrAt.lt {w : World} {bp : Nat} {vm : Value} {y0 y1 y2 y3 y4 y5 sec off idx : Int} (h : PrAt w bp vm y0 y1 y2 y3 y4 y5 sec off idx) : bp < w.heap.size := by
  obtain ⟨_, _, _, h⟩ := h; exact h.lt
theorem listR_end {α : Type} {R : Nat → α → Nat → Prop} {l : List α} {k q e : Nat} (h : ListR R q (l.drop k) e) (hk : l.length ≤ k) : q = e := by
  rw [List.drop_of_length_le hk] at h; exact h
theorem prat_cast {w : World} {bp : Nat} {vm : Value} {y0 y1 y2 y3 y4 y5 sec off idx off' idx' : Int} (h : PrAt w bp vm y0 y1 y2 y3 y4 y5 sec off idx) (h1 : off = off') (h2 : idx = idx') : PrAt w bp vm y0 y1 y2 y3 y4 y5 sec off' idx' := by subst h1 h2; exact h

set_option maxHeartbeats 4000000 in
set_option maxRecDepth 100000 in
theorem c56 {w : World} {a : Option Addr} {bm om km n : Nat} {b : List UInt8} (hms : n ≠ 0 → a = some ⟨bm, om, none⟩) (hm : w.rangeAt bm om (bvs (b.take n))) (hbm : bm < w.heap.size) (hnb : n ≤ b.length) (hkm : n ≤ km) (hbl : b.length < 100000000) {bp : Nat} {y0 y1 y2 y3 y4 y5  : Int} {asks : List AskD} {off e : Nat} {Kp : Nat → Prop} (hP : PrAt w bp (.slice a n km) y0 y1 y2 y3 y4 y5 2 (off : Int) 0) {Tz : TypeId} {xz : Option Addr} (hg0 : w.rangeAt 0 0 [.iface Tz (.pointer xz)]) (hG : GE w) (hsz : 21 ≤ w.heap.size) (hgp : 20 < bp) (hCT : CmpT Tz) (hbp : bp ≠ bm) (hKp : ∀ k, Kp k → k ≤ 10 ∧ (k = 0 ∨ n = b.length)) (heb : e ≤ b.length) (hon : off ≤ n) (hcn : cntI 2 y2 y3 y4 y5 = (asks.length : Int)) (hal : asks.length < 65536) (hls : ListR (AskR Kp b) off asks e) (hna : ∀ a ∈ asks, nameL (bt a.name))  :
  Ret PP 56 [.pointer (some ⟨bp, 0, none⟩)] w (fun u w' => ((e ≤ n ∧ ∃ v, u = .tuple #[v, .nilIface] ∧ LA QEl lQ (Ub NoU w w') w' v asks ∧ PrAt w' bp (.slice a n km) y0 y1 y2 y3 y4 y5 (2 + 1) (e : Int) 0) ∨ (n < e ∧ ∃ (x : Option Addr), u = .tuple #[.slice none 0 0, .iface 166 (.pointer x)])) ∧ Fr (fun k => k = bp) w w') := by
 have hzb : bp < w.heap.size := hP.lt
 have hf : Fr (fun k => k = bp) w w := Fr.refl _ _
 refine ret_of Tryz.func56 rfl rfl rfl [(0, _)] rfl ?_
 refine sreg (sA rfl (sA rfl (send (fg [(0, _)] ⟨rfl, ⟨⟩⟩ fun _ => (sreg ?_)))))
 refine svK (xslit ([]) sl77 in86 rfl (by decide) rfl rfl rfl rfl (by decide) rfl rfl) ?_
 rintro _ w2 ⟨b7, rfl, m3, h7, e7, s7, r7⟩
 have hP := hP.keep m3 id
 have hg0 := rng_fr hg0 m3 (by omega) id
 have hG := hG.keep (fun k hk => by omega) m3 nF
 have hm := rng_fr hm m3 (by omega) id
 have hf := hf.step0 m3
 have hv : RA QEl lQ NoU w2 _ b7 86 0 [] := ⟨[], r7, All2.nil⟩
 refine sA rfl (send (fg [(0, _), (4, _)] ⟨rfl, rfl, ⟨⟩⟩ fun _ => (wp_block ?_)))
 refine lp [(0, _)] (fun (x : Nat × Nat × Value × Nat) => match x with | (k, o, v, g) => [(4, v)]) (fun (x : Nat × Nat × Value × Nat) wx => match x with | (k, o, v, g) => Fr (fun k => k = b7 ∨ k = bp) w2 wx ∧ (k ≤ asks.length) ∧ (ListR (AskR Kp b) o (asks.drop k) e) ∧ (o ≤ n) ∧ (PrAt wx bp (.slice a n km) y0 y1 y2 y3 y4 y5 2 (o : Int) (k : Int)) ∧ (RA QEl lQ NoU wx v g 86 k (asks.take k)) ∧ (w.heap.size ≤ g) ∧ (g < wx.heap.size) ∧ (g = b7 ∨ w2.heap.size ≤ g)) (fun (x : Nat × Nat × Value × Nat) => match x with | (k, o, v, g) => asks.length - k) (0, off, _, b7) ⟨rfl, rfl, trivial⟩ ⟨Fr.refl _ _, Nat.zero_le _, hls, hon, hP, hv, by omega, by omega, .inl rfl⟩ ?_
 rintro ⟨k, o, v, g⟩ _ w5 ⟨hL4, hk, hls, hon, hP, hv, hg, hg2, hg3⟩
 refine fg [(0, _), (4, _)] ⟨rfl, rfl, ⟨⟩⟩ fun _ => ?_
 have z6 := hL4.size
 have hg0 := rng_fr hg0 hL4 (by omega) (by show ¬ (0 = b7 ∨ 0 = bp); omega)
 have hG := hG.keep (fun k hk => by omega) hL4 (fun k hk hS => by have hk := hk; have hS : k = b7 ∨ k = bp := hS; omega)
 have hm := rng_fr hm hL4 (by omega) (by show ¬ (bm = b7 ∨ bm = bp); omega)
 have hf := hf.step hL4 (fun k hk hS => by have hS : k = b7 ∨ k = bp := hS; show k = bp; omega)
 obtain ⟨av, cv, rfl⟩ := RA.form hv
 rcases Nat.lt_or_ge k asks.length with hlt | hge
 ·
  obtain ⟨a, hak⟩ := some_of_lt hlt
  obtain ⟨o1, hRa, hls1⟩ := listR_drop hls hak
  have hoe := listR_le hls1 (fun _ _ _ _ h => ask_le h)
  obtain ⟨e0, ⟨kk, hkk, hN⟩, hst, rfl⟩ := hRa
  have hNl := (show NameR b o kk o (txt (bt a.name)) e0 from hN).le
  refine wp_block (sreg (sM rfl ?_))
  obtain ⟨ho, ty, ln, hP⟩ := hP
  refine sc (xcall ca60 rfl) (c60g (_sec := 0) (_val := false) (_vm := .nilIface) (b := b) (K := kk) (off := o) (e := e0) (S := bt a.name) (ka := a.typ.toNat) (kb := a.cls.toNat) hms hm (by omega) hnb hkm hbl hP hg0 hG (by omega) hgp (by omega) (by omega) hbp (by omega) (by omega) (by omega) hN (hna _ (List.mem_of_getElem? hak)) (hKp kk hkk).1 (hKp kk hkk).2 (u16lt _) (u16lt _) hst.left (hst.right' rfl) (by omega)) ?_
  rintro _ w7 ⟨⟨hle10, rfl, hP⟩ | ⟨hgt10, x10, rfl⟩, m8⟩
  ·
   have z9 := m8.size
   have hg0 := rng_fr hg0 m8 (by omega) (by show ¬ (0 = bp); omega)
   have hG := hG.keep (fun k hk => by omega) m8 (fun k hk hS => by have hk := hk; have hS : k = bp := hS; omega)
   have hf := hf.step m8 (fun k hk hS => by have hS : k = bp := hS; show k = bp; omega)
   have hv := hv.keep qel_st (fun k hk => by have hk := (show k + 1 ≤ 0 from (show False from hk).elim); omega) m8 (fun k hk hS => by have hk := (show k + 1 ≤ 0 from (show False from hk).elim); have hS : k = bp := hS; omega) (by show ¬ (g = bp); omega)
   have hL4 := hL4.step m8 (fun k hk hS => by have hS : k = bp := hS; show k = b7 ∨ k = bp; omega)
   refine sM rfl (sv (xex20 rfl) (sv (xex21 rfl) ?_))
   refine svK (xallS (lens := [256, 1, 1]) in86 (by simp [nm_length])) ?_
   rintro _ w11 ⟨b5, rfl, m12, h5, e10, s10⟩
   have hg0 := rng_fr hg0 m12 (by omega) id
   have hG := hG.keep (fun k hk => by omega) m12 nF
   have hf := hf.step0 m12
   have hv := hv.keep qel_st (fun k hk => by have hk := (show k + 1 ≤ 0 from (show False from hk).elim); omega) m12 nF id
   have hL4 := hL4.step0 m12
   have hP := hP.keep m12 id
   refine suK (xstW h5 (lens' := [256, 1, 1]) sz86 (by simp [nm_length]) rfl (by simp only [List.flatten_cons, List.flatten_nil, List.all_append, List.append_nil, nm_one, Bool.true_and] <;> rfl) rfl rfl) ?_
   rintro w14 ⟨m15, h5, s13⟩
   have hg0 := rng_fr hg0 m15 (by omega) (by show ¬ (0 = b5); omega)
   have hG := hG.keep (fun k hk => by omega) m15 (fun k hk hS => by have hk := hk; have hS : k = b5 := hS; omega)
   have hf := hf.step m15 (nB (by omega))
   have hv := hv.keep qel_st (fun k hk => by have hk := (show k + 1 ≤ 0 from (show False from hk).elim); omega) m15 (fun k hk hS => by have hk := (show k + 1 ≤ 0 from (show False from hk).elim); have hS : k = b5 := hS; omega) (by show ¬ (g = b5); omega)
   have hL4 := hL4.step m15 (fun k hk hS => by have hS : k = b5 := hS; show k = b7 ∨ k = bp; omega)
   have hP := hP.keep m15 (by show ¬ (bp = b5); omega)
   refine sA rfl (send (fg [(0, _), (4, _), (5, _), (6, _)] ⟨rfl, rfl, rfl, rfl, ⟨⟩⟩ fun _ => (wp_seq (sreg (sM rfl (sv (xld on89 rfl (hg0 0 _ rfl)) (sv (xeqEN if89 rfl rfl) (send (fg [(0, _), (4, _), (5, _), (6, _), (15, _)] ⟨rfl, rfl, rfl, rfl, rfl, ⟨⟩⟩ fun _ => (cno rfl (wp_skip (nThen (fg [(0, _), (4, _), (5, _), (6, _)] ⟨rfl, rfl, rfl, rfl, ⟨⟩⟩ fun _ => (wp_seq (sreg (sM rfl (sv (xneN if89 rfl) (send (fg [(0, _), (4, _), (5, _), (6, _), (18, _)] ⟨rfl, rfl, rfl, rfl, rfl, ⟨⟩⟩ fun _ => (cno rfl (wp_skip (nThen (fg [(0, _), (4, _), (5, _)] ⟨rfl, rfl, rfl, ⟨⟩⟩ fun _ => (lreg ?_))))))))))))))))))))))))
   refine sM rfl (sv (xldS (lens := [256, 1, 1]) ro86 rfl h5.r) ?_)
   refine svK (xslit ((questSegs a).flatten) sl77 in86 rfl (by decide) rfl rfl rfl (by simp [nm_length, Value.cells]) (by decide) (ag_flat _) (by simp only [questSegs, List.flatten_cons, List.flatten_nil, List.all_append, List.append_nil, nm_one, Bool.true_and] <;> rfl)) ?_
   rintro _ w17 ⟨b22, rfl, m18, h22, e22, s22, r22⟩
   have hg0 := rng_fr hg0 m18 (by omega) id
   have hG := hG.keep (fun k hk => by omega) m18 nF
   have hf := hf.step0 m18
   have hv := hv.keep qel_st (fun k hk => by have hk := (show k + 1 ≤ 0 from (show False from hk).elim); omega) m18 nF id
   have hL4 := hL4.step0 m18
   have hP := hP.keep m18 id
   obtain ⟨ss23, hR23, hA23⟩ := hv
   refine svK (xapp sl77 in86 rfl (by decide) rfl rfl hR23 (r22.src sl77) (by simp only [maxLen]; omega) (by omega)) ?_
   rintro v23 w19 ⟨g23, r23, m20, a23, l23⟩
   have z21 := m20.size
   have hg0 := rng_fr hg0 m20 (by omega) (by show ¬ (0 = g); omega)
   have hG := hG.keep (fun k hk => by omega) m20 (fun k hk hS => by have hk := hk; have hS : k = g := hS; omega)
   have hf := hf.step m20 (fun k hk hS => by have hS : k = g := hS; show k = bp; omega)
   have hL4 := hL4.step m20 (fun k hk hS => by have hS : k = g := hS; show k = b7 ∨ k = bp; omega)
   have hP := hP.keep m20 (by show ¬ (bp = g); omega)
   have hv := RA.snoc (x := a) hA23 qel_st qel_gr (fun k hk => by have hk := (show k + 1 ≤ 0 from (show False from hk).elim); omega) m20 (fun k hk hS => by have hk := (show k + 1 ≤ 0 from (show False from hk).elim); have hS : k = g := hS; omega) (fun _ h => h) r23 (by simp [questSegs, nm_length]) (rfl)
   refine sA rfl (lend (nBlock (nThen ?_)))
   refine ⟨(k + 1, e0 + 4, _, g23), _, env_okl ⟨rfl, rfl, trivial⟩, ⟨hL4, (by omega), (hls1), (by omega), (⟨_, _, _, hP⟩), (by rw [take_snoc hak]; exact hv), (by omega), (l23 (by omega)), (by omega)⟩, ?_⟩
   show asks.length - (k + 1) < asks.length - k; omega
  ·
   have z22 := m8.size
   have hg0 := rng_fr hg0 m8 (by omega) (by show ¬ (0 = bp); omega)
   have hG := hG.keep (fun k hk => by omega) m8 (fun k hk hS => by have hk := hk; have hS : k = bp := hS; omega)
   have hf := hf.step m8 (fun k hk hS => by have hS : k = bp := hS; show k = bp; omega)
   have hv := hv.keep qel_st (fun k hk => by have hk := (show k + 1 ≤ 0 from (show False from hk).elim); omega) m8 (fun k hk hS => by have hk := (show k + 1 ≤ 0 from (show False from hk).elim); have hS : k = bp := hS; omega) (by show ¬ (g = bp); omega)
   refine sM rfl (sv (xex20 rfl) (sv (xex21 rfl) ?_))
   refine svK (xallS (lens := [256, 1, 1]) in86 (by simp [nm_length])) ?_
   rintro _ w24 ⟨b5, rfl, m25, h5, e23, s23⟩
   have hg0 := rng_fr hg0 m25 (by omega) id
   have hG := hG.keep (fun k hk => by omega) m25 nF
   have hf := hf.step0 m25
   have hv := hv.keep qel_st (fun k hk => by have hk := (show k + 1 ≤ 0 from (show False from hk).elim); omega) m25 nF id
   refine suK (xstW h5 (lens' := [256, 1, 1]) sz86 (by simp [nm_length]) rfl (by simp only [List.flatten_cons, List.flatten_nil, List.all_append, List.append_nil, nm_one, Bool.true_and] <;> rfl) rfl rfl) ?_
   rintro w27 ⟨m28, h5, s26⟩
   have hg0 := rng_fr hg0 m28 (by omega) (by show ¬ (0 = b5); omega)
   have hG := hG.keep (fun k hk => by omega) m28 (fun k hk hS => by have hk := hk; have hS : k = b5 := hS; omega)
   have hf := hf.step m28 (nB (by omega))
   have hv := hv.keep qel_st (fun k hk => by have hk := (show k + 1 ≤ 0 from (show False from hk).elim); omega) m28 (fun k hk hS => by have hk := (show k + 1 ≤ 0 from (show False from hk).elim); have hS : k = b5 := hS; omega) (by show ¬ (g = b5); omega)
   refine sA rfl (send (fg [(0, _), (4, _), (5, _), (6, _)] ⟨rfl, rfl, rfl, rfl, ⟨⟩⟩ fun _ => (wp_seq (sreg (sM rfl (sv (xld on89 rfl (hg0 0 _ rfl)) (sv (xeqEO if89 hCT.1 rfl rfl) (send (fg [(0, _), (4, _), (5, _), (6, _), (15, _)] ⟨rfl, rfl, rfl, rfl, rfl, ⟨⟩⟩ fun _ => (cno rfl (wp_skip (nThen (fg [(0, _), (4, _), (5, _), (6, _)] ⟨rfl, rfl, rfl, rfl, ⟨⟩⟩ fun _ => (wp_seq (sreg (sM rfl (sv (xneI if89 rfl) (send (fg [(0, _), (4, _), (5, _), (6, _), (18, _)] ⟨rfl, rfl, rfl, rfl, rfl, ⟨⟩⟩ fun _ => (cyes rfl (sreg (sM rfl (sA rfl (sA rfl ?_))))))))))))))))))))))))
   refine send (fg [(2, _), (3, _)] ⟨rfl, rfl, ⟨⟩⟩ fun _ => (wp_ret (rThen (rBlock (rThen (rBlock ?_))))))
   refine rp2 rfl rfl rfl ?_
   exact ⟨.inr ⟨by omega, _, rfl⟩, hf⟩
 ·
  refine wp_block (sreg (sM rfl ?_))
  obtain ⟨ho, ty, ln, hP⟩ := hP
  refine sc (xcall ca60 rfl) (c60d (_sec := 0) (_val := false) hP hg0 hG (by omega) hgp (by omega) (by omega) (by omega)) ?_
  rintro _ w29 ⟨⟨rfl, hP⟩, m30⟩
  have z31 := m30.size
  have hg0 := rng_fr hg0 m30 (by omega) (by show ¬ (0 = bp); omega)
  have hf := hf.step m30 (fun k hk hS => by have hS : k = bp := hS; show k = bp; omega)
  have hv := hv.keep qel_st (fun k hk => by have hk := (show k + 1 ≤ 0 from (show False from hk).elim); omega) m30 (fun k hk hS => by have hk := (show k + 1 ≤ 0 from (show False from hk).elim); have hS : k = bp := hS; omega) (by show ¬ (g = bp); omega)
  refine sM rfl (sv (xex20 rfl) (sv (xex21 rfl) ?_))
  refine svK (xallS (lens := [256, 1, 1]) in86 (by simp [nm_length])) ?_
  rintro _ w33 ⟨b5, rfl, m34, h5, e32, s32⟩
  have hg0 := rng_fr hg0 m34 (by omega) id
  have hf := hf.step0 m34
  have hv := hv.keep qel_st (fun k hk => by have hk := (show k + 1 ≤ 0 from (show False from hk).elim); omega) m34 nF id
  have hP := hP.keep m34 id
  refine suK (xstW h5 (lens' := [256, 1, 1]) sz86 (by simp [nm_length]) rfl (by simp only [List.flatten_cons, List.flatten_nil, List.all_append, List.append_nil, nm_one, Bool.true_and] <;> rfl) rfl rfl) ?_
  rintro w36 ⟨m37, h5, s35⟩
  have hg0 := rng_fr hg0 m37 (by omega) (by show ¬ (0 = b5); omega)
  have hf := hf.step m37 (nB (by omega))
  have hv := hv.keep qel_st (fun k hk => by have hk := (show k + 1 ≤ 0 from (show False from hk).elim); omega) m37 (fun k hk hS => by have hk := (show k + 1 ≤ 0 from (show False from hk).elim); have hS : k = b5 := hS; omega) (by show ¬ (g = b5); omega)
  have hP := hP.keep m37 (by show ¬ (bp = b5); omega)
  refine sA rfl (send (fg [(0, _), (4, _), (5, _), (6, _)] ⟨rfl, rfl, rfl, rfl, ⟨⟩⟩ fun _ => (wp_seq (sreg (sM rfl (sv (xld on89 rfl (hg0 0 _ rfl)) (sv (xeqES if89 hCT rfl rfl) (send (fg [(0, _), (4, _), (5, _), (6, _), (15, _)] ⟨rfl, rfl, rfl, rfl, rfl, ⟨⟩⟩ fun _ => (cyes rfl (sreg (sM rfl (sA rfl (sA rfl (send (fg [(2, _), (3, _)] ⟨rfl, rfl, ⟨⟩⟩ fun _ => (wp_ret (rThen (rBlock (rThen (rBlock ?_)))))))))))))))))))))
  refine rp2 rfl rfl rfl ?_
  have hPz := hP
  have hoe := listR_end hls hge
  subst hoe
  have hke : asks.take k = asks := List.take_of_length_le hge
  rw [hke] at hv
  obtain rfl : k = asks.length := by omega
  exact ⟨.inl ⟨hon, _, rfl, RA.la hv (by decide) (fun _ _ _ _ _ h _ => h) (fun _ h => h.elim) (.inr ⟨by omega, by omega⟩), _, _, _, hPz⟩, hf⟩
set_option maxHeartbeats 4000000 in
set_option maxRecDepth 100000 in
theorem c57 {w : World} {a : Option Addr} {bm om km n : Nat} {b : List UInt8} (hms : n ≠ 0 → a = some ⟨bm, om, none⟩) (hm : w.rangeAt bm om (bvs (b.take n))) (hbm : bm < w.heap.size) (hnb : n ≤ b.length) (hkm : n ≤ km) (hbl : b.length < 100000000) {bp : Nat} {y0 y1 y2 y3 y4 y5  : Int} {l : List RecD} {off e : Nat} {Kp : Nat → Prop} (hP : PrAt w bp (.slice a n km) y0 y1 y2 y3 y4 y5 3 (off : Int) 0) {Tz : TypeId} {xz : Option Addr} (hg0 : w.rangeAt 0 0 [.iface Tz (.pointer xz)]) (hG : GE w) (hsz : 21 ≤ w.heap.size) (hgp : 20 < bp) (hCT : CmpT Tz) (hbp : bp ≠ bm) (hKp : ∀ k, Kp k → k ≤ 10 ∧ (k = 0 ∨ n = b.length)) (heb : e ≤ b.length) (hon : off ≤ n) {B mb : Nat} {sf : Int → ByteArray} (hBp : B ≤ bp) (hcn : cntI 3 y2 y3 y4 y5 = (l.length : Int)) (hal : l.length < 65536) (hls : ListR (RecR Kp b) off l e) (hrs : ∀ r ∈ l, ReadOk r ∧ (r.kind = 11 ∨ r.kind = 12 → asc r.pairs)) (hSO : SecOr (e ≤ n) B mb sf w)  :
  Ret PP 57 [.pointer (some ⟨bp, 0, none⟩)] w (fun u w' => ((e ≤ n ∧ ∃ v, u = .tuple #[v, .nilIface] ∧ LA ResV lRes (Ub NoU w w') w' v l ∧ PrAt w' bp (.slice a n km) y0 y1 y2 y3 y4 y5 (3 + 1) (e : Int) 0) ∨ (n < e ∧ ∃ (x : Option Addr), u = .tuple #[.slice none 0 0, .iface 166 (.pointer x)])) ∧ Fr (fun k => k = bp) w w') := by
 have hzb : bp < w.heap.size := hP.lt
 have hU : ∀ k, NoU k → k < w.heap.size := fun _ h => h.elim
 obtain ⟨ho', ty', ln', hQ⟩ := id hP
 have hcnv : y3 = (l.length : Int) := hcn
 have hf : Fr (fun k => k = bp) w w := Fr.refl _ _
 refine ret_of Tryz.func57 rfl rfl rfl [(0, _)] rfl ?_
 refine sreg (sA rfl (sA rfl (send (fg [(0, _)] ⟨rfl, ⟨⟩⟩ fun _ => (sreg (sM rfl (sN rfl (sv (xfld fl124_1 rfl) (sv (xfld fl121_3 rfl) (sv (xld on22 rfl (hQ.r.c 4 rfl rfl)) (sv (xconv hs22 ki3 rfl (w64n l.length hcnv (by omega))) (sA rfl (send (fg [(0, _), (4, _)] ⟨rfl, rfl, ⟨⟩⟩ fun _ => (wp_seq (sreg (sM rfl (sv (xgtr rfl rfl) (send (fg [(0, _), (4, _), (15, _)] ⟨rfl, rfl, rfl, ⟨⟩⟩ fun _ => ?_))))))))))))))))))))
 refine jcut [(0, _)] ⟨rfl, trivial⟩ (fun (x : Nat) => match x with | cp => [(4, .int .i64 (cp : Int))]) (fun (x : Nat) wx => match x with | cp => Fr (fun _ => False) w wx ∧ (cp ≤ 65536)) ?_ ?_
 ·
  have hJ1 : Fr (fun _ => False) w w := Fr.refl _ _
  refine cB rfl (fun hb => ?_) (fun hb => ?_)
  ·
   refine lreg (sA rfl (lend ?_))
   exact ⟨rfl, 20, _, env_okl ⟨rfl, rfl, trivial⟩, ⟨hJ1, (by omega)⟩⟩
  ·
   refine wp_skip ?_
   exact ⟨rfl, l.length, _, env_okl ⟨rfl, rfl, trivial⟩, ⟨hJ1, (by omega)⟩⟩
 ·
  rintro cp _ w2 ⟨hJ1, hcp⟩
  have z3 := hJ1.size
  have hP := hP.keep hJ1 id
  have hg0 := rng_fr hg0 hJ1 (by omega) id
  have hG := hG.keep (fun k hk => by omega) hJ1 nF
  have hm := rng_fr hm hJ1 (by omega) id
  have hSO := hSO.keep (fun k hk => by omega) hJ1 nF
  have hf := hf.step0 hJ1
  refine nThen (fg [(0, _), (4, _)] ⟨rfl, rfl, ⟨⟩⟩ fun _ => (sreg (sM rfl ?_)))
  refine svK (xmake (lo := 0) (hi := cp) sl75 in139 rfl (by decide) rfl rfl (by omega) rfl (by omega) (by omega) (by simp only [maxLen]; omega) (one6 _ _ _ _ _ _ rfl)) ?_
  rintro _ w4 ⟨b17, rfl, m5, -, ez17, sz17, r17⟩
  have hP := hP.keep m5 id
  have hg0 := rng_fr hg0 m5 (by omega) id
  have hG := hG.keep (fun k hk => by omega) m5 nF
  have hm := rng_fr hm m5 (by omega) id
  have hSO := hSO.keep (fun k hk => by omega) m5 nF
  have hf := hf.step0 m5
  have hv : RX ResV lRes NoU w.heap.size w4.heap.size w4 _ b17 139 0 [] := RX.ofNil r17
  refine sA rfl (send (fg [(0, _), (5, _)] ⟨rfl, rfl, ⟨⟩⟩ fun _ => (wp_block ?_)))
  refine lp [(0, _)] (fun (x : Nat × Nat × Value × Nat) => match x with | (k, o, v, g) => [(5, v)]) (fun (x : Nat × Nat × Value × Nat) wx => match x with | (k, o, v, g) => Fr (fun k => k = b17 ∨ k = bp) w4 wx ∧ (k ≤ l.length) ∧ (ListR (RecR Kp b) o (l.drop k) e) ∧ (o ≤ n) ∧ (PrAt wx bp (.slice a n km) y0 y1 y2 y3 y4 y5 3 (o : Int) (k : Int)) ∧ (RX ResV lRes NoU w.heap.size wx.heap.size wx v g 139 k (l.take k)) ∧ (w.heap.size ≤ g) ∧ (g < wx.heap.size) ∧ (g = b17 ∨ w4.heap.size ≤ g)) (fun (x : Nat × Nat × Value × Nat) => match x with | (k, o, v, g) => l.length - k) (0, off, _, b17) ⟨rfl, rfl, trivial⟩ ⟨Fr.refl _ _, Nat.zero_le _, hls, hon, hP, hv, by omega, by omega, .inl rfl⟩ ?_
  rintro ⟨k, o, v, g⟩ _ w7 ⟨hL6, hk, hls, hon, hP, hv, hg, hg2, hg3⟩
  refine fg [(0, _), (5, _)] ⟨rfl, rfl, ⟨⟩⟩ fun _ => ?_
  have z8 := hL6.size
  have hg0 := rng_fr hg0 hL6 (by omega) (by show ¬ (0 = b17 ∨ 0 = bp); omega)
  have hG := hG.keep (fun k hk => by omega) hL6 (fun k hk hS => by have hk := hk; have hS : k = b17 ∨ k = bp := hS; omega)
  have hm := rng_fr hm hL6 (by omega) (by show ¬ (bm = b17 ∨ bm = bp); omega)
  have hSO := hSO.keep (fun k hk => by omega) hL6 (fun k hk hS => by have hk := hk; have hS : k = b17 ∨ k = bp := hS; omega)
  have hf := hf.step hL6 (fun k hk hS => by have hS : k = b17 ∨ k = bp := hS; show k = bp; omega)
  obtain ⟨av, cv, rfl⟩ := RA.form hv
  rcases Nat.lt_or_ge k l.length with hlt | hge
  ·
   obtain ⟨r, hrk⟩ := some_of_lt hlt
   obtain ⟨o1, hRa, hls1⟩ := listR_drop hls hrk
   have hoe := listR_le hls1 (fun _ _ _ _ h => rec_le h)
   refine wp_block (sreg (sM rfl ?_))
   obtain ⟨ho, ty, ln, hP⟩ := hP
   refine sc (xcall ca61 rfl) (c61g (Kp := Kp) (e := o1) (r := r) hms hm (by omega) hnb hkm hbl hP hg0 hG (by omega) hgp (by omega) (by omega) hbp (by omega) (by omega) (by omega) hBp hKp hRa (hrs r (List.mem_of_getElem? hrk)).1 (hrs r (List.mem_of_getElem? hrk)).2 (by omega) (hSO.imp (by omega))) ?_
   rintro _ w9 ⟨⟨hle20, sg20, rfl, hV, hP⟩ | ⟨hgt20, x20, rfl⟩, m10⟩
   ·
    have z11 := m10.size
    have hg0 := rng_fr hg0 m10 (by omega) (by show ¬ (0 = bp); omega)
    have hG := hG.keep (fun k hk => by omega) m10 (fun k hk hS => by have hk := hk; have hS : k = bp := hS; omega)
    have hf := hf.step m10 (fun k hk hS => by have hS : k = bp := hS; show k = bp; omega)
    have hv := RX.keep hv resv_st (fun k hk => by have hk := hU k hk; omega) (by omega) m10 (fun k hk hk3 hS => by have hS : k = bp := hS; rcases hk with hk | hk <;> first | omega | (have := hU k hk; omega)) (by show ¬ (g = bp); omega)
    have hL6 := hL6.step m10 (fun k hk hS => by have hS : k = bp := hS; show k = b17 ∨ k = bp; omega)
    obtain ⟨len, vb, hl16, rfl, hbe⟩ := hV
    obtain ⟨bB, TB, lB, sB, rfl, -⟩ := id hbe
    refine sM rfl (sv (xex20 rfl) (sv (xex21 rfl) ?_))
    refine svK (xallS (lens := [256, 1, 1, 1, 1, 1]) in139 (by simp [nm_length])) ?_
    rintro _ w13 ⟨b6, rfl, m14, h6, e12, s12⟩
    have hg0 := rng_fr hg0 m14 (by omega) id
    have hG := hG.keep (fun k hk => by omega) m14 nF
    have hf := hf.step0 m14
    have hv := RX.keep hv resv_st (fun k hk => by have hk := hU k hk; omega) (by omega) m14 (fun _ _ _ h => h) id
    have hL6 := hL6.step0 m14
    have hP := hP.keep m14 id
    have hbe := hbe.keep (lNo (by omega)) m14 nF
    refine suK (xstW h6 (lens' := [256, 1, 1, 1, 1, 1]) sz139 (by simp [rhSegs, nm_length]) rfl (by simp only [rhSegs, List.cons_append, List.nil_append, List.flatten_cons, List.flatten_nil, List.all_append, List.append_nil, nm_one, Bool.true_and] <;> rfl) rfl rfl) ?_
    rintro w16 ⟨m17, h6, s15⟩
    have hg0 := rng_fr hg0 m17 (by omega) (by show ¬ (0 = b6); omega)
    have hG := hG.keep (fun k hk => by omega) m17 (fun k hk hS => by have hk := hk; have hS : k = b6 := hS; omega)
    have hf := hf.step m17 (nB (by omega))
    have hv := RX.keep hv resv_st (fun k hk => by have hk := hU k hk; omega) (by omega) m17 (fun k hk hk3 hS => by have hS : k = b6 := hS; rcases hk with hk | hk <;> first | omega | (have := hU k hk; omega)) (by show ¬ (g = b6); omega)
    have hL6 := hL6.step m17 (fun k hk hS => by have hS : k = b6 := hS; show k = b17 ∨ k = bp; omega)
    have hP := hP.keep m17 (by show ¬ (bp = b6); omega)
    have hbe := hbe.keep (lNo (by omega)) m17 (fun k hk hS => by have hk := Ub.num (U := NoU) (n := 0) (fun _ h => h.elim) hk; have hS : k = b6 := hS; omega)
    refine sA rfl (send (fg [(0, _), (5, _), (6, _), (7, _)] ⟨rfl, rfl, rfl, rfl, ⟨⟩⟩ fun _ => (wp_seq (sreg (sM rfl (sv (xld on89 rfl (hg0 0 _ rfl)) (sv (xeqEN if89 rfl rfl) (send (fg [(0, _), (5, _), (6, _), (7, _), (25, _)] ⟨rfl, rfl, rfl, rfl, rfl, ⟨⟩⟩ fun _ => (cno rfl (wp_skip (nThen (fg [(0, _), (5, _), (6, _), (7, _)] ⟨rfl, rfl, rfl, rfl, ⟨⟩⟩ fun _ => (wp_seq (sreg (sM rfl (sv (xneN if89 rfl) (send (fg [(0, _), (5, _), (6, _), (7, _), (28, _)] ⟨rfl, rfl, rfl, rfl, rfl, ⟨⟩⟩ fun _ => (cno rfl (wp_skip (nThen (fg [(0, _), (5, _), (6, _)] ⟨rfl, rfl, rfl, ⟨⟩⟩ fun _ => (lreg ?_))))))))))))))))))))))))
    refine sM rfl (sv (xldS (lens := [256, 1, 1, 1, 1, 1]) ro139 rfl h6.r) ?_)
    refine svK (xslit ((rhSegs (bt r.name) (typeN r) r.cls r.ttl len ++ [[Value.iface TB (.pointer (some ⟨bB, 0, none⟩))]]).flatten) sl75 in139 rfl (by decide) rfl rfl rfl (by simp [rhSegs, nm_length, Value.cells]) (by decide) (ag_flat _) (by simp only [rhSegs, List.cons_append, List.nil_append, List.flatten_cons, List.flatten_nil, List.all_append, List.append_nil, nm_one, Bool.true_and] <;> rfl)) ?_
    rintro _ w19 ⟨b32, rfl, m20, h32, e32, s32, r32⟩
    have hg0 := rng_fr hg0 m20 (by omega) id
    have hG := hG.keep (fun k hk => by omega) m20 nF
    have hf := hf.step0 m20
    have hv := RX.keep hv resv_st (fun k hk => by have hk := hU k hk; omega) (by omega) m20 (fun _ _ _ h => h) id
    have hL6 := hL6.step0 m20
    have hP := hP.keep m20 id
    have hbe := hbe.keep (lNo (by omega)) m20 nF
    obtain ⟨ss33, hR33, hA33⟩ := hv
    refine svK (xapp sl75 in139 rfl (by decide) rfl rfl hR33 (r32.src sl75) (by simp only [maxLen]; omega) (by omega)) ?_
    rintro v33 w21 ⟨g33, r33, m22, a33, l33⟩
    have z23 := m22.size
    have hg0 := rng_fr hg0 m22 (by omega) (by show ¬ (0 = g); omega)
    have hG := hG.keep (fun k hk => by omega) m22 (fun k hk hS => by have hk := hk; have hS : k = g := hS; omega)
    have hf := hf.step m22 (fun k hk hS => by have hS : k = g := hS; show k = bp; omega)
    have hL6 := hL6.step m22 (fun k hk hS => by have hS : k = g := hS; show k = b17 ∨ k = bp; omega)
    have hP := hP.keep m22 (by show ¬ (bp = g); omega)
    have hbe := hbe.keep (lNo (by omega)) m22 (fun k hk hS => by have hk := Ub.num (U := NoU) (n := 0) (fun _ h => h.elim) hk; have hS : k = g := hS; omega)
    have hv := RX.snoc (x := r) w21.heap.size hA33 resv_st resv_gr (fun k hk => by have hk := hU k hk; omega) (by omega) (by omega) m22 a33 r33 (by simp [rhSegs, nm_length]) (ResV.mk hl16 (hbe.mono (fun k h => ⟨h.elim .inl (fun h => .inr ⟨by omega, by omega⟩), by have h := Ub.num (U := NoU) (n := 0) (fun _ h => h.elim) h; omega⟩)))
    refine sA rfl (lend (nBlock (nThen ?_)))
    refine ⟨(k + 1, o1, _, g33), _, env_okl ⟨rfl, rfl, trivial⟩, ⟨hL6, (by omega), (hls1), (by omega), (prat_cast hP rfl (by omega)), (by rw [take_snoc hrk]; exact RX.up resv_gr hv (by omega)), (by omega), (l33 (by omega)), (by omega)⟩, ?_⟩
    show l.length - (k + 1) < l.length - k; omega
   ·
    have z24 := m10.size
    have hg0 := rng_fr hg0 m10 (by omega) (by show ¬ (0 = bp); omega)
    have hG := hG.keep (fun k hk => by omega) m10 (fun k hk hS => by have hk := hk; have hS : k = bp := hS; omega)
    have hf := hf.step m10 (fun k hk hS => by have hS : k = bp := hS; show k = bp; omega)
    have hv := RX.keep hv resv_st (fun k hk => by have hk := hU k hk; omega) (by omega) m10 (fun k hk hk3 hS => by have hS : k = bp := hS; rcases hk with hk | hk <;> first | omega | (have := hU k hk; omega)) (by show ¬ (g = bp); omega)
    refine sM rfl (sv (xex20 rfl) (sv (xex21 rfl) ?_))
    refine svK (xallS (lens := [256, 1, 1, 1, 1, 1]) in139 (by simp [nm_length])) ?_
    rintro _ w26 ⟨b6, rfl, m27, h6, e25, s25⟩
    have hg0 := rng_fr hg0 m27 (by omega) id
    have hG := hG.keep (fun k hk => by omega) m27 nF
    have hf := hf.step0 m27
    have hv := RX.keep hv resv_st (fun k hk => by have hk := hU k hk; omega) (by omega) m27 (fun _ _ _ h => h) id
    refine suK (xstW h6 (lens' := [256, 1, 1, 1, 1, 1]) sz139 (by simp [nm_length]) rfl (by simp only [List.cons_append, List.nil_append, List.flatten_cons, List.flatten_nil, List.all_append, List.append_nil, nm_one, Bool.true_and] <;> rfl) rfl rfl) ?_
    rintro w29 ⟨m30, h6, s28⟩
    have hg0 := rng_fr hg0 m30 (by omega) (by show ¬ (0 = b6); omega)
    have hG := hG.keep (fun k hk => by omega) m30 (fun k hk hS => by have hk := hk; have hS : k = b6 := hS; omega)
    have hf := hf.step m30 (nB (by omega))
    have hv := RX.keep hv resv_st (fun k hk => by have hk := hU k hk; omega) (by omega) m30 (fun k hk hk3 hS => by have hS : k = b6 := hS; rcases hk with hk | hk <;> first | omega | (have := hU k hk; omega)) (by show ¬ (g = b6); omega)
    refine sA rfl (send (fg [(0, _), (5, _), (6, _), (7, _)] ⟨rfl, rfl, rfl, rfl, ⟨⟩⟩ fun _ => (wp_seq (sreg (sM rfl (sv (xld on89 rfl (hg0 0 _ rfl)) (sv (xeqEO if89 hCT.1 rfl rfl) (send (fg [(0, _), (5, _), (6, _), (7, _), (25, _)] ⟨rfl, rfl, rfl, rfl, rfl, ⟨⟩⟩ fun _ => (cno rfl (wp_skip (nThen (fg [(0, _), (5, _), (6, _), (7, _)] ⟨rfl, rfl, rfl, rfl, ⟨⟩⟩ fun _ => (wp_seq (sreg (sM rfl (sv (xneI if89 rfl) (send (fg [(0, _), (5, _), (6, _), (7, _), (28, _)] ⟨rfl, rfl, rfl, rfl, rfl, ⟨⟩⟩ fun _ => (cyes rfl (sreg (sM rfl (sA rfl (sA rfl ?_))))))))))))))))))))))))
    refine send (fg [(2, _), (3, _)] ⟨rfl, rfl, ⟨⟩⟩ fun _ => (wp_ret (rThen (rBlock (rThen (rBlock ?_))))))
    refine rp2 rfl rfl rfl ?_
    exact ⟨.inr ⟨by omega, _, rfl⟩, hf⟩
  ·
   refine wp_block (sreg (sM rfl ?_))
   obtain ⟨ho, ty, ln, hP⟩ := hP
   refine sc (xcall ca61 rfl) (c61d hP hg0 hG (by omega) hgp (by omega) (by omega) (by omega)) ?_
   rintro _ w31 ⟨⟨rfl, hP⟩, m32⟩
   have z33 := m32.size
   have hg0 := rng_fr hg0 m32 (by omega) (by show ¬ (0 = bp); omega)
   have hf := hf.step m32 (fun k hk hS => by have hS : k = bp := hS; show k = bp; omega)
   have hv := RX.keep hv resv_st (fun k hk => by have hk := hU k hk; omega) (by omega) m32 (fun k hk hk3 hS => by have hS : k = bp := hS; rcases hk with hk | hk <;> first | omega | (have := hU k hk; omega)) (by show ¬ (g = bp); omega)
   refine sM rfl (sv (xex20 rfl) (sv (xex21 rfl) ?_))
   refine svK (xallS (lens := [256, 1, 1, 1, 1, 1]) in139 (by simp [nm_length])) ?_
   rintro _ w35 ⟨b6, rfl, m36, h6, e34, s34⟩
   have hg0 := rng_fr hg0 m36 (by omega) id
   have hf := hf.step0 m36
   have hv := RX.keep hv resv_st (fun k hk => by have hk := hU k hk; omega) (by omega) m36 (fun _ _ _ h => h) id
   have hP := hP.keep m36 id
   refine suK (xstW h6 (lens' := [256, 1, 1, 1, 1, 1]) sz139 (by simp [nm_length]) rfl (by simp only [List.cons_append, List.nil_append, List.flatten_cons, List.flatten_nil, List.all_append, List.append_nil, nm_one, Bool.true_and] <;> rfl) rfl rfl) ?_
   rintro w38 ⟨m39, h6, s37⟩
   have hg0 := rng_fr hg0 m39 (by omega) (by show ¬ (0 = b6); omega)
   have hf := hf.step m39 (nB (by omega))
   have hv := RX.keep hv resv_st (fun k hk => by have hk := hU k hk; omega) (by omega) m39 (fun k hk hk3 hS => by have hS : k = b6 := hS; rcases hk with hk | hk <;> first | omega | (have := hU k hk; omega)) (by show ¬ (g = b6); omega)
   have hP := hP.keep m39 (by show ¬ (bp = b6); omega)
   refine sA rfl (send (fg [(0, _), (5, _), (6, _), (7, _)] ⟨rfl, rfl, rfl, rfl, ⟨⟩⟩ fun _ => (wp_seq (sreg (sM rfl (sv (xld on89 rfl (hg0 0 _ rfl)) (sv (xeqES if89 hCT rfl rfl) (send (fg [(0, _), (5, _), (6, _), (7, _), (25, _)] ⟨rfl, rfl, rfl, rfl, rfl, ⟨⟩⟩ fun _ => (cyes rfl (sreg (sM rfl (sA rfl (sA rfl (send (fg [(2, _), (3, _)] ⟨rfl, rfl, ⟨⟩⟩ fun _ => (wp_ret (rThen (rBlock (rThen (rBlock ?_)))))))))))))))))))))
   refine rp2 rfl rfl rfl ?_
   have hPz := hP
   have hoe := listR_end hls hge
   subst hoe
   have hke : l.take k = l := List.take_of_length_le hge
   rw [hke] at hv
   obtain rfl : k = l.length := by omega
   exact ⟨.inl ⟨hon, _, rfl, RX.la hv (by decide) resv_gr (fun k hk => hk.elim .inl (fun h => .inr ⟨by omega, by omega⟩)) (.inr ⟨by omega, by omega⟩), _, _, _, hPz⟩, hf⟩
set_option maxHeartbeats 4000000 in
set_option maxRecDepth 100000 in
theorem c58 {w : World} {a : Option Addr} {bm om km n : Nat} {b : List UInt8} (hms : n ≠ 0 → a = some ⟨bm, om, none⟩) (hm : w.rangeAt bm om (bvs (b.take n))) (hbm : bm < w.heap.size) (hnb : n ≤ b.length) (hkm : n ≤ km) (hbl : b.length < 100000000) {bp : Nat} {y0 y1 y2 y3 y4 y5  : Int} {l : List RecD} {off e : Nat} {Kp : Nat → Prop} (hP : PrAt w bp (.slice a n km) y0 y1 y2 y3 y4 y5 4 (off : Int) 0) {Tz : TypeId} {xz : Option Addr} (hg0 : w.rangeAt 0 0 [.iface Tz (.pointer xz)]) (hG : GE w) (hsz : 21 ≤ w.heap.size) (hgp : 20 < bp) (hCT : CmpT Tz) (hbp : bp ≠ bm) (hKp : ∀ k, Kp k → k ≤ 10 ∧ (k = 0 ∨ n = b.length)) (heb : e ≤ b.length) (hon : off ≤ n) {B mb : Nat} {sf : Int → ByteArray} (hBp : B ≤ bp) (hcn : cntI 4 y2 y3 y4 y5 = (l.length : Int)) (hal : l.length < 65536) (hls : ListR (RecR Kp b) off l e) (hrs : ∀ r ∈ l, ReadOk r ∧ (r.kind = 11 ∨ r.kind = 12 → asc r.pairs)) (hSO : SecOr (e ≤ n) B mb sf w)  :
  Ret PP 58 [.pointer (some ⟨bp, 0, none⟩)] w (fun u w' => ((e ≤ n ∧ ∃ v, u = .tuple #[v, .nilIface] ∧ LA ResV lRes (Ub NoU w w') w' v l ∧ PrAt w' bp (.slice a n km) y0 y1 y2 y3 y4 y5 (4 + 1) (e : Int) 0) ∨ (n < e ∧ ∃ (x : Option Addr), u = .tuple #[.slice none 0 0, .iface 166 (.pointer x)])) ∧ Fr (fun k => k = bp) w w') := by
 have hzb : bp < w.heap.size := hP.lt
 have hU : ∀ k, NoU k → k < w.heap.size := fun _ h => h.elim
 obtain ⟨ho', ty', ln', hQ⟩ := id hP
 have hcnv : y4 = (l.length : Int) := hcn
 have hf : Fr (fun k => k = bp) w w := Fr.refl _ _
 refine ret_of Tryz.func58 rfl rfl rfl [(0, _)] rfl ?_
 refine sreg (sA rfl (sA rfl (send (fg [(0, _)] ⟨rfl, ⟨⟩⟩ fun _ => (sreg (sM rfl (sN rfl (sv (xfld fl124_1 rfl) (sv (xfld fl121_4 rfl) (sv (xld on22 rfl (hQ.r.c 5 rfl rfl)) (sv (xconv hs22 ki3 rfl (w64n l.length hcnv (by omega))) (sA rfl (send (fg [(0, _), (4, _)] ⟨rfl, rfl, ⟨⟩⟩ fun _ => (wp_seq (sreg (sM rfl (sv (xgtr rfl rfl) (send (fg [(0, _), (4, _), (15, _)] ⟨rfl, rfl, rfl, ⟨⟩⟩ fun _ => ?_))))))))))))))))))))
 refine jcut [(0, _)] ⟨rfl, trivial⟩ (fun (x : Nat) => match x with | cp => [(4, .int .i64 (cp : Int))]) (fun (x : Nat) wx => match x with | cp => Fr (fun _ => False) w wx ∧ (cp ≤ 65536)) ?_ ?_
 ·
  have hJ1 : Fr (fun _ => False) w w := Fr.refl _ _
  refine cB rfl (fun hb => ?_) (fun hb => ?_)
  ·
   refine lreg (sA rfl (lend ?_))
   exact ⟨rfl, 10, _, env_okl ⟨rfl, rfl, trivial⟩, ⟨hJ1, (by omega)⟩⟩
  ·
   refine wp_skip ?_
   exact ⟨rfl, l.length, _, env_okl ⟨rfl, rfl, trivial⟩, ⟨hJ1, (by omega)⟩⟩
 ·
  rintro cp _ w2 ⟨hJ1, hcp⟩
  have z3 := hJ1.size
  have hP := hP.keep hJ1 id
  have hg0 := rng_fr hg0 hJ1 (by omega) id
  have hG := hG.keep (fun k hk => by omega) hJ1 nF
  have hm := rng_fr hm hJ1 (by omega) id
  have hSO := hSO.keep (fun k hk => by omega) hJ1 nF
  have hf := hf.step0 hJ1
  refine nThen (fg [(0, _), (4, _)] ⟨rfl, rfl, ⟨⟩⟩ fun _ => (sreg (sM rfl ?_)))
  refine svK (xmake (lo := 0) (hi := cp) sl75 in139 rfl (by decide) rfl rfl (by omega) rfl (by omega) (by omega) (by simp only [maxLen]; omega) (one6 _ _ _ _ _ _ rfl)) ?_
  rintro _ w4 ⟨b17, rfl, m5, -, ez17, sz17, r17⟩
  have hP := hP.keep m5 id
  have hg0 := rng_fr hg0 m5 (by omega) id
  have hG := hG.keep (fun k hk => by omega) m5 nF
  have hm := rng_fr hm m5 (by omega) id
  have hSO := hSO.keep (fun k hk => by omega) m5 nF
  have hf := hf.step0 m5
  have hv : RX ResV lRes NoU w.heap.size w4.heap.size w4 _ b17 139 0 [] := RX.ofNil r17
  refine sA rfl (send (fg [(0, _), (5, _)] ⟨rfl, rfl, ⟨⟩⟩ fun _ => (wp_block ?_)))
  refine lp [(0, _)] (fun (x : Nat × Nat × Value × Nat) => match x with | (k, o, v, g) => [(5, v)]) (fun (x : Nat × Nat × Value × Nat) wx => match x with | (k, o, v, g) => Fr (fun k => k = b17 ∨ k = bp) w4 wx ∧ (k ≤ l.length) ∧ (ListR (RecR Kp b) o (l.drop k) e) ∧ (o ≤ n) ∧ (PrAt wx bp (.slice a n km) y0 y1 y2 y3 y4 y5 4 (o : Int) (k : Int)) ∧ (RX ResV lRes NoU w.heap.size wx.heap.size wx v g 139 k (l.take k)) ∧ (w.heap.size ≤ g) ∧ (g < wx.heap.size) ∧ (g = b17 ∨ w4.heap.size ≤ g)) (fun (x : Nat × Nat × Value × Nat) => match x with | (k, o, v, g) => l.length - k) (0, off, _, b17) ⟨rfl, rfl, trivial⟩ ⟨Fr.refl _ _, Nat.zero_le _, hls, hon, hP, hv, by omega, by omega, .inl rfl⟩ ?_
  rintro ⟨k, o, v, g⟩ _ w7 ⟨hL6, hk, hls, hon, hP, hv, hg, hg2, hg3⟩
  refine fg [(0, _), (5, _)] ⟨rfl, rfl, ⟨⟩⟩ fun _ => ?_
  have z8 := hL6.size
  have hg0 := rng_fr hg0 hL6 (by omega) (by show ¬ (0 = b17 ∨ 0 = bp); omega)
  have hG := hG.keep (fun k hk => by omega) hL6 (fun k hk hS => by have hk := hk; have hS : k = b17 ∨ k = bp := hS; omega)
  have hm := rng_fr hm hL6 (by omega) (by show ¬ (bm = b17 ∨ bm = bp); omega)
  have hSO := hSO.keep (fun k hk => by omega) hL6 (fun k hk hS => by have hk := hk; have hS : k = b17 ∨ k = bp := hS; omega)
  have hf := hf.step hL6 (fun k hk hS => by have hS : k = b17 ∨ k = bp := hS; show k = bp; omega)
  obtain ⟨av, cv, rfl⟩ := RA.form hv
  rcases Nat.lt_or_ge k l.length with hlt | hge
  ·
   obtain ⟨r, hrk⟩ := some_of_lt hlt
   obtain ⟨o1, hRa, hls1⟩ := listR_drop hls hrk
   have hoe := listR_le hls1 (fun _ _ _ _ h => rec_le h)
   refine wp_block (sreg (sM rfl ?_))
   obtain ⟨ho, ty, ln, hP⟩ := hP
   refine sc (xcall ca62 rfl) (c62g (Kp := Kp) (e := o1) (r := r) hms hm (by omega) hnb hkm hbl hP hg0 hG (by omega) hgp (by omega) (by omega) hbp (by omega) (by omega) (by omega) hBp hKp hRa (hrs r (List.mem_of_getElem? hrk)).1 (hrs r (List.mem_of_getElem? hrk)).2 (by omega) (hSO.imp (by omega))) ?_
   rintro _ w9 ⟨⟨hle20, sg20, rfl, hV, hP⟩ | ⟨hgt20, x20, rfl⟩, m10⟩
   ·
    have z11 := m10.size
    have hg0 := rng_fr hg0 m10 (by omega) (by show ¬ (0 = bp); omega)
    have hG := hG.keep (fun k hk => by omega) m10 (fun k hk hS => by have hk := hk; have hS : k = bp := hS; omega)
    have hf := hf.step m10 (fun k hk hS => by have hS : k = bp := hS; show k = bp; omega)
    have hv := RX.keep hv resv_st (fun k hk => by have hk := hU k hk; omega) (by omega) m10 (fun k hk hk3 hS => by have hS : k = bp := hS; rcases hk with hk | hk <;> first | omega | (have := hU k hk; omega)) (by show ¬ (g = bp); omega)
    have hL6 := hL6.step m10 (fun k hk hS => by have hS : k = bp := hS; show k = b17 ∨ k = bp; omega)
    obtain ⟨len, vb, hl16, rfl, hbe⟩ := hV
    obtain ⟨bB, TB, lB, sB, rfl, -⟩ := id hbe
    refine sM rfl (sv (xex20 rfl) (sv (xex21 rfl) ?_))
    refine svK (xallS (lens := [256, 1, 1, 1, 1, 1]) in139 (by simp [nm_length])) ?_
    rintro _ w13 ⟨b6, rfl, m14, h6, e12, s12⟩
    have hg0 := rng_fr hg0 m14 (by omega) id
    have hG := hG.keep (fun k hk => by omega) m14 nF
    have hf := hf.step0 m14
    have hv := RX.keep hv resv_st (fun k hk => by have hk := hU k hk; omega) (by omega) m14 (fun _ _ _ h => h) id
    have hL6 := hL6.step0 m14
    have hP := hP.keep m14 id
    have hbe := hbe.keep (lNo (by omega)) m14 nF
    refine suK (xstW h6 (lens' := [256, 1, 1, 1, 1, 1]) sz139 (by simp [rhSegs, nm_length]) rfl (by simp only [rhSegs, List.cons_append, List.nil_append, List.flatten_cons, List.flatten_nil, List.all_append, List.append_nil, nm_one, Bool.true_and] <;> rfl) rfl rfl) ?_
    rintro w16 ⟨m17, h6, s15⟩
    have hg0 := rng_fr hg0 m17 (by omega) (by show ¬ (0 = b6); omega)
    have hG := hG.keep (fun k hk => by omega) m17 (fun k hk hS => by have hk := hk; have hS : k = b6 := hS; omega)
    have hf := hf.step m17 (nB (by omega))
    have hv := RX.keep hv resv_st (fun k hk => by have hk := hU k hk; omega) (by omega) m17 (fun k hk hk3 hS => by have hS : k = b6 := hS; rcases hk with hk | hk <;> first | omega | (have := hU k hk; omega)) (by show ¬ (g = b6); omega)
    have hL6 := hL6.step m17 (fun k hk hS => by have hS : k = b6 := hS; show k = b17 ∨ k = bp; omega)
    have hP := hP.keep m17 (by show ¬ (bp = b6); omega)
    have hbe := hbe.keep (lNo (by omega)) m17 (fun k hk hS => by have hk := Ub.num (U := NoU) (n := 0) (fun _ h => h.elim) hk; have hS : k = b6 := hS; omega)
    refine sA rfl (send (fg [(0, _), (5, _), (6, _), (7, _)] ⟨rfl, rfl, rfl, rfl, ⟨⟩⟩ fun _ => (wp_seq (sreg (sM rfl (sv (xld on89 rfl (hg0 0 _ rfl)) (sv (xeqEN if89 rfl rfl) (send (fg [(0, _), (5, _), (6, _), (7, _), (25, _)] ⟨rfl, rfl, rfl, rfl, rfl, ⟨⟩⟩ fun _ => (cno rfl (wp_skip (nThen (fg [(0, _), (5, _), (6, _), (7, _)] ⟨rfl, rfl, rfl, rfl, ⟨⟩⟩ fun _ => (wp_seq (sreg (sM rfl (sv (xneN if89 rfl) (send (fg [(0, _), (5, _), (6, _), (7, _), (28, _)] ⟨rfl, rfl, rfl, rfl, rfl, ⟨⟩⟩ fun _ => (cno rfl (wp_skip (nThen (fg [(0, _), (5, _), (6, _)] ⟨rfl, rfl, rfl, ⟨⟩⟩ fun _ => (lreg ?_))))))))))))))))))))))))
    refine sM rfl (sv (xldS (lens := [256, 1, 1, 1, 1, 1]) ro139 rfl h6.r) ?_)
    refine svK (xslit ((rhSegs (bt r.name) (typeN r) r.cls r.ttl len ++ [[Value.iface TB (.pointer (some ⟨bB, 0, none⟩))]]).flatten) sl75 in139 rfl (by decide) rfl rfl rfl (by simp [rhSegs, nm_length, Value.cells]) (by decide) (ag_flat _) (by simp only [rhSegs, List.cons_append, List.nil_append, List.flatten_cons, List.flatten_nil, List.all_append, List.append_nil, nm_one, Bool.true_and] <;> rfl)) ?_
    rintro _ w19 ⟨b32, rfl, m20, h32, e32, s32, r32⟩
    have hg0 := rng_fr hg0 m20 (by omega) id
    have hG := hG.keep (fun k hk => by omega) m20 nF
    have hf := hf.step0 m20
    have hv := RX.keep hv resv_st (fun k hk => by have hk := hU k hk; omega) (by omega) m20 (fun _ _ _ h => h) id
    have hL6 := hL6.step0 m20
    have hP := hP.keep m20 id
    have hbe := hbe.keep (lNo (by omega)) m20 nF
    obtain ⟨ss33, hR33, hA33⟩ := hv
    refine svK (xapp sl75 in139 rfl (by decide) rfl rfl hR33 (r32.src sl75) (by simp only [maxLen]; omega) (by omega)) ?_
    rintro v33 w21 ⟨g33, r33, m22, a33, l33⟩
    have z23 := m22.size
    have hg0 := rng_fr hg0 m22 (by omega) (by show ¬ (0 = g); omega)
    have hG := hG.keep (fun k hk => by omega) m22 (fun k hk hS => by have hk := hk; have hS : k = g := hS; omega)
    have hf := hf.step m22 (fun k hk hS => by have hS : k = g := hS; show k = bp; omega)
    have hL6 := hL6.step m22 (fun k hk hS => by have hS : k = g := hS; show k = b17 ∨ k = bp; omega)
    have hP := hP.keep m22 (by show ¬ (bp = g); omega)
    have hbe := hbe.keep (lNo (by omega)) m22 (fun k hk hS => by have hk := Ub.num (U := NoU) (n := 0) (fun _ h => h.elim) hk; have hS : k = g := hS; omega)
    have hv := RX.snoc (x := r) w21.heap.size hA33 resv_st resv_gr (fun k hk => by have hk := hU k hk; omega) (by omega) (by omega) m22 a33 r33 (by simp [rhSegs, nm_length]) (ResV.mk hl16 (hbe.mono (fun k h => ⟨h.elim .inl (fun h => .inr ⟨by omega, by omega⟩), by have h := Ub.num (U := NoU) (n := 0) (fun _ h => h.elim) h; omega⟩)))
    refine sA rfl (lend (nBlock (nThen ?_)))
    refine ⟨(k + 1, o1, _, g33), _, env_okl ⟨rfl, rfl, trivial⟩, ⟨hL6, (by omega), (hls1), (by omega), (prat_cast hP rfl (by omega)), (by rw [take_snoc hrk]; exact RX.up resv_gr hv (by omega)), (by omega), (l33 (by omega)), (by omega)⟩, ?_⟩
    show l.length - (k + 1) < l.length - k; omega
   ·
    have z24 := m10.size
    have hg0 := rng_fr hg0 m10 (by omega) (by show ¬ (0 = bp); omega)
    have hG := hG.keep (fun k hk => by omega) m10 (fun k hk hS => by have hk := hk; have hS : k = bp := hS; omega)
    have hf := hf.step m10 (fun k hk hS => by have hS : k = bp := hS; show k = bp; omega)
    have hv := RX.keep hv resv_st (fun k hk => by have hk := hU k hk; omega) (by omega) m10 (fun k hk hk3 hS => by have hS : k = bp := hS; rcases hk with hk | hk <;> first | omega | (have := hU k hk; omega)) (by show ¬ (g = bp); omega)
    refine sM rfl (sv (xex20 rfl) (sv (xex21 rfl) ?_))
    refine svK (xallS (lens := [256, 1, 1, 1, 1, 1]) in139 (by simp [nm_length])) ?_
    rintro _ w26 ⟨b6, rfl, m27, h6, e25, s25⟩
    have hg0 := rng_fr hg0 m27 (by omega) id
    have hG := hG.keep (fun k hk => by omega) m27 nF
    have hf := hf.step0 m27
    have hv := RX.keep hv resv_st (fun k hk => by have hk := hU k hk; omega) (by omega) m27 (fun _ _ _ h => h) id
    refine suK (xstW h6 (lens' := [256, 1, 1, 1, 1, 1]) sz139 (by simp [nm_length]) rfl (by simp only [List.cons_append, List.nil_append, List.flatten_cons, List.flatten_nil, List.all_append, List.append_nil, nm_one, Bool.true_and] <;> rfl) rfl rfl) ?_
    rintro w29 ⟨m30, h6, s28⟩
    have hg0 := rng_fr hg0 m30 (by omega) (by show ¬ (0 = b6); omega)
    have hG := hG.keep (fun k hk => by omega) m30 (fun k hk hS => by have hk := hk; have hS : k = b6 := hS; omega)
    have hf := hf.step m30 (nB (by omega))
    have hv := RX.keep hv resv_st (fun k hk => by have hk := hU k hk; omega) (by omega) m30 (fun k hk hk3 hS => by have hS : k = b6 := hS; rcases hk with hk | hk <;> first | omega | (have := hU k hk; omega)) (by show ¬ (g = b6); omega)
    refine sA rfl (send (fg [(0, _), (5, _), (6, _), (7, _)] ⟨rfl, rfl, rfl, rfl, ⟨⟩⟩ fun _ => (wp_seq (sreg (sM rfl (sv (xld on89 rfl (hg0 0 _ rfl)) (sv (xeqEO if89 hCT.1 rfl rfl) (send (fg [(0, _), (5, _), (6, _), (7, _), (25, _)] ⟨rfl, rfl, rfl, rfl, rfl, ⟨⟩⟩ fun _ => (cno rfl (wp_skip (nThen (fg [(0, _), (5, _), (6, _), (7, _)] ⟨rfl, rfl, rfl, rfl, ⟨⟩⟩ fun _ => (wp_seq (sreg (sM rfl (sv (xneI if89 rfl) (send (fg [(0, _), (5, _), (6, _), (7, _), (28, _)] ⟨rfl, rfl, rfl, rfl, rfl, ⟨⟩⟩ fun _ => (cyes rfl (sreg (sM rfl (sA rfl (sA rfl ?_))))))))))))))))))))))))
    refine send (fg [(2, _), (3, _)] ⟨rfl, rfl, ⟨⟩⟩ fun _ => (wp_ret (rThen (rBlock (rThen (rBlock ?_))))))
    refine rp2 rfl rfl rfl ?_
    exact ⟨.inr ⟨by omega, _, rfl⟩, hf⟩
  ·
   refine wp_block (sreg (sM rfl ?_))
   obtain ⟨ho, ty, ln, hP⟩ := hP
   refine sc (xcall ca62 rfl) (c62d hP hg0 hG (by omega) hgp (by omega) (by omega) (by omega)) ?_
   rintro _ w31 ⟨⟨rfl, hP⟩, m32⟩
   have z33 := m32.size
   have hg0 := rng_fr hg0 m32 (by omega) (by show ¬ (0 = bp); omega)
   have hf := hf.step m32 (fun k hk hS => by have hS : k = bp := hS; show k = bp; omega)
   have hv := RX.keep hv resv_st (fun k hk => by have hk := hU k hk; omega) (by omega) m32 (fun k hk hk3 hS => by have hS : k = bp := hS; rcases hk with hk | hk <;> first | omega | (have := hU k hk; omega)) (by show ¬ (g = bp); omega)
   refine sM rfl (sv (xex20 rfl) (sv (xex21 rfl) ?_))
   refine svK (xallS (lens := [256, 1, 1, 1, 1, 1]) in139 (by simp [nm_length])) ?_
   rintro _ w35 ⟨b6, rfl, m36, h6, e34, s34⟩
   have hg0 := rng_fr hg0 m36 (by omega) id
   have hf := hf.step0 m36
   have hv := RX.keep hv resv_st (fun k hk => by have hk := hU k hk; omega) (by omega) m36 (fun _ _ _ h => h) id
   have hP := hP.keep m36 id
   refine suK (xstW h6 (lens' := [256, 1, 1, 1, 1, 1]) sz139 (by simp [nm_length]) rfl (by simp only [List.cons_append, List.nil_append, List.flatten_cons, List.flatten_nil, List.all_append, List.append_nil, nm_one, Bool.true_and] <;> rfl) rfl rfl) ?_
   rintro w38 ⟨m39, h6, s37⟩
   have hg0 := rng_fr hg0 m39 (by omega) (by show ¬ (0 = b6); omega)
   have hf := hf.step m39 (nB (by omega))
   have hv := RX.keep hv resv_st (fun k hk => by have hk := hU k hk; omega) (by omega) m39 (fun k hk hk3 hS => by have hS : k = b6 := hS; rcases hk with hk | hk <;> first | omega | (have := hU k hk; omega)) (by show ¬ (g = b6); omega)
   have hP := hP.keep m39 (by show ¬ (bp = b6); omega)
   refine sA rfl (send (fg [(0, _), (5, _), (6, _), (7, _)] ⟨rfl, rfl, rfl, rfl, ⟨⟩⟩ fun _ => (wp_seq (sreg (sM rfl (sv (xld on89 rfl (hg0 0 _ rfl)) (sv (xeqES if89 hCT rfl rfl) (send (fg [(0, _), (5, _), (6, _), (7, _), (25, _)] ⟨rfl, rfl, rfl, rfl, rfl, ⟨⟩⟩ fun _ => (cyes rfl (sreg (sM rfl (sA rfl (sA rfl (send (fg [(2, _), (3, _)] ⟨rfl, rfl, ⟨⟩⟩ fun _ => (wp_ret (rThen (rBlock (rThen (rBlock ?_)))))))))))))))))))))
   refine rp2 rfl rfl rfl ?_
   have hPz := hP
   have hoe := listR_end hls hge
   subst hoe
   have hke : l.take k = l := List.take_of_length_le hge
   rw [hke] at hv
   obtain rfl : k = l.length := by omega
   exact ⟨.inl ⟨hon, _, rfl, RX.la hv (by decide) resv_gr (fun k hk => hk.elim .inl (fun h => .inr ⟨by omega, by omega⟩)) (.inr ⟨by omega, by omega⟩), _, _, _, hPz⟩, hf⟩
set_option maxHeartbeats 4000000 in
set_option maxRecDepth 100000 in
theorem c59 {w : World} {a : Option Addr} {bm om km n : Nat} {b : List UInt8} (hms : n ≠ 0 → a = some ⟨bm, om, none⟩) (hm : w.rangeAt bm om (bvs (b.take n))) (hbm : bm < w.heap.size) (hnb : n ≤ b.length) (hkm : n ≤ km) (hbl : b.length < 100000000) {bp : Nat} {y0 y1 y2 y3 y4 y5  : Int} {l : List RecD} {off e : Nat} {Kp : Nat → Prop} (hP : PrAt w bp (.slice a n km) y0 y1 y2 y3 y4 y5 5 (off : Int) 0) {Tz : TypeId} {xz : Option Addr} (hg0 : w.rangeAt 0 0 [.iface Tz (.pointer xz)]) (hG : GE w) (hsz : 21 ≤ w.heap.size) (hgp : 20 < bp) (hCT : CmpT Tz) (hbp : bp ≠ bm) (hKp : ∀ k, Kp k → k ≤ 10 ∧ (k = 0 ∨ n = b.length)) (heb : e ≤ b.length) (hon : off ≤ n) {B mb : Nat} {sf : Int → ByteArray} (hBp : B ≤ bp) (hcn : cntI 5 y2 y3 y4 y5 = (l.length : Int)) (hal : l.length < 65536) (hls : ListR (RecR Kp b) off l e) (hrs : ∀ r ∈ l, ReadOk r ∧ (r.kind = 11 ∨ r.kind = 12 → asc r.pairs)) (hSO : SecOr (e ≤ n) B mb sf w)  :
  Ret PP 59 [.pointer (some ⟨bp, 0, none⟩)] w (fun u w' => ((e ≤ n ∧ ∃ v, u = .tuple #[v, .nilIface] ∧ LA ResV lRes (Ub NoU w w') w' v l ∧ PrAt w' bp (.slice a n km) y0 y1 y2 y3 y4 y5 (5 + 1) (e : Int) 0) ∨ (n < e ∧ ∃ (x : Option Addr), u = .tuple #[.slice none 0 0, .iface 166 (.pointer x)])) ∧ Fr (fun k => k = bp) w w') := by
 have hzb : bp < w.heap.size := hP.lt
 have hU : ∀ k, NoU k → k < w.heap.size := fun _ h => h.elim
 obtain ⟨ho', ty', ln', hQ⟩ := id hP
 have hcnv : y5 = (l.length : Int) := hcn
 have hf : Fr (fun k => k = bp) w w := Fr.refl _ _
 refine ret_of Tryz.func59 rfl rfl rfl [(0, _)] rfl ?_
 refine sreg (sA rfl (sA rfl (send (fg [(0, _)] ⟨rfl, ⟨⟩⟩ fun _ => (sreg (sM rfl (sN rfl (sv (xfld fl124_1 rfl) (sv (xfld fl121_5 rfl) (sv (xld on22 rfl (hQ.r.c 6 rfl rfl)) (sv (xconv hs22 ki3 rfl (w64n l.length hcnv (by omega))) (sA rfl (send (fg [(0, _), (4, _)] ⟨rfl, rfl, ⟨⟩⟩ fun _ => (wp_seq (sreg (sM rfl (sv (xgtr rfl rfl) (send (fg [(0, _), (4, _), (15, _)] ⟨rfl, rfl, rfl, ⟨⟩⟩ fun _ => ?_))))))))))))))))))))
 refine jcut [(0, _)] ⟨rfl, trivial⟩ (fun (x : Nat) => match x with | cp => [(4, .int .i64 (cp : Int))]) (fun (x : Nat) wx => match x with | cp => Fr (fun _ => False) w wx ∧ (cp ≤ 65536)) ?_ ?_
 ·
  have hJ1 : Fr (fun _ => False) w w := Fr.refl _ _
  refine cB rfl (fun hb => ?_) (fun hb => ?_)
  ·
   refine lreg (sA rfl (lend ?_))
   exact ⟨rfl, 10, _, env_okl ⟨rfl, rfl, trivial⟩, ⟨hJ1, (by omega)⟩⟩
  ·
   refine wp_skip ?_
   exact ⟨rfl, l.length, _, env_okl ⟨rfl, rfl, trivial⟩, ⟨hJ1, (by omega)⟩⟩
 ·
  rintro cp _ w2 ⟨hJ1, hcp⟩
  have z3 := hJ1.size
  have hP := hP.keep hJ1 id
  have hg0 := rng_fr hg0 hJ1 (by omega) id
  have hG := hG.keep (fun k hk => by omega) hJ1 nF
  have hm := rng_fr hm hJ1 (by omega) id
  have hSO := hSO.keep (fun k hk => by omega) hJ1 nF
  have hf := hf.step0 hJ1
  refine nThen (fg [(0, _), (4, _)] ⟨rfl, rfl, ⟨⟩⟩ fun _ => (sreg (sM rfl ?_)))
  refine svK (xmake (lo := 0) (hi := cp) sl75 in139 rfl (by decide) rfl rfl (by omega) rfl (by omega) (by omega) (by simp only [maxLen]; omega) (one6 _ _ _ _ _ _ rfl)) ?_
  rintro _ w4 ⟨b17, rfl, m5, -, ez17, sz17, r17⟩
  have hP := hP.keep m5 id
  have hg0 := rng_fr hg0 m5 (by omega) id
  have hG := hG.keep (fun k hk => by omega) m5 nF
  have hm := rng_fr hm m5 (by omega) id
  have hSO := hSO.keep (fun k hk => by omega) m5 nF
  have hf := hf.step0 m5
  have hv : RX ResV lRes NoU w.heap.size w4.heap.size w4 _ b17 139 0 [] := RX.ofNil r17
  refine sA rfl (send (fg [(0, _), (5, _)] ⟨rfl, rfl, ⟨⟩⟩ fun _ => (wp_block ?_)))
  refine lp [(0, _)] (fun (x : Nat × Nat × Value × Nat) => match x with | (k, o, v, g) => [(5, v)]) (fun (x : Nat × Nat × Value × Nat) wx => match x with | (k, o, v, g) => Fr (fun k => k = b17 ∨ k = bp) w4 wx ∧ (k ≤ l.length) ∧ (ListR (RecR Kp b) o (l.drop k) e) ∧ (o ≤ n) ∧ (PrAt wx bp (.slice a n km) y0 y1 y2 y3 y4 y5 5 (o : Int) (k : Int)) ∧ (RX ResV lRes NoU w.heap.size wx.heap.size wx v g 139 k (l.take k)) ∧ (w.heap.size ≤ g) ∧ (g < wx.heap.size) ∧ (g = b17 ∨ w4.heap.size ≤ g)) (fun (x : Nat × Nat × Value × Nat) => match x with | (k, o, v, g) => l.length - k) (0, off, _, b17) ⟨rfl, rfl, trivial⟩ ⟨Fr.refl _ _, Nat.zero_le _, hls, hon, hP, hv, by omega, by omega, .inl rfl⟩ ?_
  rintro ⟨k, o, v, g⟩ _ w7 ⟨hL6, hk, hls, hon, hP, hv, hg, hg2, hg3⟩
  refine fg [(0, _), (5, _)] ⟨rfl, rfl, ⟨⟩⟩ fun _ => ?_
  have z8 := hL6.size
  have hg0 := rng_fr hg0 hL6 (by omega) (by show ¬ (0 = b17 ∨ 0 = bp); omega)
  have hG := hG.keep (fun k hk => by omega) hL6 (fun k hk hS => by have hk := hk; have hS : k = b17 ∨ k = bp := hS; omega)
  have hm := rng_fr hm hL6 (by omega) (by show ¬ (bm = b17 ∨ bm = bp); omega)
  have hSO := hSO.keep (fun k hk => by omega) hL6 (fun k hk hS => by have hk := hk; have hS : k = b17 ∨ k = bp := hS; omega)
  have hf := hf.step hL6 (fun k hk hS => by have hS : k = b17 ∨ k = bp := hS; show k = bp; omega)
  obtain ⟨av, cv, rfl⟩ := RA.form hv
  rcases Nat.lt_or_ge k l.length with hlt | hge
  ·
   obtain ⟨r, hrk⟩ := some_of_lt hlt
   obtain ⟨o1, hRa, hls1⟩ := listR_drop hls hrk
   have hoe := listR_le hls1 (fun _ _ _ _ h => rec_le h)
   refine wp_block (sreg (sM rfl ?_))
   obtain ⟨ho, ty, ln, hP⟩ := hP
   refine sc (xcall ca63 rfl) (c63g (Kp := Kp) (e := o1) (r := r) hms hm (by omega) hnb hkm hbl hP hg0 hG (by omega) hgp (by omega) (by omega) hbp (by omega) (by omega) (by omega) hBp hKp hRa (hrs r (List.mem_of_getElem? hrk)).1 (hrs r (List.mem_of_getElem? hrk)).2 (by omega) (hSO.imp (by omega))) ?_
   rintro _ w9 ⟨⟨hle20, sg20, rfl, hV, hP⟩ | ⟨hgt20, x20, rfl⟩, m10⟩
   ·
    have z11 := m10.size
    have hg0 := rng_fr hg0 m10 (by omega) (by show ¬ (0 = bp); omega)
    have hG := hG.keep (fun k hk => by omega) m10 (fun k hk hS => by have hk := hk; have hS : k = bp := hS; omega)
    have hf := hf.step m10 (fun k hk hS => by have hS : k = bp := hS; show k = bp; omega)
    have hv := RX.keep hv resv_st (fun k hk => by have hk := hU k hk; omega) (by omega) m10 (fun k hk hk3 hS => by have hS : k = bp := hS; rcases hk with hk | hk <;> first | omega | (have := hU k hk; omega)) (by show ¬ (g = bp); omega)
    have hL6 := hL6.step m10 (fun k hk hS => by have hS : k = bp := hS; show k = b17 ∨ k = bp; omega)
    obtain ⟨len, vb, hl16, rfl, hbe⟩ := hV
    obtain ⟨bB, TB, lB, sB, rfl, -⟩ := id hbe
    refine sM rfl (sv (xex20 rfl) (sv (xex21 rfl) ?_))
    refine svK (xallS (lens := [256, 1, 1, 1, 1, 1]) in139 (by simp [nm_length])) ?_
    rintro _ w13 ⟨b6, rfl, m14, h6, e12, s12⟩
    have hg0 := rng_fr hg0 m14 (by omega) id
    have hG := hG.keep (fun k hk => by omega) m14 nF
    have hf := hf.step0 m14
    have hv := RX.keep hv resv_st (fun k hk => by have hk := hU k hk; omega) (by omega) m14 (fun _ _ _ h => h) id
    have hL6 := hL6.step0 m14
    have hP := hP.keep m14 id
    have hbe := hbe.keep (lNo (by omega)) m14 nF
    refine suK (xstW h6 (lens' := [256, 1, 1, 1, 1, 1]) sz139 (by simp [rhSegs, nm_length]) rfl (by simp only [rhSegs, List.cons_append, List.nil_append, List.flatten_cons, List.flatten_nil, List.all_append, List.append_nil, nm_one, Bool.true_and] <;> rfl) rfl rfl) ?_
    rintro w16 ⟨m17, h6, s15⟩
    have hg0 := rng_fr hg0 m17 (by omega) (by show ¬ (0 = b6); omega)
    have hG := hG.keep (fun k hk => by omega) m17 (fun k hk hS => by have hk := hk; have hS : k = b6 := hS; omega)
    have hf := hf.step m17 (nB (by omega))
    have hv := RX.keep hv resv_st (fun k hk => by have hk := hU k hk; omega) (by omega) m17 (fun k hk hk3 hS => by have hS : k = b6 := hS; rcases hk with hk | hk <;> first | omega | (have := hU k hk; omega)) (by show ¬ (g = b6); omega)
    have hL6 := hL6.step m17 (fun k hk hS => by have hS : k = b6 := hS; show k = b17 ∨ k = bp; omega)
    have hP := hP.keep m17 (by show ¬ (bp = b6); omega)
    have hbe := hbe.keep (lNo (by omega)) m17 (fun k hk hS => by have hk := Ub.num (U := NoU) (n := 0) (fun _ h => h.elim) hk; have hS : k = b6 := hS; omega)
    refine sA rfl (send (fg [(0, _), (5, _), (6, _), (7, _)] ⟨rfl, rfl, rfl, rfl, ⟨⟩⟩ fun _ => (wp_seq (sreg (sM rfl (sv (xld on89 rfl (hg0 0 _ rfl)) (sv (xeqEN if89 rfl rfl) (send (fg [(0, _), (5, _), (6, _), (7, _), (25, _)] ⟨rfl, rfl, rfl, rfl, rfl, ⟨⟩⟩ fun _ => (cno rfl (wp_skip (nThen (fg [(0, _), (5, _), (6, _), (7, _)] ⟨rfl, rfl, rfl, rfl, ⟨⟩⟩ fun _ => (wp_seq (sreg (sM rfl (sv (xneN if89 rfl) (send (fg [(0, _), (5, _), (6, _), (7, _), (28, _)] ⟨rfl, rfl, rfl, rfl, rfl, ⟨⟩⟩ fun _ => (cno rfl (wp_skip (nThen (fg [(0, _), (5, _), (6, _)] ⟨rfl, rfl, rfl, ⟨⟩⟩ fun _ => (lreg ?_))))))))))))))))))))))))
    refine sM rfl (sv (xldS (lens := [256, 1, 1, 1, 1, 1]) ro139 rfl h6.r) ?_)
    refine svK (xslit ((rhSegs (bt r.name) (typeN r) r.cls r.ttl len ++ [[Value.iface TB (.pointer (some ⟨bB, 0, none⟩))]]).flatten) sl75 in139 rfl (by decide) rfl rfl rfl (by simp [rhSegs, nm_length, Value.cells]) (by decide) (ag_flat _) (by simp only [rhSegs, List.cons_append, List.nil_append, List.flatten_cons, List.flatten_nil, List.all_append, List.append_nil, nm_one, Bool.true_and] <;> rfl)) ?_
    rintro _ w19 ⟨b32, rfl, m20, h32, e32, s32, r32⟩
    have hg0 := rng_fr hg0 m20 (by omega) id
    have hG := hG.keep (fun k hk => by omega) m20 nF
    have hf := hf.step0 m20
    have hv := RX.keep hv resv_st (fun k hk => by have hk := hU k hk; omega) (by omega) m20 (fun _ _ _ h => h) id
    have hL6 := hL6.step0 m20
    have hP := hP.keep m20 id
    have hbe := hbe.keep (lNo (by omega)) m20 nF
    obtain ⟨ss33, hR33, hA33⟩ := hv
    refine svK (xapp sl75 in139 rfl (by decide) rfl rfl hR33 (r32.src sl75) (by simp only [maxLen]; omega) (by omega)) ?_
    rintro v33 w21 ⟨g33, r33, m22, a33, l33⟩
    have z23 := m22.size
    have hg0 := rng_fr hg0 m22 (by omega) (by show ¬ (0 = g); omega)
    have hG := hG.keep (fun k hk => by omega) m22 (fun k hk hS => by have hk := hk; have hS : k = g := hS; omega)
    have hf := hf.step m22 (fun k hk hS => by have hS : k = g := hS; show k = bp; omega)
    have hL6 := hL6.step m22 (fun k hk hS => by have hS : k = g := hS; show k = b17 ∨ k = bp; omega)
    have hP := hP.keep m22 (by show ¬ (bp = g); omega)
    have hbe := hbe.keep (lNo (by omega)) m22 (fun k hk hS => by have hk := Ub.num (U := NoU) (n := 0) (fun _ h => h.elim) hk; have hS : k = g := hS; omega)
    have hv := RX.snoc (x := r) w21.heap.size hA33 resv_st resv_gr (fun k hk => by have hk := hU k hk; omega) (by omega) (by omega) m22 a33 r33 (by simp [rhSegs, nm_length]) (ResV.mk hl16 (hbe.mono (fun k h => ⟨h.elim .inl (fun h => .inr ⟨by omega, by omega⟩), by have h := Ub.num (U := NoU) (n := 0) (fun _ h => h.elim) h; omega⟩)))
    refine sA rfl (lend (nBlock (nThen ?_)))
    refine ⟨(k + 1, o1, _, g33), _, env_okl ⟨rfl, rfl, trivial⟩, ⟨hL6, (by omega), (hls1), (by omega), (prat_cast hP rfl (by omega)), (by rw [take_snoc hrk]; exact RX.up resv_gr hv (by omega)), (by omega), (l33 (by omega)), (by omega)⟩, ?_⟩
    show l.length - (k + 1) < l.length - k; omega
   ·
    have z24 := m10.size
    have hg0 := rng_fr hg0 m10 (by omega) (by show ¬ (0 = bp); omega)
    have hG := hG.keep (fun k hk => by omega) m10 (fun k hk hS => by have hk := hk; have hS : k = bp := hS; omega)
    have hf := hf.step m10 (fun k hk hS => by have hS : k = bp := hS; show k = bp; omega)
    have hv := RX.keep hv resv_st (fun k hk => by have hk := hU k hk; omega) (by omega) m10 (fun k hk hk3 hS => by have hS : k = bp := hS; rcases hk with hk | hk <;> first | omega | (have := hU k hk; omega)) (by show ¬ (g = bp); omega)
    refine sM rfl (sv (xex20 rfl) (sv (xex21 rfl) ?_))
    refine svK (xallS (lens := [256, 1, 1, 1, 1, 1]) in139 (by simp [nm_length])) ?_
    rintro _ w26 ⟨b6, rfl, m27, h6, e25, s25⟩
    have hg0 := rng_fr hg0 m27 (by omega) id
    have hG := hG.keep (fun k hk => by omega) m27 nF
    have hf := hf.step0 m27
    have hv := RX.keep hv resv_st (fun k hk => by have hk := hU k hk; omega) (by omega) m27 (fun _ _ _ h => h) id
    refine suK (xstW h6 (lens' := [256, 1, 1, 1, 1, 1]) sz139 (by simp [nm_length]) rfl (by simp only [List.cons_append, List.nil_append, List.flatten_cons, List.flatten_nil, List.all_append, List.append_nil, nm_one, Bool.true_and] <;> rfl) rfl rfl) ?_
    rintro w29 ⟨m30, h6, s28⟩
    have hg0 := rng_fr hg0 m30 (by omega) (by show ¬ (0 = b6); omega)
    have hG := hG.keep (fun k hk => by omega) m30 (fun k hk hS => by have hk := hk; have hS : k = b6 := hS; omega)
    have hf := hf.step m30 (nB (by omega))
    have hv := RX.keep hv resv_st (fun k hk => by have hk := hU k hk; omega) (by omega) m30 (fun k hk hk3 hS => by have hS : k = b6 := hS; rcases hk with hk | hk <;> first | omega | (have := hU k hk; omega)) (by show ¬ (g = b6); omega)
    refine sA rfl (send (fg [(0, _), (5, _), (6, _), (7, _)] ⟨rfl, rfl, rfl, rfl, ⟨⟩⟩ fun _ => (wp_seq (sreg (sM rfl (sv (xld on89 rfl (hg0 0 _ rfl)) (sv (xeqEO if89 hCT.1 rfl rfl) (send (fg [(0, _), (5, _), (6, _), (7, _), (25, _)] ⟨rfl, rfl, rfl, rfl, rfl, ⟨⟩⟩ fun _ => (cno rfl (wp_skip (nThen (fg [(0, _), (5, _), (6, _), (7, _)] ⟨rfl, rfl, rfl, rfl, ⟨⟩⟩ fun _ => (wp_seq (sreg (sM rfl (sv (xneI if89 rfl) (send (fg [(0, _), (5, _), (6, _), (7, _), (28, _)] ⟨rfl, rfl, rfl, rfl, rfl, ⟨⟩⟩ fun _ => (cyes rfl (sreg (sM rfl (sA rfl (sA rfl ?_))))))))))))))))))))))))
    refine send (fg [(2, _), (3, _)] ⟨rfl, rfl, ⟨⟩⟩ fun _ => (wp_ret (rThen (rBlock (rThen (rBlock ?_))))))
    refine rp2 rfl rfl rfl ?_
    exact ⟨.inr ⟨by omega, _, rfl⟩, hf⟩
  ·
   refine wp_block (sreg (sM rfl ?_))
   obtain ⟨ho, ty, ln, hP⟩ := hP
   refine sc (xcall ca63 rfl) (c63d hP hg0 hG (by omega) hgp (by omega) (by omega) (by omega)) ?_
   rintro _ w31 ⟨⟨rfl, hP⟩, m32⟩
   have z33 := m32.size
   have hg0 := rng_fr hg0 m32 (by omega) (by show ¬ (0 = bp); omega)
   have hf := hf.step m32 (fun k hk hS => by have hS : k = bp := hS; show k = bp; omega)
   have hv := RX.keep hv resv_st (fun k hk => by have hk := hU k hk; omega) (by omega) m32 (fun k hk hk3 hS => by have hS : k = bp := hS; rcases hk with hk | hk <;> first | omega | (have := hU k hk; omega)) (by show ¬ (g = bp); omega)
   refine sM rfl (sv (xex20 rfl) (sv (xex21 rfl) ?_))
   refine svK (xallS (lens := [256, 1, 1, 1, 1, 1]) in139 (by simp [nm_length])) ?_
   rintro _ w35 ⟨b6, rfl, m36, h6, e34, s34⟩
   have hg0 := rng_fr hg0 m36 (by omega) id
   have hf := hf.step0 m36
   have hv := RX.keep hv resv_st (fun k hk => by have hk := hU k hk; omega) (by omega) m36 (fun _ _ _ h => h) id
   have hP := hP.keep m36 id
   refine suK (xstW h6 (lens' := [256, 1, 1, 1, 1, 1]) sz139 (by simp [nm_length]) rfl (by simp only [List.cons_append, List.nil_append, List.flatten_cons, List.flatten_nil, List.all_append, List.append_nil, nm_one, Bool.true_and] <;> rfl) rfl rfl) ?_
   rintro w38 ⟨m39, h6, s37⟩
   have hg0 := rng_fr hg0 m39 (by omega) (by show ¬ (0 = b6); omega)
   have hf := hf.step m39 (nB (by omega))
   have hv := RX.keep hv resv_st (fun k hk => by have hk := hU k hk; omega) (by omega) m39 (fun k hk hk3 hS => by have hS : k = b6 := hS; rcases hk with hk | hk <;> first | omega | (have := hU k hk; omega)) (by show ¬ (g = b6); omega)
   have hP := hP.keep m39 (by show ¬ (bp = b6); omega)
   refine sA rfl (send (fg [(0, _), (5, _), (6, _), (7, _)] ⟨rfl, rfl, rfl, rfl, ⟨⟩⟩ fun _ => (wp_seq (sreg (sM rfl (sv (xld on89 rfl (hg0 0 _ rfl)) (sv (xeqES if89 hCT rfl rfl) (send (fg [(0, _), (5, _), (6, _), (7, _), (25, _)] ⟨rfl, rfl, rfl, rfl, rfl, ⟨⟩⟩ fun _ => (cyes rfl (sreg (sM rfl (sA rfl (sA rfl (send (fg [(2, _), (3, _)] ⟨rfl, rfl, ⟨⟩⟩ fun _ => (wp_ret (rThen (rBlock (rThen (rBlock ?_)))))))))))))))))))))
   refine rp2 rfl rfl rfl ?_
   have hPz := hP
   have hoe := listR_end hls hge
   subst hoe
   have hke : l.take k = l := List.take_of_length_le hge
   rw [hke] at hv
   obtain rfl : k = l.length := by omega
   exact ⟨.inl ⟨hon, _, rfl, RX.la hv (by decide) resv_gr (fun k hk => hk.elim .inl (fun h => .inr ⟨by omega, by omega⟩)) (.inr ⟨by omega, by omega⟩), _, _, _, hPz⟩, hf⟩
end Go.Proofs.YtifnodoffgfpbaaGreatDoor

namespace Go.Proofs.YtifnodoffgfpbaaGreatDoor
open Go

theorem nm_pre0 {w : World} {b o : Nat} {S : List UInt8} (h : w.rangeAt b o (nm S)) (hl : S.length ≤ 255) : w.rangeAt b o (bvs S) := fun j v hv => h j v (nm_pre S hl j v hv)
theorem cnt2 {y2 y3 y4 y5 : Int} : cntI 2 y2 y3 y4 y5 = y2 := rfl
theorem cnt3 {y2 y3 y4 y5 : Int} : cntI 3 y2 y3 y4 y5 = y3 := rfl
theorem cnt4 {y2 y3 y4 y5 : Int} : cntI 4 y2 y3 y4 y5 = y4 := rfl
theorem cnt5 {y2 y3 y4 y5 : Int} : cntI 5 y2 y3 y4 y5 = y5 := rfl

set_option maxHeartbeats 4000000 in
set_option maxRecDepth 100000 in
theorem c55 {w : World} {a : Option Addr} {bm om km n : Nat} {b : List UInt8} (hms : n ≠ 0 → a = some ⟨bm, om, none⟩) (hm : w.rangeAt bm om (bvs (b.take n))) (hbm : bm < w.heap.size) (hnb : n ≤ b.length) (hkm : n ≤ km) (hbl : b.length < 100000000) (hG : GE w) (hsz : 21 ≤ w.heap.size) {bp : Nat} {hd : HeadD} {k0 k1 k2 k3 : Nat} (hP : SB w bp lPr (prSegs (.slice none 0 0) 0 0 0 0 0 0 0 0 0 false 0 0 0)) (hbp : bp ≠ bm) (hgp : 20 < bp) (hho : hd.ok) (hst : Std b 0 (headL hd [k0, k1, k2, k3])) (l0 : k0 < 65536) (l1 : k1 < 65536) (l2 : k2 < 65536) (l3 : k3 < 65536) (hb12 : 12 ≤ b.length) :
  Ret PP 55 [.pointer (some ⟨bp, 0, none⟩), .slice a n km] w (fun u w' => ((12 ≤ n ∧ u = .tuple #[ag (headSegs hd), .nilIface] ∧ SB w' bp lPr (prSegs (.slice a n km) (hd.id.toNat : Int) ((hbits hd).toNat : Int) (k0 : Int) (k1 : Int) (k2 : Int) (k3 : Int) 2 ((12 : Nat) : Int) 0 false 0 0 0)) ∨ (n < 12 ∧ ∃ (x : Option Addr), u = .tuple #[ag ([[.int .u16 0], [.bool false], [.int .u16 0], [.bool false], [.bool false], [.bool false], [.bool false], [.bool false], [.bool false], [.int .u16 0]]), .iface 166 (.pointer x)])) ∧ Fr (fun k => k = bp) w w') := by
 have hst : Std b 0 (be16 hd.id.toNat ++ (be16 (hbits hd).toNat ++ (be16 k0 ++ (be16 k1 ++ (be16 k2 ++ (be16 k3 ++ [])))))) := hst
 have hf : Fr (fun k => k = bp) w w := Fr.refl _ _
 have z_hP := hP.lt
 refine ret_of Tryz.func55 rfl rfl rfl [(0, _), (1, _)] rfl ?_
 refine sreg ?_
 refine svK (xallS (lens := [1, 1, 1, 1, 1, 1, 1, 1, 1, 1]) in73 rfl) ?_
 rintro _ w2 ⟨b4, rfl, m3, h4, e1, s1⟩
 have hm := rng_fr hm m3 (by omega) id
 have hG := hG.keep (fun k hk => by omega) m3 nF
 have hP := hP.keep m3 id
 have hf := hf.step0 m3
 refine sA rfl (send (fg [(0, _), (1, _), (4, _)] ⟨rfl, rfl, rfl, ⟨⟩⟩ fun _ => (wp_seq (sreg (sM rfl (sN rfl (sv (xfld fl124_0 rfl) (sv (xld on37 rfl (hP.r.c 0 rfl rfl)) (sv (xneSl sl37 rfl) (send (fg [(0, _), (1, _), (4, _), (11, _)] ⟨rfl, rfl, rfl, rfl, ⟨⟩⟩ fun _ => (cno rfl (wp_skip (nThen (fg [(0, _), (1, _), (4, _)] ⟨rfl, rfl, rfl, ⟨⟩⟩ fun _ => (sreg (sM rfl (sM rfl (sN rfl (sv (xfld fl124_0 rfl) ?_))))))))))))))))))))
 refine suK (xstF 0 sz37 hP rfl rfl rfl rfl rfl) ?_
 rintro w5 ⟨m6, hP, s4⟩
 have hm := rng_fr hm m6 (by omega) (by show ¬ (bm = bp); omega)
 have hG := hG.keep (fun k hk => by omega) m6 (fun k hk hS => by have hk := hk; have hS : k = bp := hS; omega)
 have hf := hf.step m6 (fun k hk hS => by have hS : k = bp := hS; show k = bp; omega)
 have h4 := h4.keep m6 (by show ¬ (b4 = bp); omega)
 refine send (fg [(0, _), (1, _), (4, _)] ⟨rfl, rfl, rfl, ⟨⟩⟩ fun _ => (sreg (sA rfl (send (fg [(0, _), (1, _), (4, _)] ⟨rfl, rfl, rfl, ⟨⟩⟩ fun _ => (wp_seq (sreg (sM rfl (sM rfl (sN rfl (sv (xfld fl124_1 rfl) (sM rfl ?_))))))))))))
 refine sc (xcall ca102 rfl) (c102 (b := b) (ka := hd.id.toNat) (kb := (hbits hd).toNat) (kc := k0) (kd := k1) (ke := k2) (kf := k3) hms hm (by omega) hnb hkm hbl hG (by omega) hP hbp hgp (u16lt _) (u16lt _) l0 l1 l2 l3 hst.left (hst.right' rfl).left ((hst.right' rfl).right' rfl).left (((hst.right' rfl).right' rfl).right' rfl).left ((((hst.right' rfl).right' rfl).right' rfl).right' rfl).left (((((hst.right' rfl).right' rfl).right' rfl).right' rfl).right' rfl).left hb12) ?_
 rintro _ w7 ⟨⟨hle25, rfl, hP⟩ | ⟨hgt25, ⟨T25, x25, rfl⟩, i0, i1, i2, i3, i4, i5, hP⟩, m8⟩
 ·
  have z9 := m8.size
  have hf := hf.step m8 (fun k hk hS => by have hS : k = bp := hS; show k = bp; omega)
  have h4 := h4.keep m8 (by show ¬ (b4 = bp); omega)
  refine sM rfl (sv (xex20 rfl) (sv (xex21 rfl) (sN rfl (sv (xfld fl124_3 rfl) ?_))))
  refine suK (xstF 8 sz3 hP rfl rfl rfl rfl rfl) ?_
  rintro w11 ⟨m12, hP, s10⟩
  have hf := hf.step m12 (fun k hk hS => by have hS : k = bp := hS; show k = bp; omega)
  have h4 := h4.keep m12 (by show ¬ (b4 = bp); omega)
  refine sA rfl (send (fg [(0, _), (4, _), (6, _)] ⟨rfl, rfl, rfl, ⟨⟩⟩ fun _ => (sreg (sM rfl (sv (xneN if89 rfl) (send (fg [(0, _), (4, _), (6, _), (31, _)] ⟨rfl, rfl, rfl, rfl, ⟨⟩⟩ fun _ => (cno rfl (wp_skip (nThen (fg [(0, _), (4, _)] ⟨rfl, rfl, ⟨⟩⟩ fun _ => (sreg (sM rfl (sN rfl (sv (xfld fl124_2 rfl) ?_)))))))))))))))
  refine suK (xstF 7 sz122 hP rfl rfl rfl rfl rfl) ?_
  rintro w14 ⟨m15, hP, s13⟩
  have hf := hf.step m15 (fun k hk hS => by have hS : k = bp := hS; show k = bp; omega)
  have h4 := h4.keep m15 (by show ¬ (b4 = bp); omega)
  refine send (fg [(0, _), (4, _)] ⟨rfl, rfl, ⟨⟩⟩ fun _ => (sreg (sM rfl (sN rfl (sv (xfld fl124_1 rfl) ?_)))))
  refine sc (xcall ca103 rfl) (c103 (_y0 := 0) (_y1 := 0) hho hP) ?_
  rintro _ w16 ⟨rfl, m17⟩
  have z18 := m17.size
  have hf := hf.step0 m17
  have h4 := h4.keep m17 id
  have hP := hP.keep m17 id
  refine suK (xstW h4 (lens' := [1, 1, 1, 1, 1, 1, 1, 1, 1, 1]) sz73 rfl rfl rfl rfl rfl) ?_
  rintro w20 ⟨m21, h4, s19⟩
  have hf := hf.step m21 (nB (by omega))
  have hP := hP.keep m21 (by show ¬ (bp = b4); omega)
  refine sA rfl (send (fg [(4, _), (5, _)] ⟨rfl, rfl, ⟨⟩⟩ fun _ => (wp_ret ?_)))
  refine rp2 rfl ⟨_, rfl, ldS (lens := [1, 1, 1, 1, 1, 1, 1, 1, 1, 1]) ro73 h4.r⟩ rfl ?_
  exact ⟨.inl ⟨by omega, rfl, hP⟩, hf⟩
 ·
  have z22 := m8.size
  have hf := hf.step m8 (fun k hk hS => by have hS : k = bp := hS; show k = bp; omega)
  have h4 := h4.keep m8 (by show ¬ (b4 = bp); omega)
  refine sM rfl (sv (xex20 rfl) (sv (xex21 rfl) (sN rfl (sv (xfld fl124_3 rfl) ?_))))
  refine suK (xstF 8 sz3 hP rfl rfl rfl rfl rfl) ?_
  rintro w24 ⟨m25, hP, s23⟩
  have hf := hf.step m25 (fun k hk hS => by have hS : k = bp := hS; show k = bp; omega)
  have h4 := h4.keep m25 (by show ¬ (b4 = bp); omega)
  refine sA rfl (send (fg [(0, _), (4, _), (6, _)] ⟨rfl, rfl, rfl, ⟨⟩⟩ fun _ => (sreg (sM rfl (sv (xneI if89 rfl) (send (fg [(0, _), (4, _), (6, _), (31, _)] ⟨rfl, rfl, rfl, rfl, ⟨⟩⟩ fun _ => (cyes rfl (sreg (sv (xbuildS [[.int .u16 0], [.bool false], [.int .u16 0], [.bool false], [.bool false], [.bool false], [.bool false], [.bool false], [.bool false], [.int .u16 0]] zr73 ly73 rfl trivial (by simp [setAll, zs73])) (sM rfl (sv (xbuildS [[_], [_]] zr168 ly168 rfl (by simp [fitAll, zs168, Value.cells]) rfl) ?_))))))))))))
  refine svK (xboxS (lens := [1, 1]) rfl (by simp [])) ?_
  rintro _ w27 ⟨b35, rfl, m28, h35, e26, s26⟩
  have hf := hf.step0 m28
  have h4 := h4.keep m28 id
  refine sv (xmkif ni166 rfl) ?_
  refine suK (xstW h4 (lens' := [1, 1, 1, 1, 1, 1, 1, 1, 1, 1]) sz73 rfl rfl rfl rfl rfl) ?_
  rintro w30 ⟨m31, h4, s29⟩
  have hf := hf.step m31 (nB (by omega))
  refine sA rfl (send (fg [(4, _), (5, _)] ⟨rfl, rfl, ⟨⟩⟩ fun _ => (wp_ret (rThen ?_))))
  refine rp2 rfl ⟨_, rfl, ldS (lens := [1, 1, 1, 1, 1, 1, 1, 1, 1, 1]) ro73 h4.r⟩ rfl ?_
  exact ⟨.inr ⟨by omega, _, rfl⟩, hf⟩
set_option maxHeartbeats 4000000 in
set_option maxRecDepth 100000 in
theorem c47 {w : World} {a : Option Addr} {bm om km n : Nat} {b : List UInt8} (hms : n ≠ 0 → a = some ⟨bm, om, none⟩) (hm : w.rangeAt bm om (bvs (b.take n))) (hbm : bm < w.heap.size) (hnb : n ≤ b.length) (hkm : n ≤ km) (hbl : b.length < 100000000) (hG : GE w) (hsz : 21 ≤ w.heap.size) {bx : Nat} {m : MsgD} (hX : SB w bx lMsg [[.int .u16 0], [.bool false], [.int .u16 0], [.bool false], [.bool false], [.bool false], [.bool false], [.bool false], [.bool false], [.int .u16 0], [.slice none 0 0], [.slice none 0 0], [.slice none 0 0], [.slice none 0 0]]) (hbx : bx ≠ bm) {Kp : Nat → Prop} (hMR : MsgR Kp b m) (hKp : ∀ k, Kp k → k ≤ 10 ∧ (k = 0 ∨ n = b.length)) (hho : m.head.ok) (l0 : m.asks.length < 65536) (l1 : m.one.length < 65536) (l2 : m.two.length < 65536) (l3 : m.three.length < 65536) (hna : ∀ a ∈ m.asks, nameL (bt a.name)) (hr1 : ∀ r ∈ m.one, ReadOk r ∧ (r.kind = 11 ∨ r.kind = 12 → asc r.pairs)) (hr2 : ∀ r ∈ m.two, ReadOk r ∧ (r.kind = 11 ∨ r.kind = 12 → asc r.pairs)) (hr3 : ∀ r ∈ m.three, ReadOk r ∧ (r.kind = 11 ∨ r.kind = 12 → asc r.pairs)) {Tz : TypeId} {xz : Option Addr} (hg0 : w.rangeAt 0 0 [.iface Tz (.pointer xz)]) (hCT : CmpT Tz) {B mb : Nat} {sf : Int → ByteArray} (hBw : B ≤ w.heap.size) (hSO : SecOr (b.length ≤ n) B mb sf w) (hgx : 20 < bx) (hBx : B ≤ bx)  :
  Ret PP 47 [.pointer (some ⟨bx, 0, none⟩), .slice a n km] w (fun u w' => ((b.length ≤ n ∧ u = .nilIface ∧ ∃ va v1 v2 v3, SB w' bx lMsg (msgSegs m.head va v1 v2 v3) ∧ LA QEl lQ (Ub NoU w w') w' va m.asks ∧ LA ResV lRes (Ub NoU w w') w' v1 m.one ∧ LA ResV lRes (Ub NoU w w') w' v2 m.two ∧ LA ResV lRes (Ub NoU w w') w' v3 m.three) ∨ (n < b.length ∧ ∃ (x : Option Addr), u = .iface 166 (.pointer x))) ∧ Fr (fun k => k = bx) w w') := by
 obtain ⟨hst, ea, eb, ec, hla, hl1, hl2, hl3⟩ := hMR
 have hz0 := listR_le hla (fun _ _ _ _ h => ask_le h)
 have hz1 := listR_le hl1 (fun _ _ _ _ h => rec_le h)
 have hz2 := listR_le hl2 (fun _ _ _ _ h => rec_le h)
 have hz3 := listR_le hl3 (fun _ _ _ _ h => rec_le h)
 have hst : Std b 0 (headL m.head [m.asks.length, m.one.length, m.two.length, m.three.length]) := hst
 have hf : Fr (fun k => k = bx) w w := Fr.refl _ _
 have z_hX := hX.lt
 refine ret_of Tryz.func47 rfl rfl rfl [(0, _), (1, _)] rfl ?_
 refine sreg (sA rfl (send (fg [(0, _), (1, _)] ⟨rfl, rfl, ⟨⟩⟩ fun _ => (sreg ?_))))
 refine svK (xallS (lens := lMsg) in124 rfl) ?_
 rintro _ w2 ⟨b5, rfl, m3, h5, e1, s1⟩
 have hm := rng_fr hm m3 (by omega) id
 have hG := hG.keep (fun k hk => by omega) m3 nF
 have hX := hX.keep m3 id
 have hg0 := rng_fr hg0 m3 (by omega) id
 have hSO := hSO.keep (fun k hk => by omega) m3 nF
 have hf := hf.step0 m3
 refine send (fg [(0, _), (1, _), (5, _)] ⟨rfl, rfl, rfl, ⟨⟩⟩ fun _ => (sreg (sA rfl (send (fg [(0, _), (1, _), (5, _)] ⟨rfl, rfl, rfl, ⟨⟩⟩ fun _ => (wp_seq (sreg (sM rfl (sM rfl ?_)))))))))
 refine sc (xcall ca55 rfl) (c55 (b := b) (hd := m.head) hms hm (by omega) hnb hkm hbl hG (by omega) h5 (by omega) (by omega) hho hst l0 l1 l2 l3 (by omega)) ?_
 rintro _ w4 ⟨⟨hle10, rfl, hP⟩ | ⟨hgt10, x10, rfl⟩, m5⟩
 ·
  have z6 := m5.size
  have hm := rng_fr hm m5 (by omega) (by show ¬ (bm = b5); omega)
  have hG := hG.keep (fun k hk => by omega) m5 (fun k hk hS => by have hk := hk; have hS : k = b5 := hS; omega)
  have hX := hX.keep m5 (by show ¬ (bx = b5); omega)
  have hg0 := rng_fr hg0 m5 (by omega) (by show ¬ (0 = b5); omega)
  have hSO := hSO.keep (fun k hk => by omega) m5 (fun k hk hS => by have hk := hk; have hS : k = b5 := hS; omega)
  have hf := hf.step m5 (nB (by omega))
  have hP : PrAt w4 b5 (.slice a n km) (m.head.id.toNat : Int) ((hbits m.head).toNat : Int) (m.asks.length : Int) (m.one.length : Int) (m.two.length : Int) (m.three.length : Int) 2 ((12 : Nat) : Int) 0 := ⟨_, _, _, hP⟩
  refine sM rfl (sv (xex20 rfl) (sv (xex21 rfl) (sN rfl (sv (xfld fl79_0 rfl) ?_))))
  refine suK (xstS 0 hX (lens' := [1, 1, 1, 1, 1, 1, 1, 1, 1, 1]) sz73 rfl rfl rfl rfl rfl rfl) ?_
  rintro w8 ⟨m9, hX, s7⟩
  have hm := rng_fr hm m9 (by omega) (by show ¬ (bm = bx); omega)
  have hG := hG.keep (fun k hk => by omega) m9 (fun k hk hS => by have hk := hk; have hS : k = bx := hS; omega)
  have hg0 := rng_fr hg0 m9 (by omega) (by show ¬ (0 = bx); omega)
  have hSO := hSO.keep (fun k hk => by omega) m9 (fun k hk hS => by have hk := hk; have hS : k = bx := hS; omega)
  have hf := hf.step m9 (fun k hk hS => by have hS : k = bx := hS; show k = bx; omega)
  have hP := hP.keep m9 (by show ¬ (b5 = bx); omega)
  refine sA rfl (send (fg [(0, _), (5, _), (6, _)] ⟨rfl, rfl, rfl, ⟨⟩⟩ fun _ => (sreg (sM rfl (sv (xneN if89 rfl) (send (fg [(0, _), (5, _), (6, _), (16, _)] ⟨rfl, rfl, rfl, rfl, ⟨⟩⟩ fun _ => (cno rfl (wp_skip (nThen (fg [(0, _), (5, _)] ⟨rfl, rfl, ⟨⟩⟩ fun _ => (wp_seq (sreg (sM rfl ?_))))))))))))))
  refine sc (xcall ca56 rfl) (c56 (b := b) (Kp := Kp) (e := ea) (asks := m.asks) hms hm (by omega) hnb hkm hbl hP hg0 hG (by omega) (by omega) hCT (by omega) hKp (by omega) (by omega) cnt2 l0 hla hna) ?_
  rintro _ w10 ⟨⟨hle20, v20, rfl, hL56, hP⟩ | ⟨hgt20, x20, rfl⟩, m11⟩
  ·
   have z12 := m11.size
   have hm := rng_fr hm m11 (by omega) (by show ¬ (bm = b5); omega)
   have hG := hG.keep (fun k hk => by omega) m11 (fun k hk hS => by have hk := hk; have hS : k = b5 := hS; omega)
   have hX := hX.keep m11 (by show ¬ (bx = b5); omega)
   have hg0 := rng_fr hg0 m11 (by omega) (by show ¬ (0 = b5); omega)
   have hSO := hSO.keep (fun k hk => by omega) m11 (fun k hk hS => by have hk := hk; have hS : k = b5 := hS; omega)
   have hf := hf.step m11 (nB (by omega))
   obtain ⟨aq20, cq20, rfl⟩ := hL56.form
   refine sM rfl (sv (xex20 rfl) (sv (xex21 rfl) (sN rfl (sv (xfld fl79_1 rfl) ?_))))
   refine suK (xstF 10 sz77 hX rfl rfl rfl rfl rfl) ?_
   rintro w14 ⟨m15, hX, s13⟩
   have hm := rng_fr hm m15 (by omega) (by show ¬ (bm = bx); omega)
   have hG := hG.keep (fun k hk => by omega) m15 (fun k hk hS => by have hk := hk; have hS : k = bx := hS; omega)
   have hg0 := rng_fr hg0 m15 (by omega) (by show ¬ (0 = bx); omega)
   have hSO := hSO.keep (fun k hk => by omega) m15 (fun k hk hS => by have hk := hk; have hS : k = bx := hS; omega)
   have hf := hf.step m15 (fun k hk hS => by have hS : k = bx := hS; show k = bx; omega)
   have hP := hP.keep m15 (by show ¬ (b5 = bx); omega)
   have hL56 := hL56.keep qel_st (lNo (by omega)) m15 (fun k hk hS => by have hk := Ub.num (U := NoU) (n := 0) (fun _ h => h.elim) hk; have hS : k = bx := hS; omega)
   refine sA rfl (send (fg [(0, _), (5, _), (6, _)] ⟨rfl, rfl, rfl, ⟨⟩⟩ fun _ => (sreg (sM rfl (sv (xneN if89 rfl) (send (fg [(0, _), (5, _), (6, _), (26, _)] ⟨rfl, rfl, rfl, rfl, ⟨⟩⟩ fun _ => (cno rfl (wp_skip (nThen (fg [(0, _), (5, _)] ⟨rfl, rfl, ⟨⟩⟩ fun _ => (wp_seq (sreg (sM rfl ?_))))))))))))))
   refine sc (xcall ca57 rfl) (c57 (b := b) (Kp := Kp) (e := eb) (l := m.one) hms hm (by omega) hnb hkm hbl hP hg0 hG (by omega) (by omega) hCT (by omega) hKp (by omega) (by omega) (by omega) cnt3 l1 hl1 hr1 (hSO.imp (by omega))) ?_
   rintro _ w16 ⟨⟨hle30, v30, rfl, hL57, hP⟩ | ⟨hgt30, x30, rfl⟩, m17⟩
   ·
    have z18 := m17.size
    have hm := rng_fr hm m17 (by omega) (by show ¬ (bm = b5); omega)
    have hG := hG.keep (fun k hk => by omega) m17 (fun k hk hS => by have hk := hk; have hS : k = b5 := hS; omega)
    have hX := hX.keep m17 (by show ¬ (bx = b5); omega)
    have hg0 := rng_fr hg0 m17 (by omega) (by show ¬ (0 = b5); omega)
    have hSO := hSO.keep (fun k hk => by omega) m17 (fun k hk hS => by have hk := hk; have hS : k = b5 := hS; omega)
    have hf := hf.step m17 (nB (by omega))
    have hL56 := hL56.keep qel_st (lNo (by omega)) m17 (fun k hk hS => by have hk := Ub.num (U := NoU) (n := 0) (fun _ h => h.elim) hk; have hS : k = b5 := hS; omega)
    obtain ⟨aq30, cq30, rfl⟩ := hL57.form
    refine sM rfl (sv (xex20 rfl) (sv (xex21 rfl) (sN rfl (sv (xfld fl79_2 rfl) ?_))))
    refine suK (xstF 11 sz75 hX rfl rfl rfl rfl rfl) ?_
    rintro w20 ⟨m21, hX, s19⟩
    have hm := rng_fr hm m21 (by omega) (by show ¬ (bm = bx); omega)
    have hG := hG.keep (fun k hk => by omega) m21 (fun k hk hS => by have hk := hk; have hS : k = bx := hS; omega)
    have hg0 := rng_fr hg0 m21 (by omega) (by show ¬ (0 = bx); omega)
    have hSO := hSO.keep (fun k hk => by omega) m21 (fun k hk hS => by have hk := hk; have hS : k = bx := hS; omega)
    have hf := hf.step m21 (fun k hk hS => by have hS : k = bx := hS; show k = bx; omega)
    have hL56 := hL56.keep qel_st (lNo (by omega)) m21 (fun k hk hS => by have hk := Ub.num (U := NoU) (n := 0) (fun _ h => h.elim) hk; have hS : k = bx := hS; omega)
    have hP := hP.keep m21 (by show ¬ (b5 = bx); omega)
    have hL57 := hL57.keep resv_st (lNo (by omega)) m21 (fun k hk hS => by have hk := Ub.num (U := NoU) (n := 0) (fun _ h => h.elim) hk; have hS : k = bx := hS; omega)
    refine sA rfl (send (fg [(0, _), (5, _), (6, _)] ⟨rfl, rfl, rfl, ⟨⟩⟩ fun _ => (sreg (sM rfl (sv (xneN if89 rfl) (send (fg [(0, _), (5, _), (6, _), (36, _)] ⟨rfl, rfl, rfl, rfl, ⟨⟩⟩ fun _ => (cno rfl (wp_skip (nThen (fg [(0, _), (5, _)] ⟨rfl, rfl, ⟨⟩⟩ fun _ => (wp_seq (sreg (sM rfl ?_))))))))))))))
    refine sc (xcall ca58 rfl) (c58 (b := b) (Kp := Kp) (e := ec) (l := m.two) hms hm (by omega) hnb hkm hbl hP hg0 hG (by omega) (by omega) hCT (by omega) hKp (by omega) (by omega) (by omega) cnt4 l2 hl2 hr2 (hSO.imp (by omega))) ?_
    rintro _ w22 ⟨⟨hle40, v40, rfl, hL58, hP⟩ | ⟨hgt40, x40, rfl⟩, m23⟩
    ·
     have z24 := m23.size
     have hm := rng_fr hm m23 (by omega) (by show ¬ (bm = b5); omega)
     have hG := hG.keep (fun k hk => by omega) m23 (fun k hk hS => by have hk := hk; have hS : k = b5 := hS; omega)
     have hX := hX.keep m23 (by show ¬ (bx = b5); omega)
     have hg0 := rng_fr hg0 m23 (by omega) (by show ¬ (0 = b5); omega)
     have hSO := hSO.keep (fun k hk => by omega) m23 (fun k hk hS => by have hk := hk; have hS : k = b5 := hS; omega)
     have hf := hf.step m23 (nB (by omega))
     have hL56 := hL56.keep qel_st (lNo (by omega)) m23 (fun k hk hS => by have hk := Ub.num (U := NoU) (n := 0) (fun _ h => h.elim) hk; have hS : k = b5 := hS; omega)
     have hL57 := hL57.keep resv_st (lNo (by omega)) m23 (fun k hk hS => by have hk := Ub.num (U := NoU) (n := 0) (fun _ h => h.elim) hk; have hS : k = b5 := hS; omega)
     obtain ⟨aq40, cq40, rfl⟩ := hL58.form
     refine sM rfl (sv (xex20 rfl) (sv (xex21 rfl) (sN rfl (sv (xfld fl79_3 rfl) ?_))))
     refine suK (xstF 12 sz75 hX rfl rfl rfl rfl rfl) ?_
     rintro w26 ⟨m27, hX, s25⟩
     have hm := rng_fr hm m27 (by omega) (by show ¬ (bm = bx); omega)
     have hG := hG.keep (fun k hk => by omega) m27 (fun k hk hS => by have hk := hk; have hS : k = bx := hS; omega)
     have hg0 := rng_fr hg0 m27 (by omega) (by show ¬ (0 = bx); omega)
     have hSO := hSO.keep (fun k hk => by omega) m27 (fun k hk hS => by have hk := hk; have hS : k = bx := hS; omega)
     have hf := hf.step m27 (fun k hk hS => by have hS : k = bx := hS; show k = bx; omega)
     have hL56 := hL56.keep qel_st (lNo (by omega)) m27 (fun k hk hS => by have hk := Ub.num (U := NoU) (n := 0) (fun _ h => h.elim) hk; have hS : k = bx := hS; omega)
     have hL57 := hL57.keep resv_st (lNo (by omega)) m27 (fun k hk hS => by have hk := Ub.num (U := NoU) (n := 0) (fun _ h => h.elim) hk; have hS : k = bx := hS; omega)
     have hP := hP.keep m27 (by show ¬ (b5 = bx); omega)
     have hL58 := hL58.keep resv_st (lNo (by omega)) m27 (fun k hk hS => by have hk := Ub.num (U := NoU) (n := 0) (fun _ h => h.elim) hk; have hS : k = bx := hS; omega)
     refine sA rfl (send (fg [(0, _), (5, _), (6, _)] ⟨rfl, rfl, rfl, ⟨⟩⟩ fun _ => (sreg (sM rfl (sv (xneN if89 rfl) (send (fg [(0, _), (5, _), (6, _), (46, _)] ⟨rfl, rfl, rfl, rfl, ⟨⟩⟩ fun _ => (cno rfl (wp_skip (nThen (fg [(0, _), (5, _)] ⟨rfl, rfl, ⟨⟩⟩ fun _ => (wp_seq (sreg (sM rfl ?_))))))))))))))
     refine sc (xcall ca59 rfl) (c59 (b := b) (Kp := Kp) (e := b.length) (l := m.three) hms hm (by omega) hnb hkm hbl hP hg0 hG (by omega) (by omega) hCT (by omega) hKp (by omega) (by omega) (by omega) cnt5 l3 hl3 hr3 (hSO.imp (by omega))) ?_
     rintro _ w28 ⟨⟨hle50, v50, rfl, hL59, hP⟩ | ⟨hgt50, x50, rfl⟩, m29⟩
     ·
      have z30 := m29.size
      have hX := hX.keep m29 (by show ¬ (bx = b5); omega)
      have hf := hf.step m29 (nB (by omega))
      have hL56 := hL56.keep qel_st (lNo (by omega)) m29 (fun k hk hS => by have hk := Ub.num (U := NoU) (n := 0) (fun _ h => h.elim) hk; have hS : k = b5 := hS; omega)
      have hL57 := hL57.keep resv_st (lNo (by omega)) m29 (fun k hk hS => by have hk := Ub.num (U := NoU) (n := 0) (fun _ h => h.elim) hk; have hS : k = b5 := hS; omega)
      have hL58 := hL58.keep resv_st (lNo (by omega)) m29 (fun k hk hS => by have hk := Ub.num (U := NoU) (n := 0) (fun _ h => h.elim) hk; have hS : k = b5 := hS; omega)
      obtain ⟨aq50, cq50, rfl⟩ := hL59.form
      refine sM rfl (sv (xex20 rfl) (sv (xex21 rfl) (sN rfl (sv (xfld fl79_4 rfl) ?_))))
      refine suK (xstF 13 sz75 hX rfl rfl rfl rfl rfl) ?_
      rintro w32 ⟨m33, hX, s31⟩
      have hf := hf.step m33 (fun k hk hS => by have hS : k = bx := hS; show k = bx; omega)
      have hL56 := hL56.keep qel_st (lNo (by omega)) m33 (fun k hk hS => by have hk := Ub.num (U := NoU) (n := 0) (fun _ h => h.elim) hk; have hS : k = bx := hS; omega)
      have hL57 := hL57.keep resv_st (lNo (by omega)) m33 (fun k hk hS => by have hk := Ub.num (U := NoU) (n := 0) (fun _ h => h.elim) hk; have hS : k = bx := hS; omega)
      have hL58 := hL58.keep resv_st (lNo (by omega)) m33 (fun k hk hS => by have hk := Ub.num (U := NoU) (n := 0) (fun _ h => h.elim) hk; have hS : k = bx := hS; omega)
      have hL59 := hL59.keep resv_st (lNo (by omega)) m33 (fun k hk hS => by have hk := Ub.num (U := NoU) (n := 0) (fun _ h => h.elim) hk; have hS : k = bx := hS; omega)
      refine sA rfl (send (fg [(6, _)] ⟨rfl, ⟨⟩⟩ fun _ => (sreg (sM rfl (sv (xneN if89 rfl) (send (fg [(6, _), (56, _)] ⟨rfl, rfl, ⟨⟩⟩ fun _ => (cno rfl (wp_skip (nThen (fg [] trivial fun _ => (sreg (sA rfl (send (fg [(4, _)] ⟨rfl, ⟨⟩⟩ fun _ => (wp_ret ?_))))))))))))))))
      refine rp1 rfl rfl ?_
      exact ⟨.inl ⟨by omega, rfl, _, _, _, _, hX, hL56.mono (fun _ _ _ _ _ h _ => h) (fun k hk => hk.elim .inl (fun h => .inr ⟨by omega, by omega⟩)), hL57.mono resv_gr (fun k hk => hk.elim .inl (fun h => .inr ⟨by omega, by omega⟩)), hL58.mono resv_gr (fun k hk => hk.elim .inl (fun h => .inr ⟨by omega, by omega⟩)), hL59.mono resv_gr (fun k hk => hk.elim .inl (fun h => .inr ⟨by omega, by omega⟩))⟩, hf⟩
     ·
      have z34 := m29.size
      have hX := hX.keep m29 (by show ¬ (bx = b5); omega)
      have hf := hf.step m29 (nB (by omega))
      refine sM rfl (sv (xex20 rfl) (sv (xex21 rfl) (sN rfl (sv (xfld fl79_4 rfl) ?_))))
      refine suK (xstF 13 sz75 hX rfl rfl rfl rfl rfl) ?_
      rintro w36 ⟨m37, hX, s35⟩
      have hf := hf.step m37 (fun k hk hS => by have hS : k = bx := hS; show k = bx; omega)
      refine sA rfl (send (fg [(6, _)] ⟨rfl, ⟨⟩⟩ fun _ => (sreg (sM rfl (sv (xneI if89 rfl) (send (fg [(6, _), (56, _)] ⟨rfl, rfl, ⟨⟩⟩ fun _ => (cyes rfl (sreg (sM rfl (sA rfl (send (fg [(4, _)] ⟨rfl, ⟨⟩⟩ fun _ => (wp_ret (rThen ?_)))))))))))))))
      refine rp1 rfl rfl ?_
      exact ⟨.inr ⟨by omega, _, rfl⟩, hf⟩
    ·
     have z38 := m23.size
     have hX := hX.keep m23 (by show ¬ (bx = b5); omega)
     have hf := hf.step m23 (nB (by omega))
     refine sM rfl (sv (xex20 rfl) (sv (xex21 rfl) (sN rfl (sv (xfld fl79_3 rfl) ?_))))
     refine suK (xstF 12 sz75 hX rfl rfl rfl rfl rfl) ?_
     rintro w40 ⟨m41, hX, s39⟩
     have hf := hf.step m41 (fun k hk hS => by have hS : k = bx := hS; show k = bx; omega)
     refine sA rfl (send (fg [(0, _), (5, _), (6, _)] ⟨rfl, rfl, rfl, ⟨⟩⟩ fun _ => (sreg (sM rfl (sv (xneI if89 rfl) (send (fg [(0, _), (5, _), (6, _), (46, _)] ⟨rfl, rfl, rfl, rfl, ⟨⟩⟩ fun _ => (cyes rfl (sreg (sM rfl (sA rfl (send (fg [(4, _)] ⟨rfl, ⟨⟩⟩ fun _ => (wp_ret (rThen ?_)))))))))))))))
     refine rp1 rfl rfl ?_
     exact ⟨.inr ⟨by omega, _, rfl⟩, hf⟩
   ·
    have z42 := m17.size
    have hX := hX.keep m17 (by show ¬ (bx = b5); omega)
    have hf := hf.step m17 (nB (by omega))
    refine sM rfl (sv (xex20 rfl) (sv (xex21 rfl) (sN rfl (sv (xfld fl79_2 rfl) ?_))))
    refine suK (xstF 11 sz75 hX rfl rfl rfl rfl rfl) ?_
    rintro w44 ⟨m45, hX, s43⟩
    have hf := hf.step m45 (fun k hk hS => by have hS : k = bx := hS; show k = bx; omega)
    refine sA rfl (send (fg [(0, _), (5, _), (6, _)] ⟨rfl, rfl, rfl, ⟨⟩⟩ fun _ => (sreg (sM rfl (sv (xneI if89 rfl) (send (fg [(0, _), (5, _), (6, _), (36, _)] ⟨rfl, rfl, rfl, rfl, ⟨⟩⟩ fun _ => (cyes rfl (sreg (sM rfl (sA rfl (send (fg [(4, _)] ⟨rfl, ⟨⟩⟩ fun _ => (wp_ret (rThen ?_)))))))))))))))
    refine rp1 rfl rfl ?_
    exact ⟨.inr ⟨by omega, _, rfl⟩, hf⟩
  ·
   have z46 := m11.size
   have hX := hX.keep m11 (by show ¬ (bx = b5); omega)
   have hf := hf.step m11 (nB (by omega))
   refine sM rfl (sv (xex20 rfl) (sv (xex21 rfl) (sN rfl (sv (xfld fl79_1 rfl) ?_))))
   refine suK (xstF 10 sz77 hX rfl rfl rfl rfl rfl) ?_
   rintro w48 ⟨m49, hX, s47⟩
   have hf := hf.step m49 (fun k hk hS => by have hS : k = bx := hS; show k = bx; omega)
   refine sA rfl (send (fg [(0, _), (5, _), (6, _)] ⟨rfl, rfl, rfl, ⟨⟩⟩ fun _ => (sreg (sM rfl (sv (xneI if89 rfl) (send (fg [(0, _), (5, _), (6, _), (26, _)] ⟨rfl, rfl, rfl, rfl, ⟨⟩⟩ fun _ => (cyes rfl (sreg (sM rfl (sA rfl (send (fg [(4, _)] ⟨rfl, ⟨⟩⟩ fun _ => (wp_ret (rThen ?_)))))))))))))))
   refine rp1 rfl rfl ?_
   exact ⟨.inr ⟨by omega, _, rfl⟩, hf⟩
 ·
  have z50 := m5.size
  have hX := hX.keep m5 (by show ¬ (bx = b5); omega)
  have hf := hf.step m5 (nB (by omega))
  refine sM rfl (sv (xex20 rfl) (sv (xex21 rfl) (sN rfl (sv (xfld fl79_0 rfl) ?_))))
  refine suK (xstS 0 hX (lens' := [1, 1, 1, 1, 1, 1, 1, 1, 1, 1]) sz73 rfl rfl rfl rfl rfl rfl) ?_
  rintro w52 ⟨m53, hX, s51⟩
  have hf := hf.step m53 (fun k hk hS => by have hS : k = bx := hS; show k = bx; omega)
  refine sA rfl (send (fg [(0, _), (5, _), (6, _)] ⟨rfl, rfl, rfl, ⟨⟩⟩ fun _ => (sreg (sM rfl (sv (xneI if89 rfl) (send (fg [(0, _), (5, _), (6, _), (16, _)] ⟨rfl, rfl, rfl, rfl, ⟨⟩⟩ fun _ => (cyes rfl (sreg (sM rfl (sA rfl (send (fg [(4, _)] ⟨rfl, ⟨⟩⟩ fun _ => (wp_ret (rThen ?_)))))))))))))))
  refine rp1 rfl rfl ?_
  exact ⟨.inr ⟨by omega, _, rfl⟩, hf⟩
end Go.Proofs.YtifnodoffgfpbaaGreatDoor

namespace Go.Proofs.YtifnodoffgfpbaaGreatDoor
open Go

theorem rec_k {r' : RecD} {k : Int} (h : r'.kind = k) (vd vt vp : Value) : recSegs r' vd vt vp = recSegs { r' with kind := k } vd vt vp := by subst h; rfl
theorem ag_rec {r' : RecD} {k : Int} {vd vt vp : Value} {segs : List (List Value)} (h : r'.kind = k) (he : ag segs = ag (recSegs { r' with kind := k } vd vt vp)) : ag segs = ag (recSegs r' vd vt vp) := by rw [rec_k h]; exact he
theorem one5 (S : List UInt8) (x1 x2 x3 x4 : Int) : ([nm S, [Value.int .u16 x1], [Value.int .u16 x2], [Value.int .u32 x3], [Value.int .u16 x4]].flatten.all (·.oneCell')) = true := by
  simp only [List.flatten_cons, List.flatten_nil, List.all_append, List.append_nil, nm_one, Bool.true_and]; rfl
theorem ba0 {U : Nat → Prop} {w : World} : BA U w (.slice none 0 0) [] := ⟨none, 0, rfl, fun h => absurd rfl h⟩

set_option maxHeartbeats 4000000 in
set_option maxRecDepth 100000 in
theorem c48 {w : World} {hd : HeadD} :
  Ret PP 48 [ag (headSegs hd)] w (fun u w' => u = ag (headSegs hd) ∧ Fr0 w w') := by
 have hf : Fr (fun _ => False) w w := Fr.refl _ _
 refine ret_of Tryz.func48 rfl rfl rfl [(0, _)] rfl ?_
 refine sreg ?_
 refine svK (xboxS (lens := [1, 1, 1, 1, 1, 1, 1, 1, 1, 1]) rfl rfl) ?_
 rintro _ w2 ⟨b1, rfl, m3, h1, e1, s1⟩
 have hf := hf.step0 m3
 refine svK (xallS (lens := [1, 1, 1, 1, 1, 1, 1, 1, 1, 1]) in24 rfl) ?_
 rintro _ w5 ⟨b2, rfl, m6, h2, e4, s4⟩
 have hf := hf.step0 m6
 have h1 := h1.keep m6 id
 refine send (fg [(1, _), (2, _)] ⟨rfl, rfl, ⟨⟩⟩ fun _ => (sreg (sv (xfld fl73_0 rfl) (sv (xld on22 rfl (h1.r.c 0 rfl rfl)) (sv (xfld fl73_1 rfl) (sv (xld on4 rfl (h1.r.c 1 rfl rfl)) (sv (xfld fl73_2 rfl) (sv (xld on70 rfl (h1.r.c 2 rfl rfl)) (sv (xfld fl73_3 rfl) (sv (xld on4 rfl (h1.r.c 3 rfl rfl)) (sv (xfld fl73_4 rfl) (sv (xld on4 rfl (h1.r.c 4 rfl rfl)) (sv (xfld fl73_5 rfl) (sv (xld on4 rfl (h1.r.c 5 rfl rfl)) (sv (xfld fl73_6 rfl) (sv (xld on4 rfl (h1.r.c 6 rfl rfl)) (sv (xfld fl73_7 rfl) (sv (xld on4 rfl (h1.r.c 7 rfl rfl)) (sv (xfld fl73_8 rfl) (sv (xld on4 rfl (h1.r.c 8 rfl rfl)) (sv (xfld fl73_9 rfl) (sv (xld on71 rfl (h1.r.c 9 rfl rfl)) (sv (xbuildS (headSegs hd) zr24 ly24 rfl (by simp [fitAll, zs24, Value.cells]) rfl) ?_)))))))))))))))))))))))
 refine suK (xstW h2 (lens' := [1, 1, 1, 1, 1, 1, 1, 1, 1, 1]) sz24 rfl rfl rfl rfl rfl) ?_
 rintro w8 ⟨m9, h2, s7⟩
 have hf := hf.step m9 (nB (by omega))
 refine send (fg [(2, _)] ⟨rfl, ⟨⟩⟩ fun _ => (wp_ret ?_))
 refine rp1 rfl ⟨_, rfl, ldS (lens := [1, 1, 1, 1, 1, 1, 1, 1, 1, 1]) ro24 h2.r⟩ ?_
 exact ⟨rfl, hf⟩
set_option maxHeartbeats 4000000 in
set_option maxRecDepth 100000 in
theorem c100 {w : World} {S : List UInt8} (hS : S.length ≤ 255) :
  Ret PP 100 [ag [nm S]] w (fun u w' => u = .string (mkB S) ∧ Fr0 w w') := by
 have hf : Fr (fun _ => False) w w := Fr.refl _ _
 refine ret_of Tryz.func100 rfl rfl rfl [(0, _)] rfl ?_
 refine sreg ?_
 refine svK (xboxS (lens := [256]) rfl (by simp [nm_length])) ?_
 rintro _ w2 ⟨b1, rfl, m3, h1, e1, s1⟩
 have hf := hf.step0 m3
 refine sA rfl (send (fg [(1, _)] ⟨rfl, ⟨⟩⟩ fun _ => (sreg (sv (xfld fl82_0 rfl) (sv (xfld fl82_1 rfl) (sv (xld on5 rfl (h1.r.seg (i := 0) rfl rfl 255 _ (nm_last _))) (sv (xcutAH (hi := S.length) ar80 sz5 rfl rfl rfl hS) (sv (xb2sR (bs := S) sl37 ki5 st9 rfl rfl (nm_pre0 (h1.r.seg (i := 0) (k := 0) rfl rfl) hS)) (sA rfl (send (fg [(2, _)] ⟨rfl, ⟨⟩⟩ fun _ => (wp_ret ?_))))))))))))
 refine rp1 rfl rfl ?_
 exact ⟨rfl, hf⟩
set_option maxHeartbeats 4000000 in
set_option maxRecDepth 100000 in
theorem c49 {w : World} {U : Nat → Prop} (hU : ∀ k, U k → k < w.heap.size) {v : Value} {l : List AskD} (hl : LA QEl lQ U w v l) (hn : l.length ≤ 1048576) (hna : ∀ a ∈ l, (bt a.name).length ≤ 255) :
  Ret PP 49 [v] w (fun u w' => LA AskEl lAsk (Ub U w w') w' u l ∧ Fr0 w w') := by
 obtain ⟨a0, c0, rfl⟩ := hl.form
 have hf : Fr (fun _ => False) w w := Fr.refl _ _
 refine ret_of Tryz.func49 rfl rfl rfl [(0, _)] rfl ?_
 refine sreg (sA rfl (send (fg [(0, _)] ⟨rfl, ⟨⟩⟩ fun _ => (sreg ?_))))
 refine svK (xslit ([]) sl25 in58 rfl (by decide) rfl rfl rfl rfl (by decide) rfl rfl) ?_
 rintro _ w2 ⟨b6, rfl, m3, h6, e6, s6, r6⟩
 have hl := hl.keep qel_st (lU hU (by omega)) m3 nF
 have hf := hf.step0 m3
 have hq : RA AskEl lAsk NoU w2 _ b6 58 0 [] := ⟨[], r6, All2.nil⟩
 refine sA rfl (send (fg [(0, _), (3, _)] ⟨rfl, rfl, ⟨⟩⟩ fun _ => (wp_seq (sreg (sM rfl (sv (xlen sl77 rfl) (sM rfl (send (fg [(3, _), (7, _), (8, _), (9, _)] ⟨rfl, rfl, rfl, rfl, ⟨⟩⟩ fun _ => (wp_block ?_))))))))))
 refine lp [(7, _), (8, _)] (fun (x : Nat × Value × Nat) => match x with | (k, v, g) => [(3, v), (9, .int .i64 (k : Int))]) (fun (x : Nat × Value × Nat) wx => match x with | (k, v, g) => Fr (fun k => k = b6) w2 wx ∧ (k ≤ l.length) ∧ (RA AskEl lAsk NoU wx v g 58 k (l.take k)) ∧ (w.heap.size ≤ g) ∧ (g < wx.heap.size) ∧ (g = b6 ∨ w2.heap.size ≤ g)) (fun (x : Nat × Value × Nat) => match x with | (k, v, g) => l.length - k) (0, _, b6) ⟨rfl, rfl, rfl, rfl, trivial⟩ ⟨Fr.refl _ _, Nat.zero_le _, hq, by omega, by omega, .inl rfl⟩ ?_
 rintro ⟨k, v, g⟩ _ w5 ⟨hL4, hk, hq, hg, hg2, hg3⟩
 refine fg [(3, _), (7, _), (8, _), (9, _)] ⟨rfl, rfl, rfl, rfl, ⟨⟩⟩ fun _ => ?_
 have z6 := hL4.size
 have hl := hl.keep qel_st (lU hU (by omega)) hL4 (fun k hk hS => by have hk := hU k hk; have hS : k = b6 := hS; omega)
 have hf := hf.step hL4 (nB (by omega))
 obtain ⟨a3, c3, rfl⟩ := RA.form hq
 refine sreg ?_
 refine svP (xlss rfl rfl) (fun hc10 => ?_) (fun hc10 => ?_)
 ·
  refine send (fg [(3, _), (7, _), (8, _), (9, _), (10, _)] ⟨rfl, rfl, rfl, rfl, rfl, ⟨⟩⟩ fun _ => (wp_seq (cyes rfl (wp_skip (nThen (fg [(3, _), (7, _), (8, _), (9, _)] ⟨rfl, rfl, rfl, rfl, ⟨⟩⟩ fun _ => (wp_seq (wp_block ?_))))))))
  obtain ⟨a, hak⟩ := some_of_lt (by omega : k < l.length)
  refine sreg ?_
  obtain ⟨bE11, oE11, sgE11, rfl, uE11, hsE11, heE11⟩ := LA.get hl hak
  obtain rfl := heE11
  have zE11 := hU _ uE11
  refine sv (xidx sl77 sz86 rfl rfl rfl (by omega)) (sv (xldS (lens := [256, 1, 1]) ro86 rfl hsE11) ?_)
  refine svK (xallS (lens := [256, 1, 1]) in86 (by simp [nm_length])) ?_
  rintro _ w8 ⟨b5, rfl, m9, h5, e7, s7⟩
  have hf := hf.step0 m9
  have hq := hq.keep ask_st (fun k hk => by have hk := (show k + 1 ≤ 0 from (show False from hk).elim); omega) m9 nF id
  have hL4 := hL4.step0 m9
  refine suK (xstW h5 (lens' := [256, 1, 1]) sz86 (by simp [questSegs, nm_length]) rfl (by simp only [questSegs, List.flatten_cons, List.flatten_nil, List.all_append, List.append_nil, nm_one, Bool.true_and] <;> rfl) rfl rfl) ?_
  rintro w11 ⟨m12, h5, s10⟩
  have hf := hf.step m12 (nB (by omega))
  have hq := hq.keep ask_st (fun k hk => by have hk := (show k + 1 ≤ 0 from (show False from hk).elim); omega) m12 (fun k hk hS => by have hk := (show k + 1 ≤ 0 from (show False from hk).elim); have hS : k = b5 := hS; omega) (by show ¬ (g = b5); omega)
  have hL4 := hL4.step m12 (fun k hk hS => by have hS : k = b5 := hS; show k = b6; omega)
  refine send (fg [(3, _), (5, _), (7, _), (8, _), (9, _)] ⟨rfl, rfl, rfl, rfl, rfl, ⟨⟩⟩ fun _ => ?_)
  refine ldrawH (Fr (fun k => k = g) w11.drew) [(0, .rd), (1, .rd), (2, .rd), (4, .rd), (5, .rd), (6, .rd), (7, .rd), (3, .ld), (8, .rd), (9, .ld), (10, .ld), (11, .rd)] mixed (by kernel_rfl) (fun _ _ _ _ _ h => h) ?_
  have z13 : w11.drew.heap.size = w11.heap.size := rfl
  have hf := hf.drew
  have hq := hq.keep ask_st (fun k hk => by have hk := (show k + 1 ≤ 0 from (show False from hk).elim); omega) (fd w11) nF id
  have hL4 := hL4.drew
  have h5 := h5.drew
  have zb_h5 := h5
  have hS14 : Fr (fun k => k = g) w11.drew w11.drew := Fr.refl _ _
  refine qqM rfl rfl hS14 (hvH rfl (fun _ _ => xfld fl86_0 rfl) hS14 (hvH rfl (fun w' hS => xldS (lens := [256]) ro82 rfl ((zb_h5.keep hS (by show ¬ (b5 = g); omega)).r.sub 0 1 rfl)) hS14 (hvH rfl (fun _ _ => xfld fl86_1 rfl) hS14 (hvH rfl (fun w' hS => xld on83 rfl ((zb_h5.keep hS (by show ¬ (b5 = g); omega)).r.c 1 rfl rfl)) hS14 (hvH rfl (fun _ _ => xfld fl86_2 rfl) hS14 (hvH rfl (fun w' hS => xld on84 rfl ((zb_h5.keep hS (by show ¬ (b5 = g); omega)).r.c 2 rfl rfl)) hS14 ?_))))))
  refine hcH rfl (xcall ca100 rfl) (c100 (S := bt a.name) (hna _ (List.mem_of_getElem? hak))) ?_
  rintro _ w15 ⟨rfl, m16⟩
  have z17 := m16.size
  have hf := hf.step0 m16
  have hq := hq.keep ask_st (fun k hk => by have hk := (show k + 1 ≤ 0 from (show False from hk).elim); omega) m16 nF id
  have hL4 := hL4.step0 m16
  have hS18 := hS14.step0 m16
  refine ⟨hS18, ?_⟩
  refine hvH rfl (fun _ _ => xbuildS (askSegs a) zr58 ly58 rfl (by simp [fitAll, zs58, Value.cells]) rfl) hS18 ?_
  refine hlKH rfl (xslit ((askSegs a).flatten) sl25 in58 rfl (by decide) rfl rfl rfl rfl (by decide) rfl rfl) ?_
  rintro _ w20 ⟨b22, rfl, m21, h22, e22, s22, r22⟩
  have hf := hf.step0 m21
  have hq := hq.keep ask_st (fun k hk => by have hk := (show k + 1 ≤ 0 from (show False from hk).elim); omega) m21 nF id
  have hL4 := hL4.step0 m21
  have hS22 := hS18.step0 m21
  refine ⟨hS22, ?_⟩
  obtain ⟨ss23, hR23, hA23⟩ := hq
  refine hlKH rfl (xapp sl25 in58 rfl (by decide) rfl rfl hR23 (r22.src sl25) (by simp only [maxLen]; omega) (by omega)) ?_
  rintro v23 w23 ⟨g23, r23, m24, a23, l23⟩
  have z25 := m24.size
  have hf := hf.step m24 (nB (by omega))
  have hL4 := hL4.step m24 (fun k hk hS => by have hS : k = g := hS; show k = b6; omega)
  have hS26 := hS22.step m24 (fun k hk hS => by have hS : k = g := hS; show k = g; omega)
  have hq := RA.snoc (x := a) hA23 ask_st ask_gr (fun k hk => by have hk := (show k + 1 ≤ 0 from (show False from hk).elim); omega) m24 (fun k hk hS => by have hk := (show k + 1 ≤ 0 from (show False from hk).elim); have hS : k = g := hS; omega) (fun _ h => h) r23 rfl (rfl)
  refine ⟨hS26, ?_⟩
  refine qqA rfl rfl hS26 (lhendH (nBlock (nThen (fg [(3, _), (7, _), (8, _), (9, _)] ⟨rfl, rfl, rfl, rfl, ⟨⟩⟩ fun _ => (lreg (sv (xadd rfl rfl (w64 (by omega) (by omega))) (sM rfl (lend (nThen ?_)))))))))
  refine ⟨(k + 1, _, g23), _, env_okl ⟨rfl, rfl, rfl, rfl, trivial⟩, ⟨hL4, (by omega), (by rw [take_snoc hak]; exact hq), (by omega), (l23 (by omega)), (by omega)⟩, ?_⟩
  show l.length - (k + 1) < l.length - k; omega
 ·
  refine send (fg [(3, _), (7, _), (8, _), (9, _), (10, _)] ⟨rfl, rfl, rfl, rfl, rfl, ⟨⟩⟩ fun _ => (wp_seq (cno rfl (wp_exit (eThen (eThen (eHit (nThen (fg [(3, _)] ⟨rfl, ⟨⟩⟩ fun _ => (sreg (sM rfl (sA rfl (send (fg [(2, _)] ⟨rfl, ⟨⟩⟩ fun _ => (wp_ret ?_)))))))))))))))
  refine rp1 rfl rfl ?_
  have e : l.take k = l := List.take_of_length_le (by omega)
  rw [e] at hq
  exact ⟨RA.la hq (by decide) ask_gr (fun _ h => h.elim) (.inr ⟨hg, hg2⟩), hf⟩
set_option maxHeartbeats 4000000 in
set_option maxRecDepth 100000 in
theorem c109 {w : World} {U : Nat → Prop} (hU : ∀ k, U k → k < w.heap.size) {v : Value} {ps : List PairD} (hp : LA PairEl lPair U w v ps) (hn : ps.length ≤ 1048576) (hpl : ∀ p ∈ ps, p.data.length ≤ 1048576) :
  Ret PP 109 [v] w (fun u w' => LA PairEl lPair (Ub U w w') w' u ps ∧ Fr0 w w') := by
 obtain ⟨a0, c0, rfl⟩ := hp.form
 have hf : Fr (fun _ => False) w w := Fr.refl _ _
 refine ret_of Tryz.func109 rfl rfl rfl [(0, _)] rfl ?_
 refine sreg (sA rfl (send (fg [(0, _)] ⟨rfl, ⟨⟩⟩ fun _ => (sreg ?_))))
 refine svK (xslit ([]) sl110 in145 rfl (by decide) rfl rfl rfl rfl (by decide) rfl rfl) ?_
 rintro _ w2 ⟨b6, rfl, m3, h6, e6, s6, r6⟩
 have hp := hp.keep pair_st (lU hU (by omega)) m3 nF
 have hf := hf.step0 m3
 have hv3 : RX PairEl lPair U w.heap.size w2.heap.size w2 _ b6 145 0 [] := RX.ofNil r6
 refine sA rfl (send (fg [(0, _), (3, _)] ⟨rfl, rfl, ⟨⟩⟩ fun _ => (wp_seq (sreg (sM rfl (sv (xlen sl222 rfl) (sM rfl (send (fg [(3, _), (7, _), (8, _), (9, _)] ⟨rfl, rfl, rfl, rfl, ⟨⟩⟩ fun _ => (wp_block ?_))))))))))
 refine lp [(7, _), (8, _)] (fun (x : Nat × Value × Nat) => match x with | (k, v, g) => [(3, v), (9, .int .i64 (k : Int))]) (fun (x : Nat × Value × Nat) wx => match x with | (k, v, g) => Fr (fun k => k = b6) w2 wx ∧ (k ≤ ps.length) ∧ (RX PairEl lPair U w.heap.size wx.heap.size wx v g 145 k (ps.take k)) ∧ (w.heap.size ≤ g) ∧ (g < wx.heap.size) ∧ (g = b6 ∨ w2.heap.size ≤ g)) (fun (x : Nat × Value × Nat) => match x with | (k, v, g) => ps.length - k) (0, _, b6) ⟨rfl, rfl, rfl, rfl, trivial⟩ ⟨Fr.refl _ _, Nat.zero_le _, hv3, by omega, by omega, .inl rfl⟩ ?_
 rintro ⟨k, v, g⟩ _ w5 ⟨hL4, hk, hv3, hg, hg2, hg3⟩
 refine fg [(3, _), (7, _), (8, _), (9, _)] ⟨rfl, rfl, rfl, rfl, ⟨⟩⟩ fun _ => ?_
 have z6 := hL4.size
 have hp := hp.keep pair_st (lU hU (by omega)) hL4 (fun k hk hS => by have hk := hU k hk; have hS : k = b6 := hS; omega)
 have hf := hf.step hL4 (nB (by omega))
 obtain ⟨a3, c3, rfl⟩ := RA.form hv3
 refine sreg ?_
 refine svP (xlss rfl rfl) (fun hc10 => ?_) (fun hc10 => ?_)
 ·
  refine send (fg [(3, _), (7, _), (8, _), (9, _), (10, _)] ⟨rfl, rfl, rfl, rfl, rfl, ⟨⟩⟩ fun _ => (wp_seq (cyes rfl (wp_skip (nThen (fg [(3, _), (7, _), (8, _), (9, _)] ⟨rfl, rfl, rfl, rfl, ⟨⟩⟩ fun _ => (wp_seq (wp_block ?_))))))))
  obtain ⟨p, hpk⟩ := some_of_lt (by omega : k < ps.length)
  have hpd := hpl _ (List.mem_of_getElem? hpk)
  refine sreg ?_
  obtain ⟨bE11, oE11, sgE11, rfl, uE11, hsE11, heE11⟩ := LA.get hp hpk
  obtain ⟨vd, rfl, hd⟩ := heE11
  have zE11 := hU _ uE11
  obtain ⟨ad, cd, rfl, -⟩ := id hd
  refine sv (xidx sl222 sz291 rfl rfl rfl (by omega)) (sv (xldS (lens := [1, 1]) ro291 rfl hsE11) ?_)
  refine svK (xallS (lens := [1, 1]) in291 rfl) ?_
  rintro _ w8 ⟨b5, rfl, m9, h5, e7, s7⟩
  have hf := hf.step0 m9
  have hv3 := RX.keep hv3 pair_st (lU hU (by omega)) (by omega) m9 (fun _ _ _ h => h) id
  have hL4 := hL4.step0 m9
  have hd := hd.keep (lU hU (by omega)) m9 nF
  refine suK (xstW h5 (lens' := [1, 1]) sz291 rfl rfl rfl rfl rfl) ?_
  rintro w11 ⟨m12, h5, s10⟩
  have hf := hf.step m12 (nB (by omega))
  have hv3 := RX.keep hv3 pair_st (lU hU (by omega)) (by omega) m12 (fun k hk hk3 hS => by have hS : k = b5 := hS; rcases hk with hk | hk <;> first | omega | (have := hU k hk; omega)) (by show ¬ (g = b5); omega)
  have hL4 := hL4.step m12 (fun k hk hS => by have hS : k = b5 := hS; show k = b6; omega)
  have hd := hd.keep (lU hU (by omega)) m12 (fun k hk hS => by have hk := hU k hk; have hS : k = b5 := hS; omega)
  refine send (fg [(3, _), (5, _), (7, _), (8, _), (9, _)] ⟨rfl, rfl, rfl, rfl, rfl, ⟨⟩⟩ fun _ => ?_)
  refine ldrawH (Fr (fun k => k = g) w11.drew) [(0, .rd), (1, .rd), (2, .rd), (4, .rd), (5, .rd), (3, .ld), (6, .ld), (7, .rd), (8, .ld), (9, .ld), (10, .rd)] mixed (by kernel_rfl) (fun _ _ _ _ _ h => h) ?_
  have z13 : w11.drew.heap.size = w11.heap.size := rfl
  have hf := hf.drew
  have hv3 := RX.keep hv3 pair_st (lU hU (by omega)) (by omega) (fd w11) (fun _ _ _ h => h) id
  have hL4 := hL4.drew
  have hd := hd.keep (lU hU (by omega)) (fd w11) nF
  have h5 := h5.drew
  have zb_h5 := h5
  have hS14 : Fr (fun k => k = g) w11.drew w11.drew := Fr.refl _ _
  refine qqM rfl rfl hS14 (hvH rfl (fun _ _ => xfld fl291_0 rfl) hS14 (hvH rfl (fun w' hS => xld on289 rfl ((zb_h5.keep hS (by show ¬ (b5 = g); omega)).r.c 0 rfl rfl)) hS14 (hvH rfl (fun _ _ => xfld fl291_1 rfl) hS14 (hvH rfl (fun w' hS => xld on37 rfl ((zb_h5.keep hS (by show ¬ (b5 = g); omega)).r.c 1 rfl rfl)) hS14 ?_))))
  refine hlKH rfl (xslit (bvs []) sl37 in5 rfl (by decide) rfl rfl rfl rfl (by decide) rfl (bvs_one _)) ?_
  rintro _ w16 ⟨b16, rfl, m17, h16, e16, s16, r16⟩
  have hf := hf.step0 m17
  have hv3 := RX.keep hv3 pair_st (lU hU (by omega)) (by omega) m17 (fun _ _ _ h => h) id
  have hL4 := hL4.step0 m17
  have hd := hd.keep (lU hU (by omega)) m17 nF
  have hS18 := hS14.step0 m17
  refine ⟨hS18, ?_⟩
  refine hlKH rfl (xapp sl37 in5 rfl (by decide) rfl rfl r16 (hd.src sl37) (by simp only [maxLen]; omega) (by omega)) ?_
  rintro _ w19 ⟨g19, r19, m20, a19, l19⟩
  have z21 := m20.size
  have hf := hf.step m20 (nB (by omega))
  have hv3 := RX.keep hv3 pair_st (lU hU (by omega)) (by omega) m20 (fun k hk hk3 hS => by have hS : k = b16 := hS; rcases hk with hk | hk <;> first | omega | (have := hU k hk; omega)) (by show ¬ (g = b16); omega)
  have hL4 := hL4.step m20 (fun k hk hS => by have hS : k = b16 := hS; show k = b6; omega)
  have hS22 := hS18.step m20 (fun k hk hS => by have hS : k = b16 := hS; show k = g; omega)
  obtain ⟨p19, q19, rfl, -⟩ := r19.form
  refine ⟨hS22, ?_⟩
  refine hvH rfl (fun _ _ => xbuildS (pairSegs p (.slice p19 (0 + p.data.length) q19)) zr145 ly145 rfl (by simp [fitAll, zs145, Value.cells]) rfl) hS22 ?_
  refine hlKH rfl (xslit ((pairSegs p (.slice p19 (0 + p.data.length) q19)).flatten) sl110 in145 rfl (by decide) rfl rfl rfl rfl (by decide) rfl rfl) ?_
  rintro _ w24 ⟨b21, rfl, m25, h21, e21, s21, r21⟩
  have hf := hf.step0 m25
  have hv3 := RX.keep hv3 pair_st (lU hU (by omega)) (by omega) m25 (fun _ _ _ h => h) id
  have hL4 := hL4.step0 m25
  have r19 := r19.keep m25 id
  have hS26 := hS22.step0 m25
  refine ⟨hS26, ?_⟩
  obtain ⟨ss22, hR22, hA22⟩ := hv3
  refine hlKH rfl (xapp sl110 in145 rfl (by decide) rfl rfl hR22 (r21.src sl110) (by simp only [maxLen]; omega) (by omega)) ?_
  rintro v22 w27 ⟨g22, r22, m28, a22, l22⟩
  have z29 := m28.size
  have hf := hf.step m28 (nB (by omega))
  have hL4 := hL4.step m28 (fun k hk hS => by have hS : k = g := hS; show k = b6; omega)
  have r19 := r19.keep m28 (by show ¬ (g19 = g); omega)
  have hS30 := hS26.step m28 (fun k hk hS => by have hS : k = g := hS; show k = g; omega)
  have hv3 := RX.snoc (x := p) w27.heap.size hA22 pair_st pair_gr (lU hU (by omega)) (by omega) (by omega) m28 a22 r22 rfl (⟨_, rfl, BR.ba (show BR _ _ _ _ p.data from r19) ⟨.inr ⟨by omega, by omega⟩, by omega⟩⟩)
  refine ⟨hS30, ?_⟩
  refine qqA rfl rfl hS30 (lhendH (nBlock (nThen (fg [(3, _), (7, _), (8, _), (9, _)] ⟨rfl, rfl, rfl, rfl, ⟨⟩⟩ fun _ => (lreg (sv (xadd rfl rfl (w64 (by omega) (by omega))) (sM rfl (lend (nThen ?_)))))))))
  refine ⟨(k + 1, _, g22), _, env_okl ⟨rfl, rfl, rfl, rfl, trivial⟩, ⟨hL4, (by omega), (by rw [take_snoc hpk]; exact RX.up pair_gr hv3 (by omega)), (by omega), (l22 (by omega)), (by omega)⟩, ?_⟩
  show ps.length - (k + 1) < ps.length - k; omega
 ·
  refine send (fg [(3, _), (7, _), (8, _), (9, _), (10, _)] ⟨rfl, rfl, rfl, rfl, rfl, ⟨⟩⟩ fun _ => (wp_seq (cno rfl (wp_exit (eThen (eThen (eHit (nThen (fg [(3, _)] ⟨rfl, ⟨⟩⟩ fun _ => (sreg (sM rfl (sA rfl (send (fg [(2, _)] ⟨rfl, ⟨⟩⟩ fun _ => (wp_ret ?_)))))))))))))))
  refine rp1 rfl rfl ?_
  have e : ps.take k = ps := List.take_of_length_le (by omega)
  rw [e] at hv3
  exact ⟨RX.la hv3 (by decide) pair_gr (fun k hk => hk.elim .inl .inr) (.inr ⟨hg, hg2⟩), hf⟩
set_option maxHeartbeats 4000000 in
set_option maxRecDepth 100000 in
theorem c64 {w : World} {U : Nat → Prop} (hU : ∀ k, U k → k < w.heap.size) {r : RecD} {l : UInt16} {vb : Value} (hb : BodyEl U w vb r) (hno : NamesOk r) (hpn : r.pairs.length ≤ 1048576) (htn : r.texts.length ≤ 1048576) (hdn : r.data.length ≤ 1048576) (hpd : ∀ q ∈ r.pairs, q.data.length ≤ 65535) :
  Ret PP 64 [ag (rhSegs (bt r.name) (typeN r) r.cls r.ttl l.toNat ++ [[vb]])] w (fun u w' => ∃ vd vt vp, u = ag (recSegs (normR r l) vd vt vp) ∧ BA (Ub U w w') w' vd (normR r l).data ∧ LA TextEl [1] (Ub U w w') w' vt (normR r l).texts ∧ LA PairEl lPair (Ub U w w') w' vp (normR r l).pairs ∧ Fr0 w w') := by
 obtain ⟨bB, TB, lB, sB, rfl, hub, hsr, hbs⟩ := hb
 have hzB := hU bB hub
 have hf : Fr (fun _ => False) w w := Fr.refl _ _
 refine ret_of Tryz.func64 rfl rfl rfl [(0, _)] rfl ?_
 refine sreg ?_
 refine svK (xboxS (lens := [256, 1, 1, 1, 1, 1]) rfl (by simp [rhSegs, nm_length])) ?_
 rintro _ w2 ⟨b1, rfl, m3, h1, e1, s1⟩
 have hsr := hsr.keep m3 (by omega) id
 have hbs := hbs.keep (lU hU (by omega)) m3 nF
 have hf := hf.step0 m3
 refine svK (xallS (lens := lRec) in112 rfl) ?_
 rintro _ w5 ⟨b2, rfl, m6, h2, e4, s4⟩
 have hsr := hsr.keep m6 (by omega) id
 have hbs := hbs.keep (lU hU (by omega)) m6 nF
 have hf := hf.step0 m6
 have h1 := h1.keep m6 id
 refine send (fg [(1, _), (2, _)] ⟨rfl, rfl, ⟨⟩⟩ fun _ => (sreg (sv (xfld fl139_0 rfl) (sv (xldS (lens := [256, 1, 1, 1, 1]) ro135 rfl (h1.r.sub 0 5 rfl)) ?_))))
 refine svK (xallS (lens := [256, 1, 1, 1, 1]) in135 (by simp [nm_length])) ?_
 rintro _ w8 ⟨b3, rfl, m9, h3, e7, s7⟩
 have hsr := hsr.keep m9 (by omega) id
 have hbs := hbs.keep (lU hU (by omega)) m9 nF
 have hf := hf.step0 m9
 have h1 := h1.keep m9 id
 have h2 := h2.keep m9 id
 refine suK (xstW h3 (lens' := [256, 1, 1, 1, 1]) sz135 (by simp [nm_length]) rfl (one5 _ _ _ _ _) rfl rfl) ?_
 rintro w11 ⟨m12, h3, s10⟩
 have hsr := hsr.keep m12 (by omega) (by show ¬ (bB = b3); omega)
 have hbs := hbs.keep (lU hU (by omega)) m12 (fun k hk hS => by have hk := hU k hk; have hS : k = b3 := hS; omega)
 have hf := hf.step m12 (nB (by omega))
 have h1 := h1.keep m12 (by show ¬ (b1 = b3); omega)
 have h2 := h2.keep m12 (by show ¬ (b2 = b3); omega)
 refine send (fg [(1, _), (2, _), (3, _)] ⟨rfl, rfl, rfl, ⟨⟩⟩ fun _ => ?_)
 refine sdrawI [(1, _), (2, _)] ⟨rfl, rfl, trivial⟩ (fun (x : Nat) => match x with | b4 => [(4, .pointer (some ⟨b4, 0, none⟩))]) (fun (x : Nat) wx => match x with | b4 => Fr (fun _ => False) w11 wx ∧ (SB wx b4 lRec ([[.string r.name], [.int .u16 ((typeN r).toNat : Int)], [.int .u16 (r.cls.toNat : Int)], [.int .u32 (r.ttl.toNat : Int)], [.int .u16 (l.toNat : Int)], [.int .i64 0], [.slice none 0 0], [.string emptyB], [.string emptyB], [.int .u32 0], [.int .u32 0], [.int .u32 0], [.int .u32 0], [.int .u32 0], [.slice none 0 0], [.slice none 0 0]])) ∧ (w11.heap.size ≤ b4) ∧ (b4 < wx.heap.size)) (Fr (fun _ => False) w11.drew) (.rd 0 (.rd 1 (.rd 3 (.rd 4 (.rd 5 (.rd 6 (.rd 7 (.rd 8 (.rd 9 (.rd 10 (.two 2 (.lst [(11, .rd), (12, .ld), (13, .bh)]) 12 (.lst [(2, .ld), (11, .rd), (13, .bh)])))))))))))) mixed (by kernel_rfl) ?_ ?_
 ·
  have hC : Fr (fun _ => False) w11 w11 := Fr.refl _ _
  have z13 : w11.drew.heap.size = w11.heap.size := rfl
  have hsr := hsr.keep (fd w11) (by omega) id
  have hbs := hbs.keep (lU hU (by omega)) (fd w11) nF
  have hf := hf.drew
  have h1 := h1.drew
  have h2 := h2.drew
  have h3 := h3.drew
  have hC := hC.drew
  have hS14 : Fr (fun _ => False) w11.drew w11.drew := Fr.refl _ _
  refine hvT rfl (fun _ _ => xfld fl135_0 rfl) hS14 ?_
  refine hvT rfl (fun w' hS => xldS (lens := [256]) ro82 rfl ((h3.keep hS id).r.sub 0 1 rfl)) hS14 ?_
  refine hvT rfl (fun _ _ => xfld fl135_1 rfl) hS14 ?_
  refine hvT rfl (fun w' hS => xld on83 rfl ((h3.keep hS id).r.c 1 rfl rfl)) hS14 ?_
  refine hvT rfl (fun _ _ => xfld fl135_2 rfl) hS14 ?_
  refine hvT rfl (fun w' hS => xld on84 rfl ((h3.keep hS id).r.c 2 rfl rfl)) hS14 ?_
  refine hvT rfl (fun _ _ => xfld fl135_3 rfl) hS14 ?_
  refine hvT rfl (fun w' hS => xld on61 rfl ((h3.keep hS id).r.c 3 rfl rfl)) hS14 ?_
  refine hvT rfl (fun _ _ => xfld fl135_4 rfl) hS14 ?_
  refine hvT rfl (fun w' hS => xld on22 rfl ((h3.keep hS id).r.c 4 rfl rfl)) hS14 ?_
  refine twoT ?_ ?_
  ·
   refine hcT rfl (xcall ca100 rfl) (c100 (S := bt r.name) (by have := (name_pos hno.1).2; omega)) ?_
   rintro _ w15 ⟨rfl, m16⟩
   have z17 := m16.size
   have hsr := hsr.keep m16 (by omega) id
   have hbs := hbs.keep (lU hU (by omega)) m16 nF
   have hf := hf.step0 m16
   have h1 := h1.keep m16 id
   have h2 := h2.keep m16 id
   have hC := hC.step0 m16
   have hS18 := hS14.step0 m16
   refine ⟨hS18, ?_⟩
   refine lstT (hv rfl (fun _ _ => xbuildS [[.string r.name], [.int .u16 ((typeN r).toNat : Int)], [.int .u16 (r.cls.toNat : Int)], [.int .u32 (r.ttl.toNat : Int)], [.int .u16 (l.toNat : Int)], [.int .i64 0], [.slice none 0 0], [.string emptyB], [.string emptyB], [.int .u32 0], [.int .u32 0], [.int .u32 0], [.int .u32 0], [.int .u32 0], [.slice none 0 0], [.slice none 0 0]] zr112 ly112 rfl (by simp [fitAll, zs112, Value.cells]) rfl) hS18 ?_)
   refine hlK rfl (xallS (lens := lRec) in112 (by simp [])) ?_
   rintro _ w20 ⟨b4, rfl, m21, h4, e19, s19⟩
   have hsr := hsr.keep m21 (by omega) id
   have hbs := hbs.keep (lU hU (by omega)) m21 nF
   have hf := hf.step0 m21
   have h1 := h1.keep m21 id
   have h2 := h2.keep m21 id
   have hC := hC.step0 m21
   have hS22 := hS18.step0 m21
   refine ⟨hS22, ?_⟩
   refine bluK rfl (xstW h4 (lens' := lRec) sz112 rfl rfl rfl rfl rfl) ?_
   rintro w24 ⟨m25, h4, s23⟩
   have hsr := hsr.keep m25 (by omega) (by show ¬ (bB = b4); omega)
   have hbs := hbs.keep (lU hU (by omega)) m25 (fun k hk hS => by have hk := hU k hk; have hS : k = b4 := hS; omega)
   have hf := hf.step m25 (nB (by omega))
   have h1 := h1.keep m25 (by show ¬ (b1 = b4); omega)
   have h2 := h2.keep m25 (by show ¬ (b2 = b4); omega)
   have hC := hC.step m25 (nB (by omega))
   exact ⟨rfl, b4, _, env_okl ⟨rfl, rfl, rfl, trivial⟩, ⟨hC, (h4), (by omega), (by omega)⟩⟩
  ·
   refine hlKT rfl (xallS (lens := lRec) in112 (by simp [])) ?_
   rintro _ w27 ⟨b4, rfl, m28, h4, e26, s26⟩
   have hsr := hsr.keep m28 (by omega) id
   have hbs := hbs.keep (lU hU (by omega)) m28 nF
   have hf := hf.step0 m28
   have h1 := h1.keep m28 id
   have h2 := h2.keep m28 id
   have hC := hC.step0 m28
   have hS29 := hS14.step0 m28
   refine ⟨hS29, ?_⟩
   refine lstT ?_
   refine hc rfl (xcall ca100 rfl) (c100 (S := bt r.name) (by have := (name_pos hno.1).2; omega)) ?_
   rintro _ w30 ⟨rfl, m31⟩
   have z32 := m31.size
   have hsr := hsr.keep m31 (by omega) id
   have hbs := hbs.keep (lU hU (by omega)) m31 nF
   have hf := hf.step0 m31
   have h1 := h1.keep m31 id
   have h2 := h2.keep m31 id
   have hC := hC.step0 m31
   have h4 := h4.keep m31 id
   have hS33 := hS29.step0 m31
   refine ⟨hS33, ?_⟩
   refine hv rfl (fun _ _ => xbuildS [[.string r.name], [.int .u16 ((typeN r).toNat : Int)], [.int .u16 (r.cls.toNat : Int)], [.int .u32 (r.ttl.toNat : Int)], [.int .u16 (l.toNat : Int)], [.int .i64 0], [.slice none 0 0], [.string emptyB], [.string emptyB], [.int .u32 0], [.int .u32 0], [.int .u32 0], [.int .u32 0], [.int .u32 0], [.slice none 0 0], [.slice none 0 0]] zr112 ly112 rfl (by simp [fitAll, zs112, Value.cells]) rfl) hS33 ?_
   refine bluK rfl (xstW h4 (lens' := lRec) sz112 rfl rfl rfl rfl rfl) ?_
   rintro w35 ⟨m36, h4, s34⟩
   have hsr := hsr.keep m36 (by omega) (by show ¬ (bB = b4); omega)
   have hbs := hbs.keep (lU hU (by omega)) m36 (fun k hk hS => by have hk := hU k hk; have hS : k = b4 := hS; omega)
   have hf := hf.step m36 (nB (by omega))
   have h1 := h1.keep m36 (by show ¬ (b1 = b4); omega)
   have h2 := h2.keep m36 (by show ¬ (b2 = b4); omega)
   have hC := hC.step m36 (nB (by omega))
   exact ⟨rfl, b4, _, env_okl ⟨rfl, rfl, rfl, trivial⟩, ⟨hC, (h4), (by omega), (by omega)⟩⟩
 ·
  rintro b4 _ w37 ⟨hC, h4, hb4, hb5⟩
  have z38 := hC.size
  have hsr := hsr.keep hC (by omega) id
  have hbs := hbs.keep (lU hU (by omega)) hC nF
  have hf := hf.step0 hC
  have h1 := h1.keep hC id
  have h2 := h2.keep hC id
  refine fg [(1, _), (2, _), (4, _)] ⟨rfl, rfl, rfl, ⟨⟩⟩ fun _ => (wp_seq (sreg (sv (xfld fl139_1 rfl) (sv (xld on137 rfl (h1.r.c 5 rfl rfl)) ?_))))
  rcases hbs with hk | hk | hk | hk | hk | hk | ⟨hk, ht⟩ | hk | hk | ⟨hk, hp⟩ | ⟨hk, hp⟩ | ⟨hk, hp⟩ | ⟨hk, hd⟩
  ·
   refine send (fg [(2, _), (4, _), (35, _)] ⟨rfl, rfl, rfl, ⟨⟩⟩ fun _ => (wp_block (sreg (sv (xtaY ni186 rfl) (sv (xex21 rfl) (sv (xex20 rfl) (send (fg [(2, _), (4, _), (35, _), (37, _), (38, _)] ⟨rfl, rfl, rfl, rfl, rfl, ⟨⟩⟩ fun _ => (cyes rfl (sreg (sA rfl (send (fg [(2, _), (4, _), (5, _)] ⟨rfl, rfl, rfl, ⟨⟩⟩ fun _ => (lreg ?_))))))))))))))
   refine svK (xslit (bvs []) sl37 in5 rfl (by decide) rfl rfl rfl rfl (by decide) rfl (bvs_one _)) ?_
   rintro _ w40 ⟨b39, rfl, m41, h39, e39, s39, r39⟩
   have hsr := hsr.keep m41 (by omega) id
   have hf := hf.step0 m41
   have h2 := h2.keep m41 id
   have h4 := h4.keep m41 id
   refine sM rfl (sN rfl (sv (xfld fl189_0 rfl) (sv (xcutA ar187 sz5 rfl) ?_)))
   refine svK (xapp sl37 in5 rfl (by decide) rfl rfl r39 (src_cut (hsr.seg (i := 0) (k := 0) rfl rfl) (fixedL_length _ _)) (by simp only [maxLen]; omega) (by omega)) ?_
   rintro _ w42 ⟨g44, r44, m43, a44, l44⟩
   have z44 := m43.size
   have hsr := hsr.keep m43 (by omega) (by show ¬ (bB = b39); omega)
   have hf := hf.step m43 (nB (by omega))
   have h2 := h2.keep m43 (by show ¬ (b2 = b39); omega)
   have h4 := h4.keep m43 (by show ¬ (b4 = b39); omega)
   obtain ⟨p44, q44, rfl, -⟩ := r44.form
   refine sv (xfld fl112_5 rfl) ?_
   refine suK (xstF 5 sz3 h4 rfl rfl rfl rfl rfl) ?_
   rintro w46 ⟨m47, h4, s45⟩
   have hsr := hsr.keep m47 (by omega) (by show ¬ (bB = b4); omega)
   have hf := hf.step m47 (nB (by omega))
   have h2 := h2.keep m47 (by show ¬ (b2 = b4); omega)
   have r44 := r44.keep m47 (by show ¬ (g44 = b4); omega)
   refine sv (xfld fl112_6 rfl) ?_
   refine suK (xstF 6 sz37 h4 rfl rfl rfl rfl rfl) ?_
   rintro w49 ⟨m50, h4, s48⟩
   have hsr := hsr.keep m50 (by omega) (by show ¬ (bB = b4); omega)
   have hf := hf.step m50 (nB (by omega))
   have h2 := h2.keep m50 (by show ¬ (b2 = b4); omega)
   have r44 := r44.keep m50 (by show ¬ (g44 = b4); omega)
   refine lend (nBlock (nThen (fg [(2, _), (4, _)] ⟨rfl, rfl, ⟨⟩⟩ fun _ => (sreg (sv (xldS (lens := lRec) ro112 rfl h4.r) ?_)))))
   refine suK (xstW h2 (lens' := lRec) sz112 rfl rfl rfl rfl rfl) ?_
   rintro w52 ⟨m53, h2, s51⟩
   have hsr := hsr.keep m53 (by omega) (by show ¬ (bB = b2); omega)
   have hf := hf.step m53 (nB (by omega))
   have h4 := h4.keep m53 (by show ¬ (b4 = b2); omega)
   have r44 := r44.keep m53 (by show ¬ (g44 = b2); omega)
   refine send (fg [(2, _)] ⟨rfl, ⟨⟩⟩ fun _ => (wp_ret ?_))
   refine rp1 rfl ⟨_, rfl, ldS (lens := lRec) ro112 h2.r⟩ ?_
   rw [norm_a hk]
   exact ⟨_, _, _, ag_rec (r' := { rec0 r l with data := fixedL r.data 4 }) (k := 1) hk rfl, (BR.ba (show BR _ _ _ _ (fixedL r.data 4) from r44) (.inr ⟨by omega, by omega⟩)), LA.nil, LA.nil, hf⟩
  ·
   refine send (fg [(2, _), (4, _), (35, _)] ⟨rfl, rfl, rfl, ⟨⟩⟩ fun _ => (wp_block (sreg (sv (xtaN ni186 in186 rfl rfl) (sv (xex21 rfl) (sv (xex20 rfl) (send (fg [(2, _), (4, _), (35, _), (37, _), (38, _)] ⟨rfl, rfl, rfl, rfl, rfl, ⟨⟩⟩ fun _ => (cno rfl (sreg (sv (xtaY ni190 rfl) (sv (xex21 rfl) (sv (xex20 rfl) (send (fg [(2, _), (4, _), (35, _), (48, _), (49, _)] ⟨rfl, rfl, rfl, rfl, rfl, ⟨⟩⟩ fun _ => (cyes rfl (sreg (sA rfl (send (fg [(2, _), (4, _), (6, _)] ⟨rfl, rfl, rfl, ⟨⟩⟩ fun _ => (lreg (sM rfl (sN rfl (sv (xfld fl192_0 rfl) ?_))))))))))))))))))))))))
   refine sv (xldS (lens := [256]) ro82 rfl hsr) ?_
   refine sc (xcall ca100 rfl) (c100 (S := bt r.host) (by have := (name_pos (hno.2.1 (by omega))).2; omega)) ?_
   rintro _ w54 ⟨rfl, m55⟩
   have z56 := m55.size
   have hsr := hsr.keep m55 (by omega) id
   have hf := hf.step0 m55
   have h2 := h2.keep m55 id
   have h4 := h4.keep m55 id
   refine sv (xfld fl112_5 rfl) ?_
   refine suK (xstF 5 sz3 h4 rfl rfl rfl rfl rfl) ?_
   rintro w58 ⟨m59, h4, s57⟩
   have hsr := hsr.keep m59 (by omega) (by show ¬ (bB = b4); omega)
   have hf := hf.step m59 (nB (by omega))
   have h2 := h2.keep m59 (by show ¬ (b2 = b4); omega)
   refine sv (xfld fl112_7 rfl) ?_
   refine suK (xstF 7 sz9 h4 rfl rfl rfl rfl rfl) ?_
   rintro w61 ⟨m62, h4, s60⟩
   have hsr := hsr.keep m62 (by omega) (by show ¬ (bB = b4); omega)
   have hf := hf.step m62 (nB (by omega))
   have h2 := h2.keep m62 (by show ¬ (b2 = b4); omega)
   refine lend (nBlock (nThen (fg [(2, _), (4, _)] ⟨rfl, rfl, ⟨⟩⟩ fun _ => (sreg (sv (xldS (lens := lRec) ro112 rfl h4.r) ?_)))))
   refine suK (xstW h2 (lens' := lRec) sz112 rfl rfl rfl rfl rfl) ?_
   rintro w65 ⟨m66, h2, s63⟩
   have hsr := hsr.keep m66 (by omega) (by show ¬ (bB = b2); omega)
   have hf := hf.step m66 (nB (by omega))
   have h4 := h4.keep m66 (by show ¬ (b4 = b2); omega)
   refine send (fg [(2, _)] ⟨rfl, ⟨⟩⟩ fun _ => (wp_ret ?_))
   refine rp1 rfl ⟨_, rfl, ldS (lens := lRec) ro112 h2.r⟩ ?_
   rw [norm_ns (by omega)]
   exact ⟨_, _, _, ag_rec (r' := { rec0 r l with host := r.host }) (k := 2) hk rfl, ba0, LA.nil, LA.nil, hf⟩
  ·
   refine send (fg [(2, _), (4, _), (35, _)] ⟨rfl, rfl, rfl, ⟨⟩⟩ fun _ => (wp_block (sreg (sv (xtaN ni186 in186 rfl rfl) (sv (xex21 rfl) (sv (xex20 rfl) (send (fg [(2, _), (4, _), (35, _), (37, _), (38, _)] ⟨rfl, rfl, rfl, rfl, rfl, ⟨⟩⟩ fun _ => (cno rfl (sreg (sv (xtaN ni190 in190 rfl rfl) (sv (xex21 rfl) (sv (xex20 rfl) (send (fg [(2, _), (4, _), (35, _), (48, _), (49, _)] ⟨rfl, rfl, rfl, rfl, rfl, ⟨⟩⟩ fun _ => (cno rfl (sreg (sv (xtaY ni193 rfl) (sv (xex21 rfl) (sv (xex20 rfl) (send (fg [(2, _), (4, _), (35, _), (58, _), (59, _)] ⟨rfl, rfl, rfl, rfl, rfl, ⟨⟩⟩ fun _ => (cyes rfl (sreg ?_))))))))))))))))))))))))
   refine sA rfl (send (fg [(2, _), (4, _), (7, _)] ⟨rfl, rfl, rfl, ⟨⟩⟩ fun _ => (lreg (sM rfl (sN rfl (sv (xfld fl195_0 rfl) (sv (xldS (lens := [256]) ro82 rfl hsr) ?_)))))))
   refine sc (xcall ca100 rfl) (c100 (S := bt r.host) (by have := (name_pos (hno.2.1 (by omega))).2; omega)) ?_
   rintro _ w67 ⟨rfl, m68⟩
   have z69 := m68.size
   have hsr := hsr.keep m68 (by omega) id
   have hf := hf.step0 m68
   have h2 := h2.keep m68 id
   have h4 := h4.keep m68 id
   refine sv (xfld fl112_5 rfl) ?_
   refine suK (xstF 5 sz3 h4 rfl rfl rfl rfl rfl) ?_
   rintro w71 ⟨m72, h4, s70⟩
   have hsr := hsr.keep m72 (by omega) (by show ¬ (bB = b4); omega)
   have hf := hf.step m72 (nB (by omega))
   have h2 := h2.keep m72 (by show ¬ (b2 = b4); omega)
   refine sv (xfld fl112_7 rfl) ?_
   refine suK (xstF 7 sz9 h4 rfl rfl rfl rfl rfl) ?_
   rintro w74 ⟨m75, h4, s73⟩
   have hsr := hsr.keep m75 (by omega) (by show ¬ (bB = b4); omega)
   have hf := hf.step m75 (nB (by omega))
   have h2 := h2.keep m75 (by show ¬ (b2 = b4); omega)
   refine lend (nBlock (nThen (fg [(2, _), (4, _)] ⟨rfl, rfl, ⟨⟩⟩ fun _ => (sreg (sv (xldS (lens := lRec) ro112 rfl h4.r) ?_)))))
   refine suK (xstW h2 (lens' := lRec) sz112 rfl rfl rfl rfl rfl) ?_
   rintro w77 ⟨m78, h2, s76⟩
   have hsr := hsr.keep m78 (by omega) (by show ¬ (bB = b2); omega)
   have hf := hf.step m78 (nB (by omega))
   have h4 := h4.keep m78 (by show ¬ (b4 = b2); omega)
   refine send (fg [(2, _)] ⟨rfl, ⟨⟩⟩ fun _ => (wp_ret ?_))
   refine rp1 rfl ⟨_, rfl, ldS (lens := lRec) ro112 h2.r⟩ ?_
   rw [norm_ns (by omega)]
   exact ⟨_, _, _, ag_rec (r' := { rec0 r l with host := r.host }) (k := 3) hk rfl, ba0, LA.nil, LA.nil, hf⟩
  ·
   refine send (fg [(2, _), (4, _), (35, _)] ⟨rfl, rfl, rfl, ⟨⟩⟩ fun _ => (wp_block (sreg (sv (xtaN ni186 in186 rfl rfl) (sv (xex21 rfl) (sv (xex20 rfl) (send (fg [(2, _), (4, _), (35, _), (37, _), (38, _)] ⟨rfl, rfl, rfl, rfl, rfl, ⟨⟩⟩ fun _ => (cno rfl (sreg (sv (xtaN ni190 in190 rfl rfl) (sv (xex21 rfl) (sv (xex20 rfl) (send (fg [(2, _), (4, _), (35, _), (48, _), (49, _)] ⟨rfl, rfl, rfl, rfl, rfl, ⟨⟩⟩ fun _ => (cno rfl (sreg (sv (xtaN ni193 in193 rfl rfl) (sv (xex21 rfl) (sv (xex20 rfl) (send (fg [(2, _), (4, _), (35, _), (58, _), (59, _)] ⟨rfl, rfl, rfl, rfl, rfl, ⟨⟩⟩ fun _ => (cno rfl (sreg ?_))))))))))))))))))))))))
   refine sv (xtaY ni196 rfl) (sv (xex21 rfl) (sv (xex20 rfl) (send (fg [(2, _), (4, _), (35, _), (68, _), (69, _)] ⟨rfl, rfl, rfl, rfl, rfl, ⟨⟩⟩ fun _ => (cyes rfl (sreg (sA rfl (send (fg [(2, _), (4, _), (8, _)] ⟨rfl, rfl, rfl, ⟨⟩⟩ fun _ => ?_)))))))))
   refine sdrawH (Fr (fun k => k = b4) w37.drew) [(0, .rd), (1, .rd), (2, .rd), (3, .rd), (5, .rd), (6, .rd), (7, .rd), (8, .rd), (10, .rd), (4, .ld), (9, .ld), (11, .ld), (12, .rd), (13, .ld), (14, .rd), (15, .bh)] mixed (by kernel_rfl) (fun _ _ _ _ _ h => h) ?_
   have z79 : w37.drew.heap.size = w37.heap.size := rfl
   have hsr := hsr.keep (fd w37) (by omega) id
   have hf := hf.drew
   have h2 := h2.drew
   have h4 := h4.drew
   have zb_hsr := hsr
   have hS80 : Fr (fun k => k = b4) w37.drew w37.drew := Fr.refl _ _
   refine qqM rfl rfl hS80 (qqN rfl rfl hS80 (hvH rfl (fun _ _ => xfld fl198_0 rfl) hS80 (hvH rfl (fun w' hS => xldS (lens := [256]) ro82 rfl ((zb_hsr.keep hS (by omega) (by show ¬ (bB = b4); omega)).sub 0 1 rfl)) hS80 (qqM rfl rfl hS80 (qqN rfl rfl hS80 (hvH rfl (fun _ _ => xfld fl198_1 rfl) hS80 (hvH rfl (fun w' hS => xldS (lens := [256]) ro82 rfl ((zb_hsr.keep hS (by omega) (by show ¬ (bB = b4); omega)).sub 1 1 rfl)) hS80 (hvH rfl (fun _ _ => xfld fl112_5 rfl) hS80 ?_))))))))
   refine hcH rfl (xcall ca100 rfl) (c100 (S := bt r.host) (by have := (name_pos (hno.2.1 (by omega))).2; omega)) ?_
   rintro _ w81 ⟨rfl, m82⟩
   have z83 := m82.size
   have hsr := hsr.keep m82 (by omega) id
   have hf := hf.step0 m82
   have h2 := h2.keep m82 id
   have h4 := h4.keep m82 id
   have hS84 := hS80.step0 m82
   refine ⟨hS84, ?_⟩
   refine hcH rfl (xcall ca100 rfl) (c100 (S := bt r.box) (by have := (name_pos (hno.2.2 hk)).2; omega)) ?_
   rintro _ w85 ⟨rfl, m86⟩
   have z87 := m86.size
   have hsr := hsr.keep m86 (by omega) id
   have hf := hf.step0 m86
   have h2 := h2.keep m86 id
   have h4 := h4.keep m86 id
   have hS88 := hS84.step0 m86
   refine ⟨hS88, ?_⟩
   refine hluKH rfl (xstF 5 sz3 h4 rfl rfl rfl rfl rfl) ?_
   rintro w90 ⟨m91, h4, s89⟩
   have hsr := hsr.keep m91 (by omega) (by show ¬ (bB = b4); omega)
   have hf := hf.step m91 (nB (by omega))
   have h2 := h2.keep m91 (by show ¬ (b2 = b4); omega)
   have hS92 := hS88.step m91 (fun k hk hS => by have hS : k = b4 := hS; show k = b4; omega)
   refine ⟨hS92, ?_⟩
   refine hvH rfl (fun _ _ => xfld fl112_7 rfl) hS92 ?_
   refine hluKH rfl (xstF 7 sz9 h4 rfl rfl rfl rfl rfl) ?_
   rintro w94 ⟨m95, h4, s93⟩
   have hsr := hsr.keep m95 (by omega) (by show ¬ (bB = b4); omega)
   have hf := hf.step m95 (nB (by omega))
   have h2 := h2.keep m95 (by show ¬ (b2 = b4); omega)
   have hS96 := hS92.step m95 (fun k hk hS => by have hS : k = b4 := hS; show k = b4; omega)
   refine ⟨hS96, ?_⟩
   refine hvH rfl (fun _ _ => xfld fl112_8 rfl) hS96 ?_
   refine bluKH rfl (xstF 8 sz9 h4 rfl rfl rfl rfl rfl) ?_
   rintro w98 ⟨m99, h4, s97⟩
   have hsr := hsr.keep m99 (by omega) (by show ¬ (bB = b4); omega)
   have hf := hf.step m99 (nB (by omega))
   have h2 := h2.keep m99 (by show ¬ (b2 = b4); omega)
   refine hendH (fg [(2, _), (4, _), (8, _)] ⟨rfl, rfl, rfl, ⟨⟩⟩ fun _ => ?_)
   refine ldrawH (Fr (fun k => k = b4) w98.drew) [(0, .rd), (1, .rd), (2, .rd), (3, .rd), (4, .rd), (5, .rd), (6, .rd), (7, .rd), (8, .rd), (9, .rd), (10, .rd), (11, .rd), (12, .rd), (13, .rd), (14, .rd), (15, .rd), (16, .rd), (17, .rd), (18, .rd), (19, .rd), (20, .rd), (21, .ld), (22, .rd), (23, .ld), (24, .rd), (25, .ld), (26, .rd), (27, .ld), (28, .rd), (29, .bh)] mixed (by kernel_rfl) (fun _ _ _ _ _ h => h) ?_
   have z100 : w98.drew.heap.size = w98.heap.size := rfl
   have hsr := hsr.keep (fd w98) (by omega) id
   have hf := hf.drew
   have h2 := h2.drew
   have h4 := h4.drew
   have zb_hsr := hsr
   have hS101 : Fr (fun k => k = b4) w98.drew w98.drew := Fr.refl _ _
   refine qqM rfl rfl hS101 (qqN rfl rfl hS101 (hvH rfl (fun _ _ => xfld fl198_2 rfl) hS101 (hvH rfl (fun w' hS => xld on61 rfl ((zb_hsr.keep hS (by omega) (by show ¬ (bB = b4); omega)).c 2 rfl rfl)) hS101 (qqM rfl rfl hS101 (qqN rfl rfl hS101 (hvH rfl (fun _ _ => xfld fl198_3 rfl) hS101 (hvH rfl (fun w' hS => xld on61 rfl ((zb_hsr.keep hS (by omega) (by show ¬ (bB = b4); omega)).c 3 rfl rfl)) hS101 (qqM rfl rfl hS101 (qqN rfl rfl hS101 (hvH rfl (fun _ _ => xfld fl198_4 rfl) hS101 (hvH rfl (fun w' hS => xld on61 rfl ((zb_hsr.keep hS (by omega) (by show ¬ (bB = b4); omega)).c 4 rfl rfl)) hS101 (qqM rfl rfl hS101 (qqN rfl rfl hS101 (hvH rfl (fun _ _ => xfld fl198_5 rfl) hS101 (hvH rfl (fun w' hS => xld on61 rfl ((zb_hsr.keep hS (by omega) (by show ¬ (bB = b4); omega)).c 5 rfl rfl)) hS101 (qqM rfl rfl hS101 (qqN rfl rfl hS101 (hvH rfl (fun _ _ => xfld fl198_6 rfl) hS101 (hvH rfl (fun w' hS => xld on61 rfl ((zb_hsr.keep hS (by omega) (by show ¬ (bB = b4); omega)).c 6 rfl rfl)) hS101 (hvH rfl (fun _ _ => xfld fl112_9 rfl) hS101 ?_))))))))))))))))))))
   refine hluKH rfl (xstF 9 sz61 h4 rfl rfl rfl rfl rfl) ?_
   rintro w103 ⟨m104, h4, s102⟩
   have hsr := hsr.keep m104 (by omega) (by show ¬ (bB = b4); omega)
   have hf := hf.step m104 (nB (by omega))
   have h2 := h2.keep m104 (by show ¬ (b2 = b4); omega)
   have hS105 := hS101.step m104 (fun k hk hS => by have hS : k = b4 := hS; show k = b4; omega)
   refine ⟨hS105, ?_⟩
   refine hvH rfl (fun _ _ => xfld fl112_10 rfl) hS105 ?_
   refine hluKH rfl (xstF 10 sz61 h4 rfl rfl rfl rfl rfl) ?_
   rintro w107 ⟨m108, h4, s106⟩
   have hsr := hsr.keep m108 (by omega) (by show ¬ (bB = b4); omega)
   have hf := hf.step m108 (nB (by omega))
   have h2 := h2.keep m108 (by show ¬ (b2 = b4); omega)
   have hS109 := hS105.step m108 (fun k hk hS => by have hS : k = b4 := hS; show k = b4; omega)
   refine ⟨hS109, ?_⟩
   refine hvH rfl (fun _ _ => xfld fl112_11 rfl) hS109 ?_
   refine hluKH rfl (xstF 11 sz61 h4 rfl rfl rfl rfl rfl) ?_
   rintro w111 ⟨m112, h4, s110⟩
   have hsr := hsr.keep m112 (by omega) (by show ¬ (bB = b4); omega)
   have hf := hf.step m112 (nB (by omega))
   have h2 := h2.keep m112 (by show ¬ (b2 = b4); omega)
   have hS113 := hS109.step m112 (fun k hk hS => by have hS : k = b4 := hS; show k = b4; omega)
   refine ⟨hS113, ?_⟩
   refine hvH rfl (fun _ _ => xfld fl112_12 rfl) hS113 ?_
   refine hluKH rfl (xstF 12 sz61 h4 rfl rfl rfl rfl rfl) ?_
   rintro w115 ⟨m116, h4, s114⟩
   have hsr := hsr.keep m116 (by omega) (by show ¬ (bB = b4); omega)
   have hf := hf.step m116 (nB (by omega))
   have h2 := h2.keep m116 (by show ¬ (b2 = b4); omega)
   have hS117 := hS113.step m116 (fun k hk hS => by have hS : k = b4 := hS; show k = b4; omega)
   refine ⟨hS117, ?_⟩
   refine hvH rfl (fun _ _ => xfld fl112_13 rfl) hS117 ?_
   refine bluKH rfl (xstF 13 sz61 h4 rfl rfl rfl rfl rfl) ?_
   rintro w119 ⟨m120, h4, s118⟩
   have hsr := hsr.keep m120 (by omega) (by show ¬ (bB = b4); omega)
   have hf := hf.step m120 (nB (by omega))
   have h2 := h2.keep m120 (by show ¬ (b2 = b4); omega)
   refine lhendH (nBlock (nThen (fg [(2, _), (4, _)] ⟨rfl, rfl, ⟨⟩⟩ fun _ => (sreg (sv (xldS (lens := lRec) ro112 rfl h4.r) ?_)))))
   refine suK (xstW h2 (lens' := lRec) sz112 rfl rfl rfl rfl rfl) ?_
   rintro w122 ⟨m123, h2, s121⟩
   have hsr := hsr.keep m123 (by omega) (by show ¬ (bB = b2); omega)
   have hf := hf.step m123 (nB (by omega))
   have h4 := h4.keep m123 (by show ¬ (b4 = b2); omega)
   refine send (fg [(2, _)] ⟨rfl, ⟨⟩⟩ fun _ => (wp_ret ?_))
   refine rp1 rfl ⟨_, rfl, ldS (lens := lRec) ro112 h2.r⟩ ?_
   rw [norm_soa hk]
   exact ⟨_, _, _, ag_rec (r' := { rec0 r l with host := r.host, box := r.box, n1 := r.n1, n2 := r.n2, n3 := r.n3, n4 := r.n4, n5 := r.n5 }) (k := 4) hk rfl, ba0, LA.nil, LA.nil, hf⟩
  ·
   refine send (fg [(2, _), (4, _), (35, _)] ⟨rfl, rfl, rfl, ⟨⟩⟩ fun _ => (wp_block (sreg (sv (xtaN ni186 in186 rfl rfl) (sv (xex21 rfl) (sv (xex20 rfl) (send (fg [(2, _), (4, _), (35, _), (37, _), (38, _)] ⟨rfl, rfl, rfl, rfl, rfl, ⟨⟩⟩ fun _ => (cno rfl (sreg (sv (xtaN ni190 in190 rfl rfl) (sv (xex21 rfl) (sv (xex20 rfl) (send (fg [(2, _), (4, _), (35, _), (48, _), (49, _)] ⟨rfl, rfl, rfl, rfl, rfl, ⟨⟩⟩ fun _ => (cno rfl (sreg (sv (xtaN ni193 in193 rfl rfl) (sv (xex21 rfl) (sv (xex20 rfl) (send (fg [(2, _), (4, _), (35, _), (58, _), (59, _)] ⟨rfl, rfl, rfl, rfl, rfl, ⟨⟩⟩ fun _ => (cno rfl (sreg ?_))))))))))))))))))))))))
   refine sv (xtaN ni196 in196 rfl rfl) (sv (xex21 rfl) (sv (xex20 rfl) (send (fg [(2, _), (4, _), (35, _), (68, _), (69, _)] ⟨rfl, rfl, rfl, rfl, rfl, ⟨⟩⟩ fun _ => (cno rfl (sreg (sv (xtaY ni199 rfl) (sv (xex21 rfl) (sv (xex20 rfl) (send (fg [(2, _), (4, _), (35, _), (109, _), (110, _)] ⟨rfl, rfl, rfl, rfl, rfl, ⟨⟩⟩ fun _ => (cyes rfl (sreg (sA rfl (send (fg [(2, _), (4, _), (9, _)] ⟨rfl, rfl, rfl, ⟨⟩⟩ fun _ => (lreg (sM rfl (sN rfl (sv (xfld fl201_0 rfl) (sv (xldS (lens := [256]) ro82 rfl hsr) ?_)))))))))))))))))))))
   refine sc (xcall ca100 rfl) (c100 (S := bt r.host) (by have := (name_pos (hno.2.1 (by omega))).2; omega)) ?_
   rintro _ w124 ⟨rfl, m125⟩
   have z126 := m125.size
   have hsr := hsr.keep m125 (by omega) id
   have hf := hf.step0 m125
   have h2 := h2.keep m125 id
   have h4 := h4.keep m125 id
   refine sv (xfld fl112_5 rfl) ?_
   refine suK (xstF 5 sz3 h4 rfl rfl rfl rfl rfl) ?_
   rintro w128 ⟨m129, h4, s127⟩
   have hsr := hsr.keep m129 (by omega) (by show ¬ (bB = b4); omega)
   have hf := hf.step m129 (nB (by omega))
   have h2 := h2.keep m129 (by show ¬ (b2 = b4); omega)
   refine sv (xfld fl112_7 rfl) ?_
   refine suK (xstF 7 sz9 h4 rfl rfl rfl rfl rfl) ?_
   rintro w131 ⟨m132, h4, s130⟩
   have hsr := hsr.keep m132 (by omega) (by show ¬ (bB = b4); omega)
   have hf := hf.step m132 (nB (by omega))
   have h2 := h2.keep m132 (by show ¬ (b2 = b4); omega)
   refine lend (nBlock (nThen (fg [(2, _), (4, _)] ⟨rfl, rfl, ⟨⟩⟩ fun _ => (sreg (sv (xldS (lens := lRec) ro112 rfl h4.r) ?_)))))
   refine suK (xstW h2 (lens' := lRec) sz112 rfl rfl rfl rfl rfl) ?_
   rintro w134 ⟨m135, h2, s133⟩
   have hsr := hsr.keep m135 (by omega) (by show ¬ (bB = b2); omega)
   have hf := hf.step m135 (nB (by omega))
   have h4 := h4.keep m135 (by show ¬ (b4 = b2); omega)
   refine send (fg [(2, _)] ⟨rfl, ⟨⟩⟩ fun _ => (wp_ret ?_))
   refine rp1 rfl ⟨_, rfl, ldS (lens := lRec) ro112 h2.r⟩ ?_
   rw [norm_ns (by omega)]
   exact ⟨_, _, _, ag_rec (r' := { rec0 r l with host := r.host }) (k := 5) hk rfl, ba0, LA.nil, LA.nil, hf⟩
  ·
   refine send (fg [(2, _), (4, _), (35, _)] ⟨rfl, rfl, rfl, ⟨⟩⟩ fun _ => (wp_block (sreg (sv (xtaN ni186 in186 rfl rfl) (sv (xex21 rfl) (sv (xex20 rfl) (send (fg [(2, _), (4, _), (35, _), (37, _), (38, _)] ⟨rfl, rfl, rfl, rfl, rfl, ⟨⟩⟩ fun _ => (cno rfl (sreg (sv (xtaN ni190 in190 rfl rfl) (sv (xex21 rfl) (sv (xex20 rfl) (send (fg [(2, _), (4, _), (35, _), (48, _), (49, _)] ⟨rfl, rfl, rfl, rfl, rfl, ⟨⟩⟩ fun _ => (cno rfl (sreg (sv (xtaN ni193 in193 rfl rfl) (sv (xex21 rfl) (sv (xex20 rfl) (send (fg [(2, _), (4, _), (35, _), (58, _), (59, _)] ⟨rfl, rfl, rfl, rfl, rfl, ⟨⟩⟩ fun _ => (cno rfl (sreg ?_))))))))))))))))))))))))
   refine sv (xtaN ni196 in196 rfl rfl) (sv (xex21 rfl) (sv (xex20 rfl) (send (fg [(2, _), (4, _), (35, _), (68, _), (69, _)] ⟨rfl, rfl, rfl, rfl, rfl, ⟨⟩⟩ fun _ => (cno rfl (sreg (sv (xtaN ni199 in199 rfl rfl) (sv (xex21 rfl) (sv (xex20 rfl) (send (fg [(2, _), (4, _), (35, _), (109, _), (110, _)] ⟨rfl, rfl, rfl, rfl, rfl, ⟨⟩⟩ fun _ => (cno rfl (sreg (sv (xtaY ni202 rfl) (sv (xex21 rfl) (sv (xex20 rfl) (send (fg [(2, _), (4, _), (35, _), (119, _), (120, _)] ⟨rfl, rfl, rfl, rfl, rfl, ⟨⟩⟩ fun _ => (cyes rfl (sreg (sA rfl (send (fg [(2, _), (4, _), (10, _)] ⟨rfl, rfl, rfl, ⟨⟩⟩ fun _ => ?_)))))))))))))))))))))))
   refine ldrawH (Fr (fun k => k = b4) w37.drew) [(0, .rd), (1, .rd), (2, .rd), (3, .rd), (4, .rd), (5, .rd), (6, .rd), (7, .rd), (8, .rd), (10, .rd), (9, .ld), (11, .ld), (12, .rd), (13, .ld), (14, .rd), (15, .bh)] mixed (by kernel_rfl) (fun _ _ _ _ _ h => h) ?_
   have z136 : w37.drew.heap.size = w37.heap.size := rfl
   have hsr := hsr.keep (fd w37) (by omega) id
   have hf := hf.drew
   have h2 := h2.drew
   have h4 := h4.drew
   have zb_hsr := hsr
   have hS137 : Fr (fun k => k = b4) w37.drew w37.drew := Fr.refl _ _
   refine qqM rfl rfl hS137 (qqN rfl rfl hS137 (hvH rfl (fun _ _ => xfld fl204_0 rfl) hS137 (hvH rfl (fun w' hS => xld on22 rfl ((zb_hsr.keep hS (by omega) (by show ¬ (bB = b4); omega)).c 0 rfl rfl)) hS137 (hvH rfl (fun _ _ => xconv hs22 ki61 rfl (wu32n (m16 r.n1).toNat (by rw [m16_nat]; omega))) hS137 (qqM rfl rfl hS137 (qqN rfl rfl hS137 (hvH rfl (fun _ _ => xfld fl204_1 rfl) hS137 (hvH rfl (fun w' hS => xldS (lens := [256]) ro82 rfl ((zb_hsr.keep hS (by omega) (by show ¬ (bB = b4); omega)).sub 1 1 rfl)) hS137 (hvH rfl (fun _ _ => xfld fl112_5 rfl) hS137 ?_)))))))))
   refine hcH rfl (xcall ca100 rfl) (c100 (S := bt r.host) (by have := (name_pos (hno.2.1 (by omega))).2; omega)) ?_
   rintro _ w138 ⟨rfl, m139⟩
   have z140 := m139.size
   have hsr := hsr.keep m139 (by omega) id
   have hf := hf.step0 m139
   have h2 := h2.keep m139 id
   have h4 := h4.keep m139 id
   have hS141 := hS137.step0 m139
   refine ⟨hS141, ?_⟩
   refine hluKH rfl (xstF 5 sz3 h4 rfl rfl rfl rfl rfl) ?_
   rintro w143 ⟨m144, h4, s142⟩
   have hsr := hsr.keep m144 (by omega) (by show ¬ (bB = b4); omega)
   have hf := hf.step m144 (nB (by omega))
   have h2 := h2.keep m144 (by show ¬ (b2 = b4); omega)
   have hS145 := hS141.step m144 (fun k hk hS => by have hS : k = b4 := hS; show k = b4; omega)
   refine ⟨hS145, ?_⟩
   refine hvH rfl (fun _ _ => xfld fl112_9 rfl) hS145 ?_
   refine hluKH rfl (xstF 9 sz61 h4 rfl rfl rfl rfl rfl) ?_
   rintro w147 ⟨m148, h4, s146⟩
   have hsr := hsr.keep m148 (by omega) (by show ¬ (bB = b4); omega)
   have hf := hf.step m148 (nB (by omega))
   have h2 := h2.keep m148 (by show ¬ (b2 = b4); omega)
   have hS149 := hS145.step m148 (fun k hk hS => by have hS : k = b4 := hS; show k = b4; omega)
   refine ⟨hS149, ?_⟩
   refine hvH rfl (fun _ _ => xfld fl112_7 rfl) hS149 ?_
   refine bluKH rfl (xstF 7 sz9 h4 rfl rfl rfl rfl rfl) ?_
   rintro w151 ⟨m152, h4, s150⟩
   have hsr := hsr.keep m152 (by omega) (by show ¬ (bB = b4); omega)
   have hf := hf.step m152 (nB (by omega))
   have h2 := h2.keep m152 (by show ¬ (b2 = b4); omega)
   refine lhendH (nBlock (nThen (fg [(2, _), (4, _)] ⟨rfl, rfl, ⟨⟩⟩ fun _ => (sreg (sv (xldS (lens := lRec) ro112 rfl h4.r) ?_)))))
   refine suK (xstW h2 (lens' := lRec) sz112 rfl rfl rfl rfl rfl) ?_
   rintro w154 ⟨m155, h2, s153⟩
   have hsr := hsr.keep m155 (by omega) (by show ¬ (bB = b2); omega)
   have hf := hf.step m155 (nB (by omega))
   have h4 := h4.keep m155 (by show ¬ (b4 = b2); omega)
   refine send (fg [(2, _)] ⟨rfl, ⟨⟩⟩ fun _ => (wp_ret ?_))
   refine rp1 rfl ⟨_, rfl, ldS (lens := lRec) ro112 h2.r⟩ ?_
   rw [norm_mx hk]
   exact ⟨_, _, _, ag_rec (r' := { rec0 r l with n1 := m16 r.n1, host := r.host }) (k := 6) hk rfl, ba0, LA.nil, LA.nil, hf⟩
  ·
   obtain ⟨aq, cq, rfl⟩ := ht.form
   refine send (fg [(2, _), (4, _), (35, _)] ⟨rfl, rfl, rfl, ⟨⟩⟩ fun _ => (wp_block (sreg (sv (xtaN ni186 in186 rfl rfl) (sv (xex21 rfl) (sv (xex20 rfl) (send (fg [(2, _), (4, _), (35, _), (37, _), (38, _)] ⟨rfl, rfl, rfl, rfl, rfl, ⟨⟩⟩ fun _ => (cno rfl (sreg (sv (xtaN ni190 in190 rfl rfl) (sv (xex21 rfl) (sv (xex20 rfl) (send (fg [(2, _), (4, _), (35, _), (48, _), (49, _)] ⟨rfl, rfl, rfl, rfl, rfl, ⟨⟩⟩ fun _ => (cno rfl (sreg (sv (xtaN ni193 in193 rfl rfl) (sv (xex21 rfl) (sv (xex20 rfl) (send (fg [(2, _), (4, _), (35, _), (58, _), (59, _)] ⟨rfl, rfl, rfl, rfl, rfl, ⟨⟩⟩ fun _ => (cno rfl (sreg ?_))))))))))))))))))))))))
   refine sv (xtaN ni196 in196 rfl rfl) (sv (xex21 rfl) (sv (xex20 rfl) (send (fg [(2, _), (4, _), (35, _), (68, _), (69, _)] ⟨rfl, rfl, rfl, rfl, rfl, ⟨⟩⟩ fun _ => (cno rfl (sreg (sv (xtaN ni199 in199 rfl rfl) (sv (xex21 rfl) (sv (xex20 rfl) (send (fg [(2, _), (4, _), (35, _), (109, _), (110, _)] ⟨rfl, rfl, rfl, rfl, rfl, ⟨⟩⟩ fun _ => (cno rfl (sreg (sv (xtaN ni202 in202 rfl rfl) (sv (xex21 rfl) (sv (xex20 rfl) (send (fg [(2, _), (4, _), (35, _), (119, _), (120, _)] ⟨rfl, rfl, rfl, rfl, rfl, ⟨⟩⟩ fun _ => (cno rfl (sreg (sv (xtaY ni205 rfl) (sv (xex21 rfl) (sv (xex20 rfl) (send ?_))))))))))))))))))))))))
   refine fg [(2, _), (4, _), (35, _), (135, _), (136, _)] ⟨rfl, rfl, rfl, rfl, rfl, ⟨⟩⟩ fun _ => (cyes rfl (sreg (sA rfl (send (fg [(2, _), (4, _), (11, _)] ⟨rfl, rfl, rfl, ⟨⟩⟩ fun _ => (lreg ?_))))))
   refine svK (xslit ([]) sl62 in9 rfl (by decide) rfl rfl rfl rfl (by decide) rfl rfl) ?_
   rintro _ w157 ⟨b137, rfl, m158, h137, e137, s137, r137⟩
   have hsr := hsr.keep m158 (by omega) id
   have hf := hf.step0 m158
   have h2 := h2.keep m158 id
   have h4 := h4.keep m158 id
   have ht := ht.keep text_st (lU hU (by omega)) m158 nF
   refine sM rfl (sN rfl (sv (xfld fl207_0 rfl) (sv (xld on62 rfl (hsr.c 0 rfl rfl)) ?_)))
   refine svK (xapp sl62 in9 rfl (by decide) rfl rfl r137 (LA.strs ht sl62) (by simp only [maxLen]; omega) (by omega)) ?_
   rintro _ w159 ⟨g142, r142, m160, a142, l142⟩
   have z161 := m160.size
   have hsr := hsr.keep m160 (by omega) (by show ¬ (bB = b137); omega)
   have hf := hf.step m160 (nB (by omega))
   have h2 := h2.keep m160 (by show ¬ (b2 = b137); omega)
   have h4 := h4.keep m160 (by show ¬ (b4 = b137); omega)
   obtain ⟨p142, q142, rfl, -⟩ := r142.form
   refine sv (xfld fl112_5 rfl) ?_
   refine suK (xstF 5 sz3 h4 rfl rfl rfl rfl rfl) ?_
   rintro w163 ⟨m164, h4, s162⟩
   have hsr := hsr.keep m164 (by omega) (by show ¬ (bB = b4); omega)
   have hf := hf.step m164 (nB (by omega))
   have h2 := h2.keep m164 (by show ¬ (b2 = b4); omega)
   have r142 := r142.keep m164 (by show ¬ (g142 = b4); omega)
   refine sv (xfld fl112_14 rfl) ?_
   refine suK (xstF 14 sz62 h4 rfl rfl rfl rfl rfl) ?_
   rintro w166 ⟨m167, h4, s165⟩
   have hsr := hsr.keep m167 (by omega) (by show ¬ (bB = b4); omega)
   have hf := hf.step m167 (nB (by omega))
   have h2 := h2.keep m167 (by show ¬ (b2 = b4); omega)
   have r142 := r142.keep m167 (by show ¬ (g142 = b4); omega)
   refine lend (nBlock (nThen (fg [(2, _), (4, _)] ⟨rfl, rfl, ⟨⟩⟩ fun _ => (sreg (sv (xldS (lens := lRec) ro112 rfl h4.r) ?_)))))
   refine suK (xstW h2 (lens' := lRec) sz112 rfl rfl rfl rfl rfl) ?_
   rintro w169 ⟨m170, h2, s168⟩
   have hsr := hsr.keep m170 (by omega) (by show ¬ (bB = b2); omega)
   have hf := hf.step m170 (nB (by omega))
   have h4 := h4.keep m170 (by show ¬ (b4 = b2); omega)
   have r142 := r142.keep m170 (by show ¬ (g142 = b2); omega)
   refine send (fg [(2, _)] ⟨rfl, ⟨⟩⟩ fun _ => (wp_ret ?_))
   refine rp1 rfl ⟨_, rfl, ldS (lens := lRec) ro112 h2.r⟩ ?_
   rw [norm_txt hk]
   exact ⟨_, _, _, ag_rec (r' := { rec0 r l with texts := r.texts }) (k := 7) hk rfl, ba0, (RA.la (RA.texts (U := NoU) (show Rw _ _ _ _ _ _ (strs r.texts) from r142)) (by decide) text_gr (fun _ h => h.elim) (.inr ⟨by omega, by omega⟩)), LA.nil, hf⟩
  ·
   refine send (fg [(2, _), (4, _), (35, _)] ⟨rfl, rfl, rfl, ⟨⟩⟩ fun _ => (wp_block (sreg (sv (xtaN ni186 in186 rfl rfl) (sv (xex21 rfl) (sv (xex20 rfl) (send (fg [(2, _), (4, _), (35, _), (37, _), (38, _)] ⟨rfl, rfl, rfl, rfl, rfl, ⟨⟩⟩ fun _ => (cno rfl (sreg (sv (xtaN ni190 in190 rfl rfl) (sv (xex21 rfl) (sv (xex20 rfl) (send (fg [(2, _), (4, _), (35, _), (48, _), (49, _)] ⟨rfl, rfl, rfl, rfl, rfl, ⟨⟩⟩ fun _ => (cno rfl (sreg (sv (xtaN ni193 in193 rfl rfl) (sv (xex21 rfl) (sv (xex20 rfl) (send (fg [(2, _), (4, _), (35, _), (58, _), (59, _)] ⟨rfl, rfl, rfl, rfl, rfl, ⟨⟩⟩ fun _ => (cno rfl (sreg ?_))))))))))))))))))))))))
   refine sv (xtaN ni196 in196 rfl rfl) (sv (xex21 rfl) (sv (xex20 rfl) (send (fg [(2, _), (4, _), (35, _), (68, _), (69, _)] ⟨rfl, rfl, rfl, rfl, rfl, ⟨⟩⟩ fun _ => (cno rfl (sreg (sv (xtaN ni199 in199 rfl rfl) (sv (xex21 rfl) (sv (xex20 rfl) (send (fg [(2, _), (4, _), (35, _), (109, _), (110, _)] ⟨rfl, rfl, rfl, rfl, rfl, ⟨⟩⟩ fun _ => (cno rfl (sreg (sv (xtaN ni202 in202 rfl rfl) (sv (xex21 rfl) (sv (xex20 rfl) (send (fg [(2, _), (4, _), (35, _), (119, _), (120, _)] ⟨rfl, rfl, rfl, rfl, rfl, ⟨⟩⟩ fun _ => (cno rfl (sreg (sv (xtaN ni205 in205 rfl rfl) (sv (xex21 rfl) (sv (xex20 rfl) (send ?_))))))))))))))))))))))))
   refine fg [(2, _), (4, _), (35, _), (135, _), (136, _)] ⟨rfl, rfl, rfl, rfl, rfl, ⟨⟩⟩ fun _ => (cno rfl (sreg (sv (xtaY ni208 rfl) (sv (xex21 rfl) (sv (xex20 rfl) (send (fg [(2, _), (4, _), (35, _), (146, _), (147, _)] ⟨rfl, rfl, rfl, rfl, rfl, ⟨⟩⟩ fun _ => (cyes rfl (sreg (sA rfl (send (fg [(2, _), (4, _), (12, _)] ⟨rfl, rfl, rfl, ⟨⟩⟩ fun _ => (lreg ?_)))))))))))))
   refine svK (xslit (bvs []) sl37 in5 rfl (by decide) rfl rfl rfl rfl (by decide) rfl (bvs_one _)) ?_
   rintro _ w172 ⟨b148, rfl, m173, h148, e148, s148, r148⟩
   have hsr := hsr.keep m173 (by omega) id
   have hf := hf.step0 m173
   have h2 := h2.keep m173 id
   have h4 := h4.keep m173 id
   refine sM rfl (sN rfl (sv (xfld fl211_0 rfl) (sv (xcutA ar209 sz5 rfl) ?_)))
   refine svK (xapp sl37 in5 rfl (by decide) rfl rfl r148 (src_cut (hsr.seg (i := 0) (k := 0) rfl rfl) (fixedL_length _ _)) (by simp only [maxLen]; omega) (by omega)) ?_
   rintro _ w174 ⟨g153, r153, m175, a153, l153⟩
   have z176 := m175.size
   have hsr := hsr.keep m175 (by omega) (by show ¬ (bB = b148); omega)
   have hf := hf.step m175 (nB (by omega))
   have h2 := h2.keep m175 (by show ¬ (b2 = b148); omega)
   have h4 := h4.keep m175 (by show ¬ (b4 = b148); omega)
   obtain ⟨p153, q153, rfl, -⟩ := r153.form
   refine sv (xfld fl112_5 rfl) ?_
   refine suK (xstF 5 sz3 h4 rfl rfl rfl rfl rfl) ?_
   rintro w178 ⟨m179, h4, s177⟩
   have hsr := hsr.keep m179 (by omega) (by show ¬ (bB = b4); omega)
   have hf := hf.step m179 (nB (by omega))
   have h2 := h2.keep m179 (by show ¬ (b2 = b4); omega)
   have r153 := r153.keep m179 (by show ¬ (g153 = b4); omega)
   refine sv (xfld fl112_6 rfl) ?_
   refine suK (xstF 6 sz37 h4 rfl rfl rfl rfl rfl) ?_
   rintro w181 ⟨m182, h4, s180⟩
   have hsr := hsr.keep m182 (by omega) (by show ¬ (bB = b4); omega)
   have hf := hf.step m182 (nB (by omega))
   have h2 := h2.keep m182 (by show ¬ (b2 = b4); omega)
   have r153 := r153.keep m182 (by show ¬ (g153 = b4); omega)
   refine lend (nBlock (nThen (fg [(2, _), (4, _)] ⟨rfl, rfl, ⟨⟩⟩ fun _ => (sreg (sv (xldS (lens := lRec) ro112 rfl h4.r) ?_)))))
   refine suK (xstW h2 (lens' := lRec) sz112 rfl rfl rfl rfl rfl) ?_
   rintro w184 ⟨m185, h2, s183⟩
   have hsr := hsr.keep m185 (by omega) (by show ¬ (bB = b2); omega)
   have hf := hf.step m185 (nB (by omega))
   have h4 := h4.keep m185 (by show ¬ (b4 = b2); omega)
   have r153 := r153.keep m185 (by show ¬ (g153 = b2); omega)
   refine send (fg [(2, _)] ⟨rfl, ⟨⟩⟩ fun _ => (wp_ret ?_))
   refine rp1 rfl ⟨_, rfl, ldS (lens := lRec) ro112 h2.r⟩ ?_
   rw [norm_aaaa hk]
   exact ⟨_, _, _, ag_rec (r' := { rec0 r l with data := fixedL r.data 16 }) (k := 8) hk rfl, (BR.ba (show BR _ _ _ _ (fixedL r.data 16) from r153) (.inr ⟨by omega, by omega⟩)), LA.nil, LA.nil, hf⟩
  ·
   refine send (fg [(2, _), (4, _), (35, _)] ⟨rfl, rfl, rfl, ⟨⟩⟩ fun _ => (wp_block (sreg (sv (xtaN ni186 in186 rfl rfl) (sv (xex21 rfl) (sv (xex20 rfl) (send (fg [(2, _), (4, _), (35, _), (37, _), (38, _)] ⟨rfl, rfl, rfl, rfl, rfl, ⟨⟩⟩ fun _ => (cno rfl (sreg (sv (xtaN ni190 in190 rfl rfl) (sv (xex21 rfl) (sv (xex20 rfl) (send (fg [(2, _), (4, _), (35, _), (48, _), (49, _)] ⟨rfl, rfl, rfl, rfl, rfl, ⟨⟩⟩ fun _ => (cno rfl (sreg (sv (xtaN ni193 in193 rfl rfl) (sv (xex21 rfl) (sv (xex20 rfl) (send (fg [(2, _), (4, _), (35, _), (58, _), (59, _)] ⟨rfl, rfl, rfl, rfl, rfl, ⟨⟩⟩ fun _ => (cno rfl (sreg ?_))))))))))))))))))))))))
   refine sv (xtaN ni196 in196 rfl rfl) (sv (xex21 rfl) (sv (xex20 rfl) (send (fg [(2, _), (4, _), (35, _), (68, _), (69, _)] ⟨rfl, rfl, rfl, rfl, rfl, ⟨⟩⟩ fun _ => (cno rfl (sreg (sv (xtaN ni199 in199 rfl rfl) (sv (xex21 rfl) (sv (xex20 rfl) (send (fg [(2, _), (4, _), (35, _), (109, _), (110, _)] ⟨rfl, rfl, rfl, rfl, rfl, ⟨⟩⟩ fun _ => (cno rfl (sreg (sv (xtaN ni202 in202 rfl rfl) (sv (xex21 rfl) (sv (xex20 rfl) (send (fg [(2, _), (4, _), (35, _), (119, _), (120, _)] ⟨rfl, rfl, rfl, rfl, rfl, ⟨⟩⟩ fun _ => (cno rfl (sreg (sv (xtaN ni205 in205 rfl rfl) (sv (xex21 rfl) (sv (xex20 rfl) (send ?_))))))))))))))))))))))))
   refine fg [(2, _), (4, _), (35, _), (135, _), (136, _)] ⟨rfl, rfl, rfl, rfl, rfl, ⟨⟩⟩ fun _ => (cno rfl (sreg (sv (xtaN ni208 in208 rfl rfl) (sv (xex21 rfl) (sv (xex20 rfl) (send (fg [(2, _), (4, _), (35, _), (146, _), (147, _)] ⟨rfl, rfl, rfl, rfl, rfl, ⟨⟩⟩ fun _ => (cno rfl (sreg (sv (xtaY ni212 rfl) (sv (xex21 rfl) (sv (xex20 rfl) (send (fg [(2, _), (4, _), (35, _), (157, _), (158, _)] ⟨rfl, rfl, rfl, rfl, rfl, ⟨⟩⟩ fun _ => (cyes rfl (sreg (sA rfl (send (fg [(2, _), (4, _), (13, _)] ⟨rfl, rfl, rfl, ⟨⟩⟩ fun _ => ?_)))))))))))))))))))
   refine ldrawH (Fr (fun k => k = b4) w37.drew) [(0, .rd), (1, .rd), (2, .rd), (3, .rd), (4, .rd), (5, .rd), (6, .rd), (7, .rd), (8, .rd), (9, .rd), (10, .rd), (11, .rd), (12, .rd), (13, .rd), (14, .rd), (15, .rd), (16, .rd), (17, .rd), (18, .rd), (20, .rd), (19, .ld), (21, .ld), (22, .rd), (23, .ld), (24, .rd), (25, .ld), (26, .rd), (27, .ld), (28, .rd), (29, .bh)] mixed (by kernel_rfl) (fun _ _ _ _ _ h => h) ?_
   have z186 : w37.drew.heap.size = w37.heap.size := rfl
   have hsr := hsr.keep (fd w37) (by omega) id
   have hf := hf.drew
   have h2 := h2.drew
   have h4 := h4.drew
   have zb_hsr := hsr
   have hS187 : Fr (fun k => k = b4) w37.drew w37.drew := Fr.refl _ _
   refine qqM rfl rfl hS187 (qqN rfl rfl hS187 (hvH rfl (fun _ _ => xfld fl214_0 rfl) hS187 (hvH rfl (fun w' hS => xld on22 rfl ((zb_hsr.keep hS (by omega) (by show ¬ (bB = b4); omega)).c 0 rfl rfl)) hS187 (hvH rfl (fun _ _ => xconv hs22 ki61 rfl (wu32n (m16 r.n1).toNat (by rw [m16_nat]; omega))) hS187 (qqM rfl rfl hS187 (qqN rfl rfl hS187 (hvH rfl (fun _ _ => xfld fl214_1 rfl) hS187 (hvH rfl (fun w' hS => xld on22 rfl ((zb_hsr.keep hS (by omega) (by show ¬ (bB = b4); omega)).c 1 rfl rfl)) hS187 (hvH rfl (fun _ _ => xconv hs22 ki61 rfl (wu32n (m16 r.n2).toNat (by rw [m16_nat]; omega))) hS187 (qqM rfl rfl hS187 (qqN rfl rfl hS187 (hvH rfl (fun _ _ => xfld fl214_2 rfl) hS187 (hvH rfl (fun w' hS => xld on22 rfl ((zb_hsr.keep hS (by omega) (by show ¬ (bB = b4); omega)).c 2 rfl rfl)) hS187 (hvH rfl (fun _ _ => xconv hs22 ki61 rfl (wu32n (m16 r.n3).toNat (by rw [m16_nat]; omega))) hS187 (qqM rfl rfl hS187 (qqN rfl rfl hS187 (hvH rfl (fun _ _ => xfld fl214_3 rfl) hS187 (hvH rfl (fun w' hS => xldS (lens := [256]) ro82 rfl ((zb_hsr.keep hS (by omega) (by show ¬ (bB = b4); omega)).sub 3 1 rfl)) hS187 (hvH rfl (fun _ _ => xfld fl112_5 rfl) hS187 ?_)))))))))))))))))))
   refine hcH rfl (xcall ca100 rfl) (c100 (S := bt r.host) (by have := (name_pos (hno.2.1 (by omega))).2; omega)) ?_
   rintro _ w188 ⟨rfl, m189⟩
   have z190 := m189.size
   have hsr := hsr.keep m189 (by omega) id
   have hf := hf.step0 m189
   have h2 := h2.keep m189 id
   have h4 := h4.keep m189 id
   have hS191 := hS187.step0 m189
   refine ⟨hS191, ?_⟩
   refine hluKH rfl (xstF 5 sz3 h4 rfl rfl rfl rfl rfl) ?_
   rintro w193 ⟨m194, h4, s192⟩
   have hsr := hsr.keep m194 (by omega) (by show ¬ (bB = b4); omega)
   have hf := hf.step m194 (nB (by omega))
   have h2 := h2.keep m194 (by show ¬ (b2 = b4); omega)
   have hS195 := hS191.step m194 (fun k hk hS => by have hS : k = b4 := hS; show k = b4; omega)
   refine ⟨hS195, ?_⟩
   refine hvH rfl (fun _ _ => xfld fl112_9 rfl) hS195 ?_
   refine hluKH rfl (xstF 9 sz61 h4 rfl rfl rfl rfl rfl) ?_
   rintro w197 ⟨m198, h4, s196⟩
   have hsr := hsr.keep m198 (by omega) (by show ¬ (bB = b4); omega)
   have hf := hf.step m198 (nB (by omega))
   have h2 := h2.keep m198 (by show ¬ (b2 = b4); omega)
   have hS199 := hS195.step m198 (fun k hk hS => by have hS : k = b4 := hS; show k = b4; omega)
   refine ⟨hS199, ?_⟩
   refine hvH rfl (fun _ _ => xfld fl112_10 rfl) hS199 ?_
   refine hluKH rfl (xstF 10 sz61 h4 rfl rfl rfl rfl rfl) ?_
   rintro w201 ⟨m202, h4, s200⟩
   have hsr := hsr.keep m202 (by omega) (by show ¬ (bB = b4); omega)
   have hf := hf.step m202 (nB (by omega))
   have h2 := h2.keep m202 (by show ¬ (b2 = b4); omega)
   have hS203 := hS199.step m202 (fun k hk hS => by have hS : k = b4 := hS; show k = b4; omega)
   refine ⟨hS203, ?_⟩
   refine hvH rfl (fun _ _ => xfld fl112_11 rfl) hS203 ?_
   refine hluKH rfl (xstF 11 sz61 h4 rfl rfl rfl rfl rfl) ?_
   rintro w205 ⟨m206, h4, s204⟩
   have hsr := hsr.keep m206 (by omega) (by show ¬ (bB = b4); omega)
   have hf := hf.step m206 (nB (by omega))
   have h2 := h2.keep m206 (by show ¬ (b2 = b4); omega)
   have hS207 := hS203.step m206 (fun k hk hS => by have hS : k = b4 := hS; show k = b4; omega)
   refine ⟨hS207, ?_⟩
   refine hvH rfl (fun _ _ => xfld fl112_7 rfl) hS207 ?_
   refine bluKH rfl (xstF 7 sz9 h4 rfl rfl rfl rfl rfl) ?_
   rintro w209 ⟨m210, h4, s208⟩
   have hsr := hsr.keep m210 (by omega) (by show ¬ (bB = b4); omega)
   have hf := hf.step m210 (nB (by omega))
   have h2 := h2.keep m210 (by show ¬ (b2 = b4); omega)
   refine lhendH (nBlock (nThen (fg [(2, _), (4, _)] ⟨rfl, rfl, ⟨⟩⟩ fun _ => (sreg (sv (xldS (lens := lRec) ro112 rfl h4.r) ?_)))))
   refine suK (xstW h2 (lens' := lRec) sz112 rfl rfl rfl rfl rfl) ?_
   rintro w212 ⟨m213, h2, s211⟩
   have hsr := hsr.keep m213 (by omega) (by show ¬ (bB = b2); omega)
   have hf := hf.step m213 (nB (by omega))
   have h4 := h4.keep m213 (by show ¬ (b4 = b2); omega)
   refine send (fg [(2, _)] ⟨rfl, ⟨⟩⟩ fun _ => (wp_ret ?_))
   refine rp1 rfl ⟨_, rfl, ldS (lens := lRec) ro112 h2.r⟩ ?_
   rw [norm_srv hk]
   exact ⟨_, _, _, ag_rec (r' := { rec0 r l with n1 := m16 r.n1, n2 := m16 r.n2, n3 := m16 r.n3, host := r.host }) (k := 9) hk rfl, ba0, LA.nil, LA.nil, hf⟩
  ·
   obtain ⟨aq, cq, rfl⟩ := hp.form
   refine send (fg [(2, _), (4, _), (35, _)] ⟨rfl, rfl, rfl, ⟨⟩⟩ fun _ => (wp_block (sreg (sv (xtaN ni186 in186 rfl rfl) (sv (xex21 rfl) (sv (xex20 rfl) (send (fg [(2, _), (4, _), (35, _), (37, _), (38, _)] ⟨rfl, rfl, rfl, rfl, rfl, ⟨⟩⟩ fun _ => (cno rfl (sreg (sv (xtaN ni190 in190 rfl rfl) (sv (xex21 rfl) (sv (xex20 rfl) (send (fg [(2, _), (4, _), (35, _), (48, _), (49, _)] ⟨rfl, rfl, rfl, rfl, rfl, ⟨⟩⟩ fun _ => (cno rfl (sreg (sv (xtaN ni193 in193 rfl rfl) (sv (xex21 rfl) (sv (xex20 rfl) (send (fg [(2, _), (4, _), (35, _), (58, _), (59, _)] ⟨rfl, rfl, rfl, rfl, rfl, ⟨⟩⟩ fun _ => (cno rfl (sreg ?_))))))))))))))))))))))))
   refine sv (xtaN ni196 in196 rfl rfl) (sv (xex21 rfl) (sv (xex20 rfl) (send (fg [(2, _), (4, _), (35, _), (68, _), (69, _)] ⟨rfl, rfl, rfl, rfl, rfl, ⟨⟩⟩ fun _ => (cno rfl (sreg (sv (xtaN ni199 in199 rfl rfl) (sv (xex21 rfl) (sv (xex20 rfl) (send (fg [(2, _), (4, _), (35, _), (109, _), (110, _)] ⟨rfl, rfl, rfl, rfl, rfl, ⟨⟩⟩ fun _ => (cno rfl (sreg (sv (xtaN ni202 in202 rfl rfl) (sv (xex21 rfl) (sv (xex20 rfl) (send (fg [(2, _), (4, _), (35, _), (119, _), (120, _)] ⟨rfl, rfl, rfl, rfl, rfl, ⟨⟩⟩ fun _ => (cno rfl (sreg (sv (xtaN ni205 in205 rfl rfl) (sv (xex21 rfl) (sv (xex20 rfl) (send ?_))))))))))))))))))))))))
   refine fg [(2, _), (4, _), (35, _), (135, _), (136, _)] ⟨rfl, rfl, rfl, rfl, rfl, ⟨⟩⟩ fun _ => (cno rfl (sreg (sv (xtaN ni208 in208 rfl rfl) (sv (xex21 rfl) (sv (xex20 rfl) (send (fg [(2, _), (4, _), (35, _), (146, _), (147, _)] ⟨rfl, rfl, rfl, rfl, rfl, ⟨⟩⟩ fun _ => (cno rfl (sreg (sv (xtaN ni212 in212 rfl rfl) (sv (xex21 rfl) (sv (xex20 rfl) (send (fg [(2, _), (4, _), (35, _), (157, _), (158, _)] ⟨rfl, rfl, rfl, rfl, rfl, ⟨⟩⟩ fun _ => (cno rfl (sreg (sv (xtaY ni215 rfl) (sv (xex21 rfl) (sv (xex20 rfl) (send (fg [(2, _), (4, _), (35, _), (185, _), (186, _)] ⟨rfl, rfl, rfl, rfl, rfl, ⟨⟩⟩ fun _ => (cyes rfl (sreg (sA rfl ?_))))))))))))))))))))))))
   refine send (fg [(2, _), (4, _), (14, _)] ⟨rfl, rfl, rfl, ⟨⟩⟩ fun _ => (sreg (sv (xfld fl112_5 rfl) ?_)))
   refine suK (xstF 5 sz3 h4 rfl rfl rfl rfl rfl) ?_
   rintro w215 ⟨m216, h4, s214⟩
   have hsr := hsr.keep m216 (by omega) (by show ¬ (bB = b4); omega)
   have hf := hf.step m216 (nB (by omega))
   have h2 := h2.keep m216 (by show ¬ (b2 = b4); omega)
   have hp := hp.keep pair_st (lU hU (by omega)) m216 (fun k hk hS => by have hk := hU k hk; have hS : k = b4 := hS; omega)
   refine send (fg [(2, _), (4, _), (14, _)] ⟨rfl, rfl, rfl, ⟨⟩⟩ fun _ => (sreg (sM rfl (sN rfl (sv (xfld fl218_0 rfl) (sv (xld on216 rfl (hsr.c 0 rfl rfl)) (sv (xlen sl216 rfl) (sM rfl (send (fg [(2, _), (4, _), (191, _), (192, _), (193, _)] ⟨rfl, rfl, rfl, rfl, rfl, ⟨⟩⟩ fun _ => (wp_block ?_)))))))))))
   refine lp [(2, _), (4, _), (191, _), (192, _)] (fun (x : Nat × Value × Nat) => match x with | (k, v, g) => [(193, .int .i64 (k : Int))]) (fun (x : Nat × Value × Nat) wx => match x with | (k, v, g) => Fr (fun k => k = b4) w215 wx ∧ (k ≤ r.pairs.length) ∧ (SB wx b4 lRec ([[.string r.name], [.int .u16 ((typeN r).toNat : Int)], [.int .u16 (r.cls.toNat : Int)], [.int .u32 (r.ttl.toNat : Int)], [.int .u16 (l.toNat : Int)], [.int .i64 10], [.slice none 0 0], [.string emptyB], [.string emptyB], [.int .u32 0], [.int .u32 0], [.int .u32 0], [.int .u32 0], [.int .u32 0], [.slice none 0 0], [v]])) ∧ ((v = .slice none 0 0 ∧ k = 0) ∨ (RX PairEl lPair U (b4 + 1) wx.heap.size wx v g 145 k (r.pairs.take k) ∧ b4 < g ∧ g < wx.heap.size ∧ w215.heap.size ≤ g))) (fun (x : Nat × Value × Nat) => match x with | (k, v, g) => r.pairs.length - k) (0, .slice none 0 0, 0) ⟨rfl, rfl, rfl, rfl, rfl, trivial⟩ ⟨Fr.refl _ _, Nat.zero_le _, h4, .inl ⟨rfl, rfl⟩⟩ ?_
   rintro ⟨k, v, g⟩ _ w218 ⟨hL217, hki, h4, hnv⟩
   refine fg [(2, _), (4, _), (191, _), (192, _), (193, _)] ⟨rfl, rfl, rfl, rfl, rfl, ⟨⟩⟩ fun _ => ?_
   have z219 := hL217.size
   have hsr := hsr.keep hL217 (by omega) (by show ¬ (bB = b4); omega)
   have hf := hf.step hL217 (nB (by omega))
   have h2 := h2.keep hL217 (by show ¬ (b2 = b4); omega)
   have hp := hp.keep pair_st (lU hU (by omega)) hL217 (fun k hk hS => by have hk := hU k hk; have hS : k = b4 := hS; omega)
   rcases hnv with ⟨rfl, hk0⟩ | ⟨hv3, hg1, hg2, hg3⟩
   ·
    refine sreg ?_
    refine svP (xlss rfl rfl) (fun hc194 => ?_) (fun hc194 => ?_)
    ·
     refine send (fg [(2, _), (4, _), (191, _), (192, _), (193, _), (194, _)] ⟨rfl, rfl, rfl, rfl, rfl, rfl, ⟨⟩⟩ fun _ => (wp_seq (cyes rfl (wp_skip (nThen (fg [(2, _), (4, _), (191, _), (192, _), (193, _)] ⟨rfl, rfl, rfl, rfl, rfl, ⟨⟩⟩ fun _ => (wp_seq (wp_block ?_))))))))
     obtain ⟨p, hpk⟩ := some_of_lt (by omega : k < r.pairs.length)
     refine sreg ?_
     obtain ⟨bE195, oE195, sgE195, rfl, uE195, hsE195, heE195⟩ := LA.get hp hpk
     obtain ⟨vd, rfl, hd⟩ := heE195
     have zE195 := hU _ uE195
     obtain ⟨ad, cd, rfl, -⟩ := id hd
     have hpdl := hpd p (List.mem_of_getElem? hpk)
     refine sv (xidx sl216 sz220 rfl rfl rfl (by omega)) (sv (xldS (lens := [1, 1]) ro220 rfl hsE195) ?_)
     refine svK (xallS (lens := [1, 1]) in220 (by simp [])) ?_
     rintro _ w221 ⟨b16, rfl, m222, h16, e220, s220⟩
     have hsr := hsr.keep m222 (by omega) id
     have hf := hf.step0 m222
     have h2 := h2.keep m222 id
     have hp := hp.keep pair_st (lU hU (by omega)) m222 nF
     have h4 := h4.keep m222 id
     have hL217 := hL217.step0 m222
     have hd := hd.keep (lU hU (by omega)) m222 nF
     refine suK (xstW h16 (lens' := [1, 1]) sz220 rfl rfl rfl rfl rfl) ?_
     rintro w224 ⟨m225, h16, s223⟩
     have hsr := hsr.keep m225 (by omega) (by show ¬ (bB = b16); omega)
     have hf := hf.step m225 (nB (by omega))
     have h2 := h2.keep m225 (by show ¬ (b2 = b16); omega)
     have hp := hp.keep pair_st (lU hU (by omega)) m225 (fun k hk hS => by have hk := hU k hk; have hS : k = b16 := hS; omega)
     have h4 := h4.keep m225 (by show ¬ (b4 = b16); omega)
     have hL217 := hL217.step m225 (fun k hk hS => by have hS : k = b16 := hS; show k = b4; omega)
     have hd := hd.keep (lU hU (by omega)) m225 (fun k hk hS => by have hk := hU k hk; have hS : k = b16 := hS; omega)
     refine send (fg [(2, _), (4, _), (16, _), (191, _), (192, _), (193, _)] ⟨rfl, rfl, rfl, rfl, rfl, rfl, ⟨⟩⟩ fun _ => ?_)
     refine ldrawH (Fr (fun _ => False) w224.drew) [(0, .rd), (1, .rd), (2, .rd), (3, .rd), (5, .rd), (6, .rd), (4, .ld), (7, .ld), (8, .rd), (9, .ld), (10, .ld), (11, .rd), (12, .bh)] mixed (by kernel_rfl) (fun _ _ _ _ _ h => h) ?_
     have z226 : w224.drew.heap.size = w224.heap.size := rfl
     have hsr := hsr.keep (fd w224) (by omega) id
     have hf := hf.drew
     have h2 := h2.drew
     have hp := hp.keep pair_st (lU hU (by omega)) (fd w224) nF
     have h4 := h4.drew
     have hL217 := hL217.drew
     have hd := hd.keep (lU hU (by omega)) (fd w224) nF
     have h16 := h16.drew
     have zb_h4 := h4
     have zb_h16 := h16
     have hS227 : Fr (fun _ => False) w224.drew w224.drew := Fr.refl _ _
     refine hvH rfl (fun _ _ => xfld fl112_15 rfl) hS227 (hvH rfl (fun w' hS => xld on110 rfl ((zb_h4.keep hS id).r.c 15 rfl rfl)) hS227 (hvH rfl (fun _ _ => xfld fl220_0 rfl) hS227 (hvH rfl (fun w' hS => xld on22 rfl ((zb_h16.keep hS id).r.c 0 rfl rfl)) hS227 (hvH rfl (fun _ _ => xfld fl220_1 rfl) hS227 (hvH rfl (fun w' hS => xld on37 rfl ((zb_h16.keep hS id).r.c 1 rfl rfl)) hS227 ?_)))))
     refine hlKH rfl (xslit (bvs []) sl37 in5 rfl (by decide) rfl rfl rfl rfl (by decide) rfl (bvs_one _)) ?_
     rintro _ w229 ⟨b201, rfl, m230, h201, e201, s201, r201⟩
     have hsr := hsr.keep m230 (by omega) id
     have hf := hf.step0 m230
     have h2 := h2.keep m230 id
     have hp := hp.keep pair_st (lU hU (by omega)) m230 nF
     have h4 := h4.keep m230 id
     have hL217 := hL217.step0 m230
     have hd := hd.keep (lU hU (by omega)) m230 nF
     have hS231 := hS227.step0 m230
     refine ⟨hS231, ?_⟩
     refine hlKH rfl (xapp sl37 in5 rfl (by decide) rfl rfl r201 (hd.src sl37) (by simp only [maxLen]; omega) (by omega)) ?_
     rintro _ w232 ⟨g204, r204, m233, a204, l204⟩
     have z234 := m233.size
     have hsr := hsr.keep m233 (by omega) (by show ¬ (bB = b201); omega)
     have hf := hf.step m233 (nB (by omega))
     have h2 := h2.keep m233 (by show ¬ (b2 = b201); omega)
     have hp := hp.keep pair_st (lU hU (by omega)) m233 (fun k hk hS => by have hk := hU k hk; have hS : k = b201 := hS; omega)
     have h4 := h4.keep m233 (by show ¬ (b4 = b201); omega)
     have hL217 := hL217.step m233 (fun k hk hS => by have hS : k = b201 := hS; show k = b4; omega)
     have hd := hd.keep (lU hU (by omega)) m233 (fun k hk hS => by have hk := hU k hk; have hS : k = b201 := hS; omega)
     have hS235 := hS231.step m233 (nB (by omega))
     obtain ⟨p204, q204, rfl, -⟩ := r204.form
     refine ⟨hS235, ?_⟩
     refine hvH rfl (fun _ _ => xbuildS (pairSegs p (.slice p204 (0 + p.data.length) q204)) zr145 ly145 rfl (by simp [fitAll, zs145, Value.cells]) rfl) hS235 ?_
     refine hlKH rfl (xslit ((pairSegs p (.slice p204 (0 + p.data.length) q204)).flatten) sl110 in145 rfl (by decide) rfl rfl rfl rfl (by decide) rfl rfl) ?_
     rintro _ w237 ⟨b206, rfl, m238, h206, e206, s206, r206⟩
     have hsr := hsr.keep m238 (by omega) id
     have hf := hf.step0 m238
     have h2 := h2.keep m238 id
     have hp := hp.keep pair_st (lU hU (by omega)) m238 nF
     have h4 := h4.keep m238 id
     have hL217 := hL217.step0 m238
     have hd := hd.keep (lU hU (by omega)) m238 nF
     have r204 := r204.keep m238 id
     have hS239 := hS235.step0 m238
     refine ⟨hS239, ?_⟩
     have hv3 : RX PairEl lPair U (b4 + 1) w237.heap.size w237 (.slice none 0 0) w237.heap.size 145 k (r.pairs.take k) := by rw [hk0]; exact RX.ofNil (Rw.nil _ _ _ _)
     obtain ⟨ss207, hR207, hA207⟩ := hv3
     refine hlKH rfl (xapp sl110 in145 rfl (by decide) rfl rfl hR207 (r206.src sl110) (by simp only [maxLen]; omega) (by omega)) ?_
     rintro v207 w240 ⟨g207, r207, m241, a207, l207⟩
     have z242 := m241.size
     have hsr := hsr.keep m241 (by omega) (by show ¬ (bB = w237.heap.size); omega)
     have hf := hf.step m241 (fun k hk hS => by have hS : k = w237.heap.size := hS; show False; omega)
     have h2 := h2.keep m241 (by show ¬ (b2 = w237.heap.size); omega)
     have hp := hp.keep pair_st (lU hU (by omega)) m241 (fun k hk hS => by have hk := hU k hk; have hS : k = w237.heap.size := hS; omega)
     have h4 := h4.keep m241 (by show ¬ (b4 = w237.heap.size); omega)
     have hL217 := hL217.step m241 (fun k hk hS => by have hS : k = w237.heap.size := hS; show k = b4; omega)
     have hd := hd.keep (lU hU (by omega)) m241 (fun k hk hS => by have hk := hU k hk; have hS : k = w237.heap.size := hS; omega)
     have r204 := r204.keep m241 (by show ¬ (g204 = w237.heap.size); omega)
     have hS243 := hS239.step m241 (fun k hk hS => by have hS : k = w237.heap.size := hS; show False; omega)
     have hv3 := RX.snoc (x := p) w240.heap.size hA207 pair_st pair_gr (lU hU (by omega)) (by omega) (by omega) m241 a207 r207 rfl (⟨_, rfl, BR.ba (show BR _ _ _ _ p.data from r204) ⟨.inr ⟨by omega, by omega⟩, by omega⟩⟩)
     refine ⟨hS243, ?_⟩
     refine hvH rfl (fun _ _ => xfld fl112_15 rfl) hS243 ?_
     refine bluKH rfl (xstF 15 sz110 h4 rfl rfl rfl rfl (by obtain ⟨_, _, rfl⟩ := RA.form hv3; rfl)) ?_
     rintro w245 ⟨m246, h4, s244⟩
     have hsr := hsr.keep m246 (by omega) (by show ¬ (bB = b4); omega)
     have hf := hf.step m246 (nB (by omega))
     have h2 := h2.keep m246 (by show ¬ (b2 = b4); omega)
     have hp := hp.keep pair_st (lU hU (by omega)) m246 (fun k hk hS => by have hk := hU k hk; have hS : k = b4 := hS; omega)
     have hL217 := hL217.step m246 (fun k hk hS => by have hS : k = b4 := hS; show k = b4; omega)
     have hd := hd.keep (lU hU (by omega)) m246 (fun k hk hS => by have hk := hU k hk; have hS : k = b4 := hS; omega)
     have hv3 := RX.keep hv3 pair_st (lU hU (by omega)) (by omega) m246 (fun k hk hk3 hS => by have hS : k = b4 := hS; rcases hk with hk | hk <;> first | omega | (have := hU k hk; omega)) (by show ¬ (g207 = b4); omega)
     refine lhendH (nBlock (nThen (fg [(2, _), (4, _), (191, _), (192, _), (193, _)] ⟨rfl, rfl, rfl, rfl, rfl, ⟨⟩⟩ fun _ => (lreg (sv (xadd rfl rfl (w64 (by omega) (by omega))) (sM rfl (lend (nThen ?_))))))))
     refine ⟨(k + 1, _, g207), _, env_okl ⟨rfl, rfl, rfl, rfl, rfl, trivial⟩, ⟨hL217, (by omega), (h4), (.inr ⟨by rw [take_snoc hpk]; exact RX.up pair_gr hv3 (by omega), by omega, by have hq := l207 (by omega); omega, by omega⟩)⟩, ?_⟩
     show r.pairs.length - (k + 1) < r.pairs.length - k; omega
    ·
     refine send (fg [(2, _), (4, _), (191, _), (192, _), (193, _), (194, _)] ⟨rfl, rfl, rfl, rfl, rfl, rfl, ⟨⟩⟩ fun _ => (wp_seq (cno rfl (wp_exit (eThen (eThen (eHit (nBlock (nThen (fg [(2, _), (4, _)] ⟨rfl, rfl, ⟨⟩⟩ fun _ => (sreg (sv (xldS (lens := lRec) ro112 rfl h4.r) ?_))))))))))))
     refine suK (xstW h2 (lens' := lRec) sz112 rfl rfl rfl rfl rfl) ?_
     rintro w248 ⟨m249, h2, s247⟩
     have hsr := hsr.keep m249 (by omega) (by show ¬ (bB = b2); omega)
     have hf := hf.step m249 (nB (by omega))
     have hp := hp.keep pair_st (lU hU (by omega)) m249 (fun k hk hS => by have hk := hU k hk; have hS : k = b2 := hS; omega)
     have h4 := h4.keep m249 (by show ¬ (b4 = b2); omega)
     refine send (fg [(2, _)] ⟨rfl, ⟨⟩⟩ fun _ => (wp_ret ?_))
     refine rp1 rfl ⟨_, rfl, ldS (lens := lRec) ro112 h2.r⟩ ?_
     have hkl : r.pairs.length ≤ k := by omega
     have hke : r.pairs.take k = r.pairs := List.take_of_length_le hkl
     have hr0 : r.pairs = [] := List.eq_nil_of_length_eq_zero (by omega)
     rw [norm_opt hk]
     exact ⟨_, _, _, ag_rec (r' := { rec0 r l with pairs := r.pairs }) (k := 10) hk rfl, ba0, LA.nil, (by show LA PairEl lPair _ _ _ r.pairs; rw [hr0]; exact LA.nil), hf⟩
   ·
    obtain ⟨a3, c3, rfl⟩ := RA.form hv3
    refine sreg ?_
    refine svP (xlss rfl rfl) (fun hc194 => ?_) (fun hc194 => ?_)
    ·
     refine send (fg [(2, _), (4, _), (191, _), (192, _), (193, _), (194, _)] ⟨rfl, rfl, rfl, rfl, rfl, rfl, ⟨⟩⟩ fun _ => (wp_seq (cyes rfl (wp_skip (nThen (fg [(2, _), (4, _), (191, _), (192, _), (193, _)] ⟨rfl, rfl, rfl, rfl, rfl, ⟨⟩⟩ fun _ => (wp_seq (wp_block ?_))))))))
     obtain ⟨p, hpk⟩ := some_of_lt (by omega : k < r.pairs.length)
     refine sreg ?_
     obtain ⟨bE195, oE195, sgE195, rfl, uE195, hsE195, heE195⟩ := LA.get hp hpk
     obtain ⟨vd, rfl, hd⟩ := heE195
     have zE195 := hU _ uE195
     obtain ⟨ad, cd, rfl, -⟩ := id hd
     have hpdl := hpd p (List.mem_of_getElem? hpk)
     refine sv (xidx sl216 sz220 rfl rfl rfl (by omega)) (sv (xldS (lens := [1, 1]) ro220 rfl hsE195) ?_)
     refine svK (xallS (lens := [1, 1]) in220 (by simp [])) ?_
     rintro _ w251 ⟨b16, rfl, m252, h16, e250, s250⟩
     have hsr := hsr.keep m252 (by omega) id
     have hf := hf.step0 m252
     have h2 := h2.keep m252 id
     have hp := hp.keep pair_st (lU hU (by omega)) m252 nF
     have h4 := h4.keep m252 id
     have hL217 := hL217.step0 m252
     have hv3 := RX.keep hv3 pair_st (lU hU (by omega)) (by omega) m252 (fun _ _ _ h => h) id
     have hd := hd.keep (lU hU (by omega)) m252 nF
     refine suK (xstW h16 (lens' := [1, 1]) sz220 rfl rfl rfl rfl rfl) ?_
     rintro w254 ⟨m255, h16, s253⟩
     have hsr := hsr.keep m255 (by omega) (by show ¬ (bB = b16); omega)
     have hf := hf.step m255 (nB (by omega))
     have h2 := h2.keep m255 (by show ¬ (b2 = b16); omega)
     have hp := hp.keep pair_st (lU hU (by omega)) m255 (fun k hk hS => by have hk := hU k hk; have hS : k = b16 := hS; omega)
     have h4 := h4.keep m255 (by show ¬ (b4 = b16); omega)
     have hL217 := hL217.step m255 (fun k hk hS => by have hS : k = b16 := hS; show k = b4; omega)
     have hv3 := RX.keep hv3 pair_st (lU hU (by omega)) (by omega) m255 (fun k hk hk3 hS => by have hS : k = b16 := hS; rcases hk with hk | hk <;> first | omega | (have := hU k hk; omega)) (by show ¬ (g = b16); omega)
     have hd := hd.keep (lU hU (by omega)) m255 (fun k hk hS => by have hk := hU k hk; have hS : k = b16 := hS; omega)
     refine send (fg [(2, _), (4, _), (16, _), (191, _), (192, _), (193, _)] ⟨rfl, rfl, rfl, rfl, rfl, rfl, ⟨⟩⟩ fun _ => ?_)
     refine ldrawH (Fr (fun k => k = g) w254.drew) [(0, .rd), (1, .rd), (2, .rd), (3, .rd), (5, .rd), (6, .rd), (4, .ld), (7, .ld), (8, .rd), (9, .ld), (10, .ld), (11, .rd), (12, .bh)] mixed (by kernel_rfl) (fun _ _ _ _ _ h => h) ?_
     have z256 : w254.drew.heap.size = w254.heap.size := rfl
     have hsr := hsr.keep (fd w254) (by omega) id
     have hf := hf.drew
     have h2 := h2.drew
     have hp := hp.keep pair_st (lU hU (by omega)) (fd w254) nF
     have h4 := h4.drew
     have hL217 := hL217.drew
     have hv3 := RX.keep hv3 pair_st (lU hU (by omega)) (by omega) (fd w254) (fun _ _ _ h => h) id
     have hd := hd.keep (lU hU (by omega)) (fd w254) nF
     have h16 := h16.drew
     have zb_h4 := h4
     have zb_h16 := h16
     have hS257 : Fr (fun k => k = g) w254.drew w254.drew := Fr.refl _ _
     refine hvH rfl (fun _ _ => xfld fl112_15 rfl) hS257 (hvH rfl (fun w' hS => xld on110 rfl ((zb_h4.keep hS (by show ¬ (b4 = g); omega)).r.c 15 rfl rfl)) hS257 (hvH rfl (fun _ _ => xfld fl220_0 rfl) hS257 (hvH rfl (fun w' hS => xld on22 rfl ((zb_h16.keep hS (by show ¬ (b16 = g); omega)).r.c 0 rfl rfl)) hS257 (hvH rfl (fun _ _ => xfld fl220_1 rfl) hS257 (hvH rfl (fun w' hS => xld on37 rfl ((zb_h16.keep hS (by show ¬ (b16 = g); omega)).r.c 1 rfl rfl)) hS257 ?_)))))
     refine hlKH rfl (xslit (bvs []) sl37 in5 rfl (by decide) rfl rfl rfl rfl (by decide) rfl (bvs_one _)) ?_
     rintro _ w259 ⟨b201, rfl, m260, h201, e201, s201, r201⟩
     have hsr := hsr.keep m260 (by omega) id
     have hf := hf.step0 m260
     have h2 := h2.keep m260 id
     have hp := hp.keep pair_st (lU hU (by omega)) m260 nF
     have h4 := h4.keep m260 id
     have hL217 := hL217.step0 m260
     have hv3 := RX.keep hv3 pair_st (lU hU (by omega)) (by omega) m260 (fun _ _ _ h => h) id
     have hd := hd.keep (lU hU (by omega)) m260 nF
     have hS261 := hS257.step0 m260
     refine ⟨hS261, ?_⟩
     refine hlKH rfl (xapp sl37 in5 rfl (by decide) rfl rfl r201 (hd.src sl37) (by simp only [maxLen]; omega) (by omega)) ?_
     rintro _ w262 ⟨g204, r204, m263, a204, l204⟩
     have z264 := m263.size
     have hsr := hsr.keep m263 (by omega) (by show ¬ (bB = b201); omega)
     have hf := hf.step m263 (nB (by omega))
     have h2 := h2.keep m263 (by show ¬ (b2 = b201); omega)
     have hp := hp.keep pair_st (lU hU (by omega)) m263 (fun k hk hS => by have hk := hU k hk; have hS : k = b201 := hS; omega)
     have h4 := h4.keep m263 (by show ¬ (b4 = b201); omega)
     have hL217 := hL217.step m263 (fun k hk hS => by have hS : k = b201 := hS; show k = b4; omega)
     have hv3 := RX.keep hv3 pair_st (lU hU (by omega)) (by omega) m263 (fun k hk hk3 hS => by have hS : k = b201 := hS; rcases hk with hk | hk <;> first | omega | (have := hU k hk; omega)) (by show ¬ (g = b201); omega)
     have hd := hd.keep (lU hU (by omega)) m263 (fun k hk hS => by have hk := hU k hk; have hS : k = b201 := hS; omega)
     have hS265 := hS261.step m263 (fun k hk hS => by have hS : k = b201 := hS; show k = g; omega)
     obtain ⟨p204, q204, rfl, -⟩ := r204.form
     refine ⟨hS265, ?_⟩
     refine hvH rfl (fun _ _ => xbuildS (pairSegs p (.slice p204 (0 + p.data.length) q204)) zr145 ly145 rfl (by simp [fitAll, zs145, Value.cells]) rfl) hS265 ?_
     refine hlKH rfl (xslit ((pairSegs p (.slice p204 (0 + p.data.length) q204)).flatten) sl110 in145 rfl (by decide) rfl rfl rfl rfl (by decide) rfl rfl) ?_
     rintro _ w267 ⟨b206, rfl, m268, h206, e206, s206, r206⟩
     have hsr := hsr.keep m268 (by omega) id
     have hf := hf.step0 m268
     have h2 := h2.keep m268 id
     have hp := hp.keep pair_st (lU hU (by omega)) m268 nF
     have h4 := h4.keep m268 id
     have hL217 := hL217.step0 m268
     have hv3 := RX.keep hv3 pair_st (lU hU (by omega)) (by omega) m268 (fun _ _ _ h => h) id
     have hd := hd.keep (lU hU (by omega)) m268 nF
     have r204 := r204.keep m268 id
     have hS269 := hS265.step0 m268
     refine ⟨hS269, ?_⟩
     obtain ⟨ss207, hR207, hA207⟩ := hv3
     refine hlKH rfl (xapp sl110 in145 rfl (by decide) rfl rfl hR207 (r206.src sl110) (by simp only [maxLen]; omega) (by omega)) ?_
     rintro v207 w270 ⟨g207, r207, m271, a207, l207⟩
     have z272 := m271.size
     have hsr := hsr.keep m271 (by omega) (by show ¬ (bB = g); omega)
     have hf := hf.step m271 (nB (by omega))
     have h2 := h2.keep m271 (by show ¬ (b2 = g); omega)
     have hp := hp.keep pair_st (lU hU (by omega)) m271 (fun k hk hS => by have hk := hU k hk; have hS : k = g := hS; omega)
     have h4 := h4.keep m271 (by show ¬ (b4 = g); omega)
     have hL217 := hL217.step m271 (fun k hk hS => by have hS : k = g := hS; show k = b4; omega)
     have hd := hd.keep (lU hU (by omega)) m271 (fun k hk hS => by have hk := hU k hk; have hS : k = g := hS; omega)
     have r204 := r204.keep m271 (by show ¬ (g204 = g); omega)
     have hS273 := hS269.step m271 (fun k hk hS => by have hS : k = g := hS; show k = g; omega)
     have hv3 := RX.snoc (x := p) w270.heap.size hA207 pair_st pair_gr (lU hU (by omega)) (by omega) (by omega) m271 a207 r207 rfl (⟨_, rfl, BR.ba (show BR _ _ _ _ p.data from r204) ⟨.inr ⟨by omega, by omega⟩, by omega⟩⟩)
     refine ⟨hS273, ?_⟩
     refine hvH rfl (fun _ _ => xfld fl112_15 rfl) hS273 ?_
     refine bluKH rfl (xstF 15 sz110 h4 rfl rfl rfl rfl (by obtain ⟨_, _, rfl⟩ := RA.form hv3; rfl)) ?_
     rintro w275 ⟨m276, h4, s274⟩
     have hsr := hsr.keep m276 (by omega) (by show ¬ (bB = b4); omega)
     have hf := hf.step m276 (nB (by omega))
     have h2 := h2.keep m276 (by show ¬ (b2 = b4); omega)
     have hp := hp.keep pair_st (lU hU (by omega)) m276 (fun k hk hS => by have hk := hU k hk; have hS : k = b4 := hS; omega)
     have hL217 := hL217.step m276 (fun k hk hS => by have hS : k = b4 := hS; show k = b4; omega)
     have hd := hd.keep (lU hU (by omega)) m276 (fun k hk hS => by have hk := hU k hk; have hS : k = b4 := hS; omega)
     have hv3 := RX.keep hv3 pair_st (lU hU (by omega)) (by omega) m276 (fun k hk hk3 hS => by have hS : k = b4 := hS; rcases hk with hk | hk <;> first | omega | (have := hU k hk; omega)) (by show ¬ (g207 = b4); omega)
     refine lhendH (nBlock (nThen (fg [(2, _), (4, _), (191, _), (192, _), (193, _)] ⟨rfl, rfl, rfl, rfl, rfl, ⟨⟩⟩ fun _ => (lreg (sv (xadd rfl rfl (w64 (by omega) (by omega))) (sM rfl (lend (nThen ?_))))))))
     refine ⟨(k + 1, _, g207), _, env_okl ⟨rfl, rfl, rfl, rfl, rfl, trivial⟩, ⟨hL217, (by omega), (h4), (.inr ⟨by rw [take_snoc hpk]; exact RX.up pair_gr hv3 (by omega), by omega, by have hq := l207 (by omega); omega, by omega⟩)⟩, ?_⟩
     show r.pairs.length - (k + 1) < r.pairs.length - k; omega
    ·
     refine send (fg [(2, _), (4, _), (191, _), (192, _), (193, _), (194, _)] ⟨rfl, rfl, rfl, rfl, rfl, rfl, ⟨⟩⟩ fun _ => (wp_seq (cno rfl (wp_exit (eThen (eThen (eHit (nBlock (nThen (fg [(2, _), (4, _)] ⟨rfl, rfl, ⟨⟩⟩ fun _ => (sreg (sv (xldS (lens := lRec) ro112 rfl h4.r) ?_))))))))))))
     refine suK (xstW h2 (lens' := lRec) sz112 rfl rfl rfl rfl rfl) ?_
     rintro w278 ⟨m279, h2, s277⟩
     have hsr := hsr.keep m279 (by omega) (by show ¬ (bB = b2); omega)
     have hf := hf.step m279 (nB (by omega))
     have hp := hp.keep pair_st (lU hU (by omega)) m279 (fun k hk hS => by have hk := hU k hk; have hS : k = b2 := hS; omega)
     have h4 := h4.keep m279 (by show ¬ (b4 = b2); omega)
     have hv3 := RX.keep hv3 pair_st (lU hU (by omega)) (by omega) m279 (fun k hk hk3 hS => by have hS : k = b2 := hS; rcases hk with hk | hk <;> first | omega | (have := hU k hk; omega)) (by show ¬ (g = b2); omega)
     refine send (fg [(2, _)] ⟨rfl, ⟨⟩⟩ fun _ => (wp_ret ?_))
     refine rp1 rfl ⟨_, rfl, ldS (lens := lRec) ro112 h2.r⟩ ?_
     have hkl : r.pairs.length ≤ k := by omega
     have hke : r.pairs.take k = r.pairs := List.take_of_length_le hkl
     rw [hke] at hv3
     obtain rfl : k = r.pairs.length := by omega
     rw [norm_opt hk]
     exact ⟨_, _, _, ag_rec (r' := { rec0 r l with pairs := r.pairs }) (k := 10) hk rfl, ba0, LA.nil, (RX.la hv3 (by decide) pair_gr (fun k hk => hk.elim .inl (fun h => .inr ⟨by omega, by omega⟩)) (.inr ⟨by omega, by omega⟩)), hf⟩
  ·
   obtain ⟨aq, cq, rfl⟩ := hp.form
   refine send (fg [(2, _), (4, _), (35, _)] ⟨rfl, rfl, rfl, ⟨⟩⟩ fun _ => (wp_block (sreg (sv (xtaN ni186 in186 rfl rfl) (sv (xex21 rfl) (sv (xex20 rfl) (send (fg [(2, _), (4, _), (35, _), (37, _), (38, _)] ⟨rfl, rfl, rfl, rfl, rfl, ⟨⟩⟩ fun _ => (cno rfl (sreg (sv (xtaN ni190 in190 rfl rfl) (sv (xex21 rfl) (sv (xex20 rfl) (send (fg [(2, _), (4, _), (35, _), (48, _), (49, _)] ⟨rfl, rfl, rfl, rfl, rfl, ⟨⟩⟩ fun _ => (cno rfl (sreg (sv (xtaN ni193 in193 rfl rfl) (sv (xex21 rfl) (sv (xex20 rfl) (send (fg [(2, _), (4, _), (35, _), (58, _), (59, _)] ⟨rfl, rfl, rfl, rfl, rfl, ⟨⟩⟩ fun _ => (cno rfl (sreg ?_))))))))))))))))))))))))
   refine sv (xtaN ni196 in196 rfl rfl) (sv (xex21 rfl) (sv (xex20 rfl) (send (fg [(2, _), (4, _), (35, _), (68, _), (69, _)] ⟨rfl, rfl, rfl, rfl, rfl, ⟨⟩⟩ fun _ => (cno rfl (sreg (sv (xtaN ni199 in199 rfl rfl) (sv (xex21 rfl) (sv (xex20 rfl) (send (fg [(2, _), (4, _), (35, _), (109, _), (110, _)] ⟨rfl, rfl, rfl, rfl, rfl, ⟨⟩⟩ fun _ => (cno rfl (sreg (sv (xtaN ni202 in202 rfl rfl) (sv (xex21 rfl) (sv (xex20 rfl) (send (fg [(2, _), (4, _), (35, _), (119, _), (120, _)] ⟨rfl, rfl, rfl, rfl, rfl, ⟨⟩⟩ fun _ => (cno rfl (sreg (sv (xtaN ni205 in205 rfl rfl) (sv (xex21 rfl) (sv (xex20 rfl) (send ?_))))))))))))))))))))))))
   refine fg [(2, _), (4, _), (35, _), (135, _), (136, _)] ⟨rfl, rfl, rfl, rfl, rfl, ⟨⟩⟩ fun _ => (cno rfl (sreg (sv (xtaN ni208 in208 rfl rfl) (sv (xex21 rfl) (sv (xex20 rfl) (send (fg [(2, _), (4, _), (35, _), (146, _), (147, _)] ⟨rfl, rfl, rfl, rfl, rfl, ⟨⟩⟩ fun _ => (cno rfl (sreg (sv (xtaN ni212 in212 rfl rfl) (sv (xex21 rfl) (sv (xex20 rfl) (send (fg [(2, _), (4, _), (35, _), (157, _), (158, _)] ⟨rfl, rfl, rfl, rfl, rfl, ⟨⟩⟩ fun _ => (cno rfl (sreg (sv (xtaN ni215 in215 rfl rfl) (sv (xex21 rfl) (sv (xex20 rfl) (send (fg [(2, _), (4, _), (35, _), (185, _), (186, _)] ⟨rfl, rfl, rfl, rfl, rfl, ⟨⟩⟩ fun _ => (cno rfl (sreg (sv (xtaY ni221 rfl) ?_))))))))))))))))))))))))
   refine sv (xex21 rfl) (sv (xex20 rfl) (send (fg [(2, _), (4, _), (35, _), (211, _), (212, _)] ⟨rfl, rfl, rfl, rfl, rfl, ⟨⟩⟩ fun _ => (cyes rfl (sreg (sA rfl (send (fg [(2, _), (4, _), (17, _)] ⟨rfl, rfl, rfl, ⟨⟩⟩ fun _ => ?_))))))))
   refine ldrawH (Fr (fun k => k = b4) w37.drew) [(0, .rd), (1, .rd), (2, .rd), (3, .rd), (4, .rd), (5, .rd), (6, .rd), (7, .rd), (8, .rd), (10, .rd), (11, .rd), (12, .rd), (13, .rd), (15, .rd), (9, .ld), (14, .ld), (16, .ld), (17, .rd), (18, .ld), (19, .rd), (20, .ld), (21, .rd), (22, .bh)] mixed (by kernel_rfl) (fun _ _ _ _ _ h => h) ?_
   have z280 : w37.drew.heap.size = w37.heap.size := rfl
   have hsr := hsr.keep (fd w37) (by omega) id
   have hf := hf.drew
   have h2 := h2.drew
   have h4 := h4.drew
   have hp := hp.keep pair_st (lU hU (by omega)) (fd w37) nF
   have zb_hsr := hsr
   have hS281 : Fr (fun k => k = b4) w37.drew w37.drew := Fr.refl _ _
   refine qqM rfl rfl hS281 (qqN rfl rfl hS281 (hvH rfl (fun _ _ => xfld fl224_0 rfl) hS281 (hvH rfl (fun w' hS => xld on22 rfl ((zb_hsr.keep hS (by omega) (by show ¬ (bB = b4); omega)).c 0 rfl rfl)) hS281 (hvH rfl (fun _ _ => xconv hs22 ki61 rfl (wu32n (m16 r.n1).toNat (by rw [m16_nat]; omega))) hS281 (qqM rfl rfl hS281 (qqN rfl rfl hS281 (hvH rfl (fun _ _ => xfld fl224_1 rfl) hS281 (hvH rfl (fun w' hS => xldS (lens := [256]) ro82 rfl ((zb_hsr.keep hS (by omega) (by show ¬ (bB = b4); omega)).sub 1 1 rfl)) hS281 (qqM rfl rfl hS281 (qqN rfl rfl hS281 (hvH rfl (fun _ _ => xfld fl224_2 rfl) hS281 (hvH rfl (fun w' hS => xld on222 rfl ((zb_hsr.keep hS (by omega) (by show ¬ (bB = b4); omega)).c 2 rfl rfl)) hS281 (hvH rfl (fun _ _ => xfld fl112_5 rfl) hS281 ?_)))))))))))))
   refine hcH rfl (xcall ca100 rfl) (c100 (S := bt r.host) (by have := (name_pos (hno.2.1 (by omega))).2; omega)) ?_
   rintro _ w282 ⟨rfl, m283⟩
   have z284 := m283.size
   have hsr := hsr.keep m283 (by omega) id
   have hf := hf.step0 m283
   have h2 := h2.keep m283 id
   have h4 := h4.keep m283 id
   have hp := hp.keep pair_st (lU hU (by omega)) m283 nF
   have hS285 := hS281.step0 m283
   refine ⟨hS285, ?_⟩
   refine hcH rfl (xcall ca109 rfl) (c109 (U := U) (lU hU (by omega)) hp hpn (fun q hq => by have := hpd q hq; omega)) ?_
   rintro v227 w286 ⟨L227, m287⟩
   have z288 := m287.size
   have hsr := hsr.keep m287 (by omega) id
   have hf := hf.step0 m287
   have h2 := h2.keep m287 id
   have h4 := h4.keep m287 id
   have hp := hp.keep pair_st (lU hU (by omega)) m287 nF
   have hS289 := hS285.step0 m287
   obtain ⟨av227, cv227, rfl⟩ := L227.form
   refine ⟨hS289, ?_⟩
   refine hluKH rfl (xstF 5 sz3 h4 rfl rfl rfl rfl rfl) ?_
   rintro w291 ⟨m292, h4, s290⟩
   have hsr := hsr.keep m292 (by omega) (by show ¬ (bB = b4); omega)
   have hf := hf.step m292 (nB (by omega))
   have h2 := h2.keep m292 (by show ¬ (b2 = b4); omega)
   have hp := hp.keep pair_st (lU hU (by omega)) m292 (fun k hk hS => by have hk := hU k hk; have hS : k = b4 := hS; omega)
   have L227 := L227.keep pair_st (lUb hU (by omega) (by omega)) m292 (fun k hk hS => by have hk := Ub.num hU hk; have hS : k = b4 := hS; omega)
   have hS293 := hS289.step m292 (fun k hk hS => by have hS : k = b4 := hS; show k = b4; omega)
   refine ⟨hS293, ?_⟩
   refine hvH rfl (fun _ _ => xfld fl112_9 rfl) hS293 ?_
   refine hluKH rfl (xstF 9 sz61 h4 rfl rfl rfl rfl rfl) ?_
   rintro w295 ⟨m296, h4, s294⟩
   have hsr := hsr.keep m296 (by omega) (by show ¬ (bB = b4); omega)
   have hf := hf.step m296 (nB (by omega))
   have h2 := h2.keep m296 (by show ¬ (b2 = b4); omega)
   have hp := hp.keep pair_st (lU hU (by omega)) m296 (fun k hk hS => by have hk := hU k hk; have hS : k = b4 := hS; omega)
   have L227 := L227.keep pair_st (lUb hU (by omega) (by omega)) m296 (fun k hk hS => by have hk := Ub.num hU hk; have hS : k = b4 := hS; omega)
   have hS297 := hS293.step m296 (fun k hk hS => by have hS : k = b4 := hS; show k = b4; omega)
   refine ⟨hS297, ?_⟩
   refine hvH rfl (fun _ _ => xfld fl112_7 rfl) hS297 ?_
   refine hluKH rfl (xstF 7 sz9 h4 rfl rfl rfl rfl rfl) ?_
   rintro w299 ⟨m300, h4, s298⟩
   have hsr := hsr.keep m300 (by omega) (by show ¬ (bB = b4); omega)
   have hf := hf.step m300 (nB (by omega))
   have h2 := h2.keep m300 (by show ¬ (b2 = b4); omega)
   have hp := hp.keep pair_st (lU hU (by omega)) m300 (fun k hk hS => by have hk := hU k hk; have hS : k = b4 := hS; omega)
   have L227 := L227.keep pair_st (lUb hU (by omega) (by omega)) m300 (fun k hk hS => by have hk := Ub.num hU hk; have hS : k = b4 := hS; omega)
   have hS301 := hS297.step m300 (fun k hk hS => by have hS : k = b4 := hS; show k = b4; omega)
   refine ⟨hS301, ?_⟩
   refine hvH rfl (fun _ _ => xfld fl112_15 rfl) hS301 ?_
   refine bluKH rfl (xstF 15 sz110 h4 rfl rfl rfl rfl rfl) ?_
   rintro w303 ⟨m304, h4, s302⟩
   have hsr := hsr.keep m304 (by omega) (by show ¬ (bB = b4); omega)
   have hf := hf.step m304 (nB (by omega))
   have h2 := h2.keep m304 (by show ¬ (b2 = b4); omega)
   have hp := hp.keep pair_st (lU hU (by omega)) m304 (fun k hk hS => by have hk := hU k hk; have hS : k = b4 := hS; omega)
   have L227 := L227.keep pair_st (lUb hU (by omega) (by omega)) m304 (fun k hk hS => by have hk := Ub.num hU hk; have hS : k = b4 := hS; omega)
   refine lhendH (nBlock (nThen (fg [(2, _), (4, _)] ⟨rfl, rfl, ⟨⟩⟩ fun _ => (sreg (sv (xldS (lens := lRec) ro112 rfl h4.r) ?_)))))
   refine suK (xstW h2 (lens' := lRec) sz112 rfl rfl rfl rfl rfl) ?_
   rintro w306 ⟨m307, h2, s305⟩
   have hsr := hsr.keep m307 (by omega) (by show ¬ (bB = b2); omega)
   have hf := hf.step m307 (nB (by omega))
   have h4 := h4.keep m307 (by show ¬ (b4 = b2); omega)
   have hp := hp.keep pair_st (lU hU (by omega)) m307 (fun k hk hS => by have hk := hU k hk; have hS : k = b2 := hS; omega)
   have L227 := L227.keep pair_st (lUb hU (by omega) (by omega)) m307 (fun k hk hS => by have hk := Ub.num hU hk; have hS : k = b2 := hS; omega)
   refine send (fg [(2, _)] ⟨rfl, ⟨⟩⟩ fun _ => (wp_ret ?_))
   refine rp1 rfl ⟨_, rfl, ldS (lens := lRec) ro112 h2.r⟩ ?_
   rw [norm_svc (by omega)]
   exact ⟨_, _, _, ag_rec (r' := { rec0 r l with n1 := m16 r.n1, host := r.host, pairs := r.pairs }) (k := 11) hk rfl, ba0, LA.nil, (L227.mono pair_gr (fun k hk => hk.elim .inl (fun h => .inr ⟨by omega, by omega⟩))), hf⟩
  ·
   obtain ⟨aq, cq, rfl⟩ := hp.form
   refine send (fg [(2, _), (4, _), (35, _)] ⟨rfl, rfl, rfl, ⟨⟩⟩ fun _ => (wp_block (sreg (sv (xtaN ni186 in186 rfl rfl) (sv (xex21 rfl) (sv (xex20 rfl) (send (fg [(2, _), (4, _), (35, _), (37, _), (38, _)] ⟨rfl, rfl, rfl, rfl, rfl, ⟨⟩⟩ fun _ => (cno rfl (sreg (sv (xtaN ni190 in190 rfl rfl) (sv (xex21 rfl) (sv (xex20 rfl) (send (fg [(2, _), (4, _), (35, _), (48, _), (49, _)] ⟨rfl, rfl, rfl, rfl, rfl, ⟨⟩⟩ fun _ => (cno rfl (sreg (sv (xtaN ni193 in193 rfl rfl) (sv (xex21 rfl) (sv (xex20 rfl) (send (fg [(2, _), (4, _), (35, _), (58, _), (59, _)] ⟨rfl, rfl, rfl, rfl, rfl, ⟨⟩⟩ fun _ => (cno rfl (sreg ?_))))))))))))))))))))))))
   refine sv (xtaN ni196 in196 rfl rfl) (sv (xex21 rfl) (sv (xex20 rfl) (send (fg [(2, _), (4, _), (35, _), (68, _), (69, _)] ⟨rfl, rfl, rfl, rfl, rfl, ⟨⟩⟩ fun _ => (cno rfl (sreg (sv (xtaN ni199 in199 rfl rfl) (sv (xex21 rfl) (sv (xex20 rfl) (send (fg [(2, _), (4, _), (35, _), (109, _), (110, _)] ⟨rfl, rfl, rfl, rfl, rfl, ⟨⟩⟩ fun _ => (cno rfl (sreg (sv (xtaN ni202 in202 rfl rfl) (sv (xex21 rfl) (sv (xex20 rfl) (send (fg [(2, _), (4, _), (35, _), (119, _), (120, _)] ⟨rfl, rfl, rfl, rfl, rfl, ⟨⟩⟩ fun _ => (cno rfl (sreg (sv (xtaN ni205 in205 rfl rfl) (sv (xex21 rfl) (sv (xex20 rfl) (send ?_))))))))))))))))))))))))
   refine fg [(2, _), (4, _), (35, _), (135, _), (136, _)] ⟨rfl, rfl, rfl, rfl, rfl, ⟨⟩⟩ fun _ => (cno rfl (sreg (sv (xtaN ni208 in208 rfl rfl) (sv (xex21 rfl) (sv (xex20 rfl) (send (fg [(2, _), (4, _), (35, _), (146, _), (147, _)] ⟨rfl, rfl, rfl, rfl, rfl, ⟨⟩⟩ fun _ => (cno rfl (sreg (sv (xtaN ni212 in212 rfl rfl) (sv (xex21 rfl) (sv (xex20 rfl) (send (fg [(2, _), (4, _), (35, _), (157, _), (158, _)] ⟨rfl, rfl, rfl, rfl, rfl, ⟨⟩⟩ fun _ => (cno rfl (sreg (sv (xtaN ni215 in215 rfl rfl) (sv (xex21 rfl) (sv (xex20 rfl) (send (fg [(2, _), (4, _), (35, _), (185, _), (186, _)] ⟨rfl, rfl, rfl, rfl, rfl, ⟨⟩⟩ fun _ => (cno rfl (sreg (sv (xtaN ni221 in221 rfl rfl) ?_))))))))))))))))))))))))
   refine sv (xex21 rfl) (sv (xex20 rfl) (send (fg [(2, _), (4, _), (35, _), (211, _), (212, _)] ⟨rfl, rfl, rfl, rfl, rfl, ⟨⟩⟩ fun _ => (cno rfl (sreg (sv (xtaY ni226 rfl) (sv (xex21 rfl) (sv (xex20 rfl) (send (fg [(2, _), (4, _), (35, _), (233, _), (234, _)] ⟨rfl, rfl, rfl, rfl, rfl, ⟨⟩⟩ fun _ => (cyes rfl (sreg (sA rfl (send (fg [(2, _), (4, _), (18, _)] ⟨rfl, rfl, rfl, ⟨⟩⟩ fun _ => ?_)))))))))))))))
   refine ldrawH (Fr (fun k => k = b4) w37.drew) [(0, .rd), (1, .rd), (2, .rd), (3, .rd), (4, .rd), (5, .rd), (6, .rd), (7, .rd), (8, .rd), (9, .rd), (10, .rd), (12, .rd), (13, .rd), (14, .rd), (15, .rd), (16, .rd), (18, .rd), (11, .ld), (17, .ld), (19, .ld), (20, .rd), (21, .ld), (22, .rd), (23, .ld), (24, .rd), (25, .bh)] mixed (by kernel_rfl) (fun _ _ _ _ _ h => h) ?_
   have z308 : w37.drew.heap.size = w37.heap.size := rfl
   have hsr := hsr.keep (fd w37) (by omega) id
   have hf := hf.drew
   have h2 := h2.drew
   have h4 := h4.drew
   have hp := hp.keep pair_st (lU hU (by omega)) (fd w37) nF
   have zb_hsr := hsr
   have hS309 : Fr (fun k => k = b4) w37.drew w37.drew := Fr.refl _ _
   refine qqM rfl rfl hS309 (qqN rfl rfl hS309 (hvH rfl (fun _ _ => xfld fl228_0 rfl) hS309 (hvH rfl (fun _ _ => xfld fl224_0 rfl) hS309 (hvH rfl (fun w' hS => xld on22 rfl ((zb_hsr.keep hS (by omega) (by show ¬ (bB = b4); omega)).c 0 rfl rfl)) hS309 (hvH rfl (fun _ _ => xconv hs22 ki61 rfl (wu32n (m16 r.n1).toNat (by rw [m16_nat]; omega))) hS309 (qqM rfl rfl hS309 (qqN rfl rfl hS309 (hvH rfl (fun _ _ => xfld fl228_0 rfl) hS309 (hvH rfl (fun _ _ => xfld fl224_1 rfl) hS309 (hvH rfl (fun w' hS => xldS (lens := [256]) ro82 rfl ((zb_hsr.keep hS (by omega) (by show ¬ (bB = b4); omega)).sub 1 1 rfl)) hS309 (qqM rfl rfl hS309 (qqN rfl rfl hS309 (hvH rfl (fun _ _ => xfld fl228_0 rfl) hS309 (hvH rfl (fun _ _ => xfld fl224_2 rfl) hS309 (hvH rfl (fun w' hS => xld on222 rfl ((zb_hsr.keep hS (by omega) (by show ¬ (bB = b4); omega)).c 2 rfl rfl)) hS309 (hvH rfl (fun _ _ => xfld fl112_5 rfl) hS309 ?_))))))))))))))))
   refine hcH rfl (xcall ca100 rfl) (c100 (S := bt r.host) (by have := (name_pos (hno.2.1 (by omega))).2; omega)) ?_
   rintro _ w310 ⟨rfl, m311⟩
   have z312 := m311.size
   have hsr := hsr.keep m311 (by omega) id
   have hf := hf.step0 m311
   have h2 := h2.keep m311 id
   have h4 := h4.keep m311 id
   have hp := hp.keep pair_st (lU hU (by omega)) m311 nF
   have hS313 := hS309.step0 m311
   refine ⟨hS313, ?_⟩
   refine hcH rfl (xcall ca109 rfl) (c109 (U := U) (lU hU (by omega)) hp hpn (fun q hq => by have := hpd q hq; omega)) ?_
   rintro v252 w314 ⟨L252, m315⟩
   have z316 := m315.size
   have hsr := hsr.keep m315 (by omega) id
   have hf := hf.step0 m315
   have h2 := h2.keep m315 id
   have h4 := h4.keep m315 id
   have hS317 := hS313.step0 m315
   obtain ⟨av252, cv252, rfl⟩ := L252.form
   refine ⟨hS317, ?_⟩
   refine hluKH rfl (xstF 5 sz3 h4 rfl rfl rfl rfl rfl) ?_
   rintro w319 ⟨m320, h4, s318⟩
   have hsr := hsr.keep m320 (by omega) (by show ¬ (bB = b4); omega)
   have hf := hf.step m320 (nB (by omega))
   have h2 := h2.keep m320 (by show ¬ (b2 = b4); omega)
   have L252 := L252.keep pair_st (lUb hU (by omega) (by omega)) m320 (fun k hk hS => by have hk := Ub.num hU hk; have hS : k = b4 := hS; omega)
   have hS321 := hS317.step m320 (fun k hk hS => by have hS : k = b4 := hS; show k = b4; omega)
   refine ⟨hS321, ?_⟩
   refine hvH rfl (fun _ _ => xfld fl112_9 rfl) hS321 ?_
   refine hluKH rfl (xstF 9 sz61 h4 rfl rfl rfl rfl rfl) ?_
   rintro w323 ⟨m324, h4, s322⟩
   have hsr := hsr.keep m324 (by omega) (by show ¬ (bB = b4); omega)
   have hf := hf.step m324 (nB (by omega))
   have h2 := h2.keep m324 (by show ¬ (b2 = b4); omega)
   have L252 := L252.keep pair_st (lUb hU (by omega) (by omega)) m324 (fun k hk hS => by have hk := Ub.num hU hk; have hS : k = b4 := hS; omega)
   have hS325 := hS321.step m324 (fun k hk hS => by have hS : k = b4 := hS; show k = b4; omega)
   refine ⟨hS325, ?_⟩
   refine hvH rfl (fun _ _ => xfld fl112_7 rfl) hS325 ?_
   refine hluKH rfl (xstF 7 sz9 h4 rfl rfl rfl rfl rfl) ?_
   rintro w327 ⟨m328, h4, s326⟩
   have hsr := hsr.keep m328 (by omega) (by show ¬ (bB = b4); omega)
   have hf := hf.step m328 (nB (by omega))
   have h2 := h2.keep m328 (by show ¬ (b2 = b4); omega)
   have L252 := L252.keep pair_st (lUb hU (by omega) (by omega)) m328 (fun k hk hS => by have hk := Ub.num hU hk; have hS : k = b4 := hS; omega)
   have hS329 := hS325.step m328 (fun k hk hS => by have hS : k = b4 := hS; show k = b4; omega)
   refine ⟨hS329, ?_⟩
   refine hvH rfl (fun _ _ => xfld fl112_15 rfl) hS329 ?_
   refine bluKH rfl (xstF 15 sz110 h4 rfl rfl rfl rfl rfl) ?_
   rintro w331 ⟨m332, h4, s330⟩
   have hsr := hsr.keep m332 (by omega) (by show ¬ (bB = b4); omega)
   have hf := hf.step m332 (nB (by omega))
   have h2 := h2.keep m332 (by show ¬ (b2 = b4); omega)
   have L252 := L252.keep pair_st (lUb hU (by omega) (by omega)) m332 (fun k hk hS => by have hk := Ub.num hU hk; have hS : k = b4 := hS; omega)
   refine lhendH (nBlock (nThen (fg [(2, _), (4, _)] ⟨rfl, rfl, ⟨⟩⟩ fun _ => (sreg (sv (xldS (lens := lRec) ro112 rfl h4.r) ?_)))))
   refine suK (xstW h2 (lens' := lRec) sz112 rfl rfl rfl rfl rfl) ?_
   rintro w334 ⟨m335, h2, s333⟩
   have hsr := hsr.keep m335 (by omega) (by show ¬ (bB = b2); omega)
   have hf := hf.step m335 (nB (by omega))
   have h4 := h4.keep m335 (by show ¬ (b4 = b2); omega)
   have L252 := L252.keep pair_st (lUb hU (by omega) (by omega)) m335 (fun k hk hS => by have hk := Ub.num hU hk; have hS : k = b2 := hS; omega)
   refine send (fg [(2, _)] ⟨rfl, ⟨⟩⟩ fun _ => (wp_ret ?_))
   refine rp1 rfl ⟨_, rfl, ldS (lens := lRec) ro112 h2.r⟩ ?_
   rw [norm_svc (by omega)]
   exact ⟨_, _, _, ag_rec (r' := { rec0 r l with n1 := m16 r.n1, host := r.host, pairs := r.pairs }) (k := 12) hk rfl, ba0, LA.nil, (L252.mono pair_gr (fun k hk => hk.elim .inl (fun h => .inr ⟨by omega, by omega⟩))), hf⟩
  ·
   obtain ⟨aq, cq, rfl, -⟩ := id hd
   refine send (fg [(2, _), (4, _), (35, _)] ⟨rfl, rfl, rfl, ⟨⟩⟩ fun _ => (wp_block (sreg (sv (xtaN ni186 in186 rfl rfl) (sv (xex21 rfl) (sv (xex20 rfl) (send (fg [(2, _), (4, _), (35, _), (37, _), (38, _)] ⟨rfl, rfl, rfl, rfl, rfl, ⟨⟩⟩ fun _ => (cno rfl (sreg (sv (xtaN ni190 in190 rfl rfl) (sv (xex21 rfl) (sv (xex20 rfl) (send (fg [(2, _), (4, _), (35, _), (48, _), (49, _)] ⟨rfl, rfl, rfl, rfl, rfl, ⟨⟩⟩ fun _ => (cno rfl (sreg (sv (xtaN ni193 in193 rfl rfl) (sv (xex21 rfl) (sv (xex20 rfl) (send (fg [(2, _), (4, _), (35, _), (58, _), (59, _)] ⟨rfl, rfl, rfl, rfl, rfl, ⟨⟩⟩ fun _ => (cno rfl (sreg ?_))))))))))))))))))))))))
   refine sv (xtaN ni196 in196 rfl rfl) (sv (xex21 rfl) (sv (xex20 rfl) (send (fg [(2, _), (4, _), (35, _), (68, _), (69, _)] ⟨rfl, rfl, rfl, rfl, rfl, ⟨⟩⟩ fun _ => (cno rfl (sreg (sv (xtaN ni199 in199 rfl rfl) (sv (xex21 rfl) (sv (xex20 rfl) (send (fg [(2, _), (4, _), (35, _), (109, _), (110, _)] ⟨rfl, rfl, rfl, rfl, rfl, ⟨⟩⟩ fun _ => (cno rfl (sreg (sv (xtaN ni202 in202 rfl rfl) (sv (xex21 rfl) (sv (xex20 rfl) (send (fg [(2, _), (4, _), (35, _), (119, _), (120, _)] ⟨rfl, rfl, rfl, rfl, rfl, ⟨⟩⟩ fun _ => (cno rfl (sreg (sv (xtaN ni205 in205 rfl rfl) (sv (xex21 rfl) (sv (xex20 rfl) (send ?_))))))))))))))))))))))))
   refine fg [(2, _), (4, _), (35, _), (135, _), (136, _)] ⟨rfl, rfl, rfl, rfl, rfl, ⟨⟩⟩ fun _ => (cno rfl (sreg (sv (xtaN ni208 in208 rfl rfl) (sv (xex21 rfl) (sv (xex20 rfl) (send (fg [(2, _), (4, _), (35, _), (146, _), (147, _)] ⟨rfl, rfl, rfl, rfl, rfl, ⟨⟩⟩ fun _ => (cno rfl (sreg (sv (xtaN ni212 in212 rfl rfl) (sv (xex21 rfl) (sv (xex20 rfl) (send (fg [(2, _), (4, _), (35, _), (157, _), (158, _)] ⟨rfl, rfl, rfl, rfl, rfl, ⟨⟩⟩ fun _ => (cno rfl (sreg (sv (xtaN ni215 in215 rfl rfl) (sv (xex21 rfl) (sv (xex20 rfl) (send (fg [(2, _), (4, _), (35, _), (185, _), (186, _)] ⟨rfl, rfl, rfl, rfl, rfl, ⟨⟩⟩ fun _ => (cno rfl (sreg (sv (xtaN ni221 in221 rfl rfl) ?_))))))))))))))))))))))))
   refine sv (xex21 rfl) (sv (xex20 rfl) (send (fg [(2, _), (4, _), (35, _), (211, _), (212, _)] ⟨rfl, rfl, rfl, rfl, rfl, ⟨⟩⟩ fun _ => (cno rfl (sreg (sv (xtaN ni226 in226 rfl rfl) (sv (xex21 rfl) (sv (xex20 rfl) (send (fg [(2, _), (4, _), (35, _), (233, _), (234, _)] ⟨rfl, rfl, rfl, rfl, rfl, ⟨⟩⟩ fun _ => (cno rfl (sreg (sv (xtaY ni229 rfl) (sv (xex21 rfl) (sv (xex20 rfl) (send (fg [(2, _), (4, _), (258, _), (259, _)] ⟨rfl, rfl, rfl, rfl, ⟨⟩⟩ fun _ => (cyes rfl (sreg (sA rfl (send (fg [(2, _), (4, _), (19, _)] ⟨rfl, rfl, rfl, ⟨⟩⟩ fun _ => (lreg ?_)))))))))))))))))))))))
   refine svK (xslit (bvs []) sl37 in5 rfl (by decide) rfl rfl rfl rfl (by decide) rfl (bvs_one _)) ?_
   rintro _ w337 ⟨b260, rfl, m338, h260, e260, s260, r260⟩
   have hsr := hsr.keep m338 (by omega) id
   have hf := hf.step0 m338
   have h2 := h2.keep m338 id
   have h4 := h4.keep m338 id
   have hd := hd.keep (lU hU (by omega)) m338 nF
   refine sM rfl (sN rfl (sv (xfld fl231_1 rfl) (sv (xld on37 rfl (hsr.c 1 rfl rfl)) ?_)))
   refine svK (xapp sl37 in5 rfl (by decide) rfl rfl r260 (hd.src sl37) (by simp only [maxLen]; omega) (by omega)) ?_
   rintro _ w339 ⟨g265, r265, m340, a265, l265⟩
   have z341 := m340.size
   have hf := hf.step m340 (nB (by omega))
   have h2 := h2.keep m340 (by show ¬ (b2 = b260); omega)
   have h4 := h4.keep m340 (by show ¬ (b4 = b260); omega)
   obtain ⟨p265, q265, rfl, -⟩ := r265.form
   refine sv (xfld fl112_5 rfl) ?_
   refine suK (xstF 5 sz3 h4 rfl rfl rfl rfl rfl) ?_
   rintro w343 ⟨m344, h4, s342⟩
   have hf := hf.step m344 (nB (by omega))
   have h2 := h2.keep m344 (by show ¬ (b2 = b4); omega)
   have r265 := r265.keep m344 (by show ¬ (g265 = b4); omega)
   refine sv (xfld fl112_6 rfl) ?_
   refine suK (xstF 6 sz37 h4 rfl rfl rfl rfl rfl) ?_
   rintro w346 ⟨m347, h4, s345⟩
   have hf := hf.step m347 (nB (by omega))
   have h2 := h2.keep m347 (by show ¬ (b2 = b4); omega)
   have r265 := r265.keep m347 (by show ¬ (g265 = b4); omega)
   refine lend (nBlock (nThen (fg [(2, _), (4, _)] ⟨rfl, rfl, ⟨⟩⟩ fun _ => (sreg (sv (xldS (lens := lRec) ro112 rfl h4.r) ?_)))))
   refine suK (xstW h2 (lens' := lRec) sz112 rfl rfl rfl rfl rfl) ?_
   rintro w349 ⟨m350, h2, s348⟩
   have hf := hf.step m350 (nB (by omega))
   have r265 := r265.keep m350 (by show ¬ (g265 = b2); omega)
   refine send (fg [(2, _)] ⟨rfl, ⟨⟩⟩ fun _ => (wp_ret ?_))
   refine rp1 rfl ⟨_, rfl, ldS (lens := lRec) ro112 h2.r⟩ ?_
   rw [norm_unk hk]
   exact ⟨_, _, _, ag_rec (r' := { rec0 r l with data := r.data }) (k := 13) hk rfl, (BR.ba (show BR _ _ _ _ r.data from r265) (.inr ⟨by omega, by omega⟩)), LA.nil, LA.nil, hf⟩
end Go.Proofs.YtifnodoffgfpbaaGreatDoor

namespace Go.Proofs.YtifnodoffgfpbaaGreatDoor
open Go

theorem u16_of {len : Nat} (h : len < 65536) : ∃ l : UInt16, len = l.toNat := ⟨UInt16.ofNat len, by rw [UInt16.toNat_ofNat']; omega⟩
/-- a fresh copy of a message's first part, as a message -/
theorem msg_of {w : World} {v : Value} {g n n0 : Nat} {xs : List UInt8} (h : Rw w v g 5 1 n0 (bvs xs)) (hn : xs.length = n) (hn0 : n0 = n) (h0 : 0 < w.heap.size) (hg : 0 < n → g < w.heap.size) : ∃ a c bm, v = .slice a n c ∧ n ≤ c ∧ (n ≠ 0 → a = some ⟨bm, 0, none⟩) ∧ w.rangeAt bm 0 (bvs xs) ∧ bm < w.heap.size ∧ (bm = 0 ∨ bm = g) := by
  subst hn0
  obtain ⟨a, c, rfl, h1, _, h3, _⟩ := h.form
  by_cases hz : n0 = 0
  · subst hz
    obtain rfl : xs = [] := List.eq_nil_of_length_eq_zero hn
    exact ⟨a, c, 0, rfl, h1, fun h => absurd rfl h, fun j u hu => by simp [bvs] at hu, h0, .inl rfl⟩
  · exact ⟨a, c, g, rfl, h1, fun _ => h3 (by omega), h.rng, hg (by omega), .inr rfl⟩

set_option maxHeartbeats 4000000 in
set_option maxRecDepth 100000 in
theorem c50 {w : World} {U : Nat → Prop} (hU : ∀ k, U k → k < w.heap.size) {v : Value} {l : List RecD} (hl : LA ResV lRes U w v l) (hn : l.length ≤ 1048576) (hok : ∀ r ∈ l, NamesOk r ∧ r.pairs.length ≤ 1048576 ∧ r.texts.length ≤ 1048576 ∧ r.data.length ≤ 1048576 ∧ ∀ q ∈ r.pairs, q.data.length ≤ 65535) :
  Ret PP 50 [v] w (fun u w' => ∃ l', LA RecEl lRec (Ub U w w') w' u l' ∧ All2 Like l' l ∧ Fr0 w w') := by
 obtain ⟨a0, c0, rfl⟩ := hl.form
 have hf : Fr (fun _ => False) w w := Fr.refl _ _
 refine ret_of Tryz.func50 rfl rfl rfl [(0, _)] rfl ?_
 refine sreg (sA rfl (send (fg [(0, _)] ⟨rfl, ⟨⟩⟩ fun _ => (sreg ?_))))
 refine svK (xslit ([]) sl26 in112 rfl (by decide) rfl rfl rfl rfl (by decide) rfl rfl) ?_
 rintro _ w2 ⟨b6, rfl, m3, h6, e6, s6, r6⟩
 have hl := hl.keep resv_st (lU hU (by omega)) m3 nF
 have hf := hf.step0 m3
 have hv3 : RX RecEl lRec U w.heap.size w2.heap.size w2 _ b6 112 0 [] := RX.ofNil r6
 refine sA rfl (send (fg [(0, _), (3, _)] ⟨rfl, rfl, ⟨⟩⟩ fun _ => (wp_seq (sreg (sM rfl (sv (xlen sl75 rfl) (sM rfl (send (fg [(3, _), (7, _), (8, _), (9, _)] ⟨rfl, rfl, rfl, rfl, ⟨⟩⟩ fun _ => (wp_block ?_))))))))))
 refine lp [(7, _), (8, _)] (fun (x : Nat × Value × Nat × List RecD) => match x with | (k, v, g, l1) => [(3, v), (9, .int .i64 (k : Int))]) (fun (x : Nat × Value × Nat × List RecD) wx => match x with | (k, v, g, l1) => Fr (fun k => k = b6) w2 wx ∧ (k ≤ l.length) ∧ (All2 Like l1 (l.take k)) ∧ (RX RecEl lRec U w.heap.size wx.heap.size wx v g 112 k l1) ∧ (w.heap.size ≤ g) ∧ (g < wx.heap.size) ∧ (g = b6 ∨ w2.heap.size ≤ g)) (fun (x : Nat × Value × Nat × List RecD) => match x with | (k, v, g, l1) => l.length - k) (0, _, b6, []) ⟨rfl, rfl, rfl, rfl, trivial⟩ ⟨Fr.refl _ _, Nat.zero_le _, All2.nil, hv3, by omega, by omega, .inl rfl⟩ ?_
 rintro ⟨k, v, g, l1⟩ _ w5 ⟨hL4, hk, hA, hv3, hg, hg2, hg3⟩
 refine fg [(3, _), (7, _), (8, _), (9, _)] ⟨rfl, rfl, rfl, rfl, ⟨⟩⟩ fun _ => ?_
 have z6 := hL4.size
 have hl := hl.keep resv_st (lU hU (by omega)) hL4 (fun k hk hS => by have hk := hU k hk; have hS : k = b6 := hS; omega)
 have hf := hf.step hL4 (nB (by omega))
 obtain ⟨a3, c3, rfl⟩ := RA.form hv3
 refine sreg ?_
 refine svP (xlss rfl rfl) (fun hc10 => ?_) (fun hc10 => ?_)
 ·
  refine send (fg [(3, _), (7, _), (8, _), (9, _), (10, _)] ⟨rfl, rfl, rfl, rfl, rfl, ⟨⟩⟩ fun _ => (wp_seq (cyes rfl (wp_skip (nThen (fg [(3, _), (7, _), (8, _), (9, _)] ⟨rfl, rfl, rfl, rfl, ⟨⟩⟩ fun _ => (wp_seq (wp_block ?_))))))))
  obtain ⟨r, hrk⟩ := some_of_lt (by omega : k < l.length)
  refine sreg ?_
  obtain ⟨bE11, oE11, sgE11, rfl, uE11, hsE11, heE11⟩ := LA.get hl hrk
  obtain ⟨len, vb, hl16, rfl, hbe⟩ := heE11
  have zE11 := hU _ uE11
  obtain ⟨bB, TB, lB, sB, rfl, -⟩ := id hbe
  obtain ⟨l0, rfl⟩ := u16_of hl16
  refine sv (xidx sl75 sz139 rfl rfl rfl (by omega)) (sv (xldS (lens := [256, 1, 1, 1, 1, 1]) ro139 rfl hsE11) ?_)
  refine svK (xallS (lens := [256, 1, 1, 1, 1, 1]) in139 (by simp [nm_length])) ?_
  rintro _ w8 ⟨b5, rfl, m9, h5, e7, s7⟩
  have hf := hf.step0 m9
  have hv3 := RX.keep hv3 rec_st (lU hU (by omega)) (by omega) m9 (fun _ _ _ h => h) id
  have hL4 := hL4.step0 m9
  have hbe := hbe.keep (lU hU (by omega)) m9 nF
  refine suK (xstW h5 (lens' := [256, 1, 1, 1, 1, 1]) sz139 (by simp [rhSegs, nm_length]) rfl (by simp only [rhSegs, List.cons_append, List.nil_append, List.flatten_cons, List.flatten_nil, List.all_append, List.append_nil, nm_one, Bool.true_and] <;> rfl) rfl rfl) ?_
  rintro w11 ⟨m12, h5, s10⟩
  have hf := hf.step m12 (nB (by omega))
  have hv3 := RX.keep hv3 rec_st (lU hU (by omega)) (by omega) m12 (fun k hk hk3 hS => by have hS : k = b5 := hS; rcases hk with hk | hk <;> first | omega | (have := hU k hk; omega)) (by show ¬ (g = b5); omega)
  have hL4 := hL4.step m12 (fun k hk hS => by have hS : k = b5 := hS; show k = b6; omega)
  have hbe := hbe.keep (lU hU (by omega)) m12 (fun k hk hS => by have hk := hU k hk; have hS : k = b5 := hS; omega)
  refine send (fg [(3, _), (5, _), (7, _), (8, _), (9, _)] ⟨rfl, rfl, rfl, rfl, rfl, ⟨⟩⟩ fun _ => (lreg (sM rfl (sv (xldS (lens := [256, 1, 1, 1, 1, 1]) ro139 rfl h5.r) ?_))))
  refine sc (xcall ca64 rfl) (c64 (U := U) (lU hU (by omega)) hbe (hok r (List.mem_of_getElem? hrk)).1 (hok r (List.mem_of_getElem? hrk)).2.1 (hok r (List.mem_of_getElem? hrk)).2.2.1 (hok r (List.mem_of_getElem? hrk)).2.2.2.1 (hok r (List.mem_of_getElem? hrk)).2.2.2.2) ?_
  rintro _ w13 ⟨vd, vt, vp, rfl, hd, ht, hp, m14⟩
  have z15 := m14.size
  have hf := hf.step0 m14
  have hv3 := RX.keep hv3 rec_st (lU hU (by omega)) (by omega) m14 (fun _ _ _ h => h) id
  have hL4 := hL4.step0 m14
  obtain ⟨ad, cd, rfl, -⟩ := id hd
  obtain ⟨at1, ct1, rfl⟩ := ht.form
  obtain ⟨ap1, cp1, rfl⟩ := hp.form
  refine svK (xslit ((recSegs (normR r l0) (.slice ad (normR r l0).data.length cd) (.slice at1 (normR r l0).texts.length ct1) (.slice ap1 (normR r l0).pairs.length cp1)).flatten) sl26 in112 rfl (by decide) rfl rfl rfl rfl (by decide) (ag_flat _) rfl) ?_
  rintro _ w17 ⟨b16, rfl, m18, h16, e16, s16, r16⟩
  have hf := hf.step0 m18
  have hv3 := RX.keep hv3 rec_st (lU hU (by omega)) (by omega) m18 (fun _ _ _ h => h) id
  have hL4 := hL4.step0 m18
  have hd := hd.keep (lUb hU (by omega) (by omega)) m18 nF
  have ht := ht.keep text_st (lUb hU (by omega) (by omega)) m18 nF
  have hp := hp.keep pair_st (lUb hU (by omega) (by omega)) m18 nF
  obtain ⟨ss17, hR17, hA17⟩ := hv3
  refine svK (xapp sl26 in112 rfl (by decide) rfl rfl hR17 (r16.src sl26) (by simp only [maxLen]; omega) (by omega)) ?_
  rintro v17 w19 ⟨g17, r17, m20, a17, l17⟩
  have z21 := m20.size
  have hf := hf.step m20 (nB (by omega))
  have hL4 := hL4.step m20 (fun k hk hS => by have hS : k = g := hS; show k = b6; omega)
  have hd := hd.keep (lUb hU (by omega) (by omega)) m20 (fun k hk hS => by have hk := Ub.num hU hk; have hS : k = g := hS; omega)
  have ht := ht.keep text_st (lUb hU (by omega) (by omega)) m20 (fun k hk hS => by have hk := Ub.num hU hk; have hS : k = g := hS; omega)
  have hp := hp.keep pair_st (lUb hU (by omega) (by omega)) m20 (fun k hk hS => by have hk := Ub.num hU hk; have hS : k = g := hS; omega)
  have hv3 := RX.snoc (x := (normR r l0)) w19.heap.size hA17 rec_st rec_gr (lU hU (by omega)) (by omega) (by omega) m20 a17 r17 rfl (⟨_, _, _, rfl, hd.mono (fun k h => ⟨h.elim .inl (fun h => .inr ⟨by omega, by omega⟩), by have h := Ub.num hU h; omega⟩), ht.mono text_gr (fun k h => ⟨h.elim .inl (fun h => .inr ⟨by omega, by omega⟩), by have h := Ub.num hU h; omega⟩), hp.mono pair_gr (fun k h => ⟨h.elim .inl (fun h => .inr ⟨by omega, by omega⟩), by have h := Ub.num hU h; omega⟩)⟩)
  refine sA rfl (lend (nBlock (nThen (fg [(3, _), (7, _), (8, _), (9, _)] ⟨rfl, rfl, rfl, rfl, ⟨⟩⟩ fun _ => (lreg (sv (xadd rfl rfl (w64 (by omega) (by omega))) (sM rfl (lend (nThen ?_)))))))))
  refine ⟨(k + 1, _, g17, l1 ++ [normR r l0]), _, env_okl ⟨rfl, rfl, rfl, rfl, trivial⟩, ⟨hL4, (by omega), (by rw [take_snoc hrk]; exact hA.snoc ⟨l0, rfl⟩), (RX.up rec_gr hv3 (by omega)), (by omega), (l17 (by omega)), (by omega)⟩, ?_⟩
  show l.length - (k + 1) < l.length - k; omega
 ·
  refine send (fg [(3, _), (7, _), (8, _), (9, _), (10, _)] ⟨rfl, rfl, rfl, rfl, rfl, ⟨⟩⟩ fun _ => (wp_seq (cno rfl (wp_exit (eThen (eThen (eHit (nThen (fg [(3, _)] ⟨rfl, ⟨⟩⟩ fun _ => (sreg (sM rfl (sA rfl (send (fg [(2, _)] ⟨rfl, ⟨⟩⟩ fun _ => (wp_ret ?_)))))))))))))))
  refine rp1 rfl rfl ?_
  have e1 : l.take k = l := List.take_of_length_le (by omega)
  rw [e1] at hA
  exact ⟨l1, RX.la hv3 (by decide) rec_gr (fun k hk => hk.elim .inl .inr) (.inr ⟨hg, hg2⟩), hA, hf⟩
end Go.Proofs.YtifnodoffgfpbaaGreatDoor

namespace Go.Proofs.YtifnodoffgfpbaaGreatDoor
open Go

theorem uu_mono {U : Nat → Prop} {w w' wa wb wc wd : World} {k : Nat} (h : Ub (Ub NoU wa wb) wc wd k) (h1 : w.heap.size ≤ wa.heap.size) (h2 : wb.heap.size ≤ w'.heap.size) (h3 : w.heap.size ≤ wc.heap.size) (h4 : wd.heap.size ≤ w'.heap.size) : Ub U w w' k := by
  rcases h with (h | h) | h
  · exact h.elim
  · exact .inr ⟨by omega, by omega⟩
  · exact .inr ⟨by omega, by omega⟩

set_option maxHeartbeats 4000000 in
set_option maxRecDepth 100000 in
theorem c22 {w : World} {U : Nat → Prop} (hU : ∀ k, U k → k < w.heap.size) {v : Value} {b : List UInt8} {n : Nat} {m : MsgD} (hd : BA U w v (b.take n)) (hnb : n ≤ b.length) (hbl : b.length < 100000000) (hG : GE w) (hsz : 21 ≤ w.heap.size) {Kp : Nat → Prop} (hMR : MsgR Kp b m) (hKp : ∀ k, Kp k → k ≤ 10 ∧ (k = 0 ∨ n = b.length)) (hho : m.head.ok) (l0 : m.asks.length < 65536) (l1 : m.one.length < 65536) (l2 : m.two.length < 65536) (l3 : m.three.length < 65536) (hna : ∀ a ∈ m.asks, nameL (bt a.name)) (hr1 : ∀ r ∈ m.one, ReadOk r ∧ (r.kind = 11 ∨ r.kind = 12 → asc r.pairs)) (hr2 : ∀ r ∈ m.two, ReadOk r ∧ (r.kind = 11 ∨ r.kind = 12 → asc r.pairs)) (hr3 : ∀ r ∈ m.three, ReadOk r ∧ (r.kind = 11 ∨ r.kind = 12 → asc r.pairs)) {Tz : TypeId} {xz : Option Addr} (hg0 : w.rangeAt 0 0 [.iface Tz (.pointer xz)]) (hCT : CmpT Tz) {B mb : Nat} {sf : Int → ByteArray} (hBw : B ≤ w.heap.size) (hSO : SecOr (b.length ≤ n) B mb sf w) (hb1 : ∀ r ∈ m.one, NamesOk r ∧ r.pairs.length ≤ 1048576 ∧ r.texts.length ≤ 1048576 ∧ r.data.length ≤ 1048576 ∧ ∀ q ∈ r.pairs, q.data.length ≤ 65535) (hb2 : ∀ r ∈ m.two, NamesOk r ∧ r.pairs.length ≤ 1048576 ∧ r.texts.length ≤ 1048576 ∧ r.data.length ≤ 1048576 ∧ ∀ q ∈ r.pairs, q.data.length ≤ 65535) (hb3 : ∀ r ∈ m.three, NamesOk r ∧ r.pairs.length ≤ 1048576 ∧ r.texts.length ≤ 1048576 ∧ r.data.length ≤ 1048576 ∧ ∀ q ∈ r.pairs, q.data.length ≤ 65535)  :
  Ret PP 22 [v] w (fun u w' => ((b.length ≤ n ∧ ∃ (l1 l2 l3 : List RecD) (va v1 v2 v3 : Value), u = .tuple #[ag (msgSegs m.head va v1 v2 v3), .bool true] ∧ All2 Like l1 m.one ∧ All2 Like l2 m.two ∧ All2 Like l3 m.three ∧ LA AskEl lAsk (Ub NoU w w') w' va m.asks ∧ LA RecEl lRec (Ub NoU w w') w' v1 l1 ∧ LA RecEl lRec (Ub NoU w w') w' v2 l2 ∧ LA RecEl lRec (Ub NoU w w') w' v3 l3) ∨ (n < b.length ∧ u = .tuple #[ag [[.int .u16 0], [.bool false], [.int .u16 0], [.bool false], [.bool false], [.bool false], [.bool false], [.bool false], [.bool false], [.int .u16 0], [.slice none 0 0], [.slice none 0 0], [.slice none 0 0], [.slice none 0 0]], .bool false])) ∧ Fr0 w w') := by
 obtain ⟨ad0, cd0, rfl, -⟩ := id hd
 have htl : (b.take n).length = n := by rw [List.length_take]; omega
 have hf : Fr (fun _ => False) w w := Fr.refl _ _
 refine ret_of Tryz.func22 rfl rfl rfl [(0, _)] rfl ?_
 refine sreg ?_
 refine svK (xallS (lens := lMsg) in28 rfl) ?_
 rintro _ w2 ⟨b2, rfl, m3, h2, e1, s1⟩
 have hd := hd.keep (lU hU (by omega)) m3 nF
 have hG := hG.keep (fun k hk => by omega) m3 nF
 have hg0 := rng_fr hg0 m3 (by omega) id
 have hSO := hSO.keep (fun k hk => by omega) m3 nF
 have hf := hf.step0 m3
 refine sA rfl (send (fg [(0, _), (2, _)] ⟨rfl, rfl, ⟨⟩⟩ fun _ => (sreg (sv (xbuildS [[.int .u16 0], [.bool false], [.int .u16 0], [.bool false], [.bool false], [.bool false], [.bool false], [.bool false], [.bool false], [.int .u16 0], [.slice none 0 0], [.slice none 0 0], [.slice none 0 0], [.slice none 0 0]] zr79 ly79 rfl trivial (by simp [setAll, zs79])) ?_))))
 refine svK (xallS (lens := lMsg) in79 rfl) ?_
 rintro _ w5 ⟨b4, rfl, m6, h4, e4, s4⟩
 have hd := hd.keep (lU hU (by omega)) m6 nF
 have hG := hG.keep (fun k hk => by omega) m6 nF
 have hg0 := rng_fr hg0 m6 (by omega) id
 have hSO := hSO.keep (fun k hk => by omega) m6 nF
 have hf := hf.step0 m6
 have h2 := h2.keep m6 id
 refine suK (xstW h4 (lens' := lMsg) sz79 rfl rfl rfl rfl rfl) ?_
 rintro w8 ⟨m9, h4, s7⟩
 have hd := hd.keep (lU hU (by omega)) m9 (fun k hk hS => by have hk := hU k hk; have hS : k = b4 := hS; omega)
 have hG := hG.keep (fun k hk => by omega) m9 (fun k hk hS => by have hk := hk; have hS : k = b4 := hS; omega)
 have hg0 := rng_fr hg0 m9 (by omega) (by show ¬ (0 = b4); omega)
 have hSO := hSO.keep (fun k hk => by omega) m9 (fun k hk hS => by have hk := hk; have hS : k = b4 := hS; omega)
 have hf := hf.step m9 (nB (by omega))
 have h2 := h2.keep m9 (by show ¬ (b2 = b4); omega)
 refine send (fg [(0, _), (2, _), (4, _)] ⟨rfl, rfl, rfl, ⟨⟩⟩ fun _ => (wp_seq (sreg (sM rfl ?_))))
 refine svK (xapp sl37 in5 rfl (by decide) rfl rfl (Rw.nil _ w8.heap.size _ _) (hd.src sl37) (by simp only [maxLen]; omega) (by omega)) ?_
 rintro v7 w10 ⟨g7, r7, m11, a7, l7⟩
 have z12 := m11.size
 have hG := hG.keep (fun k hk => by omega) m11 (fun k hk hS => by have hk := hk; have hS : k = w8.heap.size := hS; omega)
 have hg0 := rng_fr hg0 m11 (by omega) (by show ¬ (0 = w8.heap.size); omega)
 have hSO := hSO.keep (fun k hk => by omega) m11 (fun k hk hS => by have hk := hk; have hS : k = w8.heap.size := hS; omega)
 have hf := hf.step m11 (fun k hk hS => by have hS : k = w8.heap.size := hS; show False; omega)
 have h2 := h2.keep m11 (by show ¬ (b2 = w8.heap.size); omega)
 have h4 := h4.keep m11 (by show ¬ (b4 = w8.heap.size); omega)
 obtain ⟨ma, mc, bm, rfl, hkm, hms, hm, hbm, hbg⟩ := msg_of (n := n) (xs := b.take n) (show Rw _ _ _ _ _ _ (bvs (b.take n)) from r7) htl (by omega) (by omega) (fun h => l7 (.inr (by omega)))
 refine sc (xcall ca47 rfl) (c47 (b := b) (m := m) (Kp := Kp) (B := B) hms hm (by omega) hnb hkm hbl hG (by omega) h4 (by omega) hMR hKp hho l0 l1 l2 l3 hna hr1 hr2 hr3 hg0 hCT (by omega) hSO (by omega) (by omega)) ?_
 rintro _ w13 ⟨⟨hle8, rfl, va, v1, v2, v3, h4, ja, j1, j2, j3⟩ | ⟨hgt8, x8, rfl⟩, m14⟩
 ·
  have z15 := m14.size
  have hf := hf.step m14 (nB (by omega))
  have h2 := h2.keep m14 (by show ¬ (b2 = b4); omega)
  have hwB : w13 = w13 := rfl
  obtain ⟨ada, cda, rfl⟩ := ja.form
  obtain ⟨ad1, cd1, rfl⟩ := j1.form
  obtain ⟨ad2, cd2, rfl⟩ := j2.form
  obtain ⟨ad3, cd3, rfl⟩ := j3.form
  refine sv (xneN if89 rfl) (send (fg [(2, _), (4, _), (9, _)] ⟨rfl, rfl, rfl, ⟨⟩⟩ fun _ => (cno rfl (wp_skip (nThen (fg [(2, _), (4, _)] ⟨rfl, rfl, ⟨⟩⟩ fun _ => ?_))))))
  refine sdrawH (Fr (fun k => k = b2) w13.drew) [(0, .rd), (1, .rd), (3, .rd), (4, .rd), (6, .rd), (7, .rd), (9, .rd), (10, .rd), (12, .rd), (13, .rd), (2, .ld), (5, .ld), (8, .ld), (11, .ld), (14, .ld), (15, .rd), (16, .ld), (17, .rd)] mixed (by kernel_rfl) (fun _ _ _ _ _ h => h) ?_
  have z16 : w13.drew.heap.size = w13.heap.size := rfl
  have hf := hf.drew
  have h2 := h2.drew
  have h4 := h4.drew
  have ja := ja.keep qel_st (lNo (by omega)) (fd w13) nF
  have j1 := j1.keep resv_st (lNo (by omega)) (fd w13) nF
  have j2 := j2.keep resv_st (lNo (by omega)) (fd w13) nF
  have j3 := j3.keep resv_st (lNo (by omega)) (fd w13) nF
  have zb_h4 := h4
  have hS17 : Fr (fun k => k = b2) w13.drew w13.drew := Fr.refl _ _
  refine hvH rfl (fun _ _ => xfld fl79_0 rfl) hS17 (hvH rfl (fun w' hS => xldS (lens := [1, 1, 1, 1, 1, 1, 1, 1, 1, 1]) ro73 rfl ((zb_h4.keep hS (by show ¬ (b4 = b2); omega)).r.sub 0 10 rfl)) hS17 (hvH rfl (fun _ _ => xfld fl79_1 rfl) hS17 (hvH rfl (fun w' hS => xld on77 rfl ((zb_h4.keep hS (by show ¬ (b4 = b2); omega)).r.c 10 rfl rfl)) hS17 (hvH rfl (fun _ _ => xfld fl79_2 rfl) hS17 (hvH rfl (fun w' hS => xld on75 rfl ((zb_h4.keep hS (by show ¬ (b4 = b2); omega)).r.c 11 rfl rfl)) hS17 (hvH rfl (fun _ _ => xfld fl79_3 rfl) hS17 (hvH rfl (fun w' hS => xld on75 rfl ((zb_h4.keep hS (by show ¬ (b4 = b2); omega)).r.c 12 rfl rfl)) hS17 (hvH rfl (fun _ _ => xfld fl79_4 rfl) hS17 (hvH rfl (fun w' hS => xld on75 rfl ((zb_h4.keep hS (by show ¬ (b4 = b2); omega)).r.c 13 rfl rfl)) hS17 ?_)))))))))
  refine hcH rfl (xcall ca48 rfl) (c48) ?_
  rintro _ w18 ⟨rfl, m19⟩
  have z20 := m19.size
  have hf := hf.step0 m19
  have h2 := h2.keep m19 id
  have ja := ja.keep qel_st (lNo (by omega)) m19 nF
  have j1 := j1.keep resv_st (lNo (by omega)) m19 nF
  have j2 := j2.keep resv_st (lNo (by omega)) m19 nF
  have j3 := j3.keep resv_st (lNo (by omega)) m19 nF
  have hS21 := hS17.step0 m19
  refine ⟨hS21, ?_⟩
  refine hcH rfl (xcall ca49 rfl) (c49 (U := Ub NoU w10 w13) (fun k hk => by have hk := (show w10.heap.size ≤ k ∧ k < w13.heap.size from hk.elim (fun h => h.elim) id); omega) ja (by omega) (fun a ha => by have := (name_pos (hna a ha)).2; omega)) ?_
  rintro v16 w22 ⟨L16, m23⟩
  have z24 := m23.size
  have hf := hf.step0 m23
  have h2 := h2.keep m23 id
  have j1 := j1.keep resv_st (lNo (by omega)) m23 nF
  have j2 := j2.keep resv_st (lNo (by omega)) m23 nF
  have j3 := j3.keep resv_st (lNo (by omega)) m23 nF
  have hS25 := hS21.step0 m23
  obtain ⟨aq16, cq16, rfl⟩ := L16.form
  refine ⟨hS25, ?_⟩
  refine hcH rfl (xcall ca50 rfl) (c50 (U := Ub NoU w10 w13) (fun k hk => by have hk := (show w10.heap.size ≤ k ∧ k < w13.heap.size from hk.elim (fun h => h.elim) id); omega) j1 (by omega) hb1) ?_
  rintro v19 w26 ⟨l19, L19, hA19, m27⟩
  have z28 := m27.size
  have hf := hf.step0 m27
  have h2 := h2.keep m27 id
  have j2 := j2.keep resv_st (lNo (by omega)) m27 nF
  have j3 := j3.keep resv_st (lNo (by omega)) m27 nF
  have L16 := L16.keep ask_st (fun k hk => by have hk := (show (w10.heap.size ≤ k ∧ k < w13.heap.size) ∨ _ from hk.imp_left (fun h => h.elim (fun h => h.elim) id)); omega) m27 nF
  have hS29 := hS25.step0 m27
  obtain ⟨aq19, cq19, rfl⟩ := L19.form
  refine ⟨hS29, ?_⟩
  refine hcH rfl (xcall ca50 rfl) (c50 (U := Ub NoU w10 w13) (fun k hk => by have hk := (show w10.heap.size ≤ k ∧ k < w13.heap.size from hk.elim (fun h => h.elim) id); omega) j2 (by omega) hb2) ?_
  rintro v22 w30 ⟨l22, L22, hA22, m31⟩
  have z32 := m31.size
  have hf := hf.step0 m31
  have h2 := h2.keep m31 id
  have j3 := j3.keep resv_st (lNo (by omega)) m31 nF
  have L16 := L16.keep ask_st (fun k hk => by have hk := (show (w10.heap.size ≤ k ∧ k < w13.heap.size) ∨ _ from hk.imp_left (fun h => h.elim (fun h => h.elim) id)); omega) m31 nF
  have L19 := L19.keep rec_st (fun k hk => by have hk := (show (w10.heap.size ≤ k ∧ k < w13.heap.size) ∨ _ from hk.imp_left (fun h => h.elim (fun h => h.elim) id)); omega) m31 nF
  have hS33 := hS29.step0 m31
  obtain ⟨aq22, cq22, rfl⟩ := L22.form
  refine ⟨hS33, ?_⟩
  refine hcH rfl (xcall ca50 rfl) (c50 (U := Ub NoU w10 w13) (fun k hk => by have hk := (show w10.heap.size ≤ k ∧ k < w13.heap.size from hk.elim (fun h => h.elim) id); omega) j3 (by omega) hb3) ?_
  rintro v25 w34 ⟨l25, L25, hA25, m35⟩
  have z36 := m35.size
  have hf := hf.step0 m35
  have h2 := h2.keep m35 id
  have L16 := L16.keep ask_st (fun k hk => by have hk := (show (w10.heap.size ≤ k ∧ k < w13.heap.size) ∨ _ from hk.imp_left (fun h => h.elim (fun h => h.elim) id)); omega) m35 nF
  have L19 := L19.keep rec_st (fun k hk => by have hk := (show (w10.heap.size ≤ k ∧ k < w13.heap.size) ∨ _ from hk.imp_left (fun h => h.elim (fun h => h.elim) id)); omega) m35 nF
  have L22 := L22.keep rec_st (fun k hk => by have hk := (show (w10.heap.size ≤ k ∧ k < w13.heap.size) ∨ _ from hk.imp_left (fun h => h.elim (fun h => h.elim) id)); omega) m35 nF
  have hS37 := hS33.step0 m35
  obtain ⟨aq25, cq25, rfl⟩ := L25.form
  refine ⟨hS37, ?_⟩
  refine hvH rfl (fun _ _ => xbuildS (msgSegs m.head (.slice aq16 m.asks.length cq16) (.slice aq19 l19.length cq19) (.slice aq22 l22.length cq22) (.slice aq25 l25.length cq25)) zr28 ly28 rfl (by simp [fitAll, zs28, Value.cells, headSegs]) rfl) hS37 ?_
  refine hluKH rfl (xstW h2 (lens' := lMsg) sz28 rfl rfl rfl rfl rfl) ?_
  rintro w39 ⟨m40, h2, s38⟩
  have hf := hf.step m40 (nB (by omega))
  have L16 := L16.keep ask_st (fun k hk => by have hk := (show (w10.heap.size ≤ k ∧ k < w13.heap.size) ∨ _ from hk.imp_left (fun h => h.elim (fun h => h.elim) id)); omega) m40 (fun k hk hS => by have hk := (show (w10.heap.size ≤ k ∧ k < w13.heap.size) ∨ _ from hk.imp_left (fun h => h.elim (fun h => h.elim) id)); have hS : k = b2 := hS; omega)
  have L19 := L19.keep rec_st (fun k hk => by have hk := (show (w10.heap.size ≤ k ∧ k < w13.heap.size) ∨ _ from hk.imp_left (fun h => h.elim (fun h => h.elim) id)); omega) m40 (fun k hk hS => by have hk := (show (w10.heap.size ≤ k ∧ k < w13.heap.size) ∨ _ from hk.imp_left (fun h => h.elim (fun h => h.elim) id)); have hS : k = b2 := hS; omega)
  have L22 := L22.keep rec_st (fun k hk => by have hk := (show (w10.heap.size ≤ k ∧ k < w13.heap.size) ∨ _ from hk.imp_left (fun h => h.elim (fun h => h.elim) id)); omega) m40 (fun k hk hS => by have hk := (show (w10.heap.size ≤ k ∧ k < w13.heap.size) ∨ _ from hk.imp_left (fun h => h.elim (fun h => h.elim) id)); have hS : k = b2 := hS; omega)
  have L25 := L25.keep rec_st (fun k hk => by have hk := (show (w10.heap.size ≤ k ∧ k < w13.heap.size) ∨ _ from hk.imp_left (fun h => h.elim (fun h => h.elim) id)); omega) m40 (fun k hk hS => by have hk := (show (w10.heap.size ≤ k ∧ k < w13.heap.size) ∨ _ from hk.imp_left (fun h => h.elim (fun h => h.elim) id)); have hS : k = b2 := hS; omega)
  have hS41 := hS37.step m40 (fun k hk hS => by have hS : k = b2 := hS; show k = b2; omega)
  refine ⟨hS41, ?_⟩
  refine qqA rfl rfl hS41 (hendH (fg [(2, _), (3, _)] ⟨rfl, rfl, ⟨⟩⟩ fun _ => (wp_ret ?_)))
  refine rp2 rfl ⟨_, rfl, ldS (lens := lMsg) ro28 h2.r⟩ rfl ?_
  exact ⟨.inl ⟨by omega, l19, l22, l25, _, _, _, _, rfl, hA19, hA22, hA25, L16.mono ask_gr (fun k hk => uu_mono hk (by omega) (by omega) (by omega) (by omega)), L19.mono rec_gr (fun k hk => uu_mono hk (by omega) (by omega) (by omega) (by omega)), L22.mono rec_gr (fun k hk => uu_mono hk (by omega) (by omega) (by omega) (by omega)), L25.mono rec_gr (fun k hk => uu_mono hk (by omega) (by omega) (by omega) (by omega))⟩, hf⟩
 ·
  have z42 := m14.size
  have hf := hf.step m14 (nB (by omega))
  have h2 := h2.keep m14 (by show ¬ (b2 = b4); omega)
  refine sv (xneI if89 rfl) (send (fg [(2, _), (4, _), (9, _)] ⟨rfl, rfl, rfl, ⟨⟩⟩ fun _ => (cyes rfl (sreg (sv (xbuildS [[.int .u16 0], [.bool false], [.int .u16 0], [.bool false], [.bool false], [.bool false], [.bool false], [.bool false], [.bool false], [.int .u16 0], [.slice none 0 0], [.slice none 0 0], [.slice none 0 0], [.slice none 0 0]] zr28 ly28 rfl trivial (by simp [setAll, zs28])) ?_)))))
  refine suK (xstW h2 (lens' := lMsg) sz28 rfl rfl rfl rfl rfl) ?_
  rintro w44 ⟨m45, h2, s43⟩
  have hf := hf.step m45 (nB (by omega))
  refine sA rfl (send (fg [(2, _), (3, _)] ⟨rfl, rfl, ⟨⟩⟩ fun _ => (wp_ret (rThen ?_))))
  refine rp2 rfl ⟨_, rfl, ldS (lens := lMsg) ro28 h2.r⟩ rfl ?_
  exact ⟨.inr ⟨by omega, rfl⟩, hf⟩
end Go.Proofs.YtifnodoffgfpbaaGreatDoor

namespace Go.Proofs.YtifnodoffgfpbaaGreatDoor
open Go

theorem asc_of {r : RecD} (h : PackOk r) : r.kind = 11 ∨ r.kind = 12 → asc r.pairs := h.2.2.1.2.2.2.2.2.2.2
theorem back_of {r : RecD} (h : PackOk r) (hf : r.fits) : NamesOk r ∧ r.pairs.length ≤ 1048576 ∧ r.texts.length ≤ 1048576 ∧ r.data.length ≤ 1048576 ∧ ∀ q ∈ r.pairs, q.data.length ≤ 65535 :=
  ⟨h.2.1, hf.2.2.2.2.2.2.2.1, hf.2.2.2.2.1, hf.2.1, h.2.2.1.2.2.2.2.1⟩

end Go.Proofs.YtifnodoffgfpbaaGreatDoor
