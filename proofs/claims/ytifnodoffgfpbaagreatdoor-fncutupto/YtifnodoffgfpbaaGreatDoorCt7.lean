/- Part 7 of the texts for a law of this seat: walks, and plain laws about messages; conditions: none. -/
import Derived.Test.YtifnodoffgfpbaaGreatDoorCt6
namespace Go.Proofs.YtifnodoffgfpbaaGreatDoor
open Go

theorem xrem64 {P : Program} {n : Nat} {l : List (Nat × Value)} {w : World} {ty : TypeId} {x y : Operand} {T U : TypeId} {a b : Nat} (hx : ev n l x = some (.int .i64 (a : Int))) (hy : ev n l y = some (.int .i64 (b : Int))) (h0 : 0 < b) (hb : b < 1000000000) :
    Ex P n l (.binOp .rem T x y U) ty w (.int .i64 ((a % b : Nat) : Int)) w :=
  xbin hx hy rfl (by
    have h1 : ¬ ((b : Int) = 0) := by omega
    have h3 : a % b < b := Nat.mod_lt _ h0
    have h4 : Int.tmod (a : Int) (b : Int) = ((a % b : Nat) : Int) := by rw [Int.tmod_eq_emod_of_nonneg (by omega)]; rfl
    simp only [binOp, Op.intDiv]
    rw [if_neg h1]
    simp [h4])
theorem cut_ba {w : World} {g c n : Nat} {v : Value} {b : List UInt8} {m : Nat} (h : Rw w v g 5 1 m (bvs b)) (_hn : n ≤ b.length) (h0 : n < b.length) : BA (fun k => k = g) w (.slice (some ⟨g, 0, none⟩) n c) (b.take n) := by
  have hl : (b.take n).length = n := by rw [List.length_take]; omega
  refine ⟨some ⟨g, 0, none⟩, c, by rw [hl], fun _ => ⟨g, 0, rfl, rfl, fun j v hv => ?_⟩⟩
  refine h.rng j v ?_
  simp only [bvs, List.map_take, List.getElem?_take] at hv
  split at hv
  · exact hv
  · cases hv

set_option maxHeartbeats 4000000 in
set_option maxRecDepth 100000 in
theorem c5 {w : World} {U : Nat → Prop} (hU : ∀ k, U k → k < w.heap.size) {m : MsgD} {va v1 v2 v3 : Value} (ha : LA AskEl lAsk U w va m.asks) (y1 : LA RecEl lRec U w v1 m.one) (y2 : LA RecEl lRec U w v2 m.two) (y3 : LA RecEl lRec U w v3 m.three) (hm : m.fits) (hG : GE w) (hsz : 21 ≤ w.heap.size) {Tz : TypeId} {xz : Option Addr} (hg0 : w.rangeAt 0 0 [.iface Tz (.pointer xz)]) (hCT : CmpT Tz) {B mb : Nat} {sf : Int → ByteArray} (hBw : B ≤ w.heap.size) (hSM : SecMap B mb sf w) {ct : UInt16}  :
  Ret PP 5 [ag (msgSegs m.head va v1 v2 v3), .int .u16 (ct.toNat : Int)] w (fun u w' => u = .bool true ∧ Fr0 w w') := by
 obtain ⟨aa, ca, rfl⟩ := ha.form
 obtain ⟨a1, c1, rfl⟩ := y1.form
 obtain ⟨a2, c2, rfl⟩ := y2.form
 obtain ⟨a3, c3, rfl⟩ := y3.form
 have hfl := hm.lists
 have hctl := u16lt ct
 have hf : Fr (fun _ => False) w w := Fr.refl _ _
 refine ret_of Tryz.func5 rfl rfl rfl [(0, _), (1, _)] rfl ?_
 refine sreg ?_
 refine svK (xboxS (lens := lMsg) rfl rfl) ?_
 rintro _ w2 ⟨b2, rfl, m3, h2, e1, s1⟩
 have ha := ha.keep ask_st (lU hU (by omega)) m3 nF
 have y1 := y1.keep rec_st (lU hU (by omega)) m3 nF
 have y2 := y2.keep rec_st (lU hU (by omega)) m3 nF
 have y3 := y3.keep rec_st (lU hU (by omega)) m3 nF
 have hG := hG.keep (fun k hk => by omega) m3 nF
 have hg0 := rng_fr hg0 m3 (by omega) id
 have hSM := hSM.keep (fun k hk => by omega) m3 nF
 have hf := hf.step0 m3
 refine sA rfl (send (fg [(1, _), (2, _)] ⟨rfl, rfl, ⟨⟩⟩ fun _ => (wp_seq (sreg (sv (xldS (lens := lMsg) ro28 rfl h2.r) ?_)))))
 refine sc (xcall ca12 rfl) (c12 (lU hU (by omega)) ha y1 y2 y3 hm) ?_
 rintro _ w4 ⟨rfl, m5⟩
 have z6 := m5.size
 have ha := ha.keep ask_st (lU hU (by omega)) m5 nF
 have y1 := y1.keep rec_st (lU hU (by omega)) m5 nF
 have y2 := y2.keep rec_st (lU hU (by omega)) m5 nF
 have y3 := y3.keep rec_st (lU hU (by omega)) m5 nF
 have hG := hG.keep (fun k hk => by omega) m5 nF
 have hg0 := rng_fr hg0 m5 (by omega) id
 have hSM := hSM.keep (fun k hk => by omega) m5 nF
 have hf := hf.step0 m5
 have h2 := h2.keep m5 id
 refine sv (xnot rfl) (send (fg [(1, _), (2, _), (13, _)] ⟨rfl, rfl, rfl, ⟨⟩⟩ fun _ => (cno rfl (wp_skip (nThen (fg [(1, _), (2, _)] ⟨rfl, rfl, ⟨⟩⟩ fun _ => (sreg (sv (xldS (lens := lMsg) ro28 rfl h2.r) ?_))))))))
 refine sc (xcall ca13 rfl) (c13 (U := U) (lU hU (by omega)) ha y1 y2 y3 hm.2.1 hfl.2 hfl.1 hm.1) ?_
 rintro _ w7 ⟨vc, vc1, vc2, vc3, rfl, ka, z1, z2, z3, m8⟩
 have z9 := m8.size
 have hG := hG.keep (fun k hk => by omega) m8 nF
 have hg0 := rng_fr hg0 m8 (by omega) id
 have hSM := hSM.keep (fun k hk => by omega) m8 nF
 have hf := hf.step0 m8
 obtain ⟨ac, cc, rfl⟩ := ka.form
 obtain ⟨ac1, cc1, rfl⟩ := z1.form
 obtain ⟨ac2, cc2, rfl⟩ := z2.form
 obtain ⟨ac3, cc3, rfl⟩ := z3.form
 refine svK (xallS (lens := lMsg) in34 rfl) ?_
 rintro _ w11 ⟨b5, rfl, m12, h5, e10, s10⟩
 have hG := hG.keep (fun k hk => by omega) m12 nF
 have hg0 := rng_fr hg0 m12 (by omega) id
 have hSM := hSM.keep (fun k hk => by omega) m12 nF
 have hf := hf.step0 m12
 have ka := ka.keep ask_st (lUb hU (by omega) (by omega)) m12 nF
 have z1 := z1.keep rec_st (lUb hU (by omega) (by omega)) m12 nF
 have z2 := z2.keep rec_st (lUb hU (by omega) (by omega)) m12 nF
 have z3 := z3.keep rec_st (lUb hU (by omega) (by omega)) m12 nF
 refine suK (xstW h5 (lens' := lMsg) sz34 rfl rfl rfl rfl rfl) ?_
 rintro w14 ⟨m15, h5, s13⟩
 have hG := hG.keep (fun k hk => by omega) m15 (fun k hk hS => by have hk := hk; have hS : k = b5 := hS; omega)
 have hg0 := rng_fr hg0 m15 (by omega) (by show ¬ (0 = b5); omega)
 have hSM := hSM.keep (fun k hk => by omega) m15 (fun k hk hS => by have hk := hk; have hS : k = b5 := hS; omega)
 have hf := hf.step m15 (nB (by omega))
 have ka := ka.keep ask_st (lUb hU (by omega) (by omega)) m15 (fun k hk hS => by have hk := Ub.num hU hk; have hS : k = b5 := hS; omega)
 have z1 := z1.keep rec_st (lUb hU (by omega) (by omega)) m15 (fun k hk hS => by have hk := Ub.num hU hk; have hS : k = b5 := hS; omega)
 have z2 := z2.keep rec_st (lUb hU (by omega) (by omega)) m15 (fun k hk hS => by have hk := Ub.num hU hk; have hS : k = b5 := hS; omega)
 have z3 := z3.keep rec_st (lUb hU (by omega) (by omega)) m15 (fun k hk hS => by have hk := Ub.num hU hk; have hS : k = b5 := hS; omega)
 refine send (fg [(1, _), (5, _)] ⟨rfl, rfl, ⟨⟩⟩ fun _ => (wp_seq (sreg (sv (xldS (lens := lMsg) ro34 rfl h5.r) ?_))))
 refine sc (xcall ca14 rfl) (c14 (lUb hU (by omega) (by omega)) ka z1 z2 z3 hm.2.1 hfl.2 hfl.1 hm.1) ?_
 rintro _ w16 ⟨gb17, rfl, gp17, m17⟩
 have z18 := m17.size
 have hG := hG.keep (fun k hk => by omega) m17 nF
 have hg0 := rng_fr hg0 m17 (by omega) id
 have hSM := hSM.keep (fun k hk => by omega) m17 nF
 have hf := hf.step0 m17
 have ka := ka.keep ask_st (lUb hU (by omega) (by omega)) m17 nF
 have z1 := z1.keep rec_st (lUb hU (by omega) (by omega)) m17 nF
 have z2 := z2.keep rec_st (lUb hU (by omega) (by omega)) m17 nF
 have z3 := z3.keep rec_st (lUb hU (by omega) (by omega)) m17 nF
 have h5 := h5.keep m17 id
 rcases Bool.eq_false_or_eq_true gb17 with rfl | rfl
 ·
  have hfew := gp17 rfl
  obtain ⟨hna, hpk, hcn, hho⟩ := few_pack hfew
  have hpm := packM_ge (some []) m
  have hpM := packM_le hfew
  refine sv (xnot rfl) (sM rfl (gyes rfl rfl rfl (sv (xldS (lens := lMsg) ro34 rfl h5.r) (gyes rfl rfl rfl ?_))))
  refine sc (xcall ca16 rfl) (c16 (lUb hU (by omega) (by omega)) ka z1 z2 z3 hfl.2 hfl.1) ?_
  rintro _ w19 ⟨gb21, rfl, gp21, m20⟩
  have z21 := m20.size
  have hG := hG.keep (fun k hk => by omega) m20 nF
  have hg0 := rng_fr hg0 m20 (by omega) id
  have hSM := hSM.keep (fun k hk => by omega) m20 nF
  have hf := hf.step0 m20
  have ka := ka.keep ask_st (lUb hU (by omega) (by omega)) m20 nF
  have z1 := z1.keep rec_st (lUb hU (by omega) (by omega)) m20 nF
  have z2 := z2.keep rec_st (lUb hU (by omega) (by omega)) m20 nF
  have z3 := z3.keep rec_st (lUb hU (by omega) (by omega)) m20 nF
  have h5 := h5.keep m20 id
  rcases Bool.eq_false_or_eq_true gb21 with rfl | rfl
  ·
   have hpl := gp21 rfl
   have hrok : ∀ l ∈ [m.one, m.two, m.three], ∀ r ∈ l, ReadOk r := fun l hl r hr => readOk_of (hpk l hl r hr) (hpl l hl r hr)
   refine gyes rfl rfl rfl (sv (xnot rfl) (sv (xpickF rfl rfl) (send (fg [(1, _), (5, _), (23, _)] ⟨rfl, rfl, rfl, ⟨⟩⟩ fun _ => (cno rfl (wp_skip (nThen (fg [(1, _), (5, _)] ⟨rfl, rfl, ⟨⟩⟩ fun _ => ?_))))))))
   have hmL := msgL_le hfew
   have hpm0 := packM_ge none m
   rw [packM_non (few_names hfew).1] at hpm0
   have hcl : ct.toNat % (msgL m).length < (msgL m).length := Nat.mod_lt _ (by omega)
   refine sreg (sv (xldS (lens := lMsg) ro34 rfl h5.r) ?_)
   refine sc (xcall ca20 rfl) (c20f (lUb hU (by omega) (by omega)) hm hfew ka z1 z2 z3) ?_
   rintro _ w22 ⟨p25, q25, g25, rfl, r25, m23, a25, l25⟩
   have z24 := m23.size
   have hG := hG.keep (fun k hk => by omega) m23 nF
   have hg0 := rng_fr hg0 m23 (by omega) id
   have hSM := hSM.keep (fun k hk => by omega) m23 nF
   have hf := hf.step0 m23
   obtain ⟨x25, y25, hx25, hcap25, -, hsome25, -⟩ := Rw.form r25
   simp only [Value.slice.injEq] at hx25
   obtain ⟨rfl, -, rfl⟩ := hx25
   obtain rfl := hsome25 (by omega)
   refine sA rfl (send (fg [(1, _), (6, _)] ⟨rfl, rfl, ⟨⟩⟩ fun _ => (sreg (sM rfl (sM rfl (sv (xconv hs22 ki3 rfl (w64 (by omega) (by omega))) (sM rfl (sv (xlen sl37 rfl) (sv (xrem64 (a := ct.toNat) (b := (msgL m).length) rfl rfl (by omega) (by omega)) (sv (xcutH (hi := ct.toNat % (msgL m).length) sl37 sz5 rfl rfl rfl (by omega)) ?_))))))))))
   refine sc (xcall ca22 rfl) (c22 (U := fun k => k = g25) (b := msgL m) (n := ct.toNat % (msgL m).length) (m := m) (Kp := fun k => k = 0) (B := B) (mb := mb) (sf := sf) (fun k hk => by have hk : k = g25 := hk; omega) (cut_ba r25 (by omega) hcl) (by omega) (by omega) hG (by omega) (msgL_at (few_names hfew).1 (few_names hfew).2 rfl) (fun k hk => ⟨by omega, .inl hk⟩) hho (by omega) (by omega) (by omega) (by omega) hna (fun r hr => ⟨hrok m.one (by simp) r hr, asc_of (hpk m.one (by simp) r hr)⟩) (fun r hr => ⟨hrok m.two (by simp) r hr, asc_of (hpk m.two (by simp) r hr)⟩) (fun r hr => ⟨hrok m.three (by simp) r hr, asc_of (hpk m.three (by simp) r hr)⟩) hg0 hCT (by omega) (.inr hSM) (fun r hr => back_of (hpk m.one (by simp) r hr) (hfl.2 m.one (by simp) r hr)) (fun r hr => back_of (hpk m.two (by simp) r hr) (hfl.2 m.two (by simp) r hr)) (fun r hr => back_of (hpk m.three (by simp) r hr) (hfl.2 m.three (by simp) r hr))) ?_
   rintro _ w25 ⟨⟨hge, -⟩ | ⟨-, rfl⟩, m26⟩
   · exact absurd hge (by omega)
   ·
    have z27 := m26.size
    have hG := hG.keep (fun k hk => by omega) m26 nF
    have hg0 := rng_fr hg0 m26 (by omega) id
    have hf := hf.step0 m26
    have r25 := r25.keep m26 id
    refine sM rfl (sv (xex20 rfl) (sv (xex21 rfl) ?_))
    refine svK (xallS (lens := lMsg) in28 rfl) ?_
    rintro _ w29 ⟨b7, rfl, m30, h7, e28, s28⟩
    have hG := hG.keep (fun k hk => by omega) m30 nF
    have hg0 := rng_fr hg0 m30 (by omega) id
    have hf := hf.step0 m30
    have r25 := r25.keep m30 id
    refine suK (xstW h7 (lens' := lMsg) sz28 (by simp []) rfl (by simp [Value.oneCell']) rfl rfl) ?_
    rintro w32 ⟨m33, h7, s31⟩
    have hG := hG.keep (fun k hk => by omega) m33 (fun k hk hS => by have hk := hk; have hS : k = b7 := hS; omega)
    have hg0 := rng_fr hg0 m33 (by omega) (by show ¬ (0 = b7); omega)
    have hf := hf.step m33 (nB (by omega))
    have r25 := r25.keep m33 (by show ¬ (g25 = b7); omega)
    refine sA rfl (send (fg [(6, _), (8, _)] ⟨rfl, rfl, ⟨⟩⟩ fun _ => (sreg (sM rfl ?_))))
    refine sc (xcall ca22 rfl) (c22 (U := fun k => k = g25) (b := msgL m) (n := (msgL m).length) (m := m) (Kp := fun k => k = 0) (B := 0) (mb := 0) (sf := fun _ => emptyB) (fun k hk => by have hk : k = g25 := hk; omega) (by rw [List.take_length]; exact BR.ba r25 rfl) (Nat.le_refl _) (by omega) hG (by omega) (msgL_at (few_names hfew).1 (few_names hfew).2 rfl) (fun k hk => ⟨by omega, .inl hk⟩) hho (by omega) (by omega) (by omega) (by omega) hna (fun r hr => ⟨hrok m.one (by simp) r hr, asc_of (hpk m.one (by simp) r hr)⟩) (fun r hr => ⟨hrok m.two (by simp) r hr, asc_of (hpk m.two (by simp) r hr)⟩) (fun r hr => ⟨hrok m.three (by simp) r hr, asc_of (hpk m.three (by simp) r hr)⟩) hg0 hCT (by omega) (.inl (Nat.le_refl _)) (fun r hr => back_of (hpk m.one (by simp) r hr) (hfl.2 m.one (by simp) r hr)) (fun r hr => back_of (hpk m.two (by simp) r hr) (hfl.2 m.two (by simp) r hr)) (fun r hr => back_of (hpk m.three (by simp) r hr) (hfl.2 m.three (by simp) r hr))) ?_
    rintro _ w34 ⟨⟨-, l1, l2, l3, ua, u1, u2, u3, rfl, jl1, jl2, jl3, ja, j1, j2, j3⟩ | ⟨hlt, -⟩, m35⟩
    ·
     have z36 := m35.size
     have hf := hf.step0 m35
     obtain ⟨ada, cda, rfl⟩ := ja.form
     obtain ⟨ad1, cd1, rfl⟩ := j1.form
     obtain ⟨ad2, cd2, rfl⟩ := j2.form
     obtain ⟨ad3, cd3, rfl⟩ := j3.form
     obtain ⟨bf1, bf2, bf3⟩ := back_fits hm hfew jl1 jl2 jl3
     refine sM rfl (sv (xex20 rfl) (sv (xex21 rfl) ?_))
     refine svK (xallS (lens := lMsg) in28 rfl) ?_
     rintro _ w38 ⟨b9, rfl, m39, h9, e37, s37⟩
     have hf := hf.step0 m39
     refine suK (xstW h9 (lens' := lMsg) sz28 rfl rfl rfl rfl rfl) ?_
     rintro w41 ⟨m42, h9, s40⟩
     have hf := hf.step m42 (nB (by omega))
     refine sA rfl (send (fg [(8, _), (10, _)] ⟨rfl, rfl, ⟨⟩⟩ fun _ => (sreg (sM rfl (sv (xnot rfl) (sM rfl (gyes rfl rfl rfl (sM rfl (sv (xpickT rfl rfl) (sA rfl (send (fg [(4, _)] ⟨rfl, ⟨⟩⟩ fun _ => (wp_ret ?_)))))))))))))
     refine rp1 rfl rfl ?_
     first | exact ⟨rfl, hf⟩ | exact ⟨by simp, hf⟩
    · exact absurd hlt (Nat.lt_irrefl _)
  ·
   refine gyes rfl rfl rfl (sv (xnot rfl) (sv (xpickF rfl rfl) (send (fg [(1, _), (5, _), (23, _)] ⟨rfl, rfl, rfl, ⟨⟩⟩ fun _ => (cyes rfl (sreg (sA rfl (send (fg [(4, _)] ⟨rfl, ⟨⟩⟩ fun _ => (wp_ret (rThen ?_)))))))))))
   refine rp1 rfl rfl ?_
   first | exact ⟨rfl, hf⟩ | exact ⟨by simp, hf⟩
 ·
  refine sv (xnot rfl) (sM rfl (gno rfl rfl rfl (gno rfl rfl rfl (gno rfl rfl rfl (sv (xpickT rfl rfl) (send (fg [(1, _), (5, _), (23, _)] ⟨rfl, rfl, rfl, ⟨⟩⟩ fun _ => (cyes rfl (sreg (sA rfl (send (fg [(4, _)] ⟨rfl, ⟨⟩⟩ fun _ => (wp_ret (rThen ?_))))))))))))))
  refine rp1 rfl rfl ?_
  first | exact ⟨rfl, hf⟩ | exact ⟨by simp, hf⟩
end Go.Proofs.YtifnodoffgfpbaaGreatDoor

namespace Go.Proofs.YtifnodoffgfpbaaGreatDoor
open Go

theorem star_err : "*" ++ "errors.errorString" = "*errors.errorString" := by decide
theorem row332 (u : TypeId) (h : PP.typeName? 3 u = some "*errors.errorString") : u = 332 :=
  typeName_ptr_named (nm := "errors.errorString") (by rw [star_err]; kernel_rfl) (by kernel_rfl) (by decide) u (by rw [star_err]; exact h)
theorem cmp_332 : (match PP.underlying 332 with
    | some (.pointer e) => (PP.info? 332).any (·.comparable) && (PP.info? e).isSome
    | _ => false) = true := by kernel_rfl
theorem cmpT_332 : CmpT 332 := by
  have hr := cmp_332
  cases hu : PP.underlying 332 with
  | none => rw [hu] at hr; cases hr
  | some d =>
    rw [hu] at hr
    cases d with
    | pointer e =>
      simp only [Bool.and_eq_true] at hr
      obtain ⟨h1, h2⟩ := hr
      cases hi : PP.info? 332 with
      | none => rw [hi] at h1; simp at h1
      | some i =>
        rw [hi] at h1
        obtain ⟨j, hj⟩ := Option.isSome_iff_exists.1 h2
        exact ⟨by decide, e, i, j, hu, hi, by simpa using h1, hj⟩
    | _ => cases hr
theorem rng_one {w : World} {b : Nat} {v : Value} (h : w.cell? ⟨b, 0, none⟩ = some v) : w.rangeAt b 0 [v] := fun j u hu => by
  cases j with
  | zero => simp at hu; subst hu; exact h
  | succ j => simp at hu
end Go.Proofs.YtifnodoffgfpbaaGreatDoor

namespace Go.Proofs.YtifnodoffgfpbaaGreatDoor
open Go Go.ChangeShapes Go.WideShapes

theorem mapM_mem {α β : Type} {f : α → Option β} : ∀ {l : List α} {ys : List β}, l.mapM f = some ys → ∀ x ∈ l, ∃ y ∈ ys, f x = some y
  | [], ys, h, x, hx => by cases hx
  | a :: l, ys, h, x, hx => by
    simp only [List.mapM_cons, Option.bind_eq_bind, Option.pure_def, Option.bind_eq_some_iff, Option.some.injEq] at h
    obtain ⟨b, hb, bs, hbs, rfl⟩ := h
    rcases List.mem_cons.1 hx with rfl | hx
    · exact ⟨b, by simp, hb⟩
    · obtain ⟨y, hy, h2⟩ := mapM_mem hbs x hx
      exact ⟨y, by simp [hy], h2⟩
theorem mem_sorted {H : Type} {y : Lit × DataW H} : ∀ {l : List (Lit × DataW H)}, y ∈ l → y ∈ l.foldr DataW.insert []
  | [], h => by cases h
  | x :: l, h => by
    rw [List.foldr_cons]
    exact Go.ChangeMaps.mem_insert_iff.2 (by
      rcases List.mem_cons.1 h with rfl | h
      · exact .inl rfl
      · exact .inr (mem_sorted h))
theorem trod_map {P : Program} {W : World} {fuel : Nat} {t k e : TypeId} {cs : List Value} {L : List (Lit × DataW Unit)} {p : List MemPlace} (hu : P.underlying t = some (.map k e)) (h : DataW.trod (fun _ => ()) P W 0 (fun _ => true) false fuel t cs = some (.map L, p)) :
    ∃ b es clock, cs = [.map (some b)] ∧ W.heap[b]? = some (.map es clock) ∧ ∀ x ∈ es.toList, ∃ key d, keyOf P k x.key = some key ∧ (key, d) ∈ L ∧ x.val.formed P e = true ∧ ∃ m q, DataW.trod (fun _ => ()) P W 0 (fun _ => true) false m e x.val.cells.toList = some (d, q) := by
  cases fuel with
  | zero => simp [DataW.trod] at h
  | succ n =>
    unfold DataW.trod at h
    rw [hu] at h
    match cs, h with
    | [.map none], h => simp at h
    | [.map (some b)], h =>
      simp only [] at h
      cases hb : W.heap[b]? with
      | none => rw [hb] at h; simp at h
      | some o =>
        rw [hb] at h
        cases o with
        | map es clock =>
          simp only [] at h
          split at h
          · simp only [Option.bind_eq_some_iff] at h
            obtain ⟨entries, hen, h⟩ := h
            split at h
            · simp only [Option.some.injEq, Prod.mk.injEq, DataW.map.injEq] at h
              obtain ⟨rfl, -⟩ := h
              refine ⟨b, es, clock, rfl, hb, fun x hx => ?_⟩
              obtain ⟨y, hy, hfx⟩ := mapM_mem hen x hx
              simp only [Option.bind_eq_some_iff] at hfx
              obtain ⟨key, hkey, hfx⟩ := hfx
              split at hfx
              · rename_i hform
                simp only [Option.map_eq_some_iff] at hfx
                obtain ⟨z, hz, rfl⟩ := hfx
                exact ⟨key, z.1, hkey, mem_sorted (List.mem_map.2 ⟨_, hy, rfl⟩), hform, n, z.2, hz⟩
              · cases hfx
            · cases h
          · cases h
        | _ => simp at h
theorem u122 : PP.underlying 122 = some (.int .u8) := intB_spec ki122
theorem u9 : PP.underlying 9 = some .string := strB_spec st9
theorem key_u8 {v : Value} {i : Int} (h : keyOf PP 122 v = some (.int .u8 i)) : v = .int .u8 i := by
  unfold keyOf at h
  rw [u122] at h
  simp only [] at h
  unfold mapKey at h
  rw [u122] at h
  cases v with
  | int q n =>
    simp only [] at h
    split at h
    · rename_i hc
      simp only [Option.some.injEq, Lit.int.injEq] at h
      obtain ⟨rfl, -⟩ := hc
      obtain ⟨-, rfl⟩ := h
      rfl
    · cases h
  | _ => simp at h
theorem val_str {W : World} {v : Value} {m : Nat} {bs : List UInt8} {q : List MemPlace} (hf : v.formed PP 9 = true) (h : DataW.trod (fun _ => ()) PP W 0 (fun _ => true) false m 9 v.cells.toList = some (.lit (.string bs), q)) : ∃ s : ByteArray, v = .string s ∧ s.data.toList = bs := by
  cases m with
  | zero => simp [DataW.trod] at h
  | succ n =>
    unfold DataW.trod at h
    rw [u9] at h
    cases v with
    | agg cs => simp [Value.formed] at hf
    | string s =>
      simp only [Value.cells] at h
      split at h
      · simp only [Option.some.injEq, Prod.mk.injEq, DataW.lit.injEq, Lit.string.injEq] at h
        exact ⟨s, rfl, h.1⟩
      · cases h
    | tuple vs => simp [Value.formed] at hf
    | _ => simp [Value.cells] at h
theorem find_ok (q : Int) : ∀ (l : List MapEntry) (i : Nat), (∀ x ∈ l, ∃ (k : Int) (s : ByteArray), x.key = .int .u8 k ∧ x.val = .string s ∧ s.size ≤ 10) →
    Instr.findNow (.int .u8) (.int .u8 q) l i = some none ∨ ∃ (j : Nat) (s : ByteArray), Instr.findNow (.int .u8) (.int .u8 q) l i = some (some (j, .string s)) ∧ s.size ≤ 10
  | [], i, _ => .inl rfl
  | x :: l, i, h => by
    obtain ⟨k, s, hk, hv, hs⟩ := h x (by simp)
    by_cases hq : q = k
    · subst hq
      exact .inr ⟨i, s, by simp [Instr.findNow, Instr.sameNow, hk, hv], hs⟩
    · have hb : (q == k) = false := by simp [hq]
      have e : Instr.findNow (.int .u8) (.int .u8 q) (x :: l) i = Instr.findNow (.int .u8) (.int .u8 q) l (i + 1) := by simp [Instr.findNow, Instr.sameNow, hk, hb]
      rw [e]
      exact find_ok q l (i + 1) (fun y hy => h y (by simp [hy]))
/-- THE SECTIONS' NAMES -/
theorem sec_of {W : World} {l : List (String × DataW Unit)} (h : laidMet PP l W) {n : String} {L : List (Lit × DataW Unit)} (hm : (n, .map L) ∈ l) (hg : PP.globalNamed n = some 14) (ht : (PP.globals[14]?).map (·.type) = some 288)
    (hL : ∀ x ∈ L, ∃ (i : Int) (bs : List UInt8), x = (.int .u8 i, .lit (.string bs)) ∧ bs.length ≤ 10) : ∃ mb f, SecMap W.heap.size mb f W := by
  obtain ⟨g', t, cs, fuel, p, h1, h2, h3, h4, h5⟩ := laid_var h hm
  obtain rfl : 14 = g' := Option.some.inj (hg.symm.trans h1)
  obtain rfl : 288 = t := Option.some.inj (ht.symm.trans h2)
  obtain ⟨mb, es, c, hcs, hb, hx⟩ := trod_map (mapB_spec mp288) h4
  have hc : W.cell? ⟨14, 0, none⟩ = some (.map (some mb)) := by
    rw [World.var?_cell h1 h3 0]
    have : cs.toList[0]? = some (.map (some mb)) := by rw [hcs]; rfl
    simpa using this
  have hes : ∀ x ∈ es.toList, ∃ (k : Int) (s : ByteArray), x.key = .int .u8 k ∧ x.val = .string s ∧ s.size ≤ 10 := fun x hx' => by
    obtain ⟨key, d, hk, hd, hf, m, q, ht⟩ := hx x hx'
    obtain ⟨i, bs, he, hl⟩ := hL _ hd
    simp only [Prod.mk.injEq] at he
    obtain ⟨rfl, rfl⟩ := he
    obtain ⟨s, hs, hsb⟩ := val_str hf ht
    refine ⟨i, s, key_u8 hk, hs, ?_⟩
    rw [← bt_length, bt, hsb]; exact hl
  refine ⟨mb, fun q => match Instr.findNow (.int .u8) (.int .u8 q) es.toList 0 with | some (some (_, .string s)) => s | _ => ⟨#[]⟩, cell_lt hc, (Array.getElem?_eq_some_iff.1 hb).1, hc, es, c, hb, fun q _ _ => ?_⟩
  rcases find_ok q es.toList 0 hes with hn | ⟨j, s, hj, hs⟩
  · simp only [hn]
    exact ⟨by decide, .inl ⟨trivial, trivial⟩⟩
  · simp only [hj]
    exact ⟨by omega, .inr ⟨j, rfl⟩⟩
end Go.Proofs.YtifnodoffgfpbaaGreatDoor

namespace Go.Proofs.YtifnodoffgfpbaaGreatDoor
open Go Go.ChangeShapes Go.WideShapes Go.RowKit

/-- the names of sections, as a map's entries -/
def secEnts : Array MapEntry := #[⟨.int .u8 1, .string ⟨#[104, 101, 97, 100, 101, 114]⟩, 0⟩, ⟨.int .u8 2, .string ⟨#[81, 117, 101, 115, 116, 105, 111, 110]⟩, 1⟩, ⟨.int .u8 3, .string ⟨#[65, 110, 115, 119, 101, 114]⟩, 2⟩,
  ⟨.int .u8 4, .string ⟨#[65, 117, 116, 104, 111, 114, 105, 116, 121]⟩, 3⟩, ⟨.int .u8 5, .string ⟨#[65, 100, 100, 105, 116, 105, 111, 110, 97, 108]⟩, 4⟩]
/-- the listed variables but the last are laid; then variable 14 is made to hold a map -/
noncomputable def wmOf (l : List (String × DataW Unit)) (os : Os) : World :=
  let b := (World.holding PP os ⟨#[], #[], []⟩).layVars PP (l.take 11)
  { b with heap := (b.heap.push (.map secEnts 5)).modify 14 fun o => match o with
    | .cells _ t f => .cells #[.map (some b.heap.size)] t f
    | o => o }
theorem wmOf_os (l : List (String × DataW Unit)) (os : Os) : (wmOf l os).os = os := World.layVars_os _ _ _
theorem witness_at {H : Type} {enc : TypeId × Value → H} {os : Os} {f : FuncId} {fn : Func} {s : OpenSpec} {conds : List PathCond} {laid : List (String × DataW Unit)} (WB : World) (ho : WB.os = os) (args : Array Value)
    (hv : (WB.forCall (fun _ _ => 0) ⟨#[], args, []⟩).variablesZipB PP = true)
    (hr : ((WB.forCall (fun _ _ => 0) ⟨#[], args, []⟩).heap.toList.drop PP.globals.size).take ((begin PP (fun _ _ => 0) default).world.heap.size - PP.globals.size) =
      (begin PP (fun _ _ => 0) default).world.heap.toList.drop PP.globals.size)
    (hok : Input.okWideB PP (WB.forCall (fun _ _ => 0) ⟨#[], args, []⟩) f ⟨#[], args, []⟩ = true)
    (hrow : s.preRow enc PP fn conds false laid (WB.forCall (fun _ _ => 0) ⟨#[], args, []⟩).memory args) :
    ∃ (w : World) (tape : Tape) (i : Input), w.os = os ∧ (w.forCall tape i).Shaped PP ∧ i.vars = [] ∧ Input.okWide PP (w.forCall tape i) .any w.heap.size f i ∧
      s.preRow enc PP fn conds false laid (w.forCall tape i).memory i.args ∧ ({} : Assume).holds PP (lone (Frame.enter PP f i.args .normal) [] (w.forCall tape i)) :=
  ⟨WB, fun _ _ => 0, ⟨#[], args, []⟩, ho, World.shaped_of_ZipB hv hr, (Input.okWide_of_okWideB (base := 0) hok).1, (Input.okWide_of_okWideB hok).2, hrow, by
    simp only [Assume.holds]
    exact ⟨by simp, by simp, fun _ => Modest.zero, by simp, by simp⟩⟩
end Go.Proofs.YtifnodoffgfpbaaGreatDoor
