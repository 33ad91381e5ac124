/- Part 6 of the texts for a law of this seat: walks, and plain laws about messages; conditions: none. -/
import Derived.Test.YtifnodoffgfpbaaGreatDoorSk5
set_option maxHeartbeats 4000000
set_option maxRecDepth 100000
namespace Go.Proofs.YtifnodoffgfpbaaGreatDoor
open Go

def Sh (w : World) (bw : Nat) (bs : List UInt8) (M : Ent) (g0 g1 g2 : Nat) : Prop :=
  ∃ v0 v1 v2, SB w bw lSh [[v0], [v1], [v2]] ∧ BR w v0 g0 bs.length bs ∧ RN w v1 g1 9 M.length (strs (M.map Prod.fst)) ∧ RN w v2 g2 3 M.length (ints (M.map Prod.snd)) ∧ g0 < w.heap.size ∧ g1 < w.heap.size ∧ g2 < w.heap.size ∧ g0 ≠ bw ∧
    ((M.length = 0 ∧ g1 = bw ∧ g2 = bw) ∨ (0 < M.length ∧ g1 ≠ bw ∧ g2 ≠ bw ∧ g1 ≠ g2 ∧ g1 ≠ g0 ∧ g2 ≠ g0))
theorem Sh.keep {S : Nat → Prop} {w w' : World} {bw g0 g1 g2 : Nat} {bs : List UInt8} {M : Ent} (h : Sh w bw bs M g0 g1 g2) (m : Fr S w w') (hb : ¬ S bw) (h0 : ¬ S g0) (h1 : ¬ S g1) (h2 : ¬ S g2) : Sh w' bw bs M g0 g1 g2 := by
  obtain ⟨v0, v1, v2, a, b, c, d, e, f, g, i, j⟩ := h
  have hs := m.size
  exact ⟨v0, v1, v2, a.keep m hb, b.keep m h0, c.keep m (fun _ => h1), d.keep m (fun _ => h2), by omega, by omega, by omega, i, j⟩
def PkJ (M : Ent) (n : Nat) (s : ByteArray) (rest out : List UInt8) (M1 : Ent) : Prop :=
  (rest = [46] ∧ out = [] ∧ M1 = M ∧ bt s = [46]) ∨ (nameGo 0 rest = true ∧ packName (some M) n (bt s) = (out ++ (packGo (some M1) (n + out.length) [] rest).1, (packGo (some M1) (n + out.length) [] rest).2))
theorem pk_start {M : Ent} {n : Nat} {s : ByteArray} (h : nameL (bt s)) : PkJ M n s (bt s) [] M := by
  by_cases hd : bt s = [46]
  · exact .inl ⟨hd, rfl, rfl, hd⟩
  · rcases h with h | ⟨_, h, _⟩
    · exact absurd h hd
    · exact .inr ⟨h, by rw [packName, if_neg hd]; rfl⟩
theorem pk_fin {M M1 : Ent} {n : Nat} {s : ByteArray} {rest out : List UInt8} (h : PkJ M n s rest out M1) (hx : rest = [] ∨ rest = [46]) : packName (some M) n (bt s) = (out ++ [0], some M1) := by
  rcases h with ⟨_, rfl, rfl, hs⟩ | ⟨hn, hp⟩
  · rw [packName, if_pos hs]; rfl
  · rcases hx with rfl | rfl
    · rw [hp]; rfl
    · simp [nameGo] at hn
theorem pk_go {M M1 : Ent} {n : Nat} {s : ByteArray} {rest out : List UInt8} (h : PkJ M n s rest out M1) (h1 : rest ≠ []) (h2 : rest ≠ [46]) :
    ∃ lab rest', rest = lab ++ 46 :: rest' ∧ lab ≠ [] ∧ (∀ c ∈ lab, c ≠ 46) ∧ lab.length ≤ 63 ∧ nameGo 0 rest' = true ∧ packName (some M) n (bt s) = (out ++ (packGo (some M1) (n + out.length) [] rest).1, (packGo (some M1) (n + out.length) [] rest).2) := by
  rcases h with ⟨h, _⟩ | ⟨hn, hp⟩
  · exact absurd h h2
  · obtain ⟨lab, rest', e, h0, hd, hl, hn'⟩ := nameGo_first' hn h1
    exact ⟨lab, rest', e, h0, hd, hl, hn', hp⟩
theorem pk_hitJ {M M1 : Ent} {n : Nat} {s : ByteArray} {lab rest out : List UInt8} {p : UInt16} (h0 : lab ≠ []) (hd : ∀ c ∈ lab, c ≠ 46) (hl : look M1 (mkB (lab ++ 46 :: rest)) = some p)
    (hp : packName (some M) n (bt s) = (out ++ (packGo (some M1) (n + out.length) [] (lab ++ 46 :: rest)).1, (packGo (some M1) (n + out.length) [] (lab ++ 46 :: rest)).2)) : packName (some M) n (bt s) = (out ++ ptrL p, some M1) := by
  rw [hp, packGo_hit h0 hd hl]
theorem pk_missJ {M M1 : Ent} {n : Nat} {s : ByteArray} {lab rest out : List UInt8} (h0 : lab ≠ []) (hd : ∀ c ∈ lab, c ≠ 46) (hl : look M1 (mkB (lab ++ 46 :: rest)) = none) (hn : nameGo 0 rest = true)
    (hp : packName (some M) n (bt s) = (out ++ (packGo (some M1) (n + out.length) [] (lab ++ 46 :: rest)).1, (packGo (some M1) (n + out.length) [] (lab ++ 46 :: rest)).2)) :
    PkJ M n s rest (out ++ (UInt8.ofNat lab.length :: lab)) (if n + out.length ≤ 16383 then M1 ++ [(mkB (lab ++ 46 :: rest), UInt16.ofNat (n + out.length))] else M1) := by
  refine .inr ⟨hn, ?_⟩
  rw [hp, packGo_miss h0 hd hl]
  simp only [pkE, List.append_assoc, List.length_append, List.length_cons, Nat.add_assoc]
theorem ptr_be {p : UInt16} (h : p.toNat ≤ 16383) : ptrL p = be16 (p.toNat + 49152) := by
  have e1 : (p >>> 8 ||| 192).toNat = p.toNat / 256 + 192 := by
    rw [UInt16.toNat_or, UInt16.toNat_shiftRight]
    have h8 : (8 : UInt16).toNat % 16 = 8 := rfl
    have h192 : (192 : UInt16).toNat = 192 := rfl
    rw [h8, h192, Nat.shiftRight_eq_div_pow, Nat.or_comm]
    have := or_add (i := 6) (a := 3) (b := p.toNat / 256) (by omega)
    rw [show 2 ^ 6 * 3 = 192 by decide] at this
    rw [show (2 : Nat) ^ 8 = 256 by decide, this]; omega
  simp only [ptrL, be16]
  rw [e1]
  congr 1
  · congr 1; omega
  · congr 1
    exact (ofNat_mod (a := p.toNat + 49152) (b := p.toNat) (by omega)).symm
theorem or_49152 {p : Nat} (h : p ≤ 16383) : p ||| 49152 = p + 49152 := by
  rw [Nat.or_comm]
  have := or_add (i := 14) (a := 3) (b := p) (by omega)
  rw [show 2 ^ 14 * 3 = 49152 by decide] at this
  omega
theorem look_mem {M : Ent} {s : ByteArray} {p : UInt16} (h : look M s = some p) : ∃ a, (a, p) ∈ M := by
  induction M with
  | nil => simp [look] at h
  | cons x M ih =>
    obtain ⟨a, b⟩ := x
    simp only [look] at h
    split at h
    · simp only [Option.some.injEq] at h; subst h; exact ⟨a, by simp⟩
    · obtain ⟨c, hc⟩ := ih h; exact ⟨c, by simp [hc]⟩
theorem mkB_get {l : List UInt8} {i : Nat} (_h : i < (mkB l).size) (h2 : i < l.length) : (mkB l)[i] = l[i] := by
  show (mkB l).data[i] = _
  simp
theorem sep_at {lab rest : List UInt8} {i : Nat} (h : i < (mkB (lab ++ 46 :: rest)).size) (hi : i = lab.length) : ((mkB (lab ++ 46 :: rest))[i]).toNat = 46 := by
  subst hi
  rw [mkB_get h (by simp), List.getElem_append_right (by omega)]
  simp
theorem let_at {lab rest : List UInt8} {i : Nat} (h : i < (mkB (lab ++ 46 :: rest)).size) (hi : i < lab.length) (hd : ∀ c ∈ lab, c ≠ 46) : ((mkB (lab ++ 46 :: rest))[i]).toNat ≠ 46 := by
  rw [mkB_get h (by simp; omega), List.getElem_append_left hi]
  intro e
  exact hd _ (List.getElem_mem hi) (u8eq (by rw [e]; rfl))
theorem mkB_pre (xs ys : List UInt8) : (mkB (xs ++ ys)).extract 0 xs.length = mkB xs := by
  apply ByteArray.ext
  simp [ByteArray.data_extract]
theorem mkB_suf (xs ys : List UInt8) : (mkB (xs ++ ys)).extract xs.length (mkB (xs ++ ys)).size = mkB ys := by
  apply ByteArray.ext
  rw [mkB_size]
  simp [ByteArray.data_extract]
section
variable {P : Program} {n : Nat} {l : List (Nat × Value)} {w : World} {ty : TypeId} {x y : Operand}
theorem xor16N {T U : TypeId} {a b c : Nat} (hx : ev n l x = some (.int .u16 (a : Int))) (hy : ev n l y = some (.int .u16 (b : Int))) (ha : a < 65536) (hb : b < 65536) (hc : a ||| b = c) : Ex P n l (.binOp .or T x y U) ty w (.int .u16 (c : Int)) w :=
  xbin hx hy rfl (by rw [binOp_or, intBits_or, or16 a b ha hb, hc]; rfl)
theorem xcutSHb {T : TypeId} {xs ys : List UInt8} {k : IntKind} {j : Int} {q : Operand} (hT : strB P T = true) (hx : ev n l x = some (.string (mkB (xs ++ ys)))) (hq : ev n l q = some (.int k j)) (hj : j = (xs.length : Int)) : Ex P n l (.slice T x none (some q) none) ty w (.string (mkB xs)) w := by
  have := xcutSH (w := w) (ty := ty) hT hx hq hj (by rw [mkB_size]; simp)
  rwa [mkB_pre] at this
theorem xcutSLb {T : TypeId} {xs ys : List UInt8} {k : IntKind} {i : Int} {p : Operand} (hT : strB P T = true) (hx : ev n l x = some (.string (mkB (xs ++ ys)))) (hp : ev n l p = some (.int k i)) (hi : i = (xs.length : Int)) : Ex P n l (.slice T x (some p) none none) ty w (.string (mkB ys)) w := by
  have := xcutSL (w := w) (ty := ty) hT hx hp hi (by rw [mkB_size]; simp)
  rwa [mkB_suf] at this
end
theorem RN.rw0 {w : World} {v : Value} {g e n : Nat} {cs : List Value} (h : RN w v g e n cs) (h0 : n = 0) : Rw w v w.heap.size e 1 n cs := by
  rcases h with ⟨rfl, rfl, rfl⟩ | ⟨h1, h⟩
  · exact Rw.nil _ _ _ _
  · omega
theorem RN.rw1 {w : World} {v : Value} {g e n : Nat} {cs : List Value} (h : RN w v g e n cs) (h0 : 0 < n) : Rw w v g e 1 n cs := by
  rcases h with ⟨rfl, rfl, rfl⟩ | ⟨h1, h⟩
  · omega
  · exact h
theorem sh_mk {w : World} {bw g0 g1 g2 n : Nat} {v0 v1 v2 : Value} {bs : List UInt8} {M : Ent} (hW : SB w bw lSh [[v0], [v1], [v2]]) (r0 : BR w v0 g0 n bs) (q1 : RN w v1 g1 9 M.length (strs (M.map Prod.fst))) (q2 : RN w v2 g2 3 M.length (ints (M.map Prod.snd)))
    (h0 : g0 < w.heap.size) (h1 : g1 < w.heap.size) (h2 : g2 < w.heap.size) (hn : g0 ≠ bw) (hg : (M.length = 0 ∧ g1 = bw ∧ g2 = bw) ∨ (0 < M.length ∧ g1 ≠ bw ∧ g2 ≠ bw ∧ g1 ≠ g2 ∧ g1 ≠ g0 ∧ g2 ≠ g0)) : Sh w bw bs M g0 g1 g2 := by
  have hl := r0.len
  exact ⟨v0, v1, v2, hW, hl ▸ r0, q1, q2, h0, h1, h2, hn, hg⟩

theorem c52 {w : World} {bw g0 g1 g2 : Nat} {bs : List UInt8} {M : Ent} {s : ByteArray} (hSh : Sh w bw bs M g0 g1 g2) (hs : nameL (bt s)) (hbl : bs.length ≤ 20000000) (hMl : M.length ≤ 100000) (hMle : ∀ q ∈ M, q.2.toNat ≤ 16383) {K : Nat → Prop} (hK : ∀ k, K k → k < w.heap.size ∧ k ≠ bw ∧ k ≠ g0 ∧ k ≠ g1 ∧ k ≠ g2) :
  Ret PP 52 [.pointer (some ⟨bw, 0, none⟩), .string s] w (fun _ w' => ∃ M' g0' g1' g2', (packName (some M) bs.length (bt s)).2 = some M' ∧ Sh w' bw (bs ++ (packName (some M) bs.length (bt s)).1) M' g0' g1' g2' ∧ M'.length ≤ M.length + s.size ∧ (∀ q ∈ M', q.2.toNat ≤ 16383) ∧ (∀ k, K k → k ≠ g0' ∧ k ≠ g1' ∧ k ≠ g2') ∧ Fr (fun k => ¬ K k) w w') := by
 have hnp := (name_pos hs).2
 rw [bt_length] at hnp
 have hf : Fr (fun k => ¬ K k) w w := Fr.refl _ _
 refine ret_of Tryz.func52 rfl rfl rfl [(0, _), (1, _)] rfl ?_
 refine wp_seq (wp_block (lp [(0, _)] (fun (x : List UInt8 × List UInt8 × Ent × Nat × Nat × Nat) => match x with | (rest, out, M1, y0, y1, y2) => [(1, .string (mkB rest))]) (fun (x : List UInt8 × List UInt8 × Ent × Nat × Nat × Nat) wx => match x with | (rest, out, M1, y0, y1, y2) => Fr (fun k => ¬ K k) w wx ∧ (Sh wx bw (bs ++ out) M1 y0 y1 y2) ∧ (PkJ M bs.length s rest out M1) ∧ (out.length + rest.length = s.size) ∧ (M1.length ≤ M.length + out.length) ∧ (∀ q ∈ M1, q.2.toNat ≤ 16383) ∧ (∀ k, K k → k < w.heap.size ∧ k ≠ bw ∧ k ≠ y0 ∧ k ≠ y1 ∧ k ≠ y2)) (fun (x : List UInt8 × List UInt8 × Ent × Nat × Nat × Nat) => match x with | (rest, out, M1, y0, y1, y2) => rest.length) (bt s, [], M, g0, g1, g2) ⟨rfl, rfl, trivial⟩ ⟨Fr.refl _ _, by rw [aN]; exact hSh, pk_start hs, by rw [bt_length]; exact Nat.zero_add _, Nat.le_refl _, hMle, hK⟩ ?_))
 rintro ⟨rest, out, M1, y0, y1, y2⟩ _ w2 ⟨hL1, hSh, hpk, hor, hm1, hm2, hKy⟩
 refine fcg 0 1 rfl fun _ => ?_
 have z3 := hL1.size
 obtain ⟨v0, v1, v2, hW, r0, q1, q2, hl0, hl1, hl2, hne, hgs⟩ := hSh
 obtain ⟨p0, c0, rfl, -⟩ := Rw.form r0
 obtain ⟨a1, c1, rfl, hs1⟩ := q1.form
 obtain ⟨a2, c2, rfl, hs2⟩ := q2.form
 have hzw := hW.lt
 have hf := hf.step hL1 (fun k hk hS hk2 => hS hk2)
 rcases hgs with ⟨hM0, hE1, hE2⟩ | ⟨hMp, hn1b, hn2b, hn12, hn10, hn20⟩
 ·
  refine wp_seq (sreg (sM rfl (svP (xnes rfl rfl) (fun hc7 => ?_) (fun hc7 => ?_))))
  rotate_left
  ·
   refine sM rfl (gno rfl rfl rfl (gno rfl rfl rfl (sv (xpickF rfl rfl) (send ((cno rfl (wp_exit (eThen (eThen (eHit (nThen (fbg 0 rfl fun _ => ?_))))))))))))
   have hrx : rest = [] ∨ rest = [46] := .inl (by have hq := Decidable.not_not.1 hc7; have hq2 := congrArg bt hq; rw [bt_mkB] at hq2; exact hq2)
   refine lreg (sM rfl (sM rfl (sN rfl (sv (xfld fl116_0 rfl) (sv (xld on37 rfl (hW.r.c 0 rfl rfl)) (svK (xslit (bvs [0]) sl37 in5 rfl (by decide) rfl rfl rfl rfl (by decide) rfl (bvs_one _)) ?_))))))
   rintro _ w92 ⟨b89, rfl, m93, h89, e89, s89, r89⟩
   have r0 := r0.k m93
   refine svK (xapp sl37 in5 rfl (by decide) rfl rfl r0 (r89.src sl37) (by simp only [maxLen, List.length_append]; omega) (by simp only [List.length_append]; omega)) ?_
   rintro _ w94 ⟨g90, r90, m95, a90, l90⟩
   have z96 := m95.size
   obtain ⟨p90, q90, rfl, -⟩ := r90.form
   have hW := (hW.k m93).keep m95 (nE (by omega))
   refine sN rfl (sv (xfld fl116_0 rfl) (suK (xstF 0 sz37 hW rfl rfl rfl rfl rfl) ?_))
   rintro w98 ⟨m99, hW, s97⟩
   refine lend ?_
   refine rp0n rfl ?_
   have hpf := pk_fin hpk hrx
   have hf := ((hf.s m93).step m95 (fun k hk hS hk2 => by have hS : k = y0 := hS; have hk3 := hKy k hk2; omega)).step m99 (fun k hk hS hk2 => by have hS : k = bw := hS; have hk3 := hKy k hk2; omega)
   refine ⟨M1, g90, y1, y2, by rw [hpf], ?_, by omega, hm2, fun k hk => by have hq := hKy k hk; omega, hf⟩
   rw [hpf, ← List.append_assoc]
   have q1 := ((q1.keep m93 (fun h0 => id)).keep m95 (fun h0 => by have h0 := h0; show ¬ (y1 = y0); omega)).keep m99 (fun h0 => by have h0 := h0; show ¬ (y1 = bw); omega)
   have q2 := ((q2.keep m93 (fun h0 => id)).keep m95 (fun h0 => by have h0 := h0; show ¬ (y2 = y0); omega)).keep m99 (fun h0 => by have h0 := h0; show ¬ (y2 = bw); omega)
   have r90 := r90.keep m99 (nE (by omega))
   exact sh_mk hW (br_cast r90 (by simp only [bvs_app]) rfl) q1 q2 (by have hq := l90 (by simp); omega) (by omega) (by omega) (by omega) (by omega)
  refine sM rfl (gyes rfl rfl rfl (sM rfl (gyes rfl rfl rfl (svP (xnes rfl rfl) (fun hc10 => ?_) (fun hc10 => ?_)))))
  rotate_left
  ·
   refine sv (xpickT rfl rfl) (send ((cno rfl (wp_exit (eThen (eThen (eHit (nThen (fbg 0 rfl fun _ => ?_)))))))))
   have hrx : rest = [] ∨ rest = [46] := .inr (by have hq := Decidable.not_not.1 hc10; have hq2 := congrArg bt hq; rw [bt_mkB] at hq2; exact hq2)
   refine lreg (sM rfl (sM rfl (sN rfl (sv (xfld fl116_0 rfl) (sv (xld on37 rfl (hW.r.c 0 rfl rfl)) (svK (xslit (bvs [0]) sl37 in5 rfl (by decide) rfl rfl rfl rfl (by decide) rfl (bvs_one _)) ?_))))))
   rintro _ w83 ⟨b89, rfl, m84, h89, e89, s89, r89⟩
   have r0 := r0.k m84
   refine svK (xapp sl37 in5 rfl (by decide) rfl rfl r0 (r89.src sl37) (by simp only [maxLen, List.length_append]; omega) (by simp only [List.length_append]; omega)) ?_
   rintro _ w85 ⟨g90, r90, m86, a90, l90⟩
   have z87 := m86.size
   obtain ⟨p90, q90, rfl, -⟩ := r90.form
   have hW := (hW.k m84).keep m86 (nE (by omega))
   refine sN rfl (sv (xfld fl116_0 rfl) (suK (xstF 0 sz37 hW rfl rfl rfl rfl rfl) ?_))
   rintro w89 ⟨m90, hW, s88⟩
   refine lend ?_
   refine rp0n rfl ?_
   have hpf := pk_fin hpk hrx
   have hf := ((hf.s m84).step m86 (fun k hk hS hk2 => by have hS : k = y0 := hS; have hk3 := hKy k hk2; omega)).step m90 (fun k hk hS hk2 => by have hS : k = bw := hS; have hk3 := hKy k hk2; omega)
   refine ⟨M1, g90, y1, y2, by rw [hpf], ?_, by omega, hm2, fun k hk => by have hq := hKy k hk; omega, hf⟩
   rw [hpf, ← List.append_assoc]
   have q1 := ((q1.keep m84 (fun h0 => id)).keep m86 (fun h0 => by have h0 := h0; show ¬ (y1 = y0); omega)).keep m90 (fun h0 => by have h0 := h0; show ¬ (y1 = bw); omega)
   have q2 := ((q2.keep m84 (fun h0 => id)).keep m86 (fun h0 => by have h0 := h0; show ¬ (y2 = y0); omega)).keep m90 (fun h0 => by have h0 := h0; show ¬ (y2 = bw); omega)
   have r90 := r90.keep m90 (nE (by omega))
   exact sh_mk hW (br_cast r90 (by simp only [bvs_app]) rfl) q1 q2 (by have hq := l90 (by simp); omega) (by omega) (by omega) (by omega) (by omega)
  refine sv (xpickT rfl rfl) (send ((cyes rfl (wp_skip (nThen (fcg 0 1 rfl fun _ => wp_block (wp_seq ?_)))))))
  obtain ⟨lab, rest1, rfl, hlab0, hlabd, hlab63, hn1, hpk1⟩ := pk_go hpk (fun e => hc7 (by rw [e])) (fun e => hc10 (by rw [e]))
  have hlpos := List.length_pos_iff.2 hlab0
  simp only [List.length_append, List.length_cons] at hor
  have hbo : (bs ++ out).length = bs.length + out.length := List.length_append
  refine sreg (sM rfl (sM rfl (sc (xcall ca101 rfl) (c101 (M := M1) (s := (mkB (lab ++ 46 :: rest1))) hW q1 q2 (by omega)) ?_)))
  rintro _ w4 ⟨rfl, m5⟩
  have z6 := m5.size
  have hf := hf.s m5
  have hW := hW.k m5
  have r0 := r0.k m5
  have q1 := q1.keep m5 (fun h0 => id)
  have q2 := q2.keep m5 (fun h0 => id)
  have hL1 := hL1.s m5
  refine sA rfl (send (fdg 0 1 4 rfl fun _ => sreg (sM rfl (svP (xgeq rfl rfl) (fun hc16 => ?_) (fun hc16 => ?_)))))
  ·
   refine send (feg 0 1 4 16 rfl fun _ => cyes rfl ?_)
   obtain ⟨p, hp⟩ := look_of hc16
   obtain ⟨pk, hpm⟩ := look_mem hp
   have hple := hm2 _ hpm
   simp only at hple
   refine sdrawH (Fr (fun k => k = y0) w4.drew) [rd0, rd1, rd2, rd3, rd4, rd5, rd6, rd7, ld8, ld9, rd10, rd11, bh12] mixed (by kernel_rfl) (fun _ _ _ _ _ h => h) ?_
   have z7 : w4.drew.heap.size = w4.heap.size := rfl
   have hW := hW.drew
   have zb_hW := hW
   have hS8 : Fr (fun k => k = y0) w4.drew w4.drew := Fr.refl _ _
   refine qqM rfl rfl hS8 (qqM rfl rfl hS8 (qqN rfl rfl hS8 (hvH rfl (fun _ _ => xfld fl116_0 rfl) hS8 (hvH rfl (fun w' hS => xld on37 rfl ((zb_hW.keep hS (nE (by omega))).r.c 0 rfl rfl)) hS8 (qqM rfl rfl hS8 (hvH rfl (fun _ _ => xconv hs3 ki22 rfl (wu16n p.toNat (by rw [lookI_some hp]; have := u16lt p; omega))) hS8 (hvH rfl (fun _ _ => xor16N (a := p.toNat) (b := 49152) (c := p.toNat + 49152) rfl rfl (by omega) (by decide) (or_49152 hple)) hS8 ?_)))))))
   refine hcH rfl (xcall ca53 rfl) (c53 (by first | omega | exact u16lt _)) ?_
   rintro _ w9 ⟨p25, q25, g25, rfl, r25, m10, a25, l25⟩
   have z11 := m10.size
   have hS12 := hS8.s m10
   have r0 := (r0.k (fd w4)).k m10
   refine ⟨hS12, ?_⟩
   refine hlKH rfl (xapp sl37 in5 rfl (by decide) rfl rfl r0 (r25.src sl37) (by simp only [maxLen]; omega) (by omega)) ?_
   rintro _ w13 ⟨g26, r26, m14, a26, l26⟩
   have z15 := m14.size
   have hS16 := hS12.step m14 nI
   obtain ⟨p26, q26, rfl, -⟩ := r26.form
   have hW := (hW.k m10).keep m14 (nE (by omega))
   refine ⟨hS16, ?_⟩
   refine qqN rfl rfl hS16 (hvH rfl (fun _ _ => xfld fl116_0 rfl) hS16 ?_)
   refine bluKH rfl (xstF 0 sz37 hW rfl rfl rfl rfl rfl) ?_
   rintro w18 ⟨m19, hW, s17⟩
   refine hendH (fg [] trivial fun _ => wp_ret (rThen (rBlock (rThen (rBlock (rThen ?_))))))
   refine rp0 rfl ?_
   have hpf := pk_hitJ hlab0 hlabd hp hpk1
   have hf := (((hf.drew).s m10).step m14 (fun k hk hS hk2 => by have hS : k = y0 := hS; have hk3 := hKy k hk2; omega)).step m19 (fun k hk hS hk2 => by have hS : k = bw := hS; have hk3 := hKy k hk2; omega)
   refine ⟨M1, g26, y1, y2, by rw [hpf], ?_, by omega, hm2, fun k hk => by have hq := hKy k hk; omega, hf⟩
   rw [hpf, ← List.append_assoc, ptr_be hple]
   have q1 := (((q1.keep (fd w4) (fun h0 => id)).keep m10 (fun h0 => id)).keep m14 (fun h0 => by have h0 := h0; show ¬ (y1 = y0); omega)).keep m19 (fun h0 => by have h0 := h0; show ¬ (y1 = bw); omega)
   have q2 := (((q2.keep (fd w4) (fun h0 => id)).keep m10 (fun h0 => id)).keep m14 (fun h0 => by have h0 := h0; show ¬ (y2 = y0); omega)).keep m19 (fun h0 => by have h0 := h0; show ¬ (y2 = bw); omega)
   have r26 := r26.keep m19 (nE (by omega))
   exact sh_mk hW (br_cast r26 (by simp only [bvs_app]) rfl) q1 q2 (by have hq := l26 (by simp []); omega) (by omega) (by omega) (by omega) (by omega)
  refine send ((cno rfl (wp_skip (nThen (fcg 0 1 rfl fun _ => wp_seq ?_)))))
  have hno := look_no hc16
  refine sreg (sM rfl (sN rfl (sv (xfld fl116_0 rfl) (sv (xld on37 rfl (hW.r.c 0 rfl rfl)) (sv (xlen sl37 rfl) (svP (xlss rfl rfl) (fun hc34 => ?_) (fun hc34 => ?_)))))))
  rotate_left
  ·
   refine send ((cno rfl (wp_skip (nThen ((sreg (sA rfl (send (fdg 0 1 5 rfl fun _ => wp_seq (wp_block (lp [(0, _), (1, _)] (fun (i : Nat) => [(5, .int .i64 (i : Int))]) (fun (i : Nat) wx => Fr (fun _ => False) w4 wx ∧ (i ≤ lab.length)) (fun (i : Nat) => lab.length - i) 0 ⟨rfl, rfl, rfl, trivial⟩ ⟨Fr.refl _ _, Nat.zero_le _⟩ ?_)))))))))))
   rintro i _ w63 ⟨hL62, hi⟩
   refine fdg 0 1 5 rfl fun _ => ?_
   have z64 := hL62.size
   refine wp_seq (sreg (sM rfl (sM rfl (sv (xidxS st9 rfl rfl rfl (by rw [mkB_size]; simp; omega)) (svP (xneq rfl rfl) (fun hc62 => ?_) (fun hc62 => ?_))))))
   ·
    refine send ((cyes rfl (wp_skip (nThen (fdg 0 1 5 rfl fun _ => wp_block ?_)))))
    have hil : i < lab.length := by rcases Nat.lt_or_ge i lab.length with h | h; exact h; exact absurd (congrArg Int.ofNat (sep_at (by rw [mkB_size]; simp; omega) (by omega))) hc62
    refine lreg (sM rfl (sv (xadd rfl rfl (w64n (i + 1) (by omega) (by omega))) (sA rfl (lend (nBlock (nThen ?_))))))
    refine ⟨i + 1, _, env_okl ⟨rfl, rfl, rfl, trivial⟩, ⟨hL62, (by omega)⟩, ?_⟩
    show lab.length - (i + 1) < lab.length - i; omega
   refine send ((cno rfl (wp_exit (eThen (eThen (eHit (nThen (fdg 0 1 5 rfl fun _ => ?_))))))))
   have hie : i = lab.length := by rcases Nat.lt_or_ge i lab.length with h | h; exact absurd (fun e => let_at (by rw [mkB_size]; simp; omega) h hlabd (by exact Int.ofNat.inj e)) hc62; omega
   refine sdrawH (Fr (fun k => k = y0) w63.drew) [rd0, rd1, rd2, rd3, rd4, rd5, rd6, rd9, rd10, rd11, ld7, ld8, ld12, rd13, rd14, bh15] mixed (by kernel_rfl) (fun _ _ _ _ _ h => h) ?_
   have z65 : w63.drew.heap.size = w63.heap.size := rfl
   have hW := (hW.k hL62).drew
   have zb_hW := hW
   have hS66 : Fr (fun k => k = y0) w63.drew w63.drew := Fr.refl _ _
   refine qqM rfl rfl hS66 (qqM rfl rfl hS66 (qqN rfl rfl hS66 (hvH rfl (fun _ _ => xfld fl116_0 rfl) hS66 (hvH rfl (fun w' hS => xld on37 rfl ((zb_hW.keep hS (nE (by omega))).r.c 0 rfl rfl)) hS66 (qqM rfl rfl hS66 (hvH rfl (fun _ _ => xconv hs3 ki5 rfl (wu8n lab.length (by omega))) hS66 (qqM rfl rfl hS66 (qqM rfl rfl hS66 (hvH rfl (fun _ _ => xcutSHb st9 rfl rfl (by omega)) hS66 ?_)))))))))
   refine hlKH rfl (xslit (bvs [UInt8.ofNat lab.length]) sl37 in5 rfl (by decide) rfl rfl rfl rfl (by decide) (by simp [bvs, bv, Value.cells, UInt8.toNat_ofNat']; omega) (bvs_one _)) ?_
   rintro _ w68 ⟨b72, rfl, m69, h72, e72, s72, r72⟩
   have hS70 := hS66.s m69
   have r0 := ((r0.k hL62).k (fd w63)).k m69
   refine ⟨hS70, ?_⟩
   refine hlKH rfl (xapp sl37 in5 rfl (by decide) rfl rfl r0 (r72.src sl37) (by simp only [maxLen]; omega) (by omega)) ?_
   rintro _ w71 ⟨g73, r73, m72, a73, l73⟩
   have z73 := m72.size
   have hS74 := hS70.step m72 nI
   obtain ⟨p73, q73, rfl, -⟩ := r73.form
   refine ⟨hS74, ?_⟩
   refine hlKH rfl (xapp sl37 in5 rfl (by decide) rfl rfl r73 (src_str st9 (mkB lab)) (by simp only [maxLen, mkB_size]; omega) (by simp only [mkB_size]; omega)) ?_
   rintro _ w75 ⟨g77, r77, m76, a77, l77⟩
   have z77 := m76.size
   have hS78 := hS74.step m76 (fun k hk hS => by have hS : k = g73 := hS; show k = y0; omega)
   obtain ⟨p77, q77, rfl, -⟩ := r77.form
   have hW := ((hW.k m69).keep m72 (nE (by omega))).keep m76 (nE (by omega))
   refine ⟨hS78, ?_⟩
   refine qqN rfl rfl hS78 (hvH rfl (fun _ _ => xfld fl116_0 rfl) hS78 ?_)
   refine bluKH rfl (xstF 0 sz37 hW rfl rfl rfl rfl rfl) ?_
   rintro w80 ⟨m81, hW, s79⟩
   have q1 := (((((q1.keep hL62 (fun h0 => id)).keep (fd w63) (fun h0 => id)).keep m69 (fun h0 => id)).keep m72 (fun h0 => by have h0 := h0; show ¬ (y1 = y0); omega)).keep m76 (fun h0 => by have h0 := h0; show ¬ (y1 = g73); omega)).keep m81 (fun h0 => by have h0 := h0; show ¬ (y1 = bw); omega)
   have q2 := (((((q2.keep hL62 (fun h0 => id)).keep (fd w63) (fun h0 => id)).keep m69 (fun h0 => id)).keep m72 (fun h0 => by have h0 := h0; show ¬ (y2 = y0); omega)).keep m76 (fun h0 => by have h0 := h0; show ¬ (y2 = g73); omega)).keep m81 (fun h0 => by have h0 := h0; show ¬ (y2 = bw); omega)
   have hL1 := (((((hL1.s hL62).drew).s m69).step m72 (fun k hk hS hk2 => by have hS : k = y0 := hS; have hk3 := hKy k hk2; omega)).step m76 (fun k hk hS hk2 => by have hS : k = g73 := hS; have hk3 := hKy k hk2; omega)).step m81 (fun k hk hS hk2 => by have hS : k = bw := hS; have hk3 := hKy k hk2; omega)
   have r77 := r77.keep m81 (nE (by omega))
   refine hendH (fdg 0 1 5 rfl fun _ => lreg (sM rfl (sM rfl (sv (xadd rfl rfl (w64n (lab.length + 1) (by omega) (by omega))) (sv ((xcutSLb (xs := lab ++ [46]) st9 (by rw [List.append_assoc]; rfl) rfl (by simp))) (sA rfl (lend (nBlock (nThen ?_)))))))))
   refine ⟨(rest1, out ++ (UInt8.ofNat lab.length :: lab), M1, g77, y1, y2), _, env_okl ⟨rfl, rfl, trivial⟩, ⟨hL1, (by rw [← List.append_assoc]; exact sh_mk hW (br_cast r77 (by simp [bvs, bv]) rfl) q1 q2 (by have hq := l77 (by omega); omega) (by omega) (by omega) (by omega) (by omega)), (by have hq := pk_missJ hlab0 hlabd hno hn1 hpk1; rw [if_neg (by omega)] at hq; exact hq), (by simp only [List.length_append, List.length_cons]; omega), (by simp only [List.length_append, List.length_cons]; omega), (hm2), (fun k hk => by have hq := hKy k hk; omega)⟩, ?_⟩
   show rest1.length < (lab ++ 46 :: rest1).length; simp; omega
  refine send (fdg 0 1 34 rfl fun _ => cyes rfl (sreg (sM rfl (sM rfl (sN rfl (sv (xfld fl116_1 rfl) (sv (xld on62 rfl (hW.r.c 1 rfl rfl)) (sM rfl (svK (xslit ([.string (mkB (lab ++ 46 :: rest1))]) sl62 in9 rfl (by decide) rfl rfl rfl rfl (by decide) rfl rfl) ?_)))))))))
  rintro _ w21 ⟨b41, rfl, m22, h41, e41, s41, r41⟩
  have q1 := q1.keep m22 (fun h0 => id)
  have rq42 := q1.rw0 hM0
  refine svK (xapp sl62 in9 rfl (by decide) rfl rfl rq42 (r41.src sl62) (by simp only [maxLen]; omega) (by omega)) ?_
  rintro _ w23 ⟨g42, r42, m24, a42, l42⟩
  have z25 := m24.size
  obtain ⟨p42, q42, rfl, -⟩ := r42.form
  have hW := (hW.k m22).keep m24 (by show ¬ (bw = w21.heap.size); omega)
  refine sN rfl (sv (xfld fl116_1 rfl) (suK (xstF 1 sz62 hW rfl rfl rfl rfl rfl) ?_))
  rintro w27 ⟨m28, hW, s26⟩
  refine send (fcg 0 1 rfl fun _ => ?_)
  have hpos2 : (UInt16.ofNat (bs.length + out.length)).toNat = bs.length + out.length := by rw [UInt16.toNat_ofNat']; omega
  refine ldrawH (Fr (fun _ => False) w27.drew) [rd0, rd1, rd2, rd3, rd4, rd5, rd6, rd7, rd8, rd9, ld10, ld11, rd12, rd13, bh14] mixed (by kernel_rfl) (fun _ _ _ _ _ h => h) ?_
  have z29 : w27.drew.heap.size = w27.heap.size := rfl
  have hW := hW.drew
  have zb_hW := hW
  have hS30 : Fr (fun _ => False) w27.drew w27.drew := Fr.refl _ _
  refine qqM rfl rfl hS30 (qqM rfl rfl hS30 (qqN rfl rfl hS30 (hvH rfl (fun _ _ => xfld fl116_2 rfl) hS30 (hvH rfl (fun w' hS => xld on99 rfl ((zb_hW.k hS).r.c 2 rfl rfl)) hS30 (qqM rfl rfl hS30 (qqN rfl rfl hS30 (hvH rfl (fun _ _ => xfld fl116_0 rfl) hS30 (hvH rfl (fun w' hS => xld on37 rfl ((zb_hW.k hS).r.c 0 rfl rfl)) hS30 (hvH rfl (fun _ _ => xlen sl37 rfl) hS30 ?_)))))))))
  refine hlKH rfl (xslit ([.int .i64 ((UInt16.ofNat (bs.length + out.length)).toNat : Int)]) sl99 in3 rfl (by decide) rfl rfl rfl rfl (by decide) (by rw [hpos2, ← hbo]; rfl) rfl) ?_
  rintro _ w32 ⟨b55, rfl, m33, h55, e55, s55, r55⟩
  have hS34 := hS30.s m33
  have q2 := ((((q2.keep m22 (fun h0 => id)).keep m24 (fun h0 => by have h0 := h0; show ¬ (y2 = w21.heap.size); omega)).keep m28 (fun h0 => by have h0 := h0; show ¬ (y2 = bw); omega)).keep (fd w27) (fun h0 => id)).keep m33 (fun h0 => id)
  refine ⟨hS34, ?_⟩
  have rq56 := q2.rw0 hM0
  refine hlKH rfl (xapp sl99 in3 rfl (by decide) rfl rfl rq56 (r55.src sl99) (by simp only [maxLen]; omega) (by omega)) ?_
  rintro _ w35 ⟨g56, r56, m36, a56, l56⟩
  have z37 := m36.size
  have hS38 := hS34.step m36 (fun k hk hS => by have hS : k = w32.heap.size := hS; show False; omega)
  obtain ⟨p56, q56, rfl, -⟩ := r56.form
  have hW := (hW.k m33).keep m36 (by show ¬ (bw = w32.heap.size); omega)
  refine ⟨hS38, ?_⟩
  refine qqN rfl rfl hS38 (hvH rfl (fun _ _ => xfld fl116_2 rfl) hS38 ?_)
  refine bluKH rfl (xstF 2 sz99 hW rfl rfl rfl rfl rfl) ?_
  rintro w40 ⟨m41, hW, s39⟩
  refine lhendH (nThen ((sreg (sA rfl (send (fdg 0 1 5 rfl fun _ => wp_seq (wp_block (lp [(0, _), (1, _)] (fun (i : Nat) => [(5, .int .i64 (i : Int))]) (fun (i : Nat) wx => Fr (fun _ => False) w40 wx ∧ (i ≤ lab.length)) (fun (i : Nat) => lab.length - i) 0 ⟨rfl, rfl, rfl, trivial⟩ ⟨Fr.refl _ _, Nat.zero_le _⟩ ?_))))))))
  rintro i _ w43 ⟨hL42, hi⟩
  refine fdg 0 1 5 rfl fun _ => ?_
  have z44 := hL42.size
  refine wp_seq (sreg (sM rfl (sM rfl (sv (xidxS st9 rfl rfl rfl (by rw [mkB_size]; simp; omega)) (svP (xneq rfl rfl) (fun hc62 => ?_) (fun hc62 => ?_))))))
  ·
   refine send ((cyes rfl (wp_skip (nThen (fdg 0 1 5 rfl fun _ => wp_block ?_)))))
   have hil : i < lab.length := by rcases Nat.lt_or_ge i lab.length with h | h; exact h; exact absurd (congrArg Int.ofNat (sep_at (by rw [mkB_size]; simp; omega) (by omega))) hc62
   refine lreg (sM rfl (sv (xadd rfl rfl (w64n (i + 1) (by omega) (by omega))) (sA rfl (lend (nBlock (nThen ?_))))))
   refine ⟨i + 1, _, env_okl ⟨rfl, rfl, rfl, trivial⟩, ⟨hL42, (by omega)⟩, ?_⟩
   show lab.length - (i + 1) < lab.length - i; omega
  refine send ((cno rfl (wp_exit (eThen (eThen (eHit (nThen (fdg 0 1 5 rfl fun _ => ?_))))))))
  have hie : i = lab.length := by rcases Nat.lt_or_ge i lab.length with h | h; exact absurd (fun e => let_at (by rw [mkB_size]; simp; omega) h hlabd (by exact Int.ofNat.inj e)) hc62; omega
  refine sdrawH (Fr (fun k => k = y0) w43.drew) [rd0, rd1, rd2, rd3, rd4, rd5, rd6, rd9, rd10, rd11, ld7, ld8, ld12, rd13, rd14, bh15] mixed (by kernel_rfl) (fun _ _ _ _ _ h => h) ?_
  have z45 : w43.drew.heap.size = w43.heap.size := rfl
  have hW := (hW.k hL42).drew
  have zb_hW := hW
  have hS46 : Fr (fun k => k = y0) w43.drew w43.drew := Fr.refl _ _
  refine qqM rfl rfl hS46 (qqM rfl rfl hS46 (qqN rfl rfl hS46 (hvH rfl (fun _ _ => xfld fl116_0 rfl) hS46 (hvH rfl (fun w' hS => xld on37 rfl ((zb_hW.keep hS (nE (by omega))).r.c 0 rfl rfl)) hS46 (qqM rfl rfl hS46 (hvH rfl (fun _ _ => xconv hs3 ki5 rfl (wu8n lab.length (by omega))) hS46 (qqM rfl rfl hS46 (qqM rfl rfl hS46 (hvH rfl (fun _ _ => xcutSHb st9 rfl rfl (by omega)) hS46 ?_)))))))))
  refine hlKH rfl (xslit (bvs [UInt8.ofNat lab.length]) sl37 in5 rfl (by decide) rfl rfl rfl rfl (by decide) (by simp [bvs, bv, Value.cells, UInt8.toNat_ofNat']; omega) (bvs_one _)) ?_
  rintro _ w48 ⟨b72, rfl, m49, h72, e72, s72, r72⟩
  have hS50 := hS46.s m49
  have r0 := (((((((((r0.k m22).keep m24 (by show ¬ (y0 = w21.heap.size); omega)).keep m28 (nE (by omega))).k (fd w27)).k m33).keep m36 (by show ¬ (y0 = w32.heap.size); omega)).keep m41 (nE (by omega))).k hL42).k (fd w43)).k m49
  refine ⟨hS50, ?_⟩
  refine hlKH rfl (xapp sl37 in5 rfl (by decide) rfl rfl r0 (r72.src sl37) (by simp only [maxLen]; omega) (by omega)) ?_
  rintro _ w51 ⟨g73, r73, m52, a73, l73⟩
  have z53 := m52.size
  have hS54 := hS50.step m52 nI
  obtain ⟨p73, q73, rfl, -⟩ := r73.form
  refine ⟨hS54, ?_⟩
  refine hlKH rfl (xapp sl37 in5 rfl (by decide) rfl rfl r73 (src_str st9 (mkB lab)) (by simp only [maxLen, mkB_size]; omega) (by simp only [mkB_size]; omega)) ?_
  rintro _ w55 ⟨g77, r77, m56, a77, l77⟩
  have z57 := m56.size
  have hS58 := hS54.step m56 (fun k hk hS => by have hS : k = g73 := hS; show k = y0; omega)
  obtain ⟨p77, q77, rfl, -⟩ := r77.form
  have hW := ((hW.k m49).keep m52 (nE (by omega))).keep m56 (nE (by omega))
  refine ⟨hS58, ?_⟩
  refine qqN rfl rfl hS58 (hvH rfl (fun _ _ => xfld fl116_0 rfl) hS58 ?_)
  refine bluKH rfl (xstF 0 sz37 hW rfl rfl rfl rfl rfl) ?_
  rintro w60 ⟨m61, hW, s59⟩
  have hL1 := ((((((((((((hL1.s m22).step m24 (fun k hk hS hk2 => by have hS : k = w21.heap.size := hS; have hk3 := hKy k hk2; omega)).step m28 (fun k hk hS hk2 => by have hS : k = bw := hS; have hk3 := hKy k hk2; omega)).drew).s m33).step m36 (fun k hk hS hk2 => by have hS : k = w32.heap.size := hS; have hk3 := hKy k hk2; omega)).step m41 (fun k hk hS hk2 => by have hS : k = bw := hS; have hk3 := hKy k hk2; omega)).s hL42).drew).s m49).step m52 (fun k hk hS hk2 => by have hS : k = y0 := hS; have hk3 := hKy k hk2; omega)).step m56 (fun k hk hS hk2 => by have hS : k = g73 := hS; have hk3 := hKy k hk2; omega)).step m61 (fun k hk hS hk2 => by have hS : k = bw := hS; have hk3 := hKy k hk2; omega)
  have r42 := ((((((((((r42.keep m28 (nE (by omega))).k (fd w27)).k m33).keep m36 (by show ¬ (g42 = w32.heap.size); omega)).keep m41 (nE (by omega))).k hL42).k (fd w43)).k m49).keep m52 (nE (by omega))).keep m56 (nE (by omega))).keep m61 (nE (by omega))
  have r56 := ((((((r56.keep m41 (nE (by omega))).k hL42).k (fd w43)).k m49).keep m52 (nE (by omega))).keep m56 (nE (by omega))).keep m61 (nE (by omega))
  have r77 := r77.keep m61 (nE (by omega))
  refine hendH (fdg 0 1 5 rfl fun _ => lreg (sM rfl (sM rfl (sv (xadd rfl rfl (w64n (lab.length + 1) (by omega) (by omega))) (sv ((xcutSLb (xs := lab ++ [46]) st9 (by rw [List.append_assoc]; rfl) rfl (by simp))) (sA rfl (lend (nBlock (nThen ?_)))))))))
  refine ⟨(rest1, out ++ (UInt8.ofNat lab.length :: lab), M1 ++ [((mkB (lab ++ 46 :: rest1)), UInt16.ofNat (bs.length + out.length))], g77, g42, g56), _, env_okl ⟨rfl, rfl, trivial⟩, ⟨hL1, (by rw [← List.append_assoc]; exact sh_mk hW (br_cast r77 (by simp [bvs, bv]) rfl) (.inr ⟨by simp, by simpa [strs] using r42⟩) (.inr ⟨by simp, by simpa [ints] using r56⟩) (by have hq := l77 (by omega); omega) (by omega) (by omega) (by omega) (by simp only [List.length_append, List.length_cons, List.length_nil]; omega)), (by have hq := pk_missJ hlab0 hlabd hno hn1 hpk1; rw [if_pos (by omega)] at hq; exact hq), (by simp only [List.length_append, List.length_cons]; omega), (by simp only [List.length_append, List.length_cons, List.length_nil]; omega), (by intro q hq; rcases List.mem_append.1 hq with hq | hq; exact hm2 q hq; simp only [List.mem_singleton] at hq; subst hq; rw [hpos2]; omega), (fun k hk => by have hq := hKy k hk; omega)⟩, ?_⟩
  show rest1.length < (lab ++ 46 :: rest1).length; simp; omega
 refine wp_seq (sreg (sM rfl (svP (xnes rfl rfl) (fun hc7 => ?_) (fun hc7 => ?_))))
 rotate_left
 ·
  refine sM rfl (gno rfl rfl rfl (gno rfl rfl rfl (sv (xpickF rfl rfl) (send ((cno rfl (wp_exit (eThen (eThen (eHit (nThen (fbg 0 rfl fun _ => ?_))))))))))))
  have hrx : rest = [] ∨ rest = [46] := .inl (by have hq := Decidable.not_not.1 hc7; have hq2 := congrArg bt hq; rw [bt_mkB] at hq2; exact hq2)
  refine lreg (sM rfl (sM rfl (sN rfl (sv (xfld fl116_0 rfl) (sv (xld on37 rfl (hW.r.c 0 rfl rfl)) (svK (xslit (bvs [0]) sl37 in5 rfl (by decide) rfl rfl rfl rfl (by decide) rfl (bvs_one _)) ?_))))))
  rintro _ w188 ⟨b89, rfl, m189, h89, e89, s89, r89⟩
  have r0 := r0.k m189
  refine svK (xapp sl37 in5 rfl (by decide) rfl rfl r0 (r89.src sl37) (by simp only [maxLen, List.length_append]; omega) (by simp only [List.length_append]; omega)) ?_
  rintro _ w190 ⟨g90, r90, m191, a90, l90⟩
  have z192 := m191.size
  obtain ⟨p90, q90, rfl, -⟩ := r90.form
  have hW := (hW.k m189).keep m191 (nE (by omega))
  refine sN rfl (sv (xfld fl116_0 rfl) (suK (xstF 0 sz37 hW rfl rfl rfl rfl rfl) ?_))
  rintro w194 ⟨m195, hW, s193⟩
  refine lend ?_
  refine rp0n rfl ?_
  have hpf := pk_fin hpk hrx
  have hf := ((hf.s m189).step m191 (fun k hk hS hk2 => by have hS : k = y0 := hS; have hk3 := hKy k hk2; omega)).step m195 (fun k hk hS hk2 => by have hS : k = bw := hS; have hk3 := hKy k hk2; omega)
  refine ⟨M1, g90, y1, y2, by rw [hpf], ?_, by omega, hm2, fun k hk => by have hq := hKy k hk; omega, hf⟩
  rw [hpf, ← List.append_assoc]
  have q1 := ((q1.keep m189 (fun h0 => id)).keep m191 (fun h0 => by have h0 := h0; show ¬ (y1 = y0); omega)).keep m195 (fun h0 => by have h0 := h0; show ¬ (y1 = bw); omega)
  have q2 := ((q2.keep m189 (fun h0 => id)).keep m191 (fun h0 => by have h0 := h0; show ¬ (y2 = y0); omega)).keep m195 (fun h0 => by have h0 := h0; show ¬ (y2 = bw); omega)
  have r90 := r90.keep m195 (nE (by omega))
  exact sh_mk hW (br_cast r90 (by simp only [bvs_app]) rfl) q1 q2 (by have hq := l90 (by simp); omega) (by omega) (by omega) (by omega) (by omega)
 refine sM rfl (gyes rfl rfl rfl (sM rfl (gyes rfl rfl rfl (svP (xnes rfl rfl) (fun hc10 => ?_) (fun hc10 => ?_)))))
 rotate_left
 ·
  refine sv (xpickT rfl rfl) (send ((cno rfl (wp_exit (eThen (eThen (eHit (nThen (fbg 0 rfl fun _ => ?_)))))))))
  have hrx : rest = [] ∨ rest = [46] := .inr (by have hq := Decidable.not_not.1 hc10; have hq2 := congrArg bt hq; rw [bt_mkB] at hq2; exact hq2)
  refine lreg (sM rfl (sM rfl (sN rfl (sv (xfld fl116_0 rfl) (sv (xld on37 rfl (hW.r.c 0 rfl rfl)) (svK (xslit (bvs [0]) sl37 in5 rfl (by decide) rfl rfl rfl rfl (by decide) rfl (bvs_one _)) ?_))))))
  rintro _ w179 ⟨b89, rfl, m180, h89, e89, s89, r89⟩
  have r0 := r0.k m180
  refine svK (xapp sl37 in5 rfl (by decide) rfl rfl r0 (r89.src sl37) (by simp only [maxLen, List.length_append]; omega) (by simp only [List.length_append]; omega)) ?_
  rintro _ w181 ⟨g90, r90, m182, a90, l90⟩
  have z183 := m182.size
  obtain ⟨p90, q90, rfl, -⟩ := r90.form
  have hW := (hW.k m180).keep m182 (nE (by omega))
  refine sN rfl (sv (xfld fl116_0 rfl) (suK (xstF 0 sz37 hW rfl rfl rfl rfl rfl) ?_))
  rintro w185 ⟨m186, hW, s184⟩
  refine lend ?_
  refine rp0n rfl ?_
  have hpf := pk_fin hpk hrx
  have hf := ((hf.s m180).step m182 (fun k hk hS hk2 => by have hS : k = y0 := hS; have hk3 := hKy k hk2; omega)).step m186 (fun k hk hS hk2 => by have hS : k = bw := hS; have hk3 := hKy k hk2; omega)
  refine ⟨M1, g90, y1, y2, by rw [hpf], ?_, by omega, hm2, fun k hk => by have hq := hKy k hk; omega, hf⟩
  rw [hpf, ← List.append_assoc]
  have q1 := ((q1.keep m180 (fun h0 => id)).keep m182 (fun h0 => by have h0 := h0; show ¬ (y1 = y0); omega)).keep m186 (fun h0 => by have h0 := h0; show ¬ (y1 = bw); omega)
  have q2 := ((q2.keep m180 (fun h0 => id)).keep m182 (fun h0 => by have h0 := h0; show ¬ (y2 = y0); omega)).keep m186 (fun h0 => by have h0 := h0; show ¬ (y2 = bw); omega)
  have r90 := r90.keep m186 (nE (by omega))
  exact sh_mk hW (br_cast r90 (by simp only [bvs_app]) rfl) q1 q2 (by have hq := l90 (by simp); omega) (by omega) (by omega) (by omega) (by omega)
 refine sv (xpickT rfl rfl) (send ((cyes rfl (wp_skip (nThen (fcg 0 1 rfl fun _ => wp_block (wp_seq ?_)))))))
 obtain ⟨lab, rest1, rfl, hlab0, hlabd, hlab63, hn1, hpk1⟩ := pk_go hpk (fun e => hc7 (by rw [e])) (fun e => hc10 (by rw [e]))
 have hlpos := List.length_pos_iff.2 hlab0
 simp only [List.length_append, List.length_cons] at hor
 have hbo : (bs ++ out).length = bs.length + out.length := List.length_append
 refine sreg (sM rfl (sM rfl (sc (xcall ca101 rfl) (c101 (M := M1) (s := (mkB (lab ++ 46 :: rest1))) hW q1 q2 (by omega)) ?_)))
 rintro _ w100 ⟨rfl, m101⟩
 have z102 := m101.size
 have hf := hf.s m101
 have hW := hW.k m101
 have r0 := r0.k m101
 have q1 := q1.keep m101 (fun h0 => id)
 have q2 := q2.keep m101 (fun h0 => id)
 have hL1 := hL1.s m101
 refine sA rfl (send (fdg 0 1 4 rfl fun _ => sreg (sM rfl (svP (xgeq rfl rfl) (fun hc16 => ?_) (fun hc16 => ?_)))))
 ·
  refine send (feg 0 1 4 16 rfl fun _ => cyes rfl ?_)
  obtain ⟨p, hp⟩ := look_of hc16
  obtain ⟨pk, hpm⟩ := look_mem hp
  have hple := hm2 _ hpm
  simp only at hple
  refine sdrawH (Fr (fun k => k = y0) w100.drew) [rd0, rd1, rd2, rd3, rd4, rd5, rd6, rd7, ld8, ld9, rd10, rd11, bh12] mixed (by kernel_rfl) (fun _ _ _ _ _ h => h) ?_
  have z103 : w100.drew.heap.size = w100.heap.size := rfl
  have hW := hW.drew
  have zb_hW := hW
  have hS104 : Fr (fun k => k = y0) w100.drew w100.drew := Fr.refl _ _
  refine qqM rfl rfl hS104 (qqM rfl rfl hS104 (qqN rfl rfl hS104 (hvH rfl (fun _ _ => xfld fl116_0 rfl) hS104 (hvH rfl (fun w' hS => xld on37 rfl ((zb_hW.keep hS (nE (by omega))).r.c 0 rfl rfl)) hS104 (qqM rfl rfl hS104 (hvH rfl (fun _ _ => xconv hs3 ki22 rfl (wu16n p.toNat (by rw [lookI_some hp]; have := u16lt p; omega))) hS104 (hvH rfl (fun _ _ => xor16N (a := p.toNat) (b := 49152) (c := p.toNat + 49152) rfl rfl (by omega) (by decide) (or_49152 hple)) hS104 ?_)))))))
  refine hcH rfl (xcall ca53 rfl) (c53 (by first | omega | exact u16lt _)) ?_
  rintro _ w105 ⟨p25, q25, g25, rfl, r25, m106, a25, l25⟩
  have z107 := m106.size
  have hS108 := hS104.s m106
  have r0 := (r0.k (fd w100)).k m106
  refine ⟨hS108, ?_⟩
  refine hlKH rfl (xapp sl37 in5 rfl (by decide) rfl rfl r0 (r25.src sl37) (by simp only [maxLen]; omega) (by omega)) ?_
  rintro _ w109 ⟨g26, r26, m110, a26, l26⟩
  have z111 := m110.size
  have hS112 := hS108.step m110 nI
  obtain ⟨p26, q26, rfl, -⟩ := r26.form
  have hW := (hW.k m106).keep m110 (nE (by omega))
  refine ⟨hS112, ?_⟩
  refine qqN rfl rfl hS112 (hvH rfl (fun _ _ => xfld fl116_0 rfl) hS112 ?_)
  refine bluKH rfl (xstF 0 sz37 hW rfl rfl rfl rfl rfl) ?_
  rintro w114 ⟨m115, hW, s113⟩
  refine hendH (fg [] trivial fun _ => wp_ret (rThen (rBlock (rThen (rBlock (rThen ?_))))))
  refine rp0 rfl ?_
  have hpf := pk_hitJ hlab0 hlabd hp hpk1
  have hf := (((hf.drew).s m106).step m110 (fun k hk hS hk2 => by have hS : k = y0 := hS; have hk3 := hKy k hk2; omega)).step m115 (fun k hk hS hk2 => by have hS : k = bw := hS; have hk3 := hKy k hk2; omega)
  refine ⟨M1, g26, y1, y2, by rw [hpf], ?_, by omega, hm2, fun k hk => by have hq := hKy k hk; omega, hf⟩
  rw [hpf, ← List.append_assoc, ptr_be hple]
  have q1 := (((q1.keep (fd w100) (fun h0 => id)).keep m106 (fun h0 => id)).keep m110 (fun h0 => by have h0 := h0; show ¬ (y1 = y0); omega)).keep m115 (fun h0 => by have h0 := h0; show ¬ (y1 = bw); omega)
  have q2 := (((q2.keep (fd w100) (fun h0 => id)).keep m106 (fun h0 => id)).keep m110 (fun h0 => by have h0 := h0; show ¬ (y2 = y0); omega)).keep m115 (fun h0 => by have h0 := h0; show ¬ (y2 = bw); omega)
  have r26 := r26.keep m115 (nE (by omega))
  exact sh_mk hW (br_cast r26 (by simp only [bvs_app]) rfl) q1 q2 (by have hq := l26 (by simp []); omega) (by omega) (by omega) (by omega) (by omega)
 refine send ((cno rfl (wp_skip (nThen (fcg 0 1 rfl fun _ => wp_seq ?_)))))
 have hno := look_no hc16
 refine sreg (sM rfl (sN rfl (sv (xfld fl116_0 rfl) (sv (xld on37 rfl (hW.r.c 0 rfl rfl)) (sv (xlen sl37 rfl) (svP (xlss rfl rfl) (fun hc34 => ?_) (fun hc34 => ?_)))))))
 rotate_left
 ·
  refine send ((cno rfl (wp_skip (nThen ((sreg (sA rfl (send (fdg 0 1 5 rfl fun _ => wp_seq (wp_block (lp [(0, _), (1, _)] (fun (i : Nat) => [(5, .int .i64 (i : Int))]) (fun (i : Nat) wx => Fr (fun _ => False) w100 wx ∧ (i ≤ lab.length)) (fun (i : Nat) => lab.length - i) 0 ⟨rfl, rfl, rfl, trivial⟩ ⟨Fr.refl _ _, Nat.zero_le _⟩ ?_)))))))))))
  rintro i _ w159 ⟨hL158, hi⟩
  refine fdg 0 1 5 rfl fun _ => ?_
  have z160 := hL158.size
  refine wp_seq (sreg (sM rfl (sM rfl (sv (xidxS st9 rfl rfl rfl (by rw [mkB_size]; simp; omega)) (svP (xneq rfl rfl) (fun hc62 => ?_) (fun hc62 => ?_))))))
  ·
   refine send ((cyes rfl (wp_skip (nThen (fdg 0 1 5 rfl fun _ => wp_block ?_)))))
   have hil : i < lab.length := by rcases Nat.lt_or_ge i lab.length with h | h; exact h; exact absurd (congrArg Int.ofNat (sep_at (by rw [mkB_size]; simp; omega) (by omega))) hc62
   refine lreg (sM rfl (sv (xadd rfl rfl (w64n (i + 1) (by omega) (by omega))) (sA rfl (lend (nBlock (nThen ?_))))))
   refine ⟨i + 1, _, env_okl ⟨rfl, rfl, rfl, trivial⟩, ⟨hL158, (by omega)⟩, ?_⟩
   show lab.length - (i + 1) < lab.length - i; omega
  refine send ((cno rfl (wp_exit (eThen (eThen (eHit (nThen (fdg 0 1 5 rfl fun _ => ?_))))))))
  have hie : i = lab.length := by rcases Nat.lt_or_ge i lab.length with h | h; exact absurd (fun e => let_at (by rw [mkB_size]; simp; omega) h hlabd (by exact Int.ofNat.inj e)) hc62; omega
  refine sdrawH (Fr (fun k => k = y0) w159.drew) [rd0, rd1, rd2, rd3, rd4, rd5, rd6, rd9, rd10, rd11, ld7, ld8, ld12, rd13, rd14, bh15] mixed (by kernel_rfl) (fun _ _ _ _ _ h => h) ?_
  have z161 : w159.drew.heap.size = w159.heap.size := rfl
  have hW := (hW.k hL158).drew
  have zb_hW := hW
  have hS162 : Fr (fun k => k = y0) w159.drew w159.drew := Fr.refl _ _
  refine qqM rfl rfl hS162 (qqM rfl rfl hS162 (qqN rfl rfl hS162 (hvH rfl (fun _ _ => xfld fl116_0 rfl) hS162 (hvH rfl (fun w' hS => xld on37 rfl ((zb_hW.keep hS (nE (by omega))).r.c 0 rfl rfl)) hS162 (qqM rfl rfl hS162 (hvH rfl (fun _ _ => xconv hs3 ki5 rfl (wu8n lab.length (by omega))) hS162 (qqM rfl rfl hS162 (qqM rfl rfl hS162 (hvH rfl (fun _ _ => xcutSHb st9 rfl rfl (by omega)) hS162 ?_)))))))))
  refine hlKH rfl (xslit (bvs [UInt8.ofNat lab.length]) sl37 in5 rfl (by decide) rfl rfl rfl rfl (by decide) (by simp [bvs, bv, Value.cells, UInt8.toNat_ofNat']; omega) (bvs_one _)) ?_
  rintro _ w164 ⟨b72, rfl, m165, h72, e72, s72, r72⟩
  have hS166 := hS162.s m165
  have r0 := ((r0.k hL158).k (fd w159)).k m165
  refine ⟨hS166, ?_⟩
  refine hlKH rfl (xapp sl37 in5 rfl (by decide) rfl rfl r0 (r72.src sl37) (by simp only [maxLen]; omega) (by omega)) ?_
  rintro _ w167 ⟨g73, r73, m168, a73, l73⟩
  have z169 := m168.size
  have hS170 := hS166.step m168 nI
  obtain ⟨p73, q73, rfl, -⟩ := r73.form
  refine ⟨hS170, ?_⟩
  refine hlKH rfl (xapp sl37 in5 rfl (by decide) rfl rfl r73 (src_str st9 (mkB lab)) (by simp only [maxLen, mkB_size]; omega) (by simp only [mkB_size]; omega)) ?_
  rintro _ w171 ⟨g77, r77, m172, a77, l77⟩
  have z173 := m172.size
  have hS174 := hS170.step m172 (fun k hk hS => by have hS : k = g73 := hS; show k = y0; omega)
  obtain ⟨p77, q77, rfl, -⟩ := r77.form
  have hW := ((hW.k m165).keep m168 (nE (by omega))).keep m172 (nE (by omega))
  refine ⟨hS174, ?_⟩
  refine qqN rfl rfl hS174 (hvH rfl (fun _ _ => xfld fl116_0 rfl) hS174 ?_)
  refine bluKH rfl (xstF 0 sz37 hW rfl rfl rfl rfl rfl) ?_
  rintro w176 ⟨m177, hW, s175⟩
  have q1 := (((((q1.keep hL158 (fun h0 => id)).keep (fd w159) (fun h0 => id)).keep m165 (fun h0 => id)).keep m168 (fun h0 => by have h0 := h0; show ¬ (y1 = y0); omega)).keep m172 (fun h0 => by have h0 := h0; show ¬ (y1 = g73); omega)).keep m177 (fun h0 => by have h0 := h0; show ¬ (y1 = bw); omega)
  have q2 := (((((q2.keep hL158 (fun h0 => id)).keep (fd w159) (fun h0 => id)).keep m165 (fun h0 => id)).keep m168 (fun h0 => by have h0 := h0; show ¬ (y2 = y0); omega)).keep m172 (fun h0 => by have h0 := h0; show ¬ (y2 = g73); omega)).keep m177 (fun h0 => by have h0 := h0; show ¬ (y2 = bw); omega)
  have hL1 := (((((hL1.s hL158).drew).s m165).step m168 (fun k hk hS hk2 => by have hS : k = y0 := hS; have hk3 := hKy k hk2; omega)).step m172 (fun k hk hS hk2 => by have hS : k = g73 := hS; have hk3 := hKy k hk2; omega)).step m177 (fun k hk hS hk2 => by have hS : k = bw := hS; have hk3 := hKy k hk2; omega)
  have r77 := r77.keep m177 (nE (by omega))
  refine hendH (fdg 0 1 5 rfl fun _ => lreg (sM rfl (sM rfl (sv (xadd rfl rfl (w64n (lab.length + 1) (by omega) (by omega))) (sv ((xcutSLb (xs := lab ++ [46]) st9 (by rw [List.append_assoc]; rfl) rfl (by simp))) (sA rfl (lend (nBlock (nThen ?_)))))))))
  refine ⟨(rest1, out ++ (UInt8.ofNat lab.length :: lab), M1, g77, y1, y2), _, env_okl ⟨rfl, rfl, trivial⟩, ⟨hL1, (by rw [← List.append_assoc]; exact sh_mk hW (br_cast r77 (by simp [bvs, bv]) rfl) q1 q2 (by have hq := l77 (by omega); omega) (by omega) (by omega) (by omega) (by omega)), (by have hq := pk_missJ hlab0 hlabd hno hn1 hpk1; rw [if_neg (by omega)] at hq; exact hq), (by simp only [List.length_append, List.length_cons]; omega), (by simp only [List.length_append, List.length_cons]; omega), (hm2), (fun k hk => by have hq := hKy k hk; omega)⟩, ?_⟩
  show rest1.length < (lab ++ 46 :: rest1).length; simp; omega
 refine send (fdg 0 1 34 rfl fun _ => cyes rfl (sreg (sM rfl (sM rfl (sN rfl (sv (xfld fl116_1 rfl) (sv (xld on62 rfl (hW.r.c 1 rfl rfl)) (sM rfl (svK (xslit ([.string (mkB (lab ++ 46 :: rest1))]) sl62 in9 rfl (by decide) rfl rfl rfl rfl (by decide) rfl rfl) ?_)))))))))
 rintro _ w117 ⟨b41, rfl, m118, h41, e41, s41, r41⟩
 have q1 := q1.keep m118 (fun h0 => id)
 have rq42 := q1.rw1 hMp
 refine svK (xapp sl62 in9 rfl (by decide) rfl rfl rq42 (r41.src sl62) (by simp only [maxLen]; omega) (by omega)) ?_
 rintro _ w119 ⟨g42, r42, m120, a42, l42⟩
 have z121 := m120.size
 obtain ⟨p42, q42, rfl, -⟩ := r42.form
 have hW := (hW.k m118).keep m120 (nE (by omega))
 refine sN rfl (sv (xfld fl116_1 rfl) (suK (xstF 1 sz62 hW rfl rfl rfl rfl rfl) ?_))
 rintro w123 ⟨m124, hW, s122⟩
 refine send (fcg 0 1 rfl fun _ => ?_)
 have hpos2 : (UInt16.ofNat (bs.length + out.length)).toNat = bs.length + out.length := by rw [UInt16.toNat_ofNat']; omega
 refine ldrawH (Fr (fun k => k = y2) w123.drew) [rd0, rd1, rd2, rd3, rd4, rd5, rd6, rd7, rd8, rd9, ld10, ld11, rd12, rd13, bh14] mixed (by kernel_rfl) (fun _ _ _ _ _ h => h) ?_
 have z125 : w123.drew.heap.size = w123.heap.size := rfl
 have hW := hW.drew
 have zb_hW := hW
 have hS126 : Fr (fun k => k = y2) w123.drew w123.drew := Fr.refl _ _
 refine qqM rfl rfl hS126 (qqM rfl rfl hS126 (qqN rfl rfl hS126 (hvH rfl (fun _ _ => xfld fl116_2 rfl) hS126 (hvH rfl (fun w' hS => xld on99 rfl ((zb_hW.keep hS (nE (by omega))).r.c 2 rfl rfl)) hS126 (qqM rfl rfl hS126 (qqN rfl rfl hS126 (hvH rfl (fun _ _ => xfld fl116_0 rfl) hS126 (hvH rfl (fun w' hS => xld on37 rfl ((zb_hW.keep hS (nE (by omega))).r.c 0 rfl rfl)) hS126 (hvH rfl (fun _ _ => xlen sl37 rfl) hS126 ?_)))))))))
 refine hlKH rfl (xslit ([.int .i64 ((UInt16.ofNat (bs.length + out.length)).toNat : Int)]) sl99 in3 rfl (by decide) rfl rfl rfl rfl (by decide) (by rw [hpos2, ← hbo]; rfl) rfl) ?_
 rintro _ w128 ⟨b55, rfl, m129, h55, e55, s55, r55⟩
 have hS130 := hS126.s m129
 have q2 := ((((q2.keep m118 (fun h0 => id)).keep m120 (fun h0 => by have h0 := h0; show ¬ (y2 = y1); omega)).keep m124 (fun h0 => by have h0 := h0; show ¬ (y2 = bw); omega)).keep (fd w123) (fun h0 => id)).keep m129 (fun h0 => id)
 refine ⟨hS130, ?_⟩
 have rq56 := q2.rw1 hMp
 refine hlKH rfl (xapp sl99 in3 rfl (by decide) rfl rfl rq56 (r55.src sl99) (by simp only [maxLen]; omega) (by omega)) ?_
 rintro _ w131 ⟨g56, r56, m132, a56, l56⟩
 have z133 := m132.size
 have hS134 := hS130.step m132 nI
 obtain ⟨p56, q56, rfl, -⟩ := r56.form
 have hW := (hW.k m129).keep m132 (nE (by omega))
 refine ⟨hS134, ?_⟩
 refine qqN rfl rfl hS134 (hvH rfl (fun _ _ => xfld fl116_2 rfl) hS134 ?_)
 refine bluKH rfl (xstF 2 sz99 hW rfl rfl rfl rfl rfl) ?_
 rintro w136 ⟨m137, hW, s135⟩
 refine lhendH (nThen ((sreg (sA rfl (send (fdg 0 1 5 rfl fun _ => wp_seq (wp_block (lp [(0, _), (1, _)] (fun (i : Nat) => [(5, .int .i64 (i : Int))]) (fun (i : Nat) wx => Fr (fun _ => False) w136 wx ∧ (i ≤ lab.length)) (fun (i : Nat) => lab.length - i) 0 ⟨rfl, rfl, rfl, trivial⟩ ⟨Fr.refl _ _, Nat.zero_le _⟩ ?_))))))))
 rintro i _ w139 ⟨hL138, hi⟩
 refine fdg 0 1 5 rfl fun _ => ?_
 have z140 := hL138.size
 refine wp_seq (sreg (sM rfl (sM rfl (sv (xidxS st9 rfl rfl rfl (by rw [mkB_size]; simp; omega)) (svP (xneq rfl rfl) (fun hc62 => ?_) (fun hc62 => ?_))))))
 ·
  refine send ((cyes rfl (wp_skip (nThen (fdg 0 1 5 rfl fun _ => wp_block ?_)))))
  have hil : i < lab.length := by rcases Nat.lt_or_ge i lab.length with h | h; exact h; exact absurd (congrArg Int.ofNat (sep_at (by rw [mkB_size]; simp; omega) (by omega))) hc62
  refine lreg (sM rfl (sv (xadd rfl rfl (w64n (i + 1) (by omega) (by omega))) (sA rfl (lend (nBlock (nThen ?_))))))
  refine ⟨i + 1, _, env_okl ⟨rfl, rfl, rfl, trivial⟩, ⟨hL138, (by omega)⟩, ?_⟩
  show lab.length - (i + 1) < lab.length - i; omega
 refine send ((cno rfl (wp_exit (eThen (eThen (eHit (nThen (fdg 0 1 5 rfl fun _ => ?_))))))))
 have hie : i = lab.length := by rcases Nat.lt_or_ge i lab.length with h | h; exact absurd (fun e => let_at (by rw [mkB_size]; simp; omega) h hlabd (by exact Int.ofNat.inj e)) hc62; omega
 refine sdrawH (Fr (fun k => k = y0) w139.drew) [rd0, rd1, rd2, rd3, rd4, rd5, rd6, rd9, rd10, rd11, ld7, ld8, ld12, rd13, rd14, bh15] mixed (by kernel_rfl) (fun _ _ _ _ _ h => h) ?_
 have z141 : w139.drew.heap.size = w139.heap.size := rfl
 have hW := (hW.k hL138).drew
 have zb_hW := hW
 have hS142 : Fr (fun k => k = y0) w139.drew w139.drew := Fr.refl _ _
 refine qqM rfl rfl hS142 (qqM rfl rfl hS142 (qqN rfl rfl hS142 (hvH rfl (fun _ _ => xfld fl116_0 rfl) hS142 (hvH rfl (fun w' hS => xld on37 rfl ((zb_hW.keep hS (nE (by omega))).r.c 0 rfl rfl)) hS142 (qqM rfl rfl hS142 (hvH rfl (fun _ _ => xconv hs3 ki5 rfl (wu8n lab.length (by omega))) hS142 (qqM rfl rfl hS142 (qqM rfl rfl hS142 (hvH rfl (fun _ _ => xcutSHb st9 rfl rfl (by omega)) hS142 ?_)))))))))
 refine hlKH rfl (xslit (bvs [UInt8.ofNat lab.length]) sl37 in5 rfl (by decide) rfl rfl rfl rfl (by decide) (by simp [bvs, bv, Value.cells, UInt8.toNat_ofNat']; omega) (bvs_one _)) ?_
 rintro _ w144 ⟨b72, rfl, m145, h72, e72, s72, r72⟩
 have hS146 := hS142.s m145
 have r0 := (((((((((r0.k m118).keep m120 (nE (by omega))).keep m124 (nE (by omega))).k (fd w123)).k m129).keep m132 (nE (by omega))).keep m137 (nE (by omega))).k hL138).k (fd w139)).k m145
 refine ⟨hS146, ?_⟩
 refine hlKH rfl (xapp sl37 in5 rfl (by decide) rfl rfl r0 (r72.src sl37) (by simp only [maxLen]; omega) (by omega)) ?_
 rintro _ w147 ⟨g73, r73, m148, a73, l73⟩
 have z149 := m148.size
 have hS150 := hS146.step m148 nI
 obtain ⟨p73, q73, rfl, -⟩ := r73.form
 refine ⟨hS150, ?_⟩
 refine hlKH rfl (xapp sl37 in5 rfl (by decide) rfl rfl r73 (src_str st9 (mkB lab)) (by simp only [maxLen, mkB_size]; omega) (by simp only [mkB_size]; omega)) ?_
 rintro _ w151 ⟨g77, r77, m152, a77, l77⟩
 have z153 := m152.size
 have hS154 := hS150.step m152 (fun k hk hS => by have hS : k = g73 := hS; show k = y0; omega)
 obtain ⟨p77, q77, rfl, -⟩ := r77.form
 have hW := ((hW.k m145).keep m148 (nE (by omega))).keep m152 (nE (by omega))
 refine ⟨hS154, ?_⟩
 refine qqN rfl rfl hS154 (hvH rfl (fun _ _ => xfld fl116_0 rfl) hS154 ?_)
 refine bluKH rfl (xstF 0 sz37 hW rfl rfl rfl rfl rfl) ?_
 rintro w156 ⟨m157, hW, s155⟩
 have hL1 := ((((((((((((hL1.s m118).step m120 (fun k hk hS hk2 => by have hS : k = y1 := hS; have hk3 := hKy k hk2; omega)).step m124 (fun k hk hS hk2 => by have hS : k = bw := hS; have hk3 := hKy k hk2; omega)).drew).s m129).step m132 (fun k hk hS hk2 => by have hS : k = y2 := hS; have hk3 := hKy k hk2; omega)).step m137 (fun k hk hS hk2 => by have hS : k = bw := hS; have hk3 := hKy k hk2; omega)).s hL138).drew).s m145).step m148 (fun k hk hS hk2 => by have hS : k = y0 := hS; have hk3 := hKy k hk2; omega)).step m152 (fun k hk hS hk2 => by have hS : k = g73 := hS; have hk3 := hKy k hk2; omega)).step m157 (fun k hk hS hk2 => by have hS : k = bw := hS; have hk3 := hKy k hk2; omega)
 have r42 := ((((((((((r42.keep m124 (nE (by omega))).k (fd w123)).k m129).keep m132 (nE (by omega))).keep m137 (nE (by omega))).k hL138).k (fd w139)).k m145).keep m148 (nE (by omega))).keep m152 (nE (by omega))).keep m157 (nE (by omega))
 have r56 := ((((((r56.keep m137 (nE (by omega))).k hL138).k (fd w139)).k m145).keep m148 (nE (by omega))).keep m152 (nE (by omega))).keep m157 (nE (by omega))
 have r77 := r77.keep m157 (nE (by omega))
 refine hendH (fdg 0 1 5 rfl fun _ => lreg (sM rfl (sM rfl (sv (xadd rfl rfl (w64n (lab.length + 1) (by omega) (by omega))) (sv ((xcutSLb (xs := lab ++ [46]) st9 (by rw [List.append_assoc]; rfl) rfl (by simp))) (sA rfl (lend (nBlock (nThen ?_)))))))))
 refine ⟨(rest1, out ++ (UInt8.ofNat lab.length :: lab), M1 ++ [((mkB (lab ++ 46 :: rest1)), UInt16.ofNat (bs.length + out.length))], g77, g42, g56), _, env_okl ⟨rfl, rfl, trivial⟩, ⟨hL1, (by rw [← List.append_assoc]; exact sh_mk hW (br_cast r77 (by simp [bvs, bv]) rfl) (.inr ⟨by simp, by simpa [strs] using r42⟩) (.inr ⟨by simp, by simpa [ints] using r56⟩) (by have hq := l77 (by omega); omega) (by omega) (by omega) (by omega) (by simp only [List.length_append, List.length_cons, List.length_nil]; omega)), (by have hq := pk_missJ hlab0 hlabd hno hn1 hpk1; rw [if_pos (by omega)] at hq; exact hq), (by simp only [List.length_append, List.length_cons]; omega), (by simp only [List.length_append, List.length_cons, List.length_nil]; omega), (by intro q hq; rcases List.mem_append.1 hq with hq | hq; exact hm2 q hq; simp only [List.mem_singleton] at hq; subst hq; rw [hpos2]; omega), (fun k hk => by have hq := hKy k hk; omega)⟩, ?_⟩
 show rest1.length < (lab ++ 46 :: rest1).length; simp; omega
end Go.Proofs.YtifnodoffgfpbaaGreatDoor

namespace Go.Proofs.YtifnodoffgfpbaaGreatDoor
open Go

theorem Sh.lts {w : World} {bw g0 g1 g2 : Nat} {bs : List UInt8} {M : Ent} (h : Sh w bw bs M g0 g1 g2) : bw < w.heap.size ∧ g0 < w.heap.size ∧ g1 < w.heap.size ∧ g2 < w.heap.size := by
  obtain ⟨v0, v1, v2, a, b, c, d, e, f, g, _⟩ := h
  exact ⟨a.lt, e, f, g⟩
def KN (y : Bool) (r : RecD) : Prop := y = true ↔ (r.kind = 2 ∨ r.kind = 3 ∨ r.kind = 5)
theorem KN.t {y : Bool} {r : RecD} (h : KN y r) (e : y = true) : r.kind = 2 ∨ r.kind = 3 ∨ r.kind = 5 := h.1 e
theorem KN.f {y : Bool} {r : RecD} (h : KN y r) (e : y = false) : ¬ (r.kind = 2 ∨ r.kind = 3 ∨ r.kind = 5) := fun q => Bool.noConfusion ((h.2 q).symm.trans e)
def Gd (n bw g0 g1 g2 : Nat) : Prop := (n = 0 ∧ g1 = bw ∧ g2 = bw) ∨ (0 < n ∧ g1 ≠ bw ∧ g2 ≠ bw ∧ g1 ≠ g2 ∧ g1 ≠ g0 ∧ g2 ≠ g0)
theorem Gd.ne1 {n bw g0 g1 g2 : Nat} (h : Gd n bw g0 g1 g2) (h0 : 0 < n) : g1 ≠ bw ∧ g1 ≠ g0 := by rcases h with h | h; exact absurd h.1 (by omega); exact ⟨h.2.1, h.2.2.2.2.1⟩
theorem Gd.ne2 {n bw g0 g1 g2 : Nat} (h : Gd n bw g0 g1 g2) (h0 : 0 < n) : g2 ≠ bw ∧ g2 ≠ g0 := by rcases h with h | h; exact absurd h.1 (by omega); exact ⟨h.2.2.1, h.2.2.2.2.2⟩
theorem Gd.up {n bw g0 g0' g1 g2 S : Nat} (h : Gd n bw g0 g1 g2) (hs : g0' = g0 ∨ S ≤ g0') (h1 : g1 < S) (h2 : g2 < S) : Gd n bw g0' g1 g2 := by
  rcases hs with rfl | hs
  · exact h
  · rcases h with h | ⟨a, b, c, d, _, _⟩
    · exact .inl h
    · exact .inr ⟨a, b, c, d, by omega, by omega⟩
theorem pb_mxJ {M M1 : Ent} {p : Nat} {r : RecD} {P : List UInt8} (h : r.kind = 6) (h1 : packName (some M) (p + 2) (bt r.host) = (P, some M1)) : packBody (some M) p r = (be16 r.n1.toNat ++ P, some M1) := by
  rw [pb_mx h, packMx, h1]
theorem pb_soaJ {M M1 M2 : Ent} {p : Nat} {r : RecD} {P Q : List UInt8} (h : r.kind = 4) (h1 : packName (some M) p (bt r.host) = (P, some M1)) (h2 : packName (some M1) (p + P.length) (bt r.box) = (Q, some M2)) : packBody (some M) p r = (P ++ (Q ++ soaL r), some M2) := by
  rw [pb_soa h, packSoa, h1]
  simp only []
  rw [h2]
theorem pr_J {M M1 M2 : Ent} {p : Nat} {r : RecD} {P B : List UInt8} (h1 : packName (some M) p (bt r.name) = (P, some M1)) (h2 : packBody (some M1) (p + P.length + 10) r = (B, some M2)) : packRec (some M) p r = (P ++ packTail r B, some M2) := by
  rw [packRec, h1]
  simp only []
  rw [h2]
theorem br_mid {w : World} {v : Value} {g n : Nat} {X Y x B : List UInt8} (h : BR w v g n (X ++ B)) (e : X = Y ++ x) : Rw w v g 5 1 n (bvs Y ++ (bvs x ++ bvs B)) := by
  subst e
  simpa only [BR, bvs_app, List.append_assoc] using h
section
variable {P : Program} {n : Nat} {l : List (Nat × Value)} {w : World} {ty : TypeId} {x y : Operand}
theorem xcutLe {T E : TypeId} {sz b o m c lo : Nat} {k : IntKind} {i : Int} {p : Operand} (hT : slcB P T E = true) (hE : szB P E sz = true) (hx : ev n l x = some (.slice (some ⟨b, o, none⟩) m c)) (hp : ev n l p = some (.int k i)) (hi' : i = (lo : Int)) (h1 : lo ≤ m) (h2 : lo < c) :
    Ex P n l (.slice T x (some p) none none) ty w (.slice (some ⟨b, o + lo * sz, none⟩) (m - lo) (c - lo)) w := by
  obtain ⟨v, w', h, o', rfl, ho, rfl⟩ := xcutL (ty := ty) (w := w) hT hE hx hp hi' h1
  rw [ho h2] at h
  exact h
theorem xcopyIn {T TX E : TypeId} {g o m c N : Nat} {V u : Value} {pre mid post : List Value} {xs : List UInt8} (hT : slcB P T E = true) (hE : szB P E 1 = true) (hx : ev n l x = some (.slice (some ⟨g, o, none⟩) m c)) (hy : ev n l y = some u) (hc : Cpy P w u xs)
    (hR : Rw w V g E 1 N (pre ++ (mid ++ post))) (hp : pre.length = o) (hmid : mid.length = xs.length) (hm : xs.length ≤ m) (h0 : 0 < N) :
    ExK P n l (.call { callee := .builtin .copy, args := #[x, y], argTypes := #[T, TX] }) ty w (fun _ w' => Fr (· = g) w w' ∧ Rw w' V g E 1 N (pre ++ (bvs xs ++ post)) ∧ w'.heap.size = w.heap.size) := by
  obtain ⟨⟨hlen, hown⟩, hblk, hone⟩ := hR
  rcases hown with ⟨_, hn0⟩ | ⟨g', cap, cur, rfl, hb0, hheap, hnc, hcm, hcs, htake⟩
  · omega
  · obtain rfl := hblk g' rfl
    subst hp
    rw [Nat.mul_one] at hcs htake hlen
    have hcur : cur.toList = pre ++ (mid ++ (post ++ cur.toList.drop N)) := by
      have h1 := List.take_append_drop N cur.toList
      rw [htake] at h1
      exact h1.symm.trans (by simp only [List.append_assoc])
    have hheap' : w.heap[g']? = some (.cells (pre ++ (mid ++ (post ++ cur.toList.drop N))).toArray E (0, 0)) := by rw [hheap, ← hcur]
    have hbl : (bvs xs).length = xs.length := bvs_length _
    have hfit : pre.length + (bvs xs).length ≤ (pre ++ (mid ++ (post ++ cur.toList.drop N))).length := by simp only [List.length_append]; omega
    have hsets := heap_sets (bvs xs) pre.length hheap' hfit
    rw [splice_mid _ _ _ _ (by rw [hbl, hmid])] at hsets
    have hB : Blk w g' (pre ++ (mid ++ (post ++ cur.toList.drop N))) := ⟨E, hheap'⟩
    have hst := run_storeCells_cells (P := P) g' pre.length (bvs xs) 0 w (fun j hj => by rw [Nat.add_zero]; exact (hB.there hfit j hj).1) (fun j hj => by rw [Nat.add_zero]; exact (hB.there hfit j hj).2) (by simpa using bvs_one xs)
    simp only [Nat.add_zero] at hst
    have hmin : min xs.length m = xs.length := Nat.min_eq_left hm
    have hfc := hc.2 xs.length (Nat.le_refl _)
    rw [List.take_length] at hfc
    have hs := szB_spec hE
    cases hi' : P.info? E with
    | none => rw [hi'] at hs; cases hs
    | some j =>
    rw [hi'] at hs
    simp only [Option.map_some, Option.some.injEq] at hs
    refine ⟨.int .i64 (xs.length : Int), w.setCells g' pre.length (bvs xs), fun r _ _ _ _ => ?_, hsets.2.1, ⟨⟨?_, .inr ⟨g', cap, _, rfl, hb0, hsets.1, hnc, hcm, ?_, ?_⟩⟩, hblk, ?_⟩, hsets.2.2⟩
    · simp only [execOp]
      simp [resolve, invoke, builtin, ev_eval r hx, ev_eval r hy, Builtin.copy_, run_underlying (slcB_spec hT), hc.1, sizeOf, typeInfo, hi', hs, hfc, hst, goInt, hmin]
    · rw [Nat.mul_one]; simp only [List.length_append] at hlen ⊢; omega
    · have := congrArg List.length hcur
      simp only [Array.length_toList, List.length_append] at this
      simp only [List.size_toArray, List.length_append]; omega
    · rw [Nat.mul_one]
      simp only [List.length_append] at hlen
      have e : pre ++ (bvs xs ++ (post ++ cur.toList.drop N)) = (pre ++ (bvs xs ++ post)) ++ cur.toList.drop N := by simp
      show (pre ++ (bvs xs ++ (post ++ cur.toList.drop N))).take N = _
      rw [e, List.take_left' (by simp only [List.length_append]; omega)]
    · simp only [List.all_append, Bool.and_eq_true] at hone ⊢
      exact ⟨hone.1, bvs_one _, hone.2.2⟩
end

theorem c54 {w : World} {bw g0 g1 g2 : Nat} {bs : List UInt8} {M : Ent} {U K : Nat → Prop} {r : RecD} {vd vt vp : Value} (hd : BA U w vd r.data) (ht : LA TextEl [1] U w vt r.texts) (hp : LA PairEl lPair U w vp r.pairs) (hSh : Sh w bw bs M g0 g1 g2) (hr : r.fits) (h0 : 0 ≤ r.kind) (h1 : r.kind ≤ 13) (hn : NamesOk r) (hbl : bs.length ≤ 9000000) (hMl : M.length ≤ 90000) (hm2 : ∀ q ∈ M, q.2.toNat ≤ 16383) (hK : ∀ k, K k → k < w.heap.size ∧ k ≠ bw ∧ k ≠ g0 ∧ k ≠ g1 ∧ k ≠ g2) (hUK : ∀ k, U k → K k) :
  Ret PP 54 [.pointer (some ⟨bw, 0, none⟩), ag (recSegs r vd vt vp)] w (fun _ w' => ∃ M' g0' g1' g2', (packRec (some M) bs.length r).2 = some M' ∧ Sh w' bw (bs ++ (packRec (some M) bs.length r).1) M' g0' g1' g2' ∧ M'.length ≤ M.length + 762 ∧ (∀ q ∈ M', q.2.toNat ≤ 16383) ∧ (∀ k, K k → k ≠ g0' ∧ k ≠ g1' ∧ k ≠ g2') ∧ Fr (fun k => ¬ K k) w w') := by
 have hU : ∀ k, U k → k < w.heap.size := fun k hk => (hK k (hUK k hk)).1
 have hlt := hSh.lts
 have hbod := bodyL_fits hr
 obtain ⟨at0, ct0, rfl⟩ := ht.form
 obtain ⟨ap0, cp0, rfl⟩ := hp.form
 obtain ⟨ad0, cd0, rfl, -⟩ := id hd
 have hf : Fr (fun k => ¬ K k) w w := Fr.refl _ _
 refine ret_of Tryz.func54 rfl rfl rfl [(0, _), (1, _)] rfl ?_
 refine sreg (svK (xboxS (lens := lRec) rfl rfl) ?_)
 rintro _ w2 ⟨b3, rfl, m3, h3, e1, s1⟩
 have hd := hd.keep (fun k hk => by have hk := hK k (hUK k hk); omega) m3 nF
 have ht := ht.keep text_st (fun k hk => by have hk := hK k (hUK k hk); omega) m3 nF
 have hp := hp.keep pair_st (fun k hk => by have hk := hK k (hUK k hk); omega) m3 nF
 refine send (fcg 0 3 rfl fun _ => ?_)
 obtain ⟨K3, hK3d⟩ : ∃ K3 : Nat → Prop, K3 = fun k => K k ∨ k = b3 := ⟨_, rfl⟩
 have hK3l : ∀ k, K k → K3 k := fun k hk => by rw [hK3d]; exact .inl hk
 have hK3b : K3 b3 := by rw [hK3d]; exact .inr rfl
 have hKy : ∀ k, K3 k → k < w2.heap.size ∧ k ≠ bw ∧ k ≠ g0 ∧ k ≠ g1 ∧ k ≠ g2 := fun k hk => by rw [hK3d] at hk; rcases hk with hk | hk; (have hq := hK k hk; omega); omega
 refine sreg (sM rfl (sv (xfld fl65_0 rfl) (sv (xld on9 rfl (h3.r.c 0 rfl rfl)) ?_)))
 have hnp8 := name_pos (hn.1)
 rw [bt_length] at hnp8
 have hSh := hSh.keep m3 id id id id
 refine sc (xcall ca52 rfl) (c52 (K := K3) hSh (hn.1) (by first | omega | (simp only [List.length_append, be16_length]; omega)) (by omega) hm2 hKy) ?_
 rintro _ w4 ⟨M8, ya8, yb8, yc8, hpk8, hSh, hml8, hm2, hKq, m5⟩
 have z6 := m5.size
 have hps8 : (bs).length = bs.length := rfl
 obtain ⟨P8, hP8⟩ : ∃ P, packName (some M) (bs.length) (bt r.name) = (P, some M8) := ⟨_, Prod.ext rfl (by rw [hps8] at hpk8; exact hpk8)⟩
 have hSh : Sh w4 bw (bs ++ P8) M8 ya8 yb8 yc8 := by rw [hps8, hP8] at hSh; exact hSh
 have hPl8 := packName_le (some M) (bs.length) (bt r.name)
 rw [hP8, bt_length] at hPl8
 simp only at hPl8
 have hd := hd.keep (fun k hk => by have hk := hKy k (hK3l k (hUK k hk)); omega) m5 (fun k hk h => h (hK3l k (hUK k hk)))
 have ht := ht.keep text_st (fun k hk => by have hk := hKy k (hK3l k (hUK k hk)); omega) m5 (fun k hk h => h (hK3l k (hUK k hk)))
 have hp := hp.keep pair_st (fun k hk => by have hk := hKy k (hK3l k (hUK k hk)); omega) m5 (fun k hk h => h (hK3l k (hUK k hk)))
 have hKy : ∀ k, K3 k → k < w4.heap.size ∧ k ≠ bw ∧ k ≠ ya8 ∧ k ≠ yb8 ∧ k ≠ yc8 := fun k hk => by have hq := hKy k hk; have hq2 := hKq k hk; omega
 refine send (fcg 0 3 rfl fun _ => ?_)
 obtain ⟨u0, u1, u2, hW, r0, q1, q2, hl0, hl1, hl2, hne, hgs⟩ := hSh
 have hgs : Gd _ bw ya8 yb8 yc8 := hgs
 obtain ⟨p0, c0, rfl, -⟩ := Rw.form r0
 obtain ⟨a1, c1, rfl, hs1⟩ := q1.form
 obtain ⟨a2, c2, rfl, hs2⟩ := q2.form
 refine sdrawH (Fr (fun k => k = ya8) w4.drew) [rd0, rd1, rd2, rd3, rd4, rd5, rd8, rd9, rd11, rd12, ld6, ld7, ld10, ld13, ld14, ld15, (16, .ld), (17, .ld), rd18, rd19, (20, .bh)] mixed (by kernel_rfl) (fun _ _ _ _ _ h => h) ?_
 have z7 : w4.drew.heap.size = w4.heap.size := rfl
 have h3 := (h3.keep m5 (fun h => h hK3b)).drew
 have zb_h3 := h3
 have hW := hW.drew
 have zb_hW := hW
 have hS8 : Fr (fun k => k = ya8) w4.drew w4.drew := Fr.refl _ _
 refine qqM rfl rfl hS8 (qqM rfl rfl hS8 (qqN rfl rfl hS8 (hvH rfl (fun _ _ => xfld fl116_0 rfl) hS8 (hvH rfl (fun w' hS => xld on37 rfl ((zb_hW.keep hS (nE (by omega))).r.c 0 rfl rfl)) hS8 (hvH rfl (fun w' hS => xldS (lens := lRec) ro65 rfl (zb_h3.keep hS (by have hq := hKy b3 hK3b; show ¬ (b3 = ya8); omega)).r) hS8 (hvH rfl (fun _ _ => xfld fl65_2 rfl) hS8 (hvH rfl (fun w' hS => xld on22 rfl ((zb_h3.keep hS (by have hq := hKy b3 hK3b; show ¬ (b3 = ya8); omega)).r.c 2 rfl rfl)) hS8 (hvH rfl (fun _ _ => xfld fl65_3 rfl) hS8 (hvH rfl (fun w' hS => xld on61 rfl ((zb_h3.keep hS (by have hq := hKy b3 hK3b; show ¬ (b3 = ya8); omega)).r.c 3 rfl rfl)) hS8 ?_)))))))))
 refine hcH rfl (xcall ca86 rfl) (c86 (by omega) (by omega)) ?_
 rintro _ w9 ⟨rfl, m10⟩
 have z11 := m10.size
 have hS12 := hS8.s m10
 refine ⟨hS12, ?_⟩
 refine hcH rfl (xcall ca53 rfl) (c53 (by first | omega | exact u16lt _)) ?_
 rintro _ w13 ⟨p16, q16, g16, rfl, r16, m14, a16, l16⟩
 have z15 := m14.size
 have hS16 := hS12.s m14
 refine ⟨hS16, ?_⟩
 refine hcH rfl (xcall ca53 rfl) (c53 (by first | omega | exact u16lt _)) ?_
 rintro _ w17 ⟨p19, q19, g19, rfl, r19, m18, a19, l19⟩
 have z19 := m18.size
 have hS20 := hS16.s m18
 refine ⟨hS20, ?_⟩
 refine hcH rfl (xcall ca99 rfl) (c99 (by first | omega | exact u32lt _)) ?_
 rintro _ w21 ⟨p22, q22, g22, rfl, r22, m22, a22, l22⟩
 have z23 := m22.size
 have hS24 := hS20.s m22
 refine ⟨hS24, ?_⟩
 refine hcH rfl (xcall ca53 rfl) (c53 (x := 0) (by decide)) ?_
 rintro _ w25 ⟨p23, q23, g23, rfl, r23, m26, a23, l23⟩
 have z27 := m26.size
 have hS28 := hS24.s m26
 refine ⟨hS28, ?_⟩
 refine hlKH rfl (xslit [_, _, _, _] sl105 in37 rfl (by decide) rfl rfl rfl rfl (by decide) rfl rfl) ?_
 rintro _ w30 ⟨b24, rfl, m31, h24, e24, s24, r24⟩
 have hS32 := hS28.s m31
 have r16 := (((r16.k m18).k m22).k m26).k m31
 have r19 := ((r19.k m22).k m26).k m31
 have r22 := (r22.k m26).k m31
 have r23 := r23.k m31
 refine ⟨hS32, ?_⟩
 refine hcH rfl (xcall ca21 rfl) (c21 (U := fun k => k = g16 ∨ k = g19 ∨ k = g22 ∨ k = g23) (Rw.rng r24) (by omega) rfl (fun k hk => by have hk : k = g16 ∨ k = g19 ∨ k = g22 ∨ k = g23 := hk; rcases hk with hk | hk | hk | hk <;> first | omega | (have := hU k hk; omega)) (All2.cons (BR.ba r16 (.inl rfl)) (All2.cons (BR.ba r19 (.inr (.inl rfl))) (All2.cons (BR.ba r22 (.inr (.inr (.inl rfl)))) (All2.cons (BR.ba r23 (.inr (.inr (.inr rfl)))) All2.nil)))) (by simp only [fC, fN, List.length_append, be16_length, be32_length, List.length_nil]; omega) (by decide)) ?_
 rintro _ w33 ⟨p25, q25, g25, rfl, r25, m34, a25, l25⟩
 have z35 := m34.size
 have hS36 := hS32.s m34
 have r0 := (((((((r0.k (fd w4)).k m10).k m14).k m18).k m22).k m26).k m31).k m34
 refine ⟨hS36, ?_⟩
 refine hlKH rfl (xapp sl37 in5 rfl (by decide) rfl rfl r0 (r25.src sl37) (by simp only [maxLen]; simp [be16_length, be32_length]; omega) (by simp [be16_length, be32_length]; omega)) ?_
 rintro _ w37 ⟨g26, r26, m38, a26, l26⟩
 have z39 := m38.size
 have hS40 := hS36.step m38 nI
 obtain ⟨p26, q26, rfl, -⟩ := r26.form
 have hN26 := ((Nat.mul_one _).symm.trans (Rw.len r26).symm).trans (show _ = bs.length + P8.length + 10 by simp [bvs_length, be16_length, be32_length]; try omega)
 obtain ⟨X1, hX1⟩ : ∃ X, X = (bs ++ (P8 ++ (be16 (typeN r).toNat ++ (be16 r.cls.toNat ++ be32 r.ttl.toNat)))) ++ be16 0 := ⟨_, rfl⟩
 have hX1l : X1.length = bs.length + P8.length + 10 := by rw [hX1]; simp [be16_length, be32_length]; omega
 have r26 : BR _ _ g26 (bs.length + P8.length + 10) X1 := br_cast r26 (by rw [hX1]; simp [bvs_app]) hN26
 have hW := (((((((hW.k m10).k m14).k m18).k m22).k m26).k m31).k m34).keep m38 (nE (by omega))
 refine ⟨hS40, ?_⟩
 refine qqN rfl rfl hS40 (hvH rfl (fun _ _ => xfld fl116_0 rfl) hS40 ?_)
 refine bluKH rfl (xstF 0 sz37 hW rfl rfl rfl rfl rfl) ?_
 rintro w42 ⟨m43, hW, s41⟩
 have q1 := (((((((((q1.keep (fd w4) (fun h0 => id)).keep m10 (fun h0 => id)).keep m14 (fun h0 => id)).keep m18 (fun h0 => id)).keep m22 (fun h0 => id)).keep m26 (fun h0 => id)).keep m31 (fun h0 => id)).keep m34 (fun h0 => id)).keep m38 (fun h0 => by have h0 := h0; have hq := hgs.ne1 h0; show ¬ (yb8 = ya8); omega)).keep m43 (fun h0 => by have h0 := h0; have hq := hgs.ne1 h0; show ¬ (yb8 = bw); omega)
 have q2 := (((((((((q2.keep (fd w4) (fun h0 => id)).keep m10 (fun h0 => id)).keep m14 (fun h0 => id)).keep m18 (fun h0 => id)).keep m22 (fun h0 => id)).keep m26 (fun h0 => id)).keep m31 (fun h0 => id)).keep m34 (fun h0 => id)).keep m38 (fun h0 => by have h0 := h0; have hq := hgs.ne2 h0; show ¬ (yc8 = ya8); omega)).keep m43 (fun h0 => by have h0 := h0; have hq := hgs.ne2 h0; show ¬ (yc8 = bw); omega)
 have hgs := hgs.up a26 (by omega) (by omega)
 have hf := (((((((((((hf.s m3).step m5 (fun k hk hS hk2 => hS (hK3l k hk2))).drew).s m10).s m14).s m18).s m22).s m26).s m31).s m34).step m38 (fun k hk hS hk2 => by have hS : k = ya8 := hS; have hk3 := hKy k (hK3l k hk2); omega)).step m43 (fun k hk hS hk2 => by have hS : k = bw := hS; have hk3 := hKy k (hK3l k hk2); omega)
 have hd := (((((((((hd.keep (fun k hk => by have hk := hKy k (hK3l k (hUK k hk)); omega) (fd w4) nF).keep (fun k hk => by have hk := hKy k (hK3l k (hUK k hk)); omega) m10 nF).keep (fun k hk => by have hk := hKy k (hK3l k (hUK k hk)); omega) m14 nF).keep (fun k hk => by have hk := hKy k (hK3l k (hUK k hk)); omega) m18 nF).keep (fun k hk => by have hk := hKy k (hK3l k (hUK k hk)); omega) m22 nF).keep (fun k hk => by have hk := hKy k (hK3l k (hUK k hk)); omega) m26 nF).keep (fun k hk => by have hk := hKy k (hK3l k (hUK k hk)); omega) m31 nF).keep (fun k hk => by have hk := hKy k (hK3l k (hUK k hk)); omega) m34 nF).keep (fun k hk => by have hk := hKy k (hK3l k (hUK k hk)); omega) m38 (fun k hk hS => by have hk := hKy k (hK3l k (hUK k hk)); have hS : k = ya8 := hS; omega)).keep (fun k hk => by have hk := hKy k (hK3l k (hUK k hk)); omega) m43 (fun k hk hS => by have hk := hKy k (hK3l k (hUK k hk)); have hS : k = bw := hS; omega)
 have ht := (((((((((ht.keep text_st (fun k hk => by have hk := hKy k (hK3l k (hUK k hk)); omega) (fd w4) nF).keep text_st (fun k hk => by have hk := hKy k (hK3l k (hUK k hk)); omega) m10 nF).keep text_st (fun k hk => by have hk := hKy k (hK3l k (hUK k hk)); omega) m14 nF).keep text_st (fun k hk => by have hk := hKy k (hK3l k (hUK k hk)); omega) m18 nF).keep text_st (fun k hk => by have hk := hKy k (hK3l k (hUK k hk)); omega) m22 nF).keep text_st (fun k hk => by have hk := hKy k (hK3l k (hUK k hk)); omega) m26 nF).keep text_st (fun k hk => by have hk := hKy k (hK3l k (hUK k hk)); omega) m31 nF).keep text_st (fun k hk => by have hk := hKy k (hK3l k (hUK k hk)); omega) m34 nF).keep text_st (fun k hk => by have hk := hKy k (hK3l k (hUK k hk)); omega) m38 (fun k hk hS => by have hk := hKy k (hK3l k (hUK k hk)); have hS : k = ya8 := hS; omega)).keep text_st (fun k hk => by have hk := hKy k (hK3l k (hUK k hk)); omega) m43 (fun k hk hS => by have hk := hKy k (hK3l k (hUK k hk)); have hS : k = bw := hS; omega)
 have hp := (((((((((hp.keep pair_st (fun k hk => by have hk := hKy k (hK3l k (hUK k hk)); omega) (fd w4) nF).keep pair_st (fun k hk => by have hk := hKy k (hK3l k (hUK k hk)); omega) m10 nF).keep pair_st (fun k hk => by have hk := hKy k (hK3l k (hUK k hk)); omega) m14 nF).keep pair_st (fun k hk => by have hk := hKy k (hK3l k (hUK k hk)); omega) m18 nF).keep pair_st (fun k hk => by have hk := hKy k (hK3l k (hUK k hk)); omega) m22 nF).keep pair_st (fun k hk => by have hk := hKy k (hK3l k (hUK k hk)); omega) m26 nF).keep pair_st (fun k hk => by have hk := hKy k (hK3l k (hUK k hk)); omega) m31 nF).keep pair_st (fun k hk => by have hk := hKy k (hK3l k (hUK k hk)); omega) m34 nF).keep pair_st (fun k hk => by have hk := hKy k (hK3l k (hUK k hk)); omega) m38 (fun k hk hS => by have hk := hKy k (hK3l k (hUK k hk)); have hS : k = ya8 := hS; omega)).keep pair_st (fun k hk => by have hk := hKy k (hK3l k (hUK k hk)); omega) m43 (fun k hk hS => by have hk := hKy k (hK3l k (hUK k hk)); have hS : k = bw := hS; omega)
 have h3 := ((((((((h3.k m10).k m14).k m18).k m22).k m26).k m31).k m34).keep m38 (by have hq := hKy b3 hK3b; show ¬ (b3 = ya8); omega)).keep m43 (by have hq := hKy b3 hK3b; show ¬ (b3 = bw); omega)
 have hKy : ∀ k, K3 k → k < w42.heap.size ∧ k ≠ bw ∧ k ≠ g26 ∧ k ≠ yb8 ∧ k ≠ yc8 := fun k hk => by have hq := hKy k hk; omega
 have hne : g26 ≠ bw := by omega
 have l26 := l26 (.inl (by omega))
 clear a26
 refine hendH ((sreg (sM rfl (sN rfl (sv (xfld fl116_0 rfl) (sv (xld on37 rfl (hW.r.c 0 rfl rfl)) (sv (xlen sl37 rfl) (sA rfl (send ((wp_seq (sreg (sv (xfld fl65_5 rfl) (sv (xld on3 rfl (h3.r.c 5 rfl rfl)) (send ((wp_block (wp_seq (sreg (sv (xeql rfl rfl) (sA rfl (send (ffg 0 3 4 35 46 rfl fun _ => ?_)))))))))))))))))))))))
 refine jcut [(0, _), (3, _), (4, _), (35, _)] ⟨rfl, rfl, rfl, rfl, trivial⟩ (fun (x : Bool) => match x with | y => [(46, .bool y)]) (fun (x : Bool) wx => match x with | y => Fr (fun _ => False) w42 wx ∧ (KN y r)) ?_ ?_
 ·
  have hJ44 : Fr (fun _ => False) w42 w42 := Fr.refl _ _
  refine cB rfl (fun hb => ?_) (fun hb => ?_)
  ·
   refine wp_skip ?_
   exact ⟨rfl, _, _, env_okl ⟨rfl, rfl, rfl, rfl, rfl, trivial⟩, ⟨hJ44, (⟨fun _ => by have := of_decide_eq_true hb; omega, fun _ => hb⟩)⟩⟩
  have hk2 := of_decide_eq_false hb
  refine sreg (sv (xeql rfl rfl) (sA rfl (send (ffg 0 3 4 35 46 rfl fun _ => ?_))))
  refine cB rfl (fun hb => ?_) (fun hb => ?_)
  ·
   refine wp_skip ?_
   exact ⟨rfl, _, _, env_okl ⟨rfl, rfl, rfl, rfl, rfl, trivial⟩, ⟨hJ44, (⟨fun _ => by have := of_decide_eq_true hb; omega, fun _ => hb⟩)⟩⟩
  have hk3 := of_decide_eq_false hb
  refine lreg (sv (xeql rfl rfl) (sA rfl (lend ?_)))
  exact ⟨rfl, _, _, env_okl ⟨rfl, rfl, rfl, rfl, rfl, trivial⟩, ⟨hJ44, (by rw [KN, decide_eq_true_iff]; omega)⟩⟩
 rintro y _ w45 ⟨hJ44, hyk⟩
 have z46 := hJ44.size
 have hf := hf.s hJ44
 have hW := hW.k hJ44
 have q1 := q1.keep hJ44 (fun h0 => id)
 have q2 := q2.keep hJ44 (fun h0 => id)
 refine nThen (ffg 0 3 4 35 46 rfl fun _ => ?_)
 refine jcut [(0, _), (4, _)] ⟨rfl, rfl, trivial⟩ (fun (x : List UInt8 × Ent × Nat × Nat × Nat) => match x with | (B, M2, z0, z1, z2) => []) (fun (x : List UInt8 × Ent × Nat × Nat × Nat) wx => match x with | (B, M2, z0, z1, z2) => Fr (fun k => ¬ K3 k) w45 wx ∧ (Sh wx bw (X1 ++ B) M2 z0 z1 z2) ∧ (packBody (some M8) (bs.length + P8.length + 10) r = (B, some M2)) ∧ (M2.length ≤ M8.length + 508) ∧ (∀ q ∈ M2, q.2.toNat ≤ 16383) ∧ (∀ k, K3 k → k < wx.heap.size ∧ k ≠ bw ∧ k ≠ z0 ∧ k ≠ z1 ∧ k ≠ z2)) ?_ ?_
 rotate_left
 ·
  rintro ⟨B, M2, z0, z1, z2⟩ _ w124 ⟨hJ47, hSh, hB, hml, hm2, hKy⟩
  have z125 := hJ47.size
  refine nBlock (nThen (fcg 0 4 rfl fun _ => ?_))
  obtain ⟨u0, u1, u2, hW, r0, q1, q2, hl0, hl1, hl2, hne, hgs⟩ := hSh
  have hgs : Gd _ bw z0 z1 z2 := hgs
  obtain ⟨p0, c0, rfl, hcc, hcm, hpa, -⟩ := Rw.form r0
  obtain ⟨a1, c1, rfl, hs1⟩ := q1.form
  obtain ⟨a2, c2, rfl, hs2⟩ := q2.form
  obtain rfl := hpa (by simp; omega)
  rw [List.length_append, hX1l] at hcc
  simp only [maxLen] at hcm
  refine ldrawH (Fr (fun _ => False) w124.drew) [rd0, rd1, rd2, rd3, rd4, rd5, rd6, rd7, rd8, rd9, rd10, rd11, rd12, rd13, rd14, ld15, (16, .bh)] mixed (by kernel_rfl) (fun _ _ _ _ _ h => h) ?_
  have z126 : w124.drew.heap.size = w124.heap.size := rfl
  have hW := hW.drew
  have zb_hW := hW
  have hS127 : Fr (fun _ => False) w124.drew w124.drew := Fr.refl _ _
  refine qqM rfl rfl hS127 (qqN rfl rfl hS127 (hvH rfl (fun _ _ => xfld fl116_0 rfl) hS127 (hvH rfl (fun w' hS => xld on37 rfl ((zb_hW.k hS).r.c 0 rfl rfl)) hS127 (qqM rfl rfl hS127 (hvH rfl (fun _ _ => xsub rfl rfl (w64n (bs.length + P8.length + 8) (by omega) (by omega))) hS127 (hvH rfl (fun _ _ => xcutLe (lo := bs.length + P8.length + 8) sl37 sz5 rfl rfl (by rfl) (by simp; omega) (by omega)) hS127 (qqM rfl rfl hS127 (qqN rfl rfl hS127 (hvH rfl (fun _ _ => xfld fl116_0 rfl) hS127 (hvH rfl (fun w' hS => xld on37 rfl ((zb_hW.k hS).r.c 0 rfl rfl)) hS127 (hvH rfl (fun _ _ => xlen sl37 rfl) hS127 (qqM rfl rfl hS127 (hvH rfl (fun _ _ => xsub rfl rfl (w64n B.length (by rw [List.length_append, hX1l]; omega) (by omega))) hS127 (hvH rfl (fun _ _ => xconv hs3 ki22 rfl (wu16n (B.length % 65536) (by omega))) hS127 ?_))))))))))))))
  refine hcH rfl (xcall ca53 rfl) (c53 (by first | omega | exact u16lt _)) ?_
  rintro _ w128 ⟨p122, q122, g122, rfl, r122, m129, a122, l122⟩
  have z130 := m129.size
  have hS131 := hS127.s m129
  have r0 := (r0.k (fd w124)).k m129
  refine ⟨hS131, ?_⟩
  refine blKH rfl (xcopyIn sl37 sz5 rfl rfl (cpy_ba (BR.ba r122 (U := fun _ => True) trivial)) (br_mid r0 hX1) (by simp [bvs_length, be16_length, be32_length]; omega) (by simp [bvs_length, be16_length]) (by simp [be16_length]; omega) (by simp; omega)) ?_
  rintro _ w132 ⟨m133, r0, s123⟩
  refine lhendH ?_
  refine rp0n rfl ?_
  have hR := pr_J hP8 hB
  rw [hR]
  have hf := (((hf.step hJ47 (fun k hk hS hk2 => hS (hK3l k hk2))).drew).s m129).step m133 (fun k hk hS hk2 => by have hS : k = z0 := hS; have hk3 := hKy k (hK3l k hk2); omega)
  have q1 := ((q1.keep (fd w124) (fun h0 => id)).keep m129 (fun h0 => id)).keep m133 (fun h0 => by have h0 := h0; have hq := hgs.ne1 h0; show ¬ (z1 = z0); omega)
  have q2 := ((q2.keep (fd w124) (fun h0 => id)).keep m129 (fun h0 => id)).keep m133 (fun h0 => by have h0 := h0; have hq := hgs.ne2 h0; show ¬ (z2 = z0); omega)
  have hW := (hW.k m129).keep m133 (nE (by omega))
  refine ⟨M2, z0, z1, z2, rfl, ?_, by omega, hm2, fun k hk => by have hq := hKy k (hK3l k hk); omega, hf⟩
  exact sh_mk hW (br_cast r0 (by simp only [packTail, bvs_app, two16, List.append_assoc]) rfl) q1 q2 (by omega) (by omega) (by omega) (by omega) hgs
 have hJ47 : Fr (fun k => ¬ K3 k) w45 w45 := Fr.refl _ _
 have r26 := (r26.keep m43 (nE (by omega))).k hJ44
 have hd := hd.keep (fun k hk => by have hk := hKy k (hK3l k (hUK k hk)); omega) hJ44 nF
 have ht := ht.keep text_st (fun k hk => by have hk := hKy k (hK3l k (hUK k hk)); omega) hJ44 nF
 have hp := hp.keep pair_st (fun k hk => by have hk := hKy k (hK3l k (hUK k hk)); omega) hJ44 nF
 have h3 := h3.k hJ44
 refine cB rfl (fun hb => ?_) (fun hb => ?_)
 ·
  refine lreg (sM rfl (sv (xfld fl65_7 rfl) (sv (xld on9 rfl (h3.r.c 7 rfl rfl)) ?_)))
  have hSh := sh_mk hW r26 q1 q2 (by omega) (by omega) (by omega) (by omega) hgs
  have hKy : ∀ k, K3 k → k < w45.heap.size ∧ k ≠ bw ∧ k ≠ g26 ∧ k ≠ yb8 ∧ k ≠ yc8 := fun k hk => by have hq := hKy k hk; omega
  have hnp53 := name_pos (hn.2.1 (by have hq := hyk.t hb; omega))
  rw [bt_length] at hnp53
  refine sc (xcall ca52 rfl) (c52 (K := K3) hSh (hn.2.1 (by have hq := hyk.t hb; omega)) (by first | omega | (simp only [List.length_append, be16_length]; omega)) (by omega) hm2 hKy) ?_
  rintro _ w48 ⟨M53, ya53, yb53, yc53, hpk53, hSh, hml53, hm2, hKq, m49⟩
  have z50 := m49.size
  have hps53 : (X1).length = bs.length + P8.length + 10 := hX1l
  obtain ⟨P53, hP53⟩ : ∃ P, packName (some M8) (bs.length + P8.length + 10) (bt r.host) = (P, some M53) := ⟨_, Prod.ext rfl (by rw [hps53] at hpk53; exact hpk53)⟩
  have hSh : Sh w48 bw (X1 ++ P53) M53 ya53 yb53 yc53 := by rw [hps53, hP53] at hSh; exact hSh
  have hPl53 := packName_le (some M8) (bs.length + P8.length + 10) (bt r.host)
  rw [hP53, bt_length] at hPl53
  simp only at hPl53
  have hd := hd.keep (fun k hk => by have hk := hKy k (hK3l k (hUK k hk)); omega) m49 (fun k hk h => h (hK3l k (hUK k hk)))
  have ht := ht.keep text_st (fun k hk => by have hk := hKy k (hK3l k (hUK k hk)); omega) m49 (fun k hk h => h (hK3l k (hUK k hk)))
  have hp := hp.keep pair_st (fun k hk => by have hk := hKy k (hK3l k (hUK k hk)); omega) m49 (fun k hk h => h (hK3l k (hUK k hk)))
  have hKy : ∀ k, K3 k → k < w48.heap.size ∧ k ≠ bw ∧ k ≠ ya53 ∧ k ≠ yb53 ∧ k ≠ yc53 := fun k hk => by have hq := hKy k hk; have hq2 := hKq k hk; omega
  have hJ47 := hJ47.step m49 (fun k hk hS hk2 => hS hk2)
  refine lend ?_
  exact ⟨rfl, (P53, M53, ya53, yb53, yc53), _, env_okl ⟨rfl, rfl, trivial⟩, ⟨hJ47, (hSh), (by rw [pb_name (hyk.t hb)]; exact hP53), (by omega), (hm2), (fun k hk => by have hq := hKy k hk; omega)⟩⟩
 refine sreg (svP (xeql rfl rfl) (fun hc55 => ?_) (fun hc55 => ?_))
 ·
  refine sA rfl (send (ffg 0 3 4 35 54 rfl fun _ => cyes rfl ?_))
  refine sdrawH (Fr (fun k => k = g26) w45.drew) [rd0, rd1, rd2, rd3, rd4, rd5, rd6, rd7, ld8, ld9, rd10, rd11, bh12] mixed (by kernel_rfl) (fun _ _ _ _ _ h => by cases h.1) ?_
  have z51 : w45.drew.heap.size = w45.heap.size := rfl
  have h3 := h3.drew
  have zb_h3 := h3
  have hW := hW.drew
  have zb_hW := hW
  have hS52 : Fr (fun k => k = g26) w45.drew w45.drew := Fr.refl _ _
  refine qqM rfl rfl hS52 (qqM rfl rfl hS52 (qqN rfl rfl hS52 (hvH rfl (fun _ _ => xfld fl116_0 rfl) hS52 (hvH rfl (fun w' hS => xld on37 rfl ((zb_hW.keep hS (nE (by omega))).r.c 0 rfl rfl)) hS52 (hvH rfl (fun _ _ => xfld fl65_9 rfl) hS52 (hvH rfl (fun w' hS => xld on61 rfl ((zb_h3.keep hS (by have hq := hKy b3 hK3b; show ¬ (b3 = g26); omega)).r.c 9 rfl rfl)) hS52 (hvH rfl (fun _ _ => xconv hs61 ki22 rfl (wu16n (r.n1.toNat % 65536) (by omega))) hS52 ?_)))))))
  refine hcH rfl (xcall ca53 rfl) (c53 (by first | omega | exact u16lt _)) ?_
  rintro _ w53 ⟨p64, q64, g64, rfl, r64, m54, a64, l64⟩
  have z55 := m54.size
  have hS56 := hS52.s m54
  have r26 := (r26.k (fd w45)).k m54
  refine ⟨hS56, ?_⟩
  refine hlKH rfl (xapp sl37 in5 rfl (by decide) rfl rfl r26 (r64.src sl37) (by simp only [maxLen]; simp []; omega) (by simp []; omega)) ?_
  rintro _ w57 ⟨g65, r65, m58, a65, l65⟩
  have z59 := m58.size
  have hS60 := hS56.step m58 nI
  obtain ⟨p65, q65, rfl, -⟩ := r65.form
  have r65 : BR _ _ g65 (X1 ++ be16 r.n1.toNat).length (X1 ++ be16 r.n1.toNat) := br_cast r65 (by simp [bvs_app, two16]) (by simp [be16_length]; try omega)
  have hW := (hW.k m54).keep m58 (nE (by omega))
  refine ⟨hS60, ?_⟩
  refine qqN rfl rfl hS60 (hvH rfl (fun _ _ => xfld fl116_0 rfl) hS60 ?_)
  refine bluKH rfl (xstF 0 sz37 hW rfl rfl rfl rfl rfl) ?_
  rintro w62 ⟨m63, hW, s61⟩
  have q1 := (((q1.keep (fd w45) (fun h0 => id)).keep m54 (fun h0 => id)).keep m58 (fun h0 => by have h0 := h0; have hq := hgs.ne1 h0; show ¬ (yb8 = g26); omega)).keep m63 (fun h0 => by have h0 := h0; have hq := hgs.ne1 h0; show ¬ (yb8 = bw); omega)
  have q2 := (((q2.keep (fd w45) (fun h0 => id)).keep m54 (fun h0 => id)).keep m58 (fun h0 => by have h0 := h0; have hq := hgs.ne2 h0; show ¬ (yc8 = g26); omega)).keep m63 (fun h0 => by have h0 := h0; have hq := hgs.ne2 h0; show ¬ (yc8 = bw); omega)
  have hgs := hgs.up a65 (by omega) (by omega)
  have hd := (((hd.keep (fun k hk => by have hk := hKy k (hK3l k (hUK k hk)); omega) (fd w45) nF).keep (fun k hk => by have hk := hKy k (hK3l k (hUK k hk)); omega) m54 nF).keep (fun k hk => by have hk := hKy k (hK3l k (hUK k hk)); omega) m58 (fun k hk hS => by have hk := hKy k (hK3l k (hUK k hk)); have hS : k = g26 := hS; omega)).keep (fun k hk => by have hk := hKy k (hK3l k (hUK k hk)); omega) m63 (fun k hk hS => by have hk := hKy k (hK3l k (hUK k hk)); have hS : k = bw := hS; omega)
  have ht := (((ht.keep text_st (fun k hk => by have hk := hKy k (hK3l k (hUK k hk)); omega) (fd w45) nF).keep text_st (fun k hk => by have hk := hKy k (hK3l k (hUK k hk)); omega) m54 nF).keep text_st (fun k hk => by have hk := hKy k (hK3l k (hUK k hk)); omega) m58 (fun k hk hS => by have hk := hKy k (hK3l k (hUK k hk)); have hS : k = g26 := hS; omega)).keep text_st (fun k hk => by have hk := hKy k (hK3l k (hUK k hk)); omega) m63 (fun k hk hS => by have hk := hKy k (hK3l k (hUK k hk)); have hS : k = bw := hS; omega)
  have hp := (((hp.keep pair_st (fun k hk => by have hk := hKy k (hK3l k (hUK k hk)); omega) (fd w45) nF).keep pair_st (fun k hk => by have hk := hKy k (hK3l k (hUK k hk)); omega) m54 nF).keep pair_st (fun k hk => by have hk := hKy k (hK3l k (hUK k hk)); omega) m58 (fun k hk hS => by have hk := hKy k (hK3l k (hUK k hk)); have hS : k = g26 := hS; omega)).keep pair_st (fun k hk => by have hk := hKy k (hK3l k (hUK k hk)); omega) m63 (fun k hk hS => by have hk := hKy k (hK3l k (hUK k hk)); have hS : k = bw := hS; omega)
  have hf := (((hf.drew).s m54).step m58 (fun k hk hS hk2 => by have hS : k = g26 := hS; have hk3 := hKy k (hK3l k hk2); omega)).step m63 (fun k hk hS hk2 => by have hS : k = bw := hS; have hk3 := hKy k (hK3l k hk2); omega)
  have hJ47 := (((hJ47.drew).s m54).step m58 (fun k hk hS hk2 => by have hS : k = g26 := hS; have hk3 := hKy k hk2; omega)).step m63 (fun k hk hS hk2 => by have hS : k = bw := hS; have hk3 := hKy k hk2; omega)
  have h3 := ((h3.k m54).keep m58 (by have hq := hKy b3 hK3b; show ¬ (b3 = g26); omega)).keep m63 (by have hq := hKy b3 hK3b; show ¬ (b3 = bw); omega)
  have hKy : ∀ k, K3 k → k < w62.heap.size ∧ k ≠ bw ∧ k ≠ g65 ∧ k ≠ yb8 ∧ k ≠ yc8 := fun k hk => by have hq := hKy k hk; omega
  have hne : g65 ≠ bw := by omega
  have l65 := l65 (.inl (by omega))
  clear a65
  have r65 := r65.keep m63 (nE (by omega))
  refine hendH (fdg 0 3 4 rfl fun _ => lreg (sM rfl (sv (xfld fl65_7 rfl) (sv (xld on9 rfl (h3.r.c 7 rfl rfl)) ?_))))
  have hSh := sh_mk hW r65 q1 q2 (by omega) (by omega) (by omega) (by omega) hgs
  have hKy : ∀ k, K3 k → k < w62.heap.size ∧ k ≠ bw ∧ k ≠ g65 ∧ k ≠ yb8 ∧ k ≠ yc8 := fun k hk => by have hq := hKy k hk; omega
  have hnp71 := name_pos (hn.2.1 (by omega))
  rw [bt_length] at hnp71
  refine sc (xcall ca52 rfl) (c52 (K := K3) hSh (hn.2.1 (by omega)) (by first | omega | (simp only [List.length_append, be16_length]; omega)) (by omega) hm2 hKy) ?_
  rintro _ w65 ⟨M71, ya71, yb71, yc71, hpk71, hSh, hml71, hm2, hKq, m66⟩
  have z67 := m66.size
  have hps71 : (X1 ++ be16 r.n1.toNat).length = bs.length + P8.length + 10 + 2 := by rw [List.length_append, hX1l, be16_length]
  obtain ⟨P71, hP71⟩ : ∃ P, packName (some M8) (bs.length + P8.length + 10 + 2) (bt r.host) = (P, some M71) := ⟨_, Prod.ext rfl (by rw [hps71] at hpk71; exact hpk71)⟩
  have hSh : Sh w65 bw (X1 ++ be16 r.n1.toNat ++ P71) M71 ya71 yb71 yc71 := by rw [hps71, hP71] at hSh; exact hSh
  have hPl71 := packName_le (some M8) (bs.length + P8.length + 10 + 2) (bt r.host)
  rw [hP71, bt_length] at hPl71
  simp only at hPl71
  have hd := hd.keep (fun k hk => by have hk := hKy k (hK3l k (hUK k hk)); omega) m66 (fun k hk h => h (hK3l k (hUK k hk)))
  have ht := ht.keep text_st (fun k hk => by have hk := hKy k (hK3l k (hUK k hk)); omega) m66 (fun k hk h => h (hK3l k (hUK k hk)))
  have hp := hp.keep pair_st (fun k hk => by have hk := hKy k (hK3l k (hUK k hk)); omega) m66 (fun k hk h => h (hK3l k (hUK k hk)))
  have hKy : ∀ k, K3 k → k < w65.heap.size ∧ k ≠ bw ∧ k ≠ ya71 ∧ k ≠ yb71 ∧ k ≠ yc71 := fun k hk => by have hq := hKy k hk; have hq2 := hKq k hk; omega
  have hJ47 := hJ47.step m66 (fun k hk hS hk2 => hS hk2)
  refine lend ?_
  exact ⟨rfl, (be16 r.n1.toNat ++ P71, M71, ya71, yb71, yc71), _, env_okl ⟨rfl, rfl, trivial⟩, ⟨hJ47, (by rw [← List.append_assoc]; exact hSh), (pb_mxJ hc55 hP71), (by omega), (hm2), (fun k hk => by have hq := hKy k hk; omega)⟩⟩
 refine sA rfl (send (ffg 0 3 4 35 54 rfl fun _ => cno rfl (sreg (svP (xeql rfl rfl) (fun hc73 => ?_) (fun hc73 => ?_)))))
 rotate_left
 ·
  refine sA rfl (send (feg 0 3 4 72 rfl fun _ => cno rfl ?_))
  refine ldrawH (Fr (fun k => k = g26) w45.drew) [rd0, rd1, rd2, rd3, rd4, rd5, ld6, ld7, rd8, rd9, bh10] mixed (by kernel_rfl) (fun _ _ _ _ _ h => by cases h.1) ?_
  have z111 : w45.drew.heap.size = w45.heap.size := rfl
  have h3 := h3.drew
  have zb_h3 := h3
  have hW := hW.drew
  have zb_hW := hW
  have hS112 : Fr (fun k => k = g26) w45.drew w45.drew := Fr.refl _ _
  have hd := hd.keep (fun k hk => by have hk := hKy k (hK3l k (hUK k hk)); omega) (fd w45) nF
  have ht := ht.keep text_st (fun k hk => by have hk := hKy k (hK3l k (hUK k hk)); omega) (fd w45) nF
  have hp := hp.keep pair_st (fun k hk => by have hk := hKy k (hK3l k (hUK k hk)); omega) (fd w45) nF
  refine qqM rfl rfl hS112 (qqM rfl rfl hS112 (qqN rfl rfl hS112 (hvH rfl (fun _ _ => xfld fl116_0 rfl) hS112 (hvH rfl (fun w' hS => xld on37 rfl ((zb_hW.keep hS (nE (by omega))).r.c 0 rfl rfl)) hS112 (hvH rfl (fun w' hS => xldS (lens := lRec) ro65 rfl (zb_h3.keep hS (by have hq := hKy b3 hK3b; show ¬ (b3 = g26); omega)).r) hS112 ?_)))))
  refine hcH rfl (xcall ca84 rfl) (c84 (fun k hk => by have hk := hU k hk; omega) hd ht hp hr) ?_
  rintro _ w113 ⟨p42, q42, g42, rfl, r42, m114, a42, l42⟩
  have z115 := m114.size
  have hS116 := hS112.s m114
  have r26 := (r26.k (fd w45)).k m114
  refine ⟨hS116, ?_⟩
  refine hlKH rfl (xapp sl37 in5 rfl (by decide) rfl rfl r26 (r42.src sl37) (by simp only [maxLen]; simp []; omega) (by simp []; omega)) ?_
  rintro _ w117 ⟨g43, r43, m118, a43, l43⟩
  have z119 := m118.size
  have hS120 := hS116.step m118 nI
  obtain ⟨p43, q43, rfl, -⟩ := r43.form
  have r43 : BR _ _ g43 (X1 ++ bodyL r).length (X1 ++ bodyL r) := br_cast r43 (by simp [bvs_app]) (by simp []; try omega)
  have hW := (hW.k m114).keep m118 (nE (by omega))
  refine ⟨hS120, ?_⟩
  refine qqN rfl rfl hS120 (hvH rfl (fun _ _ => xfld fl116_0 rfl) hS120 ?_)
  refine bluKH rfl (xstF 0 sz37 hW rfl rfl rfl rfl rfl) ?_
  rintro w122 ⟨m123, hW, s121⟩
  have q1 := (((q1.keep (fd w45) (fun h0 => id)).keep m114 (fun h0 => id)).keep m118 (fun h0 => by have h0 := h0; have hq := hgs.ne1 h0; show ¬ (yb8 = g26); omega)).keep m123 (fun h0 => by have h0 := h0; have hq := hgs.ne1 h0; show ¬ (yb8 = bw); omega)
  have q2 := (((q2.keep (fd w45) (fun h0 => id)).keep m114 (fun h0 => id)).keep m118 (fun h0 => by have h0 := h0; have hq := hgs.ne2 h0; show ¬ (yc8 = g26); omega)).keep m123 (fun h0 => by have h0 := h0; have hq := hgs.ne2 h0; show ¬ (yc8 = bw); omega)
  have hgs := hgs.up a43 (by omega) (by omega)
  have hf := (((hf.drew).s m114).step m118 (fun k hk hS hk2 => by have hS : k = g26 := hS; have hk3 := hKy k (hK3l k hk2); omega)).step m123 (fun k hk hS hk2 => by have hS : k = bw := hS; have hk3 := hKy k (hK3l k hk2); omega)
  have hJ47 := (((hJ47.drew).s m114).step m118 (fun k hk hS hk2 => by have hS : k = g26 := hS; have hk3 := hKy k hk2; omega)).step m123 (fun k hk hS hk2 => by have hS : k = bw := hS; have hk3 := hKy k hk2; omega)
  have hKy : ∀ k, K3 k → k < w122.heap.size ∧ k ≠ bw ∧ k ≠ g43 ∧ k ≠ yb8 ∧ k ≠ yc8 := fun k hk => by have hq := hKy k hk; omega
  have hne : g43 ≠ bw := by omega
  have l43 := l43 (.inl (by omega))
  clear a43
  have r43 := r43.keep m123 (nE (by omega))
  refine lhendH ?_
  have hSh := sh_mk hW r43 q1 q2 (by omega) (by omega) (by omega) (by omega) hgs
  have hKy : ∀ k, K3 k → k < w122.heap.size ∧ k ≠ bw ∧ k ≠ g43 ∧ k ≠ yb8 ∧ k ≠ yc8 := fun k hk => by have hq := hKy k hk; omega
  exact ⟨rfl, (bodyL r, M8, g43, yb8, yc8), _, env_okl ⟨rfl, rfl, trivial⟩, ⟨hJ47, (hSh), (pb_rest (by have hq := hyk.f hb; omega)), (by omega), (hm2), (fun k hk => by have hq := hKy k hk; omega)⟩⟩
 refine sA rfl (send (feg 0 3 4 72 rfl fun _ => cyes rfl (sreg (sM rfl (sv (xfld fl65_7 rfl) (sv (xld on9 rfl (h3.r.c 7 rfl rfl)) ?_))))))
 have hSh := sh_mk hW r26 q1 q2 (by omega) (by omega) (by omega) (by omega) hgs
 have hKy : ∀ k, K3 k → k < w45.heap.size ∧ k ≠ bw ∧ k ≠ g26 ∧ k ≠ yb8 ∧ k ≠ yc8 := fun k hk => by have hq := hKy k hk; omega
 have hnp77 := name_pos (hn.2.1 (by omega))
 rw [bt_length] at hnp77
 refine sc (xcall ca52 rfl) (c52 (K := K3) hSh (hn.2.1 (by omega)) (by first | omega | (simp only [List.length_append, be16_length]; omega)) (by omega) hm2 hKy) ?_
 rintro _ w68 ⟨M77, ya77, yb77, yc77, hpk77, hSh, hml77, hm2, hKq, m69⟩
 have z70 := m69.size
 have hps77 : (X1).length = bs.length + P8.length + 10 := hX1l
 obtain ⟨P77, hP77⟩ : ∃ P, packName (some M8) (bs.length + P8.length + 10) (bt r.host) = (P, some M77) := ⟨_, Prod.ext rfl (by rw [hps77] at hpk77; exact hpk77)⟩
 have hSh : Sh w68 bw (X1 ++ P77) M77 ya77 yb77 yc77 := by rw [hps77, hP77] at hSh; exact hSh
 have hPl77 := packName_le (some M8) (bs.length + P8.length + 10) (bt r.host)
 rw [hP77, bt_length] at hPl77
 simp only at hPl77
 have hd := hd.keep (fun k hk => by have hk := hKy k (hK3l k (hUK k hk)); omega) m69 (fun k hk h => h (hK3l k (hUK k hk)))
 have ht := ht.keep text_st (fun k hk => by have hk := hKy k (hK3l k (hUK k hk)); omega) m69 (fun k hk h => h (hK3l k (hUK k hk)))
 have hp := hp.keep pair_st (fun k hk => by have hk := hKy k (hK3l k (hUK k hk)); omega) m69 (fun k hk h => h (hK3l k (hUK k hk)))
 have hKy : ∀ k, K3 k → k < w68.heap.size ∧ k ≠ bw ∧ k ≠ ya77 ∧ k ≠ yb77 ∧ k ≠ yc77 := fun k hk => by have hq := hKy k hk; have hq2 := hKq k hk; omega
 have h3 := h3.keep m69 (fun h => h hK3b)
 refine send (fdg 0 3 4 rfl fun _ => sreg (sM rfl (sv (xfld fl65_8 rfl) (sv (xld on9 rfl (h3.r.c 8 rfl rfl)) ?_))))
 have hnp81 := name_pos (hn.2.2 hc73)
 rw [bt_length] at hnp81
 refine sc (xcall ca52 rfl) (c52 (K := K3) hSh (hn.2.2 hc73) (by first | omega | (simp only [List.length_append]; omega)) (by omega) hm2 hKy) ?_
 rintro _ w71 ⟨M81, ya81, yb81, yc81, hpk81, hSh, hml81, hm2, hKq, m72⟩
 have z73 := m72.size
 have hps81 : (X1 ++ P77).length = bs.length + P8.length + 10 + P77.length := by rw [List.length_append, hX1l]
 obtain ⟨P81, hP81⟩ : ∃ P, packName (some M77) (bs.length + P8.length + 10 + P77.length) (bt r.box) = (P, some M81) := ⟨_, Prod.ext rfl (by rw [hps81] at hpk81; exact hpk81)⟩
 have hSh : Sh w71 bw (X1 ++ P77 ++ P81) M81 ya81 yb81 yc81 := by rw [hps81, hP81] at hSh; exact hSh
 have hPl81 := packName_le (some M77) (bs.length + P8.length + 10 + P77.length) (bt r.box)
 rw [hP81, bt_length] at hPl81
 simp only at hPl81
 have hd := hd.keep (fun k hk => by have hk := hKy k (hK3l k (hUK k hk)); omega) m72 (fun k hk h => h (hK3l k (hUK k hk)))
 have ht := ht.keep text_st (fun k hk => by have hk := hKy k (hK3l k (hUK k hk)); omega) m72 (fun k hk h => h (hK3l k (hUK k hk)))
 have hp := hp.keep pair_st (fun k hk => by have hk := hKy k (hK3l k (hUK k hk)); omega) m72 (fun k hk h => h (hK3l k (hUK k hk)))
 have hKy : ∀ k, K3 k → k < w71.heap.size ∧ k ≠ bw ∧ k ≠ ya81 ∧ k ≠ yb81 ∧ k ≠ yc81 := fun k hk => by have hq := hKy k hk; have hq2 := hKq k hk; omega
 refine send (fdg 0 3 4 rfl fun _ => ?_)
 obtain ⟨u0, u1, u2, hW, r0, q1, q2, hl0, hl1, hl2, hne, hgs⟩ := hSh
 have hgs : Gd _ bw ya81 yb81 yc81 := hgs
 obtain ⟨p0, c0, rfl, -⟩ := Rw.form r0
 obtain ⟨a1, c1, rfl, hs1⟩ := q1.form
 obtain ⟨a2, c2, rfl, hs2⟩ := q2.form
 refine ldrawH (Fr (fun k => k = ya81) w71.drew) [rd0, rd1, rd2, rd3, rd4, rd5, rd6, rd8, rd9, rd11, rd12, rd14, rd15, rd17, rd18, ld7, ld10, ld13, (16, .ld), (19, .ld), (20, .ld), (21, .ld), (22, .ld), rd23, rd24, (25, .bh)] mixed (by kernel_rfl) (fun _ _ _ _ _ h => by cases h.1) ?_
 have z74 : w71.drew.heap.size = w71.heap.size := rfl
 have h3 := (h3.keep m72 (fun h => h hK3b)).drew
 have zb_h3 := h3
 have hW := hW.drew
 have zb_hW := hW
 have hS75 : Fr (fun k => k = ya81) w71.drew w71.drew := Fr.refl _ _
 refine qqM rfl rfl hS75 (qqM rfl rfl hS75 (qqN rfl rfl hS75 (hvH rfl (fun _ _ => xfld fl116_0 rfl) hS75 (hvH rfl (fun w' hS => xld on37 rfl ((zb_hW.keep hS (nE (by omega))).r.c 0 rfl rfl)) hS75 (hvH rfl (fun _ _ => xfld fl65_9 rfl) hS75 (hvH rfl (fun w' hS => xld on61 rfl ((zb_h3.keep hS (by have hq := hKy b3 hK3b; show ¬ (b3 = ya81); omega)).r.c 9 rfl rfl)) hS75 (hvH rfl (fun _ _ => xfld fl65_10 rfl) hS75 (hvH rfl (fun w' hS => xld on61 rfl ((zb_h3.keep hS (by have hq := hKy b3 hK3b; show ¬ (b3 = ya81); omega)).r.c 10 rfl rfl)) hS75 (hvH rfl (fun _ _ => xfld fl65_11 rfl) hS75 (hvH rfl (fun w' hS => xld on61 rfl ((zb_h3.keep hS (by have hq := hKy b3 hK3b; show ¬ (b3 = ya81); omega)).r.c 11 rfl rfl)) hS75 (hvH rfl (fun _ _ => xfld fl65_12 rfl) hS75 (hvH rfl (fun w' hS => xld on61 rfl ((zb_h3.keep hS (by have hq := hKy b3 hK3b; show ¬ (b3 = ya81); omega)).r.c 12 rfl rfl)) hS75 (hvH rfl (fun _ _ => xfld fl65_13 rfl) hS75 (hvH rfl (fun w' hS => xld on61 rfl ((zb_h3.keep hS (by have hq := hKy b3 hK3b; show ¬ (b3 = ya81); omega)).r.c 13 rfl rfl)) hS75 ?_))))))))))))))
 refine hcH rfl (xcall ca99 rfl) (c99 (by first | omega | exact u32lt _)) ?_
 rintro _ w76 ⟨p89, q89, g89, rfl, r89, m77, a89, l89⟩
 have z78 := m77.size
 have hS79 := hS75.s m77
 refine ⟨hS79, ?_⟩
 refine hcH rfl (xcall ca99 rfl) (c99 (by first | omega | exact u32lt _)) ?_
 rintro _ w80 ⟨p92, q92, g92, rfl, r92, m81, a92, l92⟩
 have z82 := m81.size
 have hS83 := hS79.s m81
 refine ⟨hS83, ?_⟩
 refine hcH rfl (xcall ca99 rfl) (c99 (by first | omega | exact u32lt _)) ?_
 rintro _ w84 ⟨p95, q95, g95, rfl, r95, m85, a95, l95⟩
 have z86 := m85.size
 have hS87 := hS83.s m85
 refine ⟨hS87, ?_⟩
 refine hcH rfl (xcall ca99 rfl) (c99 (by first | omega | exact u32lt _)) ?_
 rintro _ w88 ⟨p98, q98, g98, rfl, r98, m89, a98, l98⟩
 have z90 := m89.size
 have hS91 := hS87.s m89
 refine ⟨hS91, ?_⟩
 refine hcH rfl (xcall ca99 rfl) (c99 (by first | omega | exact u32lt _)) ?_
 rintro _ w92 ⟨p101, q101, g101, rfl, r101, m93, a101, l101⟩
 have z94 := m93.size
 have hS95 := hS91.s m93
 refine ⟨hS95, ?_⟩
 refine hlKH rfl (xslit [_, _, _, _, _] sl105 in37 rfl (by decide) rfl rfl rfl rfl (by decide) rfl rfl) ?_
 rintro _ w97 ⟨b102, rfl, m98, h102, e102, s102, r102⟩
 have hS99 := hS95.s m98
 have r89 := ((((r89.k m81).k m85).k m89).k m93).k m98
 have r92 := (((r92.k m85).k m89).k m93).k m98
 have r95 := ((r95.k m89).k m93).k m98
 have r98 := (r98.k m93).k m98
 have r101 := r101.k m98
 refine ⟨hS99, ?_⟩
 refine hcH rfl (xcall ca21 rfl) (c21 (U := fun k => k = g89 ∨ k = g92 ∨ k = g95 ∨ k = g98 ∨ k = g101) (Rw.rng r102) (by omega) rfl (fun k hk => by have hk : k = g89 ∨ k = g92 ∨ k = g95 ∨ k = g98 ∨ k = g101 := hk; rcases hk with hk | hk | hk | hk | hk <;> first | omega | (have := hU k hk; omega)) (All2.cons (BR.ba r89 (.inl rfl)) (All2.cons (BR.ba r92 (.inr (.inl rfl))) (All2.cons (BR.ba r95 (.inr (.inr (.inl rfl)))) (All2.cons (BR.ba r98 (.inr (.inr (.inr (.inl rfl))))) (All2.cons (BR.ba r101 (.inr (.inr (.inr (.inr rfl))))) All2.nil))))) (by simp only [fC, fN, List.length_append, be32_length, List.length_nil]; omega) (by decide)) ?_
 rintro _ w100 ⟨p103, q103, g103, rfl, r103, m101, a103, l103⟩
 have z102 := m101.size
 have hS103 := hS99.s m101
 have r0 := (((((((r0.k (fd w71)).k m77).k m81).k m85).k m89).k m93).k m98).k m101
 refine ⟨hS103, ?_⟩
 refine hlKH rfl (xapp sl37 in5 rfl (by decide) rfl rfl r0 (r103.src sl37) (by simp only [maxLen]; simp [be32_length]; omega) (by simp [be32_length]; omega)) ?_
 rintro _ w104 ⟨g104, r104, m105, a104, l104⟩
 have z106 := m105.size
 have hS107 := hS103.step m105 nI
 obtain ⟨p104, q104, rfl, -⟩ := r104.form
 have r104 : BR _ _ g104 (X1 ++ P77 ++ P81 ++ soaL r).length (X1 ++ P77 ++ P81 ++ soaL r) := br_cast r104 (by simp [bvs_app, soaL]) (by simp [be32_length, soaL_length]; try omega)
 have hW := (((((((hW.k m77).k m81).k m85).k m89).k m93).k m98).k m101).keep m105 (nE (by omega))
 refine ⟨hS107, ?_⟩
 refine qqN rfl rfl hS107 (hvH rfl (fun _ _ => xfld fl116_0 rfl) hS107 ?_)
 refine bluKH rfl (xstF 0 sz37 hW rfl rfl rfl rfl rfl) ?_
 rintro w109 ⟨m110, hW, s108⟩
 have q1 := (((((((((q1.keep (fd w71) (fun h0 => id)).keep m77 (fun h0 => id)).keep m81 (fun h0 => id)).keep m85 (fun h0 => id)).keep m89 (fun h0 => id)).keep m93 (fun h0 => id)).keep m98 (fun h0 => id)).keep m101 (fun h0 => id)).keep m105 (fun h0 => by have h0 := h0; have hq := hgs.ne1 h0; show ¬ (yb81 = ya81); omega)).keep m110 (fun h0 => by have h0 := h0; have hq := hgs.ne1 h0; show ¬ (yb81 = bw); omega)
 have q2 := (((((((((q2.keep (fd w71) (fun h0 => id)).keep m77 (fun h0 => id)).keep m81 (fun h0 => id)).keep m85 (fun h0 => id)).keep m89 (fun h0 => id)).keep m93 (fun h0 => id)).keep m98 (fun h0 => id)).keep m101 (fun h0 => id)).keep m105 (fun h0 => by have h0 := h0; have hq := hgs.ne2 h0; show ¬ (yc81 = ya81); omega)).keep m110 (fun h0 => by have h0 := h0; have hq := hgs.ne2 h0; show ¬ (yc81 = bw); omega)
 have hgs := hgs.up a104 (by omega) (by omega)
 have hf := (((((((((((hf.step m69 (fun k hk hS hk2 => hS (hK3l k hk2))).step m72 (fun k hk hS hk2 => hS (hK3l k hk2))).drew).s m77).s m81).s m85).s m89).s m93).s m98).s m101).step m105 (fun k hk hS hk2 => by have hS : k = ya81 := hS; have hk3 := hKy k (hK3l k hk2); omega)).step m110 (fun k hk hS hk2 => by have hS : k = bw := hS; have hk3 := hKy k (hK3l k hk2); omega)
 have hJ47 := (((((((((((hJ47.step m69 (fun k hk hS hk2 => hS hk2)).step m72 (fun k hk hS hk2 => hS hk2)).drew).s m77).s m81).s m85).s m89).s m93).s m98).s m101).step m105 (fun k hk hS hk2 => by have hS : k = ya81 := hS; have hk3 := hKy k hk2; omega)).step m110 (fun k hk hS hk2 => by have hS : k = bw := hS; have hk3 := hKy k hk2; omega)
 have hd := (((((((((hd.keep (fun k hk => by have hk := hKy k (hK3l k (hUK k hk)); omega) (fd w71) nF).keep (fun k hk => by have hk := hKy k (hK3l k (hUK k hk)); omega) m77 nF).keep (fun k hk => by have hk := hKy k (hK3l k (hUK k hk)); omega) m81 nF).keep (fun k hk => by have hk := hKy k (hK3l k (hUK k hk)); omega) m85 nF).keep (fun k hk => by have hk := hKy k (hK3l k (hUK k hk)); omega) m89 nF).keep (fun k hk => by have hk := hKy k (hK3l k (hUK k hk)); omega) m93 nF).keep (fun k hk => by have hk := hKy k (hK3l k (hUK k hk)); omega) m98 nF).keep (fun k hk => by have hk := hKy k (hK3l k (hUK k hk)); omega) m101 nF).keep (fun k hk => by have hk := hKy k (hK3l k (hUK k hk)); omega) m105 (fun k hk hS => by have hk := hKy k (hK3l k (hUK k hk)); have hS : k = ya81 := hS; omega)).keep (fun k hk => by have hk := hKy k (hK3l k (hUK k hk)); omega) m110 (fun k hk hS => by have hk := hKy k (hK3l k (hUK k hk)); have hS : k = bw := hS; omega)
 have ht := (((((((((ht.keep text_st (fun k hk => by have hk := hKy k (hK3l k (hUK k hk)); omega) (fd w71) nF).keep text_st (fun k hk => by have hk := hKy k (hK3l k (hUK k hk)); omega) m77 nF).keep text_st (fun k hk => by have hk := hKy k (hK3l k (hUK k hk)); omega) m81 nF).keep text_st (fun k hk => by have hk := hKy k (hK3l k (hUK k hk)); omega) m85 nF).keep text_st (fun k hk => by have hk := hKy k (hK3l k (hUK k hk)); omega) m89 nF).keep text_st (fun k hk => by have hk := hKy k (hK3l k (hUK k hk)); omega) m93 nF).keep text_st (fun k hk => by have hk := hKy k (hK3l k (hUK k hk)); omega) m98 nF).keep text_st (fun k hk => by have hk := hKy k (hK3l k (hUK k hk)); omega) m101 nF).keep text_st (fun k hk => by have hk := hKy k (hK3l k (hUK k hk)); omega) m105 (fun k hk hS => by have hk := hKy k (hK3l k (hUK k hk)); have hS : k = ya81 := hS; omega)).keep text_st (fun k hk => by have hk := hKy k (hK3l k (hUK k hk)); omega) m110 (fun k hk hS => by have hk := hKy k (hK3l k (hUK k hk)); have hS : k = bw := hS; omega)
 have hp := (((((((((hp.keep pair_st (fun k hk => by have hk := hKy k (hK3l k (hUK k hk)); omega) (fd w71) nF).keep pair_st (fun k hk => by have hk := hKy k (hK3l k (hUK k hk)); omega) m77 nF).keep pair_st (fun k hk => by have hk := hKy k (hK3l k (hUK k hk)); omega) m81 nF).keep pair_st (fun k hk => by have hk := hKy k (hK3l k (hUK k hk)); omega) m85 nF).keep pair_st (fun k hk => by have hk := hKy k (hK3l k (hUK k hk)); omega) m89 nF).keep pair_st (fun k hk => by have hk := hKy k (hK3l k (hUK k hk)); omega) m93 nF).keep pair_st (fun k hk => by have hk := hKy k (hK3l k (hUK k hk)); omega) m98 nF).keep pair_st (fun k hk => by have hk := hKy k (hK3l k (hUK k hk)); omega) m101 nF).keep pair_st (fun k hk => by have hk := hKy k (hK3l k (hUK k hk)); omega) m105 (fun k hk hS => by have hk := hKy k (hK3l k (hUK k hk)); have hS : k = ya81 := hS; omega)).keep pair_st (fun k hk => by have hk := hKy k (hK3l k (hUK k hk)); omega) m110 (fun k hk hS => by have hk := hKy k (hK3l k (hUK k hk)); have hS : k = bw := hS; omega)
 have h3 := ((((((((h3.k m77).k m81).k m85).k m89).k m93).k m98).k m101).keep m105 (by have hq := hKy b3 hK3b; show ¬ (b3 = ya81); omega)).keep m110 (by have hq := hKy b3 hK3b; show ¬ (b3 = bw); omega)
 have hKy : ∀ k, K3 k → k < w109.heap.size ∧ k ≠ bw ∧ k ≠ g104 ∧ k ≠ yb81 ∧ k ≠ yc81 := fun k hk => by have hq := hKy k hk; omega
 have hne : g104 ≠ bw := by omega
 have l104 := l104 (.inl (by omega))
 clear a104
 have r104 := r104.keep m110 (nE (by omega))
 refine lhendH ?_
 have hSh := sh_mk hW r104 q1 q2 (by omega) (by omega) (by omega) (by omega) hgs
 have hKy : ∀ k, K3 k → k < w109.heap.size ∧ k ≠ bw ∧ k ≠ g104 ∧ k ≠ yb81 ∧ k ≠ yc81 := fun k hk => by have hq := hKy k hk; omega
 exact ⟨rfl, (P77 ++ (P81 ++ soaL r), M81, g104, yb81, yc81), _, env_okl ⟨rfl, rfl, trivial⟩, ⟨hJ47, (by rw [← List.append_assoc, ← List.append_assoc]; exact hSh), (pb_soaJ hc73 hP77 hP81), (by omega), (hm2), (fun k hk => by have hq := hKy k hk; omega)⟩⟩
end Go.Proofs.YtifnodoffgfpbaaGreatDoor

namespace Go.Proofs.YtifnodoffgfpbaaGreatDoor
open Go

theorem sh_nil {w : World} {bw g0 n : Nat} {v0 : Value} {bs : List UInt8} (h : SB w bw lSh [[v0], [.slice none 0 0], [.slice none 0 0]]) (r : BR w v0 g0 n bs) (h0 : g0 < w.heap.size) (hn : g0 ≠ bw) : Sh w bw bs [] g0 bw bw := by
  have hl := r.len
  exact ⟨_, _, _, h, hl ▸ r, .inl ⟨rfl, rfl, rfl⟩, .inl ⟨rfl, rfl, rfl⟩, h0, h.lt, h.lt, hn, .inl ⟨rfl, rfl, rfl⟩⟩
theorem pa_step {α : Type} {f : Option Ent → Nat → α → List UInt8 × Option Ent} {C : Option Ent} {M1 M2 : Ent} {pos k : Nat} {l : List α} {a : α} {out P : List UInt8} (h : packAll f C pos (l.take k) = (out, some M1)) (hk : l[k]? = some a) (h2 : f (some M1) (pos + out.length) a = (P, some M2)) :
    packAll f C pos (l.take (k + 1)) = (out ++ P, some M2) := by
  rw [take_snoc hk, packAll_snoc, h]
  simp only []
  rw [h2]
theorem pk_ask {M M1 : Ent} {p : Nat} {a : AskD} {P : List UInt8} (h1 : packName (some M) p (bt a.name) = (P, some M1)) : packAsk (some M) p a = (P ++ (be16 a.typ.toNat ++ be16 a.cls.toNat), some M1) := by
  rw [packAsk, h1]
def LstP (m : MsgD) : Nat → List UInt8 → Ent → Prop
  | 0, X, M => X = headL m.head (countsM m) ++ (packA (some []) m).1 ∧ (packA (some []) m).2 = some M
  | 1, X, M => X = headL m.head (countsM m) ++ ((packA (some []) m).1 ++ (pack1 (some []) m).1) ∧ (pack1 (some []) m).2 = some M
  | 2, X, M => X = headL m.head (countsM m) ++ ((packA (some []) m).1 ++ ((pack1 (some []) m).1 ++ (pack2 (some []) m).1)) ∧ (pack2 (some []) m).2 = some M
  | _, X, _ => X = packM (some []) m
theorem lst_next {m : MsgD} {i : Nat} {X out : List UInt8} {M M' : Ent} {l : List RecD} (h : LstP m i X M) (hl : [m.one, m.two, m.three][i]? = some l) (hp : packAll packRec (some M) X.length l = (out, some M')) : LstP m (i + 1) (X ++ out) M' := by
  match i, h, hl with
  | 0, ⟨h1, h2⟩, hl =>
    simp only [List.getElem?_cons_zero, Option.some.injEq] at hl
    subst hl
    have e : pack1 (some []) m = (out, some M') := by rw [pack1, h2, ← hp, h1, List.length_append, headL_len]
    exact ⟨by rw [h1, e, List.append_assoc], by rw [e]⟩
  | 1, ⟨h1, h2⟩, hl =>
    simp only [List.getElem?_cons_succ, List.getElem?_cons_zero, Option.some.injEq] at hl
    subst hl
    have e : pack2 (some []) m = (out, some M') := by rw [pack2, h2, ← hp, h1, List.length_append, List.length_append, headL_len, Nat.add_assoc]
    exact ⟨by rw [h1, e]; simp only [List.append_assoc], by rw [e]⟩
  | 2, ⟨h1, h2⟩, hl =>
    simp only [List.getElem?_cons_succ, List.getElem?_cons_zero, Option.some.injEq] at hl
    subst hl
    have e : pack3 (some []) m = (out, some M') := by rw [pack3, h2, ← hp, h1]; simp only [List.length_append, headL_len, Nat.add_assoc]
    show X ++ out = packM (some []) m
    rw [packM, e, h1]; simp only [List.append_assoc]
  | n + 3, _, hl => simp at hl
def cntL (m : MsgD) (i : Nat) : Nat := (([m.one, m.two, m.three].take i).map List.length).sum
theorem cnt_step {m : MsgD} {i : Nat} {l : List RecD} (h : [m.one, m.two, m.three][i]? = some l) : cntL m (i + 1) = cntL m i + l.length ∧ cntL m (i + 1) ≤ m.one.length + m.two.length + m.three.length := by
  have h1 : cntL m (i + 1) = cntL m i + l.length := by simp only [cntL]; rw [take_snoc h]; simp
  refine ⟨h1, ?_⟩
  match i, h with
  | 0, h => show (([m.one].map List.length).sum) ≤ _; simp; omega
  | 1, h => show (([m.one, m.two].map List.length).sum) ≤ _; simp
  | 2, h => show (([m.one, m.two, m.three].map List.length).sum) ≤ _; simp; omega
  | n + 3, h => simp at h
theorem few_recs {m : MsgD} (hm : m.fits) (hf : fewM m) : ∀ l ∈ [m.one, m.two, m.three], ∀ r ∈ l, r.fits ∧ 0 ≤ r.kind ∧ r.kind ≤ 13 ∧ NamesOk r ∧ ∀ (M : Ent) (p : Nat), (packRec (some M) p r).1.length ≤ 66100 := by
  intro l hl r hr
  obtain ⟨hna, hpk, hc, _⟩ := few_pack hf
  have h := hpk l hl r hr
  refine ⟨hm.lists.2 l hl r hr, Int.le_trans (by decide) h.1.2.1, h.1.2.2.1, h.2.1, fun M p => ?_⟩
  have h2 := (packRec_short h.2.1 M p).1
  have h3 := h.2.2.2
  have h4 := wire_bound h.2.1.1
  simp only [recL, List.length_append, be16_length, be32_length] at h2
  omega

theorem c25 {w : World} {U : Nat → Prop} (hU : ∀ k, U k → k < w.heap.size) {m : MsgD} {va v1 v2 v3 : Value} (ha : LA AskEl lAsk U w va m.asks) (y1 : LA RecEl lRec U w v1 m.one) (y2 : LA RecEl lRec U w v2 m.two) (y3 : LA RecEl lRec U w v3 m.three) (hm : m.fits) (hfew : fewM m) :
  Ret PP 25 [ag (msgSegs m.head va v1 v2 v3)] w (fun u w' => New w (packM (some []) m).length (packM (some []) m) u w') := by
 have hls : All2 (LA RecEl lRec U w) [v1, v2, v3] [m.one, m.two, m.three] := All2.cons y1 (All2.cons y2 (All2.cons y3 All2.nil))
 obtain ⟨aa, ca, rfl⟩ := ha.form
 obtain ⟨a1, c1, rfl⟩ := y1.form
 obtain ⟨a2, c2, rfl⟩ := y2.form
 obtain ⟨a3, c3, rfl⟩ := y3.form
 have hrs := few_recs hm hfew
 have hna := (few_pack hfew).1
 have hcn := hfew.1
 obtain ⟨K, hKd⟩ : ∃ K : Nat → Prop, K = fun k => k < w.heap.size := ⟨_, rfl⟩
 have hUK : ∀ k, U k → K k := fun k hk => by rw [hKd]; exact hU k hk
 have hGK : ∀ k, K k → k < w.heap.size := fun k hk => by rw [hKd] at hk; exact hk
 have hf : Fr (fun k => ¬ K k) w w := Fr.refl _ _
 refine ret_of Tryz.func25 rfl rfl rfl [(0, _)] rfl ?_
 refine sreg (svK (xboxS (lens := lMsg) rfl rfl) ?_)
 rintro _ w2 ⟨b1, rfl, m3, h1, e1, s1⟩
 refine sA rfl (send (fbg 1 rfl fun _ => sreg (sv (xfld fl34_0 rfl) (sv (xldS (lens := [1, 1, 1, 1, 1, 1, 1, 1, 1, 1]) ro30 rfl (h1.r.sub 0 10 rfl)) (sv (xfld fl34_1 rfl) (sv (xld on31 rfl (h1.r.c 10 rfl rfl)) (sv (xlen sl31 rfl) (sv (xfld fl34_2 rfl) (sv (xld on32 rfl (h1.r.c 11 rfl rfl)) (sv (xlen sl32 rfl) (sv (xfld fl34_3 rfl) (sv (xld on32 rfl (h1.r.c 12 rfl rfl)) (sv (xlen sl32 rfl) (sv (xfld fl34_4 rfl) (sv (xld on32 rfl (h1.r.c 13 rfl rfl)) (sv (xlen sl32 rfl) (svK (xslit ([.int .i64 (m.asks.length : Int), .int .i64 (m.one.length : Int), .int .i64 (m.two.length : Int), .int .i64 (m.three.length : Int)]) sl99 in3 rfl (by decide) rfl rfl rfl rfl (by decide) rfl rfl) ?_)))))))))))))))))
 rintro _ w5 ⟨b24, rfl, m6, h24, e24, s24, r24⟩
 refine sc (xcall ca44 rfl) (c44 (h := m.head) (counts := [m.asks.length, m.one.length, m.two.length, m.three.length]) (Rw.rng r24) (by omega) rfl (by simp)) ?_
 rintro _ w7 ⟨p25, q25, g25, rfl, r25, m8, a25, l25⟩
 have z9 := m8.size
 refine sv (xbuildS [[.slice p25 (headL m.head [m.asks.length, m.one.length, m.two.length, m.three.length]).length q25], [.slice none 0 0], [.slice none 0 0]] zr116 ly116 rfl (by simp [fitAll, zs116, Value.cells]) (by simp [setAll, zs116, Value.cells])) (svK (xboxS (lens := [1, 1, 1]) rfl rfl) ?_)
 rintro _ w11 ⟨b27, rfl, m12, h27, e10, s10⟩
 refine sA rfl (send (fcg 1 3 rfl fun _ => wp_seq ?_))
 obtain ⟨H, hH⟩ : ∃ H, H = headL m.head (countsM m) := ⟨_, rfl⟩
 have hHl : H.length = 12 := by rw [hH]; exact headL_len _ _
 have r25 := r25.k m12
 have hSh : Sh w11 b27 H [] g25 b27 b27 := by rw [hH]; exact sh_nil h27 r25 (by omega) (by omega)
 obtain ⟨K1, hKd1⟩ : ∃ K1 : Nat → Prop, K1 = fun k => K k ∨ k = b1 := ⟨_, rfl⟩
 have hK1 : ∀ k, K k → K1 k := fun k hk => by rw [hKd1]; exact .inl hk
 have hKb1 : K1 b1 := by rw [hKd1]; exact .inr rfl
 have hG1 : ∀ k, K1 k → k < w11.heap.size ∧ k ≠ b27 ∧ k ≠ g25 ∧ k ≠ b27 ∧ k ≠ b27 := fun k hk => by rw [hKd1] at hk; rcases hk with hk | hk; (rw [hKd] at hk; have hk : k < w.heap.size := hk; omega); omega
 have hGK := fun k (hk : K k) => hG1 k (hK1 k hk)
 have hGU := fun k (hk : U k) => hGK k (hUK k hk)
 have h1 := ((h1.k m6).k m8).k m12
 refine sreg (sv (xfld fl34_1 rfl) (sv (xld on31 rfl (h1.r.c 10 rfl rfl)) (sv (xlen sl31 rfl) (sM rfl (send (ffg 1 3 29 30 31 rfl fun _ => wp_block (lp [(1, _), (3, _), (29, _), (30, _)] (fun (x : Nat × List UInt8 × Ent × Nat × Nat × Nat) => match x with | (k, out, M1, y0, y1, y2) => [(31, .int .i64 (k : Int))]) (fun (x : Nat × List UInt8 × Ent × Nat × Nat × Nat) wx => match x with | (k, out, M1, y0, y1, y2) => Fr (fun k => ¬ K1 k) w11 wx ∧ (k ≤ m.asks.length) ∧ (packAll packAsk (some []) 12 (m.asks.take k) = (out, some M1)) ∧ (Sh wx b27 (H ++ out) M1 y0 y1 y2) ∧ (out.length ≤ 600 * k) ∧ (M1.length ≤ 762 * k) ∧ (∀ q ∈ M1, q.2.toNat ≤ 16383) ∧ (∀ k, K1 k → k < wx.heap.size ∧ k ≠ b27 ∧ k ≠ y0 ∧ k ≠ y1 ∧ k ≠ y2)) (fun (x : Nat × List UInt8 × Ent × Nat × Nat × Nat) => match x with | (k, out, M1, y0, y1, y2) => m.asks.length - k) (0, [], [], g25, b27, b27) ⟨rfl, rfl, rfl, rfl, rfl, trivial⟩ ⟨Fr.refl _ _, Nat.zero_le _, rfl, by rw [aN]; exact hSh, Nat.le_refl _, Nat.le_refl _, (fun q hq => by cases hq), hG1⟩ ?_)))))))
 rintro ⟨k, out, M1, y0, y1, y2⟩ _ w14 ⟨hL13, hk, hpa, hSh, hol, hMl, hm2, hG1⟩
 refine ffg 1 3 29 30 31 rfl fun _ => ?_
 have z15 := hL13.size
 have hlt := hSh.lts
 have hGK := fun k (hk : K k) => hG1 k (hK1 k hk)
 have ha := ((((ha.keep ask_st (lU hU (by omega)) m3 nF).keep ask_st (lU hU (by omega)) m6 nF).keep ask_st (lU hU (by omega)) m8 nF).keep ask_st (lU hU (by omega)) m12 nF).keep ask_st (fun k hk => by have hk := hGU k hk; omega) hL13 (fun k hk h => h (hK1 k (hUK k hk)))
 have hGU := fun k (hk : U k) => hGK k (hUK k hk)
 have hf := ((((hf.s m3).s m6).s m8).s m12).step hL13 (fun k hk hS hk2 => hS (hK1 k hk2))
 have h1 := h1.keep hL13 (fun h => h hKb1)
 refine sreg (svP (xlss rfl rfl) (fun hc32 => ?_) (fun hc32 => ?_))
 ·
  refine send ((wp_seq (cyes rfl (wp_skip (nThen (ffg 1 3 29 30 31 rfl fun _ => wp_seq (wp_block ?_)))))))
  obtain ⟨a, hak⟩ := some_of_lt (by omega : k < m.asks.length)
  have han := hna a (List.mem_of_getElem? hak)
  refine sreg ?_
  obtain ⟨bE33, oE33, sgE33, rfl, uE33, hsE33, heE33⟩ := LA.get ha hak
  obtain rfl := heE33
  have zE33 := hU _ uE33
  refine sv (xidx sl31 sz59 rfl rfl rfl (by omega)) (sv (xldS (lens := [1, 1, 1]) ro59 rfl hsE33) (svK (xallS (lens := [1, 1, 1]) in59 rfl) ?_))
  rintro _ w17 ⟨b5, rfl, m18, h5, e16, s16⟩
  refine suK (xstW h5 (lens' := [1, 1, 1]) sz59 rfl rfl rfl rfl rfl) ?_
  rintro w20 ⟨m21, h5, s19⟩
  have hf := (hf.s m18).step m21 (fun k hk hS hk2 => by have hS : k = b5 := hS; have hk3 := hGK k hk2; omega)
  have h1 := (h1.k m18).keep m21 (by have hq := hG1 b1 hKb1; show ¬ (b1 = b5); omega)
  have hSh := (hSh.keep m18 id id id id).keep m21 (nE (by omega)) (nE (by omega)) (nE (by omega)) (nE (by omega))
  have hL13 := (hL13.s m18).step m21 (fun k hk hS hk2 => by have hS : k = b5 := hS; have hk3 := hG1 k hk2; omega)
  refine send (fgg 1 3 5 29 30 31 rfl fun _ => ?_)
  obtain ⟨K5, hKd5⟩ : ∃ K5 : Nat → Prop, K5 = fun k => K1 k ∨ k = b5 := ⟨_, rfl⟩
  have hK5 : ∀ k, K1 k → K5 k := fun k hk => by rw [hKd5]; exact .inl hk
  have hKb5 : K5 b5 := by rw [hKd5]; exact .inr rfl
  have hKy : ∀ k, K5 k → k < w20.heap.size ∧ k ≠ b27 ∧ k ≠ y0 ∧ k ≠ y1 ∧ k ≠ y2 := fun k hk => by rw [hKd5] at hk; rcases hk with hk | hk; (have hq := hG1 k hk; omega); omega
  refine sreg (sM rfl (sv (xfld fl59_0 rfl) (sv (xld on9 rfl (h5.r.c 0 rfl rfl)) ?_)))
  have hnp38 := name_pos (han)
  rw [bt_length] at hnp38
  refine sc (xcall ca52 rfl) (c52 (K := K5) hSh (han) (by first | omega | (simp only [List.length_append]; omega)) (by omega) hm2 hKy) ?_
  rintro _ w22 ⟨M38, ya38, yb38, yc38, hpk38, hSh, hml38, hm2, hKq, m23⟩
  have z24 := m23.size
  have hps38 : (H ++ out).length = 12 + out.length := by rw [List.length_append, hHl]
  obtain ⟨P38, hP38⟩ : ∃ P, packName (some M1) (12 + out.length) (bt a.name) = (P, some M38) := ⟨_, Prod.ext rfl (by rw [hps38] at hpk38; exact hpk38)⟩
  have hSh : Sh w22 b27 (H ++ out ++ P38) M38 ya38 yb38 yc38 := by rw [hps38, hP38] at hSh; exact hSh
  have hPl38 := packName_le (some M1) (12 + out.length) (bt a.name)
  rw [hP38, bt_length] at hPl38
  simp only at hPl38
  have hKy : ∀ k, K5 k → k < w22.heap.size ∧ k ≠ b27 ∧ k ≠ ya38 ∧ k ≠ yb38 ∧ k ≠ yc38 := fun k hk => by have hq := hKy k hk; have hq2 := hKq k hk; omega
  have hG1 := fun k (hk : K1 k) => hKy k (hK5 k hk)
  have hGK := fun k (hk : K k) => hG1 k (hK1 k hk)
  have hGU := fun k (hk : U k) => hGK k (hUK k hk)
  refine send (fgg 1 3 5 29 30 31 rfl fun _ => ?_)
  obtain ⟨u0, u1, u2, hW, r0, q1, q2, hl0, hl1, hl2, hne, hgs⟩ := hSh
  have hgs : Gd _ b27 ya38 yb38 yc38 := hgs
  obtain ⟨p0, c0, rfl, -⟩ := Rw.form r0
  obtain ⟨a1, c1, rfl, hs1⟩ := q1.form
  obtain ⟨a2, c2, rfl, hs2⟩ := q2.form
  refine ldrawH (Fr (fun k => k = ya38) w22.drew) [rd0, rd1, rd2, rd3, rd4, rd5, rd6, rd8, rd9, ld7, ld10, ld11, ld12, ld13, rd14, rd15, (16, .bh)] mixed (by kernel_rfl) (fun _ _ _ _ _ h => h) ?_
  have z25 : w22.drew.heap.size = w22.heap.size := rfl
  have h5 := (h5.keep m23 (fun h => h hKb5)).drew
  have zb_h5 := h5
  have hW := hW.drew
  have zb_hW := hW
  have hS26 : Fr (fun k => k = ya38) w22.drew w22.drew := Fr.refl _ _
  refine qqM rfl rfl hS26 (qqM rfl rfl hS26 (qqN rfl rfl hS26 (hvH rfl (fun _ _ => xfld fl116_0 rfl) hS26 (hvH rfl (fun w' hS => xld on37 rfl ((zb_hW.keep hS (nE (by omega))).r.c 0 rfl rfl)) hS26 (hvH rfl (fun _ _ => xfld fl59_1 rfl) hS26 (hvH rfl (fun w' hS => xld on22 rfl ((zb_h5.keep hS (by have hq := hKy b5 hKb5; show ¬ (b5 = ya38); omega)).r.c 1 rfl rfl)) hS26 (hvH rfl (fun _ _ => xfld fl59_2 rfl) hS26 (hvH rfl (fun w' hS => xld on22 rfl ((zb_h5.keep hS (by have hq := hKy b5 hKb5; show ¬ (b5 = ya38); omega)).r.c 2 rfl rfl)) hS26 ?_))))))))
  refine hcH rfl (xcall ca53 rfl) (c53 (by first | omega | exact u16lt _)) ?_
  rintro _ w27 ⟨p46, q46, g46, rfl, r46, m28, a46, l46⟩
  have z29 := m28.size
  have hS30 := hS26.s m28
  refine ⟨hS30, ?_⟩
  refine hcH rfl (xcall ca53 rfl) (c53 (by first | omega | exact u16lt _)) ?_
  rintro _ w31 ⟨p49, q49, g49, rfl, r49, m32, a49, l49⟩
  have z33 := m32.size
  have hS34 := hS30.s m32
  refine ⟨hS34, ?_⟩
  refine hlKH rfl (xslit [_, _] sl105 in37 rfl (by decide) rfl rfl rfl rfl (by decide) rfl rfl) ?_
  rintro _ w36 ⟨b50, rfl, m37, h50, e50, s50, r50⟩
  have hS38 := hS34.s m37
  have r46 := (r46.k m32).k m37
  have r49 := r49.k m37
  refine ⟨hS38, ?_⟩
  refine hcH rfl (xcall ca21 rfl) (c21 (U := fun k => k = g46 ∨ k = g49) (Rw.rng r50) (by omega) rfl (fun k hk => by have hk : k = g46 ∨ k = g49 := hk; rcases hk with hk | hk <;> first | omega | (have := hU k hk; omega)) (All2.cons (BR.ba r46 (.inl rfl)) (All2.cons (BR.ba r49 (.inr rfl)) All2.nil)) (by simp only [fC, fN, List.length_append, be16_length, List.length_nil]; omega) (by decide)) ?_
  rintro _ w39 ⟨p51, q51, g51, rfl, r51, m40, a51, l51⟩
  have z41 := m40.size
  have hS42 := hS38.s m40
  have r0 := ((((r0.k (fd w22)).k m28).k m32).k m37).k m40
  refine ⟨hS42, ?_⟩
  refine hlKH rfl (xapp sl37 in5 rfl (by decide) rfl rfl r0 (r51.src sl37) (by simp only [maxLen]; simp [be16_length]; omega) (by simp [be16_length]; omega)) ?_
  rintro _ w43 ⟨g52, r52, m44, a52, l52⟩
  have z45 := m44.size
  have hS46 := hS42.step m44 nI
  obtain ⟨p52, q52, rfl, -⟩ := r52.form
  have r52 : BR _ _ g52 (H ++ out ++ P38 ++ (be16 a.typ.toNat ++ be16 a.cls.toNat)).length (H ++ out ++ P38 ++ (be16 a.typ.toNat ++ be16 a.cls.toNat)) := br_cast r52 (by simp [bvs_app]) (by simp [be16_length]; try omega)
  have hW := ((((hW.k m28).k m32).k m37).k m40).keep m44 (nE (by omega))
  refine ⟨hS46, ?_⟩
  refine qqN rfl rfl hS46 (hvH rfl (fun _ _ => xfld fl116_0 rfl) hS46 ?_)
  refine bluKH rfl (xstF 0 sz37 hW rfl rfl rfl rfl rfl) ?_
  rintro w48 ⟨m49, hW, s47⟩
  have q1 := ((((((q1.keep (fd w22) (fun h0 => id)).keep m28 (fun h0 => id)).keep m32 (fun h0 => id)).keep m37 (fun h0 => id)).keep m40 (fun h0 => id)).keep m44 (fun h0 => by have h0 := h0; have hq := hgs.ne1 h0; show ¬ (yb38 = ya38); omega)).keep m49 (fun h0 => by have h0 := h0; have hq := hgs.ne1 h0; show ¬ (yb38 = b27); omega)
  have q2 := ((((((q2.keep (fd w22) (fun h0 => id)).keep m28 (fun h0 => id)).keep m32 (fun h0 => id)).keep m37 (fun h0 => id)).keep m40 (fun h0 => id)).keep m44 (fun h0 => by have h0 := h0; have hq := hgs.ne2 h0; show ¬ (yc38 = ya38); omega)).keep m49 (fun h0 => by have h0 := h0; have hq := hgs.ne2 h0; show ¬ (yc38 = b27); omega)
  have hgs := hgs.up a52 (by omega) (by omega)
  have hKy : ∀ k, K5 k → k < w48.heap.size ∧ k ≠ b27 ∧ k ≠ g52 ∧ k ≠ yb38 ∧ k ≠ yc38 := fun k hk => by have hq := hKy k hk; omega
  have h1 := (((((((h1.keep m23 (fun h => h (hK5 b1 hKb1))).drew).k m28).k m32).k m37).k m40).keep m44 (by have hq := hG1 b1 hKb1; show ¬ (b1 = ya38); omega)).keep m49 (by have hq := hG1 b1 hKb1; show ¬ (b1 = b27); omega)
  have hL13 := (((((((hL13.step m23 (fun k hk hS hk2 => hS (hK5 k hk2))).drew).s m28).s m32).s m37).s m40).step m44 (fun k hk hS hk2 => by have hS : k = ya38 := hS; have hk3 := hG1 k hk2; omega)).step m49 (fun k hk hS hk2 => by have hS : k = b27 := hS; have hk3 := hG1 k hk2; omega)
  have hG1 := fun k (hk : K1 k) => hKy k (hK5 k hk)
  have hf := (((((((hf.step m23 (fun k hk hS hk2 => hS (hK5 k (hK1 k hk2)))).drew).s m28).s m32).s m37).s m40).step m44 (fun k hk hS hk2 => by have hS : k = ya38 := hS; have hk3 := hGK k hk2; omega)).step m49 (fun k hk hS hk2 => by have hS : k = b27 := hS; have hk3 := hGK k hk2; omega)
  have hGK := fun k (hk : K k) => hG1 k (hK1 k hk)
  have hGU := fun k (hk : U k) => hGK k (hUK k hk)
  have hne : g52 ≠ b27 := by omega
  have l52 := l52 (.inl (by omega))
  clear a52
  have r52 := r52.keep m49 (nE (by omega))
  refine lhendH (nBlock (nThen (ffg 1 3 29 30 31 rfl fun _ => lreg (sv (xadd rfl rfl (w64 (by omega) (by omega))) (sM rfl (lend (nThen ?_)))))))
  have hSh := sh_mk hW r52 q1 q2 (by omega) (by omega) (by omega) (by omega) hgs
  have hKy : ∀ k, K5 k → k < w48.heap.size ∧ k ≠ b27 ∧ k ≠ g52 ∧ k ≠ yb38 ∧ k ≠ yc38 := fun k hk => by have hq := hKy k hk; omega
  refine ⟨(k + 1, out ++ (P38 ++ (be16 a.typ.toNat ++ be16 a.cls.toNat)), M38, g52, yb38, yc38), _, env_okl ⟨rfl, rfl, rfl, rfl, rfl, trivial⟩, ⟨hL13, (by omega), (pa_step hpa hak (pk_ask hP38)), (by simpa only [List.append_assoc] using hSh), (by simp only [List.length_append, be16_length]; omega), (by omega), (hm2), (fun k hk => by have hq := hKy k (hK5 k hk); omega)⟩, ?_⟩
  show m.asks.length - (k + 1) < m.asks.length - k; omega
 refine send ((wp_seq (cno rfl (wp_exit (eThen (eThen (eHit (nThen (fcg 1 3 rfl fun _ => wp_seq (sreg (sv (xfld fl34_2 rfl) (sv (xld on32 rfl (h1.r.c 11 rfl rfl)) (sv (xfld fl34_3 rfl) (sv (xld on32 rfl (h1.r.c 12 rfl rfl)) (sv (xfld fl34_4 rfl) (sv (xld on32 rfl (h1.r.c 13 rfl rfl)) (svK (xslit ([.slice a1 m.one.length c1, .slice a2 m.two.length c2, .slice a3 m.three.length c3]) sl60 in32 rfl (by decide) rfl rfl rfl rfl (by decide) rfl rfl) ?_)))))))))))))))))
 rintro _ w51 ⟨b62, rfl, m52, h62, e62, s62, r62⟩
 refine sv (xlen sl60 rfl) (sM rfl ?_)
 obtain ⟨K2, hKd2⟩ : ∃ K2 : Nat → Prop, K2 = fun k => K1 k ∨ k = b62 := ⟨_, rfl⟩
 have hK2 : ∀ k, K1 k → K2 k := fun k hk => by rw [hKd2]; exact .inl hk
 have hKb62 : K2 b62 := by rw [hKd2]; exact .inr rfl
 have hG2 : ∀ k, K2 k → k < w51.heap.size ∧ k ≠ b27 ∧ k ≠ y0 ∧ k ≠ y1 ∧ k ≠ y2 := fun k hk => by rw [hKd2] at hk; rcases hk with hk | hk; (have hq := hG1 k hk; omega); omega
 have eA : m.asks.take k = m.asks := List.take_of_length_le (by omega)
 rw [eA] at hpa
 have hLs : LstP m 0 (H ++ out) M1 := ⟨by rw [hH, packA, hpa], by rw [packA, hpa]⟩
 have hSh := hSh.keep m52 id id id id
 refine send (feg 3 62 63 64 rfl fun _ => wp_block (lp [(3, _), (62, _), (63, _)] (fun (x : Nat × List UInt8 × Ent × Nat × Nat × Nat) => match x with | (i, X, M1, y0, y1, y2) => [(64, .int .i64 (i : Int))]) (fun (x : Nat × List UInt8 × Ent × Nat × Nat × Nat) wx => match x with | (i, X, M1, y0, y1, y2) => Fr (fun k => ¬ K2 k) w51 wx ∧ (i ≤ 3) ∧ (LstP m i X M1) ∧ (Sh wx b27 X M1 y0 y1 y2) ∧ (X.length ≤ 12 + 66100 * (m.asks.length + cntL m i)) ∧ (M1.length ≤ 762 * (m.asks.length + cntL m i)) ∧ (∀ q ∈ M1, q.2.toNat ≤ 16383) ∧ (∀ k, K2 k → k < wx.heap.size ∧ k ≠ b27 ∧ k ≠ y0 ∧ k ≠ y1 ∧ k ≠ y2)) (fun (x : Nat × List UInt8 × Ent × Nat × Nat × Nat) => match x with | (i, X, M1, y0, y1, y2) => 3 - i) (0, H ++ out, M1, y0, y1, y2) ⟨rfl, rfl, rfl, rfl, trivial⟩ ⟨Fr.refl _ _, Nat.zero_le _, hLs, hSh, by simp only [List.length_append]; omega, by omega, hm2, hG2⟩ ?_))
 rintro ⟨i, X, M1, y0, y1, y2⟩ _ w54 ⟨hL53, hi, hLs, hSh, hXl, hMl, hm2, hG2⟩
 refine feg 3 62 63 64 rfl fun _ => ?_
 have z55 := hL53.size
 have hlt := hSh.lts
 have hG1 := fun k (hk : K1 k) => hG2 k (hK2 k hk)
 have hGK := fun k (hk : K k) => hG1 k (hK1 k hk)
 have hGU := fun k (hk : U k) => hGK k (hUK k hk)
 have hf := (hf.s m52).step hL53 (fun k hk hS hk2 => hS (hK2 k (hK1 k hk2)))
 refine sreg (svP (xlss rfl rfl) (fun hc65 => ?_) (fun hc65 => ?_))
 rotate_left
 ·
  refine send ((wp_seq (cno rfl (wp_exit (eThen (eThen (eHit (nThen (fbg 3 rfl fun _ => ?_)))))))))
  obtain ⟨u0, u1, u2, hW, r0, q1, q2, hl0, hl1, hl2, hne, hgs⟩ := hSh
  have hgs : Gd _ b27 y0 y1 y2 := hgs
  obtain ⟨p0, c0, rfl, -⟩ := Rw.form r0
  obtain ⟨a1, c1, rfl, hs1⟩ := q1.form
  obtain ⟨a2, c2, rfl, hs2⟩ := q2.form
  refine sreg (sM rfl (sN rfl (sv (xfld fl116_0 rfl) (sv (xld on37 rfl (hW.r.c 0 rfl rfl)) (sA rfl (send (fbg 2 rfl fun _ => wp_ret (rp1 rfl rfl ?_))))))))
  have hi3 : i = 3 := by omega
  subst hi3
  have hX : X = packM (some []) m := hLs
  exact new_cast r0 hX (hf.mono (fun k hk hS => hS (by rw [hKd]; exact hk))) (by rcases Nat.lt_or_ge y0 w.heap.size with h | h; exact absurd rfl (hGK y0 (by rw [hKd]; exact h)).2.2.1; exact h) (by omega)
 refine send ((wp_seq (cyes rfl (wp_skip (nThen (feg 3 62 63 64 rfl fun _ => wp_seq (wp_block (sreg ?_))))))))
 obtain ⟨u, l, hu, hul, hL⟩ := hls.get (k := i) (by simp; omega)
 have hlm : l ∈ [m.one, m.two, m.three] := List.mem_of_getElem? hul
 have hct := cnt_step hul
 have hL := hL.keep rec_st hU hf (fun k hk h => h (hUK k hk))
 obtain ⟨au, cu, rfl⟩ := hL.form
 have r62 := r62.keep hL53 (fun h => h hKb62)
 refine sv (xidx1 sl60 sz32 rfl rfl rfl (by omega)) (sv (xld on32 rfl (Rw.rng r62 i _ hu)) (sA rfl (send ((sreg (sM rfl (sv (xlen sl32 rfl) (sM rfl (send (fhg 3 62 63 64 68 69 70 rfl fun _ => wp_block (lp [(3, _), (62, _), (63, _), (64, _), (68, _), (69, _)] (fun (x : Nat × List UInt8 × Ent × Nat × Nat × Nat) => match x with | (k, out, M2, z0, z1, z2) => [(70, .int .i64 (k : Int))]) (fun (x : Nat × List UInt8 × Ent × Nat × Nat × Nat) wx => match x with | (k, out, M2, z0, z1, z2) => Fr (fun k => ¬ K2 k) w54 wx ∧ (k ≤ l.length) ∧ (packAll packRec (some M1) X.length (l.take k) = (out, some M2)) ∧ (Sh wx b27 (X ++ out) M2 z0 z1 z2) ∧ (out.length ≤ 66100 * k) ∧ (M2.length ≤ M1.length + 762 * k) ∧ (∀ q ∈ M2, q.2.toNat ≤ 16383) ∧ (∀ k, K2 k → k < wx.heap.size ∧ k ≠ b27 ∧ k ≠ z0 ∧ k ≠ z1 ∧ k ≠ z2)) (fun (x : Nat × List UInt8 × Ent × Nat × Nat × Nat) => match x with | (k, out, M2, z0, z1, z2) => l.length - k) (0, [], M1, y0, y1, y2) ⟨rfl, rfl, rfl, rfl, rfl, rfl, rfl, trivial⟩ ⟨Fr.refl _ _, Nat.zero_le _, rfl, by rw [aN]; exact hSh, Nat.le_refl _, Nat.le_refl _, hm2, hG2⟩ ?_)))))))))))
 rintro ⟨k, out, M2, z0, z1, z2⟩ _ w57 ⟨hL56, hk, hpr, hSh, hol, hMl2, hm2, hG2⟩
 refine fhg 3 62 63 64 68 69 70 rfl fun _ => ?_
 have z58 := hL56.size
 have hlt := hSh.lts
 have hG1 := fun k (hk : K1 k) => hG2 k (hK2 k hk)
 have hGK := fun k (hk : K k) => hG1 k (hK1 k hk)
 have hL := hL.keep rec_st (fun k hk => by have hk := hGU k hk; omega) hL56 (fun k hk h => h (hK2 k (hK1 k (hUK k hk))))
 have hGU := fun k (hk : U k) => hGK k (hUK k hk)
 have hL53 := hL53.step hL56 (fun k hk hS hk2 => hS hk2)
 refine sreg (svP (xlss rfl rfl) (fun hc71 => ?_) (fun hc71 => ?_))
 rotate_left
 ·
  refine send ((wp_seq (cno rfl (wp_exit (eThen (eThen (eHit (nBlock (nThen (feg 3 62 63 64 rfl fun _ => lreg (sv (xadd rfl rfl (w64 (by omega) (by omega))) (sM rfl (lend (nThen ?_))))))))))))))
  have eR : l.take k = l := List.take_of_length_le (by omega)
  rw [eR] at hpr
  refine ⟨(i + 1, X ++ out, M2, z0, z1, z2), _, env_okl ⟨rfl, rfl, rfl, rfl, trivial⟩, ⟨hL53, (by omega), (lst_next hLs hul hpr), (hSh), (by simp only [List.length_append]; omega), (by omega), (hm2), (hG2)⟩, ?_⟩
  show 3 - (i + 1) < 3 - i; omega
 refine send ((wp_seq (cyes rfl (wp_skip (nThen (fhg 3 62 63 64 68 69 70 rfl fun _ => wp_seq (wp_block ?_)))))))
 obtain ⟨r, hrk⟩ := some_of_lt (by omega : k < l.length)
 have hrf := hrs l hlm r (List.mem_of_getElem? hrk)
 refine sreg ?_
 obtain ⟨bE72, oE72, sgE72, rfl, uE72, hsE72, heE72⟩ := LA.get hL hrk
 obtain ⟨vd, vt, vp, rfl, hd, ht, hp⟩ := heE72
 have zE72 := hU _ uE72
 obtain ⟨ad, cd, rfl, -⟩ := id hd
 obtain ⟨at1, ct1, rfl⟩ := ht.form
 obtain ⟨ap1, cp1, rfl⟩ := hp.form
 refine sv (xidx sl32 sz65 rfl rfl rfl (by omega)) (sv (xldS (lens := lRec) ro65 rfl hsE72) (svK (xallS (lens := lRec) in65 rfl) ?_))
 rintro _ w60 ⟨b9, rfl, m61, h9, e59, s59⟩
 refine suK (xstW h9 (lens' := lRec) sz65 rfl rfl rfl rfl rfl) ?_
 rintro w63 ⟨m64, h9, s62⟩
 have hL53 := (hL53.s m61).step m64 (fun k hk hS hk2 => by have hS : k = b9 := hS; have hk3 := hG2 k hk2; omega)
 have hf := ((hf.step hL56 (fun k hk hS hk2 => hS (hK2 k (hK1 k hk2)))).s m61).step m64 (fun k hk hS hk2 => by have hS : k = b9 := hS; have hk3 := hGK k hk2; omega)
 have hL56 := (hL56.s m61).step m64 (fun k hk hS hk2 => by have hS : k = b9 := hS; have hk3 := hG2 k hk2; omega)
 refine send (fig 3 9 62 63 64 68 69 70 rfl fun _ => lreg (sM rfl (sv (xldS (lens := lRec) ro65 rfl h9.r) ?_)))
 have hG2 : ∀ k, K2 k → k < w63.heap.size ∧ k ≠ b27 ∧ k ≠ z0 ∧ k ≠ z1 ∧ k ≠ z2 := fun k hk => by have hq := hG2 k hk; omega
 have hSh := (hSh.keep m61 id id id id).keep m64 (nE (by omega)) (nE (by omega)) (nE (by omega)) (nE (by omega))
 have hd := (hd.keep (fun k hk => by have hk := hGU k hk; omega) m61 nF).keep (fun k hk => by have hk := hGU k hk; omega) m64 (fun k hk hS => by have hk := hGU k hk; have hS : k = b9 := hS; omega)
 have ht := (ht.keep text_st (fun k hk => by have hk := hGU k hk; omega) m61 nF).keep text_st (fun k hk => by have hk := hGU k hk; omega) m64 (fun k hk hS => by have hk := hGU k hk; have hS : k = b9 := hS; omega)
 have hp := (hp.keep pair_st (fun k hk => by have hk := hGU k hk; omega) m61 nF).keep pair_st (fun k hk => by have hk := hGU k hk; omega) m64 (fun k hk hS => by have hk := hGU k hk; have hS : k = b9 := hS; omega)
 refine sc (xcall ca54 rfl) (c54 hd ht hp hSh hrf.1 hrf.2.1 hrf.2.2.1 hrf.2.2.2.1 (by rw [List.length_append]; omega) (by omega) hm2 hG2 (fun k hk => hK2 k (hK1 k (hUK k hk)))) ?_
 rintro _ w65 ⟨M76, ya76, yb76, yc76, hpk76, hSh, hml76, hm2, hKq, m66⟩
 have z67 := m66.size
 have hps : (X ++ out).length = X.length + out.length := List.length_append
 obtain ⟨P, hP⟩ : ∃ P, packRec (some M2) (X.length + out.length) r = (P, some M76) := ⟨_, Prod.ext rfl (by rw [hps] at hpk76; exact hpk76)⟩
 have hSh : Sh w65 b27 (X ++ out ++ P) M76 ya76 yb76 yc76 := by rw [hps, hP] at hSh; exact hSh
 have hPl := hrf.2.2.2.2 M2 (X.length + out.length)
 rw [hP] at hPl
 simp only at hPl
 have hG2 : ∀ k, K2 k → k < w65.heap.size ∧ k ≠ b27 ∧ k ≠ ya76 ∧ k ≠ yb76 ∧ k ≠ yc76 := fun k hk => by have hq := hG2 k hk; have hq2 := hKq k hk; omega
 have hG1 := fun k (hk : K1 k) => hG2 k (hK2 k hk)
 have hGK := fun k (hk : K k) => hG1 k (hK1 k hk)
 have hGU := fun k (hk : U k) => hGK k (hUK k hk)
 have hL56 := hL56.step m66 (fun k hk hS hk2 => hS hk2)
 refine lend (nBlock (nThen (fhg 3 62 63 64 68 69 70 rfl fun _ => lreg (sv (xadd rfl rfl (w64 (by omega) (by omega))) (sM rfl (lend (nThen ?_)))))))
 refine ⟨(k + 1, out ++ P, M76, ya76, yb76, yc76), _, env_okl ⟨rfl, rfl, rfl, rfl, rfl, rfl, rfl, trivial⟩, ⟨hL56, (by omega), (pa_step hpr hrk hP), (by rw [← List.append_assoc]; exact hSh), (by simp only [List.length_append]; omega), (by omega), (hm2), (hG2)⟩, ?_⟩
 show l.length - (k + 1) < l.length - k; omega
end Go.Proofs.YtifnodoffgfpbaaGreatDoor

namespace Go.Proofs.YtifnodoffgfpbaaGreatDoor
open Go

def nd (s : ByteArray) : Nat := ((bt s).drop 1).count 46
theorem nd_step {s : ByteArray} {i : Nat} (h : i < s.size) : ((bt s).drop i).count 46 = (if s[i].toNat = 46 then 1 else 0) + ((bt s).drop (i + 1)).count 46 := by
  rw [wire_one h, List.count_cons, Nat.add_comm]
  congr 1
  by_cases e : s[i].toNat = 46
  · have : s[i] = 46 := UInt8.toNat_inj.1 e
    rw [if_pos e, this]; rfl
  · rw [if_neg e, if_neg (fun q => e (by rw [eq_of_beq q]; rfl))]
def shalR (r : RecD) : Prop := nd r.name ≤ 10 ∧ nd r.host ≤ 10 ∧ nd r.box ≤ 10
def shalM (m : MsgD) : Prop := (∀ a ∈ m.asks, nd a.name ≤ 10) ∧ ∀ l ∈ [m.one, m.two, m.three], ∀ r ∈ l, shalR r
theorem shal_k {m : MsgD} (h : shalM m) : KMsg (fun k => k ≤ 10) m := by
  have hn : ∀ s : ByteArray, nd s ≤ 10 → KName (fun k => k ≤ 10) s := fun s hs k hk => Nat.le_trans hk hs
  have hr : ∀ r, shalR r → KRec (fun k => k ≤ 10) r := fun r hr => ⟨hn _ hr.1, hn _ hr.2.1, hn _ hr.2.2⟩
  exact ⟨fun a ha => hn _ (h.1 a ha), fun r hq => hr r (h.2 m.one (by simp) r hq), fun r hq => hr r (h.2 m.two (by simp) r hq), fun r hq => hr r (h.2 m.three (by simp) r hq)⟩

theorem c51 {w : World} {s : ByteArray} (hs : s.size ≤ 1048576) :
  Ret PP 51 [.string s] w (fun u w' => u = .int .i64 ((nd s : Nat) : Int) ∧ Fr0 w w') := by
 have hf : Fr (fun _ => False) w w := Fr.refl _ _
 refine ret_of Tryz.func51 rfl rfl rfl [(0, _)] rfl ?_
 refine sreg (sA rfl (send ((sreg (sA rfl (send ((wp_seq (sreg (sM rfl (sv (xlenS st9 rfl) (sM rfl (send (feg 0 3 6 7 rfl fun _ => wp_block (lp [(0, _), (6, _)] (fun (x : Nat × Nat) => match x with | (i, c) => [(3, .int .i64 (c : Int)), (7, .int .i64 (i : Int))]) (fun (x : Nat × Nat) wx => match x with | (i, c) => Fr (fun _ => False) w wx ∧ (i ≤ s.size) ∧ (c + ((bt s).drop (max 1 i)).count 46 = nd s) ∧ (c ≤ i)) (fun (x : Nat × Nat) => match x with | (i, c) => s.size - i) (0, 0) ⟨rfl, rfl, rfl, rfl, trivial⟩ ⟨Fr.refl _ _, Nat.zero_le _, Nat.zero_add _, Nat.le_refl _⟩ ?_)))))))))))))))
 rintro ⟨i, c⟩ _ w2 ⟨hL1, hi, hc, hci⟩
 refine feg 0 3 6 7 rfl fun _ => ?_
 have z3 := hL1.size
 refine sreg (svP (xlss rfl rfl) (fun hc8 => ?_) (fun hc8 => ?_))
 ·
  refine send ((wp_seq (cyes rfl (wp_skip (nThen ((wp_seq (wp_block (sreg (sM rfl (sA rfl (send (ffg 0 3 4 6 7 rfl fun _ => sreg (sM rfl (sM rfl (sv (xidxS st9 rfl rfl rfl (by omega)) (svP (xeql rfl rfl) (fun hc13 => ?_) (fun hc13 => ?_))))))))))))))))))
  ·
   refine sM rfl (gyes rfl rfl rfl (sM rfl (gyes rfl rfl rfl (svP (xgtr rfl rfl) (fun hc16 => ?_) (fun hc16 => ?_)))))
   ·
    refine sv (xpickT rfl rfl) (send ((cyes rfl (lreg (sM rfl (sv (xadd rfl rfl (w64 (by omega) (by omega))) (sA rfl (lend (nBlock (nThen (feg 0 3 6 7 rfl fun _ => lreg (sv (xadd rfl rfl (w64 (by omega) (by omega))) (sM rfl (lend (nThen ?_)))))))))))))))
    refine ⟨(i + 1, c + 1), _, env_okl ⟨rfl, rfl, rfl, rfl, trivial⟩, ⟨hL1, (by omega), (by have hq := nd_step (by omega : i < s.size); rw [if_pos (by omega)] at hq; rw [show max 1 i = i by omega] at hc; rw [show max 1 (i + 1) = i + 1 by omega]; omega), (by omega)⟩, ?_⟩
    show s.size - (i + 1) < s.size - i; omega
   refine sv (xpickT rfl rfl) (send ((cno rfl (wp_skip (nBlock (nThen (feg 0 3 6 7 rfl fun _ => lreg (sv (xadd rfl rfl (w64 (by omega) (by omega))) (sM rfl (lend (nThen ?_)))))))))))
   refine ⟨(i + 1, c), _, env_okl ⟨rfl, rfl, rfl, rfl, trivial⟩, ⟨hL1, (by omega), (by have h0 : i = 0 := (by omega); subst h0; exact hc), (by omega)⟩, ?_⟩
   show s.size - (i + 1) < s.size - i; omega
  refine sM rfl (gno rfl rfl rfl (gno rfl rfl rfl (sv (xpickF rfl rfl) (send ((cno rfl (wp_skip (nBlock (nThen (feg 0 3 6 7 rfl fun _ => lreg (sv (xadd rfl rfl (w64 (by omega) (by omega))) (sM rfl (lend (nThen ?_))))))))))))))
  refine ⟨(i + 1, c), _, env_okl ⟨rfl, rfl, rfl, rfl, trivial⟩, ⟨hL1, (by omega), (by rw [show max 1 (i + 1) = i + 1 by omega]; rcases Nat.eq_zero_or_pos i with h0 | h0; (subst h0; exact hc); have hq := nd_step (by omega : i < s.size); rw [if_neg (by omega)] at hq; rw [show max 1 i = i by omega] at hc; omega), (by omega)⟩, ?_⟩
  show s.size - (i + 1) < s.size - i; omega
 refine send ((wp_seq (cno rfl (wp_exit (eThen (eThen (eHit (nThen ((sreg (sM rfl (sA rfl (send (fbg 2 rfl fun _ => wp_ret (rp1 rfl rfl ?_)))))))))))))))
 have h0 : (bt s).drop (max 1 i) = [] := List.drop_of_length_le (by rw [bt_length]; omega)
 rw [h0] at hc
 have hf := hf.s hL1
 exact ⟨by rw [← hc]; rfl, hf⟩
theorem c24 {w : World} {U : Nat → Prop} (hU : ∀ k, U k → k < w.heap.size) {m : MsgD} {va v1 v2 v3 : Value} (ha : LA AskEl lAsk U w va m.asks) (y1 : LA RecEl lRec U w v1 m.one) (y2 : LA RecEl lRec U w v2 m.two) (y3 : LA RecEl lRec U w v3 m.three) (hfa : ∀ a ∈ m.asks, a.name.size ≤ 1048576) (hna : m.asks.length ≤ 1048576) (hfr : ∀ l ∈ [m.one, m.two, m.three], ∀ r ∈ l, r.fits) (hll : ∀ l ∈ [m.one, m.two, m.three], l.length ≤ 1048576)  :
  Ret PP 24 [ag (msgSegs m.head va v1 v2 v3)] w (Grd w (shalM m)) := by
 have hls : All2 (LA RecEl lRec U w) [v1, v2, v3] [m.one, m.two, m.three] := All2.cons y1 (All2.cons y2 (All2.cons y3 All2.nil))
 obtain ⟨aa, ca, rfl⟩ := ha.form
 obtain ⟨a1, c1, rfl⟩ := y1.form
 obtain ⟨a2, c2, rfl⟩ := y2.form
 obtain ⟨a3, c3, rfl⟩ := y3.form
 have hf : Fr (fun _ => False) w w := Fr.refl _ _
 refine ret_of Tryz.func24 rfl rfl rfl [(0, _)] rfl ?_
 refine sreg (svK (xboxS (lens := lMsg) rfl rfl) ?_)
 rintro _ w2 ⟨b1, rfl, m3, h1, e1, s1⟩
 refine sA rfl (send ((wp_seq (sreg (sv (xfld fl34_1 rfl) (sv (xld on31 rfl (h1.r.c 10 rfl rfl)) (sv (xlen sl31 rfl) (sM rfl (send (feg 1 10 11 12 rfl fun _ => wp_block (lp [(1, _), (10, _), (11, _)] (fun (k : Nat) => [(12, .int .i64 (k : Int))]) (fun (k : Nat) wx => Fr (fun _ => False) w2 wx ∧ (k ≤ m.asks.length) ∧ (∀ i (a : AskD), i < k → m.asks[i]? = some a → nd a.name ≤ 10)) (fun (k : Nat) => m.asks.length - k) 0 ⟨rfl, rfl, rfl, rfl, trivial⟩ ⟨Fr.refl _ _, Nat.zero_le _, upto_zero⟩ ?_)))))))))))
 rintro k _ w5 ⟨hL4, hk, hT⟩
 refine feg 1 10 11 12 rfl fun _ => ?_
 have z6 := hL4.size
 have hf := (hf.s m3).s hL4
 have h1 := h1.k hL4
 refine sreg (svP (xlss rfl rfl) (fun hc13 => ?_) (fun hc13 => ?_))
 ·
  refine send ((wp_seq (cyes rfl (wp_skip (nThen (feg 1 10 11 12 rfl fun _ => wp_seq (wp_block ?_)))))))
  obtain ⟨a, hak⟩ := some_of_lt (by omega : k < m.asks.length)
  have hal := hfa _ (List.mem_of_getElem? hak)
  have ha := (ha.keep ask_st (lU hU (by omega)) m3 nF).keep ask_st (lU hU (by omega)) hL4 nF
  refine sreg ?_
  obtain ⟨bE14, oE14, sgE14, rfl, uE14, hsE14, heE14⟩ := LA.get ha hak
  obtain rfl := heE14
  have zE14 := hU _ uE14
  refine sv (xidx sl31 sz59 rfl rfl rfl (by omega)) (sv (xldS (lens := [1, 1, 1]) ro59 rfl hsE14) (svK (xallS (lens := [1, 1, 1]) in59 rfl) ?_))
  rintro _ w8 ⟨b4, rfl, m9, h4, e7, s7⟩
  refine suK (xstW h4 (lens' := [1, 1, 1]) sz59 rfl rfl rfl rfl rfl) ?_
  rintro w11 ⟨m12, h4, s10⟩
  refine send (ffg 1 4 10 11 12 rfl fun _ => sreg (sv (xfld fl59_0 rfl) (sv (xld on9 rfl (h4.r.c 0 rfl rfl)) (sc (xcall ca51 rfl) (c51 (by omega)) ?_))))
  rintro _ w13 ⟨rfl, m14⟩
  have z15 := m14.size
  refine svP (xgtr rfl rfl) (fun hc19 => ?_) (fun hc19 => ?_)
  ·
   have hf := ((hf.s m9).t m12 (by omega)).s m14
   refine send ((cyes rfl (sreg (sA rfl (send (fbg 2 rfl fun _ => wp_ret (rBlock (rThen (rThen (rBlock (rThen (rp1 rfl rfl ?_))))))))))))
   exact ⟨_, rfl, (fun h => by cases h), hf⟩
  have hL4 := ((hL4.s m9).t m12 (by omega)).s m14
  refine send ((cno rfl (wp_skip (nBlock (nThen (feg 1 10 11 12 rfl fun _ => lreg (sv (xadd rfl rfl (w64 (by omega) (by omega))) (sM rfl (lend (nThen ?_))))))))))
  refine ⟨k + 1, _, env_okl ⟨rfl, rfl, rfl, rfl, trivial⟩, ⟨hL4, (by omega), (upto_step hT hak (by omega))⟩, ?_⟩
  show m.asks.length - (k + 1) < m.asks.length - k; omega
 refine send ((wp_seq (cno rfl (wp_exit (eThen (eThen (eHit (nThen (fbg 1 rfl fun _ => wp_seq (sreg (sv (xfld fl34_2 rfl) (sv (xld on32 rfl (h1.r.c 11 rfl rfl)) (sv (xfld fl34_3 rfl) (sv (xld on32 rfl (h1.r.c 12 rfl rfl)) (sv (xfld fl34_4 rfl) (sv (xld on32 rfl (h1.r.c 13 rfl rfl)) (svK (xslit ([.slice a1 m.one.length c1, .slice a2 m.two.length c2, .slice a3 m.three.length c3]) sl60 in32 rfl (by decide) rfl rfl rfl rfl (by decide) rfl rfl) ?_)))))))))))))))))
 rintro _ w17 ⟨b27, rfl, m18, h27, e27, s27, r27⟩
 refine sv (xlen sl60 rfl) (sM rfl (send (fdg 27 28 29 rfl fun _ => wp_block (lp [(27, _), (28, _)] (fun (i : Nat) => [(29, .int .i64 (i : Int))]) (fun (i : Nat) wx => Fr (fun _ => False) w17 wx ∧ (i ≤ 3) ∧ (∀ j (l : List RecD), j < i → [m.one, m.two, m.three][j]? = some l → ∀ r ∈ l, shalR r)) (fun (i : Nat) => 3 - i) 0 ⟨rfl, rfl, rfl, trivial⟩ ⟨Fr.refl _ _, Nat.zero_le _, upto_zero⟩ ?_))))
 rintro i _ w20 ⟨hL19, hi, hO⟩
 refine fdg 27 28 29 rfl fun _ => ?_
 have z21 := hL19.size
 have hf := (hf.s m18).s hL19
 refine sreg (svP (xlss rfl rfl) (fun hc30 => ?_) (fun hc30 => ?_))
 rotate_left
 ·
  refine send ((wp_seq (cno rfl (wp_exit (eThen (eThen (eHit (nThen (fg [] trivial fun _ => sreg (sA rfl (send (fbg 2 rfl fun _ => wp_ret (rp1 rfl rfl ?_)))))))))))))
  exact ⟨_, rfl, (fun _ => ⟨upto_all hT (by omega), upto_all hO (by simp; omega)⟩), hf⟩
 refine send ((wp_seq (cyes rfl (wp_skip (nThen (fdg 27 28 29 rfl fun _ => wp_seq (wp_block (sreg ?_))))))))
 obtain ⟨u, l, hu, hul, hL⟩ := hls.get (k := i) (by simp; omega)
 have hlm : l ∈ [m.one, m.two, m.three] := List.mem_of_getElem? hul
 have hln := hll l hlm
 have hL := hL.keep rec_st hU hf nF
 obtain ⟨au, cu, rfl⟩ := hL.form
 have r27 := r27.k hL19
 refine sv (xidx1 sl60 sz32 rfl rfl rfl (by omega)) (sv (xld on32 rfl (Rw.rng r27 i _ hu)) (sA rfl (send ((sreg (sM rfl (sv (xlen sl32 rfl) (sM rfl (send (fgg 27 28 29 33 34 35 rfl fun _ => wp_block (lp [(27, _), (28, _), (29, _), (33, _), (34, _)] (fun (k : Nat) => [(35, .int .i64 (k : Int))]) (fun (k : Nat) wx => Fr (fun _ => False) w20 wx ∧ (k ≤ l.length) ∧ (∀ j (r : RecD), j < k → l[j]? = some r → shalR r)) (fun (k : Nat) => l.length - k) 0 ⟨rfl, rfl, rfl, rfl, rfl, rfl, trivial⟩ ⟨Fr.refl _ _, Nat.zero_le _, upto_zero⟩ ?_)))))))))))
 rintro k _ w23 ⟨hL22, hk, hI⟩
 refine fgg 27 28 29 33 34 35 rfl fun _ => ?_
 have z24 := hL22.size
 have hL19 := hL19.s hL22
 refine sreg (svP (xlss rfl rfl) (fun hc36 => ?_) (fun hc36 => ?_))
 rotate_left
 ·
  refine send ((wp_seq (cno rfl (wp_exit (eThen (eThen (eHit (nBlock (nThen (fdg 27 28 29 rfl fun _ => lreg (sv (xadd rfl rfl (w64 (by omega) (by omega))) (sM rfl (lend (nThen ?_))))))))))))))
  refine ⟨i + 1, _, env_okl ⟨rfl, rfl, rfl, trivial⟩, ⟨hL19, (by omega), (upto_step hO hul (upto_all hI (by omega)))⟩, ?_⟩
  show 3 - (i + 1) < 3 - i; omega
 refine send ((wp_seq (cyes rfl (wp_skip (nThen (fgg 27 28 29 33 34 35 rfl fun _ => wp_seq (wp_block ?_)))))))
 obtain ⟨r, hrk⟩ := some_of_lt (by omega : k < l.length)
 have hrf := hfr l hlm r (List.mem_of_getElem? hrk)
 have hrf0 := hrf
 simp only [RecD.fits] at hrf0
 have hL := hL.keep rec_st (lU hU (by omega)) hL22 nF
 refine sreg ?_
 obtain ⟨bE37, oE37, sgE37, rfl, uE37, hsE37, heE37⟩ := LA.get hL hrk
 obtain ⟨vd, vt, vp, rfl, hd, ht, hp⟩ := heE37
 have zE37 := hU _ uE37
 obtain ⟨ad, cd, rfl, -⟩ := id hd
 obtain ⟨at1, ct1, rfl⟩ := ht.form
 obtain ⟨ap1, cp1, rfl⟩ := hp.form
 refine sv (xidx sl32 sz65 rfl rfl rfl (by omega)) (sv (xldS (lens := lRec) ro65 rfl hsE37) (svK (xallS (lens := lRec) in65 rfl) ?_))
 rintro _ w26 ⟨b8, rfl, m27, h8, e25, s25⟩
 refine suK (xstW h8 (lens' := lRec) sz65 rfl rfl rfl rfl rfl) ?_
 rintro w29 ⟨m30, h8, s28⟩
 refine send (fhg 8 27 28 29 33 34 35 rfl fun _ => sreg (sv (xfld fl65_0 rfl) (sv (xld on9 rfl (h8.r.c 0 rfl rfl)) (sc (xcall ca51 rfl) (c51 (by omega)) ?_))))
 rintro _ w31 ⟨rfl, m32⟩
 have z33 := m32.size
 have hf := (((hf.s hL22).s m27).t m30 (by omega)).s m32
 refine svP (xgtr rfl rfl) (fun hc42 => ?_) (fun hc42 => ?_)
 ·
  refine sM rfl (gno rfl rfl rfl (gno rfl rfl rfl (gno rfl rfl rfl (gno rfl rfl rfl (sv (xpickT rfl rfl) (sM rfl (gno rfl rfl rfl (gno rfl rfl rfl (gno rfl rfl rfl (gno rfl rfl rfl (sv (xpickT rfl rfl) (send ((cyes rfl (sreg (sA rfl (send (fbg 2 rfl fun _ => wp_ret (rBlock (rThen (rThen (rBlock (rBlock (rThen (rThen (rBlock (rThen (rp1 rfl rfl ?_))))))))))))))))))))))))))))
  exact ⟨_, rfl, (fun h => by cases h), hf⟩
 have h8 := h8.k m32
 refine sM rfl (gyes rfl rfl rfl (sv (xfld fl65_7 rfl) (gyes rfl rfl rfl (sv (xld on9 rfl (h8.r.c 7 rfl rfl)) (gyes rfl rfl rfl (sc (xcall ca51 rfl) (c51 (by omega)) ?_))))))
 rintro _ w34 ⟨rfl, m35⟩
 have z36 := m35.size
 have hf := hf.s m35
 refine gyes rfl rfl rfl (svP (xgtr rfl rfl) (fun hc47 => ?_) (fun hc47 => ?_))
 ·
  refine sv (xpickF rfl rfl) (sM rfl (gno rfl rfl rfl (gno rfl rfl rfl (gno rfl rfl rfl (gno rfl rfl rfl (sv (xpickT rfl rfl) (send ((cyes rfl (sreg (sA rfl (send (fbg 2 rfl fun _ => wp_ret (rBlock (rThen (rThen (rBlock (rBlock (rThen (rThen (rBlock (rThen (rp1 rfl rfl ?_)))))))))))))))))))))))
  exact ⟨_, rfl, (fun h => by cases h), hf⟩
 have h8 := h8.k m35
 refine sv (xpickF rfl rfl) (sM rfl (gyes rfl rfl rfl (sv (xfld fl65_8 rfl) (gyes rfl rfl rfl (sv (xld on9 rfl (h8.r.c 8 rfl rfl)) (gyes rfl rfl rfl (sc (xcall ca51 rfl) (c51 (by omega)) ?_)))))))
 rintro _ w37 ⟨rfl, m38⟩
 have z39 := m38.size
 refine gyes rfl rfl rfl (svP (xgtr rfl rfl) (fun hc53 => ?_) (fun hc53 => ?_))
 ·
  have hf := hf.s m38
  refine sv (xpickF rfl rfl) (send ((cyes rfl (sreg (sA rfl (send (fbg 2 rfl fun _ => wp_ret (rBlock (rThen (rThen (rBlock (rBlock (rThen (rThen (rBlock (rThen (rp1 rfl rfl ?_)))))))))))))))))
  exact ⟨_, rfl, (fun h => by cases h), hf⟩
 have hL22 := ((((hL22.s m27).t m30 (by omega)).s m32).s m35).s m38
 refine sv (xpickF rfl rfl) (send ((cno rfl (wp_skip (nBlock (nThen (fgg 27 28 29 33 34 35 rfl fun _ => lreg (sv (xadd rfl rfl (w64 (by omega) (by omega))) (sM rfl (lend (nThen ?_)))))))))))
 refine ⟨k + 1, _, env_okl ⟨rfl, rfl, rfl, rfl, rfl, rfl, trivial⟩, ⟨hL22, (by omega), (upto_step hI hrk ⟨by omega, by omega, by omega⟩)⟩, ?_⟩
 show l.length - (k + 1) < l.length - k; omega
end Go.Proofs.YtifnodoffgfpbaaGreatDoor

namespace Go.Proofs.YtifnodoffgfpbaaGreatDoor
open Go

def head0 : HeadD := { id := 0, resp := false, op := 0, auth := false, cut := false, des := false, avail := false, authc := false, unch := false, code := 0 }
def lastM (m : MsgD) : MsgD := { head := head0, asks := [], one := [], two := [], three := m.three }
theorem last_fits {m : MsgD} (h : m.fits) : (lastM m).fits := ⟨Nat.zero_le _, (fun _ h => nomatch h), Nat.zero_le _, Nat.zero_le _, h.2.2.2.2.1, (fun _ h => nomatch h), (fun _ h => nomatch h), h.2.2.2.2.2.2.2⟩
theorem last_few {m : MsgD} (h : fewM m) : fewM (lastM m) := by
  obtain ⟨h1, h2, h3, h4, -⟩ := h
  refine ⟨?_, ?_, ?_, ?_, show head0.ok from ⟨by decide, by decide⟩⟩
  · show 0 + 0 + 0 + m.three.length ≤ 40; omega
  · intro l hl r hr
    simp only [lastM, List.mem_cons, List.not_mem_nil, or_false] at hl
    rcases hl with rfl | rfl | rfl
    · cases hr
    · cases hr
    · exact h2 _ (by simp) r hr
  · intro a ha; cases ha
  · intro l hl r hr
    simp only [lastM, List.mem_cons, List.not_mem_nil, or_false] at hl
    rcases hl with rfl | rfl | rfl
    · cases hr
    · cases hr
    · exact h4 _ (by simp) r hr

theorem c9 {w : World} {U : Nat → Prop} (hU : ∀ k, U k → k < w.heap.size) {m : MsgD} {va v1 v2 v3 : Value} (ha : LA AskEl lAsk U w va m.asks) (y1 : LA RecEl lRec U w v1 m.one) (y2 : LA RecEl lRec U w v2 m.two) (y3 : LA RecEl lRec U w v3 m.three) (hm : m.fits) (hG : GE w) (hsz : 21 ≤ w.heap.size) {Tz : TypeId} {xz : Option Addr} (hg0 : w.rangeAt 0 0 [.iface Tz (.pointer xz)]) (hCT : CmpT Tz) {sh : Bool}  :
  Ret PP 9 [ag (msgSegs m.head va v1 v2 v3), .bool sh] w (fun u w' => u = .bool true ∧ Fr0 w w') := by
 obtain ⟨aa, ca, rfl⟩ := ha.form
 obtain ⟨a1, c1, rfl⟩ := y1.form
 obtain ⟨a2, c2, rfl⟩ := y2.form
 obtain ⟨a3, c3, rfl⟩ := y3.form
 have hfl := hm.lists
 have hf : Fr (fun _ => False) w w := Fr.refl _ _
 refine ret_of Tryz.func9 rfl rfl rfl [(0, _), (1, _)] rfl ?_
 refine sreg (svK (xboxS (lens := lMsg) rfl rfl) ?_)
 rintro _ w2 ⟨b2, rfl, m3, h2, e1, s1⟩
 have ha := ha.keep ask_st (lU hU (by omega)) m3 nF
 have y1 := y1.keep rec_st (lU hU (by omega)) m3 nF
 have y2 := y2.keep rec_st (lU hU (by omega)) m3 nF
 have y3 := y3.keep rec_st (lU hU (by omega)) m3 nF
 refine sA rfl (send (fcg 1 2 rfl fun _ => wp_seq (sreg (sv (xldS (lens := lMsg) ro28 rfl h2.r) (sc (xcall ca12 rfl) (c12 (lU hU (by omega)) ha y1 y2 y3 hm) ?_)))))
 rintro _ w4 ⟨rfl, m5⟩
 have z6 := m5.size
 have h2 := h2.k m5
 have ha := ha.keep ask_st (lU hU (by omega)) m5 nF
 have y1 := y1.keep rec_st (lU hU (by omega)) m5 nF
 have y2 := y2.keep rec_st (lU hU (by omega)) m5 nF
 have y3 := y3.keep rec_st (lU hU (by omega)) m5 nF
 refine sv (xnot rfl) (send ((cno rfl (wp_skip (nThen (fcg 1 2 rfl fun _ => sreg (sv (xldS (lens := lMsg) ro28 rfl h2.r) (sc (xcall ca13 rfl) (c13 (U := U) (lU hU (by omega)) ha y1 y2 y3 hm.2.1 hfl.2 hfl.1 hm.1) ?_))))))))
 rintro _ w7 ⟨vc, vc1, vc2, vc3, rfl, ka, z1, z2, z3, m8⟩
 have z9 := m8.size
 obtain ⟨ac, cc, rfl⟩ := ka.form
 obtain ⟨ac1, cc1, rfl⟩ := z1.form
 obtain ⟨ac2, cc2, rfl⟩ := z2.form
 obtain ⟨ac3, cc3, rfl⟩ := z3.form
 refine svK (xallS (lens := lMsg) in34 rfl) ?_
 rintro _ w11 ⟨b5, rfl, m12, h5, e10, s10⟩
 refine suK (xstW h5 (lens' := lMsg) sz34 rfl rfl rfl rfl rfl) ?_
 rintro w14 ⟨m15, h5, s13⟩
 have ka := (ka.keep ask_st (lUb hU (by omega) (by omega)) m12 nF).keep ask_st (lUb hU (by omega) (by omega)) m15 (nUb hU (by omega) (by omega))
 have z1 := (z1.keep rec_st (lUb hU (by omega) (by omega)) m12 nF).keep rec_st (lUb hU (by omega) (by omega)) m15 (nUb hU (by omega) (by omega))
 have z2 := (z2.keep rec_st (lUb hU (by omega) (by omega)) m12 nF).keep rec_st (lUb hU (by omega) (by omega)) m15 (nUb hU (by omega) (by omega))
 have z3 := (z3.keep rec_st (lUb hU (by omega) (by omega)) m12 nF).keep rec_st (lUb hU (by omega) (by omega)) m15 (nUb hU (by omega) (by omega))
 refine send (fcg 1 5 rfl fun _ => wp_seq (sreg (sv (xldS (lens := lMsg) ro34 rfl h5.r) (sc (xcall ca14 rfl) (c14 (lUb hU (by omega) (by omega)) ka z1 z2 z3 hm.2.1 hfl.2 hfl.1 hm.1) ?_))))
 rintro _ w16 ⟨gb17, rfl, gp17, m17⟩
 have z18 := m17.size
 have hf := (((((hf.s m3).s m5).s m8).s m12).t m15 (by omega)).s m17
 rcases Bool.eq_false_or_eq_true gb17 with rfl | rfl
 rotate_left
 ·
  refine sv (xnot rfl) (sM rfl (gno rfl rfl rfl (gno rfl rfl rfl (gno rfl rfl rfl (sv (xpickT rfl rfl) (sM rfl (gno rfl rfl rfl (gno rfl rfl rfl (gno rfl rfl rfl (sv (xpickT rfl rfl) (send ((cyes rfl (sreg (sA rfl (send (fbg 4 rfl fun _ => wp_ret (rThen (rp1 rfl rfl ?_)))))))))))))))))))
  first | exact ⟨rfl, hf⟩ | exact ⟨by simp, hf⟩
 have hfew := gp17 rfl
 obtain ⟨hna, hpk, hcn, hho⟩ := few_pack hfew
 have hpm := packM_ge (some []) m
 have hpM := packM_le hfew
 have h5 := h5.k m17
 have ka := ka.keep ask_st (lUb hU (by omega) (by omega)) m17 nF
 have z1 := z1.keep rec_st (lUb hU (by omega) (by omega)) m17 nF
 have z2 := z2.keep rec_st (lUb hU (by omega) (by omega)) m17 nF
 have z3 := z3.keep rec_st (lUb hU (by omega) (by omega)) m17 nF
 refine sv (xnot rfl) (sM rfl (gyes rfl rfl rfl (sv (xldS (lens := lMsg) ro34 rfl h5.r) (gyes rfl rfl rfl (sc (xcall ca16 rfl) (c16 (lUb hU (by omega) (by omega)) ka z1 z2 z3 hfl.2 hfl.1) ?_)))))
 rintro _ w19 ⟨gb21, rfl, gp21, m20⟩
 have z21 := m20.size
 have hf := hf.s m20
 rcases Bool.eq_false_or_eq_true gb21 with rfl | rfl
 rotate_left
 ·
  refine gyes rfl rfl rfl (sv (xnot rfl) (sv (xpickF rfl rfl) (sM rfl (gno rfl rfl rfl (gno rfl rfl rfl (gno rfl rfl rfl (sv (xpickT rfl rfl) (send ((cyes rfl (sreg (sA rfl (send (fbg 4 rfl fun _ => wp_ret (rThen (rp1 rfl rfl ?_))))))))))))))))
  first | exact ⟨rfl, hf⟩ | exact ⟨by simp, hf⟩
 have hpl := gp21 rfl
 have hrok : ∀ l ∈ [m.one, m.two, m.three], ∀ r ∈ l, ReadOk r := fun l hl r hr => readOk_of (hpk l hl r hr) (hpl l hl r hr)
 have h5 := h5.k m20
 have ka := ka.keep ask_st (lUb hU (by omega) (by omega)) m20 nF
 have z1 := z1.keep rec_st (lUb hU (by omega) (by omega)) m20 nF
 have z2 := z2.keep rec_st (lUb hU (by omega) (by omega)) m20 nF
 have z3 := z3.keep rec_st (lUb hU (by omega) (by omega)) m20 nF
 refine gyes rfl rfl rfl (sv (xnot rfl) (sv (xpickF rfl rfl) (sM rfl (gyes rfl rfl rfl (sv (xldS (lens := lMsg) ro34 rfl h5.r) (gyes rfl rfl rfl (sc (xcall ca24 rfl) (c24 (lUb hU (by omega) (by omega)) ka z1 z2 z3 hm.2.1 hm.1 hfl.2 hfl.1) ?_)))))))
 rintro _ w22 ⟨gb26, rfl, gp26, m23⟩
 have z24 := m23.size
 have hf := hf.s m23
 rcases Bool.eq_false_or_eq_true gb26 with rfl | rfl
 rotate_left
 ·
  refine gyes rfl rfl rfl (sv (xnot rfl) (sv (xpickF rfl rfl) (send ((cyes rfl (sreg (sA rfl (send (fbg 4 rfl fun _ => wp_ret (rThen (rp1 rfl rfl ?_)))))))))))
  first | exact ⟨rfl, hf⟩ | exact ⟨by simp, hf⟩
 have hsh := shal_k (gp26 rfl)
 refine gyes rfl rfl rfl (sv (xnot rfl) (sv (xpickF rfl rfl) (send ((cno rfl (wp_skip (nThen (fcg 1 5 rfl fun _ => ?_))))))))
 have hmL := msgL_le hfew
 have h5 := h5.k m23
 have ka := ka.keep ask_st (lUb hU (by omega) (by omega)) m23 nF
 have z1 := z1.keep rec_st (lUb hU (by omega) (by omega)) m23 nF
 have z2 := z2.keep rec_st (lUb hU (by omega) (by omega)) m23 nF
 have z3 := z3.keep rec_st (lUb hU (by omega) (by omega)) m23 nF
 refine sreg (sv (xldS (lens := lMsg) ro34 rfl h5.r) (sc (xcall ca20 rfl) (c20f (lUb hU (by omega) (by omega)) hm hfew ka z1 z2 z3) ?_))
 rintro _ w25 ⟨p31, q31, g31, rfl, r31, m26, a31, l31⟩
 have z27 := m26.size
 have hG := ((((((((hG.k0 m3 (by omega)).k0 m5 (by omega)).k0 m8 (by omega)).k0 m12 (by omega)).k1 m15 (by omega) (by omega)).k0 m17 (by omega)).k0 m20 (by omega)).k0 m23 (by omega)).k0 m26 (by omega)
 have hg0 := rng_fr (rng_fr (rng_fr (rng_fr (rng_fr (rng_fr (rng_fr (rng_fr (rng_fr hg0 m3 (by omega) id) m5 (by omega) id) m8 (by omega) id) m12 (by omega) id) m15 (by omega) (nE (by omega))) m17 (by omega) id) m20 (by omega) id) m23 (by omega) id) m26 (by omega) id
 refine sM rfl (sc (xcall ca28 rfl) (c28 (U := fun k => k = g31) (b := msgL m) (n := (msgL m).length) (m := m) (Kp := fun k => k = 0) (fun k hk => by have hk : k = g31 := hk; omega) (by rw [List.take_length]; exact BR.ba r31 rfl) (Nat.le_refl _) (Nat.le_refl _) (by omega) hG (by omega) (msgL_at (few_names hfew).1 (few_names hfew).2 rfl) (fun k hk => ⟨by omega, .inr rfl⟩) hho (by omega) (by omega) (by omega) (by omega) hna (fun r hr => ⟨hrok m.one (by simp) r hr, asc_of (hpk m.one (by simp) r hr)⟩) (fun r hr => ⟨hrok m.two (by simp) r hr, asc_of (hpk m.two (by simp) r hr)⟩) (fun r hr => ⟨hrok m.three (by simp) r hr, asc_of (hpk m.three (by simp) r hr)⟩) hg0 hCT (fun r hr => back_of (hpk m.one (by simp) r hr) (hfl.2 m.one (by simp) r hr)) (fun r hr => back_of (hpk m.two (by simp) r hr) (hfl.2 m.two (by simp) r hr)) (fun r hr => back_of (hpk m.three (by simp) r hr) (hfl.2 m.three (by simp) r hr))) ?_)
 rintro _ w28 ⟨⟨l3p, u3p, rfl, jl3p, j3p⟩, m29⟩
 have z30 := m29.size
 obtain ⟨ad3p, cd3p, rfl⟩ := j3p.form
 obtain ⟨bf1p, bf2p, bf3p⟩ := back_fits (m := lastM m) (last_fits hm) (last_few hfew) All2.nil All2.nil jl3p
 have h5 := (h5.k m26).k m29
 have ka := (ka.keep ask_st (lUb hU (by omega) (by omega)) m26 nF).keep ask_st (lUb hU (by omega) (by omega)) m29 nF
 have z1 := (z1.keep rec_st (lUb hU (by omega) (by omega)) m26 nF).keep rec_st (lUb hU (by omega) (by omega)) m29 nF
 have z2 := (z2.keep rec_st (lUb hU (by omega) (by omega)) m26 nF).keep rec_st (lUb hU (by omega) (by omega)) m29 nF
 have z3 := (z3.keep rec_st (lUb hU (by omega) (by omega)) m26 nF).keep rec_st (lUb hU (by omega) (by omega)) m29 nF
 refine sM rfl (sE2 rfl (sA rfl (sA rfl (send (feg 1 5 6 7 rfl fun _ => sreg (sv (xldS (lens := lMsg) ro34 rfl h5.r) (sc (xcall ca25 rfl) (c25 (lUb hU (by omega) (by omega)) ka z1 z2 z3 hm hfew) ?_)))))))
 rintro _ w31 ⟨p38, q38, g38, rfl, r38, m32, a38, l38⟩
 have z33 := m32.size
 have hG := (hG.k0 m29 (by omega)).k0 m32 (by omega)
 have hg0 := rng_fr (rng_fr hg0 m29 (by omega) id) m32 (by omega) id
 refine sM rfl (sc (xcall ca28 rfl) (c28 (U := fun k => k = g38) (b := packM (some []) m) (n := (packM (some []) m).length) (m := m) (Kp := fun k => k ≤ 10) (fun k hk => by have hk : k = g38 := hk; omega) (by rw [List.take_length]; exact BR.ba r38 rfl) (Nat.le_refl _) (Nat.le_refl _) (by omega) hG (by omega) (packM_at (few_names hfew).1 (few_names hfew).2 hsh) (fun k hk => ⟨hk, .inr rfl⟩) hho (by omega) (by omega) (by omega) (by omega) hna (fun r hr => ⟨hrok m.one (by simp) r hr, asc_of (hpk m.one (by simp) r hr)⟩) (fun r hr => ⟨hrok m.two (by simp) r hr, asc_of (hpk m.two (by simp) r hr)⟩) (fun r hr => ⟨hrok m.three (by simp) r hr, asc_of (hpk m.three (by simp) r hr)⟩) hg0 hCT (fun r hr => back_of (hpk m.one (by simp) r hr) (hfl.2 m.one (by simp) r hr)) (fun r hr => back_of (hpk m.two (by simp) r hr) (hfl.2 m.two (by simp) r hr)) (fun r hr => back_of (hpk m.three (by simp) r hr) (hfl.2 m.three (by simp) r hr))) ?_)
 rintro _ w34 ⟨⟨l3q, u3q, rfl, jl3q, j3q⟩, m35⟩
 have z36 := m35.size
 obtain ⟨ad3q, cd3q, rfl⟩ := j3q.form
 obtain ⟨bf1q, bf2q, bf3q⟩ := back_fits (m := lastM m) (last_fits hm) (last_few hfew) All2.nil All2.nil jl3q
 have h5 := (h5.k m32).k m35
 have z3 := (z3.keep rec_st (lUb hU (by omega) (by omega)) m32 nF).keep rec_st (lUb hU (by omega) (by omega)) m35 nF
 refine sM rfl (sE2 rfl (sA rfl (sA rfl (send (ffg 5 6 7 8 9 rfl fun _ => sreg (sv (xfld fl34_4 rfl) (sv (xld on32 rfl (h5.r.c 13 rfl rfl)) (sv (xbuildS (msgSegs head0 (.slice none 0 0) (.slice none 0 0) (.slice none 0 0) (.slice ac3 m.three.length cc3)) zr34 ly34 rfl (by simp [fitAll, zs34, Value.cells]) rfl) (sc (xcall ca20 rfl) (c20f (m := lastM m) (lUb hU (by omega) (by omega)) (last_fits hm) (last_few hfew) LA.nil LA.nil LA.nil z3) ?_)))))))))
 rintro _ w37 ⟨p46, q46, g46, rfl, r46, m38, a46, l46⟩
 have z39 := m38.size
 have j3p := ((j3p.keep rec_st (lNo (by omega)) m32 nF).keep rec_st (lNo (by omega)) m35 nF).keep rec_st (lNo (by omega)) m38 nF
 refine sA rfl (send (ffg 6 7 8 9 10 rfl fun _ => sreg (sM rfl (sM rfl (gyes rfl rfl rfl (sM rfl (sv (xpickT rfl rfl) (sM rfl (gyes rfl rfl rfl (sM rfl (gyes rfl rfl rfl (sc (xcall ca29 rfl) (c29 (U := Ub NoU w25 w28) (fun k hk => by have hk := (show w25.heap.size ≤ k ∧ k < w28.heap.size from hk.elim (fun h => h.elim) id); omega) j3p (bf2p _ (by simp)) (fun r hr => (bf1p _ (by simp) r hr).1)) ?_))))))))))))
 rintro v53 w40 ⟨L53, m41⟩
 have z42 := m41.size
 obtain ⟨aq53, cq53, rfl⟩ := L53.form
 refine gyes rfl rfl rfl (sv (xbuildS (msgSegs head0 (.slice none 0 0) (.slice none 0 0) (.slice none 0 0) (.slice aq53 l3p.length cq53)) zr34 ly34 rfl (by simp [fitAll, zs34, Value.cells]) rfl) (gyes rfl rfl rfl (sc (xcall ca20 rfl) (c20b (m := lastM m) (fun k hk => by have hk := (show (w25.heap.size ≤ k ∧ k < w28.heap.size) ∨ _ from hk.imp_left (fun h => h.elim (fun h => h.elim) id)); omega) (last_fits hm) (last_few hfew) LA.nil LA.nil LA.nil L53 All2.nil All2.nil jl3p) ?_)))
 rintro _ w43 ⟨p55, q55, g55, rfl, r55, m44, a55, l55⟩
 have z45 := m44.size
 have r46 := (r46.k m41).k m44
 refine gyes rfl rfl rfl (sM rfl (gyes rfl rfl rfl (sc (xcall ca19 rfl) (c19_eq (BR.ba (U := fun k => k = g55) r55 rfl) (BR.ba (U := fun k => k = g46) r46 rfl)) ?_)))
 rintro _ w46 ⟨rfl, m47⟩
 have z48 := m47.size
 have j3q := (((j3q.keep rec_st (lNo (by omega)) m38 nF).keep rec_st (lNo (by omega)) m41 nF).keep rec_st (lNo (by omega)) m44 nF).keep rec_st (lNo (by omega)) m47 nF
 refine sv (xpickT rfl rfl) (sM rfl (gyes rfl rfl rfl (sM rfl (gyes rfl rfl rfl (sc (xcall ca29 rfl) (c29 (U := Ub NoU w31 w34) (fun k hk => by have hk := (show w31.heap.size ≤ k ∧ k < w34.heap.size from hk.elim (fun h => h.elim) id); omega) j3q (bf2q _ (by simp)) (fun r hr => (bf1q _ (by simp) r hr).1)) ?_)))))
 rintro v61 w49 ⟨L61, m50⟩
 have z51 := m50.size
 obtain ⟨aq61, cq61, rfl⟩ := L61.form
 refine gyes rfl rfl rfl (sv (xbuildS (msgSegs head0 (.slice none 0 0) (.slice none 0 0) (.slice none 0 0) (.slice aq61 l3q.length cq61)) zr34 ly34 rfl (by simp [fitAll, zs34, Value.cells]) rfl) (gyes rfl rfl rfl (sc (xcall ca20 rfl) (c20b (m := lastM m) (fun k hk => by have hk := (show (w31.heap.size ≤ k ∧ k < w34.heap.size) ∨ _ from hk.imp_left (fun h => h.elim (fun h => h.elim) id)); omega) (last_fits hm) (last_few hfew) LA.nil LA.nil LA.nil L61 All2.nil All2.nil jl3q) ?_)))
 rintro _ w52 ⟨p63, q63, g63, rfl, r63, m53, a63, l63⟩
 have z54 := m53.size
 have r46 := ((r46.k m47).k m50).k m53
 refine gyes rfl rfl rfl (sM rfl (gyes rfl rfl rfl (sc (xcall ca19 rfl) (c19_eq (BR.ba (U := fun k => k = g63) r63 rfl) (BR.ba (U := fun k => k = g46) r46 rfl)) ?_)))
 rintro _ w55 ⟨rfl, m56⟩
 have z57 := m56.size
 have hf := ((((((((((hf.s m26).s m29).s m32).s m35).s m38).s m41).s m44).s m47).s m50).s m53).s m56
 refine sv (xpickT rfl rfl) (sA rfl (send (fbg 4 rfl fun _ => wp_ret (rp1 rfl rfl ?_))))
 first | exact ⟨rfl, hf⟩ | exact ⟨by simp, hf⟩
end Go.Proofs.YtifnodoffgfpbaaGreatDoor

namespace Go.Proofs.YtifnodoffgfpbaaGreatDoor
open Go

theorem star_err : "*" ++ "errors.errorString" = "*errors.errorString" := by decide
theorem row332 (u : TypeId) (h : PP.typeName? 3 u = some "*errors.errorString") : u = 332 :=
  typeName_ptr_named (nm := "errors.errorString") (by rw [star_err]; kernel_rfl) (by kernel_rfl) (by decide) u (by rw [star_err]; exact h)
theorem cmp_332 : (match PP.underlying 332 with
    | some (.pointer e) => (PP.info? 332).any (·.comparable) && (PP.info? e).isSome
    | _ => false) = true := by kernel_rfl
theorem cmpT_332 : CmpT 332 := by
  have hr := cmp_332
  cases hu : PP.underlying 332 with
  | none => rw [hu] at hr; cases hr
  | some d =>
    rw [hu] at hr
    cases d with
    | pointer e =>
      simp only [Bool.and_eq_true] at hr
      obtain ⟨h1, h2⟩ := hr
      cases hi : PP.info? 332 with
      | none => rw [hi] at h1; simp at h1
      | some i =>
        rw [hi] at h1
        obtain ⟨j, hj⟩ := Option.isSome_iff_exists.1 h2
        exact ⟨by decide, e, i, j, hu, hi, by simpa using h1, hj⟩
    | _ => cases hr
theorem rng_one {w : World} {b : Nat} {v : Value} (h : w.cell? ⟨b, 0, none⟩ = some v) : w.rangeAt b 0 [v] := fun j u hu => by
  cases j with
  | zero => simp at hu; subst hu; exact h
  | succ j => simp at hu
end Go.Proofs.YtifnodoffgfpbaaGreatDoor

namespace Go.Proofs.YtifnodoffgfpbaaGreatDoor
open Go Go.ChangeShapes Go.WideShapes Go.RowKit

def secEnts : Array MapEntry := #[⟨.int .u8 1, .string ⟨#[104, 101, 97, 100, 101, 114]⟩, 0⟩, ⟨.int .u8 2, .string ⟨#[81, 117, 101, 115, 116, 105, 111, 110]⟩, 1⟩, ⟨.int .u8 3, .string ⟨#[65, 110, 115, 119, 101, 114]⟩, 2⟩,
  ⟨.int .u8 4, .string ⟨#[65, 117, 116, 104, 111, 114, 105, 116, 121]⟩, 3⟩, ⟨.int .u8 5, .string ⟨#[65, 100, 100, 105, 116, 105, 111, 110, 97, 108]⟩, 4⟩]
noncomputable def wmOf (l : List (String × DataW Unit)) (os : Os) : World :=
  let b := (World.holding PP os ⟨#[], #[], []⟩).layVars PP (l.take 11)
  { b with heap := (b.heap.push (.map secEnts 5)).modify 14 fun o => match o with
    | .cells _ t f => .cells #[.map (some b.heap.size)] t f
    | o => o }
theorem wmOf_os (l : List (String × DataW Unit)) (os : Os) : (wmOf l os).os = os := World.layVars_os _ _ _
theorem witness_at {H : Type} {enc : TypeId × Value → H} {os : Os} {f : FuncId} {fn : Func} {s : OpenSpec} {conds : List PathCond} {laid : List (String × DataW Unit)} (WB : World) (ho : WB.os = os) (args : Array Value)
    (hv : (WB.forCall (fun _ _ => 0) ⟨#[], args, []⟩).variablesZipB PP = true)
    (hr : ((WB.forCall (fun _ _ => 0) ⟨#[], args, []⟩).heap.toList.drop PP.globals.size).take ((begin PP (fun _ _ => 0) default).world.heap.size - PP.globals.size) =
      (begin PP (fun _ _ => 0) default).world.heap.toList.drop PP.globals.size)
    (hok : Input.okWideB PP (WB.forCall (fun _ _ => 0) ⟨#[], args, []⟩) f ⟨#[], args, []⟩ = true)
    (hrow : s.preRow enc PP fn conds false laid (WB.forCall (fun _ _ => 0) ⟨#[], args, []⟩).memory args) :
    ∃ (w : World) (tape : Tape) (i : Input), w.os = os ∧ (w.forCall tape i).Shaped PP ∧ i.vars = [] ∧ Input.okWide PP (w.forCall tape i) .any w.heap.size f i ∧
      s.preRow enc PP fn conds false laid (w.forCall tape i).memory i.args ∧ ({} : Assume).holds PP (lone (Frame.enter PP f i.args .normal) [] (w.forCall tape i)) :=
  ⟨WB, fun _ _ => 0, ⟨#[], args, []⟩, ho, World.shaped_of_ZipB hv hr, (Input.okWide_of_okWideB (base := 0) hok).1, (Input.okWide_of_okWideB hok).2, hrow, by
    simp only [Assume.holds]
    exact ⟨by simp, by simp, fun _ => Modest.zero, by simp, by simp⟩⟩
end Go.Proofs.YtifnodoffgfpbaaGreatDoor
