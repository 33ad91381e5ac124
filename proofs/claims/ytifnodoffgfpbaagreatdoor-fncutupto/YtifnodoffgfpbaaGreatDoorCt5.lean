/- Part 5 of the texts for a law of this seat: walks, and plain laws about messages; conditions: none. -/
import Derived.Test.YtifnodoffgfpbaaGreatDoorCt4
namespace Go.Proofs.YtifnodoffgfpbaaGreatDoor
open Go

def dataL (ps : List PairD) : List UInt8 := (ps.map (·.data)).flatten
theorem dataL_snoc {ps : List PairD} {k : Nat} {p : PairD} (h : ps[k]? = some p) : dataL (ps.take (k + 1)) = dataL (ps.take k) ++ p.data := by
  rw [dataL, take_snoc h, List.map_append, List.flatten_append]; simp [dataL]
theorem dataL_le (ps : List PairD) : (dataL ps).length + 4 * ps.length = (pairsL ps).length := by
  rw [pairsL_length, dataL, List.length_flatten, List.map_map]; simp [Function.comp_def]; omega
theorem dataL_split {ps : List PairD} {k : Nat} {p : PairD} (h : ps[k]? = some p) : dataL ps = dataL (ps.take k) ++ (p.data ++ dataL (ps.drop (k + 1))) := by
  have e : ps = ps.take k ++ (p :: ps.drop (k + 1)) := by
    have h1 : k < ps.length := (List.getElem?_eq_some_iff.1 h).1
    have h2 : ps[k] = p := (List.getElem?_eq_some_iff.1 h).2
    rw [← h2, List.getElem_cons_drop, List.take_append_drop]
  conv => lhs; rw [e]
  simp [dataL]
theorem one3 (x : Int) (S : List UInt8) (v : Value) (h : v.oneCell' = true) : ([[Value.int .u16 x], nm S, [v]].flatten.all (·.oneCell')) = true := by
  simp only [List.flatten_cons, List.flatten_nil, List.all_append, List.append_nil, nm_one, Bool.true_and, List.all_cons, List.all_nil, h]; rfl
/-- the first k parameters, as they are built: their values lie in one block -/
def PDone (bv : Nat) (ps : List PairD) (k : Nat) (ss : List (List (List Value))) : Prop :=
  ss.length = k ∧ ∀ (j : Nat) s p, ss[j]? = some s → ps[j]? = some p → ∃ o, s = pairSegs p (.slice (some ⟨bv, o, none⟩) p.data.length p.data.length) ∧ (p.data ≠ [] → o = (dataL (ps.take j)).length)
theorem PDone.nil (bv : Nat) (ps : List PairD) : PDone bv ps 0 [] := ⟨rfl, fun j s p h => by simp at h⟩
theorem PDone.snoc {bv k o : Nat} {ps : List PairD} {p : PairD} {ss : List (List (List Value))} (h : PDone bv ps k ss) (hp : ps[k]? = some p) (ho : p.data ≠ [] → o = (dataL (ps.take k)).length) :
    PDone bv ps (k + 1) (ss ++ [pairSegs p (.slice (some ⟨bv, o, none⟩) p.data.length p.data.length)]) := by
  refine ⟨by simp [h.1], fun j s q hs hq => ?_⟩
  by_cases hj : j < ss.length
  · rw [List.getElem?_append_left hj] at hs
    exact h.2 j s q hs hq
  · rw [List.getElem?_append_right (by omega)] at hs
    have hjk : j = k := by
      have := (List.getElem?_eq_some_iff.1 hs).1
      simp at this; have := h.1; omega
    subst hjk
    rw [h.1, Nat.sub_self] at hs
    simp only [List.getElem?_cons_zero, Option.some.injEq] at hs
    rw [hp] at hq
    simp only [Option.some.injEq] at hq
    subst hq
    exact ⟨o, hs.symm, ho⟩
theorem PDone.len {bv k : Nat} {ps : List PairD} {ss : List (List (List Value))} (h : PDone bv ps k ss) (hk : k ≤ ps.length) : ∀ s ∈ ss, s.map List.length = lPair := fun s hs => by
  obtain ⟨j, hj, rfl⟩ := List.mem_iff_getElem.1 hs
  have := h.1
  obtain ⟨o, e, -⟩ := h.2 j _ _ (List.getElem?_eq_getElem hj) (List.getElem?_eq_getElem (show j < ps.length by omega))
  rw [e]; rfl
/-- the row of parameters while it is filled -/
def PRow (w : World) (bp bv : Nat) (ps : List PairD) (k : Nat) : Prop :=
  ∃ ss T, PDone bv ps k ss ∧ w.heap[bp]? = some (.cells ((ss.map List.flatten).flatten ++ (List.replicate (ps.length - k) [Value.int .u16 0, .slice none 0 0]).flatten).toArray T (0, 0))
theorem PRow.keep {S : Nat → Prop} {w w' : World} {bp bv k : Nat} {ps : List PairD} (h : PRow w bp bv ps k) (m : Fr S w w') (hn : ¬ S bp) : PRow w' bp bv ps k := by
  obtain ⟨ss, T, h1, h2⟩ := h
  exact ⟨ss, T, h1, (m.block bp (Array.getElem?_eq_some_iff.1 h2).1 hn).trans h2⟩
theorem PRow.open {w : World} {bp bv k : Nat} {ps : List PairD} (h : PRow w bp bv ps k) (hk : k < ps.length) :
    ∃ ss T, PDone bv ps k ss ∧ (ss.map List.flatten).flatten.length = 0 + k * 2 ∧ SE w bp T (ss.map List.flatten).flatten lPair [[.int .u16 0], [.slice none 0 0]] (List.replicate (ps.length - (k + 1)) [Value.int .u16 0, .slice none 0 0]).flatten := by
  obtain ⟨ss, T, h1, h2⟩ := h
  refine ⟨ss, T, h1, ?_, ?_, rfl⟩
  · rw [flat_len (h1.len (by omega)), h1.1]; simp
  · rw [h2, show ps.length - k = (ps.length - (k + 1)) + 1 by omega, List.replicate_succ, List.flatten_cons]; rfl
theorem PRow.close {w : World} {bp bv k o T : Nat} {ps : List PairD} {p : PairD} {ss : List (List (List Value))} (h1 : PDone bv ps k ss) (hp : ps[k]? = some p) (ho : p.data ≠ [] → o = (dataL (ps.take k)).length)
    (h : SE w bp T (ss.map List.flatten).flatten lPair (pairSegs p (.slice (some ⟨bv, o, none⟩) p.data.length p.data.length)) (List.replicate (ps.length - (k + 1)) [Value.int .u16 0, .slice none 0 0]).flatten) : PRow w bp bv ps (k + 1) := by
  refine ⟨_, T, h1.snoc hp ho, ?_⟩
  rw [h.1]
  simp only [List.map_append, List.map_cons, List.map_nil, List.flatten_append, List.flatten_cons, List.flatten_nil, List.append_nil, List.append_assoc]
theorem PRow.new {w : World} {bp bv : Nat} {ps : List PairD} (h : Blk w bp (List.replicate ps.length [Value.int .u16 0, .slice none 0 0]).flatten) : PRow w bp bv ps 0 := by
  obtain ⟨T, h⟩ := h
  exact ⟨[], T, PDone.nil _ _, by simpa using h⟩
theorem PRow.la {U : Nat → Prop} {w : World} {bp bv c : Nat} {ps : List PairD} (h : PRow w bp bv ps ps.length) (hV : Blk w bv (bvs (dataL ps))) (hp : U bp) (hv : U bv) : LA PairEl lPair U w (.slice (some ⟨bp, 0, none⟩) ps.length c) ps := by
  obtain ⟨ss, T, h1, h2⟩ := h
  refine ⟨_, c, rfl, fun _ => ⟨bp, 0, rfl, hp, fun i x hx => ?_⟩⟩
  have hi : i < ps.length := (List.getElem?_eq_some_iff.1 hx).1
  have hil : i < ss.length := by rw [h1.1]; exact hi
  obtain ⟨o, e1, ho⟩ := h1.2 i _ x (List.getElem?_eq_getElem hil) hx
  have e : ss = ss.take i ++ (ss[i] :: ss.drop (i + 1)) := by rw [List.getElem_cons_drop, List.take_append_drop]
  have hpre : ((ss.take i).map List.flatten).flatten.length = 0 + i * lPair.sum := by
    rw [flat_len (fun s hs => h1.len (Nat.le_refl _) s (List.mem_of_mem_take hs)), List.length_take, Nat.min_eq_left (by omega)]; omega
  have hB : Blk w bp (((ss.take i).map List.flatten).flatten ++ (ss[i].flatten ++ (((ss.drop (i + 1)).map List.flatten).flatten ++ (List.replicate (ps.length - ps.length) [Value.int .u16 0, .slice none 0 0]).flatten))) := by
    refine ⟨T, ?_⟩
    rw [h2]
    conv => lhs; rw [e]
    simp only [List.map_append, List.map_cons, List.flatten_append, List.flatten_cons, List.append_assoc]
  refine ⟨ss[i], ⟨hB.mid hpre, by rw [e1]; rfl⟩, _, e1, ?_⟩
  refine ⟨_, _, rfl, fun hne => ⟨bv, o, rfl, hv, ?_⟩⟩
  rw [ho hne]
  rw [dataL_split hx, bvs_app, bvs_app] at hV
  exact hV.mid (by rw [bvs_length])
section
variable {P : Program} {n : Nat} {l : List (Nat × Value)} {w : World} {ty : TypeId} {x y : Operand}
theorem xcutLx {T E : TypeId} {sz b o m c lo : Nat} {k : IntKind} {i : Int} {p : Operand} (hT : slcB P T E = true) (hE : szB P E sz = true) (hx : ev n l x = some (.slice (some ⟨b, o, none⟩) m c))
    (hp : ev n l p = some (.int k i)) (hi' : i = (lo : Int)) (h1 : lo ≤ m) :
    ExK P n l (.slice T x (some p) none none) ty w (fun u w' => ∃ o', u = .slice (some ⟨b, o', none⟩) (m - lo) (c - lo) ∧ (lo < c → o' = o + lo * sz) ∧ (c = lo → o' = o) ∧ w' = w) := by
  subst hi'
  have hs := szB_spec hE
  cases hi' : P.info? E with
  | none => rw [hi'] at hs; cases hs
  | some u =>
    rw [hi'] at hs
    simp only [Option.map_some, Option.some.injEq] at hs
    refine ⟨.slice (some ⟨b, if c = lo then o else o + lo * sz, none⟩) (m - lo) (c - lo), w, fun r _ _ _ _ => ?_, _, rfl, fun h => if_neg (by omega), fun h => if_pos h, rfl⟩
    simp only [execOp, ev_eval r hx]
    simp [Instr.sliceAt, Instr.slice, run_underlying (slcB_spec hT), Instr.sliceBounds, ev_eval r hp, run_sb h1, sizeOf, typeInfo, hi', hs, addr_add]
    split <;> simp_all
end

set_option maxHeartbeats 4000000 in
set_option maxRecDepth 100000 in
theorem c204 {w : World} {a : Option Addr} {bm om km n : Nat} {b : List UInt8} (hms : n ≠ 0 → a = some ⟨bm, om, none⟩) (hm : w.rangeAt bm om (bvs (b.take n))) (hbm : bm < w.heap.size) (hnb : n ≤ b.length) (hkm : n ≤ km) (hbl : b.length < 100000000) (hG : GE w) (hsz : 21 ≤ w.heap.size) {K off e : Nat} {S : List UInt8} {ka : Nat} (la : ka < 65536) (hs : Std b off (be16 ka)) (hN : NameAt b K (off + 2) S e) (hS0 : nameL S) (hK : K ≤ 10) (hKn : K = 0 ∨ n = b.length) {ps : List PairD} {len : Nat} (hps : Std b e (pairsL ps)) (hasc : asc ps) (hlen : off + len = e + (pairsL ps).length) (hl16 : len < 65536) (hL : (pairsL ps).length < 65536) (hle : e + (pairsL ps).length ≤ b.length) :
  Ret PP 204 [.slice a n km, .int .i64 (off : Int), .int .u16 (len : Int)] w (fun u w' => ((e + (pairsL ps).length ≤ n ∧ ∃ v, u = .tuple #[ag [[.int .u16 (ka : Int)], nm S, [v]], .nilIface] ∧ LA PairEl lPair (Ub NoU w w') w' v ps) ∨ (n < e + (pairsL ps).length ∧ ∃ (T : TypeId) (x : Option Addr), u = .tuple #[ag [[.int .u16 0], nm [], [.slice none 0 0]], .iface T (.pointer x)])) ∧ Fr0 w w') := by
 have hNl := (show NameR b (off + 2) K (off + 2) (txt S) e from hN).le
 have hdl := dataL_le ps
 have hf : Fr (fun _ => False) w w := Fr.refl _ _
 refine ret_of Tryz.func204 rfl rfl rfl [(0, _), (1, _), (2, _)] rfl ?_
 refine sreg ?_
 refine svK (xallS (lens := [1, 256, 1]) in224 (by simp [nm_length])) ?_
 rintro _ w2 ⟨b6, rfl, m3, h6, e1, s1⟩
 have hm := rng_fr hm m3 (by omega) id
 have hG := hG.keep (fun k hk => by omega) m3 nF
 have hf := hf.step0 m3
 refine sA rfl (send (fg [(0, _), (1, _), (2, _), (6, _)] ⟨rfl, rfl, rfl, rfl, ⟨⟩⟩ fun _ => (sreg (sv (xbuildS [[.int .u16 0], nm [], [.slice none 0 0]] zr224 ly224 rfl trivial (by simp [setAll, zs224])) ?_))))
 refine svK (xallS (lens := [1, 256, 1]) in224 (by simp [nm_length])) ?_
 rintro _ w5 ⟨b8, rfl, m6, h8, e4, s4⟩
 have hm := rng_fr hm m6 (by omega) id
 have hG := hG.keep (fun k hk => by omega) m6 nF
 have hf := hf.step0 m6
 have h6 := h6.keep m6 id
 refine suK (xstW h8 (lens' := [1, 256, 1]) sz224 (by simp [nm_length]) rfl (by simp only [List.flatten_cons, List.flatten_nil, List.all_append, List.append_nil, nm_one, Bool.true_and] <;> rfl) rfl rfl) ?_
 rintro w8 ⟨m9, h8, s7⟩
 have hm := rng_fr hm m9 (by omega) (by show ¬ (bm = b8); omega)
 have hG := hG.keep (fun k hk => by omega) m9 (fun k hk hS => by have hk := hk; have hS : k = b8 := hS; omega)
 have hf := hf.step m9 (nB (by omega))
 have h6 := h6.keep m9 (by show ¬ (b6 = b8); omega)
 refine send (fg [(0, _), (1, _), (2, _), (6, _), (8, _)] ⟨rfl, rfl, rfl, rfl, rfl, ⟨⟩⟩ fun _ => (sreg (sM rfl (sA rfl (send (fg [(0, _), (1, _), (2, _), (6, _), (8, _), (9, _)] ⟨rfl, rfl, rfl, rfl, rfl, rfl, ⟨⟩⟩ fun _ => (sreg (sM rfl (sM rfl (sv (xconv hs22 ki3 rfl (w64 (by omega) (by omega))) (sv (xadd rfl rfl (w64n (e + (pairsL ps).length) (by omega) (by omega))) (sA rfl (send (fg [(0, _), (6, _), (8, _), (9, _), (10, _)] ⟨rfl, rfl, rfl, rfl, rfl, ⟨⟩⟩ fun _ => (sreg (sA rfl (send (fg [(0, _), (6, _), (8, _), (9, _), (10, _)] ⟨rfl, rfl, rfl, rfl, rfl, ⟨⟩⟩ fun _ => (wp_seq (sreg (sM rfl (sM rfl ?_))))))))))))))))))))))
 refine sc (xcall ca156 rfl) (c156 (b := b) (off := off) (x := ka) hms hm (by omega) hnb hkm hbl hG (by omega) la (hs) (by omega)) ?_
 rintro _ w10 ⟨⟨hle31, rfl⟩ | ⟨hgt31, T31, x31, rfl⟩, m11⟩
 ·
  have z12 := m11.size
  have hm := rng_fr hm m11 (by omega) id
  have hG := hG.keep (fun k hk => by omega) m11 nF
  have hf := hf.step0 m11
  have h6 := h6.keep m11 id
  have h8 := h8.keep m11 id
  refine sM rfl (sv (xex30 rfl) (sv (xex31 rfl) (sv (xex32 rfl) (sv (xfld fl224_0 rfl) ?_))))
  refine suK (xstF 0 sz22 h8 rfl rfl rfl rfl rfl) ?_
  rintro w14 ⟨m15, h8, s13⟩
  have hm := rng_fr hm m15 (by omega) (by show ¬ (bm = b8); omega)
  have hG := hG.keep (fun k hk => by omega) m15 (fun k hk hS => by have hk := hk; have hS : k = b8 := hS; omega)
  have hf := hf.step m15 (nB (by omega))
  have h6 := h6.keep m15 (by show ¬ (b6 = b8); omega)
  refine sA rfl (sA rfl (send (fg [(0, _), (6, _), (8, _), (9, _), (10, _), (11, _)] ⟨rfl, rfl, rfl, rfl, rfl, rfl, ⟨⟩⟩ fun _ => (sreg (sM rfl (sv (xneN if89 rfl) (send (fg [(0, _), (6, _), (8, _), (9, _), (10, _), (11, _), (37, _)] ⟨rfl, rfl, rfl, rfl, rfl, rfl, rfl, ⟨⟩⟩ fun _ => (cno rfl (wp_skip (nThen (fg [(0, _), (6, _), (8, _), (9, _), (10, _)] ⟨rfl, rfl, rfl, rfl, rfl, ⟨⟩⟩ fun _ => (wp_seq (sreg (sv (xfld fl224_1 rfl) (sM rfl (sM rfl ?_)))))))))))))))))
  refine sc (xcall ca105 rfl) (c105 (b := b) (bp := b8) (q := 1) (ip := 1) (K := K) (off := off + 2) (e := e) (S := S) hms hm (by omega) hnb hkm hbl hG (by omega) h8 (by omega) (by omega) rfl rfl hN hS0 hK hKn) ?_
  rintro _ w16 ⟨⟨hle47, rfl, h8⟩ | ⟨hgt47, ⟨T47, x47, rfl⟩, o47, h8⟩, m17⟩
  ·
   have z18 := m17.size
   have hm := rng_fr hm m17 (by omega) (by show ¬ (bm = b8); omega)
   have hG := hG.keep (fun k hk => by omega) m17 (fun k hk hS => by have hk := hk; have hS : k = b8 := hS; omega)
   have hf := hf.step m17 (nB (by omega))
   have h6 := h6.keep m17 (by show ¬ (b6 = b8); omega)
   have h8 : SB w16 b8 [1, 256, 1] ([[.int .u16 (ka : Int)], nm S, [.slice none 0 0]]) := h8
   refine sM rfl (sv (xex20 rfl) (sv (xex21 rfl) (sA rfl (sA rfl (send (fg [(0, _), (6, _), (8, _), (9, _), (10, _), (11, _)] ⟨rfl, rfl, rfl, rfl, rfl, rfl, ⟨⟩⟩ fun _ => (sreg (sM rfl (sv (xneN if89 rfl) (send (fg [(0, _), (6, _), (8, _), (9, _), (10, _), (11, _), (51, _)] ⟨rfl, rfl, rfl, rfl, rfl, rfl, rfl, ⟨⟩⟩ fun _ => (cno rfl (wp_skip (nThen (fg [(0, _), (6, _), (8, _), (9, _), (10, _)] ⟨rfl, rfl, rfl, rfl, rfl, ⟨⟩⟩ fun _ => (sreg (sA rfl (send (fg [(0, _), (6, _), (8, _), (9, _), (10, _), (12, _)] ⟨rfl, rfl, rfl, rfl, rfl, rfl, ⟨⟩⟩ fun _ => (sreg (sA rfl (send (fg [(0, _), (6, _), (8, _), (9, _), (10, _), (12, _), (13, _)] ⟨rfl, rfl, rfl, rfl, rfl, rfl, rfl, ⟨⟩⟩ fun _ => (sreg ?_))))))))))))))))))))))))
   refine sM rfl (sA rfl (send (fg [(0, _), (1, _), (6, _), (8, _), (9, _), (10, _), (12, _), (13, _)] ⟨rfl, rfl, rfl, rfl, rfl, rfl, rfl, rfl, ⟨⟩⟩ fun _ => (sreg (sA rfl (send (fg [(0, _), (1, _), (6, _), (8, _), (9, _), (10, _), (12, _), (13, _), (14, _)] ⟨rfl, rfl, rfl, rfl, rfl, rfl, rfl, rfl, rfl, ⟨⟩⟩ fun _ => (wp_seq (wp_block ?_)))))))))
   refine lp [(0, _), (6, _), (8, _), (9, _), (10, _), (14, _)] (fun (k : Nat) => [(1, .int .i64 ((e + (pairsL (ps.take k)).length : Nat) : Int)), (12, .int .i64 (k : Int)), (13, .int .u16 ((dataL (ps.take k)).length : Int))]) (fun (k : Nat) wx => Fr (fun k => k = b6) w16 wx ∧ (k ≤ ps.length) ∧ (SB wx b6 [1, 256, 1] [[.int .u16 0], nm [], [.slice none 0 0]])) (fun (k : Nat) => ps.length - k) 0 ⟨rfl, rfl, rfl, rfl, rfl, rfl, rfl, rfl, rfl, trivial⟩ ⟨Fr.refl _ _, Nat.zero_le _, h6⟩ ?_
   rintro k _ w20 ⟨hL19, hk, h6⟩
   refine fg [(0, _), (1, _), (6, _), (8, _), (9, _), (10, _), (12, _), (13, _), (14, _)] ⟨rfl, rfl, rfl, rfl, rfl, rfl, rfl, rfl, rfl, ⟨⟩⟩ fun _ => ?_
   have z21 := hL19.size
   have hm := rng_fr hm hL19 (by omega) (by show ¬ (bm = b6); omega)
   have hG := hG.keep (fun k hk => by omega) hL19 (fun k hk hS => by have hk := hk; have hS : k = b6 := hS; omega)
   have hf := hf.step hL19 (nB (by omega))
   have h8 := h8.keep hL19 (by show ¬ (b8 = b6); omega)
   have hdk := dataL_le (ps.take k)
   refine wp_seq (sreg (sM rfl (sM rfl ?_)))
   refine svP (xlss rfl rfl) (fun hc60 => ?_) (fun hc60 => ?_)
   ·
    refine send (fg [(0, _), (1, _), (6, _), (8, _), (9, _), (10, _), (12, _), (13, _), (14, _), (60, _)] ⟨rfl, rfl, rfl, rfl, rfl, rfl, rfl, rfl, rfl, rfl, ⟨⟩⟩ fun _ => (cyes rfl (wp_skip (nThen (fg [(0, _), (1, _), (6, _), (8, _), (9, _), (10, _), (12, _), (13, _), (14, _)] ⟨rfl, rfl, rfl, rfl, rfl, rfl, rfl, rfl, rfl, ⟨⟩⟩ fun _ => (wp_block ?_))))))
    have hkl : k < ps.length := by rcases Nat.lt_or_ge k ps.length with h | h; exact h; rw [List.take_of_length_le h] at hc60; omega
    obtain ⟨p, hpk⟩ := some_of_lt hkl
    have hpt := pairs_at hps hpk
    have hptl := pairs_take_lt hpk
    have hpk16 := u16lt p.key
    have hps1 : (pairsL (ps.take (k + 1))).length = (pairsL (ps.take k)).length + 4 + p.data.length := by rw [pairs_snoc hpk]; simp only [pairL, List.length_append, be16_length]; omega
    have hds1 : (dataL (ps.take (k + 1))).length = (dataL (ps.take k)).length + p.data.length := by rw [dataL_snoc hpk, List.length_append]
    have hdl1 := dataL_le (ps.take (k + 1))
    have hdsp := congrArg List.length (dataL_split hpk)
    simp only [List.length_append] at hdsp
    simp only [pairL] at hpt
    have hdd : Std b (e + (pairsL (ps.take k)).length + 2 + 2) p.data := (hpt.right' rfl).right' rfl
    refine sreg (sA rfl (sA rfl (send (fg [(0, _), (1, _), (6, _), (8, _), (9, _), (10, _), (12, _), (13, _), (14, _)] ⟨rfl, rfl, rfl, rfl, rfl, rfl, rfl, rfl, rfl, ⟨⟩⟩ fun _ => (wp_seq (sreg (sM rfl (sM rfl ?_))))))))
    refine sc (xcall ca156 rfl) (c156 (b := b) (off := e + (pairsL (ps.take k)).length) (x := p.key.toNat) hms hm (by omega) hnb hkm hbl hG (by omega) hpk16 (hpt.left) (by omega)) ?_
    rintro _ w22 ⟨⟨hle64, rfl⟩ | ⟨hgt64, T64, x64, rfl⟩, m23⟩
    ·
     have z24 := m23.size
     have hm := rng_fr hm m23 (by omega) id
     have hG := hG.keep (fun k hk => by omega) m23 nF
     have hf := hf.step0 m23
     have h8 := h8.keep m23 id
     have h6 := h6.keep m23 id
     have hL19 := hL19.step0 m23
     refine sM rfl (sv (xex30 rfl) (sv (xex31 rfl) (sv (xex32 rfl) (sA rfl (sA rfl (sA rfl (send (fg [(0, _), (1, _), (6, _), (8, _), (9, _), (10, _), (11, _), (12, _), (13, _), (14, _), (15, _)] ⟨rfl, rfl, rfl, rfl, rfl, rfl, rfl, rfl, rfl, rfl, rfl, ⟨⟩⟩ fun _ => (sreg (sM rfl (sv (xneN if89 rfl) (send (fg [(0, _), (1, _), (6, _), (8, _), (9, _), (10, _), (11, _), (12, _), (13, _), (14, _), (15, _), (69, _)] ⟨rfl, rfl, rfl, rfl, rfl, rfl, rfl, rfl, rfl, rfl, rfl, rfl, ⟨⟩⟩ fun _ => (cno rfl (wp_skip (nThen (fg [(0, _), (1, _), (6, _), (8, _), (9, _), (10, _), (12, _), (13, _), (14, _), (15, _)] ⟨rfl, rfl, rfl, rfl, rfl, rfl, rfl, rfl, rfl, rfl, ⟨⟩⟩ fun _ => (wp_seq (sreg (sM rfl ?_))))))))))))))))))))
     refine svP (xgtr rfl rfl) (fun hc76 => ?_) (fun hc76 => ?_)
     ·
      refine sM rfl (gyes rfl rfl rfl (sM rfl (gyes rfl rfl rfl (sM rfl (gyes rfl rfl rfl (sv (exF (xleq rfl rfl) (by have := asc_pos hasc hpk (by omega); omega)) (sv (xpickT rfl rfl) (send (fg [(0, _), (1, _), (6, _), (8, _), (9, _), (10, _), (12, _), (13, _), (14, _), (81, _)] ⟨rfl, rfl, rfl, rfl, rfl, rfl, rfl, rfl, rfl, rfl, ⟨⟩⟩ fun _ => (cno rfl (wp_skip (nThen (fg [(0, _), (1, _), (6, _), (8, _), (9, _), (10, _), (12, _), (13, _), (14, _)] ⟨rfl, rfl, rfl, rfl, rfl, rfl, rfl, rfl, rfl, ⟨⟩⟩ fun _ => (wp_seq (sreg (sM rfl (sM rfl ?_)))))))))))))))))
      refine sc (xcall ca156 rfl) (c156 (b := b) (off := e + (pairsL (ps.take k)).length + 2) (x := p.data.length) hms hm (by omega) hnb hkm hbl hG (by omega) (by omega) ((hpt.right' rfl).left) (by omega)) ?_
      rintro _ w25 ⟨⟨hle90, rfl⟩ | ⟨hgt90, T90, x90, rfl⟩, m26⟩
      ·
       have z27 := m26.size
       have hm := rng_fr hm m26 (by omega) id
       have hG := hG.keep (fun k hk => by omega) m26 nF
       have hf := hf.step0 m26
       have h8 := h8.keep m26 id
       have h6 := h6.keep m26 id
       have hL19 := hL19.step0 m26
       refine sM rfl (sv (xex30 rfl) (sv (xex31 rfl) (sv (xex32 rfl) (sA rfl (sA rfl (sA rfl (send (fg [(0, _), (1, _), (6, _), (8, _), (9, _), (10, _), (11, _), (12, _), (13, _), (14, _), (16, _)] ⟨rfl, rfl, rfl, rfl, rfl, rfl, rfl, rfl, rfl, rfl, rfl, ⟨⟩⟩ fun _ => (sreg (sM rfl (sv (xneN if89 rfl) (send (fg [(0, _), (1, _), (6, _), (8, _), (9, _), (10, _), (11, _), (12, _), (13, _), (14, _), (16, _), (95, _)] ⟨rfl, rfl, rfl, rfl, rfl, rfl, rfl, rfl, rfl, rfl, rfl, rfl, ⟨⟩⟩ fun _ => (cno rfl (wp_skip (nThen (fg [(0, _), (1, _), (6, _), (8, _), (9, _), (10, _), (12, _), (13, _), (14, _), (16, _)] ⟨rfl, rfl, rfl, rfl, rfl, rfl, rfl, rfl, rfl, rfl, ⟨⟩⟩ fun _ => (wp_seq (sreg (sM rfl (sM rfl (sv (xconv hs22 ki3 rfl (w64 (by omega) (by omega))) (sv (xadd rfl rfl (w64n (e + (pairsL (ps.take (k + 1))).length) (by omega) (by omega))) (sM rfl ?_))))))))))))))))))))))))
       refine sv (exF (xgtr rfl rfl) (by omega)) (send (fg [(0, _), (1, _), (6, _), (8, _), (9, _), (10, _), (12, _), (13, _), (14, _), (16, _), (106, _)] ⟨rfl, rfl, rfl, rfl, rfl, rfl, rfl, rfl, rfl, rfl, rfl, ⟨⟩⟩ fun _ => (cno rfl (wp_skip (nThen (fg [(0, _), (1, _), (6, _), (8, _), (9, _), (10, _), (12, _), (13, _), (14, _), (16, _)] ⟨rfl, rfl, rfl, rfl, rfl, rfl, rfl, rfl, rfl, rfl, ⟨⟩⟩ fun _ => (sreg (sM rfl (sM rfl (sv (xadd rfl rfl (wu16c (dataL (ps.take (k + 1))).length (by omega) (by omega))) (sA rfl (send (fg [(0, _), (1, _), (6, _), (8, _), (9, _), (10, _), (12, _), (13, _), (14, _), (16, _)] ⟨rfl, rfl, rfl, rfl, rfl, rfl, rfl, rfl, rfl, rfl, ⟨⟩⟩ fun _ => (sreg (sM rfl (sM rfl (sv (xconv hs22 ki3 rfl (w64 (by omega) (by omega))) (sv (xadd rfl rfl (w64n (e + (pairsL (ps.take (k + 1))).length) (by omega) (by omega))) (sA rfl (send (fg [(0, _), (1, _), (6, _), (8, _), (9, _), (10, _), (12, _), (13, _), (14, _)] ⟨rfl, rfl, rfl, rfl, rfl, rfl, rfl, rfl, rfl, ⟨⟩⟩ fun _ => (lreg (sM rfl (sv (xadd rfl rfl (w64n (k + 1) (by omega) (by omega))) ?_))))))))))))))))))))))))
       refine sA rfl (lend (nBlock (nThen ?_)))
       refine ⟨k + 1, _, env_okl ⟨rfl, rfl, rfl, rfl, rfl, rfl, rfl, rfl, rfl, trivial⟩, ⟨hL19, (by omega), (h6)⟩, ?_⟩
       show ps.length - (k + 1) < ps.length - k; omega
      ·
       have z28 := m26.size
       have hm := rng_fr hm m26 (by omega) id
       have hG := hG.keep (fun k hk => by omega) m26 nF
       have hf := hf.step0 m26
       have h8 := h8.keep m26 id
       have h6 := h6.keep m26 id
       have hL19 := hL19.step0 m26
       refine sM rfl (sv (xex30 rfl) (sv (xex31 rfl) (sv (xex32 rfl) (sA rfl (sA rfl (sA rfl (send (fg [(0, _), (1, _), (6, _), (8, _), (9, _), (10, _), (11, _), (12, _), (13, _), (14, _), (16, _)] ⟨rfl, rfl, rfl, rfl, rfl, rfl, rfl, rfl, rfl, rfl, rfl, ⟨⟩⟩ fun _ => (sreg (sM rfl (sv (xneI if89 rfl) (send (fg [(0, _), (1, _), (6, _), (8, _), (9, _), (10, _), (11, _), (12, _), (13, _), (14, _), (16, _), (95, _)] ⟨rfl, rfl, rfl, rfl, rfl, rfl, rfl, rfl, rfl, rfl, rfl, rfl, ⟨⟩⟩ fun _ => (cyes rfl (sreg (sv (xbuildS [[.int .u16 0], nm [], [.slice none 0 0]] zr224 ly224 rfl trivial (by simp [setAll, zs224])) (sM rfl (sv (xbuildS [[_], [_]] zr168 ly168 rfl (by simp [fitAll, zs168, Value.cells]) rfl) ?_))))))))))))))))))
       refine svK (xboxS (lens := [1, 1]) rfl (by simp [])) ?_
       rintro _ w30 ⟨b99, rfl, m31, h99, e29, s29⟩
       have hm := rng_fr hm m31 (by omega) id
       have hG := hG.keep (fun k hk => by omega) m31 nF
       have hf := hf.step0 m31
       have h8 := h8.keep m31 id
       have h6 := h6.keep m31 id
       have hL19 := hL19.step0 m31
       refine sv (xmkif ni166 rfl) ?_
       refine suK (xstW h6 (lens' := [1, 256, 1]) sz224 (by simp [nm_length]) rfl (by simp only [List.flatten_cons, List.flatten_nil, List.all_append, List.append_nil, nm_one, Bool.true_and] <;> rfl) rfl rfl) ?_
       rintro w33 ⟨m34, h6, s32⟩
       have hm := rng_fr hm m34 (by omega) (by show ¬ (bm = b6); omega)
       have hG := hG.keep (fun k hk => by omega) m34 (fun k hk hS => by have hk := hk; have hS : k = b6 := hS; omega)
       have hf := hf.step m34 (nB (by omega))
       have h8 := h8.keep m34 (by show ¬ (b8 = b6); omega)
       have hL19 := hL19.step m34 (fun k hk hS => by have hS : k = b6 := hS; show k = b6; omega)
       refine sA rfl (send (fg [(6, _), (7, _)] ⟨rfl, rfl, ⟨⟩⟩ fun _ => (wp_ret (rThen (rBlock (rThen (rBlock (rThen ?_))))))))
       refine rp2 rfl ⟨_, rfl, ldS (lens := [1, 256, 1]) ro224 h6.r⟩ rfl ?_
       exact ⟨.inr ⟨by omega, _, _, rfl⟩, hf⟩
     ·
      refine sM rfl (gno rfl rfl rfl (gno rfl rfl rfl (gno rfl rfl rfl (sv (xpickF rfl rfl) (send (fg [(0, _), (1, _), (6, _), (8, _), (9, _), (10, _), (12, _), (13, _), (14, _), (81, _)] ⟨rfl, rfl, rfl, rfl, rfl, rfl, rfl, rfl, rfl, rfl, ⟨⟩⟩ fun _ => (cno rfl (wp_skip (nThen (fg [(0, _), (1, _), (6, _), (8, _), (9, _), (10, _), (12, _), (13, _), (14, _)] ⟨rfl, rfl, rfl, rfl, rfl, rfl, rfl, rfl, rfl, ⟨⟩⟩ fun _ => (wp_seq (sreg (sM rfl (sM rfl ?_))))))))))))))
      refine sc (xcall ca156 rfl) (c156 (b := b) (off := e + (pairsL (ps.take k)).length + 2) (x := p.data.length) hms hm (by omega) hnb hkm hbl hG (by omega) (by omega) ((hpt.right' rfl).left) (by omega)) ?_
      rintro _ w35 ⟨⟨hle90, rfl⟩ | ⟨hgt90, T90, x90, rfl⟩, m36⟩
      ·
       have z37 := m36.size
       have hm := rng_fr hm m36 (by omega) id
       have hG := hG.keep (fun k hk => by omega) m36 nF
       have hf := hf.step0 m36
       have h8 := h8.keep m36 id
       have h6 := h6.keep m36 id
       have hL19 := hL19.step0 m36
       refine sM rfl (sv (xex30 rfl) (sv (xex31 rfl) (sv (xex32 rfl) (sA rfl (sA rfl (sA rfl (send (fg [(0, _), (1, _), (6, _), (8, _), (9, _), (10, _), (11, _), (12, _), (13, _), (14, _), (16, _)] ⟨rfl, rfl, rfl, rfl, rfl, rfl, rfl, rfl, rfl, rfl, rfl, ⟨⟩⟩ fun _ => (sreg (sM rfl (sv (xneN if89 rfl) (send (fg [(0, _), (1, _), (6, _), (8, _), (9, _), (10, _), (11, _), (12, _), (13, _), (14, _), (16, _), (95, _)] ⟨rfl, rfl, rfl, rfl, rfl, rfl, rfl, rfl, rfl, rfl, rfl, rfl, ⟨⟩⟩ fun _ => (cno rfl (wp_skip (nThen (fg [(0, _), (1, _), (6, _), (8, _), (9, _), (10, _), (12, _), (13, _), (14, _), (16, _)] ⟨rfl, rfl, rfl, rfl, rfl, rfl, rfl, rfl, rfl, rfl, ⟨⟩⟩ fun _ => (wp_seq (sreg (sM rfl (sM rfl (sv (xconv hs22 ki3 rfl (w64 (by omega) (by omega))) (sv (xadd rfl rfl (w64n (e + (pairsL (ps.take (k + 1))).length) (by omega) (by omega))) (sM rfl ?_))))))))))))))))))))))))
       refine sv (exF (xgtr rfl rfl) (by omega)) (send (fg [(0, _), (1, _), (6, _), (8, _), (9, _), (10, _), (12, _), (13, _), (14, _), (16, _), (106, _)] ⟨rfl, rfl, rfl, rfl, rfl, rfl, rfl, rfl, rfl, rfl, rfl, ⟨⟩⟩ fun _ => (cno rfl (wp_skip (nThen (fg [(0, _), (1, _), (6, _), (8, _), (9, _), (10, _), (12, _), (13, _), (14, _), (16, _)] ⟨rfl, rfl, rfl, rfl, rfl, rfl, rfl, rfl, rfl, rfl, ⟨⟩⟩ fun _ => (sreg (sM rfl (sM rfl (sv (xadd rfl rfl (wu16c (dataL (ps.take (k + 1))).length (by omega) (by omega))) (sA rfl (send (fg [(0, _), (1, _), (6, _), (8, _), (9, _), (10, _), (12, _), (13, _), (14, _), (16, _)] ⟨rfl, rfl, rfl, rfl, rfl, rfl, rfl, rfl, rfl, rfl, ⟨⟩⟩ fun _ => (sreg (sM rfl (sM rfl (sv (xconv hs22 ki3 rfl (w64 (by omega) (by omega))) (sv (xadd rfl rfl (w64n (e + (pairsL (ps.take (k + 1))).length) (by omega) (by omega))) (sA rfl (send (fg [(0, _), (1, _), (6, _), (8, _), (9, _), (10, _), (12, _), (13, _), (14, _)] ⟨rfl, rfl, rfl, rfl, rfl, rfl, rfl, rfl, rfl, ⟨⟩⟩ fun _ => (lreg (sM rfl (sv (xadd rfl rfl (w64n (k + 1) (by omega) (by omega))) ?_))))))))))))))))))))))))
       refine sA rfl (lend (nBlock (nThen ?_)))
       refine ⟨k + 1, _, env_okl ⟨rfl, rfl, rfl, rfl, rfl, rfl, rfl, rfl, rfl, trivial⟩, ⟨hL19, (by omega), (h6)⟩, ?_⟩
       show ps.length - (k + 1) < ps.length - k; omega
      ·
       have z38 := m36.size
       have hm := rng_fr hm m36 (by omega) id
       have hG := hG.keep (fun k hk => by omega) m36 nF
       have hf := hf.step0 m36
       have h8 := h8.keep m36 id
       have h6 := h6.keep m36 id
       refine sM rfl (sv (xex30 rfl) (sv (xex31 rfl) (sv (xex32 rfl) (sA rfl (sA rfl (sA rfl (send (fg [(0, _), (1, _), (6, _), (8, _), (9, _), (10, _), (11, _), (12, _), (13, _), (14, _), (16, _)] ⟨rfl, rfl, rfl, rfl, rfl, rfl, rfl, rfl, rfl, rfl, rfl, ⟨⟩⟩ fun _ => (sreg (sM rfl (sv (xneI if89 rfl) (send (fg [(0, _), (1, _), (6, _), (8, _), (9, _), (10, _), (11, _), (12, _), (13, _), (14, _), (16, _), (95, _)] ⟨rfl, rfl, rfl, rfl, rfl, rfl, rfl, rfl, rfl, rfl, rfl, rfl, ⟨⟩⟩ fun _ => (cyes rfl (sreg (sv (xbuildS [[.int .u16 0], nm [], [.slice none 0 0]] zr224 ly224 rfl trivial (by simp [setAll, zs224])) (sM rfl (sv (xbuildS [[_], [_]] zr168 ly168 rfl (by simp [fitAll, zs168, Value.cells]) rfl) ?_))))))))))))))))))
       refine svK (xboxS (lens := [1, 1]) rfl (by simp [])) ?_
       rintro _ w40 ⟨b99, rfl, m41, h99, e39, s39⟩
       have hm := rng_fr hm m41 (by omega) id
       have hG := hG.keep (fun k hk => by omega) m41 nF
       have hf := hf.step0 m41
       have h8 := h8.keep m41 id
       have h6 := h6.keep m41 id
       refine sv (xmkif ni166 rfl) ?_
       refine suK (xstW h6 (lens' := [1, 256, 1]) sz224 (by simp [nm_length]) rfl (by simp only [List.flatten_cons, List.flatten_nil, List.all_append, List.append_nil, nm_one, Bool.true_and] <;> rfl) rfl rfl) ?_
       rintro w43 ⟨m44, h6, s42⟩
       have hm := rng_fr hm m44 (by omega) (by show ¬ (bm = b6); omega)
       have hG := hG.keep (fun k hk => by omega) m44 (fun k hk hS => by have hk := hk; have hS : k = b6 := hS; omega)
       have hf := hf.step m44 (nB (by omega))
       have h8 := h8.keep m44 (by show ¬ (b8 = b6); omega)
       refine sA rfl (send (fg [(6, _), (7, _)] ⟨rfl, rfl, ⟨⟩⟩ fun _ => (wp_ret (rThen (rBlock (rThen (rBlock (rThen ?_))))))))
       refine rp2 rfl ⟨_, rfl, ldS (lens := [1, 256, 1]) ro224 h6.r⟩ rfl ?_
       exact ⟨.inr ⟨by omega, _, _, rfl⟩, hf⟩
    ·
     have z45 := m23.size
     have hm := rng_fr hm m23 (by omega) id
     have hG := hG.keep (fun k hk => by omega) m23 nF
     have hf := hf.step0 m23
     have h8 := h8.keep m23 id
     have h6 := h6.keep m23 id
     refine sM rfl (sv (xex30 rfl) (sv (xex31 rfl) (sv (xex32 rfl) (sA rfl (sA rfl (sA rfl (send (fg [(0, _), (1, _), (6, _), (8, _), (9, _), (10, _), (11, _), (12, _), (13, _), (14, _), (15, _)] ⟨rfl, rfl, rfl, rfl, rfl, rfl, rfl, rfl, rfl, rfl, rfl, ⟨⟩⟩ fun _ => (sreg (sM rfl (sv (xneI if89 rfl) (send (fg [(0, _), (1, _), (6, _), (8, _), (9, _), (10, _), (11, _), (12, _), (13, _), (14, _), (15, _), (69, _)] ⟨rfl, rfl, rfl, rfl, rfl, rfl, rfl, rfl, rfl, rfl, rfl, rfl, ⟨⟩⟩ fun _ => (cyes rfl (sreg (sv (xbuildS [[.int .u16 0], nm [], [.slice none 0 0]] zr224 ly224 rfl trivial (by simp [setAll, zs224])) (sM rfl (sv (xbuildS [[_], [_]] zr168 ly168 rfl (by simp [fitAll, zs168, Value.cells]) rfl) ?_))))))))))))))))))
     refine svK (xboxS (lens := [1, 1]) rfl (by simp [])) ?_
     rintro _ w47 ⟨b73, rfl, m48, h73, e46, s46⟩
     have hm := rng_fr hm m48 (by omega) id
     have hG := hG.keep (fun k hk => by omega) m48 nF
     have hf := hf.step0 m48
     have h8 := h8.keep m48 id
     have h6 := h6.keep m48 id
     refine sv (xmkif ni166 rfl) ?_
     refine suK (xstW h6 (lens' := [1, 256, 1]) sz224 (by simp [nm_length]) rfl (by simp only [List.flatten_cons, List.flatten_nil, List.all_append, List.append_nil, nm_one, Bool.true_and] <;> rfl) rfl rfl) ?_
     rintro w50 ⟨m51, h6, s49⟩
     have hm := rng_fr hm m51 (by omega) (by show ¬ (bm = b6); omega)
     have hG := hG.keep (fun k hk => by omega) m51 (fun k hk hS => by have hk := hk; have hS : k = b6 := hS; omega)
     have hf := hf.step m51 (nB (by omega))
     have h8 := h8.keep m51 (by show ¬ (b8 = b6); omega)
     refine sA rfl (send (fg [(6, _), (7, _)] ⟨rfl, rfl, ⟨⟩⟩ fun _ => (wp_ret (rThen (rBlock (rThen (rBlock (rThen ?_))))))))
     refine rp2 rfl ⟨_, rfl, ldS (lens := [1, 256, 1]) ro224 h6.r⟩ rfl ?_
     exact ⟨.inr ⟨by omega, _, _, rfl⟩, hf⟩
   ·
    refine send (fg [(0, _), (1, _), (6, _), (8, _), (9, _), (10, _), (12, _), (13, _), (14, _), (60, _)] ⟨rfl, rfl, rfl, rfl, rfl, rfl, rfl, rfl, rfl, rfl, ⟨⟩⟩ fun _ => (cno rfl (wp_exit (eThen (eThen (eHit (nThen (fg [(0, _), (1, _), (6, _), (8, _), (9, _), (10, _), (12, _), (13, _)] ⟨rfl, rfl, rfl, rfl, rfl, rfl, rfl, rfl, ⟨⟩⟩ fun _ => (wp_seq (sreg (sM rfl (sM rfl (sv (exF (xneq rfl rfl) (by have := pairs_take_le ps k; omega)) (send (fg [(0, _), (6, _), (8, _), (9, _), (12, _), (13, _), (120, _)] ⟨rfl, rfl, rfl, rfl, rfl, rfl, rfl, ⟨⟩⟩ fun _ => (cno rfl (wp_skip (nThen (fg [(0, _), (6, _), (8, _), (9, _), (12, _), (13, _)] ⟨rfl, rfl, rfl, rfl, rfl, rfl, ⟨⟩⟩ fun _ => ?_)))))))))))))))))))
    have hkE : k = ps.length := by have := pairs_take_le ps k; rcases Nat.lt_or_ge k ps.length with h | h; exact absurd (pairs_take_lt (List.getElem?_eq_getElem h)) (by omega); omega
    have hdE : (dataL (ps.take k)).length = (dataL ps).length := by rw [hkE, List.take_length]
    refine sreg (sM rfl ?_)
    refine svK (xmake (lo := ps.length) (hi := ps.length) sl222 in291 rfl (by decide) rfl rfl (by omega) (by omega) (by omega) (by omega) (by simp only [maxLen]; omega) rfl) ?_
    rintro _ w52 ⟨b124, rfl, m53, hk124, ez124, sz124, -⟩
    have hm := rng_fr hm m53 (by omega) id
    have hG := hG.keep (fun k hk => by omega) m53 nF
    have hf := hf.step0 m53
    have h8 := h8.keep m53 id
    have h6 := h6.keep m53 id
    have hR : ∀ bv, PRow w52 b124 bv ps 0 := fun bv => PRow.new hk124
    refine sv (xfld fl224_2 rfl) ?_
    refine suK (xstF 2 sz222 h8 rfl rfl rfl rfl rfl) ?_
    rintro w55 ⟨m56, h8, s54⟩
    have hm := rng_fr hm m56 (by omega) (by show ¬ (bm = b8); omega)
    have hG := hG.keep (fun k hk => by omega) m56 (fun k hk hS => by have hk := hk; have hS : k = b8 := hS; omega)
    have hf := hf.step m56 (nB (by omega))
    have h6 := h6.keep m56 (by show ¬ (b6 = b8); omega)
    have hR := fun bv => (hR bv).keep m56 (by show ¬ (b124 = b8); omega)
    refine send (fg [(0, _), (6, _), (8, _), (9, _), (12, _), (13, _)] ⟨rfl, rfl, rfl, rfl, rfl, rfl, ⟨⟩⟩ fun _ => (sreg (sM rfl ?_)))
    refine svK (xmake (lo := (dataL ps).length) (hi := (dataL ps).length) sl37 in5 rfl (by decide) rfl rfl (by omega) (by omega) (by omega) (by omega) (by simp only [maxLen]; omega) rfl) ?_
    rintro _ w57 ⟨b127, rfl, m58, hV, ez127, sz127, -⟩
    have hm := rng_fr hm m58 (by omega) id
    have hG := hG.keep (fun k hk => by omega) m58 nF
    have hf := hf.step0 m58
    have h8 := h8.keep m58 id
    have h6 := h6.keep m58 id
    have hR := fun bv => (hR bv).keep m58 id
    rw [rep_zero] at hV
    have hR := hR b127
    have hV : Blk w57 b127 (bvs (dataL (ps.take 0)) ++ bvs (List.replicate (dataL ps).length 0)) := hV
    refine sA rfl (send (fg [(0, _), (6, _), (8, _), (9, _), (12, _), (17, _)] ⟨rfl, rfl, rfl, rfl, rfl, rfl, ⟨⟩⟩ fun _ => (sreg (sM rfl (sA rfl (send (fg [(0, _), (1, _), (6, _), (8, _), (12, _), (17, _)] ⟨rfl, rfl, rfl, rfl, rfl, rfl, ⟨⟩⟩ fun _ => (wp_seq (sreg (sA rfl (send (fg [(0, _), (1, _), (6, _), (8, _), (12, _), (17, _), (18, _)] ⟨rfl, rfl, rfl, rfl, rfl, rfl, rfl, ⟨⟩⟩ fun _ => (wp_block ?_)))))))))))))
    refine lp [(0, _), (6, _), (8, _), (12, _)] (fun (x : Nat × Nat × Nat) => match x with | (k, ov, rm) => [(1, .int .i64 ((e + (pairsL (ps.take k)).length : Nat) : Int)), (17, .slice (some ⟨b127, ov, none⟩) rm rm), (18, .int .i64 (k : Int))]) (fun (x : Nat × Nat × Nat) wx => match x with | (k, ov, rm) => Fr (fun k => k = b6 ∨ k = b124 ∨ k = b127) w57 wx ∧ (k ≤ ps.length) ∧ (SB wx b6 [1, 256, 1] [[.int .u16 0], nm [], [.slice none 0 0]]) ∧ (PRow wx b124 b127 ps k) ∧ (Blk wx b127 (bvs (dataL (ps.take k)) ++ bvs (List.replicate rm 0))) ∧ ((dataL (ps.take k)).length + rm = (dataL ps).length) ∧ (0 < rm → ov = (dataL (ps.take k)).length) ∧ (ov ≤ (dataL (ps.take k)).length + rm) ∧ (e + (pairsL (ps.take k)).length ≤ n)) (fun (x : Nat × Nat × Nat) => match x with | (k, ov, rm) => ps.length - k) (0, 0, (dataL ps).length) ⟨rfl, rfl, rfl, rfl, rfl, rfl, rfl, trivial⟩ ⟨Fr.refl _ _, Nat.zero_le _, h6, hR, hV, Nat.zero_add _, fun _ => rfl, Nat.zero_le _, by simpa [pairsL] using hle47⟩ ?_
    rintro ⟨k, ov, rm⟩ _ w60 ⟨hL59, hk, h6, hR, hV, hrd, hov, hov2, hnk⟩
    refine fg [(0, _), (1, _), (6, _), (8, _), (12, _), (17, _), (18, _)] ⟨rfl, rfl, rfl, rfl, rfl, rfl, rfl, ⟨⟩⟩ fun _ => ?_
    have z61 := hL59.size
    have hm := rng_fr hm hL59 (by omega) (by show ¬ (bm = b6 ∨ bm = b124 ∨ bm = b127); omega)
    have hG := hG.keep (fun k hk => by omega) hL59 (fun k hk hS => by have hk := hk; have hS : k = b6 ∨ k = b124 ∨ k = b127 := hS; omega)
    have hf := hf.step hL59 (fun k hk hS => by have hS : k = b6 ∨ k = b124 ∨ k = b127 := hS; show False; omega)
    have h8 := h8.keep hL59 (by show ¬ (b8 = b6 ∨ b8 = b124 ∨ b8 = b127); omega)
    have hdk := dataL_le (ps.take k)
    have hdkl := (show (dataL (ps.take k)).length ≤ (dataL ps).length by omega)
    refine wp_seq (sreg (sM rfl (sM rfl ?_)))
    refine svP (xlss rfl rfl) (fun hc131 => ?_) (fun hc131 => ?_)
    ·
     refine send (fg [(0, _), (1, _), (6, _), (8, _), (12, _), (17, _), (18, _), (131, _)] ⟨rfl, rfl, rfl, rfl, rfl, rfl, rfl, rfl, ⟨⟩⟩ fun _ => (cyes rfl (wp_skip (nThen (fg [(0, _), (1, _), (6, _), (8, _), (12, _), (17, _), (18, _)] ⟨rfl, rfl, rfl, rfl, rfl, rfl, rfl, ⟨⟩⟩ fun _ => (wp_seq (wp_block ?_)))))))
     have hkl : k < ps.length := by rcases Nat.lt_or_ge k ps.length with h | h; exact h; omega
     obtain ⟨p, hpk⟩ := some_of_lt hkl
     have hpt := pairs_at hps hpk
     have hptl := pairs_take_lt hpk
     have hpk16 := u16lt p.key
     have hps1 : (pairsL (ps.take (k + 1))).length = (pairsL (ps.take k)).length + 4 + p.data.length := by rw [pairs_snoc hpk]; simp only [pairL, List.length_append, be16_length]; omega
     have hds1 : (dataL (ps.take (k + 1))).length = (dataL (ps.take k)).length + p.data.length := by rw [dataL_snoc hpk, List.length_append]
     have hdl1 := dataL_le (ps.take (k + 1))
     have hdsp := congrArg List.length (dataL_split hpk)
     simp only [List.length_append] at hdsp
     simp only [pairL] at hpt
     have hdd : Std b (e + (pairsL (ps.take k)).length + 2 + 2) p.data := (hpt.right' rfl).right' rfl
     obtain ⟨ss, T124, hPD, hpl, hE⟩ := hR.open hkl
     refine sreg (sv (xfld fl224_2 rfl) (sv (xld on222 rfl (h8.r.c 2 rfl rfl)) (sM rfl (sv (xidx sl222 sz291 rfl rfl rfl (by omega)) (sA rfl (send (fg [(0, _), (1, _), (6, _), (8, _), (12, _), (17, _), (18, _), (19, _)] ⟨rfl, rfl, rfl, rfl, rfl, rfl, rfl, rfl, ⟨⟩⟩ fun _ => (sreg (sA rfl (sA rfl (send (fg [(0, _), (1, _), (6, _), (8, _), (12, _), (17, _), (18, _), (19, _)] ⟨rfl, rfl, rfl, rfl, rfl, rfl, rfl, rfl, ⟨⟩⟩ fun _ => (wp_seq (sreg (sM rfl (sM rfl ?_))))))))))))))))
     refine sc (xcall ca156 rfl) (c156 (b := b) (off := e + (pairsL (ps.take k)).length) (x := p.key.toNat) hms hm (by omega) hnb hkm hbl hG (by omega) hpk16 (hpt.left) (by omega)) ?_
     rintro _ w62 ⟨⟨hle141, rfl⟩ | ⟨hgt141, T141, x141, rfl⟩, m63⟩
     ·
      have z64 := m63.size
      have hm := rng_fr hm m63 (by omega) id
      have hG := hG.keep (fun k hk => by omega) m63 nF
      have hf := hf.step0 m63
      have h8 := h8.keep m63 id
      have h6 := h6.keep m63 id
      have hV := hV.keep m63 id
      have hL59 := hL59.step0 m63
      have hE := hE.keep m63 id
      refine sM rfl (sv (xex30 rfl) (sv (xex31 rfl) (sv (xex32 rfl) (sA rfl (sA rfl (sA rfl (send (fg [(0, _), (1, _), (6, _), (8, _), (11, _), (12, _), (17, _), (18, _), (19, _), (20, _)] ⟨rfl, rfl, rfl, rfl, rfl, rfl, rfl, rfl, rfl, rfl, ⟨⟩⟩ fun _ => (sreg (sM rfl (sv (xneN if89 rfl) (send (fg [(0, _), (1, _), (6, _), (8, _), (11, _), (12, _), (17, _), (18, _), (19, _), (20, _), (146, _)] ⟨rfl, rfl, rfl, rfl, rfl, rfl, rfl, rfl, rfl, rfl, rfl, ⟨⟩⟩ fun _ => (cno rfl (wp_skip (nThen (fg [(0, _), (1, _), (6, _), (8, _), (12, _), (17, _), (18, _), (19, _), (20, _)] ⟨rfl, rfl, rfl, rfl, rfl, rfl, rfl, rfl, rfl, ⟨⟩⟩ fun _ => (sreg (sM rfl (sM rfl (sN rfl (sv (xfld fl291_0 rfl) ?_))))))))))))))))))))))
      refine suK (xstE 0 sz289 hE hpl rfl rfl rfl rfl rfl) ?_
      rintro w66 ⟨m67, hE, s65⟩
      have hm := rng_fr hm m67 (by omega) (by show ¬ (bm = b124); omega)
      have hG := hG.keep (fun k hk => by omega) m67 (fun k hk hS => by have hk := hk; have hS : k = b124 := hS; omega)
      have hf := hf.step m67 (nB (by omega))
      have h8 := h8.keep m67 (by show ¬ (b8 = b124); omega)
      have h6 := h6.keep m67 (by show ¬ (b6 = b124); omega)
      have hV := hV.keep m67 (by show ¬ (b127 = b124); omega)
      have hL59 := hL59.step m67 (fun k hk hS => by have hS : k = b124 := hS; show k = b6 ∨ k = b124 ∨ k = b127; omega)
      refine send (fg [(0, _), (1, _), (6, _), (8, _), (12, _), (17, _), (18, _), (19, _)] ⟨rfl, rfl, rfl, rfl, rfl, rfl, rfl, rfl, ⟨⟩⟩ fun _ => (wp_seq (sreg (sM rfl (sM rfl ?_)))))
      refine sc (xcall ca156 rfl) (c156 (b := b) (off := e + (pairsL (ps.take k)).length + 2) (x := p.data.length) hms hm (by omega) hnb hkm hbl hG (by omega) (by omega) ((hpt.right' rfl).left) (by omega)) ?_
      rintro _ w68 ⟨⟨hle159, rfl⟩ | ⟨hgt159, T159, x159, rfl⟩, m69⟩
      ·
       have z70 := m69.size
       have hm := rng_fr hm m69 (by omega) id
       have hG := hG.keep (fun k hk => by omega) m69 nF
       have hf := hf.step0 m69
       have h8 := h8.keep m69 id
       have h6 := h6.keep m69 id
       have hV := hV.keep m69 id
       have hL59 := hL59.step0 m69
       have hE := hE.keep m69 id
       refine sM rfl (sv (xex30 rfl) (sv (xex31 rfl) (sv (xex32 rfl) (sA rfl (sA rfl (sA rfl (send (fg [(0, _), (1, _), (6, _), (8, _), (11, _), (12, _), (17, _), (18, _), (19, _), (21, _)] ⟨rfl, rfl, rfl, rfl, rfl, rfl, rfl, rfl, rfl, rfl, ⟨⟩⟩ fun _ => (sreg (sM rfl (sv (xneN if89 rfl) (send (fg [(0, _), (1, _), (6, _), (8, _), (11, _), (12, _), (17, _), (18, _), (19, _), (21, _), (164, _)] ⟨rfl, rfl, rfl, rfl, rfl, rfl, rfl, rfl, rfl, rfl, rfl, ⟨⟩⟩ fun _ => (cno rfl (wp_skip (nThen (fg [(0, _), (1, _), (6, _), (8, _), (12, _), (17, _), (18, _), (19, _), (21, _)] ⟨rfl, rfl, rfl, rfl, rfl, rfl, rfl, rfl, rfl, ⟨⟩⟩ fun _ => (wp_seq ?_))))))))))))))))))
       obtain rfl := hms (by omega)
       refine sreg (sM rfl (sM rfl ?_))
       refine svK (xcutL (lo := e + (pairsL (ps.take k)).length + 2 + 2) sl37 sz5 rfl rfl (by omega) (by omega)) ?_
       rintro _ w68 ⟨o172, rfl, ho172, rfl⟩
       refine sv (xlen sl37 rfl) (sM rfl (sv (xconv hs22 ki3 rfl (w64 (by omega) (by omega))) ?_))
       refine svP (xlss rfl rfl) (fun hc176 => ?_) (fun hc176 => ?_)
       ·
        refine send (fg [(0, _), (1, _), (6, _), (8, _), (12, _), (17, _), (18, _), (19, _), (21, _), (176, _)] ⟨rfl, rfl, rfl, rfl, rfl, rfl, rfl, rfl, rfl, rfl, ⟨⟩⟩ fun _ => (cyes rfl ?_))
        refine sdrawI [(6, _)] ⟨rfl, trivial⟩ (fun (x : Option Addr) => match x with | xq => [(7, .iface 166 (.pointer xq))]) (fun (x : Option Addr) wx => match x with | xq => Fr (fun k => k = b6) w68 wx ∧ (SB wx b6 [1, 256, 1] [[.int .u16 0], nm [], [.slice none 0 0]])) (Fr (fun k => k = b6) w68.drew) (.rd 0 (.rd 1 (.rd 2 (.two 3 (.lst [(4, .rd), (5, .ld), (6, .rd)]) 5 (.lst [(3, .ld), (4, .rd), (6, .rd)]))))) mixed (by kernel_rfl) ?_ ?_
        ·
         have hC : Fr (fun k => k = b6) w68 w68 := Fr.refl _ _
         have z72 : w68.drew.heap.size = w68.heap.size := rfl
         have hm := rng_fr hm (fd w68) (by omega) id
         have hG := hG.keep (fun k hk => by omega) (fd w68) nF
         have hf := hf.drew
         have h8 := h8.drew
         have h6 := h6.drew
         have hV := hV.keep (fd w68) id
         have hL59 := hL59.drew
         have hE := hE.keep (fd w68) id
         have hC := hC.drew
         have hS73 : Fr (fun k => k = b6) w68.drew w68.drew := Fr.refl _ _
         refine hvT rfl (fun _ _ => xbuildS [[.int .u16 0], nm [], [.slice none 0 0]] zr224 ly224 rfl trivial (by simp [setAll, zs224])) hS73 ?_
         obtain ⟨Tg178, xg178, eg178, hgc178, hgn178, hge178⟩ := hG.get 8 (by omega) (by omega)
         refine hvT rfl (fun w' hS => xld on89 rfl (cell_keep hgc178 hS (by omega) (by show ¬ (8 = b6); omega))) hS73 ?_
         refine hvT rfl (fun _ _ => xbuildS [[_], [_]] zr168 ly168 rfl (by simp [fitAll, zs168, Value.cells]) rfl) hS73 ?_
         refine twoT ?_ ?_
         ·
          refine hlKT rfl (xboxS (lens := [1, 1]) rfl (by simp [])) ?_
          rintro _ w75 ⟨b180, rfl, m76, h180, e74, s74⟩
          have hm := rng_fr hm m76 (by omega) id
          have hf := hf.step0 m76
          have h8 := h8.keep m76 id
          have h6 := h6.keep m76 id
          have hV := hV.keep m76 id
          have hL59 := hL59.step0 m76
          have hE := hE.keep m76 id
          have hC := hC.step0 m76
          have hS77 := hS73.step0 m76
          refine ⟨hS77, ?_⟩
          refine lstT (hv rfl (fun _ _ => xmkif ni166 rfl) hS77 ?_)
          refine hluK rfl (xstW h6 (lens' := [1, 256, 1]) sz224 (by simp [nm_length]) rfl (by simp only [List.flatten_cons, List.flatten_nil, List.all_append, List.append_nil, nm_one, Bool.true_and] <;> rfl) rfl rfl) ?_
          rintro w79 ⟨m80, h6, s78⟩
          have hm := rng_fr hm m80 (by omega) (by show ¬ (bm = b6); omega)
          have hf := hf.step m80 (nB (by omega))
          have h8 := h8.keep m80 (by show ¬ (b8 = b6); omega)
          have hV := hV.keep m80 (by show ¬ (b127 = b6); omega)
          have hL59 := hL59.step m80 (fun k hk hS => by have hS : k = b6 := hS; show k = b6 ∨ k = b124 ∨ k = b127; omega)
          have hE := hE.keep m80 (by show ¬ (b124 = b6); omega)
          have hC := hC.step m80 (fun k hk hS => by have hS : k = b6 := hS; show k = b6; omega)
          have hS81 := hS77.step m80 (fun k hk hS => by have hS : k = b6 := hS; show k = b6; omega)
          refine ⟨hS81, ?_⟩
          refine ggA rfl rfl hS81 ?_
          exact ⟨rfl, _, _, env_okl ⟨rfl, rfl, trivial⟩, ⟨hC, (h6)⟩⟩
         ·
          refine hluKT rfl (xstW h6 (lens' := [1, 256, 1]) sz224 (by simp [nm_length]) rfl (by simp only [List.flatten_cons, List.flatten_nil, List.all_append, List.append_nil, nm_one, Bool.true_and] <;> rfl) rfl rfl) ?_
          rintro w83 ⟨m84, h6, s82⟩
          have hm := rng_fr hm m84 (by omega) (by show ¬ (bm = b6); omega)
          have hf := hf.step m84 (nB (by omega))
          have h8 := h8.keep m84 (by show ¬ (b8 = b6); omega)
          have hV := hV.keep m84 (by show ¬ (b127 = b6); omega)
          have hL59 := hL59.step m84 (fun k hk hS => by have hS : k = b6 := hS; show k = b6 ∨ k = b124 ∨ k = b127; omega)
          have hE := hE.keep m84 (by show ¬ (b124 = b6); omega)
          have hC := hC.step m84 (fun k hk hS => by have hS : k = b6 := hS; show k = b6; omega)
          have hS85 := hS73.step m84 (fun k hk hS => by have hS : k = b6 := hS; show k = b6; omega)
          refine ⟨hS85, ?_⟩
          refine lstT ?_
          refine hlK rfl (xboxS (lens := [1, 1]) rfl (by simp [])) ?_
          rintro _ w87 ⟨b180, rfl, m88, h180, e86, s86⟩
          have hm := rng_fr hm m88 (by omega) id
          have hf := hf.step0 m88
          have h8 := h8.keep m88 id
          have h6 := h6.keep m88 id
          have hV := hV.keep m88 id
          have hL59 := hL59.step0 m88
          have hE := hE.keep m88 id
          have hC := hC.step0 m88
          have hS89 := hS85.step0 m88
          refine ⟨hS89, ?_⟩
          refine hv rfl (fun _ _ => xmkif ni166 rfl) hS89 (ggA rfl rfl hS89 ?_)
          exact ⟨rfl, _, _, env_okl ⟨rfl, rfl, trivial⟩, ⟨hC, (h6)⟩⟩
        ·
         rintro xq _ w90 ⟨hC, h6⟩
         have z91 := hC.size
         have hm := rng_fr hm hC (by omega) (by show ¬ (bm = b6); omega)
         have hf := hf.step hC (nB (by omega))
         have h8 := h8.keep hC (by show ¬ (b8 = b6); omega)
         have hV := hV.keep hC (by show ¬ (b127 = b6); omega)
         have hL59 := hL59.step hC (fun k hk hS => by have hS : k = b6 := hS; show k = b6 ∨ k = b124 ∨ k = b127; omega)
         have hE := hE.keep hC (by show ¬ (b124 = b6); omega)
         refine fg [(6, _), (7, _)] ⟨rfl, rfl, ⟨⟩⟩ fun _ => (wp_ret (rThen (rBlock (rThen (rThen (rBlock (rThen ?_)))))))
         refine rp2 rfl ⟨_, rfl, ldS (lens := [1, 256, 1]) ro224 h6.r⟩ rfl ?_
         exact ⟨.inr ⟨by omega, _, _, rfl⟩, hf⟩
       ·
        refine send (fg [(0, _), (1, _), (6, _), (8, _), (12, _), (17, _), (18, _), (19, _), (21, _), (176, _)] ⟨rfl, rfl, rfl, rfl, rfl, rfl, rfl, rfl, rfl, rfl, ⟨⟩⟩ fun _ => (cno rfl (wp_skip (nThen (fg [(0, _), (1, _), (6, _), (8, _), (12, _), (17, _), (18, _), (19, _), (21, _)] ⟨rfl, rfl, rfl, rfl, rfl, rfl, rfl, rfl, rfl, ⟨⟩⟩ fun _ => (wp_seq (sreg (sM rfl (sM rfl (sM rfl ?_))))))))))
        refine svK (xcutL (lo := e + (pairsL (ps.take k)).length + 2 + 2) sl37 sz5 rfl rfl (by omega) (by omega)) ?_
        rintro _ w68 ⟨o185, rfl, ho185, rfl⟩
        refine sM rfl (sv (xconv hs22 ki3 rfl (w64 (by omega) (by omega))) (sv (xcutH (hi := p.data.length) sl37 sz5 rfl rfl rfl (by omega)) ?_))
        refine svK (xcopyV sl37 sz5 rfl rfl (cpy_ba (take_ba (cut_rng hm (ms_std hdd (by omega)) ho185 (by omega)) rfl)) (by omega) hV hov (by omega)) ?_
        rintro _ w93 ⟨rfl, m94, hV, hz189⟩
        have hf := hf.step m94 (nB (by omega))
        have h8 := h8.keep m94 (by show ¬ (b8 = b127); omega)
        have h6 := h6.keep m94 (by show ¬ (b6 = b127); omega)
        have hL59 := hL59.step m94 (fun k hk hS => by have hS : k = b127 := hS; show k = b6 ∨ k = b124 ∨ k = b127; omega)
        have hE := hE.keep m94 (by show ¬ (b124 = b127); omega)
        refine sM rfl (sv (xconv hs22 ki3 rfl (w64 (by omega) (by omega))) (sv (exF (xneq rfl rfl) (by omega)) (send (fg [(0, _), (1, _), (6, _), (8, _), (12, _), (17, _), (18, _), (19, _), (21, _), (192, _)] ⟨rfl, rfl, rfl, rfl, rfl, rfl, rfl, rfl, rfl, rfl, ⟨⟩⟩ fun _ => (cno rfl (wp_skip (nThen (fg [(0, _), (1, _), (6, _), (8, _), (12, _), (17, _), (18, _), (19, _), (21, _)] ⟨rfl, rfl, rfl, rfl, rfl, rfl, rfl, rfl, rfl, ⟨⟩⟩ fun _ => (sreg (sM rfl (sM rfl (sM rfl (sM rfl (sv (xcutHM (hi := p.data.length) (mx := p.data.length) sl37 sz5 rfl rfl rfl rfl rfl (by omega) (by omega)) (sN rfl (sv (xfld fl291_1 rfl) ?_))))))))))))))))
        refine suK (xstE 1 sz37 hE hpl rfl rfl rfl rfl rfl) ?_
        rintro w96 ⟨m97, hE, s95⟩
        have hf := hf.step m97 (nB (by omega))
        have h8 := h8.keep m97 (by show ¬ (b8 = b124); omega)
        have h6 := h6.keep m97 (by show ¬ (b6 = b124); omega)
        have hV := hV.keep m97 (by show ¬ (b127 = b124); omega)
        have hL59 := hL59.step m97 (fun k hk hS => by have hS : k = b124 := hS; show k = b6 ∨ k = b124 ∨ k = b127; omega)
        refine send (fg [(0, _), (1, _), (6, _), (8, _), (12, _), (17, _), (18, _), (21, _)] ⟨rfl, rfl, rfl, rfl, rfl, rfl, rfl, rfl, ⟨⟩⟩ fun _ => (sreg (sM rfl (sM rfl ?_))))
        refine svK (xcutLx (lo := p.data.length) sl37 sz5 rfl rfl (by omega) (by omega)) ?_
        rintro _ w96 ⟨o207, rfl, ho207, hoq207, rfl⟩
        refine sA rfl (send (fg [(0, _), (1, _), (6, _), (8, _), (12, _), (17, _), (18, _), (21, _)] ⟨rfl, rfl, rfl, rfl, rfl, rfl, rfl, rfl, ⟨⟩⟩ fun _ => (lreg (sM rfl (sM rfl (sv (xconv hs22 ki3 rfl (w64 (by omega) (by omega))) (sv (xadd rfl rfl (w64n (e + (pairsL (ps.take (k + 1))).length) (by omega) (by omega))) (sA rfl (lend (nBlock (nThen (fg [(0, _), (1, _), (6, _), (8, _), (12, _), (17, _), (18, _)] ⟨rfl, rfl, rfl, rfl, rfl, rfl, rfl, ⟨⟩⟩ fun _ => (lreg (sM rfl (sv (xadd rfl rfl (w64n (k + 1) (by omega) (by omega))) (sA rfl (lend (nThen ?_))))))))))))))))))
        have hov207 : o207 ≤ (dataL (ps.take (k + 1))).length + (rm - p.data.length) := by rcases Nat.lt_or_ge p.data.length rm with h | h; (have := ho207 h; have := hov (by omega); omega); (have := hoq207 (by omega); omega)
        refine ⟨(k + 1, o207, rm - p.data.length), _, env_okl ⟨rfl, rfl, rfl, rfl, rfl, rfl, rfl, trivial⟩, ⟨hL59, (by omega), (h6), (PRow.close (o := ov) hPD hpk (fun hne => hov (by have := List.length_pos_iff.2 hne; omega)) hE), (by rw [dataL_snoc hpk]; exact hV), (by omega), (fun h => by have := ho207 (by omega); have := hov (by omega); omega), (hov207), (by omega)⟩, ?_⟩
        show ps.length - (k + 1) < ps.length - k; omega
      ·
       have z99 := m69.size
       have hf := hf.step0 m69
       have h8 := h8.keep m69 id
       have h6 := h6.keep m69 id
       have hV := hV.keep m69 id
       refine sM rfl (sv (xex30 rfl) (sv (xex31 rfl) (sv (xex32 rfl) (sA rfl (sA rfl (sA rfl (send (fg [(0, _), (1, _), (6, _), (8, _), (11, _), (12, _), (17, _), (18, _), (19, _), (21, _)] ⟨rfl, rfl, rfl, rfl, rfl, rfl, rfl, rfl, rfl, rfl, ⟨⟩⟩ fun _ => (sreg (sM rfl (sv (xneI if89 rfl) (send (fg [(0, _), (1, _), (6, _), (8, _), (11, _), (12, _), (17, _), (18, _), (19, _), (21, _), (164, _)] ⟨rfl, rfl, rfl, rfl, rfl, rfl, rfl, rfl, rfl, rfl, rfl, ⟨⟩⟩ fun _ => (cyes rfl (sreg (sv (xbuildS [[.int .u16 0], nm [], [.slice none 0 0]] zr224 ly224 rfl trivial (by simp [setAll, zs224])) (sM rfl (sv (xbuildS [[_], [_]] zr168 ly168 rfl (by simp [fitAll, zs168, Value.cells]) rfl) ?_))))))))))))))))))
       refine svK (xboxS (lens := [1, 1]) rfl (by simp [])) ?_
       rintro _ w101 ⟨b168, rfl, m102, h168, e100, s100⟩
       have hf := hf.step0 m102
       have h8 := h8.keep m102 id
       have h6 := h6.keep m102 id
       have hV := hV.keep m102 id
       refine sv (xmkif ni166 rfl) ?_
       refine suK (xstW h6 (lens' := [1, 256, 1]) sz224 (by simp [nm_length]) rfl (by simp only [List.flatten_cons, List.flatten_nil, List.all_append, List.append_nil, nm_one, Bool.true_and] <;> rfl) rfl rfl) ?_
       rintro w104 ⟨m105, h6, s103⟩
       have hf := hf.step m105 (nB (by omega))
       have h8 := h8.keep m105 (by show ¬ (b8 = b6); omega)
       have hV := hV.keep m105 (by show ¬ (b127 = b6); omega)
       refine sA rfl (send (fg [(6, _), (7, _)] ⟨rfl, rfl, ⟨⟩⟩ fun _ => (wp_ret (rThen (rBlock (rThen (rThen (rBlock (rThen ?_)))))))))
       refine rp2 rfl ⟨_, rfl, ldS (lens := [1, 256, 1]) ro224 h6.r⟩ rfl ?_
       exact ⟨.inr ⟨by omega, _, _, rfl⟩, hf⟩
     ·
      have z106 := m63.size
      have hf := hf.step0 m63
      have h8 := h8.keep m63 id
      have h6 := h6.keep m63 id
      have hV := hV.keep m63 id
      refine sM rfl (sv (xex30 rfl) (sv (xex31 rfl) (sv (xex32 rfl) (sA rfl (sA rfl (sA rfl (send (fg [(0, _), (1, _), (6, _), (8, _), (11, _), (12, _), (17, _), (18, _), (19, _), (20, _)] ⟨rfl, rfl, rfl, rfl, rfl, rfl, rfl, rfl, rfl, rfl, ⟨⟩⟩ fun _ => (sreg (sM rfl (sv (xneI if89 rfl) (send (fg [(0, _), (1, _), (6, _), (8, _), (11, _), (12, _), (17, _), (18, _), (19, _), (20, _), (146, _)] ⟨rfl, rfl, rfl, rfl, rfl, rfl, rfl, rfl, rfl, rfl, rfl, ⟨⟩⟩ fun _ => (cyes rfl (sreg (sv (xbuildS [[.int .u16 0], nm [], [.slice none 0 0]] zr224 ly224 rfl trivial (by simp [setAll, zs224])) (sM rfl (sv (xbuildS [[_], [_]] zr168 ly168 rfl (by simp [fitAll, zs168, Value.cells]) rfl) ?_))))))))))))))))))
      refine svK (xboxS (lens := [1, 1]) rfl (by simp [])) ?_
      rintro _ w108 ⟨b150, rfl, m109, h150, e107, s107⟩
      have hf := hf.step0 m109
      have h8 := h8.keep m109 id
      have h6 := h6.keep m109 id
      have hV := hV.keep m109 id
      refine sv (xmkif ni166 rfl) ?_
      refine suK (xstW h6 (lens' := [1, 256, 1]) sz224 (by simp [nm_length]) rfl (by simp only [List.flatten_cons, List.flatten_nil, List.all_append, List.append_nil, nm_one, Bool.true_and] <;> rfl) rfl rfl) ?_
      rintro w111 ⟨m112, h6, s110⟩
      have hf := hf.step m112 (nB (by omega))
      have h8 := h8.keep m112 (by show ¬ (b8 = b6); omega)
      have hV := hV.keep m112 (by show ¬ (b127 = b6); omega)
      refine sA rfl (send (fg [(6, _), (7, _)] ⟨rfl, rfl, ⟨⟩⟩ fun _ => (wp_ret (rThen (rBlock (rThen (rThen (rBlock (rThen ?_)))))))))
      refine rp2 rfl ⟨_, rfl, ldS (lens := [1, 256, 1]) ro224 h6.r⟩ rfl ?_
      exact ⟨.inr ⟨by omega, _, _, rfl⟩, hf⟩
    ·
     refine send (fg [(0, _), (1, _), (6, _), (8, _), (12, _), (17, _), (18, _), (131, _)] ⟨rfl, rfl, rfl, rfl, rfl, rfl, rfl, rfl, ⟨⟩⟩ fun _ => (cno rfl (wp_exit (eThen (eThen (eHit (nThen (fg [(6, _), (8, _)] ⟨rfl, rfl, ⟨⟩⟩ fun _ => (sreg (sv (xldS (lens := [1, 256, 1]) ro224 rfl h8.r) ?_))))))))))
     refine suK (xstW h6 (lens' := [1, 256, 1]) sz224 (by simp [nm_length]) rfl (one3 _ _ _ rfl) rfl rfl) ?_
     rintro w114 ⟨m115, h6, s113⟩
     have hf := hf.step m115 (nB (by omega))
     have h8 := h8.keep m115 (by show ¬ (b8 = b6); omega)
     have hR := hR.keep m115 (by show ¬ (b124 = b6); omega)
     have hV := hV.keep m115 (by show ¬ (b127 = b6); omega)
     refine sA rfl (send (fg [(6, _), (7, _)] ⟨rfl, rfl, ⟨⟩⟩ fun _ => (wp_ret ?_)))
     refine rp2 rfl ⟨_, rfl, ldS (lens := [1, 256, 1]) ro224 h6.r⟩ rfl ?_
     have hke : k = ps.length := by omega
     subst hke
     rw [List.take_length] at hV hrd hnk
     obtain rfl : rm = 0 := by omega
     have hV : Blk w114 b127 (bvs (dataL ps)) := by rw [show bvs (List.replicate 0 0) = [] from rfl, List.append_nil] at hV; exact hV
     exact ⟨.inl ⟨hnk, _, rfl, PRow.la hR hV (.inr ⟨by omega, by omega⟩) (.inr ⟨by omega, by omega⟩)⟩, hf⟩
  ·
   have z116 := m17.size
   have hf := hf.step m17 (nB (by omega))
   have h6 := h6.keep m17 (by show ¬ (b6 = b8); omega)
   refine sM rfl (sv (xex20 rfl) (sv (xex21 rfl) (sA rfl (sA rfl (send (fg [(0, _), (6, _), (8, _), (9, _), (10, _), (11, _)] ⟨rfl, rfl, rfl, rfl, rfl, rfl, ⟨⟩⟩ fun _ => (sreg (sM rfl (sv (xneI if89 rfl) (send (fg [(0, _), (6, _), (8, _), (9, _), (10, _), (11, _), (51, _)] ⟨rfl, rfl, rfl, rfl, rfl, rfl, rfl, ⟨⟩⟩ fun _ => (cyes rfl (sreg (sv (xbuildS [[.int .u16 0], nm [], [.slice none 0 0]] zr224 ly224 rfl trivial (by simp [setAll, zs224])) (sM rfl (sv (xbuildS [[_], [_]] zr168 ly168 rfl (by simp [fitAll, zs168, Value.cells]) rfl) ?_))))))))))))))))
   refine svK (xboxS (lens := [1, 1]) rfl (by simp [])) ?_
   rintro _ w118 ⟨b55, rfl, m119, h55, e117, s117⟩
   have hf := hf.step0 m119
   have h6 := h6.keep m119 id
   have h8 := h8.keep m119 id
   refine sv (xmkif ni166 rfl) ?_
   refine suK (xstW h6 (lens' := [1, 256, 1]) sz224 (by simp [nm_length]) rfl (by simp only [List.flatten_cons, List.flatten_nil, List.all_append, List.append_nil, nm_one, Bool.true_and] <;> rfl) rfl rfl) ?_
   rintro w121 ⟨m122, h6, s120⟩
   have hf := hf.step m122 (nB (by omega))
   have h8 := h8.keep m122 (by show ¬ (b8 = b6); omega)
   refine sA rfl (send (fg [(6, _), (7, _)] ⟨rfl, rfl, ⟨⟩⟩ fun _ => (wp_ret (rThen ?_))))
   refine rp2 rfl ⟨_, rfl, ldS (lens := [1, 256, 1]) ro224 h6.r⟩ rfl ?_
   exact ⟨.inr ⟨by omega, _, _, rfl⟩, hf⟩
 ·
  have z123 := m11.size
  have hf := hf.step0 m11
  have h6 := h6.keep m11 id
  have h8 := h8.keep m11 id
  refine sM rfl (sv (xex30 rfl) (sv (xex31 rfl) (sv (xex32 rfl) (sv (xfld fl224_0 rfl) ?_))))
  refine suK (xstF 0 sz22 h8 rfl rfl rfl rfl rfl) ?_
  rintro w125 ⟨m126, h8, s124⟩
  have hf := hf.step m126 (nB (by omega))
  have h6 := h6.keep m126 (by show ¬ (b6 = b8); omega)
  refine sA rfl (sA rfl (send (fg [(0, _), (6, _), (8, _), (9, _), (10, _), (11, _)] ⟨rfl, rfl, rfl, rfl, rfl, rfl, ⟨⟩⟩ fun _ => (sreg (sM rfl (sv (xneI if89 rfl) (send (fg [(0, _), (6, _), (8, _), (9, _), (10, _), (11, _), (37, _)] ⟨rfl, rfl, rfl, rfl, rfl, rfl, rfl, ⟨⟩⟩ fun _ => (cyes rfl (sreg (sv (xbuildS [[.int .u16 0], nm [], [.slice none 0 0]] zr224 ly224 rfl trivial (by simp [setAll, zs224])) (sM rfl (sv (xbuildS [[_], [_]] zr168 ly168 rfl (by simp [fitAll, zs168, Value.cells]) rfl) ?_)))))))))))))
  refine svK (xboxS (lens := [1, 1]) rfl (by simp [])) ?_
  rintro _ w128 ⟨b41, rfl, m129, h41, e127, s127⟩
  have hf := hf.step0 m129
  have h6 := h6.keep m129 id
  refine sv (xmkif ni166 rfl) ?_
  refine suK (xstW h6 (lens' := [1, 256, 1]) sz224 (by simp [nm_length]) rfl (by simp only [List.flatten_cons, List.flatten_nil, List.all_append, List.append_nil, nm_one, Bool.true_and] <;> rfl) rfl rfl) ?_
  rintro w131 ⟨m132, h6, s130⟩
  have hf := hf.step m132 (nB (by omega))
  refine sA rfl (send (fg [(6, _), (7, _)] ⟨rfl, rfl, ⟨⟩⟩ fun _ => (wp_ret (rThen ?_))))
  refine rp2 rfl ⟨_, rfl, ldS (lens := [1, 256, 1]) ro224 h6.r⟩ rfl ?_
  exact ⟨.inr ⟨by omega, _, _, rfl⟩, hf⟩
end Go.Proofs.YtifnodoffgfpbaaGreatDoor

namespace Go.Proofs.YtifnodoffgfpbaaGreatDoor
open Go

theorem type_of_kind {r : RecD} {j : Nat} (h1 : 1 ≤ j) (h12 : j ≤ 12) (h : r.kind = (j : Int)) : typeN r = typeN (kR j) := by
  have hj : j = 1 ∨ j = 2 ∨ j = 3 ∨ j = 4 ∨ j = 5 ∨ j = 6 ∨ j = 7 ∨ j = 8 ∨ j = 9 ∨ j = 10 ∨ j = 11 ∨ j = 12 := by omega
  rcases hj with rfl | rfl | rfl | rfl | rfl | rfl | rfl | rfl | rfl | rfl | rfl | rfl <;> simp [typeN, h, kR]
theorem kind_of_type {r : RecD} (j : Nat) {c : Int} (hr : ReadOk r) (hc : ((typeN r).toNat : Int) = c) (h1 : 1 ≤ j := by decide) (h12 : j ≤ 12 := by decide) (ht : ((typeN (kR j)).toNat : Int) = c := by decide) : r.kind = (j : Int) := by
  have inj : ∀ i j : Fin 13, 1 ≤ i.val → 1 ≤ j.val → typeN (kR i) = typeN (kR j) → i = j := by decide
  have e : typeN r = typeN (kR j) := UInt16.toNat_inj.1 (by omega)
  by_cases h : r.kind = 13
  · have hq : typeN r = r.typ := by simp [typeN, h]
    obtain ⟨_, _, _, q⟩ := hr.2.2.2.2.2 h
    exact absurd e.symm (by rw [hq]; exact q j h1 (by omega))
  · obtain ⟨i, hi⟩ := Int.eq_ofNat_of_zero_le (show 0 ≤ r.kind by have := hr.1; omega)
    have k1 := hr.1
    have k2 := hr.2.1
    have h2 := type_of_kind (r := r) (j := i) (by omega) (by omega) hi
    have := inj ⟨i, by omega⟩ ⟨j, by omega⟩ (by show 1 ≤ i; omega) h1 (h2.symm.trans e)
    have : i = j := congrArg Fin.val this
    omega
theorem kind13 {r : RecD} (hr : ReadOk r) (h : ∀ j : Nat, 1 ≤ j → j ≤ 12 → ((typeN r).toNat : Int) ≠ ((typeN (kR j)).toNat : Int)) : r.kind = 13 := by
  by_cases h13 : r.kind = 13
  · exact h13
  · obtain ⟨i, hi⟩ := Int.eq_ofNat_of_zero_le (show 0 ≤ r.kind by have := hr.1; omega)
    have k1 := hr.1
    have k2 := hr.2.1
    exact absurd (by rw [type_of_kind (r := r) (j := i) (by omega) (by omega) hi]) (h i (by omega) (by omega))
section
variable {K : Nat → Prop} {b : List UInt8} {i e : Nat} {r : RecD}
theorem BodyR.simple (h : BodyR K b i r e) {xs : List UInt8} (hk : r.kind = 1 ∨ r.kind = 7 ∨ r.kind = 8 ∨ r.kind = 10 ∨ r.kind = 13) (he : bodyL r = xs) : Std b i xs ∧ e = i + xs.length := by
  subst he; exact h.2.2.2.2.2 hk
theorem bodyL1 (h : r.kind = 1) : bodyL r = fixedL r.data 4 := by simp [bodyL, h]
theorem bodyL8 (h : r.kind = 8) : bodyL r = fixedL r.data 16 := by simp [bodyL, h]
theorem bodyL7 (h : r.kind = 7) : bodyL r = textsL r.texts := by simp [bodyL, h]
theorem bodyL10 (h : r.kind = 10) : bodyL r = pairsL r.pairs := by simp [bodyL, h]
theorem bodyL13 (h : r.kind = 13) : bodyL r = r.data := by simp [bodyL, h]
end
theorem m65 (x : Nat) : x % 65536 < 65536 := Nat.mod_lt _ (by decide)

set_option maxHeartbeats 4000000 in
set_option maxRecDepth 100000 in
theorem c159 {w : World} {a : Option Addr} {bm om km n : Nat} {b : List UInt8} (hms : n ≠ 0 → a = some ⟨bm, om, none⟩) (hm : w.rangeAt bm om (bvs (b.take n))) (hbm : bm < w.heap.size) (hnb : n ≤ b.length) (hkm : n ≤ km) (hbl : b.length < 100000000) (hG : GE w) (hsz : 21 ≤ w.heap.size) {off e len : Nat} {N : List UInt8} {kb kc : Int} {r : RecD} {Kp : Nat → Prop} (hKp : ∀ k, Kp k → k ≤ 10 ∧ (k = 0 ∨ n = b.length)) (hbody : BodyR Kp b off r e) (he : e = off + len) (hl16 : len < 65536) (heb : e ≤ b.length) (hon : off ≤ n) (h0 : n ≠ 0) (hr : ReadOk r) (hasc : r.kind = 11 ∨ r.kind = 12 → asc r.pairs) :
  Ret PP 159 [.slice a n km, .int .i64 (off : Int), ag ([nm N, [.int .u16 ((typeN r).toNat : Int)], [.int .u16 kb], [.int .u32 kc], [.int .u16 (len : Int)]])] w (fun u w' => ((e ≤ n ∧ ∃ v, u = .tuple #[v, .int .i64 (e : Int), .nilIface] ∧ BodyEl (Ub NoU w w') w' v r) ∨ (n < e ∧ ∃ (x : Option Addr), u = .tuple #[.nilIface, .int .i64 (off : Int), .iface 166 (.pointer x)])) ∧ Fr0 w w') := by
 subst he
 have hf : Fr (fun _ => False) w w := Fr.refl _ _
 refine ret_of Tryz.func159 rfl rfl rfl [(0, _), (1, _), (2, _)] rfl ?_
 refine sreg ?_
 refine svK (xboxS (lens := [256, 1, 1, 1, 1]) rfl (by simp [nm_length])) ?_
 rintro _ w2 ⟨b5, rfl, m3, h5, e1, s1⟩
 have hm := rng_fr hm m3 (by omega) id
 have hG := hG.keep (fun k hk => by omega) m3 nF
 have hf := hf.step0 m3
 refine sA rfl (sA rfl (sA rfl (send (fg [(0, _), (1, _), (5, _)] ⟨rfl, rfl, rfl, ⟨⟩⟩ fun _ => (sreg (sA rfl (send (fg [(0, _), (1, _), (5, _)] ⟨rfl, rfl, rfl, ⟨⟩⟩ fun _ => (sreg (sA rfl (send (fg [(0, _), (1, _), (5, _)] ⟨rfl, rfl, rfl, ⟨⟩⟩ fun _ => (sreg (sA rfl (send (fg [(0, _), (1, _), (5, _)] ⟨rfl, rfl, rfl, ⟨⟩⟩ fun _ => (wp_seq (sreg (sv (xfld fl135_1 rfl) (sv (xld on83 rfl (h5.r.c 1 rfl rfl)) (send (fg [(0, _), (1, _), (5, _), (26, _)] ⟨rfl, rfl, rfl, rfl, ⟨⟩⟩ fun _ => (wp_block (sreg ?_))))))))))))))))))))))))
 refine svP (xeql rfl rfl) (fun hc39 => ?_) (fun hc39 => ?_)
 ·
  refine sA rfl (send (fg [(0, _), (1, _), (5, _), (26, _), (38, _)] ⟨rfl, rfl, rfl, rfl, rfl, ⟨⟩⟩ fun _ => (cyes rfl ?_)))
  have hk : r.kind = 1 := kind_of_type 1 hr hc39
  obtain ⟨hsb, hbe⟩ := hbody.simple (.inl hk) (bodyL1 hk)
  rw [fixedL_length] at hbe
  refine sreg ?_
  refine svK (xallS (lens := [4]) in189 (by simp [bvs_length])) ?_
  rintro _ w5 ⟨b12, rfl, m6, h12, e4, s4⟩
  have hm := rng_fr hm m6 (by omega) id
  have hG := hG.keep (fun k hk => by omega) m6 nF
  have hf := hf.step0 m6
  have h5 := h5.keep m6 id
  refine send (fg [(0, _), (1, _), (5, _), (12, _)] ⟨rfl, rfl, rfl, rfl, ⟨⟩⟩ fun _ => (sreg (sM rfl (sM rfl ?_))))
  refine sc (xcall ca195 rfl) (c195 (b := b) (off := off) (xs := fixedL r.data 4) hms hm (by omega) hnb hkm hbl hG (by omega) (fixedL_length _ _) hsb (by omega) h0) ?_
  rintro _ w7 ⟨⟨hle43, rfl⟩ | ⟨hgt43, T43, x43, rfl⟩, m8⟩
  ·
   have z9 := m8.size
   have hm := rng_fr hm m8 (by omega) id
   have hG := hG.keep (fun k hk => by omega) m8 nF
   have hf := hf.step0 m8
   have h5 := h5.keep m8 id
   have h12 := h12.keep m8 id
   refine sM rfl (sv (xex20 rfl) (sv (xex21 rfl) ?_))
   refine suK (xstW h12 (lens' := [4]) sz189 (by simp [bvs_length, fixedL_length]) rfl (by simp only [List.flatten_cons, List.flatten_nil, List.append_nil, bvs_one] <;> rfl) rfl rfl) ?_
   rintro w11 ⟨m12, h12, s10⟩
   have hm := rng_fr hm m12 (by omega) (by show ¬ (bm = b12); omega)
   have hG := hG.keep (fun k hk => by omega) m12 (fun k hk hS => by have hk := hk; have hS : k = b12 := hS; omega)
   have hf := hf.step m12 (nB (by omega))
   have h5 := h5.keep m12 (by show ¬ (b5 = b12); omega)
   refine sA rfl (send (fg [(1, _), (5, _), (10, _), (12, _)] ⟨rfl, rfl, rfl, rfl, ⟨⟩⟩ fun _ => (sreg (sv (xmkif ni186 rfl) (sA rfl (send (fg [(1, _), (5, _), (9, _), (10, _)] ⟨rfl, rfl, rfl, rfl, ⟨⟩⟩ fun _ => (lreg (sA rfl (lend (nBlock (nThen (fg [(1, _), (5, _), (9, _), (10, _), (11, _)] ⟨rfl, rfl, rfl, rfl, rfl, ⟨⟩⟩ fun _ => (wp_seq (sreg (sM rfl (sv (xneN if89 rfl) (send (fg [(1, _), (5, _), (9, _), (10, _), (11, _), (156, _)] ⟨rfl, rfl, rfl, rfl, rfl, rfl, ⟨⟩⟩ fun _ => (cno rfl (wp_skip (nThen (fg [(1, _), (5, _), (9, _)] ⟨rfl, rfl, rfl, ⟨⟩⟩ fun _ => ?_)))))))))))))))))))))))
   refine sdrawH (Fr (fun _ => False) w11.drew) [(0, .rd), (1, .rd), (2, .rd), (3, .rd), (4, .rd), (5, .rd), (6, .rd), (7, .rd), (8, .rd)] mixed (by kernel_rfl) (fun _ _ _ _ _ h => h) ?_
   have z13 : w11.drew.heap.size = w11.heap.size := rfl
   have hm := rng_fr hm (fd w11) (by omega) id
   have hG := hG.keep (fun k hk => by omega) (fd w11) nF
   have hf := hf.drew
   have h5 := h5.drew
   have h12 := h12.drew
   have hS14 : Fr (fun _ => False) w11.drew w11.drew := Fr.refl _ _
   refine qqM rfl rfl hS14 (qqM rfl rfl hS14 (hvH rfl (fun _ _ => xfld fl135_4 rfl) hS14 (hvH rfl (fun w' hS => xld on22 rfl ((h5.keep hS id).r.c 4 rfl rfl)) hS14 (hvH rfl (fun _ _ => xconv hs22 ki3 rfl (w64 (by omega) (by omega))) hS14 (hvH rfl (fun _ _ => xadd rfl rfl (w64 (by omega) (by omega))) hS14 (qqA rfl rfl hS14 (qqA rfl rfl hS14 (qqA rfl rfl hS14 (hendH (fg [(6, _), (7, _), (8, _)] ⟨rfl, rfl, rfl, ⟨⟩⟩ fun _ => (wp_ret ?_)))))))))))
   refine rp3 rfl rfl rfl rfl ?_
   exact ⟨.inl ⟨by omega, _, rfl, ⟨b12, _, _, _, rfl, .inr ⟨by omega, by omega⟩, h12.r, .a hk⟩⟩, hf⟩
  ·
   have z15 := m8.size
   have hm := rng_fr hm m8 (by omega) id
   have hG := hG.keep (fun k hk => by omega) m8 nF
   have hf := hf.step0 m8
   have h5 := h5.keep m8 id
   have h12 := h12.keep m8 id
   refine sM rfl (sv (xex20 rfl) (sv (xex21 rfl) ?_))
   refine suK (xstW h12 (lens' := [4]) sz189 (by simp [bvs_length]) rfl (by simp only [List.flatten_cons, List.flatten_nil, List.append_nil, bvs_one] <;> rfl) rfl rfl) ?_
   rintro w17 ⟨m18, h12, s16⟩
   have hm := rng_fr hm m18 (by omega) (by show ¬ (bm = b12); omega)
   have hG := hG.keep (fun k hk => by omega) m18 (fun k hk hS => by have hk := hk; have hS : k = b12 := hS; omega)
   have hf := hf.step m18 (nB (by omega))
   have h5 := h5.keep m18 (by show ¬ (b5 = b12); omega)
   refine sA rfl (send (fg [(1, _), (5, _), (10, _), (12, _)] ⟨rfl, rfl, rfl, rfl, ⟨⟩⟩ fun _ => (sreg (sv (xmkif ni186 rfl) (sA rfl (send (fg [(1, _), (5, _), (9, _), (10, _)] ⟨rfl, rfl, rfl, rfl, ⟨⟩⟩ fun _ => (lreg (sA rfl (lend (nBlock (nThen (fg [(1, _), (5, _), (9, _), (10, _), (11, _)] ⟨rfl, rfl, rfl, rfl, rfl, ⟨⟩⟩ fun _ => (wp_seq (sreg (sM rfl (sv (xneI if89 rfl) (send (fg [(1, _), (5, _), (9, _), (10, _), (11, _), (156, _)] ⟨rfl, rfl, rfl, rfl, rfl, rfl, ⟨⟩⟩ fun _ => (cyes rfl (sreg (sM rfl (sM rfl (sv (xadds rfl rfl (by decide) (by decide)) ?_))))))))))))))))))))))))
   refine sM rfl (sv (xbuildS [[_], [_]] zr168 ly168 rfl (by simp [fitAll, zs168, Value.cells]) rfl) ?_)
   refine svK (xboxS (lens := [1, 1]) rfl (by simp [])) ?_
   rintro _ w20 ⟨b162, rfl, m21, h162, e19, s19⟩
   have hm := rng_fr hm m21 (by omega) id
   have hG := hG.keep (fun k hk => by omega) m21 nF
   have hf := hf.step0 m21
   have h5 := h5.keep m21 id
   have h12 := h12.keep m21 id
   refine sv (xmkif ni166 rfl) (sA rfl (sA rfl (sA rfl (send (fg [(6, _), (7, _), (8, _)] ⟨rfl, rfl, rfl, ⟨⟩⟩ fun _ => (wp_ret (rThen ?_)))))))
   refine rp3 rfl rfl rfl rfl ?_
   exact ⟨.inr ⟨by omega, _, rfl⟩, hf⟩
 ·
  refine sA rfl (send (fg [(0, _), (1, _), (5, _), (26, _), (38, _)] ⟨rfl, rfl, rfl, rfl, rfl, ⟨⟩⟩ fun _ => (cno rfl (sreg ?_))))
  refine svP (xeql rfl rfl) (fun hc48 => ?_) (fun hc48 => ?_)
  ·
   refine sA rfl (send (fg [(0, _), (1, _), (5, _), (26, _), (47, _)] ⟨rfl, rfl, rfl, rfl, rfl, ⟨⟩⟩ fun _ => (cyes rfl ?_)))
   have hk : r.kind = 2 := kind_of_type 2 hr hc48
   obtain ⟨kk, hkk, hNa⟩ := hbody.1 (.inl hk)
   have hkk := hKp kk hkk
   have hnh := hr.2.2.1.2.1 (by omega)
   refine sreg ?_
   refine svK (xallS (lens := [256]) in192 (by simp [nm_length])) ?_
   rintro _ w23 ⟨b13, rfl, m24, h13, e22, s22⟩
   have hm := rng_fr hm m24 (by omega) id
   have hG := hG.keep (fun k hk => by omega) m24 nF
   have hf := hf.step0 m24
   have h5 := h5.keep m24 id
   refine send (fg [(0, _), (1, _), (5, _), (13, _)] ⟨rfl, rfl, rfl, rfl, ⟨⟩⟩ fun _ => (sreg (sM rfl (sM rfl ?_))))
   refine sc (xcall ca196 rfl) (c196 (b := b) (K := kk) (off := off) (e := off + len) (S := bt r.host) hms hm (by omega) hnb hkm hbl hG (by omega) hNa hnh hkk.1 hkk.2) ?_
   rintro _ w25 ⟨⟨hle52, rfl⟩ | ⟨hgt52, T52, x52, rfl⟩, m26⟩
   ·
    have z27 := m26.size
    have hm := rng_fr hm m26 (by omega) id
    have hG := hG.keep (fun k hk => by omega) m26 nF
    have hf := hf.step0 m26
    have h5 := h5.keep m26 id
    have h13 := h13.keep m26 id
    refine sM rfl (sv (xex20 rfl) (sv (xex21 rfl) ?_))
    refine suK (xstW h13 (lens' := [256]) sz192 (by simp [nm_length]) rfl (by simp only [List.flatten_cons, List.flatten_nil, List.append_nil, nm_one] <;> rfl) rfl rfl) ?_
    rintro w29 ⟨m30, h13, s28⟩
    have hm := rng_fr hm m30 (by omega) (by show ¬ (bm = b13); omega)
    have hG := hG.keep (fun k hk => by omega) m30 (fun k hk hS => by have hk := hk; have hS : k = b13 := hS; omega)
    have hf := hf.step m30 (nB (by omega))
    have h5 := h5.keep m30 (by show ¬ (b5 = b13); omega)
    refine sA rfl (send (fg [(1, _), (5, _), (10, _), (13, _)] ⟨rfl, rfl, rfl, rfl, ⟨⟩⟩ fun _ => (sreg (sv (xmkif ni190 rfl) (sA rfl (send (fg [(1, _), (5, _), (9, _), (10, _)] ⟨rfl, rfl, rfl, rfl, ⟨⟩⟩ fun _ => (lreg (sA rfl (lend (nBlock (nThen (fg [(1, _), (5, _), (9, _), (10, _), (11, _)] ⟨rfl, rfl, rfl, rfl, rfl, ⟨⟩⟩ fun _ => (wp_seq (sreg (sM rfl (sv (xneN if89 rfl) (send (fg [(1, _), (5, _), (9, _), (10, _), (11, _), (156, _)] ⟨rfl, rfl, rfl, rfl, rfl, rfl, ⟨⟩⟩ fun _ => (cno rfl (wp_skip (nThen (fg [(1, _), (5, _), (9, _)] ⟨rfl, rfl, rfl, ⟨⟩⟩ fun _ => ?_)))))))))))))))))))))))
    refine sdrawH (Fr (fun _ => False) w29.drew) [(0, .rd), (1, .rd), (2, .rd), (3, .rd), (4, .rd), (5, .rd), (6, .rd), (7, .rd), (8, .rd)] mixed (by kernel_rfl) (fun _ _ _ _ _ h => h) ?_
    have z31 : w29.drew.heap.size = w29.heap.size := rfl
    have hm := rng_fr hm (fd w29) (by omega) id
    have hG := hG.keep (fun k hk => by omega) (fd w29) nF
    have hf := hf.drew
    have h5 := h5.drew
    have h13 := h13.drew
    have hS32 : Fr (fun _ => False) w29.drew w29.drew := Fr.refl _ _
    refine qqM rfl rfl hS32 (qqM rfl rfl hS32 (hvH rfl (fun _ _ => xfld fl135_4 rfl) hS32 (hvH rfl (fun w' hS => xld on22 rfl ((h5.keep hS id).r.c 4 rfl rfl)) hS32 (hvH rfl (fun _ _ => xconv hs22 ki3 rfl (w64 (by omega) (by omega))) hS32 (hvH rfl (fun _ _ => xadd rfl rfl (w64 (by omega) (by omega))) hS32 (qqA rfl rfl hS32 (qqA rfl rfl hS32 (qqA rfl rfl hS32 (hendH (fg [(6, _), (7, _), (8, _)] ⟨rfl, rfl, rfl, ⟨⟩⟩ fun _ => (wp_ret ?_)))))))))))
    refine rp3 rfl rfl rfl rfl ?_
    exact ⟨.inl ⟨by omega, _, rfl, ⟨b13, _, _, _, rfl, .inr ⟨by omega, by omega⟩, h13.r, .ns hk⟩⟩, hf⟩
   ·
    have z33 := m26.size
    have hm := rng_fr hm m26 (by omega) id
    have hG := hG.keep (fun k hk => by omega) m26 nF
    have hf := hf.step0 m26
    have h5 := h5.keep m26 id
    have h13 := h13.keep m26 id
    refine sM rfl (sv (xex20 rfl) (sv (xex21 rfl) ?_))
    refine suK (xstW h13 (lens' := [256]) sz192 (by simp [nm_length]) rfl (by simp only [List.flatten_cons, List.flatten_nil, List.append_nil, nm_one] <;> rfl) rfl rfl) ?_
    rintro w35 ⟨m36, h13, s34⟩
    have hm := rng_fr hm m36 (by omega) (by show ¬ (bm = b13); omega)
    have hG := hG.keep (fun k hk => by omega) m36 (fun k hk hS => by have hk := hk; have hS : k = b13 := hS; omega)
    have hf := hf.step m36 (nB (by omega))
    have h5 := h5.keep m36 (by show ¬ (b5 = b13); omega)
    refine sA rfl (send (fg [(1, _), (5, _), (10, _), (13, _)] ⟨rfl, rfl, rfl, rfl, ⟨⟩⟩ fun _ => (sreg (sv (xmkif ni190 rfl) (sA rfl (send (fg [(1, _), (5, _), (9, _), (10, _)] ⟨rfl, rfl, rfl, rfl, ⟨⟩⟩ fun _ => (lreg (sA rfl (lend (nBlock (nThen (fg [(1, _), (5, _), (9, _), (10, _), (11, _)] ⟨rfl, rfl, rfl, rfl, rfl, ⟨⟩⟩ fun _ => (wp_seq (sreg (sM rfl (sv (xneI if89 rfl) (send (fg [(1, _), (5, _), (9, _), (10, _), (11, _), (156, _)] ⟨rfl, rfl, rfl, rfl, rfl, rfl, ⟨⟩⟩ fun _ => (cyes rfl (sreg (sM rfl (sM rfl (sv (xadds rfl rfl (by decide) (by decide)) ?_))))))))))))))))))))))))
    refine sM rfl (sv (xbuildS [[_], [_]] zr168 ly168 rfl (by simp [fitAll, zs168, Value.cells]) rfl) ?_)
    refine svK (xboxS (lens := [1, 1]) rfl (by simp [])) ?_
    rintro _ w38 ⟨b162, rfl, m39, h162, e37, s37⟩
    have hm := rng_fr hm m39 (by omega) id
    have hG := hG.keep (fun k hk => by omega) m39 nF
    have hf := hf.step0 m39
    have h5 := h5.keep m39 id
    refine sv (xmkif ni166 rfl) (sA rfl (sA rfl (sA rfl (send (fg [(6, _), (7, _), (8, _)] ⟨rfl, rfl, rfl, ⟨⟩⟩ fun _ => (wp_ret (rThen ?_)))))))
    refine rp3 rfl rfl rfl rfl ?_
    exact ⟨.inr ⟨by omega, _, rfl⟩, hf⟩
  ·
   refine sA rfl (send (fg [(0, _), (1, _), (5, _), (26, _), (47, _)] ⟨rfl, rfl, rfl, rfl, rfl, ⟨⟩⟩ fun _ => (cno rfl (sreg ?_))))
   refine svP (xeql rfl rfl) (fun hc57 => ?_) (fun hc57 => ?_)
   ·
    refine sA rfl (send (fg [(0, _), (1, _), (5, _), (26, _), (56, _)] ⟨rfl, rfl, rfl, rfl, rfl, ⟨⟩⟩ fun _ => (cyes rfl ?_)))
    have hk : r.kind = 3 := kind_of_type 3 hr hc57
    obtain ⟨kk, hkk, hNa⟩ := hbody.1 (.inr (.inl hk))
    have hkk := hKp kk hkk
    have hnh := hr.2.2.1.2.1 (by omega)
    refine sreg ?_
    refine svK (xallS (lens := [256]) in195 (by simp [nm_length])) ?_
    rintro _ w41 ⟨b14, rfl, m42, h14, e40, s40⟩
    have hm := rng_fr hm m42 (by omega) id
    have hG := hG.keep (fun k hk => by omega) m42 nF
    have hf := hf.step0 m42
    have h5 := h5.keep m42 id
    refine send (fg [(0, _), (1, _), (5, _), (14, _)] ⟨rfl, rfl, rfl, rfl, ⟨⟩⟩ fun _ => (sreg (sM rfl (sM rfl ?_))))
    refine sc (xcall ca197 rfl) (c197 (b := b) (K := kk) (off := off) (e := off + len) (S := bt r.host) hms hm (by omega) hnb hkm hbl hG (by omega) hNa hnh hkk.1 hkk.2) ?_
    rintro _ w43 ⟨⟨hle61, rfl⟩ | ⟨hgt61, T61, x61, rfl⟩, m44⟩
    ·
     have z45 := m44.size
     have hm := rng_fr hm m44 (by omega) id
     have hG := hG.keep (fun k hk => by omega) m44 nF
     have hf := hf.step0 m44
     have h5 := h5.keep m44 id
     have h14 := h14.keep m44 id
     refine sM rfl (sv (xex20 rfl) (sv (xex21 rfl) ?_))
     refine suK (xstW h14 (lens' := [256]) sz195 (by simp [nm_length]) rfl (by simp only [List.flatten_cons, List.flatten_nil, List.append_nil, nm_one] <;> rfl) rfl rfl) ?_
     rintro w47 ⟨m48, h14, s46⟩
     have hm := rng_fr hm m48 (by omega) (by show ¬ (bm = b14); omega)
     have hG := hG.keep (fun k hk => by omega) m48 (fun k hk hS => by have hk := hk; have hS : k = b14 := hS; omega)
     have hf := hf.step m48 (nB (by omega))
     have h5 := h5.keep m48 (by show ¬ (b5 = b14); omega)
     refine sA rfl (send (fg [(1, _), (5, _), (10, _), (14, _)] ⟨rfl, rfl, rfl, rfl, ⟨⟩⟩ fun _ => (sreg (sv (xmkif ni193 rfl) (sA rfl (send (fg [(1, _), (5, _), (9, _), (10, _)] ⟨rfl, rfl, rfl, rfl, ⟨⟩⟩ fun _ => (lreg (sA rfl (lend (nBlock (nThen (fg [(1, _), (5, _), (9, _), (10, _), (11, _)] ⟨rfl, rfl, rfl, rfl, rfl, ⟨⟩⟩ fun _ => (wp_seq (sreg (sM rfl (sv (xneN if89 rfl) (send (fg [(1, _), (5, _), (9, _), (10, _), (11, _), (156, _)] ⟨rfl, rfl, rfl, rfl, rfl, rfl, ⟨⟩⟩ fun _ => (cno rfl (wp_skip (nThen (fg [(1, _), (5, _), (9, _)] ⟨rfl, rfl, rfl, ⟨⟩⟩ fun _ => ?_)))))))))))))))))))))))
     refine sdrawH (Fr (fun _ => False) w47.drew) [(0, .rd), (1, .rd), (2, .rd), (3, .rd), (4, .rd), (5, .rd), (6, .rd), (7, .rd), (8, .rd)] mixed (by kernel_rfl) (fun _ _ _ _ _ h => h) ?_
     have z49 : w47.drew.heap.size = w47.heap.size := rfl
     have hm := rng_fr hm (fd w47) (by omega) id
     have hG := hG.keep (fun k hk => by omega) (fd w47) nF
     have hf := hf.drew
     have h5 := h5.drew
     have h14 := h14.drew
     have hS50 : Fr (fun _ => False) w47.drew w47.drew := Fr.refl _ _
     refine qqM rfl rfl hS50 (qqM rfl rfl hS50 (hvH rfl (fun _ _ => xfld fl135_4 rfl) hS50 (hvH rfl (fun w' hS => xld on22 rfl ((h5.keep hS id).r.c 4 rfl rfl)) hS50 (hvH rfl (fun _ _ => xconv hs22 ki3 rfl (w64 (by omega) (by omega))) hS50 (hvH rfl (fun _ _ => xadd rfl rfl (w64 (by omega) (by omega))) hS50 (qqA rfl rfl hS50 (qqA rfl rfl hS50 (qqA rfl rfl hS50 (hendH (fg [(6, _), (7, _), (8, _)] ⟨rfl, rfl, rfl, ⟨⟩⟩ fun _ => (wp_ret ?_)))))))))))
     refine rp3 rfl rfl rfl rfl ?_
     exact ⟨.inl ⟨by omega, _, rfl, ⟨b14, _, _, _, rfl, .inr ⟨by omega, by omega⟩, h14.r, .cname hk⟩⟩, hf⟩
    ·
     have z51 := m44.size
     have hm := rng_fr hm m44 (by omega) id
     have hG := hG.keep (fun k hk => by omega) m44 nF
     have hf := hf.step0 m44
     have h5 := h5.keep m44 id
     have h14 := h14.keep m44 id
     refine sM rfl (sv (xex20 rfl) (sv (xex21 rfl) ?_))
     refine suK (xstW h14 (lens' := [256]) sz195 (by simp [nm_length]) rfl (by simp only [List.flatten_cons, List.flatten_nil, List.append_nil, nm_one] <;> rfl) rfl rfl) ?_
     rintro w53 ⟨m54, h14, s52⟩
     have hm := rng_fr hm m54 (by omega) (by show ¬ (bm = b14); omega)
     have hG := hG.keep (fun k hk => by omega) m54 (fun k hk hS => by have hk := hk; have hS : k = b14 := hS; omega)
     have hf := hf.step m54 (nB (by omega))
     have h5 := h5.keep m54 (by show ¬ (b5 = b14); omega)
     refine sA rfl (send (fg [(1, _), (5, _), (10, _), (14, _)] ⟨rfl, rfl, rfl, rfl, ⟨⟩⟩ fun _ => (sreg (sv (xmkif ni193 rfl) (sA rfl (send (fg [(1, _), (5, _), (9, _), (10, _)] ⟨rfl, rfl, rfl, rfl, ⟨⟩⟩ fun _ => (lreg (sA rfl (lend (nBlock (nThen (fg [(1, _), (5, _), (9, _), (10, _), (11, _)] ⟨rfl, rfl, rfl, rfl, rfl, ⟨⟩⟩ fun _ => (wp_seq (sreg (sM rfl (sv (xneI if89 rfl) (send (fg [(1, _), (5, _), (9, _), (10, _), (11, _), (156, _)] ⟨rfl, rfl, rfl, rfl, rfl, rfl, ⟨⟩⟩ fun _ => (cyes rfl (sreg (sM rfl (sM rfl (sv (xadds rfl rfl (by decide) (by decide)) ?_))))))))))))))))))))))))
     refine sM rfl (sv (xbuildS [[_], [_]] zr168 ly168 rfl (by simp [fitAll, zs168, Value.cells]) rfl) ?_)
     refine svK (xboxS (lens := [1, 1]) rfl (by simp [])) ?_
     rintro _ w56 ⟨b162, rfl, m57, h162, e55, s55⟩
     have hm := rng_fr hm m57 (by omega) id
     have hG := hG.keep (fun k hk => by omega) m57 nF
     have hf := hf.step0 m57
     have h5 := h5.keep m57 id
     refine sv (xmkif ni166 rfl) (sA rfl (sA rfl (sA rfl (send (fg [(6, _), (7, _), (8, _)] ⟨rfl, rfl, rfl, ⟨⟩⟩ fun _ => (wp_ret (rThen ?_)))))))
     refine rp3 rfl rfl rfl rfl ?_
     exact ⟨.inr ⟨by omega, _, rfl⟩, hf⟩
   ·
    refine sA rfl (send (fg [(0, _), (1, _), (5, _), (26, _), (56, _)] ⟨rfl, rfl, rfl, rfl, rfl, ⟨⟩⟩ fun _ => (cno rfl (sreg ?_))))
    refine svP (xeql rfl rfl) (fun hc66 => ?_) (fun hc66 => ?_)
    ·
     refine sA rfl (send (fg [(0, _), (1, _), (5, _), (26, _), (65, _)] ⟨rfl, rfl, rfl, rfl, rfl, ⟨⟩⟩ fun _ => (cyes rfl ?_)))
     have hk : r.kind = 4 := kind_of_type 4 hr hc66
     obtain ⟨ea, eb, ⟨kk, hkk, hNa⟩, ⟨kl, hkl, hNb⟩, hsb, hbe⟩ := hbody.2.2.1 hk
     have hkk := hKp kk hkk
     have hkl := hKp kl hkl
     have hnh := hr.2.2.1.2.1 (by omega)
     have hnx := hr.2.2.1.2.2 hk
     refine sreg ?_
     refine svK (xallS (lens := [256, 256, 1, 1, 1, 1, 1]) in198 (by simp [nm_length])) ?_
     rintro _ w59 ⟨b15, rfl, m60, h15, e58, s58⟩
     have hm := rng_fr hm m60 (by omega) id
     have hG := hG.keep (fun k hk => by omega) m60 nF
     have hf := hf.step0 m60
     have h5 := h5.keep m60 id
     refine send (fg [(0, _), (1, _), (5, _), (15, _)] ⟨rfl, rfl, rfl, rfl, ⟨⟩⟩ fun _ => (sreg (sM rfl (sM rfl ?_))))
     refine sc (xcall ca198 rfl) (c198 (b := b) (Ka := kk) (Kb := kl) (off := off) (ea := ea) (eb := eb) (Sa := bt r.host) (Sb := bt r.box) hms hm (by omega) hnb hkm hbl hG (by omega) hNa hnh hkk.1 hkk.2 hNb hnx hkl.1 hkl.2 (u32lt _) (u32lt _) (u32lt _) (u32lt _) (u32lt _) hsb (by omega)) ?_
     rintro _ w61 ⟨⟨hle70, rfl⟩ | ⟨hgt70, T70, x70, rfl⟩, m62⟩
     ·
      have z63 := m62.size
      have hm := rng_fr hm m62 (by omega) id
      have hG := hG.keep (fun k hk => by omega) m62 nF
      have hf := hf.step0 m62
      have h5 := h5.keep m62 id
      have h15 := h15.keep m62 id
      refine sM rfl (sv (xex20 rfl) (sv (xex21 rfl) ?_))
      refine suK (xstW h15 (lens' := [256, 256, 1, 1, 1, 1, 1]) sz198 (by simp [nm_length]) rfl (by simp only [List.flatten_cons, List.flatten_nil, List.all_append, List.append_nil, nm_one, Bool.true_and] <;> rfl) rfl rfl) ?_
      rintro w65 ⟨m66, h15, s64⟩
      have hm := rng_fr hm m66 (by omega) (by show ¬ (bm = b15); omega)
      have hG := hG.keep (fun k hk => by omega) m66 (fun k hk hS => by have hk := hk; have hS : k = b15 := hS; omega)
      have hf := hf.step m66 (nB (by omega))
      have h5 := h5.keep m66 (by show ¬ (b5 = b15); omega)
      refine sA rfl (send (fg [(1, _), (5, _), (10, _), (15, _)] ⟨rfl, rfl, rfl, rfl, ⟨⟩⟩ fun _ => (sreg (sv (xmkif ni196 rfl) (sA rfl (send (fg [(1, _), (5, _), (9, _), (10, _)] ⟨rfl, rfl, rfl, rfl, ⟨⟩⟩ fun _ => (lreg (sA rfl (lend (nBlock (nThen (fg [(1, _), (5, _), (9, _), (10, _), (11, _)] ⟨rfl, rfl, rfl, rfl, rfl, ⟨⟩⟩ fun _ => (wp_seq (sreg (sM rfl (sv (xneN if89 rfl) (send (fg [(1, _), (5, _), (9, _), (10, _), (11, _), (156, _)] ⟨rfl, rfl, rfl, rfl, rfl, rfl, ⟨⟩⟩ fun _ => (cno rfl (wp_skip (nThen (fg [(1, _), (5, _), (9, _)] ⟨rfl, rfl, rfl, ⟨⟩⟩ fun _ => ?_)))))))))))))))))))))))
      refine sdrawH (Fr (fun _ => False) w65.drew) [(0, .rd), (1, .rd), (2, .rd), (3, .rd), (4, .rd), (5, .rd), (6, .rd), (7, .rd), (8, .rd)] mixed (by kernel_rfl) (fun _ _ _ _ _ h => h) ?_
      have z67 : w65.drew.heap.size = w65.heap.size := rfl
      have hm := rng_fr hm (fd w65) (by omega) id
      have hG := hG.keep (fun k hk => by omega) (fd w65) nF
      have hf := hf.drew
      have h5 := h5.drew
      have h15 := h15.drew
      have hS68 : Fr (fun _ => False) w65.drew w65.drew := Fr.refl _ _
      refine qqM rfl rfl hS68 (qqM rfl rfl hS68 (hvH rfl (fun _ _ => xfld fl135_4 rfl) hS68 (hvH rfl (fun w' hS => xld on22 rfl ((h5.keep hS id).r.c 4 rfl rfl)) hS68 (hvH rfl (fun _ _ => xconv hs22 ki3 rfl (w64 (by omega) (by omega))) hS68 (hvH rfl (fun _ _ => xadd rfl rfl (w64 (by omega) (by omega))) hS68 (qqA rfl rfl hS68 (qqA rfl rfl hS68 (qqA rfl rfl hS68 (hendH (fg [(6, _), (7, _), (8, _)] ⟨rfl, rfl, rfl, ⟨⟩⟩ fun _ => (wp_ret ?_)))))))))))
      refine rp3 rfl rfl rfl rfl ?_
      exact ⟨.inl ⟨by omega, _, rfl, ⟨b15, _, _, _, rfl, .inr ⟨by omega, by omega⟩, h15.r, .soa hk⟩⟩, hf⟩
     ·
      have z69 := m62.size
      have hm := rng_fr hm m62 (by omega) id
      have hG := hG.keep (fun k hk => by omega) m62 nF
      have hf := hf.step0 m62
      have h5 := h5.keep m62 id
      have h15 := h15.keep m62 id
      refine sM rfl (sv (xex20 rfl) (sv (xex21 rfl) ?_))
      refine suK (xstW h15 (lens' := [256, 256, 1, 1, 1, 1, 1]) sz198 (by simp [nm_length]) rfl (by simp only [List.flatten_cons, List.flatten_nil, List.all_append, List.append_nil, nm_one, Bool.true_and] <;> rfl) rfl rfl) ?_
      rintro w71 ⟨m72, h15, s70⟩
      have hm := rng_fr hm m72 (by omega) (by show ¬ (bm = b15); omega)
      have hG := hG.keep (fun k hk => by omega) m72 (fun k hk hS => by have hk := hk; have hS : k = b15 := hS; omega)
      have hf := hf.step m72 (nB (by omega))
      have h5 := h5.keep m72 (by show ¬ (b5 = b15); omega)
      refine sA rfl (send (fg [(1, _), (5, _), (10, _), (15, _)] ⟨rfl, rfl, rfl, rfl, ⟨⟩⟩ fun _ => (sreg (sv (xmkif ni196 rfl) (sA rfl (send (fg [(1, _), (5, _), (9, _), (10, _)] ⟨rfl, rfl, rfl, rfl, ⟨⟩⟩ fun _ => (lreg (sA rfl (lend (nBlock (nThen (fg [(1, _), (5, _), (9, _), (10, _), (11, _)] ⟨rfl, rfl, rfl, rfl, rfl, ⟨⟩⟩ fun _ => (wp_seq (sreg (sM rfl (sv (xneI if89 rfl) (send (fg [(1, _), (5, _), (9, _), (10, _), (11, _), (156, _)] ⟨rfl, rfl, rfl, rfl, rfl, rfl, ⟨⟩⟩ fun _ => (cyes rfl (sreg (sM rfl (sM rfl (sv (xadds rfl rfl (by decide) (by decide)) ?_))))))))))))))))))))))))
      refine sM rfl (sv (xbuildS [[_], [_]] zr168 ly168 rfl (by simp [fitAll, zs168, Value.cells]) rfl) ?_)
      refine svK (xboxS (lens := [1, 1]) rfl (by simp [])) ?_
      rintro _ w74 ⟨b162, rfl, m75, h162, e73, s73⟩
      have hm := rng_fr hm m75 (by omega) id
      have hG := hG.keep (fun k hk => by omega) m75 nF
      have hf := hf.step0 m75
      have h5 := h5.keep m75 id
      refine sv (xmkif ni166 rfl) (sA rfl (sA rfl (sA rfl (send (fg [(6, _), (7, _), (8, _)] ⟨rfl, rfl, rfl, ⟨⟩⟩ fun _ => (wp_ret (rThen ?_)))))))
      refine rp3 rfl rfl rfl rfl ?_
      exact ⟨.inr ⟨by omega, _, rfl⟩, hf⟩
    ·
     refine sA rfl (send (fg [(0, _), (1, _), (5, _), (26, _), (65, _)] ⟨rfl, rfl, rfl, rfl, rfl, ⟨⟩⟩ fun _ => (cno rfl (sreg ?_))))
     refine svP (xeql rfl rfl) (fun hc75 => ?_) (fun hc75 => ?_)
     ·
      refine sA rfl (send (fg [(0, _), (1, _), (5, _), (26, _), (74, _)] ⟨rfl, rfl, rfl, rfl, rfl, ⟨⟩⟩ fun _ => (cyes rfl ?_)))
      have hk : r.kind = 5 := kind_of_type 5 hr hc75
      obtain ⟨kk, hkk, hNa⟩ := hbody.1 (.inr (.inr hk))
      have hkk := hKp kk hkk
      have hnh := hr.2.2.1.2.1 (by omega)
      refine sreg ?_
      refine svK (xallS (lens := [256]) in201 (by simp [nm_length])) ?_
      rintro _ w77 ⟨b16, rfl, m78, h16, e76, s76⟩
      have hm := rng_fr hm m78 (by omega) id
      have hG := hG.keep (fun k hk => by omega) m78 nF
      have hf := hf.step0 m78
      have h5 := h5.keep m78 id
      refine send (fg [(0, _), (1, _), (5, _), (16, _)] ⟨rfl, rfl, rfl, rfl, ⟨⟩⟩ fun _ => (sreg (sM rfl (sM rfl ?_))))
      refine sc (xcall ca199 rfl) (c199 (b := b) (K := kk) (off := off) (e := off + len) (S := bt r.host) hms hm (by omega) hnb hkm hbl hG (by omega) hNa hnh hkk.1 hkk.2) ?_
      rintro _ w79 ⟨⟨hle79, rfl⟩ | ⟨hgt79, T79, x79, rfl⟩, m80⟩
      ·
       have z81 := m80.size
       have hm := rng_fr hm m80 (by omega) id
       have hG := hG.keep (fun k hk => by omega) m80 nF
       have hf := hf.step0 m80
       have h5 := h5.keep m80 id
       have h16 := h16.keep m80 id
       refine sM rfl (sv (xex20 rfl) (sv (xex21 rfl) ?_))
       refine suK (xstW h16 (lens' := [256]) sz201 (by simp [nm_length]) rfl (by simp only [List.flatten_cons, List.flatten_nil, List.append_nil, nm_one] <;> rfl) rfl rfl) ?_
       rintro w83 ⟨m84, h16, s82⟩
       have hm := rng_fr hm m84 (by omega) (by show ¬ (bm = b16); omega)
       have hG := hG.keep (fun k hk => by omega) m84 (fun k hk hS => by have hk := hk; have hS : k = b16 := hS; omega)
       have hf := hf.step m84 (nB (by omega))
       have h5 := h5.keep m84 (by show ¬ (b5 = b16); omega)
       refine sA rfl (send (fg [(1, _), (5, _), (10, _), (16, _)] ⟨rfl, rfl, rfl, rfl, ⟨⟩⟩ fun _ => (sreg (sv (xmkif ni199 rfl) (sA rfl (send (fg [(1, _), (5, _), (9, _), (10, _)] ⟨rfl, rfl, rfl, rfl, ⟨⟩⟩ fun _ => (lreg (sA rfl (lend (nBlock (nThen (fg [(1, _), (5, _), (9, _), (10, _), (11, _)] ⟨rfl, rfl, rfl, rfl, rfl, ⟨⟩⟩ fun _ => (wp_seq (sreg (sM rfl (sv (xneN if89 rfl) (send (fg [(1, _), (5, _), (9, _), (10, _), (11, _), (156, _)] ⟨rfl, rfl, rfl, rfl, rfl, rfl, ⟨⟩⟩ fun _ => (cno rfl (wp_skip (nThen (fg [(1, _), (5, _), (9, _)] ⟨rfl, rfl, rfl, ⟨⟩⟩ fun _ => ?_)))))))))))))))))))))))
       refine sdrawH (Fr (fun _ => False) w83.drew) [(0, .rd), (1, .rd), (2, .rd), (3, .rd), (4, .rd), (5, .rd), (6, .rd), (7, .rd), (8, .rd)] mixed (by kernel_rfl) (fun _ _ _ _ _ h => h) ?_
       have z85 : w83.drew.heap.size = w83.heap.size := rfl
       have hm := rng_fr hm (fd w83) (by omega) id
       have hG := hG.keep (fun k hk => by omega) (fd w83) nF
       have hf := hf.drew
       have h5 := h5.drew
       have h16 := h16.drew
       have hS86 : Fr (fun _ => False) w83.drew w83.drew := Fr.refl _ _
       refine qqM rfl rfl hS86 (qqM rfl rfl hS86 (hvH rfl (fun _ _ => xfld fl135_4 rfl) hS86 (hvH rfl (fun w' hS => xld on22 rfl ((h5.keep hS id).r.c 4 rfl rfl)) hS86 (hvH rfl (fun _ _ => xconv hs22 ki3 rfl (w64 (by omega) (by omega))) hS86 (hvH rfl (fun _ _ => xadd rfl rfl (w64 (by omega) (by omega))) hS86 (qqA rfl rfl hS86 (qqA rfl rfl hS86 (qqA rfl rfl hS86 (hendH (fg [(6, _), (7, _), (8, _)] ⟨rfl, rfl, rfl, ⟨⟩⟩ fun _ => (wp_ret ?_)))))))))))
       refine rp3 rfl rfl rfl rfl ?_
       exact ⟨.inl ⟨by omega, _, rfl, ⟨b16, _, _, _, rfl, .inr ⟨by omega, by omega⟩, h16.r, .ptr hk⟩⟩, hf⟩
      ·
       have z87 := m80.size
       have hm := rng_fr hm m80 (by omega) id
       have hG := hG.keep (fun k hk => by omega) m80 nF
       have hf := hf.step0 m80
       have h5 := h5.keep m80 id
       have h16 := h16.keep m80 id
       refine sM rfl (sv (xex20 rfl) (sv (xex21 rfl) ?_))
       refine suK (xstW h16 (lens' := [256]) sz201 (by simp [nm_length]) rfl (by simp only [List.flatten_cons, List.flatten_nil, List.append_nil, nm_one] <;> rfl) rfl rfl) ?_
       rintro w89 ⟨m90, h16, s88⟩
       have hm := rng_fr hm m90 (by omega) (by show ¬ (bm = b16); omega)
       have hG := hG.keep (fun k hk => by omega) m90 (fun k hk hS => by have hk := hk; have hS : k = b16 := hS; omega)
       have hf := hf.step m90 (nB (by omega))
       have h5 := h5.keep m90 (by show ¬ (b5 = b16); omega)
       refine sA rfl (send (fg [(1, _), (5, _), (10, _), (16, _)] ⟨rfl, rfl, rfl, rfl, ⟨⟩⟩ fun _ => (sreg (sv (xmkif ni199 rfl) (sA rfl (send (fg [(1, _), (5, _), (9, _), (10, _)] ⟨rfl, rfl, rfl, rfl, ⟨⟩⟩ fun _ => (lreg (sA rfl (lend (nBlock (nThen (fg [(1, _), (5, _), (9, _), (10, _), (11, _)] ⟨rfl, rfl, rfl, rfl, rfl, ⟨⟩⟩ fun _ => (wp_seq (sreg (sM rfl (sv (xneI if89 rfl) (send (fg [(1, _), (5, _), (9, _), (10, _), (11, _), (156, _)] ⟨rfl, rfl, rfl, rfl, rfl, rfl, ⟨⟩⟩ fun _ => (cyes rfl (sreg (sM rfl (sM rfl (sv (xadds rfl rfl (by decide) (by decide)) ?_))))))))))))))))))))))))
       refine sM rfl (sv (xbuildS [[_], [_]] zr168 ly168 rfl (by simp [fitAll, zs168, Value.cells]) rfl) ?_)
       refine svK (xboxS (lens := [1, 1]) rfl (by simp [])) ?_
       rintro _ w92 ⟨b162, rfl, m93, h162, e91, s91⟩
       have hm := rng_fr hm m93 (by omega) id
       have hG := hG.keep (fun k hk => by omega) m93 nF
       have hf := hf.step0 m93
       have h5 := h5.keep m93 id
       refine sv (xmkif ni166 rfl) (sA rfl (sA rfl (sA rfl (send (fg [(6, _), (7, _), (8, _)] ⟨rfl, rfl, rfl, ⟨⟩⟩ fun _ => (wp_ret (rThen ?_)))))))
       refine rp3 rfl rfl rfl rfl ?_
       exact ⟨.inr ⟨by omega, _, rfl⟩, hf⟩
     ·
      refine sA rfl (send (fg [(0, _), (1, _), (5, _), (26, _), (74, _)] ⟨rfl, rfl, rfl, rfl, rfl, ⟨⟩⟩ fun _ => (cno rfl (sreg ?_))))
      refine svP (xeql rfl rfl) (fun hc84 => ?_) (fun hc84 => ?_)
      ·
       refine sA rfl (send (fg [(0, _), (1, _), (5, _), (26, _), (83, _)] ⟨rfl, rfl, rfl, rfl, rfl, ⟨⟩⟩ fun _ => (cyes rfl ?_)))
       have hk : r.kind = 6 := kind_of_type 6 hr hc84
       obtain ⟨hsb, hN0⟩ := hbody.2.1 hk
       rw [← be16_mod] at hsb
       obtain ⟨kk, hkk, hNa⟩ := hN0
       have hkk := hKp kk hkk
       have hnh := hr.2.2.1.2.1 (by omega)
       refine sreg ?_
       refine svK (xallS (lens := [1, 256]) in204 (by simp [nm_length])) ?_
       rintro _ w95 ⟨b17, rfl, m96, h17, e94, s94⟩
       have hm := rng_fr hm m96 (by omega) id
       have hG := hG.keep (fun k hk => by omega) m96 nF
       have hf := hf.step0 m96
       have h5 := h5.keep m96 id
       refine send (fg [(0, _), (1, _), (5, _), (17, _)] ⟨rfl, rfl, rfl, rfl, ⟨⟩⟩ fun _ => (sreg (sM rfl (sM rfl ?_))))
       refine sc (xcall ca200 rfl) (c200 (b := b) (K := kk) (off := off) (e := off + len) (S := bt r.host) (ka := r.n1.toNat % 65536) hms hm (by omega) hnb hkm hbl hG (by omega) (m65 _) hsb hNa hnh hkk.1 hkk.2) ?_
       rintro _ w97 ⟨⟨hle88, rfl⟩ | ⟨hgt88, T88, x88, rfl⟩, m98⟩
       ·
        have z99 := m98.size
        have hm := rng_fr hm m98 (by omega) id
        have hG := hG.keep (fun k hk => by omega) m98 nF
        have hf := hf.step0 m98
        have h5 := h5.keep m98 id
        have h17 := h17.keep m98 id
        refine sM rfl (sv (xex20 rfl) (sv (xex21 rfl) ?_))
        refine suK (xstW h17 (lens' := [1, 256]) sz204 (by simp [nm_length]) rfl (by simp only [List.flatten_cons, List.flatten_nil, List.all_append, List.append_nil, nm_one] <;> rfl) rfl rfl) ?_
        rintro w101 ⟨m102, h17, s100⟩
        have hm := rng_fr hm m102 (by omega) (by show ¬ (bm = b17); omega)
        have hG := hG.keep (fun k hk => by omega) m102 (fun k hk hS => by have hk := hk; have hS : k = b17 := hS; omega)
        have hf := hf.step m102 (nB (by omega))
        have h5 := h5.keep m102 (by show ¬ (b5 = b17); omega)
        refine sA rfl (send (fg [(1, _), (5, _), (10, _), (17, _)] ⟨rfl, rfl, rfl, rfl, ⟨⟩⟩ fun _ => (sreg (sv (xmkif ni202 rfl) (sA rfl (send (fg [(1, _), (5, _), (9, _), (10, _)] ⟨rfl, rfl, rfl, rfl, ⟨⟩⟩ fun _ => (lreg (sA rfl (lend (nBlock (nThen (fg [(1, _), (5, _), (9, _), (10, _), (11, _)] ⟨rfl, rfl, rfl, rfl, rfl, ⟨⟩⟩ fun _ => (wp_seq (sreg (sM rfl (sv (xneN if89 rfl) (send (fg [(1, _), (5, _), (9, _), (10, _), (11, _), (156, _)] ⟨rfl, rfl, rfl, rfl, rfl, rfl, ⟨⟩⟩ fun _ => (cno rfl (wp_skip (nThen (fg [(1, _), (5, _), (9, _)] ⟨rfl, rfl, rfl, ⟨⟩⟩ fun _ => ?_)))))))))))))))))))))))
        refine sdrawH (Fr (fun _ => False) w101.drew) [(0, .rd), (1, .rd), (2, .rd), (3, .rd), (4, .rd), (5, .rd), (6, .rd), (7, .rd), (8, .rd)] mixed (by kernel_rfl) (fun _ _ _ _ _ h => h) ?_
        have z103 : w101.drew.heap.size = w101.heap.size := rfl
        have hm := rng_fr hm (fd w101) (by omega) id
        have hG := hG.keep (fun k hk => by omega) (fd w101) nF
        have hf := hf.drew
        have h5 := h5.drew
        have h17 := h17.drew
        have hS104 : Fr (fun _ => False) w101.drew w101.drew := Fr.refl _ _
        refine qqM rfl rfl hS104 (qqM rfl rfl hS104 (hvH rfl (fun _ _ => xfld fl135_4 rfl) hS104 (hvH rfl (fun w' hS => xld on22 rfl ((h5.keep hS id).r.c 4 rfl rfl)) hS104 (hvH rfl (fun _ _ => xconv hs22 ki3 rfl (w64 (by omega) (by omega))) hS104 (hvH rfl (fun _ _ => xadd rfl rfl (w64 (by omega) (by omega))) hS104 (qqA rfl rfl hS104 (qqA rfl rfl hS104 (qqA rfl rfl hS104 (hendH (fg [(6, _), (7, _), (8, _)] ⟨rfl, rfl, rfl, ⟨⟩⟩ fun _ => (wp_ret ?_)))))))))))
        refine rp3 rfl rfl rfl rfl ?_
        exact ⟨.inl ⟨by omega, _, rfl, ⟨b17, _, _, _, rfl, .inr ⟨by omega, by omega⟩, h17.r, .mx hk⟩⟩, hf⟩
       ·
        have z105 := m98.size
        have hm := rng_fr hm m98 (by omega) id
        have hG := hG.keep (fun k hk => by omega) m98 nF
        have hf := hf.step0 m98
        have h5 := h5.keep m98 id
        have h17 := h17.keep m98 id
        refine sM rfl (sv (xex20 rfl) (sv (xex21 rfl) ?_))
        refine suK (xstW h17 (lens' := [1, 256]) sz204 (by simp [nm_length]) rfl (by simp only [List.flatten_cons, List.flatten_nil, List.all_append, List.append_nil, nm_one] <;> rfl) rfl rfl) ?_
        rintro w107 ⟨m108, h17, s106⟩
        have hm := rng_fr hm m108 (by omega) (by show ¬ (bm = b17); omega)
        have hG := hG.keep (fun k hk => by omega) m108 (fun k hk hS => by have hk := hk; have hS : k = b17 := hS; omega)
        have hf := hf.step m108 (nB (by omega))
        have h5 := h5.keep m108 (by show ¬ (b5 = b17); omega)
        refine sA rfl (send (fg [(1, _), (5, _), (10, _), (17, _)] ⟨rfl, rfl, rfl, rfl, ⟨⟩⟩ fun _ => (sreg (sv (xmkif ni202 rfl) (sA rfl (send (fg [(1, _), (5, _), (9, _), (10, _)] ⟨rfl, rfl, rfl, rfl, ⟨⟩⟩ fun _ => (lreg (sA rfl (lend (nBlock (nThen (fg [(1, _), (5, _), (9, _), (10, _), (11, _)] ⟨rfl, rfl, rfl, rfl, rfl, ⟨⟩⟩ fun _ => (wp_seq (sreg (sM rfl (sv (xneI if89 rfl) (send (fg [(1, _), (5, _), (9, _), (10, _), (11, _), (156, _)] ⟨rfl, rfl, rfl, rfl, rfl, rfl, ⟨⟩⟩ fun _ => (cyes rfl (sreg (sM rfl (sM rfl (sv (xadds rfl rfl (by decide) (by decide)) ?_))))))))))))))))))))))))
        refine sM rfl (sv (xbuildS [[_], [_]] zr168 ly168 rfl (by simp [fitAll, zs168, Value.cells]) rfl) ?_)
        refine svK (xboxS (lens := [1, 1]) rfl (by simp [])) ?_
        rintro _ w110 ⟨b162, rfl, m111, h162, e109, s109⟩
        have hm := rng_fr hm m111 (by omega) id
        have hG := hG.keep (fun k hk => by omega) m111 nF
        have hf := hf.step0 m111
        have h5 := h5.keep m111 id
        refine sv (xmkif ni166 rfl) (sA rfl (sA rfl (sA rfl (send (fg [(6, _), (7, _), (8, _)] ⟨rfl, rfl, rfl, ⟨⟩⟩ fun _ => (wp_ret (rThen ?_)))))))
        refine rp3 rfl rfl rfl rfl ?_
        exact ⟨.inr ⟨by omega, _, rfl⟩, hf⟩
      ·
       refine sA rfl (send (fg [(0, _), (1, _), (5, _), (26, _), (83, _)] ⟨rfl, rfl, rfl, rfl, rfl, ⟨⟩⟩ fun _ => (cno rfl (sreg ?_))))
       refine svP (xeql rfl rfl) (fun hc93 => ?_) (fun hc93 => ?_)
       ·
        refine sA rfl (send (fg [(0, _), (1, _), (5, _), (26, _), (92, _)] ⟨rfl, rfl, rfl, rfl, rfl, ⟨⟩⟩ fun _ => (cyes rfl ?_)))
        have hk : r.kind = 7 := kind_of_type 7 hr hc93
        obtain ⟨hsb, hbe⟩ := hbody.simple (.inr (.inl hk)) (bodyL7 hk)
        obtain rfl : len = (textsL r.texts).length := by omega
        refine sreg ?_
        refine svK (xallS (lens := [1]) in207 (by simp [])) ?_
        rintro _ w113 ⟨b18, rfl, m114, h18, e112, s112⟩
        have hm := rng_fr hm m114 (by omega) id
        have hG := hG.keep (fun k hk => by omega) m114 nF
        have hf := hf.step0 m114
        have h5 := h5.keep m114 id
        refine send (fg [(0, _), (1, _), (5, _), (18, _)] ⟨rfl, rfl, rfl, rfl, ⟨⟩⟩ fun _ => (sreg (sM rfl (sM rfl (sv (xfld fl135_4 rfl) (sv (xld on22 rfl (h5.r.c 4 rfl rfl)) ?_))))))
        refine sc (xcall ca201 rfl) (c201 (b := b) (off := off) (ts := r.texts) hms hm (by omega) hnb hkm hbl hG (by omega) (hr.2.2.2.2.1 hk) hsb (by omega) (by omega) hon) ?_
        rintro _ w115 ⟨⟨hle99, v99, rfl, L99⟩ | ⟨hgt99, T99, x99, rfl⟩, m116⟩
        ·
         have z117 := m116.size
         have hm := rng_fr hm m116 (by omega) id
         have hG := hG.keep (fun k hk => by omega) m116 nF
         have hf := hf.step0 m116
         have h5 := h5.keep m116 id
         have h18 := h18.keep m116 id
         obtain ⟨aq99, cq99, rfl⟩ := L99.form
         refine sM rfl (sv (xex20 rfl) (sv (xex21 rfl) ?_))
         refine suK (xstW h18 (lens' := [1]) sz207 (by simp []) rfl (by simp only [List.flatten_cons, List.flatten_nil, List.append_nil] <;> rfl) rfl rfl) ?_
         rintro w119 ⟨m120, h18, s118⟩
         have hm := rng_fr hm m120 (by omega) (by show ¬ (bm = b18); omega)
         have hG := hG.keep (fun k hk => by omega) m120 (fun k hk hS => by have hk := hk; have hS : k = b18 := hS; omega)
         have hf := hf.step m120 (nB (by omega))
         have h5 := h5.keep m120 (by show ¬ (b5 = b18); omega)
         have L99 := L99.keep text_st (lNo (by omega)) m120 (fun k hk hS => by have hk := Ub.num (U := NoU) (n := 0) (fun _ h => h.elim) hk; have hS : k = b18 := hS; omega)
         refine sA rfl (send (fg [(1, _), (5, _), (10, _), (18, _)] ⟨rfl, rfl, rfl, rfl, ⟨⟩⟩ fun _ => (sreg (sv (xmkif ni205 rfl) (sA rfl (send (fg [(1, _), (5, _), (9, _), (10, _)] ⟨rfl, rfl, rfl, rfl, ⟨⟩⟩ fun _ => (lreg (sA rfl (lend (nBlock (nThen (fg [(1, _), (5, _), (9, _), (10, _), (11, _)] ⟨rfl, rfl, rfl, rfl, rfl, ⟨⟩⟩ fun _ => (wp_seq (sreg (sM rfl (sv (xneN if89 rfl) (send (fg [(1, _), (5, _), (9, _), (10, _), (11, _), (156, _)] ⟨rfl, rfl, rfl, rfl, rfl, rfl, ⟨⟩⟩ fun _ => (cno rfl (wp_skip (nThen (fg [(1, _), (5, _), (9, _)] ⟨rfl, rfl, rfl, ⟨⟩⟩ fun _ => ?_)))))))))))))))))))))))
         refine sdrawH (Fr (fun _ => False) w119.drew) [(0, .rd), (1, .rd), (2, .rd), (3, .rd), (4, .rd), (5, .rd), (6, .rd), (7, .rd), (8, .rd)] mixed (by kernel_rfl) (fun _ _ _ _ _ h => h) ?_
         have z121 : w119.drew.heap.size = w119.heap.size := rfl
         have hm := rng_fr hm (fd w119) (by omega) id
         have hG := hG.keep (fun k hk => by omega) (fd w119) nF
         have hf := hf.drew
         have h5 := h5.drew
         have h18 := h18.drew
         have L99 := L99.keep text_st (lNo (by omega)) (fd w119) nF
         have hS122 : Fr (fun _ => False) w119.drew w119.drew := Fr.refl _ _
         refine qqM rfl rfl hS122 (qqM rfl rfl hS122 (hvH rfl (fun _ _ => xfld fl135_4 rfl) hS122 (hvH rfl (fun w' hS => xld on22 rfl ((h5.keep hS id).r.c 4 rfl rfl)) hS122 (hvH rfl (fun _ _ => xconv hs22 ki3 rfl (w64 (by omega) (by omega))) hS122 (hvH rfl (fun _ _ => xadd rfl rfl (w64 (by omega) (by omega))) hS122 (qqA rfl rfl hS122 (qqA rfl rfl hS122 (qqA rfl rfl hS122 (hendH (fg [(6, _), (7, _), (8, _)] ⟨rfl, rfl, rfl, ⟨⟩⟩ fun _ => (wp_ret ?_)))))))))))
         refine rp3 rfl rfl rfl rfl ?_
         exact ⟨.inl ⟨by omega, _, rfl, ⟨b18, _, _, _, rfl, .inr ⟨by omega, by omega⟩, h18.r, .txt hk (L99.mono text_gr (fun k hk => hk.elim .inl (fun h => .inr ⟨by omega, by omega⟩)))⟩⟩, hf⟩
        ·
         have z123 := m116.size
         have hm := rng_fr hm m116 (by omega) id
         have hG := hG.keep (fun k hk => by omega) m116 nF
         have hf := hf.step0 m116
         have h5 := h5.keep m116 id
         have h18 := h18.keep m116 id
         refine sM rfl (sv (xex20 rfl) (sv (xex21 rfl) ?_))
         refine suK (xstW h18 (lens' := [1]) sz207 (by simp []) rfl (by simp only [List.flatten_cons, List.flatten_nil, List.append_nil] <;> rfl) rfl rfl) ?_
         rintro w125 ⟨m126, h18, s124⟩
         have hm := rng_fr hm m126 (by omega) (by show ¬ (bm = b18); omega)
         have hG := hG.keep (fun k hk => by omega) m126 (fun k hk hS => by have hk := hk; have hS : k = b18 := hS; omega)
         have hf := hf.step m126 (nB (by omega))
         have h5 := h5.keep m126 (by show ¬ (b5 = b18); omega)
         refine sA rfl (send (fg [(1, _), (5, _), (10, _), (18, _)] ⟨rfl, rfl, rfl, rfl, ⟨⟩⟩ fun _ => (sreg (sv (xmkif ni205 rfl) (sA rfl (send (fg [(1, _), (5, _), (9, _), (10, _)] ⟨rfl, rfl, rfl, rfl, ⟨⟩⟩ fun _ => (lreg (sA rfl (lend (nBlock (nThen (fg [(1, _), (5, _), (9, _), (10, _), (11, _)] ⟨rfl, rfl, rfl, rfl, rfl, ⟨⟩⟩ fun _ => (wp_seq (sreg (sM rfl (sv (xneI if89 rfl) (send (fg [(1, _), (5, _), (9, _), (10, _), (11, _), (156, _)] ⟨rfl, rfl, rfl, rfl, rfl, rfl, ⟨⟩⟩ fun _ => (cyes rfl (sreg (sM rfl (sM rfl (sv (xadds rfl rfl (by decide) (by decide)) ?_))))))))))))))))))))))))
         refine sM rfl (sv (xbuildS [[_], [_]] zr168 ly168 rfl (by simp [fitAll, zs168, Value.cells]) rfl) ?_)
         refine svK (xboxS (lens := [1, 1]) rfl (by simp [])) ?_
         rintro _ w128 ⟨b162, rfl, m129, h162, e127, s127⟩
         have hm := rng_fr hm m129 (by omega) id
         have hG := hG.keep (fun k hk => by omega) m129 nF
         have hf := hf.step0 m129
         have h5 := h5.keep m129 id
         refine sv (xmkif ni166 rfl) (sA rfl (sA rfl (sA rfl (send (fg [(6, _), (7, _), (8, _)] ⟨rfl, rfl, rfl, ⟨⟩⟩ fun _ => (wp_ret (rThen ?_)))))))
         refine rp3 rfl rfl rfl rfl ?_
         exact ⟨.inr ⟨by omega, _, rfl⟩, hf⟩
       ·
        refine sA rfl (send (fg [(0, _), (1, _), (5, _), (26, _), (92, _)] ⟨rfl, rfl, rfl, rfl, rfl, ⟨⟩⟩ fun _ => (cno rfl (sreg ?_))))
        refine svP (xeql rfl rfl) (fun hc104 => ?_) (fun hc104 => ?_)
        ·
         refine sA rfl (send (fg [(0, _), (1, _), (5, _), (26, _), (103, _)] ⟨rfl, rfl, rfl, rfl, rfl, ⟨⟩⟩ fun _ => (cyes rfl ?_)))
         have hk : r.kind = 8 := kind_of_type 8 hr hc104
         obtain ⟨hsb, hbe⟩ := hbody.simple (.inr (.inr (.inl hk))) (bodyL8 hk)
         rw [fixedL_length] at hbe
         refine sreg ?_
         refine svK (xallS (lens := [16]) in211 (by simp [bvs_length])) ?_
         rintro _ w131 ⟨b19, rfl, m132, h19, e130, s130⟩
         have hm := rng_fr hm m132 (by omega) id
         have hG := hG.keep (fun k hk => by omega) m132 nF
         have hf := hf.step0 m132
         have h5 := h5.keep m132 id
         refine send (fg [(0, _), (1, _), (5, _), (19, _)] ⟨rfl, rfl, rfl, rfl, ⟨⟩⟩ fun _ => (sreg (sM rfl (sM rfl ?_))))
         refine sc (xcall ca202 rfl) (c202 (b := b) (off := off) (xs := fixedL r.data 16) hms hm (by omega) hnb hkm hbl hG (by omega) (fixedL_length _ _) hsb (by omega) h0) ?_
         rintro _ w133 ⟨⟨hle108, rfl⟩ | ⟨hgt108, T108, x108, rfl⟩, m134⟩
         ·
          have z135 := m134.size
          have hm := rng_fr hm m134 (by omega) id
          have hG := hG.keep (fun k hk => by omega) m134 nF
          have hf := hf.step0 m134
          have h5 := h5.keep m134 id
          have h19 := h19.keep m134 id
          refine sM rfl (sv (xex20 rfl) (sv (xex21 rfl) ?_))
          refine suK (xstW h19 (lens' := [16]) sz211 (by simp [bvs_length, fixedL_length]) rfl (by simp only [List.flatten_cons, List.flatten_nil, List.append_nil, bvs_one] <;> rfl) rfl rfl) ?_
          rintro w137 ⟨m138, h19, s136⟩
          have hm := rng_fr hm m138 (by omega) (by show ¬ (bm = b19); omega)
          have hG := hG.keep (fun k hk => by omega) m138 (fun k hk hS => by have hk := hk; have hS : k = b19 := hS; omega)
          have hf := hf.step m138 (nB (by omega))
          have h5 := h5.keep m138 (by show ¬ (b5 = b19); omega)
          refine sA rfl (send (fg [(1, _), (5, _), (10, _), (19, _)] ⟨rfl, rfl, rfl, rfl, ⟨⟩⟩ fun _ => (sreg (sv (xmkif ni208 rfl) (sA rfl (send (fg [(1, _), (5, _), (9, _), (10, _)] ⟨rfl, rfl, rfl, rfl, ⟨⟩⟩ fun _ => (lreg (sA rfl (lend (nBlock (nThen (fg [(1, _), (5, _), (9, _), (10, _), (11, _)] ⟨rfl, rfl, rfl, rfl, rfl, ⟨⟩⟩ fun _ => (wp_seq (sreg (sM rfl (sv (xneN if89 rfl) (send (fg [(1, _), (5, _), (9, _), (10, _), (11, _), (156, _)] ⟨rfl, rfl, rfl, rfl, rfl, rfl, ⟨⟩⟩ fun _ => (cno rfl (wp_skip (nThen (fg [(1, _), (5, _), (9, _)] ⟨rfl, rfl, rfl, ⟨⟩⟩ fun _ => ?_)))))))))))))))))))))))
          refine sdrawH (Fr (fun _ => False) w137.drew) [(0, .rd), (1, .rd), (2, .rd), (3, .rd), (4, .rd), (5, .rd), (6, .rd), (7, .rd), (8, .rd)] mixed (by kernel_rfl) (fun _ _ _ _ _ h => h) ?_
          have z139 : w137.drew.heap.size = w137.heap.size := rfl
          have hm := rng_fr hm (fd w137) (by omega) id
          have hG := hG.keep (fun k hk => by omega) (fd w137) nF
          have hf := hf.drew
          have h5 := h5.drew
          have h19 := h19.drew
          have hS140 : Fr (fun _ => False) w137.drew w137.drew := Fr.refl _ _
          refine qqM rfl rfl hS140 (qqM rfl rfl hS140 (hvH rfl (fun _ _ => xfld fl135_4 rfl) hS140 (hvH rfl (fun w' hS => xld on22 rfl ((h5.keep hS id).r.c 4 rfl rfl)) hS140 (hvH rfl (fun _ _ => xconv hs22 ki3 rfl (w64 (by omega) (by omega))) hS140 (hvH rfl (fun _ _ => xadd rfl rfl (w64 (by omega) (by omega))) hS140 (qqA rfl rfl hS140 (qqA rfl rfl hS140 (qqA rfl rfl hS140 (hendH (fg [(6, _), (7, _), (8, _)] ⟨rfl, rfl, rfl, ⟨⟩⟩ fun _ => (wp_ret ?_)))))))))))
          refine rp3 rfl rfl rfl rfl ?_
          exact ⟨.inl ⟨by omega, _, rfl, ⟨b19, _, _, _, rfl, .inr ⟨by omega, by omega⟩, h19.r, .aaaa hk⟩⟩, hf⟩
         ·
          have z141 := m134.size
          have hm := rng_fr hm m134 (by omega) id
          have hG := hG.keep (fun k hk => by omega) m134 nF
          have hf := hf.step0 m134
          have h5 := h5.keep m134 id
          have h19 := h19.keep m134 id
          refine sM rfl (sv (xex20 rfl) (sv (xex21 rfl) ?_))
          refine suK (xstW h19 (lens' := [16]) sz211 (by simp [bvs_length]) rfl (by simp only [List.flatten_cons, List.flatten_nil, List.append_nil, bvs_one] <;> rfl) rfl rfl) ?_
          rintro w143 ⟨m144, h19, s142⟩
          have hm := rng_fr hm m144 (by omega) (by show ¬ (bm = b19); omega)
          have hG := hG.keep (fun k hk => by omega) m144 (fun k hk hS => by have hk := hk; have hS : k = b19 := hS; omega)
          have hf := hf.step m144 (nB (by omega))
          have h5 := h5.keep m144 (by show ¬ (b5 = b19); omega)
          refine sA rfl (send (fg [(1, _), (5, _), (10, _), (19, _)] ⟨rfl, rfl, rfl, rfl, ⟨⟩⟩ fun _ => (sreg (sv (xmkif ni208 rfl) (sA rfl (send (fg [(1, _), (5, _), (9, _), (10, _)] ⟨rfl, rfl, rfl, rfl, ⟨⟩⟩ fun _ => (lreg (sA rfl (lend (nBlock (nThen (fg [(1, _), (5, _), (9, _), (10, _), (11, _)] ⟨rfl, rfl, rfl, rfl, rfl, ⟨⟩⟩ fun _ => (wp_seq (sreg (sM rfl (sv (xneI if89 rfl) (send (fg [(1, _), (5, _), (9, _), (10, _), (11, _), (156, _)] ⟨rfl, rfl, rfl, rfl, rfl, rfl, ⟨⟩⟩ fun _ => (cyes rfl (sreg (sM rfl (sM rfl (sv (xadds rfl rfl (by decide) (by decide)) ?_))))))))))))))))))))))))
          refine sM rfl (sv (xbuildS [[_], [_]] zr168 ly168 rfl (by simp [fitAll, zs168, Value.cells]) rfl) ?_)
          refine svK (xboxS (lens := [1, 1]) rfl (by simp [])) ?_
          rintro _ w146 ⟨b162, rfl, m147, h162, e145, s145⟩
          have hm := rng_fr hm m147 (by omega) id
          have hG := hG.keep (fun k hk => by omega) m147 nF
          have hf := hf.step0 m147
          have h5 := h5.keep m147 id
          refine sv (xmkif ni166 rfl) (sA rfl (sA rfl (sA rfl (send (fg [(6, _), (7, _), (8, _)] ⟨rfl, rfl, rfl, ⟨⟩⟩ fun _ => (wp_ret (rThen ?_)))))))
          refine rp3 rfl rfl rfl rfl ?_
          exact ⟨.inr ⟨by omega, _, rfl⟩, hf⟩
        ·
         refine sA rfl (send (fg [(0, _), (1, _), (5, _), (26, _), (103, _)] ⟨rfl, rfl, rfl, rfl, rfl, ⟨⟩⟩ fun _ => (cno rfl (sreg ?_))))
         refine svP (xeql rfl rfl) (fun hc113 => ?_) (fun hc113 => ?_)
         ·
          refine sA rfl (send (fg [(0, _), (1, _), (5, _), (26, _), (112, _)] ⟨rfl, rfl, rfl, rfl, rfl, ⟨⟩⟩ fun _ => (cyes rfl ?_)))
          have hk : r.kind = 9 := kind_of_type 9 hr hc113
          obtain ⟨hsb, hNa⟩ := hbody.2.2.2.1 hk
          rw [← be16_mod r.n1.toNat, ← be16_mod r.n2.toNat, ← be16_mod r.n3.toNat] at hsb
          have hnh := hr.2.2.1.2.1 (by omega)
          refine sreg ?_
          refine svK (xallS (lens := [1, 1, 1, 256]) in214 (by simp [nm_length])) ?_
          rintro _ w149 ⟨b20, rfl, m150, h20, e148, s148⟩
          have hm := rng_fr hm m150 (by omega) id
          have hG := hG.keep (fun k hk => by omega) m150 nF
          have hf := hf.step0 m150
          have h5 := h5.keep m150 id
          refine send (fg [(0, _), (1, _), (5, _), (20, _)] ⟨rfl, rfl, rfl, rfl, ⟨⟩⟩ fun _ => (sreg (sM rfl (sM rfl ?_))))
          refine sc (xcall ca203 rfl) (c203 (b := b) (K := 0) (off := off) (e := off + len) (S := bt r.host) (ka := r.n1.toNat % 65536) (kb := r.n2.toNat % 65536) (kc := r.n3.toNat % 65536) hms hm (by omega) hnb hkm hbl hG (by omega) (m65 _) (m65 _) (m65 _) hsb hNa hnh (by omega) (.inl rfl)) ?_
          rintro _ w151 ⟨⟨hle117, rfl⟩ | ⟨hgt117, T117, x117, rfl⟩, m152⟩
          ·
           have z153 := m152.size
           have hm := rng_fr hm m152 (by omega) id
           have hG := hG.keep (fun k hk => by omega) m152 nF
           have hf := hf.step0 m152
           have h5 := h5.keep m152 id
           have h20 := h20.keep m152 id
           refine sM rfl (sv (xex20 rfl) (sv (xex21 rfl) ?_))
           refine suK (xstW h20 (lens' := [1, 1, 1, 256]) sz214 (by simp [nm_length]) rfl (by simp only [List.flatten_cons, List.flatten_nil, List.all_append, List.append_nil, nm_one] <;> rfl) rfl rfl) ?_
           rintro w155 ⟨m156, h20, s154⟩
           have hm := rng_fr hm m156 (by omega) (by show ¬ (bm = b20); omega)
           have hG := hG.keep (fun k hk => by omega) m156 (fun k hk hS => by have hk := hk; have hS : k = b20 := hS; omega)
           have hf := hf.step m156 (nB (by omega))
           have h5 := h5.keep m156 (by show ¬ (b5 = b20); omega)
           refine sA rfl (send (fg [(1, _), (5, _), (10, _), (20, _)] ⟨rfl, rfl, rfl, rfl, ⟨⟩⟩ fun _ => (sreg (sv (xmkif ni212 rfl) (sA rfl (send (fg [(1, _), (5, _), (9, _), (10, _)] ⟨rfl, rfl, rfl, rfl, ⟨⟩⟩ fun _ => (lreg (sA rfl (lend (nBlock (nThen (fg [(1, _), (5, _), (9, _), (10, _), (11, _)] ⟨rfl, rfl, rfl, rfl, rfl, ⟨⟩⟩ fun _ => (wp_seq (sreg (sM rfl (sv (xneN if89 rfl) (send (fg [(1, _), (5, _), (9, _), (10, _), (11, _), (156, _)] ⟨rfl, rfl, rfl, rfl, rfl, rfl, ⟨⟩⟩ fun _ => (cno rfl (wp_skip (nThen (fg [(1, _), (5, _), (9, _)] ⟨rfl, rfl, rfl, ⟨⟩⟩ fun _ => ?_)))))))))))))))))))))))
           refine sdrawH (Fr (fun _ => False) w155.drew) [(0, .rd), (1, .rd), (2, .rd), (3, .rd), (4, .rd), (5, .rd), (6, .rd), (7, .rd), (8, .rd)] mixed (by kernel_rfl) (fun _ _ _ _ _ h => h) ?_
           have z157 : w155.drew.heap.size = w155.heap.size := rfl
           have hm := rng_fr hm (fd w155) (by omega) id
           have hG := hG.keep (fun k hk => by omega) (fd w155) nF
           have hf := hf.drew
           have h5 := h5.drew
           have h20 := h20.drew
           have hS158 : Fr (fun _ => False) w155.drew w155.drew := Fr.refl _ _
           refine qqM rfl rfl hS158 (qqM rfl rfl hS158 (hvH rfl (fun _ _ => xfld fl135_4 rfl) hS158 (hvH rfl (fun w' hS => xld on22 rfl ((h5.keep hS id).r.c 4 rfl rfl)) hS158 (hvH rfl (fun _ _ => xconv hs22 ki3 rfl (w64 (by omega) (by omega))) hS158 (hvH rfl (fun _ _ => xadd rfl rfl (w64 (by omega) (by omega))) hS158 (qqA rfl rfl hS158 (qqA rfl rfl hS158 (qqA rfl rfl hS158 (hendH (fg [(6, _), (7, _), (8, _)] ⟨rfl, rfl, rfl, ⟨⟩⟩ fun _ => (wp_ret ?_)))))))))))
           refine rp3 rfl rfl rfl rfl ?_
           exact ⟨.inl ⟨by omega, _, rfl, ⟨b20, _, _, _, rfl, .inr ⟨by omega, by omega⟩, h20.r, .srv hk⟩⟩, hf⟩
          ·
           have z159 := m152.size
           have hm := rng_fr hm m152 (by omega) id
           have hG := hG.keep (fun k hk => by omega) m152 nF
           have hf := hf.step0 m152
           have h5 := h5.keep m152 id
           have h20 := h20.keep m152 id
           refine sM rfl (sv (xex20 rfl) (sv (xex21 rfl) ?_))
           refine suK (xstW h20 (lens' := [1, 1, 1, 256]) sz214 (by simp [nm_length]) rfl (by simp only [List.flatten_cons, List.flatten_nil, List.all_append, List.append_nil, nm_one] <;> rfl) rfl rfl) ?_
           rintro w161 ⟨m162, h20, s160⟩
           have hm := rng_fr hm m162 (by omega) (by show ¬ (bm = b20); omega)
           have hG := hG.keep (fun k hk => by omega) m162 (fun k hk hS => by have hk := hk; have hS : k = b20 := hS; omega)
           have hf := hf.step m162 (nB (by omega))
           have h5 := h5.keep m162 (by show ¬ (b5 = b20); omega)
           refine sA rfl (send (fg [(1, _), (5, _), (10, _), (20, _)] ⟨rfl, rfl, rfl, rfl, ⟨⟩⟩ fun _ => (sreg (sv (xmkif ni212 rfl) (sA rfl (send (fg [(1, _), (5, _), (9, _), (10, _)] ⟨rfl, rfl, rfl, rfl, ⟨⟩⟩ fun _ => (lreg (sA rfl (lend (nBlock (nThen (fg [(1, _), (5, _), (9, _), (10, _), (11, _)] ⟨rfl, rfl, rfl, rfl, rfl, ⟨⟩⟩ fun _ => (wp_seq (sreg (sM rfl (sv (xneI if89 rfl) (send (fg [(1, _), (5, _), (9, _), (10, _), (11, _), (156, _)] ⟨rfl, rfl, rfl, rfl, rfl, rfl, ⟨⟩⟩ fun _ => (cyes rfl (sreg (sM rfl (sM rfl (sv (xadds rfl rfl (by decide) (by decide)) ?_))))))))))))))))))))))))
           refine sM rfl (sv (xbuildS [[_], [_]] zr168 ly168 rfl (by simp [fitAll, zs168, Value.cells]) rfl) ?_)
           refine svK (xboxS (lens := [1, 1]) rfl (by simp [])) ?_
           rintro _ w164 ⟨b162, rfl, m165, h162, e163, s163⟩
           have hm := rng_fr hm m165 (by omega) id
           have hG := hG.keep (fun k hk => by omega) m165 nF
           have hf := hf.step0 m165
           have h5 := h5.keep m165 id
           refine sv (xmkif ni166 rfl) (sA rfl (sA rfl (sA rfl (send (fg [(6, _), (7, _), (8, _)] ⟨rfl, rfl, rfl, ⟨⟩⟩ fun _ => (wp_ret (rThen ?_)))))))
           refine rp3 rfl rfl rfl rfl ?_
           exact ⟨.inr ⟨by omega, _, rfl⟩, hf⟩
         ·
          refine sA rfl (send (fg [(0, _), (1, _), (5, _), (26, _), (112, _)] ⟨rfl, rfl, rfl, rfl, rfl, ⟨⟩⟩ fun _ => (cno rfl (sreg ?_))))
          refine svP (xeql rfl rfl) (fun hc122 => ?_) (fun hc122 => ?_)
          ·
           refine sA rfl (send (fg [(0, _), (1, _), (5, _), (26, _), (121, _)] ⟨rfl, rfl, rfl, rfl, rfl, ⟨⟩⟩ fun _ => (cyes rfl ?_)))
           have hk : r.kind = 11 := kind_of_type 11 hr hc122
           obtain ⟨hsb, e1, hNa, hps, hbe⟩ := hbody.2.2.2.2.1 (.inl hk)
           rw [← be16_mod] at hsb
           have hnh := hr.2.2.1.2.1 (by omega)
           have hNl := (show NameR b (off + 2) 0 (off + 2) (txt (bt r.host)) e1 from hNa).le
           refine sreg ?_
           refine svK (xallS (lens := [1, 256, 1]) in224 (by simp [nm_length])) ?_
           rintro _ w167 ⟨b21, rfl, m168, h21, e166, s166⟩
           have hm := rng_fr hm m168 (by omega) id
           have hG := hG.keep (fun k hk => by omega) m168 nF
           have hf := hf.step0 m168
           have h5 := h5.keep m168 id
           refine send (fg [(0, _), (1, _), (5, _), (21, _)] ⟨rfl, rfl, rfl, rfl, ⟨⟩⟩ fun _ => (sreg (sM rfl (sM rfl (sv (xfld fl135_4 rfl) (sv (xld on22 rfl (h5.r.c 4 rfl rfl)) ?_))))))
           refine sc (xcall ca204 rfl) (c204 (b := b) (K := 0) (off := off) (e := e1) (S := bt r.host) (ka := r.n1.toNat % 65536) (ps := r.pairs) (len := len) hms hm (by omega) hnb hkm hbl hG (by omega) (m65 _) hsb hNa hnh (by omega) (.inl rfl) hps (hasc (.inl hk)) hbe hl16 (by omega) (by omega)) ?_
           rintro _ w169 ⟨⟨hle128, v128, rfl, L128⟩ | ⟨hgt128, T128, x128, rfl⟩, m170⟩
           ·
            have z171 := m170.size
            have hm := rng_fr hm m170 (by omega) id
            have hG := hG.keep (fun k hk => by omega) m170 nF
            have hf := hf.step0 m170
            have h5 := h5.keep m170 id
            have h21 := h21.keep m170 id
            obtain ⟨aq128, cq128, rfl⟩ := L128.form
            refine sM rfl (sv (xex20 rfl) (sv (xex21 rfl) ?_))
            refine suK (xstW h21 (lens' := [1, 256, 1]) sz224 (by simp [nm_length]) rfl (by simp only [List.flatten_cons, List.flatten_nil, List.all_append, List.append_nil, nm_one, Bool.true_and] <;> rfl) rfl rfl) ?_
            rintro w173 ⟨m174, h21, s172⟩
            have hm := rng_fr hm m174 (by omega) (by show ¬ (bm = b21); omega)
            have hG := hG.keep (fun k hk => by omega) m174 (fun k hk hS => by have hk := hk; have hS : k = b21 := hS; omega)
            have hf := hf.step m174 (nB (by omega))
            have h5 := h5.keep m174 (by show ¬ (b5 = b21); omega)
            have L128 := L128.keep pair_st (lNo (by omega)) m174 (fun k hk hS => by have hk := Ub.num (U := NoU) (n := 0) (fun _ h => h.elim) hk; have hS : k = b21 := hS; omega)
            refine sA rfl (send (fg [(1, _), (5, _), (10, _), (21, _)] ⟨rfl, rfl, rfl, rfl, ⟨⟩⟩ fun _ => (sreg (sv (xmkif ni221 rfl) (sA rfl (send (fg [(1, _), (5, _), (9, _), (10, _)] ⟨rfl, rfl, rfl, rfl, ⟨⟩⟩ fun _ => (lreg (sA rfl (lend (nBlock (nThen (fg [(1, _), (5, _), (9, _), (10, _), (11, _)] ⟨rfl, rfl, rfl, rfl, rfl, ⟨⟩⟩ fun _ => (wp_seq (sreg (sM rfl (sv (xneN if89 rfl) (send (fg [(1, _), (5, _), (9, _), (10, _), (11, _), (156, _)] ⟨rfl, rfl, rfl, rfl, rfl, rfl, ⟨⟩⟩ fun _ => (cno rfl (wp_skip (nThen (fg [(1, _), (5, _), (9, _)] ⟨rfl, rfl, rfl, ⟨⟩⟩ fun _ => ?_)))))))))))))))))))))))
            refine sdrawH (Fr (fun _ => False) w173.drew) [(0, .rd), (1, .rd), (2, .rd), (3, .rd), (4, .rd), (5, .rd), (6, .rd), (7, .rd), (8, .rd)] mixed (by kernel_rfl) (fun _ _ _ _ _ h => h) ?_
            have z175 : w173.drew.heap.size = w173.heap.size := rfl
            have hm := rng_fr hm (fd w173) (by omega) id
            have hG := hG.keep (fun k hk => by omega) (fd w173) nF
            have hf := hf.drew
            have h5 := h5.drew
            have h21 := h21.drew
            have L128 := L128.keep pair_st (lNo (by omega)) (fd w173) nF
            have hS176 : Fr (fun _ => False) w173.drew w173.drew := Fr.refl _ _
            refine qqM rfl rfl hS176 (qqM rfl rfl hS176 (hvH rfl (fun _ _ => xfld fl135_4 rfl) hS176 (hvH rfl (fun w' hS => xld on22 rfl ((h5.keep hS id).r.c 4 rfl rfl)) hS176 (hvH rfl (fun _ _ => xconv hs22 ki3 rfl (w64 (by omega) (by omega))) hS176 (hvH rfl (fun _ _ => xadd rfl rfl (w64 (by omega) (by omega))) hS176 (qqA rfl rfl hS176 (qqA rfl rfl hS176 (qqA rfl rfl hS176 (hendH (fg [(6, _), (7, _), (8, _)] ⟨rfl, rfl, rfl, ⟨⟩⟩ fun _ => (wp_ret ?_)))))))))))
            refine rp3 rfl rfl rfl rfl ?_
            exact ⟨.inl ⟨by omega, _, rfl, ⟨b21, _, _, _, rfl, .inr ⟨by omega, by omega⟩, h21.r, .svcb hk (L128.mono pair_gr (fun k hk => hk.elim .inl (fun h => .inr ⟨by omega, by omega⟩)))⟩⟩, hf⟩
           ·
            have z177 := m170.size
            have hm := rng_fr hm m170 (by omega) id
            have hG := hG.keep (fun k hk => by omega) m170 nF
            have hf := hf.step0 m170
            have h5 := h5.keep m170 id
            have h21 := h21.keep m170 id
            refine sM rfl (sv (xex20 rfl) (sv (xex21 rfl) ?_))
            refine suK (xstW h21 (lens' := [1, 256, 1]) sz224 (by simp [nm_length]) rfl (by simp only [List.flatten_cons, List.flatten_nil, List.all_append, List.append_nil, nm_one, Bool.true_and] <;> rfl) rfl rfl) ?_
            rintro w179 ⟨m180, h21, s178⟩
            have hm := rng_fr hm m180 (by omega) (by show ¬ (bm = b21); omega)
            have hG := hG.keep (fun k hk => by omega) m180 (fun k hk hS => by have hk := hk; have hS : k = b21 := hS; omega)
            have hf := hf.step m180 (nB (by omega))
            have h5 := h5.keep m180 (by show ¬ (b5 = b21); omega)
            refine sA rfl (send (fg [(1, _), (5, _), (10, _), (21, _)] ⟨rfl, rfl, rfl, rfl, ⟨⟩⟩ fun _ => (sreg (sv (xmkif ni221 rfl) (sA rfl (send (fg [(1, _), (5, _), (9, _), (10, _)] ⟨rfl, rfl, rfl, rfl, ⟨⟩⟩ fun _ => (lreg (sA rfl (lend (nBlock (nThen (fg [(1, _), (5, _), (9, _), (10, _), (11, _)] ⟨rfl, rfl, rfl, rfl, rfl, ⟨⟩⟩ fun _ => (wp_seq (sreg (sM rfl (sv (xneI if89 rfl) (send (fg [(1, _), (5, _), (9, _), (10, _), (11, _), (156, _)] ⟨rfl, rfl, rfl, rfl, rfl, rfl, ⟨⟩⟩ fun _ => (cyes rfl (sreg (sM rfl (sM rfl (sv (xadds rfl rfl (by decide) (by decide)) ?_))))))))))))))))))))))))
            refine sM rfl (sv (xbuildS [[_], [_]] zr168 ly168 rfl (by simp [fitAll, zs168, Value.cells]) rfl) ?_)
            refine svK (xboxS (lens := [1, 1]) rfl (by simp [])) ?_
            rintro _ w182 ⟨b162, rfl, m183, h162, e181, s181⟩
            have hm := rng_fr hm m183 (by omega) id
            have hG := hG.keep (fun k hk => by omega) m183 nF
            have hf := hf.step0 m183
            have h5 := h5.keep m183 id
            refine sv (xmkif ni166 rfl) (sA rfl (sA rfl (sA rfl (send (fg [(6, _), (7, _), (8, _)] ⟨rfl, rfl, rfl, ⟨⟩⟩ fun _ => (wp_ret (rThen ?_)))))))
            refine rp3 rfl rfl rfl rfl ?_
            exact ⟨.inr ⟨by omega, _, rfl⟩, hf⟩
          ·
           refine sA rfl (send (fg [(0, _), (1, _), (5, _), (26, _), (121, _)] ⟨rfl, rfl, rfl, rfl, rfl, ⟨⟩⟩ fun _ => (cno rfl (sreg ?_))))
           refine svP (xeql rfl rfl) (fun hc133 => ?_) (fun hc133 => ?_)
           ·
            refine sA rfl (send (fg [(0, _), (1, _), (5, _), (26, _), (132, _)] ⟨rfl, rfl, rfl, rfl, rfl, ⟨⟩⟩ fun _ => (cyes rfl ?_)))
            have hk : r.kind = 12 := kind_of_type 12 hr hc133
            obtain ⟨hsb, e1, hNa, hps, hbe⟩ := hbody.2.2.2.2.1 (.inr hk)
            rw [← be16_mod] at hsb
            have hnh := hr.2.2.1.2.1 (by omega)
            have hNl := (show NameR b (off + 2) 0 (off + 2) (txt (bt r.host)) e1 from hNa).le
            refine sreg ?_
            refine svK (xallS (lens := [1, 256, 1]) in228 (by simp [nm_length])) ?_
            rintro _ w185 ⟨b22, rfl, m186, h22, e184, s184⟩
            have hm := rng_fr hm m186 (by omega) id
            have hG := hG.keep (fun k hk => by omega) m186 nF
            have hf := hf.step0 m186
            have h5 := h5.keep m186 id
            refine send (fg [(0, _), (1, _), (5, _), (22, _)] ⟨rfl, rfl, rfl, rfl, ⟨⟩⟩ fun _ => (sreg (sM rfl (sM rfl (sv (xfld fl135_4 rfl) (sv (xld on22 rfl (h5.r.c 4 rfl rfl)) ?_))))))
            refine sc (xcall ca204 rfl) (c204 (b := b) (K := 0) (off := off) (e := e1) (S := bt r.host) (ka := r.n1.toNat % 65536) (ps := r.pairs) (len := len) hms hm (by omega) hnb hkm hbl hG (by omega) (m65 _) hsb hNa hnh (by omega) (.inl rfl) hps (hasc (.inr hk)) hbe hl16 (by omega) (by omega)) ?_
            rintro _ w187 ⟨⟨hle139, v139, rfl, L139⟩ | ⟨hgt139, T139, x139, rfl⟩, m188⟩
            ·
             have z189 := m188.size
             have hm := rng_fr hm m188 (by omega) id
             have hG := hG.keep (fun k hk => by omega) m188 nF
             have hf := hf.step0 m188
             have h5 := h5.keep m188 id
             have h22 := h22.keep m188 id
             obtain ⟨aq139, cq139, rfl⟩ := L139.form
             refine sM rfl (sv (xex20 rfl) (sv (xex21 rfl) (sv (xfld fl228_0 rfl) ?_)))
             refine suK (xstW h22 (lens' := [1, 256, 1]) sz224 (by simp [nm_length]) rfl (by simp only [List.flatten_cons, List.flatten_nil, List.all_append, List.append_nil, nm_one, Bool.true_and] <;> rfl) rfl rfl) ?_
             rintro w191 ⟨m192, h22, s190⟩
             have hm := rng_fr hm m192 (by omega) (by show ¬ (bm = b22); omega)
             have hG := hG.keep (fun k hk => by omega) m192 (fun k hk hS => by have hk := hk; have hS : k = b22 := hS; omega)
             have hf := hf.step m192 (nB (by omega))
             have h5 := h5.keep m192 (by show ¬ (b5 = b22); omega)
             have L139 := L139.keep pair_st (lNo (by omega)) m192 (fun k hk hS => by have hk := Ub.num (U := NoU) (n := 0) (fun _ h => h.elim) hk; have hS : k = b22 := hS; omega)
             refine sA rfl (send (fg [(1, _), (5, _), (10, _), (22, _)] ⟨rfl, rfl, rfl, rfl, ⟨⟩⟩ fun _ => (sreg (sv (xmkif ni226 rfl) (sA rfl (send (fg [(1, _), (5, _), (9, _), (10, _)] ⟨rfl, rfl, rfl, rfl, ⟨⟩⟩ fun _ => (lreg (sA rfl (lend (nBlock (nThen (fg [(1, _), (5, _), (9, _), (10, _), (11, _)] ⟨rfl, rfl, rfl, rfl, rfl, ⟨⟩⟩ fun _ => (wp_seq (sreg (sM rfl (sv (xneN if89 rfl) (send (fg [(1, _), (5, _), (9, _), (10, _), (11, _), (156, _)] ⟨rfl, rfl, rfl, rfl, rfl, rfl, ⟨⟩⟩ fun _ => (cno rfl (wp_skip (nThen (fg [(1, _), (5, _), (9, _)] ⟨rfl, rfl, rfl, ⟨⟩⟩ fun _ => ?_)))))))))))))))))))))))
             refine sdrawH (Fr (fun _ => False) w191.drew) [(0, .rd), (1, .rd), (2, .rd), (3, .rd), (4, .rd), (5, .rd), (6, .rd), (7, .rd), (8, .rd)] mixed (by kernel_rfl) (fun _ _ _ _ _ h => h) ?_
             have z193 : w191.drew.heap.size = w191.heap.size := rfl
             have hm := rng_fr hm (fd w191) (by omega) id
             have hG := hG.keep (fun k hk => by omega) (fd w191) nF
             have hf := hf.drew
             have h5 := h5.drew
             have h22 := h22.drew
             have L139 := L139.keep pair_st (lNo (by omega)) (fd w191) nF
             have hS194 : Fr (fun _ => False) w191.drew w191.drew := Fr.refl _ _
             refine qqM rfl rfl hS194 (qqM rfl rfl hS194 (hvH rfl (fun _ _ => xfld fl135_4 rfl) hS194 (hvH rfl (fun w' hS => xld on22 rfl ((h5.keep hS id).r.c 4 rfl rfl)) hS194 (hvH rfl (fun _ _ => xconv hs22 ki3 rfl (w64 (by omega) (by omega))) hS194 (hvH rfl (fun _ _ => xadd rfl rfl (w64 (by omega) (by omega))) hS194 (qqA rfl rfl hS194 (qqA rfl rfl hS194 (qqA rfl rfl hS194 (hendH (fg [(6, _), (7, _), (8, _)] ⟨rfl, rfl, rfl, ⟨⟩⟩ fun _ => (wp_ret ?_)))))))))))
             refine rp3 rfl rfl rfl rfl ?_
             exact ⟨.inl ⟨by omega, _, rfl, ⟨b22, _, _, _, rfl, .inr ⟨by omega, by omega⟩, h22.r, .https hk (L139.mono pair_gr (fun k hk => hk.elim .inl (fun h => .inr ⟨by omega, by omega⟩)))⟩⟩, hf⟩
            ·
             have z195 := m188.size
             have hm := rng_fr hm m188 (by omega) id
             have hG := hG.keep (fun k hk => by omega) m188 nF
             have hf := hf.step0 m188
             have h5 := h5.keep m188 id
             have h22 := h22.keep m188 id
             refine sM rfl (sv (xex20 rfl) (sv (xex21 rfl) (sv (xfld fl228_0 rfl) ?_)))
             refine suK (xstW h22 (lens' := [1, 256, 1]) sz224 (by simp [nm_length]) rfl (by simp only [List.flatten_cons, List.flatten_nil, List.all_append, List.append_nil, nm_one, Bool.true_and] <;> rfl) rfl rfl) ?_
             rintro w197 ⟨m198, h22, s196⟩
             have hm := rng_fr hm m198 (by omega) (by show ¬ (bm = b22); omega)
             have hG := hG.keep (fun k hk => by omega) m198 (fun k hk hS => by have hk := hk; have hS : k = b22 := hS; omega)
             have hf := hf.step m198 (nB (by omega))
             have h5 := h5.keep m198 (by show ¬ (b5 = b22); omega)
             refine sA rfl (send (fg [(1, _), (5, _), (10, _), (22, _)] ⟨rfl, rfl, rfl, rfl, ⟨⟩⟩ fun _ => (sreg (sv (xmkif ni226 rfl) (sA rfl (send (fg [(1, _), (5, _), (9, _), (10, _)] ⟨rfl, rfl, rfl, rfl, ⟨⟩⟩ fun _ => (lreg (sA rfl (lend (nBlock (nThen (fg [(1, _), (5, _), (9, _), (10, _), (11, _)] ⟨rfl, rfl, rfl, rfl, rfl, ⟨⟩⟩ fun _ => (wp_seq (sreg (sM rfl (sv (xneI if89 rfl) (send (fg [(1, _), (5, _), (9, _), (10, _), (11, _), (156, _)] ⟨rfl, rfl, rfl, rfl, rfl, rfl, ⟨⟩⟩ fun _ => (cyes rfl (sreg (sM rfl (sM rfl (sv (xadds rfl rfl (by decide) (by decide)) ?_))))))))))))))))))))))))
             refine sM rfl (sv (xbuildS [[_], [_]] zr168 ly168 rfl (by simp [fitAll, zs168, Value.cells]) rfl) ?_)
             refine svK (xboxS (lens := [1, 1]) rfl (by simp [])) ?_
             rintro _ w200 ⟨b162, rfl, m201, h162, e199, s199⟩
             have hm := rng_fr hm m201 (by omega) id
             have hG := hG.keep (fun k hk => by omega) m201 nF
             have hf := hf.step0 m201
             have h5 := h5.keep m201 id
             refine sv (xmkif ni166 rfl) (sA rfl (sA rfl (sA rfl (send (fg [(6, _), (7, _), (8, _)] ⟨rfl, rfl, rfl, ⟨⟩⟩ fun _ => (wp_ret (rThen ?_)))))))
             refine rp3 rfl rfl rfl rfl ?_
             exact ⟨.inr ⟨by omega, _, rfl⟩, hf⟩
           ·
            refine sA rfl (send (fg [(0, _), (1, _), (5, _), (26, _), (132, _)] ⟨rfl, rfl, rfl, rfl, rfl, ⟨⟩⟩ fun _ => (cno rfl (sreg ?_))))
            refine svP (xeql rfl rfl) (fun hc145 => ?_) (fun hc145 => ?_)
            ·
             refine sA rfl (send (fg [(0, _), (1, _), (5, _), (144, _)] ⟨rfl, rfl, rfl, rfl, ⟨⟩⟩ fun _ => (cyes rfl ?_)))
             have hk : r.kind = 10 := kind_of_type 10 hr hc145
             obtain ⟨hsb, hbe⟩ := hbody.simple (.inr (.inr (.inr (.inl hk)))) (bodyL10 hk)
             obtain rfl : len = (pairsL r.pairs).length := by omega
             refine sreg ?_
             refine svK (xallS (lens := [1]) in218 (by simp [])) ?_
             rintro _ w203 ⟨b23, rfl, m204, h23, e202, s202⟩
             have hm := rng_fr hm m204 (by omega) id
             have hG := hG.keep (fun k hk => by omega) m204 nF
             have hf := hf.step0 m204
             have h5 := h5.keep m204 id
             refine send (fg [(0, _), (1, _), (5, _), (23, _)] ⟨rfl, rfl, rfl, rfl, ⟨⟩⟩ fun _ => (sreg (sM rfl (sM rfl (sv (xfld fl135_4 rfl) (sv (xld on22 rfl (h5.r.c 4 rfl rfl)) ?_))))))
             refine sc (xcall ca205 rfl) (c205 (b := b) (off := off) (ps := r.pairs) hms hm (by omega) hnb hkm hbl hG (by omega) hsb (by omega) (by omega) hon) ?_
             rintro _ w205 ⟨⟨hle151, v151, rfl, L151⟩ | ⟨hgt151, T151, x151, rfl⟩, m206⟩
             ·
              have z207 := m206.size
              have hm := rng_fr hm m206 (by omega) id
              have hG := hG.keep (fun k hk => by omega) m206 nF
              have hf := hf.step0 m206
              have h5 := h5.keep m206 id
              have h23 := h23.keep m206 id
              obtain ⟨aq151, cq151, rfl⟩ := L151.form
              refine sM rfl (sv (xex20 rfl) (sv (xex21 rfl) ?_))
              refine suK (xstW h23 (lens' := [1]) sz218 (by simp []) rfl (by simp only [List.flatten_cons, List.flatten_nil, List.append_nil] <;> rfl) rfl rfl) ?_
              rintro w209 ⟨m210, h23, s208⟩
              have hm := rng_fr hm m210 (by omega) (by show ¬ (bm = b23); omega)
              have hG := hG.keep (fun k hk => by omega) m210 (fun k hk hS => by have hk := hk; have hS : k = b23 := hS; omega)
              have hf := hf.step m210 (nB (by omega))
              have h5 := h5.keep m210 (by show ¬ (b5 = b23); omega)
              have L151 := L151.keep pair_st (lNo (by omega)) m210 (fun k hk hS => by have hk := Ub.num (U := NoU) (n := 0) (fun _ h => h.elim) hk; have hS : k = b23 := hS; omega)
              refine sA rfl (send (fg [(1, _), (5, _), (10, _), (23, _)] ⟨rfl, rfl, rfl, rfl, ⟨⟩⟩ fun _ => (sreg (sv (xmkif ni215 rfl) (sA rfl (send (fg [(1, _), (5, _), (9, _), (10, _)] ⟨rfl, rfl, rfl, rfl, ⟨⟩⟩ fun _ => (lreg (sA rfl (lend (nBlock (nThen (fg [(1, _), (5, _), (9, _), (10, _), (11, _)] ⟨rfl, rfl, rfl, rfl, rfl, ⟨⟩⟩ fun _ => (wp_seq (sreg (sM rfl (sv (xneN if89 rfl) (send (fg [(1, _), (5, _), (9, _), (10, _), (11, _), (156, _)] ⟨rfl, rfl, rfl, rfl, rfl, rfl, ⟨⟩⟩ fun _ => (cno rfl (wp_skip (nThen (fg [(1, _), (5, _), (9, _)] ⟨rfl, rfl, rfl, ⟨⟩⟩ fun _ => ?_)))))))))))))))))))))))
              refine sdrawH (Fr (fun _ => False) w209.drew) [(0, .rd), (1, .rd), (2, .rd), (3, .rd), (4, .rd), (5, .rd), (6, .rd), (7, .rd), (8, .rd)] mixed (by kernel_rfl) (fun _ _ _ _ _ h => h) ?_
              have z211 : w209.drew.heap.size = w209.heap.size := rfl
              have hm := rng_fr hm (fd w209) (by omega) id
              have hG := hG.keep (fun k hk => by omega) (fd w209) nF
              have hf := hf.drew
              have h5 := h5.drew
              have h23 := h23.drew
              have L151 := L151.keep pair_st (lNo (by omega)) (fd w209) nF
              have hS212 : Fr (fun _ => False) w209.drew w209.drew := Fr.refl _ _
              refine qqM rfl rfl hS212 (qqM rfl rfl hS212 (hvH rfl (fun _ _ => xfld fl135_4 rfl) hS212 (hvH rfl (fun w' hS => xld on22 rfl ((h5.keep hS id).r.c 4 rfl rfl)) hS212 (hvH rfl (fun _ _ => xconv hs22 ki3 rfl (w64 (by omega) (by omega))) hS212 (hvH rfl (fun _ _ => xadd rfl rfl (w64 (by omega) (by omega))) hS212 (qqA rfl rfl hS212 (qqA rfl rfl hS212 (qqA rfl rfl hS212 (hendH (fg [(6, _), (7, _), (8, _)] ⟨rfl, rfl, rfl, ⟨⟩⟩ fun _ => (wp_ret ?_)))))))))))
              refine rp3 rfl rfl rfl rfl ?_
              exact ⟨.inl ⟨by omega, _, rfl, ⟨b23, _, _, _, rfl, .inr ⟨by omega, by omega⟩, h23.r, .opt hk (L151.mono pair_gr (fun k hk => hk.elim .inl (fun h => .inr ⟨by omega, by omega⟩)))⟩⟩, hf⟩
             ·
              have z213 := m206.size
              have hm := rng_fr hm m206 (by omega) id
              have hG := hG.keep (fun k hk => by omega) m206 nF
              have hf := hf.step0 m206
              have h5 := h5.keep m206 id
              have h23 := h23.keep m206 id
              refine sM rfl (sv (xex20 rfl) (sv (xex21 rfl) ?_))
              refine suK (xstW h23 (lens' := [1]) sz218 (by simp []) rfl (by simp only [List.flatten_cons, List.flatten_nil, List.append_nil] <;> rfl) rfl rfl) ?_
              rintro w215 ⟨m216, h23, s214⟩
              have hm := rng_fr hm m216 (by omega) (by show ¬ (bm = b23); omega)
              have hG := hG.keep (fun k hk => by omega) m216 (fun k hk hS => by have hk := hk; have hS : k = b23 := hS; omega)
              have hf := hf.step m216 (nB (by omega))
              have h5 := h5.keep m216 (by show ¬ (b5 = b23); omega)
              refine sA rfl (send (fg [(1, _), (5, _), (10, _), (23, _)] ⟨rfl, rfl, rfl, rfl, ⟨⟩⟩ fun _ => (sreg (sv (xmkif ni215 rfl) (sA rfl (send (fg [(1, _), (5, _), (9, _), (10, _)] ⟨rfl, rfl, rfl, rfl, ⟨⟩⟩ fun _ => (lreg (sA rfl (lend (nBlock (nThen (fg [(1, _), (5, _), (9, _), (10, _), (11, _)] ⟨rfl, rfl, rfl, rfl, rfl, ⟨⟩⟩ fun _ => (wp_seq (sreg (sM rfl (sv (xneI if89 rfl) (send (fg [(1, _), (5, _), (9, _), (10, _), (11, _), (156, _)] ⟨rfl, rfl, rfl, rfl, rfl, rfl, ⟨⟩⟩ fun _ => (cyes rfl (sreg (sM rfl (sM rfl (sv (xadds rfl rfl (by decide) (by decide)) ?_))))))))))))))))))))))))
              refine sM rfl (sv (xbuildS [[_], [_]] zr168 ly168 rfl (by simp [fitAll, zs168, Value.cells]) rfl) ?_)
              refine svK (xboxS (lens := [1, 1]) rfl (by simp [])) ?_
              rintro _ w218 ⟨b162, rfl, m219, h162, e217, s217⟩
              have hm := rng_fr hm m219 (by omega) id
              have hG := hG.keep (fun k hk => by omega) m219 nF
              have hf := hf.step0 m219
              have h5 := h5.keep m219 id
              refine sv (xmkif ni166 rfl) (sA rfl (sA rfl (sA rfl (send (fg [(6, _), (7, _), (8, _)] ⟨rfl, rfl, rfl, ⟨⟩⟩ fun _ => (wp_ret (rThen ?_)))))))
              refine rp3 rfl rfl rfl rfl ?_
              exact ⟨.inr ⟨by omega, _, rfl⟩, hf⟩
            ·
             refine sA rfl (send (fg [(0, _), (1, _), (5, _), (144, _)] ⟨rfl, rfl, rfl, rfl, ⟨⟩⟩ fun _ => (cno rfl ?_)))
             have hk : r.kind = 13 := kind13 hr (fun j h1 h12 => by
              have hj : j = 1 ∨ j = 2 ∨ j = 3 ∨ j = 4 ∨ j = 5 ∨ j = 6 ∨ j = 7 ∨ j = 8 ∨ j = 9 ∨ j = 10 ∨ j = 11 ∨ j = 12 := by omega
              rcases hj with rfl | rfl | rfl | rfl | rfl | rfl | rfl | rfl | rfl | rfl | rfl | rfl
              · exact hc39
              · exact hc48
              · exact hc57
              · exact hc66
              · exact hc75
              · exact hc84
              · exact hc93
              · exact hc104
              · exact hc113
              · exact hc145
              · exact hc122
              · exact hc133)
             obtain ⟨hsb, hbe⟩ := hbody.simple (.inr (.inr (.inr (.inr hk)))) (bodyL13 hk)
             obtain rfl : len = r.data.length := by omega
             refine sreg ?_
             refine svK (xallS (lens := [1, 1]) in231 (by simp [])) ?_
             rintro _ w221 ⟨b24, rfl, m222, h24, e220, s220⟩
             have hm := rng_fr hm m222 (by omega) id
             have hG := hG.keep (fun k hk => by omega) m222 nF
             have hf := hf.step0 m222
             have h5 := h5.keep m222 id
             refine send (fg [(0, _), (1, _), (5, _), (24, _)] ⟨rfl, rfl, rfl, rfl, ⟨⟩⟩ fun _ => (sreg (sv (xfld fl135_1 rfl) (sv (xld on83 rfl (h5.r.c 1 rfl rfl)) (sM rfl (sM rfl (sv (xfld fl135_4 rfl) (sv (xld on22 rfl (h5.r.c 4 rfl rfl)) ?_))))))))
             refine sc (xcall ca206 rfl) (c206 (b := b) (tv := ((typeN r).toNat : Int)) (off := off) (xs := r.data) hms hm (by omega) hnb hkm hbl hG (by omega) (by omega) hsb (by omega) h0) ?_
             rintro _ w223 ⟨⟨hle34, v34, rfl, L34⟩ | ⟨hgt34, T34, x34, rfl⟩, m224⟩
             ·
              have z225 := m224.size
              have hf := hf.step0 m224
              have h5 := h5.keep m224 id
              have h24 := h24.keep m224 id
              obtain ⟨aq34, cq34, rfl, -⟩ := id L34
              refine sM rfl (sv (xex20 rfl) (sv (xex21 rfl) ?_))
              refine suK (xstW h24 (lens' := [1, 1]) sz231 (by simp []) rfl (by simp only [List.flatten_cons, List.flatten_nil, List.all_append, List.append_nil] <;> rfl) rfl rfl) ?_
              rintro w227 ⟨m228, h24, s226⟩
              have hf := hf.step m228 (nB (by omega))
              have h5 := h5.keep m228 (by show ¬ (b5 = b24); omega)
              have L34 := L34.keep (lNo (by omega)) m228 (fun k hk hS => by have hk := Ub.num (U := NoU) (n := 0) (fun _ h => h.elim) hk; have hS : k = b24 := hS; omega)
              refine sA rfl (send (fg [(1, _), (5, _), (10, _), (24, _)] ⟨rfl, rfl, rfl, rfl, ⟨⟩⟩ fun _ => (sreg (sv (xmkif ni229 rfl) (sA rfl (send (fg [(1, _), (5, _), (9, _), (10, _)] ⟨rfl, rfl, rfl, rfl, ⟨⟩⟩ fun _ => (lreg (sA rfl (lend (nBlock (nThen (fg [(1, _), (5, _), (9, _), (10, _), (11, _)] ⟨rfl, rfl, rfl, rfl, rfl, ⟨⟩⟩ fun _ => (wp_seq (sreg (sM rfl (sv (xneN if89 rfl) (send (fg [(1, _), (5, _), (9, _), (10, _), (11, _), (156, _)] ⟨rfl, rfl, rfl, rfl, rfl, rfl, ⟨⟩⟩ fun _ => (cno rfl (wp_skip (nThen (fg [(1, _), (5, _), (9, _)] ⟨rfl, rfl, rfl, ⟨⟩⟩ fun _ => ?_)))))))))))))))))))))))
              refine sdrawH (Fr (fun _ => False) w227.drew) [(0, .rd), (1, .rd), (2, .rd), (3, .rd), (4, .rd), (5, .rd), (6, .rd), (7, .rd), (8, .rd)] mixed (by kernel_rfl) (fun _ _ _ _ _ h => h) ?_
              have z229 : w227.drew.heap.size = w227.heap.size := rfl
              have hf := hf.drew
              have h5 := h5.drew
              have h24 := h24.drew
              have L34 := L34.keep (lNo (by omega)) (fd w227) nF
              have hS230 : Fr (fun _ => False) w227.drew w227.drew := Fr.refl _ _
              refine qqM rfl rfl hS230 (qqM rfl rfl hS230 (hvH rfl (fun _ _ => xfld fl135_4 rfl) hS230 (hvH rfl (fun w' hS => xld on22 rfl ((h5.keep hS id).r.c 4 rfl rfl)) hS230 (hvH rfl (fun _ _ => xconv hs22 ki3 rfl (w64 (by omega) (by omega))) hS230 (hvH rfl (fun _ _ => xadd rfl rfl (w64 (by omega) (by omega))) hS230 (qqA rfl rfl hS230 (qqA rfl rfl hS230 (qqA rfl rfl hS230 (hendH (fg [(6, _), (7, _), (8, _)] ⟨rfl, rfl, rfl, ⟨⟩⟩ fun _ => (wp_ret ?_)))))))))))
              refine rp3 rfl rfl rfl rfl ?_
              exact ⟨.inl ⟨by omega, _, rfl, ⟨b24, _, _, _, rfl, .inr ⟨by omega, by omega⟩, h24.r, .other hk (L34.mono (fun k hk => hk.elim .inl (fun h => .inr ⟨by omega, by omega⟩)))⟩⟩, hf⟩
             ·
              have z231 := m224.size
              have hf := hf.step0 m224
              have h24 := h24.keep m224 id
              refine sM rfl (sv (xex20 rfl) (sv (xex21 rfl) ?_))
              refine suK (xstW h24 (lens' := [1, 1]) sz231 (by simp []) rfl (by simp only [List.flatten_cons, List.flatten_nil, List.all_append, List.append_nil] <;> rfl) rfl rfl) ?_
              rintro w233 ⟨m234, h24, s232⟩
              have hf := hf.step m234 (nB (by omega))
              refine sA rfl (send (fg [(1, _), (5, _), (10, _), (24, _)] ⟨rfl, rfl, rfl, rfl, ⟨⟩⟩ fun _ => (sreg (sv (xmkif ni229 rfl) (sA rfl (send (fg [(1, _), (5, _), (9, _), (10, _)] ⟨rfl, rfl, rfl, rfl, ⟨⟩⟩ fun _ => (lreg (sA rfl (lend (nBlock (nThen (fg [(1, _), (5, _), (9, _), (10, _), (11, _)] ⟨rfl, rfl, rfl, rfl, rfl, ⟨⟩⟩ fun _ => (wp_seq (sreg (sM rfl (sv (xneI if89 rfl) (send (fg [(1, _), (5, _), (9, _), (10, _), (11, _), (156, _)] ⟨rfl, rfl, rfl, rfl, rfl, rfl, ⟨⟩⟩ fun _ => (cyes rfl (sreg (sM rfl (sM rfl (sv (xadds rfl rfl (by decide) (by decide)) ?_))))))))))))))))))))))))
              refine sM rfl (sv (xbuildS [[_], [_]] zr168 ly168 rfl (by simp [fitAll, zs168, Value.cells]) rfl) ?_)
              refine svK (xboxS (lens := [1, 1]) rfl (by simp [])) ?_
              rintro _ w236 ⟨b162, rfl, m237, h162, e235, s235⟩
              have hf := hf.step0 m237
              refine sv (xmkif ni166 rfl) (sA rfl (sA rfl (sA rfl (send (fg [(6, _), (7, _), (8, _)] ⟨rfl, rfl, rfl, ⟨⟩⟩ fun _ => (wp_ret (rThen ?_)))))))
              refine rp3 rfl rfl rfl rfl ?_
              exact ⟨.inr ⟨by omega, _, rfl⟩, hf⟩
end Go.Proofs.YtifnodoffgfpbaaGreatDoor

namespace Go.Proofs.YtifnodoffgfpbaaGreatDoor
open Go

theorem mp288 : mapB PP 288 122 9 = true := by kernel_rfl
theorem ki122 : intB PP 122 .u8 = true := by kernel_rfl
theorem st9z : Inf PP 9 (.string ⟨#[]⟩) 1 16 := inf_of (by kernel_rfl)
/-- the errors of one type can be compared -/
def CmpT (T : TypeId) : Prop := T ≠ 166 ∧ ∃ te i j, PP.underlying T = some (.pointer te) ∧ PP.info? T = some i ∧ i.comparable = true ∧ PP.info? te = some j
/-- the names of sections: variable 14 holds a map of block mb; for each section that is asked for it tells a text -/
def SecMap (B mb : Nat) (f : Int → ByteArray) (w : World) : Prop :=
  14 < B ∧ mb < B ∧ w.cell? ⟨14, 0, none⟩ = some (.map (some mb)) ∧ ∃ es c, w.heap[mb]? = some (.map es c) ∧ ∀ q : Int, 2 ≤ q → q ≤ 5 → (f q).size < 1000000 ∧
    ((Instr.findNow (.int .u8) (.int .u8 q) es.toList 0 = some none ∧ f q = ⟨#[]⟩) ∨ ∃ j, Instr.findNow (.int .u8) (.int .u8 q) es.toList 0 = some (some (j, .string (f q))))
/-- what is known where a message is cut -/
def SecOr (p : Prop) (B mb : Nat) (f : Int → ByteArray) (w : World) : Prop := p ∨ SecMap B mb f w
theorem SecMap.keep {S : Nat → Prop} {B mb : Nat} {f : Int → ByteArray} {w w' : World} (h : SecMap B mb f w) (hU : ∀ k, k < B → k < w.heap.size) (m : Fr S w w') (hn : ∀ k, k < B → ¬ S k) : SecMap B mb f w' := by
  obtain ⟨h1, h2, h3, es, c, h4, h5⟩ := h
  exact ⟨h1, h2, cell_keep h3 m (hU _ h1) (hn _ h1), es, c, (m.block mb (hU _ h2) (hn _ h2)).trans h4, h5⟩
theorem SecOr.keep {p : Prop} {S : Nat → Prop} {B mb : Nat} {f : Int → ByteArray} {w w' : World} (h : SecOr p B mb f w) (hU : ∀ k, k < B → k < w.heap.size) (m : Fr S w w') (hn : ∀ k, k < B → ¬ S k) : SecOr p B mb f w' := h.imp_right (fun h => h.keep hU m hn)
theorem SecOr.imp {p q : Prop} {B mb : Nat} {f : Int → ByteArray} {w : World} (h : SecOr p B mb f w) (hi : p → q) : SecOr q B mb f w := Or.imp_left hi h
section
variable {n : Nat} {l : List (Nat × Value)} {w : World} {ty : TypeId} {x y : Operand}
theorem xsec {B mb : Nat} {f : Int → ByteArray} {q : Int} (h : SecMap B mb f w) (h2 : 2 ≤ q) (h5 : q ≤ 5) (hx : ev n l x = some (.map (some mb))) (hy : ev n l y = some (.int .u8 q)) : Ex PP n l (.lookup 288 x y false) ty w (.string (f q)) w := fun r _ _ _ _ => by
  obtain ⟨_, _, _, es, c, hb, hq⟩ := h
  obtain ⟨i, hi, hz, _, _⟩ := st9z
  have hck := fun e => MapKept.run_checkKey (P := PP) (w := w) (k := .int .u8 q) (intB_spec ki122) (by simp [MapKept.IsKey]) e 9999
  simp only [execOp, ev_eval r hx, ev_eval r hy]
  rcases (hq q h2 h5).2 with ⟨hf, e⟩ | ⟨j, hf⟩
  · have := MapKept.run_findKey (P := PP) (w := w) (intB_spec ki122) hf
    simp [Instr.lookup, run_underlying (mapB_spec mp288), MapKept.run_getObj_map hb, hck, this, zeroValue, typeInfo, hi, hz, e]
  · have := MapKept.run_findKey (P := PP) (w := w) (intB_spec ki122) hf
    simp [Instr.lookup, run_underlying (mapB_spec mp288), MapKept.run_getObj_map hb, hck, this]
/-- an error is compared with one that is told -/
theorem xeqES {T U A : TypeId} {p : Option Addr} (hT : ifcB PP T = true) (hA : CmpT A) (hx : ev n l x = some (.iface A (.pointer p))) (hy : ev n l y = some (.iface A (.pointer p))) : Ex PP n l (.binOp .eql T x y U) ty w (.bool true) w := by
  obtain ⟨_, te, i, j, hp, hi, hc, hj⟩ := hA
  cases p with
  | some a => exact xbin hx hy (by simp [eqGuard]) (run_eql_iface_ptr_same w a (ifcB_spec hT) hp hi hc hj)
  | none =>
    refine xbin hx hy (by simp [eqGuard]) ?_
    have h : ∀ d : Nat, (Op.equalIn (d + 2) T (.iface A (.pointer none)) (.iface A (.pointer none))).run PP w = .ok true w := fun d => by
      simp [Op.equalIn, run_underlying (ifcB_spec hT), run_underlying hp, typeInfo, hi, hc]
    simp only [binOp]
    simp [Op.equal, Op.maxDepth, h 9998]
theorem xeqEN {T U A : TypeId} {v : Value} (hT : ifcB PP T = true) (hx : ev n l x = some .nilIface) (hy : ev n l y = some (.iface A v)) : Ex PP n l (.binOp .eql T x y U) ty w (.bool false) w :=
  xbin hx hy (by simp [eqGuard]) (run_eql_iface_nil_left w A v (ifcB_spec hT))
theorem xeqEO {T U A A' : TypeId} {u v : Value} (hT : ifcB PP T = true) (hne : A' ≠ A) (hx : ev n l x = some (.iface A u)) (hy : ev n l y = some (.iface A' v)) : Ex PP n l (.binOp .eql T x y U) ty w (.bool false) w := by
  refine xbin hx hy (by simp [eqGuard]) ?_
  have h : ∀ d : Nat, (Op.equalIn (d + 1) T (.iface A u) (.iface A' v)).run PP w = .ok false w := fun d => by
    simp [Op.equalIn, run_underlying (ifcB_spec hT), Ne.symm hne]
  simp only [binOp]
  simp [Op.equal, Op.maxDepth, h 9999]
end
theorem one6 (S : List UInt8) (x1 x2 x3 x4 : Int) (v : Value) (h : v.oneCell' = true) : ([nm S, [Value.int .u16 x1], [Value.int .u16 x2], [Value.int .u32 x3], [Value.int .u16 x4], [v]].flatten.all (·.oneCell')) = true := by
  simp only [List.flatten_cons, List.flatten_nil, List.all_append, List.append_nil, nm_one, Bool.true_and, List.all_cons, List.all_nil, h]; rfl
/-- a resource as it is read -/
def ResV (U : Nat → Prop) (w : World) (segs : List (List Value)) (r : RecD) : Prop := ∃ (len : Nat) (vb : Value), len < 65536 ∧ segs = rhSegs (bt r.name) (typeN r) r.cls r.ttl len ++ [[vb]] ∧ BodyEl U w vb r
theorem resv_st : Stays ResV := fun _ _ _ _ _ _ ⟨n, v, h0, h1, h2⟩ hU m hn => ⟨n, v, h0, h1, h2.keep hU m hn⟩
theorem resv_gr : Grows ResV := fun _ _ _ _ _ ⟨n, v, h0, h1, h2⟩ hU => ⟨n, v, h0, h1, h2.mono hU⟩
theorem recR_open {Kp : Nat → Prop} {b : List UInt8} {i e : Nat} {r : RecD} (h : RecR Kp b i r e) : ∃ e0 len k, Kp k ∧ NameAt b k i (bt r.name) e0 ∧ Std b e0 (be16 (typeN r).toNat ++ (be16 r.cls.toNat ++ (be32 r.ttl.toNat ++ be16 len))) ∧ len < 65536 ∧ BodyR Kp b (e0 + 2 + 2 + 4 + 2) r (e0 + 10 + len) ∧ e = e0 + 10 + len := by
  obtain ⟨e0, len, ⟨k, hk, hN⟩, h1, h2, h3, h4⟩ := h
  exact ⟨e0, len, k, hk, hN, h1, h2, h3, h4⟩
/-- the parser, behind something of the sections -/
def PrAt (w : World) (bp : Nat) (vm : Value) (y0 y1 y2 y3 y4 y5 sec off idx : Int) : Prop := ∃ ho ty ln : Int, SB w bp lPr (prSegs vm y0 y1 y2 y3 y4 y5 sec off idx false ho ty ln)
theorem ResV.mk {U : Nat → Prop} {w : World} {r : RecD} {len : Nat} {vb : Value} (h : len < 65536) (hb : BodyEl U w vb r) : ResV U w (rhSegs (bt r.name) (typeN r) r.cls r.ttl len ++ [[vb]]) r := ⟨len, vb, h, rfl, hb⟩
theorem PrAt.keep {S : Nat → Prop} {w w' : World} {bp : Nat} {vm : Value} {y0 y1 y2 y3 y4 y5 sec off idx : Int} (h : PrAt w bp vm y0 y1 y2 y3 y4 y5 sec off idx) (m : Fr S w w') (hn : ¬ S bp) : PrAt w' bp vm y0 y1 y2 y3 y4 y5 sec off idx := by
  obtain ⟨a, b, c, h⟩ := h
  exact ⟨a, b, c, h.keep m hn⟩

set_option maxHeartbeats 4000000 in
set_option maxRecDepth 100000 in
theorem c108d {w : World} {bp : Nat} {vm : Value} {y0 y1 y2 y3 y4 y5 po idx ho ty ln : Int} {q : Int} (hP : SB w bp lPr (prSegs vm y0 y1 y2 y3 y4 y5 q po idx false ho ty ln)) {Tz : TypeId} {xz : Option Addr} (hg0 : w.rangeAt 0 0 [.iface Tz (.pointer xz)]) (hG : GE w) (hsz : 21 ≤ w.heap.size) (hgp : 20 < bp) (hs0 : 0 ≤ q) (hs1 : q ≤ 6) (hq0 : 0 ≤ cntI q y2 y3 y4 y5) (hq1 : cntI q y2 y3 y4 y5 < 65536) (hie : idx = cntI q y2 y3 y4 y5)  :
  Ret PP 108 [.pointer (some ⟨bp, 0, none⟩), .int .u8 q] w (fun u w' => (u = .tuple #[ag ([nm [], [.int .u16 0], [.int .u16 0], [.int .u32 0], [.int .u16 0], [.nilIface]]), .iface Tz (.pointer xz)] ∧ SB w' bp lPr (prSegs vm y0 y1 y2 y3 y4 y5 (q + 1) po 0 false ho ty ln)) ∧ Fr (fun k => k = bp) w w') := by
 have hf : Fr (fun k => k = bp) w w := Fr.refl _ _
 have z_hP := hP.lt
 refine ret_of Tryz.func108 rfl rfl rfl [(0, _), (1, _)] rfl ?_
 refine sreg ?_
 refine svK (xallS (lens := [256, 1, 1, 1, 1, 1]) in139 (by simp [nm_length])) ?_
 rintro _ w2 ⟨b4, rfl, m3, h4, e1, s1⟩
 have hP := hP.keep m3 id
 have hg0 := rng_fr hg0 m3 (by omega) id
 have hG := hG.keep (fun k hk => by omega) m3 nF
 have hf := hf.step0 m3
 refine sA rfl (send (fg [(0, _), (1, _), (4, _)] ⟨rfl, rfl, rfl, ⟨⟩⟩ fun _ => (sreg ?_)))
 refine svK (xallS (lens := [256, 1, 1, 1, 1, 1]) in139 (by simp [nm_length])) ?_
 rintro _ w5 ⟨b6, rfl, m6, h6, e4, s4⟩
 have hP := hP.keep m6 id
 have hg0 := rng_fr hg0 m6 (by omega) id
 have hG := hG.keep (fun k hk => by omega) m6 nF
 have hf := hf.step0 m6
 have h4 := h4.keep m6 id
 refine send (fg [(0, _), (1, _), (4, _), (6, _)] ⟨rfl, rfl, rfl, rfl, ⟨⟩⟩ fun _ => (sreg (sA rfl (send (fg [(0, _), (1, _), (4, _), (6, _)] ⟨rfl, rfl, rfl, rfl, ⟨⟩⟩ fun _ => (sreg (sM rfl (sM rfl ?_))))))))
 refine sc (xcall ca158 rfl) (c158d (_sec := 0) (_val := false) (q := q) hP hg0 hG (by omega) hgp hs0 hs1 hq0 hq1 hie) ?_
 rintro _ w7 ⟨⟨rfl, hP⟩, m8⟩
 have z9 := m8.size
 have hf := hf.step m8 (fun k hk hS => by have hS : k = bp := hS; show k = bp; omega)
 have h4 := h4.keep m8 (by show ¬ (b4 = bp); omega)
 have h6 := h6.keep m8 (by show ¬ (b6 = bp); omega)
 refine sM rfl (sv (xex20 rfl) (sv (xex21 rfl) (sv (xfld fl139_0 rfl) ?_)))
 refine suK (xstS 0 h6 (lens' := [256, 1, 1, 1, 1]) sz135 (by simp [nm_length]) rfl rfl (by simp only [List.flatten_cons, List.flatten_nil, List.all_append, List.append_nil, nm_one, Bool.true_and] <;> rfl) rfl rfl) ?_
 rintro w11 ⟨m12, h6, s10⟩
 have hf := hf.step m12 (nB (by omega))
 have h4 := h4.keep m12 (by show ¬ (b4 = b6); omega)
 have hP := hP.keep m12 (by show ¬ (bp = b6); omega)
 refine sA rfl (send (fg [(0, _), (1, _), (4, _), (6, _), (7, _)] ⟨rfl, rfl, rfl, rfl, rfl, ⟨⟩⟩ fun _ => (wp_seq (sreg (sM rfl (sv (xneI if89 rfl) (send (fg [(0, _), (1, _), (4, _), (6, _), (7, _), (16, _)] ⟨rfl, rfl, rfl, rfl, rfl, rfl, ⟨⟩⟩ fun _ => (cyes rfl (sreg (sv (xldS (lens := [256, 1, 1, 1, 1, 1]) ro139 rfl h6.r) (sM rfl ?_))))))))))))
 refine suK (xstW h4 (lens' := [256, 1, 1, 1, 1, 1]) sz139 (by simp [nm_length]) rfl (one6 _ _ _ _ _ _ rfl) rfl rfl) ?_
 rintro w14 ⟨m15, h4, s13⟩
 have hf := hf.step m15 (nB (by omega))
 have hP := hP.keep m15 (by show ¬ (bp = b4); omega)
 refine sA rfl (send (fg [(4, _), (5, _)] ⟨rfl, rfl, ⟨⟩⟩ fun _ => (wp_ret (rThen ?_))))
 refine rp2 rfl ⟨_, rfl, ldS (lens := [256, 1, 1, 1, 1, 1]) ro139 h4.r⟩ rfl ?_
 exact ⟨⟨rfl, hP⟩, hf⟩
set_option maxHeartbeats 4000000 in
set_option maxRecDepth 100000 in
theorem c108g {w : World} {a : Option Addr} {bm om km n : Nat} {b : List UInt8} (hms : n ≠ 0 → a = some ⟨bm, om, none⟩) (hm : w.rangeAt bm om (bvs (b.take n))) (hbm : bm < w.heap.size) (hnb : n ≤ b.length) (hkm : n ≤ km) (hbl : b.length < 100000000) {bp : Nat} {y0 y1 y2 y3 y4 y5 idx ho ty ln : Int} {q : Int} {off e : Nat} {r : RecD} {Kp : Nat → Prop} (hP : SB w bp lPr (prSegs (.slice a n km) y0 y1 y2 y3 y4 y5 q (off : Int) idx false ho ty ln)) {Tz : TypeId} {xz : Option Addr} (hg0 : w.rangeAt 0 0 [.iface Tz (.pointer xz)]) (hG : GE w) (hsz : 21 ≤ w.heap.size) (hgp : 20 < bp) (hs0 : 0 ≤ q) (hs1 : q ≤ 6) (hq0 : 0 ≤ cntI q y2 y3 y4 y5) (hq1 : cntI q y2 y3 y4 y5 < 65536) (hbp : bp ≠ bm) (hne : idx ≠ cntI q y2 y3 y4 y5) (hi0 : 0 ≤ idx) (hi1 : idx < 65536) {B mb : Nat} {sf : Int → ByteArray} (hBp : B ≤ bp) (hq2 : 2 ≤ q) (hq5 : q ≤ 5) (hKp : ∀ k, Kp k → k ≤ 10 ∧ (k = 0 ∨ n = b.length)) (hR : RecR Kp b off r e) (hr : ReadOk r) (hasc : r.kind = 11 ∨ r.kind = 12 → asc r.pairs) (heb : e ≤ b.length) (hSO : SecOr (e ≤ n) B mb sf w) :
  Ret PP 108 [.pointer (some ⟨bp, 0, none⟩), .int .u8 q] w (fun u w' => ((e ≤ n ∧ ∃ segs, u = .tuple #[ag segs, .nilIface] ∧ ResV (Ub NoU w w') w' segs r ∧ PrAt w' bp (.slice a n km) y0 y1 y2 y3 y4 y5 q (e : Int) (idx + 1)) ∨ (n < e ∧ ∃ (x : Option Addr), u = .tuple #[ag ([nm [], [.int .u16 0], [.int .u16 0], [.int .u32 0], [.int .u16 0], [.nilIface]]), .iface 166 (.pointer x)])) ∧ Fr (fun k => k = bp) w w') := by
 have hzb : bp < w.heap.size := hP.lt
 obtain ⟨e0, len, kk, hkk, hN, hst, hl16, hbody, rfl⟩ := recR_open hR
 have hNl := (show NameR b off kk off (txt (bt r.name)) e0 from hN).le
 have hf : Fr (fun k => k = bp) w w := Fr.refl _ _
 have z_hP := hP.lt
 refine ret_of Tryz.func108 rfl rfl rfl [(0, _), (1, _)] rfl ?_
 refine sreg ?_
 refine svK (xallS (lens := [256, 1, 1, 1, 1, 1]) in139 (by simp [nm_length])) ?_
 rintro _ w2 ⟨b4, rfl, m3, h4, e1, s1⟩
 have hP := hP.keep m3 id
 have hg0 := rng_fr hg0 m3 (by omega) id
 have hG := hG.keep (fun k hk => by omega) m3 nF
 have hm := rng_fr hm m3 (by omega) id
 have hSO := hSO.keep (fun k hk => by omega) m3 nF
 have hf := hf.step0 m3
 refine sA rfl (send (fg [(0, _), (1, _), (4, _)] ⟨rfl, rfl, rfl, ⟨⟩⟩ fun _ => (sreg ?_)))
 refine svK (xallS (lens := [256, 1, 1, 1, 1, 1]) in139 (by simp [nm_length])) ?_
 rintro _ w5 ⟨b6, rfl, m6, h6, e4, s4⟩
 have hP := hP.keep m6 id
 have hg0 := rng_fr hg0 m6 (by omega) id
 have hG := hG.keep (fun k hk => by omega) m6 nF
 have hm := rng_fr hm m6 (by omega) id
 have hSO := hSO.keep (fun k hk => by omega) m6 nF
 have hf := hf.step0 m6
 have h4 := h4.keep m6 id
 refine send (fg [(0, _), (1, _), (4, _), (6, _)] ⟨rfl, rfl, rfl, rfl, ⟨⟩⟩ fun _ => (sreg (sA rfl (send (fg [(0, _), (1, _), (4, _), (6, _)] ⟨rfl, rfl, rfl, rfl, ⟨⟩⟩ fun _ => (sreg (sM rfl (sM rfl ?_))))))))
 refine sc (xcall ca158 rfl) (c158g (_sec := 0) (_val := false) (_vm := .nilIface) (b := b) (q := q) (K := kk) (off := off) (e := e0) (S := bt r.name) (ka := (typeN r).toNat) (kb := r.cls.toNat) (kc := r.ttl.toNat) (kd := len) hms hm (by omega) hnb hkm hbl hP hg0 hG (by omega) hgp hs0 hs1 hq0 hq1 hbp hne hN hr.2.2.1.1 (hKp kk hkk).1 (hKp kk hkk).2 (u16lt _) (u16lt _) (u32lt _) hl16 hst.left (hst.right' rfl).left ((hst.right' rfl).right' rfl).left (((hst.right' rfl).right' rfl).right' rfl) (by omega)) ?_
 rintro _ w7 ⟨⟨hle11, rfl, hP⟩ | ⟨hgt11, x11, rfl⟩, m8⟩
 ·
  have z9 := m8.size
  have hG := hG.keep (fun k hk => by omega) m8 (fun k hk hS => by have hk := hk; have hS : k = bp := hS; omega)
  have hm := rng_fr hm m8 (by omega) (by show ¬ (bm = bp); omega)
  have hSO := hSO.keep (fun k hk => by omega) m8 (fun k hk hS => by have hk := hk; have hS : k = bp := hS; omega)
  have hf := hf.step m8 (fun k hk hS => by have hS : k = bp := hS; show k = bp; omega)
  have h4 := h4.keep m8 (by show ¬ (b4 = bp); omega)
  have h6 := h6.keep m8 (by show ¬ (b6 = bp); omega)
  refine sM rfl (sv (xex20 rfl) (sv (xex21 rfl) (sv (xfld fl139_0 rfl) ?_)))
  refine suK (xstS 0 h6 (lens' := [256, 1, 1, 1, 1]) sz135 (by simp [nm_length]) rfl rfl (by simp only [List.flatten_cons, List.flatten_nil, List.all_append, List.append_nil, nm_one, Bool.true_and] <;> rfl) rfl rfl) ?_
  rintro w11 ⟨m12, h6, s10⟩
  have hG := hG.keep (fun k hk => by omega) m12 (fun k hk hS => by have hk := hk; have hS : k = b6 := hS; omega)
  have hm := rng_fr hm m12 (by omega) (by show ¬ (bm = b6); omega)
  have hSO := hSO.keep (fun k hk => by omega) m12 (fun k hk hS => by have hk := hk; have hS : k = b6 := hS; omega)
  have hf := hf.step m12 (nB (by omega))
  have h4 := h4.keep m12 (by show ¬ (b4 = b6); omega)
  have hP := hP.keep m12 (by show ¬ (bp = b6); omega)
  refine sA rfl (send (fg [(0, _), (1, _), (4, _), (6, _), (7, _)] ⟨rfl, rfl, rfl, rfl, rfl, ⟨⟩⟩ fun _ => (wp_seq (sreg (sM rfl (sv (xneN if89 rfl) (send (fg [(0, _), (1, _), (4, _), (6, _), (7, _), (16, _)] ⟨rfl, rfl, rfl, rfl, rfl, rfl, ⟨⟩⟩ fun _ => (cno rfl (wp_skip (nThen (fg [(0, _), (1, _), (4, _), (6, _)] ⟨rfl, rfl, rfl, rfl, ⟨⟩⟩ fun _ => (sreg (sM rfl (sN rfl (sv (xfld fl124_5 rfl) ?_))))))))))))))))
  refine suK (xstF 10 sz4 hP rfl rfl rfl rfl rfl) ?_
  rintro w14 ⟨m15, hP, s13⟩
  have hG := hG.keep (fun k hk => by omega) m15 (fun k hk hS => by have hk := hk; have hS : k = bp := hS; omega)
  have hm := rng_fr hm m15 (by omega) (by show ¬ (bm = bp); omega)
  have hSO := hSO.keep (fun k hk => by omega) m15 (fun k hk hS => by have hk := hk; have hS : k = bp := hS; omega)
  have hf := hf.step m15 (fun k hk hS => by have hS : k = bp := hS; show k = bp; omega)
  have h4 := h4.keep m15 (by show ¬ (b4 = bp); omega)
  have h6 := h6.keep m15 (by show ¬ (b6 = bp); omega)
  refine send (fg [(0, _), (1, _), (4, _), (6, _)] ⟨rfl, rfl, rfl, rfl, ⟨⟩⟩ fun _ => ?_)
  refine sdrawH (fun wx => Fr (fun k => k = b6 ∨ k = bp) w14.drew wx ∧ ((∃ o : Int, SB wx bp lPr (prSegs (.slice a n km) y0 y1 y2 y3 y4 y5 q o idx false (off : Int) ((typeN r).toNat : Int) (len : Int))) ∧ ∃ vb : Value, SB wx b6 lRes ([nm (bt r.name), [.int .u16 ((typeN r).toNat : Int)], [.int .u16 (r.cls.toNat : Int)], [.int .u32 (r.ttl.toNat : Int)], [.int .u16 (len : Int)]] ++ [[vb]]))) [(0, .rd), (1, .rd), (2, .rd), (3, .rd), (4, .rd), (5, .rd), (6, .rd), (7, .rd), (9, .rd), (10, .rd), (8, .ld), (11, .ld), (12, .rd), (13, .rd), (14, .rd), (15, .rd), (16, .rd), (17, .ld), (18, .rd), (19, .rd), (20, .ld), (21, .rd)] mixed (by kernel_rfl) (fun _ _ _ _ _ h => h) ?_
  have z16 : w14.drew.heap.size = w14.heap.size := rfl
  have hG := hG.keep (fun k hk => by omega) (fd w14) nF
  have hm := rng_fr hm (fd w14) (by omega) id
  have hSO := hSO.keep (fun k hk => by omega) (fd w14) nF
  have hf := hf.drew
  have h4 := h4.drew
  have h6 := h6.drew
  have hP := hP.drew
  have hS17 : Fr (fun k => k = b6 ∨ k = bp) w14.drew w14.drew := Fr.refl _ _
  have hS18 : Fr (fun k => k = b6 ∨ k = bp) w14.drew w14.drew ∧ ((∃ o : Int, SB w14.drew bp lPr (prSegs (.slice a n km) y0 y1 y2 y3 y4 y5 q o idx false (off : Int) ((typeN r).toNat : Int) (len : Int))) ∧ ∃ vb : Value, SB w14.drew b6 lRes ([nm (bt r.name), [.int .u16 ((typeN r).toNat : Int)], [.int .u16 (r.cls.toNat : Int)], [.int .u32 (r.ttl.toNat : Int)], [.int .u16 (len : Int)]] ++ [[vb]])) := ⟨hS17, ⟨⟨_, hP⟩, _, h6⟩⟩
  refine qqM rfl rfl hS18 (qqM rfl rfl hS18 (qqN rfl rfl hS18 (hvH rfl (fun _ _ => xfld fl124_0 rfl) hS18 (hvH rfl (fun w' hS => xld (v := .slice a n km) on37 rfl (by obtain ⟨-, ⟨o, hq⟩, -⟩ := hS; exact hq.r.c 0 rfl rfl)) hS18 (qqM rfl rfl hS18 (qqN rfl rfl hS18 (hvH rfl (fun _ _ => xfld fl124_3 rfl) hS18 (hvH rfl (fun _ _ => xfld fl139_0 rfl) hS18 (hvH rfl (fun w' hS => xldS (lens := [256, 1, 1, 1, 1]) (segs := [nm (bt r.name), [.int .u16 ((typeN r).toNat : Int)], [.int .u16 (r.cls.toNat : Int)], [.int .u32 (r.ttl.toNat : Int)], [.int .u16 (len : Int)]]) ro135 rfl (by obtain ⟨-, -, vb, hq⟩ := hS; exact hq.r.sub 0 5 rfl)) hS18 ?_)))))))))
  refine hlH rfl (xld on3 rfl (hP.r.c 8 rfl rfl)) hS18 ?_
  refine hcH rfl (xcall ca159 rfl) (c159 (b := b) (off := e0 + 2 + 2 + 4 + 2) (e := e0 + 10 + len) (len := len) (r := r) (Kp := Kp) hms hm (by omega) hnb hkm hbl hG (by omega) hKp hbody (by omega) hl16 heb (by omega) (by omega) hr hasc) ?_
  rintro _ w19 ⟨⟨hle34, v34, rfl, hbe⟩ | ⟨hgt34, x34, rfl⟩, m20⟩
  ·
   have z21 := m20.size
   have hSO := hSO.keep (fun k hk => by omega) m20 nF
   have hf := hf.step0 m20
   have h4 := h4.keep m20 id
   have h6 := h6.keep m20 id
   have hP := hP.keep m20 id
   have hS22 := hS18.1.step0 m20
   obtain ⟨bq34, Tq34, lq34, sq34, rfl, -⟩ := id hbe
   have hS23 : Fr (fun k => k = b6 ∨ k = bp) w14.drew w19 ∧ ((∃ o : Int, SB w19 bp lPr (prSegs (.slice a n km) y0 y1 y2 y3 y4 y5 q o idx false (off : Int) ((typeN r).toNat : Int) (len : Int))) ∧ ∃ vb : Value, SB w19 b6 lRes ([nm (bt r.name), [.int .u16 ((typeN r).toNat : Int)], [.int .u16 (r.cls.toNat : Int)], [.int .u32 (r.ttl.toNat : Int)], [.int .u16 (len : Int)]] ++ [[vb]])) := ⟨hS22, ⟨⟨_, hP⟩, _, h6⟩⟩
   refine ⟨hS23, ?_⟩
   refine qqM rfl rfl hS23 (hvH rfl (fun _ _ => xex30 rfl) hS23 (hvH rfl (fun _ _ => xex31 rfl) hS23 (hvH rfl (fun _ _ => xex32 rfl) hS23 (hvH rfl (fun _ _ => xfld fl139_1 rfl) hS23 ?_))))
   refine hluKH rfl (xstF 5 sz137 h6 rfl rfl rfl rfl rfl) ?_
   rintro w25 ⟨m26, h6, s24⟩
   have hSO := hSO.keep (fun k hk => by omega) m26 (fun k hk hS => by have hk := hk; have hS : k = b6 := hS; omega)
   have hf := hf.step m26 (nB (by omega))
   have h4 := h4.keep m26 (by show ¬ (b4 = b6); omega)
   have hP := hP.keep m26 (by show ¬ (bp = b6); omega)
   have hbe := hbe.keep (lNo (by omega)) m26 (fun k hk hS => by have hk := Ub.num (U := NoU) (n := 0) (fun _ h => h.elim) hk; have hS : k = b6 := hS; omega)
   have hS27 := hS23.1.step m26 (fun k hk hS => by have hS : k = b6 := hS; show k = b6 ∨ k = bp; omega)
   have hS28 : Fr (fun k => k = b6 ∨ k = bp) w14.drew w25 ∧ ((∃ o : Int, SB w25 bp lPr (prSegs (.slice a n km) y0 y1 y2 y3 y4 y5 q o idx false (off : Int) ((typeN r).toNat : Int) (len : Int))) ∧ ∃ vb : Value, SB w25 b6 lRes ([nm (bt r.name), [.int .u16 ((typeN r).toNat : Int)], [.int .u16 (r.cls.toNat : Int)], [.int .u32 (r.ttl.toNat : Int)], [.int .u16 (len : Int)]] ++ [[vb]])) := ⟨hS27, ⟨⟨_, hP⟩, _, h6⟩⟩
   refine ⟨hS28, ?_⟩
   refine qqN rfl rfl hS28 (hvH rfl (fun _ _ => xfld fl124_3 rfl) hS28 ?_)
   refine hluKH rfl (xstF 8 sz3 hP rfl rfl rfl rfl rfl) ?_
   rintro w30 ⟨m31, hP, s29⟩
   have hSO := hSO.keep (fun k hk => by omega) m31 (fun k hk hS => by have hk := hk; have hS : k = bp := hS; omega)
   have hf := hf.step m31 (fun k hk hS => by have hS : k = bp := hS; show k = bp; omega)
   have h4 := h4.keep m31 (by show ¬ (b4 = bp); omega)
   have h6 := h6.keep m31 (by show ¬ (b6 = bp); omega)
   have hbe := hbe.keep (lNo (by omega)) m31 (fun k hk hS => by have hk := Ub.num (U := NoU) (n := 0) (fun _ h => h.elim) hk; have hS : k = bp := hS; omega)
   have hS32 := hS28.1.step m31 (fun k hk hS => by have hS : k = bp := hS; show k = b6 ∨ k = bp; omega)
   have hS33 : Fr (fun k => k = b6 ∨ k = bp) w14.drew w30 ∧ ((∃ o : Int, SB w30 bp lPr (prSegs (.slice a n km) y0 y1 y2 y3 y4 y5 q o idx false (off : Int) ((typeN r).toNat : Int) (len : Int))) ∧ ∃ vb : Value, SB w30 b6 lRes ([nm (bt r.name), [.int .u16 ((typeN r).toNat : Int)], [.int .u16 (r.cls.toNat : Int)], [.int .u32 (r.ttl.toNat : Int)], [.int .u16 (len : Int)]] ++ [[vb]])) := ⟨hS32, ⟨⟨_, hP⟩, _, h6⟩⟩
   refine ⟨hS33, ?_⟩
   refine qqA rfl rfl hS33 (hendH (fg [(0, _), (1, _), (4, _), (6, _), (7, _)] ⟨rfl, rfl, rfl, rfl, rfl, ⟨⟩⟩ fun _ => (wp_seq (sreg (sM rfl (sv (xneN if89 rfl) (send (fg [(0, _), (1, _), (4, _), (6, _), (7, _), (42, _)] ⟨rfl, rfl, rfl, rfl, rfl, rfl, ⟨⟩⟩ fun _ => (cno rfl (wp_skip (nThen (fg [(0, _), (4, _), (6, _)] ⟨rfl, rfl, rfl, ⟨⟩⟩ fun _ => (sreg (sM rfl (sN rfl (sv (xfld fl124_4 rfl) (sv (xld on3 rfl (hP.r.c 9 rfl rfl)) (sv (xadd rfl rfl (w64 (by omega) (by omega))) (sN rfl (sv (xfld fl124_4 rfl) ?_))))))))))))))))))))
   refine suK (xstF 9 sz3 hP rfl rfl rfl rfl rfl) ?_
   rintro w35 ⟨m36, hP, s34⟩
   have hSO := hSO.keep (fun k hk => by omega) m36 (fun k hk hS => by have hk := hk; have hS : k = bp := hS; omega)
   have hf := hf.step m36 (fun k hk hS => by have hS : k = bp := hS; show k = bp; omega)
   have h4 := h4.keep m36 (by show ¬ (b4 = bp); omega)
   have h6 := h6.keep m36 (by show ¬ (b6 = bp); omega)
   have hbe := hbe.keep (lNo (by omega)) m36 (fun k hk hS => by have hk := Ub.num (U := NoU) (n := 0) (fun _ h => h.elim) hk; have hS : k = bp := hS; omega)
   refine send (fg [(4, _), (6, _)] ⟨rfl, rfl, ⟨⟩⟩ fun _ => (sreg (sv (xldS (lens := [256, 1, 1, 1, 1, 1]) ro139 rfl h6.r) ?_)))
   refine suK (xstW h4 (lens' := [256, 1, 1, 1, 1, 1]) sz139 (by simp [nm_length]) rfl (one6 _ _ _ _ _ _ rfl) rfl rfl) ?_
   rintro w38 ⟨m39, h4, s37⟩
   have hSO := hSO.keep (fun k hk => by omega) m39 (fun k hk hS => by have hk := hk; have hS : k = b4 := hS; omega)
   have hf := hf.step m39 (nB (by omega))
   have h6 := h6.keep m39 (by show ¬ (b6 = b4); omega)
   have hP := hP.keep m39 (by show ¬ (bp = b4); omega)
   have hbe := hbe.keep (lNo (by omega)) m39 (fun k hk hS => by have hk := Ub.num (U := NoU) (n := 0) (fun _ h => h.elim) hk; have hS : k = b4 := hS; omega)
   refine sA rfl (send (fg [(4, _), (5, _)] ⟨rfl, rfl, ⟨⟩⟩ fun _ => (wp_ret ?_)))
   refine rp2 rfl ⟨_, rfl, ldS (lens := [256, 1, 1, 1, 1, 1]) ro139 h4.r⟩ rfl ?_
   exact ⟨.inl ⟨by omega, _, rfl, ⟨len, _, hl16, rfl, hbe.mono (fun k hk => hk.elim .inl (fun h => .inr ⟨by omega, by omega⟩))⟩, _, _, _, hP⟩, hf⟩
  ·
   have z40 := m20.size
   have hSO := hSO.keep (fun k hk => by omega) m20 nF
   have hf := hf.step0 m20
   have h4 := h4.keep m20 id
   have h6 := h6.keep m20 id
   have hP := hP.keep m20 id
   have hS41 := hS18.1.step0 m20
   have hS42 : Fr (fun k => k = b6 ∨ k = bp) w14.drew w19 ∧ ((∃ o : Int, SB w19 bp lPr (prSegs (.slice a n km) y0 y1 y2 y3 y4 y5 q o idx false (off : Int) ((typeN r).toNat : Int) (len : Int))) ∧ ∃ vb : Value, SB w19 b6 lRes ([nm (bt r.name), [.int .u16 ((typeN r).toNat : Int)], [.int .u16 (r.cls.toNat : Int)], [.int .u32 (r.ttl.toNat : Int)], [.int .u16 (len : Int)]] ++ [[vb]])) := ⟨hS41, ⟨⟨_, hP⟩, _, h6⟩⟩
   refine ⟨hS42, ?_⟩
   refine qqM rfl rfl hS42 (hvH rfl (fun _ _ => xex30 rfl) hS42 (hvH rfl (fun _ _ => xex31 rfl) hS42 (hvH rfl (fun _ _ => xex32 rfl) hS42 (hvH rfl (fun _ _ => xfld fl139_1 rfl) hS42 ?_))))
   refine hluKH rfl (xstF 5 sz137 h6 rfl rfl rfl rfl rfl) ?_
   rintro w44 ⟨m45, h6, s43⟩
   have hSO := hSO.keep (fun k hk => by omega) m45 (fun k hk hS => by have hk := hk; have hS : k = b6 := hS; omega)
   have hf := hf.step m45 (nB (by omega))
   have h4 := h4.keep m45 (by show ¬ (b4 = b6); omega)
   have hP := hP.keep m45 (by show ¬ (bp = b6); omega)
   have hS46 := hS42.1.step m45 (fun k hk hS => by have hS : k = b6 := hS; show k = b6 ∨ k = bp; omega)
   have hS47 : Fr (fun k => k = b6 ∨ k = bp) w14.drew w44 ∧ ((∃ o : Int, SB w44 bp lPr (prSegs (.slice a n km) y0 y1 y2 y3 y4 y5 q o idx false (off : Int) ((typeN r).toNat : Int) (len : Int))) ∧ ∃ vb : Value, SB w44 b6 lRes ([nm (bt r.name), [.int .u16 ((typeN r).toNat : Int)], [.int .u16 (r.cls.toNat : Int)], [.int .u32 (r.ttl.toNat : Int)], [.int .u16 (len : Int)]] ++ [[vb]])) := ⟨hS46, ⟨⟨_, hP⟩, _, h6⟩⟩
   refine ⟨hS47, ?_⟩
   refine qqN rfl rfl hS47 (hvH rfl (fun _ _ => xfld fl124_3 rfl) hS47 ?_)
   refine hluKH rfl (xstF 8 sz3 hP rfl rfl rfl rfl rfl) ?_
   rintro w49 ⟨m50, hP, s48⟩
   have hSO := hSO.keep (fun k hk => by omega) m50 (fun k hk hS => by have hk := hk; have hS : k = bp := hS; omega)
   have hf := hf.step m50 (fun k hk hS => by have hS : k = bp := hS; show k = bp; omega)
   have h4 := h4.keep m50 (by show ¬ (b4 = bp); omega)
   have h6 := h6.keep m50 (by show ¬ (b6 = bp); omega)
   have hS51 := hS47.1.step m50 (fun k hk hS => by have hS : k = bp := hS; show k = b6 ∨ k = bp; omega)
   have hS52 : Fr (fun k => k = b6 ∨ k = bp) w14.drew w49 ∧ ((∃ o : Int, SB w49 bp lPr (prSegs (.slice a n km) y0 y1 y2 y3 y4 y5 q o idx false (off : Int) ((typeN r).toNat : Int) (len : Int))) ∧ ∃ vb : Value, SB w49 b6 lRes ([nm (bt r.name), [.int .u16 ((typeN r).toNat : Int)], [.int .u16 (r.cls.toNat : Int)], [.int .u32 (r.ttl.toNat : Int)], [.int .u16 (len : Int)]] ++ [[vb]])) := ⟨hS51, ⟨⟨_, hP⟩, _, h6⟩⟩
   refine ⟨hS52, ?_⟩
   refine qqA rfl rfl hS52 (hendH (fg [(0, _), (1, _), (4, _), (6, _), (7, _)] ⟨rfl, rfl, rfl, rfl, rfl, ⟨⟩⟩ fun _ => (wp_seq (sreg (sM rfl (sv (xneI if89 rfl) (send (fg [(0, _), (1, _), (4, _), (6, _), (7, _), (42, _)] ⟨rfl, rfl, rfl, rfl, rfl, rfl, ⟨⟩⟩ fun _ => (cyes rfl ?_)))))))))
   have hSM := Or.resolve_left hSO (by omega)
   refine sdrawI [(4, _)] ⟨rfl, trivial⟩ (fun (x : Option Addr) => match x with | xq => [(5, .iface 166 (.pointer xq))]) (fun (x : Option Addr) wx => match x with | xq => Fr (fun k => k = b4) w49 wx ∧ (SB wx b4 lRes [nm [], [.int .u16 0], [.int .u16 0], [.int .u32 0], [.int .u16 0], [.nilIface]])) (Fr (fun k => k = b4) w49.drew) (.rd 0 (.rd 1 (.rd 2 (.rd 3 (.rd 4 (.rd 5 (.rd 6 (.two 7 (.lst [(8, .rd), (9, .ld), (10, .rd)]) 9 (.lst [(7, .ld), (8, .rd), (10, .rd)]))))))))) mixed (by kernel_rfl) ?_ ?_
   ·
    have hC : Fr (fun k => k = b4) w49 w49 := Fr.refl _ _
    have z53 : w49.drew.heap.size = w49.heap.size := rfl
    have hf := hf.drew
    have h4 := h4.drew
    have h6 := h6.drew
    have hSM := hSM.keep (fun k hk => by omega) (fd w49) nF
    have hC := hC.drew
    have hS54 : Fr (fun k => k = b4) w49.drew w49.drew := Fr.refl _ _
    refine hvT rfl (fun _ _ => xbuildS [nm [], [.int .u16 0], [.int .u16 0], [.int .u32 0], [.int .u16 0], [.nilIface]] zr139 ly139 rfl trivial (by simp [setAll, zs139])) hS54 ?_
    refine hvT rfl (fun w' hS => xld on288 rfl ((hSM.keep (fun k hk => by omega) hS (fun k hk hS => by have hk := hk; have hS : k = b4 := hS; omega)).2.2.1)) hS54 ?_
    refine hvT rfl (fun _ _ => xmove rfl) hS54 ?_
    refine hvT rfl (fun w' hS => xsec (hSM.keep (fun k hk => by omega) hS (fun k hk hS => by have hk := hk; have hS : k = b4 := hS; omega)) hq2 hq5 rfl rfl) hS54 ?_
    refine hvT rfl (fun w' hS => xadds rfl rfl (by decide) (by have := (hSM.2.2.2); obtain ⟨_, _, _, hq⟩ := this; have := (hq q hq2 hq5).1; omega)) hS54 ?_
    refine hvT rfl (fun _ _ => xmove rfl) hS54 ?_
    refine hvT rfl (fun _ _ => xbuildS [[_], [_]] zr168 ly168 rfl (by simp [fitAll, zs168, Value.cells]) rfl) hS54 ?_
    refine twoT ?_ ?_
    ·
     refine hlKT rfl (xboxS (lens := [1, 1]) rfl (by simp [])) ?_
     rintro _ w56 ⟨b50, rfl, m57, h50, e55, s55⟩
     have hf := hf.step0 m57
     have h4 := h4.keep m57 id
     have h6 := h6.keep m57 id
     have hC := hC.step0 m57
     have hS58 := hS54.step0 m57
     refine ⟨hS58, ?_⟩
     refine lstT (hv rfl (fun _ _ => xmkif ni166 rfl) hS58 ?_)
     refine hluK rfl (xstW h4 (lens' := [256, 1, 1, 1, 1, 1]) sz139 (by simp [nm_length]) rfl (by simp only [List.flatten_cons, List.flatten_nil, List.all_append, List.append_nil, nm_one, Bool.true_and] <;> rfl) rfl rfl) ?_
     rintro w60 ⟨m61, h4, s59⟩
     have hf := hf.step m61 (nB (by omega))
     have h6 := h6.keep m61 (by show ¬ (b6 = b4); omega)
     have hC := hC.step m61 (fun k hk hS => by have hS : k = b4 := hS; show k = b4; omega)
     have hS62 := hS58.step m61 (fun k hk hS => by have hS : k = b4 := hS; show k = b4; omega)
     refine ⟨hS62, ?_⟩
     refine ggA rfl rfl hS62 ?_
     exact ⟨rfl, _, _, env_okl ⟨rfl, rfl, trivial⟩, ⟨hC, (h4)⟩⟩
    ·
     refine hluKT rfl (xstW h4 (lens' := [256, 1, 1, 1, 1, 1]) sz139 (by simp [nm_length]) rfl (by simp only [List.flatten_cons, List.flatten_nil, List.all_append, List.append_nil, nm_one, Bool.true_and] <;> rfl) rfl rfl) ?_
     rintro w65 ⟨m66, h4, s63⟩
     have hf := hf.step m66 (nB (by omega))
     have h6 := h6.keep m66 (by show ¬ (b6 = b4); omega)
     have hC := hC.step m66 (fun k hk hS => by have hS : k = b4 := hS; show k = b4; omega)
     have hS67 := hS54.step m66 (fun k hk hS => by have hS : k = b4 := hS; show k = b4; omega)
     refine ⟨hS67, ?_⟩
     refine lstT ?_
     refine hlK rfl (xboxS (lens := [1, 1]) rfl (by simp [])) ?_
     rintro _ w69 ⟨b50, rfl, m70, h50, e68, s68⟩
     have hf := hf.step0 m70
     have h4 := h4.keep m70 id
     have h6 := h6.keep m70 id
     have hC := hC.step0 m70
     have hS71 := hS67.step0 m70
     refine ⟨hS71, ?_⟩
     refine hv rfl (fun _ _ => xmkif ni166 rfl) hS71 (ggA rfl rfl hS71 ?_)
     exact ⟨rfl, _, _, env_okl ⟨rfl, rfl, trivial⟩, ⟨hC, (h4)⟩⟩
   ·
    rintro xq _ w72 ⟨hC, h4⟩
    have z73 := hC.size
    have hf := hf.step hC (fun k hk hS => by have hS : k = b4 := hS; show k = bp; omega)
    have h6 := h6.keep hC (by show ¬ (b6 = b4); omega)
    refine fg [(4, _), (5, _)] ⟨rfl, rfl, ⟨⟩⟩ fun _ => (wp_ret (rThen ?_))
    refine rp2 rfl ⟨_, rfl, ldS (lens := [256, 1, 1, 1, 1, 1]) ro139 h4.r⟩ rfl ?_
    exact ⟨.inr ⟨by omega, _, rfl⟩, hf⟩
 ·
  have z74 := m8.size
  have hf := hf.step m8 (fun k hk hS => by have hS : k = bp := hS; show k = bp; omega)
  have h4 := h4.keep m8 (by show ¬ (b4 = bp); omega)
  have h6 := h6.keep m8 (by show ¬ (b6 = bp); omega)
  refine sM rfl (sv (xex20 rfl) (sv (xex21 rfl) (sv (xfld fl139_0 rfl) ?_)))
  refine suK (xstS 0 h6 (lens' := [256, 1, 1, 1, 1]) sz135 (by simp [nm_length]) rfl rfl (by simp only [List.flatten_cons, List.flatten_nil, List.all_append, List.append_nil, nm_one, Bool.true_and] <;> rfl) rfl rfl) ?_
  rintro w76 ⟨m77, h6, s75⟩
  have hf := hf.step m77 (nB (by omega))
  have h4 := h4.keep m77 (by show ¬ (b4 = b6); omega)
  refine sA rfl (send (fg [(0, _), (1, _), (4, _), (6, _), (7, _)] ⟨rfl, rfl, rfl, rfl, rfl, ⟨⟩⟩ fun _ => (wp_seq (sreg (sM rfl (sv (xneI if89 rfl) (send (fg [(0, _), (1, _), (4, _), (6, _), (7, _), (16, _)] ⟨rfl, rfl, rfl, rfl, rfl, rfl, ⟨⟩⟩ fun _ => (cyes rfl (sreg (sv (xldS (lens := [256, 1, 1, 1, 1, 1]) ro139 rfl h6.r) (sM rfl ?_))))))))))))
  refine suK (xstW h4 (lens' := [256, 1, 1, 1, 1, 1]) sz139 (by simp [nm_length]) rfl (one6 _ _ _ _ _ _ rfl) rfl rfl) ?_
  rintro w79 ⟨m80, h4, s78⟩
  have hf := hf.step m80 (nB (by omega))
  refine sA rfl (send (fg [(4, _), (5, _)] ⟨rfl, rfl, ⟨⟩⟩ fun _ => (wp_ret (rThen ?_))))
  refine rp2 rfl ⟨_, rfl, ldS (lens := [256, 1, 1, 1, 1, 1]) ro139 h4.r⟩ rfl ?_
  exact ⟨.inr ⟨by omega, _, rfl⟩, hf⟩
set_option maxHeartbeats 4000000 in
set_option maxRecDepth 100000 in
theorem c61d {w : World} {bp : Nat} {vm : Value} {y0 y1 y2 y3 y4 y5 po idx ho ty ln : Int} (hP : SB w bp lPr (prSegs vm y0 y1 y2 y3 y4 y5 3 po idx false ho ty ln)) {Tz : TypeId} {xz : Option Addr} (hg0 : w.rangeAt 0 0 [.iface Tz (.pointer xz)]) (hG : GE w) (hsz : 21 ≤ w.heap.size) (hgp : 20 < bp) (hq0 : 0 ≤ cntI 3 y2 y3 y4 y5) (hq1 : cntI 3 y2 y3 y4 y5 < 65536) (hie : idx = cntI 3 y2 y3 y4 y5)  :
  Ret PP 61 [.pointer (some ⟨bp, 0, none⟩)] w (fun u w' => (u = .tuple #[ag ([nm [], [.int .u16 0], [.int .u16 0], [.int .u32 0], [.int .u16 0], [.nilIface]]), .iface Tz (.pointer xz)] ∧ SB w' bp lPr (prSegs vm y0 y1 y2 y3 y4 y5 (3 + 1) po 0 false ho ty ln)) ∧ Fr (fun k => k = bp) w w') := by
 have hf : Fr (fun k => k = bp) w w := Fr.refl _ _
 have z_hP := hP.lt
 refine ret_of Tryz.func61 rfl rfl rfl [(0, _)] rfl ?_
 refine sreg ?_
 refine svK (xallS (lens := [256, 1, 1, 1, 1, 1]) in139 (by simp [nm_length])) ?_
 rintro _ w2 ⟨b2, rfl, m3, h2, e1, s1⟩
 have hP := hP.keep m3 id
 have hg0 := rng_fr hg0 m3 (by omega) id
 have hG := hG.keep (fun k hk => by omega) m3 nF
 have hf := hf.step0 m3
 refine sA rfl (send (fg [(0, _), (2, _)] ⟨rfl, rfl, ⟨⟩⟩ fun _ => (sreg (sM rfl ?_))))
 refine sc (xcall ca108 rfl) (c108d (q := 3) hP hg0 hG (by omega) hgp (by decide) (by decide) hq0 hq1 hie) ?_
 rintro _ w4 ⟨⟨rfl, hP⟩, m5⟩
 have z6 := m5.size
 have hf := hf.step m5 (fun k hk hS => by have hS : k = bp := hS; show k = bp; omega)
 have h2 := h2.keep m5 (by show ¬ (b2 = bp); omega)
 refine sv (xex20 rfl) (sv (xex21 rfl) ?_)
 refine suK (xstW h2 (lens' := [256, 1, 1, 1, 1, 1]) sz139 (by simp [nm_length]) rfl (by simp only [List.flatten_cons, List.flatten_nil, List.all_append, List.append_nil, nm_one, Bool.true_and] <;> rfl) rfl rfl) ?_
 rintro w8 ⟨m9, h2, s7⟩
 have hf := hf.step m9 (nB (by omega))
 have hP := hP.keep m9 (by show ¬ (bp = b2); omega)
 refine sA rfl (send (fg [(2, _), (3, _)] ⟨rfl, rfl, ⟨⟩⟩ fun _ => (wp_ret ?_)))
 refine rp2 rfl ⟨_, rfl, ldS (lens := [256, 1, 1, 1, 1, 1]) ro139 h2.r⟩ rfl ?_
 exact ⟨⟨rfl, hP⟩, hf⟩
set_option maxHeartbeats 4000000 in
set_option maxRecDepth 100000 in
theorem c61g {w : World} {a : Option Addr} {bm om km n : Nat} {b : List UInt8} (hms : n ≠ 0 → a = some ⟨bm, om, none⟩) (hm : w.rangeAt bm om (bvs (b.take n))) (hbm : bm < w.heap.size) (hnb : n ≤ b.length) (hkm : n ≤ km) (hbl : b.length < 100000000) {bp : Nat} {y0 y1 y2 y3 y4 y5 idx ho ty ln : Int} {off e : Nat} {r : RecD} {Kp : Nat → Prop} (hP : SB w bp lPr (prSegs (.slice a n km) y0 y1 y2 y3 y4 y5 3 (off : Int) idx false ho ty ln)) {Tz : TypeId} {xz : Option Addr} (hg0 : w.rangeAt 0 0 [.iface Tz (.pointer xz)]) (hG : GE w) (hsz : 21 ≤ w.heap.size) (hgp : 20 < bp) (hq0 : 0 ≤ cntI 3 y2 y3 y4 y5) (hq1 : cntI 3 y2 y3 y4 y5 < 65536) (hbp : bp ≠ bm) (hne : idx ≠ cntI 3 y2 y3 y4 y5) (hi0 : 0 ≤ idx) (hi1 : idx < 65536) {B mb : Nat} {sf : Int → ByteArray} (hBp : B ≤ bp) (hKp : ∀ k, Kp k → k ≤ 10 ∧ (k = 0 ∨ n = b.length)) (hR : RecR Kp b off r e) (hr : ReadOk r) (hasc : r.kind = 11 ∨ r.kind = 12 → asc r.pairs) (heb : e ≤ b.length) (hSO : SecOr (e ≤ n) B mb sf w) :
  Ret PP 61 [.pointer (some ⟨bp, 0, none⟩)] w (fun u w' => ((e ≤ n ∧ ∃ segs, u = .tuple #[ag segs, .nilIface] ∧ ResV (Ub NoU w w') w' segs r ∧ PrAt w' bp (.slice a n km) y0 y1 y2 y3 y4 y5 3 (e : Int) (idx + 1)) ∨ (n < e ∧ ∃ (x : Option Addr), u = .tuple #[ag ([nm [], [.int .u16 0], [.int .u16 0], [.int .u32 0], [.int .u16 0], [.nilIface]]), .iface 166 (.pointer x)])) ∧ Fr (fun k => k = bp) w w') := by
 have hzb : bp < w.heap.size := hP.lt
 have hf : Fr (fun k => k = bp) w w := Fr.refl _ _
 have z_hP := hP.lt
 refine ret_of Tryz.func61 rfl rfl rfl [(0, _)] rfl ?_
 refine sreg ?_
 refine svK (xallS (lens := [256, 1, 1, 1, 1, 1]) in139 (by simp [nm_length])) ?_
 rintro _ w2 ⟨b2, rfl, m3, h2, e1, s1⟩
 have hP := hP.keep m3 id
 have hg0 := rng_fr hg0 m3 (by omega) id
 have hG := hG.keep (fun k hk => by omega) m3 nF
 have hm := rng_fr hm m3 (by omega) id
 have hSO := hSO.keep (fun k hk => by omega) m3 nF
 have hf := hf.step0 m3
 refine sA rfl (send (fg [(0, _), (2, _)] ⟨rfl, rfl, ⟨⟩⟩ fun _ => (sreg (sM rfl ?_))))
 refine sc (xcall ca108 rfl) (c108g (q := 3) (Kp := Kp) (e := e) (r := r) hms hm (by omega) hnb hkm hbl hP hg0 hG (by omega) hgp (by decide) (by decide) hq0 hq1 hbp hne hi0 hi1 hBp (by decide) (by decide) hKp hR hr hasc heb hSO) ?_
 rintro _ w4 ⟨⟨hle5, sg5, rfl, hv5, hP⟩ | ⟨hgt5, x5, rfl⟩, m5⟩
 ·
  have z6 := m5.size
  have hf := hf.step m5 (fun k hk hS => by have hS : k = bp := hS; show k = bp; omega)
  have h2 := h2.keep m5 (by show ¬ (b2 = bp); omega)
  obtain ⟨len, vb, hl16, rfl, hbe⟩ := hv5
  obtain ⟨bq, Tq, lq, sq, rfl, -⟩ := id hbe
  refine sv (xex20 rfl) (sv (xex21 rfl) ?_)
  refine suK (xstW h2 (lens' := [256, 1, 1, 1, 1, 1]) sz139 (by simp [rhSegs, nm_length]) rfl (by simp only [rhSegs, List.cons_append, List.nil_append, List.flatten_cons, List.flatten_nil, List.all_append, List.append_nil, nm_one, Bool.true_and] <;> rfl) rfl rfl) ?_
  rintro w8 ⟨m9, h2, s7⟩
  have hf := hf.step m9 (nB (by omega))
  have hP := hP.keep m9 (by show ¬ (bp = b2); omega)
  have hbe := hbe.keep (lNo (by omega)) m9 (fun k hk hS => by have hk := Ub.num (U := NoU) (n := 0) (fun _ h => h.elim) hk; have hS : k = b2 := hS; omega)
  refine sA rfl (send (fg [(2, _), (3, _)] ⟨rfl, rfl, ⟨⟩⟩ fun _ => (wp_ret ?_)))
  refine rp2 rfl ⟨_, rfl, ldS (lens := [256, 1, 1, 1, 1, 1]) ro139 h2.r⟩ rfl ?_
  exact ⟨.inl ⟨by omega, _, rfl, ResV.mk hl16 (hbe.mono (fun k hk => hk.elim .inl (fun h => .inr ⟨by omega, by omega⟩))), hP⟩, hf⟩
 ·
  have z10 := m5.size
  have hf := hf.step m5 (fun k hk hS => by have hS : k = bp := hS; show k = bp; omega)
  have h2 := h2.keep m5 (by show ¬ (b2 = bp); omega)
  refine sv (xex20 rfl) (sv (xex21 rfl) ?_)
  refine suK (xstW h2 (lens' := [256, 1, 1, 1, 1, 1]) sz139 (by simp [nm_length]) rfl (by simp only [List.cons_append, List.nil_append, List.flatten_cons, List.flatten_nil, List.all_append, List.append_nil, nm_one, Bool.true_and] <;> rfl) rfl rfl) ?_
  rintro w12 ⟨m13, h2, s11⟩
  have hf := hf.step m13 (nB (by omega))
  refine sA rfl (send (fg [(2, _), (3, _)] ⟨rfl, rfl, ⟨⟩⟩ fun _ => (wp_ret ?_)))
  refine rp2 rfl ⟨_, rfl, ldS (lens := [256, 1, 1, 1, 1, 1]) ro139 h2.r⟩ rfl ?_
  exact ⟨.inr ⟨by omega, _, rfl⟩, hf⟩
set_option maxHeartbeats 4000000 in
set_option maxRecDepth 100000 in
theorem c62d {w : World} {bp : Nat} {vm : Value} {y0 y1 y2 y3 y4 y5 po idx ho ty ln : Int} (hP : SB w bp lPr (prSegs vm y0 y1 y2 y3 y4 y5 4 po idx false ho ty ln)) {Tz : TypeId} {xz : Option Addr} (hg0 : w.rangeAt 0 0 [.iface Tz (.pointer xz)]) (hG : GE w) (hsz : 21 ≤ w.heap.size) (hgp : 20 < bp) (hq0 : 0 ≤ cntI 4 y2 y3 y4 y5) (hq1 : cntI 4 y2 y3 y4 y5 < 65536) (hie : idx = cntI 4 y2 y3 y4 y5)  :
  Ret PP 62 [.pointer (some ⟨bp, 0, none⟩)] w (fun u w' => (u = .tuple #[ag ([nm [], [.int .u16 0], [.int .u16 0], [.int .u32 0], [.int .u16 0], [.nilIface]]), .iface Tz (.pointer xz)] ∧ SB w' bp lPr (prSegs vm y0 y1 y2 y3 y4 y5 (4 + 1) po 0 false ho ty ln)) ∧ Fr (fun k => k = bp) w w') := by
 have hf : Fr (fun k => k = bp) w w := Fr.refl _ _
 have z_hP := hP.lt
 refine ret_of Tryz.func62 rfl rfl rfl [(0, _)] rfl ?_
 refine sreg ?_
 refine svK (xallS (lens := [256, 1, 1, 1, 1, 1]) in139 (by simp [nm_length])) ?_
 rintro _ w2 ⟨b2, rfl, m3, h2, e1, s1⟩
 have hP := hP.keep m3 id
 have hg0 := rng_fr hg0 m3 (by omega) id
 have hG := hG.keep (fun k hk => by omega) m3 nF
 have hf := hf.step0 m3
 refine sA rfl (send (fg [(0, _), (2, _)] ⟨rfl, rfl, ⟨⟩⟩ fun _ => (sreg (sM rfl ?_))))
 refine sc (xcall ca108 rfl) (c108d (q := 4) hP hg0 hG (by omega) hgp (by decide) (by decide) hq0 hq1 hie) ?_
 rintro _ w4 ⟨⟨rfl, hP⟩, m5⟩
 have z6 := m5.size
 have hf := hf.step m5 (fun k hk hS => by have hS : k = bp := hS; show k = bp; omega)
 have h2 := h2.keep m5 (by show ¬ (b2 = bp); omega)
 refine sv (xex20 rfl) (sv (xex21 rfl) ?_)
 refine suK (xstW h2 (lens' := [256, 1, 1, 1, 1, 1]) sz139 (by simp [nm_length]) rfl (by simp only [List.flatten_cons, List.flatten_nil, List.all_append, List.append_nil, nm_one, Bool.true_and] <;> rfl) rfl rfl) ?_
 rintro w8 ⟨m9, h2, s7⟩
 have hf := hf.step m9 (nB (by omega))
 have hP := hP.keep m9 (by show ¬ (bp = b2); omega)
 refine sA rfl (send (fg [(2, _), (3, _)] ⟨rfl, rfl, ⟨⟩⟩ fun _ => (wp_ret ?_)))
 refine rp2 rfl ⟨_, rfl, ldS (lens := [256, 1, 1, 1, 1, 1]) ro139 h2.r⟩ rfl ?_
 exact ⟨⟨rfl, hP⟩, hf⟩
set_option maxHeartbeats 4000000 in
set_option maxRecDepth 100000 in
theorem c62g {w : World} {a : Option Addr} {bm om km n : Nat} {b : List UInt8} (hms : n ≠ 0 → a = some ⟨bm, om, none⟩) (hm : w.rangeAt bm om (bvs (b.take n))) (hbm : bm < w.heap.size) (hnb : n ≤ b.length) (hkm : n ≤ km) (hbl : b.length < 100000000) {bp : Nat} {y0 y1 y2 y3 y4 y5 idx ho ty ln : Int} {off e : Nat} {r : RecD} {Kp : Nat → Prop} (hP : SB w bp lPr (prSegs (.slice a n km) y0 y1 y2 y3 y4 y5 4 (off : Int) idx false ho ty ln)) {Tz : TypeId} {xz : Option Addr} (hg0 : w.rangeAt 0 0 [.iface Tz (.pointer xz)]) (hG : GE w) (hsz : 21 ≤ w.heap.size) (hgp : 20 < bp) (hq0 : 0 ≤ cntI 4 y2 y3 y4 y5) (hq1 : cntI 4 y2 y3 y4 y5 < 65536) (hbp : bp ≠ bm) (hne : idx ≠ cntI 4 y2 y3 y4 y5) (hi0 : 0 ≤ idx) (hi1 : idx < 65536) {B mb : Nat} {sf : Int → ByteArray} (hBp : B ≤ bp) (hKp : ∀ k, Kp k → k ≤ 10 ∧ (k = 0 ∨ n = b.length)) (hR : RecR Kp b off r e) (hr : ReadOk r) (hasc : r.kind = 11 ∨ r.kind = 12 → asc r.pairs) (heb : e ≤ b.length) (hSO : SecOr (e ≤ n) B mb sf w) :
  Ret PP 62 [.pointer (some ⟨bp, 0, none⟩)] w (fun u w' => ((e ≤ n ∧ ∃ segs, u = .tuple #[ag segs, .nilIface] ∧ ResV (Ub NoU w w') w' segs r ∧ PrAt w' bp (.slice a n km) y0 y1 y2 y3 y4 y5 4 (e : Int) (idx + 1)) ∨ (n < e ∧ ∃ (x : Option Addr), u = .tuple #[ag ([nm [], [.int .u16 0], [.int .u16 0], [.int .u32 0], [.int .u16 0], [.nilIface]]), .iface 166 (.pointer x)])) ∧ Fr (fun k => k = bp) w w') := by
 have hzb : bp < w.heap.size := hP.lt
 have hf : Fr (fun k => k = bp) w w := Fr.refl _ _
 have z_hP := hP.lt
 refine ret_of Tryz.func62 rfl rfl rfl [(0, _)] rfl ?_
 refine sreg ?_
 refine svK (xallS (lens := [256, 1, 1, 1, 1, 1]) in139 (by simp [nm_length])) ?_
 rintro _ w2 ⟨b2, rfl, m3, h2, e1, s1⟩
 have hP := hP.keep m3 id
 have hg0 := rng_fr hg0 m3 (by omega) id
 have hG := hG.keep (fun k hk => by omega) m3 nF
 have hm := rng_fr hm m3 (by omega) id
 have hSO := hSO.keep (fun k hk => by omega) m3 nF
 have hf := hf.step0 m3
 refine sA rfl (send (fg [(0, _), (2, _)] ⟨rfl, rfl, ⟨⟩⟩ fun _ => (sreg (sM rfl ?_))))
 refine sc (xcall ca108 rfl) (c108g (q := 4) (Kp := Kp) (e := e) (r := r) hms hm (by omega) hnb hkm hbl hP hg0 hG (by omega) hgp (by decide) (by decide) hq0 hq1 hbp hne hi0 hi1 hBp (by decide) (by decide) hKp hR hr hasc heb hSO) ?_
 rintro _ w4 ⟨⟨hle5, sg5, rfl, hv5, hP⟩ | ⟨hgt5, x5, rfl⟩, m5⟩
 ·
  have z6 := m5.size
  have hf := hf.step m5 (fun k hk hS => by have hS : k = bp := hS; show k = bp; omega)
  have h2 := h2.keep m5 (by show ¬ (b2 = bp); omega)
  obtain ⟨len, vb, hl16, rfl, hbe⟩ := hv5
  obtain ⟨bq, Tq, lq, sq, rfl, -⟩ := id hbe
  refine sv (xex20 rfl) (sv (xex21 rfl) ?_)
  refine suK (xstW h2 (lens' := [256, 1, 1, 1, 1, 1]) sz139 (by simp [rhSegs, nm_length]) rfl (by simp only [rhSegs, List.cons_append, List.nil_append, List.flatten_cons, List.flatten_nil, List.all_append, List.append_nil, nm_one, Bool.true_and] <;> rfl) rfl rfl) ?_
  rintro w8 ⟨m9, h2, s7⟩
  have hf := hf.step m9 (nB (by omega))
  have hP := hP.keep m9 (by show ¬ (bp = b2); omega)
  have hbe := hbe.keep (lNo (by omega)) m9 (fun k hk hS => by have hk := Ub.num (U := NoU) (n := 0) (fun _ h => h.elim) hk; have hS : k = b2 := hS; omega)
  refine sA rfl (send (fg [(2, _), (3, _)] ⟨rfl, rfl, ⟨⟩⟩ fun _ => (wp_ret ?_)))
  refine rp2 rfl ⟨_, rfl, ldS (lens := [256, 1, 1, 1, 1, 1]) ro139 h2.r⟩ rfl ?_
  exact ⟨.inl ⟨by omega, _, rfl, ResV.mk hl16 (hbe.mono (fun k hk => hk.elim .inl (fun h => .inr ⟨by omega, by omega⟩))), hP⟩, hf⟩
 ·
  have z10 := m5.size
  have hf := hf.step m5 (fun k hk hS => by have hS : k = bp := hS; show k = bp; omega)
  have h2 := h2.keep m5 (by show ¬ (b2 = bp); omega)
  refine sv (xex20 rfl) (sv (xex21 rfl) ?_)
  refine suK (xstW h2 (lens' := [256, 1, 1, 1, 1, 1]) sz139 (by simp [nm_length]) rfl (by simp only [List.cons_append, List.nil_append, List.flatten_cons, List.flatten_nil, List.all_append, List.append_nil, nm_one, Bool.true_and] <;> rfl) rfl rfl) ?_
  rintro w12 ⟨m13, h2, s11⟩
  have hf := hf.step m13 (nB (by omega))
  refine sA rfl (send (fg [(2, _), (3, _)] ⟨rfl, rfl, ⟨⟩⟩ fun _ => (wp_ret ?_)))
  refine rp2 rfl ⟨_, rfl, ldS (lens := [256, 1, 1, 1, 1, 1]) ro139 h2.r⟩ rfl ?_
  exact ⟨.inr ⟨by omega, _, rfl⟩, hf⟩
set_option maxHeartbeats 4000000 in
set_option maxRecDepth 100000 in
theorem c63d {w : World} {bp : Nat} {vm : Value} {y0 y1 y2 y3 y4 y5 po idx ho ty ln : Int} (hP : SB w bp lPr (prSegs vm y0 y1 y2 y3 y4 y5 5 po idx false ho ty ln)) {Tz : TypeId} {xz : Option Addr} (hg0 : w.rangeAt 0 0 [.iface Tz (.pointer xz)]) (hG : GE w) (hsz : 21 ≤ w.heap.size) (hgp : 20 < bp) (hq0 : 0 ≤ cntI 5 y2 y3 y4 y5) (hq1 : cntI 5 y2 y3 y4 y5 < 65536) (hie : idx = cntI 5 y2 y3 y4 y5)  :
  Ret PP 63 [.pointer (some ⟨bp, 0, none⟩)] w (fun u w' => (u = .tuple #[ag ([nm [], [.int .u16 0], [.int .u16 0], [.int .u32 0], [.int .u16 0], [.nilIface]]), .iface Tz (.pointer xz)] ∧ SB w' bp lPr (prSegs vm y0 y1 y2 y3 y4 y5 (5 + 1) po 0 false ho ty ln)) ∧ Fr (fun k => k = bp) w w') := by
 have hf : Fr (fun k => k = bp) w w := Fr.refl _ _
 have z_hP := hP.lt
 refine ret_of Tryz.func63 rfl rfl rfl [(0, _)] rfl ?_
 refine sreg ?_
 refine svK (xallS (lens := [256, 1, 1, 1, 1, 1]) in139 (by simp [nm_length])) ?_
 rintro _ w2 ⟨b2, rfl, m3, h2, e1, s1⟩
 have hP := hP.keep m3 id
 have hg0 := rng_fr hg0 m3 (by omega) id
 have hG := hG.keep (fun k hk => by omega) m3 nF
 have hf := hf.step0 m3
 refine sA rfl (send (fg [(0, _), (2, _)] ⟨rfl, rfl, ⟨⟩⟩ fun _ => (sreg (sM rfl ?_))))
 refine sc (xcall ca108 rfl) (c108d (q := 5) hP hg0 hG (by omega) hgp (by decide) (by decide) hq0 hq1 hie) ?_
 rintro _ w4 ⟨⟨rfl, hP⟩, m5⟩
 have z6 := m5.size
 have hf := hf.step m5 (fun k hk hS => by have hS : k = bp := hS; show k = bp; omega)
 have h2 := h2.keep m5 (by show ¬ (b2 = bp); omega)
 refine sv (xex20 rfl) (sv (xex21 rfl) ?_)
 refine suK (xstW h2 (lens' := [256, 1, 1, 1, 1, 1]) sz139 (by simp [nm_length]) rfl (by simp only [List.flatten_cons, List.flatten_nil, List.all_append, List.append_nil, nm_one, Bool.true_and] <;> rfl) rfl rfl) ?_
 rintro w8 ⟨m9, h2, s7⟩
 have hf := hf.step m9 (nB (by omega))
 have hP := hP.keep m9 (by show ¬ (bp = b2); omega)
 refine sA rfl (send (fg [(2, _), (3, _)] ⟨rfl, rfl, ⟨⟩⟩ fun _ => (wp_ret ?_)))
 refine rp2 rfl ⟨_, rfl, ldS (lens := [256, 1, 1, 1, 1, 1]) ro139 h2.r⟩ rfl ?_
 exact ⟨⟨rfl, hP⟩, hf⟩
set_option maxHeartbeats 4000000 in
set_option maxRecDepth 100000 in
theorem c63g {w : World} {a : Option Addr} {bm om km n : Nat} {b : List UInt8} (hms : n ≠ 0 → a = some ⟨bm, om, none⟩) (hm : w.rangeAt bm om (bvs (b.take n))) (hbm : bm < w.heap.size) (hnb : n ≤ b.length) (hkm : n ≤ km) (hbl : b.length < 100000000) {bp : Nat} {y0 y1 y2 y3 y4 y5 idx ho ty ln : Int} {off e : Nat} {r : RecD} {Kp : Nat → Prop} (hP : SB w bp lPr (prSegs (.slice a n km) y0 y1 y2 y3 y4 y5 5 (off : Int) idx false ho ty ln)) {Tz : TypeId} {xz : Option Addr} (hg0 : w.rangeAt 0 0 [.iface Tz (.pointer xz)]) (hG : GE w) (hsz : 21 ≤ w.heap.size) (hgp : 20 < bp) (hq0 : 0 ≤ cntI 5 y2 y3 y4 y5) (hq1 : cntI 5 y2 y3 y4 y5 < 65536) (hbp : bp ≠ bm) (hne : idx ≠ cntI 5 y2 y3 y4 y5) (hi0 : 0 ≤ idx) (hi1 : idx < 65536) {B mb : Nat} {sf : Int → ByteArray} (hBp : B ≤ bp) (hKp : ∀ k, Kp k → k ≤ 10 ∧ (k = 0 ∨ n = b.length)) (hR : RecR Kp b off r e) (hr : ReadOk r) (hasc : r.kind = 11 ∨ r.kind = 12 → asc r.pairs) (heb : e ≤ b.length) (hSO : SecOr (e ≤ n) B mb sf w) :
  Ret PP 63 [.pointer (some ⟨bp, 0, none⟩)] w (fun u w' => ((e ≤ n ∧ ∃ segs, u = .tuple #[ag segs, .nilIface] ∧ ResV (Ub NoU w w') w' segs r ∧ PrAt w' bp (.slice a n km) y0 y1 y2 y3 y4 y5 5 (e : Int) (idx + 1)) ∨ (n < e ∧ ∃ (x : Option Addr), u = .tuple #[ag ([nm [], [.int .u16 0], [.int .u16 0], [.int .u32 0], [.int .u16 0], [.nilIface]]), .iface 166 (.pointer x)])) ∧ Fr (fun k => k = bp) w w') := by
 have hzb : bp < w.heap.size := hP.lt
 have hf : Fr (fun k => k = bp) w w := Fr.refl _ _
 have z_hP := hP.lt
 refine ret_of Tryz.func63 rfl rfl rfl [(0, _)] rfl ?_
 refine sreg ?_
 refine svK (xallS (lens := [256, 1, 1, 1, 1, 1]) in139 (by simp [nm_length])) ?_
 rintro _ w2 ⟨b2, rfl, m3, h2, e1, s1⟩
 have hP := hP.keep m3 id
 have hg0 := rng_fr hg0 m3 (by omega) id
 have hG := hG.keep (fun k hk => by omega) m3 nF
 have hm := rng_fr hm m3 (by omega) id
 have hSO := hSO.keep (fun k hk => by omega) m3 nF
 have hf := hf.step0 m3
 refine sA rfl (send (fg [(0, _), (2, _)] ⟨rfl, rfl, ⟨⟩⟩ fun _ => (sreg (sM rfl ?_))))
 refine sc (xcall ca108 rfl) (c108g (q := 5) (Kp := Kp) (e := e) (r := r) hms hm (by omega) hnb hkm hbl hP hg0 hG (by omega) hgp (by decide) (by decide) hq0 hq1 hbp hne hi0 hi1 hBp (by decide) (by decide) hKp hR hr hasc heb hSO) ?_
 rintro _ w4 ⟨⟨hle5, sg5, rfl, hv5, hP⟩ | ⟨hgt5, x5, rfl⟩, m5⟩
 ·
  have z6 := m5.size
  have hf := hf.step m5 (fun k hk hS => by have hS : k = bp := hS; show k = bp; omega)
  have h2 := h2.keep m5 (by show ¬ (b2 = bp); omega)
  obtain ⟨len, vb, hl16, rfl, hbe⟩ := hv5
  obtain ⟨bq, Tq, lq, sq, rfl, -⟩ := id hbe
  refine sv (xex20 rfl) (sv (xex21 rfl) ?_)
  refine suK (xstW h2 (lens' := [256, 1, 1, 1, 1, 1]) sz139 (by simp [rhSegs, nm_length]) rfl (by simp only [rhSegs, List.cons_append, List.nil_append, List.flatten_cons, List.flatten_nil, List.all_append, List.append_nil, nm_one, Bool.true_and] <;> rfl) rfl rfl) ?_
  rintro w8 ⟨m9, h2, s7⟩
  have hf := hf.step m9 (nB (by omega))
  have hP := hP.keep m9 (by show ¬ (bp = b2); omega)
  have hbe := hbe.keep (lNo (by omega)) m9 (fun k hk hS => by have hk := Ub.num (U := NoU) (n := 0) (fun _ h => h.elim) hk; have hS : k = b2 := hS; omega)
  refine sA rfl (send (fg [(2, _), (3, _)] ⟨rfl, rfl, ⟨⟩⟩ fun _ => (wp_ret ?_)))
  refine rp2 rfl ⟨_, rfl, ldS (lens := [256, 1, 1, 1, 1, 1]) ro139 h2.r⟩ rfl ?_
  exact ⟨.inl ⟨by omega, _, rfl, ResV.mk hl16 (hbe.mono (fun k hk => hk.elim .inl (fun h => .inr ⟨by omega, by omega⟩))), hP⟩, hf⟩
 ·
  have z10 := m5.size
  have hf := hf.step m5 (fun k hk hS => by have hS : k = bp := hS; show k = bp; omega)
  have h2 := h2.keep m5 (by show ¬ (b2 = bp); omega)
  refine sv (xex20 rfl) (sv (xex21 rfl) ?_)
  refine suK (xstW h2 (lens' := [256, 1, 1, 1, 1, 1]) sz139 (by simp [nm_length]) rfl (by simp only [List.cons_append, List.nil_append, List.flatten_cons, List.flatten_nil, List.all_append, List.append_nil, nm_one, Bool.true_and] <;> rfl) rfl rfl) ?_
  rintro w12 ⟨m13, h2, s11⟩
  have hf := hf.step m13 (nB (by omega))
  refine sA rfl (send (fg [(2, _), (3, _)] ⟨rfl, rfl, ⟨⟩⟩ fun _ => (wp_ret ?_)))
  refine rp2 rfl ⟨_, rfl, ldS (lens := [256, 1, 1, 1, 1, 1]) ro139 h2.r⟩ rfl ?_
  exact ⟨.inr ⟨by omega, _, rfl⟩, hf⟩
end Go.Proofs.YtifnodoffgfpbaaGreatDoor
