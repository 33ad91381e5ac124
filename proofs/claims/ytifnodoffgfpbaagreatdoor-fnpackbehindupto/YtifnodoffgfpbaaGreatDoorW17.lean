/- Walks: how bodies are packed. Conditions: none. -/
import Derived.Test.YtifnodoffgfpbaaGreatDoorW16
import Derived.Test.YtifnodoffgfpbaaGreatDoorMsg
namespace Go.Proofs.YtifnodoffgfpbaaGreatDoor
open Go

/-- an append within a row: what stood there is written over -/
theorem xappIn {P : Program} {n : Nat} {l : List (Nat × Value)} {w : World} {ty : TypeId} {x y : Operand} {T TX E : TypeId} {z u V : Value} {g o m k c N bytes : Nat} {pre mid post news : List Value} (hT : slcB P T E = true) (hI : Inf P E z 1 bytes)
    (hx : ev n l x = some (.slice (some ⟨g, o, none⟩) m c)) (hy : ev n l y = some u) (hR : Rw w V g E 1 N (pre ++ (mid ++ post))) (hs : Src P 1 TX u k news w) (hp : pre.length = o + m) (hmid : mid.length = news.length) (h0 : 0 < N) (hroom : m + k ≤ c) (h1 : news.all (·.oneCell') = true) :
    ExK P n l (.call { callee := .builtin .append, args := #[x, y], argTypes := #[T, TX] }) ty w (fun v' w' => v' = .slice (some ⟨g, o, none⟩) (m + k) c ∧ Fr (· = g) w w' ∧ Rw w' V g E 1 N (pre ++ (news ++ post)) ∧ w'.heap.size = w.heap.size) := by
  obtain ⟨i, hi, hiz, hsz, rfl⟩ := hI
  have hu := slcB_spec hT
  obtain ⟨⟨hlen, hown⟩, hblk, hone⟩ := hR
  rcases hown with ⟨_, hn0⟩ | ⟨g', cap, cur, rfl, hb0, hheap, hnc, hcm, hcs, htake⟩
  · omega
  · obtain rfl := hblk g' rfl
    rw [Nat.mul_one] at hcs htake hlen
    have hcur : cur.toList = pre ++ (mid ++ (post ++ cur.toList.drop N)) := by
      have h1 := List.take_append_drop N cur.toList
      rw [htake] at h1
      exact h1.symm.trans (by simp only [List.append_assoc])
    have hheap' : w.heap[g']? = some (.cells (pre ++ (mid ++ (post ++ cur.toList.drop N))).toArray E (0, 0)) := by rw [hheap, ← hcur]
    have hfit : pre.length + news.length ≤ (pre ++ (mid ++ (post ++ cur.toList.drop N))).length := by simp only [List.length_append]; omega
    have hsets := heap_sets news pre.length hheap' hfit
    rw [splice_mid _ _ _ _ hmid.symm] at hsets
    have hB : Blk w g' (pre ++ (mid ++ (post ++ cur.toList.drop N))) := ⟨E, hheap'⟩
    rw [← hsz] at hs
    have hr := run_append_room_src (P := P) w T TX ty E i hu hi g' o m c u k news hs hroom
      (fun j hj => by rw [hsz, Nat.mul_one, ← hp]; exact (hB.there (i := pre.length) (n := news.length) hfit j hj).1)
      (fun j _ => hB.frozen _)
    rw [hsz, Nat.mul_one, ← hp] at hr
    refine ⟨_, _, fun r _ _ _ _ => ?_, rfl, hsets.2.1, ⟨⟨?_, .inr ⟨g', cap, _, rfl, hb0, hsets.1, hnc, hcm, ?_, ?_⟩⟩, hblk, ?_⟩, hsets.2.2⟩
    · simp only [execOp]
      simp [resolve, invoke, builtin, ev_eval r hx, ev_eval r hy, hr]
    · rw [Nat.mul_one]; simp only [List.length_append] at hlen ⊢; omega
    · have := congrArg List.length hcur
      simp only [Array.length_toList, List.length_append] at this
      simp only [List.size_toArray, List.length_append]; omega
    · rw [Nat.mul_one]
      simp only [List.length_append] at hlen
      have e : pre ++ (news ++ (post ++ cur.toList.drop N)) = (pre ++ (news ++ post)) ++ cur.toList.drop N := by simp
      show (pre ++ (news ++ (post ++ cur.toList.drop N))).take N = _
      rw [e, List.take_left' (by simp only [List.length_append]; omega)]
    · simp only [List.all_append, Bool.and_eq_true] at hone ⊢
      exact ⟨hone.1, h1, hone.2.2⟩
/-- a name that is packed without a map -/
theorem c149n {w : World} {v : Value} {g n start pos : Nat} {bs : List UInt8} (hR : BR w v g n bs) (hg : g < w.heap.size) {bo o : Nat} {s : List UInt8} (hN : SR w bo o [256] [nm s]) (hbo : bo < w.heap.size) (hbg : bo ≠ g) (hp : n = start + pos) (hl : n < 1000000000) (hs : nameL s) :
    Ret PP 149 [.pointer (some ⟨bo, o, none⟩), v, .map none, .int .i64 (start : Int)] w (fun u w' => ∃ t, u = .tuple #[t, .nilIface] ∧ AppTo w g (n + (wire s).length) (bs ++ wire s) t w') := by
  refine (c149 (gm := g) (cm := none) (C := none) (pos := pos) hR hg hN hbo hbg hbg trivial (fun b hb => by cases hb) hp hl hs).mono ?_
  rintro u w' ⟨a, c, g', rfl, r, m, h1, h2, _⟩
  rw [packName_non hs] at r ⊢
  exact ⟨_, rfl, a, c, g', rfl, r, m.mono (fun k _ h => h.elim id id), h1, h2⟩
theorem wire_bound {s : List UInt8} (hs : nameL s) : (wire s).length ≤ 509 := by
  have := wire_le s
  have := (name_pos hs).2
  omega
theorem hbits_alt (h : HeadD) : ((((((((h.op <<< 11) ||| h.code) ||| flagN h.avail 128) ||| flagN h.des 256) ||| flagN h.cut 512) ||| flagN h.auth 1024) ||| flagN h.resp 32768) ||| flagN h.authc 32) ||| flagN h.unch 16 = hbits h := by
  simp only [hbits]; ac_rfl
theorem flagN_T {b : Bool} {x : UInt16} (h : b = true) : flagN b x = x := by rw [h]; rfl
theorem flagN_F {b : Bool} {x : UInt16} (h : b = false) : flagN b x = 0 := by rw [h]; rfl
theorem flag_or {x : UInt16} {b : Bool} {c : UInt16} : (x ||| (if b then c else 0)) = x ||| flagN b c := rfl
def hdrSegs (a b c d e f : Nat) : List (List Value) := [[.int .u16 (a : Int)], [.int .u16 (b : Int)], [.int .u16 (c : Int)], [.int .u16 (d : Int)], [.int .u16 (e : Int)], [.int .u16 (f : Int)]]
abbrev lHdr6 : List Nat := [1, 1, 1, 1, 1, 1]
abbrev lQ : List Nat := [256, 1, 1]
abbrev lRH : List Nat := [256, 1, 1, 1, 1]
theorem ba_rng {w : World} {b o c : Nat} {bs : List UInt8} (h : w.rangeAt b o (bvs bs)) : BA (· = b) w (.slice (some ⟨b, o, none⟩) bs.length c) bs := ⟨_, _, rfl, fun _ => ⟨b, o, rfl, rfl, h⟩⟩
theorem pb_name {C : Option Ent} {pos : Nat} {r : RecD} (h : r.kind = 2 ∨ r.kind = 3 ∨ r.kind = 5) : packBody C pos r = packName C pos (bt r.host) := by rw [packBody, if_pos h]
theorem pb_mx {C : Option Ent} {pos : Nat} {r : RecD} (h : r.kind = 6) : packBody C pos r = packMx C pos r := by rw [packBody, if_neg (by omega), if_pos h]
theorem pb_soa {C : Option Ent} {pos : Nat} {r : RecD} (h : r.kind = 4) : packBody C pos r = packSoa C pos r := by rw [packBody, if_neg (by omega), if_neg (by omega), if_pos h]
theorem pb_rest {C : Option Ent} {pos : Nat} {r : RecD} (h : ¬ (r.kind = 2 ∨ r.kind = 3 ∨ r.kind = 5 ∨ r.kind = 6 ∨ r.kind = 4)) : packBody C pos r = (bodyL r, C) := by rw [packBody, if_neg (by omega), if_neg (by omega), if_neg (by omega)]
theorem bodyL_simp {r : RecD} : (r.kind = 1 → bodyL r = fixedL r.data 4) ∧ (r.kind = 8 → bodyL r = fixedL r.data 16) ∧ (r.kind = 7 → bodyL r = textsL r.texts) ∧ (r.kind = 9 → bodyL r = be16 r.n1.toNat ++ (be16 r.n2.toNat ++ (be16 r.n3.toNat ++ wire (bt r.host)))) ∧ (r.kind = 10 → bodyL r = pairsL r.pairs) ∧
    (r.kind = 11 ∨ r.kind = 12 → bodyL r = be16 r.n1.toNat ++ (wire (bt r.host) ++ pairsL r.pairs)) ∧ (r.kind = 13 → bodyL r = r.data) := by
  refine ⟨fun h => ?_, fun h => ?_, fun h => ?_, fun h => ?_, fun h => ?_, fun h => ?_, fun h => ?_⟩
  · simp [bodyL, h]
  · simp [bodyL, h]
  · simp [bodyL, h]
  · simp [bodyL, h]
  · simp [bodyL, h]
  · rcases h with h | h <;> simp [bodyL, h]
  · simp [bodyL, h]

set_option maxHeartbeats 4000000 in
set_option maxRecDepth 100000 in
theorem c148i {w : World} {V : Value} {g o m c N : Nat} {b1 x2 b3 : List UInt8} {x : Nat} (hR : BR w V g N (b1 ++ (x2 ++ b3))) (hp : b1.length = o + m) (hx2 : x2.length = 2) (hmc : m + 2 ≤ c) (_hx : x < 65536) :
    Ret PP 148 [.slice (some ⟨g, o, none⟩) m c, .int .u16 x] w (fun u w' => u = .slice (some ⟨g, o, none⟩) (m + 2) c ∧ BR w' V g N (b1 ++ (be16 x ++ b3)) ∧ Fr (fun k => k = g) w w') := by
  rw [BR, bvs_app, bvs_app] at hR
  have hN := hR.len
  simp only [List.length_append, bvs_length, hx2, Nat.mul_one] at hN
  have hg := Rw.lt hR (by rintro rfl; have := hR.form; obtain ⟨a, c, h, _⟩ := this; simp only [Value.slice.injEq] at h; omega)
  have hf : Fr (fun k => k = g) w w := Fr.refl _ _
  refine ret_of Tryz.func148 rfl rfl rfl [(0, _), (1, _)] rfl ?_
  refine sreg ?_
  refine sv (xassign rfl) ?_
  refine send ?_
  refine forget_wp [(0, _), (1, _)] ⟨rfl, rfl, trivial⟩ fun _ => ?_
  refine sreg ?_
  refine sv (xmove rfl) ?_
  refine sv (xmove rfl) ?_
  refine sv (xshr (b := 8) (by decide) rfl rfl) ?_
  refine sv (xconv hs22 ki5 rfl (wu8m _)) ?_
  refine sv (xmove rfl) ?_
  refine sv (xconv hs22 ki5 rfl (wu8m _)) ?_
  refine svK (xslit (bvs (be16 x)) sl37 in5 rfl (by decide) rfl rfl rfl rfl (by decide) (by simp [be16, bvs, bv, Value.cells]) (bvs_one _)) ?_
  rintro _ w2 ⟨b11, rfl, m3, h11, e11, s11, r11⟩
  have hR := hR.keep m3 (fun h => h)
  have hf := hf.step0 m3
  refine svK (xappIn sl37 in5 rfl rfl hR (r11.src sl37) (by simpa [bvs] using hp) (by simp [bvs, be16, hx2]) (by omega) (by omega) (bvs_one _)) ?_
  rintro _ w4 ⟨rfl, m5, hR, s12⟩
  have hf := hf.step m5 (fun k hk hS => by have hS : k = g := hS; show k = g; omega)
  refine sv (xassign rfl) ?_
  refine send ?_
  refine forget_wp [(4, _)] ⟨rfl, trivial⟩ fun _ => ?_
  refine wp_ret ?_
  refine rp1 rfl rfl ?_
  refine ⟨rfl, ?_, hf⟩
  rw [BR, bvs_app, bvs_app]; exact hR
set_option maxHeartbeats 4000000 in
set_option maxRecDepth 100000 in
theorem c90 {w : World} {b o : Nat} {h : HeadD} (hN : SR w b o lHead (headSegs h)) (hb0 : b < w.heap.size) :
    Ret PP 90 [.pointer (some ⟨b, o, none⟩)] w (fun u w' => u = .tuple #[.int .u16 (h.id.toNat : Int), .int .u16 ((hbits h).toNat : Int)] ∧ Fr0 w w') := by
  have hf : Fr (fun _ => False) w w := Fr.refl _ _
  refine ret_of Tryz.func90 rfl rfl rfl [(0, _)] rfl ?_
  refine sreg ?_
  refine sv (xassign rfl) ?_
  refine sv (xassign rfl) ?_
  refine send ?_
  refine forget_wp [(0, _)] ⟨rfl, trivial⟩ fun _ => ?_
  refine sreg ?_
  refine sv (xmove rfl) ?_
  refine sv (xnilc rfl) ?_
  refine sv (xfld fl73_0 rfl) ?_
  refine sv (xld on22 rfl (hN.c 0 rfl rfl)) ?_
  refine sv (xassign rfl) ?_
  refine send ?_
  refine forget_wp [(0, _), (2, _)] ⟨rfl, rfl, trivial⟩ fun _ => ?_
  refine sdraw (Fr (fun _ => False) w.drew) [(0, .rd), (1, .rd), (2, .rd), (3, .rd), (4, .rd), (5, .rd), (6, .rd), (7, .rd), (8, .rd), (9, .rd), (10, .rd)] mixed (by kernel_rfl) (fun _ _ _ _ _ h => h) ?_
  have z1 : w.drew.heap.size = w.heap.size := rfl
  have hN := hN.keep (Fr.drew (Fr.refl (fun _ => False) w)) (by omega) (fun h => h)
  have hf := hf.drew
  have hS2 : Fr (fun _ => False) w.drew w.drew := Fr.refl _ _
  refine hv rfl (fun _ _ => xmove rfl) hS2 ?_
  refine hv rfl (fun _ _ => xnilc rfl) hS2 ?_
  refine hv rfl (fun _ _ => xfld fl73_2 rfl) hS2 ?_
  refine hv rfl (fun w' hS => xld on70 rfl ((hN.keep hS (by omega) (fun h => h)).c 2 rfl rfl)) hS2 ?_
  refine hv rfl (fun _ _ => xshl16 (b := 11) (by decide) rfl rfl) hS2 ?_
  refine hv rfl (fun _ _ => xmove rfl) hS2 ?_
  refine hv rfl (fun _ _ => xnilc rfl) hS2 ?_
  refine hv rfl (fun _ _ => xfld fl73_9 rfl) hS2 ?_
  refine hv rfl (fun w' hS => xld on71 rfl ((hN.keep hS (by omega) (fun h => h)).c 9 rfl rfl)) hS2 ?_
  refine hv rfl (fun _ _ => xor16 rfl rfl) hS2 ?_
  refine hv rfl (fun _ _ => xassign rfl) hS2 ?_
  refine hend ?_
  refine forget_wp [(0, _), (2, _), (3, _)] ⟨rfl, rfl, rfl, trivial⟩ fun _ => ?_
  refine wp_seq ?_
  obtain ⟨y0, hy0⟩ : ∃ y, y = ((h.op <<< 11) ||| h.code) := ⟨_, rfl⟩
  rw [← hy0]
  refine sreg ?_
  refine sv (xmove rfl) ?_
  refine sv (xnilc rfl) ?_
  refine sv (xfld fl73_6 rfl) ?_
  refine sv (xld on4 rfl (hN.c 6 rfl rfl)) ?_
  refine send ?_
  refine forget_wp [(0, _), (2, _), (3, _), (21, _)] ⟨rfl, rfl, rfl, rfl, trivial⟩ fun _ => ?_
  refine jcut [(0, _), (2, _)] ⟨rfl, rfl, trivial⟩ (fun (x : UInt16) => match x with | y1 => [(3, .int .u16 (y1.toNat : Int))]) (fun (x : UInt16) wx => match x with | y1 => Fr (fun _ => False) w.drew wx ∧ (y1 = (((h.op <<< 11) ||| h.code) ||| flagN h.avail 128))) ?_ ?_
  · skip
    have hJ3 : Fr (fun _ => False) w.drew w.drew := Fr.refl _ _
    refine cB rfl (fun hb => ?_) (fun hb => ?_)
    · skip
      refine lreg ?_
      refine sv (xmove rfl) ?_
      refine sv (xor16 (b := 128) rfl rfl) ?_
      refine sv (xassign rfl) ?_
      refine lend ?_
      exact ⟨rfl, (y0 ||| 128), _, env_okl ⟨rfl, rfl, rfl, trivial⟩, ⟨hJ3, (by rw [hy0, flagN_T (x := 128) (show h.avail = true from hb)])⟩⟩
    · skip
      refine wp_skip ?_
      exact ⟨rfl, y0, _, env_okl ⟨rfl, rfl, rfl, trivial⟩, ⟨hJ3, (by rw [hy0, flagN_F (x := 128) (show h.avail = false from hb), UInt16.or_zero])⟩⟩
  · skip
    rintro y1 _ w4 ⟨hJ3, hy1⟩
    have z5 := hJ3.size
    have hN := hN.keep hJ3 (by omega) (fun h => h)
    have hf := hf.step0 hJ3
    refine nThen ?_
    refine forget_wp [(0, _), (2, _), (3, _)] ⟨rfl, rfl, rfl, trivial⟩ fun _ => ?_
    refine wp_seq ?_
    refine sreg ?_
    refine sv (xmove rfl) ?_
    refine sv (xnilc rfl) ?_
    refine sv (xfld fl73_5 rfl) ?_
    refine sv (xld on4 rfl (hN.c 5 rfl rfl)) ?_
    refine send ?_
    refine forget_wp [(0, _), (2, _), (3, _), (27, _)] ⟨rfl, rfl, rfl, rfl, trivial⟩ fun _ => ?_
    refine jcut [(0, _), (2, _)] ⟨rfl, rfl, trivial⟩ (fun (x : UInt16) => match x with | y2 => [(3, .int .u16 (y2.toNat : Int))]) (fun (x : UInt16) wx => match x with | y2 => Fr (fun _ => False) w4 wx ∧ (y2 = ((((h.op <<< 11) ||| h.code) ||| flagN h.avail 128) ||| flagN h.des 256))) ?_ ?_
    · skip
      have hJ6 : Fr (fun _ => False) w4 w4 := Fr.refl _ _
      refine cB rfl (fun hb => ?_) (fun hb => ?_)
      · skip
        refine lreg ?_
        refine sv (xmove rfl) ?_
        refine sv (xor16 (b := 256) rfl rfl) ?_
        refine sv (xassign rfl) ?_
        refine lend ?_
        exact ⟨rfl, (y1 ||| 256), _, env_okl ⟨rfl, rfl, rfl, trivial⟩, ⟨hJ6, (by rw [hy1, flagN_T (x := 256) (show h.des = true from hb)])⟩⟩
      · skip
        refine wp_skip ?_
        exact ⟨rfl, y1, _, env_okl ⟨rfl, rfl, rfl, trivial⟩, ⟨hJ6, (by rw [hy1, flagN_F (x := 256) (show h.des = false from hb), UInt16.or_zero])⟩⟩
    · skip
      rintro y2 _ w7 ⟨hJ6, hy2⟩
      have z8 := hJ6.size
      have hN := hN.keep hJ6 (by omega) (fun h => h)
      have hf := hf.step0 hJ6
      refine nThen ?_
      refine forget_wp [(0, _), (2, _), (3, _)] ⟨rfl, rfl, rfl, trivial⟩ fun _ => ?_
      refine wp_seq ?_
      refine sreg ?_
      refine sv (xmove rfl) ?_
      refine sv (xnilc rfl) ?_
      refine sv (xfld fl73_4 rfl) ?_
      refine sv (xld on4 rfl (hN.c 4 rfl rfl)) ?_
      refine send ?_
      refine forget_wp [(0, _), (2, _), (3, _), (33, _)] ⟨rfl, rfl, rfl, rfl, trivial⟩ fun _ => ?_
      refine jcut [(0, _), (2, _)] ⟨rfl, rfl, trivial⟩ (fun (x : UInt16) => match x with | y3 => [(3, .int .u16 (y3.toNat : Int))]) (fun (x : UInt16) wx => match x with | y3 => Fr (fun _ => False) w7 wx ∧ (y3 = (((((h.op <<< 11) ||| h.code) ||| flagN h.avail 128) ||| flagN h.des 256) ||| flagN h.cut 512))) ?_ ?_
      · skip
        have hJ9 : Fr (fun _ => False) w7 w7 := Fr.refl _ _
        refine cB rfl (fun hb => ?_) (fun hb => ?_)
        · skip
          refine lreg ?_
          refine sv (xmove rfl) ?_
          refine sv (xor16 (b := 512) rfl rfl) ?_
          refine sv (xassign rfl) ?_
          refine lend ?_
          exact ⟨rfl, (y2 ||| 512), _, env_okl ⟨rfl, rfl, rfl, trivial⟩, ⟨hJ9, (by rw [hy2, flagN_T (x := 512) (show h.cut = true from hb)])⟩⟩
        · skip
          refine wp_skip ?_
          exact ⟨rfl, y2, _, env_okl ⟨rfl, rfl, rfl, trivial⟩, ⟨hJ9, (by rw [hy2, flagN_F (x := 512) (show h.cut = false from hb), UInt16.or_zero])⟩⟩
      · skip
        rintro y3 _ w10 ⟨hJ9, hy3⟩
        have z11 := hJ9.size
        have hN := hN.keep hJ9 (by omega) (fun h => h)
        have hf := hf.step0 hJ9
        refine nThen ?_
        refine forget_wp [(0, _), (2, _), (3, _)] ⟨rfl, rfl, rfl, trivial⟩ fun _ => ?_
        refine wp_seq ?_
        refine sreg ?_
        refine sv (xmove rfl) ?_
        refine sv (xnilc rfl) ?_
        refine sv (xfld fl73_3 rfl) ?_
        refine sv (xld on4 rfl (hN.c 3 rfl rfl)) ?_
        refine send ?_
        refine forget_wp [(0, _), (2, _), (3, _), (39, _)] ⟨rfl, rfl, rfl, rfl, trivial⟩ fun _ => ?_
        refine jcut [(0, _), (2, _)] ⟨rfl, rfl, trivial⟩ (fun (x : UInt16) => match x with | y4 => [(3, .int .u16 (y4.toNat : Int))]) (fun (x : UInt16) wx => match x with | y4 => Fr (fun _ => False) w10 wx ∧ (y4 = ((((((h.op <<< 11) ||| h.code) ||| flagN h.avail 128) ||| flagN h.des 256) ||| flagN h.cut 512) ||| flagN h.auth 1024))) ?_ ?_
        · skip
          have hJ12 : Fr (fun _ => False) w10 w10 := Fr.refl _ _
          refine cB rfl (fun hb => ?_) (fun hb => ?_)
          · skip
            refine lreg ?_
            refine sv (xmove rfl) ?_
            refine sv (xor16 (b := 1024) rfl rfl) ?_
            refine sv (xassign rfl) ?_
            refine lend ?_
            exact ⟨rfl, (y3 ||| 1024), _, env_okl ⟨rfl, rfl, rfl, trivial⟩, ⟨hJ12, (by rw [hy3, flagN_T (x := 1024) (show h.auth = true from hb)])⟩⟩
          · skip
            refine wp_skip ?_
            exact ⟨rfl, y3, _, env_okl ⟨rfl, rfl, rfl, trivial⟩, ⟨hJ12, (by rw [hy3, flagN_F (x := 1024) (show h.auth = false from hb), UInt16.or_zero])⟩⟩
        · skip
          rintro y4 _ w13 ⟨hJ12, hy4⟩
          have z14 := hJ12.size
          have hN := hN.keep hJ12 (by omega) (fun h => h)
          have hf := hf.step0 hJ12
          refine nThen ?_
          refine forget_wp [(0, _), (2, _), (3, _)] ⟨rfl, rfl, rfl, trivial⟩ fun _ => ?_
          refine wp_seq ?_
          refine sreg ?_
          refine sv (xmove rfl) ?_
          refine sv (xnilc rfl) ?_
          refine sv (xfld fl73_1 rfl) ?_
          refine sv (xld on4 rfl (hN.c 1 rfl rfl)) ?_
          refine send ?_
          refine forget_wp [(0, _), (2, _), (3, _), (45, _)] ⟨rfl, rfl, rfl, rfl, trivial⟩ fun _ => ?_
          refine jcut [(0, _), (2, _)] ⟨rfl, rfl, trivial⟩ (fun (x : UInt16) => match x with | y5 => [(3, .int .u16 (y5.toNat : Int))]) (fun (x : UInt16) wx => match x with | y5 => Fr (fun _ => False) w13 wx ∧ (y5 = (((((((h.op <<< 11) ||| h.code) ||| flagN h.avail 128) ||| flagN h.des 256) ||| flagN h.cut 512) ||| flagN h.auth 1024) ||| flagN h.resp 32768))) ?_ ?_
          · skip
            have hJ15 : Fr (fun _ => False) w13 w13 := Fr.refl _ _
            refine cB rfl (fun hb => ?_) (fun hb => ?_)
            · skip
              refine lreg ?_
              refine sv (xmove rfl) ?_
              refine sv (xor16 (b := 32768) rfl rfl) ?_
              refine sv (xassign rfl) ?_
              refine lend ?_
              exact ⟨rfl, (y4 ||| 32768), _, env_okl ⟨rfl, rfl, rfl, trivial⟩, ⟨hJ15, (by rw [hy4, flagN_T (x := 32768) (show h.resp = true from hb)])⟩⟩
            · skip
              refine wp_skip ?_
              exact ⟨rfl, y4, _, env_okl ⟨rfl, rfl, rfl, trivial⟩, ⟨hJ15, (by rw [hy4, flagN_F (x := 32768) (show h.resp = false from hb), UInt16.or_zero])⟩⟩
          · skip
            rintro y5 _ w16 ⟨hJ15, hy5⟩
            have z17 := hJ15.size
            have hN := hN.keep hJ15 (by omega) (fun h => h)
            have hf := hf.step0 hJ15
            refine nThen ?_
            refine forget_wp [(0, _), (2, _), (3, _)] ⟨rfl, rfl, rfl, trivial⟩ fun _ => ?_
            refine wp_seq ?_
            refine sreg ?_
            refine sv (xmove rfl) ?_
            refine sv (xnilc rfl) ?_
            refine sv (xfld fl73_7 rfl) ?_
            refine sv (xld on4 rfl (hN.c 7 rfl rfl)) ?_
            refine send ?_
            refine forget_wp [(0, _), (2, _), (3, _), (51, _)] ⟨rfl, rfl, rfl, rfl, trivial⟩ fun _ => ?_
            refine jcut [(0, _), (2, _)] ⟨rfl, rfl, trivial⟩ (fun (x : UInt16) => match x with | y6 => [(3, .int .u16 (y6.toNat : Int))]) (fun (x : UInt16) wx => match x with | y6 => Fr (fun _ => False) w16 wx ∧ (y6 = ((((((((h.op <<< 11) ||| h.code) ||| flagN h.avail 128) ||| flagN h.des 256) ||| flagN h.cut 512) ||| flagN h.auth 1024) ||| flagN h.resp 32768) ||| flagN h.authc 32))) ?_ ?_
            · skip
              have hJ18 : Fr (fun _ => False) w16 w16 := Fr.refl _ _
              refine cB rfl (fun hb => ?_) (fun hb => ?_)
              · skip
                refine lreg ?_
                refine sv (xmove rfl) ?_
                refine sv (xor16 (b := 32) rfl rfl) ?_
                refine sv (xassign rfl) ?_
                refine lend ?_
                exact ⟨rfl, (y5 ||| 32), _, env_okl ⟨rfl, rfl, rfl, trivial⟩, ⟨hJ18, (by rw [hy5, flagN_T (x := 32) (show h.authc = true from hb)])⟩⟩
              · skip
                refine wp_skip ?_
                exact ⟨rfl, y5, _, env_okl ⟨rfl, rfl, rfl, trivial⟩, ⟨hJ18, (by rw [hy5, flagN_F (x := 32) (show h.authc = false from hb), UInt16.or_zero])⟩⟩
            · skip
              rintro y6 _ w19 ⟨hJ18, hy6⟩
              have z20 := hJ18.size
              have hN := hN.keep hJ18 (by omega) (fun h => h)
              have hf := hf.step0 hJ18
              refine nThen ?_
              refine forget_wp [(0, _), (2, _), (3, _)] ⟨rfl, rfl, rfl, trivial⟩ fun _ => ?_
              refine wp_seq ?_
              refine sreg ?_
              refine sv (xmove rfl) ?_
              refine sv (xnilc rfl) ?_
              refine sv (xfld fl73_8 rfl) ?_
              refine sv (xld on4 rfl (hN.c 8 rfl rfl)) ?_
              refine send ?_
              refine forget_wp [(2, _), (3, _), (57, _)] ⟨rfl, rfl, rfl, trivial⟩ fun _ => ?_
              refine jcut [(2, _)] ⟨rfl, trivial⟩ (fun (x : UInt16) => match x with | y7 => [(3, .int .u16 (y7.toNat : Int))]) (fun (x : UInt16) wx => match x with | y7 => Fr (fun _ => False) w19 wx ∧ (y7 = (((((((((h.op <<< 11) ||| h.code) ||| flagN h.avail 128) ||| flagN h.des 256) ||| flagN h.cut 512) ||| flagN h.auth 1024) ||| flagN h.resp 32768) ||| flagN h.authc 32) ||| flagN h.unch 16))) ?_ ?_
              · skip
                have hJ21 : Fr (fun _ => False) w19 w19 := Fr.refl _ _
                refine cB rfl (fun hb => ?_) (fun hb => ?_)
                · skip
                  refine lreg ?_
                  refine sv (xmove rfl) ?_
                  refine sv (xor16 (b := 16) rfl rfl) ?_
                  refine sv (xassign rfl) ?_
                  refine lend ?_
                  exact ⟨rfl, (y6 ||| 16), _, env_okl ⟨rfl, rfl, trivial⟩, ⟨hJ21, (by rw [hy6, flagN_T (x := 16) (show h.unch = true from hb)])⟩⟩
                · skip
                  refine wp_skip ?_
                  exact ⟨rfl, y6, _, env_okl ⟨rfl, rfl, trivial⟩, ⟨hJ21, (by rw [hy6, flagN_F (x := 16) (show h.unch = false from hb), UInt16.or_zero])⟩⟩
              · skip
                rintro y7 _ w22 ⟨hJ21, hy7⟩
                have z23 := hJ21.size
                have hN := hN.keep hJ21 (by omega) (fun h => h)
                have hf := hf.step0 hJ21
                refine nThen ?_
                refine forget_wp [(2, _), (3, _)] ⟨rfl, rfl, trivial⟩ fun _ => ?_
                refine wp_ret ?_
                refine rp2 rfl rfl rfl ?_
                refine ⟨?_, hf⟩
                rw [← hbits_alt h, ← hy7]
end Go.Proofs.YtifnodoffgfpbaaGreatDoor
