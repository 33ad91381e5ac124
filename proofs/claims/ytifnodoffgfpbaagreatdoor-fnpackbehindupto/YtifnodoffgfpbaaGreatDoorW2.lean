/- Walks: how the reference writes names and numbers. Conditions: none. -/
import Derived.Test.YtifnodoffgfpbaaGreatDoorW1
import Derived.Test.YtifnodoffgfpbaaGreatDoorBits
namespace Go.Proofs.YtifnodoffgfpbaaGreatDoor
open Go

theorem new_cast {w w' : World} {a : Option Addr} {c g n : Nat} {bs bs' : List UInt8} (h : BR w' (.slice a n c) g n bs) (e : bs = bs') (hf : Fr0 w w') (h1 : w.heap.size ≤ g) (h2 : g < w'.heap.size) : New w bs'.length bs' (.slice a n c) w' := by
  subst e
  have := BR.len h
  subst this
  exact ⟨a, c, g, rfl, h, hf, h1, h2⟩
theorem br_cast {w : World} {v : Value} {g n m : Nat} {cs : List Value} {bs : List UInt8} (h : Rw w v g 5 1 n cs) (e : cs = bvs bs) (hn : n = m) : BR w v g m bs := by
  subst e hn; exact h
theorem wire_one {s : ByteArray} {k : Nat} (hk : k < s.size) : (bt s).drop k = s[k] :: (bt s).drop (k + 1) := by
  have : k < (bt s).length := by rw [bt_length]; exact hk
  rw [List.drop_eq_getElem_cons this]
  rfl
theorem u8_ne {c : UInt8} (h : (c.toNat : Int) ≠ 46) : c ≠ 46 := by
  intro e; subst e; exact h rfl
theorem u8_eq {c : UInt8} (h : ¬ (c.toNat : Int) ≠ 46) : c = 46 := by
  apply UInt8.toNat_inj.1
  have : (46 : UInt8).toNat = 46 := rfl
  omega
theorem flagN_toNat (b : Bool) (n : UInt16) : (flagN b n).toNat = if b then n.toNat else 0 := by cases b <;> rfl
theorem bv_get {s : ByteArray} {k : Nat} (hk : k < s.size) : bvs [s[k]] = [.int .u8 (s[k].toNat : Int)] := rfl
theorem wire_stepA {o lab rest full : List UInt8} {c : UInt8} (h : o ++ wireGo lab (c :: rest) = full) (hc : c ≠ 46) : o ++ wireGo (lab ++ [c]) rest = full := by
  simpa [wireGo, hc] using h
theorem wire_stepB {o rest full : List UInt8} {c : UInt8} (h : o ++ wireGo [] (c :: rest) = full) (hc : c = 46) : o ++ wireGo [] rest = full := by
  simpa [wireGo, hc] using h
theorem wire_stepC {o lab rest full : List UInt8} {c : UInt8} (h : o ++ wireGo lab (c :: rest) = full) (hc : c = 46) (hl : lab ≠ []) : (o ++ (UInt8.ofNat lab.length :: lab)) ++ wireGo [] rest = full := by
  simpa [wireGo, hc, hl] using h
theorem be16_four {x : Nat} : be16 (x / 65536) ++ be16 (x % 65536) = be32 x := be32_split x

set_option maxRecDepth 100000 in
theorem c97 {w : World} (b : Bool) (x : UInt16) :
    Ret PP 97 [.bool b, .int .u16 (x.toNat : Int)] w (fun u w' => u = .int .u16 ((flagN b x).toNat : Int) ∧ Fr0 w w') := by
  have hf : Fr (fun _ => False) w w := Fr.refl _ _
  refine ret_of Tryz.func97 rfl rfl rfl [(0, _), (1, _)] rfl ?_
  refine sreg ?_
  refine sv (xassign rfl) ?_
  refine send ?_
  refine forget_wp [(0, _), (1, _)] ⟨rfl, rfl, trivial⟩ fun _ => ?_
  refine wp_seq ?_
  refine sreg ?_
  refine sv (xmove rfl) ?_
  refine send ?_
  refine forget_wp [(1, _), (5, _)] ⟨rfl, rfl, trivial⟩ fun _ => ?_
  refine cB rfl (fun hb => ?_) (fun hb => ?_)
  · skip
    refine sreg ?_
    refine sv (xmove rfl) ?_
    refine sv (xassign rfl) ?_
    refine send ?_
    refine forget_wp [(4, _)] ⟨rfl, trivial⟩ fun _ => ?_
    refine wp_ret ?_
    refine rThen ?_
    refine rp1 rfl rfl ?_
    subst hb
    exact ⟨by simp [flagN], hf⟩
  · skip
    refine wp_skip ?_
    refine nThen ?_
    refine forget_wp [] trivial fun _ => ?_
    refine sreg ?_
    refine sv (xassign rfl) ?_
    refine send ?_
    refine forget_wp [(4, _)] ⟨rfl, trivial⟩ fun _ => ?_
    refine wp_ret ?_
    refine rp1 rfl rfl ?_
    subst hb
    exact ⟨by simp [flagN], hf⟩
set_option maxRecDepth 100000 in
theorem c98 {w : World} {s : ByteArray} (hs : s.size ≤ 1048576) :
    Ret PP 98 [.string s] w (fun u w' => New w (wire (bt s)).length (wire (bt s)) u w') := by
  have hf : Fr (fun _ => False) w w := Fr.refl _ _
  refine ret_of Tryz.func98 rfl rfl rfl [(0, _)] rfl ?_
  refine sreg ?_
  refine sv (xassign rfl) ?_
  refine send ?_
  refine forget_wp [(0, _)] ⟨rfl, trivial⟩ fun _ => ?_
  refine sreg ?_
  refine svK (xslit (bvs []) sl37 in5 rfl (by decide) rfl rfl rfl rfl (by decide) rfl (bvs_one _)) ?_
  rintro _ w2 ⟨b6, rfl, m3, h6, e6, s6, r6⟩
  have hf := hf.step0 m3
  refine sv (xassign rfl) ?_
  refine send ?_
  refine forget_wp [(0, _), (3, _)] ⟨rfl, rfl, trivial⟩ fun _ => ?_
  refine sreg ?_
  refine svK (xslit (bvs []) sl37 in5 rfl (by decide) rfl rfl rfl rfl (by decide) rfl (bvs_one _)) ?_
  rintro _ w5 ⟨b7, rfl, m6, h7, e7, s7, r7⟩
  have hf := hf.step0 m6
  have r6 := r6.keep m6 (fun h => h)
  refine sv (xassign rfl) ?_
  refine send ?_
  refine forget_wp [(0, _), (3, _), (4, _)] ⟨rfl, rfl, rfl, trivial⟩ fun _ => ?_
  refine wp_seq ?_
  refine sreg ?_
  refine sv (xmove rfl) ?_
  refine sv (xlenS st9 rfl) ?_
  refine sv (xmove rfl) ?_
  refine send ?_
  refine forget_wp [(0, _), (3, _), (4, _), (9, _), (10, _)] ⟨rfl, rfl, rfl, rfl, rfl, trivial⟩ fun _ => ?_
  refine wp_block ?_
  refine lp [(0, _), (9, _)] (fun (x : Nat × Value × Nat × List UInt8 × Value × Nat × List UInt8) => match x with | (k, v3, go, o, v4, gl, lab) => [(3, v3), (4, v4), (10, .int .i64 (k : Int))]) (fun (x : Nat × Value × Nat × List UInt8 × Value × Nat × List UInt8) wx => match x with | (k, v3, go, o, v4, gl, lab) => Fr (fun k => k = b6 ∨ k = b7) w5 wx ∧ (k ≤ s.size) ∧ (BR wx v3 go o.length o) ∧ (BR wx v4 gl lab.length lab) ∧ (go ≠ gl) ∧ (w.heap.size ≤ go) ∧ (go < wx.heap.size) ∧ (w.heap.size ≤ gl) ∧ (gl < wx.heap.size) ∧ (go = b6 ∨ go = b7 ∨ w5.heap.size ≤ go) ∧ (gl = b6 ∨ gl = b7 ∨ w5.heap.size ≤ gl) ∧ (o ++ wireGo lab ((bt s).drop k) = wireGo [] (bt s)) ∧ (o.length + lab.length ≤ 2 * k)) (fun (x : Nat × Value × Nat × List UInt8 × Value × Nat × List UInt8) => match x with | (k, v3, go, o, v4, gl, lab) => s.size - k) (0, _, b6, [], _, b7, []) ⟨rfl, rfl, rfl, rfl, rfl, trivial⟩ ⟨Fr.refl _ _, Nat.zero_le _, r6, r7, by omega, by omega, by omega, by omega, by omega, by omega, by omega, rfl, by simp⟩ ?_
  rintro ⟨k, v3, go, o, v4, gl, lab⟩ _ w8 ⟨hL7, hk, hv3, hv4, hne, hgo, hgo2, hgl, hgl2, hgo3, hgl3, hE, hle⟩
  refine forget_wp [(0, _), (3, _), (4, _), (9, _), (10, _)] ⟨rfl, rfl, rfl, rfl, rfl, trivial⟩ fun _ => ?_
  have z9 := hL7.size
  have hf := hf.step hL7 (fun k hk hS => by have hS : k = b6 ∨ k = b7 := hS; show False; omega)
  obtain ⟨a4, c4, rfl, -⟩ := hv4.form
  refine sreg ?_
  refine svP (xlss rfl rfl) (fun hc11 => ?_) (fun hc11 => ?_)
  · skip
    refine send ?_
    refine forget_wp [(0, _), (3, _), (4, _), (9, _), (10, _), (11, _)] ⟨rfl, rfl, rfl, rfl, rfl, rfl, trivial⟩ fun _ => ?_
    refine wp_seq ?_
    refine cyes rfl ?_
    refine wp_skip ?_
    refine nThen ?_
    refine forget_wp [(0, _), (3, _), (4, _), (9, _), (10, _)] ⟨rfl, rfl, rfl, rfl, rfl, trivial⟩ fun _ => ?_
    refine wp_seq ?_
    refine wp_block ?_
    rw [wire_one (by omega)] at hE
    refine sreg ?_
    refine sv (xmove rfl) ?_
    refine sv (xassign rfl) ?_
    refine send ?_
    refine forget_wp [(0, _), (3, _), (4, _), (5, _), (9, _), (10, _)] ⟨rfl, rfl, rfl, rfl, rfl, rfl, trivial⟩ fun _ => ?_
    refine wp_seq ?_
    refine sreg ?_
    refine sv (xmove rfl) ?_
    refine sv (xmove rfl) ?_
    refine sv (xidxS st9 rfl rfl rfl (by omega)) ?_
    refine svP (xneq rfl rfl) (fun hc16 => ?_) (fun hc16 => ?_)
    · skip
      refine send ?_
      refine forget_wp [(0, _), (3, _), (4, _), (5, _), (9, _), (10, _), (16, _)] ⟨rfl, rfl, rfl, rfl, rfl, rfl, rfl, trivial⟩ fun _ => ?_
      refine cyes rfl ?_
      refine sreg ?_
      refine sv (xmove rfl) ?_
      refine sv (xmove rfl) ?_
      refine sv (xmove rfl) ?_
      refine sv (xidxS st9 rfl rfl rfl (by omega)) ?_
      refine svK (xslit (bvs [s[k]]) sl37 in5 rfl (by decide) rfl rfl rfl rfl (by decide) (by simp [bvs, bv, Value.cells]) (bvs_one _)) ?_
      rintro _ w11 ⟨b21, rfl, m12, h21, e21, s21, r21⟩
      have hf := hf.step0 m12
      have hv3 := hv3.keep m12 (fun h => h)
      have hv4 := hv4.keep m12 (fun h => h)
      have hL7 := hL7.step0 m12
      refine svK (xapp sl37 in5 rfl (by decide) rfl rfl hv4 (r21.src sl37) (by simp only [maxLen]; omega) (by omega)) ?_
      rintro _ w13 ⟨g22, r22, m14, a22, l22⟩
      have z15 := m14.size
      have hf := hf.step m14 (fun k hk hS => by have hS : k = gl := hS; show False; omega)
      have hv3 := hv3.keep m14 (by show ¬ (go = gl); omega)
      have hL7 := hL7.step m14 (fun k hk hS => by have hS : k = gl := hS; show k = b6 ∨ k = b7; omega)
      obtain ⟨p22, q22, rfl, -⟩ := r22.form
      refine sv (xassign rfl) ?_
      refine send ?_
      refine forget_wp [(0, _), (3, _), (4, _), (9, _), (10, _)] ⟨rfl, rfl, rfl, rfl, rfl, trivial⟩ fun _ => ?_
      refine wp_exit ?_
      refine eThen ?_
      refine eHit ?_
      refine nThen ?_
      refine forget_wp [(0, _), (3, _), (4, _), (9, _), (10, _)] ⟨rfl, rfl, rfl, rfl, rfl, trivial⟩ fun _ => ?_
      refine lreg ?_
      refine sv (xadd rfl rfl (w64 (by omega) (by omega))) ?_
      refine sv (xmove rfl) ?_
      refine lend ?_
      refine nThen ?_
      have l22 := l22 (by omega)
      have e := wire_stepA hE (u8_ne hc16)
      refine ⟨(k + 1, _, go, o, _, g22, lab ++ [s[k]]), _, env_okl ⟨rfl, rfl, rfl, rfl, rfl, trivial⟩, ⟨hL7, (by omega), (hv3), (by simpa [BR, bvs_app, bvs, bv] using r22), (by omega), (by omega), (by omega), (by omega), (by omega), (by omega), (by omega), (e), (by simp; omega)⟩, ?_⟩
      show s.size - (k + 1) < s.size - k; omega
    · skip
      refine send ?_
      refine forget_wp [(0, _), (3, _), (4, _), (5, _), (9, _), (10, _), (16, _)] ⟨rfl, rfl, rfl, rfl, rfl, rfl, rfl, trivial⟩ fun _ => ?_
      refine cno rfl ?_
      refine wp_skip ?_
      refine nThen ?_
      refine forget_wp [(0, _), (3, _), (4, _), (9, _), (10, _)] ⟨rfl, rfl, rfl, rfl, rfl, trivial⟩ fun _ => ?_
      refine wp_seq ?_
      refine sreg ?_
      refine sv (xmove rfl) ?_
      refine sv (xlen sl37 rfl) ?_
      refine svP (xgtr rfl rfl) (fun hc25 => ?_) (fun hc25 => ?_)
      · skip
        refine send ?_
        refine forget_wp [(0, _), (3, _), (4, _), (9, _), (10, _), (25, _)] ⟨rfl, rfl, rfl, rfl, rfl, rfl, trivial⟩ fun _ => ?_
        refine cyes rfl ?_
        refine lreg ?_
        refine sv (xmove rfl) ?_
        refine sv (xmove rfl) ?_
        refine sv (xlen sl37 rfl) ?_
        refine sv (xconv hs3 ki5 rfl (wu8m _)) ?_
        refine svK (xslit (bvs [UInt8.ofNat lab.length]) sl37 in5 rfl (by decide) rfl rfl rfl rfl (by decide) (by simp [bvs, bv, Value.cells]) (bvs_one _)) ?_
        rintro _ w17 ⟨b30, rfl, m18, h30, e30, s30, r30⟩
        have hf := hf.step0 m18
        have hv3 := hv3.keep m18 (fun h => h)
        have hv4 := hv4.keep m18 (fun h => h)
        have hL7 := hL7.step0 m18
        refine svK (xapp sl37 in5 rfl (by decide) rfl rfl hv3 (r30.src sl37) (by simp only [maxLen]; omega) (by omega)) ?_
        rintro _ w19 ⟨g31, r31, m20, a31, l31⟩
        have z21 := m20.size
        have hf := hf.step m20 (fun k hk hS => by have hS : k = go := hS; show False; omega)
        have hv4 := hv4.keep m20 (by show ¬ (gl = go); omega)
        have hL7 := hL7.step m20 (fun k hk hS => by have hS : k = go := hS; show k = b6 ∨ k = b7; omega)
        obtain ⟨p31, q31, rfl, -⟩ := r31.form
        refine sv (xmove rfl) ?_
        refine svK (xapp sl37 in5 rfl (by decide) rfl rfl r31 (hv4.src sl37) (by simp only [maxLen]; omega) (by omega)) ?_
        rintro _ w22 ⟨g33, r33, m23, a33, l33⟩
        have z24 := m23.size
        have hf := hf.step m23 (fun k hk hS => by have hS : k = g31 := hS; show False; omega)
        have hv4 := hv4.keep m23 (by show ¬ (gl = g31); omega)
        have hL7 := hL7.step m23 (fun k hk hS => by have hS : k = g31 := hS; show k = b6 ∨ k = b7; omega)
        obtain ⟨p33, q33, rfl, -⟩ := r33.form
        refine sv (xassign rfl) ?_
        refine lend ?_
        refine nThen ?_
        refine forget_wp [(0, _), (3, _), (9, _), (10, _)] ⟨rfl, rfl, rfl, rfl, trivial⟩ fun _ => ?_
        refine lreg ?_
        refine svK (xslit (bvs []) sl37 in5 rfl (by decide) rfl rfl rfl rfl (by decide) rfl (bvs_one _)) ?_
        rintro _ w26 ⟨b34, rfl, m27, h34, e34, s34, r34⟩
        have hf := hf.step0 m27
        have hv4 := hv4.keep m27 (fun h => h)
        have hL7 := hL7.step0 m27
        have r33 := r33.keep m27 (fun h => h)
        refine sv (xassign rfl) ?_
        refine lend ?_
        refine nBlock ?_
        refine nThen ?_
        refine forget_wp [(0, _), (3, _), (4, _), (9, _), (10, _)] ⟨rfl, rfl, rfl, rfl, rfl, trivial⟩ fun _ => ?_
        refine lreg ?_
        refine sv (xadd rfl rfl (w64 (by omega) (by omega))) ?_
        refine sv (xmove rfl) ?_
        refine lend ?_
        refine nThen ?_
        have l33 := l33 (by omega)
        have e := wire_stepC hE (u8_eq hc16) (by intro h0; subst h0; simp at hc25)
        refine ⟨(k + 1, _, g33, o ++ (UInt8.ofNat lab.length :: lab), _, b34, []), _, env_okl ⟨rfl, rfl, rfl, rfl, rfl, trivial⟩, ⟨hL7, (by omega), (br_cast r33 (by simp [bvs, bv]) (by simp; omega)), (r34), (by omega), (by omega), (by omega), (by omega), (by omega), (by omega), (by omega), (e), (by simp; omega)⟩, ?_⟩
        show s.size - (k + 1) < s.size - k; omega
      · skip
        refine send ?_
        refine forget_wp [(0, _), (3, _), (4, _), (9, _), (10, _), (25, _)] ⟨rfl, rfl, rfl, rfl, rfl, rfl, trivial⟩ fun _ => ?_
        refine cno rfl ?_
        refine wp_skip ?_
        refine nThen ?_
        refine forget_wp [(0, _), (3, _), (9, _), (10, _)] ⟨rfl, rfl, rfl, rfl, trivial⟩ fun _ => ?_
        refine lreg ?_
        refine svK (xslit (bvs []) sl37 in5 rfl (by decide) rfl rfl rfl rfl (by decide) rfl (bvs_one _)) ?_
        rintro _ w29 ⟨b34, rfl, m30, h34, e34, s34, r34⟩
        have hf := hf.step0 m30
        have hv3 := hv3.keep m30 (fun h => h)
        have hv4 := hv4.keep m30 (fun h => h)
        have hL7 := hL7.step0 m30
        refine sv (xassign rfl) ?_
        refine lend ?_
        refine nBlock ?_
        refine nThen ?_
        refine forget_wp [(0, _), (3, _), (4, _), (9, _), (10, _)] ⟨rfl, rfl, rfl, rfl, rfl, trivial⟩ fun _ => ?_
        refine lreg ?_
        refine sv (xadd rfl rfl (w64 (by omega) (by omega))) ?_
        refine sv (xmove rfl) ?_
        refine lend ?_
        refine nThen ?_
        obtain rfl : lab = [] := List.eq_nil_of_length_eq_zero (by omega)
        have e := wire_stepB hE (u8_eq hc16)
        refine ⟨(k + 1, _, go, o, _, b34, []), _, env_okl ⟨rfl, rfl, rfl, rfl, rfl, trivial⟩, ⟨hL7, (by omega), (hv3), (r34), (by omega), (by omega), (by omega), (by omega), (by omega), (by omega), (by omega), (e), (by simp; omega)⟩, ?_⟩
        show s.size - (k + 1) < s.size - k; omega
  · skip
    refine send ?_
    refine forget_wp [(0, _), (3, _), (4, _), (9, _), (10, _), (11, _)] ⟨rfl, rfl, rfl, rfl, rfl, rfl, trivial⟩ fun _ => ?_
    refine wp_seq ?_
    refine cno rfl ?_
    refine wp_exit ?_
    refine eThen ?_
    refine eThen ?_
    refine eHit ?_
    refine nThen ?_
    refine forget_wp [(3, _)] ⟨rfl, trivial⟩ fun _ => ?_
    refine sreg ?_
    refine sv (xmove rfl) ?_
    refine svK (xslit (bvs [0]) sl37 in5 rfl (by decide) rfl rfl rfl rfl (by decide) (by simp [bvs, bv, Value.cells]) (bvs_one _)) ?_
    rintro _ w32 ⟨b37, rfl, m33, h37, e37, s37, r37⟩
    have hf := hf.step0 m33
    have hv3 := hv3.keep m33 (fun h => h)
    have hv4 := hv4.keep m33 (fun h => h)
    have hL7 := hL7.step0 m33
    refine svK (xapp sl37 in5 rfl (by decide) rfl rfl hv3 (r37.src sl37) (by simp only [maxLen]; omega) (by omega)) ?_
    rintro _ w34 ⟨g38, r38, m35, a38, l38⟩
    have z36 := m35.size
    have hf := hf.step m35 (fun k hk hS => by have hS : k = go := hS; show False; omega)
    have hv4 := hv4.keep m35 (by show ¬ (gl = go); omega)
    have hL7 := hL7.step m35 (fun k hk hS => by have hS : k = go := hS; show k = b6 ∨ k = b7; omega)
    obtain ⟨p38, q38, rfl, -⟩ := r38.form
    refine sv (xassign rfl) ?_
    refine send ?_
    refine forget_wp [(2, _)] ⟨rfl, trivial⟩ fun _ => ?_
    refine wp_ret ?_
    refine rp1 rfl rfl ?_
    exact new_cast (bs := o ++ [0]) (by simpa [BR, bvs_app] using r38) (by have : (bt s).drop k = [] := List.drop_eq_nil_of_le (by rw [bt_length]; omega); rw [this] at hE; simp [wireGo] at hE; simp [wire, hE]) hf (by omega) (l38 (by omega))
set_option maxRecDepth 100000 in
theorem c99 {w : World} {x : Nat} (hx : x < 4294967296) :
    Ret PP 99 [.int .u32 x] w (New w 4 (be32 x)) := by
  have hf : Fr (fun _ => False) w w := Fr.refl _ _
  refine ret_of Tryz.func99 rfl rfl rfl [(0, _)] rfl ?_
  refine sreg ?_
  refine sv (xassign rfl) ?_
  refine send ?_
  refine forget_wp [(0, _)] ⟨rfl, trivial⟩ fun _ => ?_
  refine sreg ?_
  refine sv (xmove rfl) ?_
  refine sv (xshr (b := 16) (by decide) rfl rfl) ?_
  refine sv (xconv hs61 ki22 rfl (wu16n (x / 65536) (by omega))) ?_
  refine sc (xcall ca53 rfl) (c53 (by first | omega | exact u16lt _)) ?_
  rintro _ w1 ⟨p6, q6, g6, rfl, r6, m2, a6, l6⟩
  have z3 := m2.size
  have hf := hf.step0 m2
  refine sv (xmove rfl) ?_
  refine sv (xconv hs61 ki22 rfl (wu16n (x % 65536) (by omega))) ?_
  refine sc (xcall ca53 rfl) (c53 (by first | omega | exact u16lt _)) ?_
  rintro _ w4 ⟨p9, q9, g9, rfl, r9, m5, a9, l9⟩
  have z6 := m5.size
  have hf := hf.step0 m5
  have r6 := r6.keep m5 (fun h => h)
  refine svK (xslit [_, _] sl105 in37 rfl (by decide) rfl rfl rfl rfl (by decide) rfl rfl) ?_
  rintro _ w8 ⟨b10, rfl, m9, h10, e10, s10, r10⟩
  have hf := hf.step0 m9
  have r6 := r6.keep m9 (fun h => h)
  have r9 := r9.keep m9 (fun h => h)
  refine sc (xcall ca21 rfl) (c21 (U := fun k => k = g6 ∨ k = g9) (Rw.rng r10) (by omega) rfl (fun k hk => by have hk : k = g6 ∨ k = g9 := hk; rcases hk with hk | hk <;> first | omega | (have := hU k hk; omega)) (All2.cons (BR.ba r6 (.inl rfl)) (All2.cons (BR.ba r9 (.inr rfl)) All2.nil)) (by simp only [List.flatten_cons, List.flatten_nil, List.length_append, be16_length, List.length_nil]; omega) (by decide)) ?_
  rintro _ w10 ⟨p11, q11, g11, rfl, r11, m11, a11, l11⟩
  have z12 := m11.size
  have hf := hf.step0 m11
  have r6 := r6.keep m11 (fun h => h)
  have r9 := r9.keep m11 (fun h => h)
  have r10 := r10.keep m11 (fun h => h)
  refine sv (xassign rfl) ?_
  refine send ?_
  refine forget_wp [(2, _)] ⟨rfl, trivial⟩ fun _ => ?_
  refine wp_ret ?_
  refine rp1 rfl rfl ?_
  have e : [be16 (x / 65536), be16 (x % 65536)].flatten = be32 x := by simp [← be32_split]
  rw [e] at r11
  exact ⟨_, _, _, rfl, r11, hf, by omega, by omega⟩
end Go.Proofs.YtifnodoffgfpbaaGreatDoor
