/- Walks: numbers and texts that are written. Conditions: none. -/
import Derived.Test.YtifnodoffgfpbaaGreatDoorAt
namespace Go.Proofs.YtifnodoffgfpbaaGreatDoor
open Go
set_option maxRecDepth 100000 in
theorem c148 {w : World} {v : Value} {g n : Nat} {bs : List UInt8} (hv : BR w v g n bs) (hg : g < w.heap.size) {x : Nat} (_hx : x < 65536) (hl : n < 1000000000) :
    Ret PP 148 [v, .int .u16 x] w (fun u w' => AppTo w g (n + 2) (bs ++ be16 x) u w') := by
  obtain ⟨a0, c0, rfl, -⟩ := hv.form
  have hf : Fr (fun k => k = g) w w := Fr.refl _ _
  refine ret_of Tryz.func148 rfl rfl rfl [(0, _), (1, _)] rfl ?_
  refine sreg ?_
  refine sv (xassign rfl) ?_
  refine send ?_
  refine forget_wp [(0, _), (1, _)] ⟨rfl, rfl, trivial⟩ fun _ => ?_
  refine sreg ?_
  refine sv (xmove rfl) ?_
  refine sv (xmove rfl) ?_
  refine sv (xshr (b := 8) (by decide) rfl rfl) ?_
  refine sv (xconv hs22 ki5 rfl (wu8m _)) ?_
  refine sv (xmove rfl) ?_
  refine sv (xconv hs22 ki5 rfl (wu8m _)) ?_
  refine svK (xslit (bvs (be16 x)) sl37 in5 rfl (by decide) rfl rfl rfl rfl (by decide) (by simp [be16, bvs, bv, Value.cells]) (bvs_one _)) ?_
  rintro _ w2 ⟨b11, rfl, m3, h11, e11, s11, r11⟩
  have hv := hv.keep m3 (fun h => h)
  have hf := hf.step0 m3
  refine svK (xapp sl37 in5 rfl (by decide) rfl rfl hv (r11.src sl37) (by simp only [maxLen]; omega) (by omega)) ?_
  rintro _ w4 ⟨g12, r12, m5, a12, l12⟩
  have z6 := m5.size
  have hf := hf.step m5 (fun k hk hS => by have hS : k = g := hS; show k = g; omega)
  obtain ⟨p12, q12, rfl, -⟩ := r12.form
  refine sv (xassign rfl) ?_
  refine send ?_
  refine forget_wp [(4, _)] ⟨rfl, trivial⟩ fun _ => ?_
  refine wp_ret ?_
  refine rp1 rfl rfl ?_
  exact app_of r12 hf (by omega) (l12 (by omega))
set_option maxRecDepth 100000 in
theorem c150 {w : World} {v : Value} {g n : Nat} {bs : List UInt8} (hv : BR w v g n bs) (hg : g < w.heap.size) {x : Nat} (hx : x < 65536) (hl : n < 1000000000) :
    Ret PP 150 [v, .int .u16 x] w (fun u w' => AppTo w g (n + 2) (bs ++ be16 x) u w') := by
  obtain ⟨a0, c0, rfl, -⟩ := hv.form
  have hf : Fr (fun k => k = g) w w := Fr.refl _ _
  refine ret_of Tryz.func150 rfl rfl rfl [(0, _), (1, _)] rfl ?_
  refine sreg ?_
  refine sv (xassign rfl) ?_
  refine send ?_
  refine forget_wp [(0, _), (1, _)] ⟨rfl, rfl, trivial⟩ fun _ => ?_
  refine sreg ?_
  refine sv (xmove rfl) ?_
  refine sv (xmove rfl) ?_
  refine sc (xcall ca148 rfl) (c148 hv (by omega) (by first | omega | exact u16lt _) (by omega)) ?_
  rintro _ w1 ⟨p7, q7, g7, rfl, r7, m2, a7, l7⟩
  have z3 := m2.size
  have hf := hf.step m2 (fun k hk hS => by have hS : k = g := hS; show k = g; omega)
  refine sv (xassign rfl) ?_
  refine send ?_
  refine forget_wp [(4, _)] ⟨rfl, trivial⟩ fun _ => ?_
  refine wp_ret ?_
  refine rp1 rfl rfl ?_
  exact ⟨_, _, _, rfl, r7, hf, by omega, by omega⟩
set_option maxRecDepth 100000 in
theorem c151 {w : World} {v : Value} {g n : Nat} {bs : List UInt8} (hv : BR w v g n bs) (hg : g < w.heap.size) {x : Nat} (hx : x < 65536) (hl : n < 1000000000) :
    Ret PP 151 [v, .int .u16 x] w (fun u w' => AppTo w g (n + 2) (bs ++ be16 x) u w') := by
  obtain ⟨a0, c0, rfl, -⟩ := hv.form
  have hf : Fr (fun k => k = g) w w := Fr.refl _ _
  refine ret_of Tryz.func151 rfl rfl rfl [(0, _), (1, _)] rfl ?_
  refine sreg ?_
  refine sv (xassign rfl) ?_
  refine send ?_
  refine forget_wp [(0, _), (1, _)] ⟨rfl, rfl, trivial⟩ fun _ => ?_
  refine sreg ?_
  refine sv (xmove rfl) ?_
  refine sv (xmove rfl) ?_
  refine sc (xcall ca148 rfl) (c148 hv (by omega) (by first | omega | exact u16lt _) (by omega)) ?_
  rintro _ w1 ⟨p7, q7, g7, rfl, r7, m2, a7, l7⟩
  have z3 := m2.size
  have hf := hf.step m2 (fun k hk hS => by have hS : k = g := hS; show k = g; omega)
  refine sv (xassign rfl) ?_
  refine send ?_
  refine forget_wp [(4, _)] ⟨rfl, trivial⟩ fun _ => ?_
  refine wp_ret ?_
  refine rp1 rfl rfl ?_
  exact ⟨_, _, _, rfl, r7, hf, by omega, by omega⟩
set_option maxRecDepth 100000 in
theorem c191 {w : World} {v : Value} {g n : Nat} {bs : List UInt8} (hv : BR w v g n bs) (hg : g < w.heap.size) {x : Nat} (_hx : x < 4294967296) (hl : n < 1000000000) :
    Ret PP 191 [v, .int .u32 x] w (fun u w' => AppTo w g (n + 4) (bs ++ be32 x) u w') := by
  obtain ⟨a0, c0, rfl, -⟩ := hv.form
  have hf : Fr (fun k => k = g) w w := Fr.refl _ _
  refine ret_of Tryz.func191 rfl rfl rfl [(0, _), (1, _)] rfl ?_
  refine sreg ?_
  refine sv (xassign rfl) ?_
  refine send ?_
  refine forget_wp [(0, _), (1, _)] ⟨rfl, rfl, trivial⟩ fun _ => ?_
  refine sreg ?_
  refine sv (xmove rfl) ?_
  refine sv (xmove rfl) ?_
  refine sv (xshr (b := 24) (by decide) rfl rfl) ?_
  refine sv (xconv hs61 ki5 rfl (wu8m _)) ?_
  refine sv (xmove rfl) ?_
  refine sv (xshr (b := 16) (by decide) rfl rfl) ?_
  refine sv (xconv hs61 ki5 rfl (wu8m _)) ?_
  refine sv (xmove rfl) ?_
  refine sv (xshr (b := 8) (by decide) rfl rfl) ?_
  refine sv (xconv hs61 ki5 rfl (wu8m _)) ?_
  refine sv (xmove rfl) ?_
  refine sv (xconv hs61 ki5 rfl (wu8m _)) ?_
  refine svK (xslit (bvs (be32 x)) sl37 in5 rfl (by decide) rfl rfl rfl rfl (by decide) (by simp [be32, bvs, bv, Value.cells]) (bvs_one _)) ?_
  rintro _ w2 ⟨b17, rfl, m3, h17, e17, s17, r17⟩
  have hv := hv.keep m3 (fun h => h)
  have hf := hf.step0 m3
  refine svK (xapp sl37 in5 rfl (by decide) rfl rfl hv (r17.src sl37) (by simp only [maxLen]; omega) (by omega)) ?_
  rintro _ w4 ⟨g18, r18, m5, a18, l18⟩
  have z6 := m5.size
  have hf := hf.step m5 (fun k hk hS => by have hS : k = g := hS; show k = g; omega)
  obtain ⟨p18, q18, rfl, -⟩ := r18.form
  refine sv (xassign rfl) ?_
  refine send ?_
  refine forget_wp [(4, _)] ⟨rfl, trivial⟩ fun _ => ?_
  refine wp_ret ?_
  refine rp1 rfl rfl ?_
  exact app_of r18 hf (by omega) (l18 (by omega))
set_option maxRecDepth 100000 in
theorem c208 {w : World} {v : Value} {g n : Nat} {bs : List UInt8} (hv : BR w v g n bs) (hg : g < w.heap.size) {u : Value} {cs : List UInt8} {U : Nat → Prop} (hu : BA U w u cs) (hc : cs.length < 1000000000) (h0 : 0 < n) (hl : n < 1000000000) :
    Ret PP 208 [v, u] w (fun u w' => AppTo w g (n + cs.length) (bs ++ cs) u w') := by
  obtain ⟨a0, c0, rfl, -⟩ := hv.form
  have hf : Fr (fun k => k = g) w w := Fr.refl _ _
  refine ret_of Tryz.func208 rfl rfl rfl [(0, _), (1, _)] rfl ?_
  refine sreg ?_
  refine sv (xassign rfl) ?_
  refine send ?_
  refine forget_wp [(0, _), (1, _)] ⟨rfl, rfl, trivial⟩ fun _ => ?_
  refine sreg ?_
  refine sv (xmove rfl) ?_
  refine sv (xmove rfl) ?_
  refine svK (xapp sl37 in5 rfl (by decide) rfl rfl hv (hu.src sl37) (by simp only [maxLen]; omega) (by omega)) ?_
  rintro _ w1 ⟨g7, r7, m2, a7, l7⟩
  have z3 := m2.size
  have hf := hf.step m2 (fun k hk hS => by have hS : k = g := hS; show k = g; omega)
  obtain ⟨p7, q7, rfl, -⟩ := r7.form
  refine sv (xassign rfl) ?_
  refine send ?_
  refine forget_wp [(4, _)] ⟨rfl, trivial⟩ fun _ => ?_
  refine wp_ret ?_
  refine rp1 rfl rfl ?_
  exact app_of r7 hf (by omega) (l7 (by omega))
set_option maxRecDepth 100000 in
theorem c209 {w : World} {v : Value} {g n : Nat} {bs : List UInt8} (hv : BR w v g n bs) (hg : g < w.heap.size) {s : ByteArray} (hs : s.size ≤ 255) (hl : n < 1000000000) :
    Ret PP 209 [v, .string s] w (fun u w' => ∃ t, u = .tuple #[t, .nilIface] ∧ AppTo w g (n + 1 + s.size) (bs ++ (UInt8.ofNat s.size :: bt s)) t w') := by
  obtain ⟨a0, c0, rfl, -⟩ := hv.form
  have hf : Fr (fun k => k = g) w w := Fr.refl _ _
  refine ret_of Tryz.func209 rfl rfl rfl [(0, _), (1, _)] rfl ?_
  refine sreg ?_
  refine sv (xassign rfl) ?_
  refine sv (xassign rfl) ?_
  refine send ?_
  refine forget_wp [(0, _), (1, _)] ⟨rfl, rfl, trivial⟩ fun _ => ?_
  refine sreg ?_
  refine sv (xmove rfl) ?_
  refine sv (xlenS st9 rfl) ?_
  refine sv (xassign rfl) ?_
  refine send ?_
  refine forget_wp [(0, _), (1, _), (6, _)] ⟨rfl, rfl, rfl, trivial⟩ fun _ => ?_
  refine wp_seq ?_
  refine sreg ?_
  refine sv (xmove rfl) ?_
  refine sv (exF (xgtr rfl rfl) (by omega)) ?_
  refine send ?_
  refine forget_wp [(0, _), (1, _), (6, _), (10, _)] ⟨rfl, rfl, rfl, rfl, trivial⟩ fun _ => ?_
  refine cno rfl ?_
  refine wp_skip ?_
  refine nThen ?_
  refine forget_wp [(0, _), (1, _), (6, _)] ⟨rfl, rfl, rfl, trivial⟩ fun _ => ?_
  refine sreg ?_
  refine sv (xmove rfl) ?_
  refine sv (xmove rfl) ?_
  refine sv (xconv hs3 ki5 rfl (wu8 (by omega) (by omega))) ?_
  refine svK (xslit (bvs [UInt8.ofNat s.size]) sl37 in5 rfl (by decide) rfl rfl rfl rfl (by decide) (by simp [bvs, bv, Value.cells]; omega) (bvs_one _)) ?_
  rintro _ w2 ⟨b15, rfl, m3, h15, e15, s15, r15⟩
  have hv := hv.keep m3 (fun h => h)
  have hf := hf.step0 m3
  refine svK (xapp sl37 in5 rfl (by decide) rfl rfl hv (r15.src sl37) (by simp only [maxLen]; omega) (by omega)) ?_
  rintro _ w4 ⟨g16, r16, m5, a16, l16⟩
  have z6 := m5.size
  have hf := hf.step m5 (fun k hk hS => by have hS : k = g := hS; show k = g; omega)
  obtain ⟨p16, q16, rfl, -⟩ := r16.form
  refine sv (xassign rfl) ?_
  refine send ?_
  refine forget_wp [(0, _), (1, _)] ⟨rfl, rfl, trivial⟩ fun _ => ?_
  refine sreg ?_
  refine sv (xmove rfl) ?_
  refine sv (xmove rfl) ?_
  refine svK (xapp sl37 in5 rfl (by decide) rfl rfl r16 (src_str st9 s) (by simp only [maxLen]; omega) (by omega)) ?_
  rintro _ w7 ⟨g19, r19, m8, a19, l19⟩
  have z9 := m8.size
  have hf := hf.step m8 (fun k hk hS => by have hS : k = g16 := hS; show k = g; omega)
  obtain ⟨p19, q19, rfl, -⟩ := r19.form
  refine sv (xassign rfl) ?_
  refine send ?_
  refine forget_wp [(0, _)] ⟨rfl, trivial⟩ fun _ => ?_
  refine sreg ?_
  refine sv (xmove rfl) ?_
  refine sv (xassign rfl) ?_
  refine sv (xassign rfl) ?_
  refine send ?_
  refine forget_wp [(4, _), (5, _)] ⟨rfl, rfl, trivial⟩ fun _ => ?_
  refine wp_ret ?_
  refine rp2 rfl rfl rfl ?_
  refine ⟨_, rfl, _, _, g19, rfl, ?_, hf, by omega, by omega⟩
  simpa [BR, bvs_app, bvs, List.append_assoc] using r19
set_option maxRecDepth 100000 in
theorem c53 {w : World} {x : Nat} (_hx : x < 65536) :
    Ret PP 53 [.int .u16 x] w (New w 2 (be16 x)) := by
  have hf : Fr (fun _ => False) w w := Fr.refl _ _
  refine ret_of Tryz.func53 rfl rfl rfl [(0, _)] rfl ?_
  refine sreg ?_
  refine sv (xassign rfl) ?_
  refine send ?_
  refine forget_wp [(0, _)] ⟨rfl, trivial⟩ fun _ => ?_
  refine sreg ?_
  refine sv (xmove rfl) ?_
  refine sv (xshr (b := 8) (by decide) rfl rfl) ?_
  refine sv (xconv hs22 ki5 rfl (wu8m _)) ?_
  refine sv (xmove rfl) ?_
  refine sv (xconv hs22 ki5 rfl (wu8m _)) ?_
  refine svK (xslit (bvs (be16 x)) sl37 in5 rfl (by decide) rfl rfl rfl rfl (by decide) (by simp [be16, bvs, bv, Value.cells]) (bvs_one _)) ?_
  rintro _ w2 ⟨b8, rfl, m3, h8, e8, s8, r8⟩
  have hf := hf.step0 m3
  refine sv (xassign rfl) ?_
  refine send ?_
  refine forget_wp [(2, _)] ⟨rfl, trivial⟩ fun _ => ?_
  refine wp_ret ?_
  refine rp1 rfl rfl ?_
  exact ⟨_, _, _, rfl, r8, hf, by omega, by omega⟩
set_option maxRecDepth 100000 in
theorem c21 {w : World} {b o m c : Nat} {vs : List Value} {bss : List (List UInt8)} (hr : w.rangeAt b o vs) (hb : b < w.heap.size) (hm : vs.length = m) {U : Nat → Prop} (hU : ∀ k, U k → k < w.heap.size) (hv : All2 (BA U w) vs bss) (hl : bss.flatten.length < 1000000000) (hm2 : m < 1000000) :
    Ret PP 21 [.slice (some ⟨b, o, none⟩) m c] w (New w bss.flatten.length bss.flatten) := by
  have hf : Fr (fun _ => False) w w := Fr.refl _ _
  refine ret_of Tryz.func21 rfl rfl rfl [(0, _)] rfl ?_
  refine sreg ?_
  refine sv (xassign rfl) ?_
  refine send ?_
  refine forget_wp [(0, _)] ⟨rfl, trivial⟩ fun _ => ?_
  refine sreg ?_
  refine svK (xslit (bvs []) sl37 in5 rfl (by decide) rfl rfl rfl rfl (by decide) rfl (bvs_one _)) ?_
  rintro _ w2 ⟨b6, rfl, m3, h6, e6, s6, r6⟩
  have hr := rng_fr hr m3 (by omega) (fun h => h)
  have hf := hf.step0 m3
  refine sv (xassign rfl) ?_
  refine send ?_
  refine forget_wp [(0, _), (3, _)] ⟨rfl, rfl, trivial⟩ fun _ => ?_
  refine wp_seq ?_
  refine sreg ?_
  refine sv (xmove rfl) ?_
  refine sv (xlen sl105 rfl) ?_
  refine sv (xmove rfl) ?_
  refine send ?_
  refine forget_wp [(3, _), (7, _), (8, _), (9, _)] ⟨rfl, rfl, rfl, rfl, trivial⟩ fun _ => ?_
  refine wp_block ?_
  refine lp [(7, _), (8, _)] (fun (x : Nat × Value × Nat) => match x with | (k, v, g) => [(3, v), (9, .int .i64 (k : Int))]) (fun (x : Nat × Value × Nat) wx => match x with | (k, v, g) => Fr (fun k => k = b6) w2 wx ∧ (k ≤ m) ∧ (BR wx v g (bss.take k).flatten.length (bss.take k).flatten) ∧ (w.heap.size ≤ g) ∧ (g < wx.heap.size) ∧ (g = b6 ∨ w2.heap.size ≤ g)) (fun (x : Nat × Value × Nat) => match x with | (k, v, g) => m - k) (0, _, b6) ⟨rfl, rfl, rfl, rfl, trivial⟩ ⟨Fr.refl _ _, Nat.zero_le _, r6, (by omega), (by omega), (.inl rfl)⟩ ?_
  rintro ⟨k, v, g⟩ _ w5 ⟨hL4, hk, hv3, hg, hg2, hg3⟩
  refine forget_wp [(3, _), (7, _), (8, _), (9, _)] ⟨rfl, rfl, rfl, rfl, trivial⟩ fun _ => ?_
  have z6 := hL4.size
  have hr := rng_fr hr hL4 (by omega) (by show ¬ (b = b6); omega)
  have hf := hf.step hL4 (fun k hk hS => by have hS : k = b6 := hS; show False; omega)
  refine sreg ?_
  refine svP (xlss rfl rfl) (fun hc10 => ?_) (fun hc10 => ?_)
  · skip
    refine send ?_
    refine forget_wp [(3, _), (7, _), (8, _), (9, _), (10, _)] ⟨rfl, rfl, rfl, rfl, rfl, trivial⟩ fun _ => ?_
    refine wp_seq ?_
    refine cyes rfl ?_
    refine wp_skip ?_
    refine nThen ?_
    refine forget_wp [(3, _), (7, _), (8, _), (9, _)] ⟨rfl, rfl, rfl, rfl, trivial⟩ fun _ => ?_
    refine wp_seq ?_
    refine wp_block ?_
    obtain ⟨vk, bk, hvk, hbk, hba⟩ := hv.get (k := k) (by have := hv.1; omega)
    have hba := hba.keep hU hf (fun _ _ h => h)
    have hle := flat_take_le hbk
    refine sreg ?_
    refine sv (xidx1 sl105 sz37 rfl rfl rfl (by omega)) ?_
    refine sv (xld on37 rfl (hr k vk hvk)) ?_
    refine sv (xassign rfl) ?_
    refine send ?_
    refine forget_wp [(3, _), (5, _), (7, _), (8, _), (9, _)] ⟨rfl, rfl, rfl, rfl, rfl, trivial⟩ fun _ => ?_
    refine lreg ?_
    refine sv (xmove rfl) ?_
    refine sv (xmove rfl) ?_
    refine svK (xapp sl37 in5 rfl (by decide) rfl rfl hv3 (hba.src sl37) (by simp only [maxLen]; omega) (by omega)) ?_
    rintro v15 w7 ⟨g15, r15, m8, a15, l15⟩
    have z9 := m8.size
    have hr := rng_fr hr m8 (by omega) (by show ¬ (b = g); omega)
    have hf := hf.step m8 (fun k hk hS => by have hS : k = g := hS; show False; omega)
    have hL4 := hL4.step m8 (fun k hk hS => by have hS : k = g := hS; show k = b6; omega)
    refine sv (xassign rfl) ?_
    refine lend ?_
    refine nBlock ?_
    refine nThen ?_
    refine forget_wp [(3, _), (7, _), (8, _), (9, _)] ⟨rfl, rfl, rfl, rfl, trivial⟩ fun _ => ?_
    refine lreg ?_
    refine sv (xadd rfl rfl (w64 (by omega) (by omega))) ?_
    refine sv (xmove rfl) ?_
    refine lend ?_
    refine nThen ?_
    refine ⟨(k + 1, v15, g15), _, env_okl ⟨rfl, rfl, rfl, rfl, trivial⟩, ⟨hL4, (by omega), (by rw [take_snoc hbk]; simpa [BR, bvs_app] using r15), (by omega), (l15 (by omega)), (by omega)⟩, ?_⟩
    show m - (k + 1) < m - k; omega
  · skip
    refine send ?_
    refine forget_wp [(3, _), (7, _), (8, _), (9, _), (10, _)] ⟨rfl, rfl, rfl, rfl, rfl, trivial⟩ fun _ => ?_
    refine wp_seq ?_
    refine cno rfl ?_
    refine wp_exit ?_
    refine eThen ?_
    refine eThen ?_
    refine eHit ?_
    refine nThen ?_
    refine forget_wp [(3, _)] ⟨rfl, trivial⟩ fun _ => ?_
    refine sreg ?_
    refine sv (xmove rfl) ?_
    refine sv (xassign rfl) ?_
    refine send ?_
    refine forget_wp [(2, _)] ⟨rfl, trivial⟩ fun _ => ?_
    refine wp_ret ?_
    refine rp1 rfl rfl ?_
    have e : bss.take k = bss := List.take_of_length_le (by rw [← hv.1]; omega)
    rw [e] at hv3
    obtain ⟨p, q, rfl, -⟩ := Rw.form hv3
    exact ⟨_, _, _, rfl, hv3, hf, hg, hg2⟩
end Go.Proofs.YtifnodoffgfpbaaGreatDoor
