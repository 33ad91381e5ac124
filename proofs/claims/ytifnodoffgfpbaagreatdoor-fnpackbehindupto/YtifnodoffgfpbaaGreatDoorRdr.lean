/- What the arguments of the laws are in memory, out of their readings; conditions: none. -/
import Derived.Test.YtifnodoffgfpbaaGreatDoorBulk
import Derived.Test.YtifnodoffgfpbaaGreatDoorAt
import Derived.Deep.Slices
import Derived.Carry
namespace Go.Proofs.YtifnodoffgfpbaaGreatDoor
open Go Go.ChangeShapes Go.WideShapes Go.Deep

section
variable {H : Type} {enc : TypeId × Value → H} {W : World}
abbrev Rd (enc : TypeId × Value → H) (W : World) (fuel : Nat) (t : TypeId) (cs : List Value) (x : DataW H × List MemPlace) : Prop := DataW.trod enc PP W 0 (fun _ => true) true fuel t cs = some x
abbrev UW (W : World) : Nat → Prop := fun k => k < W.heap.size
abbrev bulk (d : DataW H) : Nat := Rows.uptoBulk d

theorem rd_u8 {t fuel : Nat} {cs : List Value} {x : DataW H × List MemPlace} (ht : intB PP t .u8 = true) (h : Rd enc W fuel t cs x) : ∃ n : UInt8, cs = [bv n] := by
  obtain ⟨n, rfl, _, hw⟩ := DataW.trod_int (intB_spec ht) h
  simp only [Lit.wf, IntKind.min, IntKind.max, IntKind.signed, IntKind.bits, Bool.and_eq_true] at hw
  refine ⟨UInt8.ofNat n.toNat, ?_⟩
  simp only [bv, UInt8.toNat_ofNat']
  simp at hw
  have e : ((n.toNat % 2 ^ 8 : Nat) : Int) = n := by omega
  rw [e]
theorem rd_u16 {t fuel : Nat} {cs : List Value} {x : DataW H × List MemPlace} (ht : intB PP t .u16 = true) (h : Rd enc W fuel t cs x) : ∃ n : UInt16, cs = [.int .u16 (n.toNat : Int)] := by
  obtain ⟨n, rfl, _, hw⟩ := DataW.trod_int (intB_spec ht) h
  simp only [Lit.wf, IntKind.min, IntKind.max, IntKind.signed, IntKind.bits, Bool.and_eq_true] at hw
  refine ⟨UInt16.ofNat n.toNat, ?_⟩
  simp only [UInt16.toNat_ofNat']
  simp at hw
  have e : ((n.toNat % 2 ^ 16 : Nat) : Int) = n := by omega
  rw [e]
theorem rd_u32 {t fuel : Nat} {cs : List Value} {x : DataW H × List MemPlace} (ht : intB PP t .u32 = true) (h : Rd enc W fuel t cs x) : ∃ n : UInt32, cs = [.int .u32 (n.toNat : Int)] := by
  obtain ⟨n, rfl, _, hw⟩ := DataW.trod_int (intB_spec ht) h
  simp only [Lit.wf, IntKind.min, IntKind.max, IntKind.signed, IntKind.bits, Bool.and_eq_true] at hw
  refine ⟨UInt32.ofNat n.toNat, ?_⟩
  simp only [UInt32.toNat_ofNat']
  simp at hw
  have e : ((n.toNat % 2 ^ 32 : Nat) : Int) = n := by omega
  rw [e]
theorem rd_i64 {t fuel : Nat} {cs : List Value} {x : DataW H × List MemPlace} (ht : intB PP t .i64 = true) (h : Rd enc W fuel t cs x) : ∃ n : Int, cs = [.int .i64 n] ∧ -9223372036854775808 ≤ n ∧ n ≤ 9223372036854775807 := by
  obtain ⟨n, rfl, _, hw⟩ := DataW.trod_int (intB_spec ht) h
  simp only [Lit.wf, IntKind.min, IntKind.max, IntKind.signed, IntKind.bits, Bool.and_eq_true, decide_eq_true_eq] at hw
  refine ⟨n, rfl, ?_⟩
  simp at hw
  omega
theorem rd_str {t fuel : Nat} {cs : List Value} {x : DataW H × List MemPlace} (ht : strB PP t = true) (h : Rd enc W fuel t cs x) : ∃ s : ByteArray, cs = [.string s] ∧ s.size + 1 = bulk x.1 := by
  obtain ⟨s, rfl, rfl, _⟩ := DataW.trod_string (strB_spec ht) h
  refine ⟨s, rfl, ?_⟩
  simp only [bulk, Rows.uptoBulk]
  rw [show s.data.toList.length = s.size from bt_length s]
def booB (P : Program) (T : TypeId) : Bool := match P.underlying T with
  | some .bool => true
  | _ => false
theorem booB_spec {P : Program} {T : TypeId} (h : booB P T = true) : P.underlying T = some .bool := by
  unfold booB at h
  split at h
  · assumption
  · cases h
theorem rd_bool {t fuel : Nat} {cs : List Value} {x : DataW H × List MemPlace} (ht : booB PP t = true) (h : Rd enc W fuel t cs x) : ∃ b : Bool, cs = [.bool b] := by
  obtain ⟨b, rfl, _⟩ := DataW.trod_bool (booB_spec ht) h
  exact ⟨b, rfl⟩

/-- fields of these types, of one cell each, one behind the other -/
def strF (P : Program) (t : TypeId) (ts : List TypeId) : Bool := match P.underlying t with
  | some (.struct fs) => fs.toList.map (fun f => ((f.type : Nat), f.offset, P.cellsOf f.type)) == (ts.mapIdx fun i t => (((t : Nat), i, 1) : Nat × Nat × Nat)) && P.cellsOf t == ts.length
  | _ => false
theorem rd_struct {t fuel : Nat} {ts : List TypeId} {cs : List Value} {x : DataW H × List MemPlace} (hB : strF PP t ts = true) (h : Rd enc W fuel t cs x) :
    ∃ (xs : List (DataW H × List MemPlace)) (n : Nat), x.1 = .agg (xs.map (·.1)) ∧ cs.length = ts.length ∧ xs.length = ts.length ∧
      ∀ (i : Nat) ft v y, ts[i]? = some ft → cs[i]? = some v → xs[i]? = some y → Rd enc W n ft [v] y := by
  unfold strF at hB
  split at hB
  · rename_i fs hfs
    simp only [Bool.and_eq_true, beq_iff_eq] at hB
    obtain ⟨hl, hc⟩ := hB
    obtain ⟨xs, n, _, rfl, hcl, hxl, hf⟩ := DataW.trod_struct hfs h
    have hsz : fs.size = ts.length := by have := congrArg List.length hl; simpa using this
    refine ⟨xs, n, rfl, by rw [hcl, hc], by rw [hxl, hsz], fun i ft v y hi hv hy => ?_⟩
    have hil : i < ts.length := (List.getElem?_eq_some_iff.1 hi).1
    have hfi := congrArg (fun l => l[i]?) hl
    simp only [List.getElem?_map, List.getElem?_mapIdx, hi, Option.map_some] at hfi
    obtain ⟨f, hfe, hft⟩ := Option.map_eq_some_iff.1 hfi
    simp only [Prod.mk.injEq] at hft
    obtain ⟨h1, h2, h3⟩ := hft
    have := hf i f (by simpa using hfe)
    rw [h2, h3, hy] at this
    have hcv : (cs.drop i).take 1 = [v] := by
      have hic : i < cs.length := (List.getElem?_eq_some_iff.1 hv).1
      rw [List.drop_eq_getElem_cons hic]
      simp only [List.take_succ_cons, List.take_zero]
      rw [(List.getElem?_eq_some_iff.1 hv).2]
    rw [hcv, h1] at this
    exact this
  · cases hB
theorem addr_spot {W : World} {a : Addr} {v : Value} (h : W.cell? a = some v) : a = ⟨a.block, a.off, none⟩ ∧ a.block < W.heap.size := by
  unfold World.cell? at h
  split at h
  · rename_i c _ _ hc
    split at h
    · cases h
    · rename_i hs
      refine ⟨?_, (Array.getElem?_eq_some_iff.1 hc).1⟩
      cases a with
      | mk b o s => cases s with
        | none => rfl
        | some s => simp at hs
  · cases h
theorem add_parts (a : Addr) (k : Nat) : (a.add k).block = a.block ∧ (a.add k).spot = none → a.spot = none ∨ k ≠ 0 := by
  intro h
  unfold Addr.add at h
  by_cases hk : k = 0
  · subst hk; simp at h; exact .inl h
  · exact .inr hk

theorem list_choose {β : Type} {p : Nat → β → Prop} : ∀ n : Nat, (∀ i, i < n → ∃ q, p i q) → ∃ l : List β, l.length = n ∧ ∀ (i : Nat) q, l[i]? = some q → p i q
  | 0, _ => ⟨[], rfl, fun i q h => by simp at h⟩
  | n + 1, h => by
    obtain ⟨l, hl, hp⟩ := list_choose n (fun i hi => h i (by omega))
    obtain ⟨q, hq⟩ := h n (by omega)
    refine ⟨l ++ [q], by simp [hl], fun i q' hi => ?_⟩
    by_cases hin : i < l.length
    · rw [List.getElem?_append_left hin] at hi
      exact hp i q' hi
    · rw [List.getElem?_append_right (by omega)] at hi
      have : i - l.length = 0 := by
        have := (List.getElem?_eq_some_iff.1 hi).1
        simp at this; omega
      rw [this] at hi
      simp at hi
      subst hi
      have : i = n := by omega
      subst this; exact hq
/-- A LIST OF VALUES OF MORE CELLS THAN NONE. -/
theorem rd_list {α : Type} {El : (Nat → Prop) → World → List (List Value) → α → Prop} {lens : List Nat} {B : DataW H → α → Prop} {t e fuel : Nat} {v : Value} {x : DataW H × List MemPlace} (ht : slcB PP t e = true) (hs : PP.cellsOf e = lens.sum) (hp : 0 < lens.sum)
    (hel : ∀ n cs y, Rd enc W n e cs y → ∃ segs z, cs = segs.flatten ∧ segs.map List.length = lens ∧ El (UW W) W segs z ∧ B y.1 z) (h : Rd enc W fuel t [v] x) :
    ∃ l : List α, LA El lens (UW W) W v l ∧ ((x.1 = .nil ∧ l = []) ∨ ∃ ds sp, x.1 = .slice ds sp ∧ All2 B ds l) := by
  rcases open_slice (slcB_spec ht) h with ⟨hv, rfl⟩ | ⟨a, len, cap, m, n, D, Pl, hv, _, hlc, hcm, hm, rfl, hx⟩
  · simp only [List.cons.injEq, and_true] at hv
    subst hv
    exact ⟨[], LA.nil, .inl ⟨rfl, rfl⟩⟩
  · simp only [List.cons.injEq, and_true] at hv
    subst hv
    simp only [if_true] at hm
    subst hm
    have each : ∀ i, i < len → ∃ q : List (List Value) × α, (∀ j u, q.1.flatten[j]? = some u → W.cell? ((a.add (i * lens.sum)).add j) = some u) ∧ q.1.map List.length = lens ∧ El (UW W) W q.1 q.2 ∧ B (D i) q.2 := by
      intro i hi
      obtain ⟨cs', h1, h2⟩ := hx i (by omega)
      obtain ⟨segs, z, hcs, hl, hE, hb⟩ := hel _ _ _ h2
      obtain ⟨_, hcl, hat⟩ := World.cells?_some h1
      rw [hs] at hat hcl
      refine ⟨(segs, z), fun j u hu => ?_, hl, hE, hb⟩
      have hj : j < segs.flatten.length := (List.getElem?_eq_some_iff.1 hu).1
      have hfl : segs.flatten.length = lens.sum := by rw [List.length_flatten, hl]
      rw [hat j (by omega), hcs]; exact hu
    obtain ⟨Q, hQl, hQ⟩ := list_choose len each
    have hq : ∀ i, (hi : i < len) → ∃ q, Q[i]? = some q ∧ (∀ j u, q.1.flatten[j]? = some u → W.cell? ((a.add (i * lens.sum)).add j) = some u) ∧ q.1.map List.length = lens ∧ El (UW W) W q.1 q.2 ∧ B (D i) q.2 := fun i hi => ⟨Q[i], List.getElem?_eq_getElem (by omega), hQ i _ (List.getElem?_eq_getElem (by omega))⟩
    refine ⟨Q.map (fun q => q.2), ?_, .inr ⟨_, _, rfl, ?_⟩⟩
    · refine ⟨some a, m, by simp [hQl], fun hne => ?_⟩
      have hlen : 0 < len := by
        cases len with
        | zero => exact absurd (by simpa using hQl) hne
        | succ k => omega
      obtain ⟨q0, _, h0, h0l, _⟩ := hq 0 hlen
      have hfl : q0.1.flatten.length = lens.sum := by rw [List.length_flatten, h0l]
      have hc0 := h0 0 _ (List.getElem?_eq_getElem (by omega))
      rw [Nat.zero_mul] at hc0
      have e00 : (a.add 0).add 0 = a := by
        cases a
        simp [Addr.add]
      rw [e00] at hc0
      obtain ⟨ea, hb⟩ := addr_spot hc0
      refine ⟨a.block, a.off, by rw [← ea], hb, fun i z hz => ?_⟩
      simp only [List.getElem?_map, Option.map_eq_some_iff] at hz
      obtain ⟨q, hqi, rfl⟩ := hz
      obtain ⟨h1, h2, h3, _⟩ := hQ i q hqi
      refine ⟨q.1, ⟨fun j u hu => ?_, h2⟩, h3⟩
      have := h1 j u hu
      rw [ea, addr_add, addr_add] at this
      exact this
    · refine ⟨by simp [hQl], fun i d z hd hz => ?_⟩
      have hil : i < len := by
        have := (List.getElem?_eq_some_iff.1 hd).1
        simpa using this
      simp only [List.getElem?_map, List.getElem?_range hil, Option.map_some, Option.some.injEq] at hd
      simp only [List.getElem?_map, Option.map_eq_some_iff] at hz
      obtain ⟨q, hqi, rfl⟩ := hz
      subst hd
      exact (hQ i q hqi).2.2.2
theorem mem_sum_le' {α : Type} {f : α → Nat} {l : List α} {a : α} (h : a ∈ l) : f a ≤ (l.map f).sum := by
  induction l with
  | nil => cases h
  | cons x xs ih =>
    simp only [List.map_cons, List.sum_cons]
    rcases List.mem_cons.1 h with rfl | h
    · omega
    · have := ih h; omega
theorem all2_bulk {α : Type} {B : DataW H → α → Prop} {f : α → Nat} (hB : ∀ d z, B d z → f z + 1 ≤ bulk d) : ∀ {ds : List (DataW H)} {l : List α}, All2 B ds l → (l.map f).sum + l.length ≤ Rows.uptoBulkAll ds
  | [], [], _ => by simp [Rows.uptoBulkAll]
  | [], z :: l, h => by have := h.1; simp at this
  | d :: ds, [], h => by have := h.1; simp at this
  | d :: ds, z :: l, h => by
    have h1 := hB d z (h.2 0 d z rfl rfl)
    have ih := all2_bulk hB (ds := ds) (l := l) ⟨by have := h.1; simpa using this, fun i a b ha hb => h.2 (i + 1) a b ha hb⟩
    simp only [List.map_cons, List.sum_cons, List.length_cons, Rows.uptoBulkAll] at ih ⊢
    simp only [bulk] at h1
    omega
theorem list_bulk {α : Type} {B : DataW H → α → Prop} {f : α → Nat} (hB : ∀ d z, B d z → f z + 1 ≤ bulk d) {d : DataW H} {l : List α} (h : (d = .nil ∧ l = []) ∨ ∃ ds sp, d = .slice ds sp ∧ All2 B ds l) : (l.map f).sum + l.length + 1 ≤ bulk d := by
  rcases h with ⟨rfl, rfl⟩ | ⟨ds, sp, rfl, h⟩
  · simp [bulk, Rows.uptoBulk]
  · have := all2_bulk hB h
    simp only [bulk, Rows.uptoBulk]
    omega
theorem all2_mem {α β : Type} {R : α → β → Prop} {l : List α} {r : List β} (h : All2 R l r) {b : β} (hb : b ∈ r) : ∃ a ∈ l, R a b := by
  obtain ⟨i, hi, rfl⟩ := List.mem_iff_getElem.1 hb
  have hil : i < l.length := by rw [h.1]; exact hi
  exact ⟨l[i], List.getElem_mem hil, h.2 i _ _ (List.getElem?_eq_getElem hil) (List.getElem?_eq_getElem hi)⟩
theorem list_mem {α : Type} {B : DataW H → α → Prop} {d : DataW H} {l : List α} (h : (d = .nil ∧ l = []) ∨ ∃ ds sp, d = .slice ds sp ∧ All2 B ds l) {z : α} (hz : z ∈ l) : ∃ dz, B dz z ∧ bulk dz ≤ bulk d := by
  rcases h with ⟨rfl, rfl⟩ | ⟨ds, sp, rfl, h⟩
  · cases hz
  · obtain ⟨a, ha, hb⟩ := all2_mem h hz
    refine ⟨a, hb, ?_⟩
    have := bulks.part_le ha
    simp only [bulk, Rows.uptoBulk]
    omega

/-- bytes -/
def ByEl (_ : Nat → Prop) (_ : World) (segs : List (List Value)) (b : UInt8) : Prop := segs = [[bv b]]
theorem la_ba {U : Nat → Prop} {w : World} {v : Value} {l : List UInt8} (h : LA ByEl [1] U w v l) : BA U w v l := by
  obtain ⟨a, c, rfl, h⟩ := h
  refine ⟨a, c, rfl, fun hne => ?_⟩
  obtain ⟨b, o, rfl, hb, hr⟩ := h hne
  refine ⟨b, o, rfl, hb, fun j u hu => ?_⟩
  simp only [bvs, List.getElem?_map, Option.map_eq_some_iff] at hu
  obtain ⟨x, hx, rfl⟩ := hu
  obtain ⟨segs, hs, rfl⟩ := hr j x hx
  have := hs.c 0 rfl rfl
  simpa using this
theorem ce5 : PP.cellsOf 5 = 1 := by kernel_rfl
theorem ki5' : intB PP 5 .u8 = true := by kernel_rfl
theorem rd_bytes {t fuel : Nat} {v : Value} {x : DataW H × List MemPlace} (ht : slcB PP t 5 = true) (h : Rd enc W fuel t [v] x) : ∃ l : List UInt8, BA (UW W) W v l ∧ l.length + 1 ≤ bulk x.1 := by
  obtain ⟨l, hl, hd⟩ := rd_list (El := ByEl) (lens := [1]) (B := fun _ _ => True) ht ce5 (by decide) (fun n cs y hy => by
    obtain ⟨b, rfl⟩ := rd_u8 ki5' hy
    exact ⟨[[bv b]], b, rfl, rfl, rfl, trivial⟩) h
  refine ⟨l, la_ba hl, ?_⟩
  rcases hd with ⟨hd, rfl⟩ | ⟨ds, sp, hd, ha⟩
  · simp [bulk, hd, Rows.uptoBulk]
  · rw [hd]
    have := bulks.slice_le ds sp
    have := ha.1
    simp only [bulk] at *
    omega
theorem ce9 : PP.cellsOf 9 = 1 := by kernel_rfl
theorem rd_texts {t fuel : Nat} {v : Value} {x : DataW H × List MemPlace} (ht : slcB PP t 9 = true) (h : Rd enc W fuel t [v] x) : ∃ l : List ByteArray, LA TextEl [1] (UW W) W v l ∧ (l.map (·.size)).sum + l.length + 1 ≤ bulk x.1 := by
  obtain ⟨l, hl, hd⟩ := rd_list (El := TextEl) (lens := [1]) (B := fun d z => z.size + 1 ≤ bulk d) ht ce9 (by decide) (fun n cs y hy => by
    obtain ⟨s, rfl, hs⟩ := rd_str st9 hy
    exact ⟨[[.string s]], s, rfl, rfl, rfl, by omega⟩) h
  exact ⟨l, hl, list_bulk (f := fun s : ByteArray => s.size) (fun d z h => h) hd⟩

theorem sf145 : strF PP 145 [22, 37] = true := by kernel_rfl
theorem sf58 : strF PP 58 [9, 22, 22] = true := by kernel_rfl
theorem sf24 : strF PP 24 [22, 4, 22, 4, 4, 4, 4, 4, 4, 22] = true := by kernel_rfl
theorem sf112 : strF PP 112 [9, 22, 22, 61, 22, 3, 37, 9, 9, 61, 61, 61, 61, 61, 62, 110] = true := by kernel_rfl
theorem bo4 : booB PP 4 = true := by kernel_rfl
theorem i22 : intB PP 22 .u16 = true := by kernel_rfl
theorem i61 : intB PP 61 .u32 = true := by kernel_rfl
theorem i3 : intB PP 3 .i64 = true := by kernel_rfl
theorem s37 : slcB PP 37 5 = true := by kernel_rfl
theorem s62 : slcB PP 62 9 = true := by kernel_rfl
theorem s110 : slcB PP 110 145 = true := by kernel_rfl
theorem s25 : slcB PP 25 58 = true := by kernel_rfl
theorem s26 : slcB PP 26 112 = true := by kernel_rfl
theorem t9 : strB PP 9 = true := by kernel_rfl
theorem ce145 : PP.cellsOf 145 = lPair.sum := by kernel_rfl
theorem ce58 : PP.cellsOf 58 = lAsk.sum := by kernel_rfl
theorem ce112 : PP.cellsOf 112 = lRec.sum := by kernel_rfl
theorem rd_pair {n : Nat} {cs : List Value} {y : DataW H × List MemPlace} (h : Rd enc W n 145 cs y) : ∃ segs z, cs = segs.flatten ∧ segs.map List.length = lPair ∧ PairEl (UW W) W segs z ∧ z.data.length + 1 ≤ bulk y.1 := by
  obtain ⟨xs, k, hx, hc, hl, hf⟩ := rd_struct sf145 h
  match cs, hc, xs, hl with
  | [v0, v1], _, [x0, x1], _ =>
    obtain ⟨key, e0⟩ := rd_u16 i22 (hf 0 _ v0 x0 rfl rfl rfl)
    obtain ⟨d, hd, hb⟩ := rd_bytes s37 (hf 1 _ v1 x1 rfl rfl rfl)
    simp only [List.cons.injEq, and_true] at e0
    subst e0
    refine ⟨pairSegs ⟨key, d⟩ v1, ⟨key, d⟩, rfl, rfl, ⟨v1, rfl, hd⟩, ?_⟩
    rw [hx]
    simp only [bulk, Rows.uptoBulk, List.map_cons, List.map_nil, Rows.uptoBulkAll] at hb ⊢
    omega
theorem rd_ask {n : Nat} {cs : List Value} {y : DataW H × List MemPlace} (h : Rd enc W n 58 cs y) : ∃ segs z, cs = segs.flatten ∧ segs.map List.length = lAsk ∧ AskEl (UW W) W segs z ∧ z.name.size + 1 ≤ bulk y.1 := by
  obtain ⟨xs, k, hx, hc, hl, hf⟩ := rd_struct sf58 h
  match cs, hc, xs, hl with
  | [v0, v1, v2], _, [x0, x1, x2], _ =>
    obtain ⟨s, e0, hb⟩ := rd_str t9 (hf 0 _ v0 x0 rfl rfl rfl)
    obtain ⟨a, e1⟩ := rd_u16 i22 (hf 1 _ v1 x1 rfl rfl rfl)
    obtain ⟨b, e2⟩ := rd_u16 i22 (hf 2 _ v2 x2 rfl rfl rfl)
    simp only [List.cons.injEq, and_true] at e0 e1 e2
    subst e0 e1 e2
    refine ⟨askSegs ⟨s, a, b⟩, ⟨s, a, b⟩, rfl, rfl, rfl, ?_⟩
    rw [hx]
    simp only [bulk, Rows.uptoBulk, List.map_cons, List.map_nil, Rows.uptoBulkAll] at hb ⊢
    omega
theorem rd_head {n : Nat} {cs : List Value} {y : DataW H × List MemPlace} (h : Rd enc W n 24 cs y) : ∃ z : HeadD, cs = (headSegs z).flatten := by
  obtain ⟨xs, k, hx, hc, hl, hf⟩ := rd_struct sf24 h
  match cs, hc, xs, hl with
  | [v0, v1, v2, v3, v4, v5, v6, v7, v8, v9], _, [x0, x1, x2, x3, x4, x5, x6, x7, x8, x9], _ =>
    obtain ⟨a0, e0⟩ := rd_u16 i22 (hf 0 _ v0 x0 rfl rfl rfl)
    obtain ⟨a1, e1⟩ := rd_bool bo4 (hf 1 _ v1 x1 rfl rfl rfl)
    obtain ⟨a2, e2⟩ := rd_u16 i22 (hf 2 _ v2 x2 rfl rfl rfl)
    obtain ⟨a3, e3⟩ := rd_bool bo4 (hf 3 _ v3 x3 rfl rfl rfl)
    obtain ⟨a4, e4⟩ := rd_bool bo4 (hf 4 _ v4 x4 rfl rfl rfl)
    obtain ⟨a5, e5⟩ := rd_bool bo4 (hf 5 _ v5 x5 rfl rfl rfl)
    obtain ⟨a6, e6⟩ := rd_bool bo4 (hf 6 _ v6 x6 rfl rfl rfl)
    obtain ⟨a7, e7⟩ := rd_bool bo4 (hf 7 _ v7 x7 rfl rfl rfl)
    obtain ⟨a8, e8⟩ := rd_bool bo4 (hf 8 _ v8 x8 rfl rfl rfl)
    obtain ⟨a9, e9⟩ := rd_u16 i22 (hf 9 _ v9 x9 rfl rfl rfl)
    simp only [List.cons.injEq, and_true] at e0 e1 e2 e3 e4 e5 e6 e7 e8 e9
    subst e0 e1 e2 e3 e4 e5 e6 e7 e8 e9
    exact ⟨⟨a0, a1, a2, a3, a4, a5, a6, a7, a8, a9⟩, rfl⟩
theorem rd_rec {n : Nat} {cs : List Value} {y : DataW H × List MemPlace} (h : Rd enc W n 112 cs y) : ∃ segs z, cs = segs.flatten ∧ segs.map List.length = lRec ∧ RecEl (UW W) W segs z ∧ (bulk y.1 ≤ 1048576 → z.fits) := by
  obtain ⟨xs, k, hx, hc, hl, hf⟩ := rd_struct sf112 h
  match cs, hc, xs, hl with
  | [v0, v1, v2, v3, v4, v5, v6, v7, v8, v9, v10, v11, v12, v13, v14, v15], _, [x0, x1, x2, x3, x4, x5, x6, x7, x8, x9, x10, x11, x12, x13, x14, x15], _ =>
    obtain ⟨a0, e0, b0⟩ := rd_str t9 (hf 0 _ v0 x0 rfl rfl rfl)
    obtain ⟨a1, e1⟩ := rd_u16 i22 (hf 1 _ v1 x1 rfl rfl rfl)
    obtain ⟨a2, e2⟩ := rd_u16 i22 (hf 2 _ v2 x2 rfl rfl rfl)
    obtain ⟨a3, e3⟩ := rd_u32 i61 (hf 3 _ v3 x3 rfl rfl rfl)
    obtain ⟨a4, e4⟩ := rd_u16 i22 (hf 4 _ v4 x4 rfl rfl rfl)
    obtain ⟨a5, e5, k1, k2⟩ := rd_i64 i3 (hf 5 _ v5 x5 rfl rfl rfl)
    obtain ⟨a6, hd, b6⟩ := rd_bytes s37 (hf 6 _ v6 x6 rfl rfl rfl)
    obtain ⟨a7, e7, b7⟩ := rd_str t9 (hf 7 _ v7 x7 rfl rfl rfl)
    obtain ⟨a8, e8, b8⟩ := rd_str t9 (hf 8 _ v8 x8 rfl rfl rfl)
    obtain ⟨a9, e9⟩ := rd_u32 i61 (hf 9 _ v9 x9 rfl rfl rfl)
    obtain ⟨a10, e10⟩ := rd_u32 i61 (hf 10 _ v10 x10 rfl rfl rfl)
    obtain ⟨a11, e11⟩ := rd_u32 i61 (hf 11 _ v11 x11 rfl rfl rfl)
    obtain ⟨a12, e12⟩ := rd_u32 i61 (hf 12 _ v12 x12 rfl rfl rfl)
    obtain ⟨a13, e13⟩ := rd_u32 i61 (hf 13 _ v13 x13 rfl rfl rfl)
    obtain ⟨a14, ht, b14⟩ := rd_texts s62 (hf 14 _ v14 x14 rfl rfl rfl)
    obtain ⟨a15, hp, b15⟩ := rd_list (El := PairEl) (lens := lPair) (B := fun d z => z.data.length + 1 ≤ bulk d) s110 ce145 (by decide) (fun n cs y hy => rd_pair hy) (hf 15 _ v15 x15 rfl rfl rfl)
    have b15' := list_bulk (f := fun p : PairD => p.data.length) (fun d z h => h) b15
    simp only [List.cons.injEq, and_true] at e0 e1 e2 e3 e4 e5 e7 e8 e9 e10 e11 e12 e13
    subst e0 e1 e2 e3 e4 e5 e7 e8 e9 e10 e11 e12 e13
    refine ⟨recSegs ⟨a0, a1, a2, a3, a4, a5, a6, a7, a8, a9, a10, a11, a12, a13, a14, a15⟩ v6 v14 v15, _, rfl, rfl, ⟨v6, v14, v15, rfl, hd, ht, hp⟩, fun hb => ?_⟩
    rw [hx] at hb
    simp only [bulk, Rows.uptoBulk, List.map_cons, List.map_nil, Rows.uptoBulkAll] at hb b0 b6 b7 b8 b14 b15'
    have m1 : ∀ s ∈ a14, s.size ≤ 1048576 := fun s hs => by
      have := mem_sum_le' (f := fun s : ByteArray => s.size) hs
      omega
    have m2 : ∀ p ∈ a15, p.data.length ≤ 1048576 := fun p hp => by
      have := mem_sum_le' (f := fun p : PairD => p.data.length) hp
      omega
    show a0.size ≤ 1048576 ∧ a6.length ≤ 1048576 ∧ a7.size ≤ 1048576 ∧ a8.size ≤ 1048576 ∧ a14.length ≤ 1048576 ∧ _ ∧ (a14.map (·.size)).sum ≤ 1048576 ∧ a15.length ≤ 1048576 ∧ _ ∧ (a15.map (·.data.length)).sum ≤ 1048576 ∧ _
    exact ⟨by omega, by omega, by omega, by omega, by omega, m1, by omega, by omega, m2, by omega, k1, k2⟩
def msgF (P : Program) (t : TypeId) : Bool := match P.underlying t with
  | some (.struct fs) => fs.toList.map (fun f => ((f.type : Nat), f.offset, P.cellsOf f.type)) == [(24, 0, 10), (25, 10, 1), (26, 11, 1), (26, 12, 1), (26, 13, 1)] && P.cellsOf t == 14
  | _ => false
theorem mf28 : msgF PP 28 = true := by kernel_rfl
set_option maxRecDepth 100000 in
/-- A MESSAGE, as the laws take it. -/
theorem rd_msg {n : Nat} {cs : List Value} {y : DataW H × List MemPlace} (h : Rd enc W n 28 cs y) (hb : bulk y.1 ≤ 1048576) :
    ∃ (m : MsgD) (va v1 v2 v3 : Value), cs = (msgSegs m.head va v1 v2 v3).flatten ∧ LA AskEl lAsk (UW W) W va m.asks ∧ LA RecEl lRec (UW W) W v1 m.one ∧ LA RecEl lRec (UW W) W v2 m.two ∧ LA RecEl lRec (UW W) W v3 m.three ∧ m.fits := by
  have hB := mf28
  unfold msgF at hB
  split at hB
  · rename_i fs hfs
    simp only [Bool.and_eq_true, beq_iff_eq] at hB
    obtain ⟨hl, hc⟩ := hB
    obtain ⟨xs, k, _, rfl, hcl, hxl, hf⟩ := DataW.trod_struct hfs h
    have hsz : fs.size = 5 := by have := congrArg List.length hl; simpa using this
    rw [hc] at hcl
    rw [hsz] at hxl
    have key : ∀ (i : Nat) (t o q : Nat) (x : DataW H × List MemPlace), ([(24, 0, 10), (25, 10, 1), (26, 11, 1), (26, 12, 1), (26, 13, 1)] : List (Nat × Nat × Nat))[i]? = some (t, o, q) → xs[i]? = some x → Rd enc W k t ((cs.drop o).take q) x := by
      intro i t o q x hi hx
      have hfi := congrArg (fun l => l[i]?) hl
      simp only [List.getElem?_map] at hfi
      rw [hi] at hfi
      obtain ⟨f, hfe, hft⟩ := Option.map_eq_some_iff.1 hfi
      simp only [Prod.mk.injEq] at hft
      obtain ⟨h1, h2, h3⟩ := hft
      have := hf i f (by simpa using hfe)
      rw [h2, h3, hx, h1] at this
      exact this
    match cs, hcl, xs, hxl with
    | [c0, c1, c2, c3, c4, c5, c6, c7, c8, c9, va, v1, v2, v3], _, [x0, x1, x2, x3, x4], _ =>
      obtain ⟨hd, eh⟩ := rd_head (key 0 _ _ _ x0 rfl rfl)
      obtain ⟨l0, ha, d0⟩ := rd_list (El := AskEl) (lens := lAsk) (B := fun d z => z.name.size + 1 ≤ bulk d) s25 ce58 (by decide) (fun n cs y hy => rd_ask hy) (key 1 _ _ _ x1 rfl rfl)
      obtain ⟨l1, h1, d1⟩ := rd_list (El := RecEl) (lens := lRec) (B := fun d z => bulk d ≤ 1048576 → z.fits) s26 ce112 (by decide) (fun n cs y hy => rd_rec hy) (key 2 _ _ _ x2 rfl rfl)
      obtain ⟨l2, h2, d2⟩ := rd_list (El := RecEl) (lens := lRec) (B := fun d z => bulk d ≤ 1048576 → z.fits) s26 ce112 (by decide) (fun n cs y hy => rd_rec hy) (key 3 _ _ _ x3 rfl rfl)
      obtain ⟨l3, h3, d3⟩ := rd_list (El := RecEl) (lens := lRec) (B := fun d z => bulk d ≤ 1048576 → z.fits) s26 ce112 (by decide) (fun n cs y hy => rd_rec hy) (key 4 _ _ _ x4 rfl rfl)
      simp only [bulk, Rows.uptoBulk, List.map_cons, List.map_nil, Rows.uptoBulkAll] at hb
      have b0 := list_bulk (f := fun a : AskD => a.name.size) (fun d z h => h) d0
      have len : ∀ {l : List RecD} {d : DataW H}, ((d = .nil ∧ l = []) ∨ ∃ ds sp, d = .slice ds sp ∧ All2 (fun d z => bulk d ≤ 1048576 → RecD.fits z) ds l) → bulk d ≤ 1048576 → l.length ≤ 1048576 ∧ ∀ r ∈ l, r.fits := by
        intro l d hd hbd
        refine ⟨?_, fun r hr => ?_⟩
        · rcases hd with ⟨_, rfl⟩ | ⟨ds, sp, rfl, ha⟩
          · simp
          · have := bulks.slice_le ds sp
            have := ha.1
            simp only [bulk] at hbd
            omega
        · obtain ⟨dz, hz, hle⟩ := list_mem hd hr
          exact hz (by omega)
      have f1 := len d1 (by simp only [bulk]; omega)
      have f2 := len d2 (by simp only [bulk]; omega)
      have f3 := len d3 (by simp only [bulk]; omega)
      refine ⟨⟨hd, l0, l1, l2, l3⟩, va, v1, v2, v3, ?_, ha, h1, h2, h3, ?_⟩
      · have eh' : [c0, c1, c2, c3, c4, c5, c6, c7, c8, c9] = (headSegs hd).flatten := eh
        have e2 : [c0, c1, c2, c3, c4, c5, c6, c7, c8, c9, va, v1, v2, v3] = [c0, c1, c2, c3, c4, c5, c6, c7, c8, c9] ++ [va, v1, v2, v3] := rfl
        rw [e2, eh']; rfl
      · simp only [bulk] at b0
        refine ⟨by show l0.length ≤ _; omega, fun a ha => ?_, f1.1, f2.1, f3.1, f1.2, f2.2, f3.2⟩
        have ha : a ∈ l0 := ha
        have := mem_sum_le' (f := fun a : AskD => a.name.size) ha
        show a.name.size ≤ _
        omega
  · cases hB
end
end Go.Proofs.YtifnodoffgfpbaaGreatDoor
