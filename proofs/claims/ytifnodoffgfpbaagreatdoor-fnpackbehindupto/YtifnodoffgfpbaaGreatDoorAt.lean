/- How plain data lie in memory; conditions: none. -/
import Derived.Test.YtifnodoffgfpbaaGreatDoorTypes
import Derived.Test.YtifnodoffgfpbaaGreatDoorPure
namespace Go.Proofs.YtifnodoffgfpbaaGreatDoor
open Go

/-- bytes that are appended to -/
abbrev BR (w : World) (v : Value) (g n : Nat) (bs : List UInt8) : Prop := Rw w v g 5 1 n (bvs bs)
/-- what a function that appends to bytes gives back -/
def AppTo (w : World) (g n : Nat) (bs : List UInt8) (u : Value) (w' : World) : Prop :=
  ∃ a c g', u = .slice a n c ∧ BR w' (.slice a n c) g' n bs ∧ Fr (fun k => k = g) w w' ∧ (g' = g ∨ w.heap.size ≤ g') ∧ g' < w'.heap.size
/-- new bytes -/
def New (w : World) (n : Nat) (bs : List UInt8) (u : Value) (w' : World) : Prop :=
  ∃ a c g, u = .slice a n c ∧ BR w' (.slice a n c) g n bs ∧ Fr0 w w' ∧ w.heap.size ≤ g ∧ g < w'.heap.size
theorem xshr {P : Program} {n : Nat} {l : List (Nat × Value)} {w : World} {ty : TypeId} {x y : Operand} {T U : TypeId} {k j : IntKind} {a : Int} {b : Nat} (hb : b ≤ k.bits) (hx : ev n l x = some (.int k a)) (hy : ev n l y = some (.int j b)) :
    Ex P n l (.binOp .shr T x y U) ty w (.int k (a / 2 ^ b)) w :=
  xbin hx hy rfl (by
    have : min b k.bits = b := by omega
    simp only [binOp, Op.shift]
    rw [if_neg (by omega)]
    simp only [Int.toNat_natCast, this, Sem.run_pure]
    congr 2
    exact Int.fdiv_eq_ediv_of_nonneg _ (Int.le_of_lt (Int.pow_pos (by decide))))
theorem BR.len {w : World} {v : Value} {g n : Nat} {bs : List UInt8} (h : BR w v g n bs) : bs.length = n := by
  have := Rw.len h
  simpa [bvs] using this
theorem app_of {w w' : World} {a : Option Addr} {c g g' n : Nat} {bs cs : List UInt8} (h : Rw w' (.slice a n c) g' 5 1 n (bvs bs ++ bvs cs)) (hf : Fr (fun k => k = g) w w') (hg : g' = g ∨ w.heap.size ≤ g') (hl : g' < w'.heap.size) : AppTo w g n (bs ++ cs) (.slice a n c) w' :=
  ⟨a, c, g', rfl, by rw [BR, bvs_app]; exact h, hf, hg, hl⟩
theorem src_str {P : Program} {T : Nat} {w : World} (hT : strB P T = true) (s : ByteArray) : Src P 1 T (.string s) s.size (bvs (bt s)) w := Src.ofString w (strB_spec hT) s

/-- A reading that stays while the blocks of U stay. -/
def Stays {α : Type} (El : (Nat → Prop) → World → List (List Value) → α → Prop) : Prop :=
  ∀ (U : Nat → Prop) (S : Nat → Prop) (w w' : World) segs x, El U w segs x → (∀ k, U k → k < w.heap.size) → Fr S w w' → (∀ k, U k → ¬ S k) → El U w' segs x
def Grows {α : Type} (El : (Nat → Prop) → World → List (List Value) → α → Prop) : Prop :=
  ∀ (U U' : Nat → Prop) (w : World) segs x, El U w segs x → (∀ k, U k → U' k) → El U' w segs x

/-- a slice that reads as bytes, all of it in blocks of U -/
def BA (U : Nat → Prop) (w : World) (v : Value) (bs : List UInt8) : Prop :=
  ∃ a c, v = .slice a bs.length c ∧ (bs ≠ [] → ∃ b o, a = some ⟨b, o, none⟩ ∧ U b ∧ w.rangeAt b o (bvs bs))
theorem BA.keep {U S : Nat → Prop} {w w' : World} {v : Value} {bs : List UInt8} (h : BA U w v bs) (hU : ∀ k, U k → k < w.heap.size) (m : Fr S w w') (hn : ∀ k, U k → ¬ S k) : BA U w' v bs := by
  obtain ⟨a, c, rfl, h⟩ := h
  refine ⟨a, c, rfl, fun hb => ?_⟩
  obtain ⟨b, o, rfl, hlt, hr⟩ := h hb
  exact ⟨b, o, rfl, hlt, rng_keep hr (m.block b (hU b hlt) (hn b hlt))⟩
theorem BA.mono {U U' : Nat → Prop} {w : World} {v : Value} {bs : List UInt8} (h : BA U w v bs) (hU : ∀ k, U k → U' k) : BA U' w v bs := by
  obtain ⟨a, c, rfl, h⟩ := h
  refine ⟨a, c, rfl, fun hb => ?_⟩
  obtain ⟨b, o, rfl, hlt, hr⟩ := h hb
  exact ⟨b, o, rfl, hU b hlt, hr⟩
theorem BA.src {P : Program} {T E : Nat} {U : Nat → Prop} {w : World} {v : Value} {bs : List UInt8} (h : BA U w v bs) (hT : slcB P T E = true) : Src P 1 T v bs.length (bvs bs) w := by
  obtain ⟨a, c, rfl, h⟩ := h
  by_cases hb : bs = []
  · subst hb
    cases a with
    | none => exact Src.ofNil w (slcB_spec hT) c
    | some a => exact Src.ofSlice w (slcB_spec hT) a 0 c [] rfl (fun j u h => by simp at h) (fun u h => by cases h)
  · obtain ⟨b, o, rfl, _, hr⟩ := h hb
    exact src_rng hT (by simp [bvs]) hr (bvs_one _)
theorem BR.ba {w : World} {v : Value} {g n : Nat} {bs : List UInt8} (h : BR w v g n bs) {U : Nat → Prop} (hU : U g) : BA U w v bs := by
  have hl := h.len
  obtain ⟨a, c, rfl, _, _, h5, h6⟩ := Rw.form h
  refine ⟨a, c, by rw [hl], fun hb => ?_⟩
  have : 0 < n := by
    cases bs with
    | nil => exact absurd rfl hb
    | cons x xs => simp at hl; omega
  exact ⟨g, 0, h5 this, hU, Rw.rng h⟩
theorem BA.one {U : Nat → Prop} {w : World} {v : Value} {bs : List UInt8} (h : BA U w v bs) : v.oneCell' = true := by
  obtain ⟨a, c, rfl, _⟩ := h; rfl

/-- a slice of structs -/
def LA {α : Type} (El : (Nat → Prop) → World → List (List Value) → α → Prop) (lens : List Nat) (U : Nat → Prop) (w : World) (v : Value) (l : List α) : Prop :=
  ∃ a c, v = .slice a l.length c ∧ (l ≠ [] → ∃ b o, a = some ⟨b, o, none⟩ ∧ U b ∧ ∀ (i : Nat) x, l[i]? = some x → ∃ segs, SR w b (o + i * lens.sum) lens segs ∧ El U w segs x)
section
variable {α : Type} {El : (Nat → Prop) → World → List (List Value) → α → Prop} {lens : List Nat} {U : Nat → Prop} {w w' : World} {v : Value} {l : List α}
theorem LA.keep {S : Nat → Prop} (h : LA El lens U w v l) (hE : Stays El) (hU : ∀ k, U k → k < w.heap.size) (m : Fr S w w') (hn : ∀ k, U k → ¬ S k) : LA El lens U w' v l := by
  obtain ⟨a, c, rfl, h⟩ := h
  refine ⟨a, c, rfl, fun hb => ?_⟩
  obtain ⟨b, o, rfl, hlt, hr⟩ := h hb
  refine ⟨b, o, rfl, hlt, fun i x hx => ?_⟩
  obtain ⟨segs, hs, he⟩ := hr i x hx
  exact ⟨segs, hs.keep m (hU b hlt) (hn b hlt), hE _ _ _ _ _ _ he hU m hn⟩
theorem LA.mono {U' : Nat → Prop} (h : LA El lens U w v l) (hE : Grows El) (hU : ∀ k, U k → U' k) : LA El lens U' w v l := by
  obtain ⟨a, c, rfl, h⟩ := h
  refine ⟨a, c, rfl, fun hb => ?_⟩
  obtain ⟨b, o, rfl, hlt, hr⟩ := h hb
  refine ⟨b, o, rfl, hU b hlt, fun i x hx => ?_⟩
  obtain ⟨segs, hs, he⟩ := hr i x hx
  exact ⟨segs, hs, hE _ _ _ _ _ he hU⟩
theorem LA.form (h : LA El lens U w v l) : ∃ a c, v = .slice a l.length c := by obtain ⟨a, c, h, _⟩ := h; exact ⟨a, c, h⟩
theorem LA.one (h : LA El lens U w v l) : v.oneCell' = true := by obtain ⟨a, c, rfl, _⟩ := h; rfl
theorem LA.get {a : Option Addr} {n c : Nat} (h : LA El lens U w (.slice a n c) l) {i : Nat} {x : α} (hx : l[i]? = some x) : ∃ b o segs, a = some ⟨b, o, none⟩ ∧ U b ∧ SR w b (o + i * lens.sum) lens segs ∧ El U w segs x := by
  obtain ⟨a', c', he, h⟩ := h
  simp only [Value.slice.injEq] at he
  obtain ⟨rfl, _, rfl⟩ := he
  obtain ⟨b, o, rfl, hlt, hr⟩ := h (by intro h0; rw [h0] at hx; simp at hx)
  obtain ⟨segs, hs, he⟩ := hr i x hx
  exact ⟨b, o, segs, rfl, hlt, hs, he⟩
theorem LA.nil {a : Option Addr} {c : Nat} : LA El lens U w (.slice a 0 c) [] := ⟨a, c, rfl, fun h => absurd rfl h⟩
end

/-- a row of structs that is appended to -/
def RA {α : Type} (El : (Nat → Prop) → World → List (List Value) → α → Prop) (lens : List Nat) (U : Nat → Prop) (w : World) (v : Value) (g E n : Nat) (l : List α) : Prop :=
  ∃ ss : List (List (List Value)), Rw w v g E lens.sum n (ss.map List.flatten).flatten ∧ All2 (fun segs x => segs.map List.length = lens ∧ El U w segs x) ss l
section
variable {α : Type} {El : (Nat → Prop) → World → List (List Value) → α → Prop} {lens : List Nat} {U : Nat → Prop} {w w' : World} {v : Value} {g E n : Nat} {l : List α}
theorem flat_len {ss : List (List (List Value))} (h : ∀ s ∈ ss, s.map List.length = lens) : (ss.map List.flatten).flatten.length = ss.length * lens.sum := by
  induction ss with
  | nil => simp
  | cons s ss ih =>
    simp only [List.map_cons, List.flatten_cons, List.length_append, List.length_cons, Nat.add_mul, Nat.one_mul]
    rw [ih (fun t ht => h t (by simp [ht])), List.length_flatten, h s (by simp)]
    omega
theorem RA.parts (h : RA El lens U w v g E n l) : ∃ ss : List (List (List Value)), Rw w v g E lens.sum n (ss.map List.flatten).flatten ∧ All2 (fun segs x => segs.map List.length = lens ∧ El U w segs x) ss l ∧ ∀ s ∈ ss, s.map List.length = lens := by
  obtain ⟨ss, hR, hA⟩ := h
  refine ⟨ss, hR, hA, fun s hs => ?_⟩
  obtain ⟨i, hi, rfl⟩ := List.mem_iff_getElem.1 hs
  obtain ⟨a, b, ha, _, hb⟩ := hA.get (k := i) (by rw [← hA.1]; exact hi)
  rw [List.getElem?_eq_getElem hi] at ha
  simp only [Option.some.injEq] at ha
  subst ha
  exact hb.1
theorem RA.keep {S : Nat → Prop} (h : RA El lens U w v g E n l) (hE : Stays El) (hU : ∀ k, U k → k < w.heap.size) (m : Fr S w w') (hn : ∀ k, U k → ¬ S k) (hg : ¬ S g) : RA El lens U w' v g E n l := by
  obtain ⟨ss, hR, hA⟩ := h
  exact ⟨ss, hR.keep m hg, hA.imp fun _ _ h => ⟨h.1, hE _ _ _ _ _ _ h.2 hU m hn⟩⟩
theorem RA.mono {U' : Nat → Prop} (h : RA El lens U w v g E n l) (hE : Grows El) (hU : ∀ k, U k → U' k) : RA El lens U' w v g E n l := by
  obtain ⟨ss, hR, hA⟩ := h
  exact ⟨ss, hR, hA.imp fun _ _ h => ⟨h.1, hE _ _ _ _ _ h.2 hU⟩⟩
theorem RA.nil (U : Nat → Prop) (w : World) (g E : Nat) : RA El lens U w (.slice none 0 0) g E 0 [] := ⟨[], Rw.nil _ _ _ _, All2.nil⟩
theorem RA.num (h : RA El lens U w v g E n l) (hs : 0 < lens.sum) : l.length = n := by
  obtain ⟨ss, hR, hA, hl⟩ := h.parts
  have := hR.len
  rw [flat_len hl, hA.1] at this
  exact Nat.eq_of_mul_eq_mul_right hs this
theorem RA.la (h : RA El lens U w v g E n l) (hs : 0 < lens.sum) {U' : Nat → Prop} (hE : Grows El) (hU : ∀ k, U k → U' k) (hg : U' g) : LA El lens U' w v l := by
  have hnum := h.num hs
  obtain ⟨ss, hR, hA, hl⟩ := h.parts
  obtain ⟨a, c, rfl, _, _, h5, _⟩ := hR.form
  subst hnum
  refine ⟨a, c, rfl, fun hb => ?_⟩
  have hpos : 0 < l.length := by cases l with
    | nil => exact absurd rfl hb
    | cons x xs => simp
  refine ⟨g, 0, h5 hpos, hg, fun i x hx => ?_⟩
  have hi : i < l.length := (List.getElem?_eq_some_iff.1 hx).1
  obtain ⟨segs, x', hs1, hs2, hs3⟩ := hA.get hi
  rw [hx] at hs2
  simp only [Option.some.injEq] at hs2
  subst hs2
  refine ⟨segs, ⟨fun j u hu => ?_, hs3.1⟩, hE _ _ _ _ _ hs3.2 hU⟩
  have hj : j < segs.flatten.length := (List.getElem?_eq_some_iff.1 hu).1
  have e : ss = ss.take i ++ (segs :: ss.drop (i + 1)) := by
    have h1 : i < ss.length := (List.getElem?_eq_some_iff.1 hs1).1
    have h2 : ss[i] = segs := (List.getElem?_eq_some_iff.1 hs1).2
    rw [← h2, List.getElem_cons_drop, List.take_append_drop]
  have hpre : ((ss.take i).map List.flatten).flatten.length = i * lens.sum := by
    rw [flat_len (fun s hs => hl s (List.mem_of_mem_take hs)), List.length_take, Nat.min_eq_left]
    have h1 : i < ss.length := (List.getElem?_eq_some_iff.1 hs1).1
    omega
  have := hR.rng (i * lens.sum + j) u (by
    rw [e]
    simp only [List.map_append, List.map_cons, List.flatten_append, List.flatten_cons]
    rw [List.getElem?_append_right (by omega), hpre, Nat.add_sub_cancel_left, List.getElem?_append_left hj]
    exact hu)
  have e2 : 0 + i * lens.sum + j = 0 + (i * lens.sum + j) := by omega
  rw [e2]; exact this
/-- one struct more -/
theorem RA.snoc {ss : List (List (List Value))} {segs : List (List Value)} {x : α} {v' : Value} {g' n' : Nat} (hA : All2 (fun segs x => segs.map List.length = lens ∧ El U w segs x) ss l)
    (hE : Stays El) (hG : Grows El) {S : Nat → Prop} (hU : ∀ k, U k → k < w.heap.size) (m : Fr S w w') (hn : ∀ k, U k → ¬ S k) {U' : Nat → Prop} (hUU : ∀ k, U k → U' k)
    (hR : Rw w' v' g' E lens.sum n' ((ss.map List.flatten).flatten ++ segs.flatten)) (hl : segs.map List.length = lens) (he : El U' w' segs x) : RA El lens U' w' v' g' E n' (l ++ [x]) :=
  ⟨ss ++ [segs], by simpa using hR, (hA.imp fun _ _ h => ⟨h.1, hG _ _ _ _ _ (hE _ _ _ _ _ _ h.2 hU m hn) hUU⟩).snoc ⟨hl, he⟩⟩
end

/-! ### the structs -/
def headSegs (h : HeadD) : List (List Value) := [[.int .u16 h.id.toNat], [.bool h.resp], [.int .u16 h.op.toNat], [.bool h.auth], [.bool h.cut], [.bool h.des], [.bool h.avail], [.bool h.authc], [.bool h.unch], [.int .u16 h.code.toNat]]
def askSegs (a : AskD) : List (List Value) := [[.string a.name], [.int .u16 a.typ.toNat], [.int .u16 a.cls.toNat]]
def pairSegs (p : PairD) (vd : Value) : List (List Value) := [[.int .u16 p.key.toNat], [vd]]
def recSegs (r : RecD) (vd vt vp : Value) : List (List Value) :=
  [[.string r.name], [.int .u16 r.typ.toNat], [.int .u16 r.cls.toNat], [.int .u32 r.ttl.toNat], [.int .u16 r.len.toNat], [.int .i64 r.kind], [vd], [.string r.host], [.string r.box],
    [.int .u32 r.n1.toNat], [.int .u32 r.n2.toNat], [.int .u32 r.n3.toNat], [.int .u32 r.n4.toNat], [.int .u32 r.n5.toNat], [vt], [vp]]
def msgSegs (h : HeadD) (va v1 v2 v3 : Value) : List (List Value) := [[.int .u16 h.id.toNat], [.bool h.resp], [.int .u16 h.op.toNat], [.bool h.auth], [.bool h.cut], [.bool h.des], [.bool h.avail], [.bool h.authc], [.bool h.unch], [.int .u16 h.code.toNat], [va], [v1], [v2], [v3]]
abbrev lAsk : List Nat := [1, 1, 1]
abbrev lPair : List Nat := [1, 1]
abbrev lRec : List Nat := [1, 1, 1, 1, 1, 1, 1, 1, 1, 1, 1, 1, 1, 1, 1, 1]
abbrev lMsg : List Nat := [1, 1, 1, 1, 1, 1, 1, 1, 1, 1, 1, 1, 1, 1]
abbrev lHead : List Nat := [1, 1, 1, 1, 1, 1, 1, 1, 1, 1]

def AskEl (_ : Nat → Prop) (_ : World) (segs : List (List Value)) (a : AskD) : Prop := segs = askSegs a
def TextEl (_ : Nat → Prop) (_ : World) (segs : List (List Value)) (s : ByteArray) : Prop := segs = [[.string s]]
def PairEl (U : Nat → Prop) (w : World) (segs : List (List Value)) (p : PairD) : Prop := ∃ vd, segs = pairSegs p vd ∧ BA U w vd p.data
def RecEl (U : Nat → Prop) (w : World) (segs : List (List Value)) (r : RecD) : Prop :=
  ∃ vd vt vp, segs = recSegs r vd vt vp ∧ BA U w vd r.data ∧ LA TextEl [1] U w vt r.texts ∧ LA PairEl lPair U w vp r.pairs
def MsgEl (U : Nat → Prop) (w : World) (segs : List (List Value)) (m : MsgD) : Prop :=
  ∃ va v1 v2 v3, segs = msgSegs m.head va v1 v2 v3 ∧ LA AskEl lAsk U w va m.asks ∧ LA RecEl lRec U w v1 m.one ∧ LA RecEl lRec U w v2 m.two ∧ LA RecEl lRec U w v3 m.three
theorem ask_st : Stays AskEl := fun _ _ _ _ _ _ h _ _ _ => h
theorem ask_gr : Grows AskEl := fun _ _ _ _ _ h _ => h
theorem text_st : Stays TextEl := fun _ _ _ _ _ _ h _ _ _ => h
theorem text_gr : Grows TextEl := fun _ _ _ _ _ h _ => h
theorem pair_st : Stays PairEl := fun _ _ _ _ _ _ ⟨vd, h1, h2⟩ hU m hn => ⟨vd, h1, h2.keep hU m hn⟩
theorem pair_gr : Grows PairEl := fun _ _ _ _ _ ⟨vd, h1, h2⟩ hU => ⟨vd, h1, h2.mono hU⟩
theorem rec_st : Stays RecEl := fun _ _ _ _ _ _ ⟨vd, vt, vp, h1, h2, h3, h4⟩ hU m hn => ⟨vd, vt, vp, h1, h2.keep hU m hn, h3.keep text_st hU m hn, h4.keep pair_st hU m hn⟩
theorem rec_gr : Grows RecEl := fun _ _ _ _ _ ⟨vd, vt, vp, h1, h2, h3, h4⟩ hU => ⟨vd, vt, vp, h1, h2.mono hU, h3.mono text_gr hU, h4.mono pair_gr hU⟩
theorem msg_st : Stays MsgEl := fun _ _ _ _ _ _ ⟨va, v1, v2, v3, h, ha, h1, h2, h3⟩ hU m hn => ⟨va, v1, v2, v3, h, ha.keep ask_st hU m hn, h1.keep rec_st hU m hn, h2.keep rec_st hU m hn, h3.keep rec_st hU m hn⟩
theorem msg_gr : Grows MsgEl := fun _ _ _ _ _ ⟨va, v1, v2, v3, h, ha, h1, h2, h3⟩ hU => ⟨va, v1, v2, v3, h, ha.mono ask_gr hU, h1.mono rec_gr hU, h2.mono rec_gr hU, h3.mono rec_gr hU⟩
end Go.Proofs.YtifnodoffgfpbaaGreatDoor
