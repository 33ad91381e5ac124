/- What the literals of structs and slices give; conditions: none. -/
import Derived.Test.YtifnodoffgfpbaaGreatDoorApp
namespace Go.Proofs.YtifnodoffgfpbaaGreatDoor
open Go

theorem foldl_sets : ∀ (ds : List Value) (k off : Nat) (cells : Array Value), off + k + ds.length ≤ cells.size →
    ((ds.zipIdx k).foldl (fun cs (p : Value × Nat) => cs.setIfInBounds (off + p.2) p.1) cells) = (splice cells.toList (off + k) ds).toArray
  | [], k, off, cells, _ => by simp [splice_nil]
  | v :: ds, k, off, cells, h => by
    simp only [List.length_cons] at h
    simp only [List.zipIdx_cons, List.foldl_cons]
    rw [foldl_sets ds (k + 1) off _ (by simp; omega)]
    rw [Array.toList_setIfInBounds]
    have : off + (k + 1) = off + k + 1 := by omega
    rw [this, splice_cons _ _ _ _ (by simp; omega)]

theorem fill_step {place : Nat → Option (Nat × Nat)} {cells : Array Value} {i off size : Nat} {v : Value} {rest : List (Nat × Value)} (hp : place i = some (off, size)) (hs : v.cells.size = size) (hf : off + size ≤ cells.size) :
    Instr.fill place cells ((i, v) :: rest) = Instr.fill place (splice cells.toList off v.cells.toList).toArray rest := by
  simp only [Instr.fill, hp]
  rw [if_neg (by simp [hs]; omega)]
  congr 1
  have := foldl_sets v.cells.toList 0 off cells (by simp [hs]; omega)
  rw [Nat.add_zero] at this
  rw [← this]
  rw [← Array.foldl_toList]
  congr 1
  simp

def offs (segs : List (List Value)) (i : Nat) : Nat := ((segs.take i).map List.length).sum
theorem offs_flat : ∀ (segs : List (List Value)) (i : Nat), offs segs i = (segs.take i).flatten.length
  | segs, i => by simp [offs, List.length_flatten]
theorem splice_flat : ∀ (segs : List (List Value)) (i : Nat) (ds : List Value), (h : i < segs.length) → ds.length = segs[i].length → splice segs.flatten (offs segs i) ds = (segs.set i ds).flatten := by
  intro segs i ds h hl
  have e : segs = segs.take i ++ (segs[i] :: segs.drop (i + 1)) := by
    rw [List.getElem_cons_drop, List.take_append_drop]
  have e2 : segs.set i ds = segs.take i ++ (ds :: segs.drop (i + 1)) := by
    rw [List.set_eq_take_append_cons_drop, if_pos h]
  rw [e2, offs_flat]
  conv => lhs; arg 1; rw [e]
  simp only [List.flatten_append, List.flatten_cons]
  exact splice_mid _ _ _ _ hl
theorem offs_le (segs : List (List Value)) (i : Nat) (h : i < segs.length) : offs segs i + segs[i].length ≤ segs.flatten.length := by
  have e : segs = segs.take i ++ (segs[i] :: segs.drop (i + 1)) := by
    rw [List.getElem_cons_drop, List.take_append_drop]
  rw [offs_flat]
  conv => rhs; rw [e]
  simp only [List.flatten_append, List.flatten_cons, List.length_append]
  omega
theorem offs_set (segs : List (List Value)) (i j : Nat) (ds : List Value) (h : i < segs.length) (hl : ds.length = segs[i].length) : offs (segs.set i ds) j = offs segs j := by
  simp only [offs]
  congr 1
  rw [List.take_set, List.map_set]
  by_cases hj : i < j
  · apply List.ext_getElem
    · simp
    · intro m h1 h2
      rw [List.getElem_set]
      split
      · rename_i hm; subst hm; simp [hl]
      · rfl
  · rw [List.set_eq_of_length_le]
    simp; omega

def setAll : List (List Value) → List (Nat × Value) → List (List Value)
  | segs, [] => segs
  | segs, p :: ps => setAll (segs.set p.1 p.2.cells.toList) ps
/-- each part is as long as its place -/
def fitAll : List (List Value) → List (Nat × Value) → Prop
  | _, [] => True
  | segs, p :: ps => (∃ h : p.1 < segs.length, p.2.cells.toList.length = (segs[p.1]).length) ∧ fitAll (segs.set p.1 p.2.cells.toList) ps

theorem fill_all (place : Nat → Option (Nat × Nat)) : ∀ (parts : List (Nat × Value)) (segs : List (List Value)), (∀ i, (h : i < segs.length) → place i = some (offs segs i, segs[i].length)) → fitAll segs parts →
    Instr.fill place segs.flatten.toArray parts = some (setAll segs parts).flatten.toArray
  | [], segs, _, _ => rfl
  | (i, v) :: rest, segs, hp, hf => by
    obtain ⟨⟨h, hl⟩, hr⟩ := hf
    simp only at h hl hr
    rw [fill_step (hp i h) (by simpa using hl) (by simpa using offs_le segs i h)]
    simp only []
    rw [splice_flat segs i _ h (by simpa using hl)]
    refine fill_all place rest _ (fun j hj => ?_) hr
    rw [List.length_set] at hj
    rw [hp j hj, offs_set segs i j _ h (by simpa using hl)]
    congr 2
    rw [List.getElem_set]
    split
    · rename_i e; subst e; exact hl.symm
    · rfl

/-- the layout of a struct: the cells of its fields, one behind the other -/
def layB (P : Program) (T : TypeId) (lens : List Nat) : Bool := match P.underlying T with
  | some (.struct fs) => fs.toList.map (fun f => (f.offset, P.cellsOf f.type, (P.info? f.type).isSome)) == (lens.mapIdx fun i k => (((lens.take i).sum, k, true) : Nat × Nat × Bool))
  | _ => false

section
variable {P : Program} {n : Nat} {l : List (Nat × Value)} {w : World} {ty : TypeId} {x y : Operand} {v : Value}

def evp (n : Nat) (l : List (Nat × Value)) : List (Nat × Operand) → Option (List (Nat × Value))
  | [] => some []
  | p :: ps => (ev n l p.2).bind fun v => (evp n l ps).bind fun vs => some ((p.1, v) :: vs)
theorem evp_eval (r : Nat → Value) : ∀ {ps : List (Nat × Operand)} {vs : List (Nat × Value)}, evp n l ps = some vs → ps.map (fun p => (p.1, (env n l r).eval p.2)) = vs
  | [], vs, h => by simp only [evp, Option.some.injEq] at h; subst h; rfl
  | p :: ps, vs, h => by
    simp only [evp, Option.bind_eq_some_iff, Option.some.injEq] at h
    obtain ⟨v, hv, us, hus, rfl⟩ := h
    simp only [List.map_cons, ev_eval r hv, evp_eval r hus]

theorem mapM_places {fs : List Field} : ∀ {w : World}, (∀ f ∈ fs, (P.info? f.type).isSome = true) →
    (fs.mapM fun f => Prod.mk f.offset <$> sizeOf f.type).run P w = .ok (fs.map fun f => (f.offset, P.cellsOf f.type)) w := by
  induction fs with
  | nil => intro w _; simp
  | cons f fs ih =>
    intro w h
    have h0 := h f (by simp)
    obtain ⟨i, hi⟩ := Option.isSome_iff_exists.1 h0
    have := ih (w := w) (fun g hg => h g (by simp [hg]))
    simp only [List.mapM_cons, List.map_cons]
    simp [sizeOf, typeInfo, hi, Program.cellsOf] at this ⊢
    simp [this]

theorem run_build_flat {T : TypeId} {segs : List (List Value)} {vs : List (Nat × Value)} (hz : (P.info? T).map (·.zero) = some (some (.agg segs.flatten.toArray))) (hl : layB P T (segs.map List.length) = true) (hf : fitAll segs vs) :
    (Instr.build T vs.toArray).run P w = .ok (.agg (setAll segs vs).flatten.toArray) w := by
  unfold layB at hl
  split at hl
  · rename_i fs hs
    have hl := eq_of_beq hl
    cases hi : P.info? T with
    | none => rw [hi] at hz; cases hz
    | some i =>
      rw [hi] at hz
      simp only [Option.map_some, Option.some.injEq] at hz
      have hlen : fs.toList.length = segs.length := by
        have := congrArg List.length hl
        simpa using this
      have hsome : ∀ f ∈ fs.toList, (P.info? f.type).isSome = true := by
        intro f hf
        obtain ⟨k, hk, rfl⟩ := List.mem_iff_getElem.1 hf
        have := congrArg (fun l => l[k]?) hl
        simp only [List.getElem?_map, List.getElem?_mapIdx] at this
        rw [List.getElem?_eq_getElem hk] at this
        rw [List.getElem?_eq_getElem (by omega : k < segs.length)] at this
        simp only [Option.map_some, Option.some.injEq, Prod.mk.injEq] at this
        exact this.2.2
      have hplace : ∀ j, (h : j < segs.length) → (fs.toList.map fun f => (f.offset, P.cellsOf f.type)).toArray[j]? = some (offs segs j, segs[j].length) := by
        intro j hj
        have := congrArg (fun l => l[j]?) hl
        simp only [List.getElem?_map, List.getElem?_mapIdx] at this
        rw [List.getElem?_eq_getElem (by omega : j < fs.toList.length)] at this
        rw [List.getElem?_eq_getElem hj] at this
        simp only [Option.map_some, Option.some.injEq, Prod.mk.injEq] at this
        simp only [List.getElem?_toArray, List.getElem?_map]
        rw [List.getElem?_eq_getElem (by omega : j < fs.toList.length)]
        simp only [Option.map_some, Option.some.injEq, Prod.mk.injEq]
        refine ⟨?_, this.2.1⟩
        rw [this.1, offs]
        congr 1
        rw [List.map_take]
      have hfill := fill_all (fun j => (fs.toList.map fun f => (f.offset, P.cellsOf f.type)).toArray[j]?) vs segs hplace hf
      have hm := mapM_places (P := P) (w := w) hsome
      simp only [Instr.build]
      simp only [Sem.run_bind, zeroValue, typeInfo, run_underlying hs, Result.andThen_ok]
      simp only [Array.mapM_eq_mapM_toList]
      simp at hfill
      simp [hi, hz, hm, hfill, Value.cells]
  · cases hl

theorem xbuild {T : TypeId} {ps : List (Nat × Operand)} {vs : List (Nat × Value)} {segs : List (List Value)} (cells : List Value) (hz : (P.info? T).map (·.zero) = some (some (.agg segs.flatten.toArray))) (hl : layB P T (segs.map List.length) = true)
    (hp : evp n l ps = some vs) (hf : fitAll segs vs) (hc : (setAll segs vs).flatten = cells) : Ex P n l (.build T ps.toArray) ty w (.agg cells.toArray) w := fun r _ _ _ _ => by
  subst hc
  have := evp_eval r hp
  simp only [execOp]
  simp only [List.map_toArray]
  rw [show (List.map (fun x => (x.1, (env n l r).eval x.2)) ps) = vs from this]
  simp [run_build_flat hz hl hf]

/-- the literal of a slice -/
theorem run_buildSlice_flat {T E : TypeId} {z : Value} {size bytes : Nat} {vs : List Value} (hT : slcB P T E = true) (hI : Inf P E z size bytes) (hz : z.cells.size = size) (hsz : 0 < size) (hv : ∀ v ∈ vs, v.cells.size = size) (hk : vs.length * size ≤ 16777216) :
    (Instr.buildSlice T vs.length (enum 0 vs).toArray).run P w = .ok (.slice (some ⟨w.heap.size, 0, none⟩) vs.length vs.length) (w.alloc (.cells (vs.map (·.cells.toList)).flatten.toArray E)) := by
  obtain ⟨i, hi, hiz, rfl, rfl⟩ := hI
  have gen : ∀ (us : List Value) (k : Nat) (pre : List Value), (∀ v ∈ us, v.cells.size = i.size) → ∀ (post : List Value), pre.length = k * i.size → post.length = us.length * i.size →
      Instr.fill (fun j => some (j * i.size, i.size)) (pre ++ post).toArray (enum k us) = some (pre ++ (us.map (·.cells.toList)).flatten).toArray := by
    intro us
    induction us with
    | nil =>
      intro k pre _ post _ hp
      have : post = [] := List.eq_nil_of_length_eq_zero (by simpa using hp)
      subst this
      rfl
    | cons u us ih =>
      intro k pre hu post hk hp
      simp only [enum]
      have hu0 := hu u (by simp)
      rw [fill_step (off := k * i.size) (size := i.size) rfl hu0 (by simp only [List.size_toArray, List.length_append, hk, hp, List.length_cons, Nat.add_mul]; omega)]
      simp only []
      have hsp : splice (pre ++ post) (k * i.size) u.cells.toList = pre ++ u.cells.toList ++ post.drop i.size := by
        have h1 : post = post.take i.size ++ post.drop i.size := (List.take_append_drop _ _).symm
        rw [← hk]
        conv => lhs; rw [h1]
        rw [splice_mid]
        · simp
        · simp [hu0, hp, Nat.add_mul]
      rw [hsp]
      rw [ih (k + 1) (pre ++ u.cells.toList) (fun v hv => hu v (by simp [hv])) (post.drop i.size) (by simp [hk, hu0, Nat.add_mul]) (by simp [hp, Nat.add_mul])]
      simp
  have h0 : Instr.fill (fun j => some (j * i.size, i.size)) ((Array.range (vs.length * i.size)).map (fun k => z.cells[k % z.cells.size]!)) (enum 0 vs) = some (vs.map (·.cells.toList)).flatten.toArray := by
    have := gen vs 0 [] hv (((Array.range (vs.length * i.size)).map (fun k => z.cells[k % z.cells.size]!)).toList) (by simp) (by simp)
    rw [List.nil_append, List.nil_append] at this
    rwa [Array.toArray_toList] at this
  have hk' : ¬ (vs.length * i.size > 2 ^ 24) := by simp; omega
  by_cases hv0 : vs.length = 0
  · have : vs = [] := List.eq_nil_of_length_eq_zero hv0
    subst this
    simp [Instr.buildSlice, run_underlying (slcB_spec hT), sizeOf, typeInfo, hi, enum, Instr.fill, newRow]
    congr 1
    simp
  · have hne : ¬ (vs.length * i.size = 0) := by
      intro h
      rcases Nat.mul_eq_zero.1 h with h | h <;> omega
    have hi0 : ¬ i.size = 0 := by omega
    have hvs : ¬ vs = [] := fun h => hv0 (by simp [h])
    have hz' : (zeroValue E).run P w = .ok z w := by simp [zeroValue, typeInfo, hi, hiz]
    have hs' : (sizeOf E).run P w = .ok i.size w := by simp [sizeOf, typeInfo, hi]
    simp only [Instr.buildSlice, Sem.run_bind, run_underlying (slcB_spec hT), Result.andThen_ok, hs']
    rw [if_neg hk', if_neg hne]
    simp only [Sem.run_bind, hz', Result.andThen_ok, Sem.run_pure, h0]
    simp [newRow]

theorem enum_of : ∀ (ps : List (Nat × Operand)) (k : Nat) (vs : List Value), ps.map Prod.fst = List.range' k ps.length → evs n l (ps.map Prod.snd) = some vs → evp n l ps = some (enum k vs)
  | [], k, vs, _, h => by
    simp only [List.map_nil, evs, Option.some.injEq] at h
    subst h; rfl
  | (i, x) :: ps, k, vs, hi, h => by
    simp only [List.map_cons, List.length_cons, List.range'_succ, List.cons.injEq] at hi
    obtain ⟨rfl, hi⟩ := hi
    simp only [List.map_cons, evs, Option.bind_eq_some_iff, Option.some.injEq] at h
    obtain ⟨v, hv, us, hus, rfl⟩ := h
    have := enum_of ps (i + 1) us hi hus
    simp only [evp, hv, this, enum, Option.bind_some]
theorem xslit {T E : TypeId} {z : Value} {size bytes k : Nat} {ps : List (Nat × Operand)} {vs : List Value} (cs : List Value) (hT : slcB P T E = true) (hI : Inf P E z size bytes) (hz : z.cells.size = size) (hsz : 0 < size)
    (hi : ps.map Prod.fst = List.range' 0 ps.length) (hp' : evs n l (ps.map Prod.snd) = some vs) (hk : vs.length = k) (hv : vs.all (fun v => v.cells.size == size) = true) (hl : k * size ≤ 16777216) (hc : (vs.map (·.cells.toList)).flatten = cs) (h1 : cs.all (·.oneCell') = true) :
    ExK P n l (.buildSlice T k ps.toArray) ty w (fun u w' => ∃ b, u = .slice (some ⟨b, 0, none⟩) k k ∧ Fr0 w w' ∧ Blk w' b cs ∧ b = w.heap.size ∧ w'.heap.size = w.heap.size + 1 ∧ Rw w' u b E size k cs) := by
  subst hk
  subst hc
  have hp := enum_of ps 0 vs hi hp'
  have hv : ∀ v ∈ vs, v.cells.size = size := fun v h => eq_of_beq (List.all_eq_true.1 hv v h)
  have hlen : ∀ us : List Value, (∀ v ∈ us, v.cells.size = size) → (us.map (·.cells.toList)).flatten.length = us.length * size := by
    intro us
    induction us with
    | nil => intro _; simp
    | cons u us ih =>
      intro h
      simp only [List.map_cons, List.flatten_cons, List.length_append, List.length_cons, Nat.add_mul, Nat.one_mul]
      rw [ih (fun v hv => h v (by simp [hv])), Array.length_toList, h u (by simp)]
      omega
  refine ⟨_, _, fun r _ _ _ _ => ?_, w.heap.size, rfl, fr_alloc _ (.cells (vs.map (·.cells.toList)).flatten.toArray E), blk_alloc _ _ _, rfl, size_alloc _ _, ⟨⟨hlen vs hv, .inr ⟨w.heap.size, vs.length, _, rfl, Nat.zero_le _, heap_alloc_new w _, Nat.le_refl _, ?_, ?_, ?_⟩⟩, fun k hk => ?_, h1⟩⟩
  · have := evp_eval r hp
    simp only [execOp]
    simp only [List.map_toArray]
    rw [show (List.map (fun x => (x.1, (env n l r).eval x.2)) ps) = enum 0 vs from this]
    simp [run_buildSlice_flat hT hI hz hsz hv hl]
  · simp only [maxLen]
    have : vs.length ≤ vs.length * size := Nat.le_mul_of_pos_right _ hsz
    omega
  · simp only [List.size_toArray]; exact hlen vs hv
  · rw [List.take_of_length_le]; rw [hlen vs hv]; exact Nat.le_refl _
  · simp only [Value.ownBlock, Option.some.injEq] at hk; exact hk.symm
end
end Go.Proofs.YtifnodoffgfpbaaGreatDoor
