/- Structs within rows, that are written to; where ways meet again; calls through an interface; conditions: none. -/
import Derived.Test.YtifnodoffgfpbaaGreatDoorTree
namespace Go.Proofs.YtifnodoffgfpbaaGreatDoor
open Go

/-- A struct stands in block b behind pre and ahead of post: its parts, of these lengths. -/
def SE (w : World) (b : Nat) (T : TypeId) (pre : List Value) (lens : List Nat) (segs : List (List Value)) (post : List Value) : Prop :=
  w.heap[b]? = some (.cells (pre ++ (segs.flatten ++ post)).toArray T (0, 0)) ∧ segs.map List.length = lens
section
variable {w w' : World} {b : Nat} {T : TypeId} {pre post : List Value} {lens : List Nat} {segs : List (List Value)}
theorem SE.lt (h : SE w b T pre lens segs post) : b < w.heap.size := (Array.getElem?_eq_some_iff.1 h.1).1
theorem SE.keep {S : Nat → Prop} (h : SE w b T pre lens segs post) (m : Fr S w w') (hn : ¬ S b) : SE w' b T pre lens segs post := ⟨(m.block b h.lt hn).trans h.1, h.2⟩
theorem SE.blk (h : SE w b T pre lens segs post) : Blk w b (pre ++ (segs.flatten ++ post)) := ⟨T, h.1⟩
theorem SE.r {o : Nat} (h : SE w b T pre lens segs post) (ho : pre.length = o) : SR w b o lens segs := ⟨h.blk.mid ho, h.2⟩
theorem SE.ofSB (h : SB w b lens segs) : ∃ T, SE w b T [] lens segs [] := by
  obtain ⟨⟨T, h⟩, hl⟩ := h
  exact ⟨T, by simpa using h, hl⟩
theorem SE.toSB (h : SE w b T [] lens segs []) : SB w b lens segs := ⟨⟨T, by simpa using h.1⟩, h.2⟩
theorem SE.len (h : SE w b T pre lens segs post) : segs.flatten.length = lens.sum := by rw [List.length_flatten, h.2]
theorem set_mid (pre mid post : List Value) (k : Nat) (v : Value) (hk : k < mid.length) : (pre ++ (mid ++ post)).set (pre.length + k) v = pre ++ (mid.set k v ++ post) := by
  rw [List.set_append_right _ _ (by omega), Nat.add_sub_cancel_left, List.set_append_left _ _ hk]
/-- a store into a part of one cell -/
theorem xstE {P : Program} {n : Nat} {l : List (Nat × Value)} {ty : TypeId} {x y : Operand} {v : Value} {V : TypeId} {k o : Nat} (i : Nat) {u : Value} (hT : szB P V 1 = true) (hb : SE w b T pre lens segs post) (ho : pre.length = o) (hi : segs[i]? = some [u]) (hk : (lens.take i).sum = k)
    (hx : ev n l x = some (.pointer (some ⟨b, o + k, none⟩))) (hy : ev n l y = some v) (h1 : v.oneCell' = true) :
    ExUK P n l (.store V x y) ty w (fun w' => Fr (· = b) w w' ∧ SE w' b T pre lens (segs.set i [v]) post ∧ w'.heap.size = w.heap.size) := by
  subst ho
  have hlt : i < segs.length := (List.getElem?_eq_some_iff.1 hi).1
  have he : segs[i] = [u] := (List.getElem?_eq_some_iff.1 hi).2
  have hk' : offs segs i = k := by rw [offs_lens hb.2, hk]
  have hle := offs_le segs i hlt
  rw [he, hk'] at hle
  simp only [List.length_cons, List.length_nil] at hle
  have hcell := hb.blk.cell (i := pre.length + k) (v := segs.flatten[k]'(by omega)) (by
    rw [List.getElem?_append_right (by omega), Nat.add_sub_cancel_left, List.getElem?_append_left (by omega)]
    simp)
  have hfr := hb.blk.frozen (pre.length + k)
  have hset := heap_set hb.1 (pre.length + k) v
  rw [set_mid _ _ _ _ _ (by omega)] at hset
  have hfl := splice_flat segs i [v] hlt (by rw [he]; rfl)
  rw [hk', ← splice_cons _ _ _ _ (by omega), splice_nil] at hfl
  rw [hfl] at hset
  refine ⟨w.setCell ⟨b, pre.length + k, none⟩ v, fun r _ _ _ _ => ?_, fr_setCell w b _ v, ⟨hset, ?_⟩, size_setCell _ _ _⟩
  · have hs := szB_spec hT
    cases hi' : P.info? V with
    | none => rw [hi'] at hs; cases hs
    | some u =>
      rw [hi'] at hs
      simp only [Option.map_some, Option.some.injEq] at hs
      simp only [execOp, ev_eval r hx, ev_eval r hy]
      have hcells : v.cells = #[v] := by cases v <;> first | rfl | cases h1
      have hadd : (⟨b, pre.length + k, none⟩ : Addr).add 0 = ⟨b, pre.length + k, none⟩ := addr_add b _ 0
      simp [Instr.storeAt, Instr.sureAddr, storeVar, hcells, sizeOf, typeInfo, hi', hs, storeCells, hadd, run_store _ _ _ _ _ h1, hcell, hfr]
  · rw [List.map_set, ← hb.2]
    apply List.ext_getElem
    · simp
    · intro m h1 h2
      rw [List.getElem_set]
      split
      · rename_i hm; subst hm; simp [he]
      · rfl
end

/-- an element of a row of structs: it may be written to, and the row stands still -/
theorem RA.elem {α : Type} {El : (Nat → Prop) → World → List (List Value) → α → Prop} {lens : List Nat} {U : Nat → Prop} {w : World} {v : Value} {g E n : Nat} {l : List α} (h : RA El lens U w v g E n l) (hpos : 0 < lens.sum) {k : Nat} {x : α} (hx : l[k]? = some x) :
    ∃ (pre : List Value) (segs : List (List Value)) (post : List Value) (c : Nat), v = .slice (some ⟨g, 0, none⟩) n c ∧ pre.length = k * lens.sum ∧ SE w g E pre lens segs post ∧ El U w segs x ∧
      ∀ (w' : World) (segs' : List (List Value)) (S : Nat → Prop), SE w' g E pre lens segs' post → segs'.flatten.all (·.oneCell') = true → Fr S w w' → (∀ k, U k → k < w.heap.size) → (∀ k, U k → ¬ S k) → Stays El → El U w' segs' x → RA El lens U w' v g E n l := by
  obtain ⟨ss, ⟨⟨hlen, hown⟩, hblk, hone⟩, hA⟩ := h
  have hkl : k < l.length := (List.getElem?_eq_some_iff.1 hx).1
  have hks : k < ss.length := by rw [hA.1]; exact hkl
  obtain ⟨segs, x', hs, hx', hs1, hs2⟩ := hA.get hkl
  rw [hx] at hx'
  simp only [Option.some.injEq] at hx'
  subst hx'
  have hall : ∀ s ∈ ss, s.map List.length = lens := by
    intro s hs
    obtain ⟨j, hj, rfl⟩ := List.mem_iff_getElem.1 hs
    obtain ⟨a, b, ha, hb, hab, _⟩ := hA.get (k := j) (by rw [← hA.1]; exact hj)
    rw [List.getElem?_eq_getElem hj] at ha
    simp only [Option.some.injEq] at ha
    rw [ha]; exact hab
  have hseg : ss[k] = segs := (List.getElem?_eq_some_iff.1 hs).2
  have e : ss = ss.take k ++ (segs :: ss.drop (k + 1)) := by rw [← hseg, List.getElem_cons_drop, List.take_append_drop]
  have hfl : (ss.map List.flatten).flatten = ((ss.take k).map List.flatten).flatten ++ (segs.flatten ++ ((ss.drop (k + 1)).map List.flatten).flatten) := by
    conv => lhs; rw [e]
    simp only [List.map_append, List.map_cons, List.flatten_append, List.flatten_cons]
  have hprel : ((ss.take k).map List.flatten).flatten.length = k * lens.sum := by
    rw [flat_len (fun s hs => hall s (List.mem_of_mem_take hs)), List.length_take, Nat.min_eq_left (Nat.le_of_lt hks)]
  have hsegl : segs.flatten.length = lens.sum := by rw [List.length_flatten, hs1]
  have hn : n * lens.sum = (ss.map List.flatten).flatten.length := hlen.symm
  rcases hown with ⟨rfl, rfl⟩ | ⟨g', cap, cur, rfl, hb0, hheap, hnc, hcm, hcs, htake⟩
  · exfalso
    have h2 := flat_len (lens := lens) hall
    rw [h2, Nat.zero_mul] at hn
    rcases Nat.mul_eq_zero.1 hn.symm with h | h <;> omega
  · obtain rfl := hblk g' rfl
    refine ⟨_, segs, ((ss.drop (k + 1)).map List.flatten).flatten ++ cur.toList.drop (n * lens.sum), cap, rfl, hprel, ⟨?_, hs1⟩, hs2, ?_⟩
    · have hc : cur = (((ss.take k).map List.flatten).flatten ++ (segs.flatten ++ (((ss.drop (k + 1)).map List.flatten).flatten ++ cur.toList.drop (n * lens.sum)))).toArray := by
        apply Array.ext'
        have h1 := List.take_append_drop (n * lens.sum) cur.toList
        rw [htake, hfl] at h1
        simp only [List.append_assoc] at h1
        rw [h1]
      rw [hheap]
      exact congrArg (fun c => some (Obj.cells c E (0, 0))) hc
    · intro w' segs' S hse h1 hfr hU hn' hst hel
      have hsegl' : segs'.flatten.length = lens.sum := by rw [List.length_flatten, hse.2]
      have hfl' : ((ss.set k segs').map List.flatten).flatten = ((ss.take k).map List.flatten).flatten ++ (segs'.flatten ++ ((ss.drop (k + 1)).map List.flatten).flatten) := by
        rw [List.set_eq_take_append_cons_drop, if_pos hks]
        simp only [List.map_append, List.map_cons, List.flatten_append, List.flatten_cons]
      refine ⟨ss.set k segs', ⟨⟨?_, .inr ⟨g', cap, _, rfl, hb0, hse.1, hnc, hcm, ?_, ?_⟩⟩, hblk, ?_⟩, ⟨by rw [List.length_set]; exact hA.1, ?_⟩⟩
      · rw [hfl', ← hlen, hfl]; simp only [List.length_append, hsegl, hsegl']
      · rw [← hcs]
        have h2 := congrArg List.length (List.take_append_drop (n * lens.sum) cur.toList)
        rw [htake, hfl] at h2
        simp only [List.length_append, hsegl, Array.length_toList] at h2
        simp only [List.size_toArray, List.length_append, hsegl']
        omega
      · rw [hfl']
        have h3 : n * lens.sum = (((ss.take k).map List.flatten).flatten ++ (segs'.flatten ++ ((ss.drop (k + 1)).map List.flatten).flatten)).length := by
          rw [hn, hfl]; simp only [List.length_append, hsegl, hsegl']
        rw [h3]
        have h4 : (((ss.take k).map List.flatten).flatten ++ (segs'.flatten ++ (((ss.drop (k + 1)).map List.flatten).flatten ++ cur.toList.drop (n * lens.sum)))) = (((ss.take k).map List.flatten).flatten ++ (segs'.flatten ++ ((ss.drop (k + 1)).map List.flatten).flatten)) ++ cur.toList.drop (n * lens.sum) := by simp only [List.append_assoc]
        rw [← h3]
        show (((ss.take k).map List.flatten).flatten ++ (segs'.flatten ++ (((ss.drop (k + 1)).map List.flatten).flatten ++ cur.toList.drop (n * lens.sum)))).take (n * lens.sum) = _
        rw [h4, h3]
        exact List.take_left
      · rw [hfl'] 
        rw [hfl] at hone
        simp only [List.all_append, Bool.and_eq_true] at hone ⊢
        exact ⟨hone.1, h1, hone.2.2⟩
      · intro i a b ha hb
        by_cases hik : i = k
        · subst hik
          rw [List.getElem?_set_self hks] at ha
          simp only [Option.some.injEq] at ha
          subst ha
          rw [hx] at hb
          simp only [Option.some.injEq] at hb
          subst hb
          exact ⟨hse.2, hel⟩
        · rw [List.getElem?_set_ne (by omega)] at ha
          have := hA.2 i a b ha hb
          exact ⟨this.1, hst _ _ _ _ _ _ this.2 hU hfr hn'⟩

/-- WHERE WAYS MEET AGAIN: what stands behind knows only J -/
theorem scut {P : Program} {Q : Exit → Act → World → Prop} {c y : Code} {n : Nat} {l : List (Nat × Value)} {r : Nat → Value} {w : World} {α : Type} (u : List (Nat × Value)) (_hu : okl l u) (ch : α → List (Nat × Value)) (J : α → World → Prop)
    (h : c.wp P (fun e a' w' => e = .normal ∧ ∃ x r', a' = env n (ch x ++ u) r' ∧ J x w') (env n l r) w)
    (k : ∀ x r w', J x w' → y.wp P Q (env n (ch x ++ u) r) w') : (Code.seq c y).wp P Q (env n l r) w := by
  refine wp_seq (wp_mono h ?_)
  rintro e a' w' ⟨rfl, x, r', rfl, hJ⟩
  exact k x r' w' hJ

theorem jcut {P : Program} {Q : Exit → Act → World → Prop} {c : Code} {n : Nat} {l : List (Nat × Value)} {r : Nat → Value} {w : World} {α : Type} (u : List (Nat × Value)) (_hu : okl l u) (ch : α → List (Nat × Value)) (J : α → World → Prop)
    (h : c.wp P (fun e a' w' => e = .normal ∧ ∃ x r', a' = env n (ch x ++ u) r' ∧ J x w') (env n l r) w)
    (k : ∀ x r w', J x w' → Q .normal (env n (ch x ++ u) r) w') : c.wp P Q (env n l r) w := by
  refine wp_mono h ?_
  rintro e a' w' ⟨rfl, x, r', rfl, hJ⟩
  exact k x r' w' hJ

/-- a piece of code within another -/
def nav : List Bool → Code → Option Code
  | [], c => some c
  | d :: ds, .seq a b => nav ds (bif d then b else a)
  | d :: ds, .cond _ a b => nav ds (bif d then b else a)
  | _ :: ds, .block _ c => nav ds c
  | _ :: ds, .loop c => nav ds c
  | _ :: _, _ => none
def navF (p : List Bool) (f : Func) : Code := (f.body.bind (nav p)).getD .skip
theorem nav_wp {P : Program} {Q : Exit → Act → World → Prop} {p : List Bool} {f : Func} {c : Code} {a : Act} {w : World} (h : f.body.bind (nav p) = some c) (k : c.wp P Q a w) : (navF p f).wp P Q a w := by
  simp only [navF, h, Option.getD_some]; exact k
theorem frag_end {Q : Exit → Act → World → Prop} {n : Nat} {l l' : List (Nat × Value)} {r : Nat → Value} {w : World} (k : Q .normal (env n l' (over l r)) w) (h : okl l l') : Q .normal (env n l r) w := by
  rw [show env n l r = env n l' (over l r) from congrArg (act n) (over_okl h r)]; exact k

/-- method name of values of type T is function f, which takes the value itself -/
def mthB (P : Program) (T : TypeId) (name : String) (f : FuncId) : Bool :=
  (match P.info? T with
    | some i => match i.methods.find? (·.name == name) with
      | some m => m.path.toList.isEmpty && (match m.func with
        | some (g, b) => g == f && b
        | none => false)
      | none => false
    | none => false) && (match P.underlying T with
    | some (.pointer _) => true
    | _ => false)
theorem xinv {P : Program} {n : Nat} {l : List (Nat × Value)} {w : World} {ty : TypeId} {T : TypeId} {a : Addr} {x : Operand} {name : String} {f : FuncId} {xs : List Operand} {ts : Array TypeId} {vs : List Value} (hm : mthB P T name f = true) (hf : callB P f = true)
    (hx : ev n l x = some (.iface T (.pointer (some a)))) (hxs : evs n l xs = some vs) :
    ExC P n l (.call { callee := .invoke x name, args := xs.toArray, argTypes := ts }) ty w f (.pointer (some a) :: vs) := fun r _ _ _ _ => by
  unfold callB at hf
  split at hf
  · rename_i fn hfn
    simp only [Bool.and_eq_true, Bool.not_eq_true'] at hf
    have hn : ¬ fn.name = "runtime.NumGoroutine" := by simpa using hf.1
    have hb : ¬ fn.body = none := fun h => by rw [h] at hf; cases hf.2
    simp only [mthB, Bool.and_eq_true] at hm
    obtain ⟨hm1, hm2⟩ := hm
    split at hm1
    · rename_i i hi
      split at hm1
      · rename_i m hmm
        simp only [Bool.and_eq_true] at hm1
        obtain ⟨hp, hg⟩ := hm1
        split at hg
        · rename_i g b hgb
          simp only [Bool.and_eq_true, beq_iff_eq] at hg
          obtain ⟨rfl, rfl⟩ := hg
          split at hm2
          · rename_i e hu
            have hpath : m.path.toList = [] := by simpa using hp
            simp only [execOp]
            have hmeth : (method (P.types.size + Made.depth) T (.pointer (some a)) name).run P w = .ok (g, .pointer (some a)) w := by
              have hdp : 0 < Made.depth := by decide
              obtain ⟨d, hd⟩ : ∃ d, P.types.size + Made.depth = d + 1 := ⟨P.types.size + Made.depth - 1, by omega⟩
              rw [hd]
              simp [method, typeInfo, hi, hmm, hpath, follow, hgb, receiverAt, run_underlying hu, Place.get]
            simp [resolve, invoke, callMethod, ev_eval r hx, evs_eval r hxs, hmeth, callFunc, hfn]
            rw [if_neg hn, if_neg hb]
          · cases hm2
        · cases hg
      · cases hm1
    · cases hm1
  · cases hf
end Go.Proofs.YtifnodoffgfpbaaGreatDoor
