/- Maps from texts to small numbers; conditions: none. -/
import Derived.Test.YtifnodoffgfpbaaGreatDoorTree
import Derived.MapKept
namespace Go.Proofs.YtifnodoffgfpbaaGreatDoor
open Go

/-- what a map holds: the first entry of a text counts -/
abbrev Ent := List (ByteArray × UInt16)
def look (M : Ent) (s : ByteArray) : Option UInt16 := match M with
  | [] => none
  | (k, v) :: M => if s = k then some v else look M s
def entV (p : ByteArray × UInt16) : Value × Value := (.string p.1, .int .u16 (p.2.toNat : Int))
/-- Block b is a map that holds M. -/
def Mp (w : World) (b : Nat) (M : Ent) : Prop := ∃ es clock, w.heap[b]? = some (.map es clock) ∧ es.toList.map (fun e => (e.key, e.val)) = M.map entV
theorem Mp.lt {w : World} {b : Nat} {M : Ent} (h : Mp w b M) : b < w.heap.size := by
  obtain ⟨es, c, h, _⟩ := h
  exact (Array.getElem?_eq_some_iff.1 h).1
theorem Mp.keep {S : Nat → Prop} {w w' : World} {b : Nat} {M : Ent} (h : Mp w b M) (m : Fr S w w') (hn : ¬ S b) : Mp w' b M := by
  have hl := h.lt
  obtain ⟨es, c, h, e⟩ := h
  exact ⟨es, c, (m.block b hl hn).trans h, e⟩
theorem Mp.drew {w : World} {b : Nat} {M : Ent} (h : Mp w b M) : Mp w.drew b M := h
theorem ba_beq (a b : ByteArray) : (a == b) = decide (a = b) := by
  obtain ⟨a⟩ := a
  obtain ⟨b⟩ := b
  have h : ((⟨a⟩ : ByteArray) == ⟨b⟩) = (a == b) := rfl
  rw [h]
  by_cases h : a = b <;> simp [h]
theorem findNow_look (s : ByteArray) : ∀ (l : List MapEntry) (M : Ent) (i : Nat), l.map (fun e => (e.key, e.val)) = M.map entV →
    match look M s with
    | none => Instr.findNow .string (.string s) l i = some none
    | some v => ∃ j, Instr.findNow .string (.string s) l i = some (some (j, .int .u16 (v.toNat : Int)))
  | [], [], i, _ => by simp [look, Instr.findNow]
  | [], p :: M, i, h => by simp at h
  | e :: l, [], i, h => by simp at h
  | e :: l, p :: M, i, h => by
    simp only [List.map_cons, List.cons.injEq] at h
    obtain ⟨h1, h2⟩ := h
    have hk : e.key = .string p.1 := congrArg Prod.fst h1
    have hv : e.val = .int .u16 (p.2.toNat : Int) := congrArg Prod.snd h1
    have ih := findNow_look s l M (i + 1) h2
    obtain ⟨pk, pv⟩ := p
    simp only at hk hv
    by_cases hs : s = pk
    · subst hs
      simp only [look]
      refine ⟨i, ?_⟩
      have hb : (s == s) = true := by rw [ba_beq]; simp
      simp [Instr.findNow, Instr.sameNow, hk, hv, hb]
    · have hb : (s == pk) = false := by rw [ba_beq]; simp [hs]
      simp only [look, if_neg hs]
      simp only [Instr.findNow, Instr.sameNow, hk, hb]
      exact ih
section
variable {P : Program} {n : Nat} {l : List (Nat × Value)} {w : World} {ty : TypeId} {x y z : Operand}
theorem xmkmap {T : TypeId} : ExK P n l (.makeMap T none) ty w (fun u w' => ∃ b, u = .map (some b) ∧ Fr0 w w' ∧ Mp w' b [] ∧ b = w.heap.size ∧ w'.heap.size = w.heap.size + 1) :=
  ⟨_, w.alloc (.map #[] 0), fun r _ _ _ _ => by
    simp only [execOp]
    simp [Instr.makeMap], w.heap.size, rfl, fr_alloc _ _, ⟨#[], 0, heap_alloc_new w _, rfl⟩, rfl, size_alloc _ _⟩
theorem xlook {T K E : TypeId} {b : Nat} {M : Ent} {s : ByteArray} (hT : mapB P T K E = true) (hK : strB P K = true) (hE : Inf P E (.int .u16 0) 1 2) (hm : Mp w b M) (hx : ev n l x = some (.map (some b))) (hy : ev n l y = some (.string s)) :
    Ex P n l (.lookup T x y true) ty w (.tuple #[.int .u16 (((look M s).getD 0).toNat : Int), .bool (look M s).isSome]) w := fun r _ _ _ _ => by
  obtain ⟨es, c, hb, he⟩ := hm
  obtain ⟨i, hi, hz, _, _⟩ := hE
  have hck := fun e => MapKept.run_checkKey (P := P) (w := w) (k := .string s) (strB_spec hK) (by simp [MapKept.IsKey]) e 9999
  have hf := findNow_look s es.toList M 0 he
  simp only [execOp, ev_eval r hx, ev_eval r hy]
  cases hl : look M s with
  | none =>
    rw [hl] at hf
    have := MapKept.run_findKey (P := P) (w := w) (strB_spec hK) hf
    simp [Instr.lookup, run_underlying (mapB_spec hT), MapKept.run_getObj_map hb, hck, this, zeroValue, typeInfo, hi, hz]
  | some v =>
    rw [hl] at hf
    obtain ⟨j, hf⟩ := hf
    have := MapKept.run_findKey (P := P) (w := w) (strB_spec hK) hf
    simp [Instr.lookup, run_underlying (mapB_spec hT), MapKept.run_getObj_map hb, hck, this]
/-- a text that is not there yet -/
theorem xput {T K E : TypeId} {b : Nat} {M : Ent} {s : ByteArray} {v : UInt16} (hT : mapB P T K E = true) (hK : strB P K = true) (hm : Mp w b M) (hl : look M s = none) (hx : ev n l x = some (.map (some b))) (hy : ev n l y = some (.string s)) (hz : ev n l z = some (.int .u16 (v.toNat : Int))) :
    ExUK P n l (.mapUpdate T x y z) ty w (fun w' => Fr (· = b) w w' ∧ Mp w' b (M ++ [(s, v)]) ∧ w'.heap.size = w.heap.size) := by
  obtain ⟨es, c, hb, he⟩ := hm
  have hck := fun e => MapKept.run_checkKey (P := P) (w := w) (k := .string s) (strB_spec hK) (by simp [MapKept.IsKey]) e 9999
  have hf := findNow_look s es.toList M 0 he
  rw [hl] at hf
  have hfk := MapKept.run_findKey (P := P) (w := w) (strB_spec hK) hf
  have hset := MapKept.heap_set (o' := .map (es.push { key := .string s, val := .int .u16 (v.toNat : Int), born := c }) (c + 1)) hb
  refine ⟨{ w with heap := w.heap.setIfInBounds b (.map (es.push { key := .string s, val := .int .u16 (v.toNat : Int), born := c }) (c + 1)) }, fun r _ _ _ _ => ?_, ⟨rfl, rfl, rfl, by simp, fun k _ hk => hset.2 k hk⟩, ⟨_, _, hset.1, ?_⟩, by simp⟩
  · simp only [execOp, ev_eval r hx, ev_eval r hy, ev_eval r hz]
    simp [Instr.mapUpdate, run_underlying (mapB_spec hT), MapKept.run_getObj_map hb, hck, hfk, MapKept.run_setObj_map _ hb]
  · simp [he, entV]
end
end Go.Proofs.YtifnodoffgfpbaaGreatDoor
