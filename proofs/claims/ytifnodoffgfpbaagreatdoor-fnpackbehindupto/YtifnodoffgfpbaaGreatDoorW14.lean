/- Walks: texts that are converted. Conditions: none. -/
import Derived.Test.YtifnodoffgfpbaaGreatDoorW13
namespace Go.Proofs.YtifnodoffgfpbaaGreatDoor
open Go

def strs (ts : List ByteArray) : List Value := ts.map Value.string
theorem strs_one (ts : List ByteArray) : (strs ts).all (·.oneCell') = true := by
  rw [List.all_eq_true]; intro v hv
  obtain ⟨_, _, rfl⟩ := List.mem_map.1 hv
  rfl
theorem LA.strs {U : Nat → Prop} {w : World} {v : Value} {ts : List ByteArray} {T : Nat} (h : LA TextEl [1] U w v ts) (hT : slcB PP T 9 = true) : Src PP 1 T v ts.length (strs ts) w := by
  obtain ⟨a, c, rfl, h⟩ := h
  by_cases ht : ts = []
  · subst ht
    cases a with
    | none => exact Src.ofNil w (slcB_spec hT) c
    | some a => exact Src.ofSlice w (slcB_spec hT) a 0 c [] rfl (fun j u h => by simp at h) (fun u h => by cases h)
  · obtain ⟨b, o, rfl, _, hr⟩ := h ht
    refine src_rng hT (by simp [YtifnodoffgfpbaaGreatDoor.strs]) (fun j u hu => ?_) (strs_one _)
    simp only [YtifnodoffgfpbaaGreatDoor.strs, List.getElem?_map, Option.map_eq_some_iff] at hu
    obtain ⟨s, hs, rfl⟩ := hu
    obtain ⟨segs, hsr, rfl⟩ := hr j s hs
    have := hsr.c 0 rfl rfl
    simpa using this
theorem strs_flat : ∀ ts : List ByteArray, ((ts.map (fun s => [[Value.string s]])).map List.flatten).flatten = strs ts
  | [] => rfl
  | t :: ts => congrArg (Value.string t :: ·) (strs_flat ts)
theorem RA.texts {U : Nat → Prop} {w : World} {v : Value} {g n : Nat} {ts : List ByteArray} (h : Rw w v g 9 1 n (strs ts)) : RA TextEl [1] U w v g 9 n ts := by
  refine ⟨ts.map (fun s => [[Value.string s]]), ?_, ⟨by simp, fun i a b ha hb => ?_⟩⟩
  · rw [strs_flat]; exact h
  · simp only [List.getElem?_map, Option.map_eq_some_iff] at ha
    obtain ⟨s, hs, rfl⟩ := ha
    rw [hs] at hb
    simp only [Option.some.injEq] at hb
    subst hb
    exact ⟨rfl, rfl⟩

set_option maxHeartbeats 4000000 in
set_option maxRecDepth 100000 in
theorem c129 {w : World} {U : Nat → Prop} (hU : ∀ k, U k → k < w.heap.size) {r : RecD} {vd vt vp : Value} (ht : LA TextEl [1] U w vt r.texts) (hn : r.texts.length ≤ 1048576) :
    Ret PP 129 [ag (recSegs r vd vt vp)] w (fun u w' => ∃ v, u = ag [[v]] ∧ LA TextEl [1] (Ub U w w') w' v r.texts ∧ Fr0 w w') := by
  obtain ⟨at0, ct0, rfl⟩ := ht.form
  have hf : Fr (fun _ => False) w w := Fr.refl _ _
  refine ret_of Tryz.func129 rfl rfl rfl [(0, _)] rfl ?_
  refine sreg ?_
  refine svK (xboxS (lens := [1, 1, 1, 1, 1, 1, 1, 1, 1, 1, 1, 1, 1, 1, 1, 1]) rfl rfl) ?_
  rintro _ w2 ⟨b1, rfl, m3, h1, e1, s1⟩
  have ht := ht.keep text_st (fun k hk => by have hk := hU k hk; omega) m3 (fun _ _ h => h)
  have hf := hf.step0 m3
  refine svK (xallS (lens := [1]) in207 rfl) ?_
  rintro _ w5 ⟨b2, rfl, m6, h2, e4, s4⟩
  have ht := ht.keep text_st (fun k hk => by have hk := hU k hk; omega) m6 (fun _ _ h => h)
  have hf := hf.step0 m6
  have h1 := h1.keep m6 (fun h => h)
  refine send ?_
  refine forget_wp [(1, _), (2, _)] ⟨rfl, rfl, trivial⟩ fun _ => ?_
  refine sreg ?_
  refine svK (xslit ([]) sl62 in9 rfl (by decide) rfl rfl rfl rfl (by decide) rfl rfl) ?_
  rintro _ w8 ⟨b3, rfl, m9, h3, e3, s3, r3⟩
  have ht := ht.keep text_st (fun k hk => by have hk := hU k hk; omega) m9 (fun _ _ h => h)
  have hf := hf.step0 m9
  have h1 := h1.keep m9 (fun h => h)
  have h2 := h2.keep m9 (fun h => h)
  refine sv (xfld fl112_14 rfl) ?_
  refine sv (xld on62 rfl (h1.r.c 14 rfl rfl)) ?_
  refine svK (xapp sl62 in9 rfl (by decide) rfl rfl r3 (LA.strs ht sl62) (by simp only [maxLen]; omega) (by omega)) ?_
  rintro _ w10 ⟨g6, r6, m11, a6, l6⟩
  have z12 := m11.size
  have ht := ht.keep text_st (fun k hk => by have hk := hU k hk; omega) m11 (fun k hk hS => by have hk := hU k hk; have hS : k = b3 := hS; omega)
  have hf := hf.step m11 (fun k hk hS => by have hS : k = b3 := hS; show False; omega)
  have h1 := h1.keep m11 (by show ¬ (b1 = b3); omega)
  have h2 := h2.keep m11 (by show ¬ (b2 = b3); omega)
  obtain ⟨p6, q6, rfl, -⟩ := r6.form
  refine sv (xbuildS [[.slice p6 (0 + r.texts.length) q6]] zr207 ly207 rfl (by simp [fitAll, zs207, Value.cells]) rfl) ?_
  refine suK (xstW h2 (lens' := [1]) sz207 rfl rfl rfl rfl rfl) ?_
  rintro w14 ⟨m15, h2, s13⟩
  have ht := ht.keep text_st (fun k hk => by have hk := hU k hk; omega) m15 (fun k hk hS => by have hk := hU k hk; have hS : k = b2 := hS; omega)
  have hf := hf.step m15 (fun k hk hS => by have hS : k = b2 := hS; show False; omega)
  have h1 := h1.keep m15 (by show ¬ (b1 = b2); omega)
  have r6 := r6.keep m15 (by show ¬ (g6 = b2); omega)
  refine send ?_
  refine forget_wp [(2, _)] ⟨rfl, trivial⟩ fun _ => ?_
  refine wp_ret ?_
  refine rp1 rfl ⟨_, rfl, ldS (lens := [1]) ro207 h2.r⟩ ?_
  exact ⟨_, rfl, RA.la (RA.texts (U := fun _ => False) (show Rw _ _ _ _ _ _ (strs r.texts) from r6)) (by decide) text_gr (fun _ h => h.elim) (.inr ⟨by omega, by omega⟩), hf⟩
end Go.Proofs.YtifnodoffgfpbaaGreatDoor
