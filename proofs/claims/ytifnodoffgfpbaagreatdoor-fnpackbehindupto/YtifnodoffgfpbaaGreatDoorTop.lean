/- From a walk to a law's statement, for all laws of the seat; conditions: none. -/
import Derived.Test.YtifnodoffgfpbaaGreatDoorRdr
import Derived.Test.YtifnodoffgfpbaaGreatDoorCards
import Derived.Test.YtifnodoffgfpbaaGreatDoorTie
import Derived.ProofKit
import Derived.OpenShut
import Derived.Deep.DeepHandedRow
import Derived.Below
import Derived.ChangeSame
import Derived.Carry
import Derived.Lay
import Derived.LaidMore
import Derived.SevenTiedAt
namespace Go.Proofs.YtifnodoffgfpbaaGreatDoor
open Go Go.ChangeShapes Go.WideShapes Go.RowKit

theorem laidOut : laidOutB PP = true := by kernel_rfl
theorem Fr.below {W W' : World} (h : Fr0 W W') : Below W.heap.size W W' := ⟨h.os, h.tape, h.output, h.size, fun k hk => h.block k hk id⟩

section
variable {H : Type} {enc : TypeId × Value → H}
def parsB (P : Program) (ts : List TypeId) : Bool := ts.all fun t => P.readableRec t && decide (t < P.types.size)
def varsB (P : Program) (ns : List String) : Bool := ns.all fun n => match P.globalNamed n with
  | some g => match (P.globals[g]?).map (·.type) with
    | some t => P.readableRec t && decide (t < P.types.size)
    | none => false
  | none => false
theorem all_stay {P : Program} (hlo : laidOutB P = true) {W W' : World} (hb : Below W.heap.size W W') {sp : Nat → Bool} : ∀ {ts : List TypeId} {vs : List Value} {ds : List (DataW H)} {p : List MemPlace}, parsB P ts = true →
    DataW.TrodAll enc P W 0 (fun _ => true) true ts vs ds p → (∀ x ∈ p, x.block < W.heap.size) → (∀ x ∈ p, sp x.block = true) → DataW.TrodAll enc P W' 0 sp true ts vs ds p
  | [], _, _, _, _, h, _, _ => by
    obtain ⟨rfl, rfl, rfl⟩ := trodAll_nil h
    rfl
  | t :: ts, _, _, _, hB, h, hl, hs => by
    obtain ⟨v, vs1, d, ds1, a, b, rfl, rfl, rfl, h1, h2⟩ := trodAll_cons h
    simp only [parsB, List.all_cons, Bool.and_eq_true, decide_eq_true_eq] at hB
    exact ⟨a, b, WideElems.Trod_stays hlo hB.1.1 hB.1.2 h1 (fun x hx => hb.same (hl x (List.mem_append_left _ hx))) (fun x hx => hs x (List.mem_append_left _ hx)),
      all_stay hlo hb (by simpa [parsB] using hB.2) h2 (fun x hx => hl x (List.mem_append_right _ hx)) (fun x hx => hs x (List.mem_append_right _ hx)), rfl⟩
theorem var_stays {P : Program} {W W' : World} (hb : Below W.heap.size W W') {n : String} {cs : Array Value} (h : W.var? P n = some cs) : W'.var? P n = some cs := by
  unfold World.var? at h ⊢
  cases hg : P.globalNamed n with
  | none => rw [hg] at h; cases h
  | some g =>
    rw [hg] at h
    simp only [Option.bind_some] at h ⊢
    have hlt : g < W.heap.size := by
      cases hgo : W.heap[g]? with
      | none => rw [hgo] at h; cases h
      | some o => exact (Array.getElem?_eq_some_iff.1 hgo).1
    rw [hb.block g hlt]
    exact h
theorem vars_stay {P : Program} (hlo : laidOutB P = true) {W W' : World} (hb : Below W.heap.size W W') {sp : Nat → Bool} : ∀ {ns : List String} {gs : List (DataW H)} {p : List MemPlace}, varsB P ns = true →
    DataW.TrodVars enc P W (fun _ => true) ns gs p → (∀ x ∈ p, x.block < W.heap.size) → (∀ x ∈ p, sp x.block = true) → DataW.TrodVars enc P W' sp ns gs p
  | [], [], _, _, h, _, _ => h
  | [], _ :: _, _, _, h, _, _ => by simp [DataW.TrodVars] at h
  | _ :: _, [], _, _, h, _, _ => by simp [DataW.TrodVars] at h
  | n :: ns, d :: gs, _, hB, h, hl, hs => by
    obtain ⟨g, t, cs, fuel, p, q, h1, h2, h3, h4, h5, rfl⟩ := h
    simp only [varsB, List.all_cons, h1, h2, Bool.and_eq_true, decide_eq_true_eq] at hB
    have hl1 : ∀ x ∈ p, x.block < W.heap.size := fun x hx => hl x (List.mem_append_left _ (List.mem_append_right _ hx))
    have hs1 : ∀ x ∈ p, sp x.block = true := fun x hx => hs x (List.mem_append_left _ (List.mem_append_right _ hx))
    refine ⟨g, t, cs, fuel, p, q, h1, h2, var_stays hb h3, ?_, vars_stay hlo hb (by simpa [varsB] using hB.2) h5 (fun x hx => hl x (List.mem_append_right _ hx)) (fun x hx => hs x (List.mem_append_right _ hx)), rfl⟩
    exact DataW.trod_stays (kids_book hlo hB.1.1) (book_sized hB.1.1) (fun h => by cases h) ⟨hB.1.2, book_self t⟩ h4 (fun x hx => hb.same (hl1 x hx)) hs1
theorem all_len {P : Program} {W : World} {base : Nat} {sp : Nat → Bool} {held : Bool} : ∀ {ts : List TypeId} {vs : List Value} {ds : List (DataW H)} {p : List MemPlace}, DataW.TrodAll enc P W base sp held ts vs ds p → ds.length = ts.length ∧ vs.length = ts.length
  | [], _, _, _, h => by
    obtain ⟨rfl, rfl, rfl⟩ := trodAll_nil h
    exact ⟨rfl, rfl⟩
  | t :: ts, _, _, _, h => by
    obtain ⟨v, vs1, d, ds1, a, b, rfl, rfl, rfl, h1, h2⟩ := trodAll_cons h
    have := all_len h2
    simp [this]
theorem vars_len {P : Program} {W : World} {sp : Nat → Bool} : ∀ {ns : List String} {gs : List (DataW H)} {p : List MemPlace}, DataW.TrodVars enc P W sp ns gs p → gs.length = ns.length
  | [], [], _, _ => rfl
  | [], _ :: _, _, h => by simp [DataW.TrodVars] at h
  | _ :: _, [], _, h => by simp [DataW.TrodVars] at h
  | n :: ns, d :: gs, _, h => by
    obtain ⟨g, t, cs, fuel, p, q, h1, h2, h3, h4, h5, rfl⟩ := h
    simp [vars_len h5]

theorem un4 : PP.underlying 4 = some .bool := by kernel_rfl
/-- WHAT A WALK GIVES FOR ANY LAW OF THE SEAT -/
theorem post_law {fn : Func} {s : ChangeSpec} (hp : parsB PP fn.params.toList = true) (hvs : varsB PP s.vars = true) (hr : fn.resultTypes = #[4])
    (hfn : ∀ ds gs : List (DataW H), ds.length = fn.params.toList.length → gs.length = s.vars.length → s.fn H (ds ++ gs) = { results := [.lit (.bool true)], args := ds, vars := gs })
    {W W' : World} {args : Array Value} {ds gs : List (DataW H)} {before : List MemPlace} (hW : DataW.Whole enc PP fn.params.toList s.vars false W args.toList ds gs before) (hF : Fr0 W W') :
    s.post enc PP fn false true false false W args (.bool true) W' := by
  have hb := hF.below
  have hlt : ∀ p ∈ before, p.block < W.heap.size := fun p hp => hW.lt p hp
  have hold : ∀ p ∈ before, (fun b => decide (b < W.heap.size)) p.block = true := fun p hp => by simpa using hlt p hp
  have hW' := hW
  obtain ⟨pa, pv, hA, hV, rfl, hz, hn⟩ := hW
  have e := hfn ds gs (all_len hA).1 (vars_len hV)
  have la : ∀ x ∈ pa, x.block < W.heap.size := fun x hx => hlt x (List.mem_append_left _ hx)
  have lv : ∀ x ∈ pv, x.block < W.heap.size := fun x hx => hlt x (List.mem_append_right _ hx)
  have hres : ∀ (b : Nat) (sp : Nat → Bool) (hd : Bool), DataW.TrodAll enc PP W' b sp hd fn.resultTypes.toList ((Value.bool true).resultList fn.resultTypes.size) (s.fn H (ds ++ gs)).results [] := fun b sp hd => by
    rw [e, hr]
    exact trodAll_cons_mk (shut_bool un4 _) trodAll_mk0
  refine ⟨ds, gs, pa ++ pv, [], pa, pv, hW', hres _ _ _, ?_, ?_, World.keptBut_mono (fun p hp => ⟨hp, ?_⟩) (hb.frame (· ∈ pa ++ pv)), fun h => by cases h⟩
  · rw [e]
    exact all_stay laidOut hb hp hA la (fun x hx => by simpa using la x hx)
  · rw [e]
    exact vars_stay laidOut hb hvs hV lv (fun x hx => by simpa using lv x hx)
  · exact .inr (List.mem_append.1 hp)
end

/-- .. AND 'THERE IS AN INPUT THAT FITS', in the world in which every listed variable is laid -/
theorem witness_law {H : Type} {enc : TypeId × Value → H} {os : Os} {f : FuncId} {fn : Func} {s : OpenSpec} {conds : List PathCond} {laid : List (String × DataW Unit)} (args : Array Value)
    (hv : ((World.laidAll PP os laid).forCall (fun _ _ => 0) ⟨#[], args, []⟩).variablesZipB PP = true)
    (hr : (((World.laidAll PP os laid).forCall (fun _ _ => 0) ⟨#[], args, []⟩).heap.toList.drop PP.globals.size).take ((begin PP (fun _ _ => 0) default).world.heap.size - PP.globals.size) =
      (begin PP (fun _ _ => 0) default).world.heap.toList.drop PP.globals.size)
    (hok : Input.okWideB PP ((World.laidAll PP os laid).forCall (fun _ _ => 0) ⟨#[], args, []⟩) f ⟨#[], args, []⟩ = true)
    (hrow : s.preRow enc PP fn conds false laid ((World.laidAll PP os laid).forCall (fun _ _ => 0) ⟨#[], args, []⟩).memory args) :
    ∃ (w : World) (tape : Tape) (i : Input), w.os = os ∧ (w.forCall tape i).Shaped PP ∧ i.vars = [] ∧ Input.okWide PP (w.forCall tape i) .any w.heap.size f i ∧
      s.preRow enc PP fn conds false laid (w.forCall tape i).memory i.args ∧ ({} : Assume).holds PP (lone (Frame.enter PP f i.args .normal) [] (w.forCall tape i)) :=
  ⟨World.laidAll PP os laid, fun _ _ => 0, ⟨#[], args, []⟩, World.laidAll_os _ _ _, World.shaped_of_ZipB hv hr, (Input.okWide_of_okWideB (base := 0) hok).1, (Input.okWide_of_okWideB hok).2, hrow, by
    simp only [Assume.holds]
    exact ⟨by simp, by simp, fun _ => Modest.zero, by simp, by simp⟩⟩
end Go.Proofs.YtifnodoffgfpbaaGreatDoor
