/- The law on building short names: its second form holds, for every input whose bulk is at most 1048576. -/
import Derived.Test.YtifnodoffgfpbaaGreatDoorBs7
import Derived.Test.YtifnodoffgfpbaaGreatDoorBsW
import Derived.Test.YtifnodoffgfpbaaGreatDoorBsC
namespace Go.Proofs.YtifnodoffgfpbaaGreatDoor.fnBuildShort
open Go Go.ChangeShapes Go.WideShapes Go.RowKit

theorem own : ownKnob PP.godebug = none := by kernel_rfl
theorem ps : Tryz.f11.params = #[28] := by kernel_rfl
theorem rs : Tryz.f11.resultTypes = #[4] := by kernel_rfl
theorem pB : parsB PP Tryz.f11.params.toList = true := by kernel_rfl
theorem vB : varsB PP Rows.fnBuildShortSpec.vars = true := by kernel_rfl
def sf (P : Program) (t : TypeId) : Bool := match P.underlying t with
  | some (.struct _) => true
  | _ => false
theorem sf28 : sf PP 28 = true := by kernel_rfl

theorem any_some {α : Type} {o : Option α} {p : α → Bool} (h : o.any p = true) : ∃ x, o = some x ∧ p x = true := by
  cases o with
  | none => cases h
  | some x => exact ⟨x, rfl, h⟩
theorem one_part {a c n : Nat} (h : a + 0 + c ≤ n) : a ≤ n := by omega
theorem two_parts {a b c n : Nat} (h : a + (b + 0) + c ≤ n) : a ≤ n ∧ b ≤ n := by omega
theorem succ_part {a b n : Nat} (h : a + 1 ≤ b) (k : b ≤ n) : a ≤ n := by omega

set_option maxRecDepth 100000 in
theorem globs {W : World} (h : laidMetH PP Rows.fnBuildShortUptoRow.laid W) : GB W ∧ 5 ≤ W.heap.size := by
  rw [MakeChecks.laidMetH_plain _ _ _ (by kernel_rfl)] at h
  obtain ⟨v0, hc0, u0, e0, x0, rfl, -, -⟩ := err_of (g := 0) h (List.mem_of_getElem? (i := 1) rfl) (by kernel_rfl) (by kernel_rfl)
  obtain ⟨v1, hc1, u1, e1, x1, rfl, -, -⟩ := err_of (g := 1) h (List.mem_of_getElem? (i := 6) rfl) (by kernel_rfl) (by kernel_rfl)
  obtain ⟨v2, hc2, u2, e2, x2, rfl, -, -⟩ := err_of (g := 2) h (List.mem_of_getElem? (i := 7) rfl) (by kernel_rfl) (by kernel_rfl)
  obtain ⟨v3, hc3, u3, e3, x3, rfl, -, -⟩ := err_of (g := 3) h (List.mem_of_getElem? (i := 8) rfl) (by kernel_rfl) (by kernel_rfl)
  obtain ⟨v4, hc4, u4, e4, x4, rfl, -, -⟩ := err_of (g := 4) h (List.mem_of_getElem? (i := 9) rfl) (by kernel_rfl) (by kernel_rfl)
  refine ⟨fun k hk => ?_, ?_⟩
  · have hk : k = 0 ∨ k = 1 ∨ k = 2 ∨ k = 3 ∨ k = 4 := by omega
    rcases hk with rfl | rfl | rfl | rfl | rfl
    · exact ⟨u0, x0, hc0⟩
    · exact ⟨u1, x1, hc1⟩
    · exact ⟨u2, x2, hc2⟩
    · exact ⟨u3, x3, hc3⟩
    · exact ⟨u4, x4, hc4⟩
  · have := cell_lt hc4; omega

set_option maxRecDepth 100000 in
theorem contract (H : Type) (enc : TypeId × Value → H) (W : World) (base : Nat) (args : Array Value) (ds gs : List (DataW H)) (before : List MemPlace)
    (hval : ∀ (j : Nat) t v, Tryz.f11.params[j]? = some t → args[j]? = some v → Value.okWide PP W .any base t v)
    (hW : DataW.Whole enc PP Tryz.f11.params.toList Rows.fnBuildShortSpec.vars false W args.toList ds gs before) (hk : Rows.uptoSmall H (ds ++ gs) = true) (hlaid : laidMetH PP Rows.fnBuildShortUptoRow.laid W) :
    Calls PP 11 args W fun e W' => ∃ v, e = .returned v ∧ Rows.fnBuildShortSpec.post enc PP Tryz.f11 false true false false W args v W' := by
  have hW' := hW
  obtain ⟨p, q, hA, hV, rfl, hfz, hnd⟩ := hW
  have hbd := bulks.bound hk
  rw [bulks.append] at hbd
  rw [ps] at hA hval
  obtain ⟨v0, vs0, d0, ds0, p0, q0, hargs, rfl, rfl, h0, r0⟩ := trodAll_cons hA
  obtain ⟨rfl, rfl, rfl⟩ := trodAll_nil r0
  obtain rfl : args = #[v0] := by cases args; simp_all
  simp only [Rows.uptoBulkAll] at hbd
  have hS := sf28
  unfold sf at hS
  split at hS
  · rename_i fs hfs
    obtain ⟨n0, h0⟩ := h0
    obtain ⟨cs0, rfl, _⟩ := okWide_struct hfs (hval 0 28 v0 rfl rfl)
    have hb0 : bulk d0 ≤ 1048576 := one_part hbd
    obtain ⟨m, va, v2, v3, v4, hcs, ha, y1, y2, y3, hm⟩ := rd_msg (W := W) (y := (d0, p0)) h0 hb0
    have e0 : Value.agg cs0 = ag (msgSegs m.head va v2 v3 v4) := by
      have hcs' : cs0.toList = (msgSegs m.head va v2 v3 v4).flatten := hcs
      show Value.agg cs0 = .agg (msgSegs m.head va v2 v3 v4).flatten.toArray
      rw [← hcs']
    rw [e0]
    obtain ⟨hG, hsz⟩ := globs hlaid
    refine Calls.mono (c11 (fun k hk => hk) ha y1 y2 y3 hm hG hsz) fun e W' ⟨v, he, hv1, hF⟩ => ?_
    subst hv1
    refine ⟨_, he, ?_⟩
    rw [← e0]
    refine post_law pB vB rs (fun ds gs hd hg => ?_) hW' hF
    have hd : ds.length = 1 := hd.trans (by rw [ps]; rfl)
    have hg : gs.length = 14 := hg
    match ds, hd, gs, hg with
    | [_], _, [_, _, _, _, _, _, _, _, _, _, _, _, _, _], _ => rfl
  · cases hS

set_option maxRecDepth 100000 in
theorem lifted (os : Os) (started : os.Started) (H : Type) (enc : TypeId × Value → H) (F : Stop.Interp) :
    ReturnsInHanded {} Tryz.checked os 11 .any ((Rows.OpenSpec.upto Rows.fnBuildShortSpec).preRow enc PP Tryz.f11 Rows.fnBuildShortUptoRow.domain false Rows.fnBuildShortUptoRow.laid) (((Rows.OpenSpec.upto Rows.fnBuildShortSpec).at F).post enc PP Tryz.f11 false true false false) := by
  obtain ⟨x, hx, hk⟩ := any_some (fits os H enc)
  refine returnsInHanded_of_row (C := Tryz.checked) (s := Rows.OpenSpec.upto Rows.fnBuildShortSpec) own started (by kernel_rfl) Tryz.func11
    (witness_law (f := 11) (fn := Tryz.f11) (laid := la) in0 (t1 os) (t2 os) (t3 os) (OpenSpec.preRow_of_cond 16 hx rfl (fun k hk' => by cases hk'; exact hk) (sized os H enc) (met os))) ?_
  intro W base args ds gs before hval hW _ hc _ hl0 _ _
  exact contract H enc W base args ds gs before hval hW (hc _ rfl) hl0
theorem said : Rows.FnBuildShortUptoSaid :=
  OpenClaim.holds_of_cond 11 Tryz.f11 rfl rfl rfl rfl rfl rfl rfl ⟨rfl, rfl, rfl, rfl, rfl⟩ rfl rfl rfl rfl rfl named Tryz.func11 closed inst wrap
    (fun os started H enc _ F => by rw [OpenClaim.pre_eq_preRow]; exact lifted os started H enc F)
theorem plain (f : FuncId) (fn : Func) (hf : Tryz.pinned.checked.prog.funcNamed "loop.example/pub-messagesmixed/laws.FnBuildShort" = some f) (hfn : Tryz.pinned.checked.prog.funcs[f]? = some fn) :
    true = Tryz.pinned.checked.prog.looks [] ∧ ∀ (j : Nat) t, fn.params[j]? = some t → Tryz.pinned.checked.prog.wantsStandIn t = false := by
  obtain rfl : f = 11 := Option.some.inj (named2.symm.trans hf) |>.symm
  obtain rfl : fn = Tryz.f11 := (Option.some.inj (Tryz.func11.symm.trans hfn)).symm
  refine ⟨looks, fun j t ht => ?_⟩
  rw [ps] at ht
  have hm : t ∈ [28] := by simpa using Array.mem_of_getElem? ht
  exact (show PP.wantsStandIn t = false by simpa using List.all_eq_true.1 wants t hm)
theorem card : Rows.FnBuildShortUptoCardSaid :=
  Claim7.holds_tied_plain_at .later [] _ _ _ _ said (fun _ h => by cases h) byText (fun _ h => by cases h) fnBuildShortUpto_row_tie rfl ⟨rfl, rfl⟩ mainIs rfl plain goes
end Go.Proofs.YtifnodoffgfpbaaGreatDoor.fnBuildShort
