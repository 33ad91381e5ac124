/- The law on packing: its second form holds, for every input whose bulk is at most 1048576. -/
import Derived.Test.YtifnodoffgfpbaaGreatDoorPk6
import Derived.Test.YtifnodoffgfpbaaGreatDoorPkW
import Derived.Test.YtifnodoffgfpbaaGreatDoorPkC
namespace Go.Proofs.YtifnodoffgfpbaaGreatDoor.fnPack
open Go Go.ChangeShapes Go.WideShapes Go.RowKit

theorem own : ownKnob PP.godebug = none := by kernel_rfl
theorem ps : Tryz.f3.params = #[28] := by kernel_rfl
theorem rs : Tryz.f3.resultTypes = #[4] := by kernel_rfl
theorem pB : parsB PP Tryz.f3.params.toList = true := by kernel_rfl
theorem vB : varsB PP Rows.fnPackSpec.vars = true := by kernel_rfl
def sf (P : Program) (t : TypeId) : Bool := match P.underlying t with
  | some (.struct _) => true
  | _ => false
theorem sf28 : sf PP 28 = true := by kernel_rfl

theorem any_some {α : Type} {o : Option α} {p : α → Bool} (h : o.any p = true) : ∃ x, o = some x ∧ p x = true := by
  cases o with
  | none => cases h
  | some x => exact ⟨x, rfl, h⟩
theorem one_part {a c n : Nat} (h : a + 0 + c ≤ n) : a ≤ n := by omega
theorem two_parts {a b c n : Nat} (h : a + (b + 0) + c ≤ n) : a ≤ n ∧ b ≤ n := by omega
theorem succ_part {a b n : Nat} (h : a + 1 ≤ b) (k : b ≤ n) : a ≤ n := by omega

set_option maxRecDepth 100000 in
theorem contract (H : Type) (enc : TypeId × Value → H) (W : World) (base : Nat) (args : Array Value) (ds gs : List (DataW H)) (before : List MemPlace)
    (hval : ∀ (j : Nat) t v, Tryz.f3.params[j]? = some t → args[j]? = some v → Value.okWide PP W .any base t v)
    (hW : DataW.Whole enc PP Tryz.f3.params.toList Rows.fnPackSpec.vars false W args.toList ds gs before) (hk : Rows.uptoSmall H (ds ++ gs) = true) :
    Calls PP 3 args W fun e W' => ∃ v, e = .returned v ∧ Rows.fnPackSpec.post enc PP Tryz.f3 false true false false W args v W' := by
  have hW' := hW
  obtain ⟨p, q, hA, hV, rfl, hfz, hnd⟩ := hW
  have hbd := bulks.bound hk
  rw [bulks.append] at hbd
  rw [ps] at hA hval
  obtain ⟨v0, vs0, d0, ds0, p0, q0, hargs, rfl, rfl, h0, r0⟩ := trodAll_cons hA
  obtain ⟨rfl, rfl, rfl⟩ := trodAll_nil r0
  obtain rfl : args = #[v0] := by cases args; simp_all
  simp only [Rows.uptoBulkAll] at hbd
  have hS := sf28
  unfold sf at hS
  split at hS
  · rename_i fs hfs
    obtain ⟨n0, h0⟩ := h0
    obtain ⟨cs0, rfl, _⟩ := okWide_struct hfs (hval 0 28 v0 rfl rfl)
    have hb0 : bulk d0 ≤ 1048576 := one_part hbd
    obtain ⟨m, va, v2, v3, v4, hcs, ha, y1, y2, y3, hm⟩ := rd_msg (W := W) (y := (d0, p0)) h0 hb0
    have e0 : Value.agg cs0 = ag (msgSegs m.head va v2 v3 v4) := by
      have hcs' : cs0.toList = (msgSegs m.head va v2 v3 v4).flatten := hcs
      show Value.agg cs0 = .agg (msgSegs m.head va v2 v3 v4).flatten.toArray
      rw [← hcs']
    rw [e0]
    refine Calls.mono (c3 (fun k hk => hk) ha y1 y2 y3 hm) fun e W' ⟨v, he, hv1, hF⟩ => ?_
    subst hv1
    refine ⟨_, he, ?_⟩
    rw [← e0]
    refine post_law pB vB rs (fun ds gs hd hg => ?_) hW' hF
    have hd : ds.length = 1 := hd.trans (by rw [ps]; rfl)
    have hg : gs.length = 10 := hg
    match ds, hd, gs, hg with
    | [_], _, [_, _, _, _, _, _, _, _, _, _], _ => rfl
  · cases hS

set_option maxRecDepth 100000 in
theorem lifted (os : Os) (started : os.Started) (H : Type) (enc : TypeId × Value → H) (F : Stop.Interp) :
    ReturnsInHanded {} Tryz.checked os 3 .any ((Rows.OpenSpec.upto Rows.fnPackSpec).preRow enc PP Tryz.f3 Rows.fnPackUptoRow.domain false Rows.fnPackUptoRow.laid) (((Rows.OpenSpec.upto Rows.fnPackSpec).at F).post enc PP Tryz.f3 false true false false) := by
  obtain ⟨x, hx, hk⟩ := any_some (fits os H enc)
  refine returnsInHanded_of_row (C := Tryz.checked) (s := Rows.OpenSpec.upto Rows.fnPackSpec) own started (by kernel_rfl) Tryz.func3
    (witness_law (f := 3) (fn := Tryz.f3) (laid := la) in0 (t1 os) (t2 os) (t3 os) (OpenSpec.preRow_of_cond 16 hx rfl (fun k hk' => by cases hk'; exact hk) (sized os H enc) (met os))) ?_
  intro W base args ds gs before hval hW _ hc _ _ _ _
  exact contract H enc W base args ds gs before hval hW (hc _ rfl)
theorem said : Rows.FnPackUptoSaid :=
  OpenClaim.holds_of_cond 3 Tryz.f3 rfl rfl rfl rfl rfl rfl rfl ⟨rfl, rfl, rfl, rfl, rfl⟩ rfl rfl rfl rfl rfl named Tryz.func3 closed inst wrap
    (fun os started H enc _ F => by rw [OpenClaim.pre_eq_preRow]; exact lifted os started H enc F)
theorem plain (f : FuncId) (fn : Func) (hf : Tryz.pinned.checked.prog.funcNamed "loop.example/pub-messagesmixed/laws.FnPack" = some f) (hfn : Tryz.pinned.checked.prog.funcs[f]? = some fn) :
    true = Tryz.pinned.checked.prog.looks [] ∧ ∀ (j : Nat) t, fn.params[j]? = some t → Tryz.pinned.checked.prog.wantsStandIn t = false := by
  obtain rfl : f = 3 := Option.some.inj (named2.symm.trans hf) |>.symm
  obtain rfl : fn = Tryz.f3 := (Option.some.inj (Tryz.func3.symm.trans hfn)).symm
  refine ⟨looks, fun j t ht => ?_⟩
  rw [ps] at ht
  have hm : t ∈ [28] := by simpa using Array.mem_of_getElem? ht
  exact (show PP.wantsStandIn t = false by simpa using List.all_eq_true.1 wants t hm)
theorem card : Rows.FnPackUptoCardSaid :=
  Claim7.holds_tied_plain_at .later [] _ _ _ _ said (fun _ h => by cases h) byText (fun _ h => by cases h) fnPackUpto_row_tie rfl ⟨rfl, rfl⟩ mainIs rfl plain goes
end Go.Proofs.YtifnodoffgfpbaaGreatDoor.fnPack
