/- The law on parsing: its second form holds, for every input whose bulk is at most 1048576. -/
import Derived.Test.YtifnodoffgfpbaaGreatDoorPa7
import Derived.Test.YtifnodoffgfpbaaGreatDoorPaW
import Derived.Test.YtifnodoffgfpbaaGreatDoorPaC
namespace Go.Proofs.YtifnodoffgfpbaaGreatDoor.fnParse
open Go Go.ChangeShapes Go.WideShapes Go.RowKit

theorem own : ownKnob PP.godebug = none := by kernel_rfl
theorem ps : Tryz.f8.params = #[28, 4] := by kernel_rfl
theorem rs : Tryz.f8.resultTypes = #[4] := by kernel_rfl
theorem pB : parsB PP Tryz.f8.params.toList = true := by kernel_rfl
theorem vB : varsB PP Rows.fnParseSpec.vars = true := by kernel_rfl
def sf (P : Program) (t : TypeId) : Bool := match P.underlying t with
  | some (.struct _) => true
  | _ => false
theorem sf28 : sf PP 28 = true := by kernel_rfl

theorem any_some {α : Type} {o : Option α} {p : α → Bool} (h : o.any p = true) : ∃ x, o = some x ∧ p x = true := by
  cases o with
  | none => cases h
  | some x => exact ⟨x, rfl, h⟩
theorem one_part {a c n : Nat} (h : a + 0 + c ≤ n) : a ≤ n := by omega
theorem two_parts {a b c n : Nat} (h : a + (b + 0) + c ≤ n) : a ≤ n ∧ b ≤ n := by omega
theorem succ_part {a b n : Nat} (h : a + 1 ≤ b) (k : b ≤ n) : a ≤ n := by omega

set_option maxRecDepth 100000 in
theorem globs {W : World} (h : laidMetH PP Rows.fnParseUptoRow.laid W) : GE W ∧ 21 ≤ W.heap.size ∧ ∃ (Tz : TypeId) (xz : Option Addr), W.rangeAt 0 0 [.iface Tz (.pointer xz)] ∧ CmpT Tz := by
  rw [MakeChecks.laidMetH_plain _ _ _ (by kernel_rfl)] at h
  obtain ⟨v0, hc0, he0⟩ := err_of (g := 0) h (List.mem_of_getElem? (i := 1) rfl) (by kernel_rfl) (by kernel_rfl)
  obtain ⟨v5, hc5, he5⟩ := err_of (g := 5) h (List.mem_of_getElem? (i := 0) rfl) (by kernel_rfl) (by kernel_rfl)
  obtain ⟨v7, hc7, he7⟩ := err_of (g := 7) h (List.mem_of_getElem? (i := 2) rfl) (by kernel_rfl) (by kernel_rfl)
  obtain ⟨v8, hc8, he8⟩ := err_of (g := 8) h (List.mem_of_getElem? (i := 3) rfl) (by kernel_rfl) (by kernel_rfl)
  obtain ⟨v9, hc9, he9⟩ := err_of (g := 9) h (List.mem_of_getElem? (i := 7) rfl) (by kernel_rfl) (by kernel_rfl)
  obtain ⟨v10, hc10, he10⟩ := err_of (g := 10) h (List.mem_of_getElem? (i := 9) rfl) (by kernel_rfl) (by kernel_rfl)
  obtain ⟨v11, hc11, he11⟩ := err_of (g := 11) h (List.mem_of_getElem? (i := 6) rfl) (by kernel_rfl) (by kernel_rfl)
  obtain ⟨v12, hc12, he12⟩ := err_of (g := 12) h (List.mem_of_getElem? (i := 5) rfl) (by kernel_rfl) (by kernel_rfl)
  obtain ⟨v13, hc13, he13⟩ := err_of (g := 13) h (List.mem_of_getElem? (i := 4) rfl) (by kernel_rfl) (by kernel_rfl)
  obtain ⟨v15, hc15, he15⟩ := err_of (g := 15) h (List.mem_of_getElem? (i := 8) rfl) (by kernel_rfl) (by kernel_rfl)
  obtain ⟨v20, hc20, he20⟩ := err_of (g := 20) h (List.mem_of_getElem? (i := 10) rfl) (by kernel_rfl) (by kernel_rfl)
  obtain ⟨u, e, x, hc, hu, hp⟩ := err_ofP if89 h (List.mem_of_getElem? (i := 1) rfl) (g := 0) (by kernel_rfl) (by kernel_rfl)
  obtain rfl := row332 u hu
  refine ⟨fun k hk hg => ?_, ?_, 332, x, rng_one hc, cmpT_332⟩
  · have hk : k = 0 ∨ k = 5 ∨ k = 7 ∨ k = 8 ∨ k = 9 ∨ k = 10 ∨ k = 11 ∨ k = 12 ∨ k = 13 ∨ k = 15 ∨ k = 20 := by omega
    rcases hk with rfl | rfl | rfl | rfl | rfl | rfl | rfl | rfl | rfl | rfl | rfl
    · exact ⟨_, hc0, he0⟩
    · exact ⟨_, hc5, he5⟩
    · exact ⟨_, hc7, he7⟩
    · exact ⟨_, hc8, he8⟩
    · exact ⟨_, hc9, he9⟩
    · exact ⟨_, hc10, he10⟩
    · exact ⟨_, hc11, he11⟩
    · exact ⟨_, hc12, he12⟩
    · exact ⟨_, hc13, he13⟩
    · exact ⟨_, hc15, he15⟩
    · exact ⟨_, hc20, he20⟩
  · have := cell_lt hc20; omega

set_option maxRecDepth 100000 in
theorem contract (H : Type) (enc : TypeId × Value → H) (W : World) (base : Nat) (args : Array Value) (ds gs : List (DataW H)) (before : List MemPlace)
    (hval : ∀ (j : Nat) t v, Tryz.f8.params[j]? = some t → args[j]? = some v → Value.okWide PP W .any base t v)
    (hW : DataW.Whole enc PP Tryz.f8.params.toList Rows.fnParseSpec.vars false W args.toList ds gs before) (hk : Rows.uptoSmall H (ds ++ gs) = true) (hlaid : laidMetH PP Rows.fnParseUptoRow.laid W) :
    Calls PP 8 args W fun e W' => ∃ v, e = .returned v ∧ Rows.fnParseSpec.post enc PP Tryz.f8 false true false false W args v W' := by
  have hW' := hW
  obtain ⟨p, q, hA, hV, rfl, hfz, hnd⟩ := hW
  have hbd := bulks.bound hk
  rw [bulks.append] at hbd
  rw [ps] at hA hval
  obtain ⟨v0, vs0, d0, ds0, p0, q0, hargs, rfl, rfl, h0, r0⟩ := trodAll_cons hA
  obtain ⟨v1, vs1, d1, ds1, p1, q1, rfl, rfl, rfl, h1, r1⟩ := trodAll_cons r0
  obtain ⟨rfl, rfl, rfl⟩ := trodAll_nil r1
  obtain rfl : args = #[v0, v1] := by cases args; simp_all
  simp only [Rows.uptoBulkAll] at hbd
  have hS := sf28
  unfold sf at hS
  split at hS
  · rename_i fs hfs
    obtain ⟨n0, h0⟩ := h0
    obtain ⟨n1, h1⟩ := h1
    obtain ⟨cs0, rfl, _⟩ := okWide_struct hfs (hval 0 28 v0 rfl rfl)
    have hb0 : bulk d0 ≤ 1048576 := (two_parts hbd).1
    obtain ⟨sh, rfl⟩ := okWide_bool un4 (hval 1 4 v1 rfl rfl)
    obtain ⟨m, va, v2, v3, v4, hcs, ha, y1, y2, y3, hm⟩ := rd_msg (W := W) (y := (d0, p0)) h0 hb0
    have e0 : Value.agg cs0 = ag (msgSegs m.head va v2 v3 v4) := by
      have hcs' : cs0.toList = (msgSegs m.head va v2 v3 v4).flatten := hcs
      show Value.agg cs0 = .agg (msgSegs m.head va v2 v3 v4).flatten.toArray
      rw [← hcs']
    rw [e0]
    obtain ⟨hG, hsz, Tz, xz, hg0, hCT⟩ := globs hlaid
    refine Calls.mono (c8 (sh := sh) (fun k hk => hk) ha y1 y2 y3 hm hG hsz hg0 hCT) fun e W' ⟨v, he, hv1, hF⟩ => ?_
    subst hv1
    refine ⟨_, he, ?_⟩
    rw [← e0]
    refine post_law pB vB rs (fun ds gs hd hg => ?_) hW' hF
    have hd : ds.length = 2 := hd.trans (by rw [ps]; rfl)
    have hg : gs.length = 12 := hg
    match ds, hd, gs, hg with
    | [_, _], _, [_, _, _, _, _, _, _, _, _, _, _, _], _ => rfl
  · cases hS

set_option maxRecDepth 100000 in
theorem lifted (os : Os) (started : os.Started) (H : Type) (enc : TypeId × Value → H) (F : Stop.Interp) :
    ReturnsInHanded {} Tryz.checked os 8 .any ((Rows.OpenSpec.upto Rows.fnParseSpec).preRow enc PP Tryz.f8 Rows.fnParseUptoRow.domain false Rows.fnParseUptoRow.laid) (((Rows.OpenSpec.upto Rows.fnParseSpec).at F).post enc PP Tryz.f8 false true false false) := by
  obtain ⟨x, hx, hk⟩ := any_some (fits os H enc)
  refine returnsInHanded_of_row (C := Tryz.checked) (s := Rows.OpenSpec.upto Rows.fnParseSpec) own started (by kernel_rfl) Tryz.func8
    (witness_at (f := 8) (fn := Tryz.f8) (laid := la) (wmOf la os) (wmOf_os la os) in0 (t1 os) (t2 os) (t3 os) (OpenSpec.preRow_of_cond 16 hx rfl (fun k hk' => by cases hk'; exact hk) (sized os H enc) (met os))) ?_
  intro W base args ds gs before hval hW _ hc _ hl0 _ _
  exact contract H enc W base args ds gs before hval hW (hc _ rfl) hl0
theorem said : Rows.FnParseUptoSaid :=
  OpenClaim.holds_of_cond 8 Tryz.f8 rfl rfl rfl rfl rfl rfl rfl ⟨rfl, rfl, rfl, rfl, rfl⟩ rfl rfl rfl rfl rfl named Tryz.func8 closed inst wrap
    (fun os started H enc _ F => by rw [OpenClaim.pre_eq_preRow]; exact lifted os started H enc F)
theorem plain (f : FuncId) (fn : Func) (hf : Tryz.pinned.checked.prog.funcNamed "loop.example/pub-messagesmixed/laws.FnParse" = some f) (hfn : Tryz.pinned.checked.prog.funcs[f]? = some fn) :
    true = Tryz.pinned.checked.prog.looks [] ∧ ∀ (j : Nat) t, fn.params[j]? = some t → Tryz.pinned.checked.prog.wantsStandIn t = false := by
  obtain rfl : f = 8 := Option.some.inj (named2.symm.trans hf) |>.symm
  obtain rfl : fn = Tryz.f8 := (Option.some.inj (Tryz.func8.symm.trans hfn)).symm
  refine ⟨looks, fun j t ht => ?_⟩
  rw [ps] at ht
  have hm : t ∈ [28, 4] := by simpa using Array.mem_of_getElem? ht
  exact (show PP.wantsStandIn t = false by simpa using List.all_eq_true.1 wants t hm)
theorem card : Rows.FnParseUptoCardSaid :=
  Claim7.holds_tied_plain_at .later [] _ _ _ _ said (fun _ h => by cases h) byText (fun _ h => by cases h) fnParseUpto_row_tie rfl ⟨rfl, rfl⟩ mainIs rfl plain goes
end Go.Proofs.YtifnodoffgfpbaaGreatDoor.fnParse
