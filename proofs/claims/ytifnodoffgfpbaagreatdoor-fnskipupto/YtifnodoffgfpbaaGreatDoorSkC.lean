/- The law on skipping: the closed facts of its row. -/
import Derived.Test.YtifnodoffgfpbaaGreatDoorSk1
namespace Go.Proofs.YtifnodoffgfpbaaGreatDoor.fnSkip
open Go Go.ChangeShapes Go.WideShapes Go.RowKit
abbrev row : OpenClaim := Rows.fnSkipUptoRow
theorem named : Tryz.pinned.checked.prog.funcNamed row.func = some 9 := by kernel_rfl
theorem inst : Tryz.f9.isInstance Tryz.pinned.checked.prog row.origin row.targs := of_decide_eq_true (by kernel_rfl)
theorem wrap : Tryz.f9.isWrapper Tryz.pinned.checked.prog row.wrapper row.mainSum := by unfold Func.isWrapper; first | (rw [if_pos (by decide +kernel)]; kernel_rfl) | (rw [if_neg (by decide +kernel)]; exact ⟨rfl, rfl⟩)
set_option maxHeartbeats 40000000 in
set_option maxRecDepth 100000 in
theorem closed : joinedFacts Tryz.pinned.checked.prog 9 Tryz.f9 (Rows.OpenSpec.upto Rows.fnSkipSpec).bare row = true := by
  unfold joinedFacts
  simp only [Bool.and_eq_true]
  repeat' apply And.intro
  all_goals as_aux_lemma => kernel_rfl
theorem named2 : PP.funcNamed "loop.example/pub-messagesmixed/laws.FnSkip" = some 9 := by kernel_rfl
theorem looks : true = Tryz.pinned.checked.prog.looks [] := by kernel_rfl
theorem wants : ([28, 4].all fun u => !PP.wantsStandIn u) = true := by kernel_rfl
theorem byText : row.wfByText (Rows.OpenSpec.upto Rows.fnSkipSpec) = true := by kernel_rfl
theorem mainIs : Tryz.pinned.checked.prog.mainIs = some ((true, "f4c12fb374c96989620c8a0f2f95470248e5fabdce6a431cd7c09c5926a6dba5").1, (true, "f4c12fb374c96989620c8a0f2f95470248e5fabdce6a431cd7c09c5926a6dba5").2.toList) := by kernel_rfl
theorem goes : false = row.goesBy Tryz.pinned.checked.prog := by kernel_rfl
end Go.Proofs.YtifnodoffgfpbaaGreatDoor.fnSkip
