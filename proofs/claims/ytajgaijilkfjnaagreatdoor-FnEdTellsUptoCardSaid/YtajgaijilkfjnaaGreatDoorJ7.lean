/-
 FnEdTells: for every input of bulk at most 1048576 the law laws.FnEdTells returns true, its arguments read as before, and memory that was there is as it was; the condition: the listed package variables hold what the program lays (tied to its text by the card).
-/
import Derived.Test.YtajgaijilkfjnaaGreatDoorJ5
import Derived.Test.YtajgaijilkfjnaaGreatDoorJ6
set_option linter.unusedVariables false
set_option linter.unusedSimpArgs false
namespace Go.Proofs.YtajgaijilkfjnaaGreatDoor
open Go Go.ChangeShapes Go.WideShapes Go.ChangeAt Go.RowKit Go.Eng
set_option maxRecDepth 100000
theorem said_c1 : Tryz.pinned.checked.prog.funcNamed Rows.fnEdTellsUptoRow.func = some 3 := by kernel_rfl
theorem said_c3 : Tryz.f3.isInstance Tryz.pinned.checked.prog Rows.fnEdTellsUptoRow.origin Rows.fnEdTellsUptoRow.targs := of_decide_eq_true (by kernel_rfl)
theorem said_c4 : Tryz.f3.isWrapper Tryz.pinned.checked.prog Rows.fnEdTellsUptoRow.wrapper Rows.fnEdTellsUptoRow.mainSum := by unfold Func.isWrapper; first | (rw [if_pos (by decide +kernel)]; kernel_rfl) | (rw [if_neg (by decide +kernel)]; exact ⟨rfl, rfl⟩)
theorem fnEdTells_said : Rows.FnEdTellsUptoSaid :=
 OpenClaim.holds_of_cond (p := Tryz.pinned) (s := Rows.OpenSpec.upto Rows.fnEdTellsSpec) (c := Rows.fnEdTellsUptoRow) 3 Tryz.f3 rfl rfl rfl rfl rfl rfl rfl ⟨rfl, rfl, rfl, rfl, rfl⟩ rfl rfl rfl rfl rfl said_c1 Tryz.func3 said_c2 said_c3 said_c4
  (fun os started H enc _ F => by rw [OpenClaim.pre_eq_preRow]; exact fnEdTells_lifted os started H enc F)
end Go.Proofs.YtajgaijilkfjnaaGreatDoor
namespace Go.Proofs.YtajgaijilkfjnaaGreatDoor
open Go Go.ChangeShapes Go.WideShapes Go.ChangeAt Go.RowKit Go.Eng
set_option maxRecDepth 100000
theorem fnEdTells_holds : Rows.FnEdTellsUptoCardSaid :=
 Claim7.holds_tied_plain_at .later [] _ _ _ _ fnEdTells_said (fun _ h => by cases h) (by kernel_rfl) (fun _ h => by cases h) fnEdTellsUpto_row_tie rfl ⟨rfl, rfl⟩ (by kernel_rfl) rfl
  (fun f fn hf hfn => by
   obtain rfl : f = 3 := Option.some.inj ((show Tryz.prog.funcNamed "pub-foxglove/laws.FnEdTells" = some 3 by kernel_rfl).symm.trans hf) |>.symm
   obtain rfl : fn = Tryz.f3 := (Option.some.inj (Tryz.func3.symm.trans hfn)).symm
   exact ⟨by kernel_rfl, fun j t ht => by
    rw [Tryz.params3] at ht
    have hm : t ∈ [5, 4, 24] := by simpa using Array.mem_of_getElem? ht
    have hall : ([5, 4, 24].all fun u => !Tryz.prog.wantsStandIn u) = true := by kernel_rfl
    exact (show Tryz.prog.wantsStandIn t = false by simpa using List.all_eq_true.1 hall t hm)⟩)
  (by kernel_rfl)
#print axioms fnEdTells_holds
end Go.Proofs.YtajgaijilkfjnaaGreatDoor
