/-
  Calls of the program reckoned: the base doubled; the two calls as contracts.
-/
import Derived.Test.YtgcdmdkemcgljaaGreatDoorN8
set_option linter.unusedVariables false
set_option linter.unusedSimpArgs false
namespace Go.Eng
open Go Go.RowKit Go.Proofs
noncomputable section
set_option maxRecDepth 1000000
/-- Memory with the base's texts. -/
def M44 : List Reg := MG ++ [⟨[TxX_s], true⟩, ⟨[TxY_s], true⟩]
def gE : List C := [ui 14618782056632371323, ui 5992435339054521061, ui 12517119095181850726, ui 1044896724294057353, ui 13273025996719784362, ui 3458468709990918855, ui 13810176743432447525, ui 1007545854286121840]
def o44 : V × List Reg := (.one (.ptr 8 0), M44 ++ [⟨[.slc 5 0 1 1, .slc 6 0 1 1], true⟩, ⟨gE, true⟩])
/-- edPoint of the base's texts. -/
theorem t44 : evS H8 16 44 [.agg [.slc 5 0 1 1, .slc 6 0 1 1]] M44 = some o44 := by kernel_rfl
def h44 : HK := memoS 44 [.agg [.slc 5 0 1 1, .slc 6 0 1 1]] M44 o44
theorem h44_ok : h44.Sound base := memoS_sound H8_sound 16 44 t44
end
end Go.Eng
