/-
 Calls of the program reckoned: the numbers of the curve read from their texts.
-/
import Derived.Test.YtajgaijilkfjnaaGreatDoorM6
set_option linter.unusedVariables false
set_option linter.unusedSimpArgs false
namespace Go.Eng
open Go Go.RowKit Go.Proofs
noncomputable section
set_option maxRecDepth 1000000
def TxD_s : C := .val (.string ⟨⟨[49, 50, 49, 56, 49, 54, 52, 52, 48, 50, 51, 52, 50, 49, 55, 51, 48, 49, 50, 52, 56, 55, 52, 49, 53, 56, 53, 50, 49, 54, 57, 57, 53, 53, 53, 54, 56, 49, 55, 54, 52, 50, 52, 57, 49, 56, 48, 57, 52, 57, 57, 55, 52, 49, 49, 48, 54, 49, 55, 50, 57, 49, 48, 49, 55, 54, 48, 48, 54, 52, 57, 49, 50, 56, 56, 52, 54]⟩⟩)
def TxD_o : V × List Reg := (.one TxD_s, MC ++ [⟨[bi 0, .slc 8 0 4 8], true⟩, ⟨[ui 15021134838916180878, ui 259846869687453799, ui 4463193501051195900, ui 1940647855800813929, ui 0, ui 0, ui 0, ui 0], true⟩])
theorem TxD_t : evS H5 14 37 [.one (.ptr 5 4)] MC = some TxD_o := by kernel_rfl
def TxD_h : HK := memoS 37 [.one (.ptr 5 4)] MC TxD_o
theorem TxD_ok : TxD_h.Sound base := memoS_sound H5_sound 14 37 TxD_t
end
end Go.Eng
