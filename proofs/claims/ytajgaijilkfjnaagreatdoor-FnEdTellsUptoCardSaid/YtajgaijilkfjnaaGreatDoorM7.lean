/-
 Calls of the program reckoned: the numbers of the curve read from their texts.
-/
import Derived.Test.YtajgaijilkfjnaaGreatDoorM6
set_option linter.unusedVariables false
set_option linter.unusedSimpArgs false
namespace Go.Eng
open Go Go.RowKit Go.Proofs
noncomputable section
set_option maxRecDepth 1000000
def TxA_s : C := .val (.string ⟨⟨[50, 49, 56, 56, 56, 50, 52, 50, 56, 55, 49, 56, 51, 57, 50, 55, 53, 50, 50, 50, 50, 52, 54, 52, 48, 53, 55, 52, 53, 50, 53, 55, 50, 55, 53, 48, 56, 56, 53, 52, 56, 51, 54, 52, 52, 48, 48, 52, 49, 54, 48, 51, 52, 51, 52, 51, 54, 57, 56, 50, 48, 52, 49, 56, 54, 53, 55, 53, 56, 48, 56, 52, 57, 53, 54, 49, 54]⟩⟩)
def TxA_o : V × List Reg := (.one TxA_s, MC ++ [⟨[bi 0, .slc 8 0 4 8], true⟩, ⟨[ui 4891460686036598784, ui 2896914383306846353, ui 13281191951274694749, ui 3486998266802970665, ui 0, ui 0, ui 0, ui 0], true⟩])
theorem TxA_t : evS H5 14 37 [.one (.ptr 5 0)] MC = some TxA_o := by kernel_rfl
def TxA_h : HK := memoS 37 [.one (.ptr 5 0)] MC TxA_o
theorem TxA_ok : TxA_h.Sound base := memoS_sound H5_sound 14 37 TxA_t
end
end Go.Eng
