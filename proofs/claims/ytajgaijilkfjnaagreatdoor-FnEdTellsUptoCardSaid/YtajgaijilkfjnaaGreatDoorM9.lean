/-
 Calls of the program reckoned: the numbers of the curve read from their texts.
-/
import Derived.Test.YtajgaijilkfjnaaGreatDoorM6
set_option linter.unusedVariables false
set_option linter.unusedSimpArgs false
namespace Go.Eng
open Go Go.RowKit Go.Proofs
noncomputable section
set_option maxRecDepth 1000000
def TxC_s : C := .val (.string ⟨⟨[56]⟩⟩)
def TxC_o : V × List Reg := (.one TxC_s, MC ++ [⟨[bi 0, .slc 8 0 1 8], true⟩, ⟨[ui 8, ui 0, ui 0, ui 0, ui 0, ui 0, ui 0, ui 0], true⟩])
theorem TxC_t : evS H5 14 37 [.one (.ptr 5 8)] MC = some TxC_o := by kernel_rfl
def TxC_h : HK := memoS 37 [.one (.ptr 5 8)] MC TxC_o
theorem TxC_ok : TxC_h.Sound base := memoS_sound H5_sound 14 37 TxC_t
end
end Go.Eng
namespace Go.Eng
open Go Go.RowKit Go.Proofs
noncomputable section
set_option maxRecDepth 1000000
def TxX_s : C := .val (.string ⟨⟨[57, 54, 55, 49, 55, 49, 55, 52, 55, 52, 48, 55, 48, 48, 56, 50, 49, 56, 51, 50, 49, 51, 49, 50, 48, 54, 48, 53, 49, 49, 55, 52, 48, 48, 50, 49, 57, 54, 49, 54, 51, 51, 55, 48, 49, 52, 51, 50, 56, 55, 52, 52, 57, 50, 56, 54, 52, 52, 57, 51, 51, 56, 53, 51, 49, 55, 54, 55, 56, 55, 49, 56, 57, 54, 54, 51]⟩⟩)
def TxX_o : V × List Reg := (.one TxX_s, MC ++ [⟨[bi 0, .slc 8 0 4 8], true⟩, ⟨[ui 17435995310946336671, ui 3998198777846604407, ui 9966104943668095308, ui 1540793487469944117, ui 0, ui 0, ui 0, ui 0], true⟩])
theorem TxX_t : evS H5 14 37 [.one (.ptr 5 14)] MC = some TxX_o := by kernel_rfl
def TxX_h : HK := memoS 37 [.one (.ptr 5 14)] MC TxX_o
theorem TxX_ok : TxX_h.Sound base := memoS_sound H5_sound 14 37 TxX_t
end
end Go.Eng
