/-
 Calls of the program reckoned: the inverse of one number, in stages.
-/
import Derived.Test.YtajgaijilkfjnaaGreatDoorM6
import Derived.Test.YtajgaijilkfjnaaGreatDoorM7
import Derived.Test.YtajgaijilkfjnaaGreatDoorM8
import Derived.Test.YtajgaijilkfjnaaGreatDoorM9
set_option linter.unusedVariables false
set_option linter.unusedSimpArgs false
namespace Go.Eng
open Go Go.RowKit Go.Proofs
noncomputable section
set_option maxRecDepth 1000000
def TxY_s : C := .val (.string ⟨⟨[49, 54, 57, 53, 48, 49, 53, 48, 55, 57, 56, 52, 54, 48, 54, 53, 55, 55, 49, 55, 57, 53, 56, 54, 50, 53, 53, 54, 55, 56, 50, 49, 56, 51, 52, 53, 53, 48, 51, 48, 49, 54, 54, 51, 49, 54, 49, 54, 50, 52, 55, 48, 55, 55, 56, 55, 50, 50, 50, 56, 49, 53, 57, 51, 54, 49, 56, 50, 54, 51, 56, 57, 54, 56, 50, 48, 51]⟩⟩)
def TxY_o : V × List Reg := (.one TxY_s, MC ++ [⟨[bi 0, .slc 8 0 4 8], true⟩, ⟨[ui 5421249259631377803, ui 18221569726161695607, ui 2690670003684637165, ui 2700314812950295113, ui 0, ui 0, ui 0, ui 0], true⟩])
theorem TxY_t : evS H5 14 37 [.one (.ptr 5 18)] MC = some TxY_o := by kernel_rfl
def TxY_h : HK := memoS 37 [.one (.ptr 5 18)] MC TxY_o
theorem TxY_ok : TxY_h.Sound base := memoS_sound H5_sound 14 37 TxY_t
end
end Go.Eng
namespace Go.Eng
open Go Go.RowKit Go.Proofs
noncomputable section
def H6 : HK := orH H5 (orH TxP_h (orH TxQ_h (orH TxA_h (orH TxD_h (orH TxC_h (orH TxX_h TxY_h))))))
theorem H6_sound : H6.Sound base := orH_sound H5_sound (orH_sound TxP_ok (orH_sound TxQ_ok (orH_sound TxA_ok (orH_sound TxD_ok (orH_sound TxC_ok (orH_sound TxX_ok TxY_ok))))))
end
end Go.Eng
