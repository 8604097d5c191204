/-
 Calls of the program reckoned: the numbers of the curve read from their texts.
-/
import Derived.Test.YtajgaijilkfjnaaGreatDoorM2
set_option linter.unusedVariables false
set_option linter.unusedSimpArgs false
namespace Go.Eng
open Go Go.RowKit Go.Proofs
noncomputable section
set_option maxRecDepth 1000000
def SetY_s : C := .val (.string ⟨⟨[49, 54, 57, 53, 48, 49, 53, 48, 55, 57, 56, 52, 54, 48, 54, 53, 55, 55, 49, 55, 57, 53, 56, 54, 50, 53, 53, 54, 55, 56, 50, 49, 56, 51, 52, 53, 53, 48, 51, 48, 49, 54, 54, 51, 49, 54, 49, 54, 50, 52, 55, 48, 55, 55, 56, 55, 50, 50, 50, 56, 49, 53, 57, 51, 54, 49, 56, 50, 54, 51, 56, 57, 54, 56, 50, 48, 51]⟩⟩)
def SetY_o : V × List Reg := (.tup [(false, [.ptr 5 0]), (false, [bi 1])], MG ++ [⟨[bi 0, .slc 7 0 4 6], true⟩, ⟨[SetY_s, i64c 77, i64c (-1)], true⟩, ⟨[ui 5421249259631377803, ui 18221569726161695607, ui 2690670003684637165, ui 2700314812950295113, ui 0, ui 0], true⟩])
theorem SetY_t : evS H3 14 92 [.one (.ptr 5 0), .one SetY_s, .one (i64c 0)] (MG ++ [⟨[bi 0, .val (.slice none 0 0)], true⟩]) = some SetY_o := by kernel_rfl
def SetY_h : HK := memoS 92 [.one (.ptr 5 0), .one SetY_s, .one (i64c 0)] (MG ++ [⟨[bi 0, .val (.slice none 0 0)], true⟩]) SetY_o
theorem SetY_ok : SetY_h.Sound base := memoS_sound H3_sound 14 92 SetY_t
end
end Go.Eng
