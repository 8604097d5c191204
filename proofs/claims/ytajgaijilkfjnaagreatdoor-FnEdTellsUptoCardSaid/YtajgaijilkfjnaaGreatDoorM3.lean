/-
 Calls of the program reckoned: the numbers of the curve read from their texts.
-/
import Derived.Test.YtajgaijilkfjnaaGreatDoorM2
set_option linter.unusedVariables false
set_option linter.unusedSimpArgs false
namespace Go.Eng
open Go Go.RowKit Go.Proofs
noncomputable section
set_option maxRecDepth 1000000
def SetX_s : C := .val (.string ⟨⟨[57, 54, 55, 49, 55, 49, 55, 52, 55, 52, 48, 55, 48, 48, 56, 50, 49, 56, 51, 50, 49, 51, 49, 50, 48, 54, 48, 53, 49, 49, 55, 52, 48, 48, 50, 49, 57, 54, 49, 54, 51, 51, 55, 48, 49, 52, 51, 50, 56, 55, 52, 52, 57, 50, 56, 54, 52, 52, 57, 51, 51, 56, 53, 51, 49, 55, 54, 55, 56, 55, 49, 56, 57, 54, 54, 51]⟩⟩)
def SetX_o : V × List Reg := (.tup [(false, [.ptr 5 0]), (false, [bi 1])], MG ++ [⟨[bi 0, .slc 7 0 4 6], true⟩, ⟨[SetX_s, i64c 76, i64c (-1)], true⟩, ⟨[ui 17435995310946336671, ui 3998198777846604407, ui 9966104943668095308, ui 1540793487469944117, ui 0, ui 0], true⟩])
theorem SetX_t : evS H3 14 92 [.one (.ptr 5 0), .one SetX_s, .one (i64c 0)] (MG ++ [⟨[bi 0, .val (.slice none 0 0)], true⟩]) = some SetX_o := by kernel_rfl
def SetX_h : HK := memoS 92 [.one (.ptr 5 0), .one SetX_s, .one (i64c 0)] (MG ++ [⟨[bi 0, .val (.slice none 0 0)], true⟩]) SetX_o
theorem SetX_ok : SetX_h.Sound base := memoS_sound H3_sound 14 92 SetX_t
end
end Go.Eng
