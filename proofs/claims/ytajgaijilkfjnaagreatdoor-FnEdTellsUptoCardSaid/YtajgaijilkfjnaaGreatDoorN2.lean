/-
 Calls of the program reckoned: the inverse of one number, in stages.
-/
import Derived.Test.YtajgaijilkfjnaaGreatDoorM2
set_option linter.unusedVariables false
set_option linter.unusedSimpArgs false
namespace Go.Eng
open Go Go.RowKit Go.Proofs
noncomputable section
set_option maxRecDepth 1000000
def SeX_s : C := .val (.string ⟨⟨[57, 54, 55, 49, 55, 49, 55, 52, 55, 52, 48, 55, 48, 48, 56, 50, 49, 56, 51, 50, 49, 51, 49, 50, 48, 54, 48, 53, 49, 49, 55, 52, 48, 48, 50, 49, 57, 54, 49, 54, 51, 51, 55, 48, 49, 52, 51, 50, 56, 55, 52, 52, 57, 50, 56, 54, 52, 52, 57, 51, 51, 56, 53, 51, 49, 55, 54, 55, 56, 55, 49, 56, 57, 54, 54, 51]⟩⟩)
def SeX_o : V × List Reg := (.tup [(false, [.ptr 5 0]), (false, [bi 1])], MG ++ [⟨[bi 0, .slc 7 0 4 6], true⟩, ⟨[SeX_s, i64c 76, i64c (-1)], true⟩, ⟨[ui 17435995310946336671, ui 3998198777846604407, ui 9966104943668095308, ui 1540793487469944117, ui 0, ui 0], true⟩])
theorem SeX_t : evS H3 14 92 [.one (.ptr 5 0), .one SeX_s, .one (i64c 10)] (MG ++ [⟨[bi 0, .val (.slice none 0 0)], true⟩]) = some SeX_o := by kernel_rfl
def SeX_h : HK := memoS 92 [.one (.ptr 5 0), .one SeX_s, .one (i64c 10)] (MG ++ [⟨[bi 0, .val (.slice none 0 0)], true⟩]) SeX_o
theorem SeX_ok : SeX_h.Sound base := memoS_sound H3_sound 14 92 SeX_t
end
end Go.Eng
namespace Go.Eng
open Go Go.RowKit Go.Proofs
noncomputable section
set_option maxRecDepth 1000000
def SeY_s : C := .val (.string ⟨⟨[49, 54, 57, 53, 48, 49, 53, 48, 55, 57, 56, 52, 54, 48, 54, 53, 55, 55, 49, 55, 57, 53, 56, 54, 50, 53, 53, 54, 55, 56, 50, 49, 56, 51, 52, 53, 53, 48, 51, 48, 49, 54, 54, 51, 49, 54, 49, 54, 50, 52, 55, 48, 55, 55, 56, 55, 50, 50, 50, 56, 49, 53, 57, 51, 54, 49, 56, 50, 54, 51, 56, 57, 54, 56, 50, 48, 51]⟩⟩)
def SeY_o : V × List Reg := (.tup [(false, [.ptr 5 0]), (false, [bi 1])], MG ++ [⟨[bi 0, .slc 7 0 4 6], true⟩, ⟨[SeY_s, i64c 77, i64c (-1)], true⟩, ⟨[ui 5421249259631377803, ui 18221569726161695607, ui 2690670003684637165, ui 2700314812950295113, ui 0, ui 0], true⟩])
theorem SeY_t : evS H3 14 92 [.one (.ptr 5 0), .one SeY_s, .one (i64c 10)] (MG ++ [⟨[bi 0, .val (.slice none 0 0)], true⟩]) = some SeY_o := by kernel_rfl
def SeY_h : HK := memoS 92 [.one (.ptr 5 0), .one SeY_s, .one (i64c 10)] (MG ++ [⟨[bi 0, .val (.slice none 0 0)], true⟩]) SeY_o
theorem SeY_ok : SeY_h.Sound base := memoS_sound H3_sound 14 92 SeY_t
end
end Go.Eng
