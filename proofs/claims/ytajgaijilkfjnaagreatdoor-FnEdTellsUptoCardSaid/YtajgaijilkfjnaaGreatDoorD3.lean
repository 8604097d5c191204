/-
 Calls of the program reckoned: the base doubled; the two calls as contracts.
-/
import Derived.Test.YtajgaijilkfjnaaGreatDoorN8
set_option linter.unusedVariables false
set_option linter.unusedSimpArgs false
namespace Go.Eng
open Go Go.RowKit Go.Proofs
noncomputable section
set_option maxRecDepth 1000000
def Dx_M : List Reg := MG ++ [⟨[ui 16162225517172706917, ui 2847844202145962276, ui 6025346380935421579, ui 1977947578151862271, ui 17248353580655137598, ui 6797699693157774833, ui 648989114912878063, ui 824539711472404528], true⟩]
def Dx_s : C := .val (.string ⟨⟨[54, 49, 56, 49, 53, 56, 57, 56, 52, 51, 56, 48, 53, 57, 51, 54, 49, 48, 50, 49, 54, 54, 55, 51, 51, 52, 51, 50, 54, 50, 53, 55, 48, 50, 57, 56, 51, 50, 52, 57, 57, 50, 54, 55, 57, 51, 49, 54, 52, 50, 52, 51, 55, 57, 52, 49, 55, 48, 49, 49, 57, 53, 53, 57, 50, 53, 55, 48, 52, 51, 49, 57, 49, 53, 49, 54]⟩⟩)
def Dx_o : V × List Reg := (.one Dx_s, Dx_M ++ [⟨[bi 0, .slc 7 0 4 8], true⟩, ⟨[ui 6417267682924775132, ui 15019528679573272788, ui 15892589370916259356, ui 984784077810575590, ui 0, ui 0, ui 0, ui 0], true⟩])
theorem Dx_t : evS H8 14 37 [.one (.ptr 5 0)] Dx_M = some Dx_o := by kernel_rfl
def Dx_h : HK := memoS 37 [.one (.ptr 5 0)] Dx_M Dx_o
theorem Dx_ok : Dx_h.Sound base := memoS_sound H8_sound 14 37 Dx_t
end
end Go.Eng
namespace Go.Eng
open Go Go.RowKit Go.Proofs
noncomputable section
set_option maxRecDepth 1000000
def Dy_M : List Reg := MG ++ [⟨[ui 16162225517172706917, ui 2847844202145962276, ui 6025346380935421579, ui 1977947578151862271, ui 17248353580655137598, ui 6797699693157774833, ui 648989114912878063, ui 824539711472404528], true⟩]
def Dy_s : C := .val (.string ⟨⟨[54, 51, 51, 50, 56, 49, 51, 55, 53, 57, 48, 53, 54, 50, 49, 54, 57, 55, 49, 56, 55, 51, 51, 48, 55, 54, 54, 49, 55, 52, 57, 55, 52, 56, 54, 51, 54, 56, 55, 48, 52, 57, 53, 50, 57, 50, 57, 49, 48, 56, 57, 48, 52, 56, 54, 53, 49, 57, 50, 57, 52, 53, 52, 54, 48, 56, 56, 49, 50, 54, 57, 55, 54, 56, 51]⟩⟩)
def Dy_o : V × List Reg := (.one Dy_s, Dy_M ++ [⟨[bi 0, .slc 7 0 4 8], true⟩, ⟨[ui 10238658051014748243, ui 7469380688648618776, ui 10060688278644465056, ui 100887543742607578, ui 0, ui 0, ui 0, ui 0], true⟩])
theorem Dy_t : evS H8 14 37 [.one (.ptr 5 4)] Dy_M = some Dy_o := by kernel_rfl
def Dy_h : HK := memoS 37 [.one (.ptr 5 4)] Dy_M Dy_o
theorem Dy_ok : Dy_h.Sound base := memoS_sound H8_sound 14 37 Dy_t
end
end Go.Eng
