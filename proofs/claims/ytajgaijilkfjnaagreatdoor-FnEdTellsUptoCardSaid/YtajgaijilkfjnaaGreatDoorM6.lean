/-
 Calls of the program reckoned: the numbers of the curve read from their texts.
-/
import Derived.Test.YtajgaijilkfjnaaGreatDoorM5
set_option linter.unusedVariables false
set_option linter.unusedSimpArgs false
namespace Go.Eng
open Go Go.RowKit Go.Proofs
noncomputable section
set_option maxRecDepth 1000000
def MC : List Reg := MG ++ [⟨[ui 10902020042510041094, ui 17381486299841078119, ui 5900175412809962030, ui 2475245527108272378, ui 6646055716850200973, ui 5818136639301699252, ui 5153091176140793461, ui 3485775570252447889, ui 15919580070977470422, ui 7456804417079314474, ui 14039004331458920631, ui 1120025383951644967,
  bi 0, .slc 6 0 4 8, ui 14618782056632371323, ui 5992435339054521061, ui 12517119095181850726, ui 1044896724294057353, ui 13273025996719784362, ui 3458468709990918855, ui 13810176743432447525, ui 1007545854286121840], true⟩,
 ⟨[ui 7454187305358665457, ui 12339561404529962506, ui 3965992003123030795, ui 435874783350371333, ui 0, ui 0, ui 0, ui 0], true⟩]
def MP : List Reg := MG ++ [⟨[bi 0, .slc 6 0 4 8], true⟩, ⟨[ui 4891460686036598785, ui 2896914383306846353, ui 13281191951274694749, ui 3486998266802970665, ui 0, ui 0, ui 0, ui 0], true⟩]
end
end Go.Eng
namespace Go.Eng
open Go Go.RowKit Go.Proofs
noncomputable section
set_option maxRecDepth 1000000
def TxP_s : C := .val (.string ⟨⟨[50, 49, 56, 56, 56, 50, 52, 50, 56, 55, 49, 56, 51, 57, 50, 55, 53, 50, 50, 50, 50, 52, 54, 52, 48, 53, 55, 52, 53, 50, 53, 55, 50, 55, 53, 48, 56, 56, 53, 52, 56, 51, 54, 52, 52, 48, 48, 52, 49, 54, 48, 51, 52, 51, 52, 51, 54, 57, 56, 50, 48, 52, 49, 56, 54, 53, 55, 53, 56, 48, 56, 52, 57, 53, 54, 49, 55]⟩⟩)
def TxP_o : V × List Reg := (.one TxP_s, MP)
theorem TxP_t : evS H5 14 36 [.one (.ptr 5 0)] MP = some TxP_o := by kernel_rfl
def TxP_h : HK := memoS 36 [.one (.ptr 5 0)] MP TxP_o
theorem TxP_ok : TxP_h.Sound base := memoS_sound H5_sound 14 36 TxP_t
end
end Go.Eng
namespace Go.Eng
open Go Go.RowKit Go.Proofs
noncomputable section
set_option maxRecDepth 1000000
def TxQ_s : C := .val (.string ⟨⟨[50, 55, 51, 54, 48, 51, 48, 51, 53, 56, 57, 55, 57, 57, 48, 57, 52, 48, 50, 55, 56, 48, 56, 48, 48, 55, 49, 56, 49, 53, 55, 49, 53, 57, 51, 56, 54, 48, 55, 54, 56, 49, 51, 57, 55, 50, 49, 53, 56, 53, 54, 55, 50, 53, 57, 50, 48, 48, 50, 49, 53, 54, 54, 48, 57, 52, 56, 52, 52, 55, 51, 55, 51, 48, 52, 49]⟩⟩)
def TxQ_o : V × List Reg := (.one TxQ_s, MC)
theorem TxQ_t : evS H5 14 36 [.one (.ptr 5 12)] MC = some TxQ_o := by kernel_rfl
def TxQ_h : HK := memoS 36 [.one (.ptr 5 12)] MC TxQ_o
theorem TxQ_ok : TxQ_h.Sound base := memoS_sound H5_sound 14 36 TxQ_t
end
end Go.Eng
