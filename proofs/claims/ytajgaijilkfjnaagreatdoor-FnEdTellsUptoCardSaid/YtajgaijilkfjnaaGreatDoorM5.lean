/-
 Calls of the program reckoned: the numbers of the curve read from their texts.
-/
import Derived.Test.YtajgaijilkfjnaaGreatDoorM2
import Derived.Test.YtajgaijilkfjnaaGreatDoorM3
import Derived.Test.YtajgaijilkfjnaaGreatDoorM4
set_option linter.unusedVariables false
set_option linter.unusedSimpArgs false
namespace Go.Eng
open Go Go.RowKit Go.Proofs
noncomputable section
def H4 : HK := orH H3 (orH SetD_h (orH SetX_h SetY_h))
theorem H4_sound : H4.Sound base := orH_sound H3_sound (orH_sound SetD_ok (orH_sound SetX_ok SetY_ok))
end
end Go.Eng
namespace Go.Eng
open Go Go.RowKit Go.Proofs
noncomputable section
set_option maxRecDepth 1000000
def al53 : List (Nat × List C) := [(5, [ui 10902020042510041094, ui 17381486299841078119, ui 5900175412809962030, ui 2475245527108272378, ui 6646055716850200973, ui 5818136639301699252, ui 5153091176140793461, ui 3485775570252447889, ui 15919580070977470422, ui 7456804417079314474, ui 14039004331458920631, ui 1120025383951644967,
  bi 0, .slc 6 0 4 6, ui 14618782056632371323, ui 5992435339054521061, ui 12517119095181850726, ui 1044896724294057353, ui 13273025996719784362, ui 3458468709990918855, ui 13810176743432447525, ui 1007545854286121840]),
 (6, [ui 7454187305358665457, ui 12339561404529962506, ui 3965992003123030795, ui 435874783350371333, ui 0, ui 0])]
theorem m53 : inlOf (cxD H4 14) fnT.get 5 200 56 [] MG = some (leaves0 al53 (.one (.ptr 5 0))) := by kernel_rfl
def H5 : HK := orH H4 (memoH 56 MG (leaves0 al53 (.one (.ptr 5 0))))
theorem H5_sound : H5.Sound base := orH_sound H4_sound (memo_sound H4_sound 14 56 (by kernel_rfl) m53)
end
end Go.Eng
