/-
 Calls of the program reckoned: the numbers of the curve read from their texts.
-/
import Derived.Test.YtajgaijilkfjnaaGreatDoorS3
set_option linter.unusedVariables false
set_option linter.unusedSimpArgs false
namespace Go.Eng
open Go Go.RowKit Go.Proofs
noncomputable section
set_option maxRecDepth 1000000
def ui (n : Nat) : C := .ch 7 (.n (.ofNat n)) 0
def bi (b : Nat) : C := .ch 8 (.n (.ofNat b)) 0
def MG : List Reg := [⟨[ui 1997599621687373223, ui 6052339484930628067, ui 10108755138030829701, ui 150537098327114917], false⟩, ⟨[], false⟩, ⟨[.ch 3 (.n 8) 0], false⟩, ⟨[.ifc 181 (.ptr 4 0)], false⟩, ⟨[.val (.string ⟨#[69, 79, 70]⟩)], false⟩]
def rdG : List (Nat × Nat × List C) := [(0, 0, [ui 1997599621687373223, ui 6052339484930628067, ui 10108755138030829701, ui 150537098327114917]), (1, 0, []), (2, 0, [.ch 3 (.n 8) 0]), (3, 0, [.ifc 181 (.ptr 4 0)]), (4, 0, [.val (.string ⟨#[69, 79, 70]⟩)])]
def djG : List (Nat × Nat × Bool) := [(0, 4, false), (1, 0, false), (2, 1, false), (3, 1, false), (4, 1, false)]
def leaves0 (al : List (Nat × List C)) (res : V) : R := { fn := none, kd := [], rds := rdG, wcs := [], al := al, res := res, dj := djG }
theorem memo_sound {H : HK} (hH : H.Sound base) (d f : Nat) {al : List (Nat × List C)} {res : V} (hmen : okMen MG.length (leaves0 al res) = true) (h : inlOf (cxD H d) fnT.get 5 200 f [] MG = some (leaves0 al res)) : (memoH f MG (leaves0 al res)).Sound base := by
 obtain ⟨e1, e2, e3⟩ := cxD_e H d
 have hs := inlOf_spec h
 obtain ⟨h1, h2, h3⟩ := inl_mem hs
 exact memoH_sound (cx := cxD H d) e2 e3 e1 rfl hmen ⟨h1, h2, h3, fun ρ φ w hpre => inl_call (cxD_good hH d) (by rw [e1]; exact follows) (fun f fn hf => by rw [e1]; exact fnOK hf) hs ρ φ w hpre⟩
def al56 : List (Nat × List C) := [(5, [bi 0, .sln 6 0 4 4]), (6, [ui 4891460686036598785, ui 2896914383306846353, ui 13281191951274694749, ui 3486998266802970665])]
theorem m56 : inlOf (cxD H2 12) fnT.get 5 200 68 [] MG = some (leaves0 al56 (.one (.ptr 5 0))) := by kernel_rfl
def H3 : HK := orH H2 (memoH 68 MG (leaves0 al56 (.one (.ptr 5 0))))
theorem H3_sound : H3.Sound base := orH_sound H2_sound (memo_sound H2_sound 12 68 (by kernel_rfl) m56)
end
end Go.Eng
