/-
 Calls of the program reckoned: the numbers of the curve read from their texts.
-/
import Derived.Test.YtajgaijilkfjnaaGreatDoorM1
import Derived.Test.YtajgaijilkfjnaaGreatDoorX3
set_option linter.unusedVariables false
set_option linter.unusedSimpArgs false
namespace Go.Eng
open Go Go.RowKit Go.Proofs
noncomputable section
set_option maxRecDepth 1000000
def evS (H : HK) (d f : Nat) (vs : List V) (M : List Reg) : Option (V × List Reg) :=
 match fnT.get f with
 | some fn => match fn.body with
   | some c => evF (cxD H d) 200 fn c vs M
   | none => none
 | none => none
def memoS (f0 : FuncId) (vs0 : List V) (M0 : List Reg) (out : V × List Reg) : HK := memoX [(0, 0), (1, 1), (4, 2), (2, 3)] 5 f0 vs0 M0 out
theorem memoS_sound {H : HK} (hH : H.Sound base) (d f0 : Nat) {vs0 : List V} {M0 : List Reg} {out : V × List Reg} (h : evS H d f0 vs0 M0 = some out) : (memoS f0 vs0 M0 out).Sound base := by
 obtain ⟨e1, e2, e3⟩ := cxD_e H d
 intro f vs M r hr
 unfold evS at h
 split at h
 ·rename_i fn hf
  split at h
  ·rename_i c hb
   have hs0 : inlOf (cxD H d) fnT.get 5 200 f vs M = some r := memoX_inlOf (cx := cxD H d) hf hb h (by rw [e3]; exact hr)
   have hs := inlOf_spec hs0
   obtain ⟨h1, h2, h3⟩ := inl_mem hs
   have hK : (cxD H d).K = base.K := by simp only [Cx.K, e2]
   refine ⟨h1, h2, h3, fun ρ φ w hpre => ?_⟩
   have := inl_call (cxD_good hH d) (by rw [e1]; exact follows) (fun f fn hf => by rw [e1]; exact fnOK hf) hs ρ φ w (PreE_congr e2.symm e3.symm hpre)
   rw [hK, e1] at this
   have conv : ∀ v w', (∃ φ', PostE (cxD H d) ρ φ w r φ' w' /\ v = r.res.den base.K ρ φ') -> ∃ φ', PostE base ρ φ w r φ' w' /\ v = r.res.den base.K ρ φ' :=
    fun v w' ⟨φ', k1, k2⟩ => ⟨φ', PostE_congr e2 k1, k2⟩
   rcases this with ⟨v, w', a1, a2⟩ | ⟨a1, a2⟩
   ·exact .inl ⟨v, w', a1, conv v w' a2⟩
   ·exact .inr ⟨a1, a2.mono fun e w' ⟨v, b1, b2⟩ => ⟨v, b1, conv v w' b2⟩⟩
  ·cases h
 ·cases h
end
end Go.Eng
namespace Go.Eng
open Go Go.RowKit Go.Proofs
noncomputable section
set_option maxRecDepth 1000000
def SetD_s : C := .val (.string ⟨⟨[49, 50, 49, 56, 49, 54, 52, 52, 48, 50, 51, 52, 50, 49, 55, 51, 48, 49, 50, 52, 56, 55, 52, 49, 53, 56, 53, 50, 49, 54, 57, 57, 53, 53, 53, 54, 56, 49, 55, 54, 52, 50, 52, 57, 49, 56, 48, 57, 52, 57, 57, 55, 52, 49, 49, 48, 54, 49, 55, 50, 57, 49, 48, 49, 55, 54, 48, 48, 54, 52, 57, 49, 50, 56, 56, 52, 54]⟩⟩)
def SetD_o : V × List Reg := (.tup [(false, [.ptr 5 0]), (false, [bi 1])], MG ++ [⟨[bi 0, .slc 7 0 4 6], true⟩, ⟨[SetD_s, i64c 77, i64c (-1)], true⟩, ⟨[ui 15021134838916180878, ui 259846869687453799, ui 4463193501051195900, ui 1940647855800813929, ui 0, ui 0], true⟩])
theorem SetD_t : evS H3 14 92 [.one (.ptr 5 0), .one SetD_s, .one (i64c 0)] (MG ++ [⟨[bi 0, .val (.slice none 0 0)], true⟩]) = some SetD_o := by kernel_rfl
def SetD_h : HK := memoS 92 [.one (.ptr 5 0), .one SetD_s, .one (i64c 0)] (MG ++ [⟨[bi 0, .val (.slice none 0 0)], true⟩]) SetD_o
theorem SetD_ok : SetD_h.Sound base := memoS_sound H3_sound 14 92 SetD_t
end
end Go.Eng
