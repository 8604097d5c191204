/-
 Calls of the program reckoned: the inverse of one number, in stages.
-/
import Derived.Test.YtajgaijilkfjnaaGreatDoorN4
import Derived.Test.YtajgaijilkfjnaaGreatDoorN5
import Derived.Test.YtajgaijilkfjnaaGreatDoorN6
import Derived.Test.YtajgaijilkfjnaaGreatDoorN7
set_option linter.unusedVariables false
set_option linter.unusedSimpArgs false
namespace Go.Eng
open Go Go.RowKit Go.Proofs
noncomputable section
set_option maxRecDepth 1000000
def resT (cx : Cx) (fn : Func) (t : T) : Option (V × List Reg) := match t with
 | .leaf .n s => (resV cx s.m fn s.t).map fun v => (v, s.m)
 | .leaf .r s => (resV cx s.m fn s.t).map fun v => (v, s.m)
 | _ => none
theorem evF_of {cx : Cx} {fuel nt : Nat} {fn : Func} {c : Code} {vs : List V} {M : List Reg} {t : T} {o : V × List Reg} (hnt : fn.ntmps = nt) (hn : Nat.ble (lenN vs) nt = true) (h : evC cx nt fuel c ⟨⟨argTr vs 0 .lf, M, 0, .lf⟩, [], []⟩ (leafK cx) = t) (hr : resT cx fn t = some o) : evF cx fuel fn c vs M = some o := by
 unfold evF
 subst hnt
 rw [hn]
 simp only [cond_true]
 rw [h]
 unfold resT at hr
 split at hr <;> simp_all
theorem evS_of {H : HK} {d f : Nat} {fn : Func} {c : Code} {vs : List V} {M : List Reg} {o : V × List Reg} (hf : fnT.get f = some fn) (hb : fn.body = some c) (h : evF (cxD H d) 200 fn c vs M = some o) : evS H d f vs M = some o := by
 unfold evS
 rw [hf]
 simp only
 rw [hb]
 exact h
theorem evC_block (cx : Cx) (nt fuel id : Nat) (c : Code) (s : Sx) (k : Ek -> Sx -> T) : evC cx nt fuel (.block id c) s k = evC cx nt fuel c s (fun e s' => match e with | .e id' => bif Nat.beq id' id then k .n s' else k (.e id') s' | e => k e s') := rfl
theorem evC_loop (cx : Cx) (nt fuel : Nat) (c : Code) (s : Sx) (k : Ek -> Sx -> T) : evC cx nt fuel (.loop c) s k = iter (evC cx nt fuel c) fuel s k := rfl
def inv_o : V × List Reg := ((V.one (C.ptr 5 0)), [(Reg.mk [ui 1997599621687373223, ui 6052339484930628067, ui 10108755138030829701, ui 150537098327114917] false), (Reg.mk [] false), (Reg.mk [(C.ch 3 (A.n (Int.ofNat 8)) 0)] false), (Reg.mk [(C.ifc 181 (C.ptr 4 0))] false), (Reg.mk [(C.val (Value.string (ByteArray.mk (Array.mk [69, 79, 70]))))] false), (Reg.mk [ui 8843232675037236404, ui 13945498962557612491, ui 144930874984592203, ui 3162322046926793287] true), (Reg.mk [ui 4611686018427387904, ui 0, ui 0, ui 0] true), (Reg.mk [ui 1, ui 0, ui 0, ui 0] true), (Reg.mk [ui 9384771851507035123, ui 15058688460609043442, ui 17720663076711319748, ui 3248729188063077030] true), (Reg.mk [ui 12436184717236109307, ui 3962172157175319849, ui 7381016538464732718, ui 1011752739694698287] true), (Reg.mk [ui 10534145000638790269, ui 8320866654147371597, ui 15015442933470308185, ui 1166008932094041581] true), (Reg.mk [ui 13488105295233737379, ui 17373395488625725466, ui 6831692495576925776, ui 3282329835997625403] true)])
theorem fin75 : resT (cxD H7 12) Tryz.f80 (evI rest75 iv14 (leafK (cxD H7 12))) = some inv_o := by kernel_rfl
theorem it_n {f : Sx -> (Ek -> Sx -> T) -> T} {n : Nat} {s s' : Sx} {k : Ek -> Sx -> T} (h : ∀ k, f s k = k .n s') : iter f (n + 1) s k = iter f n s' k := h _
theorem it_e {f : Sx -> (Ek -> Sx -> T) -> T} {n i : Nat} {s s' : Sx} {k : Ek -> Sx -> T} (h : ∀ k, f s k = k (.e i) s') : iter f (n + 1) s k = k (.e i) s' := h _
theorem evI_eq (c : Code) : evC (cxD H7 12) 239 200 c = evI c := rfl
theorem loop75 (k : Ek -> Sx -> T) : iter (evI lb75) 200 iv1 k = k (.e 0) iv14 := by
 rw [it_n (n := 199) st1]
 rw [it_n (n := 198) st2]
 rw [it_n (n := 197) st3]
 rw [it_n (n := 196) st4]
 rw [it_n (n := 195) st5]
 rw [it_n (n := 194) st6]
 rw [it_n (n := 193) st7]
 rw [it_n (n := 192) st8]
 rw [it_n (n := 191) st9]
 rw [it_n (n := 190) st10]
 rw [it_n (n := 189) st11]
 rw [it_n (n := 188) st12]
 exact it_e (n := 187) st13
theorem blk75 (k : Ek -> Sx -> T) : evI (.block 0 (.loop lb75)) iv1 k = k .n iv14 := by
 rw [<- evI_eq, evC_block, evC_loop, evI_eq, loop75]
 rfl
theorem all75 (k : Ek -> Sx -> T) : evI cd75 s75 k = evI rest75 iv14 k := by
 rw [cd75_eq, st0, blk75]
theorem inv_t : evS H7 12 80 [.one (.ptr 5 0), .one (.ptr 5 0)] M75 = some inv_o :=
 evS_of (fn := Tryz.f80) (c := cd75) (by kernel_rfl) (by kernel_rfl) (evF_of (nt := 239) (by kernel_rfl) (by kernel_rfl) (all75 _) fin75)
def Inv_h : HK := memoS 80 [.one (.ptr 5 0), .one (.ptr 5 0)] M75 inv_o
theorem Inv_ok : Inv_h.Sound base := memoS_sound H7_sound 12 80 inv_t
def H8 : HK := orH H7 Inv_h
theorem H8_sound : H8.Sound base := orH_sound H7_sound Inv_ok
end
end Go.Eng
