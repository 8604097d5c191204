/-
 The field: products, sums and opposites of any elements (Montgomery form), as contracts.
-/
import Derived.Test.YtajgaijilkfjnaaGreatDoorF1
set_option linter.unusedVariables false
set_option linter.unusedSimpArgs false
namespace Go.Eng
open Go Go.RowKit Go.Proofs
noncomputable section
set_option maxRecDepth 1000000
theorem mod_sub_once {T : Nat} (h : T < 2 * frQ) (hq : ¬ T < frQ) : T % frQ = T - frQ := by
 rw [Nat.mod_eq_sub_mod (by omega), Nat.mod_eq_of_lt (by omega)]
theorem lt_sub_once {T : Nat} (h : T < 2 * frQ) (hq : ¬ T < frQ) : T - frQ < frQ := by omega
def mulT1 : T := (T.def_ 8 (Fn.ctr cM64) [(A.v 0), (A.v 0)] 2 (T.def_ 10 (Fn.ctr cM64) [(A.v 0), (A.v 1)] 2 (T.def_ 12 (Fn.ctr cM64) [(A.v 0), (A.v 2)] 2 (T.def_ 14 (Fn.ctr cM64) [(A.v 0), (A.v 3)] 2 (T.def_ 16 (Fn.ctr cA64) [(A.v 8), (A.v 11), (A.n 0)] 2 (T.def_ 18 (Fn.ctr cA64) [(A.v 10), (A.v 13), (A.v 17)] 2 (T.def_ 20 (Fn.ctr cA64) [(A.v 12), (A.v 15), (A.v 19)] 2 (T.def_ 22 (Fn.ctr cA64) [(A.v 14), (A.n 0), (A.v 21)] 2 (T.def_ 24 (Fn.bin BinOp.mul IntKind.u64) [(A.n (Int.ofNat 14042775128853446655)), (A.v 9)] 1 (T.def_ 25 (Fn.ctr cM64) [(A.v 24), (A.n (Int.ofNat 4891460686036598785))] 2 (T.def_ 27 (Fn.ctr cA64) [(A.v 9), (A.v 26), (A.n 0)] 2 (T.def_ 29 (Fn.ctr cM64) [(A.v 24), (A.n (Int.ofNat 2896914383306846353))] 2 (T.def_ 31 (Fn.ctr cA64) [(A.v 16), (A.v 30), (A.v 28)] 2 (T.def_ 33 (Fn.ctr cM64) [(A.v 24), (A.n (Int.ofNat 13281191951274694749))] 2 (T.def_ 35 (Fn.ctr cA64) [(A.v 18), (A.v 34), (A.v 32)] 2 (T.def_ 37 (Fn.ctr cM64) [(A.v 24), (A.n (Int.ofNat 3486998266802970665))] 2 (T.def_ 39 (Fn.ctr cA64) [(A.n 0), (A.v 38), (A.v 36)] 2 (T.def_ 41 (Fn.ctr cA64) [(A.v 37), (A.n 0), (A.v 40)] 2 (T.def_ 43 (Fn.ctr cA64) [(A.v 25), (A.v 31), (A.n 0)] 2 (T.def_ 45 (Fn.ctr cA64) [(A.v 29), (A.v 35), (A.v 44)] 2 (T.def_ 47 (Fn.ctr cA64) [(A.v 33), (A.v 39), (A.v 46)] 2 (T.def_ 49 (Fn.ctr cA64) [(A.v 22), (A.n 0), (A.v 48)] 2 (T.def_ 51 (Fn.ctr cA64) [(A.v 20), (A.v 47), (A.n 0)] 2 (T.def_ 53 (Fn.ctr cA64) [(A.v 41), (A.v 49), (A.v 52)] 2 (T.def_ 55 (Fn.ctr cM64) [(A.v 1), (A.v 0)] 2 (T.def_ 57 (Fn.ctr cA64) [(A.v 56), (A.v 43), (A.n 0)] 2 (T.def_ 59 (Fn.ctr cM64) [(A.v 1), (A.v 1)] 2 (T.def_ 61 (Fn.ctr cA64) [(A.v 60), (A.v 45), (A.v 58)] 2 (T.def_ 63 (Fn.ctr cM64) [(A.v 1), (A.v 2)] 2 (T.def_ 65 (Fn.ctr cA64) [(A.v 64), (A.v 51), (A.v 62)] 2 (T.def_ 67 (Fn.ctr cM64) [(A.v 1), (A.v 3)] 2 (T.def_ 69 (Fn.ctr cA64) [(A.v 68), (A.v 53), (A.v 66)] 2 (T.def_ 71 (Fn.ctr cA64) [(A.n 0), (A.n 0), (A.v 70)] 2 (T.def_ 73 (Fn.ctr cA64) [(A.v 55), (A.v 61), (A.n 0)] 2 (T.def_ 75 (Fn.ctr cA64) [(A.v 59), (A.v 65), (A.v 74)] 2 (T.def_ 77 (Fn.ctr cA64) [(A.v 63), (A.v 69), (A.v 76)] 2 (T.def_ 79 (Fn.ctr cA64) [(A.v 67), (A.v 71), (A.v 78)] 2 (T.def_ 81 (Fn.bin BinOp.mul IntKind.u64) [(A.n (Int.ofNat 14042775128853446655)), (A.v 57)] 1 (T.def_ 82 (Fn.ctr cM64) [(A.v 81), (A.n (Int.ofNat 4891460686036598785))] 2 (T.def_ 84 (Fn.ctr cA64) [(A.v 57), (A.v 83), (A.n 0)] 2 (T.def_ 86 (Fn.ctr cM64) [(A.v 81), (A.n (Int.ofNat 2896914383306846353))] 2 (T.def_ 88 (Fn.ctr cA64) [(A.v 73), (A.v 87), (A.v 85)] 2 (T.def_ 90 (Fn.ctr cM64) [(A.v 81), (A.n (Int.ofNat 13281191951274694749))] 2 (T.def_ 92 (Fn.ctr cA64) [(A.v 75), (A.v 91), (A.v 89)] 2 (T.def_ 94 (Fn.ctr cM64) [(A.v 81), (A.n (Int.ofNat 3486998266802970665))] 2 (T.def_ 96 (Fn.ctr cA64) [(A.n 0), (A.v 95), (A.v 93)] 2 (T.def_ 98 (Fn.ctr cA64) [(A.v 94), (A.n 0), (A.v 97)] 2 (T.def_ 100 (Fn.ctr cA64) [(A.v 82), (A.v 88), (A.n 0)] 2 (T.def_ 102 (Fn.ctr cA64) [(A.v 86), (A.v 92), (A.v 101)] 2 (T.def_ 104 (Fn.ctr cA64) [(A.v 90), (A.v 96), (A.v 103)] 2 (T.def_ 106 (Fn.ctr cA64) [(A.v 79), (A.n 0), (A.v 105)] 2 (T.def_ 108 (Fn.ctr cA64) [(A.v 77), (A.v 104), (A.n 0)] 2 (T.def_ 110 (Fn.ctr cA64) [(A.v 98), (A.v 106), (A.v 109)] 2 (T.def_ 112 (Fn.ctr cM64) [(A.v 2), (A.v 0)] 2 (T.def_ 114 (Fn.ctr cA64) [(A.v 113), (A.v 100), (A.n 0)] 2 (T.def_ 116 (Fn.ctr cM64) [(A.v 2), (A.v 1)] 2 (T.def_ 118 (Fn.ctr cA64) [(A.v 117), (A.v 102), (A.v 115)] 2 (T.def_ 120 (Fn.ctr cM64) [(A.v 2), (A.v 2)] 2 (T.def_ 122 (Fn.ctr cA64) [(A.v 121), (A.v 108), (A.v 119)] 2 (T.def_ 124 (Fn.ctr cM64) [(A.v 2), (A.v 3)] 2 (T.def_ 126 (Fn.ctr cA64) [(A.v 125), (A.v 110), (A.v 123)] 2 (T.def_ 128 (Fn.ctr cA64) [(A.n 0), (A.n 0), (A.v 127)] 2 (T.def_ 130 (Fn.ctr cA64) [(A.v 112), (A.v 118), (A.n 0)] 2 (T.def_ 132 (Fn.ctr cA64) [(A.v 116), (A.v 122), (A.v 131)] 2 (T.def_ 134 (Fn.ctr cA64) [(A.v 120), (A.v 126), (A.v 133)] 2 (T.def_ 136 (Fn.ctr cA64) [(A.v 124), (A.v 128), (A.v 135)] 2 (T.def_ 138 (Fn.bin BinOp.mul IntKind.u64) [(A.n (Int.ofNat 14042775128853446655)), (A.v 114)] 1 (T.def_ 139 (Fn.ctr cM64) [(A.v 138), (A.n (Int.ofNat 4891460686036598785))] 2 (T.def_ 141 (Fn.ctr cA64) [(A.v 114), (A.v 140), (A.n 0)] 2 (T.def_ 143 (Fn.ctr cM64) [(A.v 138), (A.n (Int.ofNat 2896914383306846353))] 2 (T.def_ 145 (Fn.ctr cA64) [(A.v 130), (A.v 144), (A.v 142)] 2 (T.def_ 147 (Fn.ctr cM64) [(A.v 138), (A.n (Int.ofNat 13281191951274694749))] 2 (T.def_ 149 (Fn.ctr cA64) [(A.v 132), (A.v 148), (A.v 146)] 2 (T.def_ 151 (Fn.ctr cM64) [(A.v 138), (A.n (Int.ofNat 3486998266802970665))] 2 (T.def_ 153 (Fn.ctr cA64) [(A.n 0), (A.v 152), (A.v 150)] 2 (T.def_ 155 (Fn.ctr cA64) [(A.v 151), (A.n 0), (A.v 154)] 2 (T.def_ 157 (Fn.ctr cA64) [(A.v 139), (A.v 145), (A.n 0)] 2 (T.def_ 159 (Fn.ctr cA64) [(A.v 143), (A.v 149), (A.v 158)] 2 (T.def_ 161 (Fn.ctr cA64) [(A.v 147), (A.v 153), (A.v 160)] 2 (T.def_ 163 (Fn.ctr cA64) [(A.v 136), (A.n 0), (A.v 162)] 2 (T.def_ 165 (Fn.ctr cA64) [(A.v 134), (A.v 161), (A.n 0)] 2 (T.def_ 167 (Fn.ctr cA64) [(A.v 155), (A.v 163), (A.v 166)] 2 (T.def_ 169 (Fn.ctr cM64) [(A.v 3), (A.v 0)] 2 (T.def_ 171 (Fn.ctr cA64) [(A.v 170), (A.v 157), (A.n 0)] 2 (T.def_ 173 (Fn.ctr cM64) [(A.v 3), (A.v 1)] 2 (T.def_ 175 (Fn.ctr cA64) [(A.v 174), (A.v 159), (A.v 172)] 2 (T.def_ 177 (Fn.ctr cM64) [(A.v 3), (A.v 2)] 2 (T.def_ 179 (Fn.ctr cA64) [(A.v 178), (A.v 165), (A.v 176)] 2 (T.def_ 181 (Fn.ctr cM64) [(A.v 3), (A.v 3)] 2 (T.def_ 183 (Fn.ctr cA64) [(A.v 182), (A.v 167), (A.v 180)] 2 (T.def_ 185 (Fn.ctr cA64) [(A.n 0), (A.n 0), (A.v 184)] 2 (T.def_ 187 (Fn.ctr cA64) [(A.v 169), (A.v 175), (A.n 0)] 2 (T.def_ 189 (Fn.ctr cA64) [(A.v 173), (A.v 179), (A.v 188)] 2 (T.def_ 191 (Fn.ctr cA64) [(A.v 177), (A.v 183), (A.v 190)] 2 (T.def_ 193 (Fn.ctr cA64) [(A.v 181), (A.v 185), (A.v 192)] 2 (T.def_ 195 (Fn.bin BinOp.mul IntKind.u64) [(A.n (Int.ofNat 14042775128853446655)), (A.v 171)] 1 (T.def_ 196 (Fn.ctr cM64) [(A.v 195), (A.n (Int.ofNat 4891460686036598785))] 2 (T.def_ 198 (Fn.ctr cA64) [(A.v 171), (A.v 197), (A.n 0)] 2 (T.def_ 200 (Fn.ctr cM64) [(A.v 195), (A.n (Int.ofNat 2896914383306846353))] 2 (T.def_ 202 (Fn.ctr cA64) [(A.v 187), (A.v 201), (A.v 199)] 2 (T.def_ 204 (Fn.ctr cM64) [(A.v 195), (A.n (Int.ofNat 13281191951274694749))] 2 (T.def_ 206 (Fn.ctr cA64) [(A.v 189), (A.v 205), (A.v 203)] 2 (T.def_ 208 (Fn.ctr cM64) [(A.v 195), (A.n (Int.ofNat 3486998266802970665))] 2 (T.def_ 210 (Fn.ctr cA64) [(A.n 0), (A.v 209), (A.v 207)] 2 (T.def_ 212 (Fn.ctr cA64) [(A.v 208), (A.n 0), (A.v 211)] 2 (T.def_ 214 (Fn.ctr cA64) [(A.v 196), (A.v 202), (A.n 0)] 2 (T.def_ 216 (Fn.ctr cA64) [(A.v 200), (A.v 206), (A.v 215)] 2 (T.def_ 218 (Fn.ctr cA64) [(A.v 204), (A.v 210), (A.v 217)] 2 (T.def_ 220 (Fn.ctr cA64) [(A.v 193), (A.n 0), (A.v 219)] 2 (T.def_ 222 (Fn.ctr cA64) [(A.v 191), (A.v 218), (A.n 0)] 2 (T.def_ 224 (Fn.ctr cA64) [(A.v 212), (A.v 220), (A.v 223)] 2 (T.def_ 226 (Fn.ctr cLt) [(A.v 214), (A.v 216), (A.v 222), (A.v 224)] 1 (T.def_ 227 Fn.nt [(A.v 226)] 1 (T.br 227 (T.def_ 228 (Fn.ctr cS64) [(A.v 214), (A.n (Int.ofNat 4891460686036598785)), (A.n 0)] 2 (T.def_ 230 (Fn.ctr cS64) [(A.v 216), (A.n (Int.ofNat 2896914383306846353)), (A.v 229)] 2 (T.def_ 232 (Fn.ctr cS64) [(A.v 222), (A.n (Int.ofNat 13281191951274694749)), (A.v 231)] 2 (T.def_ 234 (Fn.ctr cS64) [(A.v 224), (A.n (Int.ofNat 3486998266802970665)), (A.v 233)] 2 (T.leaf Ek.r (St.mk (Tr.nd Tr.lf (some (V.one (C.ptr 0 0))) Tr.lf) [(Reg.mk [(C.ch 7 (A.v 228) 0), (C.ch 7 (A.v 230) 0), (C.ch 7 (A.v 232) 0), (C.ch 7 (A.v 234) 0)] true), (Reg.mk [(C.ch 7 (A.v 0) 0), (C.ch 7 (A.v 1) 0), (C.ch 7 (A.v 2) 0), (C.ch 7 (A.v 3) 0)] false)] 0 Tr.lf)))))) (T.leaf Ek.r (St.mk (Tr.nd Tr.lf (some (V.one (C.ptr 0 0))) Tr.lf) [(Reg.mk [(C.ch 7 (A.v 214) 0), (C.ch 7 (A.v 216) 0), (C.ch 7 (A.v 222) 0), (C.ch 7 (A.v 224) 0)] true), (Reg.mk [(C.ch 7 (A.v 0) 0), (C.ch 7 (A.v 1) 0), (C.ch 7 (A.v 2) 0), (C.ch 7 (A.v 3) 0)] false)] 0 Tr.lf))))))))))))))))))))))))))))))))))))))))))))))))))))))))))))))))))))))))))))))))))))))))))))))))))))))))))))))))))))
theorem mulT1_eq : evTF Tryz.f53 [.one (.ptr 0 0), .one (.ptr 1 0), .one (.ptr 1 0)] [⟨four 4, true⟩, ⟨four 0, false⟩] 8 = mulT1 := by kernel_rfl
set_option maxHeartbeats 3200000 in
theorem mulT1_vc {ρ : Nat -> Int} {x0 x1 x2 x3 : Nat} (h0 : ρ 0 = (x0 : Int)) (b0 : x0 < 18446744073709551616) (h1 : ρ 1 = (x1 : Int)) (b1 : x1 < 18446744073709551616) (h2 : ρ 2 = (x2 : Int)) (b2 : x2 < 18446744073709551616) (h3 : ρ 3 = (x3 : Int)) (b3 : x3 < 18446744073709551616) (hY : val4 x0 x1 x2 x3 < frQ) {Ψ : Ek -> St -> Prop}
  (hfin : ∀ Z, Z < frQ -> 115792089237316195423570985008687907853269984665640564039457584007913129639936 * Z % frQ = val4 x0 x1 x2 x3 * val4 x0 x1 x2 x3 % frQ -> ∀ v M, Four ρ Z [⟨four 0, false⟩] v M -> Ψ .r ⟨.nd .lf (some v) .lf, M, 0, .lf⟩) : mulT1.vc ρ Ψ := by
 unfold mulT1
 refine vc_m64 (x := x0) (y := x0) h0 h0 b0 b0 fun w8 w9 h8 h9 e8 b8 b9 => ?_
 refine vc_m64 (x := x0) (y := x1) h0 h1 b0 b1 fun w10 w11 h10 h11 e10 b10 b11 => ?_
 refine vc_m64 (x := x0) (y := x2) h0 h2 b0 b2 fun w12 w13 h12 h13 e12 b12 b13 => ?_
 refine vc_m64 (x := x0) (y := x3) h0 h3 b0 b3 fun w14 w15 h14 h15 e14 b14 b15 => ?_
 refine vc_a64 (x := w8) (y := w11) (z := 0) h8 h11 rfl b8 b11 (by decide) fun w16 w17 h16 h17 e16 b16 b17 => ?_
 refine vc_a64 (x := w10) (y := w13) (z := w17) h10 h13 h17 b10 b13 b17 fun w18 w19 h18 h19 e18 b18 b19 => ?_
 refine vc_a64 (x := w12) (y := w15) (z := w19) h12 h15 h19 b12 b15 b19 fun w20 w21 h20 h21 e20 b20 b21 => ?_
 refine vc_a64 (x := w14) (y := 0) (z := w21) h14 rfl h21 b14 (by decide) b21 fun w22 w23 h22 h23 e22 b22 b23 => ?_
 refine vc_mul (x := 14042775128853446655) (y := w9) rfl h9 fun w24 h24 e24 b24 => ?_
 refine vc_m64 (x := w24) (y := 4891460686036598785) h24 rfl b24 (by decide) fun w25 w26 h25 h26 e25 b25 b26 => ?_
 refine vc_a64 (x := w9) (y := w26) (z := 0) h9 h26 rfl b9 b26 (by decide) fun w27 w28 h27 h28 e27 b27 b28 => ?_
 refine vc_m64 (x := w24) (y := 2896914383306846353) h24 rfl b24 (by decide) fun w29 w30 h29 h30 e29 b29 b30 => ?_
 refine vc_a64 (x := w16) (y := w30) (z := w28) h16 h30 h28 b16 b30 b28 fun w31 w32 h31 h32 e31 b31 b32 => ?_
 refine vc_m64 (x := w24) (y := 13281191951274694749) h24 rfl b24 (by decide) fun w33 w34 h33 h34 e33 b33 b34 => ?_
 refine vc_a64 (x := w18) (y := w34) (z := w32) h18 h34 h32 b18 b34 b32 fun w35 w36 h35 h36 e35 b35 b36 => ?_
 refine vc_m64 (x := w24) (y := 3486998266802970665) h24 rfl b24 (by decide) fun w37 w38 h37 h38 e37 b37 b38 => ?_
 refine vc_a64 (x := 0) (y := w38) (z := w36) rfl h38 h36 (by decide) b38 b36 fun w39 w40 h39 h40 e39 b39 b40 => ?_
 refine vc_a64 (x := w37) (y := 0) (z := w40) h37 rfl h40 b37 (by decide) b40 fun w41 w42 h41 h42 e41 b41 b42 => ?_
 refine vc_a64 (x := w25) (y := w31) (z := 0) h25 h31 rfl b25 b31 (by decide) fun w43 w44 h43 h44 e43 b43 b44 => ?_
 refine vc_a64 (x := w29) (y := w35) (z := w44) h29 h35 h44 b29 b35 b44 fun w45 w46 h45 h46 e45 b45 b46 => ?_
 refine vc_a64 (x := w33) (y := w39) (z := w46) h33 h39 h46 b33 b39 b46 fun w47 w48 h47 h48 e47 b47 b48 => ?_
 refine vc_a64 (x := w22) (y := 0) (z := w48) h22 rfl h48 b22 (by decide) b48 fun w49 w50 h49 h50 e49 b49 b50 => ?_
 refine vc_a64 (x := w20) (y := w47) (z := 0) h20 h47 rfl b20 b47 (by decide) fun w51 w52 h51 h52 e51 b51 b52 => ?_
 refine vc_a64 (x := w41) (y := w49) (z := w52) h41 h49 h52 b41 b49 b52 fun w53 w54 h53 h54 e53 b53 b54 => ?_
 refine vc_m64 (x := x1) (y := x0) h1 h0 b1 b0 fun w55 w56 h55 h56 e55 b55 b56 => ?_
 refine vc_a64 (x := w56) (y := w43) (z := 0) h56 h43 rfl b56 b43 (by decide) fun w57 w58 h57 h58 e57 b57 b58 => ?_
 refine vc_m64 (x := x1) (y := x1) h1 h1 b1 b1 fun w59 w60 h59 h60 e59 b59 b60 => ?_
 refine vc_a64 (x := w60) (y := w45) (z := w58) h60 h45 h58 b60 b45 b58 fun w61 w62 h61 h62 e61 b61 b62 => ?_
 refine vc_m64 (x := x1) (y := x2) h1 h2 b1 b2 fun w63 w64 h63 h64 e63 b63 b64 => ?_
 refine vc_a64 (x := w64) (y := w51) (z := w62) h64 h51 h62 b64 b51 b62 fun w65 w66 h65 h66 e65 b65 b66 => ?_
 refine vc_m64 (x := x1) (y := x3) h1 h3 b1 b3 fun w67 w68 h67 h68 e67 b67 b68 => ?_
 refine vc_a64 (x := w68) (y := w53) (z := w66) h68 h53 h66 b68 b53 b66 fun w69 w70 h69 h70 e69 b69 b70 => ?_
 refine vc_a64 (x := 0) (y := 0) (z := w70) rfl rfl h70 (by decide) (by decide) b70 fun w71 w72 h71 h72 e71 b71 b72 => ?_
 refine vc_a64 (x := w55) (y := w61) (z := 0) h55 h61 rfl b55 b61 (by decide) fun w73 w74 h73 h74 e73 b73 b74 => ?_
 refine vc_a64 (x := w59) (y := w65) (z := w74) h59 h65 h74 b59 b65 b74 fun w75 w76 h75 h76 e75 b75 b76 => ?_
 refine vc_a64 (x := w63) (y := w69) (z := w76) h63 h69 h76 b63 b69 b76 fun w77 w78 h77 h78 e77 b77 b78 => ?_
 refine vc_a64 (x := w67) (y := w71) (z := w78) h67 h71 h78 b67 b71 b78 fun w79 w80 h79 h80 e79 b79 b80 => ?_
 refine vc_mul (x := 14042775128853446655) (y := w57) rfl h57 fun w81 h81 e81 b81 => ?_
 refine vc_m64 (x := w81) (y := 4891460686036598785) h81 rfl b81 (by decide) fun w82 w83 h82 h83 e82 b82 b83 => ?_
 refine vc_a64 (x := w57) (y := w83) (z := 0) h57 h83 rfl b57 b83 (by decide) fun w84 w85 h84 h85 e84 b84 b85 => ?_
 refine vc_m64 (x := w81) (y := 2896914383306846353) h81 rfl b81 (by decide) fun w86 w87 h86 h87 e86 b86 b87 => ?_
 refine vc_a64 (x := w73) (y := w87) (z := w85) h73 h87 h85 b73 b87 b85 fun w88 w89 h88 h89 e88 b88 b89 => ?_
 refine vc_m64 (x := w81) (y := 13281191951274694749) h81 rfl b81 (by decide) fun w90 w91 h90 h91 e90 b90 b91 => ?_
 refine vc_a64 (x := w75) (y := w91) (z := w89) h75 h91 h89 b75 b91 b89 fun w92 w93 h92 h93 e92 b92 b93 => ?_
 refine vc_m64 (x := w81) (y := 3486998266802970665) h81 rfl b81 (by decide) fun w94 w95 h94 h95 e94 b94 b95 => ?_
 refine vc_a64 (x := 0) (y := w95) (z := w93) rfl h95 h93 (by decide) b95 b93 fun w96 w97 h96 h97 e96 b96 b97 => ?_
 refine vc_a64 (x := w94) (y := 0) (z := w97) h94 rfl h97 b94 (by decide) b97 fun w98 w99 h98 h99 e98 b98 b99 => ?_
 refine vc_a64 (x := w82) (y := w88) (z := 0) h82 h88 rfl b82 b88 (by decide) fun w100 w101 h100 h101 e100 b100 b101 => ?_
 refine vc_a64 (x := w86) (y := w92) (z := w101) h86 h92 h101 b86 b92 b101 fun w102 w103 h102 h103 e102 b102 b103 => ?_
 refine vc_a64 (x := w90) (y := w96) (z := w103) h90 h96 h103 b90 b96 b103 fun w104 w105 h104 h105 e104 b104 b105 => ?_
 refine vc_a64 (x := w79) (y := 0) (z := w105) h79 rfl h105 b79 (by decide) b105 fun w106 w107 h106 h107 e106 b106 b107 => ?_
 refine vc_a64 (x := w77) (y := w104) (z := 0) h77 h104 rfl b77 b104 (by decide) fun w108 w109 h108 h109 e108 b108 b109 => ?_
 refine vc_a64 (x := w98) (y := w106) (z := w109) h98 h106 h109 b98 b106 b109 fun w110 w111 h110 h111 e110 b110 b111 => ?_
 refine vc_m64 (x := x2) (y := x0) h2 h0 b2 b0 fun w112 w113 h112 h113 e112 b112 b113 => ?_
 refine vc_a64 (x := w113) (y := w100) (z := 0) h113 h100 rfl b113 b100 (by decide) fun w114 w115 h114 h115 e114 b114 b115 => ?_
 refine vc_m64 (x := x2) (y := x1) h2 h1 b2 b1 fun w116 w117 h116 h117 e116 b116 b117 => ?_
 refine vc_a64 (x := w117) (y := w102) (z := w115) h117 h102 h115 b117 b102 b115 fun w118 w119 h118 h119 e118 b118 b119 => ?_
 refine vc_m64 (x := x2) (y := x2) h2 h2 b2 b2 fun w120 w121 h120 h121 e120 b120 b121 => ?_
 refine vc_a64 (x := w121) (y := w108) (z := w119) h121 h108 h119 b121 b108 b119 fun w122 w123 h122 h123 e122 b122 b123 => ?_
 refine vc_m64 (x := x2) (y := x3) h2 h3 b2 b3 fun w124 w125 h124 h125 e124 b124 b125 => ?_
 refine vc_a64 (x := w125) (y := w110) (z := w123) h125 h110 h123 b125 b110 b123 fun w126 w127 h126 h127 e126 b126 b127 => ?_
 refine vc_a64 (x := 0) (y := 0) (z := w127) rfl rfl h127 (by decide) (by decide) b127 fun w128 w129 h128 h129 e128 b128 b129 => ?_
 refine vc_a64 (x := w112) (y := w118) (z := 0) h112 h118 rfl b112 b118 (by decide) fun w130 w131 h130 h131 e130 b130 b131 => ?_
 refine vc_a64 (x := w116) (y := w122) (z := w131) h116 h122 h131 b116 b122 b131 fun w132 w133 h132 h133 e132 b132 b133 => ?_
 refine vc_a64 (x := w120) (y := w126) (z := w133) h120 h126 h133 b120 b126 b133 fun w134 w135 h134 h135 e134 b134 b135 => ?_
 refine vc_a64 (x := w124) (y := w128) (z := w135) h124 h128 h135 b124 b128 b135 fun w136 w137 h136 h137 e136 b136 b137 => ?_
 refine vc_mul (x := 14042775128853446655) (y := w114) rfl h114 fun w138 h138 e138 b138 => ?_
 refine vc_m64 (x := w138) (y := 4891460686036598785) h138 rfl b138 (by decide) fun w139 w140 h139 h140 e139 b139 b140 => ?_
 refine vc_a64 (x := w114) (y := w140) (z := 0) h114 h140 rfl b114 b140 (by decide) fun w141 w142 h141 h142 e141 b141 b142 => ?_
 refine vc_m64 (x := w138) (y := 2896914383306846353) h138 rfl b138 (by decide) fun w143 w144 h143 h144 e143 b143 b144 => ?_
 refine vc_a64 (x := w130) (y := w144) (z := w142) h130 h144 h142 b130 b144 b142 fun w145 w146 h145 h146 e145 b145 b146 => ?_
 refine vc_m64 (x := w138) (y := 13281191951274694749) h138 rfl b138 (by decide) fun w147 w148 h147 h148 e147 b147 b148 => ?_
 refine vc_a64 (x := w132) (y := w148) (z := w146) h132 h148 h146 b132 b148 b146 fun w149 w150 h149 h150 e149 b149 b150 => ?_
 refine vc_m64 (x := w138) (y := 3486998266802970665) h138 rfl b138 (by decide) fun w151 w152 h151 h152 e151 b151 b152 => ?_
 refine vc_a64 (x := 0) (y := w152) (z := w150) rfl h152 h150 (by decide) b152 b150 fun w153 w154 h153 h154 e153 b153 b154 => ?_
 refine vc_a64 (x := w151) (y := 0) (z := w154) h151 rfl h154 b151 (by decide) b154 fun w155 w156 h155 h156 e155 b155 b156 => ?_
 refine vc_a64 (x := w139) (y := w145) (z := 0) h139 h145 rfl b139 b145 (by decide) fun w157 w158 h157 h158 e157 b157 b158 => ?_
 refine vc_a64 (x := w143) (y := w149) (z := w158) h143 h149 h158 b143 b149 b158 fun w159 w160 h159 h160 e159 b159 b160 => ?_
 refine vc_a64 (x := w147) (y := w153) (z := w160) h147 h153 h160 b147 b153 b160 fun w161 w162 h161 h162 e161 b161 b162 => ?_
 refine vc_a64 (x := w136) (y := 0) (z := w162) h136 rfl h162 b136 (by decide) b162 fun w163 w164 h163 h164 e163 b163 b164 => ?_
 refine vc_a64 (x := w134) (y := w161) (z := 0) h134 h161 rfl b134 b161 (by decide) fun w165 w166 h165 h166 e165 b165 b166 => ?_
 refine vc_a64 (x := w155) (y := w163) (z := w166) h155 h163 h166 b155 b163 b166 fun w167 w168 h167 h168 e167 b167 b168 => ?_
 refine vc_m64 (x := x3) (y := x0) h3 h0 b3 b0 fun w169 w170 h169 h170 e169 b169 b170 => ?_
 refine vc_a64 (x := w170) (y := w157) (z := 0) h170 h157 rfl b170 b157 (by decide) fun w171 w172 h171 h172 e171 b171 b172 => ?_
 refine vc_m64 (x := x3) (y := x1) h3 h1 b3 b1 fun w173 w174 h173 h174 e173 b173 b174 => ?_
 refine vc_a64 (x := w174) (y := w159) (z := w172) h174 h159 h172 b174 b159 b172 fun w175 w176 h175 h176 e175 b175 b176 => ?_
 refine vc_m64 (x := x3) (y := x2) h3 h2 b3 b2 fun w177 w178 h177 h178 e177 b177 b178 => ?_
 refine vc_a64 (x := w178) (y := w165) (z := w176) h178 h165 h176 b178 b165 b176 fun w179 w180 h179 h180 e179 b179 b180 => ?_
 refine vc_m64 (x := x3) (y := x3) h3 h3 b3 b3 fun w181 w182 h181 h182 e181 b181 b182 => ?_
 refine vc_a64 (x := w182) (y := w167) (z := w180) h182 h167 h180 b182 b167 b180 fun w183 w184 h183 h184 e183 b183 b184 => ?_
 refine vc_a64 (x := 0) (y := 0) (z := w184) rfl rfl h184 (by decide) (by decide) b184 fun w185 w186 h185 h186 e185 b185 b186 => ?_
 refine vc_a64 (x := w169) (y := w175) (z := 0) h169 h175 rfl b169 b175 (by decide) fun w187 w188 h187 h188 e187 b187 b188 => ?_
 refine vc_a64 (x := w173) (y := w179) (z := w188) h173 h179 h188 b173 b179 b188 fun w189 w190 h189 h190 e189 b189 b190 => ?_
 refine vc_a64 (x := w177) (y := w183) (z := w190) h177 h183 h190 b177 b183 b190 fun w191 w192 h191 h192 e191 b191 b192 => ?_
 refine vc_a64 (x := w181) (y := w185) (z := w192) h181 h185 h192 b181 b185 b192 fun w193 w194 h193 h194 e193 b193 b194 => ?_
 refine vc_mul (x := 14042775128853446655) (y := w171) rfl h171 fun w195 h195 e195 b195 => ?_
 refine vc_m64 (x := w195) (y := 4891460686036598785) h195 rfl b195 (by decide) fun w196 w197 h196 h197 e196 b196 b197 => ?_
 refine vc_a64 (x := w171) (y := w197) (z := 0) h171 h197 rfl b171 b197 (by decide) fun w198 w199 h198 h199 e198 b198 b199 => ?_
 refine vc_m64 (x := w195) (y := 2896914383306846353) h195 rfl b195 (by decide) fun w200 w201 h200 h201 e200 b200 b201 => ?_
 refine vc_a64 (x := w187) (y := w201) (z := w199) h187 h201 h199 b187 b201 b199 fun w202 w203 h202 h203 e202 b202 b203 => ?_
 refine vc_m64 (x := w195) (y := 13281191951274694749) h195 rfl b195 (by decide) fun w204 w205 h204 h205 e204 b204 b205 => ?_
 refine vc_a64 (x := w189) (y := w205) (z := w203) h189 h205 h203 b189 b205 b203 fun w206 w207 h206 h207 e206 b206 b207 => ?_
 refine vc_m64 (x := w195) (y := 3486998266802970665) h195 rfl b195 (by decide) fun w208 w209 h208 h209 e208 b208 b209 => ?_
 refine vc_a64 (x := 0) (y := w209) (z := w207) rfl h209 h207 (by decide) b209 b207 fun w210 w211 h210 h211 e210 b210 b211 => ?_
 refine vc_a64 (x := w208) (y := 0) (z := w211) h208 rfl h211 b208 (by decide) b211 fun w212 w213 h212 h213 e212 b212 b213 => ?_
 refine vc_a64 (x := w196) (y := w202) (z := 0) h196 h202 rfl b196 b202 (by decide) fun w214 w215 h214 h215 e214 b214 b215 => ?_
 refine vc_a64 (x := w200) (y := w206) (z := w215) h200 h206 h215 b200 b206 b215 fun w216 w217 h216 h217 e216 b216 b217 => ?_
 refine vc_a64 (x := w204) (y := w210) (z := w217) h204 h210 h217 b204 b210 b217 fun w218 w219 h218 h219 e218 b218 b219 => ?_
 refine vc_a64 (x := w193) (y := 0) (z := w219) h193 rfl h219 b193 (by decide) b219 fun w220 w221 h220 h221 e220 b220 b221 => ?_
 refine vc_a64 (x := w191) (y := w218) (z := 0) h191 h218 rfl b191 b218 (by decide) fun w222 w223 h222 h223 e222 b222 b223 => ?_
 refine vc_a64 (x := w212) (y := w220) (z := w223) h212 h220 h223 b212 b220 b223 fun w224 w225 h224 h225 e224 b224 b225 => ?_
 have A0 := half_a0 b0 b0 b1 b2 b3 e8 e10 e12 e14 e16 e18 e20 e22
 have S0 := round_S (show (0 : Nat) < 2 * frQ by decide) b0 b24 hY
 rw [<- A0] at S0
 have B0 := half_b e24 S0 e25 e27 e29 e31 e33 e35 e37 e39 e41 e43 e45 e47 e49 e51 e53
 rw [A0] at B0
 have L0 := round_T (show (0 : Nat) < 2 * frQ by decide) b0 b24 hY B0
 have A1 := half_a b1 b0 b1 b2 b3 b43 b45 b51 b53 e55 e57 e59 e61 e63 e65 e67 e69 e71 e73 e75 e77 e79
 have S1 := round_S L0 b1 b81 hY
 rw [<- A1] at S1
 have B1 := half_b e81 S1 e82 e84 e86 e88 e90 e92 e94 e96 e98 e100 e102 e104 e106 e108 e110
 rw [A1] at B1
 have L1 := round_T L0 b1 b81 hY B1
 have A2 := half_a b2 b0 b1 b2 b3 b100 b102 b108 b110 e112 e114 e116 e118 e120 e122 e124 e126 e128 e130 e132 e134 e136
 have S2 := round_S L1 b2 b138 hY
 rw [<- A2] at S2
 have B2 := half_b e138 S2 e139 e141 e143 e145 e147 e149 e151 e153 e155 e157 e159 e161 e163 e165 e167
 rw [A2] at B2
 have L2 := round_T L1 b2 b138 hY B2
 have A3 := half_a b3 b0 b1 b2 b3 b157 b159 b165 b167 e169 e171 e173 e175 e177 e179 e181 e183 e185 e187 e189 e191 e193
 have S3 := round_S L2 b3 b195 hY
 rw [<- A3] at S3
 have B3 := half_b e195 S3 e196 e198 e200 e202 e204 e206 e208 e210 e212 e214 e216 e218 e220 e222 e224
 rw [A3] at B3
 have L3 := round_T L2 b3 b195 hY B3
 have E := mont_fin (rounds B0 B1 B2 B3)
 refine vc_lt h214 h216 h222 h224 (fun hlt hb => ?_) (fun hlt hb => ?_)
 ·refine vc_nt hb fun hn => vc_br0 hn ?_
  rw [Nat.mod_eq_of_lt hlt] at E
  exact hfin _ hlt E _ _ ⟨rfl, _, _, _, _, _, _, _, _, rfl, h214, h216, h222, h224, b214, b216, b222, b224, rfl⟩
 ·refine vc_nt hb fun hn => vc_br1 hn ?_
  refine vc_s64 (x := w214) (y := 4891460686036598785) (z := 0) h214 rfl rfl b214 (by decide) (by decide) fun w228 w229 h228 h229 e228 b228 b229 => ?_
  refine vc_s64 (x := w216) (y := 2896914383306846353) (z := w229) h216 rfl h229 b216 (by decide) b229 fun w230 w231 h230 h231 e230 b230 b231 => ?_
  refine vc_s64 (x := w222) (y := 13281191951274694749) (z := w231) h222 rfl h231 b222 (by decide) b231 fun w232 w233 h232 h233 e232 b232 b233 => ?_
  refine vc_s64 (x := w224) (y := 3486998266802970665) (z := w233) h224 rfl h233 b224 (by decide) b233 fun w234 w235 h234 h235 e234 b234 b235 => ?_
  have F := fin_sub b214 b216 b222 b224 L3 hlt e228 e230 e232 e234
  rw [mod_sub_once L3 hlt, <- F] at E
  have hlt2 := lt_sub_once L3 hlt
  rw [<- F] at hlt2
  exact hfin _ hlt2 E _ _ ⟨rfl, _, _, _, _, _, _, _, _, rfl, h228, h230, h232, h234, b228, b230, b232, b234, rfl⟩
def mulT2 : T := (T.def_ 8 (Fn.ctr cM64) [(A.v 0), (A.v 4)] 2 (T.def_ 10 (Fn.ctr cM64) [(A.v 0), (A.v 5)] 2 (T.def_ 12 (Fn.ctr cM64) [(A.v 0), (A.v 6)] 2 (T.def_ 14 (Fn.ctr cM64) [(A.v 0), (A.v 7)] 2 (T.def_ 16 (Fn.ctr cA64) [(A.v 8), (A.v 11), (A.n 0)] 2 (T.def_ 18 (Fn.ctr cA64) [(A.v 10), (A.v 13), (A.v 17)] 2 (T.def_ 20 (Fn.ctr cA64) [(A.v 12), (A.v 15), (A.v 19)] 2 (T.def_ 22 (Fn.ctr cA64) [(A.v 14), (A.n 0), (A.v 21)] 2 (T.def_ 24 (Fn.bin BinOp.mul IntKind.u64) [(A.n (Int.ofNat 14042775128853446655)), (A.v 9)] 1 (T.def_ 25 (Fn.ctr cM64) [(A.v 24), (A.n (Int.ofNat 4891460686036598785))] 2 (T.def_ 27 (Fn.ctr cA64) [(A.v 9), (A.v 26), (A.n 0)] 2 (T.def_ 29 (Fn.ctr cM64) [(A.v 24), (A.n (Int.ofNat 2896914383306846353))] 2 (T.def_ 31 (Fn.ctr cA64) [(A.v 16), (A.v 30), (A.v 28)] 2 (T.def_ 33 (Fn.ctr cM64) [(A.v 24), (A.n (Int.ofNat 13281191951274694749))] 2 (T.def_ 35 (Fn.ctr cA64) [(A.v 18), (A.v 34), (A.v 32)] 2 (T.def_ 37 (Fn.ctr cM64) [(A.v 24), (A.n (Int.ofNat 3486998266802970665))] 2 (T.def_ 39 (Fn.ctr cA64) [(A.n 0), (A.v 38), (A.v 36)] 2 (T.def_ 41 (Fn.ctr cA64) [(A.v 37), (A.n 0), (A.v 40)] 2 (T.def_ 43 (Fn.ctr cA64) [(A.v 25), (A.v 31), (A.n 0)] 2 (T.def_ 45 (Fn.ctr cA64) [(A.v 29), (A.v 35), (A.v 44)] 2 (T.def_ 47 (Fn.ctr cA64) [(A.v 33), (A.v 39), (A.v 46)] 2 (T.def_ 49 (Fn.ctr cA64) [(A.v 22), (A.n 0), (A.v 48)] 2 (T.def_ 51 (Fn.ctr cA64) [(A.v 20), (A.v 47), (A.n 0)] 2 (T.def_ 53 (Fn.ctr cA64) [(A.v 41), (A.v 49), (A.v 52)] 2 (T.def_ 55 (Fn.ctr cM64) [(A.v 1), (A.v 4)] 2 (T.def_ 57 (Fn.ctr cA64) [(A.v 56), (A.v 43), (A.n 0)] 2 (T.def_ 59 (Fn.ctr cM64) [(A.v 1), (A.v 5)] 2 (T.def_ 61 (Fn.ctr cA64) [(A.v 60), (A.v 45), (A.v 58)] 2 (T.def_ 63 (Fn.ctr cM64) [(A.v 1), (A.v 6)] 2 (T.def_ 65 (Fn.ctr cA64) [(A.v 64), (A.v 51), (A.v 62)] 2 (T.def_ 67 (Fn.ctr cM64) [(A.v 1), (A.v 7)] 2 (T.def_ 69 (Fn.ctr cA64) [(A.v 68), (A.v 53), (A.v 66)] 2 (T.def_ 71 (Fn.ctr cA64) [(A.n 0), (A.n 0), (A.v 70)] 2 (T.def_ 73 (Fn.ctr cA64) [(A.v 55), (A.v 61), (A.n 0)] 2 (T.def_ 75 (Fn.ctr cA64) [(A.v 59), (A.v 65), (A.v 74)] 2 (T.def_ 77 (Fn.ctr cA64) [(A.v 63), (A.v 69), (A.v 76)] 2 (T.def_ 79 (Fn.ctr cA64) [(A.v 67), (A.v 71), (A.v 78)] 2 (T.def_ 81 (Fn.bin BinOp.mul IntKind.u64) [(A.n (Int.ofNat 14042775128853446655)), (A.v 57)] 1 (T.def_ 82 (Fn.ctr cM64) [(A.v 81), (A.n (Int.ofNat 4891460686036598785))] 2 (T.def_ 84 (Fn.ctr cA64) [(A.v 57), (A.v 83), (A.n 0)] 2 (T.def_ 86 (Fn.ctr cM64) [(A.v 81), (A.n (Int.ofNat 2896914383306846353))] 2 (T.def_ 88 (Fn.ctr cA64) [(A.v 73), (A.v 87), (A.v 85)] 2 (T.def_ 90 (Fn.ctr cM64) [(A.v 81), (A.n (Int.ofNat 13281191951274694749))] 2 (T.def_ 92 (Fn.ctr cA64) [(A.v 75), (A.v 91), (A.v 89)] 2 (T.def_ 94 (Fn.ctr cM64) [(A.v 81), (A.n (Int.ofNat 3486998266802970665))] 2 (T.def_ 96 (Fn.ctr cA64) [(A.n 0), (A.v 95), (A.v 93)] 2 (T.def_ 98 (Fn.ctr cA64) [(A.v 94), (A.n 0), (A.v 97)] 2 (T.def_ 100 (Fn.ctr cA64) [(A.v 82), (A.v 88), (A.n 0)] 2 (T.def_ 102 (Fn.ctr cA64) [(A.v 86), (A.v 92), (A.v 101)] 2 (T.def_ 104 (Fn.ctr cA64) [(A.v 90), (A.v 96), (A.v 103)] 2 (T.def_ 106 (Fn.ctr cA64) [(A.v 79), (A.n 0), (A.v 105)] 2 (T.def_ 108 (Fn.ctr cA64) [(A.v 77), (A.v 104), (A.n 0)] 2 (T.def_ 110 (Fn.ctr cA64) [(A.v 98), (A.v 106), (A.v 109)] 2 (T.def_ 112 (Fn.ctr cM64) [(A.v 2), (A.v 4)] 2 (T.def_ 114 (Fn.ctr cA64) [(A.v 113), (A.v 100), (A.n 0)] 2 (T.def_ 116 (Fn.ctr cM64) [(A.v 2), (A.v 5)] 2 (T.def_ 118 (Fn.ctr cA64) [(A.v 117), (A.v 102), (A.v 115)] 2 (T.def_ 120 (Fn.ctr cM64) [(A.v 2), (A.v 6)] 2 (T.def_ 122 (Fn.ctr cA64) [(A.v 121), (A.v 108), (A.v 119)] 2 (T.def_ 124 (Fn.ctr cM64) [(A.v 2), (A.v 7)] 2 (T.def_ 126 (Fn.ctr cA64) [(A.v 125), (A.v 110), (A.v 123)] 2 (T.def_ 128 (Fn.ctr cA64) [(A.n 0), (A.n 0), (A.v 127)] 2 (T.def_ 130 (Fn.ctr cA64) [(A.v 112), (A.v 118), (A.n 0)] 2 (T.def_ 132 (Fn.ctr cA64) [(A.v 116), (A.v 122), (A.v 131)] 2 (T.def_ 134 (Fn.ctr cA64) [(A.v 120), (A.v 126), (A.v 133)] 2 (T.def_ 136 (Fn.ctr cA64) [(A.v 124), (A.v 128), (A.v 135)] 2 (T.def_ 138 (Fn.bin BinOp.mul IntKind.u64) [(A.n (Int.ofNat 14042775128853446655)), (A.v 114)] 1 (T.def_ 139 (Fn.ctr cM64) [(A.v 138), (A.n (Int.ofNat 4891460686036598785))] 2 (T.def_ 141 (Fn.ctr cA64) [(A.v 114), (A.v 140), (A.n 0)] 2 (T.def_ 143 (Fn.ctr cM64) [(A.v 138), (A.n (Int.ofNat 2896914383306846353))] 2 (T.def_ 145 (Fn.ctr cA64) [(A.v 130), (A.v 144), (A.v 142)] 2 (T.def_ 147 (Fn.ctr cM64) [(A.v 138), (A.n (Int.ofNat 13281191951274694749))] 2 (T.def_ 149 (Fn.ctr cA64) [(A.v 132), (A.v 148), (A.v 146)] 2 (T.def_ 151 (Fn.ctr cM64) [(A.v 138), (A.n (Int.ofNat 3486998266802970665))] 2 (T.def_ 153 (Fn.ctr cA64) [(A.n 0), (A.v 152), (A.v 150)] 2 (T.def_ 155 (Fn.ctr cA64) [(A.v 151), (A.n 0), (A.v 154)] 2 (T.def_ 157 (Fn.ctr cA64) [(A.v 139), (A.v 145), (A.n 0)] 2 (T.def_ 159 (Fn.ctr cA64) [(A.v 143), (A.v 149), (A.v 158)] 2 (T.def_ 161 (Fn.ctr cA64) [(A.v 147), (A.v 153), (A.v 160)] 2 (T.def_ 163 (Fn.ctr cA64) [(A.v 136), (A.n 0), (A.v 162)] 2 (T.def_ 165 (Fn.ctr cA64) [(A.v 134), (A.v 161), (A.n 0)] 2 (T.def_ 167 (Fn.ctr cA64) [(A.v 155), (A.v 163), (A.v 166)] 2 (T.def_ 169 (Fn.ctr cM64) [(A.v 3), (A.v 4)] 2 (T.def_ 171 (Fn.ctr cA64) [(A.v 170), (A.v 157), (A.n 0)] 2 (T.def_ 173 (Fn.ctr cM64) [(A.v 3), (A.v 5)] 2 (T.def_ 175 (Fn.ctr cA64) [(A.v 174), (A.v 159), (A.v 172)] 2 (T.def_ 177 (Fn.ctr cM64) [(A.v 3), (A.v 6)] 2 (T.def_ 179 (Fn.ctr cA64) [(A.v 178), (A.v 165), (A.v 176)] 2 (T.def_ 181 (Fn.ctr cM64) [(A.v 3), (A.v 7)] 2 (T.def_ 183 (Fn.ctr cA64) [(A.v 182), (A.v 167), (A.v 180)] 2 (T.def_ 185 (Fn.ctr cA64) [(A.n 0), (A.n 0), (A.v 184)] 2 (T.def_ 187 (Fn.ctr cA64) [(A.v 169), (A.v 175), (A.n 0)] 2 (T.def_ 189 (Fn.ctr cA64) [(A.v 173), (A.v 179), (A.v 188)] 2 (T.def_ 191 (Fn.ctr cA64) [(A.v 177), (A.v 183), (A.v 190)] 2 (T.def_ 193 (Fn.ctr cA64) [(A.v 181), (A.v 185), (A.v 192)] 2 (T.def_ 195 (Fn.bin BinOp.mul IntKind.u64) [(A.n (Int.ofNat 14042775128853446655)), (A.v 171)] 1 (T.def_ 196 (Fn.ctr cM64) [(A.v 195), (A.n (Int.ofNat 4891460686036598785))] 2 (T.def_ 198 (Fn.ctr cA64) [(A.v 171), (A.v 197), (A.n 0)] 2 (T.def_ 200 (Fn.ctr cM64) [(A.v 195), (A.n (Int.ofNat 2896914383306846353))] 2 (T.def_ 202 (Fn.ctr cA64) [(A.v 187), (A.v 201), (A.v 199)] 2 (T.def_ 204 (Fn.ctr cM64) [(A.v 195), (A.n (Int.ofNat 13281191951274694749))] 2 (T.def_ 206 (Fn.ctr cA64) [(A.v 189), (A.v 205), (A.v 203)] 2 (T.def_ 208 (Fn.ctr cM64) [(A.v 195), (A.n (Int.ofNat 3486998266802970665))] 2 (T.def_ 210 (Fn.ctr cA64) [(A.n 0), (A.v 209), (A.v 207)] 2 (T.def_ 212 (Fn.ctr cA64) [(A.v 208), (A.n 0), (A.v 211)] 2 (T.def_ 214 (Fn.ctr cA64) [(A.v 196), (A.v 202), (A.n 0)] 2 (T.def_ 216 (Fn.ctr cA64) [(A.v 200), (A.v 206), (A.v 215)] 2 (T.def_ 218 (Fn.ctr cA64) [(A.v 204), (A.v 210), (A.v 217)] 2 (T.def_ 220 (Fn.ctr cA64) [(A.v 193), (A.n 0), (A.v 219)] 2 (T.def_ 222 (Fn.ctr cA64) [(A.v 191), (A.v 218), (A.n 0)] 2 (T.def_ 224 (Fn.ctr cA64) [(A.v 212), (A.v 220), (A.v 223)] 2 (T.def_ 226 (Fn.ctr cLt) [(A.v 214), (A.v 216), (A.v 222), (A.v 224)] 1 (T.def_ 227 Fn.nt [(A.v 226)] 1 (T.br 227 (T.def_ 228 (Fn.ctr cS64) [(A.v 214), (A.n (Int.ofNat 4891460686036598785)), (A.n 0)] 2 (T.def_ 230 (Fn.ctr cS64) [(A.v 216), (A.n (Int.ofNat 2896914383306846353)), (A.v 229)] 2 (T.def_ 232 (Fn.ctr cS64) [(A.v 222), (A.n (Int.ofNat 13281191951274694749)), (A.v 231)] 2 (T.def_ 234 (Fn.ctr cS64) [(A.v 224), (A.n (Int.ofNat 3486998266802970665)), (A.v 233)] 2 (T.leaf Ek.r (St.mk (Tr.nd Tr.lf (some (V.one (C.ptr 0 0))) Tr.lf) [(Reg.mk [(C.ch 7 (A.v 228) 0), (C.ch 7 (A.v 230) 0), (C.ch 7 (A.v 232) 0), (C.ch 7 (A.v 234) 0)] true), (Reg.mk [(C.ch 7 (A.v 4) 0), (C.ch 7 (A.v 5) 0), (C.ch 7 (A.v 6) 0), (C.ch 7 (A.v 7) 0)] false)] 0 Tr.lf)))))) (T.leaf Ek.r (St.mk (Tr.nd Tr.lf (some (V.one (C.ptr 0 0))) Tr.lf) [(Reg.mk [(C.ch 7 (A.v 214) 0), (C.ch 7 (A.v 216) 0), (C.ch 7 (A.v 222) 0), (C.ch 7 (A.v 224) 0)] true), (Reg.mk [(C.ch 7 (A.v 4) 0), (C.ch 7 (A.v 5) 0), (C.ch 7 (A.v 6) 0), (C.ch 7 (A.v 7) 0)] false)] 0 Tr.lf))))))))))))))))))))))))))))))))))))))))))))))))))))))))))))))))))))))))))))))))))))))))))))))))))))))))))))))))))))
theorem mulT2_eq : evTF Tryz.f53 [.one (.ptr 0 0), .one (.ptr 0 0), .one (.ptr 1 0)] [⟨four 0, true⟩, ⟨four 4, false⟩] 8 = mulT2 := by kernel_rfl
set_option maxHeartbeats 3200000 in
theorem mulT2_vc {ρ : Nat -> Int} {x0 x1 x2 x3 y0 y1 y2 y3 : Nat} (h0 : ρ 0 = (x0 : Int)) (b0 : x0 < 18446744073709551616) (h1 : ρ 1 = (x1 : Int)) (b1 : x1 < 18446744073709551616) (h2 : ρ 2 = (x2 : Int)) (b2 : x2 < 18446744073709551616) (h3 : ρ 3 = (x3 : Int)) (b3 : x3 < 18446744073709551616) (h4 : ρ 4 = (y0 : Int)) (b4 : y0 < 18446744073709551616) (h5 : ρ 5 = (y1 : Int)) (b5 : y1 < 18446744073709551616) (h6 : ρ 6 = (y2 : Int)) (b6 : y2 < 18446744073709551616) (h7 : ρ 7 = (y3 : Int)) (b7 : y3 < 18446744073709551616) (hY : val4 y0 y1 y2 y3 < frQ) {Ψ : Ek -> St -> Prop}
  (hfin : ∀ Z, Z < frQ -> 115792089237316195423570985008687907853269984665640564039457584007913129639936 * Z % frQ = val4 x0 x1 x2 x3 * val4 y0 y1 y2 y3 % frQ -> ∀ v M, Four ρ Z [⟨four 4, false⟩] v M -> Ψ .r ⟨.nd .lf (some v) .lf, M, 0, .lf⟩) : mulT2.vc ρ Ψ := by
 unfold mulT2
 refine vc_m64 (x := x0) (y := y0) h0 h4 b0 b4 fun w8 w9 h8 h9 e8 b8 b9 => ?_
 refine vc_m64 (x := x0) (y := y1) h0 h5 b0 b5 fun w10 w11 h10 h11 e10 b10 b11 => ?_
 refine vc_m64 (x := x0) (y := y2) h0 h6 b0 b6 fun w12 w13 h12 h13 e12 b12 b13 => ?_
 refine vc_m64 (x := x0) (y := y3) h0 h7 b0 b7 fun w14 w15 h14 h15 e14 b14 b15 => ?_
 refine vc_a64 (x := w8) (y := w11) (z := 0) h8 h11 rfl b8 b11 (by decide) fun w16 w17 h16 h17 e16 b16 b17 => ?_
 refine vc_a64 (x := w10) (y := w13) (z := w17) h10 h13 h17 b10 b13 b17 fun w18 w19 h18 h19 e18 b18 b19 => ?_
 refine vc_a64 (x := w12) (y := w15) (z := w19) h12 h15 h19 b12 b15 b19 fun w20 w21 h20 h21 e20 b20 b21 => ?_
 refine vc_a64 (x := w14) (y := 0) (z := w21) h14 rfl h21 b14 (by decide) b21 fun w22 w23 h22 h23 e22 b22 b23 => ?_
 refine vc_mul (x := 14042775128853446655) (y := w9) rfl h9 fun w24 h24 e24 b24 => ?_
 refine vc_m64 (x := w24) (y := 4891460686036598785) h24 rfl b24 (by decide) fun w25 w26 h25 h26 e25 b25 b26 => ?_
 refine vc_a64 (x := w9) (y := w26) (z := 0) h9 h26 rfl b9 b26 (by decide) fun w27 w28 h27 h28 e27 b27 b28 => ?_
 refine vc_m64 (x := w24) (y := 2896914383306846353) h24 rfl b24 (by decide) fun w29 w30 h29 h30 e29 b29 b30 => ?_
 refine vc_a64 (x := w16) (y := w30) (z := w28) h16 h30 h28 b16 b30 b28 fun w31 w32 h31 h32 e31 b31 b32 => ?_
 refine vc_m64 (x := w24) (y := 13281191951274694749) h24 rfl b24 (by decide) fun w33 w34 h33 h34 e33 b33 b34 => ?_
 refine vc_a64 (x := w18) (y := w34) (z := w32) h18 h34 h32 b18 b34 b32 fun w35 w36 h35 h36 e35 b35 b36 => ?_
 refine vc_m64 (x := w24) (y := 3486998266802970665) h24 rfl b24 (by decide) fun w37 w38 h37 h38 e37 b37 b38 => ?_
 refine vc_a64 (x := 0) (y := w38) (z := w36) rfl h38 h36 (by decide) b38 b36 fun w39 w40 h39 h40 e39 b39 b40 => ?_
 refine vc_a64 (x := w37) (y := 0) (z := w40) h37 rfl h40 b37 (by decide) b40 fun w41 w42 h41 h42 e41 b41 b42 => ?_
 refine vc_a64 (x := w25) (y := w31) (z := 0) h25 h31 rfl b25 b31 (by decide) fun w43 w44 h43 h44 e43 b43 b44 => ?_
 refine vc_a64 (x := w29) (y := w35) (z := w44) h29 h35 h44 b29 b35 b44 fun w45 w46 h45 h46 e45 b45 b46 => ?_
 refine vc_a64 (x := w33) (y := w39) (z := w46) h33 h39 h46 b33 b39 b46 fun w47 w48 h47 h48 e47 b47 b48 => ?_
 refine vc_a64 (x := w22) (y := 0) (z := w48) h22 rfl h48 b22 (by decide) b48 fun w49 w50 h49 h50 e49 b49 b50 => ?_
 refine vc_a64 (x := w20) (y := w47) (z := 0) h20 h47 rfl b20 b47 (by decide) fun w51 w52 h51 h52 e51 b51 b52 => ?_
 refine vc_a64 (x := w41) (y := w49) (z := w52) h41 h49 h52 b41 b49 b52 fun w53 w54 h53 h54 e53 b53 b54 => ?_
 refine vc_m64 (x := x1) (y := y0) h1 h4 b1 b4 fun w55 w56 h55 h56 e55 b55 b56 => ?_
 refine vc_a64 (x := w56) (y := w43) (z := 0) h56 h43 rfl b56 b43 (by decide) fun w57 w58 h57 h58 e57 b57 b58 => ?_
 refine vc_m64 (x := x1) (y := y1) h1 h5 b1 b5 fun w59 w60 h59 h60 e59 b59 b60 => ?_
 refine vc_a64 (x := w60) (y := w45) (z := w58) h60 h45 h58 b60 b45 b58 fun w61 w62 h61 h62 e61 b61 b62 => ?_
 refine vc_m64 (x := x1) (y := y2) h1 h6 b1 b6 fun w63 w64 h63 h64 e63 b63 b64 => ?_
 refine vc_a64 (x := w64) (y := w51) (z := w62) h64 h51 h62 b64 b51 b62 fun w65 w66 h65 h66 e65 b65 b66 => ?_
 refine vc_m64 (x := x1) (y := y3) h1 h7 b1 b7 fun w67 w68 h67 h68 e67 b67 b68 => ?_
 refine vc_a64 (x := w68) (y := w53) (z := w66) h68 h53 h66 b68 b53 b66 fun w69 w70 h69 h70 e69 b69 b70 => ?_
 refine vc_a64 (x := 0) (y := 0) (z := w70) rfl rfl h70 (by decide) (by decide) b70 fun w71 w72 h71 h72 e71 b71 b72 => ?_
 refine vc_a64 (x := w55) (y := w61) (z := 0) h55 h61 rfl b55 b61 (by decide) fun w73 w74 h73 h74 e73 b73 b74 => ?_
 refine vc_a64 (x := w59) (y := w65) (z := w74) h59 h65 h74 b59 b65 b74 fun w75 w76 h75 h76 e75 b75 b76 => ?_
 refine vc_a64 (x := w63) (y := w69) (z := w76) h63 h69 h76 b63 b69 b76 fun w77 w78 h77 h78 e77 b77 b78 => ?_
 refine vc_a64 (x := w67) (y := w71) (z := w78) h67 h71 h78 b67 b71 b78 fun w79 w80 h79 h80 e79 b79 b80 => ?_
 refine vc_mul (x := 14042775128853446655) (y := w57) rfl h57 fun w81 h81 e81 b81 => ?_
 refine vc_m64 (x := w81) (y := 4891460686036598785) h81 rfl b81 (by decide) fun w82 w83 h82 h83 e82 b82 b83 => ?_
 refine vc_a64 (x := w57) (y := w83) (z := 0) h57 h83 rfl b57 b83 (by decide) fun w84 w85 h84 h85 e84 b84 b85 => ?_
 refine vc_m64 (x := w81) (y := 2896914383306846353) h81 rfl b81 (by decide) fun w86 w87 h86 h87 e86 b86 b87 => ?_
 refine vc_a64 (x := w73) (y := w87) (z := w85) h73 h87 h85 b73 b87 b85 fun w88 w89 h88 h89 e88 b88 b89 => ?_
 refine vc_m64 (x := w81) (y := 13281191951274694749) h81 rfl b81 (by decide) fun w90 w91 h90 h91 e90 b90 b91 => ?_
 refine vc_a64 (x := w75) (y := w91) (z := w89) h75 h91 h89 b75 b91 b89 fun w92 w93 h92 h93 e92 b92 b93 => ?_
 refine vc_m64 (x := w81) (y := 3486998266802970665) h81 rfl b81 (by decide) fun w94 w95 h94 h95 e94 b94 b95 => ?_
 refine vc_a64 (x := 0) (y := w95) (z := w93) rfl h95 h93 (by decide) b95 b93 fun w96 w97 h96 h97 e96 b96 b97 => ?_
 refine vc_a64 (x := w94) (y := 0) (z := w97) h94 rfl h97 b94 (by decide) b97 fun w98 w99 h98 h99 e98 b98 b99 => ?_
 refine vc_a64 (x := w82) (y := w88) (z := 0) h82 h88 rfl b82 b88 (by decide) fun w100 w101 h100 h101 e100 b100 b101 => ?_
 refine vc_a64 (x := w86) (y := w92) (z := w101) h86 h92 h101 b86 b92 b101 fun w102 w103 h102 h103 e102 b102 b103 => ?_
 refine vc_a64 (x := w90) (y := w96) (z := w103) h90 h96 h103 b90 b96 b103 fun w104 w105 h104 h105 e104 b104 b105 => ?_
 refine vc_a64 (x := w79) (y := 0) (z := w105) h79 rfl h105 b79 (by decide) b105 fun w106 w107 h106 h107 e106 b106 b107 => ?_
 refine vc_a64 (x := w77) (y := w104) (z := 0) h77 h104 rfl b77 b104 (by decide) fun w108 w109 h108 h109 e108 b108 b109 => ?_
 refine vc_a64 (x := w98) (y := w106) (z := w109) h98 h106 h109 b98 b106 b109 fun w110 w111 h110 h111 e110 b110 b111 => ?_
 refine vc_m64 (x := x2) (y := y0) h2 h4 b2 b4 fun w112 w113 h112 h113 e112 b112 b113 => ?_
 refine vc_a64 (x := w113) (y := w100) (z := 0) h113 h100 rfl b113 b100 (by decide) fun w114 w115 h114 h115 e114 b114 b115 => ?_
 refine vc_m64 (x := x2) (y := y1) h2 h5 b2 b5 fun w116 w117 h116 h117 e116 b116 b117 => ?_
 refine vc_a64 (x := w117) (y := w102) (z := w115) h117 h102 h115 b117 b102 b115 fun w118 w119 h118 h119 e118 b118 b119 => ?_
 refine vc_m64 (x := x2) (y := y2) h2 h6 b2 b6 fun w120 w121 h120 h121 e120 b120 b121 => ?_
 refine vc_a64 (x := w121) (y := w108) (z := w119) h121 h108 h119 b121 b108 b119 fun w122 w123 h122 h123 e122 b122 b123 => ?_
 refine vc_m64 (x := x2) (y := y3) h2 h7 b2 b7 fun w124 w125 h124 h125 e124 b124 b125 => ?_
 refine vc_a64 (x := w125) (y := w110) (z := w123) h125 h110 h123 b125 b110 b123 fun w126 w127 h126 h127 e126 b126 b127 => ?_
 refine vc_a64 (x := 0) (y := 0) (z := w127) rfl rfl h127 (by decide) (by decide) b127 fun w128 w129 h128 h129 e128 b128 b129 => ?_
 refine vc_a64 (x := w112) (y := w118) (z := 0) h112 h118 rfl b112 b118 (by decide) fun w130 w131 h130 h131 e130 b130 b131 => ?_
 refine vc_a64 (x := w116) (y := w122) (z := w131) h116 h122 h131 b116 b122 b131 fun w132 w133 h132 h133 e132 b132 b133 => ?_
 refine vc_a64 (x := w120) (y := w126) (z := w133) h120 h126 h133 b120 b126 b133 fun w134 w135 h134 h135 e134 b134 b135 => ?_
 refine vc_a64 (x := w124) (y := w128) (z := w135) h124 h128 h135 b124 b128 b135 fun w136 w137 h136 h137 e136 b136 b137 => ?_
 refine vc_mul (x := 14042775128853446655) (y := w114) rfl h114 fun w138 h138 e138 b138 => ?_
 refine vc_m64 (x := w138) (y := 4891460686036598785) h138 rfl b138 (by decide) fun w139 w140 h139 h140 e139 b139 b140 => ?_
 refine vc_a64 (x := w114) (y := w140) (z := 0) h114 h140 rfl b114 b140 (by decide) fun w141 w142 h141 h142 e141 b141 b142 => ?_
 refine vc_m64 (x := w138) (y := 2896914383306846353) h138 rfl b138 (by decide) fun w143 w144 h143 h144 e143 b143 b144 => ?_
 refine vc_a64 (x := w130) (y := w144) (z := w142) h130 h144 h142 b130 b144 b142 fun w145 w146 h145 h146 e145 b145 b146 => ?_
 refine vc_m64 (x := w138) (y := 13281191951274694749) h138 rfl b138 (by decide) fun w147 w148 h147 h148 e147 b147 b148 => ?_
 refine vc_a64 (x := w132) (y := w148) (z := w146) h132 h148 h146 b132 b148 b146 fun w149 w150 h149 h150 e149 b149 b150 => ?_
 refine vc_m64 (x := w138) (y := 3486998266802970665) h138 rfl b138 (by decide) fun w151 w152 h151 h152 e151 b151 b152 => ?_
 refine vc_a64 (x := 0) (y := w152) (z := w150) rfl h152 h150 (by decide) b152 b150 fun w153 w154 h153 h154 e153 b153 b154 => ?_
 refine vc_a64 (x := w151) (y := 0) (z := w154) h151 rfl h154 b151 (by decide) b154 fun w155 w156 h155 h156 e155 b155 b156 => ?_
 refine vc_a64 (x := w139) (y := w145) (z := 0) h139 h145 rfl b139 b145 (by decide) fun w157 w158 h157 h158 e157 b157 b158 => ?_
 refine vc_a64 (x := w143) (y := w149) (z := w158) h143 h149 h158 b143 b149 b158 fun w159 w160 h159 h160 e159 b159 b160 => ?_
 refine vc_a64 (x := w147) (y := w153) (z := w160) h147 h153 h160 b147 b153 b160 fun w161 w162 h161 h162 e161 b161 b162 => ?_
 refine vc_a64 (x := w136) (y := 0) (z := w162) h136 rfl h162 b136 (by decide) b162 fun w163 w164 h163 h164 e163 b163 b164 => ?_
 refine vc_a64 (x := w134) (y := w161) (z := 0) h134 h161 rfl b134 b161 (by decide) fun w165 w166 h165 h166 e165 b165 b166 => ?_
 refine vc_a64 (x := w155) (y := w163) (z := w166) h155 h163 h166 b155 b163 b166 fun w167 w168 h167 h168 e167 b167 b168 => ?_
 refine vc_m64 (x := x3) (y := y0) h3 h4 b3 b4 fun w169 w170 h169 h170 e169 b169 b170 => ?_
 refine vc_a64 (x := w170) (y := w157) (z := 0) h170 h157 rfl b170 b157 (by decide) fun w171 w172 h171 h172 e171 b171 b172 => ?_
 refine vc_m64 (x := x3) (y := y1) h3 h5 b3 b5 fun w173 w174 h173 h174 e173 b173 b174 => ?_
 refine vc_a64 (x := w174) (y := w159) (z := w172) h174 h159 h172 b174 b159 b172 fun w175 w176 h175 h176 e175 b175 b176 => ?_
 refine vc_m64 (x := x3) (y := y2) h3 h6 b3 b6 fun w177 w178 h177 h178 e177 b177 b178 => ?_
 refine vc_a64 (x := w178) (y := w165) (z := w176) h178 h165 h176 b178 b165 b176 fun w179 w180 h179 h180 e179 b179 b180 => ?_
 refine vc_m64 (x := x3) (y := y3) h3 h7 b3 b7 fun w181 w182 h181 h182 e181 b181 b182 => ?_
 refine vc_a64 (x := w182) (y := w167) (z := w180) h182 h167 h180 b182 b167 b180 fun w183 w184 h183 h184 e183 b183 b184 => ?_
 refine vc_a64 (x := 0) (y := 0) (z := w184) rfl rfl h184 (by decide) (by decide) b184 fun w185 w186 h185 h186 e185 b185 b186 => ?_
 refine vc_a64 (x := w169) (y := w175) (z := 0) h169 h175 rfl b169 b175 (by decide) fun w187 w188 h187 h188 e187 b187 b188 => ?_
 refine vc_a64 (x := w173) (y := w179) (z := w188) h173 h179 h188 b173 b179 b188 fun w189 w190 h189 h190 e189 b189 b190 => ?_
 refine vc_a64 (x := w177) (y := w183) (z := w190) h177 h183 h190 b177 b183 b190 fun w191 w192 h191 h192 e191 b191 b192 => ?_
 refine vc_a64 (x := w181) (y := w185) (z := w192) h181 h185 h192 b181 b185 b192 fun w193 w194 h193 h194 e193 b193 b194 => ?_
 refine vc_mul (x := 14042775128853446655) (y := w171) rfl h171 fun w195 h195 e195 b195 => ?_
 refine vc_m64 (x := w195) (y := 4891460686036598785) h195 rfl b195 (by decide) fun w196 w197 h196 h197 e196 b196 b197 => ?_
 refine vc_a64 (x := w171) (y := w197) (z := 0) h171 h197 rfl b171 b197 (by decide) fun w198 w199 h198 h199 e198 b198 b199 => ?_
 refine vc_m64 (x := w195) (y := 2896914383306846353) h195 rfl b195 (by decide) fun w200 w201 h200 h201 e200 b200 b201 => ?_
 refine vc_a64 (x := w187) (y := w201) (z := w199) h187 h201 h199 b187 b201 b199 fun w202 w203 h202 h203 e202 b202 b203 => ?_
 refine vc_m64 (x := w195) (y := 13281191951274694749) h195 rfl b195 (by decide) fun w204 w205 h204 h205 e204 b204 b205 => ?_
 refine vc_a64 (x := w189) (y := w205) (z := w203) h189 h205 h203 b189 b205 b203 fun w206 w207 h206 h207 e206 b206 b207 => ?_
 refine vc_m64 (x := w195) (y := 3486998266802970665) h195 rfl b195 (by decide) fun w208 w209 h208 h209 e208 b208 b209 => ?_
 refine vc_a64 (x := 0) (y := w209) (z := w207) rfl h209 h207 (by decide) b209 b207 fun w210 w211 h210 h211 e210 b210 b211 => ?_
 refine vc_a64 (x := w208) (y := 0) (z := w211) h208 rfl h211 b208 (by decide) b211 fun w212 w213 h212 h213 e212 b212 b213 => ?_
 refine vc_a64 (x := w196) (y := w202) (z := 0) h196 h202 rfl b196 b202 (by decide) fun w214 w215 h214 h215 e214 b214 b215 => ?_
 refine vc_a64 (x := w200) (y := w206) (z := w215) h200 h206 h215 b200 b206 b215 fun w216 w217 h216 h217 e216 b216 b217 => ?_
 refine vc_a64 (x := w204) (y := w210) (z := w217) h204 h210 h217 b204 b210 b217 fun w218 w219 h218 h219 e218 b218 b219 => ?_
 refine vc_a64 (x := w193) (y := 0) (z := w219) h193 rfl h219 b193 (by decide) b219 fun w220 w221 h220 h221 e220 b220 b221 => ?_
 refine vc_a64 (x := w191) (y := w218) (z := 0) h191 h218 rfl b191 b218 (by decide) fun w222 w223 h222 h223 e222 b222 b223 => ?_
 refine vc_a64 (x := w212) (y := w220) (z := w223) h212 h220 h223 b212 b220 b223 fun w224 w225 h224 h225 e224 b224 b225 => ?_
 have A0 := half_a0 b0 b4 b5 b6 b7 e8 e10 e12 e14 e16 e18 e20 e22
 have S0 := round_S (show (0 : Nat) < 2 * frQ by decide) b0 b24 hY
 rw [<- A0] at S0
 have B0 := half_b e24 S0 e25 e27 e29 e31 e33 e35 e37 e39 e41 e43 e45 e47 e49 e51 e53
 rw [A0] at B0
 have L0 := round_T (show (0 : Nat) < 2 * frQ by decide) b0 b24 hY B0
 have A1 := half_a b1 b4 b5 b6 b7 b43 b45 b51 b53 e55 e57 e59 e61 e63 e65 e67 e69 e71 e73 e75 e77 e79
 have S1 := round_S L0 b1 b81 hY
 rw [<- A1] at S1
 have B1 := half_b e81 S1 e82 e84 e86 e88 e90 e92 e94 e96 e98 e100 e102 e104 e106 e108 e110
 rw [A1] at B1
 have L1 := round_T L0 b1 b81 hY B1
 have A2 := half_a b2 b4 b5 b6 b7 b100 b102 b108 b110 e112 e114 e116 e118 e120 e122 e124 e126 e128 e130 e132 e134 e136
 have S2 := round_S L1 b2 b138 hY
 rw [<- A2] at S2
 have B2 := half_b e138 S2 e139 e141 e143 e145 e147 e149 e151 e153 e155 e157 e159 e161 e163 e165 e167
 rw [A2] at B2
 have L2 := round_T L1 b2 b138 hY B2
 have A3 := half_a b3 b4 b5 b6 b7 b157 b159 b165 b167 e169 e171 e173 e175 e177 e179 e181 e183 e185 e187 e189 e191 e193
 have S3 := round_S L2 b3 b195 hY
 rw [<- A3] at S3
 have B3 := half_b e195 S3 e196 e198 e200 e202 e204 e206 e208 e210 e212 e214 e216 e218 e220 e222 e224
 rw [A3] at B3
 have L3 := round_T L2 b3 b195 hY B3
 have E := mont_fin (rounds B0 B1 B2 B3)
 refine vc_lt h214 h216 h222 h224 (fun hlt hb => ?_) (fun hlt hb => ?_)
 ·refine vc_nt hb fun hn => vc_br0 hn ?_
  rw [Nat.mod_eq_of_lt hlt] at E
  exact hfin _ hlt E _ _ ⟨rfl, _, _, _, _, _, _, _, _, rfl, h214, h216, h222, h224, b214, b216, b222, b224, rfl⟩
 ·refine vc_nt hb fun hn => vc_br1 hn ?_
  refine vc_s64 (x := w214) (y := 4891460686036598785) (z := 0) h214 rfl rfl b214 (by decide) (by decide) fun w228 w229 h228 h229 e228 b228 b229 => ?_
  refine vc_s64 (x := w216) (y := 2896914383306846353) (z := w229) h216 rfl h229 b216 (by decide) b229 fun w230 w231 h230 h231 e230 b230 b231 => ?_
  refine vc_s64 (x := w222) (y := 13281191951274694749) (z := w231) h222 rfl h231 b222 (by decide) b231 fun w232 w233 h232 h233 e232 b232 b233 => ?_
  refine vc_s64 (x := w224) (y := 3486998266802970665) (z := w233) h224 rfl h233 b224 (by decide) b233 fun w234 w235 h234 h235 e234 b234 b235 => ?_
  have F := fin_sub b214 b216 b222 b224 L3 hlt e228 e230 e232 e234
  rw [mod_sub_once L3 hlt, <- F] at E
  have hlt2 := lt_sub_once L3 hlt
  rw [<- F] at hlt2
  exact hfin _ hlt2 E _ _ ⟨rfl, _, _, _, _, _, _, _, _, rfl, h228, h230, h232, h234, b228, b230, b232, b234, rfl⟩
end
end Go.Eng
