/-
 The field: products, sums and opposites of any elements (Montgomery form), as contracts.
-/
import Derived.Test.YtajgaijilkfjnaaGreatDoorProg
import Derived.WalkKit
import Derived.Test.YtajgaijilkfjnaaGreatDoorS2
import Derived.Test.YtajgaijilkfjnaaGreatDoorE6
import Derived.Test.YtajgaijilkfjnaaGreatDoorA3
set_option linter.unusedVariables false
set_option linter.unusedSimpArgs false
namespace Go.Eng
set_option maxRecDepth 100000
def frQ : Nat := 21888242871839275222246405745257275088548364400416034343698204186575808495617
def q0 : Nat := 4891460686036598785
def q1 : Nat := 2896914383306846353
def q2 : Nat := 13281191951274694749
def q3 : Nat := 3486998266802970665
def val4 (a b c d : Nat) : Nat := a + b * 18446744073709551616 + c * 340282366920938463463374607431768211456 + d * 6277101735386680763835789423207666416102355444464034512896
theorem q_val : val4 q0 q1 q2 q3 = frQ := by decide
def M64 (x y h l : Nat) : Prop := h * 18446744073709551616 + l = x * y /\ l < 18446744073709551616
def A64 (x y c s d : Nat) : Prop := s + 18446744073709551616 * d = x + y + c /\ s < 18446744073709551616 /\ d <= 1
theorem ch4 {a0 a1 a2 a3 b0 b1 b2 b3 s0 s1 s2 s3 c0 c1 c2 c3 : Nat} (e0 : s0 + 18446744073709551616 * c0 = a0 + b0) (e1 : s1 + 18446744073709551616 * c1 = a1 + b1 + c0) (e2 : s2 + 18446744073709551616 * c2 = a2 + b2 + c1) (e3 : s3 + 18446744073709551616 * c3 = a3 + b3 + c2) :
  val4 s0 s1 s2 s3 + c3 * 115792089237316195423570985008687907853269984665640564039457584007913129639936 = val4 a0 a1 a2 a3 + val4 b0 b1 b2 b3 := by
 unfold val4; omega
theorem ch3 {a0 a1 a2 b0 b1 b2 s0 s1 s2 c0 c1 c2 : Nat} (e0 : s0 + 18446744073709551616 * c0 = a0 + b0) (e1 : s1 + 18446744073709551616 * c1 = a1 + b1 + c0) (e2 : s2 + 18446744073709551616 * c2 = a2 + b2 + c1) :
  s0 + s1 * 18446744073709551616 + s2 * 340282366920938463463374607431768211456 + c2 * 6277101735386680763835789423207666416102355444464034512896 = (a0 + a1 * 18446744073709551616 + a2 * 340282366920938463463374607431768211456) + (b0 + b1 * 18446744073709551616 + b2 * 340282366920938463463374607431768211456) := by
 omega
theorem mul4 (v a b c d : Nat) : v * val4 a b c d = v * a + (v * b) * 18446744073709551616 + (v * c) * 340282366920938463463374607431768211456 + (v * d) * 6277101735386680763835789423207666416102355444464034512896 := by
 unfold val4; simp only [Nat.mul_add, <- Nat.mul_assoc]
theorem mul_parts {v y0 y1 y2 y3 u0 u1 u2 u3 l0 l1 l2 l3 : Nat} (m0 : u0 * 18446744073709551616 + l0 = v * y0) (m1 : u1 * 18446744073709551616 + l1 = v * y1) (m2 : u2 * 18446744073709551616 + l2 = v * y2) (m3 : u3 * 18446744073709551616 + l3 = v * y3) :
  v * val4 y0 y1 y2 y3 = val4 l0 l1 l2 l3 + 18446744073709551616 * val4 u0 u1 u2 u3 := by
 rw [mul4]
 generalize v * y0 = p0 at *
 generalize v * y1 = p1 at *
 generalize v * y2 = p2 at *
 generalize v * y3 = p3 at *
 unfold val4
 omega
theorem val4_lt {a b c d : Nat} (ha : a < 18446744073709551616) (hb : b < 18446744073709551616) (hc : c < 18446744073709551616) (hd : d < 18446744073709551616) : val4 a b c d < 115792089237316195423570985008687907853269984665640564039457584007913129639936 := by
 unfold val4; omega
def sh3 (a b c : Nat) : Nat := a * 18446744073709551616 + b * 340282366920938463463374607431768211456 + c * 6277101735386680763835789423207666416102355444464034512896
theorem val4_sh (a b c d : Nat) : val4 a b c d = a + sh3 b c d := by unfold val4 sh3; omega
theorem sh3_of {r1 r2 r3 b3 u0 u1 u2 s1 s2 s3 : Nat}
  (h2 : r1 + r2 * 18446744073709551616 + r3 * 340282366920938463463374607431768211456 + b3 * 6277101735386680763835789423207666416102355444464034512896 = (u0 + u1 * 18446744073709551616 + u2 * 340282366920938463463374607431768211456) + (s1 + s2 * 18446744073709551616 + s3 * 340282366920938463463374607431768211456)) :
  sh3 r1 r2 r3 + b3 * 115792089237316195423570985008687907853269984665640564039457584007913129639936 = sh3 u0 u1 u2 + sh3 s1 s2 s3 := by
 unfold sh3
 have h5 := congrArg (fun x => 18446744073709551616 * x) h2
 simp only [Nat.mul_add] at h5
 clear h2
 omega
theorem val4_up (a b c d : Nat) : 18446744073709551616 * val4 a b c d = sh3 a b c + d * 115792089237316195423570985008687907853269984665640564039457584007913129639936 := by
 unfold val4 sh3; omega
theorem lin_a {s0 S a L T R b U u : Nat} (h1 : s0 + S + a = L + T) (h4 : R + b = U + S) : s0 + R + (u + a + b) = T + (L + (U + u)) := by omega
theorem half_a_eq {t0 t1 t2 t3 u0 u1 u2 u3 l0 l1 l2 l3 s0 s1 s2 s3 a3 r1 r2 r3 b3 E : Nat}
  (h1 : val4 s0 s1 s2 s3 + a3 * 115792089237316195423570985008687907853269984665640564039457584007913129639936 = val4 l0 l1 l2 l3 + val4 t0 t1 t2 t3)
  (h2 : r1 + r2 * 18446744073709551616 + r3 * 340282366920938463463374607431768211456 + b3 * 6277101735386680763835789423207666416102355444464034512896 = (u0 + u1 * 18446744073709551616 + u2 * 340282366920938463463374607431768211456) + (s1 + s2 * 18446744073709551616 + s3 * 340282366920938463463374607431768211456))
  (h3 : E = u3 + a3 + b3) :
  val4 s0 r1 r2 r3 + E * 115792089237316195423570985008687907853269984665640564039457584007913129639936 = val4 t0 t1 t2 t3 + (val4 l0 l1 l2 l3 + 18446744073709551616 * val4 u0 u1 u2 u3) := by
 rw [h3, val4_up, val4_sh s0 r1 r2 r3, Nat.add_mul, Nat.add_mul]
 rw [val4_sh s0 s1 s2 s3] at h1
 exact lin_a h1 (sh3_of h2)
theorem half_a {t0 t1 t2 t3 v y0 y1 y2 y3 u0 u1 u2 u3 l0 l1 l2 l3 s0 s1 s2 s3 a0 a1 a2 a3 cz cw r1 r2 r3 b1 b2 b3 c2 dd : Nat}
  (hv : v < 18446744073709551616) (hy0 : y0 < 18446744073709551616) (hy1 : y1 < 18446744073709551616) (hy2 : y2 < 18446744073709551616) (hy3 : y3 < 18446744073709551616)
  (ht0 : t0 < 18446744073709551616) (ht1 : t1 < 18446744073709551616) (ht2 : t2 < 18446744073709551616) (ht3 : t3 < 18446744073709551616)
  (m0 : M64 v y0 u0 l0) (e0 : A64 l0 t0 0 s0 a0) (m1 : M64 v y1 u1 l1) (e1 : A64 l1 t1 a0 s1 a1) (m2 : M64 v y2 u2 l2) (e2 : A64 l2 t2 a1 s2 a2) (m3 : M64 v y3 u3 l3) (e3 : A64 l3 t3 a2 s3 a3)
  (ez : A64 0 0 a3 cz cw) (f1 : A64 u0 s1 0 r1 b1) (f2 : A64 u1 s2 b1 r2 b2) (f3 : A64 u2 s3 b2 r3 b3) (f4 : A64 u3 cz b3 c2 dd) :
  val4 s0 r1 r2 r3 + c2 * 115792089237316195423570985008687907853269984665640564039457584007913129639936 = val4 t0 t1 t2 t3 + v * val4 y0 y1 y2 y3 := by
 have hz : cz = a3 := by have := ez.1; have := ez.2.1; have := e3.2.2; omega
 have hp := mul_parts m0.1 m1.1 m2.1 m3.1
 have g1 : r1 + 18446744073709551616 * b1 = u0 + s1 := f1.1
 have g0 : s0 + 18446744073709551616 * a0 = l0 + t0 := e0.1
 have h1 := ch4 g0 e1.1 e2.1 e3.1
 have h2 := ch3 g1 f2.1 f3.1
 have h3 : c2 + 18446744073709551616 * dd = u3 + a3 + b3 := by have := f4.1; omega
 have h4 := half_a_eq h1 h2 h3
 rw [<- hp] at h4
 have hT := val4_lt ht0 ht1 ht2 ht3
 have hY := val4_lt hy0 hy1 hy2 hy3
 have hvY : v * val4 y0 y1 y2 y3 <= 18446744073709551615 * 115792089237316195423570985008687907853269984665640564039457584007913129639935 := Nat.mul_le_mul (by omega) (by omega)
 generalize v * val4 y0 y1 y2 y3 = X at *
 generalize val4 t0 t1 t2 t3 = T at *
 generalize val4 s0 r1 r2 r3 = R at *
 clear m0 e0 m1 e1 m2 e2 m3 e3 ez f1 f2 f3 f4 h1 h2 h3 hp
 have hd : dd = 0 := by omega
 subst hd
 omega
theorem half_b_eq {t0 t1 t2 t3 c2 u0 u1 u2 u3 l0 l1 l2 l3 z s0 s1 s2 a3 u3' d1 r0 r1 r2 b2 c2' d2 r2' b3 r3 d3 : Nat}
  (h1 : val4 z s0 s1 s2 + a3 * 115792089237316195423570985008687907853269984665640564039457584007913129639936 = val4 t0 t1 t2 0 + val4 l0 l1 l2 l3)
  (g : u3' + 18446744073709551616 * d1 = u3 + a3)
  (h2 : r0 + r1 * 18446744073709551616 + r2 * 340282366920938463463374607431768211456 + b2 * 6277101735386680763835789423207666416102355444464034512896 = (u0 + u1 * 18446744073709551616 + u2 * 340282366920938463463374607431768211456) + (s0 + s1 * 18446744073709551616 + s2 * 340282366920938463463374607431768211456))
  (k : c2' + 18446744073709551616 * d2 = c2 + b2) (h : r2' + 18446744073709551616 * b3 = t3 + r2) (j : r3 + 18446744073709551616 * d3 = u3' + c2' + b3) :
  z + 18446744073709551616 * val4 r0 r1 r2' r3 + (d1 + d2 + d3) * 2135987035920910082395021706169552114602704522356652769947041607822219725780640550022962086936576 = val4 t0 t1 t2 t3 + c2 * 115792089237316195423570985008687907853269984665640564039457584007913129639936 + (val4 l0 l1 l2 l3 + 18446744073709551616 * val4 u0 u1 u2 u3) := by
 unfold val4 at *; omega
theorem half_b {t0 t1 t2 t3 c2 m u0 u1 u2 u3 l0 l1 l2 l3 z a0 s0 a1 s1 a2 s2 a3 u3' d1 r0 b0 r1 b1 r2 b2 c2' d2 r2' b3 r3 d3 : Nat}
  (hm : m = 14042775128853446655 * t0 % 18446744073709551616)
  (hS : val4 t0 t1 t2 t3 + c2 * 115792089237316195423570985008687907853269984665640564039457584007913129639936 + m * frQ < 2135987035920910082395021706169552114602704522356652769947041607822219725780640550022962086936576)
  (m0 : M64 m q0 u0 l0) (e0 : A64 t0 l0 0 z a0) (m1 : M64 m q1 u1 l1) (e1 : A64 t1 l1 a0 s0 a1) (m2 : M64 m q2 u2 l2) (e2 : A64 t2 l2 a1 s1 a2) (m3 : M64 m q3 u3 l3) (e3 : A64 0 l3 a2 s2 a3)
  (g : A64 u3 0 a3 u3' d1) (f0 : A64 u0 s0 0 r0 b0) (f1 : A64 u1 s1 b0 r1 b1) (f2 : A64 u2 s2 b1 r2 b2) (k : A64 c2 0 b2 c2' d2) (h : A64 t3 r2 0 r2' b3) (j : A64 u3' c2' b3 r3 d3) :
  18446744073709551616 * val4 r0 r1 r2' r3 = val4 t0 t1 t2 t3 + c2 * 115792089237316195423570985008687907853269984665640564039457584007913129639936 + m * frQ := by
 have hp := mul_parts m0.1 m1.1 m2.1 m3.1
 rw [q_val] at hp
 have g0 : z + 18446744073709551616 * a0 = t0 + l0 := e0.1
 have g1 : r0 + 18446744073709551616 * b0 = u0 + s0 := f0.1
 have h1 := ch4 g0 e1.1 e2.1 e3.1
 have h2 := ch3 g1 f1.1 f2.1
 have g2 : u3' + 18446744073709551616 * d1 = u3 + a3 := g.1
 have g3 : c2' + 18446744073709551616 * d2 = c2 + b2 := k.1
 have g4 : r2' + 18446744073709551616 * b3 = t3 + r2 := h.1
 have h4 := half_b_eq h1 g2 h2 g3 g4 j.1
 rw [<- hp] at h4
 have hz : z = 0 := by
  have x1 := m0.1
  have x2 := e0.1
  have x3 := e0.2.1
  unfold q0 at x1
  clear h4 hp h1 h2 hS m0 e0 m1 e1 m2 e2 m3 e3 g f0 f1 f2 k h j
  omega
 generalize val4 r0 r1 r2' r3 = R at *
 generalize val4 t0 t1 t2 t3 + c2 * 115792089237316195423570985008687907853269984665640564039457584007913129639936 + m * frQ = S at *
 clear m0 e0 m1 e1 m2 e2 m3 e3 g f0 f1 f2 k h j h1 h2 hp hm
 subst hz
 omega
end Go.Eng
namespace Go.Eng
set_option maxRecDepth 100000
theorem half_a0 {v y0 y1 y2 y3 u0 u1 u2 u3 l0 l1 l2 l3 r1 r2 r3 b1 b2 b3 c2 dd : Nat}
  (hv : v < 18446744073709551616) (hy0 : y0 < 18446744073709551616) (hy1 : y1 < 18446744073709551616) (hy2 : y2 < 18446744073709551616) (hy3 : y3 < 18446744073709551616)
  (m0 : M64 v y0 u0 l0) (m1 : M64 v y1 u1 l1) (m2 : M64 v y2 u2 l2) (m3 : M64 v y3 u3 l3) (f1 : A64 u0 l1 0 r1 b1) (f2 : A64 u1 l2 b1 r2 b2) (f3 : A64 u2 l3 b2 r3 b3) (f4 : A64 u3 0 b3 c2 dd) :
  val4 l0 r1 r2 r3 + c2 * 115792089237316195423570985008687907853269984665640564039457584007913129639936 = 0 + v * val4 y0 y1 y2 y3 := by
 have hp := mul_parts m0.1 m1.1 m2.1 m3.1
 have g1 : r1 + 18446744073709551616 * b1 = u0 + l1 := f1.1
 have h2 := sh3_of (ch3 g1 f2.1 f3.1)
 have h3 : c2 + 18446744073709551616 * dd = u3 + b3 := by have := f4.1; omega
 have hY := val4_lt hy0 hy1 hy2 hy3
 have hvY : v * val4 y0 y1 y2 y3 <= 18446744073709551615 * 115792089237316195423570985008687907853269984665640564039457584007913129639935 := Nat.mul_le_mul (by omega) (by omega)
 rw [val4_up, val4_sh l0 l1 l2 l3] at hp
 rw [val4_sh l0 r1 r2 r3]
 generalize v * val4 y0 y1 y2 y3 = X at *
 generalize sh3 r1 r2 r3 = R at *
 generalize sh3 l1 l2 l3 = L at *
 generalize sh3 u0 u1 u2 = U at *
 clear m0 m1 m2 m3 f1 f2 f3 f4 g1
 have hd : dd = 0 := by omega
 subst hd
 omega
theorem round_lt {T v m Y : Nat} (hT : T < 2 * frQ) (hv : v < 18446744073709551616) (hm : m < 18446744073709551616) (hY : Y < frQ) : T + v * Y + m * frQ < 36893488147419103232 * frQ := by
 have h1 : v * Y <= 18446744073709551615 * frQ := Nat.mul_le_mul (by omega) (by omega)
 unfold frQ at *
 omega
theorem round_S {T v m Y : Nat} (hT : T < 2 * frQ) (hv : v < 18446744073709551616) (hm : m < 18446744073709551616) (hY : Y < frQ) : T + v * Y + m * frQ < 2135987035920910082395021706169552114602704522356652769947041607822219725780640550022962086936576 :=
 Nat.lt_trans (round_lt hT hv hm hY) (by unfold frQ; decide)
theorem round_T {T v m Y T' : Nat} (hT : T < 2 * frQ) (hv : v < 18446744073709551616) (hm : m < 18446744073709551616) (hY : Y < frQ) (h : 18446744073709551616 * T' = T + v * Y + m * frQ) : T' < 2 * frQ := by
 have := round_lt hT hv hm hY
 rw [<- h] at this
 unfold frQ at *
 omega
theorem rounds {x0 x1 x2 x3 m0 m1 m2 m3 Y T1 T2 T3 T4 : Nat} (e0 : 18446744073709551616 * T1 = 0 + x0 * Y + m0 * frQ) (e1 : 18446744073709551616 * T2 = T1 + x1 * Y + m1 * frQ) (e2 : 18446744073709551616 * T3 = T2 + x2 * Y + m2 * frQ) (e3 : 18446744073709551616 * T4 = T3 + x3 * Y + m3 * frQ) :
  115792089237316195423570985008687907853269984665640564039457584007913129639936 * T4 = val4 x0 x1 x2 x3 * Y + val4 m0 m1 m2 m3 * frQ := by
 rw [Nat.mul_comm (val4 x0 x1 x2 x3), mul4, Nat.mul_comm (val4 m0 m1 m2 m3), mul4]
 rw [Nat.mul_comm x0, Nat.mul_comm m0] at e0
 rw [Nat.mul_comm x1, Nat.mul_comm m1] at e1
 rw [Nat.mul_comm x2, Nat.mul_comm m2] at e2
 rw [Nat.mul_comm x3, Nat.mul_comm m3] at e3
 generalize Y * x0 = p0 at *
 generalize Y * x1 = p1 at *
 generalize Y * x2 = p2 at *
 generalize Y * x3 = p3 at *
 generalize frQ * m0 = k0 at *
 generalize frQ * m1 = k1 at *
 generalize frQ * m2 = k2 at *
 generalize frQ * m3 = k3 at *
 omega
def S64 (x y c s d : Nat) : Prop := s + y + c = x + 18446744073709551616 * d /\ s < 18446744073709551616 /\ d <= 1
theorem sub4 {a0 a1 a2 a3 b0 b1 b2 b3 s0 s1 s2 s3 c0 c1 c2 c3 : Nat} (e0 : S64 a0 b0 0 s0 c0) (e1 : S64 a1 b1 c0 s1 c1) (e2 : S64 a2 b2 c1 s2 c2) (e3 : S64 a3 b3 c2 s3 c3) :
  val4 s0 s1 s2 s3 + val4 b0 b1 b2 b3 = val4 a0 a1 a2 a3 + c3 * 115792089237316195423570985008687907853269984665640564039457584007913129639936 := by
 have h0 := e0.1
 have h1 := e1.1
 have h2 := e2.1
 have h3 := e3.1
 clear e0 e1 e2 e3
 unfold val4; omega
theorem fin_sub {t0 t1 t2 t3 s0 s1 s2 s3 c0 c1 c2 c3 : Nat} (b0 : t0 < 18446744073709551616) (b1 : t1 < 18446744073709551616) (b2 : t2 < 18446744073709551616) (b3 : t3 < 18446744073709551616) (hT : val4 t0 t1 t2 t3 < 2 * frQ) (hq : ¬ val4 t0 t1 t2 t3 < frQ)
  (e0 : S64 t0 q0 0 s0 c0) (e1 : S64 t1 q1 c0 s1 c1) (e2 : S64 t2 q2 c1 s2 c2) (e3 : S64 t3 q3 c2 s3 c3) : val4 s0 s1 s2 s3 = val4 t0 t1 t2 t3 - frQ := by
 have h := sub4 e0 e1 e2 e3
 rw [q_val] at h
 have hs := val4_lt e0.2.1 e1.2.1 e2.2.1 e3.2.1
 have ht := val4_lt b0 b1 b2 b3
 have hc := e3.2.2
 generalize val4 t0 t1 t2 t3 = T at *
 generalize val4 s0 s1 s2 s3 = S at *
 clear e0 e1 e2 e3
 unfold frQ at *
 omega
def frR : Nat := 115792089237316195423570985008687907853269984665640564039457584007913129639936
def frRi : Nat := 9915499612839321149637521777990102151350674507940716049588462388200839649614
theorem mont_fin {X Y M T : Nat} (h : frR * T = X * Y + M * frQ) : frR * (T % frQ) % frQ = X * Y % frQ := by
 rw [Nat.mul_mod, Nat.mod_mod, <- Nat.mul_mod, h, Nat.add_mul_mod_self_right]
end Go.Eng
namespace Go.Eng
open Go Go.RowKit Go.Proofs
noncomputable section
set_option maxRecDepth 100000
def B64 : Int := 18446744073709551616
def x0' (xs : List Int) : Int := xs.headD 0
def x1' (xs : List Int) : Int := xs.tail.headD 0
def x2' (xs : List Int) : Int := xs.tail.tail.headD 0
def x3' (xs : List Int) : Int := xs.tail.tail.tail.headD 0
def cM64 : Ctr := ⟨86, [.val 7, .val 7], .vals [(false, [7]), (false, [7])], fun xs => [x0' xs * x1' xs / B64, x0' xs * x1' xs % B64], fun _ => True⟩
def cA64 : Ctr := ⟨87, [.val 7, .val 7, .val 7], .vals [(false, [7]), (false, [7])], fun xs => [(x0' xs + x1' xs + x2' xs) % B64, (x0' xs + x1' xs + x2' xs) / B64], fun xs => x2' xs <= 1⟩
def cS64 : Ctr := ⟨89, [.val 7, .val 7, .val 7], .vals [(false, [7]), (false, [7])], fun xs => [(x0' xs - x1' xs - x2' xs) % B64, if x0' xs < x1' xs + x2' xs then 1 else 0], fun xs => x2' xs <= 1⟩
theorem ok7 {z : Int} (h : (base.K 7).ok z) : ∃ n : Nat, n < 18446744073709551616 /\ z = (n : Int) := by
 have h1 : (0 : Int) <= z /\ z <= 18446744073709551615 := h
 exact ⟨z.toNat, by omega, by omega⟩
theorem ok7_of {n : Nat} (h : n < 18446744073709551616) : (base.K 7).ok (n : Int) := by
 have : (0 : Int) <= (n : Int) /\ (n : Int) <= 18446744073709551615 := by omega
 exact this
theorem cM64_ok : (∀ xs, oks base.K (cM64.args.flatMap ArgD.inKinds) xs -> cM64.pre xs -> oks base.K (outKinds cM64.args ++ cM64.ret.kinds) (cM64.sem xs)) /\ cM64.Sound base.K Tryz.prog := by
 have key : ∀ xs, (base.K 7).ok (x0' xs) -> (base.K 7).ok (x1' xs) -> ∃ x y : Nat, x < 18446744073709551616 /\ y < 18446744073709551616 /\ x0' xs = (x : Int) /\ x1' xs = (y : Int) /\ cM64.sem xs = [((x * y / 18446744073709551616 : Nat) : Int), ((x * y % 18446744073709551616 : Nat) : Int)] := fun xs h1 h2 => by
  obtain ⟨x, hx, ex⟩ := ok7 h1
  obtain ⟨y, hy, ey⟩ := ok7 h2
  refine ⟨x, y, hx, hy, ex, ey, ?_⟩
  show [x0' xs * x1' xs / B64, x0' xs * x1' xs % B64] = _
  rw [ex, ey]; rfl
 have ok2 : ∀ x y : Nat, x < 18446744073709551616 -> y < 18446744073709551616 -> oks base.K [7, 7] [((x * y / 18446744073709551616 : Nat) : Int), ((x * y % 18446744073709551616 : Nat) : Int)] := fun x y hx hy => by
  have h1 : x * y / 18446744073709551616 < 18446744073709551616 := by
   refine Nat.div_lt_of_lt_mul (Nat.lt_of_le_of_lt (Nat.mul_le_mul (Nat.le_of_lt_succ hx) (Nat.le_of_lt_succ hy)) (by decide))
  exact ⟨ok7_of h1, ok7_of (Nat.mod_lt _ (by decide)), trivial⟩
 refine ⟨fun xs h _ => ?_, fun w al xs h _ _ => ?_⟩
 ·obtain ⟨x, y, hx, hy, _, _, e⟩ := key xs h.1 h.2.1
  rw [e]; exact ok2 x y hx hy
 ·obtain ⟨x, y, hx, hy, ex, ey, e⟩ := key xs h.1.1 h.2.1.1
  rw [e]
  refine ⟨ok2 x y hx hy, ?_⟩
  have ha : (argVals base.K cM64.args al xs).toArray = #[.int .u64 (x : Int), .int .u64 (y : Int)] := by
   show #[Value.int .u64 (x0' xs), .int .u64 (x1' xs)] = _
   rw [ex, ey]
  rw [ha]
  exact callOK_of_calls (fn := Tryz.f86) (fnOK (by kernel_rfl)).1 (fnOK (f := 86) (by kernel_rfl)).2 (by kernel_rfl) ((Tryz.bits_Mul64 x y hx hy w).mono fun e w' ⟨h1, h2⟩ => ⟨_, h1, rfl, by rw [h2]; exact Below.refl _ _⟩)
theorem cA64_ok : (∀ xs, oks base.K (cA64.args.flatMap ArgD.inKinds) xs -> cA64.pre xs -> oks base.K (outKinds cA64.args ++ cA64.ret.kinds) (cA64.sem xs)) /\ cA64.Sound base.K Tryz.prog := by
 have key : ∀ xs, (base.K 7).ok (x0' xs) -> (base.K 7).ok (x1' xs) -> (base.K 7).ok (x2' xs) -> x2' xs <= 1 -> ∃ x y c : Nat, x < 18446744073709551616 /\ y < 18446744073709551616 /\ c <= 1 /\ x0' xs = (x : Int) /\ x1' xs = (y : Int) /\ x2' xs = (c : Int) /\ cA64.sem xs = [(((x + y + c) % 18446744073709551616 : Nat) : Int), (((x + y + c) / 18446744073709551616 : Nat) : Int)] := fun xs h1 h2 h3 h4 => by
  obtain ⟨x, hx, ex⟩ := ok7 h1
  obtain ⟨y, hy, ey⟩ := ok7 h2
  obtain ⟨c, hc, ec⟩ := ok7 h3
  refine ⟨x, y, c, hx, hy, by omega, ex, ey, ec, ?_⟩
  show [(x0' xs + x1' xs + x2' xs) % B64, (x0' xs + x1' xs + x2' xs) / B64] = _
  rw [ex, ey, ec]; rfl
 have ok2 : ∀ x y c : Nat, x < 18446744073709551616 -> y < 18446744073709551616 -> c <= 1 -> oks base.K [7, 7] [(((x + y + c) % 18446744073709551616 : Nat) : Int), (((x + y + c) / 18446744073709551616 : Nat) : Int)] := fun x y c hx hy hc =>
  ⟨ok7_of (Nat.mod_lt _ (by decide)), ok7_of (by omega), trivial⟩
 refine ⟨fun xs h hp => ?_, fun w al xs h _ hp => ?_⟩
 ·obtain ⟨x, y, c, hx, hy, hc, _, _, _, e⟩ := key xs h.1 h.2.1 h.2.2.1 hp
  rw [e]; exact ok2 x y c hx hy hc
 ·obtain ⟨x, y, c, hx, hy, hc, ex, ey, ec, e⟩ := key xs h.1.1 h.2.1.1 h.2.2.1.1 hp
  rw [e]
  refine ⟨ok2 x y c hx hy hc, ?_⟩
  have ha : (argVals base.K cA64.args al xs).toArray = #[.int .u64 (x : Int), .int .u64 (y : Int), .int .u64 (c : Int)] := by
   show #[Value.int .u64 (x0' xs), .int .u64 (x1' xs), .int .u64 (x2' xs)] = _
   rw [ex, ey, ec]
  rw [ha]
  exact .inl ⟨_, w, add64_run x y c hc w, rfl, Below.refl _ _⟩
theorem cS64_ok : (∀ xs, oks base.K (cS64.args.flatMap ArgD.inKinds) xs -> cS64.pre xs -> oks base.K (outKinds cS64.args ++ cS64.ret.kinds) (cS64.sem xs)) /\ cS64.Sound base.K Tryz.prog := by
 have key : ∀ xs, (base.K 7).ok (x0' xs) -> (base.K 7).ok (x1' xs) -> (base.K 7).ok (x2' xs) -> x2' xs <= 1 -> ∃ x y c : Nat, x < 18446744073709551616 /\ y < 18446744073709551616 /\ c <= 1 /\ x0' xs = (x : Int) /\ x1' xs = (y : Int) /\ x2' xs = (c : Int) /\ cS64.sem xs = [(((x + 18446744073709551616 - y - c) % 18446744073709551616 : Nat) : Int), (((bif Nat.blt x (y + c) then 1 else 0) : Nat) : Int)] := fun xs h1 h2 h3 h4 => by
  obtain ⟨x, hx, ex⟩ := ok7 h1
  obtain ⟨y, hy, ey⟩ := ok7 h2
  obtain ⟨c, hc, ec⟩ := ok7 h3
  refine ⟨x, y, c, hx, hy, by omega, ex, ey, ec, ?_⟩
  show [(x0' xs - x1' xs - x2' xs) % B64, if x0' xs < x1' xs + x2' xs then 1 else 0] = _
  rw [ex, ey, ec]
  have e1 : ((x : Int) - (y : Int) - (c : Int)) % B64 = (((x + 18446744073709551616 - y - c) % 18446744073709551616 : Nat) : Int) := by
   unfold B64; omega
  have e2 : (if (x : Int) < (y : Int) + (c : Int) then (1 : Int) else 0) = (((bif Nat.blt x (y + c) then 1 else 0) : Nat) : Int) := by
   by_cases hlt : x < y + c
   ·rw [if_pos (by omega), Nat.blt_eq.mpr hlt]; rfl
   ·rw [if_neg (by omega)]
    cases hb : Nat.blt x (y + c) with
    | true => exact absurd (Nat.blt_eq.mp hb) hlt
    | false => rfl
  rw [e1, e2]
 have ok2 : ∀ x y c : Nat, x < 18446744073709551616 -> y < 18446744073709551616 -> c <= 1 -> oks base.K [7, 7] [(((x + 18446744073709551616 - y - c) % 18446744073709551616 : Nat) : Int), (((bif Nat.blt x (y + c) then 1 else 0) : Nat) : Int)] := fun x y c hx hy hc =>
  ⟨ok7_of (Nat.mod_lt _ (by decide)), ok7_of (by cases Nat.blt x (y + c) <;> decide), trivial⟩
 refine ⟨fun xs h hp => ?_, fun w al xs h _ hp => ?_⟩
 ·obtain ⟨x, y, c, hx, hy, hc, _, _, _, e⟩ := key xs h.1 h.2.1 h.2.2.1 hp
  rw [e]; exact ok2 x y c hx hy hc
 ·obtain ⟨x, y, c, hx, hy, hc, ex, ey, ec, e⟩ := key xs h.1.1 h.2.1.1 h.2.2.1.1 hp
  rw [e]
  refine ⟨ok2 x y c hx hy hc, ?_⟩
  have ha : (argVals base.K cS64.args al xs).toArray = #[.int .u64 (x : Int), .int .u64 (y : Int), .int .u64 (c : Int)] := by
   show #[Value.int .u64 (x0' xs), .int .u64 (x1' xs), .int .u64 (x2' xs)] = _
   rw [ex, ey, ec]
  rw [ha]
  exact .inl ⟨_, w, sub64_run x y c hc w, rfl, Below.refl _ _⟩
end
end Go.Eng
namespace Go.Eng
open Go Go.RowKit Go.Proofs
set_option maxRecDepth 100000
theorem smaller_walk {a b c d bz oz : Nat} {w : World} (ha : a < 18446744073709551616) (hb : b < 18446744073709551616) (hc : c < 18446744073709551616)
  (h0 : w.cell? ⟨bz, oz, none⟩ = some (.int .u64 (a : Int))) (h1 : w.cell? ⟨bz, oz + 1, none⟩ = some (.int .u64 (b : Int))) (h2 : w.cell? ⟨bz, oz + 2, none⟩ = some (.int .u64 (c : Int))) (h3 : w.cell? ⟨bz, oz + 3, none⟩ = some (.int .u64 (d : Int))) :
  Calls Tryz.prog 88 #[.pointer (some ⟨bz, oz, none⟩)] w fun e w' => e = .returned (.bool (decide (val4 a b c d < frQ))) /\ w' = w := by
 have hv : val4 a b c d < frQ ↔ d < 3486998266802970665 \/ (d = 3486998266802970665 /\ (c < 13281191951274694749 \/ (c = 13281191951274694749 /\ (b < 2896914383306846353 \/ (b = 2896914383306846353 /\ a < 4891460686036598785))))) := by
  unfold val4 frQ; omega
 by_cases d1 : d < 3486998266802970665
 ·have r : decide (val4 a b c d < frQ) = true := decide_eq_true (hv.2 (.inl d1))
  rw [r]
  have k1 : (d : Int) < 3486998266802970665 := by omega
  clear hv r
  go_enter Tryz.func88, Tryz.ntmps88
  go_wp2
  go_ret
  exact ⟨rfl, rfl⟩
 by_cases d2 : d = 3486998266802970665
 ·have k1 : ¬ (d : Int) < 3486998266802970665 := by omega
  have k2 : ((d : Int) == 3486998266802970665) = true := by simp; omega
  by_cases c1 : c < 13281191951274694749
  ·have r : decide (val4 a b c d < frQ) = true := decide_eq_true (hv.2 (.inr ⟨d2, .inl c1⟩))
   rw [r]
   have k3 : (c : Int) < 13281191951274694749 := by omega
   clear hv r d2 d1
   go_enter Tryz.func88, Tryz.ntmps88
   go_wp2
   go_ret
   exact ⟨rfl, rfl⟩
  have k3 : ¬ (c : Int) < 13281191951274694749 := by omega
  by_cases c2 : c = 13281191951274694749
  ·have k4 : ((c : Int) == 13281191951274694749) = true := by simp; omega
   by_cases b1 : b < 2896914383306846353
   ·have r : decide (val4 a b c d < frQ) = true := decide_eq_true (hv.2 (.inr ⟨d2, .inr ⟨c2, .inl b1⟩⟩))
    rw [r]
    have k5 : (b : Int) < 2896914383306846353 := by omega
    clear hv r d2 d1 c1 c2
    go_enter Tryz.func88, Tryz.ntmps88
    go_wp2
    go_ret
    exact ⟨rfl, rfl⟩
   have k5 : ¬ (b : Int) < 2896914383306846353 := by omega
   by_cases b2 : b = 2896914383306846353
   ·have k6 : ((b : Int) == 2896914383306846353) = true := by simp; omega
    have r : decide (val4 a b c d < frQ) = decide ((a : Int) < 4891460686036598785) := by
     rw [decide_eq_decide, hv]; omega
    rw [r]
    clear hv r d2 d1 c1 c2 b1 b2
    go_enter Tryz.func88, Tryz.ntmps88
    go_wp2
    go_ret
    exact ⟨rfl, rfl⟩
   ·have k6 : ((b : Int) == 2896914383306846353) = false := by simp; omega
    have r : decide (val4 a b c d < frQ) = false := decide_eq_false (by rw [hv]; omega)
    rw [r]
    clear hv r d2 d1 c1 c2 b1 b2
    go_enter Tryz.func88, Tryz.ntmps88
    go_wp2
    go_ret
    exact ⟨rfl, rfl⟩
  ·have k4 : ((c : Int) == 13281191951274694749) = false := by simp; omega
   have r : decide (val4 a b c d < frQ) = false := decide_eq_false (by rw [hv]; omega)
   rw [r]
   clear hv r d2 d1 c1 c2
   go_enter Tryz.func88, Tryz.ntmps88
   go_wp2
   go_ret
   exact ⟨rfl, rfl⟩
 ·have k1 : ¬ (d : Int) < 3486998266802970665 := by omega
  have k2 : ((d : Int) == 3486998266802970665) = false := by simp; omega
  have r : decide (val4 a b c d < frQ) = false := decide_eq_false (by rw [hv]; omega)
  rw [r]
  clear hv r d2 d1
  go_enter Tryz.func88, Tryz.ntmps88
  go_wp2
  go_ret
  exact ⟨rfl, rfl⟩
end Go.Eng
namespace Go.Eng
open Go Go.RowKit Go.Proofs
set_option maxRecDepth 100000
theorem or_lt64 {a b : Nat} (ha : a < 18446744073709551616) (hb : b < 18446744073709551616) : a ||| b < 18446744073709551616 := Nat.or_lt_two_pow (n := 64) ha hb
theorem or4_zero {a b c d : Nat} (ha : a < 18446744073709551616) (hb : b < 18446744073709551616) (hc : c < 18446744073709551616) (hd : d < 18446744073709551616) :
  (bits .or .u64 (bits .or .u64 (bits .or .u64 (d : Int) (c : Int)) (b : Int)) (a : Int) == 0) = decide (val4 a b c d = 0) := by
 rw [bits_or_u64 (by exact hd) (by exact hc), bits_or_u64 (by exact or_lt64 hd hc) (by exact hb), bits_or_u64 (by exact or_lt64 (or_lt64 hd hc) hb) (by exact ha)]
 have h : (d ||| c ||| b ||| a) = 0 ↔ val4 a b c d = 0 := by
  rw [Nat.or_eq_zero_iff, Nat.or_eq_zero_iff, Nat.or_eq_zero_iff]
  unfold val4; omega
 by_cases hz : (d ||| c ||| b ||| a) = 0
 ·rw [hz, decide_eq_true (h.1 hz)]; rfl
 ·rw [decide_eq_false (fun hh => hz (h.2 hh))]
  simp only [beq_eq_false_iff_ne, ne_eq]
  omega
theorem isz_walk {a b c d bz oz : Nat} {w : World} (ha : a < 18446744073709551616) (hb : b < 18446744073709551616) (hc : c < 18446744073709551616) (hd : d < 18446744073709551616)
  (h0 : w.cell? ⟨bz, oz, none⟩ = some (.int .u64 (a : Int))) (h1 : w.cell? ⟨bz, oz + 1, none⟩ = some (.int .u64 (b : Int))) (h2 : w.cell? ⟨bz, oz + 2, none⟩ = some (.int .u64 (c : Int))) (h3 : w.cell? ⟨bz, oz + 3, none⟩ = some (.int .u64 (d : Int))) :
  Calls Tryz.prog 59 #[.pointer (some ⟨bz, oz, none⟩)] w fun e w' => e = .returned (.bool (decide (val4 a b c d = 0))) /\ w' = w.drew := by
 rw [<- or4_zero ha hb hc hd]
 go_enter Tryz.func59, Tryz.ntmps59
 go_upto_region 1 with fail
 go_region
 go_wp2
 go_ret
 exact ⟨rfl, rfl⟩
theorem setzero_walk {bz oz : Nat} {v0 v1 v2 v3 : Int} {w : World} (h0 : w.cell? ⟨bz, oz, none⟩ = some (.int .u64 v0)) (h1 : w.cell? ⟨bz, oz + 1, none⟩ = some (.int .u64 v1)) (h2 : w.cell? ⟨bz, oz + 2, none⟩ = some (.int .u64 v2)) (h3 : w.cell? ⟨bz, oz + 3, none⟩ = some (.int .u64 v3)) (hu : ∀ o, w.frozen? ⟨bz, o, none⟩ = false) :
  Calls Tryz.prog 110 #[.pointer (some ⟨bz, oz, none⟩)] w fun e w' => e = .returned (.pointer (some ⟨bz, oz, none⟩)) /\ w' = (((w.setCell ⟨bz, oz, none⟩ (.int .u64 0)).setCell ⟨bz, oz + 1, none⟩ (.int .u64 0)).setCell ⟨bz, oz + 2, none⟩ (.int .u64 0)).setCell ⟨bz, oz + 3, none⟩ (.int .u64 0) := by
 have k1 : ∀ x, (w.setCell ⟨bz, oz, none⟩ x).cell? ⟨bz, oz + 1, none⟩ = some (.int .u64 v1) := fun x => by rw [World.cell?_setCell_other _ _ _ _ (by simp)]; exact h1
 have k2 : ∀ x y, ((w.setCell ⟨bz, oz, none⟩ x).setCell ⟨bz, oz + 1, none⟩ y).cell? ⟨bz, oz + 2, none⟩ = some (.int .u64 v2) := fun x y => by rw [World.cell?_setCell_other _ _ _ _ (by simp), World.cell?_setCell_other _ _ _ _ (by simp)]; exact h2
 have k3 : ∀ x y z, (((w.setCell ⟨bz, oz, none⟩ x).setCell ⟨bz, oz + 1, none⟩ y).setCell ⟨bz, oz + 2, none⟩ z).cell? ⟨bz, oz + 3, none⟩ = some (.int .u64 v3) := fun x y z => by rw [World.cell?_setCell_other _ _ _ _ (by simp), World.cell?_setCell_other _ _ _ _ (by simp), World.cell?_setCell_other _ _ _ _ (by simp)]; exact h3
 go_enter Tryz.func110, Tryz.ntmps110
 go_wp2
 go_ret
 exact ⟨rfl, rfl⟩
theorem setone_walk {bz oz : Nat} {v0 v1 v2 v3 : Int} {w : World} (h0 : w.cell? ⟨bz, oz, none⟩ = some (.int .u64 v0)) (h1 : w.cell? ⟨bz, oz + 1, none⟩ = some (.int .u64 v1)) (h2 : w.cell? ⟨bz, oz + 2, none⟩ = some (.int .u64 v2)) (h3 : w.cell? ⟨bz, oz + 3, none⟩ = some (.int .u64 v3)) (hu : ∀ o, w.frozen? ⟨bz, o, none⟩ = false) :
  Calls Tryz.prog 57 #[.pointer (some ⟨bz, oz, none⟩)] w fun e w' => e = .returned (.pointer (some ⟨bz, oz, none⟩)) /\ w' = (((w.setCell ⟨bz, oz, none⟩ (.int .u64 12436184717236109307)).setCell ⟨bz, oz + 1, none⟩ (.int .u64 3962172157175319849)).setCell ⟨bz, oz + 2, none⟩ (.int .u64 7381016538464732718)).setCell ⟨bz, oz + 3, none⟩ (.int .u64 1011752739694698287) := by
 have k1 : ∀ x, (w.setCell ⟨bz, oz, none⟩ x).cell? ⟨bz, oz + 1, none⟩ = some (.int .u64 v1) := fun x => by rw [World.cell?_setCell_other _ _ _ _ (by simp)]; exact h1
 have k2 : ∀ x y, ((w.setCell ⟨bz, oz, none⟩ x).setCell ⟨bz, oz + 1, none⟩ y).cell? ⟨bz, oz + 2, none⟩ = some (.int .u64 v2) := fun x y => by rw [World.cell?_setCell_other _ _ _ _ (by simp), World.cell?_setCell_other _ _ _ _ (by simp)]; exact h2
 have k3 : ∀ x y z, (((w.setCell ⟨bz, oz, none⟩ x).setCell ⟨bz, oz + 1, none⟩ y).setCell ⟨bz, oz + 2, none⟩ z).cell? ⟨bz, oz + 3, none⟩ = some (.int .u64 v3) := fun x y z => by rw [World.cell?_setCell_other _ _ _ _ (by simp), World.cell?_setCell_other _ _ _ _ (by simp), World.cell?_setCell_other _ _ _ _ (by simp)]; exact h3
 go_enter Tryz.func57, Tryz.ntmps57
 go_wp2
 go_ret
 exact ⟨rfl, rfl⟩
end Go.Eng
namespace Go.Eng
open Go Go.RowKit Go.Proofs
noncomputable section
set_option maxRecDepth 100000
def v4 (xs : List Int) : Int := x0' xs + x1' xs * 18446744073709551616 + x2' xs * 340282366920938463463374607431768211456 + x3' xs * 6277101735386680763835789423207666416102355444464034512896
def cLt : Ctr := ⟨88, [.ref true false false [7, 7, 7, 7]], .vals [(false, [8])], fun xs => [if v4 xs < 21888242871839275222246405745257275088548364400416034343698204186575808495617 then 1 else 0], fun _ => True⟩
theorem cLt_ok : (∀ xs, oks base.K (cLt.args.flatMap ArgD.inKinds) xs -> cLt.pre xs -> oks base.K (outKinds cLt.args ++ cLt.ret.kinds) (cLt.sem xs)) /\ cLt.Sound base.K Tryz.prog := by
 have ok1 : ∀ xs, oks base.K [8] (cLt.sem xs) := fun xs => by
  show (base.K 8).ok ((cLt.sem xs).headD 0) /\ True
  refine ⟨?_, trivial⟩
  show (if v4 xs < _ then (1 : Int) else 0) = 0 \/ (if v4 xs < _ then (1 : Int) else 0) = 1
  split
  ·exact .inr rfl
  ·exact .inl rfl
 refine ⟨fun xs _ _ => ok1 xs, fun w al xs h _ _ => ⟨ok1 xs, ?_⟩⟩
 obtain ⟨⟨hc, hk⟩, -, -⟩ := (⟨h.1 rfl, h.2.1, h.2.2⟩ : _ /\ _ /\ _)
 obtain ⟨a, ha, ea⟩ := ok7 hk.1
 obtain ⟨b, hb, eb⟩ := ok7 hk.2.1
 obtain ⟨c, hcc, ec⟩ := ok7 hk.2.2.1
 obtain ⟨d, hd, ed⟩ := ok7 hk.2.2.2.1
 have c0 := hc 0 (.int .u64 (x0' xs)) rfl
 have c1 := hc 1 (.int .u64 (x1' xs)) rfl
 have c2 := hc 2 (.int .u64 (x2' xs)) rfl
 have c3 := hc 3 (.int .u64 (x3' xs)) rfl
 rw [show x0' xs = (a : Int) from ea] at c0
 rw [show x1' xs = (b : Int) from eb] at c1
 rw [show x2' xs = (c : Int) from ec] at c2
 rw [show x3' xs = (d : Int) from ed] at c3
 have hs := smaller_walk ha hb hcc c0 c1 c2 c3
 refine callOK_of_calls (fn := Tryz.f88) (fnOK (by kernel_rfl)).1 (fnOK (f := 88) (by kernel_rfl)).2 (by kernel_rfl) (hs.mono fun e w' ⟨h1, h2⟩ => ⟨_, h1, ?_, by rw [h2]; exact Below.refl _ _⟩)
 show Value.bool (decide (val4 a b c d < frQ)) = Value.bool (decide ((if v4 xs < 21888242871839275222246405745257275088548364400416034343698204186575808495617 then (1 : Int) else 0) ≠ 0))
 have e4 : v4 xs = (val4 a b c d : Nat) := by
  unfold v4 val4
  rw [show x0' xs = (a : Int) from ea, show x1' xs = (b : Int) from eb, show x2' xs = (c : Int) from ec, show x3' xs = (d : Int) from ed]
  omega
 congr 1
 rw [e4, decide_eq_decide]
 unfold frQ
 split <;> rename_i hh
 ·exact ⟨fun _ => by decide, fun _ => by omega⟩
 ·exact ⟨fun h => by omega, fun h => absurd rfl h⟩
def cIz : Ctr := ⟨59, [.ref true false false [7, 7, 7, 7]], .vals [(false, [8])], fun xs => [if v4 xs = 0 then 1 else 0], fun _ => True⟩
theorem cIz_ok : (∀ xs, oks base.K (cIz.args.flatMap ArgD.inKinds) xs -> cIz.pre xs -> oks base.K (outKinds cIz.args ++ cIz.ret.kinds) (cIz.sem xs)) /\ cIz.Sound base.K Tryz.prog := by
 have ok1 : ∀ xs, oks base.K [8] (cIz.sem xs) := fun xs => by
  show (base.K 8).ok ((cIz.sem xs).headD 0) /\ True
  refine ⟨?_, trivial⟩
  show (if v4 xs = 0 then (1 : Int) else 0) = 0 \/ (if v4 xs = 0 then (1 : Int) else 0) = 1
  split
  ·exact .inr rfl
  ·exact .inl rfl
 refine ⟨fun xs _ _ => ok1 xs, fun w al xs h _ _ => ⟨ok1 xs, ?_⟩⟩
 obtain ⟨hc, hk⟩ := h.1 rfl
 obtain ⟨a, ha, ea⟩ := ok7 hk.1
 obtain ⟨b, hb, eb⟩ := ok7 hk.2.1
 obtain ⟨c, hcc, ec⟩ := ok7 hk.2.2.1
 obtain ⟨d, hd, ed⟩ := ok7 hk.2.2.2.1
 have c0 := hc 0 (.int .u64 (x0' xs)) rfl
 have c1 := hc 1 (.int .u64 (x1' xs)) rfl
 have c2 := hc 2 (.int .u64 (x2' xs)) rfl
 have c3 := hc 3 (.int .u64 (x3' xs)) rfl
 rw [show x0' xs = (a : Int) from ea] at c0
 rw [show x1' xs = (b : Int) from eb] at c1
 rw [show x2' xs = (c : Int) from ec] at c2
 rw [show x3' xs = (d : Int) from ed] at c3
 have hs := isz_walk ha hb hcc hd c0 c1 c2 c3
 refine callOK_of_calls (fn := Tryz.f59) (fnOK (by kernel_rfl)).1 (fnOK (f := 59) (by kernel_rfl)).2 (by kernel_rfl) (hs.mono fun e w' ⟨h1, h2⟩ => ⟨_, h1, ?_, by rw [h2]; exact (Below.refl _ _).drew⟩)
 show Value.bool (decide (val4 a b c d = 0)) = Value.bool (decide ((if v4 xs = 0 then (1 : Int) else 0) ≠ 0))
 have e4 : v4 xs = (val4 a b c d : Nat) := by
  unfold v4 val4
  rw [show x0' xs = (a : Int) from ea, show x1' xs = (b : Int) from eb, show x2' xs = (c : Int) from ec, show x3' xs = (d : Int) from ed]
  omega
 congr 1
 rw [e4, decide_eq_decide]
 split <;> rename_i hh
 ·exact ⟨fun _ => by decide, fun _ => by omega⟩
 ·exact ⟨fun h => by omega, fun h => absurd rfl h⟩
def cSz : Ctr := ⟨110, [.ref true true false [7, 7, 7, 7]], .arg 0, fun _ => [0, 0, 0, 0], fun _ => True⟩
theorem cSz_ok : (∀ xs, oks base.K (cSz.args.flatMap ArgD.inKinds) xs -> cSz.pre xs -> oks base.K (outKinds cSz.args ++ cSz.ret.kinds) (cSz.sem xs)) /\ cSz.Sound base.K Tryz.prog := by
 have h0 : (base.K 7).ok 0 := ok7_of (n := 0) (by decide)
 have ok1 : oks base.K [7, 7, 7, 7] [0, 0, 0, 0] := ⟨h0, h0, h0, h0, trivial⟩
 refine ⟨fun xs _ _ => ok1, fun w al xs h _ _ => ⟨ok1, ?_⟩⟩
 obtain ⟨hc, hk⟩ := h.1 rfl
 have hw := h.2.1 rfl
 have c0 := hc 0 (.int .u64 (x0' xs)) rfl
 have c1 := hc 1 (.int .u64 (x1' xs)) rfl
 have c2 := hc 2 (.int .u64 (x2' xs)) rfl
 have c3 := hc 3 (.int .u64 (x3' xs)) rfl
 have hs := setzero_walk c0 c1 c2 c3 (fun o => (hw 0 (by decide)).2 o)
 exact callOK_of_calls (fn := Tryz.f110) (fnOK (by kernel_rfl)).1 (fnOK (f := 110) (by kernel_rfl)).2 (by kernel_rfl) (hs.mono fun e w' ⟨h1, h2⟩ => ⟨_, h1, by cases al <;> rfl, by rw [h2]; exact Below.refl _ _⟩)
def baseS : Cx := { base0 with cs := [cM64, cA64, cS64, cLt, cIz, cSz], gl := [], dq := fun _ _ _ => none }
theorem baseS_good : baseS.Good0 := by
 obtain ⟨h1, h2, h3, h4, h5⟩ := base_good
 refine ⟨h1, fun c hc => ?_, h3, fun f vs M l h => (by cases h), fun evo M o rs h => (by cases h)⟩
 have hc' : c ∈ [cM64, cA64, cS64, cLt, cIz, cSz] := hc
 simp only [List.mem_cons, List.not_mem_nil, or_false] at hc'
 rcases hc' with rfl | rfl | rfl | rfl | rfl | rfl
 ·exact cM64_ok
 ·exact cA64_ok
 ·exact cS64_ok
 ·exact cLt_ok
 ·exact cIz_ok
 ·exact cSz_ok
def noneH : HK := fun _ _ _ => none
theorem noneH_sound : noneH.Sound baseS := fun f vs M r h => by cases h
def cxS : Cx := lvl baseS xopF noneH fnT.get 5 200 0
theorem cxS_good : cxS.Good := lvl_good (xopF_sound _) noneH_sound baseS_good follows (fun f fn h => fnOK h) 5 200 0
def four (j : Nat) : List C := [.ch 7 (.v j) 0, .ch 7 (.v (j + 1)) 0, .ch 7 (.v (j + 2)) 0, .ch 7 (.v (j + 3)) 0]
def gam : Nat -> Tr Nat -> Tr Nat
 | 0, t => t
 | n + 1, t => (gam n t).set n 7
def evTF (fn : Func) (vs : List V) (M : List Reg) (n : Nat) : T := match fn.body with | some c => evT cxS 200 fn c vs M n (gam n .lf) | none => .fail 55
end
end Go.Eng
namespace Go.Eng
open Go Go.RowKit Go.Proofs
noncomputable section
set_option maxRecDepth 100000
variable {ρ : Nat -> Int} {Ψ : Ek -> St -> Prop} {t e : T} {nv : Nat}
theorem vc_m64 {a b : A} {x y : Nat} (ha : A.den ρ a = (x : Int)) (hb : A.den ρ b = (y : Int)) (hx : x < 18446744073709551616) (hy : y < 18446744073709551616)
  (h : ∀ hi lo : Nat, ρ nv = (hi : Int) -> ρ (nv + 1) = (lo : Int) -> M64 x y hi lo -> hi < 18446744073709551616 -> lo < 18446744073709551616 -> t.vc ρ Ψ) : (T.def_ nv (.ctr cM64) [a, b] 2 t).vc ρ Ψ := by
 refine ⟨trivial, fun he => ?_⟩
 have h1 : ρ nv = A.den ρ a * A.den ρ b / B64 := he.1
 have h2 : ρ (nv + 1) = A.den ρ a * A.den ρ b % B64 := he.2.1
 rw [ha, hb] at h1 h2
 have h3 : x * y / 18446744073709551616 < 18446744073709551616 := Nat.div_lt_of_lt_mul (Nat.lt_of_le_of_lt (Nat.mul_le_mul (Nat.le_of_lt_succ hx) (Nat.le_of_lt_succ hy)) (by decide))
 exact h (x * y / 18446744073709551616) (x * y % 18446744073709551616) h1 h2 ⟨by rw [Nat.mul_comm]; exact Nat.div_add_mod _ _, Nat.mod_lt _ (by decide)⟩ h3 (Nat.mod_lt _ (by decide))
theorem vc_a64 {a b c : A} {x y z : Nat} (ha : A.den ρ a = (x : Int)) (hb : A.den ρ b = (y : Int)) (hc : A.den ρ c = (z : Int)) (hx : x < 18446744073709551616) (hy : y < 18446744073709551616) (hz : z <= 1)
  (h : ∀ s d : Nat, ρ nv = (s : Int) -> ρ (nv + 1) = (d : Int) -> A64 x y z s d -> s < 18446744073709551616 -> d <= 1 -> t.vc ρ Ψ) : (T.def_ nv (.ctr cA64) [a, b, c] 2 t).vc ρ Ψ := by
 refine ⟨by show A.den ρ c <= 1; rw [hc]; omega, fun he => ?_⟩
 have h1 : ρ nv = (A.den ρ a + A.den ρ b + A.den ρ c) % B64 := he.1
 have h2 : ρ (nv + 1) = (A.den ρ a + A.den ρ b + A.den ρ c) / B64 := he.2.1
 rw [ha, hb, hc] at h1 h2
 have h3 : (x + y + z) / 18446744073709551616 <= 1 := by omega
 exact h ((x + y + z) % 18446744073709551616) ((x + y + z) / 18446744073709551616) h1 h2 ⟨Nat.mod_add_div _ _, Nat.mod_lt _ (by decide), h3⟩ (Nat.mod_lt _ (by decide)) h3
theorem vc_s64 {a b c : A} {x y z : Nat} (ha : A.den ρ a = (x : Int)) (hb : A.den ρ b = (y : Int)) (hc : A.den ρ c = (z : Int)) (hx : x < 18446744073709551616) (hy : y < 18446744073709551616) (hz : z <= 1)
  (h : ∀ s d : Nat, ρ nv = (s : Int) -> ρ (nv + 1) = (d : Int) -> S64 x y z s d -> s < 18446744073709551616 -> d <= 1 -> t.vc ρ Ψ) : (T.def_ nv (.ctr cS64) [a, b, c] 2 t).vc ρ Ψ := by
 refine ⟨by show A.den ρ c <= 1; rw [hc]; omega, fun he => ?_⟩
 have h1 : ρ nv = (A.den ρ a - A.den ρ b - A.den ρ c) % B64 := he.1
 have h2 : ρ (nv + 1) = if A.den ρ a < A.den ρ b + A.den ρ c then 1 else 0 := he.2.1
 rw [ha, hb, hc] at h1 h2
 by_cases hlt : x < y + z
 ·rw [if_pos (by omega)] at h2
  exact h (x + 18446744073709551616 - y - z) 1 (by rw [h1]; unfold B64; omega) h2 ⟨by omega, by omega, Nat.le_refl _⟩ (by omega) (Nat.le_refl _)
 ·rw [if_neg (by omega)] at h2
  exact h (x - y - z) 0 (by rw [h1]; unfold B64; omega) h2 ⟨by omega, by omega, by decide⟩ (by omega) (by decide)
theorem vc_mul {a b : A} {x y : Nat} (ha : A.den ρ a = (x : Int)) (hb : A.den ρ b = (y : Int))
  (h : ∀ m : Nat, ρ nv = (m : Int) -> m = x * y % 18446744073709551616 -> m < 18446744073709551616 -> t.vc ρ Ψ) : (T.def_ nv (.bin .mul .u64) [a, b] 1 t).vc ρ Ψ := by
 refine ⟨trivial, fun he => ?_⟩
 have h1 : ρ nv = IntKind.u64.wrap (A.den ρ a * A.den ρ b) := he.1
 rw [ha, hb, IntKind.wrap_u64] at h1
 exact h (x * y % 18446744073709551616) (by rw [h1]; rfl) rfl (Nat.mod_lt _ (by decide))
theorem vc_lt {a b c d : A} {x y z u : Nat} (ha : A.den ρ a = (x : Int)) (hb : A.den ρ b = (y : Int)) (hc : A.den ρ c = (z : Int)) (hd : A.den ρ d = (u : Int))
  (h1 : val4 x y z u < frQ -> ρ nv = 1 -> t.vc ρ Ψ) (h0 : ¬ val4 x y z u < frQ -> ρ nv = 0 -> t.vc ρ Ψ) : (T.def_ nv (.ctr cLt) [a, b, c, d] 1 t).vc ρ Ψ := by
 refine ⟨trivial, fun he => ?_⟩
 have h : ρ nv = if A.den ρ a + A.den ρ b * 18446744073709551616 + A.den ρ c * 340282366920938463463374607431768211456 + A.den ρ d * 6277101735386680763835789423207666416102355444464034512896 < 21888242871839275222246405745257275088548364400416034343698204186575808495617 then 1 else 0 := he.1
 rw [ha, hb, hc, hd] at h
 by_cases hlt : val4 x y z u < frQ
 ·rw [if_pos (by unfold val4 frQ at hlt; omega)] at h
  exact h1 hlt h
 ·rw [if_neg (by unfold val4 frQ at hlt; omega)] at h
  exact h0 hlt h
theorem vc_nt {a : A} {z : Int} (ha : A.den ρ a = z) (h : ρ nv = (if z = 0 then 1 else 0) -> t.vc ρ Ψ) : (T.def_ nv .nt [a] 1 t).vc ρ Ψ := by
 refine ⟨trivial, fun he => ?_⟩
 have h1 : ρ nv = if A.den ρ a = 0 then 1 else 0 := he.1
 rw [ha] at h1
 exact h h1
theorem vc_br1 {i : Nat} (h : ρ i = 1) (ht : t.vc ρ Ψ) : (T.br i t e).vc ρ Ψ := ⟨.inl h, fun _ => ht, fun h0 => absurd (h.symm.trans h0) (by decide)⟩
theorem vc_br0 {i : Nat} (h : ρ i = 0) (ht : e.vc ρ Ψ) : (T.br i t e).vc ρ Ψ := ⟨.inr h, fun h1 => absurd (h.symm.trans h1) (by decide), fun _ => ht⟩
def Four (ρ : Nat -> Int) (Z : Nat) (R : List Reg) (v : V) (M : List Reg) : Prop :=
 v = .one (.ptr 0 0) /\ ∃ (a b c d : A) (z0 z1 z2 z3 : Nat), M = ⟨[.ch 7 a 0, .ch 7 b 0, .ch 7 c 0, .ch 7 d 0], true⟩ :: R /\ A.den ρ a = (z0 : Int) /\ A.den ρ b = (z1 : Int) /\ A.den ρ c = (z2 : Int) /\ A.den ρ d = (z3 : Int) /\
  z0 < 18446744073709551616 /\ z1 < 18446744073709551616 /\ z2 < 18446744073709551616 /\ z3 < 18446744073709551616 /\ val4 z0 z1 z2 z3 = Z
end
end Go.Eng
