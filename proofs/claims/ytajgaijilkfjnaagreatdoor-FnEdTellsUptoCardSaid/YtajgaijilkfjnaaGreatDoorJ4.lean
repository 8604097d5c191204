/-
 The law: the walk through laws.FnEdTells and the plain reckoning at the curve.
-/
import Derived.Test.YtajgaijilkfjnaaGreatDoorL1
import Derived.Test.YtajgaijilkfjnaaGreatDoorJ2
set_option linter.unusedVariables false
set_option linter.unusedSimpArgs false
namespace Go.Eng
open Go Go.RowKit Go.Proofs
set_option maxRecDepth 100000
theorem on_same (x y : Nat) : onN nP nA nD x y = onN frQ (frQ - 1) dNum x y := rfl
set_option maxHeartbeats 6400000 in
theorem ft_dead {c : Nat} {b : Bool} {K L : Int} {pE : Pl} {w : World} {aX aY : Option Addr} {lX cX lY cY : Nat} (hG : Glob pE w) (hx : Strs w (.slice aX lX cX)) (hy : Strs w (.slice aY lY cY))
  (he : ∀ W, Calls Tryz.prog 5 #[.int .u8 (c : Int), .bool b] W fun e w' => e = .returned (.tuple #[.int .i64 K, .int .i64 L, .agg #[.slice none 0 0, .slice none 0 0, .slice none 0 0, .slice none 0 0], .agg #[.slice none 0 0, .slice none 0 0], .bool false]) /\ Ext W w') :
  Calls Tryz.prog 3 #[.int .u8 (c : Int), .bool b, .agg #[.slice aX lX cX, .slice aY lY cY]] w fun e w' => e = .returned (.bool true) /\ Ext w w' := by
 obtain ⟨B, hB⟩ : ∃ B, B = w.alloc (.cells #[.slice aX lX cX, .slice aY lY cY] 24) := ⟨_, rfl⟩
 have hEB : Ext w B := by rw [hB]; exact (Ext.refl w).alloc _
 have c0 : B.cell? ⟨w.heap.size, 0, none⟩ = some (.slice aX lX cX) := by rw [hB]; exact (cell_new w _ _ 0).trans rfl
 have c1 : B.cell? ⟨w.heap.size, 1, none⟩ = some (.slice aY lY cY) := by rw [hB]; exact (cell_new w _ _ 1).trans rfl
 have hf := fits1_walk (hx.ext hEB) (hy.ext hEB)
 have AG : Aside (Glob pE w /\ Strs w (.slice aX lX cX) /\ Strs w (.slice aY lY cY) /\ Ext w B) := ⟨hG, hx, hy, hEB⟩
 clear hG hx hy hEB
 go_enter Tryz.func3, Tryz.ntmps3
 go_upto_region 1 with fail
 rw [<- hB]
 clear hB
 go_upto_region 3 with (go_at_call 4; (with_reducible refine hf.mono ?_); rintro e w1 ⟨rfl, hE1⟩)
 clear hf
 have h5 := he w1
 clear he
 go_upto_region 4 with (go_at_call 5; (with_reducible refine h5.mono ?_); rintro e w2 ⟨rfl, hE2⟩)
 obtain ⟨W3, hW3⟩ : ∃ W, W = (w2.alloc (.cells #[.slice none 0 0, .slice none 0 0, .slice none 0 0, .slice none 0 0] 31)).alloc (.cells #[.slice none 0 0, .slice none 0 0] 33) := ⟨_, rfl⟩
 obtain ⟨N, hN⟩ : ∃ N, N = w2.heap.size := ⟨_, rfl⟩
 rw [<- hW3, <- hN]
 have hE3 : Ext w2 W3 := by rw [hW3]; exact ((Ext.refl _).alloc _).alloc _
 have n0 : ∀ i, i < 4 -> W3.cell? ⟨N, i, none⟩ = some (.slice none 0 0) := fun i hi => by
  rw [hW3]; refine Ext.cell ((Ext.refl _).alloc _) ?_
  match i, hi with
  | 0, _ => exact cell_al _ _ _ _ hN rfl
  | 1, _ => exact cell_al _ _ _ _ hN rfl
  | 2, _ => exact cell_al _ _ _ _ hN rfl
  | 3, _ => exact cell_al _ _ _ _ hN rfl
 have hEA := hE1.trans (hE2.trans hE3)
 have g0 := n0 0 (by decide)
 have g1 := n0 1 (by decide)
 have g2 := n0 2 (by decide)
 have g3 := n0 3 (by decide)
 have m0 := hEA.cell c0
 have m1 := hEA.cell c1
 have hp : Calls Tryz.prog 6 #[.agg #[.slice none 0 0, .slice none 0 0, .slice none 0 0, .slice none 0 0], .agg #[.slice aX lX cX, .slice aY lY cY]] W3 fun e w' => ∃ (a1 : Option Addr) (l1 c1 : Nat) (a2 : Option Addr) (l2 c2 : Nat), e = .returned (.tuple #[.agg #[.slice a1 l1 c1, .slice a2 l2 c2], .bool false]) /\ Ext W3 w' := by
  rcases point_all (aA := none) (aD := none) (aQ := none) (lA := 0) (cA := 0) (lD := 0) (cD := 0) (lQ := 0) (cQ := 0) (Num.nil W3) (by decide) (AG.out.2.1.ext (AG.out.2.2.2.trans hEA)) (AG.out.2.2.1.ext (AG.out.2.2.2.trans hEA)) with h | ⟨xb, xo, yb, yo, sx, sy, _, _, _, _, _, _, _, _, h, _⟩
  ·exact h
  ·exact absurd h (Nat.not_lt_zero _)
 have AE : Aside (Ext w W3) := AG.out.2.2.2.trans hEA
 clear hEA hE1 hE2 hE3 hW3 hN n0 c0 c1 h5
 go_upto_region 5 with (go_at_call 6; (with_reducible refine hp.mono ?_); rintro e w4 ⟨a1, l1, c1, a2, l2, c2, rfl, hE4⟩)
 obtain ⟨W5, hW5⟩ : ∃ W, W = w4.alloc (.cells #[.slice a1 l1 c1, .slice a2 l2 c2] 33) := ⟨_, rfl⟩
 rw [<- hW5]
 have hE5 : Ext w W5 := by rw [hW5]; exact (AE.out.trans hE4).alloc _
 have ha := alive_walk (AG.out.1.ext hE5)
 have AE5 : Aside (Ext w W5) := hE5
 clear hp hE4 hE5 hW5 AE AG m0 m1 g0 g1 g2 g3
 go_wp2_with (go_at_call 7; (with_reducible refine ha.mono ?_); rintro e w6 ⟨rfl, hE6⟩)
 simp [bodyPost, results, Tryz.results3, go_sem]
 exact AE5.out.trans hE6
end Go.Eng
namespace Go.Eng
open Go Go.RowKit Go.Proofs
set_option maxRecDepth 100000
def Curv0 (w : World) (vP vA vD vQ : Value) : Prop := Num w vP nP /\ Num w vA nA /\ Num w vD nD /\ Num w vQ nQ
theorem Curv0.ext {w w' : World} {vP vA vD vQ : Value} (h : Curv0 w vP vA vD vQ) (e : Ext w w') : Curv0 w' vP vA vD vQ := ⟨h.1.ext e, h.2.1.ext e, h.2.2.1.ext e, h.2.2.2.ext e⟩
structure FtS (pE : Pl) (W : World) (vP vA vD vQ vx vy : Value) (xb xo yb yo : Nat) (sx sy : ByteArray) : Prop where
 g : Glob pE W
 c : Curv0 W vP vA vD vQ
 t : Two W xb xo yb yo sx sy
 kx : Canon sx
 ky : Canon sy
 n1 : Num W vx (rdN sx sx.size)
 n2 : Num W vy (rdN sy sy.size)
theorem FtS.ext {pE : Pl} {W W' : World} {vP vA vD vQ vx vy : Value} {xb xo yb yo : Nat} {sx sy : ByteArray} (h : FtS pE W vP vA vD vQ vx vy xb xo yb yo sx sy) (e : Ext W W') : FtS pE W' vP vA vD vQ vx vy xb xo yb yo sx sy := ⟨h.g.ext e, h.c.ext e, h.t.ext e, h.kx, h.ky, h.n1.ext e, h.n2.ext e⟩
theorem ft_on {pE : Pl} {W : World} {aP aA aD aQ a1 a2 : Option Addr} {lP cP lA cA lD cD lQ cQ l1 c1 l2 c2 xb xo yb yo : Nat} {sx sy : ByteArray} (h : FtS pE W (.slice aP lP cP) (.slice aA lA cA) (.slice aD lD cD) (.slice aQ lQ cQ) (.slice a1 l1 c1) (.slice a2 l2 c2) xb xo yb yo sx sy) :
  Calls Tryz.prog 9 #[.agg #[(.slice aP lP cP), (.slice aA lA cA), (.slice aD lD cD), (.slice aQ lQ cQ)], .agg #[(.slice a1 l1 c1), (.slice a2 l2 c2)]] W fun e w' => e = .returned (.bool (onV sx sy)) /\ Ext W w' := by
 have h1 := on_core h.c.1 h.c.2.1 (by decide) h.c.2.2.1 (by decide) h.c.2.2.2 (by decide) h.n1 h.t.tx.lt h.n2 h.t.ty.lt (by rw [len_P]; decide) (by rw [len_P]; decide)
 rw [on_same] at h1
 exact h1
theorem ft_told {W : World} {aP aA aD aQ : Option Addr} {lP cP lA cA lD cD lQ cQ : Nat} {a : Option Addr} {l c : Nat} (k1 : Num W (.slice a l c) 1) : Calls Tryz.prog 11 #[.agg #[(.slice aP lP cP), (.slice aA lA cA), (.slice aD lD cD), (.slice aQ lQ cQ)], .agg #[.slice none 0 0, .slice a l c]] W fun e w' => ∃ (z1 z2 : Nat), e = .returned (.agg #[(.slice (some ⟨z1, 0, none⟩) 1 1), (.slice (some ⟨z2, 0, none⟩) 1 1)]) /\ w'.cell? ⟨z1, 0, none⟩ = some (.string ⟨⟨[48]⟩⟩) /\ w'.cell? ⟨z2, 0, none⟩ = some (.string ⟨⟨[49]⟩⟩) /\ Ext W w' :=
 (told_walk (Num.nil W) (by decide) k1 (by decide)).mono fun e w' ⟨b1, b2, s1', s2', r1, r2, r3, r4, r5, r6, r7⟩ => by
  rw [s0 r2] at r4
  rw [s1 r3] at r5
  exact ⟨b1, b2, r1, r4, r5, r7⟩
set_option maxHeartbeats 6400000 in
theorem ft_live {c : Nat} (hc : c < 256) (hr : c % 3 = 0) {pE : Pl} {w : World} {aX aY : Option Addr} {lX cX lY cY : Nat} (hG : Glob pE w) (hx : Strs w (.slice aX lX cX)) (hy : Strs w (.slice aY lY cY)) :
  Calls Tryz.prog 3 #[.int .u8 (c : Int), .bool false, .agg #[.slice aX lX cX, .slice aY lY cY]] w fun e w' => e = .returned (.bool true) /\ Ext w w' := by
 obtain ⟨B, hB⟩ : ∃ B, B = w.alloc (.cells #[.slice aX lX cX, .slice aY lY cY] 24) := ⟨_, rfl⟩
 have hEB : Ext w B := by rw [hB]; exact (Ext.refl w).alloc _
 obtain ⟨O, hO⟩ : ∃ O, O = w.heap.size := ⟨_, rfl⟩
 have c0 : B.cell? ⟨O, 0, none⟩ = some (.slice aX lX cX) := by rw [hO, hB]; exact (cell_new w _ _ 0).trans rfl
 have c1 : B.cell? ⟨O, 1, none⟩ = some (.slice aY lY cY) := by rw [hO, hB]; exact (cell_new w _ _ 1).trans rfl
 have hf := fits1_walk (hx.ext hEB) (hy.ext hEB)
 have AG : Aside (Glob pE w /\ Strs w (.slice aX lX cX) /\ Strs w (.slice aY lY cY) /\ Ext w B) := ⟨hG, hx, hy, hEB⟩
 clear hG hx hy hEB
 go_enter Tryz.func3, Tryz.ntmps3
 go_upto_region 1 with fail
 rw [<- hB, <- hO]
 clear hB hO
 go_upto_region 3 with (go_at_call 4; (with_reducible refine hf.mono ?_); rintro e w1 ⟨rfl, hE1⟩)
 clear hf
 have h5 := edw_00 hc hr ((AG.out.1.ext AG.out.2.2.2).ext hE1)
 clear hc hr
 go_upto_region 4 with (go_at_call 5; (with_reducible refine h5.mono ?_); rintro e w2 ⟨aP, lP, cP, aA, lA, cA, aD, lD, cD, aQ, lQ, cQ, u1, v1, i1, u2, v2, i2, rfl, hC, hE2⟩)
 clear h5
 obtain ⟨W3, hW3⟩ : ∃ W, W = (w2.alloc (.cells #[(.slice aP lP cP), (.slice aA lA cA), (.slice aD lD cD), (.slice aQ lQ cQ)] 31)).alloc (.cells #[.slice u1 v1 i1, .slice u2 v2 i2] 33) := ⟨_, rfl⟩
 obtain ⟨N, hN⟩ : ∃ N, N = w2.heap.size := ⟨_, rfl⟩
 rw [<- hW3, <- hN]
 have hE3 : Ext w2 W3 := by rw [hW3]; exact ((Ext.refl _).alloc _).alloc _
 have g0 : W3.cell? ⟨N, 0, none⟩ = some (.slice aP lP cP) := by rw [hW3]; exact Ext.cell ((Ext.refl _).alloc _) (cell_al _ _ _ _ hN rfl)
 have g1 : W3.cell? ⟨N, 1, none⟩ = some (.slice aA lA cA) := by rw [hW3]; exact Ext.cell ((Ext.refl _).alloc _) (cell_al _ _ _ _ hN rfl)
 have g2 : W3.cell? ⟨N, 2, none⟩ = some (.slice aD lD cD) := by rw [hW3]; exact Ext.cell ((Ext.refl _).alloc _) (cell_al _ _ _ _ hN rfl)
 have g3 : W3.cell? ⟨N, 3, none⟩ = some (.slice aQ lQ cQ) := by rw [hW3]; exact Ext.cell ((Ext.refl _).alloc _) (cell_al _ _ _ _ hN rfl)
 have hEA := hE1.trans (hE2.trans hE3)
 have hEw := AG.out.2.2.2.trans hEA
 have m0 := hEA.cell c0
 have m1 := hEA.cell c1
 have hC3 : Curv0 W3 (.slice aP lP cP) (.slice aA lA cA) (.slice aD lD cD) (.slice aQ lQ cQ) := ⟨hC.1.ext hE3, hC.2.1.ext hE3, hC.2.2.1.ext hE3, hC.2.2.2.1.ext hE3⟩
 have hpa := point_all (aA := aA) (aD := aD) (aQ := aQ) (lA := lA) (cA := cA) (lD := lD) (cD := cD) (lQ := lQ) (cQ := cQ) hC3.1 (by rw [len_P]; decide) (AG.out.2.1.ext hEw) (AG.out.2.2.1.ext hEw)
 have AE : Aside (Ext w W3 /\ Glob pE W3 /\ Curv0 W3 (.slice aP lP cP) (.slice aA lA cA) (.slice aD lD cD) (.slice aQ lQ cQ)) := ⟨hEw, AG.out.1.ext hEw, hC3⟩
 clear hEA hE1 hE2 hE3 hW3 hN c0 c1 hC hC3 hEw AG
 rcases hpa with hp | ⟨xb, xo, yb, yo, sx, sy, rfl, rfl, rfl, rfl, hsx, hsy, kx, ky, lx, ly, hp⟩
 ·go_upto_region 5 with (go_at_call 6; (with_reducible refine hp.mono ?_); rintro e w4 ⟨a1, l1, c1, a2, l2, c2, rfl, hE4⟩)
  obtain ⟨W5, hW5⟩ : ∃ W, W = w4.alloc (.cells #[.slice a1 l1 c1, .slice a2 l2 c2] 33) := ⟨_, rfl⟩
  rw [<- hW5]
  have hE5 : Ext W3 W5 := by rw [hW5]; exact hE4.alloc _
  have ha := alive_walk (AE.out.2.1.ext hE5)
  have AE5 : Aside (Ext w W5) := AE.out.1.trans hE5
  clear hp hE4 hE5 hW5 AE m0 m1 g0 g1 g2 g3
  go_wp2_with (go_at_call 7; (with_reducible refine ha.mono ?_); rintro e w6 ⟨rfl, hE6⟩)
  simp [bodyPost, results, Tryz.results3, go_sem]
  exact AE5.out.trans hE6
 ·go_upto_region 5 with (go_at_call 6; (with_reducible refine hp.mono ?_); rintro e w4 ⟨a1, l1, c1, a2, l2, c2, rfl, n1, n2, hE4⟩)
  clear hp
  obtain ⟨W5, hW5⟩ : ∃ W, W = w4.alloc (.cells #[(.slice a1 l1 c1), (.slice a2 l2 c2)] 33) := ⟨_, rfl⟩
  obtain ⟨M, hM⟩ : ∃ M, M = w4.heap.size := ⟨_, rfl⟩
  rw [<- hW5, <- hM]
  have hE45 : Ext w4 W5 := by rw [hW5]; exact (Ext.refl _).alloc _
  have q4 : W5.cell? ⟨M, 0, none⟩ = some (.slice a1 l1 c1) := by rw [hW5]; exact cell_al _ _ _ _ hM rfl
  have q5 : W5.cell? ⟨M, 1, none⟩ = some (.slice a2 l2 c2) := by rw [hW5]; exact cell_al _ _ _ _ hM rfl
  have hE5 := hE4.trans hE45
  have hS5 : FtS pE W5 (.slice aP lP cP) (.slice aA lA cA) (.slice aD lD cD) (.slice aQ lQ cQ) (.slice a1 l1 c1) (.slice a2 l2 c2) xb xo yb yo sx sy := ⟨AE.out.2.1.ext hE5, AE.out.2.2.ext hE5, ⟨hE5.cell hsx, hE5.cell hsy, txt_of kx lx, txt_of ky ly⟩, kx, ky, n1.ext hE45, n2.ext hE45⟩
  have q0 := hE5.cell g0
  have q1 := hE5.cell g1
  have q2 := hE5.cell g2
  have q3 := hE5.cell g3
  have q6 := hE5.cell m0
  have q7 := hE5.cell m1
  have hEw5 := AE.out.1.trans hE5
  have h8 := tells_walk (cx := cX) (cy := cY) 0 0 hS5.g hS5.t
  have A5 : Aside (FtS pE W5 (.slice aP lP cP) (.slice aA lA cA) (.slice aD lD cD) (.slice aQ lQ cQ) (.slice a1 l1 c1) (.slice a2 l2 c2) xb xo yb yo sx sy /\ W5.cell? ⟨N, 0, none⟩ = some (Value.slice aP lP cP) /\ W5.cell? ⟨N, 1, none⟩ = some (Value.slice aA lA cA) /\ W5.cell? ⟨N, 2, none⟩ = some (Value.slice aD lD cD) /\ W5.cell? ⟨N, 3, none⟩ = some (Value.slice aQ lQ cQ) /\ W5.cell? ⟨M, 0, none⟩ = some (Value.slice a1 l1 c1) /\ W5.cell? ⟨M, 1, none⟩ = some (Value.slice a2 l2 c2) /\ W5.cell? ⟨O, 0, none⟩ = some (Value.slice (some ⟨xb, xo, none⟩) 1 cX) /\ W5.cell? ⟨O, 1, none⟩ = some (Value.slice (some ⟨yb, yo, none⟩) 1 cY) /\ Ext w W5) := ⟨hS5, q0, q1, q2, q3, q4, q5, q6, q7, hEw5⟩
  clear hE45 hW5 hM hE4 hE5 n1 n2 g0 g1 g2 g3 m0 m1 hsx hsy kx ky lx ly AE hS5 hEw5
  go_upto_region 8 with (go_at_call 8; (with_reducible refine h8.mono ?_); rintro e w6 ⟨rfl, hE6⟩)
  have hK : w6.drew.cell? ⟨N, 0, none⟩ = some (Value.slice aP lP cP) /\ w6.drew.cell? ⟨N, 1, none⟩ = some (Value.slice aA lA cA) /\ w6.drew.cell? ⟨N, 2, none⟩ = some (Value.slice aD lD cD) /\ w6.drew.cell? ⟨N, 3, none⟩ = some (Value.slice aQ lQ cQ) /\ w6.drew.cell? ⟨M, 0, none⟩ = some (Value.slice a1 l1 c1) /\ w6.drew.cell? ⟨M, 1, none⟩ = some (Value.slice a2 l2 c2) /\ w6.drew.cell? ⟨O, 0, none⟩ = some (Value.slice (some ⟨xb, xo, none⟩) 1 cX) /\ w6.drew.cell? ⟨O, 1, none⟩ = some (Value.slice (some ⟨yb, yo, none⟩) 1 cY) /\ Ext w w6.drew := keep_8 A5.out.2 hE6.drew
  have AK : Aside (w6.drew.cell? ⟨N, 0, none⟩ = some (Value.slice aP lP cP) /\ w6.drew.cell? ⟨N, 1, none⟩ = some (Value.slice aA lA cA) /\ w6.drew.cell? ⟨N, 2, none⟩ = some (Value.slice aD lD cD) /\ w6.drew.cell? ⟨N, 3, none⟩ = some (Value.slice aQ lQ cQ) /\ w6.drew.cell? ⟨M, 0, none⟩ = some (Value.slice a1 l1 c1) /\ w6.drew.cell? ⟨M, 1, none⟩ = some (Value.slice a2 l2 c2) /\ w6.drew.cell? ⟨O, 0, none⟩ = some (Value.slice (some ⟨xb, xo, none⟩) 1 cX) /\ w6.drew.cell? ⟨O, 1, none⟩ = some (Value.slice (some ⟨yb, yo, none⟩) 1 cY) /\ Ext w w6.drew) := hK
  have AS : Aside (FtS pE w6.drew (.slice aP lP cP) (.slice aA lA cA) (.slice aD lD cD) (.slice aQ lQ cQ) (.slice a1 l1 c1) (.slice a2 l2 c2) xb xo yb yo sx sy) := A5.out.1.ext hE6.drew
  have r7 := alive_walk AS.out.g
  clear h8 hE6 hK A5 q0 q1 q2 q3 q4 q5 q6 q7
  have hz : ∀ W, Calls Tryz.prog 12 #[.agg #[(.slice aP lP cP), (.slice aA lA cA), (.slice aD lD cD), (.slice aQ lQ cQ)]] W fun e w' => ∃ (a : Option Addr) (l c : Nat), e = .returned (.agg #[.slice none 0 0, .slice a l c]) /\ Num w' (.slice a l c) 1 /\ Ext W w' := fun W => zero_walk
  have hon : ∀ W, Ext w6.drew W -> Calls Tryz.prog 9 #[.agg #[(.slice aP lP cP), (.slice aA lA cA), (.slice aD lD cD), (.slice aQ lQ cQ)], .agg #[(.slice a1 l1 c1), (.slice a2 l2 c2)]] W fun e w' => e = .returned (.bool (onV sx sy)) /\ Ext W w' := fun W h => ft_on (AS.out.ext h)
  have hsz : ∀ W z1 z2, Ext w6.drew W -> W.cell? ⟨z1, 0, none⟩ = some (.string ⟨⟨[48]⟩⟩) -> W.cell? ⟨z2, 0, none⟩ = some (.string ⟨⟨[49]⟩⟩) -> Calls Tryz.prog 10 #[.agg #[(.slice (some ⟨xb, xo, none⟩) 1 cX), (.slice (some ⟨yb, yo, none⟩) 1 cY)], .agg #[.slice (some ⟨z1, 0, none⟩) 1 1, .slice (some ⟨z2, 0, none⟩) 1 1]] W fun e w' => e = .returned (.bool (zeV sx sy)) /\ Ext W w' := fun W z1 z2 h h1 h2 =>
   same_z (h.cell AS.out.t.x) (h.cell AS.out.t.y) AS.out.kx AS.out.ky h1 h2
  have heq : ∀ W, Ext w6.drew W -> Calls Tryz.prog 13 #[.int .i64 0, .int .i64 0, .agg #[(.slice (some ⟨xb, xo, none⟩) 1 cX), (.slice (some ⟨yb, yo, none⟩) 1 cY)], .agg #[(.slice (some ⟨xb, xo, none⟩) 1 cX), (.slice (some ⟨yb, yo, none⟩) 1 cY)]] W fun e w' => e = .returned (.bool true) /\ Ext W w' := fun W h => eqv_walk 0 0 (AS.out.g.ext h) (AS.out.t.ext h)
  obtain ⟨va, hva⟩ : ∃ v, v = onV sx sy := ⟨_, rfl⟩
  obtain ⟨vb, hvb⟩ : ∃ v, v = zeV sx sy := ⟨_, rfl⟩
  rw [<- hva] at hon
  rw [<- hvb] at hsz
  rw [<- hva, <- hvb]
  clear hva hvb AS
  go_region_held3 (fun W => W.cell? ⟨N, 0, none⟩ = some (Value.slice aP lP cP) /\ W.cell? ⟨N, 1, none⟩ = some (Value.slice aA lA cA) /\ W.cell? ⟨N, 2, none⟩ = some (Value.slice aD lD cD) /\ W.cell? ⟨N, 3, none⟩ = some (Value.slice aQ lQ cQ) /\ W.cell? ⟨M, 0, none⟩ = some (Value.slice a1 l1 c1) /\ W.cell? ⟨M, 1, none⟩ = some (Value.slice a2 l2 c2) /\ W.cell? ⟨O, 0, none⟩ = some (Value.slice (some ⟨xb, xo, none⟩) 1 cX) /\ W.cell? ⟨O, 1, none⟩ = some (Value.slice (some ⟨yb, yo, none⟩) 1 cY) /\ Ext w W) (first | with_reducible exact AK.out | with_reducible assumption) (first
   | (go_at_call 7; (with_reducible refine r7.mono ?_); rintro e x1 ⟨rfl, hx1⟩; clear r7; have hk1 := keep_8 AK.out hx1; have r9 := hon x1 hx1; clear hon)
   | (go_at_call 9; (with_reducible refine r9.mono ?_); rintro e x2 ⟨rfl, hx2⟩; clear r9; have hk2 := keep_8 hk1 hx2; have hy2 := hx1.trans hx2; have r12 := hz x2; clear hz)
   | (go_at_call 12; (with_reducible refine r12.mono ?_); rintro e x3 ⟨za, zl, zc, rfl, zn, hx3⟩; clear r12; have hk3 := keep_8 hk2 hx3; have hy3 := hy2.trans hx3; have r11 := ft_told (aP := aP) (lP := lP) (cP := cP) (aA := aA) (lA := lA) (cA := cA) (aD := aD) (lD := lD) (cD := cD) (aQ := aQ) (lQ := lQ) (cQ := cQ) zn; clear zn)
   | (go_at_call 11; (with_reducible refine r11.mono ?_); rintro e x4 ⟨z1, z2, rfl, zk1, zk2, hx4⟩; clear r11; have hk4 := keep_8 hk3 hx4; have hy4 := hy3.trans hx4; have r10 := hsz x4 z1 z2 hy4 zk1 zk2; clear hsz zk1 zk2)
   | (go_at_call 10; (with_reducible refine r10.mono ?_); rintro e x5 ⟨rfl, hx5⟩; clear r10; have hk5 := keep_8 hk4 hx5; have r13 := heq x5 (hy4.trans hx5); clear heq)
   | (go_at_call 13; (with_reducible refine r13.mono ?_); rintro e x6 ⟨rfl, hx6⟩; clear r13; have hk6 := keep_8 hk5 hx6))
  have hfin := hk6.2.2.2.2.2.2.2.2
  clear hk1 hk2 hk3 hk4 hk5 hk6 AK
  go_wp2
  simp [bodyPost, results, Tryz.results3, go_sem]
  exact hfin
theorem fnEdTells_walk {c : Nat} (hc : c < 256) (b : Bool) {pE : Pl} {w : World} {aX aY : Option Addr} {lX cX lY cY : Nat} (hG : Glob pE w) (hx : Strs w (.slice aX lX cX)) (hy : Strs w (.slice aY lY cY)) :
  Calls Tryz.prog 3 #[.int .u8 (c : Int), .bool b, .agg #[.slice aX lX cX, .slice aY lY cY]] w fun e w' => e = .returned (.bool true) /\ Ext w w' := by
 have h3 : c % 3 = 0 \/ c % 3 = 1 \/ c % 3 = 2 := by omega
 rcases h3 with h | h | h <;> cases b
 ·exact ft_live hc h hG hx hy
 ·exact ft_dead hG hx hy (edw_00x hc h)
 ·exact ft_dead hG hx hy (edw_10 hc h)
 ·exact ft_dead hG hx hy (edw_11 hc h)
 ·exact ft_dead hG hx hy (edw_20 hc h)
 ·exact ft_dead hG hx hy (edw_21 hc h)
end Go.Eng
