/-
  The law: the walk through laws.FnEdwards and the plain reckoning at the curve.
-/
import Derived.Test.YtgcdmdkemcgljaaGreatDoorJ2
import Derived.Test.YtgcdmdkemcgljaaGreatDoorA7
set_option linter.unusedVariables false
set_option linter.unusedSimpArgs false
namespace Go.Eng
open Go Go.RowKit Go.Proofs
set_option maxRecDepth 100000
theorem keep_8 {w W W' : World} {a0 a1 a2 a3 a4 a5 a6 a7 : Addr} {v0 v1 v2 v3 v4 v5 v6 v7 : Value} (h : W.cell? a0 = some v0 ∧ W.cell? a1 = some v1 ∧ W.cell? a2 = some v2 ∧ W.cell? a3 = some v3 ∧ W.cell? a4 = some v4 ∧ W.cell? a5 = some v5 ∧ W.cell? a6 = some v6 ∧ W.cell? a7 = some v7 ∧ Ext w W) (e : Ext W W') : W'.cell? a0 = some v0 ∧ W'.cell? a1 = some v1 ∧ W'.cell? a2 = some v2 ∧ W'.cell? a3 = some v3 ∧ W'.cell? a4 = some v4 ∧ W'.cell? a5 = some v5 ∧ W'.cell? a6 = some v6 ∧ W'.cell? a7 = some v7 ∧ Ext w W' := ⟨e.cell h.1, e.cell h.2.1, e.cell h.2.2.1, e.cell h.2.2.2.1, e.cell h.2.2.2.2.1, e.cell h.2.2.2.2.2.1, e.cell h.2.2.2.2.2.2.1, e.cell h.2.2.2.2.2.2.2.1, (h.2.2.2.2.2.2.2.2).trans e⟩
set_option maxHeartbeats 6400000 in
theorem alive_walk {pE : Pl} {w : World} (hG : Glob pE w) : Calls Tryz.prog 6 #[] w fun e w' => e = .returned (.bool true) ∧ Ext w w' := by
  have h1 := edw_00 (c := 0) (by decide) rfl hG
  rw [show ((0 : Nat) : Int) = 0 from rfl] at h1
  go_enter Tryz.func6, Tryz.ntmps6
  go_upto_region 2 with (go_at_call 4; (with_reducible refine h1.mono ?_); rintro e w1 ⟨aP, lP, cP, aA, lA, cA, aD, lD, cD, aQ, lQ, cQ, a1, l1, c1, a2, l2, c2, rfl, hC, hE1⟩)
  clear h1
  obtain ⟨N, hN⟩ : ∃ N, N = w1.heap.size := ⟨_, rfl⟩
  obtain ⟨W2, hW2⟩ : ∃ W, W = (w1.alloc (.cells #[(.slice aP lP cP), (.slice aA lA cA), (.slice aD lD cD), (.slice aQ lQ cQ)] 27)).alloc (.cells #[(.slice a1 l1 c1), (.slice a2 l2 c2)] 29) := ⟨_, rfl⟩
  rw [← hW2, ← hN]
  have hE2 : Ext w1 W2 := by rw [hW2]; exact ((Ext.refl _).alloc _).alloc _
  have g0 : W2.cell? ⟨N, 0, none⟩ = some (.slice aP lP cP) := by rw [hW2]; exact Ext.cell ((Ext.refl _).alloc _) (cell_al _ _ _ _ hN rfl)
  have g1 : W2.cell? ⟨N, 1, none⟩ = some (.slice aA lA cA) := by rw [hW2]; exact Ext.cell ((Ext.refl _).alloc _) (cell_al _ _ _ _ hN rfl)
  have g2 : W2.cell? ⟨N, 2, none⟩ = some (.slice aD lD cD) := by rw [hW2]; exact Ext.cell ((Ext.refl _).alloc _) (cell_al _ _ _ _ hN rfl)
  have g3 : W2.cell? ⟨N, 3, none⟩ = some (.slice aQ lQ cQ) := by rw [hW2]; exact Ext.cell ((Ext.refl _).alloc _) (cell_al _ _ _ _ hN rfl)
  have g4 : W2.cell? ⟨N + 1, 0, none⟩ = some (.slice a1 l1 c1) := by rw [hW2]; exact cell_al _ _ _ _ (by simp [hN]) rfl
  have g5 : W2.cell? ⟨N + 1, 1, none⟩ = some (.slice a2 l2 c2) := by rw [hW2]; exact cell_al _ _ _ _ (by simp [hN]) rfl
  have hGW := hG.ext (hE1.trans hE2)
  have hEW := hE1.trans hE2
  have hCW := hC.ext hE2
  have AC : Aside (Curv W2 (.slice aP lP cP) (.slice aA lA cA) (.slice aD lD cD) (.slice aQ lQ cQ) (.slice a1 l1 c1) (.slice a2 l2 c2)) := hCW
  have hts : ∀ W, Curv W (.slice aP lP cP) (.slice aA lA cA) (.slice aD lD cD) (.slice aQ lQ cQ) (.slice a1 l1 c1) (.slice a2 l2 c2) → Calls Tryz.prog 7 #[.agg #[(.slice aP lP cP), (.slice aA lA cA), (.slice aD lD cD), (.slice aQ lQ cQ)], .agg #[(.slice a1 l1 c1), (.slice a2 l2 c2)]] W fun e w' => ∃ (b1 b2 : Nat), e = .returned (.agg #[.slice (some ⟨b1, 0, none⟩) 1 1, .slice (some ⟨b2, 0, none⟩) 1 1]) ∧ w'.cell? ⟨b1, 0, none⟩ = some (.string (sOf TxX_s)) ∧ w'.cell? ⟨b2, 0, none⟩ = some (.string (sOf TxY_s)) ∧ (W.heap.size ≤ b1 ∧ W.heap.size ≤ b2 ∧ b1 ≠ b2 ∧ (∀ o, w'.frozen? ⟨b1, o, none⟩ = false) ∧ ∀ o, w'.frozen? ⟨b2, o, none⟩ = false) ∧ Ext W w' :=
    fun W hW => (told_walk hW.2.2.2.2.1 (by decide) hW.2.2.2.2.2 (by decide)).mono fun e w' ⟨b1, b2, s1, s2, r1, r2, r3, r4, r5, r6, r7⟩ => by
      rw [sX r2] at r4
      rw [sY r3] at r5
      exact ⟨b1, b2, r1, r4, r5, r6, r7⟩
  have ht := hts W2 hCW
  clear hts hC hE1 hE2 hW2 hG hCW hN
  go_upto_region 4 with fail
  go_upto_region 5 with (first
    | (go_at_call 7; (with_reducible refine ht.mono ?_); rintro e w3 ⟨b1, b2, rfl, hc1, hc2, ⟨hb1, hb2, hne, hz1, hz2⟩, hE3⟩; have hd := double_call (pE := pE) (w0 := W2) (w := w3) hGW hE3 hb1 hb2 hne hc1 hc2 hz1 hz2; clear hc1 hc2 hb1 hb2 hne hz1 hz2)
    | (go_at_call 15; (with_reducible refine hd.mono ?_); rintro e w4 ⟨d1, o1, d2, o2, rfl, hx, hy, hE4⟩))
  clear hd hGW ht
  obtain ⟨M, hM⟩ : ∃ M, M = w4.heap.size := ⟨_, rfl⟩
  obtain ⟨W5, hW5⟩ : ∃ W, W = w4.alloc (.cells #[.slice (some ⟨d1, o1, none⟩) 1 1, .slice (some ⟨d2, o2, none⟩) 1 1] 36) := ⟨_, rfl⟩
  rw [← hW5, ← hM]
  have hE5 : Ext w4 W5 := by rw [hW5]; exact (Ext.refl _).alloc _
  have m0 : W5.cell? ⟨M, 0, none⟩ = some (.slice (some ⟨d1, o1, none⟩) 1 1) := by rw [hW5]; exact cell_al _ _ _ _ hM rfl
  have m1 : W5.cell? ⟨M, 1, none⟩ = some (.slice (some ⟨d2, o2, none⟩) 1 1) := by rw [hW5]; exact cell_al _ _ _ _ hM rfl
  have hE25 := (hE3.trans hE4).trans hE5
  have n0 := hE25.cell g0
  have n1 := hE25.cell g1
  have n2 := hE25.cell g2
  have n3 := hE25.cell g3
  have n4 := hE25.cell g4
  have n5 := hE25.cell g5
  have hx5 := hE5.cell hx
  have hy5 := hE5.cell hy
  have hS5 : W5.cell? ⟨N, 0, none⟩ = some (Value.slice aP lP cP) ∧ W5.cell? ⟨N, 1, none⟩ = some (Value.slice aA lA cA) ∧ W5.cell? ⟨N, 2, none⟩ = some (Value.slice aD lD cD) ∧ W5.cell? ⟨N, 3, none⟩ = some (Value.slice aQ lQ cQ) ∧ W5.cell? ⟨N + 1, 0, none⟩ = some (Value.slice a1 l1 c1) ∧ W5.cell? ⟨N + 1, 1, none⟩ = some (Value.slice a2 l2 c2) ∧ W5.cell? ⟨M, 0, none⟩ = some (Value.slice (some ⟨d1, o1, none⟩) 1 1) ∧ W5.cell? ⟨M, 1, none⟩ = some (Value.slice (some ⟨d2, o2, none⟩) 1 1) ∧ Ext w W5 := ⟨n0, n1, n2, n3, n4, n5, m0, m1, hEW.trans hE25⟩
  have hS := keep_8 hS5 (Ext.refl _).drew
  have AK : Aside (W5.drew.cell? ⟨N, 0, none⟩ = some (Value.slice aP lP cP) ∧ W5.drew.cell? ⟨N, 1, none⟩ = some (Value.slice aA lA cA) ∧ W5.drew.cell? ⟨N, 2, none⟩ = some (Value.slice aD lD cD) ∧ W5.drew.cell? ⟨N, 3, none⟩ = some (Value.slice aQ lQ cQ) ∧ W5.drew.cell? ⟨N + 1, 0, none⟩ = some (Value.slice a1 l1 c1) ∧ W5.drew.cell? ⟨N + 1, 1, none⟩ = some (Value.slice a2 l2 c2) ∧ W5.drew.cell? ⟨M, 0, none⟩ = some (Value.slice (some ⟨d1, o1, none⟩) 1 1) ∧ W5.drew.cell? ⟨M, 1, none⟩ = some (Value.slice (some ⟨d2, o2, none⟩) 1 1) ∧ Ext w W5.drew) := hS
  have hC5 := (AC.out.ext hE25).ext (Ext.refl W5).drew
  have hp := Plus_core hC5.1 hC5.2.1 (by decide) hC5.2.2.1 (by decide) hC5.2.2.2.1 (by decide) hC5.2.2.2.2.1 (by decide) hC5.2.2.2.2.2 (by decide) hC5.2.2.2.2.1 (by decide) hC5.2.2.2.2.2 (by decide) (by rw [len_P]; decide) (by rw [len_P]; decide)
  rw [plus_base] at hp
  have ht : ∀ W (p1 : Option Addr) (i1 j1 : Nat) (p2 : Option Addr) (i2 j2 : Nat), Num W (.slice p1 i1 j1) nX2 → Num W (.slice p2 i2 j2) nY2 → Calls Tryz.prog 7 #[.agg #[(.slice aP lP cP), (.slice aA lA cA), (.slice aD lD cD), (.slice aQ lQ cQ)], .agg #[.slice p1 i1 j1, .slice p2 i2 j2]] W fun e w' => ∃ (b1 b2 : Nat), e = .returned (.agg #[.slice (some ⟨b1, 0, none⟩) 1 1, .slice (some ⟨b2, 0, none⟩) 1 1]) ∧ w'.cell? ⟨b1, 0, none⟩ = some (.string (sOf Dx_s)) ∧ w'.cell? ⟨b2, 0, none⟩ = some (.string (sOf Dy_s)) ∧ Ext W w' :=
    fun W p1 i1 j1 p2 i2 j2 k1 k2 => (told_walk k1 (by decide) k2 (by decide)).mono fun e w' ⟨b1, b2, s1, s2, r1, r2, r3, r4, r5, r6, r7⟩ => by
      rw [sX2 r2] at r4
      rw [sY2 r3] at r5
      exact ⟨b1, b2, r1, r4, r5, r7⟩
  have Axy : Aside (W5.drew.cell? ⟨d1, o1, none⟩ = some (.string (sOf Dx_s)) ∧ W5.drew.cell? ⟨d2, o2, none⟩ = some (.string (sOf Dy_s))) := ⟨drew_cell hx5, drew_cell hy5⟩
  clear hE3 hE4 hE5 hW5 hM hE25 g0 g1 g2 g3 g4 g5 n0 n1 n2 n3 n4 n5 m0 m1 hS hS5 hx hy hx5 hy5 hEW AC hC5
  go_region_held3 (fun W => W.cell? ⟨N, 0, none⟩ = some (Value.slice aP lP cP) ∧ W.cell? ⟨N, 1, none⟩ = some (Value.slice aA lA cA) ∧ W.cell? ⟨N, 2, none⟩ = some (Value.slice aD lD cD) ∧ W.cell? ⟨N, 3, none⟩ = some (Value.slice aQ lQ cQ) ∧ W.cell? ⟨N + 1, 0, none⟩ = some (Value.slice a1 l1 c1) ∧ W.cell? ⟨N + 1, 1, none⟩ = some (Value.slice a2 l2 c2) ∧ W.cell? ⟨M, 0, none⟩ = some (Value.slice (some ⟨d1, o1, none⟩) 1 1) ∧ W.cell? ⟨M, 1, none⟩ = some (Value.slice (some ⟨d2, o2, none⟩) 1 1) ∧ Ext w W) (first | with_reducible exact AK.out | with_reducible assumption) (first
    | (go_at_call 16; (with_reducible refine hp.mono ?_); rintro e w6 ⟨p1, i1, j1, p2, i2, j2, rfl, k1, k2, hE6⟩; have h7 := ht w6 p1 i1 j1 p2 i2 j2 k1 k2; have hk6 := keep_8 AK.out hE6)
    | (go_at_call 7; (with_reducible refine h7.mono ?_); rintro e w7 ⟨b3, b4, rfl, k3, k4, hE7⟩; have h10 := same_eq ((hE6.trans hE7).cell Axy.out.1) ((hE6.trans hE7).cell Axy.out.2) k3 k4; have hk7 := keep_8 hk6 hE7)
    | (go_at_call 10; (with_reducible refine h10.mono ?_); rintro e w8 ⟨rfl, hE8⟩; have hk8 := keep_8 hk7 hE8))
  have hfin := hk8.2.2.2.2.2.2.2.2
  clear hk6 hk7 hk8 AK hp ht h7 h10 Axy
  go_wp2
  simp [bodyPost, results, Tryz.results6, go_sem]
  exact hfin
end Go.Eng
