/-
  The law: the walk through laws.FnEdwards and the plain reckoning at the curve.
-/
import Derived.Test.YtgcdmdkemcgljaaGreatDoorJ3
set_option linter.unusedVariables false
set_option linter.unusedSimpArgs false
namespace Go.Eng
open Go Go.RowKit Go.Proofs
set_option maxRecDepth 100000
set_option maxHeartbeats 6400000 in
theorem fn_dead {c : Nat} {b : Bool} {K L : Int} {pE : Pl} {w : World} (hG : Glob pE w)
    (h1 : Calls Tryz.prog 4 #[.int .u8 (c : Int), .bool b] w fun e w' => e = .returned (.tuple #[.int .i64 K, .int .i64 L, .agg #[.slice none 0 0, .slice none 0 0, .slice none 0 0, .slice none 0 0], .agg #[.slice none 0 0, .slice none 0 0], .bool false]) ∧ Ext w w')
    (h2 : ∀ W, Calls Tryz.prog 5 #[.int .i64 K, .int .i64 L] W fun e w' => e = .returned (.bool false) ∧ w' = W) :
    Calls Tryz.prog 3 #[.int .u8 (c : Int), .bool b] w fun e w' => e = .returned (.bool true) ∧ Ext w w' := by
  go_enter Tryz.func3, Tryz.ntmps3
  go_upto_region 2 with (go_at_call 4; (with_reducible refine h1.mono ?_); rintro e w1 ⟨rfl, hE1⟩)
  clear h1
  obtain ⟨N, hN⟩ : ∃ N, N = w1.heap.size := ⟨_, rfl⟩
  obtain ⟨W2, hW2⟩ : ∃ W, W = (w1.alloc (.cells #[(.slice none 0 0), (.slice none 0 0), (.slice none 0 0), (.slice none 0 0)] 27)).alloc (.cells #[(.slice none 0 0), (.slice none 0 0)] 29) := ⟨_, rfl⟩
  rw [← hW2, ← hN]
  have hE2 : Ext w1 W2 := by rw [hW2]; exact ((Ext.refl _).alloc _).alloc _
  have hEW := hE1.trans hE2
  have ha := alive_walk (hG.ext hEW)
  have h5 := h2 W2
  clear hE1 hE2 hW2 hN hG h2
  go_upto_region 3 with (go_at_call 5; (with_reducible refine h5.mono ?_); rintro e w3 ⟨rfl, hw3⟩; rw [hw3]; clear hw3)
  go_wp2_with (go_at_call 6; (with_reducible refine ha.mono ?_); rintro e w4 ⟨rfl, hE4⟩)
  simp [bodyPost, results, Tryz.results3, go_sem]
  exact hEW.trans hE4
theorem al36 {W W' : World} (h : Ext (W.alloc (.cells #[.slice none 0 0, .slice none 0 0] 36)) W') : W'.cell? ⟨W.heap.size, 0, none⟩ = some (Value.slice none 0 0) ∧ W'.cell? ⟨W.heap.size, 1, none⟩ = some (Value.slice none 0 0) ∧ ∀ o, W'.frozen? ⟨W.heap.size, o, none⟩ = false :=
  ⟨h.cell (cell_al _ _ _ _ rfl rfl), h.cell (cell_al _ _ _ _ rfl rfl), fun o => (h.frozenE (by simp)).trans (frozen_al _ _ _ _ rfl)⟩
theorem keep_4s {W : World} {N b : Nat} {v0 v1 v2 v3 : Value} (h : W.cell? ⟨N, 0, none⟩ = some v0 ∧ W.cell? ⟨N, 1, none⟩ = some v1 ∧ W.cell? ⟨N, 2, none⟩ = some v2 ∧ W.cell? ⟨N, 3, none⟩ = some v3) (hb : N ≠ b) (x y : Value) :
    ((W.setCell ⟨b, 0, none⟩ x).setCell ⟨b, 1, none⟩ y).cell? ⟨N, 0, none⟩ = some v0 ∧ ((W.setCell ⟨b, 0, none⟩ x).setCell ⟨b, 1, none⟩ y).cell? ⟨N, 1, none⟩ = some v1 ∧ ((W.setCell ⟨b, 0, none⟩ x).setCell ⟨b, 1, none⟩ y).cell? ⟨N, 2, none⟩ = some v2 ∧ ((W.setCell ⟨b, 0, none⟩ x).setCell ⟨b, 1, none⟩ y).cell? ⟨N, 3, none⟩ = some v3 :=
  ⟨cell_far2 h.1 hb x y, cell_far2 h.2.1 hb x y, cell_far2 h.2.2.1 hb x y, cell_far2 h.2.2.2 hb x y⟩
theorem keep_4 {W W' : World} {a0 a1 a2 a3 : Addr} {v0 v1 v2 v3 : Value} (h : W.cell? a0 = some v0 ∧ W.cell? a1 = some v1 ∧ W.cell? a2 = some v2 ∧ W.cell? a3 = some v3) (e : Ext W W') : W'.cell? a0 = some v0 ∧ W'.cell? a1 = some v1 ∧ W'.cell? a2 = some v2 ∧ W'.cell? a3 = some v3 := ⟨e.cell h.1, e.cell h.2.1, e.cell h.2.2.1, e.cell h.2.2.2⟩
set_option maxHeartbeats 6400000 in
theorem fn_live {c : Nat} (hc : c < 256) (hr : c % 3 = 0) {pE : Pl} {w : World} (hG : Glob pE w) :
    Calls Tryz.prog 3 #[.int .u8 (c : Int), .bool false] w fun e w' => e = .returned (.bool true) ∧ Ext w w' := by
  have h1 := edw_00 hc hr hG
  go_enter Tryz.func3, Tryz.ntmps3
  go_upto_region 2 with (go_at_call 4; (with_reducible refine h1.mono ?_); rintro e w1 ⟨aP, lP, cP, aA, lA, cA, aD, lD, cD, aQ, lQ, cQ, a1, l1, c1, a2, l2, c2, rfl, hC, hE1⟩)
  clear h1
  obtain ⟨N, hN⟩ : ∃ N, N = w1.heap.size := ⟨_, rfl⟩
  obtain ⟨W2, hW2⟩ : ∃ W, W = (w1.alloc (.cells #[(.slice aP lP cP), (.slice aA lA cA), (.slice aD lD cD), (.slice aQ lQ cQ)] 27)).alloc (.cells #[(.slice a1 l1 c1), (.slice a2 l2 c2)] 29) := ⟨_, rfl⟩
  rw [← hW2, ← hN]
  have hE2 : Ext w1 W2 := by rw [hW2]; exact ((Ext.refl _).alloc _).alloc _
  have g0 : W2.cell? ⟨N, 0, none⟩ = some (.slice aP lP cP) := by rw [hW2]; exact Ext.cell ((Ext.refl _).alloc _) (cell_al _ _ _ _ hN rfl)
  have g1 : W2.cell? ⟨N, 1, none⟩ = some (.slice aA lA cA) := by rw [hW2]; exact Ext.cell ((Ext.refl _).alloc _) (cell_al _ _ _ _ hN rfl)
  have g2 : W2.cell? ⟨N, 2, none⟩ = some (.slice aD lD cD) := by rw [hW2]; exact Ext.cell ((Ext.refl _).alloc _) (cell_al _ _ _ _ hN rfl)
  have g3 : W2.cell? ⟨N, 3, none⟩ = some (.slice aQ lQ cQ) := by rw [hW2]; exact Ext.cell ((Ext.refl _).alloc _) (cell_al _ _ _ _ hN rfl)
  have g4 : W2.cell? ⟨N + 1, 0, none⟩ = some (.slice a1 l1 c1) := by rw [hW2]; exact cell_al _ _ _ _ (by simp [hN]) rfl
  have g5 : W2.cell? ⟨N + 1, 1, none⟩ = some (.slice a2 l2 c2) := by rw [hW2]; exact cell_al _ _ _ _ (by simp [hN]) rfl
  have AG : Aside (Glob pE W2 ∧ Ext w W2 ∧ Curv W2 (.slice aP lP cP) (.slice aA lA cA) (.slice aD lD cD) (.slice aQ lQ cQ) (.slice a1 l1 c1) (.slice a2 l2 c2)) := ⟨hG.ext (hE1.trans hE2), hE1.trans hE2, hC.ext hE2⟩
  have hNl : N < W2.heap.size := lt_of_cell' g0
  clear hC hE1 hE2 hW2 hG hN
  go_upto_region 4 with (go_at_call 5; (with_reducible refine (has_true W2).mono ?_); rintro e w3 ⟨rfl, hw3⟩; rw [hw3]; clear hw3)
  go_cut [10] from 11 to 76 (fun s10 wx => ∃ b z1 z2 : Nat, s10 = .pointer (some ⟨b, 0, none⟩) ∧ wx.cell? ⟨b, 0, none⟩ = some (Value.slice (some ⟨z1, 0, none⟩) 1 1) ∧ wx.cell? ⟨b, 1, none⟩ = some (Value.slice (some ⟨z2, 0, none⟩) 1 1) ∧ wx.cell? ⟨z1, 0, none⟩ = some (.string ⟨⟨[48]⟩⟩) ∧ wx.cell? ⟨z2, 0, none⟩ = some (.string ⟨⟨[49]⟩⟩) ∧ Ext W2 wx)
  case first =>
    have hz : ∀ W, Calls Tryz.prog 8 #[.agg #[(.slice aP lP cP), (.slice aA lA cA), (.slice aD lD cD), (.slice aQ lQ cQ)]] W fun e w' => ∃ (a : Option Addr) (l c : Nat), e = .returned (.agg #[.slice none 0 0, .slice a l c]) ∧ Num w' (.slice a l c) 1 ∧ Ext W w' := fun W => zero_walk
    have ht : ∀ W (a : Option Addr) (l c : Nat), Num W (.slice a l c) 1 → Calls Tryz.prog 7 #[.agg #[(.slice aP lP cP), (.slice aA lA cA), (.slice aD lD cD), (.slice aQ lQ cQ)], .agg #[.slice none 0 0, .slice a l c]] W fun e w' => ∃ (z1 z2 : Nat), e = .returned (.agg #[(.slice (some ⟨z1, 0, none⟩) 1 1), (.slice (some ⟨z2, 0, none⟩) 1 1)]) ∧ w'.cell? ⟨z1, 0, none⟩ = some (.string ⟨⟨[48]⟩⟩) ∧ w'.cell? ⟨z2, 0, none⟩ = some (.string ⟨⟨[49]⟩⟩) ∧ W.heap.size ≤ z1 ∧ W.heap.size ≤ z2 ∧ Ext W w' :=
      fun W a l c k1 => (told_walk (Num.nil W) (by decide) k1 (by decide)).mono fun e w' ⟨b1, b2, s1', s2', r1, r2, r3, r4, r5, r6, r7⟩ => by
        rw [s0 r2] at r4
        rw [s1 r3] at r5
        exact ⟨b1, b2, r1, r4, r5, r6.1, r6.2.1, r7⟩
    have hS : W2.drew.cell? ⟨N, 0, none⟩ = some (Value.slice aP lP cP) ∧ W2.drew.cell? ⟨N, 1, none⟩ = some (Value.slice aA lA cA) ∧ W2.drew.cell? ⟨N, 2, none⟩ = some (Value.slice aD lD cD) ∧ W2.drew.cell? ⟨N, 3, none⟩ = some (Value.slice aQ lQ cQ) := ⟨drew_cell g0, drew_cell g1, drew_cell g2, drew_cell g3⟩
    clear g4 g5 g0 g1 g2 g3
    go_region_held3 (fun W => W.cell? ⟨N, 0, none⟩ = some (Value.slice aP lP cP) ∧ W.cell? ⟨N, 1, none⟩ = some (Value.slice aA lA cA) ∧ W.cell? ⟨N, 2, none⟩ = some (Value.slice aD lD cD) ∧ W.cell? ⟨N, 3, none⟩ = some (Value.slice aQ lQ cQ)) (first | with_reducible assumption | exact keep_4 hS (((Ext.refl W2).alloc _).drew) | exact keep_4 (by with_reducible assumption) ((Ext.refl _).alloc _) | exact keep_4s (by with_reducible assumption) (by omega) _ _) (first
      | (go_at_call 8; (with_reducible refine (hz _).mono ?_); rintro e w6 ⟨a, l, c', rfl, k1, hE6⟩; have hk6 := keep_4 (by with_reducible assumption) hE6; have hN6 : N < w6.heap.size := lt_of_cell' hk6.1)
      | (go_at_call 7; (with_reducible refine (ht _ a l c' (by first | exact k1 | exact k1.ext ((Ext.refl _).alloc _))).mono ?_); rintro e w7 ⟨z1, z2, rfl, k2, k3, k4, k5, hE7⟩; have hk7 := keep_4 (by with_reducible assumption) hE7; (first | (have hal := al36 ((Ext.refl _).drew.trans (hE6.trans hE7))) | (have hal := al36 hE7) | skip); try (obtain ⟨u0, u1, uf⟩ := hal; have ud : ∀ x, (w7.setCell ⟨_, 0, none⟩ x).cell? ⟨_, 1, none⟩ = some (Value.slice none 0 0) := fun x => cell_off1 u1 (by decide))))
    all_goals (go_wp2_with fail; go_meet)
    · exact ⟨_, z1, z2, rfl, cell_al _ _ _ _ rfl rfl, cell_al _ _ _ _ rfl rfl, Ext.cell ((Ext.refl _).alloc _) k2, Ext.cell ((Ext.refl _).alloc _) k3, ((((Ext.refl W2).drew).trans hE6).trans hE7).alloc _⟩
    · have hE7' := ((Ext.refl w6).alloc _).trans hE7
      have hE : Ext W2 w7 := (((Ext.refl W2).drew).trans hE6).trans hE7'
      have hs6 : W2.heap.size ≤ w6.heap.size := hE6.size
      simp only [size_al] at k4 k5
      exact ⟨_, z1, z2, rfl, cell_off1 (World.cell?_setCell_same _ _ _ u0) (by decide), World.cell?_setCell_same _ _ _ (ud _), cell_far2 k2 (by omega) _ _, cell_far2 k3 (by omega) _ _, (hE.setC hs6 _).setC hs6 _⟩
    · have hE0 : Ext W2 w6 := (((Ext.refl W2).alloc _).drew).trans hE6
      have hE : Ext W2 w7 := hE0.trans hE7
      have hs6 : W2.heap.size + 1 ≤ w6.heap.size := by
        have := hE6.size
        simpa using this
      exact ⟨_, z1, z2, rfl, cell_off1 (World.cell?_setCell_same _ _ _ u0) (by decide), World.cell?_setCell_same _ _ _ (ud _), cell_far2 k2 (by omega) _ _, cell_far2 k3 (by omega) _ _, (hE.setC (Nat.le_refl _) _).setC (Nat.le_refl _) _⟩
  case rest =>
    obtain ⟨b, z1, z2, rfl, m0, m1, y1, y2, hEc⟩ := hcut
    have n0 := hEc.cell g0
    have n1 := hEc.cell g1
    have n2 := hEc.cell g2
    have n3 := hEc.cell g3
    have n4 := hEc.cell g4
    have n5 := hEc.cell g5
    have hSc : wc.cell? ⟨N, 0, none⟩ = some (Value.slice aP lP cP) ∧ wc.cell? ⟨N, 1, none⟩ = some (Value.slice aA lA cA) ∧ wc.cell? ⟨N, 2, none⟩ = some (Value.slice aD lD cD) ∧ wc.cell? ⟨N, 3, none⟩ = some (Value.slice aQ lQ cQ) ∧ wc.cell? ⟨N + 1, 0, none⟩ = some (Value.slice a1 l1 c1) ∧ wc.cell? ⟨N + 1, 1, none⟩ = some (Value.slice a2 l2 c2) ∧ wc.cell? ⟨b, 0, none⟩ = some (Value.slice (some ⟨z1, 0, none⟩) 1 1) ∧ wc.cell? ⟨b, 1, none⟩ = some (Value.slice (some ⟨z2, 0, none⟩) 1 1) ∧ Ext w wc := ⟨n0, n1, n2, n3, n4, n5, m0, m1, AG.out.2.1.trans hEc⟩
    have hSd : wc.drew.cell? ⟨N, 0, none⟩ = some (Value.slice aP lP cP) ∧ wc.drew.cell? ⟨N, 1, none⟩ = some (Value.slice aA lA cA) ∧ wc.drew.cell? ⟨N, 2, none⟩ = some (Value.slice aD lD cD) ∧ wc.drew.cell? ⟨N, 3, none⟩ = some (Value.slice aQ lQ cQ) ∧ wc.drew.cell? ⟨N + 1, 0, none⟩ = some (Value.slice a1 l1 c1) ∧ wc.drew.cell? ⟨N + 1, 1, none⟩ = some (Value.slice a2 l2 c2) ∧ wc.drew.cell? ⟨b, 0, none⟩ = some (Value.slice (some ⟨z1, 0, none⟩) 1 1) ∧ wc.drew.cell? ⟨b, 1, none⟩ = some (Value.slice (some ⟨z2, 0, none⟩) 1 1) ∧ Ext w wc.drew := keep_8 hSc (Ext.refl _).drew
    have hCd : Curv wc.drew (.slice aP lP cP) (.slice aA lA cA) (.slice aD lD cD) (.slice aQ lQ cQ) (.slice a1 l1 c1) (.slice a2 l2 c2) := (AG.out.2.2.ext hEc).ext (Ext.refl wc).drew
    have AD : Aside (wc.drew.cell? ⟨N, 0, none⟩ = some (Value.slice aP lP cP) ∧ wc.drew.cell? ⟨N, 1, none⟩ = some (Value.slice aA lA cA) ∧ wc.drew.cell? ⟨N, 2, none⟩ = some (Value.slice aD lD cD) ∧ wc.drew.cell? ⟨N, 3, none⟩ = some (Value.slice aQ lQ cQ) ∧ wc.drew.cell? ⟨N + 1, 0, none⟩ = some (Value.slice a1 l1 c1) ∧ wc.drew.cell? ⟨N + 1, 1, none⟩ = some (Value.slice a2 l2 c2) ∧ wc.drew.cell? ⟨b, 0, none⟩ = some (Value.slice (some ⟨z1, 0, none⟩) 1 1) ∧ wc.drew.cell? ⟨b, 1, none⟩ = some (Value.slice (some ⟨z2, 0, none⟩) 1 1) ∧ Ext w wc.drew) := hSd
    have AY : Aside (wc.drew.cell? ⟨z1, 0, none⟩ = some (.string ⟨⟨[48]⟩⟩) ∧ wc.drew.cell? ⟨z2, 0, none⟩ = some (.string ⟨⟨[49]⟩⟩)) := ⟨drew_cell y1, drew_cell y2⟩
    have hE0 : Ext W2 wc.drew := hEc.drew
    have r6 := alive_walk (AG.out.1.ext hE0)
    have r9 : ∀ W, Curv W (.slice aP lP cP) (.slice aA lA cA) (.slice aD lD cD) (.slice aQ lQ cQ) (.slice a1 l1 c1) (.slice a2 l2 c2) → Calls Tryz.prog 9 #[.agg #[(.slice aP lP cP), (.slice aA lA cA), (.slice aD lD cD), (.slice aQ lQ cQ)], .agg #[(.slice a1 l1 c1), (.slice a2 l2 c2)]] W fun e w' => e = .returned (.bool true) ∧ Ext W w' := fun W h => by
      have := on_core h.1 h.2.1 (by decide) h.2.2.1 (by decide) h.2.2.2.1 (by decide) h.2.2.2.2.1 (by decide) h.2.2.2.2.2 (by decide) (by rw [len_P]; decide) (by rw [len_P]; decide)
      rw [on_base] at this
      exact this
    have r7 : ∀ W, Curv W (.slice aP lP cP) (.slice aA lA cA) (.slice aD lD cD) (.slice aQ lQ cQ) (.slice a1 l1 c1) (.slice a2 l2 c2) → Calls Tryz.prog 7 #[.agg #[(.slice aP lP cP), (.slice aA lA cA), (.slice aD lD cD), (.slice aQ lQ cQ)], .agg #[(.slice a1 l1 c1), (.slice a2 l2 c2)]] W fun e w' => ∃ (b1 b2 : Nat), e = .returned (.agg #[.slice (some ⟨b1, 0, none⟩) 1 1, .slice (some ⟨b2, 0, none⟩) 1 1]) ∧ w'.cell? ⟨b1, 0, none⟩ = some (.string (sOf TxX_s)) ∧ w'.cell? ⟨b2, 0, none⟩ = some (.string (sOf TxY_s)) ∧ Ext W w' :=
      fun W hW => (told_walk hW.2.2.2.2.1 (by decide) hW.2.2.2.2.2 (by decide)).mono fun e w' ⟨b1, b2, s1', s2', r1, r2, r3, r4, r5, r6, r7⟩ => by
        rw [sX r2] at r4
        rw [sY r3] at r5
        exact ⟨b1, b2, r1, r4, r5, r7⟩
    have r11 : ∀ W, Curv W (.slice aP lP cP) (.slice aA lA cA) (.slice aD lD cD) (.slice aQ lQ cQ) (.slice a1 l1 c1) (.slice a2 l2 c2) → Calls Tryz.prog 11 #[.agg #[(.slice aP lP cP), (.slice aA lA cA), (.slice aD lD cD), (.slice aQ lQ cQ)], .agg #[(.slice a1 l1 c1), (.slice a2 l2 c2)], (.slice aQ lQ cQ)] W fun e w' => ∃ (p1 : Option Addr) (i1 j1 : Nat) (p2 : Option Addr) (i2 j2 : Nat), e = .returned (.agg #[.slice p1 i1 j1, .slice p2 i2 j2]) ∧ Num w' (.slice p1 i1 j1) 0 ∧ Num w' (.slice p2 i2 j2) 1 ∧ Ext W w' := fun W h => by
      have := times_core h.1 h.2.1 (by decide) h.2.2.1 (by decide) h.2.2.2.1 (by decide) h.2.2.2.2.1 (by decide) h.2.2.2.2.2 (by decide) h.2.2.2.1 (by decide) (by decide) (by rw [len_P]; decide) (by rw [len_P]; decide)
      rw [times_base] at this
      exact this
    have r7z : ∀ W (p1 : Option Addr) (i1 j1 : Nat) (p2 : Option Addr) (i2 j2 : Nat), Num W (.slice p1 i1 j1) 0 → Num W (.slice p2 i2 j2) 1 → Calls Tryz.prog 7 #[.agg #[(.slice aP lP cP), (.slice aA lA cA), (.slice aD lD cD), (.slice aQ lQ cQ)], .agg #[.slice p1 i1 j1, .slice p2 i2 j2]] W fun e w' => ∃ (b1 b2 : Nat), e = .returned (.agg #[.slice (some ⟨b1, 0, none⟩) 1 1, .slice (some ⟨b2, 0, none⟩) 1 1]) ∧ w'.cell? ⟨b1, 0, none⟩ = some (.string ⟨⟨[48]⟩⟩) ∧ w'.cell? ⟨b2, 0, none⟩ = some (.string ⟨⟨[49]⟩⟩) ∧ Ext W w' :=
      fun W p1 i1 j1 p2 i2 j2 k1 k2 => (told_walk k1 (by decide) k2 (by decide)).mono fun e w' ⟨b1, b2, s1', s2', r1, r2, r3, r4, r5, r6, r7⟩ => by
        rw [s0 r2] at r4
        rw [s1 r3] at r5
        exact ⟨b1, b2, r1, r4, r5, r7⟩
    have r12d : ∀ W, Curv W (.slice aP lP cP) (.slice aA lA cA) (.slice aD lD cD) (.slice aQ lQ cQ) (.slice a1 l1 c1) (.slice a2 l2 c2) → Calls Tryz.prog 12 #[.agg #[(.slice aP lP cP)], (.slice aD lD cD)] W fun e w' => e = .returned (.int .i64 (-1)) ∧ Ext W w' := fun W h => by
      have := leg_walk h.1 (by rw [len_P]; decide) (by rw [len_P]; decide) h.2.2.1 (by decide)
      rw [leg_D] at this
      exact this
    have r12a : ∀ W, Curv W (.slice aP lP cP) (.slice aA lA cA) (.slice aD lD cD) (.slice aQ lQ cQ) (.slice a1 l1 c1) (.slice a2 l2 c2) → Calls Tryz.prog 12 #[.agg #[(.slice aP lP cP)], (.slice aA lA cA)] W fun e w' => e = .returned (.int .i64 1) ∧ Ext W w' := fun W h => by
      have := leg_walk h.1 (by rw [len_P]; decide) (by rw [len_P]; decide) h.2.1 (by decide)
      rw [leg_A] at this
      exact this
    have hnX : ¬ (sOf TxX_s).toList = (⟨⟨[48]⟩⟩ : ByteArray).toList := of_decide_eq_false (by kernel_rfl)
    have AC : Aside (Curv wc.drew (.slice aP lP cP) (.slice aA lA cA) (.slice aD lD cD) (.slice aQ lQ cQ) (.slice a1 l1 c1) (.slice a2 l2 c2)) := hCd
    clear n0 n1 n2 n3 n4 n5 m0 m1 y1 y2 hSc hSd hCd g0 g1 g2 g3 g4 g5 hEc hE0 hNl
    go_upto_region 5 with fail
    go_region_held3 (fun W => W.cell? ⟨N, 0, none⟩ = some (Value.slice aP lP cP) ∧ W.cell? ⟨N, 1, none⟩ = some (Value.slice aA lA cA) ∧ W.cell? ⟨N, 2, none⟩ = some (Value.slice aD lD cD) ∧ W.cell? ⟨N, 3, none⟩ = some (Value.slice aQ lQ cQ) ∧ W.cell? ⟨N + 1, 0, none⟩ = some (Value.slice a1 l1 c1) ∧ W.cell? ⟨N + 1, 1, none⟩ = some (Value.slice a2 l2 c2) ∧ W.cell? ⟨b, 0, none⟩ = some (Value.slice (some ⟨z1, 0, none⟩) 1 1) ∧ W.cell? ⟨b, 1, none⟩ = some (Value.slice (some ⟨z2, 0, none⟩) 1 1) ∧ Ext w W) (first | with_reducible exact AD.out | with_reducible assumption) (first
      | (go_at_call 6; (with_reducible refine r6.mono ?_); rintro e x1 ⟨rfl, hx1⟩; clear r6; have hk1 := keep_8 AD.out hx1; have q9 := r9 x1 (AC.out.ext hx1); clear r9)
      | (go_at_call 9; (with_reducible refine q9.mono ?_); rintro e x2 ⟨rfl, hx2⟩; clear q9; have hk2 := keep_8 hk1 hx2; have q7 := r7 x2 (AC.out.ext (hx1.trans hx2)); clear r7)
      | (go_at_call 7; (with_reducible refine q7.mono ?_); rintro e x3 ⟨b3, b4, rfl, k3, k4, hx3⟩; clear q7; have hk3 := keep_8 hk2 hx3; have q10 := same_ne k3 k4 (((hx1.trans hx2).trans hx3).cell AY.out.1) (((hx1.trans hx2).trans hx3).cell AY.out.2) hnX; clear k3 k4 hnX)
      | (go_at_call 10; (with_reducible refine q10.mono ?_); rintro e x4 ⟨rfl, hx4⟩; clear q10; have hk4 := keep_8 hk3 hx4; have q11 := r11 x4 (AC.out.ext (((hx1.trans hx2).trans hx3).trans hx4)); clear r11)
      | (go_at_call 11; (with_reducible refine q11.mono ?_); rintro e x5 ⟨p1, i1, j1, p2, i2, j2, rfl, k5, k6, hx5⟩; clear q11; have hk5 := keep_8 hk4 hx5; have q7z := r7z x5 p1 i1 j1 p2 i2 j2 k5 k6; clear r7z k5 k6)
      | (go_at_call 7; (with_reducible refine q7z.mono ?_); rintro e x6 ⟨b5, b6, rfl, k7, k8, hx6⟩; clear q7z; have hk6 := keep_8 hk5 hx6; have q10z := same_eq k7 k8 ((((((hx1.trans hx2).trans hx3).trans hx4).trans hx5).trans hx6).cell AY.out.1) ((((((hx1.trans hx2).trans hx3).trans hx4).trans hx5).trans hx6).cell AY.out.2); clear k7 k8)
      | (go_at_call 10; (with_reducible refine q10z.mono ?_); rintro e x7 ⟨rfl, hx7⟩; clear q10z; have hk7 := keep_8 hk6 hx7; have q12 := r12d x7 (AC.out.ext ((((((hx1.trans hx2).trans hx3).trans hx4).trans hx5).trans hx6).trans hx7)); clear r12d)
      | (go_at_call 12; (with_reducible refine q12.mono ?_); rintro e x8 ⟨rfl, hx8⟩; clear q12; have hk8 := keep_8 hk7 hx8; have q12a := r12a x8 (AC.out.ext (((((((hx1.trans hx2).trans hx3).trans hx4).trans hx5).trans hx6).trans hx7).trans hx8)); clear r12a)
      | (go_at_call 12; (with_reducible refine q12a.mono ?_); rintro e x9 ⟨rfl, hx9⟩; clear q12a; have hk9 := keep_8 hk8 hx9))
    have hfin := hk9.2.2.2.2.2.2.2.2
    clear hk1 hk2 hk3 hk4 hk5 hk6 hk7 hk8 hk9 AD AC AY
    go_wp2
    simp [bodyPost, results, Tryz.results3, go_sem]
    exact hfin
/-- laws.FnEdwards answers true, whatever the input; what was there is as it was. -/
theorem fnEdwards_walk {c : Nat} (hc : c < 256) (b : Bool) {pE : Pl} {w : World} (hG : Glob pE w) :
    Calls Tryz.prog 3 #[.int .u8 (c : Int), .bool b] w fun e w' => e = .returned (.bool true) ∧ Ext w w' := by
  have h3 : c % 3 = 0 ∨ c % 3 = 1 ∨ c % 3 = 2 := by omega
  rcases h3 with h | h | h <;> cases b
  · exact fn_live hc h hG
  · exact fn_dead hG (edw_00x hc h w) has_01
  · exact fn_dead hG (edw_10 hc h w) (has_1 _)
  · exact fn_dead hG (edw_11 hc h w) (has_1 _)
  · exact fn_dead hG (edw_20 hc h w) (has_2 _)
  · exact fn_dead hG (edw_21 hc h w) (has_2 _)
end Go.Eng
