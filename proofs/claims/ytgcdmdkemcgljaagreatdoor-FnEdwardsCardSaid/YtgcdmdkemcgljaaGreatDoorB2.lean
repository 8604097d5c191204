/-
  Contracts of the reference package spec: texts read, points told, the curve made.
-/
import Derived.Deep.DeepMust
import Derived.Deep.RegionHeld3
import Derived.Deep.Quiet
import Derived.Deep.QuietTactic
import Derived.Test.YtgcdmdkemcgljaaGreatDoorA9
import Derived.Test.YtgcdmdkemcgljaaGreatDoorA6
import Derived.Test.YtgcdmdkemcgljaaGreatDoorA8
import Derived.Test.YtgcdmdkemcgljaaGreatDoorB1
set_option linter.unusedVariables false
set_option linter.unusedSimpArgs false
namespace Go.Eng
open Go Go.RowKit Go.Proofs
set_option maxRecDepth 100000
set_option maxHeartbeats 3200000 in
theorem in_walk {vp vx : Value} {X P : Nat} {w : World} (hp : Num w vp P) (hlp : nlen P ≤ 1000) (hx : Num w vx X) (hlx : nlen X ≤ 1000) :
    Calls Tryz.prog 60 #[.agg #[vp], vx] w fun e w' => e = .returned (.bool (decide (X < P))) ∧ Ext w w' := by
  have hcmp : ∀ W, Ext w W → Calls Tryz.prog 21 #[vx, vp] W fun e w' => e = .returned (.int .i64 (cmpN X P)) ∧ Ext w w' := fun W hW =>
    (cmp_walk (hx.ext hW) (hp.ext hW) (by omega) (by omega)).mono fun e w' ⟨h1, h2⟩ => ⟨h1, hW.trans h2⟩
  obtain ⟨cv, hcv⟩ : ∃ c, c = cmpN X P := ⟨_, rfl⟩
  rw [← hcv] at hcmp
  have hc : decide (cv < 0) = decide (X < P) := by
    rw [hcv]; unfold cmpN
    by_cases h : X < P
    · rw [if_pos h]; simp [h]
    · rw [if_neg h]
      split <;> simp [h]
  obtain ⟨bv, hbv⟩ : ∃ b, b = decide (X < P) := ⟨_, rfl⟩
  rw [← hbv] at hc ⊢
  have hE : ∀ o, Ext w (w.alloc o) := fun o => (Ext.refl w).alloc o
  have AC : Aside (decide (cv < 0) = bv) := hc
  clear hp hx hlp hlx hcv hbv hc
  go_enter Tryz.func60, Tryz.ntmps60
  go_wp2_with (go_at_call 21; (with_reducible refine (hcmp _ (hE _)).mono ?_); rintro e w1 ⟨rfl, hE1⟩)
  go_ret
  exact ⟨by rw [← AC.out]; rfl, hE1⟩
theorem keepS {w W : World} {v0 v1 x y : Value} (h : W.cell? ⟨w.heap.size + 1, 0, none⟩ = some v0 ∧ W.cell? ⟨w.heap.size + 1, 1, none⟩ = some v1 ∧ Ext w W) :
    ((W.setCell ⟨w.heap.size + 1 + 1, 0, none⟩ x).setCell ⟨w.heap.size + 1 + 1, 1, none⟩ y).cell? ⟨w.heap.size + 1, 0, none⟩ = some v0 ∧ ((W.setCell ⟨w.heap.size + 1 + 1, 0, none⟩ x).setCell ⟨w.heap.size + 1 + 1, 1, none⟩ y).cell? ⟨w.heap.size + 1, 1, none⟩ = some v1 ∧ Ext w ((W.setCell ⟨w.heap.size + 1 + 1, 0, none⟩ x).setCell ⟨w.heap.size + 1 + 1, 1, none⟩ y) :=
  ⟨cell_far2 h.1 (by omega) x y, cell_far2 h.2.1 (by omega) x y, (h.2.2.setC (by show w.heap.size ≤ w.heap.size + 1 + 1; omega) x).setC (by show w.heap.size ≤ w.heap.size + 1 + 1; omega) y⟩
theorem told_fin {w W : World} {b1 b2 : Nat} {s1 s2 : ByteArray} (h0 : W.cell? ⟨w.heap.size + 1 + 1, 0, none⟩ = some (.slice none 0 0)) (h1 : W.cell? ⟨w.heap.size + 1 + 1, 1, none⟩ = some (.slice none 0 0)) (g1 : W.cell? ⟨b1, 0, none⟩ = some (.string s1)) (g2 : W.cell? ⟨b2, 0, none⟩ = some (.string s2)) (n1 : b1 ≠ w.heap.size + 1 + 1) (n2 : b2 ≠ w.heap.size + 1 + 1) (hE : Ext w W) (z1 : ∀ o, W.frozen? ⟨b1, o, none⟩ = false) (z2 : ∀ o, W.frozen? ⟨b2, o, none⟩ = false) (x y : Value) :
    ((W.setCell ⟨w.heap.size + 1 + 1, 0, none⟩ x).setCell ⟨w.heap.size + 1 + 1, 1, none⟩ y).cell? ⟨w.heap.size + 1 + 1, 0, none⟩ = some x ∧ ((W.setCell ⟨w.heap.size + 1 + 1, 0, none⟩ x).setCell ⟨w.heap.size + 1 + 1, 1, none⟩ y).cell? ⟨w.heap.size + 1 + 1, 1, none⟩ = some y ∧
    ((W.setCell ⟨w.heap.size + 1 + 1, 0, none⟩ x).setCell ⟨w.heap.size + 1 + 1, 1, none⟩ y).cell? ⟨b1, 0, none⟩ = some (.string s1) ∧ ((W.setCell ⟨w.heap.size + 1 + 1, 0, none⟩ x).setCell ⟨w.heap.size + 1 + 1, 1, none⟩ y).cell? ⟨b2, 0, none⟩ = some (.string s2) ∧ Ext w ((W.setCell ⟨w.heap.size + 1 + 1, 0, none⟩ x).setCell ⟨w.heap.size + 1 + 1, 1, none⟩ y) ∧ (∀ o, ((W.setCell ⟨w.heap.size + 1 + 1, 0, none⟩ x).setCell ⟨w.heap.size + 1 + 1, 1, none⟩ y).frozen? ⟨b1, o, none⟩ = false) ∧ ∀ o, ((W.setCell ⟨w.heap.size + 1 + 1, 0, none⟩ x).setCell ⟨w.heap.size + 1 + 1, 1, none⟩ y).frozen? ⟨b2, o, none⟩ = false :=
  ⟨cell_off1 (World.cell?_setCell_same _ _ _ h0) (by decide), World.cell?_setCell_same _ _ _ (cell_off1 h1 (by decide)), cell_far2 g1 n1 x y, cell_far2 g2 n2 x y, (hE.setC (by show w.heap.size ≤ w.heap.size + 1 + 1; omega) x).setC (by show w.heap.size ≤ w.heap.size + 1 + 1; omega) y, fun o => by simp only [World.frozen?_setCell]; exact z1 o, fun o => by simp only [World.frozen?_setCell]; exact z2 o⟩
set_option maxHeartbeats 3200000 in
theorem told_walk {aP aA aD aQ ax ay : Option Addr} {lP cP lA cA lD cD lQ cQ lx cx Nx ly cy Ny : Nat} {w : World} (hx : Num w (.slice ax lx cx) Nx) (hlx : nlen Nx ≤ 1000) (hy : Num w (.slice ay ly cy) Ny) (hly : nlen Ny ≤ 1000) :
    Calls Tryz.prog 7 #[.agg #[.slice aP lP cP, .slice aA lA cA, .slice aD lD cD, .slice aQ lQ cQ], .agg #[.slice ax lx cx, .slice ay ly cy]] w fun e w' => ∃ (b1 b2 : Nat) (s1 s2 : ByteArray), e = .returned (.agg #[.slice (some ⟨b1, 0, none⟩) 1 1, .slice (some ⟨b2, 0, none⟩) 1 1]) ∧ IsDec Nx s1 ∧ IsDec Ny s2 ∧ w'.cell? ⟨b1, 0, none⟩ = some (.string s1) ∧ w'.cell? ⟨b2, 0, none⟩ = some (.string s2) ∧ (w.heap.size ≤ b1 ∧ w.heap.size ≤ b2 ∧ b1 ≠ b2 ∧ (∀ o, w'.frozen? ⟨b1, o, none⟩ = false) ∧ ∀ o, w'.frozen? ⟨b2, o, none⟩ = false) ∧ Ext w w' := by
  have hs1 : ∀ W, Ext w W → Calls Tryz.prog 17 #[.slice ax lx cx] W fun e w' => ∃ s, e = .returned (.string s) ∧ IsDec Nx s ∧ Ext W w' := fun W hW => string_walk (hx.ext hW) hlx
  have hs2 : ∀ W, Ext w W → Calls Tryz.prog 17 #[.slice ay ly cy] W fun e w' => ∃ s, e = .returned (.string s) ∧ IsDec Ny s ∧ Ext W w' := fun W hW => string_walk (hy.ext hW) hly
  clear hx hy hlx hly
  obtain ⟨B, hB⟩ : ∃ B, B = ((w.alloc (.cells #[.slice aP lP cP, .slice aA lA cA, .slice aD lD cD, .slice aQ lQ cQ] 27)).alloc (.cells #[.slice ax lx cx, .slice ay ly cy] 29)).alloc (.cells #[.slice none 0 0, .slice none 0 0] 36) := ⟨_, rfl⟩
  have hEB : Ext w B := by rw [hB]; exact (((Ext.refl _).alloc _).alloc _).alloc _
  have c10 : B.cell? ⟨w.heap.size + 1, 0, none⟩ = some (.slice ax lx cx) := by
    rw [hB]
    exact Ext.cell ((Ext.refl _).alloc _) (cell_al _ _ _ _ (by simp) rfl)
  have c11 : B.cell? ⟨w.heap.size + 1, 1, none⟩ = some (.slice ay ly cy) := by
    rw [hB]
    exact Ext.cell ((Ext.refl _).alloc _) (cell_al _ _ _ _ (by simp) rfl)
  have c20 : B.cell? ⟨w.heap.size + 1 + 1, 0, none⟩ = some (.slice none 0 0) := by
    rw [hB]
    exact cell_al _ _ _ _ (by simp) rfl
  have c21 : B.cell? ⟨w.heap.size + 1 + 1, 1, none⟩ = some (.slice none 0 0) := by
    rw [hB]
    exact cell_al _ _ _ _ (by simp) rfl
  have f2 : ∀ o, B.frozen? ⟨w.heap.size + 1 + 1, o, none⟩ = false := fun o => by rw [hB]; exact frozen_al _ _ _ _ (by simp)
  have hsB : w.heap.size + 1 + 1 < B.heap.size := by rw [hB]; simp
  go_enter Tryz.func7, Tryz.ntmps7
  go_upto_region 1 with fail
  rw [← hB]
  clear hB
  have hs1' := hs1 B.drew hEB.drew
  go_region_held3 (fun W => W.cell? ⟨w.heap.size + 1, 0, none⟩ = some (Value.slice ax lx cx) ∧ W.cell? ⟨w.heap.size + 1, 1, none⟩ = some (Value.slice ay ly cy) ∧ Ext w W) (first | exact ⟨c10, c11, hEB.drew⟩ | exact keep2 (by assumption) (by assumption) | exact keep2 (by assumption) ((Ext.refl _).alloc _) | exact keepS (by assumption)) (first
    | (go_at_call 17; (with_reducible refine hs1'.mono ?_); rintro e w1 ⟨s1, rfl, d1, hE1⟩)
    | (go_at_call 17; (with_reducible refine (hs2 w1 (hEB.drew.trans hE1)).mono ?_); rintro e w2 ⟨s2, rfl, d2, hE2⟩; have hEz : Ext B w2 := ((Ext.refl B).drew.trans hE1).trans hE2; have kz0 : ∀ o, (w2.alloc o).cell? ⟨w.heap.size + 1 + 1, 0, none⟩ = some (Value.slice none 0 0) := fun o => (hEz.alloc o).cell c20; have kz1 : ∀ o, (w2.alloc o).cell? ⟨w.heap.size + 1 + 1, 1, none⟩ = some (Value.slice none 0 0) := fun o => (hEz.alloc o).cell c21; have fz : ∀ o i, (w2.alloc o).frozen? ⟨w.heap.size + 1 + 1, i, none⟩ = false := fun o i => ((hEz.alloc o).frozenE hsB).trans (f2 i); have dz1 : ∀ o u0, ((w2.alloc o).setCell ⟨w.heap.size + 1 + 1, 0, none⟩ u0).cell? ⟨w.heap.size + 1 + 1, 1, none⟩ = some (Value.slice none 0 0) := fun o u0 => cell_off1 ((hEz.alloc o).cell c21) (by decide); have kz0' : ∀ o p, ((w2.alloc o).alloc p).cell? ⟨w.heap.size + 1 + 1, 0, none⟩ = some (Value.slice none 0 0) := fun o p => ((hEz.alloc o).alloc p).cell c20; have kz1' : ∀ o p, ((w2.alloc o).alloc p).cell? ⟨w.heap.size + 1 + 1, 1, none⟩ = some (Value.slice none 0 0) := fun o p => ((hEz.alloc o).alloc p).cell c21; have fz' : ∀ o p i, ((w2.alloc o).alloc p).frozen? ⟨w.heap.size + 1 + 1, i, none⟩ = false := fun o p i => (((hEz.alloc o).alloc p).frozenE hsB).trans (f2 i); have dz1' : ∀ o p u0, (((w2.alloc o).alloc p).setCell ⟨w.heap.size + 1 + 1, 0, none⟩ u0).cell? ⟨w.heap.size + 1 + 1, 1, none⟩ = some (Value.slice none 0 0) := fun o p u0 => cell_off1 (((hEz.alloc o).alloc p).cell c21) (by decide); clear hEz)
    | (go_at_call 17; (with_reducible refine (hs2 (w1.alloc _) ((hEB.drew.trans hE1).alloc _)).mono ?_); rintro e w2 ⟨s2, rfl, d2, hE2⟩; have hEz : Ext B w2 := (((Ext.refl B).drew.trans hE1).alloc _).trans hE2; have kz0 : ∀ o, (w2.alloc o).cell? ⟨w.heap.size + 1 + 1, 0, none⟩ = some (Value.slice none 0 0) := fun o => (hEz.alloc o).cell c20; have kz1 : ∀ o, (w2.alloc o).cell? ⟨w.heap.size + 1 + 1, 1, none⟩ = some (Value.slice none 0 0) := fun o => (hEz.alloc o).cell c21; have fz : ∀ o i, (w2.alloc o).frozen? ⟨w.heap.size + 1 + 1, i, none⟩ = false := fun o i => ((hEz.alloc o).frozenE hsB).trans (f2 i); have dz1 : ∀ o u0, ((w2.alloc o).setCell ⟨w.heap.size + 1 + 1, 0, none⟩ u0).cell? ⟨w.heap.size + 1 + 1, 1, none⟩ = some (Value.slice none 0 0) := fun o u0 => cell_off1 ((hEz.alloc o).cell c21) (by decide); have kz0' : ∀ o p, ((w2.alloc o).alloc p).cell? ⟨w.heap.size + 1 + 1, 0, none⟩ = some (Value.slice none 0 0) := fun o p => ((hEz.alloc o).alloc p).cell c20; have kz1' : ∀ o p, ((w2.alloc o).alloc p).cell? ⟨w.heap.size + 1 + 1, 1, none⟩ = some (Value.slice none 0 0) := fun o p => ((hEz.alloc o).alloc p).cell c21; have fz' : ∀ o p i, ((w2.alloc o).alloc p).frozen? ⟨w.heap.size + 1 + 1, i, none⟩ = false := fun o p i => (((hEz.alloc o).alloc p).frozenE hsB).trans (f2 i); have dz1' : ∀ o p u0, (((w2.alloc o).alloc p).setCell ⟨w.heap.size + 1 + 1, 0, none⟩ u0).cell? ⟨w.heap.size + 1 + 1, 1, none⟩ = some (Value.slice none 0 0) := fun o p u0 => cell_off1 (((hEz.alloc o).alloc p).cell c21) (by decide); clear hEz))
  · have hE2B : Ext B w2 := (((Ext.refl B).drew.trans hE1).alloc _).trans hE2
    have hEW : Ext B (w2.alloc (.cells #[.string s2] 9)) := hE2B.alloc _
    have hsz1 := ((Ext.refl B).drew.trans hE1).size
    have hsz := hE2B.size
    have hsz2 := hE2.size
    rw [size_al] at hsz2
    obtain ⟨k0, k1, r1, r2, hE, y1, y2⟩ := told_fin (w := w) (W := w2.alloc (.cells #[.string s2] 9)) (b1 := w1.heap.size) (b2 := w2.heap.size) (s1 := s1) (s2 := s2) (hEW.cell c20) (hEW.cell c21) (((Ext.refl w2).alloc _).cell (hE2.cell (cell_al _ _ _ _ rfl rfl))) (cell_al _ _ _ _ rfl rfl) (by omega) (by omega) (hEB.trans hEW) (fun o => (Ext.frozenE ((Ext.refl w2).alloc _) (by omega)).trans ((hE2.frozenE (by simp)).trans (frozen_al _ _ _ o rfl))) (fun o => frozen_al _ _ _ o rfl) (.slice (some ⟨w1.heap.size, 0, none⟩) 1 1) (.slice (some ⟨w2.heap.size, 0, none⟩) 1 1)
    generalize ((w2.alloc (.cells #[.string s2] 9)).setCell ⟨w.heap.size + 1 + 1, 0, none⟩ (.slice (some ⟨w1.heap.size, 0, none⟩) 1 1)).setCell ⟨w.heap.size + 1 + 1, 1, none⟩ (.slice (some ⟨w2.heap.size, 0, none⟩) 1 1) = W9 at k0 k1 r1 r2 hE y1 y2 ⊢
    have AQ : Aside (IsDec Nx s1 ∧ IsDec Ny s2 ∧ W9.cell? ⟨w1.heap.size, 0, none⟩ = some (.string s1) ∧ W9.cell? ⟨w2.heap.size, 0, none⟩ = some (.string s2) ∧ (w.heap.size ≤ w1.heap.size ∧ w.heap.size ≤ w2.heap.size ∧ w1.heap.size ≠ w2.heap.size ∧ (∀ o, W9.frozen? ⟨w1.heap.size, o, none⟩ = false) ∧ ∀ o, W9.frozen? ⟨w2.heap.size, o, none⟩ = false) ∧ Ext w W9) := ⟨d1, d2, r1, r2, ⟨by omega, by omega, by omega, y1, y2⟩, hE⟩
    clear d1 d2 r1 r2 y1 y2 hE hEW hE2B hE1 hE2 hs1 hs2 hs1'
    go_wp2
    simp [bodyPost, results, Tryz.results7, go_sem, k0, k1]
    obtain ⟨q1, q2, q3, q4, q6, q5⟩ := AQ.out
    exact ⟨_, _, ⟨rfl, rfl⟩, s1, q1, s2, q2, q3, q4, q6, q5⟩
  · have hE2B : Ext B w2 := ((Ext.refl B).drew.trans hE1).trans hE2
    have hEW : Ext B ((w2.alloc (.cells #[.string s1] 9)).alloc (.cells #[.string s2] 9)) := (hE2B.alloc _).alloc _
    have hsz := hE2B.size
    obtain ⟨k0, k1, r1, r2, hE, y1, y2⟩ := told_fin (w := w) (W := (w2.alloc (.cells #[.string s1] 9)).alloc (.cells #[.string s2] 9)) (b1 := w2.heap.size) (b2 := (w2.heap.size + 1)) (s1 := s1) (s2 := s2) (hEW.cell c20) (hEW.cell c21) (Ext.cell ((Ext.refl _).alloc _) (cell_al _ _ _ _ rfl rfl)) (cell_al _ _ _ _ (by simp) rfl) (by omega) (by omega) (hEB.trans hEW) (fun o => (Ext.frozenE ((Ext.refl _).alloc _) (by simp)).trans (frozen_al _ _ _ o rfl)) (fun o => frozen_al _ _ _ o (by simp)) (.slice (some ⟨w2.heap.size, 0, none⟩) 1 1) (.slice (some ⟨(w2.heap.size + 1), 0, none⟩) 1 1)
    generalize (((w2.alloc (.cells #[.string s1] 9)).alloc (.cells #[.string s2] 9)).setCell ⟨w.heap.size + 1 + 1, 0, none⟩ (.slice (some ⟨w2.heap.size, 0, none⟩) 1 1)).setCell ⟨w.heap.size + 1 + 1, 1, none⟩ (.slice (some ⟨(w2.heap.size + 1), 0, none⟩) 1 1) = W9 at k0 k1 r1 r2 hE y1 y2 ⊢
    have AQ : Aside (IsDec Nx s1 ∧ IsDec Ny s2 ∧ W9.cell? ⟨w2.heap.size, 0, none⟩ = some (.string s1) ∧ W9.cell? ⟨(w2.heap.size + 1), 0, none⟩ = some (.string s2) ∧ (w.heap.size ≤ w2.heap.size ∧ w.heap.size ≤ (w2.heap.size + 1) ∧ w2.heap.size ≠ (w2.heap.size + 1) ∧ (∀ o, W9.frozen? ⟨w2.heap.size, o, none⟩ = false) ∧ ∀ o, W9.frozen? ⟨(w2.heap.size + 1), o, none⟩ = false) ∧ Ext w W9) := ⟨d1, d2, r1, r2, ⟨by omega, by omega, by omega, y1, y2⟩, hE⟩
    clear d1 d2 r1 r2 y1 y2 hE hEW hE2B hE1 hE2 hs1 hs2 hs1'
    go_wp2
    simp [bodyPost, results, Tryz.results7, go_sem, k0, k1]
    obtain ⟨q1, q2, q3, q4, q6, q5⟩ := AQ.out
    exact ⟨_, _, ⟨rfl, rfl⟩, s1, q1, s2, q2, q3, q4, q6, q5⟩
  · have hE2B : Ext B w2 := ((Ext.refl B).drew.trans hE1).trans hE2
    have hEW : Ext B ((w2.alloc (.cells #[.string s2] 9)).alloc (.cells #[.string s1] 9)) := (hE2B.alloc _).alloc _
    have hsz := hE2B.size
    obtain ⟨k0, k1, r1, r2, hE, y1, y2⟩ := told_fin (w := w) (W := (w2.alloc (.cells #[.string s2] 9)).alloc (.cells #[.string s1] 9)) (b1 := (w2.heap.size + 1)) (b2 := w2.heap.size) (s1 := s1) (s2 := s2) (hEW.cell c20) (hEW.cell c21) (cell_al _ _ _ _ (by simp) rfl) (Ext.cell ((Ext.refl _).alloc _) (cell_al _ _ _ _ rfl rfl)) (by omega) (by omega) (hEB.trans hEW) (fun o => frozen_al _ _ _ o (by simp)) (fun o => (Ext.frozenE ((Ext.refl _).alloc _) (by simp)).trans (frozen_al _ _ _ o rfl)) (.slice (some ⟨(w2.heap.size + 1), 0, none⟩) 1 1) (.slice (some ⟨w2.heap.size, 0, none⟩) 1 1)
    generalize (((w2.alloc (.cells #[.string s2] 9)).alloc (.cells #[.string s1] 9)).setCell ⟨w.heap.size + 1 + 1, 0, none⟩ (.slice (some ⟨(w2.heap.size + 1), 0, none⟩) 1 1)).setCell ⟨w.heap.size + 1 + 1, 1, none⟩ (.slice (some ⟨w2.heap.size, 0, none⟩) 1 1) = W9 at k0 k1 r1 r2 hE y1 y2 ⊢
    have AQ : Aside (IsDec Nx s1 ∧ IsDec Ny s2 ∧ W9.cell? ⟨(w2.heap.size + 1), 0, none⟩ = some (.string s1) ∧ W9.cell? ⟨w2.heap.size, 0, none⟩ = some (.string s2) ∧ (w.heap.size ≤ (w2.heap.size + 1) ∧ w.heap.size ≤ w2.heap.size ∧ (w2.heap.size + 1) ≠ w2.heap.size ∧ (∀ o, W9.frozen? ⟨(w2.heap.size + 1), o, none⟩ = false) ∧ ∀ o, W9.frozen? ⟨w2.heap.size, o, none⟩ = false) ∧ Ext w W9) := ⟨d1, d2, r1, r2, ⟨by omega, by omega, by omega, y1, y2⟩, hE⟩
    clear d1 d2 r1 r2 y1 y2 hE hEW hE2B hE1 hE2 hs1 hs2 hs1'
    go_wp2
    simp [bodyPost, results, Tryz.results7, go_sem, k0, k1]
    obtain ⟨q1, q2, q3, q4, q6, q5⟩ := AQ.out
    exact ⟨_, _, ⟨rfl, rfl⟩, s1, q1, s2, q2, q3, q4, q6, q5⟩
end Go.Eng
namespace Go.Eng
open Go Go.RowKit Go.Proofs
set_option maxRecDepth 100000
set_option maxHeartbeats 3200000 in
theorem same_eq {b1 o1 b2 o2 b3 b4 : Nat} {s1 s2 : ByteArray} {w : World} (h1 : w.cell? ⟨b1, o1, none⟩ = some (.string s1)) (h2 : w.cell? ⟨b2, o2, none⟩ = some (.string s2)) (h3 : w.cell? ⟨b3, 0, none⟩ = some (.string s1)) (h4 : w.cell? ⟨b4, 0, none⟩ = some (.string s2)) :
    Calls Tryz.prog 10 #[.agg #[.slice (some ⟨b1, o1, none⟩) 1 1, .slice (some ⟨b2, o2, none⟩) 1 1], .agg #[.slice (some ⟨b3, 0, none⟩) 1 1, .slice (some ⟨b4, 0, none⟩) 1 1]] w fun e w' => e = .returned (.bool true) ∧ Ext w w' := by
  obtain ⟨B, hB⟩ : ∃ B, B = ((w.alloc (.cells #[.slice (some ⟨b1, o1, none⟩) 1 1, .slice (some ⟨b2, o2, none⟩) 1 1] 36)).alloc (.cells #[.slice (some ⟨b3, 0, none⟩) 1 1, .slice (some ⟨b4, 0, none⟩) 1 1] 36)) := ⟨_, rfl⟩
  have hEB : Ext w B := by rw [hB]; exact ((Ext.refl _).alloc _).alloc _
  have c00 : B.cell? ⟨w.heap.size, 0, none⟩ = some (.slice (some ⟨b1, o1, none⟩) 1 1) := by
    rw [hB]; exact Ext.cell ((Ext.refl _).alloc _) (cell_al _ _ _ _ (by simp) rfl)
  have c01 : B.cell? ⟨w.heap.size, 1, none⟩ = some (.slice (some ⟨b2, o2, none⟩) 1 1) := by
    rw [hB]; exact Ext.cell ((Ext.refl _).alloc _) (cell_al _ _ _ _ (by simp) rfl)
  have c10 : B.cell? ⟨w.heap.size + 1, 0, none⟩ = some (.slice (some ⟨b3, 0, none⟩) 1 1) := by
    rw [hB]; exact cell_al _ _ _ _ (by simp) rfl
  have c11 : B.cell? ⟨w.heap.size + 1, 1, none⟩ = some (.slice (some ⟨b4, 0, none⟩) 1 1) := by
    rw [hB]; exact cell_al _ _ _ _ (by simp) rfl
  replace h1 := hEB.cell h1
  replace h2 := hEB.cell h2
  replace h3 := hEB.cell h3
  replace h4 := hEB.cell h4
  go_enter Tryz.func10, Tryz.ntmps10
  go_upto_region 1 with fail
  rw [← hB]
  clear hB
  go_wp2
  go_loopg [5] 1 (fun g i wr => g ≤ 1 ∧ i = .int .i64 ((1 - g : Nat) : Int) ∧ Ext B wr)
  case atStart => exact ⟨Nat.le_refl _, rfl, Ext.refl _⟩
  case round =>
    obtain ⟨hg, rfl, hE⟩ := hrel
    replace h1 := hE.cell h1
    replace h2 := hE.cell h2
    replace h3 := hE.cell h3
    replace h4 := hE.cell h4
    replace c00 := hE.cell c00
    replace c01 := hE.cell c01
    replace c10 := hE.cell c10
    replace c11 := hE.cell c11
    replace hEB := hEB.trans hE
    match gk, hg with
    | 0, _ =>
      rw [show ((1 - 0 : Nat) : Int) = 1 from rfl]
      clear h1 h2 h3 h4
      go_wp2
      go_ret
      exact ⟨rfl, hEB⟩
    | 1, _ =>
      rw [show ((1 - 1 : Nat) : Int) = 0 from rfl]
      go_upto_region 6 with fail
      go_quiet (fail)
      go_wp2
      go_roundg 0
      case measure => omega
      case rel => exact ⟨by omega, rfl, hE.drewN _⟩
set_option maxHeartbeats 3200000 in
theorem same_ne {b1 o1 b2 o2 b3 b4 : Nat} {s1 s2 s3 s4 : ByteArray} {w : World} (h1 : w.cell? ⟨b1, o1, none⟩ = some (.string s1)) (h2 : w.cell? ⟨b2, o2, none⟩ = some (.string s2)) (h3 : w.cell? ⟨b3, 0, none⟩ = some (.string s3)) (h4 : w.cell? ⟨b4, 0, none⟩ = some (.string s4)) (hne : ¬ s1.toList = s3.toList) :
    Calls Tryz.prog 10 #[.agg #[.slice (some ⟨b1, o1, none⟩) 1 1, .slice (some ⟨b2, o2, none⟩) 1 1], .agg #[.slice (some ⟨b3, 0, none⟩) 1 1, .slice (some ⟨b4, 0, none⟩) 1 1]] w fun e w' => e = .returned (.bool false) ∧ Ext w w' := by
  obtain ⟨B, hB⟩ : ∃ B, B = ((w.alloc (.cells #[.slice (some ⟨b1, o1, none⟩) 1 1, .slice (some ⟨b2, o2, none⟩) 1 1] 36)).alloc (.cells #[.slice (some ⟨b3, 0, none⟩) 1 1, .slice (some ⟨b4, 0, none⟩) 1 1] 36)) := ⟨_, rfl⟩
  have hEB : Ext w B := by rw [hB]; exact ((Ext.refl _).alloc _).alloc _
  have c00 : B.cell? ⟨w.heap.size, 0, none⟩ = some (.slice (some ⟨b1, o1, none⟩) 1 1) := by
    rw [hB]; exact Ext.cell ((Ext.refl _).alloc _) (cell_al _ _ _ _ (by simp) rfl)
  have c01 : B.cell? ⟨w.heap.size, 1, none⟩ = some (.slice (some ⟨b2, o2, none⟩) 1 1) := by
    rw [hB]; exact Ext.cell ((Ext.refl _).alloc _) (cell_al _ _ _ _ (by simp) rfl)
  have c10 : B.cell? ⟨w.heap.size + 1, 0, none⟩ = some (.slice (some ⟨b3, 0, none⟩) 1 1) := by
    rw [hB]; exact cell_al _ _ _ _ (by simp) rfl
  have c11 : B.cell? ⟨w.heap.size + 1, 1, none⟩ = some (.slice (some ⟨b4, 0, none⟩) 1 1) := by
    rw [hB]; exact cell_al _ _ _ _ (by simp) rfl
  replace h1 := hEB.cell h1
  replace h2 := hEB.cell h2
  replace h3 := hEB.cell h3
  replace h4 := hEB.cell h4
  go_enter Tryz.func10, Tryz.ntmps10
  go_upto_region 1 with fail
  rw [← hB]
  clear hB
  go_wp2
  go_loopg [5] 1 (fun g i wr => g = 1 ∧ i = .int .i64 ((1 - g : Nat) : Int) ∧ Ext B wr)
  case atStart => exact ⟨rfl, rfl, Ext.refl _⟩
  case round =>
    obtain ⟨hg, rfl, hE⟩ := hrel
    replace h1 := hE.cell h1
    replace h2 := hE.cell h2
    replace h3 := hE.cell h3
    replace h4 := hE.cell h4
    replace c00 := hE.cell c00
    replace c01 := hE.cell c01
    replace c10 := hE.cell c10
    replace c11 := hE.cell c11
    replace hEB := hEB.trans hE
    subst hg
    rw [show ((1 - 1 : Nat) : Int) = 0 from rfl]
    go_upto_region 6 with fail
    have hne2 : (s1.toList == s3.toList) = false := beq_eq_false_iff_ne.mpr hne
    go_quiet (fail)
    go_wp2
    go_ret
    exact ⟨rfl, hEB.drewN _⟩
end Go.Eng
namespace Go.Eng
open Go Go.RowKit Go.Proofs
set_option maxRecDepth 100000
/-- A text of at least two digits, the first not nought, and its number. -/
def DecT (s : ByteArray) (N : Nat) : Prop :=
  s.size ≤ 1000 ∧ 2 ≤ s.size ∧ (∀ k, k < s.size → 48 ≤ (s.data.getD k 0).toNat ∧ (s.data.getD k 0).toNat ≤ 57) ∧ (s.data.getD 0 0).toNat ≠ 48 ∧ rdN s s.size = N
theorem read_num {s : ByteArray} {N : Nat} (h : DecT s N) (w : World) :
    Calls Tryz.prog 33 #[.string s] w fun e w' => ∃ (a : Option Addr) (l c : Nat), e = .returned (.tuple #[.slice a l c, .bool true]) ∧ Num w' (.slice a l c) N ∧ Ext w w' := by
  obtain ⟨h1, h2, h3, h4, h5⟩ := h
  refine (read_walk s w h1 h2 h3 h4).mono ?_
  rintro e w' ⟨v, rfl, hv, hE⟩
  rw [h5] at hv
  obtain ⟨a, l, c, rfl⟩ := hv.slice
  exact ⟨a, l, c, rfl, hv, hE⟩
set_option maxHeartbeats 3200000 in
theorem zero_walk {aP aA aD aQ : Option Addr} {lP cP lA cA lD cD lQ cQ : Nat} {w : World} :
    Calls Tryz.prog 8 #[.agg #[.slice aP lP cP, .slice aA lA cA, .slice aD lD cD, .slice aQ lQ cQ]] w fun e w' => ∃ (a : Option Addr) (l c : Nat), e = .returned (.agg #[.slice none 0 0, .slice a l c]) ∧ Num w' (.slice a l c) 1 ∧ Ext w w' := by
  have hone : ∀ W, Calls Tryz.prog 18 #[.int .u64 1] W fun e w' => ∃ a l c, e = .returned (.slice a l c) ∧ Num w' (.slice a l c) 1 ∧ Ext W w' := fun W =>
    (of_walk 1 (by decide) W).mono fun e w' ⟨v, h1, h2, h3⟩ => by
      have h4 := h2.num (by decide)
      obtain ⟨x1, x2, x3, rfl⟩ := h4.slice
      exact ⟨x1, x2, x3, h1, h4, h3⟩
  obtain ⟨B, hB⟩ : ∃ B, B = (w.alloc (.cells #[.slice aP lP cP, .slice aA lA cA, .slice aD lD cD, .slice aQ lQ cQ] 27)).alloc (.cells #[.slice none 0 0, .slice none 0 0] 29) := ⟨_, rfl⟩
  have hEB : Ext w B := by rw [hB]; exact ((Ext.refl _).alloc _).alloc _
  have c20 : B.cell? ⟨w.heap.size + 1, 0, none⟩ = some (.slice none 0 0) := by
    rw [hB]; exact cell_al _ _ _ _ (by simp) rfl
  have c21 : B.cell? ⟨w.heap.size + 1, 1, none⟩ = some (.slice none 0 0) := by
    rw [hB]; exact cell_al _ _ _ _ (by simp) rfl
  have f2 : ∀ o, B.frozen? ⟨w.heap.size + 1, o, none⟩ = false := fun o => by rw [hB]; exact frozen_al _ _ _ _ (by simp)
  have hsB : w.heap.size + 1 < B.heap.size := by rw [hB]; simp
  go_enter Tryz.func8, Tryz.ntmps8
  go_upto_region 1 with fail
  rw [← hB]
  clear hB
  have hb1 := hone B
  clear hone
  go_wp2_with (go_at_call 18; (with_reducible refine hb1.mono ?_); rintro e w1 ⟨a, l, c, rfl, hv, hE1⟩; have kz0 := hE1.cell c20; have kz1 := hE1.cell c21; have fz : ∀ o, w1.frozen? ⟨w.heap.size + 1, o, none⟩ = false := fun o => (hE1.frozenE hsB).trans (f2 o); have dz1 : ∀ u0, (w1.setCell ⟨w.heap.size + 1, 0, none⟩ u0).cell? ⟨w.heap.size + 1, 1, none⟩ = some (Value.slice none 0 0) := fun u0 => cell_off1 kz1 (by decide))
  have k0 : ((w1.setCell ⟨w.heap.size + 1, 0, none⟩ (.slice none 0 0)).setCell ⟨w.heap.size + 1, 1, none⟩ (.slice a l c)).cell? ⟨w.heap.size + 1, 0, none⟩ = some (.slice none 0 0) := cell_off1 (World.cell?_setCell_same _ _ _ kz0) (by decide)
  have k1 : ((w1.setCell ⟨w.heap.size + 1, 0, none⟩ (.slice none 0 0)).setCell ⟨w.heap.size + 1, 1, none⟩ (.slice a l c)).cell? ⟨w.heap.size + 1, 1, none⟩ = some (.slice a l c) := World.cell?_setCell_same _ _ _ (dz1 _)
  have n1 : Num ((w1.setCell ⟨w.heap.size + 1, 0, none⟩ (.slice none 0 0)).setCell ⟨w.heap.size + 1, 1, none⟩ (.slice a l c)) (.slice a l c) 1 := (hv.set kz0 _).set (dz1 _) _
  have hEk : Ext w ((w1.setCell ⟨w.heap.size + 1, 0, none⟩ (.slice none 0 0)).setCell ⟨w.heap.size + 1, 1, none⟩ (.slice a l c)) := ((hEB.trans hE1).setC (by show w.heap.size ≤ w.heap.size + 1; omega) _).setC (by show w.heap.size ≤ w.heap.size + 1; omega) _
  generalize (w1.setCell ⟨w.heap.size + 1, 0, none⟩ (.slice none 0 0)).setCell ⟨w.heap.size + 1, 1, none⟩ (.slice a l c) = W9 at k0 k1 n1 hEk ⊢
  go_wp2
  simp [bodyPost, results, Tryz.results8, go_sem, k0, k1]
  exact ⟨_, _, _, ⟨rfl, rfl, rfl⟩, n1, hEk⟩
set_option maxHeartbeats 3200000 in
theorem point_walk {aP aA aD aQ : Option Addr} {lP cP NP lA cA lD cD lQ cQ b1 o1 b2 o2 Nx Ny : Nat} {sx sy : ByteArray} {w : World} (hP : Num w (.slice aP lP cP) NP) (hlp : nlen NP ≤ 1000) (hx : DecT sx Nx) (hy : DecT sy Ny) (l_x : Nx < NP) (l_y : Ny < NP)
    (h1 : w.cell? ⟨b1, o1, none⟩ = some (.string sx)) (h2 : w.cell? ⟨b2, o2, none⟩ = some (.string sy)) :
    Calls Tryz.prog 34 #[.agg #[.slice aP lP cP, .slice aA lA cA, .slice aD lD cD, .slice aQ lQ cQ], .agg #[.slice (some ⟨b1, o1, none⟩) 1 1, .slice (some ⟨b2, o2, none⟩) 1 1]] w fun e w' => ∃ (a1 : Option Addr) (l1 c1 : Nat) (a2 : Option Addr) (l2 c2 : Nat), e = .returned (.tuple #[.agg #[.slice a1 l1 c1, .slice a2 l2 c2], .bool true]) ∧ Num w' (.slice a1 l1 c1) Nx ∧ Num w' (.slice a2 l2 c2) Ny ∧ Ext w w' := by
  have hrx : ∀ W, Calls Tryz.prog 33 #[.string sx] W fun e w' => ∃ (a : Option Addr) (l c : Nat), e = .returned (.tuple #[.slice a l c, .bool true]) ∧ Num w' (.slice a l c) Nx ∧ Ext W w' := fun W => read_num hx W
  have hry : ∀ W, Calls Tryz.prog 33 #[.string sy] W fun e w' => ∃ (a : Option Addr) (l c : Nat), e = .returned (.tuple #[.slice a l c, .bool true]) ∧ Num w' (.slice a l c) Ny ∧ Ext W w' := fun W => read_num hy W
  have hin : ∀ W v X, Ext w W → Num W v X → X < NP → Calls Tryz.prog 60 #[.agg #[.slice aP lP cP], v] W fun e w' => e = .returned (.bool true) ∧ Ext W w' := fun W v X hW hv hX => by
    have h := in_walk (hP.ext hW) hlp hv (Nat.le_trans (nlen_lt hX) hlp)
    rw [decide_eq_true hX] at h
    exact h
  obtain ⟨B, hB⟩ : ∃ B, B = ((w.alloc (.cells #[.slice aP lP cP, .slice aA lA cA, .slice aD lD cD, .slice aQ lQ cQ] 27)).alloc (.cells #[.slice (some ⟨b1, o1, none⟩) 1 1, .slice (some ⟨b2, o2, none⟩) 1 1] 36)).alloc (.cells #[.slice none 0 0, .slice none 0 0] 29) := ⟨_, rfl⟩
  have hEB : Ext w B := by rw [hB]; exact (((Ext.refl _).alloc _).alloc _).alloc _
  have c00 : B.cell? ⟨w.heap.size, 0, none⟩ = some (.slice aP lP cP) := by
    rw [hB]; exact Ext.cell (((Ext.refl _).alloc _).alloc _) (cell_al _ _ _ _ rfl rfl)
  have c10 : B.cell? ⟨w.heap.size + 1, 0, none⟩ = some (.slice (some ⟨b1, o1, none⟩) 1 1) := by
    rw [hB]; exact Ext.cell ((Ext.refl _).alloc _) (cell_al _ _ _ _ (by simp) rfl)
  have c11 : B.cell? ⟨w.heap.size + 1, 1, none⟩ = some (.slice (some ⟨b2, o2, none⟩) 1 1) := by
    rw [hB]; exact Ext.cell ((Ext.refl _).alloc _) (cell_al _ _ _ _ (by simp) rfl)
  have c20 : B.cell? ⟨w.heap.size + 1 + 1, 0, none⟩ = some (.slice none 0 0) := by
    rw [hB]; exact cell_al _ _ _ _ (by simp) rfl
  have c21 : B.cell? ⟨w.heap.size + 1 + 1, 1, none⟩ = some (.slice none 0 0) := by
    rw [hB]; exact cell_al _ _ _ _ (by simp) rfl
  have f2 : ∀ o, B.frozen? ⟨w.heap.size + 1 + 1, o, none⟩ = false := fun o => by rw [hB]; exact frozen_al _ _ _ _ (by simp)
  have hsB : w.heap.size + 1 + 1 < B.heap.size := by rw [hB]; simp
  replace h1 := hEB.cell h1
  replace h2 := hEB.cell h2
  clear hx hy hP hlp
  go_enter Tryz.func34, Tryz.ntmps34
  go_upto_region 1 with fail
  rw [← hB]
  clear hB
  have hb1 := hrx B
  clear hrx
  go_upto_region 4 with (go_at_call 33; (with_reducible refine hb1.mono ?_); rintro e w1 ⟨a1, l1, c1, rfl, hv1, hE1⟩; have c11' := hE1.cell c11; have c10' := hE1.cell c10; have h2' := hE1.cell h2)
  have hb2 := hry w1
  have c00' := hE1.cell c00
  clear hry hb1
  go_upto_region 5 with (go_at_call 33; (with_reducible refine hb2.mono ?_); rintro e w2 ⟨a2, l2, c2, rfl, hv2, hE2⟩)
  have d00 := (hE1.trans hE2).cell c00
  have hi1 := hin w2 (.slice a1 l1 c1) Nx ((hEB.trans hE1).trans hE2) (hv1.ext hE2) l_x
  have hi2 : ∀ w3, Ext w2 w3 → Calls Tryz.prog 60 #[.agg #[.slice aP lP cP], .slice a2 l2 c2] w3 fun e w' => e = .returned (.bool true) ∧ Ext w3 w' := fun w3 h3 => hin w3 (.slice a2 l2 c2) Ny (((hEB.trans hE1).trans hE2).trans h3) (hv2.ext h3) l_y
  clear hin
  go_wp2_with (first
    | (go_at_call 60; (with_reducible refine hi1.mono ?_); rintro e w3 ⟨rfl, hE3⟩; have g00 := hE3.cell d00)
    | (go_at_call 60; (with_reducible refine (hi2 w3 hE3).mono ?_); rintro e w4 ⟨rfl, hE4⟩; have hEz := ((hE1.trans hE2).trans hE3).trans hE4; have kz0 := hEz.cell c20; have kz1 := hEz.cell c21; have fz : ∀ o, w4.frozen? ⟨w.heap.size + 1 + 1, o, none⟩ = false := fun o => (hEz.frozenE hsB).trans (f2 o); have dz1 : ∀ u0, (w4.setCell ⟨w.heap.size + 1 + 1, 0, none⟩ u0).cell? ⟨w.heap.size + 1 + 1, 1, none⟩ = some (Value.slice none 0 0) := fun u0 => cell_off1 kz1 (by decide)))
  have k0 : ((w4.setCell ⟨w.heap.size + 1 + 1, 0, none⟩ (.slice a1 l1 c1)).setCell ⟨w.heap.size + 1 + 1, 1, none⟩ (.slice a2 l2 c2)).cell? ⟨w.heap.size + 1 + 1, 0, none⟩ = some (.slice a1 l1 c1) := cell_off1 (World.cell?_setCell_same _ _ _ kz0) (by decide)
  have k1 : ((w4.setCell ⟨w.heap.size + 1 + 1, 0, none⟩ (.slice a1 l1 c1)).setCell ⟨w.heap.size + 1 + 1, 1, none⟩ (.slice a2 l2 c2)).cell? ⟨w.heap.size + 1 + 1, 1, none⟩ = some (.slice a2 l2 c2) := World.cell?_setCell_same _ _ _ (dz1 _)
  have n1 : Num ((w4.setCell ⟨w.heap.size + 1 + 1, 0, none⟩ (.slice a1 l1 c1)).setCell ⟨w.heap.size + 1 + 1, 1, none⟩ (.slice a2 l2 c2)) (.slice a1 l1 c1) Nx := ((((hv1.ext hE2).ext hE3).ext hE4).set kz0 _).set (dz1 _) _
  have n2 : Num ((w4.setCell ⟨w.heap.size + 1 + 1, 0, none⟩ (.slice a1 l1 c1)).setCell ⟨w.heap.size + 1 + 1, 1, none⟩ (.slice a2 l2 c2)) (.slice a2 l2 c2) Ny := (((hv2.ext hE3).ext hE4).set kz0 _).set (dz1 _) _
  have hEk : Ext w ((w4.setCell ⟨w.heap.size + 1 + 1, 0, none⟩ (.slice a1 l1 c1)).setCell ⟨w.heap.size + 1 + 1, 1, none⟩ (.slice a2 l2 c2)) := ((hEB.trans hEz).setC (by show w.heap.size ≤ w.heap.size + 1 + 1; omega) _).setC (by show w.heap.size ≤ w.heap.size + 1 + 1; omega) _
  generalize (w4.setCell ⟨w.heap.size + 1 + 1, 0, none⟩ (.slice a1 l1 c1)).setCell ⟨w.heap.size + 1 + 1, 1, none⟩ (.slice a2 l2 c2) = W9 at k0 k1 n1 n2 hEk ⊢
  go_wp2
  simp [bodyPost, results, Tryz.results34, go_sem, k0, k1]
  exact ⟨_, _, _, _, _, _, ⟨⟨rfl, rfl, rfl⟩, rfl, rfl, rfl⟩, n1, n2, hEk⟩
end Go.Eng
