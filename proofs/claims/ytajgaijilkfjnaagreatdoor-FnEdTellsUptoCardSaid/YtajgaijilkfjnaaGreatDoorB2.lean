/-
 Contracts of the reference package spec: texts read, points told, the curve made.
-/
import Derived.Deep.DeepMust
import Derived.Deep.RegionHeld3
import Derived.Deep.Quiet
import Derived.Deep.QuietTactic
import Derived.Test.YtajgaijilkfjnaaGreatDoorA9
import Derived.Test.YtajgaijilkfjnaaGreatDoorA5
import Derived.Test.YtajgaijilkfjnaaGreatDoorA7
import Derived.Test.YtajgaijilkfjnaaGreatDoorB1
set_option linter.unusedVariables false
set_option linter.unusedSimpArgs false
namespace Go.Eng
open Go Go.RowKit Go.Proofs
set_option maxRecDepth 100000
set_option maxHeartbeats 3200000 in
theorem in_walk {vp vx : Value} {X P : Nat} {w : World} (hp : Num w vp P) (hlp : nlen P <= 1048576) (hx : Num w vx X) (hlx : nlen X <= 1048576) :
  Calls Tryz.prog 19 #[.agg #[vp], vx] w fun e w' => e = .returned (.bool (decide (X < P))) /\ Ext w w' := by
 have hcmp : ∀ W, Ext w W -> Calls Tryz.prog 29 #[vx, vp] W fun e w' => e = .returned (.int .i64 (cmpN X P)) /\ Ext w w' := fun W hW =>
  (cmp_walk (hx.ext hW) (hp.ext hW) (by omega) (by omega)).mono fun e w' ⟨h1, h2⟩ => ⟨h1, hW.trans h2⟩
 obtain ⟨cv, hcv⟩ : ∃ c, c = cmpN X P := ⟨_, rfl⟩
 rw [<- hcv] at hcmp
 have hc : decide (cv < 0) = decide (X < P) := by
  rw [hcv]; unfold cmpN
  by_cases h : X < P
  ·rw [if_pos h]; simp [h]
  ·rw [if_neg h]
   split <;> simp [h]
 obtain ⟨bv, hbv⟩ : ∃ b, b = decide (X < P) := ⟨_, rfl⟩
 rw [<- hbv] at hc ⊢
 have hE : ∀ o, Ext w (w.alloc o) := fun o => (Ext.refl w).alloc o
 have AC : Aside (decide (cv < 0) = bv) := hc
 clear hp hx hlp hlx hcv hbv hc
 go_enter Tryz.func19, Tryz.ntmps19
 go_wp2_with (go_at_call 29; (with_reducible refine (hcmp _ (hE _)).mono ?_); rintro e w1 ⟨rfl, hE1⟩)
 go_ret
 exact ⟨by rw [<- AC.out]; rfl, hE1⟩
theorem keepS {w W : World} {v0 v1 x y : Value} (h : W.cell? ⟨w.heap.size + 1, 0, none⟩ = some v0 /\ W.cell? ⟨w.heap.size + 1, 1, none⟩ = some v1 /\ Ext w W) :
  ((W.setCell ⟨w.heap.size + 1 + 1, 0, none⟩ x).setCell ⟨w.heap.size + 1 + 1, 1, none⟩ y).cell? ⟨w.heap.size + 1, 0, none⟩ = some v0 /\ ((W.setCell ⟨w.heap.size + 1 + 1, 0, none⟩ x).setCell ⟨w.heap.size + 1 + 1, 1, none⟩ y).cell? ⟨w.heap.size + 1, 1, none⟩ = some v1 /\ Ext w ((W.setCell ⟨w.heap.size + 1 + 1, 0, none⟩ x).setCell ⟨w.heap.size + 1 + 1, 1, none⟩ y) :=
 ⟨cell_far2 h.1 (by omega) x y, cell_far2 h.2.1 (by omega) x y, (h.2.2.setC (by show w.heap.size <= w.heap.size + 1 + 1; omega) x).setC (by show w.heap.size <= w.heap.size + 1 + 1; omega) y⟩
theorem told_fin {w W : World} {b1 b2 : Nat} {s1 s2 : ByteArray} (h0 : W.cell? ⟨w.heap.size + 1 + 1, 0, none⟩ = some (.slice none 0 0)) (h1 : W.cell? ⟨w.heap.size + 1 + 1, 1, none⟩ = some (.slice none 0 0)) (g1 : W.cell? ⟨b1, 0, none⟩ = some (.string s1)) (g2 : W.cell? ⟨b2, 0, none⟩ = some (.string s2)) (n1 : b1 ≠ w.heap.size + 1 + 1) (n2 : b2 ≠ w.heap.size + 1 + 1) (hE : Ext w W) (z1 : ∀ o, W.frozen? ⟨b1, o, none⟩ = false) (z2 : ∀ o, W.frozen? ⟨b2, o, none⟩ = false) (x y : Value) :
  ((W.setCell ⟨w.heap.size + 1 + 1, 0, none⟩ x).setCell ⟨w.heap.size + 1 + 1, 1, none⟩ y).cell? ⟨w.heap.size + 1 + 1, 0, none⟩ = some x /\ ((W.setCell ⟨w.heap.size + 1 + 1, 0, none⟩ x).setCell ⟨w.heap.size + 1 + 1, 1, none⟩ y).cell? ⟨w.heap.size + 1 + 1, 1, none⟩ = some y /\
  ((W.setCell ⟨w.heap.size + 1 + 1, 0, none⟩ x).setCell ⟨w.heap.size + 1 + 1, 1, none⟩ y).cell? ⟨b1, 0, none⟩ = some (.string s1) /\ ((W.setCell ⟨w.heap.size + 1 + 1, 0, none⟩ x).setCell ⟨w.heap.size + 1 + 1, 1, none⟩ y).cell? ⟨b2, 0, none⟩ = some (.string s2) /\ Ext w ((W.setCell ⟨w.heap.size + 1 + 1, 0, none⟩ x).setCell ⟨w.heap.size + 1 + 1, 1, none⟩ y) /\ (∀ o, ((W.setCell ⟨w.heap.size + 1 + 1, 0, none⟩ x).setCell ⟨w.heap.size + 1 + 1, 1, none⟩ y).frozen? ⟨b1, o, none⟩ = false) /\ ∀ o, ((W.setCell ⟨w.heap.size + 1 + 1, 0, none⟩ x).setCell ⟨w.heap.size + 1 + 1, 1, none⟩ y).frozen? ⟨b2, o, none⟩ = false :=
 ⟨cell_off1 (World.cell?_setCell_same _ _ _ h0) (by decide), World.cell?_setCell_same _ _ _ (cell_off1 h1 (by decide)), cell_far2 g1 n1 x y, cell_far2 g2 n2 x y, (hE.setC (by show w.heap.size <= w.heap.size + 1 + 1; omega) x).setC (by show w.heap.size <= w.heap.size + 1 + 1; omega) y, fun o => by simp only [World.frozen?_setCell]; exact z1 o, fun o => by simp only [World.frozen?_setCell]; exact z2 o⟩
set_option maxHeartbeats 3200000 in
theorem told_walk {aP aA aD aQ ax ay : Option Addr} {lP cP lA cA lD cD lQ cQ lx cx Nx ly cy Ny : Nat} {w : World} (hx : Num w (.slice ax lx cx) Nx) (hlx : nlen Nx <= 1000) (hy : Num w (.slice ay ly cy) Ny) (hly : nlen Ny <= 1000) :
  Calls Tryz.prog 11 #[.agg #[.slice aP lP cP, .slice aA lA cA, .slice aD lD cD, .slice aQ lQ cQ], .agg #[.slice ax lx cx, .slice ay ly cy]] w fun e w' => ∃ (b1 b2 : Nat) (s1 s2 : ByteArray), e = .returned (.agg #[.slice (some ⟨b1, 0, none⟩) 1 1, .slice (some ⟨b2, 0, none⟩) 1 1]) /\ IsDec Nx s1 /\ IsDec Ny s2 /\ w'.cell? ⟨b1, 0, none⟩ = some (.string s1) /\ w'.cell? ⟨b2, 0, none⟩ = some (.string s2) /\ (w.heap.size <= b1 /\ w.heap.size <= b2 /\ b1 ≠ b2 /\ (∀ o, w'.frozen? ⟨b1, o, none⟩ = false) /\ ∀ o, w'.frozen? ⟨b2, o, none⟩ = false) /\ Ext w w' := by
 have hs1 : ∀ W, Ext w W -> Calls Tryz.prog 31 #[.slice ax lx cx] W fun e w' => ∃ s, e = .returned (.string s) /\ IsDec Nx s /\ Ext W w' := fun W hW => string_walk (hx.ext hW) hlx
 have hs2 : ∀ W, Ext w W -> Calls Tryz.prog 31 #[.slice ay ly cy] W fun e w' => ∃ s, e = .returned (.string s) /\ IsDec Ny s /\ Ext W w' := fun W hW => string_walk (hy.ext hW) hly
 clear hx hy hlx hly
 obtain ⟨B, hB⟩ : ∃ B, B = ((w.alloc (.cells #[.slice aP lP cP, .slice aA lA cA, .slice aD lD cD, .slice aQ lQ cQ] 31)).alloc (.cells #[.slice ax lx cx, .slice ay ly cy] 33)).alloc (.cells #[.slice none 0 0, .slice none 0 0] 24) := ⟨_, rfl⟩
 have hEB : Ext w B := by rw [hB]; exact (((Ext.refl _).alloc _).alloc _).alloc _
 have c10 : B.cell? ⟨w.heap.size + 1, 0, none⟩ = some (.slice ax lx cx) := by
  rw [hB]
  exact Ext.cell ((Ext.refl _).alloc _) (cell_al _ _ _ _ (by simp) rfl)
 have c11 : B.cell? ⟨w.heap.size + 1, 1, none⟩ = some (.slice ay ly cy) := by
  rw [hB]
  exact Ext.cell ((Ext.refl _).alloc _) (cell_al _ _ _ _ (by simp) rfl)
 have c20 : B.cell? ⟨w.heap.size + 1 + 1, 0, none⟩ = some (.slice none 0 0) := by
  rw [hB]
  exact cell_al _ _ _ _ (by simp) rfl
 have c21 : B.cell? ⟨w.heap.size + 1 + 1, 1, none⟩ = some (.slice none 0 0) := by
  rw [hB]
  exact cell_al _ _ _ _ (by simp) rfl
 have f2 : ∀ o, B.frozen? ⟨w.heap.size + 1 + 1, o, none⟩ = false := fun o => by rw [hB]; exact frozen_al _ _ _ _ (by simp)
 have hsB : w.heap.size + 1 + 1 < B.heap.size := by rw [hB]; simp
 go_enter Tryz.func11, Tryz.ntmps11
 go_upto_region 1 with fail
 rw [<- hB]
 clear hB
 have hs1' := hs1 B.drew hEB.drew
 go_region_held3 (fun W => W.cell? ⟨w.heap.size + 1, 0, none⟩ = some (Value.slice ax lx cx) /\ W.cell? ⟨w.heap.size + 1, 1, none⟩ = some (Value.slice ay ly cy) /\ Ext w W) (first | exact ⟨c10, c11, hEB.drew⟩ | exact keep2 (by assumption) (by assumption) | exact keep2 (by assumption) ((Ext.refl _).alloc _) | exact keepS (by assumption)) (first
  | (go_at_call 31; (with_reducible refine hs1'.mono ?_); rintro e w1 ⟨s1, rfl, d1, hE1⟩)
  | (go_at_call 31; (with_reducible refine (hs2 w1 (hEB.drew.trans hE1)).mono ?_); rintro e w2 ⟨s2, rfl, d2, hE2⟩; have hEz : Ext B w2 := ((Ext.refl B).drew.trans hE1).trans hE2; have kz0 : ∀ o, (w2.alloc o).cell? ⟨w.heap.size + 1 + 1, 0, none⟩ = some (Value.slice none 0 0) := fun o => (hEz.alloc o).cell c20; have kz1 : ∀ o, (w2.alloc o).cell? ⟨w.heap.size + 1 + 1, 1, none⟩ = some (Value.slice none 0 0) := fun o => (hEz.alloc o).cell c21; have fz : ∀ o i, (w2.alloc o).frozen? ⟨w.heap.size + 1 + 1, i, none⟩ = false := fun o i => ((hEz.alloc o).frozenE hsB).trans (f2 i); have dz1 : ∀ o u0, ((w2.alloc o).setCell ⟨w.heap.size + 1 + 1, 0, none⟩ u0).cell? ⟨w.heap.size + 1 + 1, 1, none⟩ = some (Value.slice none 0 0) := fun o u0 => cell_off1 ((hEz.alloc o).cell c21) (by decide); have kz0' : ∀ o p, ((w2.alloc o).alloc p).cell? ⟨w.heap.size + 1 + 1, 0, none⟩ = some (Value.slice none 0 0) := fun o p => ((hEz.alloc o).alloc p).cell c20; have kz1' : ∀ o p, ((w2.alloc o).alloc p).cell? ⟨w.heap.size + 1 + 1, 1, none⟩ = some (Value.slice none 0 0) := fun o p => ((hEz.alloc o).alloc p).cell c21; have fz' : ∀ o p i, ((w2.alloc o).alloc p).frozen? ⟨w.heap.size + 1 + 1, i, none⟩ = false := fun o p i => (((hEz.alloc o).alloc p).frozenE hsB).trans (f2 i); have dz1' : ∀ o p u0, (((w2.alloc o).alloc p).setCell ⟨w.heap.size + 1 + 1, 0, none⟩ u0).cell? ⟨w.heap.size + 1 + 1, 1, none⟩ = some (Value.slice none 0 0) := fun o p u0 => cell_off1 (((hEz.alloc o).alloc p).cell c21) (by decide); clear hEz)
  | (go_at_call 31; (with_reducible refine (hs2 (w1.alloc _) ((hEB.drew.trans hE1).alloc _)).mono ?_); rintro e w2 ⟨s2, rfl, d2, hE2⟩; have hEz : Ext B w2 := (((Ext.refl B).drew.trans hE1).alloc _).trans hE2; have kz0 : ∀ o, (w2.alloc o).cell? ⟨w.heap.size + 1 + 1, 0, none⟩ = some (Value.slice none 0 0) := fun o => (hEz.alloc o).cell c20; have kz1 : ∀ o, (w2.alloc o).cell? ⟨w.heap.size + 1 + 1, 1, none⟩ = some (Value.slice none 0 0) := fun o => (hEz.alloc o).cell c21; have fz : ∀ o i, (w2.alloc o).frozen? ⟨w.heap.size + 1 + 1, i, none⟩ = false := fun o i => ((hEz.alloc o).frozenE hsB).trans (f2 i); have dz1 : ∀ o u0, ((w2.alloc o).setCell ⟨w.heap.size + 1 + 1, 0, none⟩ u0).cell? ⟨w.heap.size + 1 + 1, 1, none⟩ = some (Value.slice none 0 0) := fun o u0 => cell_off1 ((hEz.alloc o).cell c21) (by decide); have kz0' : ∀ o p, ((w2.alloc o).alloc p).cell? ⟨w.heap.size + 1 + 1, 0, none⟩ = some (Value.slice none 0 0) := fun o p => ((hEz.alloc o).alloc p).cell c20; have kz1' : ∀ o p, ((w2.alloc o).alloc p).cell? ⟨w.heap.size + 1 + 1, 1, none⟩ = some (Value.slice none 0 0) := fun o p => ((hEz.alloc o).alloc p).cell c21; have fz' : ∀ o p i, ((w2.alloc o).alloc p).frozen? ⟨w.heap.size + 1 + 1, i, none⟩ = false := fun o p i => (((hEz.alloc o).alloc p).frozenE hsB).trans (f2 i); have dz1' : ∀ o p u0, (((w2.alloc o).alloc p).setCell ⟨w.heap.size + 1 + 1, 0, none⟩ u0).cell? ⟨w.heap.size + 1 + 1, 1, none⟩ = some (Value.slice none 0 0) := fun o p u0 => cell_off1 (((hEz.alloc o).alloc p).cell c21) (by decide); clear hEz))
 ·have hE2B : Ext B w2 := (((Ext.refl B).drew.trans hE1).alloc _).trans hE2
  have hEW : Ext B (w2.alloc (.cells #[.string s2] 9)) := hE2B.alloc _
  have hsz1 := ((Ext.refl B).drew.trans hE1).size
  have hsz := hE2B.size
  have hsz2 := hE2.size
  rw [size_al] at hsz2
  obtain ⟨k0, k1, r1, r2, hE, y1, y2⟩ := told_fin (w := w) (W := w2.alloc (.cells #[.string s2] 9)) (b1 := w1.heap.size) (b2 := w2.heap.size) (s1 := s1) (s2 := s2) (hEW.cell c20) (hEW.cell c21) (((Ext.refl w2).alloc _).cell (hE2.cell (cell_al _ _ _ _ rfl rfl))) (cell_al _ _ _ _ rfl rfl) (by omega) (by omega) (hEB.trans hEW) (fun o => (Ext.frozenE ((Ext.refl w2).alloc _) (by omega)).trans ((hE2.frozenE (by simp)).trans (frozen_al _ _ _ o rfl))) (fun o => frozen_al _ _ _ o rfl) (.slice (some ⟨w1.heap.size, 0, none⟩) 1 1) (.slice (some ⟨w2.heap.size, 0, none⟩) 1 1)
  generalize ((w2.alloc (.cells #[.string s2] 9)).setCell ⟨w.heap.size + 1 + 1, 0, none⟩ (.slice (some ⟨w1.heap.size, 0, none⟩) 1 1)).setCell ⟨w.heap.size + 1 + 1, 1, none⟩ (.slice (some ⟨w2.heap.size, 0, none⟩) 1 1) = W9 at k0 k1 r1 r2 hE y1 y2 ⊢
  have AQ : Aside (IsDec Nx s1 /\ IsDec Ny s2 /\ W9.cell? ⟨w1.heap.size, 0, none⟩ = some (.string s1) /\ W9.cell? ⟨w2.heap.size, 0, none⟩ = some (.string s2) /\ (w.heap.size <= w1.heap.size /\ w.heap.size <= w2.heap.size /\ w1.heap.size ≠ w2.heap.size /\ (∀ o, W9.frozen? ⟨w1.heap.size, o, none⟩ = false) /\ ∀ o, W9.frozen? ⟨w2.heap.size, o, none⟩ = false) /\ Ext w W9) := ⟨d1, d2, r1, r2, ⟨by omega, by omega, by omega, y1, y2⟩, hE⟩
  clear d1 d2 r1 r2 y1 y2 hE hEW hE2B hE1 hE2 hs1 hs2 hs1'
  go_wp2
  simp [bodyPost, results, Tryz.results11, go_sem, k0, k1]
  obtain ⟨q1, q2, q3, q4, q6, q5⟩ := AQ.out
  exact ⟨_, _, ⟨rfl, rfl⟩, s1, q1, s2, q2, q3, q4, q6, q5⟩
 ·have hE2B : Ext B w2 := ((Ext.refl B).drew.trans hE1).trans hE2
  have hEW : Ext B ((w2.alloc (.cells #[.string s1] 9)).alloc (.cells #[.string s2] 9)) := (hE2B.alloc _).alloc _
  have hsz := hE2B.size
  obtain ⟨k0, k1, r1, r2, hE, y1, y2⟩ := told_fin (w := w) (W := (w2.alloc (.cells #[.string s1] 9)).alloc (.cells #[.string s2] 9)) (b1 := w2.heap.size) (b2 := (w2.heap.size + 1)) (s1 := s1) (s2 := s2) (hEW.cell c20) (hEW.cell c21) (Ext.cell ((Ext.refl _).alloc _) (cell_al _ _ _ _ rfl rfl)) (cell_al _ _ _ _ (by simp) rfl) (by omega) (by omega) (hEB.trans hEW) (fun o => (Ext.frozenE ((Ext.refl _).alloc _) (by simp)).trans (frozen_al _ _ _ o rfl)) (fun o => frozen_al _ _ _ o (by simp)) (.slice (some ⟨w2.heap.size, 0, none⟩) 1 1) (.slice (some ⟨(w2.heap.size + 1), 0, none⟩) 1 1)
  generalize (((w2.alloc (.cells #[.string s1] 9)).alloc (.cells #[.string s2] 9)).setCell ⟨w.heap.size + 1 + 1, 0, none⟩ (.slice (some ⟨w2.heap.size, 0, none⟩) 1 1)).setCell ⟨w.heap.size + 1 + 1, 1, none⟩ (.slice (some ⟨(w2.heap.size + 1), 0, none⟩) 1 1) = W9 at k0 k1 r1 r2 hE y1 y2 ⊢
  have AQ : Aside (IsDec Nx s1 /\ IsDec Ny s2 /\ W9.cell? ⟨w2.heap.size, 0, none⟩ = some (.string s1) /\ W9.cell? ⟨(w2.heap.size + 1), 0, none⟩ = some (.string s2) /\ (w.heap.size <= w2.heap.size /\ w.heap.size <= (w2.heap.size + 1) /\ w2.heap.size ≠ (w2.heap.size + 1) /\ (∀ o, W9.frozen? ⟨w2.heap.size, o, none⟩ = false) /\ ∀ o, W9.frozen? ⟨(w2.heap.size + 1), o, none⟩ = false) /\ Ext w W9) := ⟨d1, d2, r1, r2, ⟨by omega, by omega, by omega, y1, y2⟩, hE⟩
  clear d1 d2 r1 r2 y1 y2 hE hEW hE2B hE1 hE2 hs1 hs2 hs1'
  go_wp2
  simp [bodyPost, results, Tryz.results11, go_sem, k0, k1]
  obtain ⟨q1, q2, q3, q4, q6, q5⟩ := AQ.out
  exact ⟨_, _, ⟨rfl, rfl⟩, s1, q1, s2, q2, q3, q4, q6, q5⟩
 ·have hE2B : Ext B w2 := ((Ext.refl B).drew.trans hE1).trans hE2
  have hEW : Ext B ((w2.alloc (.cells #[.string s2] 9)).alloc (.cells #[.string s1] 9)) := (hE2B.alloc _).alloc _
  have hsz := hE2B.size
  obtain ⟨k0, k1, r1, r2, hE, y1, y2⟩ := told_fin (w := w) (W := (w2.alloc (.cells #[.string s2] 9)).alloc (.cells #[.string s1] 9)) (b1 := (w2.heap.size + 1)) (b2 := w2.heap.size) (s1 := s1) (s2 := s2) (hEW.cell c20) (hEW.cell c21) (cell_al _ _ _ _ (by simp) rfl) (Ext.cell ((Ext.refl _).alloc _) (cell_al _ _ _ _ rfl rfl)) (by omega) (by omega) (hEB.trans hEW) (fun o => frozen_al _ _ _ o (by simp)) (fun o => (Ext.frozenE ((Ext.refl _).alloc _) (by simp)).trans (frozen_al _ _ _ o rfl)) (.slice (some ⟨(w2.heap.size + 1), 0, none⟩) 1 1) (.slice (some ⟨w2.heap.size, 0, none⟩) 1 1)
  generalize (((w2.alloc (.cells #[.string s2] 9)).alloc (.cells #[.string s1] 9)).setCell ⟨w.heap.size + 1 + 1, 0, none⟩ (.slice (some ⟨(w2.heap.size + 1), 0, none⟩) 1 1)).setCell ⟨w.heap.size + 1 + 1, 1, none⟩ (.slice (some ⟨w2.heap.size, 0, none⟩) 1 1) = W9 at k0 k1 r1 r2 hE y1 y2 ⊢
  have AQ : Aside (IsDec Nx s1 /\ IsDec Ny s2 /\ W9.cell? ⟨(w2.heap.size + 1), 0, none⟩ = some (.string s1) /\ W9.cell? ⟨w2.heap.size, 0, none⟩ = some (.string s2) /\ (w.heap.size <= (w2.heap.size + 1) /\ w.heap.size <= w2.heap.size /\ (w2.heap.size + 1) ≠ w2.heap.size /\ (∀ o, W9.frozen? ⟨(w2.heap.size + 1), o, none⟩ = false) /\ ∀ o, W9.frozen? ⟨w2.heap.size, o, none⟩ = false) /\ Ext w W9) := ⟨d1, d2, r1, r2, ⟨by omega, by omega, by omega, y1, y2⟩, hE⟩
  clear d1 d2 r1 r2 y1 y2 hE hEW hE2B hE1 hE2 hs1 hs2 hs1'
  go_wp2
  simp [bodyPost, results, Tryz.results11, go_sem, k0, k1]
  obtain ⟨q1, q2, q3, q4, q6, q5⟩ := AQ.out
  exact ⟨_, _, ⟨rfl, rfl⟩, s1, q1, s2, q2, q3, q4, q6, q5⟩
end Go.Eng
namespace Go.Eng
open Go Go.RowKit Go.Proofs
set_option maxRecDepth 100000
set_option maxHeartbeats 3200000 in
theorem same_eq {b1 o1 b2 o2 b3 b4 : Nat} {s1 s2 : ByteArray} {w : World} (h1 : w.cell? ⟨b1, o1, none⟩ = some (.string s1)) (h2 : w.cell? ⟨b2, o2, none⟩ = some (.string s2)) (h3 : w.cell? ⟨b3, 0, none⟩ = some (.string s1)) (h4 : w.cell? ⟨b4, 0, none⟩ = some (.string s2)) :
  Calls Tryz.prog 10 #[.agg #[.slice (some ⟨b1, o1, none⟩) 1 1, .slice (some ⟨b2, o2, none⟩) 1 1], .agg #[.slice (some ⟨b3, 0, none⟩) 1 1, .slice (some ⟨b4, 0, none⟩) 1 1]] w fun e w' => e = .returned (.bool true) /\ Ext w w' := by
 obtain ⟨B, hB⟩ : ∃ B, B = ((w.alloc (.cells #[.slice (some ⟨b1, o1, none⟩) 1 1, .slice (some ⟨b2, o2, none⟩) 1 1] 24)).alloc (.cells #[.slice (some ⟨b3, 0, none⟩) 1 1, .slice (some ⟨b4, 0, none⟩) 1 1] 24)) := ⟨_, rfl⟩
 have hEB : Ext w B := by rw [hB]; exact ((Ext.refl _).alloc _).alloc _
 have c00 : B.cell? ⟨w.heap.size, 0, none⟩ = some (.slice (some ⟨b1, o1, none⟩) 1 1) := by
  rw [hB]; exact Ext.cell ((Ext.refl _).alloc _) (cell_al _ _ _ _ (by simp) rfl)
 have c01 : B.cell? ⟨w.heap.size, 1, none⟩ = some (.slice (some ⟨b2, o2, none⟩) 1 1) := by
  rw [hB]; exact Ext.cell ((Ext.refl _).alloc _) (cell_al _ _ _ _ (by simp) rfl)
 have c10 : B.cell? ⟨w.heap.size + 1, 0, none⟩ = some (.slice (some ⟨b3, 0, none⟩) 1 1) := by
  rw [hB]; exact cell_al _ _ _ _ (by simp) rfl
 have c11 : B.cell? ⟨w.heap.size + 1, 1, none⟩ = some (.slice (some ⟨b4, 0, none⟩) 1 1) := by
  rw [hB]; exact cell_al _ _ _ _ (by simp) rfl
 replace h1 := hEB.cell h1
 replace h2 := hEB.cell h2
 replace h3 := hEB.cell h3
 replace h4 := hEB.cell h4
 go_enter Tryz.func10, Tryz.ntmps10
 go_upto_region 1 with fail
 rw [<- hB]
 clear hB
 go_wp2
 go_loopg [5] 1 (fun g i wr => g <= 1 /\ i = .int .i64 ((1 - g : Nat) : Int) /\ Ext B wr)
 case atStart => exact ⟨Nat.le_refl _, rfl, Ext.refl _⟩
 case round =>
  obtain ⟨hg, rfl, hE⟩ := hrel
  replace h1 := hE.cell h1
  replace h2 := hE.cell h2
  replace h3 := hE.cell h3
  replace h4 := hE.cell h4
  replace c00 := hE.cell c00
  replace c01 := hE.cell c01
  replace c10 := hE.cell c10
  replace c11 := hE.cell c11
  replace hEB := hEB.trans hE
  match gk, hg with
  | 0, _ =>
    rw [show ((1 - 0 : Nat) : Int) = 1 from rfl]
    clear h1 h2 h3 h4
    go_wp2
    go_ret
    exact ⟨rfl, hEB⟩
  | 1, _ =>
    rw [show ((1 - 1 : Nat) : Int) = 0 from rfl]
    go_upto_region 6 with fail
    go_quiet (fail)
    go_wp2
    go_roundg 0
    case measure => omega
    case rel => exact ⟨by omega, rfl, hE.drewN _⟩
end Go.Eng
namespace Go.Eng
open Go Go.RowKit Go.Proofs
set_option maxRecDepth 100000
def DecT (s : ByteArray) (N : Nat) : Prop :=
 s.size <= 1000 /\ 2 <= s.size /\ (∀ k, k < s.size -> 48 <= (s.data.getD k 0).toNat /\ (s.data.getD k 0).toNat <= 57) /\ (s.data.getD 0 0).toNat ≠ 48 /\ rdN s s.size = N
theorem read_num {s : ByteArray} {N : Nat} (h : DecT s N) (w : World) :
  Calls Tryz.prog 18 #[.string s] w fun e w' => ∃ (a : Option Addr) (l c : Nat), e = .returned (.tuple #[.slice a l c, .bool true]) /\ Num w' (.slice a l c) N /\ Ext w w' := by
 obtain ⟨h1, h2, h3, h4, h5⟩ := h
 refine (read_walk s w h1 h2 h3 h4).mono ?_
 rintro e w' ⟨v, rfl, hv, hE⟩
 rw [h5] at hv
 obtain ⟨a, l, c, rfl⟩ := hv.slice
 exact ⟨a, l, c, rfl, hv, hE⟩
set_option maxHeartbeats 3200000 in
theorem zero_walk {aP aA aD aQ : Option Addr} {lP cP lA cA lD cD lQ cQ : Nat} {w : World} :
  Calls Tryz.prog 12 #[.agg #[.slice aP lP cP, .slice aA lA cA, .slice aD lD cD, .slice aQ lQ cQ]] w fun e w' => ∃ (a : Option Addr) (l c : Nat), e = .returned (.agg #[.slice none 0 0, .slice a l c]) /\ Num w' (.slice a l c) 1 /\ Ext w w' := by
 have hone : ∀ W, Calls Tryz.prog 30 #[.int .u64 1] W fun e w' => ∃ a l c, e = .returned (.slice a l c) /\ Num w' (.slice a l c) 1 /\ Ext W w' := fun W =>
  (of_walk 1 (by decide) W).mono fun e w' ⟨v, h1, h2, h3⟩ => by
   have h4 := h2.num (by decide)
   obtain ⟨x1, x2, x3, rfl⟩ := h4.slice
   exact ⟨x1, x2, x3, h1, h4, h3⟩
 obtain ⟨B, hB⟩ : ∃ B, B = (w.alloc (.cells #[.slice aP lP cP, .slice aA lA cA, .slice aD lD cD, .slice aQ lQ cQ] 31)).alloc (.cells #[.slice none 0 0, .slice none 0 0] 33) := ⟨_, rfl⟩
 have hEB : Ext w B := by rw [hB]; exact ((Ext.refl _).alloc _).alloc _
 have c20 : B.cell? ⟨w.heap.size + 1, 0, none⟩ = some (.slice none 0 0) := by
  rw [hB]; exact cell_al _ _ _ _ (by simp) rfl
 have c21 : B.cell? ⟨w.heap.size + 1, 1, none⟩ = some (.slice none 0 0) := by
  rw [hB]; exact cell_al _ _ _ _ (by simp) rfl
 have f2 : ∀ o, B.frozen? ⟨w.heap.size + 1, o, none⟩ = false := fun o => by rw [hB]; exact frozen_al _ _ _ _ (by simp)
 have hsB : w.heap.size + 1 < B.heap.size := by rw [hB]; simp
 go_enter Tryz.func12, Tryz.ntmps12
 go_upto_region 1 with fail
 rw [<- hB]
 clear hB
 have hb1 := hone B
 clear hone
 go_wp2_with (go_at_call 30; (with_reducible refine hb1.mono ?_); rintro e w1 ⟨a, l, c, rfl, hv, hE1⟩; have kz0 := hE1.cell c20; have kz1 := hE1.cell c21; have fz : ∀ o, w1.frozen? ⟨w.heap.size + 1, o, none⟩ = false := fun o => (hE1.frozenE hsB).trans (f2 o); have dz1 : ∀ u0, (w1.setCell ⟨w.heap.size + 1, 0, none⟩ u0).cell? ⟨w.heap.size + 1, 1, none⟩ = some (Value.slice none 0 0) := fun u0 => cell_off1 kz1 (by decide))
 have k0 : ((w1.setCell ⟨w.heap.size + 1, 0, none⟩ (.slice none 0 0)).setCell ⟨w.heap.size + 1, 1, none⟩ (.slice a l c)).cell? ⟨w.heap.size + 1, 0, none⟩ = some (.slice none 0 0) := cell_off1 (World.cell?_setCell_same _ _ _ kz0) (by decide)
 have k1 : ((w1.setCell ⟨w.heap.size + 1, 0, none⟩ (.slice none 0 0)).setCell ⟨w.heap.size + 1, 1, none⟩ (.slice a l c)).cell? ⟨w.heap.size + 1, 1, none⟩ = some (.slice a l c) := World.cell?_setCell_same _ _ _ (dz1 _)
 have n1 : Num ((w1.setCell ⟨w.heap.size + 1, 0, none⟩ (.slice none 0 0)).setCell ⟨w.heap.size + 1, 1, none⟩ (.slice a l c)) (.slice a l c) 1 := (hv.set kz0 _).set (dz1 _) _
 have hEk : Ext w ((w1.setCell ⟨w.heap.size + 1, 0, none⟩ (.slice none 0 0)).setCell ⟨w.heap.size + 1, 1, none⟩ (.slice a l c)) := ((hEB.trans hE1).setC (by show w.heap.size <= w.heap.size + 1; omega) _).setC (by show w.heap.size <= w.heap.size + 1; omega) _
 generalize (w1.setCell ⟨w.heap.size + 1, 0, none⟩ (.slice none 0 0)).setCell ⟨w.heap.size + 1, 1, none⟩ (.slice a l c) = W9 at k0 k1 n1 hEk ⊢
 go_wp2
 simp [bodyPost, results, Tryz.results12, go_sem, k0, k1]
 exact ⟨_, _, _, ⟨rfl, rfl, rfl⟩, n1, hEk⟩
set_option maxHeartbeats 3200000 in
theorem point_walkG {aP aA aD aQ : Option Addr} {lP cP NP lA cA lD cD lQ cQ b1 o1 k1 b2 o2 k2 Nx Ny : Nat} {sx sy : ByteArray} {w : World} (hP : Num w (.slice aP lP cP) NP) (hlp : nlen NP <= 1048576)
  (hrx : ∀ W, Calls Tryz.prog 18 #[.string sx] W fun e w' => ∃ (a : Option Addr) (l c : Nat), e = .returned (.tuple #[.slice a l c, .bool true]) /\ Num w' (.slice a l c) Nx /\ Ext W w') (hry : ∀ W, Calls Tryz.prog 18 #[.string sy] W fun e w' => ∃ (a : Option Addr) (l c : Nat), e = .returned (.tuple #[.slice a l c, .bool true]) /\ Num w' (.slice a l c) Ny /\ Ext W w') (l_x : Nx < NP) (l_y : Ny < NP)
  (h1 : w.cell? ⟨b1, o1, none⟩ = some (.string sx)) (h2 : w.cell? ⟨b2, o2, none⟩ = some (.string sy)) :
  Calls Tryz.prog 6 #[.agg #[.slice aP lP cP, .slice aA lA cA, .slice aD lD cD, .slice aQ lQ cQ], .agg #[.slice (some ⟨b1, o1, none⟩) 1 k1, .slice (some ⟨b2, o2, none⟩) 1 k2]] w fun e w' => ∃ (a1 : Option Addr) (l1 c1 : Nat) (a2 : Option Addr) (l2 c2 : Nat), e = .returned (.tuple #[.agg #[.slice a1 l1 c1, .slice a2 l2 c2], .bool true]) /\ Num w' (.slice a1 l1 c1) Nx /\ Num w' (.slice a2 l2 c2) Ny /\ Ext w w' := by
 have hin : ∀ W v X, Ext w W -> Num W v X -> X < NP -> Calls Tryz.prog 19 #[.agg #[.slice aP lP cP], v] W fun e w' => e = .returned (.bool true) /\ Ext W w' := fun W v X hW hv hX => by
  have h := in_walk (hP.ext hW) hlp hv (Nat.le_trans (nlen_lt hX) hlp)
  rw [decide_eq_true hX] at h
  exact h
 obtain ⟨B, hB⟩ : ∃ B, B = ((w.alloc (.cells #[.slice aP lP cP, .slice aA lA cA, .slice aD lD cD, .slice aQ lQ cQ] 31)).alloc (.cells #[.slice (some ⟨b1, o1, none⟩) 1 k1, .slice (some ⟨b2, o2, none⟩) 1 k2] 24)).alloc (.cells #[.slice none 0 0, .slice none 0 0] 33) := ⟨_, rfl⟩
 have hEB : Ext w B := by rw [hB]; exact (((Ext.refl _).alloc _).alloc _).alloc _
 have c00 : B.cell? ⟨w.heap.size, 0, none⟩ = some (.slice aP lP cP) := by
  rw [hB]; exact Ext.cell (((Ext.refl _).alloc _).alloc _) (cell_al _ _ _ _ rfl rfl)
 have c10 : B.cell? ⟨w.heap.size + 1, 0, none⟩ = some (.slice (some ⟨b1, o1, none⟩) 1 k1) := by
  rw [hB]; exact Ext.cell ((Ext.refl _).alloc _) (cell_al _ _ _ _ (by simp) rfl)
 have c11 : B.cell? ⟨w.heap.size + 1, 1, none⟩ = some (.slice (some ⟨b2, o2, none⟩) 1 k2) := by
  rw [hB]; exact Ext.cell ((Ext.refl _).alloc _) (cell_al _ _ _ _ (by simp) rfl)
 have c20 : B.cell? ⟨w.heap.size + 1 + 1, 0, none⟩ = some (.slice none 0 0) := by
  rw [hB]; exact cell_al _ _ _ _ (by simp) rfl
 have c21 : B.cell? ⟨w.heap.size + 1 + 1, 1, none⟩ = some (.slice none 0 0) := by
  rw [hB]; exact cell_al _ _ _ _ (by simp) rfl
 have f2 : ∀ o, B.frozen? ⟨w.heap.size + 1 + 1, o, none⟩ = false := fun o => by rw [hB]; exact frozen_al _ _ _ _ (by simp)
 have hsB : w.heap.size + 1 + 1 < B.heap.size := by rw [hB]; simp
 replace h1 := hEB.cell h1
 replace h2 := hEB.cell h2
 clear hP hlp
 go_enter Tryz.func6, Tryz.ntmps6
 go_upto_region 1 with fail
 rw [<- hB]
 clear hB
 have hb1 := hrx B
 clear hrx
 go_upto_region 4 with (go_at_call 18; (with_reducible refine hb1.mono ?_); rintro e w1 ⟨a1, l1, c1, rfl, hv1, hE1⟩; have c11' := hE1.cell c11; have c10' := hE1.cell c10; have h2' := hE1.cell h2)
 have hb2 := hry w1
 have c00' := hE1.cell c00
 clear hry hb1
 go_upto_region 5 with (go_at_call 18; (with_reducible refine hb2.mono ?_); rintro e w2 ⟨a2, l2, c2, rfl, hv2, hE2⟩)
 have d00 := (hE1.trans hE2).cell c00
 have hi1 := hin w2 (.slice a1 l1 c1) Nx ((hEB.trans hE1).trans hE2) (hv1.ext hE2) l_x
 have hi2 : ∀ w3, Ext w2 w3 -> Calls Tryz.prog 19 #[.agg #[.slice aP lP cP], .slice a2 l2 c2] w3 fun e w' => e = .returned (.bool true) /\ Ext w3 w' := fun w3 h3 => hin w3 (.slice a2 l2 c2) Ny (((hEB.trans hE1).trans hE2).trans h3) (hv2.ext h3) l_y
 clear hin
 go_wp2_with (first
  | (go_at_call 19; (with_reducible refine hi1.mono ?_); rintro e w3 ⟨rfl, hE3⟩; have g00 := hE3.cell d00)
  | (go_at_call 19; (with_reducible refine (hi2 w3 hE3).mono ?_); rintro e w4 ⟨rfl, hE4⟩; have hEz := ((hE1.trans hE2).trans hE3).trans hE4; have kz0 := hEz.cell c20; have kz1 := hEz.cell c21; have fz : ∀ o, w4.frozen? ⟨w.heap.size + 1 + 1, o, none⟩ = false := fun o => (hEz.frozenE hsB).trans (f2 o); have dz1 : ∀ u0, (w4.setCell ⟨w.heap.size + 1 + 1, 0, none⟩ u0).cell? ⟨w.heap.size + 1 + 1, 1, none⟩ = some (Value.slice none 0 0) := fun u0 => cell_off1 kz1 (by decide)))
 have k0 : ((w4.setCell ⟨w.heap.size + 1 + 1, 0, none⟩ (.slice a1 l1 c1)).setCell ⟨w.heap.size + 1 + 1, 1, none⟩ (.slice a2 l2 c2)).cell? ⟨w.heap.size + 1 + 1, 0, none⟩ = some (.slice a1 l1 c1) := cell_off1 (World.cell?_setCell_same _ _ _ kz0) (by decide)
 have k1 : ((w4.setCell ⟨w.heap.size + 1 + 1, 0, none⟩ (.slice a1 l1 c1)).setCell ⟨w.heap.size + 1 + 1, 1, none⟩ (.slice a2 l2 c2)).cell? ⟨w.heap.size + 1 + 1, 1, none⟩ = some (.slice a2 l2 c2) := World.cell?_setCell_same _ _ _ (dz1 _)
 have n1 : Num ((w4.setCell ⟨w.heap.size + 1 + 1, 0, none⟩ (.slice a1 l1 c1)).setCell ⟨w.heap.size + 1 + 1, 1, none⟩ (.slice a2 l2 c2)) (.slice a1 l1 c1) Nx := ((((hv1.ext hE2).ext hE3).ext hE4).set kz0 _).set (dz1 _) _
 have n2 : Num ((w4.setCell ⟨w.heap.size + 1 + 1, 0, none⟩ (.slice a1 l1 c1)).setCell ⟨w.heap.size + 1 + 1, 1, none⟩ (.slice a2 l2 c2)) (.slice a2 l2 c2) Ny := (((hv2.ext hE3).ext hE4).set kz0 _).set (dz1 _) _
 have hEk : Ext w ((w4.setCell ⟨w.heap.size + 1 + 1, 0, none⟩ (.slice a1 l1 c1)).setCell ⟨w.heap.size + 1 + 1, 1, none⟩ (.slice a2 l2 c2)) := ((hEB.trans hEz).setC (by show w.heap.size <= w.heap.size + 1 + 1; omega) _).setC (by show w.heap.size <= w.heap.size + 1 + 1; omega) _
 generalize (w4.setCell ⟨w.heap.size + 1 + 1, 0, none⟩ (.slice a1 l1 c1)).setCell ⟨w.heap.size + 1 + 1, 1, none⟩ (.slice a2 l2 c2) = W9 at k0 k1 n1 n2 hEk ⊢
 go_wp2
 simp [bodyPost, results, Tryz.results6, go_sem, k0, k1]
 exact ⟨_, _, _, _, _, _, ⟨⟨rfl, rfl, rfl⟩, rfl, rfl, rfl⟩, n1, n2, hEk⟩
theorem point_walk {aP aA aD aQ : Option Addr} {lP cP NP lA cA lD cD lQ cQ b1 o1 b2 o2 Nx Ny : Nat} {sx sy : ByteArray} {w : World} (hP : Num w (.slice aP lP cP) NP) (hlp : nlen NP <= 1000) (hx : DecT sx Nx) (hy : DecT sy Ny) (l_x : Nx < NP) (l_y : Ny < NP)
  (h1 : w.cell? ⟨b1, o1, none⟩ = some (.string sx)) (h2 : w.cell? ⟨b2, o2, none⟩ = some (.string sy)) :
  Calls Tryz.prog 6 #[.agg #[.slice aP lP cP, .slice aA lA cA, .slice aD lD cD, .slice aQ lQ cQ], .agg #[.slice (some ⟨b1, o1, none⟩) 1 1, .slice (some ⟨b2, o2, none⟩) 1 1]] w fun e w' => ∃ (a1 : Option Addr) (l1 c1 : Nat) (a2 : Option Addr) (l2 c2 : Nat), e = .returned (.tuple #[.agg #[.slice a1 l1 c1, .slice a2 l2 c2], .bool true]) /\ Num w' (.slice a1 l1 c1) Nx /\ Num w' (.slice a2 l2 c2) Ny /\ Ext w w' := point_walkG hP (by omega) (fun W => read_num hx W) (fun W => read_num hy W) l_x l_y h1 h2
end Go.Eng
namespace Go.Eng
open Go Go.RowKit Go.Proofs
set_option maxRecDepth 100000
theorem cell_set_id {W : World} {p q : Addr} {v x : Value} (hp : W.cell? p = some v) (hq : W.cell? q = some x) : (W.setCell p v).cell? q = some x := by
 by_cases h : p = q
 ·subst h
  rw [World.cell?_setCell_same _ _ _ hp, <- hp, hq]
 ·rw [World.cell?_setCell_other _ _ _ _ h]; exact hq
abbrev K6 (w : World) (a b : Nat) (v0 v1 v2 v3 u0 u1 : Value) (W : World) : Prop :=
 W.cell? ⟨a, 0, none⟩ = some v0 /\ W.cell? ⟨a, 1, none⟩ = some v1 /\ W.cell? ⟨a, 2, none⟩ = some v2 /\ W.cell? ⟨a, 3, none⟩ = some v3 /\ W.cell? ⟨b, 0, none⟩ = some u0 /\ W.cell? ⟨b, 1, none⟩ = some u1 /\ Ext w W
theorem K6.set {w W : World} {a b : Nat} {v0 v1 v2 v3 u0 u1 v : Value} {p : Addr} (h : K6 w a b v0 v1 v2 v3 u0 u1 W) (hp : W.cell? p = some v) (hb : w.heap.size <= p.block) : K6 w a b v0 v1 v2 v3 u0 u1 (W.setCell p v) :=
 ⟨cell_set_id hp h.1, cell_set_id hp h.2.1, cell_set_id hp h.2.2.1, cell_set_id hp h.2.2.2.1, cell_set_id hp h.2.2.2.2.1, cell_set_id hp h.2.2.2.2.2.1, h.2.2.2.2.2.2.setC hb v⟩
theorem asideI {p : Prop} (h : p) : Aside p := h
theorem K6.drew {w W : World} {a b : Nat} {v0 v1 v2 v3 u0 u1 : Value} (h : K6 w a b v0 v1 v2 v3 u0 u1 W) : K6 w a b v0 v1 v2 v3 u0 u1 W.drew := ⟨h.1, h.2.1, h.2.2.1, h.2.2.2.1, h.2.2.2.2.1, h.2.2.2.2.2.1, h.2.2.2.2.2.2.drew⟩
theorem K6.setA {w W : World} {a b : Nat} {v0 v1 v2 v3 u0 u1 : Value} (h : K6 w a b v0 v1 v2 v3 u0 u1 W) (ha : w.heap.size <= a) : K6 w a b v0 v1 v2 v3 u0 u1 ((((W.setCell ⟨a, 0, none⟩ v0).setCell ⟨a, 1, none⟩ v1).setCell ⟨a, 2, none⟩ v2).setCell ⟨a, 3, none⟩ v3) := by
 have h1 := h.set h.1 ha
 have h2 := h1.set h1.2.1 ha
 have h3 := h2.set h2.2.2.1 ha
 exact h3.set h3.2.2.2.1 ha
theorem Num.set4 {W : World} {b : Nat} {v : Value} {N : Nat} (h : Num W v N) (h0 : W.cell? ⟨b, 0, none⟩ = some (.slice none 0 0)) (h1 : W.cell? ⟨b, 1, none⟩ = some (.slice none 0 0)) (h2 : W.cell? ⟨b, 2, none⟩ = some (.slice none 0 0)) (h3 : W.cell? ⟨b, 3, none⟩ = some (.slice none 0 0)) (x y z u : Value) :
  Num ((((W.setCell ⟨b, 0, none⟩ x).setCell ⟨b, 1, none⟩ y).setCell ⟨b, 2, none⟩ z).setCell ⟨b, 3, none⟩ u) v N :=
 (((h.set h0 x).set (cell_off1 h1 (by decide)) y).set (cell_off2 h2 (by decide) (by decide)) z).set (cell_off1 (cell_off2 h3 (by decide) (by decide)) (by decide)) u
set_option maxHeartbeats 6400000 in
theorem edOf_walk {NP NA ND NQ Nx Ny b1 o1 b2 o2 : Nat} {sP sA sD sQ sx sy : ByteArray} {w : World} (hP : DecT sP NP) (hlp : nlen NP <= 1000) (hA : DecT sA NA) (hD : DecT sD ND) (hQ : DecT sQ NQ) (hP0 : NP ≠ 0) (hQ0 : NQ ≠ 0) (hx : DecT sx Nx) (hy : DecT sy Ny) (l_x : Nx < NP) (l_y : Ny < NP)
  (h1 : w.cell? ⟨b1, o1, none⟩ = some (.string sx)) (h2 : w.cell? ⟨b2, o2, none⟩ = some (.string sy)) :
  Calls Tryz.prog 17 #[.string sP, .string sA, .string sD, .string sQ, .agg #[.slice (some ⟨b1, o1, none⟩) 1 1, .slice (some ⟨b2, o2, none⟩) 1 1]] w fun e w' => ∃ (aP : Option Addr) (lP cP : Nat) (aA : Option Addr) (lA cA : Nat) (aD : Option Addr) (lD cD : Nat) (aQ : Option Addr) (lQ cQ : Nat) (a1 : Option Addr) (l1 c1 : Nat) (a2 : Option Addr) (l2 c2 : Nat),
   e = .returned (.tuple #[.agg #[.slice aP lP cP, .slice aA lA cA, .slice aD lD cD, .slice aQ lQ cQ], .agg #[.slice a1 l1 c1, .slice a2 l2 c2], .bool true]) /\ Num w' (.slice aP lP cP) NP /\ Num w' (.slice aA lA cA) NA /\ Num w' (.slice aD lD cD) ND /\ Num w' (.slice aQ lQ cQ) NQ /\ Num w' (.slice a1 l1 c1) Nx /\ Num w' (.slice a2 l2 c2) Ny /\ Ext w w' := by
 have hrP : ∀ W, Calls Tryz.prog 18 #[.string sP] W fun e w' => ∃ (a : Option Addr) (l c : Nat), e = .returned (.tuple #[.slice a l c, .bool true]) /\ Num w' (.slice a l c) NP /\ Ext W w' := fun W => read_num hP W
 have hrA : ∀ W, Calls Tryz.prog 18 #[.string sA] W fun e w' => ∃ (a : Option Addr) (l c : Nat), e = .returned (.tuple #[.slice a l c, .bool true]) /\ Num w' (.slice a l c) NA /\ Ext W w' := fun W => read_num hA W
 have hrD : ∀ W, Calls Tryz.prog 18 #[.string sD] W fun e w' => ∃ (a : Option Addr) (l c : Nat), e = .returned (.tuple #[.slice a l c, .bool true]) /\ Num w' (.slice a l c) ND /\ Ext W w' := fun W => read_num hD W
 have hrQ : ∀ W, Calls Tryz.prog 18 #[.string sQ] W fun e w' => ∃ (a : Option Addr) (l c : Nat), e = .returned (.tuple #[.slice a l c, .bool true]) /\ Num w' (.slice a l c) NQ /\ Ext W w' := fun W => read_num hQ W
 have hpt : ∀ W (aP : Option Addr) (lP cP : Nat) (aA : Option Addr) (lA cA : Nat) (aD : Option Addr) (lD cD : Nat) (aQ : Option Addr) (lQ cQ : Nat), Num W (.slice aP lP cP) NP -> W.cell? ⟨b1, o1, none⟩ = some (.string sx) -> W.cell? ⟨b2, o2, none⟩ = some (.string sy) -> Calls Tryz.prog 6 #[.agg #[.slice aP lP cP, .slice aA lA cA, .slice aD lD cD, .slice aQ lQ cQ], .agg #[.slice (some ⟨b1, o1, none⟩) 1 1, .slice (some ⟨b2, o2, none⟩) 1 1]] W fun e w' => ∃ (a1 : Option Addr) (l1 c1 : Nat) (a2 : Option Addr) (l2 c2 : Nat), e = .returned (.tuple #[.agg #[.slice a1 l1 c1, .slice a2 l2 c2], .bool true]) /\ Num w' (.slice a1 l1 c1) Nx /\ Num w' (.slice a2 l2 c2) Ny /\ Ext W w' :=
  fun W aP lP cP aA lA cA aD lD cD aQ lQ cQ k1 k2 k3 => point_walk k1 hlp hx hy l_x l_y k2 k3
 have hb1w := lt_of_cell h1
 have hb2w := lt_of_cell h2
 obtain ⟨B, hB⟩ : ∃ B, B = ((w.alloc (.cells #[.slice (some ⟨b1, o1, none⟩) 1 1, .slice (some ⟨b2, o2, none⟩) 1 1] 24)).alloc (.cells #[.slice none 0 0, .slice none 0 0, .slice none 0 0, .slice none 0 0] 31)).alloc (.cells #[.slice none 0 0, .slice none 0 0] 33) := ⟨_, rfl⟩
 have hEB : Ext w B := by rw [hB]; exact (((Ext.refl _).alloc _).alloc _).alloc _
 have c00 : B.cell? ⟨w.heap.size, 0, none⟩ = some (.slice (some ⟨b1, o1, none⟩) 1 1) := by
  rw [hB]; exact Ext.cell (((Ext.refl _).alloc _).alloc _) (cell_al _ _ _ _ rfl rfl)
 have c01 : B.cell? ⟨w.heap.size, 1, none⟩ = some (.slice (some ⟨b2, o2, none⟩) 1 1) := by
  rw [hB]; exact Ext.cell (((Ext.refl _).alloc _).alloc _) (cell_al _ _ _ _ rfl rfl)
 have c1 : ∀ i, i < 4 -> B.cell? ⟨w.heap.size + 1, i, none⟩ = some (.slice none 0 0) := fun i hi => by
  rw [hB]; refine Ext.cell ((Ext.refl _).alloc _) ?_
  match i, hi with
  | 0, _ => exact cell_al _ _ _ _ (by simp) rfl
  | 1, _ => exact cell_al _ _ _ _ (by simp) rfl
  | 2, _ => exact cell_al _ _ _ _ (by simp) rfl
  | 3, _ => exact cell_al _ _ _ _ (by simp) rfl
 have c20 : B.cell? ⟨w.heap.size + 1 + 1, 0, none⟩ = some (.slice none 0 0) := by
  rw [hB]; exact cell_al _ _ _ _ (by simp) rfl
 have c21 : B.cell? ⟨w.heap.size + 1 + 1, 1, none⟩ = some (.slice none 0 0) := by
  rw [hB]; exact cell_al _ _ _ _ (by simp) rfl
 have f1 : ∀ o, B.frozen? ⟨w.heap.size + 1, o, none⟩ = false := fun o => by
  rw [hB, Ext.frozenE ((Ext.refl _).alloc _) (by simp)]; exact frozen_al _ _ _ _ (by simp)
 have f2 : ∀ o, B.frozen? ⟨w.heap.size + 1 + 1, o, none⟩ = false := fun o => by rw [hB]; exact frozen_al _ _ _ _ (by simp)
 have hsB : w.heap.size + 1 + 1 < B.heap.size := by rw [hB]; simp
 have Ac1 : Aside (∀ i, i < 4 -> B.cell? ⟨w.heap.size + 1, i, none⟩ = some (.slice none 0 0)) := c1
 replace h1 := hEB.cell h1
 replace h2 := hEB.cell h2
 clear hx hy hP hA hD hQ hlp l_x l_y c1
 go_enter Tryz.func17, Tryz.ntmps17
 go_upto_region 1 with fail
 rw [<- hB]
 clear hB
 have hq1 := hrP B
 clear hrP
 go_upto_region 2 with (go_at_call 18; (with_reducible refine hq1.mono ?_); rintro e w1 ⟨aP, lP, cP, rfl, hvP, hE1⟩)
 have hq2 := hrQ w1
 clear hrQ hq1
 go_upto_region 3 with (go_at_call 18; (with_reducible refine hq2.mono ?_); rintro e w2 ⟨aQ, lQ, cQ, rfl, hvQ, hE2⟩)
 have hq3 := hrA w2
 clear hrA hq2
 go_upto_region 4 with (go_at_call 18; (with_reducible refine hq3.mono ?_); rintro e w3 ⟨aA, lA, cA, rfl, hvA, hE3⟩)
 have hq4 := hrD w3
 clear hrD hq3
 go_upto_region 5 with (go_at_call 18; (with_reducible refine hq4.mono ?_); rintro e w4 ⟨aD, lD, cD, rfl, hvD, hE4⟩)
 clear hq4
 have hEz : Ext B w4 := ((hE1.trans hE2).trans hE3).trans hE4
 have hzP : lP ≠ 0 := by
  obtain ⟨_, _, _, _, hh, _⟩ := hvP
  have := nlen_pos hP0
  cases hh
  omega
 have hzQ : lQ ≠ 0 := by
  obtain ⟨_, _, _, _, hh, _⟩ := hvQ
  have := nlen_pos hQ0
  cases hh
  omega
 have hzP2 : ((lP : Int) == 0) = false := by simp; omega
 have hzQ2 : ((lQ : Int) == 0) = false := by simp; omega
 have AN : Aside (Num w4 (.slice aP lP cP) NP /\ Num w4 (.slice aA lA cA) NA /\ Num w4 (.slice aD lD cD) ND /\ Num w4 (.slice aQ lQ cQ) NQ) := ⟨((hvP.ext hE2).ext hE3).ext hE4, hvA.ext hE4, hvD, (hvQ.ext hE3).ext hE4⟩
 clear hvP hvA hvD hvQ hP0 hQ0
 go_upto_region 7 with fail
 have k0 := hEz.cell (Ac1.out 0 (by decide))
 have k1 := hEz.cell (Ac1.out 1 (by decide))
 have k2 := hEz.cell (Ac1.out 2 (by decide))
 have k3 := hEz.cell (Ac1.out 3 (by decide))
 have fz : ∀ o, w4.frozen? ⟨w.heap.size + 1, o, none⟩ = false := fun o => (hEz.frozenE (by omega)).trans (f1 o)
 have dz1 : ∀ x, (w4.setCell ⟨w.heap.size + 1, 0, none⟩ x).cell? ⟨w.heap.size + 1, 1, none⟩ = some (Value.slice none 0 0) := fun x => cell_off1 k1 (by decide)
 have dz2 : ∀ x y, ((w4.setCell ⟨w.heap.size + 1, 0, none⟩ x).setCell ⟨w.heap.size + 1, 1, none⟩ y).cell? ⟨w.heap.size + 1, 2, none⟩ = some (Value.slice none 0 0) := fun x y => cell_off2 k2 (by decide) (by decide)
 have dz3 : ∀ x y z, (((w4.setCell ⟨w.heap.size + 1, 0, none⟩ x).setCell ⟨w.heap.size + 1, 1, none⟩ y).setCell ⟨w.heap.size + 1, 2, none⟩ z).cell? ⟨w.heap.size + 1, 3, none⟩ = some (Value.slice none 0 0) := fun x y z => cell_off1 (cell_off2 k3 (by decide) (by decide)) (by decide)
 go_upto_region 8 with fail
 have m0 : ((((w4.setCell ⟨w.heap.size + 1, 0, none⟩ (.slice aP lP cP)).setCell ⟨w.heap.size + 1, 1, none⟩ (.slice aA lA cA)).setCell ⟨w.heap.size + 1, 2, none⟩ (.slice aD lD cD)).setCell ⟨w.heap.size + 1, 3, none⟩ (.slice aQ lQ cQ)).cell? ⟨w.heap.size + 1, 0, none⟩ = some (.slice aP lP cP) := cell_off1 (cell_off2 (World.cell?_setCell_same _ _ _ k0) (by decide) (by decide)) (by decide)
 have m1 : ((((w4.setCell ⟨w.heap.size + 1, 0, none⟩ (.slice aP lP cP)).setCell ⟨w.heap.size + 1, 1, none⟩ (.slice aA lA cA)).setCell ⟨w.heap.size + 1, 2, none⟩ (.slice aD lD cD)).setCell ⟨w.heap.size + 1, 3, none⟩ (.slice aQ lQ cQ)).cell? ⟨w.heap.size + 1, 1, none⟩ = some (.slice aA lA cA) := cell_off2 (World.cell?_setCell_same _ _ _ (dz1 _)) (by decide) (by decide)
 have m2 : ((((w4.setCell ⟨w.heap.size + 1, 0, none⟩ (.slice aP lP cP)).setCell ⟨w.heap.size + 1, 1, none⟩ (.slice aA lA cA)).setCell ⟨w.heap.size + 1, 2, none⟩ (.slice aD lD cD)).setCell ⟨w.heap.size + 1, 3, none⟩ (.slice aQ lQ cQ)).cell? ⟨w.heap.size + 1, 2, none⟩ = some (.slice aD lD cD) := cell_off1 (World.cell?_setCell_same _ _ _ (dz2 _ _)) (by decide)
 have m3 : ((((w4.setCell ⟨w.heap.size + 1, 0, none⟩ (.slice aP lP cP)).setCell ⟨w.heap.size + 1, 1, none⟩ (.slice aA lA cA)).setCell ⟨w.heap.size + 1, 2, none⟩ (.slice aD lD cD)).setCell ⟨w.heap.size + 1, 3, none⟩ (.slice aQ lQ cQ)).cell? ⟨w.heap.size + 1, 3, none⟩ = some (.slice aQ lQ cQ) := World.cell?_setCell_same _ _ _ (dz3 _ _ _)
 have hfar : ∀ {b o : Nat} {v : Value}, w4.cell? ⟨b, o, none⟩ = some v -> b ≠ w.heap.size + 1 -> ((((w4.setCell ⟨w.heap.size + 1, 0, none⟩ (.slice aP lP cP)).setCell ⟨w.heap.size + 1, 1, none⟩ (.slice aA lA cA)).setCell ⟨w.heap.size + 1, 2, none⟩ (.slice aD lD cD)).setCell ⟨w.heap.size + 1, 3, none⟩ (.slice aQ lQ cQ)).cell? ⟨b, o, none⟩ = some v := fun hc hb => cell_far1 (cell_far1 (cell_far2 hc hb _ _) hb _) hb _
 have n0 := hfar (hEz.cell c00) (by omega)
 have n1 := hfar (hEz.cell c01) (by omega)
 have n2 := hfar (hEz.cell c20) (by omega)
 have n3 := hfar (hEz.cell c21) (by omega)
 have hs1 := hfar (hEz.cell h1) (by omega)
 have hs2 := hfar (hEz.cell h2) (by omega)
 have pP := AN.out.1.set4 k0 k1 k2 k3 (.slice aP lP cP) (.slice aA lA cA) (.slice aD lD cD) (.slice aQ lQ cQ)
 have pA := AN.out.2.1.set4 k0 k1 k2 k3 (.slice aP lP cP) (.slice aA lA cA) (.slice aD lD cD) (.slice aQ lQ cQ)
 have pD := AN.out.2.2.1.set4 k0 k1 k2 k3 (.slice aP lP cP) (.slice aA lA cA) (.slice aD lD cD) (.slice aQ lQ cQ)
 have pQ := AN.out.2.2.2.set4 k0 k1 k2 k3 (.slice aP lP cP) (.slice aA lA cA) (.slice aD lD cD) (.slice aQ lQ cQ)
 have fr1 : ∀ o, ((((w4.setCell ⟨w.heap.size + 1, 0, none⟩ (.slice aP lP cP)).setCell ⟨w.heap.size + 1, 1, none⟩ (.slice aA lA cA)).setCell ⟨w.heap.size + 1, 2, none⟩ (.slice aD lD cD)).setCell ⟨w.heap.size + 1, 3, none⟩ (.slice aQ lQ cQ)).frozen? ⟨w.heap.size + 1, o, none⟩ = false := fun o => by simp only [World.frozen?_setCell]; exact fz o
 have fr2 : ∀ o, ((((w4.setCell ⟨w.heap.size + 1, 0, none⟩ (.slice aP lP cP)).setCell ⟨w.heap.size + 1, 1, none⟩ (.slice aA lA cA)).setCell ⟨w.heap.size + 1, 2, none⟩ (.slice aD lD cD)).setCell ⟨w.heap.size + 1, 3, none⟩ (.slice aQ lQ cQ)).frozen? ⟨w.heap.size + 1 + 1, o, none⟩ = false := fun o => by simp only [World.frozen?_setCell]; exact (hEz.frozenE (by omega)).trans (f2 o)
 have hES : Ext w ((((w4.setCell ⟨w.heap.size + 1, 0, none⟩ (.slice aP lP cP)).setCell ⟨w.heap.size + 1, 1, none⟩ (.slice aA lA cA)).setCell ⟨w.heap.size + 1, 2, none⟩ (.slice aD lD cD)).setCell ⟨w.heap.size + 1, 3, none⟩ (.slice aQ lQ cQ)) := ((((hEB.trans hEz).setC (by show w.heap.size <= w.heap.size + 1; omega) _).setC (by show w.heap.size <= w.heap.size + 1; omega) _).setC (by show w.heap.size <= w.heap.size + 1; omega) _).setC (by show w.heap.size <= w.heap.size + 1; omega) _
 have hsz : w.heap.size + 1 + 1 < ((((w4.setCell ⟨w.heap.size + 1, 0, none⟩ (.slice aP lP cP)).setCell ⟨w.heap.size + 1, 1, none⟩ (.slice aA lA cA)).setCell ⟨w.heap.size + 1, 2, none⟩ (.slice aD lD cD)).setCell ⟨w.heap.size + 1, 3, none⟩ (.slice aQ lQ cQ)).heap.size := lt_of_cell n2
 clear hfar k0 k1 k2 k3 fz dz1 dz2 dz3 AN c00 c01 Ac1 c20 c21 f1 f2 h1 h2 hEz hE1 hE2 hE3 hE4 hEB hsB hzP hzQ hzP2 hzQ2
 generalize ((((w4.setCell ⟨w.heap.size + 1, 0, none⟩ (.slice aP lP cP)).setCell ⟨w.heap.size + 1, 1, none⟩ (.slice aA lA cA)).setCell ⟨w.heap.size + 1, 2, none⟩ (.slice aD lD cD)).setCell ⟨w.heap.size + 1, 3, none⟩ (.slice aQ lQ cQ)) = W5 at m0 m1 m2 m3 n0 n1 n2 n3 hs1 hs2 pP pA pD pQ fr1 fr2 hES hsz ⊢
 have hp5 := hpt W5 aP lP cP aA lA cA aD lD cD aQ lQ cQ pP hs1 hs2
 have AN : Aside (Num W5 (.slice aP lP cP) NP /\ Num W5 (.slice aA lA cA) NA /\ Num W5 (.slice aD lD cD) ND /\ Num W5 (.slice aQ lQ cQ) NQ) := ⟨pP, pA, pD, pQ⟩
 clear hpt hs1 hs2 pP pA pD pQ
 go_upto_region 9 with (go_at_call 6; (with_reducible refine hp5.mono ?_); rintro e w6 ⟨a1, l1, c1, a2, l2, c2, rfl, hv1, hv2, hE6⟩; have kz0 := hE6.cell n2; have kz1 := hE6.cell n3; have fz : ∀ o, w6.frozen? ⟨w.heap.size + 1 + 1, o, none⟩ = false := fun o => (hE6.frozenE hsz).trans (fr2 o); have dz1 : ∀ u0, (w6.setCell ⟨w.heap.size + 1 + 1, 0, none⟩ u0).cell? ⟨w.heap.size + 1 + 1, 1, none⟩ = some (Value.slice none 0 0) := fun u0 => cell_off1 kz1 (by decide))
 have hK : K6 w (w.heap.size + 1) (w.heap.size + 1 + 1) (.slice aP lP cP) (.slice aA lA cA) (.slice aD lD cD) (.slice aQ lQ cQ) (.slice a1 l1 c1) (.slice a2 l2 c2) ((w6.setCell ⟨w.heap.size + 1 + 1, 0, none⟩ (.slice a1 l1 c1)).setCell ⟨w.heap.size + 1 + 1, 1, none⟩ (.slice a2 l2 c2)) := ⟨cell_far2 (hE6.cell m0) (by omega) _ _, cell_far2 (hE6.cell m1) (by omega) _ _, cell_far2 (hE6.cell m2) (by omega) _ _, cell_far2 (hE6.cell m3) (by omega) _ _, cell_off1 (World.cell?_setCell_same _ _ _ kz0) (by decide), World.cell?_setCell_same _ _ _ (dz1 _), ((hES.trans hE6).setC (by show w.heap.size <= w.heap.size + 1 + 1; omega) _).setC (by show w.heap.size <= w.heap.size + 1 + 1; omega) _⟩
 have pP := ((AN.out.1.ext hE6).set kz0 (.slice a1 l1 c1)).set (dz1 _) (.slice a2 l2 c2)
 have pA := ((AN.out.2.1.ext hE6).set kz0 (.slice a1 l1 c1)).set (dz1 _) (.slice a2 l2 c2)
 have pD := ((AN.out.2.2.1.ext hE6).set kz0 (.slice a1 l1 c1)).set (dz1 _) (.slice a2 l2 c2)
 have pQ := ((AN.out.2.2.2.ext hE6).set kz0 (.slice a1 l1 c1)).set (dz1 _) (.slice a2 l2 c2)
 have p1 := (hv1.set kz0 (.slice a1 l1 c1)).set (dz1 _) (.slice a2 l2 c2)
 have p2 := (hv2.set kz0 (.slice a1 l1 c1)).set (dz1 _) (.slice a2 l2 c2)
 have g1 : ∀ o, ((w6.setCell ⟨w.heap.size + 1 + 1, 0, none⟩ (.slice a1 l1 c1)).setCell ⟨w.heap.size + 1 + 1, 1, none⟩ (.slice a2 l2 c2)).frozen? ⟨w.heap.size + 1, o, none⟩ = false := fun o => by simp only [World.frozen?_setCell]; exact (hE6.frozenE (by omega)).trans (fr1 o)
 have g2 : ∀ o, ((w6.setCell ⟨w.heap.size + 1 + 1, 0, none⟩ (.slice a1 l1 c1)).setCell ⟨w.heap.size + 1 + 1, 1, none⟩ (.slice a2 l2 c2)).frozen? ⟨w.heap.size + 1 + 1, o, none⟩ = false := fun o => by simp only [World.frozen?_setCell]; exact fz o
 clear m0 m1 m2 m3 n0 n1 n2 n3 fr1 fr2 hES hsz AN hv1 hv2 hE6 kz0 kz1 fz dz1 hp5 hb1w hb2w
 generalize ((w6.setCell ⟨w.heap.size + 1 + 1, 0, none⟩ (.slice a1 l1 c1)).setCell ⟨w.heap.size + 1 + 1, 1, none⟩ (.slice a2 l2 c2)) = W7 at hK pP pA pD pQ p1 p2 g1 g2 ⊢
 have AK : Aside (K6 w (w.heap.size + 1) (w.heap.size + 1 + 1) (.slice aP lP cP) (.slice aA lA cA) (.slice aD lD cD) (.slice aQ lQ cQ) (.slice a1 l1 c1) (.slice a2 l2 c2) W7) := hK
 have q0 := hK.1
 have q1 := hK.2.1
 have q2 := hK.2.2.1
 have q3 := hK.2.2.2.1
 have q4 := hK.2.2.2.2.1
 have q5 := hK.2.2.2.2.2.1
 have A1 := hK.set (v := .slice aP lP cP) (p := ⟨w.heap.size + 1, 0, none⟩) hK.1 (Nat.le_add_right _ _)
 have A2 := A1.set (v := .slice aA lA cA) (p := ⟨w.heap.size + 1, 1, none⟩) A1.2.1 (Nat.le_add_right _ _)
 have A3 := A2.set (v := .slice aD lD cD) (p := ⟨w.heap.size + 1, 2, none⟩) A2.2.2.1 (Nat.le_add_right _ _)
 have A4 := A3.set (v := .slice aQ lQ cQ) (p := ⟨w.heap.size + 1, 3, none⟩) A3.2.2.2.1 (Nat.le_add_right _ _)
 have A5 := A4.set (v := .slice a1 l1 c1) (p := ⟨w.heap.size + 1 + 1, 0, none⟩) A4.2.2.2.2.1 (by show w.heap.size <= w.heap.size + 1 + 1; omega)
 have A6 := A5.set (v := .slice a2 l2 c2) (p := ⟨w.heap.size + 1 + 1, 1, none⟩) A5.2.2.2.2.2.1 (by show w.heap.size <= w.heap.size + 1 + 1; omega)
 have r1 := A1.2.1
 have r2 := A2.2.2.1
 have r3 := A3.2.2.2.1
 have r4 := A4.2.2.2.2.1
 have r5 := A5.2.2.2.2.2.1
 have pF : ∀ {v : Value} {N : Nat}, Num W7 v N -> Num ((((((W7.setCell ⟨w.heap.size + 1, 0, none⟩ (.slice aP lP cP)).setCell ⟨w.heap.size + 1, 1, none⟩ (.slice aA lA cA)).setCell ⟨w.heap.size + 1, 2, none⟩ (.slice aD lD cD)).setCell ⟨w.heap.size + 1, 3, none⟩ (.slice aQ lQ cQ)).setCell ⟨w.heap.size + 1 + 1, 0, none⟩ (.slice a1 l1 c1)).setCell ⟨w.heap.size + 1 + 1, 1, none⟩ (.slice a2 l2 c2)) v N := fun h => (((((h.set q0 _).set r1 _).set r2 _).set r3 _).set r4 _).set r5 _
 have AF : Aside (Num ((((((W7.setCell ⟨w.heap.size + 1, 0, none⟩ (.slice aP lP cP)).setCell ⟨w.heap.size + 1, 1, none⟩ (.slice aA lA cA)).setCell ⟨w.heap.size + 1, 2, none⟩ (.slice aD lD cD)).setCell ⟨w.heap.size + 1, 3, none⟩ (.slice aQ lQ cQ)).setCell ⟨w.heap.size + 1 + 1, 0, none⟩ (.slice a1 l1 c1)).setCell ⟨w.heap.size + 1 + 1, 1, none⟩ (.slice a2 l2 c2)) (.slice aP lP cP) NP /\ Num ((((((W7.setCell ⟨w.heap.size + 1, 0, none⟩ (.slice aP lP cP)).setCell ⟨w.heap.size + 1, 1, none⟩ (.slice aA lA cA)).setCell ⟨w.heap.size + 1, 2, none⟩ (.slice aD lD cD)).setCell ⟨w.heap.size + 1, 3, none⟩ (.slice aQ lQ cQ)).setCell ⟨w.heap.size + 1 + 1, 0, none⟩ (.slice a1 l1 c1)).setCell ⟨w.heap.size + 1 + 1, 1, none⟩ (.slice a2 l2 c2)) (.slice aA lA cA) NA /\ Num ((((((W7.setCell ⟨w.heap.size + 1, 0, none⟩ (.slice aP lP cP)).setCell ⟨w.heap.size + 1, 1, none⟩ (.slice aA lA cA)).setCell ⟨w.heap.size + 1, 2, none⟩ (.slice aD lD cD)).setCell ⟨w.heap.size + 1, 3, none⟩ (.slice aQ lQ cQ)).setCell ⟨w.heap.size + 1 + 1, 0, none⟩ (.slice a1 l1 c1)).setCell ⟨w.heap.size + 1 + 1, 1, none⟩ (.slice a2 l2 c2)) (.slice aD lD cD) ND /\ Num ((((((W7.setCell ⟨w.heap.size + 1, 0, none⟩ (.slice aP lP cP)).setCell ⟨w.heap.size + 1, 1, none⟩ (.slice aA lA cA)).setCell ⟨w.heap.size + 1, 2, none⟩ (.slice aD lD cD)).setCell ⟨w.heap.size + 1, 3, none⟩ (.slice aQ lQ cQ)).setCell ⟨w.heap.size + 1 + 1, 0, none⟩ (.slice a1 l1 c1)).setCell ⟨w.heap.size + 1 + 1, 1, none⟩ (.slice a2 l2 c2)) (.slice aQ lQ cQ) NQ /\ Num ((((((W7.setCell ⟨w.heap.size + 1, 0, none⟩ (.slice aP lP cP)).setCell ⟨w.heap.size + 1, 1, none⟩ (.slice aA lA cA)).setCell ⟨w.heap.size + 1, 2, none⟩ (.slice aD lD cD)).setCell ⟨w.heap.size + 1, 3, none⟩ (.slice aQ lQ cQ)).setCell ⟨w.heap.size + 1 + 1, 0, none⟩ (.slice a1 l1 c1)).setCell ⟨w.heap.size + 1 + 1, 1, none⟩ (.slice a2 l2 c2)) (.slice a1 l1 c1) Nx /\ Num ((((((W7.setCell ⟨w.heap.size + 1, 0, none⟩ (.slice aP lP cP)).setCell ⟨w.heap.size + 1, 1, none⟩ (.slice aA lA cA)).setCell ⟨w.heap.size + 1, 2, none⟩ (.slice aD lD cD)).setCell ⟨w.heap.size + 1, 3, none⟩ (.slice aQ lQ cQ)).setCell ⟨w.heap.size + 1 + 1, 0, none⟩ (.slice a1 l1 c1)).setCell ⟨w.heap.size + 1 + 1, 1, none⟩ (.slice a2 l2 c2)) (.slice a2 l2 c2) Ny /\ K6 w (w.heap.size + 1) (w.heap.size + 1 + 1) (.slice aP lP cP) (.slice aA lA cA) (.slice aD lD cD) (.slice aQ lQ cQ) (.slice a1 l1 c1) (.slice a2 l2 c2) ((((((W7.setCell ⟨w.heap.size + 1, 0, none⟩ (.slice aP lP cP)).setCell ⟨w.heap.size + 1, 1, none⟩ (.slice aA lA cA)).setCell ⟨w.heap.size + 1, 2, none⟩ (.slice aD lD cD)).setCell ⟨w.heap.size + 1, 3, none⟩ (.slice aQ lQ cQ)).setCell ⟨w.heap.size + 1 + 1, 0, none⟩ (.slice a1 l1 c1)).setCell ⟨w.heap.size + 1 + 1, 1, none⟩ (.slice a2 l2 c2))) := ⟨pF pP, pF pA, pF pD, pF pQ, pF p1, pF p2, A6⟩
 have AK4 := asideI A4.drew
 have AK6 := asideI A6.drew
 clear pF pP pA pD pQ p1 p2 A1 A2 A3 A4 A5 A6 hK
 have AKd := K6.drew AK.out
 go_region_held3 (fun W => W.cell? ⟨w.heap.size + 1, 0, none⟩ = some (Value.slice aP lP cP) /\ W.cell? ⟨w.heap.size + 1, 1, none⟩ = some (Value.slice aA lA cA) /\ W.cell? ⟨w.heap.size + 1, 2, none⟩ = some (Value.slice aD lD cD) /\ W.cell? ⟨w.heap.size + 1, 3, none⟩ = some (Value.slice aQ lQ cQ) /\ W.cell? ⟨w.heap.size + 1 + 1, 0, none⟩ = some (Value.slice a1 l1 c1) /\ W.cell? ⟨w.heap.size + 1 + 1, 1, none⟩ = some (Value.slice a2 l2 c2) /\ Ext w W) (first | with_reducible exact AKd | with_reducible exact AK4.out | with_reducible exact AK6.out) (fail)
 clear AK4 AK6 AKd AK q0 q1 q2 q3 q4 q5 r1 r2 r3 r4 r5
 generalize ((((((W7.setCell ⟨w.heap.size + 1, 0, none⟩ (.slice aP lP cP)).setCell ⟨w.heap.size + 1, 1, none⟩ (.slice aA lA cA)).setCell ⟨w.heap.size + 1, 2, none⟩ (.slice aD lD cD)).setCell ⟨w.heap.size + 1, 3, none⟩ (.slice aQ lQ cQ)).setCell ⟨w.heap.size + 1 + 1, 0, none⟩ (.slice a1 l1 c1)).setCell ⟨w.heap.size + 1 + 1, 1, none⟩ (.slice a2 l2 c2)) = W8 at AF ⊢
 have k0 := AF.out.2.2.2.2.2.2.1
 have k1 := AF.out.2.2.2.2.2.2.2.1
 have k2 := AF.out.2.2.2.2.2.2.2.2.1
 have k3 := AF.out.2.2.2.2.2.2.2.2.2.1
 have k4 := AF.out.2.2.2.2.2.2.2.2.2.2.1
 have k5 := AF.out.2.2.2.2.2.2.2.2.2.2.2.1
 go_wp2
 simp [bodyPost, results, Tryz.results17, go_sem, k0, k1, k2, k3, k4, k5]
 obtain ⟨x1, x2, x3, x4, x5, x6, x7⟩ := AF.out
 exact ⟨_, _, _, _, _, _, _, _, _, _, _, _, _, _, _, _, _, _, ⟨⟨⟨rfl, rfl, rfl⟩, ⟨rfl, rfl, rfl⟩, ⟨rfl, rfl, rfl⟩, rfl, rfl, rfl⟩, ⟨rfl, rfl, rfl⟩, rfl, rfl, rfl⟩, x1.drew, x2.drew, x3.drew, x4.drew, x5.drew, x6.drew, x7.2.2.2.2.2.2.drew⟩
end Go.Eng
namespace Go.Eng
open Go Go.RowKit Go.Proofs
set_option maxRecDepth 100000
theorem has_true (w : World) : Calls Tryz.prog 15 #[.int .i64 0, .int .i64 0] w fun e w' => e = .returned (.bool true) /\ w' = w := by
 go_enter Tryz.func15, Tryz.ntmps15
 go_wp2
 go_ret
 exact ⟨rfl, rfl⟩
theorem has_01 (w : World) : Calls Tryz.prog 15 #[.int .i64 0, .int .i64 1] w fun e w' => e = .returned (.bool false) /\ w' = w := by
 go_enter Tryz.func15, Tryz.ntmps15
 go_wp2
 go_ret
 exact ⟨rfl, rfl⟩
theorem has_1 (v : Value) (w : World) : Calls Tryz.prog 15 #[.int .i64 1, v] w fun e w' => e = .returned (.bool false) /\ w' = w := by
 go_enter Tryz.func15, Tryz.ntmps15
 go_wp2
 go_ret
 exact ⟨rfl, rfl⟩
theorem has_2 (v : Value) (w : World) : Calls Tryz.prog 15 #[.int .i64 2, v] w fun e w' => e = .returned (.bool false) /\ w' = w := by
 go_enter Tryz.func15, Tryz.ntmps15
 go_wp2
 go_ret
 exact ⟨rfl, rfl⟩
end Go.Eng
namespace Go.Eng
open Go Go.RowKit Go.Proofs
set_option maxRecDepth 100000
set_option maxHeartbeats 3200000 in
theorem edw_00x {c : Nat} (hc : c < 256) (hr : c % 3 = 0) (w : World) : Calls Tryz.prog 5 #[.int .u8 (c : Int), .bool true] w fun e w' => e = .returned (.tuple #[.int .i64 0, .int .i64 1, .agg #[.slice none 0 0, .slice none 0 0, .slice none 0 0, .slice none 0 0], .agg #[.slice none 0 0, .slice none 0 0], .bool false]) /\ Ext w w' := by
 have hm : (c : Int).tmod 3 = 0 := by
  have : (c : Int).tmod 3 = ((c % 3 : Nat) : Int) := rfl
  rw [this, hr]; rfl
 obtain ⟨B, hB⟩ : ∃ B, B = (w.alloc (.cells #[.slice none 0 0, .slice none 0 0, .slice none 0 0, .slice none 0 0] 31)).alloc (.cells #[.slice none 0 0, .slice none 0 0] 33) := ⟨_, rfl⟩
 have hEB : Ext w B := by rw [hB]; exact ((Ext.refl _).alloc _).alloc _
 have c0 : ∀ i, i < 4 -> B.cell? ⟨w.heap.size, i, none⟩ = some (.slice none 0 0) := fun i hi => by
  rw [hB]; refine Ext.cell ((Ext.refl _).alloc _) ?_
  match i, hi with
  | 0, _ => exact cell_al _ _ _ _ (by simp) rfl
  | 1, _ => exact cell_al _ _ _ _ (by simp) rfl
  | 2, _ => exact cell_al _ _ _ _ (by simp) rfl
  | 3, _ => exact cell_al _ _ _ _ (by simp) rfl
 have c10 : B.cell? ⟨w.heap.size + 1, 0, none⟩ = some (.slice none 0 0) := by
  rw [hB]; exact cell_al _ _ _ _ (by simp) rfl
 have c11 : B.cell? ⟨w.heap.size + 1, 1, none⟩ = some (.slice none 0 0) := by
  rw [hB]; exact cell_al _ _ _ _ (by simp) rfl
 have f0 : ∀ o, B.frozen? ⟨w.heap.size, o, none⟩ = false := fun o => by
  rw [hB, Ext.frozenE ((Ext.refl _).alloc _) (by simp)]; exact frozen_al _ _ _ _ (by simp)
 have f1 : ∀ o, B.frozen? ⟨w.heap.size + 1, o, none⟩ = false := fun o => by rw [hB]; exact frozen_al _ _ _ _ (by simp)
 have hsB : w.heap.size + 1 < B.heap.size := by rw [hB]; simp
 have hK : K6 w w.heap.size (w.heap.size + 1) (.slice none 0 0) (.slice none 0 0) (.slice none 0 0) (.slice none 0 0) (.slice none 0 0) (.slice none 0 0) B := ⟨c0 0 (by decide), c0 1 (by decide), c0 2 (by decide), c0 3 (by decide), c10, c11, hEB⟩
 go_enter Tryz.func5, Tryz.ntmps5
 go_upto_region 1 with fail
 rw [<- hB]
 clear hB
 go_upto_region 4 with fail
 have k0 := hK.1
 have k1 := hK.2.1
 have k2 := hK.2.2.1
 have k3 := hK.2.2.2.1
 have A1 := hK.set (v := .slice none 0 0) (p := ⟨w.heap.size, 0, none⟩) hK.1 (Nat.le_refl _)
 have A2 := A1.set (v := .slice none 0 0) (p := ⟨w.heap.size, 1, none⟩) A1.2.1 (Nat.le_refl _)
 have A3 := A2.set (v := .slice none 0 0) (p := ⟨w.heap.size, 2, none⟩) A2.2.2.1 (Nat.le_refl _)
 have A4 := A3.set (v := .slice none 0 0) (p := ⟨w.heap.size, 3, none⟩) A3.2.2.2.1 (Nat.le_refl _)
 have A5 := A4.set (v := .slice none 0 0) (p := ⟨w.heap.size + 1, 0, none⟩) A4.2.2.2.2.1 (Nat.le_add_right _ _)
 have A6 := A5.set (v := .slice none 0 0) (p := ⟨w.heap.size + 1, 1, none⟩) A5.2.2.2.2.2.1 (Nat.le_add_right _ _)
 have r1 := A1.2.1
 have r2 := A2.2.2.1
 have r3 := A3.2.2.2.1
 have r4 := A4.2.2.2.2.1
 have r5 := A5.2.2.2.2.2.1
 have AK : Aside (K6 w w.heap.size (w.heap.size + 1) (.slice none 0 0) (.slice none 0 0) (.slice none 0 0) (.slice none 0 0) (.slice none 0 0) (.slice none 0 0) ((((((B.setCell ⟨w.heap.size, 0, none⟩ (.slice none 0 0)).setCell ⟨w.heap.size, 1, none⟩ (.slice none 0 0)).setCell ⟨w.heap.size, 2, none⟩ (.slice none 0 0)).setCell ⟨w.heap.size, 3, none⟩ (.slice none 0 0)).setCell ⟨w.heap.size + 1, 0, none⟩ (.slice none 0 0)).setCell ⟨w.heap.size + 1, 1, none⟩ (.slice none 0 0))) := A6
 clear A1 A2 A3 A4 A5 A6 hK c0
 go_upto_region 5 with (go_at_call 15; (with_reducible refine (has_01 B).mono ?_); rintro e w1 ⟨rfl, hw1⟩; rw [hw1]; clear hw1)
 go_wp2
 generalize ((((((B.setCell ⟨w.heap.size, 0, none⟩ (.slice none 0 0)).setCell ⟨w.heap.size, 1, none⟩ (.slice none 0 0)).setCell ⟨w.heap.size, 2, none⟩ (.slice none 0 0)).setCell ⟨w.heap.size, 3, none⟩ (.slice none 0 0)).setCell ⟨w.heap.size + 1, 0, none⟩ (.slice none 0 0)).setCell ⟨w.heap.size + 1, 1, none⟩ (.slice none 0 0)) = W8 at AK ⊢
 have k0 := AK.out.1
 have k1 := AK.out.2.1
 have k2 := AK.out.2.2.1
 have k3 := AK.out.2.2.2.1
 have k4 := AK.out.2.2.2.2.1
 have k5 := AK.out.2.2.2.2.2.1
 go_wp2
 simp [bodyPost, results, Tryz.results5, go_sem, k0, k1, k2, k3, k4, k5]
 exact AK.out.2.2.2.2.2.2
set_option maxHeartbeats 3200000 in
theorem edw_10 {c : Nat} (hc : c < 256) (hr : c % 3 = 1) (w : World) : Calls Tryz.prog 5 #[.int .u8 (c : Int), .bool false] w fun e w' => e = .returned (.tuple #[.int .i64 1, .int .i64 0, .agg #[.slice none 0 0, .slice none 0 0, .slice none 0 0, .slice none 0 0], .agg #[.slice none 0 0, .slice none 0 0], .bool false]) /\ Ext w w' := by
 have hm : (c : Int).tmod 3 = 1 := by
  have : (c : Int).tmod 3 = ((c % 3 : Nat) : Int) := rfl
  rw [this, hr]; rfl
 obtain ⟨B, hB⟩ : ∃ B, B = (w.alloc (.cells #[.slice none 0 0, .slice none 0 0, .slice none 0 0, .slice none 0 0] 31)).alloc (.cells #[.slice none 0 0, .slice none 0 0] 33) := ⟨_, rfl⟩
 have hEB : Ext w B := by rw [hB]; exact ((Ext.refl _).alloc _).alloc _
 have c0 : ∀ i, i < 4 -> B.cell? ⟨w.heap.size, i, none⟩ = some (.slice none 0 0) := fun i hi => by
  rw [hB]; refine Ext.cell ((Ext.refl _).alloc _) ?_
  match i, hi with
  | 0, _ => exact cell_al _ _ _ _ (by simp) rfl
  | 1, _ => exact cell_al _ _ _ _ (by simp) rfl
  | 2, _ => exact cell_al _ _ _ _ (by simp) rfl
  | 3, _ => exact cell_al _ _ _ _ (by simp) rfl
 have c10 : B.cell? ⟨w.heap.size + 1, 0, none⟩ = some (.slice none 0 0) := by
  rw [hB]; exact cell_al _ _ _ _ (by simp) rfl
 have c11 : B.cell? ⟨w.heap.size + 1, 1, none⟩ = some (.slice none 0 0) := by
  rw [hB]; exact cell_al _ _ _ _ (by simp) rfl
 have f0 : ∀ o, B.frozen? ⟨w.heap.size, o, none⟩ = false := fun o => by
  rw [hB, Ext.frozenE ((Ext.refl _).alloc _) (by simp)]; exact frozen_al _ _ _ _ (by simp)
 have f1 : ∀ o, B.frozen? ⟨w.heap.size + 1, o, none⟩ = false := fun o => by rw [hB]; exact frozen_al _ _ _ _ (by simp)
 have hsB : w.heap.size + 1 < B.heap.size := by rw [hB]; simp
 have hK : K6 w w.heap.size (w.heap.size + 1) (.slice none 0 0) (.slice none 0 0) (.slice none 0 0) (.slice none 0 0) (.slice none 0 0) (.slice none 0 0) B := ⟨c0 0 (by decide), c0 1 (by decide), c0 2 (by decide), c0 3 (by decide), c10, c11, hEB⟩
 go_enter Tryz.func5, Tryz.ntmps5
 go_upto_region 1 with fail
 rw [<- hB]
 clear hB
 go_upto_region 4 with fail
 have k0 := hK.1
 have k1 := hK.2.1
 have k2 := hK.2.2.1
 have k3 := hK.2.2.2.1
 have A1 := hK.set (v := .slice none 0 0) (p := ⟨w.heap.size, 0, none⟩) hK.1 (Nat.le_refl _)
 have A2 := A1.set (v := .slice none 0 0) (p := ⟨w.heap.size, 1, none⟩) A1.2.1 (Nat.le_refl _)
 have A3 := A2.set (v := .slice none 0 0) (p := ⟨w.heap.size, 2, none⟩) A2.2.2.1 (Nat.le_refl _)
 have A4 := A3.set (v := .slice none 0 0) (p := ⟨w.heap.size, 3, none⟩) A3.2.2.2.1 (Nat.le_refl _)
 have A5 := A4.set (v := .slice none 0 0) (p := ⟨w.heap.size + 1, 0, none⟩) A4.2.2.2.2.1 (Nat.le_add_right _ _)
 have A6 := A5.set (v := .slice none 0 0) (p := ⟨w.heap.size + 1, 1, none⟩) A5.2.2.2.2.2.1 (Nat.le_add_right _ _)
 have r1 := A1.2.1
 have r2 := A2.2.2.1
 have r3 := A3.2.2.2.1
 have r4 := A4.2.2.2.2.1
 have r5 := A5.2.2.2.2.2.1
 have AK : Aside (K6 w w.heap.size (w.heap.size + 1) (.slice none 0 0) (.slice none 0 0) (.slice none 0 0) (.slice none 0 0) (.slice none 0 0) (.slice none 0 0) ((((((B.setCell ⟨w.heap.size, 0, none⟩ (.slice none 0 0)).setCell ⟨w.heap.size, 1, none⟩ (.slice none 0 0)).setCell ⟨w.heap.size, 2, none⟩ (.slice none 0 0)).setCell ⟨w.heap.size, 3, none⟩ (.slice none 0 0)).setCell ⟨w.heap.size + 1, 0, none⟩ (.slice none 0 0)).setCell ⟨w.heap.size + 1, 1, none⟩ (.slice none 0 0))) := A6
 clear A1 A2 A3 A4 A5 A6 hK c0
 go_upto_region 5 with (go_at_call 15; (with_reducible refine (has_1 _ B).mono ?_); rintro e w1 ⟨rfl, hw1⟩; rw [hw1]; clear hw1)
 go_wp2
 generalize ((((((B.setCell ⟨w.heap.size, 0, none⟩ (.slice none 0 0)).setCell ⟨w.heap.size, 1, none⟩ (.slice none 0 0)).setCell ⟨w.heap.size, 2, none⟩ (.slice none 0 0)).setCell ⟨w.heap.size, 3, none⟩ (.slice none 0 0)).setCell ⟨w.heap.size + 1, 0, none⟩ (.slice none 0 0)).setCell ⟨w.heap.size + 1, 1, none⟩ (.slice none 0 0)) = W8 at AK ⊢
 have k0 := AK.out.1
 have k1 := AK.out.2.1
 have k2 := AK.out.2.2.1
 have k3 := AK.out.2.2.2.1
 have k4 := AK.out.2.2.2.2.1
 have k5 := AK.out.2.2.2.2.2.1
 go_wp2
 simp [bodyPost, results, Tryz.results5, go_sem, k0, k1, k2, k3, k4, k5]
 exact AK.out.2.2.2.2.2.2
set_option maxHeartbeats 3200000 in
theorem edw_11 {c : Nat} (hc : c < 256) (hr : c % 3 = 1) (w : World) : Calls Tryz.prog 5 #[.int .u8 (c : Int), .bool true] w fun e w' => e = .returned (.tuple #[.int .i64 1, .int .i64 1, .agg #[.slice none 0 0, .slice none 0 0, .slice none 0 0, .slice none 0 0], .agg #[.slice none 0 0, .slice none 0 0], .bool false]) /\ Ext w w' := by
 have hm : (c : Int).tmod 3 = 1 := by
  have : (c : Int).tmod 3 = ((c % 3 : Nat) : Int) := rfl
  rw [this, hr]; rfl
 obtain ⟨B, hB⟩ : ∃ B, B = (w.alloc (.cells #[.slice none 0 0, .slice none 0 0, .slice none 0 0, .slice none 0 0] 31)).alloc (.cells #[.slice none 0 0, .slice none 0 0] 33) := ⟨_, rfl⟩
 have hEB : Ext w B := by rw [hB]; exact ((Ext.refl _).alloc _).alloc _
 have c0 : ∀ i, i < 4 -> B.cell? ⟨w.heap.size, i, none⟩ = some (.slice none 0 0) := fun i hi => by
  rw [hB]; refine Ext.cell ((Ext.refl _).alloc _) ?_
  match i, hi with
  | 0, _ => exact cell_al _ _ _ _ (by simp) rfl
  | 1, _ => exact cell_al _ _ _ _ (by simp) rfl
  | 2, _ => exact cell_al _ _ _ _ (by simp) rfl
  | 3, _ => exact cell_al _ _ _ _ (by simp) rfl
 have c10 : B.cell? ⟨w.heap.size + 1, 0, none⟩ = some (.slice none 0 0) := by
  rw [hB]; exact cell_al _ _ _ _ (by simp) rfl
 have c11 : B.cell? ⟨w.heap.size + 1, 1, none⟩ = some (.slice none 0 0) := by
  rw [hB]; exact cell_al _ _ _ _ (by simp) rfl
 have f0 : ∀ o, B.frozen? ⟨w.heap.size, o, none⟩ = false := fun o => by
  rw [hB, Ext.frozenE ((Ext.refl _).alloc _) (by simp)]; exact frozen_al _ _ _ _ (by simp)
 have f1 : ∀ o, B.frozen? ⟨w.heap.size + 1, o, none⟩ = false := fun o => by rw [hB]; exact frozen_al _ _ _ _ (by simp)
 have hsB : w.heap.size + 1 < B.heap.size := by rw [hB]; simp
 have hK : K6 w w.heap.size (w.heap.size + 1) (.slice none 0 0) (.slice none 0 0) (.slice none 0 0) (.slice none 0 0) (.slice none 0 0) (.slice none 0 0) B := ⟨c0 0 (by decide), c0 1 (by decide), c0 2 (by decide), c0 3 (by decide), c10, c11, hEB⟩
 go_enter Tryz.func5, Tryz.ntmps5
 go_upto_region 1 with fail
 rw [<- hB]
 clear hB
 go_upto_region 4 with fail
 have k0 := hK.1
 have k1 := hK.2.1
 have k2 := hK.2.2.1
 have k3 := hK.2.2.2.1
 have A1 := hK.set (v := .slice none 0 0) (p := ⟨w.heap.size, 0, none⟩) hK.1 (Nat.le_refl _)
 have A2 := A1.set (v := .slice none 0 0) (p := ⟨w.heap.size, 1, none⟩) A1.2.1 (Nat.le_refl _)
 have A3 := A2.set (v := .slice none 0 0) (p := ⟨w.heap.size, 2, none⟩) A2.2.2.1 (Nat.le_refl _)
 have A4 := A3.set (v := .slice none 0 0) (p := ⟨w.heap.size, 3, none⟩) A3.2.2.2.1 (Nat.le_refl _)
 have A5 := A4.set (v := .slice none 0 0) (p := ⟨w.heap.size + 1, 0, none⟩) A4.2.2.2.2.1 (Nat.le_add_right _ _)
 have A6 := A5.set (v := .slice none 0 0) (p := ⟨w.heap.size + 1, 1, none⟩) A5.2.2.2.2.2.1 (Nat.le_add_right _ _)
 have r1 := A1.2.1
 have r2 := A2.2.2.1
 have r3 := A3.2.2.2.1
 have r4 := A4.2.2.2.2.1
 have r5 := A5.2.2.2.2.2.1
 have AK : Aside (K6 w w.heap.size (w.heap.size + 1) (.slice none 0 0) (.slice none 0 0) (.slice none 0 0) (.slice none 0 0) (.slice none 0 0) (.slice none 0 0) ((((((B.setCell ⟨w.heap.size, 0, none⟩ (.slice none 0 0)).setCell ⟨w.heap.size, 1, none⟩ (.slice none 0 0)).setCell ⟨w.heap.size, 2, none⟩ (.slice none 0 0)).setCell ⟨w.heap.size, 3, none⟩ (.slice none 0 0)).setCell ⟨w.heap.size + 1, 0, none⟩ (.slice none 0 0)).setCell ⟨w.heap.size + 1, 1, none⟩ (.slice none 0 0))) := A6
 clear A1 A2 A3 A4 A5 A6 hK c0
 go_upto_region 5 with (go_at_call 15; (with_reducible refine (has_1 _ B).mono ?_); rintro e w1 ⟨rfl, hw1⟩; rw [hw1]; clear hw1)
 go_wp2
 generalize ((((((B.setCell ⟨w.heap.size, 0, none⟩ (.slice none 0 0)).setCell ⟨w.heap.size, 1, none⟩ (.slice none 0 0)).setCell ⟨w.heap.size, 2, none⟩ (.slice none 0 0)).setCell ⟨w.heap.size, 3, none⟩ (.slice none 0 0)).setCell ⟨w.heap.size + 1, 0, none⟩ (.slice none 0 0)).setCell ⟨w.heap.size + 1, 1, none⟩ (.slice none 0 0)) = W8 at AK ⊢
 have k0 := AK.out.1
 have k1 := AK.out.2.1
 have k2 := AK.out.2.2.1
 have k3 := AK.out.2.2.2.1
 have k4 := AK.out.2.2.2.2.1
 have k5 := AK.out.2.2.2.2.2.1
 go_wp2
 simp [bodyPost, results, Tryz.results5, go_sem, k0, k1, k2, k3, k4, k5]
 exact AK.out.2.2.2.2.2.2
set_option maxHeartbeats 3200000 in
theorem edw_20 {c : Nat} (hc : c < 256) (hr : c % 3 = 2) (w : World) : Calls Tryz.prog 5 #[.int .u8 (c : Int), .bool false] w fun e w' => e = .returned (.tuple #[.int .i64 2, .int .i64 0, .agg #[.slice none 0 0, .slice none 0 0, .slice none 0 0, .slice none 0 0], .agg #[.slice none 0 0, .slice none 0 0], .bool false]) /\ Ext w w' := by
 have hm : (c : Int).tmod 3 = 2 := by
  have : (c : Int).tmod 3 = ((c % 3 : Nat) : Int) := rfl
  rw [this, hr]; rfl
 obtain ⟨B, hB⟩ : ∃ B, B = (w.alloc (.cells #[.slice none 0 0, .slice none 0 0, .slice none 0 0, .slice none 0 0] 31)).alloc (.cells #[.slice none 0 0, .slice none 0 0] 33) := ⟨_, rfl⟩
 have hEB : Ext w B := by rw [hB]; exact ((Ext.refl _).alloc _).alloc _
 have c0 : ∀ i, i < 4 -> B.cell? ⟨w.heap.size, i, none⟩ = some (.slice none 0 0) := fun i hi => by
  rw [hB]; refine Ext.cell ((Ext.refl _).alloc _) ?_
  match i, hi with
  | 0, _ => exact cell_al _ _ _ _ (by simp) rfl
  | 1, _ => exact cell_al _ _ _ _ (by simp) rfl
  | 2, _ => exact cell_al _ _ _ _ (by simp) rfl
  | 3, _ => exact cell_al _ _ _ _ (by simp) rfl
 have c10 : B.cell? ⟨w.heap.size + 1, 0, none⟩ = some (.slice none 0 0) := by
  rw [hB]; exact cell_al _ _ _ _ (by simp) rfl
 have c11 : B.cell? ⟨w.heap.size + 1, 1, none⟩ = some (.slice none 0 0) := by
  rw [hB]; exact cell_al _ _ _ _ (by simp) rfl
 have f0 : ∀ o, B.frozen? ⟨w.heap.size, o, none⟩ = false := fun o => by
  rw [hB, Ext.frozenE ((Ext.refl _).alloc _) (by simp)]; exact frozen_al _ _ _ _ (by simp)
 have f1 : ∀ o, B.frozen? ⟨w.heap.size + 1, o, none⟩ = false := fun o => by rw [hB]; exact frozen_al _ _ _ _ (by simp)
 have hsB : w.heap.size + 1 < B.heap.size := by rw [hB]; simp
 have hK : K6 w w.heap.size (w.heap.size + 1) (.slice none 0 0) (.slice none 0 0) (.slice none 0 0) (.slice none 0 0) (.slice none 0 0) (.slice none 0 0) B := ⟨c0 0 (by decide), c0 1 (by decide), c0 2 (by decide), c0 3 (by decide), c10, c11, hEB⟩
 go_enter Tryz.func5, Tryz.ntmps5
 go_upto_region 1 with fail
 rw [<- hB]
 clear hB
 go_upto_region 4 with fail
 have k0 := hK.1
 have k1 := hK.2.1
 have k2 := hK.2.2.1
 have k3 := hK.2.2.2.1
 have A1 := hK.set (v := .slice none 0 0) (p := ⟨w.heap.size, 0, none⟩) hK.1 (Nat.le_refl _)
 have A2 := A1.set (v := .slice none 0 0) (p := ⟨w.heap.size, 1, none⟩) A1.2.1 (Nat.le_refl _)
 have A3 := A2.set (v := .slice none 0 0) (p := ⟨w.heap.size, 2, none⟩) A2.2.2.1 (Nat.le_refl _)
 have A4 := A3.set (v := .slice none 0 0) (p := ⟨w.heap.size, 3, none⟩) A3.2.2.2.1 (Nat.le_refl _)
 have A5 := A4.set (v := .slice none 0 0) (p := ⟨w.heap.size + 1, 0, none⟩) A4.2.2.2.2.1 (Nat.le_add_right _ _)
 have A6 := A5.set (v := .slice none 0 0) (p := ⟨w.heap.size + 1, 1, none⟩) A5.2.2.2.2.2.1 (Nat.le_add_right _ _)
 have r1 := A1.2.1
 have r2 := A2.2.2.1
 have r3 := A3.2.2.2.1
 have r4 := A4.2.2.2.2.1
 have r5 := A5.2.2.2.2.2.1
 have AK : Aside (K6 w w.heap.size (w.heap.size + 1) (.slice none 0 0) (.slice none 0 0) (.slice none 0 0) (.slice none 0 0) (.slice none 0 0) (.slice none 0 0) ((((((B.setCell ⟨w.heap.size, 0, none⟩ (.slice none 0 0)).setCell ⟨w.heap.size, 1, none⟩ (.slice none 0 0)).setCell ⟨w.heap.size, 2, none⟩ (.slice none 0 0)).setCell ⟨w.heap.size, 3, none⟩ (.slice none 0 0)).setCell ⟨w.heap.size + 1, 0, none⟩ (.slice none 0 0)).setCell ⟨w.heap.size + 1, 1, none⟩ (.slice none 0 0))) := A6
 clear A1 A2 A3 A4 A5 A6 hK c0
 go_upto_region 5 with (go_at_call 15; (with_reducible refine (has_2 _ B).mono ?_); rintro e w1 ⟨rfl, hw1⟩; rw [hw1]; clear hw1)
 go_wp2
 generalize ((((((B.setCell ⟨w.heap.size, 0, none⟩ (.slice none 0 0)).setCell ⟨w.heap.size, 1, none⟩ (.slice none 0 0)).setCell ⟨w.heap.size, 2, none⟩ (.slice none 0 0)).setCell ⟨w.heap.size, 3, none⟩ (.slice none 0 0)).setCell ⟨w.heap.size + 1, 0, none⟩ (.slice none 0 0)).setCell ⟨w.heap.size + 1, 1, none⟩ (.slice none 0 0)) = W8 at AK ⊢
 have k0 := AK.out.1
 have k1 := AK.out.2.1
 have k2 := AK.out.2.2.1
 have k3 := AK.out.2.2.2.1
 have k4 := AK.out.2.2.2.2.1
 have k5 := AK.out.2.2.2.2.2.1
 go_wp2
 simp [bodyPost, results, Tryz.results5, go_sem, k0, k1, k2, k3, k4, k5]
 exact AK.out.2.2.2.2.2.2
set_option maxHeartbeats 3200000 in
theorem edw_21 {c : Nat} (hc : c < 256) (hr : c % 3 = 2) (w : World) : Calls Tryz.prog 5 #[.int .u8 (c : Int), .bool true] w fun e w' => e = .returned (.tuple #[.int .i64 2, .int .i64 1, .agg #[.slice none 0 0, .slice none 0 0, .slice none 0 0, .slice none 0 0], .agg #[.slice none 0 0, .slice none 0 0], .bool false]) /\ Ext w w' := by
 have hm : (c : Int).tmod 3 = 2 := by
  have : (c : Int).tmod 3 = ((c % 3 : Nat) : Int) := rfl
  rw [this, hr]; rfl
 obtain ⟨B, hB⟩ : ∃ B, B = (w.alloc (.cells #[.slice none 0 0, .slice none 0 0, .slice none 0 0, .slice none 0 0] 31)).alloc (.cells #[.slice none 0 0, .slice none 0 0] 33) := ⟨_, rfl⟩
 have hEB : Ext w B := by rw [hB]; exact ((Ext.refl _).alloc _).alloc _
 have c0 : ∀ i, i < 4 -> B.cell? ⟨w.heap.size, i, none⟩ = some (.slice none 0 0) := fun i hi => by
  rw [hB]; refine Ext.cell ((Ext.refl _).alloc _) ?_
  match i, hi with
  | 0, _ => exact cell_al _ _ _ _ (by simp) rfl
  | 1, _ => exact cell_al _ _ _ _ (by simp) rfl
  | 2, _ => exact cell_al _ _ _ _ (by simp) rfl
  | 3, _ => exact cell_al _ _ _ _ (by simp) rfl
 have c10 : B.cell? ⟨w.heap.size + 1, 0, none⟩ = some (.slice none 0 0) := by
  rw [hB]; exact cell_al _ _ _ _ (by simp) rfl
 have c11 : B.cell? ⟨w.heap.size + 1, 1, none⟩ = some (.slice none 0 0) := by
  rw [hB]; exact cell_al _ _ _ _ (by simp) rfl
 have f0 : ∀ o, B.frozen? ⟨w.heap.size, o, none⟩ = false := fun o => by
  rw [hB, Ext.frozenE ((Ext.refl _).alloc _) (by simp)]; exact frozen_al _ _ _ _ (by simp)
 have f1 : ∀ o, B.frozen? ⟨w.heap.size + 1, o, none⟩ = false := fun o => by rw [hB]; exact frozen_al _ _ _ _ (by simp)
 have hsB : w.heap.size + 1 < B.heap.size := by rw [hB]; simp
 have hK : K6 w w.heap.size (w.heap.size + 1) (.slice none 0 0) (.slice none 0 0) (.slice none 0 0) (.slice none 0 0) (.slice none 0 0) (.slice none 0 0) B := ⟨c0 0 (by decide), c0 1 (by decide), c0 2 (by decide), c0 3 (by decide), c10, c11, hEB⟩
 go_enter Tryz.func5, Tryz.ntmps5
 go_upto_region 1 with fail
 rw [<- hB]
 clear hB
 go_upto_region 4 with fail
 have k0 := hK.1
 have k1 := hK.2.1
 have k2 := hK.2.2.1
 have k3 := hK.2.2.2.1
 have A1 := hK.set (v := .slice none 0 0) (p := ⟨w.heap.size, 0, none⟩) hK.1 (Nat.le_refl _)
 have A2 := A1.set (v := .slice none 0 0) (p := ⟨w.heap.size, 1, none⟩) A1.2.1 (Nat.le_refl _)
 have A3 := A2.set (v := .slice none 0 0) (p := ⟨w.heap.size, 2, none⟩) A2.2.2.1 (Nat.le_refl _)
 have A4 := A3.set (v := .slice none 0 0) (p := ⟨w.heap.size, 3, none⟩) A3.2.2.2.1 (Nat.le_refl _)
 have A5 := A4.set (v := .slice none 0 0) (p := ⟨w.heap.size + 1, 0, none⟩) A4.2.2.2.2.1 (Nat.le_add_right _ _)
 have A6 := A5.set (v := .slice none 0 0) (p := ⟨w.heap.size + 1, 1, none⟩) A5.2.2.2.2.2.1 (Nat.le_add_right _ _)
 have r1 := A1.2.1
 have r2 := A2.2.2.1
 have r3 := A3.2.2.2.1
 have r4 := A4.2.2.2.2.1
 have r5 := A5.2.2.2.2.2.1
 have AK : Aside (K6 w w.heap.size (w.heap.size + 1) (.slice none 0 0) (.slice none 0 0) (.slice none 0 0) (.slice none 0 0) (.slice none 0 0) (.slice none 0 0) ((((((B.setCell ⟨w.heap.size, 0, none⟩ (.slice none 0 0)).setCell ⟨w.heap.size, 1, none⟩ (.slice none 0 0)).setCell ⟨w.heap.size, 2, none⟩ (.slice none 0 0)).setCell ⟨w.heap.size, 3, none⟩ (.slice none 0 0)).setCell ⟨w.heap.size + 1, 0, none⟩ (.slice none 0 0)).setCell ⟨w.heap.size + 1, 1, none⟩ (.slice none 0 0))) := A6
 clear A1 A2 A3 A4 A5 A6 hK c0
 go_upto_region 5 with (go_at_call 15; (with_reducible refine (has_2 _ B).mono ?_); rintro e w1 ⟨rfl, hw1⟩; rw [hw1]; clear hw1)
 go_wp2
 generalize ((((((B.setCell ⟨w.heap.size, 0, none⟩ (.slice none 0 0)).setCell ⟨w.heap.size, 1, none⟩ (.slice none 0 0)).setCell ⟨w.heap.size, 2, none⟩ (.slice none 0 0)).setCell ⟨w.heap.size, 3, none⟩ (.slice none 0 0)).setCell ⟨w.heap.size + 1, 0, none⟩ (.slice none 0 0)).setCell ⟨w.heap.size + 1, 1, none⟩ (.slice none 0 0)) = W8 at AK ⊢
 have k0 := AK.out.1
 have k1 := AK.out.2.1
 have k2 := AK.out.2.2.1
 have k3 := AK.out.2.2.2.1
 have k4 := AK.out.2.2.2.2.1
 have k5 := AK.out.2.2.2.2.2.1
 go_wp2
 simp [bodyPost, results, Tryz.results5, go_sem, k0, k1, k2, k3, k4, k5]
 exact AK.out.2.2.2.2.2.2
end Go.Eng
