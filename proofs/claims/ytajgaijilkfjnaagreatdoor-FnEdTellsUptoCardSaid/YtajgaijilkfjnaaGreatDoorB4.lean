/-
 Contracts of the reference package spec: texts read, points told, the curve made.
-/
import Derived.Test.YtajgaijilkfjnaaGreatDoorB2
import Derived.Test.YtajgaijilkfjnaaGreatDoorB1
set_option linter.unusedVariables false
set_option linter.unusedSimpArgs false
namespace Go.Eng
open Go Go.RowKit Go.Proofs
set_option maxRecDepth 100000
def Strs (w : World) (v : Value) : Prop := ∃ a l c b o, v = .slice a l c /\ l <= 1048576 /\ (0 < l -> a = some ⟨b, o, none⟩) /\ ∀ k, k < l -> ∃ s : ByteArray, s.size <= 1048576 /\ w.cell? ⟨b, o + k, none⟩ = some (.string s)
theorem Strs.ext {w w' : World} {v : Value} (h : Strs w v) (e : Ext w w') : Strs w' v := by
 obtain ⟨a, l, c, b, o, rfl, h1, h2, h3⟩ := h
 exact ⟨a, l, c, b, o, rfl, h1, h2, fun k hk => by obtain ⟨s, h4, h5⟩ := h3 k hk; exact ⟨s, h4, e.cell h5⟩⟩
set_option maxHeartbeats 1600000 in
theorem fits2_walk {w : World} {v : Value} (h : Strs w v) : Calls Tryz.prog 14 #[v] w fun e w' => e = .returned (.bool true) /\ Ext w w' := by
 obtain ⟨a, l, c, b, o, rfl, hl, ha, hs⟩ := h
 have hlz : ¬ (2147483647 : Int) < (l : Int) := by omega
 go_enter Tryz.func14, Tryz.ntmps14
 go_wp2
 go_loopg [10] l (fun g i wr => ∃ k : Nat, k <= l /\ g = l - k /\ i = .int .i64 (k : Int) /\ Ext w wr)
 case atStart => exact ⟨0, Nat.zero_le _, rfl, rfl, Ext.refl w⟩
 case round =>
  obtain ⟨k, hk, rfl, rfl, hE⟩ := hrel
  by_cases hkl : k < l
  ·have hkz : (k : Int) < (l : Int) := by omega
   obtain ⟨s, hs1, hs2⟩ := hs k hkl
   have hs3 := hE.cell hs2
   have hsz : ¬ (2147483647 : Int) < (s.size : Int) := by omega
   have ha2 := ha (by omega)
   subst ha2
   have hw : IntKind.i64.wrap ((k : Int) + 1) = ((k + 1 : Nat) : Int) := by rw [IntKind.wrap_i64]; omega
   have AE : Aside (Ext w wr) := hE
   clear hE hs hs2 ha
   go_wp2
   go_roundg (l - (k + 1))
   case measure => go_light; omega
   case rel =>
    go_light
    exact ⟨k + 1, by omega, rfl, rfl, AE.out⟩
  ·obtain rfl : k = l := by omega
   have hkz : ¬ (k : Int) < (k : Int) := by omega
   clear hs ha
   go_wp2
   go_ret
   exact ⟨rfl, hE⟩
theorem fits1_walk {w : World} {v v' : Value} (h : Strs w v) (h' : Strs w v') : Calls Tryz.prog 4 #[.agg #[v, v']] w fun e w' => e = .returned (.bool true) /\ Ext w w' := by
 obtain ⟨B, hB⟩ : ∃ B, B = w.alloc (.cells #[v, v'] 24) := ⟨_, rfl⟩
 have hE : Ext w B := by rw [hB]; exact (Ext.refl w).alloc _
 have c0 : B.cell? ⟨w.heap.size, 0, none⟩ = some v := by rw [hB]; exact (cell_new w _ _ 0).trans rfl
 have c1 : B.cell? ⟨w.heap.size, 1, none⟩ = some v' := by rw [hB]; exact (cell_new w _ _ 1).trans rfl
 have h1 := fits2_walk (h.ext hE)
 have h2 : ∀ W, Ext B W -> Calls Tryz.prog 14 #[v'] W fun e w' => e = .returned (.bool true) /\ Ext W w' := fun W k => fits2_walk (h'.ext (hE.trans k))
 have AE : Aside (Ext w B) := hE
 clear h h' hE
 go_enter Tryz.func4, Tryz.ntmps4
 go_upto_region 1 with fail
 rw [<- hB]
 clear hB
 go_wp2_with (first
  | (go_at_call 14; (with_reducible refine h1.mono ?_); rintro e w1 ⟨rfl, hE1⟩; clear h1; have h3 := h2 w1 hE1; have c1' := hE1.cell c1; clear h2)
  | (go_at_call 14; (with_reducible refine h3.mono ?_); rintro e w2 ⟨rfl, hE2⟩; clear h3))
 go_ret
 exact ⟨rfl, (AE.out.trans hE1).trans hE2⟩
end Go.Eng
namespace Go.Eng
open Go Go.RowKit Go.Proofs
set_option maxRecDepth 100000
set_option maxHeartbeats 3200000 in
theorem point_bad {aP aA aD aQ : Option Addr} {lP cP lA cA lD cD lQ cQ b1 o1 k1 b2 o2 k2 : Nat} {sx sy : ByteArray} {w : World} {bx bY : Bool} (hb : bx = false \/ bY = false)
  (hrx : ∀ W, Calls Tryz.prog 18 #[.string sx] W fun e w' => ∃ (a : Option Addr) (l c : Nat), e = .returned (.tuple #[.slice a l c, .bool bx]) /\ Ext W w') (hry : ∀ W, Calls Tryz.prog 18 #[.string sy] W fun e w' => ∃ (a : Option Addr) (l c : Nat), e = .returned (.tuple #[.slice a l c, .bool bY]) /\ Ext W w')
  (h1 : w.cell? ⟨b1, o1, none⟩ = some (.string sx)) (h2 : w.cell? ⟨b2, o2, none⟩ = some (.string sy)) :
  Calls Tryz.prog 6 #[.agg #[.slice aP lP cP, .slice aA lA cA, .slice aD lD cD, .slice aQ lQ cQ], .agg #[.slice (some ⟨b1, o1, none⟩) 1 k1, .slice (some ⟨b2, o2, none⟩) 1 k2]] w fun e w' => ∃ (a1 : Option Addr) (l1 c1 : Nat) (a2 : Option Addr) (l2 c2 : Nat), e = .returned (.tuple #[.agg #[.slice a1 l1 c1, .slice a2 l2 c2], .bool false]) /\ Ext w w' := by
 obtain ⟨B, hB⟩ : ∃ B, B = ((w.alloc (.cells #[.slice aP lP cP, .slice aA lA cA, .slice aD lD cD, .slice aQ lQ cQ] 31)).alloc (.cells #[.slice (some ⟨b1, o1, none⟩) 1 k1, .slice (some ⟨b2, o2, none⟩) 1 k2] 24)).alloc (.cells #[.slice none 0 0, .slice none 0 0] 33) := ⟨_, rfl⟩
 have hEB : Ext w B := by rw [hB]; exact (((Ext.refl _).alloc _).alloc _).alloc _
 have c00 : B.cell? ⟨w.heap.size, 0, none⟩ = some (.slice aP lP cP) := by
  rw [hB]; exact Ext.cell (((Ext.refl _).alloc _).alloc _) (cell_al _ _ _ _ rfl rfl)
 have c10 : B.cell? ⟨w.heap.size + 1, 0, none⟩ = some (.slice (some ⟨b1, o1, none⟩) 1 k1) := by
  rw [hB]; exact Ext.cell ((Ext.refl _).alloc _) (cell_al _ _ _ _ (by simp) rfl)
 have c11 : B.cell? ⟨w.heap.size + 1, 1, none⟩ = some (.slice (some ⟨b2, o2, none⟩) 1 k2) := by
  rw [hB]; exact Ext.cell ((Ext.refl _).alloc _) (cell_al _ _ _ _ (by simp) rfl)
 have c20 : B.cell? ⟨w.heap.size + 1 + 1, 0, none⟩ = some (.slice none 0 0) := by
  rw [hB]; exact cell_al _ _ _ _ (by simp) rfl
 have c21 : B.cell? ⟨w.heap.size + 1 + 1, 1, none⟩ = some (.slice none 0 0) := by
  rw [hB]; exact cell_al _ _ _ _ (by simp) rfl
 have f2 : ∀ o, B.frozen? ⟨w.heap.size + 1 + 1, o, none⟩ = false := fun o => by rw [hB]; exact frozen_al _ _ _ _ (by simp)
 have hsB : w.heap.size + 1 + 1 < B.heap.size := by rw [hB]; simp
 replace h1 := hEB.cell h1
 replace h2 := hEB.cell h2
 go_enter Tryz.func6, Tryz.ntmps6
 go_upto_region 1 with fail
 rw [<- hB]
 clear hB
 have hb1 := hrx B
 clear hrx
 go_upto_region 4 with (go_at_call 18; (with_reducible refine hb1.mono ?_); rintro e w1 ⟨a1, l1, c1, rfl, hE1⟩; have c11' := hE1.cell c11; have c10' := hE1.cell c10; have h2' := hE1.cell h2)
 have hb2 := hry w1
 clear hry hb1
 go_upto_region 5 with (go_at_call 18; (with_reducible refine hb2.mono ?_); rintro e w2 ⟨a2, l2, c2, rfl, hE2⟩)
 have hEz := hE1.trans hE2
 have kz0 := hEz.cell c20
 have kz1 := hEz.cell c21
 have fz : ∀ o, w2.frozen? ⟨w.heap.size + 1 + 1, o, none⟩ = false := fun o => (hEz.frozenE hsB).trans (f2 o)
 have dz1 : ∀ u0, (w2.setCell ⟨w.heap.size + 1 + 1, 0, none⟩ u0).cell? ⟨w.heap.size + 1 + 1, 1, none⟩ = some (Value.slice none 0 0) := fun u0 => cell_off1 kz1 (by decide)
 have k0 : ((w2.setCell ⟨w.heap.size + 1 + 1, 0, none⟩ (.slice a1 l1 c1)).setCell ⟨w.heap.size + 1 + 1, 1, none⟩ (.slice a2 l2 c2)).cell? ⟨w.heap.size + 1 + 1, 0, none⟩ = some (.slice a1 l1 c1) := cell_off1 (World.cell?_setCell_same _ _ _ kz0) (by decide)
 have k1 : ((w2.setCell ⟨w.heap.size + 1 + 1, 0, none⟩ (.slice a1 l1 c1)).setCell ⟨w.heap.size + 1 + 1, 1, none⟩ (.slice a2 l2 c2)).cell? ⟨w.heap.size + 1 + 1, 1, none⟩ = some (.slice a2 l2 c2) := World.cell?_setCell_same _ _ _ (dz1 _)
 have hEk : Ext w ((w2.setCell ⟨w.heap.size + 1 + 1, 0, none⟩ (.slice a1 l1 c1)).setCell ⟨w.heap.size + 1 + 1, 1, none⟩ (.slice a2 l2 c2)) := ((hEB.trans hEz).setC (by show w.heap.size <= w.heap.size + 1 + 1; omega) _).setC (by show w.heap.size <= w.heap.size + 1 + 1; omega) _
 rcases hb with rfl | rfl
 ·go_wp2
  generalize (w2.setCell ⟨w.heap.size + 1 + 1, 0, none⟩ (.slice a1 l1 c1)).setCell ⟨w.heap.size + 1 + 1, 1, none⟩ (.slice a2 l2 c2) = W9 at k0 k1 hEk ⊢
  simp [bodyPost, results, Tryz.results6, go_sem, k0, k1]
  exact hEk
 ·cases bx
  ·go_wp2
   generalize (w2.setCell ⟨w.heap.size + 1 + 1, 0, none⟩ (.slice a1 l1 c1)).setCell ⟨w.heap.size + 1 + 1, 1, none⟩ (.slice a2 l2 c2) = W9 at k0 k1 hEk ⊢
   simp [bodyPost, results, Tryz.results6, go_sem, k0, k1]
   exact hEk
  ·go_wp2
   generalize (w2.setCell ⟨w.heap.size + 1 + 1, 0, none⟩ (.slice a1 l1 c1)).setCell ⟨w.heap.size + 1 + 1, 1, none⟩ (.slice a2 l2 c2) = W9 at k0 k1 hEk ⊢
   simp [bodyPost, results, Tryz.results6, go_sem, k0, k1]
   exact hEk
end Go.Eng
namespace Go.Eng
open Go Go.RowKit Go.Proofs
set_option maxRecDepth 100000
set_option maxHeartbeats 3200000 in
theorem point_big1 {aP aA aD aQ : Option Addr} {lP cP lA cA lD cD lQ cQ b1 o1 k1 b2 o2 k2 : Nat} {NP Nx : Nat} {sx sy : ByteArray} {w : World} (hP : Num w (.slice aP lP cP) NP) (hlp : nlen NP <= 1048576) (hlx : nlen Nx <= 1048576) (hX : ¬ Nx < NP)
  (hrx : ∀ W, Calls Tryz.prog 18 #[.string sx] W fun e w' => ∃ (a : Option Addr) (l c : Nat), e = .returned (.tuple #[.slice a l c, .bool true]) /\ Num w' (.slice a l c) Nx /\ Ext W w') (hry : ∀ W, Calls Tryz.prog 18 #[.string sy] W fun e w' => ∃ (a : Option Addr) (l c : Nat), e = .returned (.tuple #[.slice a l c, .bool true]) /\ Ext W w')
  (h1 : w.cell? ⟨b1, o1, none⟩ = some (.string sx)) (h2 : w.cell? ⟨b2, o2, none⟩ = some (.string sy)) :
  Calls Tryz.prog 6 #[.agg #[.slice aP lP cP, .slice aA lA cA, .slice aD lD cD, .slice aQ lQ cQ], .agg #[.slice (some ⟨b1, o1, none⟩) 1 k1, .slice (some ⟨b2, o2, none⟩) 1 k2]] w fun e w' => ∃ (a1 : Option Addr) (l1 c1 : Nat) (a2 : Option Addr) (l2 c2 : Nat), e = .returned (.tuple #[.agg #[.slice a1 l1 c1, .slice a2 l2 c2], .bool false]) /\ Ext w w' := by
 have hin : ∀ W v, Ext w W -> Num W v Nx -> Calls Tryz.prog 19 #[.agg #[.slice aP lP cP], v] W fun e w' => e = .returned (.bool false) /\ Ext W w' := fun W v hW hv => by
  have h := in_walk (hP.ext hW) hlp hv hlx
  rw [decide_eq_false hX] at h
  exact h
 clear hP hlp hlx hX
 obtain ⟨B, hB⟩ : ∃ B, B = ((w.alloc (.cells #[.slice aP lP cP, .slice aA lA cA, .slice aD lD cD, .slice aQ lQ cQ] 31)).alloc (.cells #[.slice (some ⟨b1, o1, none⟩) 1 k1, .slice (some ⟨b2, o2, none⟩) 1 k2] 24)).alloc (.cells #[.slice none 0 0, .slice none 0 0] 33) := ⟨_, rfl⟩
 have hEB : Ext w B := by rw [hB]; exact (((Ext.refl _).alloc _).alloc _).alloc _
 have c00 : B.cell? ⟨w.heap.size, 0, none⟩ = some (.slice aP lP cP) := by
  rw [hB]; exact Ext.cell (((Ext.refl _).alloc _).alloc _) (cell_al _ _ _ _ rfl rfl)
 have c10 : B.cell? ⟨w.heap.size + 1, 0, none⟩ = some (.slice (some ⟨b1, o1, none⟩) 1 k1) := by
  rw [hB]; exact Ext.cell ((Ext.refl _).alloc _) (cell_al _ _ _ _ (by simp) rfl)
 have c11 : B.cell? ⟨w.heap.size + 1, 1, none⟩ = some (.slice (some ⟨b2, o2, none⟩) 1 k2) := by
  rw [hB]; exact Ext.cell ((Ext.refl _).alloc _) (cell_al _ _ _ _ (by simp) rfl)
 have c20 : B.cell? ⟨w.heap.size + 1 + 1, 0, none⟩ = some (.slice none 0 0) := by
  rw [hB]; exact cell_al _ _ _ _ (by simp) rfl
 have c21 : B.cell? ⟨w.heap.size + 1 + 1, 1, none⟩ = some (.slice none 0 0) := by
  rw [hB]; exact cell_al _ _ _ _ (by simp) rfl
 have f2 : ∀ o, B.frozen? ⟨w.heap.size + 1 + 1, o, none⟩ = false := fun o => by rw [hB]; exact frozen_al _ _ _ _ (by simp)
 have hsB : w.heap.size + 1 + 1 < B.heap.size := by rw [hB]; simp
 replace h1 := hEB.cell h1
 replace h2 := hEB.cell h2
 go_enter Tryz.func6, Tryz.ntmps6
 go_upto_region 1 with fail
 rw [<- hB]
 clear hB
 have hb1 := hrx B
 clear hrx
 go_upto_region 4 with (go_at_call 18; (with_reducible refine hb1.mono ?_); rintro e w1 ⟨a1, l1, c1, rfl, hv1, hE1⟩; have c11' := hE1.cell c11; have c10' := hE1.cell c10; have h2' := hE1.cell h2)
 have hb2 := hry w1
 clear hry hb1
 go_upto_region 5 with (go_at_call 18; (with_reducible refine hb2.mono ?_); rintro e w2 ⟨a2, l2, c2, rfl, hE2⟩)
 have d00 := (hE1.trans hE2).cell c00
 have hi1 := hin w2 (.slice a1 l1 c1) ((hEB.trans hE1).trans hE2) (hv1.ext hE2)
 clear hin
 go_wp2_with (first
  | (go_at_call 19; (with_reducible refine hi1.mono ?_); rintro e w3 ⟨rfl, hE3⟩; have hEz := (hE1.trans hE2).trans hE3; have kz0 := hEz.cell c20; have kz1 := hEz.cell c21; have fz : ∀ o, w3.frozen? ⟨w.heap.size + 1 + 1, o, none⟩ = false := fun o => (hEz.frozenE hsB).trans (f2 o); have dz1 : ∀ u0, (w3.setCell ⟨w.heap.size + 1 + 1, 0, none⟩ u0).cell? ⟨w.heap.size + 1 + 1, 1, none⟩ = some (Value.slice none 0 0) := fun u0 => cell_off1 kz1 (by decide)))
 have k0 : ((w3.setCell ⟨w.heap.size + 1 + 1, 0, none⟩ (.slice a1 l1 c1)).setCell ⟨w.heap.size + 1 + 1, 1, none⟩ (.slice a2 l2 c2)).cell? ⟨w.heap.size + 1 + 1, 0, none⟩ = some (.slice a1 l1 c1) := cell_off1 (World.cell?_setCell_same _ _ _ kz0) (by decide)
 have k1 : ((w3.setCell ⟨w.heap.size + 1 + 1, 0, none⟩ (.slice a1 l1 c1)).setCell ⟨w.heap.size + 1 + 1, 1, none⟩ (.slice a2 l2 c2)).cell? ⟨w.heap.size + 1 + 1, 1, none⟩ = some (.slice a2 l2 c2) := World.cell?_setCell_same _ _ _ (dz1 _)
 have hEk : Ext w ((w3.setCell ⟨w.heap.size + 1 + 1, 0, none⟩ (.slice a1 l1 c1)).setCell ⟨w.heap.size + 1 + 1, 1, none⟩ (.slice a2 l2 c2)) := ((hEB.trans hEz).setC (by show w.heap.size <= w.heap.size + 1 + 1; omega) _).setC (by show w.heap.size <= w.heap.size + 1 + 1; omega) _
 generalize (w3.setCell ⟨w.heap.size + 1 + 1, 0, none⟩ (.slice a1 l1 c1)).setCell ⟨w.heap.size + 1 + 1, 1, none⟩ (.slice a2 l2 c2) = W9 at k0 k1 hEk ⊢
 simp [bodyPost, results, Tryz.results6, go_sem, k0, k1]
 exact hEk
end Go.Eng
namespace Go.Eng
open Go Go.RowKit Go.Proofs
set_option maxRecDepth 100000
set_option maxHeartbeats 3200000 in
theorem point_big2 {aP aA aD aQ : Option Addr} {lP cP lA cA lD cD lQ cQ b1 o1 k1 b2 o2 k2 : Nat} {NP Nx Ny : Nat} {sx sy : ByteArray} {w : World} (hP : Num w (.slice aP lP cP) NP) (hlp : nlen NP <= 1048576) (hlx : nlen Nx <= 1048576) (hly : nlen Ny <= 1048576) (hX : Nx < NP) (hY : ¬ Ny < NP)
  (hrx : ∀ W, Calls Tryz.prog 18 #[.string sx] W fun e w' => ∃ (a : Option Addr) (l c : Nat), e = .returned (.tuple #[.slice a l c, .bool true]) /\ Num w' (.slice a l c) Nx /\ Ext W w') (hry : ∀ W, Calls Tryz.prog 18 #[.string sy] W fun e w' => ∃ (a : Option Addr) (l c : Nat), e = .returned (.tuple #[.slice a l c, .bool true]) /\ Num w' (.slice a l c) Ny /\ Ext W w')
  (h1 : w.cell? ⟨b1, o1, none⟩ = some (.string sx)) (h2 : w.cell? ⟨b2, o2, none⟩ = some (.string sy)) :
  Calls Tryz.prog 6 #[.agg #[.slice aP lP cP, .slice aA lA cA, .slice aD lD cD, .slice aQ lQ cQ], .agg #[.slice (some ⟨b1, o1, none⟩) 1 k1, .slice (some ⟨b2, o2, none⟩) 1 k2]] w fun e w' => ∃ (a1 : Option Addr) (l1 c1 : Nat) (a2 : Option Addr) (l2 c2 : Nat), e = .returned (.tuple #[.agg #[.slice a1 l1 c1, .slice a2 l2 c2], .bool false]) /\ Ext w w' := by
 have hin2 : ∀ W v, Ext w W -> Num W v Ny -> Calls Tryz.prog 19 #[.agg #[.slice aP lP cP], v] W fun e w' => e = .returned (.bool false) /\ Ext W w' := fun W v hW hv => by
  have h := in_walk (hP.ext hW) hlp hv hly
  rw [decide_eq_false hY] at h
  exact h
 have hin : ∀ W v, Ext w W -> Num W v Nx -> Calls Tryz.prog 19 #[.agg #[.slice aP lP cP], v] W fun e w' => e = .returned (.bool true) /\ Ext W w' := fun W v hW hv => by
  have h := in_walk (hP.ext hW) hlp hv hlx
  rw [decide_eq_true hX] at h
  exact h
 clear hP hlp hlx hX hly hY
 obtain ⟨B, hB⟩ : ∃ B, B = ((w.alloc (.cells #[.slice aP lP cP, .slice aA lA cA, .slice aD lD cD, .slice aQ lQ cQ] 31)).alloc (.cells #[.slice (some ⟨b1, o1, none⟩) 1 k1, .slice (some ⟨b2, o2, none⟩) 1 k2] 24)).alloc (.cells #[.slice none 0 0, .slice none 0 0] 33) := ⟨_, rfl⟩
 have hEB : Ext w B := by rw [hB]; exact (((Ext.refl _).alloc _).alloc _).alloc _
 have c00 : B.cell? ⟨w.heap.size, 0, none⟩ = some (.slice aP lP cP) := by
  rw [hB]; exact Ext.cell (((Ext.refl _).alloc _).alloc _) (cell_al _ _ _ _ rfl rfl)
 have c10 : B.cell? ⟨w.heap.size + 1, 0, none⟩ = some (.slice (some ⟨b1, o1, none⟩) 1 k1) := by
  rw [hB]; exact Ext.cell ((Ext.refl _).alloc _) (cell_al _ _ _ _ (by simp) rfl)
 have c11 : B.cell? ⟨w.heap.size + 1, 1, none⟩ = some (.slice (some ⟨b2, o2, none⟩) 1 k2) := by
  rw [hB]; exact Ext.cell ((Ext.refl _).alloc _) (cell_al _ _ _ _ (by simp) rfl)
 have c20 : B.cell? ⟨w.heap.size + 1 + 1, 0, none⟩ = some (.slice none 0 0) := by
  rw [hB]; exact cell_al _ _ _ _ (by simp) rfl
 have c21 : B.cell? ⟨w.heap.size + 1 + 1, 1, none⟩ = some (.slice none 0 0) := by
  rw [hB]; exact cell_al _ _ _ _ (by simp) rfl
 have f2 : ∀ o, B.frozen? ⟨w.heap.size + 1 + 1, o, none⟩ = false := fun o => by rw [hB]; exact frozen_al _ _ _ _ (by simp)
 have hsB : w.heap.size + 1 + 1 < B.heap.size := by rw [hB]; simp
 replace h1 := hEB.cell h1
 replace h2 := hEB.cell h2
 go_enter Tryz.func6, Tryz.ntmps6
 go_upto_region 1 with fail
 rw [<- hB]
 clear hB
 have hb1 := hrx B
 clear hrx
 go_upto_region 4 with (go_at_call 18; (with_reducible refine hb1.mono ?_); rintro e w1 ⟨a1, l1, c1, rfl, hv1, hE1⟩; have c11' := hE1.cell c11; have c10' := hE1.cell c10; have h2' := hE1.cell h2)
 have hb2 := hry w1
 clear hry hb1
 go_upto_region 5 with (go_at_call 18; (with_reducible refine hb2.mono ?_); rintro e w2 ⟨a2, l2, c2, rfl, hv2, hE2⟩)
 have d00 := (hE1.trans hE2).cell c00
 have hi1 := hin w2 (.slice a1 l1 c1) ((hEB.trans hE1).trans hE2) (hv1.ext hE2)
 have hi2 : ∀ w3, Ext w2 w3 -> Calls Tryz.prog 19 #[.agg #[.slice aP lP cP], .slice a2 l2 c2] w3 fun e w' => e = .returned (.bool false) /\ Ext w3 w' := fun w3 h3 => hin2 w3 (.slice a2 l2 c2) (((hEB.trans hE1).trans hE2).trans h3) (hv2.ext h3)
 clear hin hin2
 go_wp2_with (first
  | (go_at_call 19; (with_reducible refine hi1.mono ?_); rintro e w3 ⟨rfl, hE3⟩; have g00 := hE3.cell d00)
  | (go_at_call 19; (with_reducible refine (hi2 w3 hE3).mono ?_); rintro e w4 ⟨rfl, hE4⟩; have hEz := ((hE1.trans hE2).trans hE3).trans hE4; have kz0 := hEz.cell c20; have kz1 := hEz.cell c21; have fz : ∀ o, w4.frozen? ⟨w.heap.size + 1 + 1, o, none⟩ = false := fun o => (hEz.frozenE hsB).trans (f2 o); have dz1 : ∀ u0, (w4.setCell ⟨w.heap.size + 1 + 1, 0, none⟩ u0).cell? ⟨w.heap.size + 1 + 1, 1, none⟩ = some (Value.slice none 0 0) := fun u0 => cell_off1 kz1 (by decide)))
 have k0 : ((w4.setCell ⟨w.heap.size + 1 + 1, 0, none⟩ (.slice a1 l1 c1)).setCell ⟨w.heap.size + 1 + 1, 1, none⟩ (.slice a2 l2 c2)).cell? ⟨w.heap.size + 1 + 1, 0, none⟩ = some (.slice a1 l1 c1) := cell_off1 (World.cell?_setCell_same _ _ _ kz0) (by decide)
 have k1 : ((w4.setCell ⟨w.heap.size + 1 + 1, 0, none⟩ (.slice a1 l1 c1)).setCell ⟨w.heap.size + 1 + 1, 1, none⟩ (.slice a2 l2 c2)).cell? ⟨w.heap.size + 1 + 1, 1, none⟩ = some (.slice a2 l2 c2) := World.cell?_setCell_same _ _ _ (dz1 _)
 have hEk : Ext w ((w4.setCell ⟨w.heap.size + 1 + 1, 0, none⟩ (.slice a1 l1 c1)).setCell ⟨w.heap.size + 1 + 1, 1, none⟩ (.slice a2 l2 c2)) := ((hEB.trans hEz).setC (by show w.heap.size <= w.heap.size + 1 + 1; omega) _).setC (by show w.heap.size <= w.heap.size + 1 + 1; omega) _
 generalize (w4.setCell ⟨w.heap.size + 1 + 1, 0, none⟩ (.slice a1 l1 c1)).setCell ⟨w.heap.size + 1 + 1, 1, none⟩ (.slice a2 l2 c2) = W9 at k0 k1 hEk ⊢
 simp [bodyPost, results, Tryz.results6, go_sem, k0, k1]
 exact hEk
end Go.Eng
