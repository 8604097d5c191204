/-
 The law: the walk through laws.FnEdTells and the plain reckoning at the curve.
-/
import Derived.Test.YtajgaijilkfjnaaGreatDoorD5
import Derived.Test.YtajgaijilkfjnaaGreatDoorB2
import Derived.Test.YtajgaijilkfjnaaGreatDoorA7
import Derived.Test.YtajgaijilkfjnaaGreatDoorA5
set_option linter.unusedVariables false
set_option linter.unusedSimpArgs false
namespace Go.Eng
open Go Go.RowKit Go.Proofs
set_option maxRecDepth 100000
def nP : Nat := 21888242871839275222246405745257275088548364400416034343698204186575808495617
def nA : Nat := 21888242871839275222246405745257275088548364400416034343698204186575808495616
def nD : Nat := 12181644023421730124874158521699555681764249180949974110617291017600649128846
def nQ : Nat := 2736030358979909402780800718157159386076813972158567259200215660948447373041
def nX : Nat := 9671717474070082183213120605117400219616337014328744928644933853176787189663
def nY : Nat := 16950150798460657717958625567821834550301663161624707787222815936182638968203
def decB (s : ByteArray) (N : Nat) : Bool :=
 Nat.ble s.size 1000 && Nat.ble 2 s.size && (List.range s.size).all (fun k => Nat.ble 48 (s.data.getD k 0).toNat && Nat.ble (s.data.getD k 0).toNat 57) && !Nat.beq (s.data.getD 0 0).toNat 48 && Nat.beq (rdN s s.size) N
theorem decT_of {s : ByteArray} {N : Nat} (h : decB s N = true) : DecT s N := by
 unfold decB at h
 simp only [Bool.and_eq_true] at h
 obtain ⟨⟨⟨⟨h1, h2⟩, h3⟩, h4⟩, h5⟩ := h
 refine ⟨Nat.le_of_ble_eq_true h1, Nat.le_of_ble_eq_true h2, fun k hk => ?_, fun e => ?_, Nat.eq_of_beq_eq_true h5⟩
 ·have := List.all_eq_true.1 h3 k (List.mem_range.2 hk)
  simp only [Bool.and_eq_true] at this
  exact ⟨Nat.le_of_ble_eq_true this.1, Nat.le_of_ble_eq_true this.2⟩
 ·rw [e] at h4
  cases h4
theorem tP : DecT (sOf TxP_s) nP := decT_of (by kernel_rfl)
theorem tA : DecT (sOf TxA_s) nA := decT_of (by kernel_rfl)
theorem tD : DecT (sOf TxD_s) nD := decT_of (by kernel_rfl)
theorem tQ : DecT (sOf TxQ_s) nQ := decT_of (by kernel_rfl)
theorem tX : DecT (sOf TxX_s) nX := decT_of (by kernel_rfl)
theorem tY : DecT (sOf TxY_s) nY := decT_of (by kernel_rfl)
theorem sX {s : ByteArray} (h : IsDec nX s) : s = sOf TxX_s := (h.eq (k := 76) (by decide) (by decide) (by decide)).trans (by kernel_rfl)
theorem sY {s : ByteArray} (h : IsDec nY s) : s = sOf TxY_s := (h.eq (k := 77) (by decide) (by decide) (by decide)).trans (by kernel_rfl)
def nX2 : Nat := 6181589843805936102166733432625702983249926793164243794170119559257043191516
def nY2 : Nat := 633281375905621697187330766174974863687049529291089048651929454608812697683
theorem plus_base : PlusN nP nA nD nX nY nX nY = (nX2, nY2) := by kernel_rfl
theorem sX2 {s : ByteArray} (h : IsDec nX2 s) : s = sOf Dx_s := (h.eq (k := 76) (by decide) (by decide) (by decide)).trans (by kernel_rfl)
theorem sY2 {s : ByteArray} (h : IsDec nY2 s) : s = sOf Dy_s := (h.eq (k := 75) (by decide) (by decide) (by decide)).trans (by kernel_rfl)
theorem s0 {s : ByteArray} (h : IsDec 0 s) : s = ⟨⟨[48]⟩⟩ := by
 rcases h with ⟨_, rfl⟩ | ⟨j, _, _, h, _⟩
 ·rfl
 ·exact absurd h (Nat.not_le.2 (Nat.pow_pos (by decide)))
theorem s1 {s : ByteArray} (h : IsDec 1 s) : s = ⟨⟨[49]⟩⟩ := (h.eq (k := 1) (by decide) (by decide) (by decide)).trans (by kernel_rfl)
theorem len_P : nlen nP = 8 := by decide
end Go.Eng
namespace Go.Eng
open Go Go.RowKit Go.Proofs
set_option maxRecDepth 100000
def Curv (w : World) (vP vA vD vQ vx vy : Value) : Prop := Num w vP nP /\ Num w vA nA /\ Num w vD nD /\ Num w vQ nQ /\ Num w vx nX /\ Num w vy nY
theorem Curv.ext {w w' : World} {vP vA vD vQ vx vy : Value} (h : Curv w vP vA vD vQ vx vy) (e : Ext w w') : Curv w' vP vA vD vQ vx vy :=
 ⟨h.1.ext e, h.2.1.ext e, h.2.2.1.ext e, h.2.2.2.1.ext e, h.2.2.2.2.1.ext e, h.2.2.2.2.2.ext e⟩
theorem drew_cell {W : World} {a : Addr} {v : Value} (h : W.cell? a = some v) : W.drew.cell? a = some v := h
set_option maxHeartbeats 6400000 in
theorem edw_00 {c : Nat} (hc : c < 256) (hr : c % 3 = 0) {pE : Pl} {w : World} (hG : Glob pE w) : Calls Tryz.prog 5 #[.int .u8 (c : Int), .bool false] w fun e w' =>
  ∃ (aP : Option Addr) (lP cP : Nat) (aA : Option Addr) (lA cA : Nat) (aD : Option Addr) (lD cD : Nat) (aQ : Option Addr) (lQ cQ : Nat) (a1 : Option Addr) (l1 c1 : Nat) (a2 : Option Addr) (l2 c2 : Nat),
   e = .returned (.tuple #[.int .i64 0, .int .i64 0, .agg #[.slice aP lP cP, .slice aA lA cA, .slice aD lD cD, .slice aQ lQ cQ], .agg #[.slice a1 l1 c1, .slice a2 l2 c2], .bool true]) /\ Curv w' (.slice aP lP cP) (.slice aA lA cA) (.slice aD lD cD) (.slice aQ lQ cQ) (.slice a1 l1 c1) (.slice a2 l2 c2) /\ Ext w w' := by
 have hm : (c : Int).tmod 3 = 0 := by
  have : (c : Int).tmod 3 = ((c % 3 : Nat) : Int) := rfl
  rw [this, hr]; rfl
 obtain ⟨B, hB⟩ : ∃ B, B = (w.alloc (.cells #[.slice none 0 0, .slice none 0 0, .slice none 0 0, .slice none 0 0] 31)).alloc (.cells #[.slice none 0 0, .slice none 0 0] 33) := ⟨_, rfl⟩
 have hEB : Ext w B := by rw [hB]; exact ((Ext.refl _).alloc _).alloc _
 have c0 : ∀ i, i < 4 -> B.cell? ⟨w.heap.size, i, none⟩ = some (.slice none 0 0) := fun i hi => by
  rw [hB]; refine Ext.cell ((Ext.refl _).alloc _) ?_
  match i, hi with
  | 0, _ => exact cell_al _ _ _ _ (by simp) rfl
  | 1, _ => exact cell_al _ _ _ _ (by simp) rfl
  | 2, _ => exact cell_al _ _ _ _ (by simp) rfl
  | 3, _ => exact cell_al _ _ _ _ (by simp) rfl
 have c10 : B.cell? ⟨w.heap.size + 1, 0, none⟩ = some (.slice none 0 0) := by
  rw [hB]; exact cell_al _ _ _ _ (by simp) rfl
 have c11 : B.cell? ⟨w.heap.size + 1, 1, none⟩ = some (.slice none 0 0) := by
  rw [hB]; exact cell_al _ _ _ _ (by simp) rfl
 have f0 : ∀ o, B.frozen? ⟨w.heap.size, o, none⟩ = false := fun o => by
  rw [hB, Ext.frozenE ((Ext.refl _).alloc _) (by simp)]; exact frozen_al _ _ _ _ (by simp)
 have f1 : ∀ o, B.frozen? ⟨w.heap.size + 1, o, none⟩ = false := fun o => by rw [hB]; exact frozen_al _ _ _ _ (by simp)
 have hsB : w.heap.size + 1 < B.heap.size := by rw [hB]; simp
 have hi := info_call (hG.ext hEB)
 have AC : Aside ((∀ i, i < 4 -> B.cell? ⟨w.heap.size, i, none⟩ = some (.slice none 0 0)) /\ B.cell? ⟨w.heap.size + 1, 0, none⟩ = some (.slice none 0 0) /\ B.cell? ⟨w.heap.size + 1, 1, none⟩ = some (.slice none 0 0) /\ (∀ o, B.frozen? ⟨w.heap.size, o, none⟩ = false) /\ (∀ o, B.frozen? ⟨w.heap.size + 1, o, none⟩ = false)) := ⟨c0, c10, c11, f0, f1⟩
 clear c0 c10 c11 f0 f1 hG
 go_enter Tryz.func5, Tryz.ntmps5
 go_upto_region 1 with fail
 rw [<- hB]
 clear hB
 go_upto_region 4 with fail
 go_upto_region 6 with (go_at_call 15; (with_reducible refine (has_true B).mono ?_); rintro e w1 ⟨rfl, hw1⟩; rw [hw1]; clear hw1)
 go_upto_region 7 with (go_at_call 16; (with_reducible refine hi.mono ?_); rintro e w1 ⟨b1, o1, b2, o2, rfl, hx1, hx2, hE1⟩)
 obtain ⟨W2, hW2⟩ : ∃ W, W = w1.alloc (.cells #[.slice (some ⟨b1, o1, none⟩) 1 1, .slice (some ⟨b2, o2, none⟩) 1 1] 24) := ⟨_, rfl⟩
 rw [<- hW2]
 have hE2 : Ext w1 W2 := by rw [hW2]; exact (Ext.refl _).alloc _
 have t0 : W2.cell? ⟨w1.heap.size, 0, none⟩ = some (.slice (some ⟨b1, o1, none⟩) 1 1) := by rw [hW2]; exact cell_al _ _ _ _ rfl rfl
 have t1 : W2.cell? ⟨w1.heap.size, 1, none⟩ = some (.slice (some ⟨b2, o2, none⟩) 1 1) := by rw [hW2]; exact cell_al _ _ _ _ rfl rfl
 have ho := edOf_walk (w := W2) tP (by rw [len_P]; decide) tA tD tQ (by decide) (by decide) tX tY (by decide) (by decide) (hE2.cell hx1) (hE2.cell hx2)
 have hEz0 : Ext B W2 := hE1.trans hE2
 clear hW2 hi hE1 hE2 hx1 hx2
 go_upto_region 8 with (go_at_call 17; (with_reducible refine ho.mono ?_); rintro e w3 ⟨aP, lP, cP, aA, lA, cA, aD, lD, cD, aQ, lQ, cQ, a1, l1, c1, a2, l2, c2, rfl, vP, vA, vD, vQ, v1, v2, hE3⟩)
 obtain ⟨W4, hW4⟩ : ∃ W, W = (w3.alloc (.cells #[(.slice aP lP cP), (.slice aA lA cA), (.slice aD lD cD), (.slice aQ lQ cQ)] 31)).alloc (.cells #[(.slice a1 l1 c1), (.slice a2 l2 c2)] 33) := ⟨_, rfl⟩
 rw [<- hW4]
 have hE4 : Ext w3 W4 := by rw [hW4]; exact ((Ext.refl _).alloc _).alloc _
 have hEz : Ext B W4 := (hEz0.trans hE3).trans hE4
 have AC4 : Aside (Curv W4 (.slice aP lP cP) (.slice aA lA cA) (.slice aD lD cD) (.slice aQ lQ cQ) (.slice a1 l1 c1) (.slice a2 l2 c2)) := ⟨vP.ext hE4, vA.ext hE4, vD.ext hE4, vQ.ext hE4, v1.ext hE4, v2.ext hE4⟩
 have hsz : w.heap.size + 1 < w3.heap.size := Nat.lt_of_lt_of_le hsB (hEz0.trans hE3).size
 have g0 : W4.cell? ⟨w3.heap.size, 0, none⟩ = some (.slice aP lP cP) := by rw [hW4]; exact Ext.cell ((Ext.refl _).alloc _) (cell_al _ _ _ _ rfl rfl)
 have g1 : W4.cell? ⟨w3.heap.size, 1, none⟩ = some (.slice aA lA cA) := by rw [hW4]; exact Ext.cell ((Ext.refl _).alloc _) (cell_al _ _ _ _ rfl rfl)
 have g2 : W4.cell? ⟨w3.heap.size, 2, none⟩ = some (.slice aD lD cD) := by rw [hW4]; exact Ext.cell ((Ext.refl _).alloc _) (cell_al _ _ _ _ rfl rfl)
 have g3 : W4.cell? ⟨w3.heap.size, 3, none⟩ = some (.slice aQ lQ cQ) := by rw [hW4]; exact Ext.cell ((Ext.refl _).alloc _) (cell_al _ _ _ _ rfl rfl)
 have g4 : W4.cell? ⟨w3.heap.size + 1, 0, none⟩ = some (.slice a1 l1 c1) := by rw [hW4]; exact cell_al _ _ _ _ (by simp) rfl
 have g5 : W4.cell? ⟨w3.heap.size + 1, 1, none⟩ = some (.slice a2 l2 c2) := by rw [hW4]; exact cell_al _ _ _ _ (by simp) rfl
 clear vP vA vD vQ v1 v2 hE3 hW4 hE4 ho t0 t1 hEz0
 have k0 := hEz.cell (AC.out.1 0 (by decide))
 have k1 := hEz.cell (AC.out.1 1 (by decide))
 have k2 := hEz.cell (AC.out.1 2 (by decide))
 have k3 := hEz.cell (AC.out.1 3 (by decide))
 have k4 := hEz.cell AC.out.2.1
 have k5 := hEz.cell AC.out.2.2.1
 have fz0 : ∀ o, W4.frozen? ⟨w.heap.size, o, none⟩ = false := fun o => (hEz.frozenE (by omega)).trans (AC.out.2.2.2.1 o)
 have fz1 : ∀ o, W4.frozen? ⟨w.heap.size + 1, o, none⟩ = false := fun o => (hEz.frozenE (by omega)).trans (AC.out.2.2.2.2 o)
 have dz1 : ∀ x, (W4.setCell ⟨w.heap.size, 0, none⟩ x).cell? ⟨w.heap.size, 1, none⟩ = some (Value.slice none 0 0) := fun x => cell_off1 k1 (by decide)
 have dz2 : ∀ x y, ((W4.setCell ⟨w.heap.size, 0, none⟩ x).setCell ⟨w.heap.size, 1, none⟩ y).cell? ⟨w.heap.size, 2, none⟩ = some (Value.slice none 0 0) := fun x y => cell_off2 k2 (by decide) (by decide)
 have dz3 : ∀ x y z, (((W4.setCell ⟨w.heap.size, 0, none⟩ x).setCell ⟨w.heap.size, 1, none⟩ y).setCell ⟨w.heap.size, 2, none⟩ z).cell? ⟨w.heap.size, 3, none⟩ = some (Value.slice none 0 0) := fun x y z => cell_off1 (cell_off2 k3 (by decide) (by decide)) (by decide)
 have hfar : ∀ {b o : Nat} {v : Value}, W4.cell? ⟨b, o, none⟩ = some v -> b ≠ w.heap.size -> ((((W4.setCell ⟨w.heap.size, 0, none⟩ (.slice aP lP cP)).setCell ⟨w.heap.size, 1, none⟩ (.slice aA lA cA)).setCell ⟨w.heap.size, 2, none⟩ (.slice aD lD cD)).setCell ⟨w.heap.size, 3, none⟩ (.slice aQ lQ cQ)).cell? ⟨b, o, none⟩ = some v := fun hc hb => cell_far1 (cell_far1 (cell_far2 hc hb _ _) hb _) hb _
 have dz4 := hfar k4 (by omega)
 have dz5 : ∀ x, (((((W4.setCell ⟨w.heap.size, 0, none⟩ (.slice aP lP cP)).setCell ⟨w.heap.size, 1, none⟩ (.slice aA lA cA)).setCell ⟨w.heap.size, 2, none⟩ (.slice aD lD cD)).setCell ⟨w.heap.size, 3, none⟩ (.slice aQ lQ cQ)).setCell ⟨w.heap.size + 1, 0, none⟩ x).cell? ⟨w.heap.size + 1, 1, none⟩ = some (Value.slice none 0 0) := fun x => cell_off1 (hfar k5 (by omega)) (by decide)
 have AP0 : Aside (W4.drew.cell? ⟨w3.heap.size, 0, none⟩ = some (Value.slice aP lP cP) /\ W4.drew.cell? ⟨w3.heap.size, 1, none⟩ = some (Value.slice aA lA cA) /\ W4.drew.cell? ⟨w3.heap.size, 2, none⟩ = some (Value.slice aD lD cD) /\ W4.drew.cell? ⟨w3.heap.size, 3, none⟩ = some (Value.slice aQ lQ cQ) /\ W4.drew.cell? ⟨w3.heap.size + 1, 0, none⟩ = some (Value.slice a1 l1 c1) /\ W4.drew.cell? ⟨w3.heap.size + 1, 1, none⟩ = some (Value.slice a2 l2 c2)) := ⟨drew_cell g0, drew_cell g1, drew_cell g2, drew_cell g3, drew_cell g4, drew_cell g5⟩
 have AP4 : Aside (((((W4.setCell ⟨w.heap.size, 0, none⟩ (.slice aP lP cP)).setCell ⟨w.heap.size, 1, none⟩ (.slice aA lA cA)).setCell ⟨w.heap.size, 2, none⟩ (.slice aD lD cD)).setCell ⟨w.heap.size, 3, none⟩ (.slice aQ lQ cQ)).drew.cell? ⟨w3.heap.size, 0, none⟩ = some (Value.slice aP lP cP) /\ ((((W4.setCell ⟨w.heap.size, 0, none⟩ (.slice aP lP cP)).setCell ⟨w.heap.size, 1, none⟩ (.slice aA lA cA)).setCell ⟨w.heap.size, 2, none⟩ (.slice aD lD cD)).setCell ⟨w.heap.size, 3, none⟩ (.slice aQ lQ cQ)).drew.cell? ⟨w3.heap.size, 1, none⟩ = some (Value.slice aA lA cA) /\ ((((W4.setCell ⟨w.heap.size, 0, none⟩ (.slice aP lP cP)).setCell ⟨w.heap.size, 1, none⟩ (.slice aA lA cA)).setCell ⟨w.heap.size, 2, none⟩ (.slice aD lD cD)).setCell ⟨w.heap.size, 3, none⟩ (.slice aQ lQ cQ)).drew.cell? ⟨w3.heap.size, 2, none⟩ = some (Value.slice aD lD cD) /\ ((((W4.setCell ⟨w.heap.size, 0, none⟩ (.slice aP lP cP)).setCell ⟨w.heap.size, 1, none⟩ (.slice aA lA cA)).setCell ⟨w.heap.size, 2, none⟩ (.slice aD lD cD)).setCell ⟨w.heap.size, 3, none⟩ (.slice aQ lQ cQ)).drew.cell? ⟨w3.heap.size, 3, none⟩ = some (Value.slice aQ lQ cQ) /\ ((((W4.setCell ⟨w.heap.size, 0, none⟩ (.slice aP lP cP)).setCell ⟨w.heap.size, 1, none⟩ (.slice aA lA cA)).setCell ⟨w.heap.size, 2, none⟩ (.slice aD lD cD)).setCell ⟨w.heap.size, 3, none⟩ (.slice aQ lQ cQ)).drew.cell? ⟨w3.heap.size + 1, 0, none⟩ = some (Value.slice a1 l1 c1) /\ ((((W4.setCell ⟨w.heap.size, 0, none⟩ (.slice aP lP cP)).setCell ⟨w.heap.size, 1, none⟩ (.slice aA lA cA)).setCell ⟨w.heap.size, 2, none⟩ (.slice aD lD cD)).setCell ⟨w.heap.size, 3, none⟩ (.slice aQ lQ cQ)).drew.cell? ⟨w3.heap.size + 1, 1, none⟩ = some (Value.slice a2 l2 c2)) := ⟨drew_cell (hfar g0 (by omega)), drew_cell (hfar g1 (by omega)), drew_cell (hfar g2 (by omega)), drew_cell (hfar g3 (by omega)), drew_cell (hfar g4 (by omega)), drew_cell (hfar g5 (by omega))⟩
 have AP6 : Aside (((((((W4.setCell ⟨w.heap.size, 0, none⟩ (.slice aP lP cP)).setCell ⟨w.heap.size, 1, none⟩ (.slice aA lA cA)).setCell ⟨w.heap.size, 2, none⟩ (.slice aD lD cD)).setCell ⟨w.heap.size, 3, none⟩ (.slice aQ lQ cQ)).setCell ⟨w.heap.size + 1, 0, none⟩ (.slice a1 l1 c1)).setCell ⟨w.heap.size + 1, 1, none⟩ (.slice a2 l2 c2)).drew.cell? ⟨w3.heap.size, 0, none⟩ = some (Value.slice aP lP cP) /\ ((((((W4.setCell ⟨w.heap.size, 0, none⟩ (.slice aP lP cP)).setCell ⟨w.heap.size, 1, none⟩ (.slice aA lA cA)).setCell ⟨w.heap.size, 2, none⟩ (.slice aD lD cD)).setCell ⟨w.heap.size, 3, none⟩ (.slice aQ lQ cQ)).setCell ⟨w.heap.size + 1, 0, none⟩ (.slice a1 l1 c1)).setCell ⟨w.heap.size + 1, 1, none⟩ (.slice a2 l2 c2)).drew.cell? ⟨w3.heap.size, 1, none⟩ = some (Value.slice aA lA cA) /\ ((((((W4.setCell ⟨w.heap.size, 0, none⟩ (.slice aP lP cP)).setCell ⟨w.heap.size, 1, none⟩ (.slice aA lA cA)).setCell ⟨w.heap.size, 2, none⟩ (.slice aD lD cD)).setCell ⟨w.heap.size, 3, none⟩ (.slice aQ lQ cQ)).setCell ⟨w.heap.size + 1, 0, none⟩ (.slice a1 l1 c1)).setCell ⟨w.heap.size + 1, 1, none⟩ (.slice a2 l2 c2)).drew.cell? ⟨w3.heap.size, 2, none⟩ = some (Value.slice aD lD cD) /\ ((((((W4.setCell ⟨w.heap.size, 0, none⟩ (.slice aP lP cP)).setCell ⟨w.heap.size, 1, none⟩ (.slice aA lA cA)).setCell ⟨w.heap.size, 2, none⟩ (.slice aD lD cD)).setCell ⟨w.heap.size, 3, none⟩ (.slice aQ lQ cQ)).setCell ⟨w.heap.size + 1, 0, none⟩ (.slice a1 l1 c1)).setCell ⟨w.heap.size + 1, 1, none⟩ (.slice a2 l2 c2)).drew.cell? ⟨w3.heap.size, 3, none⟩ = some (Value.slice aQ lQ cQ) /\ ((((((W4.setCell ⟨w.heap.size, 0, none⟩ (.slice aP lP cP)).setCell ⟨w.heap.size, 1, none⟩ (.slice aA lA cA)).setCell ⟨w.heap.size, 2, none⟩ (.slice aD lD cD)).setCell ⟨w.heap.size, 3, none⟩ (.slice aQ lQ cQ)).setCell ⟨w.heap.size + 1, 0, none⟩ (.slice a1 l1 c1)).setCell ⟨w.heap.size + 1, 1, none⟩ (.slice a2 l2 c2)).drew.cell? ⟨w3.heap.size + 1, 0, none⟩ = some (Value.slice a1 l1 c1) /\ ((((((W4.setCell ⟨w.heap.size, 0, none⟩ (.slice aP lP cP)).setCell ⟨w.heap.size, 1, none⟩ (.slice aA lA cA)).setCell ⟨w.heap.size, 2, none⟩ (.slice aD lD cD)).setCell ⟨w.heap.size, 3, none⟩ (.slice aQ lQ cQ)).setCell ⟨w.heap.size + 1, 0, none⟩ (.slice a1 l1 c1)).setCell ⟨w.heap.size + 1, 1, none⟩ (.slice a2 l2 c2)).drew.cell? ⟨w3.heap.size + 1, 1, none⟩ = some (Value.slice a2 l2 c2)) := ⟨drew_cell (cell_far2 (hfar g0 (by omega)) (by omega) _ _), drew_cell (cell_far2 (hfar g1 (by omega)) (by omega) _ _), drew_cell (cell_far2 (hfar g2 (by omega)) (by omega) _ _), drew_cell (cell_far2 (hfar g3 (by omega)) (by omega) _ _), drew_cell (cell_far2 (hfar g4 (by omega)) (by omega) _ _), drew_cell (cell_far2 (hfar g5 (by omega)) (by omega) _ _)⟩
 have q0 : ((((W4.setCell ⟨w.heap.size, 0, none⟩ (.slice aP lP cP)).setCell ⟨w.heap.size, 1, none⟩ (.slice aA lA cA)).setCell ⟨w.heap.size, 2, none⟩ (.slice aD lD cD)).setCell ⟨w.heap.size, 3, none⟩ (.slice aQ lQ cQ)).cell? ⟨w.heap.size, 0, none⟩ = some (.slice aP lP cP) := cell_off1 (cell_off2 (World.cell?_setCell_same _ _ _ k0) (by decide) (by decide)) (by decide)
 have q1 : ((((W4.setCell ⟨w.heap.size, 0, none⟩ (.slice aP lP cP)).setCell ⟨w.heap.size, 1, none⟩ (.slice aA lA cA)).setCell ⟨w.heap.size, 2, none⟩ (.slice aD lD cD)).setCell ⟨w.heap.size, 3, none⟩ (.slice aQ lQ cQ)).cell? ⟨w.heap.size, 1, none⟩ = some (.slice aA lA cA) := cell_off2 (World.cell?_setCell_same _ _ _ (dz1 _)) (by decide) (by decide)
 have q2 : ((((W4.setCell ⟨w.heap.size, 0, none⟩ (.slice aP lP cP)).setCell ⟨w.heap.size, 1, none⟩ (.slice aA lA cA)).setCell ⟨w.heap.size, 2, none⟩ (.slice aD lD cD)).setCell ⟨w.heap.size, 3, none⟩ (.slice aQ lQ cQ)).cell? ⟨w.heap.size, 2, none⟩ = some (.slice aD lD cD) := cell_off1 (World.cell?_setCell_same _ _ _ (dz2 _ _)) (by decide)
 have q3 : ((((W4.setCell ⟨w.heap.size, 0, none⟩ (.slice aP lP cP)).setCell ⟨w.heap.size, 1, none⟩ (.slice aA lA cA)).setCell ⟨w.heap.size, 2, none⟩ (.slice aD lD cD)).setCell ⟨w.heap.size, 3, none⟩ (.slice aQ lQ cQ)).cell? ⟨w.heap.size, 3, none⟩ = some (.slice aQ lQ cQ) := World.cell?_setCell_same _ _ _ (dz3 _ _ _)
 have AF : Aside (K6 w w.heap.size (w.heap.size + 1) (.slice aP lP cP) (.slice aA lA cA) (.slice aD lD cD) (.slice aQ lQ cQ) (.slice a1 l1 c1) (.slice a2 l2 c2) ((((((W4.setCell ⟨w.heap.size, 0, none⟩ (.slice aP lP cP)).setCell ⟨w.heap.size, 1, none⟩ (.slice aA lA cA)).setCell ⟨w.heap.size, 2, none⟩ (.slice aD lD cD)).setCell ⟨w.heap.size, 3, none⟩ (.slice aQ lQ cQ)).setCell ⟨w.heap.size + 1, 0, none⟩ (.slice a1 l1 c1)).setCell ⟨w.heap.size + 1, 1, none⟩ (.slice a2 l2 c2))) := ⟨cell_far2 q0 (by omega) _ _, cell_far2 q1 (by omega) _ _, cell_far2 q2 (by omega) _ _, cell_far2 q3 (by omega) _ _, cell_off1 (World.cell?_setCell_same _ _ _ dz4) (by decide), World.cell?_setCell_same _ _ _ (dz5 _), ((((((hEB.trans hEz).setC (Nat.le_refl _) _).setC (Nat.le_refl _) _).setC (Nat.le_refl _) _).setC (Nat.le_refl _) _).setC (by show w.heap.size <= w.heap.size + 1; omega) _).setC (by show w.heap.size <= w.heap.size + 1; omega) _⟩
 have cF : ∀ {v : Value} {N : Nat}, Num W4 v N -> Num ((((((W4.setCell ⟨w.heap.size, 0, none⟩ (.slice aP lP cP)).setCell ⟨w.heap.size, 1, none⟩ (.slice aA lA cA)).setCell ⟨w.heap.size, 2, none⟩ (.slice aD lD cD)).setCell ⟨w.heap.size, 3, none⟩ (.slice aQ lQ cQ)).setCell ⟨w.heap.size + 1, 0, none⟩ (.slice a1 l1 c1)).setCell ⟨w.heap.size + 1, 1, none⟩ (.slice a2 l2 c2)) v N := fun h => ((h.set4 k0 k1 k2 k3 _ _ _ _).set dz4 _).set (dz5 _) _
 have ACF : Aside (Curv ((((((W4.setCell ⟨w.heap.size, 0, none⟩ (.slice aP lP cP)).setCell ⟨w.heap.size, 1, none⟩ (.slice aA lA cA)).setCell ⟨w.heap.size, 2, none⟩ (.slice aD lD cD)).setCell ⟨w.heap.size, 3, none⟩ (.slice aQ lQ cQ)).setCell ⟨w.heap.size + 1, 0, none⟩ (.slice a1 l1 c1)).setCell ⟨w.heap.size + 1, 1, none⟩ (.slice a2 l2 c2)) (.slice aP lP cP) (.slice aA lA cA) (.slice aD lD cD) (.slice aQ lQ cQ) (.slice a1 l1 c1) (.slice a2 l2 c2)) := ⟨cF AC4.out.1, cF AC4.out.2.1, cF AC4.out.2.2.1, cF AC4.out.2.2.2.1, cF AC4.out.2.2.2.2.1, cF AC4.out.2.2.2.2.2⟩
 clear cF AC4 hfar q0 q1 q2 q3 AC hEz hEB
 go_region_held3 (fun W => W.cell? ⟨w3.heap.size, 0, none⟩ = some (Value.slice aP lP cP) /\ W.cell? ⟨w3.heap.size, 1, none⟩ = some (Value.slice aA lA cA) /\ W.cell? ⟨w3.heap.size, 2, none⟩ = some (Value.slice aD lD cD) /\ W.cell? ⟨w3.heap.size, 3, none⟩ = some (Value.slice aQ lQ cQ) /\ W.cell? ⟨w3.heap.size + 1, 0, none⟩ = some (Value.slice a1 l1 c1) /\ W.cell? ⟨w3.heap.size + 1, 1, none⟩ = some (Value.slice a2 l2 c2)) (first | with_reducible exact AP0.out | with_reducible exact AP4.out | with_reducible exact AP6.out) (fail)
 clear AP0 AP4 AP6 k0 k1 k2 k3 k4 k5 dz1 dz2 dz3 dz4 dz5 fz0 fz1 g0 g1 g2 g3 g4 g5
 generalize ((((((W4.setCell ⟨w.heap.size, 0, none⟩ (.slice aP lP cP)).setCell ⟨w.heap.size, 1, none⟩ (.slice aA lA cA)).setCell ⟨w.heap.size, 2, none⟩ (.slice aD lD cD)).setCell ⟨w.heap.size, 3, none⟩ (.slice aQ lQ cQ)).setCell ⟨w.heap.size + 1, 0, none⟩ (.slice a1 l1 c1)).setCell ⟨w.heap.size + 1, 1, none⟩ (.slice a2 l2 c2)) = W8 at AF ACF ⊢
 have k0 := AF.out.1
 have k1 := AF.out.2.1
 have k2 := AF.out.2.2.1
 have k3 := AF.out.2.2.2.1
 have k4 := AF.out.2.2.2.2.1
 have k5 := AF.out.2.2.2.2.2.1
 go_wp2
 simp [bodyPost, results, Tryz.results5, go_sem, k0, k1, k2, k3, k4, k5]
 obtain ⟨x1, x2, x3, x4, x5, x6⟩ := ACF.out
 exact ⟨_, _, _, _, _, _, _, _, _, _, _, _, _, _, _, _, _, _, ⟨⟨⟨rfl, rfl, rfl⟩, ⟨rfl, rfl, rfl⟩, ⟨rfl, rfl, rfl⟩, rfl, rfl, rfl⟩, ⟨rfl, rfl, rfl⟩, rfl, rfl, rfl⟩, ⟨x1.drew, x2.drew, x3.drew, x4.drew, x5.drew, x6.drew⟩, AF.out.2.2.2.2.2.2.drew⟩
end Go.Eng
namespace Go.Eng
open Go Go.RowKit Go.Proofs
set_option maxRecDepth 100000
theorem keep_8 {w W W' : World} {a0 a1 a2 a3 a4 a5 a6 a7 : Addr} {v0 v1 v2 v3 v4 v5 v6 v7 : Value} (h : W.cell? a0 = some v0 /\ W.cell? a1 = some v1 /\ W.cell? a2 = some v2 /\ W.cell? a3 = some v3 /\ W.cell? a4 = some v4 /\ W.cell? a5 = some v5 /\ W.cell? a6 = some v6 /\ W.cell? a7 = some v7 /\ Ext w W) (e : Ext W W') : W'.cell? a0 = some v0 /\ W'.cell? a1 = some v1 /\ W'.cell? a2 = some v2 /\ W'.cell? a3 = some v3 /\ W'.cell? a4 = some v4 /\ W'.cell? a5 = some v5 /\ W'.cell? a6 = some v6 /\ W'.cell? a7 = some v7 /\ Ext w W' := ⟨e.cell h.1, e.cell h.2.1, e.cell h.2.2.1, e.cell h.2.2.2.1, e.cell h.2.2.2.2.1, e.cell h.2.2.2.2.2.1, e.cell h.2.2.2.2.2.2.1, e.cell h.2.2.2.2.2.2.2.1, (h.2.2.2.2.2.2.2.2).trans e⟩
set_option maxHeartbeats 6400000 in
theorem alive_walk {pE : Pl} {w : World} (hG : Glob pE w) : Calls Tryz.prog 7 #[] w fun e w' => e = .returned (.bool true) /\ Ext w w' := by
 have h1 := edw_00 (c := 0) (by decide) rfl hG
 rw [show ((0 : Nat) : Int) = 0 from rfl] at h1
 go_enter Tryz.func7, Tryz.ntmps7
 go_upto_region 2 with (go_at_call 5; (with_reducible refine h1.mono ?_); rintro e w1 ⟨aP, lP, cP, aA, lA, cA, aD, lD, cD, aQ, lQ, cQ, a1, l1, c1, a2, l2, c2, rfl, hC, hE1⟩)
 clear h1
 obtain ⟨N, hN⟩ : ∃ N, N = w1.heap.size := ⟨_, rfl⟩
 obtain ⟨W2, hW2⟩ : ∃ W, W = (w1.alloc (.cells #[(.slice aP lP cP), (.slice aA lA cA), (.slice aD lD cD), (.slice aQ lQ cQ)] 31)).alloc (.cells #[(.slice a1 l1 c1), (.slice a2 l2 c2)] 33) := ⟨_, rfl⟩
 rw [<- hW2, <- hN]
 have hE2 : Ext w1 W2 := by rw [hW2]; exact ((Ext.refl _).alloc _).alloc _
 have g0 : W2.cell? ⟨N, 0, none⟩ = some (.slice aP lP cP) := by rw [hW2]; exact Ext.cell ((Ext.refl _).alloc _) (cell_al _ _ _ _ hN rfl)
 have g1 : W2.cell? ⟨N, 1, none⟩ = some (.slice aA lA cA) := by rw [hW2]; exact Ext.cell ((Ext.refl _).alloc _) (cell_al _ _ _ _ hN rfl)
 have g2 : W2.cell? ⟨N, 2, none⟩ = some (.slice aD lD cD) := by rw [hW2]; exact Ext.cell ((Ext.refl _).alloc _) (cell_al _ _ _ _ hN rfl)
 have g3 : W2.cell? ⟨N, 3, none⟩ = some (.slice aQ lQ cQ) := by rw [hW2]; exact Ext.cell ((Ext.refl _).alloc _) (cell_al _ _ _ _ hN rfl)
 have g4 : W2.cell? ⟨N + 1, 0, none⟩ = some (.slice a1 l1 c1) := by rw [hW2]; exact cell_al _ _ _ _ (by simp [hN]) rfl
 have g5 : W2.cell? ⟨N + 1, 1, none⟩ = some (.slice a2 l2 c2) := by rw [hW2]; exact cell_al _ _ _ _ (by simp [hN]) rfl
 have hGW := hG.ext (hE1.trans hE2)
 have hEW := hE1.trans hE2
 have hCW := hC.ext hE2
 have AC : Aside (Curv W2 (.slice aP lP cP) (.slice aA lA cA) (.slice aD lD cD) (.slice aQ lQ cQ) (.slice a1 l1 c1) (.slice a2 l2 c2)) := hCW
 have hts : ∀ W, Curv W (.slice aP lP cP) (.slice aA lA cA) (.slice aD lD cD) (.slice aQ lQ cQ) (.slice a1 l1 c1) (.slice a2 l2 c2) -> Calls Tryz.prog 11 #[.agg #[(.slice aP lP cP), (.slice aA lA cA), (.slice aD lD cD), (.slice aQ lQ cQ)], .agg #[(.slice a1 l1 c1), (.slice a2 l2 c2)]] W fun e w' => ∃ (b1 b2 : Nat), e = .returned (.agg #[.slice (some ⟨b1, 0, none⟩) 1 1, .slice (some ⟨b2, 0, none⟩) 1 1]) /\ w'.cell? ⟨b1, 0, none⟩ = some (.string (sOf TxX_s)) /\ w'.cell? ⟨b2, 0, none⟩ = some (.string (sOf TxY_s)) /\ (W.heap.size <= b1 /\ W.heap.size <= b2 /\ b1 ≠ b2 /\ (∀ o, w'.frozen? ⟨b1, o, none⟩ = false) /\ ∀ o, w'.frozen? ⟨b2, o, none⟩ = false) /\ Ext W w' :=
  fun W hW => (told_walk hW.2.2.2.2.1 (by decide) hW.2.2.2.2.2 (by decide)).mono fun e w' ⟨b1, b2, s1, s2, r1, r2, r3, r4, r5, r6, r7⟩ => by
   rw [sX r2] at r4
   rw [sY r3] at r5
   exact ⟨b1, b2, r1, r4, r5, r6, r7⟩
 have ht := hts W2 hCW
 clear hts hC hE1 hE2 hW2 hG hCW hN
 go_upto_region 4 with fail
 go_upto_region 5 with (first
  | (go_at_call 11; (with_reducible refine ht.mono ?_); rintro e w3 ⟨b1, b2, rfl, hc1, hc2, ⟨hb1, hb2, hne, hz1, hz2⟩, hE3⟩; have hd := double_call (pE := pE) (w0 := W2) (w := w3) hGW hE3 hb1 hb2 hne hc1 hc2 hz1 hz2; clear hc1 hc2 hb1 hb2 hne hz1 hz2)
  | (go_at_call 20; (with_reducible refine hd.mono ?_); rintro e w4 ⟨d1, o1, d2, o2, rfl, hx, hy, hE4⟩))
 clear hd hGW ht
 obtain ⟨M, hM⟩ : ∃ M, M = w4.heap.size := ⟨_, rfl⟩
 obtain ⟨W5, hW5⟩ : ∃ W, W = w4.alloc (.cells #[.slice (some ⟨d1, o1, none⟩) 1 1, .slice (some ⟨d2, o2, none⟩) 1 1] 24) := ⟨_, rfl⟩
 rw [<- hW5, <- hM]
 have hE5 : Ext w4 W5 := by rw [hW5]; exact (Ext.refl _).alloc _
 have m0 : W5.cell? ⟨M, 0, none⟩ = some (.slice (some ⟨d1, o1, none⟩) 1 1) := by rw [hW5]; exact cell_al _ _ _ _ hM rfl
 have m1 : W5.cell? ⟨M, 1, none⟩ = some (.slice (some ⟨d2, o2, none⟩) 1 1) := by rw [hW5]; exact cell_al _ _ _ _ hM rfl
 have hE25 := (hE3.trans hE4).trans hE5
 have n0 := hE25.cell g0
 have n1 := hE25.cell g1
 have n2 := hE25.cell g2
 have n3 := hE25.cell g3
 have n4 := hE25.cell g4
 have n5 := hE25.cell g5
 have hx5 := hE5.cell hx
 have hy5 := hE5.cell hy
 have hS5 : W5.cell? ⟨N, 0, none⟩ = some (Value.slice aP lP cP) /\ W5.cell? ⟨N, 1, none⟩ = some (Value.slice aA lA cA) /\ W5.cell? ⟨N, 2, none⟩ = some (Value.slice aD lD cD) /\ W5.cell? ⟨N, 3, none⟩ = some (Value.slice aQ lQ cQ) /\ W5.cell? ⟨N + 1, 0, none⟩ = some (Value.slice a1 l1 c1) /\ W5.cell? ⟨N + 1, 1, none⟩ = some (Value.slice a2 l2 c2) /\ W5.cell? ⟨M, 0, none⟩ = some (Value.slice (some ⟨d1, o1, none⟩) 1 1) /\ W5.cell? ⟨M, 1, none⟩ = some (Value.slice (some ⟨d2, o2, none⟩) 1 1) /\ Ext w W5 := ⟨n0, n1, n2, n3, n4, n5, m0, m1, hEW.trans hE25⟩
 have hS := keep_8 hS5 (Ext.refl _).drew
 have AK : Aside (W5.drew.cell? ⟨N, 0, none⟩ = some (Value.slice aP lP cP) /\ W5.drew.cell? ⟨N, 1, none⟩ = some (Value.slice aA lA cA) /\ W5.drew.cell? ⟨N, 2, none⟩ = some (Value.slice aD lD cD) /\ W5.drew.cell? ⟨N, 3, none⟩ = some (Value.slice aQ lQ cQ) /\ W5.drew.cell? ⟨N + 1, 0, none⟩ = some (Value.slice a1 l1 c1) /\ W5.drew.cell? ⟨N + 1, 1, none⟩ = some (Value.slice a2 l2 c2) /\ W5.drew.cell? ⟨M, 0, none⟩ = some (Value.slice (some ⟨d1, o1, none⟩) 1 1) /\ W5.drew.cell? ⟨M, 1, none⟩ = some (Value.slice (some ⟨d2, o2, none⟩) 1 1) /\ Ext w W5.drew) := hS
 have hC5 := (AC.out.ext hE25).ext (Ext.refl W5).drew
 have hp := Plus_core hC5.1 hC5.2.1 (by decide) hC5.2.2.1 (by decide) hC5.2.2.2.1 (by decide) hC5.2.2.2.2.1 (by decide) hC5.2.2.2.2.2 (by decide) hC5.2.2.2.2.1 (by decide) hC5.2.2.2.2.2 (by decide) (by rw [len_P]; decide) (by rw [len_P]; decide)
 rw [plus_base] at hp
 have ht : ∀ W (p1 : Option Addr) (i1 j1 : Nat) (p2 : Option Addr) (i2 j2 : Nat), Num W (.slice p1 i1 j1) nX2 -> Num W (.slice p2 i2 j2) nY2 -> Calls Tryz.prog 11 #[.agg #[(.slice aP lP cP), (.slice aA lA cA), (.slice aD lD cD), (.slice aQ lQ cQ)], .agg #[.slice p1 i1 j1, .slice p2 i2 j2]] W fun e w' => ∃ (b1 b2 : Nat), e = .returned (.agg #[.slice (some ⟨b1, 0, none⟩) 1 1, .slice (some ⟨b2, 0, none⟩) 1 1]) /\ w'.cell? ⟨b1, 0, none⟩ = some (.string (sOf Dx_s)) /\ w'.cell? ⟨b2, 0, none⟩ = some (.string (sOf Dy_s)) /\ Ext W w' :=
  fun W p1 i1 j1 p2 i2 j2 k1 k2 => (told_walk k1 (by decide) k2 (by decide)).mono fun e w' ⟨b1, b2, s1, s2, r1, r2, r3, r4, r5, r6, r7⟩ => by
   rw [sX2 r2] at r4
   rw [sY2 r3] at r5
   exact ⟨b1, b2, r1, r4, r5, r7⟩
 have Axy : Aside (W5.drew.cell? ⟨d1, o1, none⟩ = some (.string (sOf Dx_s)) /\ W5.drew.cell? ⟨d2, o2, none⟩ = some (.string (sOf Dy_s))) := ⟨drew_cell hx5, drew_cell hy5⟩
 clear hE3 hE4 hE5 hW5 hM hE25 g0 g1 g2 g3 g4 g5 n0 n1 n2 n3 n4 n5 m0 m1 hS hS5 hx hy hx5 hy5 hEW AC hC5
 go_region_held3 (fun W => W.cell? ⟨N, 0, none⟩ = some (Value.slice aP lP cP) /\ W.cell? ⟨N, 1, none⟩ = some (Value.slice aA lA cA) /\ W.cell? ⟨N, 2, none⟩ = some (Value.slice aD lD cD) /\ W.cell? ⟨N, 3, none⟩ = some (Value.slice aQ lQ cQ) /\ W.cell? ⟨N + 1, 0, none⟩ = some (Value.slice a1 l1 c1) /\ W.cell? ⟨N + 1, 1, none⟩ = some (Value.slice a2 l2 c2) /\ W.cell? ⟨M, 0, none⟩ = some (Value.slice (some ⟨d1, o1, none⟩) 1 1) /\ W.cell? ⟨M, 1, none⟩ = some (Value.slice (some ⟨d2, o2, none⟩) 1 1) /\ Ext w W) (first | with_reducible exact AK.out | with_reducible assumption) (first
  | (go_at_call 21; (with_reducible refine hp.mono ?_); rintro e w6 ⟨p1, i1, j1, p2, i2, j2, rfl, k1, k2, hE6⟩; have h7 := ht w6 p1 i1 j1 p2 i2 j2 k1 k2; have hk6 := keep_8 AK.out hE6)
  | (go_at_call 11; (with_reducible refine h7.mono ?_); rintro e w7 ⟨b3, b4, rfl, k3, k4, hE7⟩; have h10 := same_eq ((hE6.trans hE7).cell Axy.out.1) ((hE6.trans hE7).cell Axy.out.2) k3 k4; have hk7 := keep_8 hk6 hE7)
  | (go_at_call 10; (with_reducible refine h10.mono ?_); rintro e w8 ⟨rfl, hE8⟩; have hk8 := keep_8 hk7 hE8))
 have hfin := hk8.2.2.2.2.2.2.2.2
 clear hk6 hk7 hk8 AK hp ht h7 h10 Axy
 go_wp2
 simp [bodyPost, results, Tryz.results7, go_sem]
 exact hfin
end Go.Eng
