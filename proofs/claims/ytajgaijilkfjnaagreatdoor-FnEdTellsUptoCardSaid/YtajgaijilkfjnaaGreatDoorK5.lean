/-
 Whole numbers of the program: a text read, and made an element of the field.
-/
import Derived.Test.YtajgaijilkfjnaaGreatDoorK3
import Derived.Test.YtajgaijilkfjnaaGreatDoorA5
set_option linter.unusedVariables false
set_option linter.unusedSimpArgs false
namespace Go.Eng
open Go Go.RowKit Go.Proofs
set_option maxRecDepth 100000
set_option maxHeartbeats 1600000 in
theorem bits_walk {b o l c : Nat} {a : Option Addr} {w : World} (h : w.cell? ⟨b, o + 1, none⟩ = some (.slice a l c)) :
  Calls Tryz.prog 139 #[.pointer (some ⟨b, o, none⟩)] w fun e w' => e = .returned (.slice a l c) /\ w' = w := by
 go_enter Tryz.func139, Tryz.ntmps139
 go_wp2
 go_ret
 exact ⟨rfl, rfl⟩
theorem step_z {zb zo i : Nat} {w : World} {d : Nat -> Nat} (hi : i < 4) (hc : ∀ k, k < 4 -> w.cell? ⟨zb, zo + k, none⟩ = some (.int .u64 ((if k < i then d k else 0 : Nat) : Int))) :
  ∀ k, k < 4 -> (w.setCell ⟨zb, zo + i, none⟩ (.int .u64 (d i : Int))).cell? ⟨zb, zo + k, none⟩ = some (.int .u64 ((if k < i + 1 then d k else 0 : Nat) : Int)) := by
 intro k hk
 by_cases h : k = i
 ·subst h
  rw [World.cell?_setCell_same _ _ _ (hc k hk), if_pos (by omega)]
 ·rw [World.cell?_setCell_other _ _ _ _ (by simp [h]), hc k hk]
  by_cases h2 : k < i
  ·rw [if_pos h2, if_pos (by omega)]
  ·rw [if_neg h2, if_neg (by omega)]
set_option maxHeartbeats 3200000 in
theorem setbig_core {zb zo b o vb vo l c N : Nat} {w : World} {a : Option Addr} (hl : l <= 4) (hb : w.cell? ⟨b, o + 1, none⟩ = some (.slice a l c)) (ha : 0 < l -> a = some ⟨vb, vo, none⟩) (hv : ∀ j, j < l -> w.cell? ⟨vb, vo + j, none⟩ = some (.int .u64 (dw N j : Int)))
  (hz : ∀ k, k < 4 -> w.cell? ⟨zb, zo + k, none⟩ = some (.int .u64 0)) (hu : unfr w zb) (hzv : zb ≠ vb) {Q : Ending -> World -> Prop}
  (hm : ∀ W, But zb w W -> (∀ k, k < 4 -> W.cell? ⟨zb, zo + k, none⟩ = some (.int .u64 ((if k < l then dw N k else 0 : Nat) : Int))) -> unfr W zb -> Calls Tryz.prog 140 #[.pointer (some ⟨zb, zo, none⟩)] W Q) (hQ : ∀ e W, Q e W -> e = .returned (.pointer (some ⟨zb, zo, none⟩))) :
  Calls Tryz.prog 112 #[.pointer (some ⟨zb, zo, none⟩), .pointer (some ⟨b, o, none⟩)] w Q := by
 have hbits := bits_walk hb
 have AM : Aside (∀ W, But zb w W -> (∀ k, k < 4 -> W.cell? ⟨zb, zo + k, none⟩ = some (.int .u64 ((if k < l then dw N k else 0 : Nat) : Int))) -> unfr W zb -> Calls Tryz.prog 140 #[.pointer (some ⟨zb, zo, none⟩)] W Q) := hm
 have AQ : Aside (∀ e W, Q e W -> e = .returned (.pointer (some ⟨zb, zo, none⟩))) := hQ
 clear hm hQ
 go_enter Tryz.func112, Tryz.ntmps112
 go_wp2_with (go_at_call 139; (with_reducible refine hbits.mono ?_); rintro e w1 ⟨rfl, hw1⟩; rw [hw1]; clear hw1)
 go_loopg [12] l (fun g s wr => ∃ i : Nat, g = l - i /\ i <= l /\ s = .int .i64 (i : Int) /\ But zb w wr /\ unfr wr zb /\ ∀ k, k < 4 -> wr.cell? ⟨zb, zo + k, none⟩ = some (.int .u64 ((if k < i then dw N k else 0 : Nat) : Int)))
 case atStart =>
  refine ⟨0, rfl, Nat.zero_le _, rfl, But.refl zb w, hu, fun k hk => ?_⟩
  rw [if_neg (by omega)]
  exact hz k hk
 case round =>
  obtain ⟨i, hgi, hi, rfl, hB, hur, hc⟩ := hrel
  by_cases hil : i < l
  ·have hili : (i : Int) < (l : Int) := by omega
   obtain rfl := ha (by omega)
   have g0 : wr.cell? ⟨vb, vo + i, none⟩ = some (.int .u64 (dw N i : Int)) := hB.cell (fun e => hzv e.symm) (hv i hil)
   have g1 : ∃ x, wr.cell? ⟨zb, zo + i, none⟩ = some x := ⟨_, hc i (by omega)⟩
   obtain ⟨x, g1⟩ := g1
   have g2 : wr.frozen? ⟨zb, zo + i, none⟩ = false := hur _
   have hi4 : (i : Int) < 4 := by omega
   have hinc : IntKind.i64.wrap ((i : Int) + 1) = ((i + 1 : Nat) : Int) := by rw [IntKind.wrap_i64]; omega
   have AH : Aside ((∀ k, k < 4 -> wr.cell? ⟨zb, zo + k, none⟩ = some (.int .u64 ((if k < i then dw N k else 0 : Nat) : Int))) /\ But zb w wr /\ i < l /\ l <= 4 /\ gk = l - i /\ unfr wr zb /\ (∀ j, j < l -> w.cell? ⟨vb, vo + j, none⟩ = some (.int .u64 (dw N j : Int)))) := ⟨hc, hB, hil, hl, hgi, hur, hv⟩
   obtain ⟨dd, hdd⟩ : ∃ d, d = dw N i := ⟨_, rfl⟩
   rw [<- hdd] at g0
   have AD : Aside (dd = dw N i) := hdd
   clear hc hB hdd hil hl hgi hv hz hur hu ha
   go_wp2
   go_region
   go_wp2
   go_roundg (l - (i + 1))
   case measure =>
    go_light
    obtain ⟨q1, q2, q3, q4, q5, q6, q7⟩ := AH.out
    omega
   case rel =>
    go_light
    obtain ⟨q1, q2, q3, q4, q5, q6, q7⟩ := AH.out
    refine ⟨i + 1, rfl, by omega, by first | rfl | simp, (q2.set _ _).drew, fun x => ?_, ?_⟩
    ·show (wr.setCell _ _).frozen? _ = false
     rw [World.frozen?_setCell]
     exact q6 x
    ·show ∀ k, k < 4 -> (wr.setCell _ _).cell? _ = _
     rw [AD.out]
     exact step_z (by omega) q1
  ·have hil' : i = l := by omega
   subst hil'
   have hlt : ¬ (i : Int) < (i : Int) := by omega
   have hmm := AM.out wr hB hc hur
   clear hc hv hz hur hu ha hgi hi hil
   go_wp2_with (go_at_call 140; (with_reducible refine hmm.mono ?_); rintro e w2 he; obtain rfl := AQ.out _ _ he)
   exact he
end Go.Eng
namespace Go.Eng
open Go Go.RowKit Go.Proofs
set_option maxRecDepth 100000
theorem put_but (w : World) (zb zo c : Nat) (v0 v1 v2 v3 : Value) : But zb w (putCells w ⟨zb, zo, c⟩ [v0, v1, v2, v3]) := by
 simp only [putCells]
 exact ((((But.refl zb w).set _ _).set _ _).set _ _).set _ _
theorem put4_words {w w' : World} {zb zo Z : Nat} (h : Put4 w ⟨zb, zo, 0⟩ Z w') (hc : ∀ k, k < 4 -> ∃ v, w.cell? ⟨zb, zo + k, none⟩ = some v) : Words w' ⟨zb, zo, 0⟩ Z := by
 obtain ⟨z0, z1, z2, z3, a0, a1, a2, a3, hv, hE⟩ := h
 exact ⟨z0, z1, z2, z3, a0, a1, a2, a3, hv, fun j v hj => hE.cell (putCells_cellsAt w ⟨zb, zo, 0⟩ [.int .u64 (z0 : Int), .int .u64 (z1 : Int), .int .u64 (z2 : Int), .int .u64 (z3 : Int)] (fun k hk => hc k hk) j v hj)⟩
theorem put4_fr {w w' : World} {zb zo Z : Nat} (h : Put4 w ⟨zb, zo, 0⟩ Z w') : Fr zb w.heap.size w w' := by
 obtain ⟨z0, z1, z2, z3, a0, a1, a2, a3, hv, hE⟩ := h
 have hB := put_but w zb zo 0 (.int .u64 (z0 : Int)) (.int .u64 (z1 : Int)) (.int .u64 (z2 : Int)) (.int .u64 (z3 : Int))
 exact ⟨hE.os.trans hB.os, hE.tape.trans hB.tape, hE.output.trans hB.output, by rw [<- hB.size]; exact hE.size, fun i hi hr => (hE.block i (by rw [hB.size]; exact hi)).trans (hB.block i hr)⟩
theorem put4_unfr {w w' : World} {zb zo Z : Nat} (h : Put4 w ⟨zb, zo, 0⟩ Z w') (hu : unfr w zb) (hz : zb < w.heap.size) : unfr w' zb := by
 obtain ⟨z0, z1, z2, z3, a0, a1, a2, a3, hv, hE⟩ := h
 intro o
 rw [hE.frozenE (by rw [putCells_size]; exact hz), putCells_frozen]
 exact hu o
theorem glob_pos {pE : Pl} {w : World} (hG : Glob pE w) : 0 < w.heap.size := by
 have := hG.1 (0, 0, [ui 1997599621687373223, ui 6052339484930628067, ui 10108755138030829701, ui 150537098327114917]) (by simp [gR, rdG]) 0 _ rfl
 exact Nat.lt_of_le_of_lt (Nat.zero_le _) (lt_of_cell2 this)
theorem frQ_words {N : Nat} (hN : N < frQ) : nlw N <= 4 /\ val4 (dw N 0) (dw N 1) (dw N 2) (dw N 3) = N := by
 have h4 : N < wq ^ 4 := Nat.lt_trans hN (by decide)
 refine ⟨nlw_le h4, ?_⟩
 have h := valW_dw N 4
 rw [Nat.mod_eq_of_lt h4] at h
 have e0 : wq ^ 0 = 1 := rfl
 have e1 : wq ^ 1 = 18446744073709551616 := by decide
 have e2 : wq ^ 2 = 340282366920938463463374607431768211456 := by decide
 have e3 : wq ^ 3 = 6277101735386680763835789423207666416102355444464034512896 := by decide
 simp only [valW, e0, e1, e2, e3, Nat.zero_add, Nat.mul_one] at h
 exact h
theorem setbig_walk {pE : Pl} {zb zo ib N B0 : Nat} {w0 w : World} (hI : IntW w ib N B0) (hN : N < frQ) (hz : ∀ k, k < 4 -> w.cell? ⟨zb, zo + k, none⟩ = some (.int .u64 0)) (hu : unfr w zb) (hzB : zb < B0) (hG : Glob pE w0) (hE0 : Ext w0 w) (hz0 : w0.heap.size <= zb) :
  Calls Tryz.prog 112 #[.pointer (some ⟨zb, zo, none⟩), .pointer (some ⟨ib, 0, none⟩)] w fun e w' => e = .returned (.pointer (some ⟨zb, zo, none⟩)) /\ ∃ Z, Z < frQ /\ frR * Z % frQ = N * rSq % frQ /\ Words w' ⟨zb, zo, 0⟩ Z /\ unfr w' zb /\ Fr zb w.heap.size w w' := by
 have hzw : zb < w.heap.size := lt_of_cell2 (hz 0 (by decide))
 obtain ⟨c0, ⟨v, c1, hv⟩, hui⟩ := hI
 obtain ⟨hl, hval⟩ := frQ_words hN
 have hgo : ∀ (a : Option Addr) (vb c : Nat), v = .slice a (nlw N) c -> (0 < nlw N -> a = some ⟨vb, 0, none⟩) -> (∀ j, j < nlw N -> w.cell? ⟨vb, 0 + j, none⟩ = some (.int .u64 (dw N j : Int))) -> zb ≠ vb ->
   Calls Tryz.prog 112 #[.pointer (some ⟨zb, zo, none⟩), .pointer (some ⟨ib, 0, none⟩)] w fun e w' => e = .returned (.pointer (some ⟨zb, zo, none⟩)) /\ ∃ Z, Z < frQ /\ frR * Z % frQ = N * rSq % frQ /\ Words w' ⟨zb, zo, 0⟩ Z /\ unfr w' zb /\ Fr zb w.heap.size w w' := by
  intro a vb c hva ha hd hne
  subst hva
  refine setbig_core hl c1 ha hd hz hu hne (fun W hB hW huW => ?_) (fun e W h => h.1)
  have hX : Words W ⟨zb, zo, 0⟩ N := by
   refine ⟨dw N 0, dw N 1, dw N 2, dw N 3, dw_lt N 0, dw_lt N 1, dw_lt N 2, dw_lt N 3, hval, fun j u hj => ?_⟩
   have key : ∀ k, k < 4 -> W.cell? ⟨zb, zo + k, none⟩ = some (.int .u64 (dw N k : Int)) := fun k hk => by
    rw [hW k hk]
    by_cases h : k < nlw N
    ·rw [if_pos h]
    ·rw [if_neg h, dw_zero_of_le (by omega)]
   match j, hj with
   | 0, hj => cases hj; exact key 0 (by decide)
   | 1, hj => cases hj; exact key 1 (by decide)
   | 2, hj => cases hj; exact key 2 (by decide)
   | 3, hj => cases hj; exact key 3 (by decide)
  have hGW : Glob pE W := hG.ext (hB.ext hE0 hz0)
  refine (tomont_walk hX huW hGW (by have := glob_pos hG; omega)).mono ?_
  rintro e w' ⟨k1, Z, k2, k3, k4⟩
  have hF := put4_fr k4
  refine ⟨k1, Z, k2, k3, put4_words k4 (fun k hk => ⟨_, hW k hk⟩), put4_unfr k4 huW (by rw [hB.size]; exact hzw), ⟨hF.os.trans hB.os, hF.tape.trans hB.tape, hF.output.trans hB.output, by rw [<- hB.size]; exact hF.size, fun i hi hr => (hF.block i (by rw [hB.size]; exact hi) hr).trans (hB.block i hr)⟩⟩
 rcases hv with ⟨h1, h2⟩ | ⟨vb, c, e, h1, h2, h3, h4, h5, h6, h7⟩
 ·refine hgo none (zb + 1) 0 (by rw [h1, h2]; rfl) (fun h => absurd h (by rw [h2]; decide)) (fun j hj => absurd hj (by rw [h2, nlw_zero]; omega)) (by omega)
 ·exact hgo _ vb c h1 (fun _ => rfl) (fun j hj => by rw [Nat.zero_add, <- h7 j hj]; exact h6.cell (by omega)) (by omega)
end Go.Eng
namespace Go.Eng
open Go Go.RowKit Go.Proofs
set_option maxRecDepth 100000
theorem IntW.ext {w w' : World} {ib N B0 : Nat} (h : IntW w ib N B0) (k : Ext w w') : IntW w' ib N B0 := by
 obtain ⟨c0, ⟨v, c1, hv⟩, hu⟩ := h
 exact ⟨k.cell c0, ⟨v, k.cell c1, hv.ext k⟩, fun x => by rw [k.frozenE (lt_of_cell2 c0)]; exact hu x⟩
theorem sz_walk {bz oz : Nat} {w : World} (hz : ∀ k, k < 4 -> ∃ x : Int, w.cell? ⟨bz, oz + k, none⟩ = some (.int .u64 x)) (hu : unfr w bz) :
  Calls Tryz.prog 110 #[.pointer (some ⟨bz, oz, none⟩)] w fun e w' => e = .returned (.pointer (some ⟨bz, oz, none⟩)) /\ But bz w w' /\ (∀ k, k < 4 -> w'.cell? ⟨bz, oz + k, none⟩ = some (.int .u64 0)) /\ unfr w' bz := by
 obtain ⟨x0, h0⟩ := hz 0 (by decide)
 obtain ⟨x1, h1⟩ := hz 1 (by decide)
 obtain ⟨x2, h2⟩ := hz 2 (by decide)
 obtain ⟨x3, h3⟩ := hz 3 (by decide)
 refine (setzero_walk h0 h1 h2 h3 hu).mono ?_
 rintro e w' ⟨k1, rfl⟩
 have hP := putCells_cellsAt w ⟨bz, oz, 0⟩ [.int .u64 0, .int .u64 0, .int .u64 0, .int .u64 0] (fun k hk => by obtain ⟨x, hx⟩ := hz k hk; exact ⟨_, hx⟩)
 refine ⟨k1, ((((But.refl bz w).set _ _).set _ _).set _ _).set _ _, fun k hk => ?_, fun o => by simp only [World.frozen?_setCell]; exact hu o⟩
 match k, hk with
 | 0, _ => exact hP 0 _ rfl
 | 1, _ => exact hP 1 _ rfl
 | 2, _ => exact hP 2 _ rfl
 | 3, _ => exact hP 3 _ rfl
theorem icmp_lt {w : World} {b o b' o' N M : Nat} (h1 : IntQ w b o N) (h2 : IntQ w b' o' M) (hb : b ≠ b') (hl : nlw N <= 100000) (h : N < M) :
  Calls Tryz.prog 111 #[.pointer (some ⟨b, o, none⟩), .pointer (some ⟨b', o', none⟩)] w fun e w' => e = .returned (.int .i64 (-1)) /\ Ext w w' :=
 (icmp_walk h1 h2 hb hl).mono fun e w' ⟨k1, k2⟩ => ⟨by rw [k1, cmpN, if_pos h], k2⟩
theorem icmp_zero {w : World} {b o b' o' N : Nat} (h1 : IntQ w b o N) (h2 : IntQ w b' o' 0) (hb : b ≠ b') (hl : nlw N <= 100000) :
  Calls Tryz.prog 111 #[.pointer (some ⟨b, o, none⟩), .pointer (some ⟨b', o', none⟩)] w fun e w' => ∃ c : Int, e = .returned (.int .i64 c) /\ (c != -1) = true /\ Ext w w' :=
 (icmp_walk h1 h2 hb hl).mono fun e w' ⟨k1, k2⟩ => ⟨_, k1, by
  rw [cmpN, if_neg (Nat.not_lt_zero _)]
  by_cases h : N = 0
  ·rw [if_pos h]; rfl
  ·rw [if_neg h]; rfl, k2⟩
set_option maxHeartbeats 3200000 in
theorem setBI_walk {pE : Pl} {zb zo ib N B0 : Nat} {w0 w : World} (hI : IntW w ib N B0) (hN : N < frQ) (hz : ∀ k, k < 4 -> ∃ x : Int, w.cell? ⟨zb, zo + k, none⟩ = some (.int .u64 x)) (hu : unfr w zb) (hzB : zb < B0) (hiz : ib ≠ zb) (hG : Glob pE w0) (hE0 : Ext w0 w) (hz0 : w0.heap.size <= zb) :
  Calls Tryz.prog 84 #[.pointer (some ⟨zb, zo, none⟩), .pointer (some ⟨ib, 0, none⟩)] w fun e w' => e = .returned (.pointer (some ⟨zb, zo, none⟩)) /\ ∃ Z, Z < frQ /\ frR * Z % frQ = N * rSq % frQ /\ Words w' ⟨zb, zo, 0⟩ Z /\ unfr w' zb /\ Fr zb w.heap.size w w' := by
 have hzw : zb < w.heap.size := by
  obtain ⟨x, hx⟩ := hz 0 (by decide)
  exact lt_of_cell2 hx
 have hiw : ib < w.heap.size := lt_of_cell2 hI.1
 have hnl : nlw N <= 100000 := Nat.le_trans (frQ_words hN).1 (by decide)
 have hsz := sz_walk hz hu
 have AP : Aside (IntW w ib N B0 /\ N < frQ /\ zb < B0 /\ ib ≠ zb /\ Glob pE w0 /\ Ext w0 w /\ w0.heap.size <= zb /\ zb < w.heap.size /\ ib < w.heap.size /\ nlw N <= 100000) := ⟨hI, hN, hzB, hiz, hG, hE0, hz0, hzw, hiw, hnl⟩
 have hmod : ∀ w1 o1, But zb w w1 -> Calls Tryz.prog 68 #[] (w1.alloc o1) fun e w' => ∃ b o, w1.heap.size + 1 <= b /\ e = .returned (.pointer (some ⟨b, o, none⟩)) /\ IntQ w' b o frQ /\ Ext (w1.alloc o1) w' := fun w1 o1 hB => by
  have := mod56_call (hG.ext ((hB.ext hE0 hz0).alloc o1))
  rw [size_al] at this
  exact this
 have hcmp1 : ∀ w1 o1 w3 b o, But zb w w1 -> Ext (w1.alloc o1) w3 -> w1.heap.size + 1 <= b -> IntQ w3 b o frQ -> Calls Tryz.prog 111 #[.pointer (some ⟨ib, 0, none⟩), .pointer (some ⟨b, o, none⟩)] w3 fun e w' => e = .returned (.int .i64 (-1)) /\ Ext w3 w' := fun w1 o1 w3 b o hB hE hb hM => by
  have h1 : IntW w3 ib N B0 := (hI.but hB hiz hzB).ext (((Ext.refl w1).alloc o1).trans hE)
  exact icmp_lt h1.q hM (by rw [hB.size] at hb; omega) hnl hN
 have hcmp2 : ∀ w1 w3 w4, But zb w w1 -> Ext (w1.alloc (.cells #[.bool false, .slice none 0 0] 73)) w3 -> Ext w3 w4 -> Calls Tryz.prog 111 #[.pointer (some ⟨ib, 0, none⟩), .pointer (some ⟨w1.heap.size, 0, none⟩)] w4 fun e w' => ∃ c : Int, e = .returned (.int .i64 c) /\ (c != -1) = true /\ Ext w4 w' := fun w1 w3 w4 hB hE hE4 => by
  have h1 : IntW w4 ib N B0 := (hI.but hB hiz hzB).ext ((((Ext.refl w1).alloc _).trans hE).trans hE4)
  have h2 : IntQ (w1.alloc (.cells #[.bool false, .slice none 0 0] 73)) w1.heap.size 0 0 := ⟨(cell_new w1 _ _ 0).trans rfl, ⟨_, (cell_new w1 _ _ 1).trans rfl, ⟨none, 0, 0, 0, rfl, fun h => absurd h (by decide), fun j hj => absurd hj (by rw [nlw_zero]; omega)⟩⟩, fun o => frozen_new w1 _ _ _⟩
  exact icmp_zero h1.q (h2.ext (hE.trans hE4)) (by rw [hB.size]; omega) hnl
 have hset : ∀ w1 o1 w5, But zb w w1 -> (∀ k, k < 4 -> w1.cell? ⟨zb, zo + k, none⟩ = some (.int .u64 0)) -> unfr w1 zb -> Ext (w1.alloc o1) w5 -> Calls Tryz.prog 112 #[.pointer (some ⟨zb, zo, none⟩), .pointer (some ⟨ib, 0, none⟩)] w5 fun e w' => e = .returned (.pointer (some ⟨zb, zo, none⟩)) /\ ∃ Z, Z < frQ /\ frR * Z % frQ = N * rSq % frQ /\ Words w' ⟨zb, zo, 0⟩ Z /\ unfr w' zb /\ Fr zb w.heap.size w w' := fun w1 o1 w5 hB hz1 hu1 hE => by
  have hE1 : Ext w1 w5 := ((Ext.refl w1).alloc o1).trans hE
  have h1 : IntW w5 ib N B0 := (hI.but hB hiz hzB).ext hE1
  refine (setbig_walk h1 hN (fun k hk => hE1.cell (hz1 k hk)) (fun o => by rw [hE1.frozenE (by rw [hB.size]; exact hzw)]; exact hu1 o) hzB hG ((hB.ext hE0 hz0).trans hE1) hz0).mono ?_
  rintro e w' ⟨k1, Z, k2, k3, k4, k5, k6⟩
  refine ⟨k1, Z, k2, k3, k4, k5, k6.os.trans (hE1.os.trans hB.os), k6.tape.trans (hE1.tape.trans hB.tape), k6.output.trans (hE1.output.trans hB.output), Nat.le_trans (by rw [<- hB.size]; exact hE1.size) k6.size, fun i hi hr => ?_⟩
  have hi1 : i < w1.heap.size := by rw [hB.size]; exact hi
  exact (k6.block i (Nat.lt_of_lt_of_le hi1 hE1.size) hr).trans ((hE1.block i hi1).trans (hB.block i hr))
 clear hI hN hz hu hzB hiz hG hE0 hz0 hzw hiw hnl
 go_enter Tryz.func84, Tryz.ntmps84
 go_wp2_with (first
  | (go_at_call 110; (with_reducible refine hsz.mono ?_); rintro e w1 ⟨rfl, hB1, hz1, hu1⟩)
  | (go_at_call 68; (with_reducible refine (hmod w1 _ hB1).mono ?_); rintro e w3 ⟨mb, mo, hmb, rfl, hM, hE3⟩)
  | (go_at_call 111; (with_reducible refine (hcmp1 w1 _ w3 mb mo hB1 hE3 hmb hM).mono ?_); rintro e w4 ⟨rfl, hE4⟩)
  | (go_at_call 111; (with_reducible refine (hcmp2 w1 w3 w4 hB1 hE3 hE4).mono ?_); rintro e w5 ⟨c, rfl, hne, hE5⟩)
  | (go_at_call 112; (with_reducible refine (hset w1 _ w5 hB1 hz1 hu1 ((hE3.trans hE4).trans hE5)).mono ?_); rintro e w6 ⟨rfl, h6⟩))
 go_ret
 exact ⟨rfl, h6⟩
end Go.Eng
namespace Go.Eng
open Go Go.RowKit Go.Proofs
set_option maxRecDepth 100000
theorem glob_eof {pE : Pl} {w : World} (hG : Glob pE w) : w.cell? ⟨2, 0, none⟩ = some (.iface 181 (.pointer (some ⟨pE.b, pE.o + 0, none⟩))) /\ 2 < w.heap.size := by
 have h := hG.1 (3, 0, [.ifc 181 (.ptr 4 0)]) (by simp [gR, rdG]) 0 _ rfl
 exact ⟨h, lt_of_cell2 h⟩
set_option maxHeartbeats 3200000 in
theorem frof_walk {pE : Pl} {w : World} {s : ByteArray} (hG : Glob pE w) (hs0 : 0 < s.size) (hs : s.size <= 1000) (hd : ∀ k, k < s.size -> 48 <= byt s k /\ byt s k <= 57) (hN : rdN s s.size < frQ) :
  Calls Tryz.prog 52 #[.string s] w fun e w' => ∃ z0 z1 z2 z3 : Nat, e = .returned (.agg #[.int .u64 (z0 : Int), .int .u64 (z1 : Int), .int .u64 (z2 : Int), .int .u64 (z3 : Int)]) /\ z0 < 18446744073709551616 /\ z1 < 18446744073709551616 /\ z2 < 18446744073709551616 /\ z3 < 18446744073709551616 /\ val4 z0 z1 z2 z3 < frQ /\ frR * val4 z0 z1 z2 z3 % frQ = rdN s s.size * rSq % frQ /\ Ext w w' := by
 have hwh : ∀ o1, Calls Tryz.prog 85 #[.string s] (w.alloc o1) fun e w' => e = .returned (.pointer (some ⟨w.heap.size + 1, 0, none⟩)) /\ IntW w' (w.heap.size + 1) (rdN s s.size) (w.heap.size + 1 + 1) /\ Ext (w.alloc o1) w' := fun o1 => by
  have hG1 := hG.ext ((Ext.refl w).alloc o1)
  have := whole_walk hs0 hs hd (glob_eof hG1).1 (glob_eof hG1).2
  rw [size_al] at this
  exact this
 have hset : ∀ w2, IntW w2 (w.heap.size + 1) (rdN s s.size) (w.heap.size + 1 + 1) -> Ext (w.alloc (.cells #[.int .u64 0, .int .u64 0, .int .u64 0, .int .u64 0] 69)) w2 -> Calls Tryz.prog 84 #[.pointer (some ⟨w.heap.size, 0, none⟩), .pointer (some ⟨w.heap.size + 1, 0, none⟩)] w2 fun e w' => e = .returned (.pointer (some ⟨w.heap.size, 0, none⟩)) /\ ∃ z0 z1 z2 z3 : Nat, (z0 < 18446744073709551616 /\ z1 < 18446744073709551616 /\ z2 < 18446744073709551616 /\ z3 < 18446744073709551616 /\ val4 z0 z1 z2 z3 < frQ /\ frR * val4 z0 z1 z2 z3 % frQ = rdN s s.size * rSq % frQ /\ Ext w w') /\ w'.cell? ⟨w.heap.size, 0, none⟩ = some (.int .u64 (z0 : Int)) /\ w'.cell? ⟨w.heap.size, 1, none⟩ = some (.int .u64 (z1 : Int)) /\ w'.cell? ⟨w.heap.size, 2, none⟩ = some (.int .u64 (z2 : Int)) /\ w'.cell? ⟨w.heap.size, 3, none⟩ = some (.int .u64 (z3 : Int)) /\ unfr w' w.heap.size := fun w2 hI hE => by
  have hz : ∀ k, k < 4 -> ∃ x : Int, w2.cell? ⟨w.heap.size, 0 + k, none⟩ = some (.int .u64 x) := fun k hk => ⟨0, hE.cell (by
   rw [Nat.zero_add, cell_new]
   match k, hk with
   | 0, _ => rfl
   | 1, _ => rfl
   | 2, _ => rfl
   | 3, _ => rfl)⟩
  have hsz := hE.size
  rw [size_al] at hsz
  refine (setBI_walk hI hN hz (fun o => by rw [hE.frozenE (by rw [size_al]; omega)]; exact frozen_new _ _ _ _) (by omega) (by omega) hG (((Ext.refl w).alloc _).trans hE) (Nat.le_refl _)).mono ?_
  rintro e w' ⟨k1, Z, k2, k3, ⟨z0, z1, z2, z3, a0, a1, a2, a3, hv, hc⟩, k5, k6⟩
  subst hv
  have hE2 : Ext w w2 := ((Ext.refl w).alloc _).trans hE
  exact ⟨k1, z0, z1, z2, z3, ⟨a0, a1, a2, a3, k2, k3, k6.os.trans hE2.os, k6.tape.trans hE2.tape, k6.output.trans hE2.output, Nat.le_trans hE2.size k6.size, fun i hi => (k6.block i (by omega) (by omega)).trans (hE2.block i hi)⟩, hc 0 _ rfl, hc 1 _ rfl, hc 2 _ rfl, hc 3 _ rfl, k5⟩
 clear hG hN hd
 go_enter Tryz.func52, Tryz.ntmps52
 go_wp2_with (first
  | (go_at_call 85; (with_reducible refine (hwh _).mono ?_); rintro e w2 ⟨rfl, hI2, hE2⟩)
  | (go_at_call 84; (with_reducible refine (hset w2 hI2 hE2).mono ?_); rintro e w3 ⟨rfl, z0, z1, z2, z3, h3, g0, g1, g2, g3, hu3⟩; have f0 := hu3 0; have f1 := hu3 1; have f2 := hu3 2; have f3 := hu3 3))
 have hP := putCells_cellsAt w3 ⟨w.heap.size, 0, 0⟩ [.int .u64 (z0 : Int), .int .u64 (z1 : Int), .int .u64 (z2 : Int), .int .u64 (z3 : Int)] (fun k hk => by
  match k, hk with
  | 0, _ => exact ⟨_, g0⟩
  | 1, _ => exact ⟨_, g1⟩
  | 2, _ => exact ⟨_, g2⟩
  | 3, _ => exact ⟨_, g3⟩)
 have k0 : ((((w3.setCell ⟨w.heap.size, 0, none⟩ (.int .u64 (z0 : Int))).setCell ⟨w.heap.size, 1, none⟩ (.int .u64 (z1 : Int))).setCell ⟨w.heap.size, 2, none⟩ (.int .u64 (z2 : Int))).setCell ⟨w.heap.size, 3, none⟩ (.int .u64 (z3 : Int))).cell? ⟨w.heap.size, 0, none⟩ = some (.int .u64 (z0 : Int)) := hP 0 _ rfl
 have k1 : ((((w3.setCell ⟨w.heap.size, 0, none⟩ (.int .u64 (z0 : Int))).setCell ⟨w.heap.size, 1, none⟩ (.int .u64 (z1 : Int))).setCell ⟨w.heap.size, 2, none⟩ (.int .u64 (z2 : Int))).setCell ⟨w.heap.size, 3, none⟩ (.int .u64 (z3 : Int))).cell? ⟨w.heap.size, 1, none⟩ = some (.int .u64 (z1 : Int)) := hP 1 _ rfl
 have k2 : ((((w3.setCell ⟨w.heap.size, 0, none⟩ (.int .u64 (z0 : Int))).setCell ⟨w.heap.size, 1, none⟩ (.int .u64 (z1 : Int))).setCell ⟨w.heap.size, 2, none⟩ (.int .u64 (z2 : Int))).setCell ⟨w.heap.size, 3, none⟩ (.int .u64 (z3 : Int))).cell? ⟨w.heap.size, 2, none⟩ = some (.int .u64 (z2 : Int)) := hP 2 _ rfl
 have k3 : ((((w3.setCell ⟨w.heap.size, 0, none⟩ (.int .u64 (z0 : Int))).setCell ⟨w.heap.size, 1, none⟩ (.int .u64 (z1 : Int))).setCell ⟨w.heap.size, 2, none⟩ (.int .u64 (z2 : Int))).setCell ⟨w.heap.size, 3, none⟩ (.int .u64 (z3 : Int))).cell? ⟨w.heap.size, 3, none⟩ = some (.int .u64 (z3 : Int)) := hP 3 _ rfl
 obtain ⟨b0, b1, b2, b3, b4, b5, b6⟩ := h3
 have AE : Aside (Ext w ((((w3.setCell ⟨w.heap.size, 0, none⟩ (.int .u64 (z0 : Int))).setCell ⟨w.heap.size, 1, none⟩ (.int .u64 (z1 : Int))).setCell ⟨w.heap.size, 2, none⟩ (.int .u64 (z2 : Int))).setCell ⟨w.heap.size, 3, none⟩ (.int .u64 (z3 : Int)))) := World.Since.setCell (World.Since.setCell (World.Since.setCell (World.Since.setCell b6 (a := ⟨w.heap.size, 0, none⟩) (Nat.le_refl _) _) (a := ⟨w.heap.size, 1, none⟩) (Nat.le_refl _) _) (a := ⟨w.heap.size, 2, none⟩) (Nat.le_refl _) _) (a := ⟨w.heap.size, 3, none⟩) (Nat.le_refl _) _
 clear hP g0 g1 g2 g3 f0 f1 f2 f3 hu3
 generalize ((((w3.setCell ⟨w.heap.size, 0, none⟩ (.int .u64 (z0 : Int))).setCell ⟨w.heap.size, 1, none⟩ (.int .u64 (z1 : Int))).setCell ⟨w.heap.size, 2, none⟩ (.int .u64 (z2 : Int))).setCell ⟨w.heap.size, 3, none⟩ (.int .u64 (z3 : Int))) = W9 at k0 k1 k2 k3 AE ⊢
 simp [bodyPost, results, Tryz.results52, go_sem, k0, k1, k2, k3]
 exact ⟨z0, z1, z2, z3, ⟨rfl, rfl, rfl, rfl⟩, b0, b1, b2, b3, b4, b5, AE.out⟩
end Go.Eng
namespace Go.Eng
open Go Go.RowKit Go.Proofs
set_option maxRecDepth 100000
def W4 (w : World) (b o X : Nat) : Prop := ∃ x0 x1 x2 x3 : Nat, (x0 < 18446744073709551616 /\ x1 < 18446744073709551616 /\ x2 < 18446744073709551616 /\ x3 < 18446744073709551616 /\ val4 x0 x1 x2 x3 = X) /\ w.cell? ⟨b, o, none⟩ = some (.int .u64 (x0 : Int)) /\ w.cell? ⟨b, o + 1, none⟩ = some (.int .u64 (x1 : Int)) /\ w.cell? ⟨b, o + 2, none⟩ = some (.int .u64 (x2 : Int)) /\ w.cell? ⟨b, o + 3, none⟩ = some (.int .u64 (x3 : Int))
theorem W4.words {w : World} {b o X : Nat} (h : W4 w b o X) : Words w ⟨b, o, 0⟩ X := by
 obtain ⟨x0, x1, x2, x3, ⟨a0, a1, a2, a3, hv⟩, c0, c1, c2, c3⟩ := h
 refine ⟨x0, x1, x2, x3, a0, a1, a2, a3, hv, fun j v hj => ?_⟩
 match j, hj with
 | 0, hj => cases hj; exact c0
 | 1, hj => cases hj; exact c1
 | 2, hj => cases hj; exact c2
 | 3, hj => cases hj; exact c3
theorem put4_facts {w w0 : World} {b o : Nat} {z0 z1 z2 z3 : Nat} (hc : ∀ k, k < 4 -> ∃ v, w.cell? ⟨b, o + k, none⟩ = some v) (hE : Ext w0 w) (hb : w0.heap.size <= b) :
  (∀ W, W = (((w.setCell ⟨b, o, none⟩ (.int .u64 (z0 : Int))).setCell ⟨b, o + 1, none⟩ (.int .u64 (z1 : Int))).setCell ⟨b, o + 2, none⟩ (.int .u64 (z2 : Int))).setCell ⟨b, o + 3, none⟩ (.int .u64 (z3 : Int)) -> Ext w0 W /\ (W.cell? ⟨b, o, none⟩ = some (.int .u64 (z0 : Int)) /\ W.cell? ⟨b, o + 1, none⟩ = some (.int .u64 (z1 : Int)) /\ W.cell? ⟨b, o + 2, none⟩ = some (.int .u64 (z2 : Int)) /\ W.cell? ⟨b, o + 3, none⟩ = some (.int .u64 (z3 : Int))) /\ (∀ x v, w.cell? ⟨b, x, none⟩ = some v -> (x < o \/ o + 4 <= x) -> W.cell? ⟨b, x, none⟩ = some v) /\ (∀ a, W.frozen? a = w.frozen? a) /\ But b w W) := by
 rintro W rfl
 have hP := putCells_cellsAt w ⟨b, o, 0⟩ [.int .u64 (z0 : Int), .int .u64 (z1 : Int), .int .u64 (z2 : Int), .int .u64 (z3 : Int)] (fun k hk => hc k hk)
 refine ⟨World.Since.setCell (World.Since.setCell (World.Since.setCell (World.Since.setCell hE (a := ⟨b, o, none⟩) hb _) (a := ⟨b, o + 1, none⟩) hb _) (a := ⟨b, o + 2, none⟩) hb _) (a := ⟨b, o + 3, none⟩) hb _, ⟨hP 0 _ rfl, hP 1 _ rfl, hP 2 _ rfl, hP 3 _ rfl⟩, fun x v hx ho => ?_, fun a => by simp only [World.frozen?_setCell], ?_⟩
 ·exact putCells_cell_out [.int .u64 (z0 : Int), .int .u64 (z1 : Int), .int .u64 (z2 : Int), .int .u64 (z3 : Int)] w ⟨b, o, 0⟩ b x v hx (.inr ho)
 ·exact put_but w b o 0 (.int .u64 (z0 : Int)) (.int .u64 (z1 : Int)) (.int .u64 (z2 : Int)) (.int .u64 (z3 : Int))
structure Txt (s : ByteArray) : Prop where
 pos : 0 < s.size
 le : s.size <= 1000
 dig : ∀ k, k < s.size -> 48 <= byt s k /\ byt s k <= 57
 lt : rdN s s.size < frQ
set_option maxHeartbeats 3200000 in
theorem edpoint_walk {pE : Pl} {w : World} {xb xo cx yb yo cy : Nat} {sx sy : ByteArray} (hG : Glob pE w) (hx : w.cell? ⟨xb, xo, none⟩ = some (.string sx)) (hy : w.cell? ⟨yb, yo, none⟩ = some (.string sy)) (tx : Txt sx) (ty : Txt sy) :
  Calls Tryz.prog 24 #[.agg #[.slice (some ⟨xb, xo, none⟩) 1 cx, .slice (some ⟨yb, yo, none⟩) 1 cy]] w fun e w' => e = .returned (.pointer (some ⟨w.heap.size + 1, 0, none⟩)) /\ ∃ X Y, X < frQ /\ Y < frQ /\ frR * X % frQ = rdN sx sx.size * rSq % frQ /\ frR * Y % frQ = rdN sy sy.size * rSq % frQ /\ W4 w' (w.heap.size + 1) 0 X /\ W4 w' (w.heap.size + 1) 4 Y /\ unfr w' (w.heap.size + 1) /\ Ext w w' := by
 have hf : ∀ s, Txt s -> ∀ W, Ext w W -> Calls Tryz.prog 52 #[.string s] W fun e w' => ∃ z0 z1 z2 z3 : Nat, e = .returned (.agg #[.int .u64 (z0 : Int), .int .u64 (z1 : Int), .int .u64 (z2 : Int), .int .u64 (z3 : Int)]) /\ (z0 < 18446744073709551616 /\ z1 < 18446744073709551616 /\ z2 < 18446744073709551616 /\ z3 < 18446744073709551616 /\ val4 z0 z1 z2 z3 < frQ /\ frR * val4 z0 z1 z2 z3 % frQ = rdN s s.size * rSq % frQ) /\ Ext W w' := fun s ts W hE =>
  (frof_walk (hG.ext hE) ts.pos ts.le ts.dig ts.lt).mono fun e w' ⟨z0, z1, z2, z3, h, a0, a1, a2, a3, a4, a5, a6⟩ => ⟨z0, z1, z2, z3, h, ⟨a0, a1, a2, a3, a4, a5⟩, a6⟩
 have hfx := hf sx tx
 have hfy := hf sy ty
 clear hf tx ty hG
 obtain ⟨B, hB⟩ : ∃ B, B = (w.alloc (.cells #[.slice (some ⟨xb, xo, none⟩) 1 cx, .slice (some ⟨yb, yo, none⟩) 1 cy] 24)).alloc (.cells #[.int .u64 0, .int .u64 0, .int .u64 0, .int .u64 0, .int .u64 0, .int .u64 0, .int .u64 0, .int .u64 0] 75) := ⟨_, rfl⟩
 have hEB : Ext w B := by rw [hB]; exact ((Ext.refl w).alloc _).alloc _
 have hBs : B.heap.size = w.heap.size + 1 + 1 := by rw [hB, size_al, size_al]
 have b0 : B.cell? ⟨w.heap.size, 0, none⟩ = some (.slice (some ⟨xb, xo, none⟩) 1 cx) := by rw [hB]; exact Ext.cell ((Ext.refl _).alloc _) ((cell_new w _ _ 0).trans rfl)
 have b1 : B.cell? ⟨w.heap.size, 1, none⟩ = some (.slice (some ⟨yb, yo, none⟩) 1 cy) := by rw [hB]; exact Ext.cell ((Ext.refl _).alloc _) ((cell_new w _ _ 1).trans rfl)
 have hzB : ∀ k, k < 8 -> B.cell? ⟨w.heap.size + 1, k, none⟩ = some (.int .u64 0) := fun k hk => by
  have h := cell_new (w.alloc (.cells #[.slice (some ⟨xb, xo, none⟩) 1 cx, .slice (some ⟨yb, yo, none⟩) 1 cy] 24)) #[.int .u64 0, .int .u64 0, .int .u64 0, .int .u64 0, .int .u64 0, .int .u64 0, .int .u64 0, .int .u64 0] 75 k
  rw [size_al] at h
  rw [hB, h]
  match k, hk with
  | 0, _ => rfl
  | 1, _ => rfl
  | 2, _ => rfl
  | 3, _ => rfl
  | 4, _ => rfl
  | 5, _ => rfl
  | 6, _ => rfl
  | 7, _ => rfl
 have huB : unfr B (w.heap.size + 1) := fun o => by
  have h := frozen_new (w.alloc (.cells #[.slice (some ⟨xb, xo, none⟩) 1 cx, .slice (some ⟨yb, yo, none⟩) 1 cy] 24)) #[.int .u64 0, .int .u64 0, .int .u64 0, .int .u64 0, .int .u64 0, .int .u64 0, .int .u64 0, .int .u64 0] 75 o
  rw [size_al] at h
  rw [hB]
  exact h
 have hxB := hEB.cell hx
 have AB : Aside (Ext w B /\ B.heap.size = w.heap.size + 1 + 1 /\ (∀ k, k < 8 -> B.cell? ⟨w.heap.size + 1, k, none⟩ = some (.int .u64 0)) /\ unfr B (w.heap.size + 1) /\ B.cell? ⟨w.heap.size, 1, none⟩ = some (.slice (some ⟨yb, yo, none⟩) 1 cy)) := ⟨hEB, hBs, hzB, huB, b1⟩
 have AY : Aside (w.cell? ⟨yb, yo, none⟩ = some (.string sy)) := hy
 have hcx := hfx B hEB
 clear hfx hEB hBs hzB huB hx hy b1
 go_enter Tryz.func24, Tryz.ntmps24
 go_upto_region 2 with fail
 rw [<- hB]
 clear hB
 go_upto_region 4 with (first
  | (go_at_call 52; (with_reducible refine hcx.mono ?_); rintro e w3 ⟨z0, z1, z2, z3, rfl, hz, hE3⟩; obtain ⟨q1, q2, q3, q4, q5⟩ := AB.out; have e0 := hE3.cell (q3 0 (by decide)); have e1 := hE3.cell (q3 1 (by decide)); have e2 := hE3.cell (q3 2 (by decide)); have e3 := hE3.cell (q3 3 (by decide)); have u3 : unfr w3 (w.heap.size + 1) := (fun o => (hE3.frozenE (by omega)).trans (q4 o)); have f0 := u3 0; have f1 := u3 1; have f2 := u3 2; have f3 := u3 3; clear q1 q2 q3 q4 q5))
 obtain ⟨q1, q2, q3, q4, q5⟩ := AB.out
 have hC := put4_facts (w := w3) (w0 := w) (b := w.heap.size + 1) (o := 0) (z0 := z0) (z1 := z1) (z2 := z2) (z3 := z3) (fun k hk => ⟨_, hE3.cell (q3 (0 + k) (by omega))⟩) (q1.trans hE3) (Nat.le_succ _)
 clear e0 e1 e2 e3 f0 f1 f2 f3
 generalize hCe : (((w3.setCell ⟨w.heap.size + 1, 0, none⟩ (.int .u64 (z0 : Int))).setCell ⟨w.heap.size + 1, 1, none⟩ (.int .u64 (z1 : Int))).setCell ⟨w.heap.size + 1, 2, none⟩ (.int .u64 (z2 : Int))).setCell ⟨w.heap.size + 1, 3, none⟩ (.int .u64 (z3 : Int)) = C
 obtain ⟨hEC, hcc, hout, hfrz, hbut⟩ := hC C hCe.symm
 clear hC hCe
 have d1 : C.cell? ⟨w.heap.size, 1, none⟩ = some (.slice (some ⟨yb, yo, none⟩) 1 cy) := hbut.cell (by omega) (hE3.cell q5)
 have dy := hEC.cell AY.out
 have hCs : w.heap.size + 1 + 1 <= C.heap.size := by rw [hbut.size, <- q2]; exact hE3.size
 have hzC : ∀ k, 4 <= k -> k < 8 -> C.cell? ⟨w.heap.size + 1, k, none⟩ = some (.int .u64 0) := fun k h4 h8 => hout k _ (hE3.cell (q3 k h8)) (.inr (by omega))
 have huC : unfr C (w.heap.size + 1) := fun o => (hfrz _).trans ((hE3.frozenE (by omega)).trans (q4 o))
 have AC : Aside (Ext w C /\ w.heap.size + 1 + 1 <= C.heap.size /\ (∀ k, 4 <= k -> k < 8 -> C.cell? ⟨w.heap.size + 1, k, none⟩ = some (.int .u64 0)) /\ unfr C (w.heap.size + 1) /\ (C.cell? ⟨w.heap.size + 1, 0, none⟩ = some (.int .u64 (z0 : Int)) /\ C.cell? ⟨w.heap.size + 1, 0 + 1, none⟩ = some (.int .u64 (z1 : Int)) /\ C.cell? ⟨w.heap.size + 1, 0 + 2, none⟩ = some (.int .u64 (z2 : Int)) /\ C.cell? ⟨w.heap.size + 1, 0 + 3, none⟩ = some (.int .u64 (z3 : Int))) /\ (z0 < 18446744073709551616 /\ z1 < 18446744073709551616 /\ z2 < 18446744073709551616 /\ z3 < 18446744073709551616 /\ val4 z0 z1 z2 z3 < frQ /\ frR * val4 z0 z1 z2 z3 % frQ = rdN sx sx.size * rSq % frQ)) := ⟨hEC, hCs, hzC, huC, hcc, hz⟩
 have hcy := hfy C hEC
 clear hEC hcc hout hfrz hbut hCs hzC huC hz q1 q2 q3 q4 q5 hE3 hcx u3 hfy b0 hxB
 go_upto_region 6 with (first
  | (go_at_call 52; (with_reducible refine hcy.mono ?_); rintro e w5 ⟨y0, y1, y2, y3, rfl, hy, hE5⟩; obtain ⟨q1, q2, q3, q4, q5⟩ := AC.out; have e0 := hE5.cell (q3 4 (by decide) (by decide)); have e1 := hE5.cell (q3 5 (by decide) (by decide)); have e2 := hE5.cell (q3 6 (by decide) (by decide)); have e3 := hE5.cell (q3 7 (by decide) (by decide)); have u5 : unfr w5 (w.heap.size + 1) := (fun o => (hE5.frozenE (by omega)).trans (q4 o)); have f0 := u5 4; have f1 := u5 5; have f2 := u5 6; have f3 := u5 7; clear q1 q2 q3 q4 q5))
 obtain ⟨q1, q2, q3, q4, q5, q6⟩ := AC.out
 have hC := put4_facts (w := w5) (w0 := w) (b := w.heap.size + 1) (o := 4) (z0 := y0) (z1 := y1) (z2 := y2) (z3 := y3) (fun k hk => ⟨_, hE5.cell (q3 (4 + k) (by omega) (by omega))⟩) (q1.trans hE5) (Nat.le_succ _)
 clear e0 e1 e2 e3 f0 f1 f2 f3
 generalize hCe : (((w5.setCell ⟨w.heap.size + 1, 4, none⟩ (.int .u64 (y0 : Int))).setCell ⟨w.heap.size + 1, 5, none⟩ (.int .u64 (y1 : Int))).setCell ⟨w.heap.size + 1, 6, none⟩ (.int .u64 (y2 : Int))).setCell ⟨w.heap.size + 1, 7, none⟩ (.int .u64 (y3 : Int)) = W9
 obtain ⟨hEC, hcc, hout, hfrz, hbut⟩ := hC W9 hCe.symm
 have AZ : Aside (∃ X Y, X < frQ /\ Y < frQ /\ frR * X % frQ = rdN sx sx.size * rSq % frQ /\ frR * Y % frQ = rdN sy sy.size * rSq % frQ /\ W4 W9 (w.heap.size + 1) 0 X /\ W4 W9 (w.heap.size + 1) 4 Y /\ unfr W9 (w.heap.size + 1) /\ Ext w W9) := by
  obtain ⟨a0, a1, a2, a3, a4, a5⟩ := q6
  obtain ⟨c0, c1, c2, c3, c4, c5⟩ := hy
  obtain ⟨g0, g1, g2, g3⟩ := q5
  refine ⟨val4 z0 z1 z2 z3, val4 y0 y1 y2 y3, a4, c4, a5, c5, ⟨z0, z1, z2, z3, ⟨a0, a1, a2, a3, rfl⟩, hout _ _ (hE5.cell g0) (.inl (by omega)), hout _ _ (hE5.cell g1) (.inl (by omega)), hout _ _ (hE5.cell g2) (.inl (by omega)), hout _ _ (hE5.cell g3) (.inl (by omega))⟩, ⟨y0, y1, y2, y3, ⟨c0, c1, c2, c3, rfl⟩, hcc.1, hcc.2.1, hcc.2.2.1, hcc.2.2.2⟩, fun o => (hfrz _).trans (u5 o), hEC⟩
 clear hC hCe hEC hcc hout hfrz hbut q1 q2 q3 q4 q5 q6 hE5 hcy hy u5
 go_wp2
 go_ret
 exact ⟨rfl, AZ.out⟩
end Go.Eng
namespace Go.Eng
open Go Go.RowKit Go.Proofs
set_option maxRecDepth 100000
noncomputable section
def dMon : Nat := val4 6646055716850200973 5818136639301699252 5153091176140793461 3485775570252447889
def dNum : Nat := 12181644023421730124874158521699555681764249180949974110617291017600649128846
theorem dMon_lt : dMon < frQ := by decide
theorem dMon_eq : frR * dMon % frQ = dNum * rSq % frQ := by kernel_rfl
def r53 : R := leaves0 al53 (.one (.ptr 5 0))
theorem params_call {pE : Pl} {w : World} (hG : Glob pE w) :
  Calls Tryz.prog 56 #[] w fun e w' => ∃ b o, w.heap.size <= b /\ e = .returned (.pointer (some ⟨b, o, none⟩)) /\ W4 w' b (o + 4) dMon /\ Ext w w' := by
 have h53 : Tryz.prog.funcs[56]? = some Tryz.f56 /\ (Tryz.f56.name == "runtime.NumGoroutine") = false := fnOK (by kernel_rfl)
 have hb53 : Tryz.f56.body.isSome = true := by kernel_rfl
 obtain ⟨e1, e2, e3⟩ := cxD_e H4 14
 have hs := inlOf_spec m53
 have hK : (cxD H4 14).K = base.K := by simp only [Cx.K, e2]
 have hpre : PreE base (fun _ => 0) (phiG pE) w r53 := hG
 have hc0 := inl_call (cxD_good H4_sound 14) (by rw [e1]; exact follows) (fun f fn hf => by rw [e1]; exact fnOK hf) hs (fun _ => 0) (phiG pE) w (PreE_congr e2.symm e3.symm hpre)
 rw [hK, e1] at hc0
 have conv : ∀ v w', (∃ φ', PostE (cxD H4 14) (fun _ => 0) (phiG pE) w r53 φ' w' /\ v = r53.res.den base.K (fun _ => 0) φ') -> ∃ φ', PostE base (fun _ => 0) (phiG pE) w r53 φ' w' /\ v = r53.res.den base.K (fun _ => 0) φ' :=
  fun v w' ⟨φ', k1, k2⟩ => ⟨φ', PostE_congr e2 k1, k2⟩
 have hc1 : CallOK Tryz.prog 56 (([] : List V).map (V.den base.K (fun _ => 0) (phiG pE))).toArray w fun v w' => ∃ φ', PostE base (fun _ => 0) (phiG pE) w r53 φ' w' /\ v = r53.res.den base.K (fun _ => 0) φ' := by
  rcases hc0 with ⟨v, w', a1, a2⟩ | ⟨a1, a2⟩
  ·exact .inl ⟨v, w', a1, conv v w' a2⟩
  ·exact .inr ⟨a1, a2.mono fun e w' ⟨v, b1, b2⟩ => ⟨v, b1, conv v w' b2⟩⟩
 have hc := calls_of_callOK h53.1 h53.2 hb53 hc1
 refine Calls.mono hc ?_
 rintro e w' ⟨v, rfl, φ', ⟨_, q2, q3, q4⟩, rfl⟩
 have x1 := q2 (5, [ui 10902020042510041094, ui 17381486299841078119, ui 5900175412809962030, ui 2475245527108272378, ui 6646055716850200973, ui 5818136639301699252, ui 5153091176140793461, ui 3485775570252447889, ui 15919580070977470422, ui 7456804417079314474, ui 14039004331458920631, ui 1120025383951644967,
  bi 0, .slc 6 0 4 6, ui 14618782056632371323, ui 5992435339054521061, ui 12517119095181850726, ui 1044896724294057353, ui 13273025996719784362, ui 3458468709990918855, ui 13810176743432447525, ui 1007545854286121840]) (by simp [r53, leaves0, al53])
 exact ⟨(φ' 5).b, (φ' 5).o + 0, x1.1, rfl, ⟨6646055716850200973, 5818136639301699252, 5153091176140793461, 3485775570252447889, ⟨by decide, by decide, by decide, by decide, rfl⟩, x1.2.2.1 4 _ rfl, x1.2.2.1 5 _ rfl, x1.2.2.1 6 _ rfl, x1.2.2.1 7 _ rfl⟩, ⟨q4.os, q4.tape, q4.output, q4.size, q4.block⟩⟩
end
end Go.Eng
namespace Go.Eng
set_option maxRecDepth 100000
def IsM (X x : Nat) : Prop := X < frQ /\ X % frQ = x * frR % frQ
theorem mcm {a b c d : Nat} (h : a % frQ = b % frQ) (k : c % frQ = d % frQ) : a * c % frQ = b * d % frQ := by rw [Nat.mul_mod, h, k, <- Nat.mul_mod]
theorem mca {a b c d : Nat} (h : a % frQ = b % frQ) (k : c % frQ = d % frQ) : (a + c) % frQ = (b + d) % frQ := by rw [Nat.add_mod, h, k, <- Nat.add_mod]
theorem mri : frRi * frR % frQ = 1 % frQ := by decide
theorem mcancel {Z T : Nat} (h : frR * Z % frQ = T % frQ) : Z % frQ = frRi * T % frQ := by
 have h1 : frRi * frR * Z % frQ = 1 * Z % frQ := mcm mri rfl
 rw [Nat.one_mul, Nat.mul_assoc] at h1
 rw [<- h1]
 exact mcm rfl h
theorem rsq_eq : rSq % frQ = frR * frR % frQ := by decide
theorem isM_of {X x : Nat} (hX : X < frQ) (h : frR * X % frQ = x * rSq % frQ) : IsM X x := by
 refine ⟨hX, ?_⟩
 rw [mcancel h]
 have h1 : frRi * (x * rSq) % frQ = frRi * (x * (frR * frR)) % frQ := mcm rfl (mcm rfl rsq_eq)
 have h2 : frRi * (x * (frR * frR)) = frRi * frR * (x * frR) := by ac_rfl
 have h3 : frRi * frR * (x * frR) % frQ = 1 * (x * frR) % frQ := mcm mri rfl
 rw [h1, h2, h3, Nat.one_mul]
theorem isM_mul {X Y Z x y : Nat} (hX : IsM X x) (hY : IsM Y y) (hZ : Z < frQ) (h : frR * Z % frQ = X * Y % frQ) : IsM Z (x * y) := by
 refine ⟨hZ, ?_⟩
 rw [mcancel h]
 have h1 : frRi * (X * Y) % frQ = frRi * (x * frR * (y * frR)) % frQ := mcm rfl (mcm hX.2 hY.2)
 have h2 : frRi * (x * frR * (y * frR)) = frRi * frR * (x * y * frR) := by ac_rfl
 have h3 : frRi * frR * (x * y * frR) % frQ = 1 * (x * y * frR) % frQ := mcm mri rfl
 rw [h1, h2, h3, Nat.one_mul]
theorem frQ_pos : 0 < frQ := by decide
theorem isM_add {X Y x y : Nat} (hX : IsM X x) (hY : IsM Y y) : IsM ((X + Y) % frQ) (x + y) := by
 refine ⟨Nat.mod_lt _ frQ_pos, ?_⟩
 rw [Nat.mod_mod, mca hX.2 hY.2, Nat.add_mul]
theorem isM_neg {X x : Nat} (hX : IsM X x) : IsM ((frQ - X) % frQ) ((frQ - 1) * x) := by
 refine ⟨Nat.mod_lt _ frQ_pos, ?_⟩
 rw [Nat.mod_mod]
 have h1 : (frQ - 1) * x * frR % frQ = (frQ - 1) * X % frQ := by
  rw [Nat.mul_assoc]
  exact mcm rfl hX.2.symm
 rw [h1]
 have h2 : (frQ - 1) * X + X = frQ * X := by
  have : frQ - 1 + 1 = frQ := by decide
  rw [<- Nat.succ_mul, Nat.succ_eq_add_one, this]
 have h3 : frQ - X + X = frQ := Nat.sub_add_cancel (Nat.le_of_lt hX.1)
 have h4 : (frQ - X + X) % frQ = ((frQ - 1) * X + X) % frQ := by rw [h2, h3, Nat.mul_mod_right, Nat.mod_self]
 have hl := hX.1
 generalize (frQ - 1) * X = U at h4 ⊢
 have hq := frQ_pos
 generalize frQ = q at *
 have k1 : (q - X + X) % q = 0 := by rw [h3, Nat.mod_self]
 rw [k1] at h4
 by_cases hX0 : X = 0
 ·subst hX0
  rw [Nat.sub_zero, Nat.mod_self]
  exact h4
 ·have k2 : (q - X) % q = q - X := Nat.mod_eq_of_lt (by omega)
  have k3 : (U % q + X) % q = 0 := by rw [Nat.add_mod, Nat.mod_mod, <- Nat.add_mod]; exact h4.symm
  have k4 : U % q < q := Nat.mod_lt _ hq
  rw [k2]
  by_cases hs : U % q + X < q
  ·rw [Nat.mod_eq_of_lt hs] at k3; omega
  ·have k5 : (U % q + X) % q = U % q + X - q := by
    rw [Nat.mod_eq_sub_mod (by omega), Nat.mod_eq_of_lt (by omega)]
   omega
theorem isM_eq {X Y x y : Nat} (hX : IsM X x) (hY : IsM Y y) : X = Y ↔ x % frQ = y % frQ := by
 constructor
 ·rintro rfl
  have h1 : x * frR % frQ = y * frR % frQ := hX.2.symm.trans hY.2
  have h2 : ∀ z, z * frR * frRi % frQ = z % frQ := fun z => by
   have : z * frR * frRi = frRi * frR * z := by ac_rfl
   rw [this]
   have := mcm mri (rfl : z % frQ = z % frQ)
   rwa [Nat.one_mul] at this
  rw [<- h2 x, <- h2 y]
  exact mcm h1 rfl
 ·intro h
  have h1 := hX.2.trans ((mcm h rfl).trans hY.2.symm)
  rwa [Nat.mod_eq_of_lt hX.1, Nat.mod_eq_of_lt hY.1] at h1
theorem isM_one : IsM (frR % frQ) 1 := ⟨Nat.mod_lt _ frQ_pos, by rw [Nat.mod_mod, Nat.one_mul]⟩
end Go.Eng
namespace Go.Eng
set_option maxRecDepth 100000
theorem cmp_zero {U V : Nat} : (cmpN U V == 0) = decide (U = V) := by
 unfold cmpN
 by_cases h : U < V
 ·rw [if_pos h]
  have : ¬ U = V := by omega
  simp [this]
 ·rw [if_neg h]
  by_cases h2 : U = V
  ·simp [h2]
  ·simp [h2]
theorem mmd (a : Nat) : a % frQ % frQ = a % frQ := Nat.mod_mod _ _
theorem on_law {T3 T4 x y : Nat} (h3 : IsM T3 ((frQ - 1) * (x * x) + y * y)) (h4 : IsM T4 (1 + x * x * y * y * dNum)) : onN frQ (frQ - 1) dNum x y = decide (T3 = T4) := by
 unfold onN
 rw [cmp_zero]
 have e1 : ((frQ - 1) * (x * x % frQ) % frQ + y * y % frQ) % frQ = ((frQ - 1) * (x * x) + y * y) % frQ := by
  refine mca ?_ (mmd _)
  rw [mmd]
  exact mcm rfl (mmd _)
 have e2 : (1 + dNum * (x * x % frQ * (y * y % frQ) % frQ) % frQ) % frQ = (1 + x * x * y * y * dNum) % frQ := by
  refine mca rfl ?_
  rw [mmd]
  have h1 : dNum * (x * x % frQ * (y * y % frQ) % frQ) % frQ = dNum * (x * x * (y * y)) % frQ := mcm rfl (by rw [mmd]; exact mcm (mmd _) (mmd _))
  have h2 : dNum * (x * x * (y * y)) = x * x * y * y * dNum := by ac_rfl
  rw [h1, h2]
 rw [e1, e2]
 exact decide_eq_decide.2 (isM_eq h3 h4).symm
end Go.Eng
