/-
 A point of two texts: on the curve or not, 0 or not, equal to itself.
-/
import Derived.Laws.Bits64
import Derived.Deep.Quiet
import Derived.Deep.QuietTactic
import Derived.Test.YtajgaijilkfjnaaGreatDoorB1
import Derived.Test.YtajgaijilkfjnaaGreatDoorK5
import Derived.Test.YtajgaijilkfjnaaGreatDoorB2
import Derived.Test.YtajgaijilkfjnaaGreatDoorF1
import Derived.Test.YtajgaijilkfjnaaGreatDoorF3
import Derived.Test.YtajgaijilkfjnaaGreatDoorD5
import Derived.Test.YtajgaijilkfjnaaGreatDoorB4
set_option linter.unusedVariables false
set_option linter.unusedSimpArgs false
namespace Go.Eng
set_option maxRecDepth 100000
theorem rdN_ge {s : ByteArray} (h0 : 49 <= (s.data.getD 0 0).toNat) : ∀ k, 10 ^ k <= rdN s (k + 1)
 | 0 => by
   have h1 : rdN s 1 = 0 * 10 + ((s.data.getD 0 0).toNat - 48) := rfl
   rw [h1, Nat.pow_zero]
   omega
 | k + 1 => by
   have h1 := rdN_ge h0 k
   have h2 : rdN s (k + 1 + 1) = rdN s (k + 1) * 10 + ((s.data.getD (k + 1) 0).toNat - 48) := rfl
   rw [h2, Nat.pow_succ]
   omega
theorem txt_of {s : ByteArray} (hc : Canon s) (hlt : rdN s s.size < frQ) : Txt s := by
 obtain ⟨h0, hd, hz⟩ := hc
 refine ⟨h0, ?_, hd, hlt⟩
 rcases hz with h1 | h1
 ·omega
 ·have h2 := (hd 0 h0).1
  have h3 := rdN_ge (s := s) (by omega) (s.size - 1)
  rw [show s.size - 1 + 1 = s.size by omega] at h3
  refine Nat.le_of_not_lt fun hgt => ?_
  have h4 : 10 ^ 77 <= 10 ^ (s.size - 1) := Nat.pow_le_pow_right (by decide) (by omega)
  have h5 : frQ < 10 ^ 77 := by decide
  exact absurd (Nat.lt_of_lt_of_le h5 (Nat.le_trans h4 h3)) (Nat.lt_asymm hlt)
end Go.Eng
namespace Go.Eng
open Go Go.RowKit Go.Proofs
set_option maxRecDepth 100000
set_option maxHeartbeats 3200000 in
theorem same_eqG {b1 o1 k1 b2 o2 k2 b3 o3 k3 b4 o4 k4 : Nat} {s1 s2 : ByteArray} {w : World} (h1 : w.cell? ⟨b1, o1, none⟩ = some (.string s1)) (h2 : w.cell? ⟨b2, o2, none⟩ = some (.string s2)) (h3 : w.cell? ⟨b3, o3, none⟩ = some (.string s1)) (h4 : w.cell? ⟨b4, o4, none⟩ = some (.string s2)) :
  Calls Tryz.prog 10 #[.agg #[.slice (some ⟨b1, o1, none⟩) 1 k1, .slice (some ⟨b2, o2, none⟩) 1 k2], .agg #[.slice (some ⟨b3, o3, none⟩) 1 k3, .slice (some ⟨b4, o4, none⟩) 1 k4]] w fun e w' => e = .returned (.bool true) /\ Ext w w' := by
 obtain ⟨B, hB⟩ : ∃ B, B = ((w.alloc (.cells #[.slice (some ⟨b1, o1, none⟩) 1 k1, .slice (some ⟨b2, o2, none⟩) 1 k2] 24)).alloc (.cells #[.slice (some ⟨b3, o3, none⟩) 1 k3, .slice (some ⟨b4, o4, none⟩) 1 k4] 24)) := ⟨_, rfl⟩
 have hEB : Ext w B := by rw [hB]; exact ((Ext.refl _).alloc _).alloc _
 have c00 : B.cell? ⟨w.heap.size, 0, none⟩ = some (.slice (some ⟨b1, o1, none⟩) 1 k1) := by
  rw [hB]; exact Ext.cell ((Ext.refl _).alloc _) (cell_al _ _ _ _ (by simp) rfl)
 have c01 : B.cell? ⟨w.heap.size, 1, none⟩ = some (.slice (some ⟨b2, o2, none⟩) 1 k2) := by
  rw [hB]; exact Ext.cell ((Ext.refl _).alloc _) (cell_al _ _ _ _ (by simp) rfl)
 have c10 : B.cell? ⟨w.heap.size + 1, 0, none⟩ = some (.slice (some ⟨b3, o3, none⟩) 1 k3) := by
  rw [hB]; exact cell_al _ _ _ _ (by simp) rfl
 have c11 : B.cell? ⟨w.heap.size + 1, 1, none⟩ = some (.slice (some ⟨b4, o4, none⟩) 1 k4) := by
  rw [hB]; exact cell_al _ _ _ _ (by simp) rfl
 replace h1 := hEB.cell h1
 replace h2 := hEB.cell h2
 replace h3 := hEB.cell h3
 replace h4 := hEB.cell h4
 go_enter Tryz.func10, Tryz.ntmps10
 go_upto_region 1 with fail
 rw [<- hB]
 clear hB
 go_wp2
 go_loopg [5] 1 (fun g i wr => g <= 1 /\ i = .int .i64 ((1 - g : Nat) : Int) /\ Ext B wr)
 case atStart => exact ⟨Nat.le_refl _, rfl, Ext.refl _⟩
 case round =>
  obtain ⟨hg, rfl, hE⟩ := hrel
  replace h1 := hE.cell h1
  replace h2 := hE.cell h2
  replace h3 := hE.cell h3
  replace h4 := hE.cell h4
  replace c00 := hE.cell c00
  replace c01 := hE.cell c01
  replace c10 := hE.cell c10
  replace c11 := hE.cell c11
  replace hEB := hEB.trans hE
  match gk, hg with
  | 0, _ =>
    rw [show ((1 - 0 : Nat) : Int) = 1 from rfl]
    clear h1 h2 h3 h4
    go_wp2
    go_ret
    exact ⟨rfl, hEB⟩
  | 1, _ =>
    rw [show ((1 - 1 : Nat) : Int) = 0 from rfl]
    go_upto_region 6 with fail
    go_quiet (fail)
    go_wp2
    go_roundg 0
    case measure => omega
    case rel => exact ⟨by omega, rfl, hE.drewN _⟩
set_option maxHeartbeats 3200000 in
theorem same_neG {b1 o1 k1 b2 o2 k2 b3 o3 k3 b4 o4 k4 : Nat} {s1 s2 s3 s4 : ByteArray} {w : World} (h1 : w.cell? ⟨b1, o1, none⟩ = some (.string s1)) (h2 : w.cell? ⟨b2, o2, none⟩ = some (.string s2)) (h3 : w.cell? ⟨b3, o3, none⟩ = some (.string s3)) (h4 : w.cell? ⟨b4, o4, none⟩ = some (.string s4)) (hne : ¬ s1.toList = s3.toList) :
  Calls Tryz.prog 10 #[.agg #[.slice (some ⟨b1, o1, none⟩) 1 k1, .slice (some ⟨b2, o2, none⟩) 1 k2], .agg #[.slice (some ⟨b3, o3, none⟩) 1 k3, .slice (some ⟨b4, o4, none⟩) 1 k4]] w fun e w' => e = .returned (.bool false) /\ Ext w w' := by
 obtain ⟨B, hB⟩ : ∃ B, B = ((w.alloc (.cells #[.slice (some ⟨b1, o1, none⟩) 1 k1, .slice (some ⟨b2, o2, none⟩) 1 k2] 24)).alloc (.cells #[.slice (some ⟨b3, o3, none⟩) 1 k3, .slice (some ⟨b4, o4, none⟩) 1 k4] 24)) := ⟨_, rfl⟩
 have hEB : Ext w B := by rw [hB]; exact ((Ext.refl _).alloc _).alloc _
 have c00 : B.cell? ⟨w.heap.size, 0, none⟩ = some (.slice (some ⟨b1, o1, none⟩) 1 k1) := by
  rw [hB]; exact Ext.cell ((Ext.refl _).alloc _) (cell_al _ _ _ _ (by simp) rfl)
 have c01 : B.cell? ⟨w.heap.size, 1, none⟩ = some (.slice (some ⟨b2, o2, none⟩) 1 k2) := by
  rw [hB]; exact Ext.cell ((Ext.refl _).alloc _) (cell_al _ _ _ _ (by simp) rfl)
 have c10 : B.cell? ⟨w.heap.size + 1, 0, none⟩ = some (.slice (some ⟨b3, o3, none⟩) 1 k3) := by
  rw [hB]; exact cell_al _ _ _ _ (by simp) rfl
 have c11 : B.cell? ⟨w.heap.size + 1, 1, none⟩ = some (.slice (some ⟨b4, o4, none⟩) 1 k4) := by
  rw [hB]; exact cell_al _ _ _ _ (by simp) rfl
 replace h1 := hEB.cell h1
 replace h2 := hEB.cell h2
 replace h3 := hEB.cell h3
 replace h4 := hEB.cell h4
 go_enter Tryz.func10, Tryz.ntmps10
 go_upto_region 1 with fail
 rw [<- hB]
 clear hB
 go_wp2
 go_loopg [5] 1 (fun g i wr => g = 1 /\ i = .int .i64 ((1 - g : Nat) : Int) /\ Ext B wr)
 case atStart => exact ⟨rfl, rfl, Ext.refl _⟩
 case round =>
  obtain ⟨hg, rfl, hE⟩ := hrel
  replace h1 := hE.cell h1
  replace h2 := hE.cell h2
  replace h3 := hE.cell h3
  replace h4 := hE.cell h4
  replace c00 := hE.cell c00
  replace c01 := hE.cell c01
  replace c10 := hE.cell c10
  replace c11 := hE.cell c11
  replace hEB := hEB.trans hE
  subst hg
  rw [show ((1 - 1 : Nat) : Int) = 0 from rfl]
  go_upto_region 6 with fail
  have hne2 : (s1.toList == s3.toList) = false := beq_eq_false_iff_ne.mpr hne
  go_quiet (fail)
  go_wp2
  go_ret
  exact ⟨rfl, hEB.drewN _⟩
set_option maxHeartbeats 3200000 in
theorem same_neG2 {b1 o1 k1 b2 o2 k2 b3 o3 k3 b4 o4 k4 : Nat} {s1 s2 s4 : ByteArray} {w : World} (h1 : w.cell? ⟨b1, o1, none⟩ = some (.string s1)) (h2 : w.cell? ⟨b2, o2, none⟩ = some (.string s2)) (h3 : w.cell? ⟨b3, o3, none⟩ = some (.string s1)) (h4 : w.cell? ⟨b4, o4, none⟩ = some (.string s4)) (hne : ¬ s2.toList = s4.toList) :
  Calls Tryz.prog 10 #[.agg #[.slice (some ⟨b1, o1, none⟩) 1 k1, .slice (some ⟨b2, o2, none⟩) 1 k2], .agg #[.slice (some ⟨b3, o3, none⟩) 1 k3, .slice (some ⟨b4, o4, none⟩) 1 k4]] w fun e w' => e = .returned (.bool false) /\ Ext w w' := by
 obtain ⟨B, hB⟩ : ∃ B, B = ((w.alloc (.cells #[.slice (some ⟨b1, o1, none⟩) 1 k1, .slice (some ⟨b2, o2, none⟩) 1 k2] 24)).alloc (.cells #[.slice (some ⟨b3, o3, none⟩) 1 k3, .slice (some ⟨b4, o4, none⟩) 1 k4] 24)) := ⟨_, rfl⟩
 have hEB : Ext w B := by rw [hB]; exact ((Ext.refl _).alloc _).alloc _
 have c00 : B.cell? ⟨w.heap.size, 0, none⟩ = some (.slice (some ⟨b1, o1, none⟩) 1 k1) := by
  rw [hB]; exact Ext.cell ((Ext.refl _).alloc _) (cell_al _ _ _ _ (by simp) rfl)
 have c01 : B.cell? ⟨w.heap.size, 1, none⟩ = some (.slice (some ⟨b2, o2, none⟩) 1 k2) := by
  rw [hB]; exact Ext.cell ((Ext.refl _).alloc _) (cell_al _ _ _ _ (by simp) rfl)
 have c10 : B.cell? ⟨w.heap.size + 1, 0, none⟩ = some (.slice (some ⟨b3, o3, none⟩) 1 k3) := by
  rw [hB]; exact cell_al _ _ _ _ (by simp) rfl
 have c11 : B.cell? ⟨w.heap.size + 1, 1, none⟩ = some (.slice (some ⟨b4, o4, none⟩) 1 k4) := by
  rw [hB]; exact cell_al _ _ _ _ (by simp) rfl
 replace h1 := hEB.cell h1
 replace h2 := hEB.cell h2
 replace h3 := hEB.cell h3
 replace h4 := hEB.cell h4
 go_enter Tryz.func10, Tryz.ntmps10
 go_upto_region 1 with fail
 rw [<- hB]
 clear hB
 go_wp2
 go_loopg [5] 1 (fun g i wr => g = 1 /\ i = .int .i64 ((1 - g : Nat) : Int) /\ Ext B wr)
 case atStart => exact ⟨rfl, rfl, Ext.refl _⟩
 case round =>
  obtain ⟨hg, rfl, hE⟩ := hrel
  replace h1 := hE.cell h1
  replace h2 := hE.cell h2
  replace h3 := hE.cell h3
  replace h4 := hE.cell h4
  replace c00 := hE.cell c00
  replace c01 := hE.cell c01
  replace c10 := hE.cell c10
  replace c11 := hE.cell c11
  replace hEB := hEB.trans hE
  subst hg
  rw [show ((1 - 1 : Nat) : Int) = 0 from rfl]
  go_upto_region 6 with fail
  have hne2 : (s2.toList == s4.toList) = false := beq_eq_false_iff_ne.mpr hne
  go_quiet (fail)
  go_wp2
  go_ret
  exact ⟨rfl, hEB.drewN _⟩
end Go.Eng
namespace Go.Eng
theorem xor_zero {a b : Nat} : a ^^^ b = 0 ↔ a = b := by
 constructor
 ·intro h
  have h1 : a ^^^ b ^^^ b = 0 ^^^ b := by rw [h]
  rw [Nat.xor_assoc, Nat.xor_self, Nat.xor_zero, Nat.zero_xor] at h1
  exact h1
 ·rintro rfl
  exact Nat.xor_self _
theorem or_zero {a b : Nat} : a ||| b = 0 ↔ a = 0 /\ b = 0 := Nat.or_eq_zero_iff
theorem val4_inj {a0 a1 a2 a3 b0 b1 b2 b3 : Nat} (h0 : a0 < 18446744073709551616) (h1 : a1 < 18446744073709551616) (h2 : a2 < 18446744073709551616) (h3 : a3 < 18446744073709551616) (k0 : b0 < 18446744073709551616) (k1 : b1 < 18446744073709551616) (k2 : b2 < 18446744073709551616) (k3 : b3 < 18446744073709551616) (h : val4 a0 a1 a2 a3 = val4 b0 b1 b2 b3) : a0 = b0 /\ a1 = b1 /\ a2 = b2 /\ a3 = b3 := by
 unfold val4 at h
 omega
theorem ne_law {a0 a1 a2 a3 b0 b1 b2 b3 : Nat} (h0 : a0 < 18446744073709551616) (h1 : a1 < 18446744073709551616) (h2 : a2 < 18446744073709551616) (h3 : a3 < 18446744073709551616) (k0 : b0 < 18446744073709551616) (k1 : b1 < 18446744073709551616) (k2 : b2 < 18446744073709551616) (k3 : b3 < 18446744073709551616) :
  (a3 ^^^ b3) ||| (a2 ^^^ b2) ||| (a1 ^^^ b1) ||| (a0 ^^^ b0) = 0 ↔ val4 a0 a1 a2 a3 = val4 b0 b1 b2 b3 := by
 rw [or_zero, or_zero, or_zero, xor_zero, xor_zero, xor_zero, xor_zero]
 constructor
 ·rintro ⟨⟨⟨rfl, rfl⟩, rfl⟩, rfl⟩
  rfl
 ·intro h
  obtain ⟨e0, e1, e2, e3⟩ := val4_inj h0 h1 h2 h3 k0 k1 k2 k3 h
  exact ⟨⟨⟨e3, e2⟩, e1⟩, e0⟩
end Go.Eng
namespace Go.Eng
open Go Go.RowKit Go.Proofs
set_option maxRecDepth 100000
theorem xor_lt64 {a b : Nat} (ha : a < 18446744073709551616) (hb : b < 18446744073709551616) : a ^^^ b < 18446744073709551616 := Nat.xor_lt_two_pow (n := 64) ha hb
theorem xor_or4 {a0 a1 a2 a3 b0 b1 b2 b3 : Nat} (h0 : a0 < 18446744073709551616) (h1 : a1 < 18446744073709551616) (h2 : a2 < 18446744073709551616) (h3 : a3 < 18446744073709551616) (k0 : b0 < 18446744073709551616) (k1 : b1 < 18446744073709551616) (k2 : b2 < 18446744073709551616) (k3 : b3 < 18446744073709551616) :
  bits .or .u64 (bits .or .u64 (bits .or .u64 (bits .xor .u64 (a3 : Int) (b3 : Int)) (bits .xor .u64 (a2 : Int) (b2 : Int))) (bits .xor .u64 (a1 : Int) (b1 : Int))) (bits .xor .u64 (a0 : Int) (b0 : Int)) =
   (((a3 ^^^ b3) ||| (a2 ^^^ b2) ||| (a1 ^^^ b1) ||| (a0 ^^^ b0) : Nat) : Int) := by
 rw [bits_xor_u64_nat _ _ h3 k3, bits_xor_u64_nat _ _ h2 k2, bits_xor_u64_nat _ _ h1 k1, bits_xor_u64_nat _ _ h0 k0]
 have x0 := xor_lt64 h0 k0
 have x1 := xor_lt64 h1 k1
 have x2 := xor_lt64 h2 k2
 have x3 := xor_lt64 h3 k3
 rw [bits_or_u64 (by exact x3) (by exact x2), bits_or_u64 (by exact or_lt64 x3 x2) (by exact x1), bits_or_u64 (by exact or_lt64 (or_lt64 x3 x2) x1) (by exact x0)]
theorem words_ext {w w' : World} {p : Pl} {X : Nat} (h : Words w p X) (e : Ext w w') : Words w' p X := by
 obtain ⟨x0, x1, x2, x3, a0, a1, a2, a3, hv, hc⟩ := h
 exact ⟨x0, x1, x2, x3, a0, a1, a2, a3, hv, fun j v hj => e.cell (hc j v hj)⟩
set_option maxHeartbeats 3200000 in
theorem noteq_walk {w : World} {b o b' o' X Y : Nat} (hX : Words w ⟨b, o, 0⟩ X) (hY : Words w ⟨b', o', 0⟩ Y) :
  Calls Tryz.prog 93 #[.pointer (some ⟨b, o, none⟩), .pointer (some ⟨b', o', none⟩)] w fun e w' => ∃ n : Nat, e = .returned (.int .u64 (n : Int)) /\ (n = 0 ↔ X = Y) /\ Ext w w' := by
 obtain ⟨x0, x1, x2, x3, a0, a1, a2, a3, rfl, hc⟩ := hX
 obtain ⟨y0, y1, y2, y3, c0, c1, c2, c3, rfl, hd⟩ := hY
 have g0 : w.cell? ⟨b, o, none⟩ = some (.int .u64 (x0 : Int)) := hc 0 _ rfl
 have g1 : w.cell? ⟨b, o + 1, none⟩ = some (.int .u64 (x1 : Int)) := hc 1 _ rfl
 have g2 : w.cell? ⟨b, o + 2, none⟩ = some (.int .u64 (x2 : Int)) := hc 2 _ rfl
 have g3 : w.cell? ⟨b, o + 3, none⟩ = some (.int .u64 (x3 : Int)) := hc 3 _ rfl
 have k0 : w.cell? ⟨b', o', none⟩ = some (.int .u64 (y0 : Int)) := hd 0 _ rfl
 have k1 : w.cell? ⟨b', o' + 1, none⟩ = some (.int .u64 (y1 : Int)) := hd 1 _ rfl
 have k2 : w.cell? ⟨b', o' + 2, none⟩ = some (.int .u64 (y2 : Int)) := hd 2 _ rfl
 have k3 : w.cell? ⟨b', o' + 3, none⟩ = some (.int .u64 (y3 : Int)) := hd 3 _ rfl
 have hl := ne_law a0 a1 a2 a3 c0 c1 c2 c3
 have hb := xor_or4 a0 a1 a2 a3 c0 c1 c2 c3
 have AL : Aside ((((x3 ^^^ y3) ||| (x2 ^^^ y2) ||| (x1 ^^^ y1) ||| (x0 ^^^ y0) : Nat) = 0 ↔ val4 x0 x1 x2 x3 = val4 y0 y1 y2 y3) /\ bits .or .u64 (bits .or .u64 (bits .or .u64 (bits .xor .u64 (x3 : Int) (y3 : Int)) (bits .xor .u64 (x2 : Int) (y2 : Int))) (bits .xor .u64 (x1 : Int) (y1 : Int))) (bits .xor .u64 (x0 : Int) (y0 : Int)) =
   (((x3 ^^^ y3) ||| (x2 ^^^ y2) ||| (x1 ^^^ y1) ||| (x0 ^^^ y0) : Nat) : Int)) := ⟨hl, hb⟩
 clear hc hd hl hb a0 a1 a2 a3 c0 c1 c2 c3
 go_enter Tryz.func93, Tryz.ntmps93
 go_wp2
 go_quiet (fail)
 go_wp2
 go_ret
 exact ⟨_, congrArg (fun z => Ending.returned (Value.int .u64 z)) AL.out.2, AL.out.1, (Ext.refl w).drewN _⟩
theorem equal_walk {w : World} {b o b' o' X Y : Nat} (hX : Words w ⟨b, o, 0⟩ X) (hY : Words w ⟨b', o', 0⟩ Y) :
  Calls Tryz.prog 58 #[.pointer (some ⟨b, o, none⟩), .pointer (some ⟨b', o', none⟩)] w fun e w' => e = .returned (.bool (decide (X = Y))) /\ Ext w w' := by
 have hn := noteq_walk hX hY
 go_enter Tryz.func58, Tryz.ntmps58
 go_wp2_with (go_at_call 93; (with_reducible refine hn.mono ?_); rintro e w1 ⟨n, rfl, hn1, hE⟩)
 go_ret
 refine ⟨?_, hE⟩
 congr 2
 by_cases h : X = Y
 ·rw [decide_eq_true h, hn1.2 h]; rfl
 ·rw [decide_eq_false h]
  show Value.bool ((n : Int) == 0) = Value.bool false
  rw [beq_eq_false_iff_ne.2]
  intro h2
  exact h (hn1.1 (by omega))
end Go.Eng
namespace Go.Eng
open Go Go.RowKit Go.Proofs
set_option maxRecDepth 100000
theorem fr_ext {w0 w w' : World} {b : Nat} (hE : Ext w0 w) (h : Fr b w.heap.size w w') (hb : w0.heap.size <= b) : Ext w0 w' :=
 ⟨h.os.trans hE.os, h.tape.trans hE.tape, h.output.trans hE.output, Nat.le_trans hE.size h.size, fun i hi => (h.block i (Nat.lt_of_lt_of_le hi hE.size) (by omega)).trans (hE.block i hi)⟩
theorem fr_words {b c o X : Nat} {w w' : World} (h : Fr b w.heap.size w w') (hp : c ≠ b) (k : Words w ⟨c, o, 0⟩ X) : Words w' ⟨c, o, 0⟩ X := by
 obtain ⟨x0, x1, x2, x3, a0, a1, a2, a3, hv, hc⟩ := k
 refine ⟨x0, x1, x2, x3, a0, a1, a2, a3, hv, fun j v hj => ?_⟩
 have h1 : w.cell? ⟨c, o + j, none⟩ = some v := hc j v hj
 exact h.cell (lt_of_cell2 h1) hp h1
theorem words_cells {b o X : Nat} {w : World} (k : Words w ⟨b, o, 0⟩ X) : ∀ k, k < 4 -> ∃ v, w.cell? ⟨b, o + k, none⟩ = some v := by
 obtain ⟨x0, x1, x2, x3, a0, a1, a2, a3, hv, hc⟩ := k
 intro k hk
 match k, hk with
 | 0, _ => exact ⟨_, hc 0 _ rfl⟩
 | 1, _ => exact ⟨_, hc 1 _ rfl⟩
 | 2, _ => exact ⟨_, hc 2 _ rfl⟩
 | 3, _ => exact ⟨_, hc 3 _ rfl⟩
theorem words_lt {b o X : Nat} {w : World} (k : Words w ⟨b, o, 0⟩ X) : b < w.heap.size := by
 obtain ⟨v, h⟩ := words_cells k 0 (by decide)
 exact lt_of_cell2 h
structure OnS (w0 w : World) (P t X Y A B C : Nat) : Prop where
 x : Words w ⟨P, 0, 0⟩ X
 y : Words w ⟨P, 4, 0⟩ Y
 a : Words w ⟨t, 0, 0⟩ A
 b : Words w ⟨t + 1, 0, 0⟩ B
 c : Words w ⟨t + 1 + 1, 0, 0⟩ C
 ua : unfr w t
 ub : unfr w (t + 1)
 uc : unfr w (t + 1 + 1)
 e : Ext w0 w
 lt : P < t
 base : w0.heap.size <= t
theorem unfr_ext {w w' : World} {b : Nat} (h : unfr w b) (hb : b < w.heap.size) (e : Ext w w') : unfr w' b := fun o => (e.frozenE hb).trans (h o)
theorem fr_unfr {w w' : World} {b c : Nat} (h : unfr w c) (hc : c < w.heap.size) (k : Fr b w.heap.size w w') (hb : c ≠ b) : unfr w' c := fun o => (k.frozen hc hb).trans (h o)
section
variable {w0 w w' : World} {P t X Y A B C Z x y : Nat}
theorem OnS.ext (h : OnS w0 w P t X Y A B C) (e : Ext w w') : OnS w0 w' P t X Y A B C :=
 ⟨words_ext h.x e, words_ext h.y e, words_ext h.a e, words_ext h.b e, words_ext h.c e, unfr_ext h.ua (words_lt h.a) e, unfr_ext h.ub (words_lt h.b) e, unfr_ext h.uc (words_lt h.c) e, h.e.trans e, h.lt, h.base⟩
theorem OnS.putA (h : OnS w0 w P t X Y A B C) (p : Put4 w ⟨t, 0, 0⟩ Z w') : OnS w0 w' P t X Y Z B C :=
 have hF := put4_fr p
 have hl := h.lt
 ⟨fr_words hF (by omega) h.x, fr_words hF (by omega) h.y, put4_words p (words_cells h.a), fr_words hF (by omega) h.b, fr_words hF (by omega) h.c, put4_unfr p h.ua (words_lt h.a), fr_unfr h.ub (words_lt h.b) hF (by omega), fr_unfr h.uc (words_lt h.c) hF (by omega), fr_ext h.e hF h.base, h.lt, h.base⟩
theorem OnS.putB (h : OnS w0 w P t X Y A B C) (p : Put4 w ⟨t + 1, 0, 0⟩ Z w') : OnS w0 w' P t X Y A Z C :=
 have hF := put4_fr p
 have hl := h.lt
 have hb := h.base
 ⟨fr_words hF (by omega) h.x, fr_words hF (by omega) h.y, fr_words hF (by omega) h.a, put4_words p (words_cells h.b), fr_words hF (by omega) h.c, fr_unfr h.ua (words_lt h.a) hF (by omega), put4_unfr p h.ub (words_lt h.b), fr_unfr h.uc (words_lt h.c) hF (by omega), fr_ext h.e hF (by omega), h.lt, h.base⟩
theorem OnS.putC (h : OnS w0 w P t X Y A B C) (p : Put4 w ⟨t + 1 + 1, 0, 0⟩ Z w') : OnS w0 w' P t X Y A B Z :=
 have hF := put4_fr p
 have hl := h.lt
 have hb := h.base
 ⟨fr_words hF (by omega) h.x, fr_words hF (by omega) h.y, fr_words hF (by omega) h.a, fr_words hF (by omega) h.b, put4_words p (words_cells h.c), fr_unfr h.ua (words_lt h.a) hF (by omega), fr_unfr h.ub (words_lt h.b) hF (by omega), put4_unfr p h.uc (words_lt h.c), fr_ext h.e hF (by omega), h.lt, h.base⟩
theorem OnS.mulCY (h : OnS w0 w P t X Y A B C) (hy : IsM Y y) : Calls Tryz.prog 53 #[.pointer (some ⟨t + 1 + 1, 0, none⟩), .pointer (some ⟨P, 4, none⟩), .pointer (some ⟨P, 4, none⟩)] w fun e w' => e = .returned (.pointer (some ⟨t + 1 + 1, 0, none⟩)) /\ ∃ Z, IsM Z (y * y) /\ OnS w0 w' P t X Y A B Z :=
 (mul_xx (p := ⟨t + 1 + 1, 0, 0⟩) (q := ⟨P, 4, 0⟩) h.c h.uc h.y hy.1 (.inl (by have := h.lt; show t + 1 + 1 ≠ P; omega))).mono fun e w' ⟨h1, Z, h2, h3, h4⟩ => ⟨h1, Z, isM_mul hy hy h2 h3, h.putC h4⟩
theorem OnS.mulCX (h : OnS w0 w P t X Y A B C) (hx : IsM X x) : Calls Tryz.prog 53 #[.pointer (some ⟨t + 1 + 1, 0, none⟩), .pointer (some ⟨P, 0, none⟩), .pointer (some ⟨P, 0, none⟩)] w fun e w' => e = .returned (.pointer (some ⟨t + 1 + 1, 0, none⟩)) /\ ∃ Z, IsM Z (x * x) /\ OnS w0 w' P t X Y A B Z :=
 (mul_xx (p := ⟨t + 1 + 1, 0, 0⟩) (q := ⟨P, 0, 0⟩) h.c h.uc h.x hx.1 (.inl (by have := h.lt; show t + 1 + 1 ≠ P; omega))).mono fun e w' ⟨h1, Z, h2, h3, h4⟩ => ⟨h1, Z, isM_mul hx hx h2 h3, h.putC h4⟩
theorem OnS.mulAX (h : OnS w0 w P t X Y A B C) (hx : IsM X x) : Calls Tryz.prog 53 #[.pointer (some ⟨t, 0, none⟩), .pointer (some ⟨P, 0, none⟩), .pointer (some ⟨P, 0, none⟩)] w fun e w' => e = .returned (.pointer (some ⟨t, 0, none⟩)) /\ ∃ Z, IsM Z (x * x) /\ OnS w0 w' P t X Y Z B C :=
 (mul_xx (p := ⟨t, 0, 0⟩) (q := ⟨P, 0, 0⟩) h.a h.ua h.x hx.1 (.inl (by have := h.lt; show t ≠ P; omega))).mono fun e w' ⟨h1, Z, h2, h3, h4⟩ => ⟨h1, Z, isM_mul hx hx h2 h3, h.putA h4⟩
theorem OnS.mulCC (h : OnS w0 w P t X Y A B C) {c : Nat} (hc : IsM C c) (hy : IsM Y y) : Calls Tryz.prog 53 #[.pointer (some ⟨t + 1 + 1, 0, none⟩), .pointer (some ⟨t + 1 + 1, 0, none⟩), .pointer (some ⟨P, 4, none⟩)] w fun e w' => e = .returned (.pointer (some ⟨t + 1 + 1, 0, none⟩)) /\ ∃ Z, IsM Z (c * y) /\ OnS w0 w' P t X Y A B Z :=
 (mul_zy (p := ⟨t + 1 + 1, 0, 0⟩) (q := ⟨P, 4, 0⟩) h.c h.uc h.y hy.1 (.inl (by have := h.lt; show t + 1 + 1 ≠ P; omega))).mono fun e w' ⟨h1, Z, h2, h3, h4⟩ => ⟨h1, Z, isM_mul hc hy h2 h3, h.putC h4⟩
theorem OnS.mulCD (h : OnS w0 w P t X Y A B C) {c d D b o : Nat} (hc : IsM C c) (hD : Words w ⟨b, o, 0⟩ D) (hd : IsM D d) (hb : t + 1 + 1 ≠ b) : Calls Tryz.prog 53 #[.pointer (some ⟨t + 1 + 1, 0, none⟩), .pointer (some ⟨t + 1 + 1, 0, none⟩), .pointer (some ⟨b, o, none⟩)] w fun e w' => e = .returned (.pointer (some ⟨t + 1 + 1, 0, none⟩)) /\ ∃ Z, IsM Z (c * d) /\ OnS w0 w' P t X Y A B Z :=
 (mul_zy (p := ⟨t + 1 + 1, 0, 0⟩) (q := ⟨b, o, 0⟩) h.c h.uc hD hd.1 (.inl hb)).mono fun e w' ⟨h1, Z, h2, h3, h4⟩ => ⟨h1, Z, isM_mul hc hd h2 h3, h.putC h4⟩
theorem OnS.addAC (h : OnS w0 w P t X Y A B C) {a c : Nat} (ha : IsM A a) (hc : IsM C c) : Calls Tryz.prog 55 #[.pointer (some ⟨t, 0, none⟩), .pointer (some ⟨t, 0, none⟩), .pointer (some ⟨t + 1 + 1, 0, none⟩)] w fun e w' => e = .returned (.pointer (some ⟨t, 0, none⟩)) /\ ∃ Z, IsM Z (a + c) /\ OnS w0 w' P t X Y Z B C :=
 (add_zy (p := ⟨t, 0, 0⟩) (q := ⟨t + 1 + 1, 0, 0⟩) h.a ha.1 h.ua h.c hc.1 (.inl (by show t ≠ t + 1 + 1; omega))).mono fun e w' ⟨h1, h4⟩ => ⟨h1, _, isM_add ha hc, h.putA h4⟩
theorem OnS.addBC (h : OnS w0 w P t X Y A B C) {b c : Nat} (hb : IsM B b) (hc : IsM C c) : Calls Tryz.prog 55 #[.pointer (some ⟨t + 1, 0, none⟩), .pointer (some ⟨t + 1, 0, none⟩), .pointer (some ⟨t + 1 + 1, 0, none⟩)] w fun e w' => e = .returned (.pointer (some ⟨t + 1, 0, none⟩)) /\ ∃ Z, IsM Z (b + c) /\ OnS w0 w' P t X Y A Z C :=
 (add_zy (p := ⟨t + 1, 0, 0⟩) (q := ⟨t + 1 + 1, 0, 0⟩) h.b hb.1 h.ub h.c hc.1 (.inl (by show t + 1 ≠ t + 1 + 1; omega))).mono fun e w' ⟨h1, h4⟩ => ⟨h1, _, isM_add hb hc, h.putB h4⟩
theorem OnS.mulA (h : OnS w0 w P t X Y A B C) {a : Nat} (ha : IsM A a) : Calls Tryz.prog 54 #[.pointer (some ⟨t, 0, none⟩)] w fun e w' => e = .returned (.tuple #[]) /\ ∃ Z, IsM Z ((frQ - 1) * a) /\ OnS w0 w' P t X Y Z B C := by
 have hn : Calls Tryz.prog 90 #[.pointer (some ⟨t, 0, none⟩), .pointer (some ⟨t, 0, none⟩)] w fun e w' => e = .returned (.pointer (some ⟨t, 0, none⟩)) /\ ∃ Z, IsM Z ((frQ - 1) * a) /\ OnS w0 w' P t X Y Z B C :=
  (neg_z (p := ⟨t, 0, 0⟩) h.a ha.1 h.ua).mono fun e w' ⟨h1, h4⟩ => ⟨h1, _, isM_neg ha, h.putA h4⟩
 clear h ha
 go_enter Tryz.func54, Tryz.ntmps54
 go_wp2_with (go_at_call 90; (with_reducible refine hn.mono ?_); rintro e w1 ⟨rfl, hS⟩)
 go_end0
 exact ⟨rfl, hS⟩
end
theorem one_val : val4 12436184717236109307 3962172157175319849 7381016538464732718 1011752739694698287 = frR % frQ := by decide
theorem setone_w {w : World} {b Z0 : Nat} (h : Words w ⟨b, 0, 0⟩ Z0) (hu : unfr w b) :
  Calls Tryz.prog 57 #[.pointer (some ⟨b, 0, none⟩)] w fun e w' => e = .returned (.pointer (some ⟨b, 0, none⟩)) /\ Put4 w ⟨b, 0, 0⟩ (frR % frQ) w' := by
 obtain ⟨x0, x1, x2, x3, a0, a1, a2, a3, rfl, hc⟩ := h
 refine (setone_walk (hc 0 _ rfl) (hc 1 _ rfl) (hc 2 _ rfl) (hc 3 _ rfl) hu).mono ?_
 rintro e w' ⟨h1, h2⟩
 exact ⟨h1, _, _, _, _, by decide, by decide, by decide, by decide, one_val, by rw [h2]; exact Ext.refl _⟩
set_option maxHeartbeats 3200000 in
theorem onc_walk {pE : Pl} {w : World} {P X Y x y : Nat} (hG : Glob pE w) (hx : Words w ⟨P, 0, 0⟩ X) (hy : Words w ⟨P, 4, 0⟩ Y) (mx : IsM X x) (my : IsM Y y) :
  Calls Tryz.prog 25 #[.pointer (some ⟨P, 0, none⟩)] w fun e w' => e = .returned (.bool (onN frQ (frQ - 1) dNum x y)) /\ Ext w w' := by
 obtain ⟨B, hB⟩ : ∃ B, B = ((w.alloc (.cells #[.int .u64 0, .int .u64 0, .int .u64 0, .int .u64 0] 69)).alloc (.cells #[.int .u64 0, .int .u64 0, .int .u64 0, .int .u64 0] 69)).alloc (.cells #[.int .u64 0, .int .u64 0, .int .u64 0, .int .u64 0] 69) := ⟨_, rfl⟩
 have hEB : Ext w B := by rw [hB]; exact (((Ext.refl w).alloc _).alloc _).alloc _
 have hz : ∀ k, k < 3 -> Words B ⟨w.heap.size + k, 0, 0⟩ 0 /\ unfr B (w.heap.size + k) := fun k hk => by
  have key : ∀ (W : World), Words (W.alloc (.cells #[.int .u64 0, .int .u64 0, .int .u64 0, .int .u64 0] 69)) ⟨W.heap.size, 0, 0⟩ 0 /\ unfr (W.alloc (.cells #[.int .u64 0, .int .u64 0, .int .u64 0, .int .u64 0] 69)) W.heap.size := fun W => by
   refine ⟨⟨0, 0, 0, 0, by decide, by decide, by decide, by decide, by decide, fun j v hj => ?_⟩, fun o => frozen_new W _ _ o⟩
   show (W.alloc _).cell? ⟨W.heap.size, 0 + j, none⟩ = some v
   rw [Nat.zero_add, cell_new W _ _ j, <- hj]
   match j with
   | 0 => rfl
   | 1 => rfl
   | 2 => rfl
   | 3 => rfl
   | n + 4 => rfl
  have up : ∀ {W W' : World} {b : Nat}, Words W ⟨b, 0, 0⟩ 0 /\ unfr W b -> Ext W W' -> Words W' ⟨b, 0, 0⟩ 0 /\ unfr W' b := fun h e => ⟨words_ext h.1 e, unfr_ext h.2 (words_lt h.1) e⟩
  rw [hB]
  match k, hk with
  | 0, _ => exact up (key w) (((Ext.refl _).alloc _).alloc _)
  | 1, _ => have h := key (w.alloc (.cells #[.int .u64 0, .int .u64 0, .int .u64 0, .int .u64 0] 69)); rw [size_al] at h; exact up h ((Ext.refl _).alloc _)
  | 2, _ => have h := key ((w.alloc (.cells #[.int .u64 0, .int .u64 0, .int .u64 0, .int .u64 0] 69)).alloc (.cells #[.int .u64 0, .int .u64 0, .int .u64 0, .int .u64 0] 69)); rw [size_al, size_al] at h; exact h
 have hS : OnS w B P w.heap.size X Y 0 0 0 := ⟨words_ext hx hEB, words_ext hy hEB, (hz 0 (by decide)).1, (hz 1 (by decide)).1, (hz 2 (by decide)).1, (hz 0 (by decide)).2, (hz 1 (by decide)).2, (hz 2 (by decide)).2, hEB, words_lt hx, Nat.le_refl _⟩
 have hGB := hG.ext hEB
 have AE : Aside (∀ W, Ext w W -> Glob pE W) := fun W h => hG.ext h
 have AM : Aside (IsM X x /\ IsM Y y) := ⟨mx, my⟩
 clear hz hEB hx hy hG hGB mx my
 go_enter Tryz.func25, Tryz.ntmps25
 go_upto_region 2 with fail
 rw [<- hB]
 clear hB
 have h1 := (hS.ext (Ext.refl B).drew).mulCY AM.out.2
 go_region_held3 (fun _ => True) (trivial) (first | (go_at_call 53; (with_reducible refine h1.mono ?_); rintro e w1 ⟨rfl, C1, m1, S1⟩))
 clear h1 hS
 go_upto_region 3 with fail
 have h2 := (S1.ext (Ext.refl w1).drew).mulAX AM.out.1
 go_region_held3 (fun _ => True) (trivial) (first | (go_at_call 53; (with_reducible refine h2.mono ?_); rintro e w2 ⟨rfl, A1, m2, S2⟩))
 clear h2 S1
 have h3 := S2.mulA m2
 go_upto_region 5 with (go_at_call 54; (with_reducible refine h3.mono ?_); rintro e w3 ⟨rfl, A2, m3, S3⟩)
 clear h3 S2
 have h4 := S3.addAC m3 m1
 go_upto_region 6 with (go_at_call 55; (with_reducible refine h4.mono ?_); rintro e w4 ⟨rfl, A3, m4, S4⟩)
 clear h4 S3
 have h5 := (S4.ext (Ext.refl w4).drew).mulCX AM.out.1
 clear S4
 go_region_held3 (fun _ => True) (trivial) (first
  | (go_at_call 53; (with_reducible refine h5.mono ?_); rintro e w5 ⟨rfl, C2, m5, S5⟩; clear h5; have h6 := S5.mulCC m5 AM.out.2; clear S5)
  | (go_at_call 53; (with_reducible refine h6.mono ?_); rintro e w6 ⟨rfl, C3, m6, S6⟩; clear h6; have h7 := S6.mulCC m6 AM.out.2; clear S6)
  | (go_at_call 53; (with_reducible refine h7.mono ?_); rintro e w7 ⟨rfl, C4, m7, S7⟩; clear h7; have h8 := params_call (AE.out w7 S7.e))
  | (go_at_call 56; (with_reducible refine h8.mono ?_); rintro e w8 ⟨pb, po, hpb, rfl, hD, hE8⟩; clear h8; have h9 := (S7.ext hE8).mulCD m7 hD.words (isM_of dMon_lt dMon_eq) (by have := words_lt S7.c; omega); clear S7)
  | (go_at_call 53; (with_reducible refine h9.mono ?_); rintro e w9 ⟨rfl, C5, m9, S9⟩; clear h9))
 have h10 := setone_w S9.b S9.ub
 go_upto_region 8 with (first
  | (go_at_call 57; (with_reducible refine h10.mono ?_); rintro e w10 ⟨rfl, p10⟩; clear h10; have S10 := S9.putB p10; clear S9 p10; have h11 := S10.addBC isM_one m9; clear S10)
  | (go_at_call 55; (with_reducible refine h11.mono ?_); rintro e w11 ⟨rfl, B2, m11, S11⟩; clear h11))
 have h12 := equal_walk S11.a S11.b
 have hl := on_law m4 m11
 have hEf := S11.e
 have AF : Aside (onN frQ (frQ - 1) dNum x y = decide (A3 = B2) /\ Ext w w11) := ⟨hl, hEf⟩
 clear hl hEf S11 AM AE m1 m2 m3 m4 m5 m6 m7 m9 m11
 go_wp2_with (go_at_call 58; (with_reducible refine h12.mono ?_); rintro e w12 ⟨rfl, hE12⟩)
 go_ret
 exact ⟨by rw [AF.out.1]; rfl, AF.out.2.trans hE12⟩
end Go.Eng
namespace Go.Eng
open Go Go.RowKit Go.Proofs
set_option maxRecDepth 100000
theorem iszero_w {w : World} {b o X : Nat} (h : Words w ⟨b, o, 0⟩ X) : Calls Tryz.prog 59 #[.pointer (some ⟨b, o, none⟩)] w fun e w' => e = .returned (.bool (decide (X = 0))) /\ Ext w w' := by
 obtain ⟨x0, x1, x2, x3, a0, a1, a2, a3, rfl, hc⟩ := h
 exact (isz_walk a0 a1 a2 a3 (hc 0 _ rfl) (hc 1 _ rfl) (hc 2 _ rfl) (hc 3 _ rfl)).mono fun e w' ⟨h1, h2⟩ => ⟨h1, by rw [h2]; exact (Ext.refl w).drew⟩
set_option maxHeartbeats 1600000 in
theorem piz_walk {w : World} {P X Y : Nat} (hx : Words w ⟨P, 0, 0⟩ X) (hy : Words w ⟨P, 4, 0⟩ Y) :
  Calls Tryz.prog 26 #[.pointer (some ⟨P, 0, none⟩)] w fun e w' => e = .returned (.bool (decide (X = 0) && decide (Y = frR % frQ))) /\ Ext w w' := by
 obtain ⟨B, hB⟩ : ∃ B, B = w.alloc (.cells #[.int .u64 0, .int .u64 0, .int .u64 0, .int .u64 0] 69) := ⟨_, rfl⟩
 have hEB : Ext w B := by rw [hB]; exact (Ext.refl w).alloc _
 have hz : Words B ⟨w.heap.size, 0, 0⟩ 0 /\ unfr B w.heap.size := by
  rw [hB]
  refine ⟨⟨0, 0, 0, 0, by decide, by decide, by decide, by decide, by decide, fun j v hj => ?_⟩, fun o => frozen_new w _ _ o⟩
  show (w.alloc _).cell? ⟨w.heap.size, 0 + j, none⟩ = some v
  rw [Nat.zero_add, cell_new w _ _ j, <- hj]
  match j with
  | 0 => rfl
  | 1 => rfl
  | 2 => rfl
  | 3 => rfl
  | n + 4 => rfl
 have h1 := setone_w hz.1 hz.2
 have AX : Aside (∀ W, Put4 B ⟨w.heap.size, 0, 0⟩ (frR % frQ) W -> Words W ⟨P, 0, 0⟩ X /\ Words W ⟨P, 4, 0⟩ Y /\ Words W ⟨w.heap.size, 0, 0⟩ (frR % frQ) /\ Ext w W) := fun W hp => by
  have hF := put4_fr hp
  have hl := words_lt hx
  exact ⟨fr_words hF (by omega) (words_ext hx hEB), fr_words hF (by omega) (words_ext hy hEB), put4_words hp (words_cells hz.1), fr_ext hEB hF (Nat.le_refl _)⟩
 clear hz hEB hx hy
 go_enter Tryz.func26, Tryz.ntmps26
 go_upto_region 2 with fail
 rw [<- hB]
 clear hB
 go_upto_region 3 with (go_at_call 57; (with_reducible refine h1.mono ?_); rintro e w1 ⟨rfl, p1⟩)
 obtain ⟨s1, s2, s3, sE⟩ := AX.out w1 p1
 clear h1 p1 AX
 have h2 := iszero_w s1
 have AE : Aside (Ext w w1) := sE
 by_cases hX : X = 0
 ·rw [decide_eq_true hX] at h2
  have h3 : ∀ W, Ext w1 W -> Calls Tryz.prog 58 #[.pointer (some ⟨P, 4, none⟩), .pointer (some ⟨w.heap.size, 0, none⟩)] W fun e w' => e = .returned (.bool (decide (Y = frR % frQ))) /\ Ext W w' := fun W h => equal_walk (words_ext s2 h) (words_ext s3 h)
  clear s1 s2 s3 sE
  go_wp2_with (first
   | (go_at_call 59; (with_reducible refine h2.mono ?_); rintro e w2 ⟨rfl, hE2⟩)
   | (go_at_call 58; (with_reducible refine (h3 w2 hE2).mono ?_); rintro e w3 ⟨rfl, hE3⟩))
  go_ret
  exact ⟨by rw [decide_eq_true hX]; rfl, (AE.out.trans hE2).trans hE3⟩
 ·rw [decide_eq_false hX] at h2
  clear s1 s2 s3 sE
  go_wp2_with (go_at_call 59; (with_reducible refine h2.mono ?_); rintro e w2 ⟨rfl, hE2⟩)
  go_ret
  exact ⟨by rw [decide_eq_false hX]; rfl, AE.out.trans hE2⟩
set_option maxHeartbeats 1600000 in
theorem peq_walk {w : World} {P Q X Y : Nat} (hx : Words w ⟨P, 0, 0⟩ X) (hy : Words w ⟨P, 4, 0⟩ Y) (hx' : Words w ⟨Q, 0, 0⟩ X) (hy' : Words w ⟨Q, 4, 0⟩ Y) :
  Calls Tryz.prog 33 #[.pointer (some ⟨P, 0, none⟩), .pointer (some ⟨Q, 0, none⟩)] w fun e w' => e = .returned (.bool true) /\ Ext w w' := by
 have hd := (Ext.refl w).drew
 have h1 := equal_walk (words_ext hx hd) (words_ext hx' hd)
 have h2 : ∀ W, Ext w.drew W -> Calls Tryz.prog 58 #[.pointer (some ⟨P, 4, none⟩), .pointer (some ⟨Q, 4, none⟩)] W fun e w' => e = .returned (.bool true) /\ Ext W w' := fun W h => by
  have := equal_walk (words_ext hy (hd.trans h)) (words_ext hy' (hd.trans h))
  rw [decide_eq_true rfl] at this
  exact this
 rw [decide_eq_true rfl] at h1
 clear hd hx hy hx' hy'
 go_enter Tryz.func33, Tryz.ntmps33
 go_upto_region 1 with fail
 go_region_held3 (fun _ => True) (trivial) (first
  | (go_at_call 58; (with_reducible refine h1.mono ?_); rintro e w1 ⟨rfl, hE1⟩; clear h1; have h3 := h2 w1 hE1; clear h2)
  | (go_at_call 58; (with_reducible refine h3.mono ?_); rintro e w2 ⟨rfl, hE2⟩; clear h3))
 go_wp2
 go_ret
 exact ⟨rfl, ((Ext.refl w).drew.trans hE1).trans hE2⟩
end Go.Eng
namespace Go.Eng
open Go Go.RowKit Go.Proofs
set_option maxRecDepth 100000
theorem isM_zero : IsM 0 0 := ⟨frQ_pos, by rw [Nat.zero_mul]⟩
theorem isM_uniq {X Y x : Nat} (h : IsM X x) (k : IsM Y x) : X = Y := (isM_eq h k).2 rfl
structure Two (w : World) (xb xo yb yo : Nat) (sx sy : ByteArray) : Prop where
 x : w.cell? ⟨xb, xo, none⟩ = some (.string sx)
 y : w.cell? ⟨yb, yo, none⟩ = some (.string sy)
 tx : Txt sx
 ty : Txt sy
theorem Two.ext {w w' : World} {xb xo yb yo : Nat} {sx sy : ByteArray} (h : Two w xb xo yb yo sx sy) (e : Ext w w') : Two w' xb xo yb yo sx sy := ⟨e.cell h.x, e.cell h.y, h.tx, h.ty⟩
def onV (sx sy : ByteArray) : Bool := onN frQ (frQ - 1) dNum (rdN sx sx.size) (rdN sy sy.size)
def zeV (sx sy : ByteArray) : Bool := decide (rdN sx sx.size = 0) && decide (rdN sy sy.size = 1)
theorem edp {pE : Pl} {w : World} {xb xo cx yb yo cy : Nat} {sx sy : ByteArray} (hG : Glob pE w) (h : Two w xb xo yb yo sx sy) :
  Calls Tryz.prog 24 #[.agg #[.slice (some ⟨xb, xo, none⟩) 1 cx, .slice (some ⟨yb, yo, none⟩) 1 cy]] w fun e w' => ∃ P, e = .returned (.pointer (some ⟨P, 0, none⟩)) /\ (∃ X Y, Words w' ⟨P, 0, 0⟩ X /\ Words w' ⟨P, 4, 0⟩ Y /\ IsM X (rdN sx sx.size) /\ IsM Y (rdN sy sy.size)) /\ Ext w w' :=
 (edpoint_walk hG h.x h.y h.tx h.ty).mono fun e w' ⟨h1, X, Y, h2, h3, h4, h5, h6, h7, h8, h9⟩ => ⟨_, h1, ⟨X, Y, h6.words, h7.words, isM_of h2 h4, isM_of h3 h5⟩, h9⟩
theorem onc_v {pE : Pl} {w : World} {P : Nat} {sx sy : ByteArray} (hG : Glob pE w) (h : ∃ X Y, Words w ⟨P, 0, 0⟩ X /\ Words w ⟨P, 4, 0⟩ Y /\ IsM X (rdN sx sx.size) /\ IsM Y (rdN sy sy.size)) :
  Calls Tryz.prog 25 #[.pointer (some ⟨P, 0, none⟩)] w fun e w' => e = .returned (.bool (onV sx sy)) /\ Ext w w' := by
 obtain ⟨X, Y, h1, h2, h3, h4⟩ := h
 exact onc_walk hG h1 h2 h3 h4
theorem piz_v {w : World} {P : Nat} {sx sy : ByteArray} (tx : Txt sx) (ty : Txt sy) (h : ∃ X Y, Words w ⟨P, 0, 0⟩ X /\ Words w ⟨P, 4, 0⟩ Y /\ IsM X (rdN sx sx.size) /\ IsM Y (rdN sy sy.size)) :
  Calls Tryz.prog 26 #[.pointer (some ⟨P, 0, none⟩)] w fun e w' => e = .returned (.bool (zeV sx sy)) /\ Ext w w' := by
 obtain ⟨X, Y, h1, h2, h3, h4⟩ := h
 have e1 : decide (X = 0) = decide (rdN sx sx.size = 0) := by
  rw [decide_eq_decide, isM_eq h3 isM_zero, Nat.mod_eq_of_lt tx.lt, Nat.zero_mod]
 have e2 : decide (Y = frR % frQ) = decide (rdN sy sy.size = 1) := by
  rw [decide_eq_decide, isM_eq h4 isM_one, Nat.mod_eq_of_lt ty.lt, Nat.mod_eq_of_lt (by decide)]
 have h := piz_walk h1 h2
 rw [e1, e2] at h
 exact h
theorem keepTl {w W W' : World} {a0 a1 : Addr} {v0 v1 : Value} (h : W.cell? a0 = some v0 /\ W.cell? a1 = some v1 /\ Ext w W) (e : Ext W W') : W'.cell? a0 = some v0 /\ W'.cell? a1 = some v1 /\ Ext w W' := ⟨e.cell h.1, e.cell h.2.1, h.2.2.trans e⟩
theorem set_far {w : World} {b o c : Nat} {v x : Value} (h : w.cell? ⟨b, o, none⟩ = some v) (hb : b ≠ c) : (w.setCell ⟨c, 0, none⟩ x).cell? ⟨b, o, none⟩ = some v := by
 rw [World.cell?_setCell_other _ _ _ _ (fun e => by have := congrArg Addr.block e; simp at this; omega)]; exact h
set_option maxHeartbeats 3200000 in
theorem tells1_walk {pE : Pl} {w : World} {bt bo bz xb xo cx yb yo cy : Nat} {sx sy : ByteArray} {b1 b2 : Bool} (hG : Glob pE w) (h0 : w.cell? ⟨bt, 0, none⟩ = some (.slice (some ⟨xb, xo, none⟩) 1 cx)) (h1 : w.cell? ⟨bt, 1, none⟩ = some (.slice (some ⟨yb, yo, none⟩) 1 cy))
  (hT : Two w xb xo yb yo sx sy) (hon : w.cell? ⟨bo, 0, none⟩ = some (.bool b1)) (hze : w.cell? ⟨bz, 0, none⟩ = some (.bool b2)) (fo : w.frozen? ⟨bo, 0, none⟩ = false) (fz : w.frozen? ⟨bz, 0, none⟩ = false) (hne : bo ≠ bz) (hbo : bt ≠ bo) (hbz : bt ≠ bz) :
  Calls Tryz.prog 23 #[.pointer (some ⟨bt, 0, none⟩), .pointer (some ⟨bo, 0, none⟩), .pointer (some ⟨bz, 0, none⟩)] w fun e w' => e = .returned (.tuple #[]) /\ ∃ w1, Ext w w1 /\ w' = (w1.setCell ⟨bo, 0, none⟩ (.bool (onV sx sy))).setCell ⟨bz, 0, none⟩ (.bool (zeV sx sy)) := by
 have hd := (Ext.refl w).drew
 have q1 := edp (cx := cx) (cy := cy) (hG.ext hd) (hT.ext hd)
 have hS : w.drew.cell? ⟨bt, 0, none⟩ = some (.slice (some ⟨xb, xo, none⟩) 1 cx) /\ w.drew.cell? ⟨bt, 1, none⟩ = some (.slice (some ⟨yb, yo, none⟩) 1 cy) /\ Ext w w.drew := ⟨h0, h1, hd⟩
 have AK : Aside (w.drew.cell? ⟨bt, 0, none⟩ = some (.slice (some ⟨xb, xo, none⟩) 1 cx) /\ w.drew.cell? ⟨bt, 1, none⟩ = some (.slice (some ⟨yb, yo, none⟩) 1 cy) /\ Ext w w.drew) := hS
 have AG : Aside (Glob pE w /\ Two w xb xo yb yo sx sy /\ bo < w.heap.size /\ bz < w.heap.size) := ⟨hG, hT, lt_of_cell2 hon, lt_of_cell2 hze⟩
 clear hS hG hT h0 h1 hd
 go_enter Tryz.func23, Tryz.ntmps23
 go_region_held3 (fun W => W.cell? ⟨bt, 0, none⟩ = some (.slice (some ⟨xb, xo, none⟩) 1 cx) /\ W.cell? ⟨bt, 1, none⟩ = some (.slice (some ⟨yb, yo, none⟩) 1 cy)) (first | with_reducible exact ⟨AK.out.1, AK.out.2.1⟩ | with_reducible assumption | exact ⟨set_far k4.1 hbo, set_far k4.2.1 hbo⟩ | exact ⟨set_far (set_far k4.1 hbo) hbz, set_far (set_far k4.2.1 hbo) hbz⟩) (first
  | (go_at_call 24; (with_reducible refine q1.mono ?_); rintro e w1 ⟨P, rfl, hP, hE1⟩; clear q1; have k1 := keepTl AK.out hE1; have j1 := And.intro k1.1 k1.2.1; have q2 := onc_v (AG.out.1.ext k1.2.2) hP; clear hP)
  | (go_at_call 25; (with_reducible refine q2.mono ?_); rintro e w2 ⟨rfl, hE2⟩; clear q2; have k2 := keepTl k1 hE2; have j2 := And.intro k2.1 k2.2.1; have q3 := edp (cx := cx) (cy := cy) (AG.out.1.ext k2.2.2) (AG.out.2.1.ext k2.2.2))
  | (go_at_call 24; (with_reducible refine q3.mono ?_); rintro e w3 ⟨Q, rfl, hQ, hE3⟩; clear q3; have k3 := keepTl k2 hE3; have j3 := And.intro k3.1 k3.2.1; have q4 := piz_v AG.out.2.1.tx AG.out.2.1.ty hQ; clear hQ)
  | (go_at_call 26; (with_reducible refine q4.mono ?_); rintro e w4 ⟨rfl, hE4⟩; clear q4; have k4 := keepTl k3 hE4; have j4 := And.intro k4.1 k4.2.1; have g1 := k4.2.2.cell hon; have g2 := k4.2.2.cell hze; have f1 := (k4.2.2.frozenE AG.out.2.2.1).trans fo; have f2 := (k4.2.2.frozenE AG.out.2.2.2).trans fz; have g3 : ∀ v, (w4.setCell ⟨bo, 0, none⟩ v).cell? ⟨bz, 0, none⟩ = some (.bool b2) := fun v => by rw [World.cell?_setCell_other _ _ _ _ (fun e => by have := congrArg Addr.block e; simp at this; omega)]; exact g2))
 go_end0
 exact ⟨rfl, w4, k4.2.2, rfl⟩
set_option maxHeartbeats 3200000 in
theorem equal1_walk {pE : Pl} {w : World} {bt bu bo xb xo cx yb yo cy : Nat} {sx sy : ByteArray} {b1 : Bool} (hG : Glob pE w) (h0 : w.cell? ⟨bt, 0, none⟩ = some (.slice (some ⟨xb, xo, none⟩) 1 cx)) (h1 : w.cell? ⟨bt, 1, none⟩ = some (.slice (some ⟨yb, yo, none⟩) 1 cy))
  (h2 : w.cell? ⟨bu, 0, none⟩ = some (.slice (some ⟨xb, xo, none⟩) 1 cx)) (h3 : w.cell? ⟨bu, 1, none⟩ = some (.slice (some ⟨yb, yo, none⟩) 1 cy))
  (hT : Two w xb xo yb yo sx sy) (hon : w.cell? ⟨bo, 0, none⟩ = some (.bool b1)) (fo : w.frozen? ⟨bo, 0, none⟩ = false) (hbo : bt ≠ bo) (hbu : bu ≠ bo) :
  Calls Tryz.prog 32 #[.pointer (some ⟨bt, 0, none⟩), .pointer (some ⟨bu, 0, none⟩), .pointer (some ⟨bo, 0, none⟩)] w fun e w' => e = .returned (.tuple #[]) /\ ∃ w1, Ext w w1 /\ w' = w1.setCell ⟨bo, 0, none⟩ (.bool true) := by
 have hd := (Ext.refl w).drew
 have q1 := edp (cx := cx) (cy := cy) (hG.ext hd) (hT.ext hd)
 have AK : Aside (w.drew.cell? ⟨bt, 0, none⟩ = some (.slice (some ⟨xb, xo, none⟩) 1 cx) /\ w.drew.cell? ⟨bt, 1, none⟩ = some (.slice (some ⟨yb, yo, none⟩) 1 cy) /\ w.drew.cell? ⟨bu, 0, none⟩ = some (.slice (some ⟨xb, xo, none⟩) 1 cx) /\ w.drew.cell? ⟨bu, 1, none⟩ = some (.slice (some ⟨yb, yo, none⟩) 1 cy) /\ Ext w w.drew) := ⟨h0, h1, h2, h3, hd⟩
 have keep : ∀ {W W' : World}, (W.cell? ⟨bt, 0, none⟩ = some (.slice (some ⟨xb, xo, none⟩) 1 cx) /\ W.cell? ⟨bt, 1, none⟩ = some (.slice (some ⟨yb, yo, none⟩) 1 cy) /\ W.cell? ⟨bu, 0, none⟩ = some (.slice (some ⟨xb, xo, none⟩) 1 cx) /\ W.cell? ⟨bu, 1, none⟩ = some (.slice (some ⟨yb, yo, none⟩) 1 cy) /\ Ext w W) -> Ext W W' ->
  (W'.cell? ⟨bt, 0, none⟩ = some (.slice (some ⟨xb, xo, none⟩) 1 cx) /\ W'.cell? ⟨bt, 1, none⟩ = some (.slice (some ⟨yb, yo, none⟩) 1 cy) /\ W'.cell? ⟨bu, 0, none⟩ = some (.slice (some ⟨xb, xo, none⟩) 1 cx) /\ W'.cell? ⟨bu, 1, none⟩ = some (.slice (some ⟨yb, yo, none⟩) 1 cy) /\ Ext w W') := fun h e => ⟨e.cell h.1, e.cell h.2.1, e.cell h.2.2.1, e.cell h.2.2.2.1, h.2.2.2.2.trans e⟩
 have AG : Aside (Glob pE w /\ Two w xb xo yb yo sx sy /\ bo < w.heap.size) := ⟨hG, hT, lt_of_cell2 hon⟩
 clear hG hT h0 h1 h2 h3 hd
 go_enter Tryz.func32, Tryz.ntmps32
 go_region_held3 (fun W => W.cell? ⟨bt, 0, none⟩ = some (.slice (some ⟨xb, xo, none⟩) 1 cx) /\ W.cell? ⟨bt, 1, none⟩ = some (.slice (some ⟨yb, yo, none⟩) 1 cy) /\ W.cell? ⟨bu, 0, none⟩ = some (.slice (some ⟨xb, xo, none⟩) 1 cx) /\ W.cell? ⟨bu, 1, none⟩ = some (.slice (some ⟨yb, yo, none⟩) 1 cy)) (first | with_reducible exact ⟨AK.out.1, AK.out.2.1, AK.out.2.2.1, AK.out.2.2.2.1⟩ | with_reducible assumption | exact ⟨set_far k3.1 hbo, set_far k3.2.1 hbo, set_far k3.2.2.1 hbu, set_far k3.2.2.2.1 hbu⟩) (first
  | (go_at_call 24; (with_reducible refine q1.mono ?_); rintro e w1 ⟨P, rfl, hP, hE1⟩; clear q1; have k1 := keep AK.out hE1; have j1 := And.intro k1.1 (And.intro k1.2.1 (And.intro k1.2.2.1 k1.2.2.2.1)); have q2 := edp (cx := cx) (cy := cy) (AG.out.1.ext k1.2.2.2.2) (AG.out.2.1.ext k1.2.2.2.2))
  | (go_at_call 24; (with_reducible refine q2.mono ?_); rintro e w2 ⟨Q, rfl, hQ, hE2⟩; clear q2; have k2 := keep k1 hE2; have j2 := And.intro k2.1 (And.intro k2.2.1 (And.intro k2.2.2.1 k2.2.2.2.1)); obtain ⟨X, Y, x1, x2, x3, x4⟩ := hP; obtain ⟨X', Y', y1, y2, y3, y4⟩ := hQ; rw [isM_uniq y3 x3] at y1; rw [isM_uniq y4 x4] at y2; have q3 := peq_walk (words_ext x1 hE2) (words_ext x2 hE2) y1 y2; clear x1 x2 x3 x4 y1 y2 y3 y4)
  | (go_at_call 33; (with_reducible refine q3.mono ?_); rintro e w3 ⟨rfl, hE3⟩; clear q3; have k3 := keep k2 hE3; have j3 := And.intro k3.1 (And.intro k3.2.1 (And.intro k3.2.2.1 k3.2.2.2.1)); have g1 := k3.2.2.2.2.cell hon; have f1 := (k3.2.2.2.2.frozenE AG.out.2.2).trans fo))
 go_end0
 exact ⟨rfl, w3, k3.2.2.2.2, rfl⟩
end Go.Eng
namespace Go.Eng
open Go Go.RowKit Go.Proofs
set_option maxRecDepth 100000
set_option maxHeartbeats 1600000 in
theorem safe_walk23 (caps : Array Value) (w : World) (R : World -> Prop)
  (h : ∀ W, W = w.alloc (.cells #[.bool false] 4) -> Calls Tryz.prog 23 caps W fun e w' => e = .returned (.tuple #[]) /\ R w' /\ w'.cell? ⟨w.heap.size, 0, none⟩ = some (.bool false) /\ w'.frozen? ⟨w.heap.size, 0, none⟩ = false) :
  Calls Tryz.prog 22 #[.func (.func 23) #[] caps] w fun e w' => e = .returned (.bool true) /\ ∃ w1, R w1 /\ w' = (w1.setCell ⟨w.heap.size, 0, none⟩ (.bool true)).setCell ⟨w.heap.size, 0, none⟩ (.bool true) := by
 have hmf : ∀ (fn : Go.Fn) (first cap : Array Value) (w : World), (Instr.makeFunc fn first cap).run Tryz.prog w = .ok (.func fn first cap) w := fun _ _ _ _ => rfl
 go_enter_defers Tryz.func22, Tryz.ntmps22
 go_wp2_with (go_at_call 23; refine (h _ rfl).mono ?_; rintro e w1 ⟨rfl, hR, hc1, hf1⟩)
 refine leaves_cons (f := 51) (args := #[.pointer (some ⟨w.heap.size, 0, none⟩)]) (by simp) (by simp [go_sem]) ?_
 refine (safe1_idle ⟨w.heap.size, 0, none⟩ true _ ?_ ?_).mono ?_
 ·exact World.cell?_setCell_same _ _ _ hc1
 ·simpa using hf1
 rintro e u' w'' ⟨rfl, rfl, rfl⟩
 have hS : ∃ w2, R w2 /\ ((w1.setCell ⟨w.heap.size, 0, none⟩ (.bool true)).setCell ⟨w.heap.size, 0, none⟩ (.bool true)) = (w2.setCell ⟨w.heap.size, 0, none⟩ (.bool true)).setCell ⟨w.heap.size, 0, none⟩ (.bool true) := ⟨w1, hR, rfl⟩
 generalize hW : (w1.setCell ⟨w.heap.size, 0, none⟩ (.bool true)).setCell ⟨w.heap.size, 0, none⟩ (.bool true) = W at hS ⊢
 have hcW : W.cell? ⟨w.heap.size, 0, none⟩ = some (.bool true) := by rw [<- hW]; exact World.cell?_setCell_same _ _ _ (World.cell?_setCell_same _ _ _ hc1)
 simp [Leaves, settle, results, Tryz.results22, go_sem, hcW]
 exact hS
set_option maxHeartbeats 1600000 in
theorem safe_walk32 (caps : Array Value) (w : World) (R : World -> Prop)
  (h : ∀ W, W = w.alloc (.cells #[.bool false] 4) -> Calls Tryz.prog 32 caps W fun e w' => e = .returned (.tuple #[]) /\ R w' /\ w'.cell? ⟨w.heap.size, 0, none⟩ = some (.bool false) /\ w'.frozen? ⟨w.heap.size, 0, none⟩ = false) :
  Calls Tryz.prog 22 #[.func (.func 32) #[] caps] w fun e w' => e = .returned (.bool true) /\ ∃ w1, R w1 /\ w' = (w1.setCell ⟨w.heap.size, 0, none⟩ (.bool true)).setCell ⟨w.heap.size, 0, none⟩ (.bool true) := by
 have hmf : ∀ (fn : Go.Fn) (first cap : Array Value) (w : World), (Instr.makeFunc fn first cap).run Tryz.prog w = .ok (.func fn first cap) w := fun _ _ _ _ => rfl
 go_enter_defers Tryz.func22, Tryz.ntmps22
 go_wp2_with (go_at_call 32; refine (h _ rfl).mono ?_; rintro e w1 ⟨rfl, hR, hc1, hf1⟩)
 refine leaves_cons (f := 51) (args := #[.pointer (some ⟨w.heap.size, 0, none⟩)]) (by simp) (by simp [go_sem]) ?_
 refine (safe1_idle ⟨w.heap.size, 0, none⟩ true _ ?_ ?_).mono ?_
 ·exact World.cell?_setCell_same _ _ _ hc1
 ·simpa using hf1
 rintro e u' w'' ⟨rfl, rfl, rfl⟩
 have hS : ∃ w2, R w2 /\ ((w1.setCell ⟨w.heap.size, 0, none⟩ (.bool true)).setCell ⟨w.heap.size, 0, none⟩ (.bool true)) = (w2.setCell ⟨w.heap.size, 0, none⟩ (.bool true)).setCell ⟨w.heap.size, 0, none⟩ (.bool true) := ⟨w1, hR, rfl⟩
 generalize hW : (w1.setCell ⟨w.heap.size, 0, none⟩ (.bool true)).setCell ⟨w.heap.size, 0, none⟩ (.bool true) = W at hS ⊢
 have hcW : W.cell? ⟨w.heap.size, 0, none⟩ = some (.bool true) := by rw [<- hW]; exact World.cell?_setCell_same _ _ _ (World.cell?_setCell_same _ _ _ hc1)
 simp [Leaves, settle, results, Tryz.results22, go_sem, hcW]
 exact hS
theorem bool_new (w : World) (b : Bool) (t : TypeId) : (w.alloc (.cells #[.bool b] t)).cell? ⟨w.heap.size, 0, none⟩ = some (.bool b) /\ ∀ o, (w.alloc (.cells #[.bool b] t)).frozen? ⟨w.heap.size, o, none⟩ = false :=
 ⟨(cell_new w _ _ 0).trans rfl, fun o => frozen_new w _ _ o⟩
set_option maxHeartbeats 3200000 in
theorem tells_walk {pE : Pl} {w : World} {xb xo cx yb yo cy : Nat} {sx sy : ByteArray} (k n : Int) (hG : Glob pE w) (hT : Two w xb xo yb yo sx sy) :
  Calls Tryz.prog 8 #[.int .i64 k, .int .i64 n, .agg #[.slice (some ⟨xb, xo, none⟩) 1 cx, .slice (some ⟨yb, yo, none⟩) 1 cy]] w fun e w' => e = .returned (.tuple #[.bool (onV sx sy), .bool (zeV sx sy)]) /\ Ext w w' := by
 have hmf : ∀ (fn : Go.Fn) (first cap : Array Value) (w : World), (Instr.makeFunc fn first cap).run Tryz.prog w = .ok (.func fn first cap) w := fun _ _ _ _ => rfl
 obtain ⟨W1, hW1⟩ : ∃ W, W = ((w.alloc (.cells #[.slice (some ⟨xb, xo, none⟩) 1 cx, .slice (some ⟨yb, yo, none⟩) 1 cy] 24)).alloc (.cells #[.bool false] 4)).alloc (.cells #[.bool false] 4) := ⟨_, rfl⟩
 have hs : W1.heap.size = w.heap.size + 1 + 1 + 1 := by rw [hW1, size_al, size_al, size_al]
 have hE : Ext w W1 := by rw [hW1]; exact (((Ext.refl w).alloc _).alloc _).alloc _
 have c0 : W1.cell? ⟨w.heap.size, 0, none⟩ = some (.slice (some ⟨xb, xo, none⟩) 1 cx) := by rw [hW1]; exact Ext.cell (((Ext.refl _).alloc _).alloc _) ((cell_new w _ _ 0).trans rfl)
 have c1 : W1.cell? ⟨w.heap.size, 1, none⟩ = some (.slice (some ⟨yb, yo, none⟩) 1 cy) := by rw [hW1]; exact Ext.cell (((Ext.refl _).alloc _).alloc _) ((cell_new w _ _ 1).trans rfl)
 have d1 : W1.cell? ⟨w.heap.size + 1, 0, none⟩ = some (.bool false) /\ W1.frozen? ⟨w.heap.size + 1, 0, none⟩ = false := by
  have h := bool_new (w.alloc (.cells #[.slice (some ⟨xb, xo, none⟩) 1 cx, .slice (some ⟨yb, yo, none⟩) 1 cy] 24)) false 4
  rw [size_al] at h
  rw [hW1]
  exact ⟨Ext.cell ((Ext.refl _).alloc _) h.1, (((Ext.refl _).alloc _).frozenE (by rw [size_al, size_al]; omega)).trans (h.2 0)⟩
 have d2 : W1.cell? ⟨w.heap.size + 1 + 1, 0, none⟩ = some (.bool false) /\ W1.frozen? ⟨w.heap.size + 1 + 1, 0, none⟩ = false := by
  have h := bool_new ((w.alloc (.cells #[.slice (some ⟨xb, xo, none⟩) 1 cx, .slice (some ⟨yb, yo, none⟩) 1 cy] 24)).alloc (.cells #[.bool false] 4)) false 4
  rw [size_al, size_al] at h
  rw [hW1]
  exact ⟨h.1, h.2 0⟩
 have hsafe : Calls Tryz.prog 22 #[.func (.func 23) #[] #[.pointer (some ⟨w.heap.size, 0, none⟩), .pointer (some ⟨w.heap.size + 1, 0, none⟩), .pointer (some ⟨w.heap.size + 1 + 1, 0, none⟩)]] W1 fun e w' => e = .returned (.bool true) /\ Ext w w' /\ w'.cell? ⟨w.heap.size + 1, 0, none⟩ = some (.bool (onV sx sy)) /\ w'.cell? ⟨w.heap.size + 1 + 1, 0, none⟩ = some (.bool (zeV sx sy)) /\ w'.frozen? ⟨w.heap.size + 1, 0, none⟩ = false /\ w'.frozen? ⟨w.heap.size + 1 + 1, 0, none⟩ = false := by
  refine (safe_walk23 _ W1 (fun w' => ∃ w1, Ext (W1.alloc (.cells #[.bool false] 4)) w1 /\ w' = (w1.setCell ⟨w.heap.size + 1, 0, none⟩ (.bool (onV sx sy))).setCell ⟨w.heap.size + 1 + 1, 0, none⟩ (.bool (zeV sx sy))) ?_).mono ?_
  ·intro W hW
   have e1 : Ext W1 W := by rw [hW]; exact (Ext.refl _).alloc _
   have hn := bool_new W1 false 4
   rw [<- hW] at hn ⊢
   refine (tells1_walk (hG.ext (hE.trans e1)) (e1.cell c0) (e1.cell c1) (hT.ext (hE.trans e1)) (e1.cell d1.1) (e1.cell d2.1) ((e1.frozenE (by omega)).trans d1.2) ((e1.frozenE (by omega)).trans d2.2) (by omega) (by omega) (by omega)).mono ?_
   rintro e w' ⟨h1, w1, h2, rfl⟩
   refine ⟨h1, ⟨w1, h2, rfl⟩, ?_, ?_⟩
   ·exact set_far (set_far (h2.cell hn.1) (by omega)) (by omega)
   ·simp only [World.frozen?_setCell]
    exact (h2.frozenE (by rw [hW, size_al]; omega)).trans (hn.2 0)
  ·rintro e w' ⟨h1, w2, ⟨w1, h2, rfl⟩, rfl⟩
   have e1 : Ext W1 w1 := ((Ext.refl W1).alloc _).trans h2
   have g1 := e1.cell d1.1
   have g2 := e1.cell d2.1
   refine ⟨h1, World.Since.setCell (World.Since.setCell (World.Since.setCell (World.Since.setCell (hE.trans e1) (by show w.heap.size <= w.heap.size + 1; omega) _) (by show w.heap.size <= w.heap.size + 1 + 1; omega) _) (by show w.heap.size <= W1.heap.size; omega) _) (by show w.heap.size <= W1.heap.size; omega) _, ?_, ?_, ?_, ?_⟩
   ·exact set_far (set_far (set_far (World.cell?_setCell_same _ _ _ g1) (by omega)) (by omega)) (by omega)
   ·exact set_far (set_far (World.cell?_setCell_same _ _ _ (set_far g2 (by omega))) (by omega)) (by omega)
   ·simp only [World.frozen?_setCell]
    exact (e1.frozenE (by omega)).trans d1.2
   ·simp only [World.frozen?_setCell]
    exact (e1.frozenE (by omega)).trans d2.2
 obtain ⟨va, hva⟩ : ∃ v, v = onV sx sy := ⟨_, rfl⟩
 obtain ⟨vb, hvb⟩ : ∃ v, v = zeV sx sy := ⟨_, rfl⟩
 rw [<- hva, <- hvb] at hsafe ⊢
 clear hva hvb c0 c1 d1 d2 hE hs hG hT
 go_enter Tryz.func8, Tryz.ntmps8
 rw [hW1] at hsafe
 clear hW1
 go_upto_region 2 with (go_at_call 22; (with_reducible refine hsafe.mono ?_); rintro e w3 ⟨rfl, hE, g1, g2, f1, f2⟩)
 have g3 : ∀ v, (w3.setCell ⟨w.heap.size + 1, 0, none⟩ v).cell? ⟨w.heap.size + 1 + 1, 0, none⟩ = some (.bool vb) := fun v => set_far g2 (by omega)
 go_region
 have k1 : ((w3.setCell ⟨w.heap.size + 1, 0, none⟩ (.bool va)).setCell ⟨w.heap.size + 1 + 1, 0, none⟩ (.bool vb)).cell? ⟨w.heap.size + 1, 0, none⟩ = some (.bool va) := set_far (World.cell?_setCell_same _ _ _ g1) (by omega)
 have k2 : ((w3.setCell ⟨w.heap.size + 1, 0, none⟩ (.bool va)).setCell ⟨w.heap.size + 1 + 1, 0, none⟩ (.bool vb)).cell? ⟨w.heap.size + 1 + 1, 0, none⟩ = some (.bool vb) := World.cell?_setCell_same _ _ _ (g3 _)
 have hEk : Ext w ((w3.setCell ⟨w.heap.size + 1, 0, none⟩ (.bool va)).setCell ⟨w.heap.size + 1 + 1, 0, none⟩ (.bool vb)) := World.Since.setCell (World.Since.setCell hE (by show w.heap.size <= w.heap.size + 1; omega) _) (by show w.heap.size <= w.heap.size + 1 + 1; omega) _
 clear g1 g2 g3 f1 f2
 generalize (w3.setCell ⟨w.heap.size + 1, 0, none⟩ (.bool va)).setCell ⟨w.heap.size + 1 + 1, 0, none⟩ (.bool vb) = W9 at k1 k2 hEk ⊢
 go_wp2
 simp [bodyPost, results, Tryz.results8, go_sem, k1, k2]
 exact hEk.drew
end Go.Eng
namespace Go.Eng
open Go Go.RowKit Go.Proofs
set_option maxRecDepth 100000
set_option maxHeartbeats 3200000 in
theorem eqv_walk {pE : Pl} {w : World} {xb xo cx yb yo cy : Nat} {sx sy : ByteArray} (k n : Int) (hG : Glob pE w) (hT : Two w xb xo yb yo sx sy) :
  Calls Tryz.prog 13 #[.int .i64 k, .int .i64 n, .agg #[.slice (some ⟨xb, xo, none⟩) 1 cx, .slice (some ⟨yb, yo, none⟩) 1 cy], .agg #[.slice (some ⟨xb, xo, none⟩) 1 cx, .slice (some ⟨yb, yo, none⟩) 1 cy]] w fun e w' => e = .returned (.bool true) /\ Ext w w' := by
 have hmf : ∀ (fn : Go.Fn) (first cap : Array Value) (w : World), (Instr.makeFunc fn first cap).run Tryz.prog w = .ok (.func fn first cap) w := fun _ _ _ _ => rfl
 obtain ⟨W1, hW1⟩ : ∃ W, W = ((w.alloc (.cells #[.slice (some ⟨xb, xo, none⟩) 1 cx, .slice (some ⟨yb, yo, none⟩) 1 cy] 24)).alloc (.cells #[.slice (some ⟨xb, xo, none⟩) 1 cx, .slice (some ⟨yb, yo, none⟩) 1 cy] 24)).alloc (.cells #[.bool false] 4) := ⟨_, rfl⟩
 have hs : W1.heap.size = w.heap.size + 1 + 1 + 1 := by rw [hW1, size_al, size_al, size_al]
 have hE : Ext w W1 := by rw [hW1]; exact (((Ext.refl w).alloc _).alloc _).alloc _
 have c0 : W1.cell? ⟨w.heap.size, 0, none⟩ = some (.slice (some ⟨xb, xo, none⟩) 1 cx) := by rw [hW1]; exact Ext.cell (((Ext.refl _).alloc _).alloc _) ((cell_new w _ _ 0).trans rfl)
 have c1 : W1.cell? ⟨w.heap.size, 1, none⟩ = some (.slice (some ⟨yb, yo, none⟩) 1 cy) := by rw [hW1]; exact Ext.cell (((Ext.refl _).alloc _).alloc _) ((cell_new w _ _ 1).trans rfl)
 have e0 : ∀ o v, #[Value.slice (some ⟨xb, xo, none⟩) 1 cx, .slice (some ⟨yb, yo, none⟩) 1 cy][o]? = some v -> W1.cell? ⟨w.heap.size + 1, o, none⟩ = some v := fun o v hv => by
  have h := cell_new (w.alloc (.cells #[.slice (some ⟨xb, xo, none⟩) 1 cx, .slice (some ⟨yb, yo, none⟩) 1 cy] 24)) #[.slice (some ⟨xb, xo, none⟩) 1 cx, .slice (some ⟨yb, yo, none⟩) 1 cy] 24 o
  rw [size_al] at h
  rw [hW1]
  exact Ext.cell ((Ext.refl _).alloc _) (h.trans hv)
 have d1 : W1.cell? ⟨w.heap.size + 1 + 1, 0, none⟩ = some (.bool false) /\ W1.frozen? ⟨w.heap.size + 1 + 1, 0, none⟩ = false := by
  have h := bool_new ((w.alloc (.cells #[.slice (some ⟨xb, xo, none⟩) 1 cx, .slice (some ⟨yb, yo, none⟩) 1 cy] 24)).alloc (.cells #[.slice (some ⟨xb, xo, none⟩) 1 cx, .slice (some ⟨yb, yo, none⟩) 1 cy] 24)) false 4
  rw [size_al, size_al] at h
  rw [hW1]
  exact ⟨h.1, h.2 0⟩
 have hsafe : Calls Tryz.prog 22 #[.func (.func 32) #[] #[.pointer (some ⟨w.heap.size, 0, none⟩), .pointer (some ⟨w.heap.size + 1, 0, none⟩), .pointer (some ⟨w.heap.size + 1 + 1, 0, none⟩)]] W1 fun e w' => e = .returned (.bool true) /\ Ext w w' /\ w'.cell? ⟨w.heap.size + 1 + 1, 0, none⟩ = some (.bool true) /\ w'.frozen? ⟨w.heap.size + 1 + 1, 0, none⟩ = false := by
  refine (safe_walk32 _ W1 (fun w' => ∃ w1, Ext (W1.alloc (.cells #[.bool false] 4)) w1 /\ w' = w1.setCell ⟨w.heap.size + 1 + 1, 0, none⟩ (.bool true)) ?_).mono ?_
  ·intro W hW
   have e1 : Ext W1 W := by rw [hW]; exact (Ext.refl _).alloc _
   have hn := bool_new W1 false 4
   rw [<- hW] at hn ⊢
   refine (equal1_walk (hG.ext (hE.trans e1)) (e1.cell c0) (e1.cell c1) (e1.cell (e0 0 _ rfl)) (e1.cell (e0 1 _ rfl)) (hT.ext (hE.trans e1)) (e1.cell d1.1) ((e1.frozenE (by omega)).trans d1.2) (by omega) (by omega)).mono ?_
   rintro e w' ⟨h1, w1, h2, rfl⟩
   refine ⟨h1, ⟨w1, h2, rfl⟩, ?_, ?_⟩
   ·exact set_far (h2.cell hn.1) (by omega)
   ·simp only [World.frozen?_setCell]
    exact (h2.frozenE (by rw [hW, size_al]; omega)).trans (hn.2 0)
  ·rintro e w' ⟨h1, w2, ⟨w1, h2, rfl⟩, rfl⟩
   have e1 : Ext W1 w1 := ((Ext.refl W1).alloc _).trans h2
   have g1 := e1.cell d1.1
   refine ⟨h1, World.Since.setCell (World.Since.setCell (World.Since.setCell (hE.trans e1) (by show w.heap.size <= w.heap.size + 1 + 1; omega) _) (by show w.heap.size <= W1.heap.size; omega) _) (by show w.heap.size <= W1.heap.size; omega) _, ?_, ?_⟩
   ·exact set_far (set_far (World.cell?_setCell_same _ _ _ g1) (by omega)) (by omega)
   ·simp only [World.frozen?_setCell]
    exact (e1.frozenE (by omega)).trans d1.2
 clear c0 c1 e0 d1 hE hs hG hT
 go_enter Tryz.func13, Tryz.ntmps13
 rw [hW1] at hsafe
 clear hW1
 go_wp2_with (go_at_call 22; (with_reducible refine hsafe.mono ?_); rintro e w3 ⟨rfl, hE, g1, f1⟩)
 have k1 : (w3.setCell ⟨w.heap.size + 1 + 1, 0, none⟩ (.bool true)).cell? ⟨w.heap.size + 1 + 1, 0, none⟩ = some (.bool true) := World.cell?_setCell_same _ _ _ g1
 simp [bodyPost, results, Tryz.results13, go_sem, k1]
 exact World.Since.setCell hE (by show w.heap.size <= w.heap.size + 1 + 1; omega) _
end Go.Eng
namespace Go.Eng
open Go Go.RowKit Go.Proofs
set_option maxRecDepth 100000
set_option maxHeartbeats 1600000 in
theorem point_len {aP aA aD aQ a b : Option Addr} {lP cP lA cA lD cD lQ cQ l c m d : Nat} {w : World} (h : l ≠ 1 \/ m ≠ 1) :
  Calls Tryz.prog 6 #[.agg #[.slice aP lP cP, .slice aA lA cA, .slice aD lD cD, .slice aQ lQ cQ], .agg #[.slice a l c, .slice b m d]] w fun e w' => ∃ (a1 : Option Addr) (l1 c1 : Nat) (a2 : Option Addr) (l2 c2 : Nat), e = .returned (.tuple #[.agg #[.slice a1 l1 c1, .slice a2 l2 c2], .bool false]) /\ Ext w w' := by
 obtain ⟨B, hB⟩ : ∃ B, B = ((w.alloc (.cells #[.slice aP lP cP, .slice aA lA cA, .slice aD lD cD, .slice aQ lQ cQ] 31)).alloc (.cells #[.slice a l c, .slice b m d] 24)).alloc (.cells #[.slice none 0 0, .slice none 0 0] 33) := ⟨_, rfl⟩
 have hEB : Ext w B := by rw [hB]; exact (((Ext.refl _).alloc _).alloc _).alloc _
 have c10 : B.cell? ⟨w.heap.size + 1, 0, none⟩ = some (.slice a l c) := by
  rw [hB]; exact Ext.cell ((Ext.refl _).alloc _) (cell_al _ _ _ _ (by simp) rfl)
 have c11 : B.cell? ⟨w.heap.size + 1, 1, none⟩ = some (.slice b m d) := by
  rw [hB]; exact Ext.cell ((Ext.refl _).alloc _) (cell_al _ _ _ _ (by simp) rfl)
 have kz0 : B.cell? ⟨w.heap.size + 1 + 1, 0, none⟩ = some (.slice none 0 0) := by
  rw [hB]; exact cell_al _ _ _ _ (by simp) rfl
 have kz1 : B.cell? ⟨w.heap.size + 1 + 1, 1, none⟩ = some (.slice none 0 0) := by
  rw [hB]; exact cell_al _ _ _ _ (by simp) rfl
 have fz : ∀ o, B.frozen? ⟨w.heap.size + 1 + 1, o, none⟩ = false := fun o => by rw [hB]; exact frozen_al _ _ _ _ (by simp)
 have dz1 : ∀ u0, (B.setCell ⟨w.heap.size + 1 + 1, 0, none⟩ u0).cell? ⟨w.heap.size + 1 + 1, 1, none⟩ = some (Value.slice none 0 0) := fun u0 => cell_off1 kz1 (by decide)
 have k0 : ((B.setCell ⟨w.heap.size + 1 + 1, 0, none⟩ (.slice none 0 0)).setCell ⟨w.heap.size + 1 + 1, 1, none⟩ (.slice none 0 0)).cell? ⟨w.heap.size + 1 + 1, 0, none⟩ = some (.slice none 0 0) := cell_off1 (World.cell?_setCell_same _ _ _ kz0) (by decide)
 have k1 : ((B.setCell ⟨w.heap.size + 1 + 1, 0, none⟩ (.slice none 0 0)).setCell ⟨w.heap.size + 1 + 1, 1, none⟩ (.slice none 0 0)).cell? ⟨w.heap.size + 1 + 1, 1, none⟩ = some (.slice none 0 0) := World.cell?_setCell_same _ _ _ (dz1 _)
 have hEk : Ext w ((B.setCell ⟨w.heap.size + 1 + 1, 0, none⟩ (.slice none 0 0)).setCell ⟨w.heap.size + 1 + 1, 1, none⟩ (.slice none 0 0)) := (hEB.setC (by show w.heap.size <= w.heap.size + 1 + 1; omega) _).setC (by show w.heap.size <= w.heap.size + 1 + 1; omega) _
 clear hEB
 by_cases hl : l = 1
 ·have hm : ((m : Int) != 1) = true := by simp; omega
  subst hl
  go_enter Tryz.func6, Tryz.ntmps6
  go_upto_region 1 with fail
  rw [<- hB]
  clear hB
  go_wp2
  generalize (B.setCell ⟨w.heap.size + 1 + 1, 0, none⟩ (.slice none 0 0)).setCell ⟨w.heap.size + 1 + 1, 1, none⟩ (.slice none 0 0) = W9 at k0 k1 hEk ⊢
  simp [bodyPost, results, Tryz.results6, go_sem, k0, k1]
  exact hEk
 ·have hm : ((l : Int) != 1) = true := by simp; omega
  go_enter Tryz.func6, Tryz.ntmps6
  go_upto_region 1 with fail
  rw [<- hB]
  clear hB
  go_wp2
  generalize (B.setCell ⟨w.heap.size + 1 + 1, 0, none⟩ (.slice none 0 0)).setCell ⟨w.heap.size + 1 + 1, 1, none⟩ (.slice none 0 0) = W9 at k0 k1 hEk ⊢
  simp [bodyPost, results, Tryz.results6, go_sem, k0, k1]
  exact hEk
theorem strs1 {w : World} {a : Option Addr} {l c : Nat} (h : Strs w (.slice a l c)) : l ≠ 1 \/ ∃ b o s, l = 1 /\ a = some ⟨b, o, none⟩ /\ s.size <= 1048576 /\ w.cell? ⟨b, o, none⟩ = some (.string s) := by
 obtain ⟨a', l', c', b, o, he, h1, h2, h3⟩ := h
 simp only [Value.slice.injEq] at he
 obtain ⟨rfl, rfl, rfl⟩ := he
 by_cases hl : l = 1
 ·subst hl
  obtain ⟨s, h4, h5⟩ := h3 0 (by decide)
  exact .inr ⟨b, o, s, rfl, h2 (by decide), h4, by simpa using h5⟩
 ·exact .inl hl
theorem point_all {aP aA aD aQ a b : Option Addr} {lP cP NP lA cA lD cD lQ cQ l c m d : Nat} {w : World} (hP : Num w (.slice aP lP cP) NP) (hlp : nlen NP <= 1048576) (hx : Strs w (.slice a l c)) (hy : Strs w (.slice b m d)) :
  (Calls Tryz.prog 6 #[.agg #[.slice aP lP cP, .slice aA lA cA, .slice aD lD cD, .slice aQ lQ cQ], .agg #[.slice a l c, .slice b m d]] w fun e w' => ∃ (a1 : Option Addr) (l1 c1 : Nat) (a2 : Option Addr) (l2 c2 : Nat), e = .returned (.tuple #[.agg #[.slice a1 l1 c1, .slice a2 l2 c2], .bool false]) /\ Ext w w') \/
  ∃ xb xo yb yo sx sy, a = some ⟨xb, xo, none⟩ /\ b = some ⟨yb, yo, none⟩ /\ l = 1 /\ m = 1 /\ w.cell? ⟨xb, xo, none⟩ = some (.string sx) /\ w.cell? ⟨yb, yo, none⟩ = some (.string sy) /\ Canon sx /\ Canon sy /\ rdN sx sx.size < NP /\ rdN sy sy.size < NP /\
   (Calls Tryz.prog 6 #[.agg #[.slice aP lP cP, .slice aA lA cA, .slice aD lD cD, .slice aQ lQ cQ], .agg #[.slice a l c, .slice b m d]] w fun e w' => ∃ (a1 : Option Addr) (l1 c1 : Nat) (a2 : Option Addr) (l2 c2 : Nat), e = .returned (.tuple #[.agg #[.slice a1 l1 c1, .slice a2 l2 c2], .bool true]) /\ Num w' (.slice a1 l1 c1) (rdN sx sx.size) /\ Num w' (.slice a2 l2 c2) (rdN sy sy.size) /\ Ext w w') := by
 rcases strs1 hx with h | ⟨xb, xo, sx, rfl, rfl, zx, cx⟩
 ·exact .inl (point_len (.inl h))
 rcases strs1 hy with h | ⟨yb, yo, sy, rfl, rfl, zy, cy⟩
 ·exact .inl (point_len (.inr h))
 have rb : ∀ s : ByteArray, s.size <= 1048576 -> ¬ Canon s -> ∀ W, Calls Tryz.prog 18 #[.string s] W fun e w' => ∃ (a : Option Addr) (l c : Nat), e = .returned (.tuple #[.slice a l c, .bool false]) /\ Ext W w' := fun s hs hc W =>
  (readg_walk s W hs).mono fun e w' ⟨a, l, c, ok, h1, h2, h3, h4⟩ => ⟨a, l, c, by cases ok; exact h1; exact absurd (h3.1 rfl) hc, h2⟩
 have rg : ∀ s : ByteArray, s.size <= 1048576 -> Canon s -> ∀ W, Calls Tryz.prog 18 #[.string s] W fun e w' => ∃ (a : Option Addr) (l c : Nat), e = .returned (.tuple #[.slice a l c, .bool true]) /\ Num w' (.slice a l c) (rdN s s.size) /\ Ext W w' := fun s hs hc W =>
  (readg_walk s W hs).mono fun e w' ⟨a, l, c, ok, h1, h2, h3, h4⟩ => by
   obtain rfl := h3.2 hc
   exact ⟨a, l, c, h1, h4 rfl, h2⟩
 have rt : ∀ s : ByteArray, s.size <= 1048576 -> Canon s -> nlen (rdN s s.size) <= 1048576 := fun s hs hc => Nat.le_trans (rdN_nlen' (fun j hj => (hc.2.1 j hj).2)) hs
 by_cases kx : Canon sx
 ·by_cases ky : Canon sy
  ·by_cases hX : rdN sx sx.size < NP
   ·by_cases hY : rdN sy sy.size < NP
    ·exact .inr ⟨xb, xo, yb, yo, sx, sy, rfl, rfl, rfl, rfl, cx, cy, kx, ky, hX, hY, point_walkG hP hlp (rg sx zx kx) (rg sy zy ky) hX hY cx cy⟩
    ·exact .inl (point_big2 hP hlp (rt sx zx kx) (rt sy zy ky) hX hY (rg sx zx kx) (rg sy zy ky) cx cy)
   ·exact .inl (point_big1 hP hlp (rt sx zx kx) hX (rg sx zx kx) (fun W => (rg sy zy ky W).mono fun e w' ⟨a, l, c, h1, _, h2⟩ => ⟨a, l, c, h1, h2⟩) cx cy)
  ·exact .inl (point_bad (.inr rfl) (fun W => (rg sx zx kx W).mono fun e w' ⟨a, l, c, h1, _, h2⟩ => ⟨a, l, c, h1, h2⟩) (rb sy zy ky) cx cy)
 ·by_cases ky : Canon sy
  ·exact .inl (point_bad (.inl rfl) (rb sx zx kx) (fun W => (rg sy zy ky W).mono fun e w' ⟨a, l, c, h1, _, h2⟩ => ⟨a, l, c, h1, h2⟩) cx cy)
  ·exact .inl (point_bad (.inl rfl) (rb sx zx kx) (rb sy zy ky) cx cy)
end Go.Eng
namespace Go.Eng
open Go Go.RowKit Go.Proofs
set_option maxRecDepth 100000
theorem canon_len {s : ByteArray} (hc : Canon s) (h : rdN s s.size < 10) : s.size = 1 := by
 obtain ⟨h0, hd, hz⟩ := hc
 rcases hz with h1 | h1
 ·exact h1
 ·have h2 := (hd 0 h0).1
  have h3 := rdN_ge (s := s) (by omega) (s.size - 1)
  rw [show s.size - 1 + 1 = s.size by omega] at h3
  refine Nat.le_antisymm (Nat.le_of_not_lt fun hgt => ?_) h0
  have h4 : 10 ^ 1 <= 10 ^ (s.size - 1) := Nat.pow_le_pow_right (by decide) (by omega)
  omega
theorem canon_dig {s : ByteArray} (d : UInt8) (hc : Canon s) (hs : s.size = 1) (h : rdN s s.size = d.toNat - 48) (hd : 48 <= d.toNat) : s = ⟨⟨[d]⟩⟩ := by
 rw [hs] at h
 have h1 : rdN s 1 = 0 * 10 + ((s.data.getD 0 0).toNat - 48) := rfl
 have h2 := (hc.2.1 0 hc.1).1
 obtain ⟨⟨l⟩⟩ := s
 have hl : l.length = 1 := hs
 match l, hl with
 | [x], _ =>
   have h3 : ((⟨⟨[x]⟩⟩ : ByteArray).data.getD 0 0) = x := rfl
   rw [h3] at h1 h2
   have h4 : x = d := UInt8.toNat_inj.1 (by omega)
   rw [h4]
theorem canon0 {s : ByteArray} (hc : Canon s) : rdN s s.size = 0 ↔ s = ⟨⟨[48]⟩⟩ := by
 constructor
 ·intro h
  exact canon_dig 48 hc (canon_len hc (by omega)) h (by decide)
 ·rintro rfl; rfl
theorem canon1 {s : ByteArray} (hc : Canon s) : rdN s s.size = 1 ↔ s = ⟨⟨[49]⟩⟩ := by
 constructor
 ·intro h
  exact canon_dig 49 hc (canon_len hc (by omega)) h (by decide)
 ·rintro rfl; rfl
theorem ba_ext {s t : ByteArray} (h : s.toList = t.toList) : s = t := by
 rw [ByteArray.toList_eq, ByteArray.toList_eq] at h
 obtain ⟨⟨l⟩⟩ := s
 obtain ⟨⟨m⟩⟩ := t
 have : l = m := h
 rw [this]
theorem same_z {w : World} {xb xo cx yb yo cy z1 z2 : Nat} {sx sy : ByteArray} (hx : w.cell? ⟨xb, xo, none⟩ = some (.string sx)) (hy : w.cell? ⟨yb, yo, none⟩ = some (.string sy)) (kx : Canon sx) (ky : Canon sy)
  (h1 : w.cell? ⟨z1, 0, none⟩ = some (.string ⟨⟨[48]⟩⟩)) (h2 : w.cell? ⟨z2, 0, none⟩ = some (.string ⟨⟨[49]⟩⟩)) :
  Calls Tryz.prog 10 #[.agg #[.slice (some ⟨xb, xo, none⟩) 1 cx, .slice (some ⟨yb, yo, none⟩) 1 cy], .agg #[.slice (some ⟨z1, 0, none⟩) 1 1, .slice (some ⟨z2, 0, none⟩) 1 1]] w fun e w' => e = .returned (.bool (zeV sx sy)) /\ Ext w w' := by
 by_cases a : sx = ⟨⟨[48]⟩⟩
 ·have ha : decide (rdN sx sx.size = 0) = true := decide_eq_true ((canon0 kx).2 a)
  by_cases b : sy = ⟨⟨[49]⟩⟩
  ·have hb : decide (rdN sy sy.size = 1) = true := decide_eq_true ((canon1 ky).2 b)
   unfold zeV
   rw [ha, hb]
   subst a b
   exact same_eqG hx hy h1 h2
  ·have hb : decide (rdN sy sy.size = 1) = false := decide_eq_false (fun h => b ((canon1 ky).1 h))
   unfold zeV
   rw [ha, hb]
   subst a
   exact same_neG2 hx hy h1 h2 (fun h => b (ba_ext h))
 ·have ha : decide (rdN sx sx.size = 0) = false := decide_eq_false (fun h => a ((canon0 kx).1 h))
  unfold zeV
  rw [ha]
  exact same_neG hx hy h1 h2 (fun h => a (ba_ext h))
end Go.Eng
