/-
 Plain laws of digits to the base 2^32, and contracts of the reference package spec over natural numbers.
-/
import Derived.Laws.BitsLemmas
import Derived.Test.YtajgaijilkfjnaaGreatDoorA2
set_option linter.unusedVariables false
set_option linter.unusedSimpArgs false
namespace Go.Eng
open Go Go.RowKit Go.Proofs
set_option maxRecDepth 100000
theorem bits_or_u32 {a b : Nat} (ha : a < bq) (hb : b < bq) : bits .or .u32 (a : Int) (b : Int) = ((a ||| b : Nat) : Int) :=
 (bits_nat .u32 32 (by decide) (fun n h0 h1 => by rw [IntKind.wrap_u32]; omega) a b ha hb).2
theorem bits_or_u64 {a b : Nat} (ha : a < bq * bq) (hb : b < bq * bq) : bits .or .u64 (a : Int) (b : Int) = ((a ||| b : Nat) : Int) :=
 (bits_nat .u64 64 (by decide) (fun n h0 h1 => by rw [IntKind.wrap_u64]; omega) a b ha hb).2
theorem bits_or_0 {b : Nat} : bits .or .u32 (0 : Int) ((b % bq : Nat) : Int) = ((b % bq : Nat) : Int) := by
 have := bits_or_u32 (a := 0) (b := b % bq) bq_pos (mod_bq_lt _)
 rw [Nat.zero_or] at this
 exact this
theorem pow_lt_bq {n : Nat} (hn : n < 32) : 2 ^ n < bq := Nat.pow_lt_pow_right (by decide) hn
theorem up_wrap {n a : Nat} (hn : n < 32) (ha : a < bq) : IntKind.u64.wrap (IntKind.u64.wrap (a : Int) * 2 ^ n) = ((a * 2 ^ n : Nat) : Int) := by
 have h1 : a * 2 ^ n < bq * bq := Nat.mul_lt_mul_of_lt_of_le ha (Nat.le_of_lt (pow_lt_bq hn)) bq_pos
 rw [wrap_u64_nat (lt_bqq ha), show ((a : Int) * 2 ^ n) = ((a * 2 ^ n : Nat) : Int) by rw [Int.natCast_mul, Int.natCast_pow]; rfl, wrap_u64_nat h1]
set_option maxHeartbeats 1600000 in
theorem up_core (ax : Option Addr) (bx ox lx cx n : Nat) (dx : Nat -> Nat) (w : World) (hlx : lx <= 1048576) (hn : n < 32) (hax : 0 < lx -> ax = some ⟨bx, ox, none⟩)
  (hx : ∀ j, j < lx -> w.cell? ⟨bx, ox + j, none⟩ = some (.int .u32 (dx j : Int))) (hdx : ∀ j, dx j < bq) :
  Calls Tryz.prog 117 #[.slice ax lx cx, .int .i64 (n : Int)] w fun e w' => ∃ z, MulO w w' (lx + 1) z /\ valN z (lx + 1) = valN dx lx * 2 ^ n /\ e = .returned (.slice (some ⟨w.heap.size, 0, none⟩) (tlen z (lx + 1)) (lx + 1)) := by
 have hmk := run_make_row' (P := Tryz.prog) 27 85 (.int .u32 0) 4 und23 inf59 rfl .i64 .i64 (lx + 1) (by omega) (by omega)
 have e1 : ((lx + 1 : Nat) : Int) = (lx : Int) + 1 := by omega
 rw [e1] at hmk
 clear e1
 have hq : (n : Int).tdiv 32 = 0 := by rw [Int.tdiv_eq_ediv_of_nonneg (by omega)]; omega
 have hr : (n : Int).tmod 32 = n := by rw [Int.tmod_eq_emod_of_nonneg (by omega)]; omega
 go_enter Tryz.func117, Tryz.ntmps117
 go_wp2
 clear hmk
 go_loopg [6] lx (fun g i wr => ∃ (r : Nat) (z : Nat -> Nat), r <= lx /\ g = lx - r /\ i = .int .i64 r /\ MulO w wr (lx + 1) z /\ (∀ j, r < j -> z j = 0) /\ z r < 2 ^ n /\ valN z (r + 1) = valN dx r * 2 ^ n)
 case atStart => exact ⟨0, _, Nat.zero_le _, rfl, rfl, MulO.start w _, fun _ _ => rfl, Nat.pow_pos (by decide), by simp [valN]⟩
 case round =>
  obtain ⟨r, z, hr', rfl, rfl, hO, hz0, hzr, hval⟩ := hrel
  by_cases hrl : r < lx
  ·have hrz : (r : Int) < (lx : Int) := by omega
   have hrz1 : (r : Int) < (lx : Int) + 1 := by omega
   have hrz2 : (r : Int) + 1 < (lx : Int) + 1 := by omega
   obtain rfl := hax (by omega)
   have hd := hdx r
   have g0 : wr.cell? ⟨bx, ox + r, none⟩ = some (.int .u32 (dx r : Int)) := Ext.cell hO.since (hx r hrl)
   have g1 : wr.cell? ⟨w.heap.size, r, none⟩ = some (.int .u32 (z r : Int)) := hO.row.cell (by omega)
   have g2 : wr.frozen? ⟨w.heap.size, r, none⟩ = false := hO.row.frozen _
   have g3 : ∀ v, (wr.setCell ⟨w.heap.size, r, none⟩ v).cell? ⟨w.heap.size, r + 1, none⟩ = some (.int .u32 0) := fun v => by
    rw [World.cell?_setCell_other _ _ _ _ (fun e => by have := congrArg Addr.off e; simp at this), hO.row.cell (by omega), hz0 (r + 1) (by omega)]; rfl
   have g4 : ∀ v, (wr.setCell ⟨w.heap.size, r, none⟩ v).frozen? ⟨w.heap.size, r + 1, none⟩ = false := fun v => by
    have := hO.row.frozen (r + 1)
    simpa using this
   have AI : Aside (MulO w wr (lx + 1) z /\ (∀ j, r < j -> z j = 0) /\ z r < 2 ^ n /\ valN z (r + 1) = valN dx r * 2 ^ n) := ⟨hO, hz0, hzr, hval⟩
   clear hO hz0 hzr hval hx hdx
   go_wp2
   go_roundg (lx - (r + 1))
   case measure => go_light; omega
   case rel =>
    go_light
    obtain ⟨hO, hz0, hzr, hval⟩ := AI.out
    obtain ⟨u1, u2, u3, u4⟩ := up_in (i := r) (Nat.le_of_lt hn) hd hzr hval
    rw [up_wrap hn hd, nat_mod_bq, nat_div_bq, nat_mod_bq, bits_or_u32 (hO.lt r) (mod_bq_lt _), u1, bits_or_0, Nat.mod_eq_of_lt (a := dx r * 2 ^ n / bq) (Nat.lt_trans u2 (pow_lt_bq hn))]
    refine ⟨r + 1, _, by omega, rfl, rfl, (hO.set u3).set (Nat.lt_trans u2 (pow_lt_bq hn)), fun j hj => ?_, ?_, ?_⟩
    ·rw [upd_other _ (by omega), upd_other _ (by omega)]; exact hz0 j (by omega)
    ·rw [upd_same]; exact u2
    ·rw [u4, valN, Nat.add_mul, Nat.mul_right_comm]
  ·obtain rfl : r = lx := by omega
   have hrz : ¬ (r : Int) < (r : Int) := by omega
   have AI : Aside (MulO w wr (r + 1) z /\ valN z (r + 1) = valN dx r * 2 ^ n) := ⟨hO, hval⟩
   clear hO hz0 hzr hval hx hdx
   go_wp2_with (go_at_call 63; refine (trim_walk _ w.heap.size 0 (r + 1) (r + 1) z _ (by omega) (Nat.le_refl _) (fun _ => rfl) (fun j hj => by rw [Nat.zero_add]; exact AI.out.1.row.cell hj)).mono ?_; rintro e w' ⟨rfl, rfl⟩)
   go_ret
   exact ⟨z, AI.out.1, AI.out.2, rfl⟩
end Go.Eng
namespace Go.Eng
open Go Go.RowKit Go.Proofs
set_option maxRecDepth 100000
theorem own_slice {w : World} {base n : Nat} {v : Value} {z : Nat -> Nat} (h : w.ownsRow base 85 1 v n (dvals z n)) : ∃ a g c, v = .slice a n c /\ n <= c /\ (0 < n -> a = some ⟨g, 0, none⟩ /\ Row w g n z /\ base <= g) := by
 obtain ⟨_, h2 | ⟨g', cap', cur, hv, hb, hg, hn, hm, hs, ht⟩⟩ := h
 ·obtain ⟨h2, h3⟩ := h2
  subst h3
  exact ⟨none, 0, 0, h2, Nat.le_refl _, fun h => absurd h (Nat.lt_irrefl 0)⟩
 ·refine ⟨_, g', cap', hv, hn, fun _ => ⟨rfl, ⟨cur, hg, by omega, fun i hi => ?_⟩, hb⟩⟩
  have e : (dvals z n)[i]? = some (.int .u32 (z i : Int)) := by simp [dvals, hi]
  rw [<- ht, Nat.mul_one, List.getElem?_take, if_pos hi] at e
  simpa using e
theorem dvals_succ' (z : Nat -> Nat) (n : Nat) : dvals z n ++ [.int .u32 (z n : Int)] = dvals z (n + 1) := by
 rw [dvals, dvals, List.range_succ, List.map_append, List.map_singleton]
theorem nat_shr (t n : Nat) : ((t : Nat) : Int) / 2 ^ n % 4294967296 = ((t / 2 ^ n % bq : Nat) : Int) := by
 rw [show ((2 : Int) ^ n) = ((2 ^ n : Nat) : Int) by rw [Int.natCast_pow]; rfl]
 rfl
theorem down_wrap1 {d n X r : Nat} (hn : n < 32) (hd : d = dg X r) (hX : nlen X <= r + 1) : IntKind.u64.wrap (d : Int) / 2 ^ n % 4294967296 = ((dg (X / 2 ^ n) r : Nat) : Int) := by
 have hl : d < bq := by rw [hd]; exact dg_lt _ _
 rw [wrap_u64_nat (lt_bqq hl), nat_shr, <- down_in (Nat.le_of_lt hn), <- hd, dg_zero_of_le hX, Nat.zero_mul, Nat.add_zero]
theorem down_wrap2 {d d2 n X r : Nat} (hn : n < 32) (hd : d = dg X r) (hd2 : d2 = dg X (r + 1)) : bits .or .u64 (IntKind.u64.wrap (d : Int)) (IntKind.u64.wrap (IntKind.u64.wrap (d2 : Int) * 4294967296)) / 2 ^ n % 4294967296 = ((dg (X / 2 ^ n) r : Nat) : Int) := by
 have hl : d < bq := by rw [hd]; exact dg_lt _ _
 have hl2 : d2 < bq := by rw [hd2]; exact dg_lt _ _
 have h1 : d2 * bq < bq * bq := Nat.mul_lt_mul_of_pos_right hl2 bq_pos
 rw [wrap_u64_nat (lt_bqq hl), wrap_u64_nat (lt_bqq hl2), show ((d2 : Int) * 4294967296) = ((d2 * bq : Nat) : Int) from (Int.natCast_mul d2 bq).symm, wrap_u64_nat h1, bits_or_u64 (lt_bqq hl) h1]
 have h2 : d ||| d2 * bq = d + d2 * bq := by
  rw [Nat.or_comm, show bq = 2 ^ 32 from rfl, <- Nat.shiftLeft_eq, <- Nat.shiftLeft_add_eq_or_of_lt (show d < 2 ^ 32 from hl), Nat.add_comm]
 rw [h2, nat_shr, <- down_in (Nat.le_of_lt hn), <- hd, <- hd2]
set_option maxHeartbeats 1600000 in
theorem down_core (ax : Option Addr) (bx ox lx cx n X : Nat) (w : World) (hlx : lx <= 1048576) (hn : n < 32) (hax : 0 < lx -> ax = some ⟨bx, ox, none⟩)
  (hx : ∀ j, j < lx -> w.cell? ⟨bx, ox + j, none⟩ = some (.int .u32 (dg X j : Int))) (hX : nlen X = lx) :
  Calls Tryz.prog 118 #[.slice ax lx cx, .int .i64 (n : Int)] w fun e w' => ∃ a g c, e = .returned (.slice a (nlen (X / 2 ^ n)) c) /\ nlen (X / 2 ^ n) <= c /\ (0 < lx -> a = some ⟨g, 0, none⟩ /\ Row w' g lx (dg (X / 2 ^ n)) /\ w.heap.size <= g) /\ (lx = 0 -> a = none /\ c = 0) /\ Ext w w' := by
 obtain ⟨i0, hi, hz0, hz1, hz2⟩ := info_parts inf59
 have hq : (n : Int).tdiv 32 = 0 := by rw [Int.tdiv_eq_ediv_of_nonneg (by omega)]; omega
 have hr : (n : Int).tmod 32 = n := by rw [Int.tmod_eq_emod_of_nonneg (by omega)]; omega
 have AX : Aside (nlen X = lx) := hX
 clear hX
 go_enter Tryz.func118, Tryz.ntmps118
 go_wp2
 go_loopg [5, 6] lx (fun g out i wr => ∃ (r : Nat), r <= lx /\ g = lx - r /\ i = .int .i64 r /\ wr.ownsRow w.heap.size 85 1 out r (dvals (dg (X / 2 ^ n)) r) /\ (r = 0 -> out = .slice none 0 0) /\ Ext w wr)
 case atStart => exact ⟨0, Nat.zero_le _, rfl, rfl, World.ownsRow_nil _ _ _ _, fun _ => rfl, Ext.refl w⟩
 case round =>
  obtain ⟨r, hr', rfl, rfl, hown, hnil, hE⟩ := hrel
  by_cases hrl : r < lx
  ·have hrz : (r : Int) < (lx : Int) := by omega
   obtain rfl := hax (by omega)
   have g0 : wr.cell? ⟨bx, ox + r, none⟩ = some (.int .u32 (dg X r : Int)) := hE.cell (hx r hrl)
   obtain ⟨d, hd⟩ : ∃ d, d = dg X r := ⟨_, rfl⟩
   rw [<- hd] at g0
   have hdl : d < bq := by rw [hd]; exact dg_lt _ _
   have AE : Aside (Ext w wr) := hE
   by_cases hrl2 : r + 1 < lx
   ·have hrz2 : (r : Int) + 1 < (lx : Int) := by omega
    have g1 : wr.cell? ⟨bx, ox + (r + 1), none⟩ = some (.int .u32 (dg X (r + 1) : Int)) := hE.cell (hx (r + 1) hrl2)
    obtain ⟨d2, hd2⟩ : ∃ d, d = dg X (r + 1) := ⟨_, rfl⟩
    rw [<- hd2] at g1
    have AI : Aside (d = dg X r /\ d2 = dg X (r + 1)) := ⟨hd, hd2⟩
    clear hd hd2 hx hnil hE hdl
    go_wp2_with (at_builtin; (go_must (refine wpList_append_own _ rfl (.tmp 35) (.tmp 41) 27 rfl w.heap.size 85 i0 (.int .u32 0) 1 4 und23 hi hz0 hz1 hz2 rfl (by decide) _ _ _ rfl (hown.alloc _) ⟨wr.heap.size, 0, none⟩ 1 1 [.int .u32 (bits .or .u64 (IntKind.u64.wrap ↑d) (IntKind.u64.wrap (IntKind.u64.wrap ↑d2 * 4294967296)) / 2 ^ n % 4294967296)] rfl rfl (one_cell _ _ _) (one_oneCell _ _) (by unfold maxLen; omega) (by omega) (by have := AE.out.size; simp; omega) ?_; intro v' w1 hown1 hgrow1 hnil1)))
    go_roundg (lx - (r + 1))
    case measure => go_light; omega
    case rel =>
     go_light
     rw [down_wrap2 hn AI.out.1 AI.out.2, dvals_succ'] at hown1
     exact ⟨r + 1, by omega, rfl, rfl, hown1, fun h => absurd h (Nat.succ_ne_zero r), (AE.out.alloc _).grown hgrow1 (fun k hk => (hown.lt k hk).1)⟩
   ·have hrz2 : ¬ (r : Int) + 1 < (lx : Int) := by omega
    have AI : Aside (d = dg X r) := hd
    clear hd hx hnil hE hdl
    go_wp2_with (at_builtin; (go_must (refine wpList_append_own _ rfl (.tmp 35) (.tmp 41) 27 rfl w.heap.size 85 i0 (.int .u32 0) 1 4 und23 hi hz0 hz1 hz2 rfl (by decide) _ _ _ rfl (hown.alloc _) ⟨wr.heap.size, 0, none⟩ 1 1 [.int .u32 (IntKind.u64.wrap ↑d / 2 ^ n % 4294967296)] rfl rfl (one_cell _ _ _) (one_oneCell _ _) (by unfold maxLen; omega) (by omega) (by have := AE.out.size; simp; omega) ?_; intro v' w1 hown1 hgrow1 hnil1)))
    go_roundg (lx - (r + 1))
    case measure => go_light; omega
    case rel =>
     go_light
     rw [down_wrap1 hn AI.out (by rw [AX.out]; omega), dvals_succ'] at hown1
     exact ⟨r + 1, by omega, rfl, rfl, hown1, fun h => absurd h (Nat.succ_ne_zero r), (AE.out.alloc _).grown hgrow1 (fun k hk => (hown.lt k hk).1)⟩
  ·obtain rfl : r = lx := by omega
   have hrz : ¬ (r : Int) < (r : Int) := by omega
   obtain ⟨av, gv, cv, hv, hcv, hav⟩ := own_slice hown
   subst hv
   have AI : Aside (Ext w wr /\ (r = 0 -> (Value.slice av r cv) = .slice none 0 0)) := ⟨hE, hnil⟩
   clear hE hnil hx hown
   go_wp2_with (go_at_call 63; refine (trim_walk av gv 0 r cv (dg (X / 2 ^ n)) _ (by omega) hcv (fun h => (hav h).1) (fun j hj => by rw [Nat.zero_add]; exact (hav (by omega)).2.1.cell hj)).mono ?_; rintro e w' ⟨rfl, rfl⟩)
   go_ret
   have hnl : tlen (dg (X / 2 ^ n)) r = nlen (X / 2 ^ n) := by
    rw [tlen_eq (fun j _ => dg_lt _ _), valN_dg, Nat.mod_eq_of_lt]
    refine lt_iff_nlen.2 ?_
    rw [<- AX.out]
    exact nlen_mono (Nat.div_le_self _ _)
   rw [hnl]
   refine ⟨av, gv, cv, rfl, ?_, hav, fun h => ?_, AI.out.1⟩
   ·have := nlen_mono (Nat.div_le_self X (2 ^ n))
    rw [AX.out] at this
    omega
   ·have h1 := AI.out.2 h
    simp only [Value.slice.injEq] at h1
    exact ⟨h1.1, h1.2.2⟩
end Go.Eng
namespace Go.Eng
open Go Go.RowKit Go.Proofs
set_option maxRecDepth 100000
theorem rest_or {s d : Nat} (hs : s < bq) (hd : d < bq) : bits .or .u64 (IntKind.u64.wrap ((s : Int) * 4294967296)) (IntKind.u64.wrap (d : Int)) = ((s * bq + d : Nat) : Int) := by
 have h1 : s * bq < bq * bq := Nat.mul_lt_mul_of_pos_right hs bq_pos
 rw [show ((s : Int) * 4294967296) = ((s * bq : Nat) : Int) from (Int.natCast_mul s bq).symm, wrap_u64_nat h1, wrap_u64_nat (lt_bqq hd), bits_or_u64 h1 (lt_bqq hd)]
 congr 1
 rw [show bq = 2 ^ 32 from rfl, <- Nat.shiftLeft_eq, <- Nat.shiftLeft_add_eq_or_of_lt (show d < 2 ^ 32 from hd)]
theorem nat_tdiv (a b : Nat) : (a : Int).tdiv (b : Int) = ((a / b : Nat) : Int) := rfl
theorem nat_tmod (a b : Nat) : (a : Int).tmod (b : Int) = ((a % b : Nat) : Int) := rfl
set_option maxHeartbeats 1600000 in
theorem rest_core (ax : Option Addr) (bx ox lx cx y X : Nat) (w : World) (hlx : lx <= 1048576) (hax : 0 < lx -> ax = some ⟨bx, ox, none⟩)
  (hx : ∀ j, j < lx -> w.cell? ⟨bx, ox + j, none⟩ = some (.int .u32 (dg X j : Int))) (hX : nlen X = lx) (hy : 0 < y) (hyb : y < bq) :
  Calls Tryz.prog 95 #[.slice ax lx cx, .int .u32 (y : Int)] w fun e w' => ∃ z, MulO w w' lx z /\ (∀ j, j < lx -> z j = dg (X / y) j) /\ e = .returned (.tuple #[.slice (some ⟨w.heap.size, 0, none⟩) (nlen (X / y)) lx, .int .u32 ((X % y : Nat) : Int)]) := by
 have hmk := run_make_row' (P := Tryz.prog) 27 85 (.int .u32 0) 4 und23 inf59 rfl .i64 .i64 lx (by omega) (by omega)
 have AX : Aside (nlen X = lx) := hX
 clear hX
 have hy0 : ¬ (y : Int) = 0 := by omega
 have hyw : IntKind.u64.wrap (y : Int) = (y : Int) := wrap_u64_nat (lt_bqq hyb)
 go_enter Tryz.func95, Tryz.ntmps95
 go_wp2
 clear hmk
 go_loopg [7, 8] lx (fun g r i wr => ∃ (z : Nat -> Nat) (s : Nat), g <= lx /\ r = .int .u64 s /\ i = .int .i64 ((g : Int) - 1) /\ s = X / bq ^ g % y /\ MulO w wr lx z /\ (∀ j, g <= j -> j < lx -> z j = dg (X / y) j))
 case atStart => exact ⟨_, 0, Nat.le_refl _, rfl, rfl, by rw [Nat.div_eq_of_lt (lt_iff_nlen.2 (by rw [AX.out]; exact Nat.le_refl _)), Nat.zero_mod], MulO.start w _, fun j h1 h2 => by omega⟩
 case round =>
  obtain ⟨z, s, hg, rfl, rfl, hs, hO, hz⟩ := hrel
  have AI : Aside (s = X / bq ^ gk % y /\ MulO w wr lx z /\ (∀ j, gk <= j -> j < lx -> z j = dg (X / y) j)) := ⟨hs, hO, hz⟩
  have hsy : s < y := by rw [hs]; exact Nat.mod_lt _ hy
  clear hs hz
  cases gk with
  | zero =>
    have hgz : ¬ (0 : Int) <= ((0 : Nat) : Int) - 1 := by omega
    clear hO hx hax
    go_wp2_with (go_at_call 63; refine (trim_walk _ w.heap.size 0 lx lx z _ (by omega) (Nat.le_refl _) (fun _ => rfl) (fun j hj => by rw [Nat.zero_add]; exact AI.out.2.1.row.cell hj)).mono ?_; rintro e w' ⟨rfl, rfl⟩)
    go_ret2
    obtain ⟨hs, hO, hz⟩ := AI.out
    refine ⟨z, hO, fun j hj => hz j (Nat.zero_le _) hj, ?_⟩
    have e1 : tlen z lx = nlen (X / y) := by
     rw [tlen_eq (fun j _ => hO.lt j), valN_congr (b := dg (X / y)) (fun j hj => hz j (Nat.zero_le _) hj), valN_dg, Nat.mod_eq_of_lt]
     refine lt_iff_nlen.2 ?_
     rw [<- AX.out]
     exact nlen_mono (Nat.div_le_self _ _)
    have e2 : ((s : Int) % 4294967296) = ((X % y : Nat) : Int) := by
     rw [small_em (Nat.lt_trans hsy hyb), hs, Nat.pow_zero, Nat.div_one]
    rw [<- e1, <- e2]
    rfl
  | succ k =>
    rw [show ((k + 1 : Nat) : Int) - 1 = (k : Int) by omega]
    obtain rfl := hax (by omega)
    have hkl : (k : Int) < (lx : Int) := by omega
    have g0 : wr.cell? ⟨bx, ox + k, none⟩ = some (.int .u32 (dg X k : Int)) := Ext.cell hO.since (hx k (by omega))
    have g1 : wr.cell? ⟨w.heap.size, k, none⟩ = some (.int .u32 (z k : Int)) := hO.row.cell (by omega)
    have g2 : wr.frozen? ⟨w.heap.size, k, none⟩ = false := hO.row.frozen _
    obtain ⟨d, hd⟩ : ∃ d, d = dg X k := ⟨_, rfl⟩
    rw [<- hd] at g0
    have AD : Aside (d = dg X k) := hd
    clear hO hx hd
    go_wp2
    go_roundg k
    case measure => go_light; omega
    case rel =>
     go_light
     obtain ⟨hs, hO, hz⟩ := AI.out
     have hdl : d < bq := by rw [AD.out]; exact dg_lt _ _
     obtain ⟨r1, r2⟩ := rest_in (X := X) (i := k) hy (Nat.le_of_lt hyb)
     rw [<- hs, <- AD.out] at r1 r2
     rw [rest_or (Nat.lt_trans hsy hyb) hdl, nat_tmod, nat_tdiv, r1, r2, wrap_u64_nat (lt_bqq (dg_lt _ _)), nat_mod_bq, Nat.mod_eq_of_lt (dg_lt _ _)]
     refine ⟨_, _, by omega, rfl, rfl, rfl, hO.set (dg_lt _ _), fun j h1 h2 => ?_⟩
     by_cases e : j = k
     ·subst e; rw [upd_same]
     ·rw [upd_other _ e]; exact hz j (by omega) h2
end Go.Eng
