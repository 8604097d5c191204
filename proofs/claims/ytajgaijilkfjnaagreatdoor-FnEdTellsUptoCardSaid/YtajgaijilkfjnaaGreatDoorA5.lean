/-
 Plain laws of digits to the base 2^32, and contracts of the reference package spec over natural numbers.
-/
import Derived.Deep.RegionWith
import Derived.Deep.RegionHeld3
import Derived.Deep.DeepMust
import Derived.Test.YtajgaijilkfjnaaGreatDoorA4
import Derived.Test.YtajgaijilkfjnaaGreatDoorA2
set_option linter.unusedVariables false
set_option linter.unusedSimpArgs false
namespace Go.Eng
open Go Go.RowKit Go.Proofs
set_option maxRecDepth 100000
theorem MulO.fresh {w w' : World} {n N c : Nat} {z : Nat -> Nat} (h : MulO w w' n z) (hv : valN z n = N) (hc : n <= c) : FreshN w w' (.slice (some ⟨w.heap.size, 0, none⟩) (tlen z n) c) N n /\ Ext w w' := by
 refine ⟨⟨w.heap.size, c, by rw [tlen_eq (fun j _ => h.lt j), hv], ?_, Nat.le_refl _, h.row.congr fun j hj => ?_⟩, h.since⟩
 ·rw [<- hv, <- tlen_eq (fun j _ => h.lt j)]
  exact Nat.le_trans (tlen_le _ _) hc
 ·rw [<- hv, dg_valN (fun j _ => h.lt j) j hj]
theorem row_fresh {w w' : World} {n N : Nat} {z : Nat -> Nat} (hl : ∀ j, z j < bq) (h : Row w' w.heap.size n z) (hv : valN z n = N) : FreshN w w' (.slice (some ⟨w.heap.size, 0, none⟩) (tlen z n) n) N n := by
 refine ⟨w.heap.size, n, by rw [tlen_eq (fun j _ => hl j), hv], ?_, Nat.le_refl _, h.congr fun j hj => ?_⟩
 ·rw [<- hv, <- tlen_eq (fun j _ => hl j)]
  exact tlen_le _ _
 ·rw [<- hv, dg_valN (fun j _ => hl j) j hj]
theorem mul_num {vx vy : Value} {X Y : Nat} {w : World} (hx : Num w vx X) (hy : Num w vy Y) (hlx : nlen X <= 1048576) (hly : nlen Y <= 1048576) :
  Calls Tryz.prog 61 #[vx, vy] w fun e w' => ∃ v, e = .returned v /\ FreshN w w' v (X * Y) (nlen X + nlen Y) /\ Ext w w' := by
 obtain ⟨ax, bx, ox, cx, rfl, _, hax, hxc⟩ := hx
 obtain ⟨ay, by', oy, cy, rfl, _, hay, hyc⟩ := hy
 refine (mul_walk ax ay bx ox _ cx by' oy _ cy (dg X) (dg Y) w hlx hly hax hay hxc hyc (dg_lt X) (dg_lt Y)).mono fun e w' ⟨z, h1, h2, h3⟩ => ⟨_, h3, h1.fresh ?_ (Nat.le_refl _)⟩
 rw [h2, valN_dg_all, valN_dg_all]
theorem valN_dg_ge {N l : Nat} (h : nlen N <= l) : valN (dg N) l = N := by rw [valN_dg, Nat.mod_eq_of_lt (lt_iff_nlen.2 h)]
theorem add_num {vx vy : Value} {X Y : Nat} {w : World} (hx : Num w vx X) (hy : Num w vy Y) (hlx : nlen X <= 1048576) (hly : nlen Y <= 1048576) :
  Calls Tryz.prog 62 #[vx, vy] w fun e w' => ∃ v, e = .returned v /\ FreshN w w' v (X + Y) (max (nlen X) (nlen Y) + 1) /\ Ext w w' := by
 obtain ⟨ax, bx, ox, cx, rfl, _, hax, hxc⟩ := hx
 obtain ⟨ay, by', oy, cy, rfl, _, hay, hyc⟩ := hy
 by_cases hlt : nlen X < nlen Y
 ·rw [Nat.max_eq_right (by omega)]
  refine (add_coreA ax ay bx ox _ cx by' oy _ cy (dg X) (dg Y) w hlx hly hlt hax hay hxc hyc (dg_lt X) (dg_lt Y) (fun j hj => dg_zero_of_le hj) (fun j hj => dg_zero_of_le hj)).mono fun e w' ⟨z, h1, h2, h3, h4, h5⟩ => ⟨_, h4, row_fresh h1 h2 ?_, h5⟩
  rw [h3, valN_dg_ge (by omega), valN_dg_ge (by omega)]
 ·rw [Nat.max_eq_left (by omega)]
  refine (add_coreB ax ay bx ox _ cx by' oy _ cy (dg X) (dg Y) w hlx hly hlt hax hay hxc hyc (dg_lt X) (dg_lt Y) (fun j hj => dg_zero_of_le hj) (fun j hj => dg_zero_of_le hj)).mono fun e w' ⟨z, h1, h2, h3, h4, h5⟩ => ⟨_, h4, row_fresh h1 h2 ?_, h5⟩
  rw [h3, valN_dg_ge (by omega), valN_dg_ge (by omega)]
theorem sub_num {vx vy : Value} {X Y : Nat} {w : World} (hx : Num w vx X) (hy : Num w vy Y) (hlx : nlen X <= 1048576) (hYX : Y <= X) :
  Calls Tryz.prog 83 #[vx, vy] w fun e w' => ∃ v, e = .returned v /\ FreshN w w' v (X - Y) (nlen X) /\ Ext w w' := by
 have hl := nlen_mono hYX
 obtain ⟨ax, bx, ox, cx, rfl, _, hax, hxc⟩ := hx
 obtain ⟨ay, by', oy, cy, rfl, _, hay, hyc⟩ := hy
 refine (sub_core ax ay bx ox _ cx by' oy _ cy (dg X) (dg Y) w hlx (by omega) hax hay hxc hyc (dg_lt X) (dg_lt Y) (fun j hj => dg_zero_of_le hj)).mono fun e w' ⟨z, bw, hbw, h1, h2, h3, h4, h5⟩ => ⟨_, h4, row_fresh h1 h2 ?_, h5⟩
 rw [valN_dg_ge (Nat.le_refl _), valN_dg_ge hl] at h3
 have h6 := valN_lt (z := z) (l := nlen X) fun j _ => h1 j
 rcases (by omega : bw = 0 \/ bw = 1) with e | e
 ·rw [e, Nat.zero_mul] at h3; omega
 ·rw [e, Nat.one_mul] at h3; omega
theorem small_num {vx : Value} {X y more : Nat} {w : World} (hx : Num w vx X) (hlx : nlen X <= 1048576) (hy : y < bq) (hm : more < bq) :
  Calls Tryz.prog 39 #[vx, .int .u32 (y : Int), .int .u32 (more : Int)] w fun e w' => ∃ v, e = .returned v /\ FreshN w w' v (X * y + more) (nlen X + 1) /\ Ext w w' := by
 obtain ⟨ax, bx, ox, cx, rfl, _, hax, hxc⟩ := hx
 refine (small_core ax bx ox _ cx y more (dg X) w hlx hax hxc (dg_lt X) hy hm).mono fun e w' ⟨z, h1, h2, h3, h4, h5⟩ => ⟨_, h4, row_fresh h1 h2 ?_, h5⟩
 rw [h3, valN_dg_all]
theorem rest_num {vx : Value} {X y : Nat} {w : World} (hx : Num w vx X) (hlx : nlen X <= 1048576) (hy : 0 < y) (hyb : y < bq) :
  Calls Tryz.prog 95 #[vx, .int .u32 (y : Int)] w fun e w' => ∃ v, e = .returned (.tuple #[v, .int .u32 ((X % y : Nat) : Int)]) /\ FreshN w w' v (X / y) (nlen X) /\ Ext w w' := by
 obtain ⟨ax, bx, ox, cx, rfl, _, hax, hxc⟩ := hx
 refine (rest_core ax bx ox _ cx y X w hlx hax hxc rfl hy hyb).mono fun e w' ⟨z, h1, h2, h3⟩ => ⟨_, h3, ⟨w.heap.size, nlen X, rfl, nlen_mono (Nat.div_le_self _ _), Nat.le_refl _, h1.row.congr h2⟩, h1.since⟩
def DivQ (w w' : World) (vx vq vr : Value) (X Y : Nat) : Prop :=
 (X < Y -> vq = .slice none 0 0 /\ vr = vx) /\ (Y <= X -> (∃ m, FreshN w w' vq (X / Y) m /\ nlen (X / Y) <= m) /\ (X % Y = 0 -> vr = .slice none 0 0) /\ (X % Y ≠ 0 -> FreshN w w' vr (X % Y) (nlen (X % Y))))
set_option maxHeartbeats 1600000 in
theorem div_num {vx vy : Value} {X Y : Nat} {w : World} (hx : Num w vx X) (hy : Num w vy Y) (hlx : nlen X <= 1048576) (hly : 2 <= nlen Y) (hlyb : nlen Y <= 1048576) :
  Calls Tryz.prog 94 #[vx, vy] w fun e w' => ∃ vq vr, e = .returned (.tuple #[vq, vr]) /\ DivQ w w' vx vq vr X Y /\ Ext w w' := by
 by_cases hlt : X < Y
 ·have hcmp := cmp_walk hx hy hlx hlyb
  rw [show cmpN X Y = -1 from if_pos hlt] at hcmp
  have AL : Aside (X < Y) := hlt
  clear hlt hlx hly hlyb hx hy
  go_enter Tryz.func94, Tryz.ntmps94
  go_wp2_with (go_at_call 29; with_reducible refine hcmp.mono ?_; rintro e w1 ⟨rfl, hE1⟩)
  go_ret2
  exact ⟨_, _, rfl, ⟨fun _ => ⟨rfl, rfl⟩, fun h => absurd AL.out (by omega)⟩, hE1⟩
 ·obtain ⟨ax, bx, ox, cx, rfl, hcx, hax, hxc⟩ := hx
  obtain ⟨ay, by', oy, cy, rfl, hcy, hay, hyc⟩ := hy
  refine (div_core ax ay bx ox _ cx by' oy _ cy X Y w hlx rfl rfl hly (by omega) hcx hcy hax hay hxc hyc).mono fun e w' ⟨vq, vr, h1, h2, h3, h4, h5⟩ => ⟨vq, vr, h1, ⟨fun h => absurd h hlt, fun _ => ⟨h3, h4, h5⟩⟩, h2⟩
end Go.Eng
namespace Go.Eng
open Go Go.RowKit Go.Proofs
set_option maxRecDepth 100000
theorem nlen_mul (X Y : Nat) : nlen (X * Y) <= nlen X + nlen Y := by
 refine nlen_le ?_
 rw [Nat.pow_add]
 by_cases h : Y = 0
 ·rw [h, Nat.mul_zero]; exact Nat.mul_pos (bqp_pos _) (bqp_pos _)
 ·exact Nat.mul_lt_mul_of_lt_of_le (lt_nlen X) (Nat.le_of_lt (lt_nlen Y)) (bqp_pos _)
theorem nlen_add (X Y : Nat) : nlen (X + Y) <= max (nlen X) (nlen Y) + 1 := by
 refine nlen_le ?_
 have h1 : X < bq ^ max (nlen X) (nlen Y) := Nat.lt_of_lt_of_le (lt_nlen X) (Nat.pow_le_pow_right bq_pos (Nat.le_max_left _ _))
 have h2 : Y < bq ^ max (nlen X) (nlen Y) := Nat.lt_of_lt_of_le (lt_nlen Y) (Nat.pow_le_pow_right bq_pos (Nat.le_max_right _ _))
 rw [Nat.pow_succ]
 have h3 : bq ^ max (nlen X) (nlen Y) * 2 <= bq ^ max (nlen X) (nlen Y) * bq := Nat.mul_le_mul_left _ (by decide)
 omega
def ModQ (w w' : World) (vx vr : Value) (X P : Nat) : Prop :=
 (X < P -> vr = vx) /\ (P <= X -> (X % P = 0 -> vr = .slice none 0 0) /\ (X % P ≠ 0 -> FreshN w w' vr (X % P) (nlen (X % P))))
set_option maxHeartbeats 1600000 in
theorem mod_num {vp vx : Value} {X P : Nat} {w : World} (hp : Num w vp P) (hx : Num w vx X) (hlx : nlen X <= 1048576) (hly : 2 <= nlen P) (hlyb : nlen P <= 1048576) :
  Calls Tryz.prog 60 #[.agg #[vp], vx] w fun e w' => ∃ vr, e = .returned vr /\ ModQ w w' vx vr X P /\ Ext w w' := by
 have hdiv : ∀ W, Ext w W -> Calls Tryz.prog 94 #[vx, vp] W fun e w' => ∃ vq vr, e = .returned (.tuple #[vq, vr]) /\ ModQ w w' vx vr X P /\ Ext w w' := fun W hW =>
  (div_num (hx.ext hW) (hp.ext hW) hlx hly hlyb).mono fun e w' ⟨vq, vr, h1, h2, h3⟩ => ⟨vq, vr, h1, ⟨fun h => (h2.1 h).2, fun h => ⟨(h2.2 h).2.1, fun h0 => by
   obtain ⟨b, c, k1, k2, k3, k4⟩ := (h2.2 h).2.2 h0
   exact ⟨b, c, k1, k2, Nat.le_trans hW.size k3, k4⟩⟩⟩, hW.trans h3⟩
 clear hp hx
 have hE : ∀ o, Ext w (w.alloc o) := fun o => (Ext.refl w).alloc o
 go_enter Tryz.func60, Tryz.ntmps60
 go_wp2_with (go_at_call 94; with_reducible refine (hdiv _ (hE _)).mono ?_; rintro e w1 ⟨vq, vr, rfl, hQ, hE1⟩)
 go_ret
 exact ⟨vr, rfl, hQ, hE1⟩
theorem FreshN.of_ext {w W w' : World} {v : Value} {N n : Nat} (h : FreshN W w' v N n) (e : Ext w W) : FreshN w w' v N n := by
 obtain ⟨b, c, h1, h2, h3, h4⟩ := h
 exact ⟨b, c, h1, h2, Nat.le_trans e.size h3, h4⟩
theorem FreshN.ext {w W w' : World} {v : Value} {N n : Nat} (h : FreshN w W v N n) (e : Ext W w') : FreshN w w' v N n := by
 obtain ⟨b, c, h1, h2, h3, h4⟩ := h
 exact ⟨b, c, h1, h2, h3, h4.ext e⟩
def RedQ (w w' : World) (vr : Value) (N P n : Nat) : Prop :=
 (N < P -> FreshN w w' vr N n) /\ (P <= N -> (N % P = 0 -> vr = .slice none 0 0) /\ (N % P ≠ 0 -> FreshN w w' vr (N % P) (nlen (N % P))))
set_option maxHeartbeats 1600000 in
theorem fmul_num {vp vx vy : Value} {X Y P : Nat} {w : World} (hp : Num w vp P) (hx : Num w vx X) (hy : Num w vy Y) (hlx : nlen X <= 524288) (hly : nlen Y <= 524288) (hl2 : 2 <= nlen P) (hlp : nlen P <= 1048576) :
  Calls Tryz.prog 27 #[.agg #[vp], vx, vy] w fun e w' => ∃ vr, e = .returned vr /\ RedQ w w' vr (X * Y) P (nlen X + nlen Y) /\ Ext w w' := by
 have hmul : ∀ W, Ext w W -> Calls Tryz.prog 61 #[vx, vy] W fun e w' => ∃ v, e = .returned v /\ (FreshN w w' v (X * Y) (nlen X + nlen Y) /\ Num w' v (X * Y)) /\ Ext W w' := fun W hW =>
  (mul_num (hx.ext hW) (hy.ext hW) (by omega) (by omega)).mono fun e w' ⟨v, h1, h2, h3⟩ => ⟨v, h1, ⟨h2.of_ext hW, h2.num (nlen_mul _ _)⟩, h3⟩
 have hmod : ∀ W v, Ext w W -> FreshN w W v (X * Y) (nlen X + nlen Y) /\ Num W v (X * Y) -> Calls Tryz.prog 60 #[.agg #[vp], v] W fun e w' => ∃ vr, e = .returned vr /\ RedQ w w' vr (X * Y) P (nlen X + nlen Y) /\ Ext w w' := fun W v hW hf =>
  (mod_num (hp.ext hW) hf.2 (Nat.le_trans (nlen_mul _ _) (by omega)) hl2 hlp).mono fun e w' ⟨vr, h1, h2, h3⟩ => ⟨vr, h1, ⟨fun h => by rw [h2.1 h]; exact hf.1.ext h3, fun h => ⟨(h2.2 h).1, fun h0 => ((h2.2 h).2 h0).of_ext hW⟩⟩, hW.trans h3⟩
 have hE : ∀ o, Ext w (w.alloc o) := fun o => (Ext.refl w).alloc o
 have hb : ∀ W, Ext (w.alloc (.cells #[vp] 29)).drew W -> W.cell? ⟨w.heap.size, 0, none⟩ = some vp := fun W hW => hW.cell (by simp)
 clear hp hx hy hlx hly hl2 hlp
 go_enter Tryz.func27, Tryz.ntmps27
 go_wp2_with fail
 go_region_with (first
  | (go_at_call 61; refine (hmul _ (hE _).drew).mono ?_; rintro e w1 ⟨v1, rfl, hF1, hE1⟩; have hb1 := hb _ hE1)
  | (go_at_call 60; refine (hmod _ _ ((hE _).drew.trans hE1) hF1).mono ?_; rintro e w2 ⟨v2, rfl, hQ, hE2⟩))
 all_goals
  (go_wp2
   go_ret
   exact ⟨v2, rfl, hQ, hE2⟩)
set_option maxHeartbeats 1600000 in
theorem fadd_num {vp vx vy : Value} {X Y P : Nat} {w : World} (hp : Num w vp P) (hx : Num w vx X) (hy : Num w vy Y) (hlx : nlen X <= 524288) (hly : nlen Y <= 524288) (hl2 : 2 <= nlen P) (hlp : nlen P <= 1048576) :
  Calls Tryz.prog 28 #[.agg #[vp], vx, vy] w fun e w' => ∃ vr, e = .returned vr /\ RedQ w w' vr (X + Y) P (max (nlen X) (nlen Y) + 1) /\ Ext w w' := by
 have hmul : ∀ W, Ext w W -> Calls Tryz.prog 62 #[vx, vy] W fun e w' => ∃ v, e = .returned v /\ (FreshN w w' v (X + Y) (max (nlen X) (nlen Y) + 1) /\ Num w' v (X + Y)) /\ Ext W w' := fun W hW =>
  (add_num (hx.ext hW) (hy.ext hW) (by omega) (by omega)).mono fun e w' ⟨v, h1, h2, h3⟩ => ⟨v, h1, ⟨h2.of_ext hW, h2.num (nlen_add _ _)⟩, h3⟩
 have hmod : ∀ W v, Ext w W -> FreshN w W v (X + Y) (max (nlen X) (nlen Y) + 1) /\ Num W v (X + Y) -> Calls Tryz.prog 60 #[.agg #[vp], v] W fun e w' => ∃ vr, e = .returned vr /\ RedQ w w' vr (X + Y) P (max (nlen X) (nlen Y) + 1) /\ Ext w w' := fun W v hW hf =>
  (mod_num (hp.ext hW) hf.2 (Nat.le_trans (nlen_add _ _) (by omega)) hl2 hlp).mono fun e w' ⟨vr, h1, h2, h3⟩ => ⟨vr, h1, ⟨fun h => by rw [h2.1 h]; exact hf.1.ext h3, fun h => ⟨(h2.2 h).1, fun h0 => ((h2.2 h).2 h0).of_ext hW⟩⟩, hW.trans h3⟩
 have hE : ∀ o, Ext w (w.alloc o) := fun o => (Ext.refl w).alloc o
 have hb : ∀ W, Ext (w.alloc (.cells #[vp] 29)).drew W -> W.cell? ⟨w.heap.size, 0, none⟩ = some vp := fun W hW => hW.cell (by simp)
 clear hp hx hy hlx hly hl2 hlp
 go_enter Tryz.func28, Tryz.ntmps28
 go_wp2_with fail
 go_region_with (first
  | (go_at_call 62; refine (hmul _ (hE _).drew).mono ?_; rintro e w1 ⟨v1, rfl, hF1, hE1⟩; have hb1 := hb _ hE1)
  | (go_at_call 60; refine (hmod _ _ ((hE _).drew.trans hE1) hF1).mono ?_; rintro e w2 ⟨v2, rfl, hQ, hE2⟩))
 all_goals
  (go_wp2
   go_ret
   exact ⟨v2, rfl, hQ, hE2⟩)
def fnegN (P Y : Nat) : Nat := if Y = 0 then 0 else P - Y
set_option maxHeartbeats 1600000 in
theorem fneg_num {vp vy : Value} {Y P : Nat} {w : World} (hp : Num w vp P) (hy : Num w vy Y) (hYP : Y <= P) (hlp : nlen P <= 1048576) :
  Calls Tryz.prog 81 #[.agg #[vp], vy] w fun e w' => ∃ vr, e = .returned vr /\ (Y = 0 -> vr = .slice none 0 0) /\ (Y ≠ 0 -> FreshN w w' vr (P - Y) (nlen P)) /\ Ext w w' := by
 have hly := nlen_mono hYP
 have hsub : ∀ W, Ext w W -> Calls Tryz.prog 83 #[vp, vy] W fun e w' => ∃ v, e = .returned v /\ FreshN w w' v (P - Y) (nlen P) /\ Ext w w' := fun W hW =>
  (sub_num (hp.ext hW) (hy.ext hW) hlp hYP).mono fun e w' ⟨v, h1, h2, h3⟩ => ⟨v, h1, h2.of_ext hW, hW.trans h3⟩
 have hE : ∀ o, Ext w (w.alloc o) := fun o => (Ext.refl w).alloc o
 obtain ⟨ay, by', oy, cy, rfl, _, _, _⟩ := hy
 obtain ⟨ly, hl⟩ : ∃ l, l = nlen Y := ⟨_, rfl⟩
 have h0 : ly = 0 ↔ Y = 0 := by rw [hl]; exact nlen_eq_zero
 rw [<- hl] at hsub ⊢
 have A0 : Aside (ly = 0 ↔ Y = 0) := h0
 have hl2 : ly <= 1048576 := by omega
 clear hp hly hl h0 hYP hlp
 by_cases hz : ly = 0
 ·have hzz : ((ly : Int) == 0) = true := by simp; omega
  have AZ : Aside (Y = 0) := A0.out.1 hz
  clear hz hsub
  go_enter Tryz.func81, Tryz.ntmps81
  go_wp2
  go_ret
  exact ⟨_, rfl, fun _ => rfl, fun h => absurd AZ.out h, hE _⟩
 ·have hzz : ((ly : Int) == 0) = false := by simp; omega
  have AZ : Aside (¬ Y = 0) := fun h => hz (A0.out.2 h)
  clear hz
  go_enter Tryz.func81, Tryz.ntmps81
  go_wp2_with (go_at_call 83; with_reducible refine (hsub _ (hE _)).mono ?_; rintro e w1 ⟨v, rfl, hF, hE1⟩)
  go_ret
  exact ⟨_, rfl, fun h => absurd h AZ.out, fun _ => hF, hE1⟩
set_option maxHeartbeats 1600000 in
theorem fsub_num {vp vx vy : Value} {X Y P : Nat} {w : World} (hp : Num w vp P) (hx : Num w vx X) (hy : Num w vy Y) (hYP : Y <= P) (hlx : nlen X <= 524288) (hl2 : 2 <= nlen P) (hlp : nlen P <= 524288) :
  Calls Tryz.prog 49 #[.agg #[vp], vx, vy] w fun e w' => ∃ vr, e = .returned vr /\ RedQ w w' vr (X + fnegN P Y) P (max (nlen X) (nlen (fnegN P Y)) + 1) /\ Ext w w' := by
 have hneg : ∀ W, Ext w W -> Calls Tryz.prog 81 #[.agg #[vp], vy] W fun e w' => ∃ v, e = .returned v /\ Num w' v (fnegN P Y) /\ Ext W w' := fun W hW =>
  (fneg_num (hp.ext hW) (hy.ext hW) hYP (by omega)).mono fun e w' ⟨v, h1, h2, h3, h4⟩ => ⟨v, h1, by
   unfold fnegN
   by_cases h : Y = 0
   ·rw [if_pos h, h2 h]; exact Num.nil _
   ·rw [if_neg h]; exact (h3 h).num (nlen_mono (Nat.sub_le _ _)), h4⟩
 have hadd : ∀ W v, Ext w W -> Num W v (fnegN P Y) -> Calls Tryz.prog 28 #[.agg #[vp], vx, v] W fun e w' => ∃ vr, e = .returned vr /\ RedQ w w' vr (X + fnegN P Y) P (max (nlen X) (nlen (fnegN P Y)) + 1) /\ Ext w w' := fun W v hW hf =>
  (fadd_num (hp.ext hW) (hx.ext hW) hf hlx (by
   have : fnegN P Y <= P := by unfold fnegN; split <;> omega
   have := nlen_mono this
   omega) hl2 (by omega)).mono fun e w' ⟨vr, h1, h2, h3⟩ => ⟨vr, h1, ⟨fun h => (h2.1 h).of_ext hW, fun h => ⟨(h2.2 h).1, fun h0 => ((h2.2 h).2 h0).of_ext hW⟩⟩, hW.trans h3⟩
 have hE : ∀ o, Ext w (w.alloc o) := fun o => (Ext.refl w).alloc o
 have hb : ∀ W, Ext (w.alloc (.cells #[vp] 29)).drew W -> W.cell? ⟨w.heap.size, 0, none⟩ = some vp := fun W hW => hW.cell (by simp)
 clear hp hx hy hlx hl2 hlp hYP
 go_enter Tryz.func49, Tryz.ntmps49
 go_wp2_with fail
 go_region_with (first
  | (go_at_call 81; refine (hneg _ (hE _).drew).mono ?_; rintro e w1 ⟨v1, rfl, hF1, hE1⟩; have hb1 := hb _ hE1)
  | (go_at_call 28; refine (hadd _ _ ((hE _).drew.trans hE1) hF1).mono ?_; rintro e w2 ⟨v2, rfl, hQ, hE2⟩))
 all_goals
  (go_wp2
   go_ret
   exact ⟨v2, rfl, hQ, hE2⟩)
end Go.Eng
namespace Go.Eng
open Go Go.RowKit Go.Proofs
set_option maxRecDepth 100000
theorem cell_new (w : World) (cs : Array Value) (t : TypeId) (o : Nat) : (w.alloc (.cells cs t)).cell? ⟨w.heap.size, o, none⟩ = cs[o]? := by
 unfold World.cell?
 rw [heap_alloc_new]
 simp
theorem frozen_new (w : World) (cs : Array Value) (t : TypeId) (o : Nat) : (w.alloc (.cells cs t)).frozen? ⟨w.heap.size, o, none⟩ = false := by
 unfold World.frozen?
 rw [heap_alloc_new]
 simp
theorem Ext.frozenE {w w' : World} (h : Ext w w') {b o : Nat} (hb : b < w.heap.size) : w'.frozen? ⟨b, o, none⟩ = w.frozen? ⟨b, o, none⟩ := World.Since.frozen h hb
theorem size_al (w : World) (o : Obj) : (w.alloc o).heap.size = w.heap.size + 1 := by simp
theorem RedQ.num {w w' : World} {v : Value} {N P n : Nat} (h : RedQ w w' v N P n) (hn : nlen N <= n) : Num w' v (N % P) := by
 by_cases hlt : N < P
 ·rw [Nat.mod_eq_of_lt hlt]; exact (h.1 hlt).num hn
 ·have hge : P <= N := Nat.le_of_not_lt hlt
  by_cases h0 : N % P = 0
  ·rw [h0, (h.2 hge).1 h0]; exact Num.nil _
  ·exact ((h.2 hge).2 h0).num (Nat.le_refl _)
theorem fmul_N {vp vx vy : Value} {X Y P : Nat} {w : World} (hp : Num w vp P) (hl2 : 2 <= nlen P) (hlp : nlen P <= 1000) (hx : Num w vx X) (hlx : nlen X <= 1000) (hy : Num w vy Y) (hly : nlen Y <= 1000) :
  Calls Tryz.prog 27 #[.agg #[vp], vx, vy] w fun e w' => ∃ v, e = .returned v /\ Num w' v (X * Y % P) /\ Ext w w' :=
 (fmul_num hp hx hy (by omega) (by omega) hl2 (by omega)).mono fun e w' ⟨v, h1, h2, h3⟩ => ⟨v, h1, h2.num (nlen_mul _ _), h3⟩
theorem fadd_N {vp vx vy : Value} {X Y P : Nat} {w : World} (hp : Num w vp P) (hl2 : 2 <= nlen P) (hlp : nlen P <= 1000) (hx : Num w vx X) (hlx : nlen X <= 1000) (hy : Num w vy Y) (hly : nlen Y <= 1000) :
  Calls Tryz.prog 28 #[.agg #[vp], vx, vy] w fun e w' => ∃ v, e = .returned v /\ Num w' v ((X + Y) % P) /\ Ext w w' :=
 (fadd_num hp hx hy (by omega) (by omega) hl2 (by omega)).mono fun e w' ⟨v, h1, h2, h3⟩ => ⟨v, h1, h2.num (nlen_add _ _), h3⟩
theorem fsub_N {vp vx vy : Value} {X Y P : Nat} {w : World} (hp : Num w vp P) (hl2 : 2 <= nlen P) (hlp : nlen P <= 1000) (hx : Num w vx X) (hlx : nlen X <= 1000) (hy : Num w vy Y) (hYP : Y <= P) :
  Calls Tryz.prog 49 #[.agg #[vp], vx, vy] w fun e w' => ∃ v, e = .returned v /\ Num w' v ((X + fnegN P Y) % P) /\ Ext w w' :=
 (fsub_num hp hx hy hYP (by omega) hl2 (by omega)).mono fun e w' ⟨v, h1, h2, h3⟩ => ⟨v, h1, h2.num (nlen_add _ _), h3⟩
theorem of_digits {n : Nat} (h : n < bq * bq) : valN (fun j => if j = 0 then n % bq else n / bq) 2 = n /\ ∀ j, (fun j => if j = 0 then n % bq else n / bq) j < bq := by
 refine ⟨?_, fun j => ?_⟩
 ·simp only [valN]
  have := Nat.div_add_mod n bq
  simp
  rw [Nat.mul_comm] at this
  omega
 ·simp only
  split
  ·exact mod_bq_lt _
  ·exact div_bq_lt h
set_option maxHeartbeats 1600000 in
theorem of_walk (n : Nat) (hn : n < bq * bq) (w : World) : Calls Tryz.prog 30 #[.int .u64 (n : Int)] w fun e w' => ∃ v, e = .returned v /\ FreshN w w' v n 2 /\ Ext w w' := by
 have e1 : (n : Int) % 4294967296 = ((n % bq : Nat) : Int) := rfl
 have e2 : (n : Int) / 4294967296 % 4294967296 = ((n / bq : Nat) : Int) := by
  rw [nat_div_bq, nat_mod_bq, Nat.mod_eq_of_lt (div_bq_lt hn)]
 obtain ⟨d0, hd0⟩ : ∃ d, d = n % bq := ⟨_, rfl⟩
 obtain ⟨d1, hd1⟩ : ∃ d, d = n / bq := ⟨_, rfl⟩
 rw [<- hd0] at e1
 rw [<- hd1] at e2
 have hrow : Row (w.alloc (.cells #[.int .u32 (d0 : Int), .int .u32 (d1 : Int)] 85)) w.heap.size 2 (fun j => if j = 0 then n % bq else n / bq) := by
  refine ⟨_, heap_alloc_new w _, Nat.le_refl _, fun i hi => ?_⟩
  match i, hi with
  | 0, _ => simp [hd0]
  | 1, _ => simp [hd1]
 have AF : Aside (valN (fun j => if j = 0 then n % bq else n / bq) 2 = n /\ (∀ j, (fun j => if j = 0 then n % bq else n / bq) j < bq) /\ Row (w.alloc (.cells #[.int .u32 (d0 : Int), .int .u32 (d1 : Int)] 85)) w.heap.size 2 (fun j => if j = 0 then n % bq else n / bq)) := ⟨(of_digits hn).1, (of_digits hn).2, hrow⟩
 clear hd0 hd1 hrow hn
 go_enter Tryz.func30, Tryz.ntmps30
 go_wp2_with (go_at_call 63; refine (trim_walk _ w.heap.size 0 2 2 (fun j => if j = 0 then n % bq else n / bq) _ (by omega) (Nat.le_refl _) (fun _ => rfl) (fun j hj => by rw [Nat.zero_add]; exact AF.out.2.2.cell hj)).mono ?_; rintro e w' ⟨rfl, rfl⟩)
 go_ret
 obtain ⟨a1, a2, a3⟩ := AF.out
 exact ⟨_, rfl, row_fresh a2 a3 a1, (Ext.refl w).alloc _⟩
end Go.Eng
namespace Go.Eng
open Go Go.RowKit Go.Proofs
set_option maxRecDepth 100000
theorem bit_law (X i : Nat) : dg X (i / 32) / 2 ^ (i % 32) % 2 = X / 2 ^ i % 2 := by
 have h1 := dg_split X (i / 32)
 have hr : i % 32 < 32 := Nat.mod_lt _ (by decide)
 have h2 : X / 2 ^ i = X / bq ^ (i / 32) / 2 ^ (i % 32) := by
  rw [bq_pow, Nat.div_div_eq_div_mul, <- Nat.pow_add]
  congr 2
  omega
 rw [h2, h1]
 generalize X / bq ^ (i / 32 + 1) = m
 generalize i % 32 = r at *
 have hk : bq = 2 ^ r * (2 ^ (31 - r) * 2) := by
  rw [<- Nat.pow_succ, <- Nat.pow_add, show r + Nat.succ (31 - r) = 32 by omega]; rfl
 rw [Nat.add_comm, hk, show m * (2 ^ r * (2 ^ (31 - r) * 2)) = 2 ^ r * (m * 2 ^ (31 - r) * 2) by rw [Nat.mul_left_comm, Nat.mul_assoc], Nat.add_mul_div_left _ _ (Nat.pow_pos (by decide)), Nat.add_mul_mod_self_right]
theorem bit_high {X i : Nat} (h : nlen X <= i / 32) : X / 2 ^ i % 2 = 0 := by
 have : X < 2 ^ i := by
  have h1 := lt_iff_nlen.2 h
  rw [bq_pow] at h1
  exact Nat.lt_of_lt_of_le h1 (Nat.pow_le_pow_right (by decide) (by omega))
 rw [Nat.div_eq_of_lt this]
theorem and1_u32 {d r : Nat} (hdl : d < bq) : bits .and .u32 ((d : Int) / 2 ^ r) 1 = ((d / 2 ^ r % 2 : Nat) : Int) := by
 have h1 : ((d : Int) / 2 ^ r) = ((d / 2 ^ r : Nat) : Int) := by
  rw [show ((2 : Int) ^ r) = ((2 ^ r : Nat) : Int) by rw [Int.natCast_pow]; rfl]
  rfl
 rw [h1]
 have h2 : d / 2 ^ r < 4294967296 := Nat.lt_of_le_of_lt (Nat.div_le_self _ _) hdl
 generalize d / 2 ^ r = t at *
 exact bits_mask .u32 32 (by decide) (fun n h0 h1 => by rw [IntKind.wrap_u32]; omega) 1 (by decide) (t : Int) (by omega) (by omega)
set_option maxHeartbeats 1600000 in
theorem bit_walk {vx : Value} {X i : Nat} {w : World} (hx : Num w vx X) (hlx : nlen X <= 1048576) (hi : i <= 1000000000) :
  Calls Tryz.prog 109 #[vx, .int .i64 (i : Int)] w fun e w' => e = .returned (.int .u32 ((X / 2 ^ i % 2 : Nat) : Int)) /\ Ext w w' := by
 obtain ⟨ax, bx, ox, cx, rfl, _, hax, hxc⟩ := hx
 have hq : (i : Int).tdiv 32 = ((i / 32 : Nat) : Int) := rfl
 have hr : (i : Int).tmod 32 = ((i % 32 : Nat) : Int) := rfl
 obtain ⟨q, hq'⟩ : ∃ q, q = i / 32 := ⟨_, rfl⟩
 obtain ⟨r, hr'⟩ : ∃ q, q = i % 32 := ⟨_, rfl⟩
 have hr32 : r < 32 := by rw [hr']; exact Nat.mod_lt _ (by decide)
 rw [<- hq'] at hq
 rw [<- hr'] at hr
 have hql : q <= 1000000000 := by omega
 obtain ⟨lx, hl⟩ : ∃ l, l = nlen X := ⟨_, rfl⟩
 rw [<- hl] at hxc hax ⊢
 have AQ : Aside (q = i / 32 /\ r = i % 32 /\ lx = nlen X) := ⟨hq', hr', hl⟩
 have hlx2 : lx <= 1048576 := by omega
 by_cases hc : lx <= q
 ·have hcz : (lx : Int) <= (q : Int) := by omega
  have AC : Aside (lx <= q) := hc
  clear hc hq' hr' hl hxc hax hlx
  go_enter Tryz.func109, Tryz.ntmps109
  go_wp2
  go_ret
  obtain ⟨a1, a2, a3⟩ := AQ.out
  have := AC.out
  refine ⟨?_, Ext.refl w⟩
  rw [bit_high (by rw [<- a3, <- a1]; exact this)]
  rfl
 ·have hcz : ¬ (lx : Int) <= (q : Int) := by omega
  have hcz2 : (q : Int) < (lx : Int) := by omega
  obtain rfl := hax (by omega)
  have g0 : w.cell? ⟨bx, ox + q, none⟩ = some (.int .u32 (dg X q : Int)) := hxc q (by omega)
  obtain ⟨d, hd⟩ : ∃ d, d = dg X q := ⟨_, rfl⟩
  have hdl : d < bq := by rw [hd]; exact dg_lt _ _
  have hand : bits .and .u32 ((d : Int) / 2 ^ r) 1 = ((d / 2 ^ r % 2 : Nat) : Int) := and1_u32 hdl
  rw [<- hd] at g0
  have AD : Aside (d = dg X q) := hd
  clear hc hq' hr' hl hxc hlx hd hdl
  go_enter Tryz.func109, Tryz.ntmps109
  go_wp2
  go_ret
  obtain ⟨a1, a2, a3⟩ := AQ.out
  refine ⟨?_, Ext.refl w⟩
  have h2 : ((X : Int) / 2 ^ i % 2) = ((X / 2 ^ i % 2 : Nat) : Int) := by
   rw [show ((2 : Int) ^ i) = ((2 ^ i : Nat) : Int) by rw [Int.natCast_pow]; rfl]
   rfl
  rw [h2, <- bit_law, <- a1, <- a2, <- AD.out]
  have h3 : ((d : Int) / 2 ^ r % 2) = ((d / 2 ^ r % 2 : Nat) : Int) := by
   rw [show ((2 : Int) ^ r) = ((2 ^ r : Nat) : Int) by rw [Int.natCast_pow]; rfl]
   rfl
  first | rfl | (rw [<- h3]; rfl)
def expR (P X N L : Nat) : Nat -> Nat
 | 0 => 1 % P
 | j + 1 => if N / 2 ^ (L - 1 - j) % 2 = 1 then (expR P X N L j * expR P X N L j % P) * X % P else expR P X N L j * expR P X N L j % P
def expN (P X N : Nat) : Nat := expR P X N (N.log2 + 1) (N.log2 + 1)
theorem expR_lt {P X N L : Nat} (hP : 0 < P) : ∀ j, expR P X N L j < P
 | 0 => Nat.mod_lt _ hP
 | j + 1 => by rw [expR]; split <;> exact Nat.mod_lt _ hP
theorem nlen_lt {X P : Nat} (h : X < P) : nlen X <= nlen P := nlen_mono (Nat.le_of_lt h)
theorem held {w W W' : World} {a : Addr} {v : Value} (h : W.cell? a = some v /\ Ext w W) (e : Ext W W') : W'.cell? a = some v /\ Ext w W' := ⟨e.cell h.1, h.2.trans e⟩
set_option maxHeartbeats 3200000 in
theorem exp_walk {vp vx vn : Value} {X N P : Nat} {w : World} (hp : Num w vp P) (hl2 : 2 <= nlen P) (hlp : nlen P <= 1000) (hx : Num w vx X) (hlx : nlen X <= 1000) (hn : Num w vn N) (hln : nlen N <= 1000) (hN : N ≠ 0) :
  Calls Tryz.prog 82 #[.agg #[vp], vx, vn] w fun e w' => ∃ v, e = .returned v /\ Num w' v (expN P X N) /\ Ext w w' := by
 have hP0 : 0 < P := Nat.pos_of_ne_zero fun e => by subst e; rw [nlen_zero] at hl2; omega
 obtain ⟨L, hL⟩ : ∃ L, L = N.log2 + 1 := ⟨_, rfl⟩
 have hLb : L <= 1000000 := by
  have h1 : nlen N = N.log2 / 32 + 1 := by unfold nlen; rw [if_neg hN]
  omega
 have hone : ∀ W, Ext w W -> Calls Tryz.prog 30 #[.int .u64 1] W fun e w' => ∃ v, e = .returned v /\ Num w' v 1 /\ Ext W w' := fun W _ =>
  (of_walk 1 (by decide) W).mono fun e w' ⟨v, h1, h2, h3⟩ => ⟨v, h1, h2.num (by decide), h3⟩
 have hmod : ∀ W v, Ext w W -> Num W v 1 -> Calls Tryz.prog 60 #[.agg #[vp], v] W fun e w' => ∃ vr, e = .returned vr /\ Num w' vr (1 % P) /\ Ext W w' := fun W v hW hv =>
  (mod_num (hp.ext hW) hv (by decide) hl2 (by omega)).mono fun e w' ⟨vr, h1, h2, h3⟩ => ⟨vr, h1, by
   by_cases h : 1 < P
   ·rw [h2.1 h, Nat.mod_eq_of_lt h]; exact hv.ext h3
   ·have hge : P <= 1 := by omega
    by_cases h0 : 1 % P = 0
    ·rw [h0, (h2.2 hge).1 h0]; exact Num.nil _
    ·exact ((h2.2 hge).2 h0).num (Nat.le_refl _), h3⟩
 have hbits : ∀ W, Ext w W -> Calls Tryz.prog 108 #[vn] W fun e w' => e = .returned (.int .i64 (L : Int)) /\ Ext W w' := fun W hW => by
  obtain ⟨an, bn, on, cn, hv, _, han, hnc⟩ := hn
  subst hv
  rw [hL]
  exact bits_core an bn on _ cn N W (by omega) rfl han (fun j hj => hW.cell (hnc j hj)) (nlen_pos hN)
 have hbit : ∀ W i, Ext w W -> i < L -> Calls Tryz.prog 109 #[vn, .int .i64 ((i : Nat) : Int)] W fun e w' => e = .returned (.int .u32 ((N / 2 ^ i % 2 : Nat) : Int)) /\ Ext W w' := fun W i hW hi => bit_walk (hn.ext hW) (by omega) (by omega)
 have hsq : ∀ W v j, Ext w W -> Num W v (expR P X N L j) -> Calls Tryz.prog 27 #[.agg #[vp], v, v] W fun e w' => ∃ vr, e = .returned vr /\ Num w' vr (expR P X N L j * expR P X N L j % P) /\ Ext W w' := fun W v j hW hv =>
  fmul_N (hp.ext hW) hl2 hlp hv (by have := nlen_lt (expR_lt (X := X) (N := N) (L := L) hP0 j); omega) hv (by have := nlen_lt (expR_lt (X := X) (N := N) (L := L) hP0 j); omega)
 have hmx : ∀ W v M, Ext w W -> Num W v (M % P) -> Calls Tryz.prog 27 #[.agg #[vp], v, vx] W fun e w' => ∃ vr, e = .returned vr /\ Num w' vr (M % P * X % P) /\ Ext W w' := fun W v M hW hv =>
  fmul_N (hp.ext hW) hl2 hlp hv (by have := nlen_lt (Nat.mod_lt M hP0); omega) (hx.ext hW) hlx
 have hE : ∀ o, Ext w (w.alloc o) := fun o => (Ext.refl w).alloc o
 have hb0 : (w.alloc (.cells #[vp] 29)).cell? ⟨w.heap.size, 0, none⟩ = some vp := by rw [cell_new]; rfl
 have AL : Aside (L = N.log2 + 1) := hL
 clear hp hx hn hlx hln hl2 hlp hL
 go_enter Tryz.func82, Tryz.ntmps82
 go_wp2_with fail
 go_region_held3 (fun W => W.cell? ⟨w.heap.size, 0, none⟩ = some vp /\ Ext w W) (first | exact ⟨hb0, (hE _).drew⟩ | exact held (by assumption) (by assumption)) (first | (go_at_call 30; refine (hone _ (by assumption : _ /\ Ext w _).2).mono ?_; rintro e w1 ⟨v1, rfl, hv1, hE1⟩) | (go_at_call 60; refine (hmod _ _ (by assumption : _ /\ Ext w _).2 hv1).mono ?_; rintro e w2 ⟨v2, rfl, hv2, hE2⟩))
 rename w2.cell? _ = some vp /\ Ext w w2 => hH
 have hbits2 := hbits w2 hH.2
 have AH : Aside (w2.cell? ⟨w.heap.size, 0, none⟩ = some vp /\ Ext w w2 /\ Num w2 v2 (1 % P)) := ⟨hH.1, hH.2, hv2⟩
 clear hH hv1 hv2 hE1 hE2 hbits hone hmod hb0 hE
 go_wp2_with (go_at_call 108; with_reducible refine hbits2.mono ?_; rintro e w3 ⟨rfl, hE3⟩)
 clear hbits2
 have AH3 : Aside (w3.cell? ⟨w.heap.size, 0, none⟩ = some vp /\ Ext w w3 /\ Num w3 v2 (1 % P)) := ⟨hE3.cell AH.out.1, AH.out.2.1.trans hE3, AH.out.2.2.ext hE3⟩
 clear AH hE3
 go_loopg [7, 8] L (fun g out i wr => g <= L /\ i = .int .i64 ((g : Int) - 1) /\ Num wr out (expR P X N L (L - g)) /\ wr.cell? ⟨w.heap.size, 0, none⟩ = some vp /\ Ext w wr)
 case atStart => exact ⟨Nat.le_refl _, rfl, by rw [Nat.sub_self]; exact AH3.out.2.2, AH3.out.1, AH3.out.2.1⟩
 case round =>
  clear AH3
  obtain ⟨hg, rfl, hv, hb, hE⟩ := hrel
  cases gk with
  | zero =>
    have hgz : ¬ (0 : Int) <= ((0 : Nat) : Int) - 1 := by omega
    have AV : Aside (Num wr u7 (expR P X N L (L - 0)) /\ Ext w wr) := ⟨hv, hE⟩
    clear hv hE hbit hsq hmx
    go_wp2
    go_ret
    refine ⟨_, rfl, ?_, AV.out.2⟩
    have := AV.out.1
    rw [Nat.sub_zero, AL.out] at this
    exact this
  | succ k =>
    rw [show ((k + 1 : Nat) : Int) - 1 = (k : Int) by omega]
    obtain ⟨j, hj⟩ : ∃ j, j = L - (k + 1) := ⟨_, rfl⟩
    rw [<- hj] at hv
    have hjk : L - 1 - j = k := by omega
    have hs1 := hsq wr u7 j hE hv
    obtain ⟨M, hM⟩ : ∃ M, M = expR P X N L j * expR P X N L j := ⟨_, rfl⟩
    rw [<- hM] at hs1
    obtain ⟨bt, hbt⟩ : ∃ b, b = N / 2 ^ k % 2 := ⟨_, rfl⟩
    have hk1 : k < L := by omega
    have hbit1 : ∀ W, Ext w W -> Calls Tryz.prog 109 #[vn, .int .i64 (k : Int)] W fun e w' => e = .returned (.int .u32 (bt : Int)) /\ Ext W w' := fun W hW => by rw [hbt]; exact hbit W k hW hk1
    have AR : Aside (expR P X N L (j + 1) = if bt = 1 then (M % P) * X % P else M % P) := by
     show expR P X N L (j + 1) = _
     rw [expR, hjk, <- hbt, <- hM]
    have AJ : Aside (L - k = j + 1) := by show L - k = j + 1; omega
    clear hj hv hM hbt hjk hsq hbit
    by_cases hb1 : bt = 1
    ·have hbz : ((bt : Int) == 1) = true := by simp; omega
     have AB : Aside (bt = 1) := hb1
     clear hb1
     go_wp2_with (first
      | (go_at_call 27; with_reducible refine hs1.mono ?_; rintro e w4 ⟨v4, rfl, hv4, hE4⟩; have hE4' := hE.trans hE4; have hb4 := hE4.cell hb; clear hs1)
      | (go_at_call 109; with_reducible refine (hbit1 _ hE4').mono ?_; rintro e w5 ⟨rfl, hE5⟩; have hE5' := hE4'.trans hE5; have hb5 := hE5.cell hb4; have hm5 := hmx _ _ M hE5' (hv4.ext hE5); clear hbit1)
      | (go_at_call 27; with_reducible refine hm5.mono ?_; rintro e w6 ⟨v6, rfl, hv6, hE6⟩))
     go_roundg k
     case measure => go_light; omega
     case rel =>
      go_light
      refine ⟨by omega, rfl, ?_, hE6.cell hb5, hE5'.trans hE6⟩
      rw [AJ.out, AR.out, if_pos AB.out]
      exact hv6
    ·have hbz : ((bt : Int) == 1) = false := by simp; omega
     have AB : Aside (¬ bt = 1) := hb1
     clear hb1 hmx
     go_wp2_with (first
      | (go_at_call 27; with_reducible refine hs1.mono ?_; rintro e w4 ⟨v4, rfl, hv4, hE4⟩; have hE4' := hE.trans hE4; have hb4 := hE4.cell hb; clear hs1)
      | (go_at_call 109; with_reducible refine (hbit1 _ hE4').mono ?_; rintro e w5 ⟨rfl, hE5⟩; have hE5' := hE4'.trans hE5; have hb5 := hE5.cell hb4; clear hbit1))
     go_roundg k
     case measure => go_light; omega
     case rel =>
      go_light
      refine ⟨by omega, rfl, ?_, hb5, hE5'⟩
      rw [AJ.out, AR.out, if_neg AB.out]
      exact hv4.ext hE5
end Go.Eng
namespace Go.Eng
open Go Go.RowKit Go.Proofs
set_option maxRecDepth 100000
def invN (P X : Nat) : Nat := expN P X (P - 2)
theorem big_of_nlen {P : Nat} (h : 2 <= nlen P) : bq <= P := by
 have := pow_le_of_lt_nlen (N := P) (l := 1) (by omega)
 rwa [Nat.pow_one] at this
set_option maxHeartbeats 3200000 in
theorem inv_walk {vp vx : Value} {X P : Nat} {w : World} (hp : Num w vp P) (hl2 : 2 <= nlen P) (hlp : nlen P <= 1000) (hx : Num w vx X) (hlx : nlen X <= 1000) :
  Calls Tryz.prog 50 #[.agg #[vp], vx] w fun e w' => ∃ v, e = .returned v /\ Num w' v (invN P X) /\ Ext w w' := by
 have hPb := big_of_nlen hl2
 have hbv : bq = 4294967296 := rfl
 have htwo : ∀ W, Ext w W -> Calls Tryz.prog 30 #[.int .u64 2] W fun e w' => ∃ v, e = .returned v /\ Num w' v 2 /\ Ext W w' := fun W _ =>
  (of_walk 2 (by decide) W).mono fun e w' ⟨v, h1, h2, h3⟩ => ⟨v, h1, h2.num (by decide), h3⟩
 have hsub : ∀ W v, Ext w W -> Num W v 2 -> Calls Tryz.prog 83 #[vp, v] W fun e w' => ∃ vr, e = .returned vr /\ Num w' vr (P - 2) /\ Ext W w' := fun W v hW hv =>
  (sub_num (hp.ext hW) hv (by omega) (by omega)).mono fun e w' ⟨vr, h1, h2, h3⟩ => ⟨vr, h1, h2.num (nlen_mono (Nat.sub_le _ _)), h3⟩
 have hexp : ∀ W v, Ext w W -> Num W v (P - 2) -> Calls Tryz.prog 82 #[.agg #[vp], vx, v] W fun e w' => ∃ vr, e = .returned vr /\ Num w' vr (invN P X) /\ Ext W w' := fun W v hW hv =>
  exp_walk (hp.ext hW) hl2 hlp (hx.ext hW) hlx hv (by have := nlen_mono (Nat.sub_le P 2); omega) (by omega)
 have hE : ∀ o, Ext w (w.alloc o) := fun o => (Ext.refl w).alloc o
 have hb0 : (w.alloc (.cells #[vp] 29)).cell? ⟨w.heap.size, 0, none⟩ = some vp := by rw [cell_new]; rfl
 clear hp hx hlx hl2 hlp hPb hbv
 go_enter Tryz.func50, Tryz.ntmps50
 go_wp2_with fail
 go_region_held3 (fun W => W.cell? ⟨w.heap.size, 0, none⟩ = some vp /\ Ext w W) (first | exact ⟨hb0, (hE _).drew⟩ | exact held (by assumption) (by assumption)) (first | (go_at_call 30; refine (htwo _ (by assumption : _ /\ Ext w _).2).mono ?_; rintro e w1 ⟨v1, rfl, hv1, hE1⟩) | (go_at_call 83; refine (hsub _ _ (by assumption : _ /\ Ext w _).2 hv1).mono ?_; rintro e w2 ⟨v2, rfl, hv2, hE2⟩) | (go_at_call 82; refine (hexp _ _ (by assumption : _ /\ Ext w _).2 hv2).mono ?_; rintro e w3 ⟨v3, rfl, hv3, hE3⟩))
 rename w3.cell? _ = some vp /\ Ext w w3 => hH
 go_wp2
 go_ret
 exact ⟨_, rfl, hv3, hH.2⟩
end Go.Eng
namespace Go.Eng
open Go Go.RowKit Go.Proofs
set_option maxRecDepth 100000
theorem Num.slice {w : World} {v : Value} {N : Nat} (h : Num w v N) : ∃ a l c, v = .slice a l c := by
 obtain ⟨a, b, o, c, h1, _⟩ := h
 exact ⟨a, _, c, h1⟩
theorem cell_al (W : World) (cs : Array Value) (t : TypeId) (o : Nat) {N : Nat} {v : Value} (hN : N = W.heap.size) (h : cs[o]? = some v) : (W.alloc (.cells cs t)).cell? ⟨N, o, none⟩ = some v := by
 subst hN
 rw [cell_new]; exact h
theorem frozen_al (W : World) (cs : Array Value) (t : TypeId) (o : Nat) {N : Nat} (hN : N = W.heap.size) : (W.alloc (.cells cs t)).frozen? ⟨N, o, none⟩ = false := by
 subst hN
 exact frozen_new _ _ _ _
theorem cell_far1 {W : World} {b o : Nat} {v : Value} {N p : Nat} (h : W.cell? ⟨b, o, none⟩ = some v) (hb : b ≠ N) (x : Value) : (W.setCell ⟨N, p, none⟩ x).cell? ⟨b, o, none⟩ = some v := by
 rw [World.cell?_setCell_other _ _ _ _ (fun e => hb (congrArg Addr.block e).symm)]; exact h
theorem cell_far2 {W : World} {b o : Nat} {v : Value} {N : Nat} (h : W.cell? ⟨b, o, none⟩ = some v) (hb : b ≠ N) (x y : Value) : ((W.setCell ⟨N, 0, none⟩ x).setCell ⟨N, 1, none⟩ y).cell? ⟨b, o, none⟩ = some v := cell_far1 (cell_far1 h hb x) hb y
theorem cell_off1 {W : World} {N o p : Nat} {v x : Value} (h : W.cell? ⟨N, o, none⟩ = some v) (ho : o ≠ p) : (W.setCell ⟨N, p, none⟩ x).cell? ⟨N, o, none⟩ = some v := by
 rw [World.cell?_setCell_other _ _ _ _ (fun e => ho (congrArg Addr.off e).symm)]; exact h
theorem cell_off2 {W : World} {N o p q : Nat} {v x y : Value} (h : W.cell? ⟨N, o, none⟩ = some v) (ho : o ≠ p) (hq : o ≠ q) : ((W.setCell ⟨N, p, none⟩ x).setCell ⟨N, q, none⟩ y).cell? ⟨N, o, none⟩ = some v := cell_off1 (cell_off1 h ho) hq
theorem Num.set {w : World} {v : Value} {N : Nat} {p : Addr} {x : Option Addr} {y z : Nat} (h : Num w v N) (hp : w.cell? p = some (.slice x y z)) (u : Value) : Num (w.setCell p u) v N := by
 obtain ⟨a, b, o, c, h1, h2, h3, h4⟩ := h
 refine ⟨a, b, o, c, h1, h2, h3, fun j hj => ?_⟩
 rw [World.cell?_setCell_other _ _ _ _ (fun e => by
  have h5 := h4 j hj
  rw [<- e, hp] at h5
  cases h5)]
 exact h4 j hj
def onN (P A D x y : Nat) : Bool := cmpN ((A * (x * x % P) % P + y * y % P) % P) ((1 + D * (x * x % P * (y * y % P) % P) % P) % P) == 0
def PlusN (P A D x1 y1 x2 y2 : Nat) : Nat × Nat :=
 let d := D * (x1 * x2 % P * (y1 * y2 % P) % P) % P
 let x := (x1 * y2 % P + y1 * x2 % P) % P
 let y := (y1 * y2 % P + fnegN P (A * (x1 * x2 % P) % P)) % P
 (x * invN P ((1 + d) % P) % P, y * invN P ((1 + fnegN P d) % P) % P)
end Go.Eng
namespace Go.Eng
open Go Go.RowKit Go.Proofs
set_option maxRecDepth 100000
theorem on_core_keep {w W W' : World} {a0 a1 a2 a3 a4 a5 a6 : Addr} {v0 v1 v2 v3 v4 v5 v6 : Value} (h : W.cell? a0 = some v0 /\ W.cell? a1 = some v1 /\ W.cell? a2 = some v2 /\ W.cell? a3 = some v3 /\ W.cell? a4 = some v4 /\ W.cell? a5 = some v5 /\ W.cell? a6 = some v6 /\ Ext w W) (e : Ext W W') : W'.cell? a0 = some v0 /\ W'.cell? a1 = some v1 /\ W'.cell? a2 = some v2 /\ W'.cell? a3 = some v3 /\ W'.cell? a4 = some v4 /\ W'.cell? a5 = some v5 /\ W'.cell? a6 = some v6 /\ Ext w W' := ⟨e.cell h.1, e.cell h.2.1, e.cell h.2.2.1, e.cell h.2.2.2.1, e.cell h.2.2.2.2.1, e.cell h.2.2.2.2.2.1, e.cell h.2.2.2.2.2.2.1, (h.2.2.2.2.2.2.2).trans e⟩
set_option maxHeartbeats 12800000 in
theorem on_core {aP aA aD aQ ax1 ay1 : Option Addr} {lP cP NP lA cA NA lD cD ND lQ cQ NQ lx1 cx1 Nx1 ly1 cy1 Ny1 : Nat} {w : World} (hP : Num w (.slice aP lP cP) NP) (hA : Num w (.slice aA lA cA) NA) (l_A : NA < NP) (hD : Num w (.slice aD lD cD) ND) (l_D : ND < NP) (hQ : Num w (.slice aQ lQ cQ) NQ) (l_Q : NQ < NP) (hx1 : Num w (.slice ax1 lx1 cx1) Nx1) (l_x1 : Nx1 < NP) (hy1 : Num w (.slice ay1 ly1 cy1) Ny1) (l_y1 : Ny1 < NP) (hl2 : 2 <= nlen NP) (hlp : nlen NP <= 1000) :
  Calls Tryz.prog 9 #[.agg #[.slice aP lP cP, .slice aA lA cA, .slice aD lD cD, .slice aQ lQ cQ], .agg #[.slice ax1 lx1 cx1, .slice ay1 ly1 cy1]] w fun e w' => e = .returned (.bool (onN NP NA ND Nx1 Ny1)) /\ Ext w w' := by
 have hP1 : 1 < NP := by
  have h1 := big_of_nlen hl2
  have h2 : bq = 4294967296 := rfl
  omega
 have hmul : ∀ W a b X Y, Ext w W -> Num W a X -> X < NP -> Num W b Y -> Y < NP -> Calls Tryz.prog 27 #[.agg #[.slice aP lP cP], a, b] W fun e w' => ∃ a l c, e = .returned (.slice a l c) /\ Num w' (.slice a l c) (X * Y % NP) /\ Ext W w' := fun W a b X Y hW ha hX hb hY =>
  (fmul_N (hP.ext hW) hl2 hlp ha (Nat.le_trans (nlen_lt hX) hlp) hb (Nat.le_trans (nlen_lt hY) hlp)).mono fun e w' ⟨v, h1, h2, h3⟩ => by
   obtain ⟨x1, x2, x3, rfl⟩ := h2.slice
   exact ⟨x1, x2, x3, h1, h2, h3⟩
 have hadd : ∀ W a b X Y, Ext w W -> Num W a X -> X < NP -> Num W b Y -> Y < NP -> Calls Tryz.prog 28 #[.agg #[.slice aP lP cP], a, b] W fun e w' => ∃ a l c, e = .returned (.slice a l c) /\ Num w' (.slice a l c) ((X + Y) % NP) /\ Ext W w' := fun W a b X Y hW ha hX hb hY =>
  (fadd_N (hP.ext hW) hl2 hlp ha (Nat.le_trans (nlen_lt hX) hlp) hb (Nat.le_trans (nlen_lt hY) hlp)).mono fun e w' ⟨v, h1, h2, h3⟩ => by
   obtain ⟨x1, x2, x3, rfl⟩ := h2.slice
   exact ⟨x1, x2, x3, h1, h2, h3⟩
 have hsub : ∀ W a b X Y, Ext w W -> Num W a X -> X < NP -> Num W b Y -> Y < NP -> Calls Tryz.prog 49 #[.agg #[.slice aP lP cP], a, b] W fun e w' => ∃ a l c, e = .returned (.slice a l c) /\ Num w' (.slice a l c) ((X + fnegN NP Y) % NP) /\ Ext W w' := fun W a b X Y hW ha hX hb hY =>
  (fsub_N (hP.ext hW) hl2 hlp ha (Nat.le_trans (nlen_lt hX) hlp) hb (Nat.le_of_lt hY)).mono fun e w' ⟨v, h1, h2, h3⟩ => by
   obtain ⟨x1, x2, x3, rfl⟩ := h2.slice
   exact ⟨x1, x2, x3, h1, h2, h3⟩
 have hinv : ∀ W a X, Ext w W -> Num W a X -> X < NP -> Calls Tryz.prog 50 #[.agg #[.slice aP lP cP], a] W fun e w' => ∃ a l c, e = .returned (.slice a l c) /\ Num w' (.slice a l c) (invN NP X) /\ Ext W w' := fun W a X hW ha hX =>
  (inv_walk (hP.ext hW) hl2 hlp ha (Nat.le_trans (nlen_lt hX) hlp)).mono fun e w' ⟨v, h1, h2, h3⟩ => by
   obtain ⟨x1, x2, x3, rfl⟩ := h2.slice
   exact ⟨x1, x2, x3, h1, h2, h3⟩
 have hone : ∀ W, Calls Tryz.prog 30 #[.int .u64 1] W fun e w' => ∃ a l c, e = .returned (.slice a l c) /\ Num w' (.slice a l c) 1 /\ Ext W w' := fun W =>
  (of_walk 1 (by decide) W).mono fun e w' ⟨v, h1, h2, h3⟩ => by
   have h4 := h2.num (by decide)
   obtain ⟨x1, x2, x3, rfl⟩ := h4.slice
   exact ⟨x1, x2, x3, h1, h4, h3⟩
 have hcmp : ∀ W a b X Y, Num W a X -> X < NP -> Num W b Y -> Y < NP -> Calls Tryz.prog 29 #[a, b] W fun e w' => e = .returned (.int .i64 (cmpN X Y)) /\ Ext W w' := fun W a b X Y ha hX hb hY =>
  cmp_walk ha hb (Nat.le_trans (Nat.le_trans (nlen_lt hX) hlp) (by decide)) (Nat.le_trans (Nat.le_trans (nlen_lt hY) hlp) (by decide))
 obtain ⟨B, hB⟩ : ∃ B, B = (((w.alloc (.cells #[.slice aP lP cP, .slice aA lA cA, .slice aD lD cD, .slice aQ lQ cQ] 31)).alloc (.cells #[.slice ax1 lx1 cx1, .slice ay1 ly1 cy1] 33)).alloc (.cells #[.slice aP lP cP] 29)) := ⟨_, rfl⟩
 have hEB : Ext w B := by rw [hB]; exact (((Ext.refl _).alloc _).alloc _).alloc _
 have cB_0_0 : B.cell? ⟨w.heap.size, 0, none⟩ = some (Value.slice aP lP cP) := by rw [hB]; exact Ext.cell (((Ext.refl _).alloc _).alloc _) (cell_al _ _ _ _ (by simp) rfl)
 have cB_0_1 : B.cell? ⟨w.heap.size, 1, none⟩ = some (Value.slice aA lA cA) := by rw [hB]; exact Ext.cell (((Ext.refl _).alloc _).alloc _) (cell_al _ _ _ _ (by simp) rfl)
 have cB_0_2 : B.cell? ⟨w.heap.size, 2, none⟩ = some (Value.slice aD lD cD) := by rw [hB]; exact Ext.cell (((Ext.refl _).alloc _).alloc _) (cell_al _ _ _ _ (by simp) rfl)
 have cB_0_3 : B.cell? ⟨w.heap.size, 3, none⟩ = some (Value.slice aQ lQ cQ) := by rw [hB]; exact Ext.cell (((Ext.refl _).alloc _).alloc _) (cell_al _ _ _ _ (by simp) rfl)
 have cB_1_0 : B.cell? ⟨w.heap.size + 1, 0, none⟩ = some (Value.slice ax1 lx1 cx1) := by rw [hB]; exact Ext.cell ((Ext.refl _).alloc _) (cell_al _ _ _ _ (by simp) rfl)
 have cB_1_1 : B.cell? ⟨w.heap.size + 1, 1, none⟩ = some (Value.slice ay1 ly1 cy1) := by rw [hB]; exact Ext.cell ((Ext.refl _).alloc _) (cell_al _ _ _ _ (by simp) rfl)
 have cB_2_0 : B.cell? ⟨w.heap.size + 1 + 1, 0, none⟩ = some (Value.slice aP lP cP) := by rw [hB]; exact Ext.cell (Ext.refl _) (cell_al _ _ _ _ (by simp) rfl)
 have hS0 : B.cell? ⟨w.heap.size, 0, none⟩ = some (Value.slice aP lP cP) /\ B.cell? ⟨w.heap.size, 1, none⟩ = some (Value.slice aA lA cA) /\ B.cell? ⟨w.heap.size, 2, none⟩ = some (Value.slice aD lD cD) /\ B.cell? ⟨w.heap.size, 3, none⟩ = some (Value.slice aQ lQ cQ) /\ B.cell? ⟨w.heap.size + 1, 0, none⟩ = some (Value.slice ax1 lx1 cx1) /\ B.cell? ⟨w.heap.size + 1, 1, none⟩ = some (Value.slice ay1 ly1 cy1) /\ B.cell? ⟨w.heap.size + 1 + 1, 0, none⟩ = some (Value.slice aP lP cP) /\ Ext w B := ⟨cB_0_0, cB_0_1, cB_0_2, cB_0_3, cB_1_0, cB_1_1, cB_2_0, hEB⟩
 clear cB_0_0 cB_0_1 cB_0_2 cB_0_3 cB_1_0 cB_1_1 cB_2_0
 go_enter Tryz.func9, Tryz.ntmps9
 go_upto_region 2 with fail
 rw [<- hB]
 clear hB
 go_region_held3 (fun W => W.cell? ⟨w.heap.size, 0, none⟩ = some (Value.slice aP lP cP) /\ W.cell? ⟨w.heap.size, 1, none⟩ = some (Value.slice aA lA cA) /\ W.cell? ⟨w.heap.size, 2, none⟩ = some (Value.slice aD lD cD) /\ W.cell? ⟨w.heap.size, 3, none⟩ = some (Value.slice aQ lQ cQ) /\ W.cell? ⟨w.heap.size + 1, 0, none⟩ = some (Value.slice ax1 lx1 cx1) /\ W.cell? ⟨w.heap.size + 1, 1, none⟩ = some (Value.slice ay1 ly1 cy1) /\ W.cell? ⟨w.heap.size + 1 + 1, 0, none⟩ = some (Value.slice aP lP cP) /\ Ext w W) (first | exact on_core_keep hS0 (Ext.refl _).drew | exact on_core_keep (by assumption) (by assumption)) (first | (go_at_call 27; (with_reducible refine (hmul _ _ _ _ _ hEB.drew (hx1.ext hEB.drew) l_x1 (hx1.ext hEB.drew) l_x1).mono ?_); rintro e w1 ⟨ax, lx, cx, rfl, hx, hE1⟩; have l_x0 : Nx1 * Nx1 % NP < NP := Nat.mod_lt _ (Nat.lt_of_le_of_lt (Nat.zero_le 1) hP1); obtain ⟨Nx, q_x⟩ : ∃ N, N = Nx1 * Nx1 % NP := ⟨_, rfl⟩; rw [<- q_x] at hx l_x0; have l_x := l_x0; have A_x : Aside (Nx = Nx1 * Nx1 % NP) := q_x; clear l_x0 q_x) | (go_at_call 27; (with_reducible refine (hmul _ _ _ _ _ (hEB.drew.trans hE1) (hy1.ext (hEB.drew.trans hE1)) l_y1 (hy1.ext (hEB.drew.trans hE1)) l_y1).mono ?_); rintro e w2 ⟨ay, ly, cy, rfl, hy, hE2⟩; have l_y0 : Ny1 * Ny1 % NP < NP := Nat.mod_lt _ (Nat.lt_of_le_of_lt (Nat.zero_le 1) hP1); obtain ⟨Ny, q_y⟩ : ∃ N, N = Ny1 * Ny1 % NP := ⟨_, rfl⟩; rw [<- q_y] at hy l_y0; have l_y := l_y0; have A_y : Aside (Ny = Ny1 * Ny1 % NP) := q_y; clear l_y0 q_y))
 have hS2 : w2.cell? ⟨w.heap.size, 0, none⟩ = some (Value.slice aP lP cP) /\ w2.cell? ⟨w.heap.size, 1, none⟩ = some (Value.slice aA lA cA) /\ w2.cell? ⟨w.heap.size, 2, none⟩ = some (Value.slice aD lD cD) /\ w2.cell? ⟨w.heap.size, 3, none⟩ = some (Value.slice aQ lQ cQ) /\ w2.cell? ⟨w.heap.size + 1, 0, none⟩ = some (Value.slice ax1 lx1 cx1) /\ w2.cell? ⟨w.heap.size + 1, 1, none⟩ = some (Value.slice ay1 ly1 cy1) /\ w2.cell? ⟨w.heap.size + 1 + 1, 0, none⟩ = some (Value.slice aP lP cP) /\ Ext w w2 := by assumption
 clear hS0
 go_upto_region 3 with fail
 go_region_held3 (fun W => W.cell? ⟨w.heap.size, 0, none⟩ = some (Value.slice aP lP cP) /\ W.cell? ⟨w.heap.size, 1, none⟩ = some (Value.slice aA lA cA) /\ W.cell? ⟨w.heap.size, 2, none⟩ = some (Value.slice aD lD cD) /\ W.cell? ⟨w.heap.size, 3, none⟩ = some (Value.slice aQ lQ cQ) /\ W.cell? ⟨w.heap.size + 1, 0, none⟩ = some (Value.slice ax1 lx1 cx1) /\ W.cell? ⟨w.heap.size + 1, 1, none⟩ = some (Value.slice ay1 ly1 cy1) /\ W.cell? ⟨w.heap.size + 1 + 1, 0, none⟩ = some (Value.slice aP lP cP) /\ Ext w W) (first | exact on_core_keep hS2 (Ext.refl _).drew | exact on_core_keep (by assumption) (by assumption)) (first | (go_at_call 27; (with_reducible refine (hmul _ _ _ _ _ ((hEB.drew.trans hE1).trans hE2).drew (hA.ext ((hEB.drew.trans hE1).trans hE2).drew) l_A (hx.ext ((Ext.refl _).trans hE2).drew) l_x).mono ?_); rintro e w3 ⟨ak1, lk1, ck1, rfl, hk1, hE3⟩; have l_k10 : NA * Nx % NP < NP := Nat.mod_lt _ (Nat.lt_of_le_of_lt (Nat.zero_le 1) hP1); obtain ⟨Nk1, q_k1⟩ : ∃ N, N = NA * Nx % NP := ⟨_, rfl⟩; rw [<- q_k1] at hk1 l_k10; have l_k1 := l_k10; have A_k1 : Aside (Nk1 = NA * Nx % NP) := q_k1; clear l_k10 q_k1) | (go_at_call 28; (with_reducible refine (hadd _ _ _ _ _ (((hEB.drew.trans hE1).trans hE2).drew.trans hE3) (hk1.ext (Ext.refl _)) l_k1 (hy.ext ((Ext.refl _).drew.trans hE3)) l_y).mono ?_); rintro e w4 ⟨ak2, lk2, ck2, rfl, hk2, hE4⟩; have l_k20 : (Nk1 + Ny) % NP < NP := Nat.mod_lt _ (Nat.lt_of_le_of_lt (Nat.zero_le 1) hP1); obtain ⟨Nk2, q_k2⟩ : ∃ N, N = (Nk1 + Ny) % NP := ⟨_, rfl⟩; rw [<- q_k2] at hk2 l_k20; have l_k2 := l_k20; have A_k2 : Aside (Nk2 = (Nk1 + Ny) % NP) := q_k2; clear l_k20 q_k2) | (go_at_call 30; (with_reducible refine (hone _).mono ?_); rintro e w5 ⟨aone, lone, cone, rfl, hone, hE5⟩; have l_one : 1 < NP := hP1) | (go_at_call 27; (with_reducible refine (hmul _ _ _ _ _ (((((hEB.drew.trans hE1).trans hE2).drew.trans hE3).trans hE4).trans hE5) (hx.ext (((((Ext.refl _).trans hE2).drew.trans hE3).trans hE4).trans hE5)) l_x (hy.ext ((((Ext.refl _).drew.trans hE3).trans hE4).trans hE5)) l_y).mono ?_); rintro e w6 ⟨ak3, lk3, ck3, rfl, hk3, hE6⟩; have l_k30 : Nx * Ny % NP < NP := Nat.mod_lt _ (Nat.lt_of_le_of_lt (Nat.zero_le 1) hP1); obtain ⟨Nk3, q_k3⟩ : ∃ N, N = Nx * Ny % NP := ⟨_, rfl⟩; rw [<- q_k3] at hk3 l_k30; have l_k3 := l_k30; have A_k3 : Aside (Nk3 = Nx * Ny % NP) := q_k3; clear l_k30 q_k3) | (go_at_call 27; (with_reducible refine (hmul _ _ _ _ _ ((((((hEB.drew.trans hE1).trans hE2).drew.trans hE3).trans hE4).trans hE5).trans hE6) (hD.ext ((((((hEB.drew.trans hE1).trans hE2).drew.trans hE3).trans hE4).trans hE5).trans hE6)) l_D (hk3.ext (Ext.refl _)) l_k3).mono ?_); rintro e w7 ⟨ak4, lk4, ck4, rfl, hk4, hE7⟩; have l_k40 : ND * Nk3 % NP < NP := Nat.mod_lt _ (Nat.lt_of_le_of_lt (Nat.zero_le 1) hP1); obtain ⟨Nk4, q_k4⟩ : ∃ N, N = ND * Nk3 % NP := ⟨_, rfl⟩; rw [<- q_k4] at hk4 l_k40; have l_k4 := l_k40; have A_k4 : Aside (Nk4 = ND * Nk3 % NP) := q_k4; clear l_k40 q_k4) | (go_at_call 28; (with_reducible refine (hadd _ _ _ _ _ (((((((hEB.drew.trans hE1).trans hE2).drew.trans hE3).trans hE4).trans hE5).trans hE6).trans hE7) (hone.ext (((Ext.refl _).trans hE6).trans hE7)) l_one (hk4.ext (Ext.refl _)) l_k4).mono ?_); rintro e w8 ⟨ak5, lk5, ck5, rfl, hk5, hE8⟩; have l_k50 : (1 + Nk4) % NP < NP := Nat.mod_lt _ (Nat.lt_of_le_of_lt (Nat.zero_le 1) hP1); obtain ⟨Nk5, q_k5⟩ : ∃ N, N = (1 + Nk4) % NP := ⟨_, rfl⟩; rw [<- q_k5] at hk5 l_k50; have l_k5 := l_k50; have A_k5 : Aside (Nk5 = (1 + Nk4) % NP) := q_k5; clear l_k50 q_k5) | (go_at_call 29; (with_reducible refine (hcmp _ _ _ _ _ (hk2.ext (((((Ext.refl _).trans hE5).trans hE6).trans hE7).trans hE8)) l_k2 (hk5.ext (Ext.refl _)) l_k5).mono ?_); rintro e w9 ⟨rfl, hE9⟩; obtain ⟨cv, q_cv⟩ : ∃ c, c = cmpN Nk2 Nk5 := ⟨_, rfl⟩; rw [<- q_cv]; have A_cv : Aside (cv = cmpN Nk2 Nk5) := q_cv; clear q_cv))
 have hEk : Ext w w9 := (((((((((hEB.drew.trans hE1).trans hE2).drew.trans hE3).trans hE4).trans hE5).trans hE6).trans hE7).trans hE8).trans hE9)
 have AE : Aside ((cv == 0) = onN NP NA ND Nx1 Ny1) := by
  show (cv == 0) = _
  rw [A_cv.out, A_k2.out, A_k5.out, A_k4.out, A_k3.out, A_k1.out, A_x.out, A_y.out]
  rfl
 have AQ : Aside (Ext w w9) := hEk
 go_wp2
 go_ret
 refine ⟨?_, AQ.out⟩
 rw [<- AE.out]
 rfl
end Go.Eng
