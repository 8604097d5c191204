/-
  Plain laws of digits to the base 2^32, and contracts of the reference package spec over natural numbers.
-/
import Derived.Deep.RegionWith
import Derived.Deep.RegionHeld3
import Derived.Test.YtgcdmdkemcgljaaGreatDoorA4
import Derived.Test.YtgcdmdkemcgljaaGreatDoorA2
set_option linter.unusedVariables false
set_option linter.unusedSimpArgs false
namespace Go.Eng
open Go Go.RowKit Go.Proofs
set_option maxRecDepth 100000
/-! The numbers' functions, by what they answer. -/
theorem MulO.fresh {w w' : World} {n N c : Nat} {z : Nat → Nat} (h : MulO w w' n z) (hv : valN z n = N) (hc : n ≤ c) : FreshN w w' (.slice (some ⟨w.heap.size, 0, none⟩) (tlen z n) c) N n ∧ Ext w w' := by
  refine ⟨⟨w.heap.size, c, by rw [tlen_eq (fun j _ => h.lt j), hv], ?_, Nat.le_refl _, h.row.congr fun j hj => ?_⟩, h.since⟩
  · rw [← hv, ← tlen_eq (fun j _ => h.lt j)]
    exact Nat.le_trans (tlen_le _ _) hc
  · rw [← hv, dg_valN (fun j _ => h.lt j) j hj]
theorem row_fresh {w w' : World} {n N : Nat} {z : Nat → Nat} (hl : ∀ j, z j < bq) (h : Row w' w.heap.size n z) (hv : valN z n = N) : FreshN w w' (.slice (some ⟨w.heap.size, 0, none⟩) (tlen z n) n) N n := by
  refine ⟨w.heap.size, n, by rw [tlen_eq (fun j _ => hl j), hv], ?_, Nat.le_refl _, h.congr fun j hj => ?_⟩
  · rw [← hv, ← tlen_eq (fun j _ => hl j)]
    exact tlen_le _ _
  · rw [← hv, dg_valN (fun j _ => hl j) j hj]
theorem mul_num {vx vy : Value} {X Y : Nat} {w : World} (hx : Num w vx X) (hy : Num w vy Y) (hlx : nlen X ≤ 1048576) (hly : nlen Y ≤ 1048576) :
    Calls Tryz.prog 49 #[vx, vy] w fun e w' => ∃ v, e = .returned v ∧ FreshN w w' v (X * Y) (nlen X + nlen Y) ∧ Ext w w' := by
  obtain ⟨ax, bx, ox, cx, rfl, _, hax, hxc⟩ := hx
  obtain ⟨ay, by', oy, cy, rfl, _, hay, hyc⟩ := hy
  refine (mul_walk ax ay bx ox _ cx by' oy _ cy (dg X) (dg Y) w hlx hly hax hay hxc hyc (dg_lt X) (dg_lt Y)).mono fun e w' ⟨z, h1, h2, h3⟩ => ⟨_, h3, h1.fresh ?_ (Nat.le_refl _)⟩
  rw [h2, valN_dg_all, valN_dg_all]
theorem valN_dg_ge {N l : Nat} (h : nlen N ≤ l) : valN (dg N) l = N := by rw [valN_dg, Nat.mod_eq_of_lt (lt_iff_nlen.2 h)]
theorem add_num {vx vy : Value} {X Y : Nat} {w : World} (hx : Num w vx X) (hy : Num w vy Y) (hlx : nlen X ≤ 1048576) (hly : nlen Y ≤ 1048576) :
    Calls Tryz.prog 50 #[vx, vy] w fun e w' => ∃ v, e = .returned v ∧ FreshN w w' v (X + Y) (max (nlen X) (nlen Y) + 1) ∧ Ext w w' := by
  obtain ⟨ax, bx, ox, cx, rfl, _, hax, hxc⟩ := hx
  obtain ⟨ay, by', oy, cy, rfl, _, hay, hyc⟩ := hy
  by_cases hlt : nlen X < nlen Y
  · rw [Nat.max_eq_right (by omega)]
    refine (add_coreA ax ay bx ox _ cx by' oy _ cy (dg X) (dg Y) w hlx hly hlt hax hay hxc hyc (dg_lt X) (dg_lt Y) (fun j hj => dg_zero_of_le hj) (fun j hj => dg_zero_of_le hj)).mono fun e w' ⟨z, h1, h2, h3, h4, h5⟩ => ⟨_, h4, row_fresh h1 h2 ?_, h5⟩
    rw [h3, valN_dg_ge (by omega), valN_dg_ge (by omega)]
  · rw [Nat.max_eq_left (by omega)]
    refine (add_coreB ax ay bx ox _ cx by' oy _ cy (dg X) (dg Y) w hlx hly hlt hax hay hxc hyc (dg_lt X) (dg_lt Y) (fun j hj => dg_zero_of_le hj) (fun j hj => dg_zero_of_le hj)).mono fun e w' ⟨z, h1, h2, h3, h4, h5⟩ => ⟨_, h4, row_fresh h1 h2 ?_, h5⟩
    rw [h3, valN_dg_ge (by omega), valN_dg_ge (by omega)]
theorem sub_num {vx vy : Value} {X Y : Nat} {w : World} (hx : Num w vx X) (hy : Num w vy Y) (hlx : nlen X ≤ 1048576) (hYX : Y ≤ X) :
    Calls Tryz.prog 51 #[vx, vy] w fun e w' => ∃ v, e = .returned v ∧ FreshN w w' v (X - Y) (nlen X) ∧ Ext w w' := by
  have hl := nlen_mono hYX
  obtain ⟨ax, bx, ox, cx, rfl, _, hax, hxc⟩ := hx
  obtain ⟨ay, by', oy, cy, rfl, _, hay, hyc⟩ := hy
  refine (sub_core ax ay bx ox _ cx by' oy _ cy (dg X) (dg Y) w hlx (by omega) hax hay hxc hyc (dg_lt X) (dg_lt Y) (fun j hj => dg_zero_of_le hj)).mono fun e w' ⟨z, bw, hbw, h1, h2, h3, h4, h5⟩ => ⟨_, h4, row_fresh h1 h2 ?_, h5⟩
  rw [valN_dg_ge (Nat.le_refl _), valN_dg_ge hl] at h3
  have h6 := valN_lt (z := z) (l := nlen X) fun j _ => h1 j
  rcases (by omega : bw = 0 ∨ bw = 1) with e | e
  · rw [e, Nat.zero_mul] at h3; omega
  · rw [e, Nat.one_mul] at h3; omega
theorem small_num {vx : Value} {X y more : Nat} {w : World} (hx : Num w vx X) (hlx : nlen X ≤ 1048576) (hy : y < bq) (hm : more < bq) :
    Calls Tryz.prog 59 #[vx, .int .u32 (y : Int), .int .u32 (more : Int)] w fun e w' => ∃ v, e = .returned v ∧ FreshN w w' v (X * y + more) (nlen X + 1) ∧ Ext w w' := by
  obtain ⟨ax, bx, ox, cx, rfl, _, hax, hxc⟩ := hx
  refine (small_core ax bx ox _ cx y more (dg X) w hlx hax hxc (dg_lt X) hy hm).mono fun e w' ⟨z, h1, h2, h3, h4, h5⟩ => ⟨_, h4, row_fresh h1 h2 ?_, h5⟩
  rw [h3, valN_dg_all]
theorem rest_num {vx : Value} {X y : Nat} {w : World} (hx : Num w vx X) (hlx : nlen X ≤ 1048576) (hy : 0 < y) (hyb : y < bq) :
    Calls Tryz.prog 77 #[vx, .int .u32 (y : Int)] w fun e w' => ∃ v, e = .returned (.tuple #[v, .int .u32 ((X % y : Nat) : Int)]) ∧ FreshN w w' v (X / y) (nlen X) ∧ Ext w w' := by
  obtain ⟨ax, bx, ox, cx, rfl, _, hax, hxc⟩ := hx
  refine (rest_core ax bx ox _ cx y X w hlx hax hxc rfl hy hyb).mono fun e w' ⟨z, h1, h2, h3⟩ => ⟨_, h3, ⟨w.heap.size, nlen X, rfl, nlen_mono (Nat.div_le_self _ _), Nat.le_refl _, h1.row.congr h2⟩, h1.since⟩
/-- What Div hands back. -/
def DivQ (w w' : World) (vx vq vr : Value) (X Y : Nat) : Prop :=
  (X < Y → vq = .slice none 0 0 ∧ vr = vx) ∧ (Y ≤ X → (∃ m, FreshN w w' vq (X / Y) m ∧ nlen (X / Y) ≤ m) ∧ (X % Y = 0 → vr = .slice none 0 0) ∧ (X % Y ≠ 0 → FreshN w w' vr (X % Y) (nlen (X % Y))))
set_option maxHeartbeats 1600000 in
theorem div_num {vx vy : Value} {X Y : Nat} {w : World} (hx : Num w vx X) (hy : Num w vy Y) (hlx : nlen X ≤ 1048576) (hly : 2 ≤ nlen Y) (hlyb : nlen Y ≤ 1048576) :
    Calls Tryz.prog 78 #[vx, vy] w fun e w' => ∃ vq vr, e = .returned (.tuple #[vq, vr]) ∧ DivQ w w' vx vq vr X Y ∧ Ext w w' := by
  by_cases hlt : X < Y
  · have hcmp := cmp_walk hx hy hlx hlyb
    rw [show cmpN X Y = -1 from if_pos hlt] at hcmp
    have AL : Aside (X < Y) := hlt
    clear hlt hlx hly hlyb hx hy
    go_enter Tryz.func78, Tryz.ntmps78
    go_wp2_with (go_at_call 21; with_reducible refine hcmp.mono ?_; rintro e w1 ⟨rfl, hE1⟩)
    go_ret2
    exact ⟨_, _, rfl, ⟨fun _ => ⟨rfl, rfl⟩, fun h => absurd AL.out (by omega)⟩, hE1⟩
  · obtain ⟨ax, bx, ox, cx, rfl, hcx, hax, hxc⟩ := hx
    obtain ⟨ay, by', oy, cy, rfl, hcy, hay, hyc⟩ := hy
    refine (div_core ax ay bx ox _ cx by' oy _ cy X Y w hlx rfl rfl hly (by omega) hcx hcy hax hay hxc hyc).mono fun e w' ⟨vq, vr, h1, h2, h3, h4, h5⟩ => ⟨vq, vr, h1, ⟨fun h => absurd h hlt, fun _ => ⟨h3, h4, h5⟩⟩, h2⟩
end Go.Eng
namespace Go.Eng
open Go Go.RowKit Go.Proofs
set_option maxRecDepth 100000
/-! The field's functions. -/
theorem nlen_mul (X Y : Nat) : nlen (X * Y) ≤ nlen X + nlen Y := by
  refine nlen_le ?_
  rw [Nat.pow_add]
  by_cases h : Y = 0
  · rw [h, Nat.mul_zero]; exact Nat.mul_pos (bqp_pos _) (bqp_pos _)
  · exact Nat.mul_lt_mul_of_lt_of_le (lt_nlen X) (Nat.le_of_lt (lt_nlen Y)) (bqp_pos _)
theorem nlen_add (X Y : Nat) : nlen (X + Y) ≤ max (nlen X) (nlen Y) + 1 := by
  refine nlen_le ?_
  have h1 : X < bq ^ max (nlen X) (nlen Y) := Nat.lt_of_lt_of_le (lt_nlen X) (Nat.pow_le_pow_right bq_pos (Nat.le_max_left _ _))
  have h2 : Y < bq ^ max (nlen X) (nlen Y) := Nat.lt_of_lt_of_le (lt_nlen Y) (Nat.pow_le_pow_right bq_pos (Nat.le_max_right _ _))
  rw [Nat.pow_succ]
  have h3 : bq ^ max (nlen X) (nlen Y) * 2 ≤ bq ^ max (nlen X) (nlen Y) * bq := Nat.mul_le_mul_left _ (by decide)
  omega
/-- What Mod hands back of a number: itself, or a new one. -/
def ModQ (w w' : World) (vx vr : Value) (X P : Nat) : Prop :=
  (X < P → vr = vx) ∧ (P ≤ X → (X % P = 0 → vr = .slice none 0 0) ∧ (X % P ≠ 0 → FreshN w w' vr (X % P) (nlen (X % P))))
set_option maxHeartbeats 1600000 in
theorem mod_num {vp vx : Value} {X P : Nat} {w : World} (hp : Num w vp P) (hx : Num w vx X) (hlx : nlen X ≤ 1048576) (hly : 2 ≤ nlen P) (hlyb : nlen P ≤ 1048576) :
    Calls Tryz.prog 48 #[.agg #[vp], vx] w fun e w' => ∃ vr, e = .returned vr ∧ ModQ w w' vx vr X P ∧ Ext w w' := by
  have hdiv : ∀ W, Ext w W → Calls Tryz.prog 78 #[vx, vp] W fun e w' => ∃ vq vr, e = .returned (.tuple #[vq, vr]) ∧ ModQ w w' vx vr X P ∧ Ext w w' := fun W hW =>
    (div_num (hx.ext hW) (hp.ext hW) hlx hly hlyb).mono fun e w' ⟨vq, vr, h1, h2, h3⟩ => ⟨vq, vr, h1, ⟨fun h => (h2.1 h).2, fun h => ⟨(h2.2 h).2.1, fun h0 => by
      obtain ⟨b, c, k1, k2, k3, k4⟩ := (h2.2 h).2.2 h0
      exact ⟨b, c, k1, k2, Nat.le_trans hW.size k3, k4⟩⟩⟩, hW.trans h3⟩
  clear hp hx
  have hE : ∀ o, Ext w (w.alloc o) := fun o => (Ext.refl w).alloc o
  go_enter Tryz.func48, Tryz.ntmps48
  go_wp2_with (go_at_call 78; with_reducible refine (hdiv _ (hE _)).mono ?_; rintro e w1 ⟨vq, vr, rfl, hQ, hE1⟩)
  go_ret
  exact ⟨vr, rfl, hQ, hE1⟩
theorem FreshN.of_ext {w W w' : World} {v : Value} {N n : Nat} (h : FreshN W w' v N n) (e : Ext w W) : FreshN w w' v N n := by
  obtain ⟨b, c, h1, h2, h3, h4⟩ := h
  exact ⟨b, c, h1, h2, Nat.le_trans e.size h3, h4⟩
theorem FreshN.ext {w W w' : World} {v : Value} {N n : Nat} (h : FreshN w W v N n) (e : Ext W w') : FreshN w w' v N n := by
  obtain ⟨b, c, h1, h2, h3, h4⟩ := h
  exact ⟨b, c, h1, h2, h3, h4.ext e⟩
/-- What an operation modulo P hands back of N, told in n digits where nothing was to be taken away. -/
def RedQ (w w' : World) (vr : Value) (N P n : Nat) : Prop :=
  (N < P → FreshN w w' vr N n) ∧ (P ≤ N → (N % P = 0 → vr = .slice none 0 0) ∧ (N % P ≠ 0 → FreshN w w' vr (N % P) (nlen (N % P))))
set_option maxHeartbeats 1600000 in
theorem fmul_num {vp vx vy : Value} {X Y P : Nat} {w : World} (hp : Num w vp P) (hx : Num w vx X) (hy : Num w vy Y) (hlx : nlen X ≤ 524288) (hly : nlen Y ≤ 524288) (hl2 : 2 ≤ nlen P) (hlp : nlen P ≤ 1048576) :
    Calls Tryz.prog 19 #[.agg #[vp], vx, vy] w fun e w' => ∃ vr, e = .returned vr ∧ RedQ w w' vr (X * Y) P (nlen X + nlen Y) ∧ Ext w w' := by
  have hmul : ∀ W, Ext w W → Calls Tryz.prog 49 #[vx, vy] W fun e w' => ∃ v, e = .returned v ∧ (FreshN w w' v (X * Y) (nlen X + nlen Y) ∧ Num w' v (X * Y)) ∧ Ext W w' := fun W hW =>
    (mul_num (hx.ext hW) (hy.ext hW) (by omega) (by omega)).mono fun e w' ⟨v, h1, h2, h3⟩ => ⟨v, h1, ⟨h2.of_ext hW, h2.num (nlen_mul _ _)⟩, h3⟩
  have hmod : ∀ W v, Ext w W → FreshN w W v (X * Y) (nlen X + nlen Y) ∧ Num W v (X * Y) → Calls Tryz.prog 48 #[.agg #[vp], v] W fun e w' => ∃ vr, e = .returned vr ∧ RedQ w w' vr (X * Y) P (nlen X + nlen Y) ∧ Ext w w' := fun W v hW hf =>
    (mod_num (hp.ext hW) hf.2 (Nat.le_trans (nlen_mul _ _) (by omega)) hl2 hlp).mono fun e w' ⟨vr, h1, h2, h3⟩ => ⟨vr, h1, ⟨fun h => by rw [h2.1 h]; exact hf.1.ext h3, fun h => ⟨(h2.2 h).1, fun h0 => ((h2.2 h).2 h0).of_ext hW⟩⟩, hW.trans h3⟩
  have hE : ∀ o, Ext w (w.alloc o) := fun o => (Ext.refl w).alloc o
  have hb : ∀ W, Ext (w.alloc (.cells #[vp] 25)).drew W → W.cell? ⟨w.heap.size, 0, none⟩ = some vp := fun W hW => hW.cell (by simp)
  clear hp hx hy hlx hly hl2 hlp
  go_enter Tryz.func19, Tryz.ntmps19
  go_wp2_with fail
  go_region_with (first
    | (go_at_call 49; refine (hmul _ (hE _).drew).mono ?_; rintro e w1 ⟨v1, rfl, hF1, hE1⟩; have hb1 := hb _ hE1)
    | (go_at_call 48; refine (hmod _ _ ((hE _).drew.trans hE1) hF1).mono ?_; rintro e w2 ⟨v2, rfl, hQ, hE2⟩))
  all_goals
    (go_wp2
     go_ret
     exact ⟨v2, rfl, hQ, hE2⟩)
set_option maxHeartbeats 1600000 in
theorem fadd_num {vp vx vy : Value} {X Y P : Nat} {w : World} (hp : Num w vp P) (hx : Num w vx X) (hy : Num w vy Y) (hlx : nlen X ≤ 524288) (hly : nlen Y ≤ 524288) (hl2 : 2 ≤ nlen P) (hlp : nlen P ≤ 1048576) :
    Calls Tryz.prog 20 #[.agg #[vp], vx, vy] w fun e w' => ∃ vr, e = .returned vr ∧ RedQ w w' vr (X + Y) P (max (nlen X) (nlen Y) + 1) ∧ Ext w w' := by
  have hmul : ∀ W, Ext w W → Calls Tryz.prog 50 #[vx, vy] W fun e w' => ∃ v, e = .returned v ∧ (FreshN w w' v (X + Y) (max (nlen X) (nlen Y) + 1) ∧ Num w' v (X + Y)) ∧ Ext W w' := fun W hW =>
    (add_num (hx.ext hW) (hy.ext hW) (by omega) (by omega)).mono fun e w' ⟨v, h1, h2, h3⟩ => ⟨v, h1, ⟨h2.of_ext hW, h2.num (nlen_add _ _)⟩, h3⟩
  have hmod : ∀ W v, Ext w W → FreshN w W v (X + Y) (max (nlen X) (nlen Y) + 1) ∧ Num W v (X + Y) → Calls Tryz.prog 48 #[.agg #[vp], v] W fun e w' => ∃ vr, e = .returned vr ∧ RedQ w w' vr (X + Y) P (max (nlen X) (nlen Y) + 1) ∧ Ext w w' := fun W v hW hf =>
    (mod_num (hp.ext hW) hf.2 (Nat.le_trans (nlen_add _ _) (by omega)) hl2 hlp).mono fun e w' ⟨vr, h1, h2, h3⟩ => ⟨vr, h1, ⟨fun h => by rw [h2.1 h]; exact hf.1.ext h3, fun h => ⟨(h2.2 h).1, fun h0 => ((h2.2 h).2 h0).of_ext hW⟩⟩, hW.trans h3⟩
  have hE : ∀ o, Ext w (w.alloc o) := fun o => (Ext.refl w).alloc o
  have hb : ∀ W, Ext (w.alloc (.cells #[vp] 25)).drew W → W.cell? ⟨w.heap.size, 0, none⟩ = some vp := fun W hW => hW.cell (by simp)
  clear hp hx hy hlx hly hl2 hlp
  go_enter Tryz.func20, Tryz.ntmps20
  go_wp2_with fail
  go_region_with (first
    | (go_at_call 50; refine (hmul _ (hE _).drew).mono ?_; rintro e w1 ⟨v1, rfl, hF1, hE1⟩; have hb1 := hb _ hE1)
    | (go_at_call 48; refine (hmod _ _ ((hE _).drew.trans hE1) hF1).mono ?_; rintro e w2 ⟨v2, rfl, hQ, hE2⟩))
  all_goals
    (go_wp2
     go_ret
     exact ⟨v2, rfl, hQ, hE2⟩)
/-- What Neg answers. -/
def fnegN (P Y : Nat) : Nat := if Y = 0 then 0 else P - Y
set_option maxHeartbeats 1600000 in
theorem fneg_num {vp vy : Value} {Y P : Nat} {w : World} (hp : Num w vp P) (hy : Num w vy Y) (hYP : Y ≤ P) (hlp : nlen P ≤ 1048576) :
    Calls Tryz.prog 76 #[.agg #[vp], vy] w fun e w' => ∃ vr, e = .returned vr ∧ (Y = 0 → vr = .slice none 0 0) ∧ (Y ≠ 0 → FreshN w w' vr (P - Y) (nlen P)) ∧ Ext w w' := by
  have hly := nlen_mono hYP
  have hsub : ∀ W, Ext w W → Calls Tryz.prog 51 #[vp, vy] W fun e w' => ∃ v, e = .returned v ∧ FreshN w w' v (P - Y) (nlen P) ∧ Ext w w' := fun W hW =>
    (sub_num (hp.ext hW) (hy.ext hW) hlp hYP).mono fun e w' ⟨v, h1, h2, h3⟩ => ⟨v, h1, h2.of_ext hW, hW.trans h3⟩
  have hE : ∀ o, Ext w (w.alloc o) := fun o => (Ext.refl w).alloc o
  obtain ⟨ay, by', oy, cy, rfl, _, _, _⟩ := hy
  obtain ⟨ly, hl⟩ : ∃ l, l = nlen Y := ⟨_, rfl⟩
  have h0 : ly = 0 ↔ Y = 0 := by rw [hl]; exact nlen_eq_zero
  rw [← hl] at hsub ⊢
  have A0 : Aside (ly = 0 ↔ Y = 0) := h0
  have hl2 : ly ≤ 1048576 := by omega
  clear hp hly hl h0 hYP hlp
  by_cases hz : ly = 0
  · have hzz : ((ly : Int) == 0) = true := by simp; omega
    have AZ : Aside (Y = 0) := A0.out.1 hz
    clear hz hsub
    go_enter Tryz.func76, Tryz.ntmps76
    go_wp2
    go_ret
    exact ⟨_, rfl, fun _ => rfl, fun h => absurd AZ.out h, hE _⟩
  · have hzz : ((ly : Int) == 0) = false := by simp; omega
    have AZ : Aside (¬ Y = 0) := fun h => hz (A0.out.2 h)
    clear hz
    go_enter Tryz.func76, Tryz.ntmps76
    go_wp2_with (go_at_call 51; with_reducible refine (hsub _ (hE _)).mono ?_; rintro e w1 ⟨v, rfl, hF, hE1⟩)
    go_ret
    exact ⟨_, rfl, fun h => absurd h AZ.out, fun _ => hF, hE1⟩
set_option maxHeartbeats 1600000 in
theorem fsub_num {vp vx vy : Value} {X Y P : Nat} {w : World} (hp : Num w vp P) (hx : Num w vx X) (hy : Num w vy Y) (hYP : Y ≤ P) (hlx : nlen X ≤ 524288) (hl2 : 2 ≤ nlen P) (hlp : nlen P ≤ 524288) :
    Calls Tryz.prog 45 #[.agg #[vp], vx, vy] w fun e w' => ∃ vr, e = .returned vr ∧ RedQ w w' vr (X + fnegN P Y) P (max (nlen X) (nlen (fnegN P Y)) + 1) ∧ Ext w w' := by
  have hneg : ∀ W, Ext w W → Calls Tryz.prog 76 #[.agg #[vp], vy] W fun e w' => ∃ v, e = .returned v ∧ Num w' v (fnegN P Y) ∧ Ext W w' := fun W hW =>
    (fneg_num (hp.ext hW) (hy.ext hW) hYP (by omega)).mono fun e w' ⟨v, h1, h2, h3, h4⟩ => ⟨v, h1, by
      unfold fnegN
      by_cases h : Y = 0
      · rw [if_pos h, h2 h]; exact Num.nil _
      · rw [if_neg h]; exact (h3 h).num (nlen_mono (Nat.sub_le _ _)), h4⟩
  have hadd : ∀ W v, Ext w W → Num W v (fnegN P Y) → Calls Tryz.prog 20 #[.agg #[vp], vx, v] W fun e w' => ∃ vr, e = .returned vr ∧ RedQ w w' vr (X + fnegN P Y) P (max (nlen X) (nlen (fnegN P Y)) + 1) ∧ Ext w w' := fun W v hW hf =>
    (fadd_num (hp.ext hW) (hx.ext hW) hf hlx (by
      have : fnegN P Y ≤ P := by unfold fnegN; split <;> omega
      have := nlen_mono this
      omega) hl2 (by omega)).mono fun e w' ⟨vr, h1, h2, h3⟩ => ⟨vr, h1, ⟨fun h => (h2.1 h).of_ext hW, fun h => ⟨(h2.2 h).1, fun h0 => ((h2.2 h).2 h0).of_ext hW⟩⟩, hW.trans h3⟩
  have hE : ∀ o, Ext w (w.alloc o) := fun o => (Ext.refl w).alloc o
  have hb : ∀ W, Ext (w.alloc (.cells #[vp] 25)).drew W → W.cell? ⟨w.heap.size, 0, none⟩ = some vp := fun W hW => hW.cell (by simp)
  clear hp hx hy hlx hl2 hlp hYP
  go_enter Tryz.func45, Tryz.ntmps45
  go_wp2_with fail
  go_region_with (first
    | (go_at_call 76; refine (hneg _ (hE _).drew).mono ?_; rintro e w1 ⟨v1, rfl, hF1, hE1⟩; have hb1 := hb _ hE1)
    | (go_at_call 20; refine (hadd _ _ ((hE _).drew.trans hE1) hF1).mono ?_; rintro e w2 ⟨v2, rfl, hQ, hE2⟩))
  all_goals
    (go_wp2
     go_ret
     exact ⟨v2, rfl, hQ, hE2⟩)
end Go.Eng
namespace Go.Eng
open Go Go.RowKit Go.Proofs
set_option maxRecDepth 100000
theorem cell_new (w : World) (cs : Array Value) (t : TypeId) (o : Nat) : (w.alloc (.cells cs t)).cell? ⟨w.heap.size, o, none⟩ = cs[o]? := by
  unfold World.cell?
  rw [heap_alloc_new]
  simp
theorem frozen_new (w : World) (cs : Array Value) (t : TypeId) (o : Nat) : (w.alloc (.cells cs t)).frozen? ⟨w.heap.size, o, none⟩ = false := by
  unfold World.frozen?
  rw [heap_alloc_new]
  simp
theorem Ext.frozenE {w w' : World} (h : Ext w w') {b o : Nat} (hb : b < w.heap.size) : w'.frozen? ⟨b, o, none⟩ = w.frozen? ⟨b, o, none⟩ := World.Since.frozen h hb
theorem size_al (w : World) (o : Obj) : (w.alloc o).heap.size = w.heap.size + 1 := by simp
theorem RedQ.num {w w' : World} {v : Value} {N P n : Nat} (h : RedQ w w' v N P n) (hn : nlen N ≤ n) : Num w' v (N % P) := by
  by_cases hlt : N < P
  · rw [Nat.mod_eq_of_lt hlt]; exact (h.1 hlt).num hn
  · have hge : P ≤ N := Nat.le_of_not_lt hlt
    by_cases h0 : N % P = 0
    · rw [h0, (h.2 hge).1 h0]; exact Num.nil _
    · exact ((h.2 hge).2 h0).num (Nat.le_refl _)
theorem fmul_N {vp vx vy : Value} {X Y P : Nat} {w : World} (hp : Num w vp P) (hl2 : 2 ≤ nlen P) (hlp : nlen P ≤ 1000) (hx : Num w vx X) (hlx : nlen X ≤ 1000) (hy : Num w vy Y) (hly : nlen Y ≤ 1000) :
    Calls Tryz.prog 19 #[.agg #[vp], vx, vy] w fun e w' => ∃ v, e = .returned v ∧ Num w' v (X * Y % P) ∧ Ext w w' :=
  (fmul_num hp hx hy (by omega) (by omega) hl2 (by omega)).mono fun e w' ⟨v, h1, h2, h3⟩ => ⟨v, h1, h2.num (nlen_mul _ _), h3⟩
theorem fadd_N {vp vx vy : Value} {X Y P : Nat} {w : World} (hp : Num w vp P) (hl2 : 2 ≤ nlen P) (hlp : nlen P ≤ 1000) (hx : Num w vx X) (hlx : nlen X ≤ 1000) (hy : Num w vy Y) (hly : nlen Y ≤ 1000) :
    Calls Tryz.prog 20 #[.agg #[vp], vx, vy] w fun e w' => ∃ v, e = .returned v ∧ Num w' v ((X + Y) % P) ∧ Ext w w' :=
  (fadd_num hp hx hy (by omega) (by omega) hl2 (by omega)).mono fun e w' ⟨v, h1, h2, h3⟩ => ⟨v, h1, h2.num (nlen_add _ _), h3⟩
theorem fsub_N {vp vx vy : Value} {X Y P : Nat} {w : World} (hp : Num w vp P) (hl2 : 2 ≤ nlen P) (hlp : nlen P ≤ 1000) (hx : Num w vx X) (hlx : nlen X ≤ 1000) (hy : Num w vy Y) (hYP : Y ≤ P) :
    Calls Tryz.prog 45 #[.agg #[vp], vx, vy] w fun e w' => ∃ v, e = .returned v ∧ Num w' v ((X + fnegN P Y) % P) ∧ Ext w w' :=
  (fsub_num hp hx hy hYP (by omega) hl2 (by omega)).mono fun e w' ⟨v, h1, h2, h3⟩ => ⟨v, h1, h2.num (nlen_add _ _), h3⟩
theorem of_digits {n : Nat} (h : n < bq * bq) : valN (fun j => if j = 0 then n % bq else n / bq) 2 = n ∧ ∀ j, (fun j => if j = 0 then n % bq else n / bq) j < bq := by
  refine ⟨?_, fun j => ?_⟩
  · simp only [valN]
    have := Nat.div_add_mod n bq
    simp
    rw [Nat.mul_comm] at this
    omega
  · simp only
    split
    · exact mod_bq_lt _
    · exact div_bq_lt h
set_option maxHeartbeats 1600000 in
theorem of_walk (n : Nat) (hn : n < bq * bq) (w : World) : Calls Tryz.prog 18 #[.int .u64 (n : Int)] w fun e w' => ∃ v, e = .returned v ∧ FreshN w w' v n 2 ∧ Ext w w' := by
  have e1 : (n : Int) % 4294967296 = ((n % bq : Nat) : Int) := rfl
  have e2 : (n : Int) / 4294967296 % 4294967296 = ((n / bq : Nat) : Int) := by
    rw [nat_div_bq, nat_mod_bq, Nat.mod_eq_of_lt (div_bq_lt hn)]
  obtain ⟨d0, hd0⟩ : ∃ d, d = n % bq := ⟨_, rfl⟩
  obtain ⟨d1, hd1⟩ : ∃ d, d = n / bq := ⟨_, rfl⟩
  rw [← hd0] at e1
  rw [← hd1] at e2
  have hrow : Row (w.alloc (.cells #[.int .u32 (d0 : Int), .int .u32 (d1 : Int)] 59)) w.heap.size 2 (fun j => if j = 0 then n % bq else n / bq) := by
    refine ⟨_, heap_alloc_new w _, Nat.le_refl _, fun i hi => ?_⟩
    match i, hi with
    | 0, _ => simp [hd0]
    | 1, _ => simp [hd1]
  have AF : Aside (valN (fun j => if j = 0 then n % bq else n / bq) 2 = n ∧ (∀ j, (fun j => if j = 0 then n % bq else n / bq) j < bq) ∧ Row (w.alloc (.cells #[.int .u32 (d0 : Int), .int .u32 (d1 : Int)] 59)) w.heap.size 2 (fun j => if j = 0 then n % bq else n / bq)) := ⟨(of_digits hn).1, (of_digits hn).2, hrow⟩
  clear hd0 hd1 hrow hn
  go_enter Tryz.func18, Tryz.ntmps18
  go_wp2_with (go_at_call 47; refine (trim_walk _ w.heap.size 0 2 2 (fun j => if j = 0 then n % bq else n / bq) _ (by omega) (Nat.le_refl _) (fun _ => rfl) (fun j hj => by rw [Nat.zero_add]; exact AF.out.2.2.cell hj)).mono ?_; rintro e w' ⟨rfl, rfl⟩)
  go_ret
  obtain ⟨a1, a2, a3⟩ := AF.out
  exact ⟨_, rfl, row_fresh a2 a3 a1, (Ext.refl w).alloc _⟩
end Go.Eng
