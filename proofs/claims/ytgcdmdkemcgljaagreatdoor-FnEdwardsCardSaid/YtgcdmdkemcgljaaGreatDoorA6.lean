/-
  Plain laws of digits to the base 2^32, and contracts of the reference package spec over natural numbers.
-/
import Derived.Deep.DeepMust
import Derived.Test.YtgcdmdkemcgljaaGreatDoorA5
set_option linter.unusedVariables false
set_option linter.unusedSimpArgs false
namespace Go.Eng
open Go Go.RowKit Go.Proofs
set_option maxRecDepth 100000
theorem bit_law (X i : Nat) : dg X (i / 32) / 2 ^ (i % 32) % 2 = X / 2 ^ i % 2 := by
  have h1 := dg_split X (i / 32)
  have hr : i % 32 < 32 := Nat.mod_lt _ (by decide)
  have h2 : X / 2 ^ i = X / bq ^ (i / 32) / 2 ^ (i % 32) := by
    rw [bq_pow, Nat.div_div_eq_div_mul, ← Nat.pow_add]
    congr 2
    omega
  rw [h2, h1]
  generalize X / bq ^ (i / 32 + 1) = m
  generalize i % 32 = r at *
  have hk : bq = 2 ^ r * (2 ^ (31 - r) * 2) := by
    rw [← Nat.pow_succ, ← Nat.pow_add, show r + Nat.succ (31 - r) = 32 by omega]; rfl
  rw [Nat.add_comm, hk, show m * (2 ^ r * (2 ^ (31 - r) * 2)) = 2 ^ r * (m * 2 ^ (31 - r) * 2) by rw [Nat.mul_left_comm, Nat.mul_assoc], Nat.add_mul_div_left _ _ (Nat.pow_pos (by decide)), Nat.add_mul_mod_self_right]
theorem bit_high {X i : Nat} (h : nlen X ≤ i / 32) : X / 2 ^ i % 2 = 0 := by
  have : X < 2 ^ i := by
    have h1 := lt_iff_nlen.2 h
    rw [bq_pow] at h1
    exact Nat.lt_of_lt_of_le h1 (Nat.pow_le_pow_right (by decide) (by omega))
  rw [Nat.div_eq_of_lt this]
theorem and1_u32 {d r : Nat} (hdl : d < bq) : bits .and .u32 ((d : Int) / 2 ^ r) 1 = ((d / 2 ^ r % 2 : Nat) : Int) := by
  have h1 : ((d : Int) / 2 ^ r) = ((d / 2 ^ r : Nat) : Int) := by
    rw [show ((2 : Int) ^ r) = ((2 ^ r : Nat) : Int) by rw [Int.natCast_pow]; rfl]
    rfl
  rw [h1]
  have h2 : d / 2 ^ r < 4294967296 := Nat.lt_of_le_of_lt (Nat.div_le_self _ _) hdl
  generalize d / 2 ^ r = t at *
  exact bits_mask .u32 32 (by decide) (fun n h0 h1 => by rw [IntKind.wrap_u32]; omega) 1 (by decide) (t : Int) (by omega) (by omega)
set_option maxHeartbeats 1600000 in
theorem bit_walk {vx : Value} {X i : Nat} {w : World} (hx : Num w vx X) (hlx : nlen X ≤ 1048576) (hi : i ≤ 1000000000) :
    Calls Tryz.prog 24 #[vx, .int .i64 (i : Int)] w fun e w' => e = .returned (.int .u32 ((X / 2 ^ i % 2 : Nat) : Int)) ∧ Ext w w' := by
  obtain ⟨ax, bx, ox, cx, rfl, _, hax, hxc⟩ := hx
  have hq : (i : Int).tdiv 32 = ((i / 32 : Nat) : Int) := rfl
  have hr : (i : Int).tmod 32 = ((i % 32 : Nat) : Int) := rfl
  obtain ⟨q, hq'⟩ : ∃ q, q = i / 32 := ⟨_, rfl⟩
  obtain ⟨r, hr'⟩ : ∃ q, q = i % 32 := ⟨_, rfl⟩
  have hr32 : r < 32 := by rw [hr']; exact Nat.mod_lt _ (by decide)
  rw [← hq'] at hq
  rw [← hr'] at hr
  have hql : q ≤ 1000000000 := by omega
  obtain ⟨lx, hl⟩ : ∃ l, l = nlen X := ⟨_, rfl⟩
  rw [← hl] at hxc hax ⊢
  have AQ : Aside (q = i / 32 ∧ r = i % 32 ∧ lx = nlen X) := ⟨hq', hr', hl⟩
  have hlx2 : lx ≤ 1048576 := by omega
  by_cases hc : lx ≤ q
  · have hcz : (lx : Int) ≤ (q : Int) := by omega
    have AC : Aside (lx ≤ q) := hc
    clear hc hq' hr' hl hxc hax hlx
    go_enter Tryz.func24, Tryz.ntmps24
    go_wp2
    go_ret
    obtain ⟨a1, a2, a3⟩ := AQ.out
    have := AC.out
    refine ⟨?_, Ext.refl w⟩
    rw [bit_high (by rw [← a3, ← a1]; exact this)]
    rfl
  · have hcz : ¬ (lx : Int) ≤ (q : Int) := by omega
    have hcz2 : (q : Int) < (lx : Int) := by omega
    obtain rfl := hax (by omega)
    have g0 : w.cell? ⟨bx, ox + q, none⟩ = some (.int .u32 (dg X q : Int)) := hxc q (by omega)
    obtain ⟨d, hd⟩ : ∃ d, d = dg X q := ⟨_, rfl⟩
    have hdl : d < bq := by rw [hd]; exact dg_lt _ _
    have hand : bits .and .u32 ((d : Int) / 2 ^ r) 1 = ((d / 2 ^ r % 2 : Nat) : Int) := and1_u32 hdl
    rw [← hd] at g0
    have AD : Aside (d = dg X q) := hd
    clear hc hq' hr' hl hxc hlx hd hdl
    go_enter Tryz.func24, Tryz.ntmps24
    go_wp2
    go_ret
    obtain ⟨a1, a2, a3⟩ := AQ.out
    refine ⟨?_, Ext.refl w⟩
    have h2 : ((X : Int) / 2 ^ i % 2) = ((X / 2 ^ i % 2 : Nat) : Int) := by
      rw [show ((2 : Int) ^ i) = ((2 ^ i : Nat) : Int) by rw [Int.natCast_pow]; rfl]
      rfl
    rw [h2, ← bit_law, ← a1, ← a2, ← AD.out]
    have h3 : ((d : Int) / 2 ^ r % 2) = ((d / 2 ^ r % 2 : Nat) : Int) := by
      rw [show ((2 : Int) ^ r) = ((2 ^ r : Nat) : Int) by rw [Int.natCast_pow]; rfl]
      rfl
    first | rfl | (rw [← h3]; rfl)
/-- What Exp reckons, round by round. -/
def expR (P X N L : Nat) : Nat → Nat
  | 0 => 1 % P
  | j + 1 => if N / 2 ^ (L - 1 - j) % 2 = 1 then (expR P X N L j * expR P X N L j % P) * X % P else expR P X N L j * expR P X N L j % P
def expN (P X N : Nat) : Nat := expR P X N (N.log2 + 1) (N.log2 + 1)
theorem expR_lt {P X N L : Nat} (hP : 0 < P) : ∀ j, expR P X N L j < P
  | 0 => Nat.mod_lt _ hP
  | j + 1 => by rw [expR]; split <;> exact Nat.mod_lt _ hP
theorem nlen_lt {X P : Nat} (h : X < P) : nlen X ≤ nlen P := nlen_mono (Nat.le_of_lt h)
theorem held {w W W' : World} {a : Addr} {v : Value} (h : W.cell? a = some v ∧ Ext w W) (e : Ext W W') : W'.cell? a = some v ∧ Ext w W' := ⟨e.cell h.1, h.2.trans e⟩
set_option maxHeartbeats 3200000 in
theorem exp_walk {vp vx vn : Value} {X N P : Nat} {w : World} (hp : Num w vp P) (hl2 : 2 ≤ nlen P) (hlp : nlen P ≤ 1000) (hx : Num w vx X) (hlx : nlen X ≤ 1000) (hn : Num w vn N) (hln : nlen N ≤ 1000) (hN : N ≠ 0) :
    Calls Tryz.prog 26 #[.agg #[vp], vx, vn] w fun e w' => ∃ v, e = .returned v ∧ Num w' v (expN P X N) ∧ Ext w w' := by
  have hP0 : 0 < P := Nat.pos_of_ne_zero fun e => by subst e; rw [nlen_zero] at hl2; omega
  obtain ⟨L, hL⟩ : ∃ L, L = N.log2 + 1 := ⟨_, rfl⟩
  have hLb : L ≤ 1000000 := by
    have h1 : nlen N = N.log2 / 32 + 1 := by unfold nlen; rw [if_neg hN]
    omega
  have hone : ∀ W, Ext w W → Calls Tryz.prog 18 #[.int .u64 1] W fun e w' => ∃ v, e = .returned v ∧ Num w' v 1 ∧ Ext W w' := fun W _ =>
    (of_walk 1 (by decide) W).mono fun e w' ⟨v, h1, h2, h3⟩ => ⟨v, h1, h2.num (by decide), h3⟩
  have hmod : ∀ W v, Ext w W → Num W v 1 → Calls Tryz.prog 48 #[.agg #[vp], v] W fun e w' => ∃ vr, e = .returned vr ∧ Num w' vr (1 % P) ∧ Ext W w' := fun W v hW hv =>
    (mod_num (hp.ext hW) hv (by decide) hl2 (by omega)).mono fun e w' ⟨vr, h1, h2, h3⟩ => ⟨vr, h1, by
      by_cases h : 1 < P
      · rw [h2.1 h, Nat.mod_eq_of_lt h]; exact hv.ext h3
      · have hge : P ≤ 1 := by omega
        by_cases h0 : 1 % P = 0
        · rw [h0, (h2.2 hge).1 h0]; exact Num.nil _
        · exact ((h2.2 hge).2 h0).num (Nat.le_refl _), h3⟩
  have hbits : ∀ W, Ext w W → Calls Tryz.prog 22 #[vn] W fun e w' => e = .returned (.int .i64 (L : Int)) ∧ Ext W w' := fun W hW => by
    obtain ⟨an, bn, on, cn, hv, _, han, hnc⟩ := hn
    subst hv
    rw [hL]
    exact bits_core an bn on _ cn N W (by omega) rfl han (fun j hj => hW.cell (hnc j hj)) (nlen_pos hN)
  have hbit : ∀ W i, Ext w W → i < L → Calls Tryz.prog 24 #[vn, .int .i64 ((i : Nat) : Int)] W fun e w' => e = .returned (.int .u32 ((N / 2 ^ i % 2 : Nat) : Int)) ∧ Ext W w' := fun W i hW hi => bit_walk (hn.ext hW) (by omega) (by omega)
  have hsq : ∀ W v j, Ext w W → Num W v (expR P X N L j) → Calls Tryz.prog 19 #[.agg #[vp], v, v] W fun e w' => ∃ vr, e = .returned vr ∧ Num w' vr (expR P X N L j * expR P X N L j % P) ∧ Ext W w' := fun W v j hW hv =>
    fmul_N (hp.ext hW) hl2 hlp hv (by have := nlen_lt (expR_lt (X := X) (N := N) (L := L) hP0 j); omega) hv (by have := nlen_lt (expR_lt (X := X) (N := N) (L := L) hP0 j); omega)
  have hmx : ∀ W v M, Ext w W → Num W v (M % P) → Calls Tryz.prog 19 #[.agg #[vp], v, vx] W fun e w' => ∃ vr, e = .returned vr ∧ Num w' vr (M % P * X % P) ∧ Ext W w' := fun W v M hW hv =>
    fmul_N (hp.ext hW) hl2 hlp hv (by have := nlen_lt (Nat.mod_lt M hP0); omega) (hx.ext hW) hlx
  have hE : ∀ o, Ext w (w.alloc o) := fun o => (Ext.refl w).alloc o
  have hb0 : (w.alloc (.cells #[vp] 25)).cell? ⟨w.heap.size, 0, none⟩ = some vp := by rw [cell_new]; rfl
  have AL : Aside (L = N.log2 + 1) := hL
  clear hp hx hn hlx hln hl2 hlp hL
  go_enter Tryz.func26, Tryz.ntmps26
  go_wp2_with fail
  go_region_held3 (fun W => W.cell? ⟨w.heap.size, 0, none⟩ = some vp ∧ Ext w W) (first | exact ⟨hb0, (hE _).drew⟩ | exact held (by assumption) (by assumption)) (first | (go_at_call 18; refine (hone _ (by assumption : _ ∧ Ext w _).2).mono ?_; rintro e w1 ⟨v1, rfl, hv1, hE1⟩) | (go_at_call 48; refine (hmod _ _ (by assumption : _ ∧ Ext w _).2 hv1).mono ?_; rintro e w2 ⟨v2, rfl, hv2, hE2⟩))
  rename w2.cell? _ = some vp ∧ Ext w w2 => hH
  have hbits2 := hbits w2 hH.2
  have AH : Aside (w2.cell? ⟨w.heap.size, 0, none⟩ = some vp ∧ Ext w w2 ∧ Num w2 v2 (1 % P)) := ⟨hH.1, hH.2, hv2⟩
  clear hH hv1 hv2 hE1 hE2 hbits hone hmod hb0 hE
  go_wp2_with (go_at_call 22; with_reducible refine hbits2.mono ?_; rintro e w3 ⟨rfl, hE3⟩)
  clear hbits2
  have AH3 : Aside (w3.cell? ⟨w.heap.size, 0, none⟩ = some vp ∧ Ext w w3 ∧ Num w3 v2 (1 % P)) := ⟨hE3.cell AH.out.1, AH.out.2.1.trans hE3, AH.out.2.2.ext hE3⟩
  clear AH hE3
  go_loopg [7, 8] L (fun g out i wr => g ≤ L ∧ i = .int .i64 ((g : Int) - 1) ∧ Num wr out (expR P X N L (L - g)) ∧ wr.cell? ⟨w.heap.size, 0, none⟩ = some vp ∧ Ext w wr)
  case atStart => exact ⟨Nat.le_refl _, rfl, by rw [Nat.sub_self]; exact AH3.out.2.2, AH3.out.1, AH3.out.2.1⟩
  case round =>
    clear AH3
    obtain ⟨hg, rfl, hv, hb, hE⟩ := hrel
    cases gk with
    | zero =>
      have hgz : ¬ (0 : Int) ≤ ((0 : Nat) : Int) - 1 := by omega
      have AV : Aside (Num wr u7 (expR P X N L (L - 0)) ∧ Ext w wr) := ⟨hv, hE⟩
      clear hv hE hbit hsq hmx
      go_wp2
      go_ret
      refine ⟨_, rfl, ?_, AV.out.2⟩
      have := AV.out.1
      rw [Nat.sub_zero, AL.out] at this
      exact this
    | succ k =>
      rw [show ((k + 1 : Nat) : Int) - 1 = (k : Int) by omega]
      obtain ⟨j, hj⟩ : ∃ j, j = L - (k + 1) := ⟨_, rfl⟩
      rw [← hj] at hv
      have hjk : L - 1 - j = k := by omega
      have hs1 := hsq wr u7 j hE hv
      obtain ⟨M, hM⟩ : ∃ M, M = expR P X N L j * expR P X N L j := ⟨_, rfl⟩
      rw [← hM] at hs1
      obtain ⟨bt, hbt⟩ : ∃ b, b = N / 2 ^ k % 2 := ⟨_, rfl⟩
      have hk1 : k < L := by omega
      have hbit1 : ∀ W, Ext w W → Calls Tryz.prog 24 #[vn, .int .i64 (k : Int)] W fun e w' => e = .returned (.int .u32 (bt : Int)) ∧ Ext W w' := fun W hW => by rw [hbt]; exact hbit W k hW hk1
      have AR : Aside (expR P X N L (j + 1) = if bt = 1 then (M % P) * X % P else M % P) := by
        show expR P X N L (j + 1) = _
        rw [expR, hjk, ← hbt, ← hM]
      have AJ : Aside (L - k = j + 1) := by show L - k = j + 1; omega
      clear hj hv hM hbt hjk hsq hbit
      by_cases hb1 : bt = 1
      · have hbz : ((bt : Int) == 1) = true := by simp; omega
        have AB : Aside (bt = 1) := hb1
        clear hb1
        go_wp2_with (first
          | (go_at_call 19; with_reducible refine hs1.mono ?_; rintro e w4 ⟨v4, rfl, hv4, hE4⟩; have hE4' := hE.trans hE4; have hb4 := hE4.cell hb; clear hs1)
          | (go_at_call 24; with_reducible refine (hbit1 _ hE4').mono ?_; rintro e w5 ⟨rfl, hE5⟩; have hE5' := hE4'.trans hE5; have hb5 := hE5.cell hb4; have hm5 := hmx _ _ M hE5' (hv4.ext hE5); clear hbit1)
          | (go_at_call 19; with_reducible refine hm5.mono ?_; rintro e w6 ⟨v6, rfl, hv6, hE6⟩))
        go_roundg k
        case measure => go_light; omega
        case rel =>
          go_light
          refine ⟨by omega, rfl, ?_, hE6.cell hb5, hE5'.trans hE6⟩
          rw [AJ.out, AR.out, if_pos AB.out]
          exact hv6
      · have hbz : ((bt : Int) == 1) = false := by simp; omega
        have AB : Aside (¬ bt = 1) := hb1
        clear hb1 hmx
        go_wp2_with (first
          | (go_at_call 19; with_reducible refine hs1.mono ?_; rintro e w4 ⟨v4, rfl, hv4, hE4⟩; have hE4' := hE.trans hE4; have hb4 := hE4.cell hb; clear hs1)
          | (go_at_call 24; with_reducible refine (hbit1 _ hE4').mono ?_; rintro e w5 ⟨rfl, hE5⟩; have hE5' := hE4'.trans hE5; have hb5 := hE5.cell hb4; clear hbit1))
        go_roundg k
        case measure => go_light; omega
        case rel =>
          go_light
          refine ⟨by omega, rfl, ?_, hb5, hE5'⟩
          rw [AJ.out, AR.out, if_neg AB.out]
          exact hv4.ext hE5
end Go.Eng
namespace Go.Eng
open Go Go.RowKit Go.Proofs
set_option maxRecDepth 100000
def invN (P X : Nat) : Nat := expN P X (P - 2)
theorem big_of_nlen {P : Nat} (h : 2 ≤ nlen P) : bq ≤ P := by
  have := pow_le_of_lt_nlen (N := P) (l := 1) (by omega)
  rwa [Nat.pow_one] at this
set_option maxHeartbeats 3200000 in
theorem inv_walk {vp vx : Value} {X P : Nat} {w : World} (hp : Num w vp P) (hl2 : 2 ≤ nlen P) (hlp : nlen P ≤ 1000) (hx : Num w vx X) (hlx : nlen X ≤ 1000) :
    Calls Tryz.prog 25 #[.agg #[vp], vx] w fun e w' => ∃ v, e = .returned v ∧ Num w' v (invN P X) ∧ Ext w w' := by
  have hPb := big_of_nlen hl2
  have hbv : bq = 4294967296 := rfl
  have htwo : ∀ W, Ext w W → Calls Tryz.prog 18 #[.int .u64 2] W fun e w' => ∃ v, e = .returned v ∧ Num w' v 2 ∧ Ext W w' := fun W _ =>
    (of_walk 2 (by decide) W).mono fun e w' ⟨v, h1, h2, h3⟩ => ⟨v, h1, h2.num (by decide), h3⟩
  have hsub : ∀ W v, Ext w W → Num W v 2 → Calls Tryz.prog 51 #[vp, v] W fun e w' => ∃ vr, e = .returned vr ∧ Num w' vr (P - 2) ∧ Ext W w' := fun W v hW hv =>
    (sub_num (hp.ext hW) hv (by omega) (by omega)).mono fun e w' ⟨vr, h1, h2, h3⟩ => ⟨vr, h1, h2.num (nlen_mono (Nat.sub_le _ _)), h3⟩
  have hexp : ∀ W v, Ext w W → Num W v (P - 2) → Calls Tryz.prog 26 #[.agg #[vp], vx, v] W fun e w' => ∃ vr, e = .returned vr ∧ Num w' vr (invN P X) ∧ Ext W w' := fun W v hW hv =>
    exp_walk (hp.ext hW) hl2 hlp (hx.ext hW) hlx hv (by have := nlen_mono (Nat.sub_le P 2); omega) (by omega)
  have hE : ∀ o, Ext w (w.alloc o) := fun o => (Ext.refl w).alloc o
  have hb0 : (w.alloc (.cells #[vp] 25)).cell? ⟨w.heap.size, 0, none⟩ = some vp := by rw [cell_new]; rfl
  clear hp hx hlx hl2 hlp hPb hbv
  go_enter Tryz.func25, Tryz.ntmps25
  go_wp2_with fail
  go_region_held3 (fun W => W.cell? ⟨w.heap.size, 0, none⟩ = some vp ∧ Ext w W) (first | exact ⟨hb0, (hE _).drew⟩ | exact held (by assumption) (by assumption)) (first | (go_at_call 18; refine (htwo _ (by assumption : _ ∧ Ext w _).2).mono ?_; rintro e w1 ⟨v1, rfl, hv1, hE1⟩) | (go_at_call 51; refine (hsub _ _ (by assumption : _ ∧ Ext w _).2 hv1).mono ?_; rintro e w2 ⟨v2, rfl, hv2, hE2⟩) | (go_at_call 26; refine (hexp _ _ (by assumption : _ ∧ Ext w _).2 hv2).mono ?_; rintro e w3 ⟨v3, rfl, hv3, hE3⟩))
  rename w3.cell? _ = some vp ∧ Ext w w3 => hH
  go_wp2
  go_ret
  exact ⟨_, rfl, hv3, hH.2⟩
theorem down_num {vx : Value} {X n : Nat} {w : World} (hx : Num w vx X) (hlx : nlen X ≤ 1048576) (hn : n < 32) :
    Calls Tryz.prog 27 #[vx, .int .i64 (n : Int)] w fun e w' => ∃ v, e = .returned v ∧ Num w' v (X / 2 ^ n) ∧ Ext w w' := by
  obtain ⟨ax, bx, ox, cx, rfl, _, hax, hxc⟩ := hx
  refine (down_core ax bx ox _ cx n X w hlx hn hax hxc rfl).mono fun e w' ⟨a, g, c, h1, h2, h3, h4, h5⟩ => ⟨_, h1, ?_, h5⟩
  have hle := nlen_mono (Nat.div_le_self X (2 ^ n))
  refine ⟨a, g, 0, c, rfl, h2, fun h => (h3 (by omega)).1, fun j hj => ?_⟩
  rw [Nat.zero_add]
  exact (h3 (by omega)).2.1.cell (by omega)
def legN (P X : Nat) : Int := if expN P X (P / 2) = 0 then 0 else if expN P X (P / 2) = 1 then 1 else -1
set_option maxHeartbeats 3200000 in
theorem leg_walk {vp vx : Value} {X P : Nat} {w : World} (hp : Num w vp P) (hl2 : 2 ≤ nlen P) (hlp : nlen P ≤ 1000) (hx : Num w vx X) (hlx : nlen X ≤ 1000) :
    Calls Tryz.prog 12 #[.agg #[vp], vx] w fun e w' => e = .returned (.int .i64 (legN P X)) ∧ Ext w w' := by
  have hPb := big_of_nlen hl2
  have hbv : bq = 4294967296 := rfl
  have hdown : ∀ W, Ext w W → Calls Tryz.prog 27 #[vp, .int .i64 1] W fun e w' => ∃ vr, e = .returned vr ∧ Num w' vr (P / 2) ∧ Ext W w' := fun W hW =>
    down_num (n := 1) (hp.ext hW) (by omega) (by decide)
  obtain ⟨y, hy⟩ : ∃ y, y = expN P X (P / 2) := ⟨_, rfl⟩
  have hexp : ∀ W v, Ext w W → Num W v (P / 2) → Calls Tryz.prog 26 #[.agg #[vp], vx, v] W fun e w' => ∃ (vr : Value), e = .returned vr ∧ Num w' vr y ∧ Ext W w' := fun W v hW hv => by
    rw [hy]
    exact exp_walk (hp.ext hW) hl2 hlp (hx.ext hW) hlx hv (by have := nlen_mono (Nat.div_le_self P 2); omega) (by omega)
  have hyl : nlen y ≤ 1000 := by
    rw [hy]
    have h0 : 0 < P := by omega
    have := nlen_lt (expR_lt (X := X) (N := P / 2) (L := (P / 2).log2 + 1) h0 ((P / 2).log2 + 1))
    exact Nat.le_trans this hlp
  have hone : ∀ W, Calls Tryz.prog 18 #[.int .u64 1] W fun e w' => ∃ v, e = .returned v ∧ Num w' v 1 ∧ Ext W w' := fun W =>
    (of_walk 1 (by decide) W).mono fun e w' ⟨v, h1, h2, h3⟩ => ⟨v, h1, h2.num (by decide), h3⟩
  have hE : ∀ o, Ext w (w.alloc o) := fun o => (Ext.refl w).alloc o
  have hb0 : (w.alloc (.cells #[vp] 25)).cell? ⟨w.heap.size, 0, none⟩ = some vp := by rw [cell_new]; rfl
  have hleg : legN P X = if y = 0 then 0 else if y = 1 then 1 else -1 := by rw [hy]; rfl
  obtain ⟨rl, hrl⟩ : ∃ r, r = legN P X := ⟨_, rfl⟩
  rw [← hrl]
  have AR : Aside (rl = if y = 0 then 0 else if y = 1 then 1 else -1) := by show rl = _; rw [hrl, hleg]
  clear hp hx hlx hl2 hlp hPb hbv hy hleg hrl
  go_enter Tryz.func12, Tryz.ntmps12
  go_wp2_with fail
  go_region_held3 (fun W => W.cell? ⟨w.heap.size, 0, none⟩ = some vp ∧ Ext w W) (first | exact ⟨hb0, (hE _).drew⟩ | exact held (by assumption) (by assumption)) (first | (go_at_call 27; refine (hdown _ (by assumption : _ ∧ Ext w _).2).mono ?_; rintro e w1 ⟨v1, rfl, hv1, hE1⟩) | (go_at_call 26; refine (hexp _ _ (by assumption : _ ∧ Ext w _).2 hv1).mono ?_; rintro e w2 ⟨v2, rfl, hv2, hE2⟩))
  rename w2.cell? _ = some vp ∧ Ext w w2 => hH
  have hE0 := hH.2
  clear hH hE1 hE2 hv1 hdown hexp hb0 hE
  have hcmp : ∀ W v, Ext w2 W → Num W v 1 → Calls Tryz.prog 21 #[v2, v] W fun e w' => e = .returned (.int .i64 (cmpN y 1)) ∧ Ext W w' := fun W v hW hv => cmp_walk (hv2.ext hW) hv (by omega) (by decide)
  obtain ⟨cv, hcv⟩ : ∃ c, c = cmpN y 1 := ⟨_, rfl⟩
  rw [← hcv] at hcmp
  have hcv0 : cv = 0 ↔ y = 1 := by
    rw [hcv]; unfold cmpN; split
    · constructor
      · intro h; cases h
      · intro h; omega
    · split
      · constructor
        · intro _; assumption
        · intro _; rfl
      · constructor
        · intro h; cases h
        · intro h; contradiction
  obtain ⟨ay, by', oy, cy, rfl, _, _, _⟩ := hv2
  obtain ⟨ly, hl⟩ : ∃ l, l = nlen y := ⟨_, rfl⟩
  rw [← hl] at hcmp ⊢
  have h0 : ly = 0 ↔ y = 0 := by rw [hl]; exact nlen_eq_zero
  have hly : ly ≤ 1000 := by omega
  have AY : Aside ((ly = 0 ↔ y = 0) ∧ (cv = 0 ↔ y = 1)) := ⟨h0, hcv0⟩
  clear hl h0 hcv0 hcv hyl
  by_cases hz : ly = 0
  · have hzz : ((ly : Int) == 0) = true := by simp; omega
    have AZ : Aside (y = 0) := AY.out.1.1 hz
    clear hz hcmp hone
    go_wp2
    go_ret
    refine ⟨?_, hE0⟩
    rw [AR.out, if_pos AZ.out]
    rfl
  · have hzz : ((ly : Int) == 0) = false := by simp; omega
    have AZ : Aside (¬ y = 0) := fun h => hz (AY.out.1.2 h)
    clear hz
    by_cases hc : cv = 0
    · have hcz : (cv == 0) = true := by simp [hc]
      have AC : Aside (y = 1) := AY.out.2.1 hc
      clear hc
      go_wp2_with (first | (go_at_call 18; with_reducible refine (hone _).mono ?_; rintro e w3 ⟨v3, rfl, hv3, hE3⟩) | (go_at_call 21; with_reducible refine (hcmp _ _ hE3 hv3).mono ?_; rintro e w4 ⟨rfl, hE4⟩))
      go_ret
      refine ⟨?_, (hE0.trans hE3).trans hE4⟩
      rw [AR.out, if_neg AZ.out, if_pos AC.out]
      rfl
    · have hcz : (cv == 0) = false := by simp [hc]
      have AC : Aside (¬ y = 1) := fun h => hc (AY.out.2.2 h)
      clear hc
      go_wp2_with (first | (go_at_call 18; with_reducible refine (hone _).mono ?_; rintro e w3 ⟨v3, rfl, hv3, hE3⟩) | (go_at_call 21; with_reducible refine (hcmp _ _ hE3 hv3).mono ?_; rintro e w4 ⟨rfl, hE4⟩))
      go_ret
      refine ⟨?_, (hE0.trans hE3).trans hE4⟩
      rw [AR.out, if_neg AZ.out, if_neg AC.out]
      rfl
end Go.Eng
namespace Go.Eng
open Go Go.RowKit Go.Proofs
set_option maxRecDepth 100000
theorem Num.slice {w : World} {v : Value} {N : Nat} (h : Num w v N) : ∃ a l c, v = .slice a l c := by
  obtain ⟨a, b, o, c, h1, _⟩ := h
  exact ⟨a, _, c, h1⟩
theorem cell_al (W : World) (cs : Array Value) (t : TypeId) (o : Nat) {N : Nat} {v : Value} (hN : N = W.heap.size) (h : cs[o]? = some v) : (W.alloc (.cells cs t)).cell? ⟨N, o, none⟩ = some v := by
  subst hN
  rw [cell_new]; exact h
theorem frozen_al (W : World) (cs : Array Value) (t : TypeId) (o : Nat) {N : Nat} (hN : N = W.heap.size) : (W.alloc (.cells cs t)).frozen? ⟨N, o, none⟩ = false := by
  subst hN
  exact frozen_new _ _ _ _
theorem cell_far1 {W : World} {b o : Nat} {v : Value} {N p : Nat} (h : W.cell? ⟨b, o, none⟩ = some v) (hb : b ≠ N) (x : Value) : (W.setCell ⟨N, p, none⟩ x).cell? ⟨b, o, none⟩ = some v := by
  rw [World.cell?_setCell_other _ _ _ _ (fun e => hb (congrArg Addr.block e).symm)]; exact h
theorem cell_far2 {W : World} {b o : Nat} {v : Value} {N : Nat} (h : W.cell? ⟨b, o, none⟩ = some v) (hb : b ≠ N) (x y : Value) : ((W.setCell ⟨N, 0, none⟩ x).setCell ⟨N, 1, none⟩ y).cell? ⟨b, o, none⟩ = some v := cell_far1 (cell_far1 h hb x) hb y
theorem cell_far3 {W : World} {b o : Nat} {v : Value} {N : Nat} (h : W.cell? ⟨b, o, none⟩ = some v) (hb : b ≠ N) (x y z : Value) : (((W.setCell ⟨N, 0, none⟩ x).setCell ⟨N, 1, none⟩ y).setCell ⟨N, 2, none⟩ z).cell? ⟨b, o, none⟩ = some v := cell_far1 (cell_far2 h hb x y) hb z
theorem cell_off1 {W : World} {N o p : Nat} {v x : Value} (h : W.cell? ⟨N, o, none⟩ = some v) (ho : o ≠ p) : (W.setCell ⟨N, p, none⟩ x).cell? ⟨N, o, none⟩ = some v := by
  rw [World.cell?_setCell_other _ _ _ _ (fun e => ho (congrArg Addr.off e).symm)]; exact h
theorem cell_off2 {W : World} {N o p q : Nat} {v x y : Value} (h : W.cell? ⟨N, o, none⟩ = some v) (ho : o ≠ p) (hq : o ≠ q) : ((W.setCell ⟨N, p, none⟩ x).setCell ⟨N, q, none⟩ y).cell? ⟨N, o, none⟩ = some v := cell_off1 (cell_off1 h ho) hq
theorem Num.set {w : World} {v : Value} {N : Nat} {p : Addr} {x : Option Addr} {y z : Nat} (h : Num w v N) (hp : w.cell? p = some (.slice x y z)) (u : Value) : Num (w.setCell p u) v N := by
  obtain ⟨a, b, o, c, h1, h2, h3, h4⟩ := h
  refine ⟨a, b, o, c, h1, h2, h3, fun j hj => ?_⟩
  rw [World.cell?_setCell_other _ _ _ _ (fun e => by
    have h5 := h4 j hj
    rw [← e, hp] at h5
    cases h5)]
  exact h4 j hj
/-- What On answers. -/
def onN (P A D x y : Nat) : Bool := cmpN ((A * (x * x % P) % P + y * y % P) % P) ((1 + D * (x * x % P * (y * y % P) % P) % P) % P) == 0
/-- What Plus answers. -/
def PlusN (P A D x1 y1 x2 y2 : Nat) : Nat × Nat :=
  let d := D * (x1 * x2 % P * (y1 * y2 % P) % P) % P
  let x := (x1 * y2 % P + y1 * x2 % P) % P
  let y := (y1 * y2 % P + fnegN P (A * (x1 * x2 % P) % P)) % P
  (x * invN P ((1 + d) % P) % P, y * invN P ((1 + fnegN P d) % P) % P)
/-- What plus answers. -/
def plusN (P A D x1 y1 z1 x2 y2 z2 : Nat) : Nat × Nat × Nat :=
  let z := z1 * z2 % P
  let zz := z * z % P
  let x := x1 * x2 % P
  let y := y1 * y2 % P
  let d := D * (x * y % P) % P
  let less := (zz + fnegN P d) % P
  let more := (zz + d) % P
  let cr := (((x1 + y1) % P * ((x2 + y2) % P) % P + fnegN P x) % P + fnegN P y) % P
  (z * (less * cr % P) % P, z * (more * ((y + fnegN P (A * x % P)) % P) % P) % P, less * more % P)
theorem plus_core_keep {w W W' : World} {a0 a1 a2 a3 a4 a5 a6 a7 a8 a9 a10 : Addr} {v0 v1 v2 v3 v4 v5 v6 v7 v8 v9 v10 : Value} (h : W.cell? a0 = some v0 ∧ W.cell? a1 = some v1 ∧ W.cell? a2 = some v2 ∧ W.cell? a3 = some v3 ∧ W.cell? a4 = some v4 ∧ W.cell? a5 = some v5 ∧ W.cell? a6 = some v6 ∧ W.cell? a7 = some v7 ∧ W.cell? a8 = some v8 ∧ W.cell? a9 = some v9 ∧ W.cell? a10 = some v10 ∧ Ext w W) (e : Ext W W') : W'.cell? a0 = some v0 ∧ W'.cell? a1 = some v1 ∧ W'.cell? a2 = some v2 ∧ W'.cell? a3 = some v3 ∧ W'.cell? a4 = some v4 ∧ W'.cell? a5 = some v5 ∧ W'.cell? a6 = some v6 ∧ W'.cell? a7 = some v7 ∧ W'.cell? a8 = some v8 ∧ W'.cell? a9 = some v9 ∧ W'.cell? a10 = some v10 ∧ Ext w W' := ⟨e.cell h.1, e.cell h.2.1, e.cell h.2.2.1, e.cell h.2.2.2.1, e.cell h.2.2.2.2.1, e.cell h.2.2.2.2.2.1, e.cell h.2.2.2.2.2.2.1, e.cell h.2.2.2.2.2.2.2.1, e.cell h.2.2.2.2.2.2.2.2.1, e.cell h.2.2.2.2.2.2.2.2.2.1, e.cell h.2.2.2.2.2.2.2.2.2.2.1, (h.2.2.2.2.2.2.2.2.2.2.2).trans e⟩
theorem set_keepplus_core {w W : World} {v0 v1 v2 v3 v4 v5 v6 v7 v8 v9 v10 : Value} {u0 u1 u2 : Value} (h : W.cell? ⟨w.heap.size, 0, none⟩ = some v0 ∧ W.cell? ⟨w.heap.size, 1, none⟩ = some v1 ∧ W.cell? ⟨w.heap.size, 2, none⟩ = some v2 ∧ W.cell? ⟨w.heap.size, 3, none⟩ = some v3 ∧ W.cell? ⟨w.heap.size + 1, 0, none⟩ = some v4 ∧ W.cell? ⟨w.heap.size + 1, 1, none⟩ = some v5 ∧ W.cell? ⟨w.heap.size + 1, 2, none⟩ = some v6 ∧ W.cell? ⟨w.heap.size + 1 + 1, 0, none⟩ = some v7 ∧ W.cell? ⟨w.heap.size + 1 + 1, 1, none⟩ = some v8 ∧ W.cell? ⟨w.heap.size + 1 + 1, 2, none⟩ = some v9 ∧ W.cell? ⟨w.heap.size + 1 + 1 + 1 + 1, 0, none⟩ = some v10 ∧ Ext w W) : (((W.setCell ⟨w.heap.size + 1 + 1 + 1, 0, none⟩ u0).setCell ⟨w.heap.size + 1 + 1 + 1, 1, none⟩ u1).setCell ⟨w.heap.size + 1 + 1 + 1, 2, none⟩ u2).cell? ⟨w.heap.size, 0, none⟩ = some v0 ∧ (((W.setCell ⟨w.heap.size + 1 + 1 + 1, 0, none⟩ u0).setCell ⟨w.heap.size + 1 + 1 + 1, 1, none⟩ u1).setCell ⟨w.heap.size + 1 + 1 + 1, 2, none⟩ u2).cell? ⟨w.heap.size, 1, none⟩ = some v1 ∧ (((W.setCell ⟨w.heap.size + 1 + 1 + 1, 0, none⟩ u0).setCell ⟨w.heap.size + 1 + 1 + 1, 1, none⟩ u1).setCell ⟨w.heap.size + 1 + 1 + 1, 2, none⟩ u2).cell? ⟨w.heap.size, 2, none⟩ = some v2 ∧ (((W.setCell ⟨w.heap.size + 1 + 1 + 1, 0, none⟩ u0).setCell ⟨w.heap.size + 1 + 1 + 1, 1, none⟩ u1).setCell ⟨w.heap.size + 1 + 1 + 1, 2, none⟩ u2).cell? ⟨w.heap.size, 3, none⟩ = some v3 ∧ (((W.setCell ⟨w.heap.size + 1 + 1 + 1, 0, none⟩ u0).setCell ⟨w.heap.size + 1 + 1 + 1, 1, none⟩ u1).setCell ⟨w.heap.size + 1 + 1 + 1, 2, none⟩ u2).cell? ⟨w.heap.size + 1, 0, none⟩ = some v4 ∧ (((W.setCell ⟨w.heap.size + 1 + 1 + 1, 0, none⟩ u0).setCell ⟨w.heap.size + 1 + 1 + 1, 1, none⟩ u1).setCell ⟨w.heap.size + 1 + 1 + 1, 2, none⟩ u2).cell? ⟨w.heap.size + 1, 1, none⟩ = some v5 ∧ (((W.setCell ⟨w.heap.size + 1 + 1 + 1, 0, none⟩ u0).setCell ⟨w.heap.size + 1 + 1 + 1, 1, none⟩ u1).setCell ⟨w.heap.size + 1 + 1 + 1, 2, none⟩ u2).cell? ⟨w.heap.size + 1, 2, none⟩ = some v6 ∧ (((W.setCell ⟨w.heap.size + 1 + 1 + 1, 0, none⟩ u0).setCell ⟨w.heap.size + 1 + 1 + 1, 1, none⟩ u1).setCell ⟨w.heap.size + 1 + 1 + 1, 2, none⟩ u2).cell? ⟨w.heap.size + 1 + 1, 0, none⟩ = some v7 ∧ (((W.setCell ⟨w.heap.size + 1 + 1 + 1, 0, none⟩ u0).setCell ⟨w.heap.size + 1 + 1 + 1, 1, none⟩ u1).setCell ⟨w.heap.size + 1 + 1 + 1, 2, none⟩ u2).cell? ⟨w.heap.size + 1 + 1, 1, none⟩ = some v8 ∧ (((W.setCell ⟨w.heap.size + 1 + 1 + 1, 0, none⟩ u0).setCell ⟨w.heap.size + 1 + 1 + 1, 1, none⟩ u1).setCell ⟨w.heap.size + 1 + 1 + 1, 2, none⟩ u2).cell? ⟨w.heap.size + 1 + 1, 2, none⟩ = some v9 ∧ (((W.setCell ⟨w.heap.size + 1 + 1 + 1, 0, none⟩ u0).setCell ⟨w.heap.size + 1 + 1 + 1, 1, none⟩ u1).setCell ⟨w.heap.size + 1 + 1 + 1, 2, none⟩ u2).cell? ⟨w.heap.size + 1 + 1 + 1 + 1, 0, none⟩ = some v10 ∧ Ext w (((W.setCell ⟨w.heap.size + 1 + 1 + 1, 0, none⟩ u0).setCell ⟨w.heap.size + 1 + 1 + 1, 1, none⟩ u1).setCell ⟨w.heap.size + 1 + 1 + 1, 2, none⟩ u2) := ⟨cell_far3 h.1 (by omega) _ _ _, cell_far3 h.2.1 (by omega) _ _ _, cell_far3 h.2.2.1 (by omega) _ _ _, cell_far3 h.2.2.2.1 (by omega) _ _ _, cell_far3 h.2.2.2.2.1 (by omega) _ _ _, cell_far3 h.2.2.2.2.2.1 (by omega) _ _ _, cell_far3 h.2.2.2.2.2.2.1 (by omega) _ _ _, cell_far3 h.2.2.2.2.2.2.2.1 (by omega) _ _ _, cell_far3 h.2.2.2.2.2.2.2.2.1 (by omega) _ _ _, cell_far3 h.2.2.2.2.2.2.2.2.2.1 (by omega) _ _ _, cell_far3 h.2.2.2.2.2.2.2.2.2.2.1 (by omega) _ _ _, (World.Since.setCell (World.Since.setCell (World.Since.setCell h.2.2.2.2.2.2.2.2.2.2.2 (by show w.heap.size ≤ w.heap.size + 1 + 1 + 1; omega) _) (by show w.heap.size ≤ w.heap.size + 1 + 1 + 1; omega) _) (by show w.heap.size ≤ w.heap.size + 1 + 1 + 1; omega) _)⟩
set_option maxHeartbeats 12800000 in
theorem plus_core {aP aA aD aQ ax1 ay1 az1 ax2 ay2 az2 : Option Addr} {lP cP NP lA cA NA lD cD ND lQ cQ NQ lx1 cx1 Nx1 ly1 cy1 Ny1 lz1 cz1 Nz1 lx2 cx2 Nx2 ly2 cy2 Ny2 lz2 cz2 Nz2 : Nat} {w : World} (hP : Num w (.slice aP lP cP) NP) (hA : Num w (.slice aA lA cA) NA) (l_A : NA < NP) (hD : Num w (.slice aD lD cD) ND) (l_D : ND < NP) (hQ : Num w (.slice aQ lQ cQ) NQ) (l_Q : NQ < NP) (hx1 : Num w (.slice ax1 lx1 cx1) Nx1) (l_x1 : Nx1 < NP) (hy1 : Num w (.slice ay1 ly1 cy1) Ny1) (l_y1 : Ny1 < NP) (hz1 : Num w (.slice az1 lz1 cz1) Nz1) (l_z1 : Nz1 < NP) (hx2 : Num w (.slice ax2 lx2 cx2) Nx2) (l_x2 : Nx2 < NP) (hy2 : Num w (.slice ay2 ly2 cy2) Ny2) (l_y2 : Ny2 < NP) (hz2 : Num w (.slice az2 lz2 cz2) Nz2) (l_z2 : Nz2 < NP) (hl2 : 2 ≤ nlen NP) (hlp : nlen NP ≤ 1000) :
    Calls Tryz.prog 23 #[.agg #[.slice aP lP cP, .slice aA lA cA, .slice aD lD cD, .slice aQ lQ cQ], .agg #[.slice ax1 lx1 cx1, .slice ay1 ly1 cy1, .slice az1 lz1 cz1], .agg #[.slice ax2 lx2 cx2, .slice ay2 ly2 cy2, .slice az2 lz2 cz2]] w fun e w' => ∃ (a1 : Option Addr) (l1 c1 : Nat) (a2 : Option Addr) (l2 c2 : Nat) (a3 : Option Addr) (l3 c3 : Nat), e = .returned (.agg #[.slice a1 l1 c1, .slice a2 l2 c2, .slice a3 l3 c3]) ∧ Num w' (.slice a1 l1 c1) (plusN NP NA ND Nx1 Ny1 Nz1 Nx2 Ny2 Nz2).1 ∧ Num w' (.slice a2 l2 c2) (plusN NP NA ND Nx1 Ny1 Nz1 Nx2 Ny2 Nz2).2.1 ∧ Num w' (.slice a3 l3 c3) (plusN NP NA ND Nx1 Ny1 Nz1 Nx2 Ny2 Nz2).2.2 ∧ Ext w w' := by
  have hP1 : 1 < NP := by
    have h1 := big_of_nlen hl2
    have h2 : bq = 4294967296 := rfl
    omega
  have hmul : ∀ W a b X Y, Ext w W → Num W a X → X < NP → Num W b Y → Y < NP → Calls Tryz.prog 19 #[.agg #[.slice aP lP cP], a, b] W fun e w' => ∃ a l c, e = .returned (.slice a l c) ∧ Num w' (.slice a l c) (X * Y % NP) ∧ Ext W w' := fun W a b X Y hW ha hX hb hY =>
    (fmul_N (hP.ext hW) hl2 hlp ha (Nat.le_trans (nlen_lt hX) hlp) hb (Nat.le_trans (nlen_lt hY) hlp)).mono fun e w' ⟨v, h1, h2, h3⟩ => by
      obtain ⟨x1, x2, x3, rfl⟩ := h2.slice
      exact ⟨x1, x2, x3, h1, h2, h3⟩
  have hadd : ∀ W a b X Y, Ext w W → Num W a X → X < NP → Num W b Y → Y < NP → Calls Tryz.prog 20 #[.agg #[.slice aP lP cP], a, b] W fun e w' => ∃ a l c, e = .returned (.slice a l c) ∧ Num w' (.slice a l c) ((X + Y) % NP) ∧ Ext W w' := fun W a b X Y hW ha hX hb hY =>
    (fadd_N (hP.ext hW) hl2 hlp ha (Nat.le_trans (nlen_lt hX) hlp) hb (Nat.le_trans (nlen_lt hY) hlp)).mono fun e w' ⟨v, h1, h2, h3⟩ => by
      obtain ⟨x1, x2, x3, rfl⟩ := h2.slice
      exact ⟨x1, x2, x3, h1, h2, h3⟩
  have hsub : ∀ W a b X Y, Ext w W → Num W a X → X < NP → Num W b Y → Y < NP → Calls Tryz.prog 45 #[.agg #[.slice aP lP cP], a, b] W fun e w' => ∃ a l c, e = .returned (.slice a l c) ∧ Num w' (.slice a l c) ((X + fnegN NP Y) % NP) ∧ Ext W w' := fun W a b X Y hW ha hX hb hY =>
    (fsub_N (hP.ext hW) hl2 hlp ha (Nat.le_trans (nlen_lt hX) hlp) hb (Nat.le_of_lt hY)).mono fun e w' ⟨v, h1, h2, h3⟩ => by
      obtain ⟨x1, x2, x3, rfl⟩ := h2.slice
      exact ⟨x1, x2, x3, h1, h2, h3⟩
  have hinv : ∀ W a X, Ext w W → Num W a X → X < NP → Calls Tryz.prog 25 #[.agg #[.slice aP lP cP], a] W fun e w' => ∃ a l c, e = .returned (.slice a l c) ∧ Num w' (.slice a l c) (invN NP X) ∧ Ext W w' := fun W a X hW ha hX =>
    (inv_walk (hP.ext hW) hl2 hlp ha (Nat.le_trans (nlen_lt hX) hlp)).mono fun e w' ⟨v, h1, h2, h3⟩ => by
      obtain ⟨x1, x2, x3, rfl⟩ := h2.slice
      exact ⟨x1, x2, x3, h1, h2, h3⟩
  have hone : ∀ W, Calls Tryz.prog 18 #[.int .u64 1] W fun e w' => ∃ a l c, e = .returned (.slice a l c) ∧ Num w' (.slice a l c) 1 ∧ Ext W w' := fun W =>
    (of_walk 1 (by decide) W).mono fun e w' ⟨v, h1, h2, h3⟩ => by
      have h4 := h2.num (by decide)
      obtain ⟨x1, x2, x3, rfl⟩ := h4.slice
      exact ⟨x1, x2, x3, h1, h4, h3⟩
  have hcmp : ∀ W a b X Y, Num W a X → X < NP → Num W b Y → Y < NP → Calls Tryz.prog 21 #[a, b] W fun e w' => e = .returned (.int .i64 (cmpN X Y)) ∧ Ext W w' := fun W a b X Y ha hX hb hY =>
    cmp_walk ha hb (Nat.le_trans (Nat.le_trans (nlen_lt hX) hlp) (by decide)) (Nat.le_trans (Nat.le_trans (nlen_lt hY) hlp) (by decide))
  obtain ⟨B, hB⟩ : ∃ B, B = (((((w.alloc (.cells #[.slice aP lP cP, .slice aA lA cA, .slice aD lD cD, .slice aQ lQ cQ] 27)).alloc (.cells #[.slice ax1 lx1 cx1, .slice ay1 ly1 cy1, .slice az1 lz1 cz1] 56)).alloc (.cells #[.slice ax2 lx2 cx2, .slice ay2 ly2 cy2, .slice az2 lz2 cz2] 56)).alloc (.cells #[.slice none 0 0, .slice none 0 0, .slice none 0 0] 56)).alloc (.cells #[.slice aP lP cP] 25)) := ⟨_, rfl⟩
  have hEB : Ext w B := by rw [hB]; exact (((((Ext.refl _).alloc _).alloc _).alloc _).alloc _).alloc _
  have cB_0_0 : B.cell? ⟨w.heap.size, 0, none⟩ = some (Value.slice aP lP cP) := by rw [hB]; exact Ext.cell (((((Ext.refl _).alloc _).alloc _).alloc _).alloc _) (cell_al _ _ _ _ (by simp) rfl)
  have cB_0_1 : B.cell? ⟨w.heap.size, 1, none⟩ = some (Value.slice aA lA cA) := by rw [hB]; exact Ext.cell (((((Ext.refl _).alloc _).alloc _).alloc _).alloc _) (cell_al _ _ _ _ (by simp) rfl)
  have cB_0_2 : B.cell? ⟨w.heap.size, 2, none⟩ = some (Value.slice aD lD cD) := by rw [hB]; exact Ext.cell (((((Ext.refl _).alloc _).alloc _).alloc _).alloc _) (cell_al _ _ _ _ (by simp) rfl)
  have cB_0_3 : B.cell? ⟨w.heap.size, 3, none⟩ = some (Value.slice aQ lQ cQ) := by rw [hB]; exact Ext.cell (((((Ext.refl _).alloc _).alloc _).alloc _).alloc _) (cell_al _ _ _ _ (by simp) rfl)
  have cB_1_0 : B.cell? ⟨w.heap.size + 1, 0, none⟩ = some (Value.slice ax1 lx1 cx1) := by rw [hB]; exact Ext.cell ((((Ext.refl _).alloc _).alloc _).alloc _) (cell_al _ _ _ _ (by simp) rfl)
  have cB_1_1 : B.cell? ⟨w.heap.size + 1, 1, none⟩ = some (Value.slice ay1 ly1 cy1) := by rw [hB]; exact Ext.cell ((((Ext.refl _).alloc _).alloc _).alloc _) (cell_al _ _ _ _ (by simp) rfl)
  have cB_1_2 : B.cell? ⟨w.heap.size + 1, 2, none⟩ = some (Value.slice az1 lz1 cz1) := by rw [hB]; exact Ext.cell ((((Ext.refl _).alloc _).alloc _).alloc _) (cell_al _ _ _ _ (by simp) rfl)
  have cB_2_0 : B.cell? ⟨w.heap.size + 1 + 1, 0, none⟩ = some (Value.slice ax2 lx2 cx2) := by rw [hB]; exact Ext.cell (((Ext.refl _).alloc _).alloc _) (cell_al _ _ _ _ (by simp) rfl)
  have cB_2_1 : B.cell? ⟨w.heap.size + 1 + 1, 1, none⟩ = some (Value.slice ay2 ly2 cy2) := by rw [hB]; exact Ext.cell (((Ext.refl _).alloc _).alloc _) (cell_al _ _ _ _ (by simp) rfl)
  have cB_2_2 : B.cell? ⟨w.heap.size + 1 + 1, 2, none⟩ = some (Value.slice az2 lz2 cz2) := by rw [hB]; exact Ext.cell (((Ext.refl _).alloc _).alloc _) (cell_al _ _ _ _ (by simp) rfl)
  have cB_3_0 : B.cell? ⟨w.heap.size + 1 + 1 + 1, 0, none⟩ = some (Value.slice none 0 0) := by rw [hB]; exact Ext.cell ((Ext.refl _).alloc _) (cell_al _ _ _ _ (by simp) rfl)
  have cB_3_1 : B.cell? ⟨w.heap.size + 1 + 1 + 1, 1, none⟩ = some (Value.slice none 0 0) := by rw [hB]; exact Ext.cell ((Ext.refl _).alloc _) (cell_al _ _ _ _ (by simp) rfl)
  have cB_3_2 : B.cell? ⟨w.heap.size + 1 + 1 + 1, 2, none⟩ = some (Value.slice none 0 0) := by rw [hB]; exact Ext.cell ((Ext.refl _).alloc _) (cell_al _ _ _ _ (by simp) rfl)
  have cB_4_0 : B.cell? ⟨w.heap.size + 1 + 1 + 1 + 1, 0, none⟩ = some (Value.slice aP lP cP) := by rw [hB]; exact Ext.cell (Ext.refl _) (cell_al _ _ _ _ (by simp) rfl)
  have fB : ∀ o, B.frozen? ⟨w.heap.size + 1 + 1 + 1, o, none⟩ = false := fun o => by
    rw [hB]
    rw [Ext.frozenE ((Ext.refl _).alloc _) (by simp)]
    exact frozen_al _ _ _ _ (by simp)
  have hsB : w.heap.size + 1 + 1 + 1 < B.heap.size := by rw [hB]; simp
  have hS0 : B.cell? ⟨w.heap.size, 0, none⟩ = some (Value.slice aP lP cP) ∧ B.cell? ⟨w.heap.size, 1, none⟩ = some (Value.slice aA lA cA) ∧ B.cell? ⟨w.heap.size, 2, none⟩ = some (Value.slice aD lD cD) ∧ B.cell? ⟨w.heap.size, 3, none⟩ = some (Value.slice aQ lQ cQ) ∧ B.cell? ⟨w.heap.size + 1, 0, none⟩ = some (Value.slice ax1 lx1 cx1) ∧ B.cell? ⟨w.heap.size + 1, 1, none⟩ = some (Value.slice ay1 ly1 cy1) ∧ B.cell? ⟨w.heap.size + 1, 2, none⟩ = some (Value.slice az1 lz1 cz1) ∧ B.cell? ⟨w.heap.size + 1 + 1, 0, none⟩ = some (Value.slice ax2 lx2 cx2) ∧ B.cell? ⟨w.heap.size + 1 + 1, 1, none⟩ = some (Value.slice ay2 ly2 cy2) ∧ B.cell? ⟨w.heap.size + 1 + 1, 2, none⟩ = some (Value.slice az2 lz2 cz2) ∧ B.cell? ⟨w.heap.size + 1 + 1 + 1 + 1, 0, none⟩ = some (Value.slice aP lP cP) ∧ Ext w B := ⟨cB_0_0, cB_0_1, cB_0_2, cB_0_3, cB_1_0, cB_1_1, cB_1_2, cB_2_0, cB_2_1, cB_2_2, cB_4_0, hEB⟩
  clear cB_0_0 cB_0_1 cB_0_2 cB_0_3 cB_1_0 cB_1_1 cB_1_2 cB_2_0 cB_2_1 cB_2_2 cB_4_0
  go_enter Tryz.func23, Tryz.ntmps23
  go_upto_region 2 with fail
  rw [← hB]
  clear hB
  go_upto_region 3 with (first | (go_at_call 19; go_must ((with_reducible refine (hmul _ _ _ _ _ hEB (hz1.ext hEB) l_z1 (hz2.ext hEB) l_z2).mono ?_); rintro e w1 ⟨az, lz, cz, rfl, hz, hE1⟩; have l_z0 : Nz1 * Nz2 % NP < NP := Nat.mod_lt _ (Nat.lt_of_le_of_lt (Nat.zero_le 1) hP1); obtain ⟨Nz, q_z⟩ : ∃ N, N = Nz1 * Nz2 % NP := ⟨_, rfl⟩; rw [← q_z] at hz l_z0; have l_z := l_z0; have A_z : Aside (Nz = Nz1 * Nz2 % NP) := q_z; clear l_z0 q_z; have hS1 := plus_core_keep hS0 hE1; clear hS0)))
  go_upto_region 4 with (first | (go_at_call 19; go_must ((with_reducible refine (hmul _ _ _ _ _ (hEB.trans hE1) (hz.ext (Ext.refl _)) l_z (hz.ext (Ext.refl _)) l_z).mono ?_); rintro e w2 ⟨azz, lzz, czz, rfl, hzz, hE2⟩; have l_zz0 : Nz * Nz % NP < NP := Nat.mod_lt _ (Nat.lt_of_le_of_lt (Nat.zero_le 1) hP1); obtain ⟨Nzz, q_zz⟩ : ∃ N, N = Nz * Nz % NP := ⟨_, rfl⟩; rw [← q_zz] at hzz l_zz0; have l_zz := l_zz0; have A_zz : Aside (Nzz = Nz * Nz % NP) := q_zz; clear l_zz0 q_zz; have hS2 := plus_core_keep hS1 hE2; clear hS1)))
  go_region_held3 (fun W => W.cell? ⟨w.heap.size, 0, none⟩ = some (Value.slice aP lP cP) ∧ W.cell? ⟨w.heap.size, 1, none⟩ = some (Value.slice aA lA cA) ∧ W.cell? ⟨w.heap.size, 2, none⟩ = some (Value.slice aD lD cD) ∧ W.cell? ⟨w.heap.size, 3, none⟩ = some (Value.slice aQ lQ cQ) ∧ W.cell? ⟨w.heap.size + 1, 0, none⟩ = some (Value.slice ax1 lx1 cx1) ∧ W.cell? ⟨w.heap.size + 1, 1, none⟩ = some (Value.slice ay1 ly1 cy1) ∧ W.cell? ⟨w.heap.size + 1, 2, none⟩ = some (Value.slice az1 lz1 cz1) ∧ W.cell? ⟨w.heap.size + 1 + 1, 0, none⟩ = some (Value.slice ax2 lx2 cx2) ∧ W.cell? ⟨w.heap.size + 1 + 1, 1, none⟩ = some (Value.slice ay2 ly2 cy2) ∧ W.cell? ⟨w.heap.size + 1 + 1, 2, none⟩ = some (Value.slice az2 lz2 cz2) ∧ W.cell? ⟨w.heap.size + 1 + 1 + 1 + 1, 0, none⟩ = some (Value.slice aP lP cP) ∧ Ext w W) (first | exact plus_core_keep hS2 (Ext.refl _).drew | exact plus_core_keep (by assumption) (by assumption)) (first | (go_at_call 19; (with_reducible refine (hmul _ _ _ _ _ ((hEB.trans hE1).trans hE2).drew (hx1.ext ((hEB.trans hE1).trans hE2).drew) l_x1 (hx2.ext ((hEB.trans hE1).trans hE2).drew) l_x2).mono ?_); rintro e w3 ⟨ax, lx, cx, rfl, hx, hE3⟩; have l_x0 : Nx1 * Nx2 % NP < NP := Nat.mod_lt _ (Nat.lt_of_le_of_lt (Nat.zero_le 1) hP1); obtain ⟨Nx, q_x⟩ : ∃ N, N = Nx1 * Nx2 % NP := ⟨_, rfl⟩; rw [← q_x] at hx l_x0; have l_x := l_x0; have A_x : Aside (Nx = Nx1 * Nx2 % NP) := q_x; clear l_x0 q_x) | (go_at_call 19; (with_reducible refine (hmul _ _ _ _ _ (((hEB.trans hE1).trans hE2).drew.trans hE3) (hy1.ext (((hEB.trans hE1).trans hE2).drew.trans hE3)) l_y1 (hy2.ext (((hEB.trans hE1).trans hE2).drew.trans hE3)) l_y2).mono ?_); rintro e w4 ⟨ay, ly, cy, rfl, hy, hE4⟩; have l_y0 : Ny1 * Ny2 % NP < NP := Nat.mod_lt _ (Nat.lt_of_le_of_lt (Nat.zero_le 1) hP1); obtain ⟨Ny, q_y⟩ : ∃ N, N = Ny1 * Ny2 % NP := ⟨_, rfl⟩; rw [← q_y] at hy l_y0; have l_y := l_y0; have A_y : Aside (Ny = Ny1 * Ny2 % NP) := q_y; clear l_y0 q_y))
  have hS4 : w4.cell? ⟨w.heap.size, 0, none⟩ = some (Value.slice aP lP cP) ∧ w4.cell? ⟨w.heap.size, 1, none⟩ = some (Value.slice aA lA cA) ∧ w4.cell? ⟨w.heap.size, 2, none⟩ = some (Value.slice aD lD cD) ∧ w4.cell? ⟨w.heap.size, 3, none⟩ = some (Value.slice aQ lQ cQ) ∧ w4.cell? ⟨w.heap.size + 1, 0, none⟩ = some (Value.slice ax1 lx1 cx1) ∧ w4.cell? ⟨w.heap.size + 1, 1, none⟩ = some (Value.slice ay1 ly1 cy1) ∧ w4.cell? ⟨w.heap.size + 1, 2, none⟩ = some (Value.slice az1 lz1 cz1) ∧ w4.cell? ⟨w.heap.size + 1 + 1, 0, none⟩ = some (Value.slice ax2 lx2 cx2) ∧ w4.cell? ⟨w.heap.size + 1 + 1, 1, none⟩ = some (Value.slice ay2 ly2 cy2) ∧ w4.cell? ⟨w.heap.size + 1 + 1, 2, none⟩ = some (Value.slice az2 lz2 cz2) ∧ w4.cell? ⟨w.heap.size + 1 + 1 + 1 + 1, 0, none⟩ = some (Value.slice aP lP cP) ∧ Ext w w4 := by assumption
  clear hS2
  go_upto_region 5 with fail
  go_region_held3 (fun W => W.cell? ⟨w.heap.size, 0, none⟩ = some (Value.slice aP lP cP) ∧ W.cell? ⟨w.heap.size, 1, none⟩ = some (Value.slice aA lA cA) ∧ W.cell? ⟨w.heap.size, 2, none⟩ = some (Value.slice aD lD cD) ∧ W.cell? ⟨w.heap.size, 3, none⟩ = some (Value.slice aQ lQ cQ) ∧ W.cell? ⟨w.heap.size + 1, 0, none⟩ = some (Value.slice ax1 lx1 cx1) ∧ W.cell? ⟨w.heap.size + 1, 1, none⟩ = some (Value.slice ay1 ly1 cy1) ∧ W.cell? ⟨w.heap.size + 1, 2, none⟩ = some (Value.slice az1 lz1 cz1) ∧ W.cell? ⟨w.heap.size + 1 + 1, 0, none⟩ = some (Value.slice ax2 lx2 cx2) ∧ W.cell? ⟨w.heap.size + 1 + 1, 1, none⟩ = some (Value.slice ay2 ly2 cy2) ∧ W.cell? ⟨w.heap.size + 1 + 1, 2, none⟩ = some (Value.slice az2 lz2 cz2) ∧ W.cell? ⟨w.heap.size + 1 + 1 + 1 + 1, 0, none⟩ = some (Value.slice aP lP cP) ∧ Ext w W) (first | exact plus_core_keep hS4 (Ext.refl _).drew | exact plus_core_keep (by assumption) (by assumption)) (first | (go_at_call 19; (with_reducible refine (hmul _ _ _ _ _ ((((hEB.trans hE1).trans hE2).drew.trans hE3).trans hE4).drew (hx.ext ((Ext.refl _).trans hE4).drew) l_x (hy.ext (Ext.refl _).drew) l_y).mono ?_); rintro e w5 ⟨axy, lxy, cxy, rfl, hxy, hE5⟩; have l_xy0 : Nx * Ny % NP < NP := Nat.mod_lt _ (Nat.lt_of_le_of_lt (Nat.zero_le 1) hP1); obtain ⟨Nxy, q_xy⟩ : ∃ N, N = Nx * Ny % NP := ⟨_, rfl⟩; rw [← q_xy] at hxy l_xy0; have l_xy := l_xy0; have A_xy : Aside (Nxy = Nx * Ny % NP) := q_xy; clear l_xy0 q_xy) | (go_at_call 19; (with_reducible refine (hmul _ _ _ _ _ (((((hEB.trans hE1).trans hE2).drew.trans hE3).trans hE4).drew.trans hE5) (hD.ext (((((hEB.trans hE1).trans hE2).drew.trans hE3).trans hE4).drew.trans hE5)) l_D (hxy.ext (Ext.refl _)) l_xy).mono ?_); rintro e w6 ⟨ad, ld, cd, rfl, hd, hE6⟩; have l_d0 : ND * Nxy % NP < NP := Nat.mod_lt _ (Nat.lt_of_le_of_lt (Nat.zero_le 1) hP1); obtain ⟨Nd, q_d⟩ : ∃ N, N = ND * Nxy % NP := ⟨_, rfl⟩; rw [← q_d] at hd l_d0; have l_d := l_d0; have A_d : Aside (Nd = ND * Nxy % NP) := q_d; clear l_d0 q_d))
  have hS6 : w6.cell? ⟨w.heap.size, 0, none⟩ = some (Value.slice aP lP cP) ∧ w6.cell? ⟨w.heap.size, 1, none⟩ = some (Value.slice aA lA cA) ∧ w6.cell? ⟨w.heap.size, 2, none⟩ = some (Value.slice aD lD cD) ∧ w6.cell? ⟨w.heap.size, 3, none⟩ = some (Value.slice aQ lQ cQ) ∧ w6.cell? ⟨w.heap.size + 1, 0, none⟩ = some (Value.slice ax1 lx1 cx1) ∧ w6.cell? ⟨w.heap.size + 1, 1, none⟩ = some (Value.slice ay1 ly1 cy1) ∧ w6.cell? ⟨w.heap.size + 1, 2, none⟩ = some (Value.slice az1 lz1 cz1) ∧ w6.cell? ⟨w.heap.size + 1 + 1, 0, none⟩ = some (Value.slice ax2 lx2 cx2) ∧ w6.cell? ⟨w.heap.size + 1 + 1, 1, none⟩ = some (Value.slice ay2 ly2 cy2) ∧ w6.cell? ⟨w.heap.size + 1 + 1, 2, none⟩ = some (Value.slice az2 lz2 cz2) ∧ w6.cell? ⟨w.heap.size + 1 + 1 + 1 + 1, 0, none⟩ = some (Value.slice aP lP cP) ∧ Ext w w6 := by assumption
  clear hS4
  go_upto_region 6 with fail
  go_region_held3 (fun W => W.cell? ⟨w.heap.size, 0, none⟩ = some (Value.slice aP lP cP) ∧ W.cell? ⟨w.heap.size, 1, none⟩ = some (Value.slice aA lA cA) ∧ W.cell? ⟨w.heap.size, 2, none⟩ = some (Value.slice aD lD cD) ∧ W.cell? ⟨w.heap.size, 3, none⟩ = some (Value.slice aQ lQ cQ) ∧ W.cell? ⟨w.heap.size + 1, 0, none⟩ = some (Value.slice ax1 lx1 cx1) ∧ W.cell? ⟨w.heap.size + 1, 1, none⟩ = some (Value.slice ay1 ly1 cy1) ∧ W.cell? ⟨w.heap.size + 1, 2, none⟩ = some (Value.slice az1 lz1 cz1) ∧ W.cell? ⟨w.heap.size + 1 + 1, 0, none⟩ = some (Value.slice ax2 lx2 cx2) ∧ W.cell? ⟨w.heap.size + 1 + 1, 1, none⟩ = some (Value.slice ay2 ly2 cy2) ∧ W.cell? ⟨w.heap.size + 1 + 1, 2, none⟩ = some (Value.slice az2 lz2 cz2) ∧ W.cell? ⟨w.heap.size + 1 + 1 + 1 + 1, 0, none⟩ = some (Value.slice aP lP cP) ∧ Ext w W) (first | exact plus_core_keep hS6 (Ext.refl _).drew | exact plus_core_keep (by assumption) (by assumption)) (first | (go_at_call 45; (with_reducible refine (hsub _ _ _ _ _ ((((((hEB.trans hE1).trans hE2).drew.trans hE3).trans hE4).drew.trans hE5).trans hE6).drew (hzz.ext (((((Ext.refl _).drew.trans hE3).trans hE4).drew.trans hE5).trans hE6).drew) l_zz (hd.ext (Ext.refl _).drew) l_d).mono ?_); rintro e w7 ⟨aless, lless, cless, rfl, hless, hE7⟩; have l_less0 : (Nzz + fnegN NP Nd) % NP < NP := Nat.mod_lt _ (Nat.lt_of_le_of_lt (Nat.zero_le 1) hP1); obtain ⟨Nless, q_less⟩ : ∃ N, N = (Nzz + fnegN NP Nd) % NP := ⟨_, rfl⟩; rw [← q_less] at hless l_less0; have l_less := l_less0; have A_less : Aside (Nless = (Nzz + fnegN NP Nd) % NP) := q_less; clear l_less0 q_less) | (go_at_call 20; (with_reducible refine (hadd _ _ _ _ _ (((((((hEB.trans hE1).trans hE2).drew.trans hE3).trans hE4).drew.trans hE5).trans hE6).drew.trans hE7) (hzz.ext ((((((Ext.refl _).drew.trans hE3).trans hE4).drew.trans hE5).trans hE6).drew.trans hE7)) l_zz (hd.ext ((Ext.refl _).drew.trans hE7)) l_d).mono ?_); rintro e w8 ⟨amore, lmore, cmore, rfl, hmore, hE8⟩; have l_more0 : (Nzz + Nd) % NP < NP := Nat.mod_lt _ (Nat.lt_of_le_of_lt (Nat.zero_le 1) hP1); obtain ⟨Nmore, q_more⟩ : ∃ N, N = (Nzz + Nd) % NP := ⟨_, rfl⟩; rw [← q_more] at hmore l_more0; have l_more := l_more0; have A_more : Aside (Nmore = (Nzz + Nd) % NP) := q_more; clear l_more0 q_more))
  have hS8 : w8.cell? ⟨w.heap.size, 0, none⟩ = some (Value.slice aP lP cP) ∧ w8.cell? ⟨w.heap.size, 1, none⟩ = some (Value.slice aA lA cA) ∧ w8.cell? ⟨w.heap.size, 2, none⟩ = some (Value.slice aD lD cD) ∧ w8.cell? ⟨w.heap.size, 3, none⟩ = some (Value.slice aQ lQ cQ) ∧ w8.cell? ⟨w.heap.size + 1, 0, none⟩ = some (Value.slice ax1 lx1 cx1) ∧ w8.cell? ⟨w.heap.size + 1, 1, none⟩ = some (Value.slice ay1 ly1 cy1) ∧ w8.cell? ⟨w.heap.size + 1, 2, none⟩ = some (Value.slice az1 lz1 cz1) ∧ w8.cell? ⟨w.heap.size + 1 + 1, 0, none⟩ = some (Value.slice ax2 lx2 cx2) ∧ w8.cell? ⟨w.heap.size + 1 + 1, 1, none⟩ = some (Value.slice ay2 ly2 cy2) ∧ w8.cell? ⟨w.heap.size + 1 + 1, 2, none⟩ = some (Value.slice az2 lz2 cz2) ∧ w8.cell? ⟨w.heap.size + 1 + 1 + 1 + 1, 0, none⟩ = some (Value.slice aP lP cP) ∧ Ext w w8 := by assumption
  clear hS6
  go_upto_region 7 with fail
  go_region_held3 (fun W => W.cell? ⟨w.heap.size, 0, none⟩ = some (Value.slice aP lP cP) ∧ W.cell? ⟨w.heap.size, 1, none⟩ = some (Value.slice aA lA cA) ∧ W.cell? ⟨w.heap.size, 2, none⟩ = some (Value.slice aD lD cD) ∧ W.cell? ⟨w.heap.size, 3, none⟩ = some (Value.slice aQ lQ cQ) ∧ W.cell? ⟨w.heap.size + 1, 0, none⟩ = some (Value.slice ax1 lx1 cx1) ∧ W.cell? ⟨w.heap.size + 1, 1, none⟩ = some (Value.slice ay1 ly1 cy1) ∧ W.cell? ⟨w.heap.size + 1, 2, none⟩ = some (Value.slice az1 lz1 cz1) ∧ W.cell? ⟨w.heap.size + 1 + 1, 0, none⟩ = some (Value.slice ax2 lx2 cx2) ∧ W.cell? ⟨w.heap.size + 1 + 1, 1, none⟩ = some (Value.slice ay2 ly2 cy2) ∧ W.cell? ⟨w.heap.size + 1 + 1, 2, none⟩ = some (Value.slice az2 lz2 cz2) ∧ W.cell? ⟨w.heap.size + 1 + 1 + 1 + 1, 0, none⟩ = some (Value.slice aP lP cP) ∧ Ext w W) (first | exact plus_core_keep hS8 (Ext.refl _).drew | exact plus_core_keep (by assumption) (by assumption)) (first | (go_at_call 20; (with_reducible refine (hadd _ _ _ _ _ ((((((((hEB.trans hE1).trans hE2).drew.trans hE3).trans hE4).drew.trans hE5).trans hE6).drew.trans hE7).trans hE8).drew (hx1.ext ((((((((hEB.trans hE1).trans hE2).drew.trans hE3).trans hE4).drew.trans hE5).trans hE6).drew.trans hE7).trans hE8).drew) l_x1 (hy1.ext ((((((((hEB.trans hE1).trans hE2).drew.trans hE3).trans hE4).drew.trans hE5).trans hE6).drew.trans hE7).trans hE8).drew) l_y1).mono ?_); rintro e w9 ⟨as1, ls1, cs1, rfl, hs1, hE9⟩; have l_s10 : (Nx1 + Ny1) % NP < NP := Nat.mod_lt _ (Nat.lt_of_le_of_lt (Nat.zero_le 1) hP1); obtain ⟨Ns1, q_s1⟩ : ∃ N, N = (Nx1 + Ny1) % NP := ⟨_, rfl⟩; rw [← q_s1] at hs1 l_s10; have l_s1 := l_s10; have A_s1 : Aside (Ns1 = (Nx1 + Ny1) % NP) := q_s1; clear l_s10 q_s1) | (go_at_call 20; (with_reducible refine (hadd _ _ _ _ _ (((((((((hEB.trans hE1).trans hE2).drew.trans hE3).trans hE4).drew.trans hE5).trans hE6).drew.trans hE7).trans hE8).drew.trans hE9) (hx2.ext (((((((((hEB.trans hE1).trans hE2).drew.trans hE3).trans hE4).drew.trans hE5).trans hE6).drew.trans hE7).trans hE8).drew.trans hE9)) l_x2 (hy2.ext (((((((((hEB.trans hE1).trans hE2).drew.trans hE3).trans hE4).drew.trans hE5).trans hE6).drew.trans hE7).trans hE8).drew.trans hE9)) l_y2).mono ?_); rintro e w10 ⟨as2, ls2, cs2, rfl, hs2, hE10⟩; have l_s20 : (Nx2 + Ny2) % NP < NP := Nat.mod_lt _ (Nat.lt_of_le_of_lt (Nat.zero_le 1) hP1); obtain ⟨Ns2, q_s2⟩ : ∃ N, N = (Nx2 + Ny2) % NP := ⟨_, rfl⟩; rw [← q_s2] at hs2 l_s20; have l_s2 := l_s20; have A_s2 : Aside (Ns2 = (Nx2 + Ny2) % NP) := q_s2; clear l_s20 q_s2) | (go_at_call 19; (with_reducible refine (hmul _ _ _ _ _ ((((((((((hEB.trans hE1).trans hE2).drew.trans hE3).trans hE4).drew.trans hE5).trans hE6).drew.trans hE7).trans hE8).drew.trans hE9).trans hE10) (hs1.ext ((Ext.refl _).trans hE10)) l_s1 (hs2.ext (Ext.refl _)) l_s2).mono ?_); rintro e w11 ⟨am, lm, cm, rfl, hm, hE11⟩; have l_m0 : Ns1 * Ns2 % NP < NP := Nat.mod_lt _ (Nat.lt_of_le_of_lt (Nat.zero_le 1) hP1); obtain ⟨Nm, q_m⟩ : ∃ N, N = Ns1 * Ns2 % NP := ⟨_, rfl⟩; rw [← q_m] at hm l_m0; have l_m := l_m0; have A_m : Aside (Nm = Ns1 * Ns2 % NP) := q_m; clear l_m0 q_m) | (go_at_call 45; (with_reducible refine (hsub _ _ _ _ _ (((((((((((hEB.trans hE1).trans hE2).drew.trans hE3).trans hE4).drew.trans hE5).trans hE6).drew.trans hE7).trans hE8).drew.trans hE9).trans hE10).trans hE11) (hm.ext (Ext.refl _)) l_m (hx.ext (((((((((Ext.refl _).trans hE4).drew.trans hE5).trans hE6).drew.trans hE7).trans hE8).drew.trans hE9).trans hE10).trans hE11)) l_x).mono ?_); rintro e w12 ⟨ac1, lc1, cc1, rfl, hc1, hE12⟩; have l_c10 : (Nm + fnegN NP Nx) % NP < NP := Nat.mod_lt _ (Nat.lt_of_le_of_lt (Nat.zero_le 1) hP1); obtain ⟨Nc1, q_c1⟩ : ∃ N, N = (Nm + fnegN NP Nx) % NP := ⟨_, rfl⟩; rw [← q_c1] at hc1 l_c10; have l_c1 := l_c10; have A_c1 : Aside (Nc1 = (Nm + fnegN NP Nx) % NP) := q_c1; clear l_c10 q_c1) | (go_at_call 45; (with_reducible refine (hsub _ _ _ _ _ ((((((((((((hEB.trans hE1).trans hE2).drew.trans hE3).trans hE4).drew.trans hE5).trans hE6).drew.trans hE7).trans hE8).drew.trans hE9).trans hE10).trans hE11).trans hE12) (hc1.ext (Ext.refl _)) l_c1 (hy.ext (((((((((Ext.refl _).drew.trans hE5).trans hE6).drew.trans hE7).trans hE8).drew.trans hE9).trans hE10).trans hE11).trans hE12)) l_y).mono ?_); rintro e w13 ⟨acr, lcr, ccr, rfl, hcr, hE13⟩; have l_cr0 : (Nc1 + fnegN NP Ny) % NP < NP := Nat.mod_lt _ (Nat.lt_of_le_of_lt (Nat.zero_le 1) hP1); obtain ⟨Ncr, q_cr⟩ : ∃ N, N = (Nc1 + fnegN NP Ny) % NP := ⟨_, rfl⟩; rw [← q_cr] at hcr l_cr0; have l_cr := l_cr0; have A_cr : Aside (Ncr = (Nc1 + fnegN NP Ny) % NP) := q_cr; clear l_cr0 q_cr))
  have hS13 : w13.cell? ⟨w.heap.size, 0, none⟩ = some (Value.slice aP lP cP) ∧ w13.cell? ⟨w.heap.size, 1, none⟩ = some (Value.slice aA lA cA) ∧ w13.cell? ⟨w.heap.size, 2, none⟩ = some (Value.slice aD lD cD) ∧ w13.cell? ⟨w.heap.size, 3, none⟩ = some (Value.slice aQ lQ cQ) ∧ w13.cell? ⟨w.heap.size + 1, 0, none⟩ = some (Value.slice ax1 lx1 cx1) ∧ w13.cell? ⟨w.heap.size + 1, 1, none⟩ = some (Value.slice ay1 ly1 cy1) ∧ w13.cell? ⟨w.heap.size + 1, 2, none⟩ = some (Value.slice az1 lz1 cz1) ∧ w13.cell? ⟨w.heap.size + 1 + 1, 0, none⟩ = some (Value.slice ax2 lx2 cx2) ∧ w13.cell? ⟨w.heap.size + 1 + 1, 1, none⟩ = some (Value.slice ay2 ly2 cy2) ∧ w13.cell? ⟨w.heap.size + 1 + 1, 2, none⟩ = some (Value.slice az2 lz2 cz2) ∧ w13.cell? ⟨w.heap.size + 1 + 1 + 1 + 1, 0, none⟩ = some (Value.slice aP lP cP) ∧ Ext w w13 := by assumption
  clear hS8
  go_upto_region 8 with fail
  go_region_held3 (fun W => W.cell? ⟨w.heap.size, 0, none⟩ = some (Value.slice aP lP cP) ∧ W.cell? ⟨w.heap.size, 1, none⟩ = some (Value.slice aA lA cA) ∧ W.cell? ⟨w.heap.size, 2, none⟩ = some (Value.slice aD lD cD) ∧ W.cell? ⟨w.heap.size, 3, none⟩ = some (Value.slice aQ lQ cQ) ∧ W.cell? ⟨w.heap.size + 1, 0, none⟩ = some (Value.slice ax1 lx1 cx1) ∧ W.cell? ⟨w.heap.size + 1, 1, none⟩ = some (Value.slice ay1 ly1 cy1) ∧ W.cell? ⟨w.heap.size + 1, 2, none⟩ = some (Value.slice az1 lz1 cz1) ∧ W.cell? ⟨w.heap.size + 1 + 1, 0, none⟩ = some (Value.slice ax2 lx2 cx2) ∧ W.cell? ⟨w.heap.size + 1 + 1, 1, none⟩ = some (Value.slice ay2 ly2 cy2) ∧ W.cell? ⟨w.heap.size + 1 + 1, 2, none⟩ = some (Value.slice az2 lz2 cz2) ∧ W.cell? ⟨w.heap.size + 1 + 1 + 1 + 1, 0, none⟩ = some (Value.slice aP lP cP) ∧ Ext w W) (first | exact plus_core_keep hS13 (Ext.refl _).drew | exact plus_core_keep (by assumption) (by assumption) | exact set_keepplus_core (by assumption : w20.cell? ⟨w.heap.size, 0, none⟩ = some (Value.slice aP lP cP) ∧ w20.cell? ⟨w.heap.size, 1, none⟩ = some (Value.slice aA lA cA) ∧ w20.cell? ⟨w.heap.size, 2, none⟩ = some (Value.slice aD lD cD) ∧ w20.cell? ⟨w.heap.size, 3, none⟩ = some (Value.slice aQ lQ cQ) ∧ w20.cell? ⟨w.heap.size + 1, 0, none⟩ = some (Value.slice ax1 lx1 cx1) ∧ w20.cell? ⟨w.heap.size + 1, 1, none⟩ = some (Value.slice ay1 ly1 cy1) ∧ w20.cell? ⟨w.heap.size + 1, 2, none⟩ = some (Value.slice az1 lz1 cz1) ∧ w20.cell? ⟨w.heap.size + 1 + 1, 0, none⟩ = some (Value.slice ax2 lx2 cx2) ∧ w20.cell? ⟨w.heap.size + 1 + 1, 1, none⟩ = some (Value.slice ay2 ly2 cy2) ∧ w20.cell? ⟨w.heap.size + 1 + 1, 2, none⟩ = some (Value.slice az2 lz2 cz2) ∧ w20.cell? ⟨w.heap.size + 1 + 1 + 1 + 1, 0, none⟩ = some (Value.slice aP lP cP) ∧ Ext w w20)) (first | (go_at_call 19; (with_reducible refine (hmul _ _ _ _ _ (((((((((((((hEB.trans hE1).trans hE2).drew.trans hE3).trans hE4).drew.trans hE5).trans hE6).drew.trans hE7).trans hE8).drew.trans hE9).trans hE10).trans hE11).trans hE12).trans hE13).drew (hless.ext (((((((Ext.refl _).trans hE8).drew.trans hE9).trans hE10).trans hE11).trans hE12).trans hE13).drew) l_less (hcr.ext (Ext.refl _).drew) l_cr).mono ?_); rintro e w14 ⟨alc, llc, clc, rfl, hlc, hE14⟩; have l_lc0 : Nless * Ncr % NP < NP := Nat.mod_lt _ (Nat.lt_of_le_of_lt (Nat.zero_le 1) hP1); obtain ⟨Nlc, q_lc⟩ : ∃ N, N = Nless * Ncr % NP := ⟨_, rfl⟩; rw [← q_lc] at hlc l_lc0; have l_lc := l_lc0; have A_lc : Aside (Nlc = Nless * Ncr % NP) := q_lc; clear l_lc0 q_lc) | (go_at_call 19; (with_reducible refine (hmul _ _ _ _ _ ((((((((((((((hEB.trans hE1).trans hE2).drew.trans hE3).trans hE4).drew.trans hE5).trans hE6).drew.trans hE7).trans hE8).drew.trans hE9).trans hE10).trans hE11).trans hE12).trans hE13).drew.trans hE14) (hz.ext ((((((((((((((Ext.refl _).trans hE2).drew.trans hE3).trans hE4).drew.trans hE5).trans hE6).drew.trans hE7).trans hE8).drew.trans hE9).trans hE10).trans hE11).trans hE12).trans hE13).drew.trans hE14)) l_z (hlc.ext (Ext.refl _)) l_lc).mono ?_); rintro e w15 ⟨aX3, lX3, cX3, rfl, hX3, hE15⟩; have l_X30 : Nz * Nlc % NP < NP := Nat.mod_lt _ (Nat.lt_of_le_of_lt (Nat.zero_le 1) hP1); obtain ⟨NX3, q_X3⟩ : ∃ N, N = Nz * Nlc % NP := ⟨_, rfl⟩; rw [← q_X3] at hX3 l_X30; have l_X3 := l_X30; have A_X3 : Aside (NX3 = Nz * Nlc % NP) := q_X3; clear l_X30 q_X3) | (go_at_call 19; (with_reducible refine (hmul _ _ _ _ _ (((((((((((((((hEB.trans hE1).trans hE2).drew.trans hE3).trans hE4).drew.trans hE5).trans hE6).drew.trans hE7).trans hE8).drew.trans hE9).trans hE10).trans hE11).trans hE12).trans hE13).drew.trans hE14).trans hE15) (hA.ext (((((((((((((((hEB.trans hE1).trans hE2).drew.trans hE3).trans hE4).drew.trans hE5).trans hE6).drew.trans hE7).trans hE8).drew.trans hE9).trans hE10).trans hE11).trans hE12).trans hE13).drew.trans hE14).trans hE15)) l_A (hx.ext (((((((((((((Ext.refl _).trans hE4).drew.trans hE5).trans hE6).drew.trans hE7).trans hE8).drew.trans hE9).trans hE10).trans hE11).trans hE12).trans hE13).drew.trans hE14).trans hE15)) l_x).mono ?_); rintro e w16 ⟨aAx, lAx, cAx, rfl, hAx, hE16⟩; have l_Ax0 : NA * Nx % NP < NP := Nat.mod_lt _ (Nat.lt_of_le_of_lt (Nat.zero_le 1) hP1); obtain ⟨NAx, q_Ax⟩ : ∃ N, N = NA * Nx % NP := ⟨_, rfl⟩; rw [← q_Ax] at hAx l_Ax0; have l_Ax := l_Ax0; have A_Ax : Aside (NAx = NA * Nx % NP) := q_Ax; clear l_Ax0 q_Ax) | (go_at_call 45; (with_reducible refine (hsub _ _ _ _ _ ((((((((((((((((hEB.trans hE1).trans hE2).drew.trans hE3).trans hE4).drew.trans hE5).trans hE6).drew.trans hE7).trans hE8).drew.trans hE9).trans hE10).trans hE11).trans hE12).trans hE13).drew.trans hE14).trans hE15).trans hE16) (hy.ext (((((((((((((Ext.refl _).drew.trans hE5).trans hE6).drew.trans hE7).trans hE8).drew.trans hE9).trans hE10).trans hE11).trans hE12).trans hE13).drew.trans hE14).trans hE15).trans hE16)) l_y (hAx.ext (Ext.refl _)) l_Ax).mono ?_); rintro e w17 ⟨att, ltt, ctt, rfl, htt, hE17⟩; have l_tt0 : (Ny + fnegN NP NAx) % NP < NP := Nat.mod_lt _ (Nat.lt_of_le_of_lt (Nat.zero_le 1) hP1); obtain ⟨Ntt, q_tt⟩ : ∃ N, N = (Ny + fnegN NP NAx) % NP := ⟨_, rfl⟩; rw [← q_tt] at htt l_tt0; have l_tt := l_tt0; have A_tt : Aside (Ntt = (Ny + fnegN NP NAx) % NP) := q_tt; clear l_tt0 q_tt) | (go_at_call 19; (with_reducible refine (hmul _ _ _ _ _ (((((((((((((((((hEB.trans hE1).trans hE2).drew.trans hE3).trans hE4).drew.trans hE5).trans hE6).drew.trans hE7).trans hE8).drew.trans hE9).trans hE10).trans hE11).trans hE12).trans hE13).drew.trans hE14).trans hE15).trans hE16).trans hE17) (hmore.ext ((((((((((Ext.refl _).drew.trans hE9).trans hE10).trans hE11).trans hE12).trans hE13).drew.trans hE14).trans hE15).trans hE16).trans hE17)) l_more (htt.ext (Ext.refl _)) l_tt).mono ?_); rintro e w18 ⟨amt, lmt, cmt, rfl, hmt, hE18⟩; have l_mt0 : Nmore * Ntt % NP < NP := Nat.mod_lt _ (Nat.lt_of_le_of_lt (Nat.zero_le 1) hP1); obtain ⟨Nmt, q_mt⟩ : ∃ N, N = Nmore * Ntt % NP := ⟨_, rfl⟩; rw [← q_mt] at hmt l_mt0; have l_mt := l_mt0; have A_mt : Aside (Nmt = Nmore * Ntt % NP) := q_mt; clear l_mt0 q_mt) | (go_at_call 19; (with_reducible refine (hmul _ _ _ _ _ ((((((((((((((((((hEB.trans hE1).trans hE2).drew.trans hE3).trans hE4).drew.trans hE5).trans hE6).drew.trans hE7).trans hE8).drew.trans hE9).trans hE10).trans hE11).trans hE12).trans hE13).drew.trans hE14).trans hE15).trans hE16).trans hE17).trans hE18) (hz.ext ((((((((((((((((((Ext.refl _).trans hE2).drew.trans hE3).trans hE4).drew.trans hE5).trans hE6).drew.trans hE7).trans hE8).drew.trans hE9).trans hE10).trans hE11).trans hE12).trans hE13).drew.trans hE14).trans hE15).trans hE16).trans hE17).trans hE18)) l_z (hmt.ext (Ext.refl _)) l_mt).mono ?_); rintro e w19 ⟨aY3, lY3, cY3, rfl, hY3, hE19⟩; have l_Y30 : Nz * Nmt % NP < NP := Nat.mod_lt _ (Nat.lt_of_le_of_lt (Nat.zero_le 1) hP1); obtain ⟨NY3, q_Y3⟩ : ∃ N, N = Nz * Nmt % NP := ⟨_, rfl⟩; rw [← q_Y3] at hY3 l_Y30; have l_Y3 := l_Y30; have A_Y3 : Aside (NY3 = Nz * Nmt % NP) := q_Y3; clear l_Y30 q_Y3) | (go_at_call 19; (with_reducible refine (hmul _ _ _ _ _ (((((((((((((((((((hEB.trans hE1).trans hE2).drew.trans hE3).trans hE4).drew.trans hE5).trans hE6).drew.trans hE7).trans hE8).drew.trans hE9).trans hE10).trans hE11).trans hE12).trans hE13).drew.trans hE14).trans hE15).trans hE16).trans hE17).trans hE18).trans hE19) (hless.ext (((((((((((((Ext.refl _).trans hE8).drew.trans hE9).trans hE10).trans hE11).trans hE12).trans hE13).drew.trans hE14).trans hE15).trans hE16).trans hE17).trans hE18).trans hE19)) l_less (hmore.ext ((((((((((((Ext.refl _).drew.trans hE9).trans hE10).trans hE11).trans hE12).trans hE13).drew.trans hE14).trans hE15).trans hE16).trans hE17).trans hE18).trans hE19)) l_more).mono ?_); rintro e w20 ⟨aZ3, lZ3, cZ3, rfl, hZ3, hE20⟩; have l_Z30 : Nless * Nmore % NP < NP := Nat.mod_lt _ (Nat.lt_of_le_of_lt (Nat.zero_le 1) hP1); obtain ⟨NZ3, q_Z3⟩ : ∃ N, N = Nless * Nmore % NP := ⟨_, rfl⟩; rw [← q_Z3] at hZ3 l_Z30; have l_Z3 := l_Z30; have A_Z3 : Aside (NZ3 = Nless * Nmore % NP) := q_Z3; clear l_Z30 q_Z3; have hEz := (((((((((((((((((((((Ext.refl _).trans hE1).trans hE2).drew.trans hE3).trans hE4).drew.trans hE5).trans hE6).drew.trans hE7).trans hE8).drew.trans hE9).trans hE10).trans hE11).trans hE12).trans hE13).drew.trans hE14).trans hE15).trans hE16).trans hE17).trans hE18).trans hE19).trans hE20); have kz0 := hEz.cell cB_3_0; have kz1 := hEz.cell cB_3_1; have kz2 := hEz.cell cB_3_2; have fz : ∀ o, w20.frozen? ⟨w.heap.size + 1 + 1 + 1, o, none⟩ = false := fun o => (hEz.frozenE hsB).trans (fB o); have dz1 : ∀ u0, (w20.setCell ⟨w.heap.size + 1 + 1 + 1, 0, none⟩ u0).cell? ⟨w.heap.size + 1 + 1 + 1, 1, none⟩ = some (Value.slice none 0 0) := fun u0 => cell_off1 kz1 (by decide); have dz2 : ∀ u0 u1, ((w20.setCell ⟨w.heap.size + 1 + 1 + 1, 0, none⟩ u0).setCell ⟨w.heap.size + 1 + 1 + 1, 1, none⟩ u1).cell? ⟨w.heap.size + 1 + 1 + 1, 2, none⟩ = some (Value.slice none 0 0) := fun u0 u1 => cell_off2 kz2 (by decide) (by decide); clear hEz))
  have e0 : w20.cell? ⟨w.heap.size + 1 + 1 + 1, 0, none⟩ = some (Value.slice none 0 0) := ((((((((((((((((((((((Ext.refl _).trans hE1).trans hE2).drew.trans hE3).trans hE4).drew.trans hE5).trans hE6).drew.trans hE7).trans hE8).drew.trans hE9).trans hE10).trans hE11).trans hE12).trans hE13).drew.trans hE14).trans hE15).trans hE16).trans hE17).trans hE18).trans hE19).trans hE20)).cell cB_3_0
  have e1 : (w20.setCell ⟨w.heap.size + 1 + 1 + 1, 0, none⟩ (.slice aX3 lX3 cX3)).cell? ⟨w.heap.size + 1 + 1 + 1, 1, none⟩ = some (Value.slice none 0 0) := cell_off1 (((((((((((((((((((((((Ext.refl _).trans hE1).trans hE2).drew.trans hE3).trans hE4).drew.trans hE5).trans hE6).drew.trans hE7).trans hE8).drew.trans hE9).trans hE10).trans hE11).trans hE12).trans hE13).drew.trans hE14).trans hE15).trans hE16).trans hE17).trans hE18).trans hE19).trans hE20)).cell cB_3_1) (by decide)
  have e2 : ((w20.setCell ⟨w.heap.size + 1 + 1 + 1, 0, none⟩ (.slice aX3 lX3 cX3)).setCell ⟨w.heap.size + 1 + 1 + 1, 1, none⟩ (.slice aY3 lY3 cY3)).cell? ⟨w.heap.size + 1 + 1 + 1, 2, none⟩ = some (Value.slice none 0 0) := cell_off2 (((((((((((((((((((((((Ext.refl _).trans hE1).trans hE2).drew.trans hE3).trans hE4).drew.trans hE5).trans hE6).drew.trans hE7).trans hE8).drew.trans hE9).trans hE10).trans hE11).trans hE12).trans hE13).drew.trans hE14).trans hE15).trans hE16).trans hE17).trans hE18).trans hE19).trans hE20)).cell cB_3_2) (by decide) (by decide)
  have nX3 : Num (((w20.setCell ⟨w.heap.size + 1 + 1 + 1, 0, none⟩ (.slice aX3 lX3 cX3)).setCell ⟨w.heap.size + 1 + 1 + 1, 1, none⟩ (.slice aY3 lY3 cY3)).setCell ⟨w.heap.size + 1 + 1 + 1, 2, none⟩ (.slice aZ3 lZ3 cZ3)) (.slice aX3 lX3 cX3) NX3 := ((Num.set (hX3.ext ((((((Ext.refl _).trans hE16).trans hE17).trans hE18).trans hE19).trans hE20)) e0 _).set e1 _).set e2 _
  have nY3 : Num (((w20.setCell ⟨w.heap.size + 1 + 1 + 1, 0, none⟩ (.slice aX3 lX3 cX3)).setCell ⟨w.heap.size + 1 + 1 + 1, 1, none⟩ (.slice aY3 lY3 cY3)).setCell ⟨w.heap.size + 1 + 1 + 1, 2, none⟩ (.slice aZ3 lZ3 cZ3)) (.slice aY3 lY3 cY3) NY3 := ((Num.set (hY3.ext ((Ext.refl _).trans hE20)) e0 _).set e1 _).set e2 _
  have nZ3 : Num (((w20.setCell ⟨w.heap.size + 1 + 1 + 1, 0, none⟩ (.slice aX3 lX3 cX3)).setCell ⟨w.heap.size + 1 + 1 + 1, 1, none⟩ (.slice aY3 lY3 cY3)).setCell ⟨w.heap.size + 1 + 1 + 1, 2, none⟩ (.slice aZ3 lZ3 cZ3)) (.slice aZ3 lZ3 cZ3) NZ3 := ((Num.set (hZ3.ext (Ext.refl _)) e0 _).set e1 _).set e2 _
  have k0 : (((w20.setCell ⟨w.heap.size + 1 + 1 + 1, 0, none⟩ (.slice aX3 lX3 cX3)).setCell ⟨w.heap.size + 1 + 1 + 1, 1, none⟩ (.slice aY3 lY3 cY3)).setCell ⟨w.heap.size + 1 + 1 + 1, 2, none⟩ (.slice aZ3 lZ3 cZ3)).cell? ⟨w.heap.size + 1 + 1 + 1, 0, none⟩ = some (.slice aX3 lX3 cX3) := cell_off2 (World.cell?_setCell_same _ _ _ e0) (by decide) (by decide)
  have k1 : (((w20.setCell ⟨w.heap.size + 1 + 1 + 1, 0, none⟩ (.slice aX3 lX3 cX3)).setCell ⟨w.heap.size + 1 + 1 + 1, 1, none⟩ (.slice aY3 lY3 cY3)).setCell ⟨w.heap.size + 1 + 1 + 1, 2, none⟩ (.slice aZ3 lZ3 cZ3)).cell? ⟨w.heap.size + 1 + 1 + 1, 1, none⟩ = some (.slice aY3 lY3 cY3) := cell_off1 (World.cell?_setCell_same _ _ _ e1) (by decide)
  have k2 : (((w20.setCell ⟨w.heap.size + 1 + 1 + 1, 0, none⟩ (.slice aX3 lX3 cX3)).setCell ⟨w.heap.size + 1 + 1 + 1, 1, none⟩ (.slice aY3 lY3 cY3)).setCell ⟨w.heap.size + 1 + 1 + 1, 2, none⟩ (.slice aZ3 lZ3 cZ3)).cell? ⟨w.heap.size + 1 + 1 + 1, 2, none⟩ = some (.slice aZ3 lZ3 cZ3) := World.cell?_setCell_same _ _ _ e2
  have hEk : Ext w (((w20.setCell ⟨w.heap.size + 1 + 1 + 1, 0, none⟩ (.slice aX3 lX3 cX3)).setCell ⟨w.heap.size + 1 + 1 + 1, 1, none⟩ (.slice aY3 lY3 cY3)).setCell ⟨w.heap.size + 1 + 1 + 1, 2, none⟩ (.slice aZ3 lZ3 cZ3)) := World.Since.setCell (World.Since.setCell (World.Since.setCell (((((((((((((((((((((hEB.trans hE1).trans hE2).drew.trans hE3).trans hE4).drew.trans hE5).trans hE6).drew.trans hE7).trans hE8).drew.trans hE9).trans hE10).trans hE11).trans hE12).trans hE13).drew.trans hE14).trans hE15).trans hE16).trans hE17).trans hE18).trans hE19).trans hE20)) (by show w.heap.size ≤ w.heap.size + 1 + 1 + 1; omega) _) (by show w.heap.size ≤ w.heap.size + 1 + 1 + 1; omega) _) (by show w.heap.size ≤ w.heap.size + 1 + 1 + 1; omega) _
  have AQ : Aside (Num (((w20.setCell ⟨w.heap.size + 1 + 1 + 1, 0, none⟩ (.slice aX3 lX3 cX3)).setCell ⟨w.heap.size + 1 + 1 + 1, 1, none⟩ (.slice aY3 lY3 cY3)).setCell ⟨w.heap.size + 1 + 1 + 1, 2, none⟩ (.slice aZ3 lZ3 cZ3)) (.slice aX3 lX3 cX3) NX3 ∧ Num (((w20.setCell ⟨w.heap.size + 1 + 1 + 1, 0, none⟩ (.slice aX3 lX3 cX3)).setCell ⟨w.heap.size + 1 + 1 + 1, 1, none⟩ (.slice aY3 lY3 cY3)).setCell ⟨w.heap.size + 1 + 1 + 1, 2, none⟩ (.slice aZ3 lZ3 cZ3)) (.slice aY3 lY3 cY3) NY3 ∧ Num (((w20.setCell ⟨w.heap.size + 1 + 1 + 1, 0, none⟩ (.slice aX3 lX3 cX3)).setCell ⟨w.heap.size + 1 + 1 + 1, 1, none⟩ (.slice aY3 lY3 cY3)).setCell ⟨w.heap.size + 1 + 1 + 1, 2, none⟩ (.slice aZ3 lZ3 cZ3)) (.slice aZ3 lZ3 cZ3) NZ3 ∧ Ext w (((w20.setCell ⟨w.heap.size + 1 + 1 + 1, 0, none⟩ (.slice aX3 lX3 cX3)).setCell ⟨w.heap.size + 1 + 1 + 1, 1, none⟩ (.slice aY3 lY3 cY3)).setCell ⟨w.heap.size + 1 + 1 + 1, 2, none⟩ (.slice aZ3 lZ3 cZ3))) := ⟨nX3, nY3, nZ3, hEk⟩
  have AE : Aside (NX3 = (plusN NP NA ND Nx1 Ny1 Nz1 Nx2 Ny2 Nz2).1 ∧ NY3 = (plusN NP NA ND Nx1 Ny1 Nz1 Nx2 Ny2 Nz2).2.1 ∧ NZ3 = (plusN NP NA ND Nx1 Ny1 Nz1 Nx2 Ny2 Nz2).2.2) := by
    show NX3 = _ ∧ NY3 = _ ∧ NZ3 = _
    rw [A_X3.out, A_Y3.out, A_Z3.out, A_mt.out, A_lc.out, A_tt.out, A_Ax.out, A_cr.out, A_c1.out, A_m.out, A_s1.out, A_s2.out, A_less.out, A_more.out, A_d.out, A_xy.out, A_x.out, A_y.out, A_zz.out, A_z.out]
    exact ⟨rfl, rfl, rfl⟩
  generalize (((w20.setCell ⟨w.heap.size + 1 + 1 + 1, 0, none⟩ (.slice aX3 lX3 cX3)).setCell ⟨w.heap.size + 1 + 1 + 1, 1, none⟩ (.slice aY3 lY3 cY3)).setCell ⟨w.heap.size + 1 + 1 + 1, 2, none⟩ (.slice aZ3 lZ3 cZ3)) = W9 at AQ k0 k1 k2 ⊢
  go_wp2
  simp [bodyPost, results, Tryz.results23, go_sem, k0, k1, k2]
  obtain ⟨q1, q2, q3, q4⟩ := AQ.out
  obtain ⟨r1, r2, r3⟩ := AE.out
  rw [← r1, ← r2, ← r3]
  exact ⟨_, _, _, _, _, _, _, _, _, ⟨⟨rfl, rfl, rfl⟩, ⟨rfl, rfl, rfl⟩, rfl, rfl, rfl⟩, q1, q2, q3, q4⟩
end Go.Eng
