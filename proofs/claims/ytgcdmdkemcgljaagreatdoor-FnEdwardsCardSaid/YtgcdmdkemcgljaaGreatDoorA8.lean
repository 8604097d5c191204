/-
  Plain laws of digits to the base 2^32, and contracts of the reference package spec over natural numbers.
-/
import Derived.Test.YtgcdmdkemcgljaaGreatDoorA6
set_option linter.unusedVariables false
set_option linter.unusedSimpArgs false
namespace Go.Eng
open Go Go.RowKit Go.Proofs
set_option maxRecDepth 100000
/-- What Times reckons, round by round. -/
def timesR (P A D x y N L : Nat) : Nat → Nat × Nat × Nat
  | 0 => (0, 1, 1)
  | j + 1 =>
    let o := timesR P A D x y N L j
    let o2 := plusN P A D o.1 o.2.1 o.2.2 o.1 o.2.1 o.2.2
    if N / 2 ^ (L - 1 - j) % 2 = 1 then plusN P A D o2.1 o2.2.1 o2.2.2 x y 1 else o2
def timesN (P A D x y N : Nat) : Nat × Nat :=
  let o := timesR P A D x y N (N.log2 + 1) (N.log2 + 1)
  (o.1 * invN P o.2.2 % P, o.2.1 * invN P o.2.2 % P)
theorem plusN_lt {P A D x1 y1 z1 x2 y2 z2 : Nat} (hP : 0 < P) : (plusN P A D x1 y1 z1 x2 y2 z2).1 < P ∧ (plusN P A D x1 y1 z1 x2 y2 z2).2.1 < P ∧ (plusN P A D x1 y1 z1 x2 y2 z2).2.2 < P :=
  ⟨Nat.mod_lt _ hP, Nat.mod_lt _ hP, Nat.mod_lt _ hP⟩
theorem timesR_lt {P A D x y N L : Nat} (hP : 1 < P) : ∀ j, (timesR P A D x y N L j).1 < P ∧ (timesR P A D x y N L j).2.1 < P ∧ (timesR P A D x y N L j).2.2 < P
  | 0 => ⟨by show 0 < P; omega, hP, hP⟩
  | j + 1 => by
    rw [timesR]
    split <;> exact plusN_lt (by omega)
/-- Three cells with numbers. -/
def N3 (w : World) (b : Nat) (n : Nat × Nat × Nat) : Prop :=
  ∃ (a1 : Option Addr) (l1 c1 : Nat) (a2 : Option Addr) (l2 c2 : Nat) (a3 : Option Addr) (l3 c3 : Nat), w.cell? ⟨b, 0, none⟩ = some (.slice a1 l1 c1) ∧ w.cell? ⟨b, 1, none⟩ = some (.slice a2 l2 c2) ∧ w.cell? ⟨b, 2, none⟩ = some (.slice a3 l3 c3) ∧
    Num w (.slice a1 l1 c1) n.1 ∧ Num w (.slice a2 l2 c2) n.2.1 ∧ Num w (.slice a3 l3 c3) n.2.2
theorem of1_exact (w : World) : Calls Tryz.prog 18 #[.int .u64 1] w fun e w' => e = .returned (.slice (some ⟨w.heap.size, 0, none⟩) 1 2) ∧ w' = w.alloc (.cells #[.int .u32 1, .int .u32 0] 59) := by
  have hrow : ∀ j, j < 2 → (w.alloc (.cells #[.int .u32 1, .int .u32 0] 59)).cell? ⟨w.heap.size, 0 + j, none⟩ = some (.int .u32 ((dg 1 j : Nat) : Int)) := fun j hj => by
    rw [Nat.zero_add]
    match j, hj with
    | 0, _ => exact cell_al _ _ _ _ rfl rfl
    | 1, _ => exact cell_al _ _ _ _ rfl rfl
  have ht : tlen (dg 1) 2 = 1 := by decide
  go_enter Tryz.func18, Tryz.ntmps18
  go_wp2_with (go_at_call 47; refine (trim_walk _ w.heap.size 0 2 2 (dg 1) _ (by omega) (Nat.le_refl _) (fun _ => rfl) hrow).mono ?_; rintro e w' ⟨rfl, rfl⟩)
  go_ret
  exact ⟨rfl, rfl⟩
theorem keepA {W : World} {b0 b1 o0 o1 : Nat} {v0 v1 : Value} {o : Obj} (h : W.cell? ⟨b0, o0, none⟩ = some v0 ∧ W.cell? ⟨b1, o1, none⟩ = some v1) : (W.alloc o).cell? ⟨b0, o0, none⟩ = some v0 ∧ (W.alloc o).cell? ⟨b1, o1, none⟩ = some v1 :=
  ⟨Ext.cell ((Ext.refl W).alloc o) h.1, Ext.cell ((Ext.refl W).alloc o) h.2⟩
theorem keepB {W : World} {b o0 o1 N : Nat} {v0 v1 x y z : Value} (h : W.cell? ⟨b, o0, none⟩ = some v0 ∧ W.cell? ⟨b, o1, none⟩ = some v1) (hb : b ≠ N) :
    (((W.setCell ⟨N, 0, none⟩ x).setCell ⟨N, 1, none⟩ y).setCell ⟨N, 2, none⟩ z).cell? ⟨b, o0, none⟩ = some v0 ∧ (((W.setCell ⟨N, 0, none⟩ x).setCell ⟨N, 1, none⟩ y).setCell ⟨N, 2, none⟩ z).cell? ⟨b, o1, none⟩ = some v1 :=
  ⟨cell_far3 h.1 hb x y z, cell_far3 h.2 hb x y z⟩
theorem Ext.setC {B W : World} (h : Ext B W) {a : Addr} (ha : B.heap.size ≤ a.block) (v : Value) : Ext B (W.setCell a v) := World.Since.setCell h ha v
theorem keep2 {B W W' : World} {a0 a1 : Addr} {v0 v1 : Value} (h : W.cell? a0 = some v0 ∧ W.cell? a1 = some v1 ∧ Ext B W) (e : Ext W W') : W'.cell? a0 = some v0 ∧ W'.cell? a1 = some v1 ∧ Ext B W' := ⟨e.cell h.1, e.cell h.2.1, h.2.2.trans e⟩
theorem one_num {w : World} {b : Nat} (h0 : w.cell? ⟨b, 0, none⟩ = some (.int .u32 1)) (_h1 : w.cell? ⟨b, 1, none⟩ = some (.int .u32 0)) : Num w (.slice (some ⟨b, 0, none⟩) 1 2) 1 := by
  have hn : nlen 1 = 1 := by decide
  refine ⟨_, b, 0, 2, by rw [hn], by rw [hn]; decide, fun _ => rfl, fun j hj => ?_⟩
  rw [hn] at hj
  obtain rfl : j = 0 := by omega
  exact h0
theorem num_nil (w : World) : Num w (.slice none 0 0) 0 := Num.nil w
theorem fz_alloc {W : World} {N o : Nat} (hN : N < W.heap.size) (x : Obj) (h : W.frozen? ⟨N, o, none⟩ = false) : (W.alloc x).frozen? ⟨N, o, none⟩ = false := (Ext.frozenE ((Ext.refl W).alloc x) hN).trans h
theorem fz_drew {W : World} {a : Addr} (h : W.frozen? a = false) : W.drew.frozen? a = false := h
theorem lt_of_cell {w : World} {b o : Nat} {v : Value} (h : w.cell? ⟨b, o, none⟩ = some v) : b < w.heap.size := by
  by_cases hb : b < w.heap.size
  · exact hb
  · exfalso
    unfold World.cell? at h
    rw [show w.heap[b]? = none from Array.getElem?_eq_none (by omega)] at h
    simp at h
theorem N3.ext {w w' : World} {b : Nat} {n : Nat × Nat × Nat} (h : N3 w b n) (e : Ext w w') : N3 w' b n := by
  obtain ⟨a1, l1, c1, a2, l2, c2, a3, l3, c3, p1, p2, p3, n1, n2, n3⟩ := h
  exact ⟨a1, l1, c1, a2, l2, c2, a3, l3, c3, e.cell p1, e.cell p2, e.cell p3, n1.ext e, n2.ext e, n3.ext e⟩
theorem N3.lt {w : World} {b : Nat} {n : Nat × Nat × Nat} (h : N3 w b n) : b < w.heap.size := by
  obtain ⟨a1, l1, c1, a2, l2, c2, a3, l3, c3, p1, p2, p3, n1, n2, n3⟩ := h
  exact lt_of_cell p1
theorem Num.set3 {W : World} {b : Nat} {v : Value} {N : Nat} {m1 m2 m3 : Option Addr} {k1 j1 k2 j2 k3 j3 : Nat} (h : Num W v N) (h1 : W.cell? ⟨b, 0, none⟩ = some (.slice m1 k1 j1)) (h2 : W.cell? ⟨b, 1, none⟩ = some (.slice m2 k2 j2)) (h3 : W.cell? ⟨b, 2, none⟩ = some (.slice m3 k3 j3)) (x y z : Value) :
    Num (((W.setCell ⟨b, 0, none⟩ x).setCell ⟨b, 1, none⟩ y).setCell ⟨b, 2, none⟩ z) v N :=
  ((h.set h1 x).set (cell_off1 h2 (by decide)) y).set (cell_off2 h3 (by decide) (by decide)) z
theorem cell3 {W : World} {b : Nat} {v1 v2 v3 : Value} (h1 : W.cell? ⟨b, 0, none⟩ = some v1) (h2 : W.cell? ⟨b, 1, none⟩ = some v2) (h3 : W.cell? ⟨b, 2, none⟩ = some v3) (x y z : Value) :
    (((W.setCell ⟨b, 0, none⟩ x).setCell ⟨b, 1, none⟩ y).setCell ⟨b, 2, none⟩ z).cell? ⟨b, 0, none⟩ = some x ∧ (((W.setCell ⟨b, 0, none⟩ x).setCell ⟨b, 1, none⟩ y).setCell ⟨b, 2, none⟩ z).cell? ⟨b, 1, none⟩ = some y ∧ (((W.setCell ⟨b, 0, none⟩ x).setCell ⟨b, 1, none⟩ y).setCell ⟨b, 2, none⟩ z).cell? ⟨b, 2, none⟩ = some z :=
  ⟨cell_off2 (World.cell?_setCell_same _ _ _ h1) (by decide) (by decide), cell_off1 (World.cell?_setCell_same _ _ _ (cell_off1 h2 (by decide))) (by decide), World.cell?_setCell_same _ _ _ (cell_off2 h3 (by decide) (by decide))⟩
theorem N3.far {W : World} {b b' : Nat} {n n' : Nat × Nat × Nat} (h : N3 W b n) (h' : N3 W b' n') (hb : b ≠ b') (x y z : Value) : N3 (((W.setCell ⟨b', 0, none⟩ x).setCell ⟨b', 1, none⟩ y).setCell ⟨b', 2, none⟩ z) b n := by
  obtain ⟨a1, l1, c1, a2, l2, c2, a3, l3, c3, p1, p2, p3, n1, n2, n3⟩ := h
  obtain ⟨d1, e1, f1, d2, e2, f2, d3, e3, f3, q1, q2, q3, _⟩ := h'
  exact ⟨a1, l1, c1, a2, l2, c2, a3, l3, c3, cell_far3 p1 hb x y z, cell_far3 p2 hb x y z, cell_far3 p3 hb x y z, n1.set3 q1 q2 q3 x y z, n2.set3 q1 q2 q3 x y z, n3.set3 q1 q2 q3 x y z⟩
theorem N3.put {W : World} {b : Nat} {n n' : Nat × Nat × Nat} (h' : N3 W b n') {a1 : Option Addr} {l1 c1 : Nat} {a2 : Option Addr} {l2 c2 : Nat} {a3 : Option Addr} {l3 c3 : Nat} (h1 : Num W (.slice a1 l1 c1) n.1) (h2 : Num W (.slice a2 l2 c2) n.2.1) (h3 : Num W (.slice a3 l3 c3) n.2.2) :
    N3 (((W.setCell ⟨b, 0, none⟩ (.slice a1 l1 c1)).setCell ⟨b, 1, none⟩ (.slice a2 l2 c2)).setCell ⟨b, 2, none⟩ (.slice a3 l3 c3)) b n := by
  obtain ⟨d1, e1, f1, d2, e2, f2, d3, e3, f3, q1, q2, q3, _⟩ := h'
  obtain ⟨r1, r2, r3⟩ := cell3 q1 q2 q3 (.slice a1 l1 c1) (.slice a2 l2 c2) (.slice a3 l3 c3)
  exact ⟨a1, l1, c1, a2, l2, c2, a3, l3, c3, r1, r2, r3, h1.set3 q1 q2 q3 _ _ _, h2.set3 q1 q2 q3 _ _ _, h3.set3 q1 q2 q3 _ _ _⟩
theorem frozen_set3 {W : World} {b : Nat} (h : ∀ o, W.frozen? ⟨b, o, none⟩ = false) (b' : Nat) (x y z : Value) : ∀ o, (((W.setCell ⟨b', 0, none⟩ x).setCell ⟨b', 1, none⟩ y).setCell ⟨b', 2, none⟩ z).frozen? ⟨b, o, none⟩ = false := fun o => by
  simp only [World.frozen?_setCell]
  exact h o
theorem keepT {w W W' : World} {a0 a1 a2 : Addr} {v0 v1 v2 : Value} (h : W.cell? a0 = some v0 ∧ W.cell? a1 = some v1 ∧ W.cell? a2 = some v2 ∧ Ext w W) (e : Ext W W') : W'.cell? a0 = some v0 ∧ W'.cell? a1 = some v1 ∧ W'.cell? a2 = some v2 ∧ Ext w W' := ⟨e.cell h.1, e.cell h.2.1, e.cell h.2.2.1, h.2.2.2.trans e⟩
theorem keepT2 {w W : World} {b0 b1 b2 o0 o1 o2 N : Nat} {v0 v1 v2 x y : Value} (h : W.cell? ⟨b0, o0, none⟩ = some v0 ∧ W.cell? ⟨b1, o1, none⟩ = some v1 ∧ W.cell? ⟨b2, o2, none⟩ = some v2 ∧ Ext w W) (h0 : b0 ≠ N) (h1 : b1 ≠ N) (h2 : b2 ≠ N) (hN : w.heap.size ≤ N) :
    ((W.setCell ⟨N, 0, none⟩ x).setCell ⟨N, 1, none⟩ y).cell? ⟨b0, o0, none⟩ = some v0 ∧ ((W.setCell ⟨N, 0, none⟩ x).setCell ⟨N, 1, none⟩ y).cell? ⟨b1, o1, none⟩ = some v1 ∧ ((W.setCell ⟨N, 0, none⟩ x).setCell ⟨N, 1, none⟩ y).cell? ⟨b2, o2, none⟩ = some v2 ∧ Ext w ((W.setCell ⟨N, 0, none⟩ x).setCell ⟨N, 1, none⟩ y) :=
  ⟨cell_far2 h.1 h0 x y, cell_far2 h.2.1 h1 x y, cell_far2 h.2.2.1 h2 x y, (h.2.2.2.setC hN x).setC hN y⟩
theorem Ext.set3 {B W : World} (h : Ext B W) {b : Nat} (hb : B.heap.size ≤ b) (x y z : Value) : Ext B (((W.setCell ⟨b, 0, none⟩ x).setCell ⟨b, 1, none⟩ y).setCell ⟨b, 2, none⟩ z) := ((h.setC hb x).setC hb y).setC hb z
set_option maxHeartbeats 12800000 in
theorem times_core {aP aA aD aQ ax ay aK : Option Addr} {lP cP NP lA cA NA lD cD ND lQ cQ NQ lx cx Nx ly cy Ny lK cK NK : Nat} {w : World} (hP : Num w (.slice aP lP cP) NP) (hA : Num w (.slice aA lA cA) NA) (l_A : NA < NP) (hD : Num w (.slice aD lD cD) ND) (l_D : ND < NP) (hQ : Num w (.slice aQ lQ cQ) NQ) (l_Q : NQ < NP)
    (hx : Num w (.slice ax lx cx) Nx) (l_x : Nx < NP) (hy : Num w (.slice ay ly cy) Ny) (l_y : Ny < NP) (hK : Num w (.slice aK lK cK) NK) (l_K : nlen NK ≤ 1000) (hK0 : NK ≠ 0) (hl2 : 2 ≤ nlen NP) (hlp : nlen NP ≤ 1000) :
    Calls Tryz.prog 11 #[.agg #[.slice aP lP cP, .slice aA lA cA, .slice aD lD cD, .slice aQ lQ cQ], .agg #[.slice ax lx cx, .slice ay ly cy], .slice aK lK cK] w fun e w' => ∃ (a1 : Option Addr) (l1 c1 : Nat) (a2 : Option Addr) (l2 c2 : Nat), e = .returned (.agg #[.slice a1 l1 c1, .slice a2 l2 c2]) ∧ Num w' (.slice a1 l1 c1) (timesN NP NA ND Nx Ny NK).1 ∧ Num w' (.slice a2 l2 c2) (timesN NP NA ND Nx Ny NK).2 ∧ Ext w w' := by
  have hP1 : 1 < NP := by
    have h1 := big_of_nlen hl2
    have h2 : bq = 4294967296 := rfl
    omega
  obtain ⟨L, hL⟩ : ∃ L, L = NK.log2 + 1 := ⟨_, rfl⟩
  have hLb : L ≤ 1000000 := by
    have h1 : nlen NK = NK.log2 / 32 + 1 := by unfold nlen; rw [if_neg hK0]
    omega
  have hone : ∀ W, Calls Tryz.prog 18 #[.int .u64 1] W fun e w' => ∃ a l c, e = .returned (.slice a l c) ∧ Num w' (.slice a l c) 1 ∧ Ext W w' := fun W =>
    (of_walk 1 (by decide) W).mono fun e w' ⟨v, h1, h2, h3⟩ => by
      have h4 := h2.num (by decide)
      obtain ⟨x1, x2, x3, rfl⟩ := h4.slice
      exact ⟨x1, x2, x3, h1, h4, h3⟩
  obtain ⟨B, hB⟩ : ∃ B, B = ((w.alloc (.cells #[.slice aP lP cP, .slice aA lA cA, .slice aD lD cD, .slice aQ lQ cQ] 27)).alloc (.cells #[.slice ax lx cx, .slice ay ly cy] 29)).alloc (.cells #[.slice none 0 0, .slice none 0 0] 29) := ⟨_, rfl⟩
  have hEB : Ext w B := by rw [hB]; exact (((Ext.refl _).alloc _).alloc _).alloc _
  have c0 : B.cell? ⟨w.heap.size, 0, none⟩ = some (.slice aP lP cP) ∧ B.cell? ⟨w.heap.size, 1, none⟩ = some (.slice aA lA cA) ∧ B.cell? ⟨w.heap.size, 2, none⟩ = some (.slice aD lD cD) ∧ B.cell? ⟨w.heap.size, 3, none⟩ = some (.slice aQ lQ cQ) := by
    rw [hB]
    exact ⟨Ext.cell (((Ext.refl _).alloc _).alloc _) (cell_al _ _ _ _ rfl rfl), Ext.cell (((Ext.refl _).alloc _).alloc _) (cell_al _ _ _ _ rfl rfl), Ext.cell (((Ext.refl _).alloc _).alloc _) (cell_al _ _ _ _ rfl rfl), Ext.cell (((Ext.refl _).alloc _).alloc _) (cell_al _ _ _ _ rfl rfl)⟩
  have c1 : B.cell? ⟨w.heap.size + 1, 0, none⟩ = some (.slice ax lx cx) ∧ B.cell? ⟨w.heap.size + 1, 1, none⟩ = some (.slice ay ly cy) := by
    rw [hB]
    exact ⟨Ext.cell ((Ext.refl _).alloc _) (cell_al _ _ _ _ (by simp) rfl), Ext.cell ((Ext.refl _).alloc _) (cell_al _ _ _ _ (by simp) rfl)⟩
  have c2 : B.cell? ⟨w.heap.size + 1 + 1, 0, none⟩ = some (.slice none 0 0) ∧ B.cell? ⟨w.heap.size + 1 + 1, 1, none⟩ = some (.slice none 0 0) := by
    rw [hB]
    exact ⟨cell_al _ _ _ _ (by simp) rfl, cell_al _ _ _ _ (by simp) rfl⟩
  have f2 : ∀ o, B.frozen? ⟨w.heap.size + 1 + 1, o, none⟩ = false := fun o => by rw [hB]; exact frozen_al _ _ _ _ (by simp)
  have hsB : w.heap.size + 1 + 1 < B.heap.size := by rw [hB]; simp
  go_enter Tryz.func11, Tryz.ntmps11
  go_upto_region 1 with fail
  rw [← hB]
  clear hB
  go_cut [7, 8] from 11 to 56 (fun s7 s8 wx => ∃ b7 b8 : Nat, s7 = .pointer (some ⟨b7, 0, none⟩) ∧ s8 = .pointer (some ⟨b8, 0, none⟩) ∧ b7 ≠ b8 ∧ B.heap.size ≤ b7 ∧ B.heap.size ≤ b8 ∧ N3 wx b7 (0, 1, 1) ∧ N3 wx b8 (Nx, Ny, 1) ∧ (∀ o, wx.frozen? ⟨b7, o, none⟩ = false) ∧ Ext B wx)
  case first =>
    have hone := of1_exact
    have d0 : B.drew.cell? ⟨w.heap.size + 1, 0, none⟩ = some (Value.slice ax lx cx) := c1.1
    have d1 : B.drew.cell? ⟨w.heap.size + 1, 1, none⟩ = some (Value.slice ay ly cy) := c1.2
    have hne : B.drew.heap.size ≠ w.heap.size + 1 := by show B.heap.size ≠ _; omega
    go_region_held3 (fun W => W.cell? ⟨w.heap.size + 1, 0, none⟩ = some (Value.slice ax lx cx) ∧ W.cell? ⟨w.heap.size + 1, 1, none⟩ = some (Value.slice ay ly cy)) (exact ⟨Ext.cell (by repeat (first | exact Ext.refl B | refine Ext.alloc ?_ _ | refine Ext.drew ?_ | refine Ext.setC ?_ (by first | (simp; done) | (simp; omega) | omega) _)) c1.1, Ext.cell (by repeat (first | exact Ext.refl B | refine Ext.alloc ?_ _ | refine Ext.drew ?_ | refine Ext.setC ?_ (by first | (simp; done) | (simp; omega) | omega) _)) c1.2⟩) (first | (go_at_call 18; (with_reducible refine (hone _).mono ?_); rintro e w1 ⟨rfl, rfl⟩))
    all_goals (go_wp2_with fail; go_meet; refine ⟨_, _, rfl, rfl, by omega, by omega, by omega, ⟨_, _, _, _, _, _, _, _, _, (by (repeat (first | (refine cell_al _ _ _ _ ?_ rfl; simp; done) | refine Ext.cell ((Ext.refl _).alloc _) ?_ | refine Ext.cell ((Ext.refl _).drew) ?_))), (by (repeat (first | (refine cell_al _ _ _ _ ?_ rfl; simp; done) | refine Ext.cell ((Ext.refl _).alloc _) ?_ | refine Ext.cell ((Ext.refl _).drew) ?_))), (by (repeat (first | (refine cell_al _ _ _ _ ?_ rfl; simp; done) | refine Ext.cell ((Ext.refl _).alloc _) ?_ | refine Ext.cell ((Ext.refl _).drew) ?_))), num_nil _, (by (refine one_num ?_ ?_ <;> (repeat (first | (refine cell_al _ _ _ _ ?_ rfl; simp; done) | refine Ext.cell ((Ext.refl _).alloc _) ?_ | refine Ext.cell ((Ext.refl _).drew) ?_)))), (by (refine one_num ?_ ?_ <;> (repeat (first | (refine cell_al _ _ _ _ ?_ rfl; simp; done) | refine Ext.cell ((Ext.refl _).alloc _) ?_ | refine Ext.cell ((Ext.refl _).drew) ?_))))⟩, ⟨_, _, _, _, _, _, _, _, _, (by (repeat (first | (refine cell_al _ _ _ _ ?_ rfl; simp; done) | refine Ext.cell ((Ext.refl _).alloc _) ?_ | refine Ext.cell ((Ext.refl _).drew) ?_))), (by (repeat (first | (refine cell_al _ _ _ _ ?_ rfl; simp; done) | refine Ext.cell ((Ext.refl _).alloc _) ?_ | refine Ext.cell ((Ext.refl _).drew) ?_))), (by (repeat (first | (refine cell_al _ _ _ _ ?_ rfl; simp; done) | refine Ext.cell ((Ext.refl _).alloc _) ?_ | refine Ext.cell ((Ext.refl _).drew) ?_))), (hx.ext (hEB.trans (by (repeat (first | exact Ext.refl _ | refine Ext.alloc ?_ _ | refine Ext.drew ?_))))), (hy.ext (hEB.trans (by (repeat (first | exact Ext.refl _ | refine Ext.alloc ?_ _ | refine Ext.drew ?_))))), (by (refine one_num ?_ ?_ <;> (repeat (first | (refine cell_al _ _ _ _ ?_ rfl; simp; done) | refine Ext.cell ((Ext.refl _).alloc _) ?_ | refine Ext.cell ((Ext.refl _).drew) ?_))))⟩, ?_, (by (repeat (first | exact Ext.refl _ | refine Ext.alloc ?_ _ | refine Ext.drew ?_)))⟩; intro o; (repeat (first | (refine frozen_al _ _ _ _ ?_; simp; done) | (refine fz_alloc (N := _) ?_ _ ?_; focus (first | (simp; done) | (simp; omega) | (simp only [size_al]; omega))) | refine fz_drew ?_)))
  case rest =>
    obtain ⟨b7, b8, rfl, rfl, hne, hb7, hb8, h3, h38, hf7, hEw⟩ := hcut
    have hbits : ∀ W, Ext w W → Calls Tryz.prog 22 #[.slice aK lK cK] W fun e w' => e = .returned (.int .i64 (L : Int)) ∧ Ext W w' := fun W hW => by
      obtain ⟨an, bn, on, cn, hv, _, han, hnc⟩ := hK
      rw [hv, hL]
      exact bits_core an bn on _ cn NK W (by omega) rfl han (fun j hj => hW.cell (hnc j hj)) (nlen_pos hK0)
    have hbit : ∀ W i, Ext w W → i < L → Calls Tryz.prog 24 #[.slice aK lK cK, .int .i64 ((i : Nat) : Int)] W fun e w' => e = .returned (.int .u32 ((NK / 2 ^ i % 2 : Nat) : Int)) ∧ Ext W w' := fun W i hW hi => bit_walk (hK.ext hW) (by omega) (by omega)
    have hplus : ∀ W (a1 : Option Addr) (l1 c1 : Nat) (a2 : Option Addr) (l2 c2 : Nat) (a3 : Option Addr) (l3 c3 : Nat) (d1 : Option Addr) (m1 k1 : Nat) (d2 : Option Addr) (m2 k2 : Nat) (d3 : Option Addr) (m3 k3 : Nat) (n m : Nat × Nat × Nat), Ext w W → (n.1 < NP ∧ n.2.1 < NP ∧ n.2.2 < NP) → (m.1 < NP ∧ m.2.1 < NP ∧ m.2.2 < NP) →
        Num W (.slice a1 l1 c1) n.1 → Num W (.slice a2 l2 c2) n.2.1 → Num W (.slice a3 l3 c3) n.2.2 → Num W (.slice d1 m1 k1) m.1 → Num W (.slice d2 m2 k2) m.2.1 → Num W (.slice d3 m3 k3) m.2.2 →
        Calls Tryz.prog 23 #[.agg #[.slice aP lP cP, .slice aA lA cA, .slice aD lD cD, .slice aQ lQ cQ], .agg #[.slice a1 l1 c1, .slice a2 l2 c2, .slice a3 l3 c3], .agg #[.slice d1 m1 k1, .slice d2 m2 k2, .slice d3 m3 k3]] W fun e w' => ∃ (a1 : Option Addr) (l1 c1 : Nat) (a2 : Option Addr) (l2 c2 : Nat) (a3 : Option Addr) (l3 c3 : Nat), e = .returned (.agg #[.slice a1 l1 c1, .slice a2 l2 c2, .slice a3 l3 c3]) ∧ Num w' (.slice a1 l1 c1) (plusN NP NA ND n.1 n.2.1 n.2.2 m.1 m.2.1 m.2.2).1 ∧ Num w' (.slice a2 l2 c2) (plusN NP NA ND n.1 n.2.1 n.2.2 m.1 m.2.1 m.2.2).2.1 ∧ Num w' (.slice a3 l3 c3) (plusN NP NA ND n.1 n.2.1 n.2.2 m.1 m.2.1 m.2.2).2.2 ∧ Ext W w' :=
      fun W a1 l1 c1 a2 l2 c2 a3 l3 c3 d1 m1 k1 d2 m2 k2 d3 m3 k3 n m hW hn hm g1 g2 g3 g4 g5 g6 => plus_core (hP.ext hW) (hA.ext hW) l_A (hD.ext hW) l_D (hQ.ext hW) l_Q g1 hn.1 g2 hn.2.1 g3 hn.2.2 g4 hm.1 g5 hm.2.1 g6 hm.2.2 hl2 hlp
    have hinv : ∀ W v X, Ext w W → Num W v X → X < NP → Calls Tryz.prog 25 #[.agg #[.slice aP lP cP], v] W fun e w' => ∃ a l c, e = .returned (.slice a l c) ∧ Num w' (.slice a l c) (invN NP X) ∧ Ext W w' := fun W v X hW hv hX =>
      (inv_walk (hP.ext hW) hl2 hlp hv (Nat.le_trans (nlen_lt hX) hlp)).mono fun e w' ⟨v, h1, h2, h3⟩ => by
        obtain ⟨x1, x2, x3, rfl⟩ := h2.slice
        exact ⟨x1, x2, x3, h1, h2, h3⟩
    have hmul : ∀ W a b X Y, Ext w W → Num W a X → X < NP → Num W b Y → Y < NP → Calls Tryz.prog 19 #[.agg #[.slice aP lP cP], a, b] W fun e w' => ∃ a l c, e = .returned (.slice a l c) ∧ Num w' (.slice a l c) (X * Y % NP) ∧ Ext W w' := fun W a b X Y hW ha hX hb hY =>
      (fmul_N (hP.ext hW) hl2 hlp ha (Nat.le_trans (nlen_lt hX) hlp) hb (Nat.le_trans (nlen_lt hY) hlp)).mono fun e w' ⟨v, h1, h2, h3⟩ => by
        obtain ⟨x1, x2, x3, rfl⟩ := h2.slice
        exact ⟨x1, x2, x3, h1, h2, h3⟩
    have hinvl : ∀ X, invN NP X < NP := fun X => expR_lt (by omega) _
    have AL : Aside (L = NK.log2 + 1) := hL
    have c00 := c0.1
    have c01 := c0.2.1
    have c02 := c0.2.2.1
    have c03 := c0.2.2.2
    clear hone hP hA hD hQ hK hK0 hx hy l_K hl2 hlp hL c0 c1
    go_upto_region 2 with fail
    have hbits1 := hbits _ (hEB.trans hEw)
    have AW : Aside (N3 wc b7 (0, 1, 1) ∧ N3 wc b8 (Nx, Ny, 1) ∧ (∀ o, wc.frozen? ⟨b7, o, none⟩ = false)) := ⟨h3, h38, hf7⟩
    clear hbits h3 h38 hf7
    go_wp2_with (go_at_call 22; (with_reducible refine hbits1.mono ?_); rintro e w3 ⟨rfl, hE3⟩)
    clear hbits1
    obtain ⟨h3, h38, hf7⟩ := AW.out
    have AW3 : Aside (N3 w3 b7 (0, 1, 1) ∧ N3 w3 b8 (Nx, Ny, 1) ∧ (∀ o, w3.frozen? ⟨b7, o, none⟩ = false) ∧ Ext B w3) := ⟨h3.ext hE3, h38.ext hE3, fun o => (hE3.frozenE h3.lt).trans (hf7 o), hEw.trans hE3⟩
    clear AW h3 h38 hf7 hE3 hEw
    go_loopg [9] L (fun g i wr => g ≤ L ∧ i = .int .i64 ((g : Int) - 1) ∧ N3 wr b7 (timesR NP NA ND Nx Ny NK L (L - g)) ∧ N3 wr b8 (Nx, Ny, 1) ∧ (∀ o, wr.frozen? ⟨b7, o, none⟩ = false) ∧ Ext B wr)
    case atStart => exact ⟨Nat.le_refl _, rfl, by rw [Nat.sub_self]; exact AW3.out.1, AW3.out.2.1, AW3.out.2.2.1, AW3.out.2.2.2⟩
    case round =>
      clear AW3
      obtain ⟨hg, rfl, h3, h38, hf, hE⟩ := hrel
      cases gk with
      | zero =>
        have hgz : ¬ (0 : Int) ≤ ((0 : Nat) : Int) - 1 := by omega
        rw [Nat.sub_zero] at h3
        obtain ⟨o, ho⟩ : ∃ o, o = timesR NP NA ND Nx Ny NK L L := ⟨_, rfl⟩
        have hol : o.1 < NP ∧ o.2.1 < NP ∧ o.2.2 < NP := by rw [ho]; exact timesR_lt hP1 L
        rw [← ho] at h3
        obtain ⟨a1, l1, c1, a2, l2, c2', a3, l3, c3, q0, q1, q2, n1, n2, n3⟩ := h3
        have hi1 := hinv wr (.slice a3 l3 c3) o.2.2 (hEB.trans hE) n3 hol.2.2
        obtain ⟨I, hI⟩ : ∃ I, I = invN NP o.2.2 := ⟨_, rfl⟩
        have hIl : I < NP := by rw [hI]; exact hinvl _
        rw [← hI] at hi1
        have s0 := hE.cell c00
        have AT : Aside (timesN NP NA ND Nx Ny NK = (o.1 * I % NP, o.2.1 * I % NP)) := by
          show timesN NP NA ND Nx Ny NK = _
          rw [hI, ho, AL.out]
          rfl
        clear ho hI hplus hbit h38 hf hinv
        go_upto_region 9 with (go_at_call 25; (with_reducible refine hi1.mono ?_); rintro e w4 ⟨a4, l4, c4, rfl, g4, hE4⟩)
        have v0 := hE4.cell s0
        have v1 := hE4.cell q0
        have v2 := hE4.cell q1
        have hm1 := hmul w4.drew (.slice a1 l1 c1) (.slice a4 l4 c4) o.1 I ((hEB.trans hE).trans hE4).drew ((n1.ext hE4).drew) hol.1 g4.drew hIl
        have hm2 : ∀ w5, Ext w4.drew w5 → Calls Tryz.prog 19 #[.agg #[.slice aP lP cP], .slice a2 l2 c2', .slice a4 l4 c4] w5 fun e w' => ∃ a l c, e = .returned (.slice a l c) ∧ Num w' (.slice a l c) (o.2.1 * I % NP) ∧ Ext w5 w' := fun w5 h5 => hmul w5 (.slice a2 l2 c2') (.slice a4 l4 c4) o.2.1 I (((hEB.trans hE).trans hE4).drew.trans h5) (((n2.ext hE4).drew).ext h5) hol.2.1 (g4.drew.ext h5) hIl
        have hE0 : Ext B w4.drew := (hE.trans hE4).drew
        have AK : Aside (w4.cell? ⟨w.heap.size, 0, none⟩ = some (.slice aP lP cP) ∧ w4.cell? ⟨b7, 0, none⟩ = some (.slice a1 l1 c1) ∧ w4.cell? ⟨b7, 1, none⟩ = some (.slice a2 l2 c2') ∧ Ext w w4) := ⟨v0, v1, v2, (hEB.trans hE).trans hE4⟩
        clear hmul hi1 n1 n2 n3 g4 hE4 q0 q1 q2 s0 hE
        have c20 := c2.1
        have c21 := c2.2
        clear c2
        go_region_held3 (fun W => W.cell? ⟨w.heap.size, 0, none⟩ = some (Value.slice aP lP cP) ∧ W.cell? ⟨b7, 0, none⟩ = some (Value.slice a1 l1 c1) ∧ W.cell? ⟨b7, 1, none⟩ = some (Value.slice a2 l2 c2') ∧ Ext w W) (first | exact keepT AK.out (Ext.refl _).drew | exact keepT (by assumption) (by assumption) | exact keepT2 (by assumption : w6.cell? ⟨w.heap.size, 0, none⟩ = some (Value.slice aP lP cP) ∧ w6.cell? ⟨b7, 0, none⟩ = some (Value.slice a1 l1 c1) ∧ w6.cell? ⟨b7, 1, none⟩ = some (Value.slice a2 l2 c2') ∧ Ext w w6) (by omega) (by omega) (by omega) (by omega)) (first
          | (go_at_call 19; (with_reducible refine hm1.mono ?_); rintro e w5 ⟨a5, l5, c5, rfl, g5, hE5⟩)
          | (go_at_call 19; (with_reducible refine (hm2 w5 hE5).mono ?_); rintro e w6 ⟨a6, l6, c6, rfl, g6, hE6⟩; have hEz := (hE0.trans hE5).trans hE6; have kz0 := hEz.cell c20; have kz1 := hEz.cell c21; have fz : ∀ o, w6.frozen? ⟨w.heap.size + 1 + 1, o, none⟩ = false := fun o => (hEz.frozenE hsB).trans (f2 o); have dz1 : ∀ u0, (w6.setCell ⟨w.heap.size + 1 + 1, 0, none⟩ u0).cell? ⟨w.heap.size + 1 + 1, 1, none⟩ = some (Value.slice none 0 0) := fun u0 => cell_off1 kz1 (by decide); clear hEz))
        have hEz := (hE0.trans hE5).trans hE6
        have e0 := hEz.cell c20
        have e1 : (w6.setCell ⟨w.heap.size + 1 + 1, 0, none⟩ (.slice a5 l5 c5)).cell? ⟨w.heap.size + 1 + 1, 1, none⟩ = some (Value.slice none 0 0) := cell_off1 (hEz.cell c21) (by decide)
        have nX : Num ((w6.setCell ⟨w.heap.size + 1 + 1, 0, none⟩ (.slice a5 l5 c5)).setCell ⟨w.heap.size + 1 + 1, 1, none⟩ (.slice a6 l6 c6)) (.slice a5 l5 c5) (o.1 * I % NP) := ((g5.ext hE6).set e0 _).set e1 _
        have nY : Num ((w6.setCell ⟨w.heap.size + 1 + 1, 0, none⟩ (.slice a5 l5 c5)).setCell ⟨w.heap.size + 1 + 1, 1, none⟩ (.slice a6 l6 c6)) (.slice a6 l6 c6) (o.2.1 * I % NP) := (g6.set e0 _).set e1 _
        have k0 : ((w6.setCell ⟨w.heap.size + 1 + 1, 0, none⟩ (.slice a5 l5 c5)).setCell ⟨w.heap.size + 1 + 1, 1, none⟩ (.slice a6 l6 c6)).cell? ⟨w.heap.size + 1 + 1, 0, none⟩ = some (.slice a5 l5 c5) := cell_off1 (World.cell?_setCell_same _ _ _ e0) (by decide)
        have k1 : ((w6.setCell ⟨w.heap.size + 1 + 1, 0, none⟩ (.slice a5 l5 c5)).setCell ⟨w.heap.size + 1 + 1, 1, none⟩ (.slice a6 l6 c6)).cell? ⟨w.heap.size + 1 + 1, 1, none⟩ = some (.slice a6 l6 c6) := World.cell?_setCell_same _ _ _ e1
        have hEk : Ext w ((w6.setCell ⟨w.heap.size + 1 + 1, 0, none⟩ (.slice a5 l5 c5)).setCell ⟨w.heap.size + 1 + 1, 1, none⟩ (.slice a6 l6 c6)) := ((hEB.trans hEz).setC (by show w.heap.size ≤ w.heap.size + 1 + 1; omega) _).setC (by show w.heap.size ≤ w.heap.size + 1 + 1; omega) _
        generalize ((w6.setCell ⟨w.heap.size + 1 + 1, 0, none⟩ (.slice a5 l5 c5)).setCell ⟨w.heap.size + 1 + 1, 1, none⟩ (.slice a6 l6 c6)) = W9 at nX nY k0 k1 hEk ⊢
        have AQ : Aside (Num W9 (.slice a5 l5 c5) (o.1 * I % NP) ∧ Num W9 (.slice a6 l6 c6) (o.2.1 * I % NP) ∧ Ext w W9) := ⟨nX, nY, hEk⟩
        clear nX nY hEk
        go_wp2
        simp [bodyPost, results, Tryz.results11, go_sem, k0, k1]
        rw [AT.out]
        obtain ⟨q1, q2, q3⟩ := AQ.out
        exact ⟨_, _, _, _, _, _, ⟨⟨rfl, rfl, rfl⟩, rfl, rfl, rfl⟩, q1, q2, q3⟩
      | succ k =>
        rw [show ((k + 1 : Nat) : Int) - 1 = (k : Int) by omega]
        obtain ⟨j, hj⟩ : ∃ j, j = L - (k + 1) := ⟨_, rfl⟩
        rw [← hj] at h3
        have hjk : L - 1 - j = k := by omega
        obtain ⟨o, ho⟩ : ∃ o, o = timesR NP NA ND Nx Ny NK L j := ⟨_, rfl⟩
        have hol : o.1 < NP ∧ o.2.1 < NP ∧ o.2.2 < NP := by rw [ho]; exact timesR_lt hP1 j
        obtain ⟨o2, ho2⟩ : ∃ o2, o2 = plusN NP NA ND o.1 o.2.1 o.2.2 o.1 o.2.1 o.2.2 := ⟨_, rfl⟩
        have ho2l : o2.1 < NP ∧ o2.2.1 < NP ∧ o2.2.2 < NP := by rw [ho2]; exact plusN_lt (by omega)
        have hal : (Nx, Ny, 1).1 < NP ∧ (Nx, Ny, 1).2.1 < NP ∧ (Nx, Ny, 1).2.2 < NP := ⟨l_x, l_y, hP1⟩
        rw [← ho] at h3
        have h3' := h3
        have h38' := h38
        obtain ⟨a1, l1, c1, a2, l2, c2, a3, l3, c3, q0, q1, q2, n1, n2, n3⟩ := h3'
        obtain ⟨d1, m1, k1, d2, m2, k2, d3, m3, k3, r0, r1, r2, t1, t2, t3⟩ := h38'
        have hp1 := hplus wr a1 l1 c1 a2 l2 c2 a3 l3 c3 a1 l1 c1 a2 l2 c2 a3 l3 c3 o o (hEB.trans hE) hol hol n1 n2 n3 n1 n2 n3
        rw [← ho2] at hp1
        obtain ⟨bt, hbt⟩ : ∃ b, b = NK / 2 ^ k % 2 := ⟨_, rfl⟩
        have hk1 : k < L := by omega
        have hbit1 : ∀ W, Ext w W → Calls Tryz.prog 24 #[.slice aK lK cK, .int .i64 (k : Int)] W fun e w' => e = .returned (.int .u32 (bt : Int)) ∧ Ext W w' := fun W hW => by rw [hbt]; exact hbit W k hW hk1
        have AR : Aside (timesR NP NA ND Nx Ny NK L (j + 1) = if bt = 1 then plusN NP NA ND o2.1 o2.2.1 o2.2.2 Nx Ny 1 else o2) := by
          show timesR NP NA ND Nx Ny NK L (j + 1) = _
          rw [timesR, hjk, ← hbt, ← ho, ← ho2]
        have AJ : Aside (L - k = j + 1) := by show L - k = j + 1; omega
        have s0 := hE.cell c00
        have s1 := hE.cell c01
        have s2 := hE.cell c02
        have s3 := hE.cell c03
        have AN : Aside (N3 wr b7 o ∧ N3 wr b8 (Nx, Ny, 1)) := ⟨h3, h38⟩
        clear hj hbt hjk hbit ho ho2 h3 h38 n1 n2 n3 t1 t2 t3
        go_upto_region 6 with (go_at_call 23; (with_reducible refine (hp1).mono ?_); rintro e w4 ⟨a4, l4, c4, a5, l5, c5, a6, l6, c6, rfl, g1, g2, g3, hE4⟩; have u0 := hE4.cell q0; have u1 := hE4.cell q1; have u2 := hE4.cell q2; have fz : ∀ o, w4.frozen? ⟨b7, o, none⟩ = false := fun o => (hE4.frozenE (lt_of_cell q0)).trans (hf o); have dz1 : ∀ x, (w4.setCell ⟨b7, 0, none⟩ x).cell? ⟨b7, 1, none⟩ = some (Value.slice a2 l2 c2) := fun x => cell_off1 u1 (by decide); have dz2 : ∀ x y, ((w4.setCell ⟨b7, 0, none⟩ x).setCell ⟨b7, 1, none⟩ y).cell? ⟨b7, 2, none⟩ = some (Value.slice a3 l3 c3) := fun x y => cell_off2 u2 (by decide) (by decide))
        have z3 : N3 (((w4.setCell ⟨b7, 0, none⟩ (.slice a4 l4 c4)).setCell ⟨b7, 1, none⟩ (.slice a5 l5 c5)).setCell ⟨b7, 2, none⟩ (.slice a6 l6 c6)) b7 o2 := N3.put (AN.out.1.ext hE4) g1 g2 g3
        have z38 : N3 (((w4.setCell ⟨b7, 0, none⟩ (.slice a4 l4 c4)).setCell ⟨b7, 1, none⟩ (.slice a5 l5 c5)).setCell ⟨b7, 2, none⟩ (.slice a6 l6 c6)) b8 (Nx, Ny, 1) := N3.far (AN.out.2.ext hE4) (AN.out.1.ext hE4) (Ne.symm hne) _ _ _
        have zf := frozen_set3 fz b7 (.slice a4 l4 c4) (.slice a5 l5 c5) (.slice a6 l6 c6)
        have zE : Ext B (((w4.setCell ⟨b7, 0, none⟩ (.slice a4 l4 c4)).setCell ⟨b7, 1, none⟩ (.slice a5 l5 c5)).setCell ⟨b7, 2, none⟩ (.slice a6 l6 c6)) := (hE.trans hE4).set3 hb7 _ _ _
        have AX : Aside (N3 (((w4.setCell ⟨b7, 0, none⟩ (.slice a4 l4 c4)).setCell ⟨b7, 1, none⟩ (.slice a5 l5 c5)).setCell ⟨b7, 2, none⟩ (.slice a6 l6 c6)) b7 o2 ∧ N3 (((w4.setCell ⟨b7, 0, none⟩ (.slice a4 l4 c4)).setCell ⟨b7, 1, none⟩ (.slice a5 l5 c5)).setCell ⟨b7, 2, none⟩ (.slice a6 l6 c6)) b8 (Nx, Ny, 1) ∧ (∀ o, (((w4.setCell ⟨b7, 0, none⟩ (.slice a4 l4 c4)).setCell ⟨b7, 1, none⟩ (.slice a5 l5 c5)).setCell ⟨b7, 2, none⟩ (.slice a6 l6 c6)).frozen? ⟨b7, o, none⟩ = false) ∧ Ext B (((w4.setCell ⟨b7, 0, none⟩ (.slice a4 l4 c4)).setCell ⟨b7, 1, none⟩ (.slice a5 l5 c5)).setCell ⟨b7, 2, none⟩ (.slice a6 l6 c6))) := ⟨z3, z38, zf, zE⟩
        clear z3 z38 zf zE AN g1 g2 g3 fz dz1 dz2 u0 u1 u2 q0 q1 q2 r0 r1 r2 hE hf hp1 s0 s1 s2 s3 hol hE4
        generalize (((w4.setCell ⟨b7, 0, none⟩ (.slice a4 l4 c4)).setCell ⟨b7, 1, none⟩ (.slice a5 l5 c5)).setCell ⟨b7, 2, none⟩ (.slice a6 l6 c6)) = W5 at AX ⊢
        have hb5 := hbit1 W5 (hEB.trans AX.out.2.2.2)
        by_cases hb1 : bt = 1
        · have hbz : ((bt : Int) == 1) = true := by simp; omega
          have AB : Aside (bt = 1) := hb1
          clear hb1 hbit1
          go_upto_region 7 with (go_at_call 24; (with_reducible refine hb5.mono ?_); rintro e w5 ⟨rfl, hE5⟩)
          obtain ⟨h3, h38, hf, hE⟩ := AX.out
          replace h3 := h3.ext hE5
          replace h38 := h38.ext hE5
          replace hf : ∀ o, w5.frozen? ⟨b7, o, none⟩ = false := fun o => (hE5.frozenE AX.out.1.lt).trans (hf o)
          replace hE := hE.trans hE5
          have AN : Aside (N3 w5 b7 o2 ∧ N3 w5 b8 (Nx, Ny, 1)) := ⟨h3, h38⟩
          obtain ⟨a1, l1, c1, a2, l2, c2, a3, l3, c3, q0, q1, q2, n1, n2, n3⟩ := h3
          obtain ⟨d1, m1, k1, d2, m2, k2, d3, m3, k3, r0, r1, r2, t1, t2, t3⟩ := h38
          have hp1 := hplus w5 a1 l1 c1 a2 l2 c2 a3 l3 c3 d1 m1 k1 d2 m2 k2 d3 m3 k3 o2 (Nx, Ny, 1) (hEB.trans hE) ho2l hal n1 n2 n3 t1 t2 t3
          have s0 := hE.cell c00
          have s1 := hE.cell c01
          have s2 := hE.cell c02
          have s3 := hE.cell c03
          clear AX hb5 hE5 n1 n2 n3 t1 t2 t3
          go_wp2_with (go_at_call 23; (with_reducible refine (hp1).mono ?_); rintro e w4 ⟨a4, l4, c4, a5, l5, c5, a6, l6, c6, rfl, g1, g2, g3, hE4⟩; have u0 := hE4.cell q0; have u1 := hE4.cell q1; have u2 := hE4.cell q2; have fz : ∀ o, w4.frozen? ⟨b7, o, none⟩ = false := fun o => (hE4.frozenE (lt_of_cell q0)).trans (hf o); have dz1 : ∀ x, (w4.setCell ⟨b7, 0, none⟩ x).cell? ⟨b7, 1, none⟩ = some (Value.slice a2 l2 c2) := fun x => cell_off1 u1 (by decide); have dz2 : ∀ x y, ((w4.setCell ⟨b7, 0, none⟩ x).setCell ⟨b7, 1, none⟩ y).cell? ⟨b7, 2, none⟩ = some (Value.slice a3 l3 c3) := fun x y => cell_off2 u2 (by decide) (by decide))
          go_roundg k
          case measure => go_light; omega
          case rel =>
            go_light
            refine ⟨by omega, rfl, ?_, N3.far (AN.out.2.ext hE4) (AN.out.1.ext hE4) (Ne.symm hne) _ _ _, frozen_set3 fz b7 _ _ _, (hE.trans hE4).set3 hb7 _ _ _⟩
            rw [AJ.out, AR.out, if_pos AB.out]
            exact N3.put (AN.out.1.ext hE4) g1 g2 g3
        · have hbz : ((bt : Int) == 1) = false := by simp; omega
          have AB : Aside (¬ bt = 1) := hb1
          clear hb1 hbit1
          go_wp2_with (go_at_call 24; (with_reducible refine hb5.mono ?_); rintro e w5 ⟨rfl, hE5⟩)
          go_roundg k
          case measure => go_light; omega
          case rel =>
            go_light
            obtain ⟨h3, h38, hf, hE⟩ := AX.out
            refine ⟨by omega, rfl, ?_, h38.ext hE5, fun o => (hE5.frozenE h3.lt).trans (hf o), hE.trans hE5⟩
            rw [AJ.out, AR.out, if_neg AB.out]
            exact h3.ext hE5
end Go.Eng
