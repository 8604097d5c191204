/-
 Whole numbers of the program: a text read, and made an element of the field.
-/
import Derived.Laws.MakeOwn
import Derived.LaidEql
import Derived.Test.YtajgaijilkfjnaaGreatDoorS2
import Derived.Test.YtajgaijilkfjnaaGreatDoorF1
import Derived.Test.YtajgaijilkfjnaaGreatDoorA3
import Derived.Test.YtajgaijilkfjnaaGreatDoorB1
set_option linter.unusedVariables false
set_option linter.unusedSimpArgs false
namespace Go.Eng
def wq : Nat := 18446744073709551616
theorem wq_pos : 0 < wq := by decide
theorem wqp_pos (n : Nat) : 0 < wq ^ n := Nat.pow_pos wq_pos
def valW (d : Nat -> Nat) : Nat -> Nat
 | 0 => 0
 | n + 1 => valW d n + d n * wq ^ n
def dw (N j : Nat) : Nat := N / wq ^ j % wq
def nlw (N : Nat) : Nat := if N = 0 then 0 else N.log2 / 64 + 1
theorem dw_lt (N j : Nat) : dw N j < wq := Nat.mod_lt _ wq_pos
theorem wq_pow (n : Nat) : wq ^ n = 2 ^ (64 * n) := by
 rw [show wq = 2 ^ 64 from rfl, <- Nat.pow_mul]
theorem nlw_le {N l : Nat} (h : N < wq ^ l) : nlw N <= l := by
 unfold nlw
 split
 ·omega
 ·rename_i h0
  rw [wq_pow] at h
  have := (Nat.log2_lt h0).2 h
  omega
theorem lt_nlw (N : Nat) : N < wq ^ nlw N := by
 unfold nlw
 split
 ·rename_i h; rw [h]; exact Nat.one_pos
 ·rename_i h0
  rw [wq_pow]
  refine (Nat.log2_lt h0).1 ?_
  omega
theorem nlw_pos {N : Nat} (h : N ≠ 0) : 0 < nlw N := by unfold nlw; rw [if_neg h]; omega
theorem nlw_zero : nlw 0 = 0 := rfl
theorem nlw_eq_zero {N : Nat} : nlw N = 0 ↔ N = 0 :=
 ⟨fun h => Decidable.byContradiction fun h0 => by have := nlw_pos h0; omega, fun h => by rw [h]; rfl⟩
theorem lt_iff_nlw {N l : Nat} : N < wq ^ l ↔ nlw N <= l :=
 ⟨nlw_le, fun h => Nat.lt_of_lt_of_le (lt_nlw N) (Nat.pow_le_pow_right wq_pos h)⟩
theorem nlw_mono {M N : Nat} (h : M <= N) : nlw M <= nlw N := nlw_le (Nat.lt_of_le_of_lt h (lt_nlw N))
theorem valW_dw (N l : Nat) : valW (dw N) l = N % wq ^ l := by
 induction l with
 | zero => simp [valW, Nat.mod_one]
 | succ n ih =>
   rw [valW, ih, dw, Nat.mod_pow_succ, Nat.mul_comm]
theorem valW_dw_all (N : Nat) : valW (dw N) (nlw N) = N := by rw [valW_dw, Nat.mod_eq_of_lt (lt_nlw N)]
theorem valW_lt {z : Nat -> Nat} : ∀ {l : Nat}, (∀ j, j < l -> z j < wq) -> valW z l < wq ^ l
 | 0, _ => by simp [valW]
 | n + 1, h => by
   have h1 := valW_lt (l := n) fun j hj => h j (by omega)
   have h2 := h n (by omega)
   rw [valW, Nat.pow_succ]
   have h3 : z n * wq ^ n + wq ^ n <= wq * wq ^ n := by
    rw [<- Nat.succ_mul]; exact Nat.mul_le_mul_right _ h2
   rw [Nat.mul_comm (wq ^ n)]
   omega
theorem valW_congr {a b : Nat -> Nat} : ∀ {l : Nat}, (∀ j, j < l -> a j = b j) -> valW a l = valW b l
 | 0, _ => rfl
 | n + 1, h => by rw [valW, valW, valW_congr fun j hj => h j (by omega), h n (by omega)]
theorem dw_valW {z : Nat -> Nat} : ∀ {l : Nat}, (∀ j, j < l -> z j < wq) -> ∀ j, j < l -> dw (valW z l) j = z j
 | 0, _, j, hj => by omega
 | n + 1, h, j, hj => by
   have h1 := valW_lt (l := n) fun j hj => h j (by omega)
   rw [valW]
   by_cases hjn : j = n
   ·subst hjn
    rw [dw, Nat.add_mul_div_right _ _ (wqp_pos _), Nat.div_eq_of_lt h1, Nat.zero_add, Nat.mod_eq_of_lt (h j (by omega))]
   ·have hlt : j < n := by omega
    rw [<- dw_valW (l := n) (fun j hj => h j (by omega)) j hlt]
    obtain ⟨t, rfl⟩ : ∃ t, n = j + 1 + t := ⟨n - (j + 1), by omega⟩
    unfold dw
    rw [show z (j + 1 + t) * wq ^ (j + 1 + t) = (z (j + 1 + t) * wq ^ t * wq) * wq ^ j by
     rw [Nat.pow_add, Nat.pow_succ, Nat.mul_comm (wq ^ j * wq), <- Nat.mul_assoc, <- Nat.mul_assoc, Nat.mul_assoc (z (j + 1 + t) * wq ^ t), Nat.mul_comm (wq ^ j) wq, <- Nat.mul_assoc]]
    rw [Nat.add_mul_div_right _ _ (wqp_pos _), Nat.add_mul_mod_self_right]
def tlw (d : Nat -> Nat) : Nat -> Nat
 | 0 => 0
 | n + 1 => if d n = 0 then tlw d n else n + 1
theorem tlw_eq {z : Nat -> Nat} : ∀ {l : Nat}, (∀ j, j < l -> z j < wq) -> tlw z l = nlw (valW z l)
 | 0, _ => rfl
 | n + 1, h => by
   rw [tlw]
   by_cases h0 : z n = 0
   ·rw [if_pos h0, tlw_eq fun j hj => h j (by omega), valW, h0, Nat.zero_mul, Nat.add_zero]
   ·rw [if_neg h0]
    refine Nat.le_antisymm ?_ (nlw_le (valW_lt h))
    refine Nat.not_lt.1 fun hlt => ?_
    have h1 : valW z (n + 1) < wq ^ n := lt_iff_nlw.2 (by omega)
    rw [valW] at h1
    have : 1 * wq ^ n <= z n * wq ^ n := Nat.mul_le_mul_right _ (by omega)
    omega
theorem tlw_le (z : Nat -> Nat) : ∀ l, tlw z l <= l
 | 0 => Nat.le_refl _
 | n + 1 => by rw [tlw]; split; exact Nat.le_succ_of_le (tlw_le z n); exact Nat.le_refl _
theorem dw_zero_of_le {N j : Nat} (h : nlw N <= j) : dw N j = 0 := by
 rw [dw, Nat.div_eq_of_lt (lt_iff_nlw.2 h), Nat.zero_mod]
end Go.Eng
namespace Go.Eng
open Go Go.RowKit Go.Proofs
set_option maxRecDepth 100000
theorem badd_walk {x y c : Nat} (hc : c <= 1) (w : World) :
  Calls Tryz.prog 217 #[.int .u64 (x : Int), .int .u64 (y : Int), .int .u64 (c : Int)] w fun e w' => e = .returned (.tuple #[.int .u64 (((x + y + c) % 18446744073709551616 : Nat) : Int), .int .u64 (((x + y + c) / 18446744073709551616 : Nat) : Int)]) /\ w' = w := by
 have hr : (callFunc 87 #[.int .u64 (x : Int), .int .u64 (y : Int), .int .u64 (c : Int)]).run Tryz.prog w = .ok (.value (.tuple #[.int .u64 (((x + y + c) % 18446744073709551616 : Nat) : Int), .int .u64 (((x + y + c) / 18446744073709551616 : Nat) : Int)])) w := add64_run x y c hc w
 obtain ⟨s, hs⟩ : ∃ s : Nat, s = (x + y + c) % 18446744073709551616 := ⟨_, rfl⟩
 obtain ⟨d, hd⟩ : ∃ d : Nat, d = (x + y + c) / 18446744073709551616 := ⟨_, rfl⟩
 rw [<- hs, <- hd] at hr
 rw [<- hs, <- hd]
 clear hs hd
 go_enter Tryz.func217, Tryz.ntmps217
 go_wp2
 simp [bodyPost, results, Tryz.results217, go_sem]
theorem www_walk {x y c : Nat} (hx : x < 18446744073709551616) (hy : y < 18446744073709551616) (hc : c < 18446744073709551616) (w : World) :
  Calls Tryz.prog 207 #[.int .u64 (x : Int), .int .u64 (y : Int), .int .u64 (c : Int)] w fun e w' => e = .returned (.tuple #[.int .u64 (((x * y + c) / 18446744073709551616 : Nat) : Int), .int .u64 (((x * y + c) % 18446744073709551616 : Nat) : Int)]) /\ w' = w := by
 obtain ⟨h, hh⟩ : ∃ h : Nat, h = x * y / 18446744073709551616 := ⟨_, rfl⟩
 obtain ⟨l, hl⟩ : ∃ l : Nat, l = x * y % 18446744073709551616 := ⟨_, rfl⟩
 have hm := Tryz.bits_Mul x y hx hy w
 rw [<- hh, <- hl] at hm
 have ha := badd_walk (x := l) (y := c) (c := 0) (by decide) w
 rw [show ((0 : Nat) : Int) = 0 from rfl] at ha
 obtain ⟨s, hs⟩ : ∃ s : Nat, s = (l + c + 0) % 18446744073709551616 := ⟨_, rfl⟩
 obtain ⟨d, hd⟩ : ∃ d : Nat, d = (l + c + 0) / 18446744073709551616 := ⟨_, rfl⟩
 rw [<- hs, <- hd] at ha
 have hx2 : x * y <= 18446744073709551615 * 18446744073709551615 := Nat.mul_le_mul (by omega) (by omega)
 have e1 : (x * y + c) / 18446744073709551616 = h + d := by omega
 have e2 : (x * y + c) % 18446744073709551616 = s := by omega
 have e3 : IntKind.u64.wrap ((h : Int) + (d : Int)) = ((h + d : Nat) : Int) := by rw [IntKind.wrap_u64]; omega
 rw [e1, e2]
 clear e1 e2 hx2 hs hd hh hl
 go_enter Tryz.func207, Tryz.ntmps207
 go_wp2_with (first
  | (go_at_call 200; (with_reducible refine hm.mono ?_); rintro e w1 ⟨rfl, hw1⟩; rw [hw1]; clear hw1)
  | (go_at_call 217; (with_reducible refine ha.mono ?_); rintro e w1 ⟨rfl, hw1⟩; rw [hw1]; clear hw1))
 simp [bodyPost, results, Tryz.results207, go_sem, e3]
end Go.Eng
namespace Go.Eng
open Go Go.RowKit Go.Proofs
set_option maxRecDepth 100000
def RowW (w : World) (b n : Nat) (d : Nat -> Nat) : Prop :=
 ∃ c : Array Value, w.heap[b]? = some (.cells c 157 (0, 0)) /\ n <= c.size /\ ∀ i, i < n -> c[i]? = some (.int .u64 (d i : Int))
namespace RowW
variable {w : World} {b n : Nat} {d e : Nat -> Nat}
theorem cell (h : RowW w b n d) {i : Nat} (hi : i < n) : w.cell? ⟨b, i, none⟩ = some (.int .u64 (d i : Int)) := by
 obtain ⟨c, hb, _, hc⟩ := h
 simp [World.cell?, hb, hc i hi]
theorem frozen (h : RowW w b n d) (i : Nat) : w.frozen? ⟨b, i, none⟩ = false := by
 obtain ⟨c, hb, _, _⟩ := h
 simp [World.frozen?, hb]
theorem lt (h : RowW w b n d) : b < w.heap.size := by
 obtain ⟨c, hb, _, _⟩ := h
 exact (Array.getElem?_eq_some_iff.1 hb).1
theorem congr (h : RowW w b n d) (k : ∀ i, i < n -> d i = e i) : RowW w b n e := by
 obtain ⟨c, hb, hn, hc⟩ := h
 exact ⟨c, hb, hn, fun i hi => by rw [hc i hi, k i hi]⟩
theorem of_block {w' : World} (h : RowW w b n d) (k : w'.heap[b]? = w.heap[b]?) : RowW w' b n d := by
 obtain ⟨c, hb, hn, hc⟩ := h
 exact ⟨c, k.trans hb, hn, hc⟩
theorem set (h : RowW w b n d) (i v : Nat) : RowW (w.setCell ⟨b, i, none⟩ (.int .u64 (v : Int))) b n (fun j => if j = i then v else d j) := by
 obtain ⟨c, hb, hn, hc⟩ := h
 refine ⟨c.setIfInBounds i (.int .u64 (v : Int)), ?_, by simpa using hn, fun j hj => ?_⟩
 ·simp [World.setCell, Array.getElem?_modify, hb]
 ·rw [Array.getElem?_setIfInBounds]
  by_cases e : i = j
  ·subst e
   have : i < c.size := by omega
   simp [this]
  ·rw [if_neg e]
   have e' : ¬ j = i := fun h => e h.symm
   simp only [e', if_false]
   exact hc j hj
theorem setOther (h : RowW w b n d) {a : Addr} (ha : b ≠ a.block) (v : Value) : RowW (w.setCell a v) b n d := h.of_block (Go.Deep.blk_setCell_other _ _ _ _ ha)
theorem alloc (h : RowW w b n d) (o : Obj) : RowW (w.alloc o) b n d := h.of_block (Go.Deep.blk_alloc_lt _ _ _ h.lt)
theorem drew (h : RowW w b n d) : RowW w.drew b n d := h
theorem drewN (h : RowW w b n d) (k : Nat) : RowW (w.drewN k) b n d := h.of_block (by simp)
end RowW
structure But (b : Nat) (w w' : World) : Prop where
 os : w'.os = w.os
 tape : w'.tape = w.tape
 output : w'.output = w.output
 size : w'.heap.size = w.heap.size
 block : ∀ i, i ≠ b -> w'.heap[i]? = w.heap[i]?
namespace But
variable {b : Nat} {w w' w'' : World}
theorem refl (b : Nat) (w : World) : But b w w := ⟨rfl, rfl, rfl, rfl, fun _ _ => rfl⟩
theorem trans (h : But b w w') (k : But b w' w'') : But b w w'' := ⟨k.os.trans h.os, k.tape.trans h.tape, k.output.trans h.output, k.size.trans h.size, fun i hi => (k.block i hi).trans (h.block i hi)⟩
theorem drew (h : But b w w') : But b w w'.drew := ⟨h.os, h.tape, h.output, h.size, h.block⟩
theorem set (h : But b w w') (o : Nat) (v : Value) : But b w (w'.setCell ⟨b, o, none⟩ v) := ⟨h.os, h.tape, h.output, by rw [<- h.size]; simp [World.setCell], fun i hi => (Go.Deep.blk_setCell_other _ _ _ _ hi).trans (h.block i hi)⟩
theorem cell (h : But b w w') {i o : Nat} {v : Value} (hi : i ≠ b) (k : w.cell? ⟨i, o, none⟩ = some v) : w'.cell? ⟨i, o, none⟩ = some v := by
 unfold World.cell? at k ⊢
 rw [h.block i hi]
 exact k
theorem ext {W : World} (h : But b w w') (k : Ext W w) (hb : W.heap.size <= b) : Ext W w' := ⟨h.os.trans k.os, h.tape.trans k.tape, h.output.trans k.output, by rw [h.size]; exact k.size, fun i hi => (h.block i (by omega)).trans (k.block i hi)⟩
end But
def cR (d : Nat -> Nat) (y r : Nat) : Nat -> Nat
 | 0 => r
 | i + 1 => (d i * y + cR d y r i) / 18446744073709551616
def zR (d : Nat -> Nat) (y r i : Nat) : Nat := (d i * y + cR d y r i) % 18446744073709551616
theorem cR_lt {d : Nat -> Nat} {y r m : Nat} (hd : ∀ j, j < m -> d j < 18446744073709551616) (hy : y < 18446744073709551616) (hr : r < 18446744073709551616) : ∀ i, i <= m -> cR d y r i < 18446744073709551616
 | 0, _ => hr
 | i + 1, hi => by
   have h1 := cR_lt hd hy hr i (by omega)
   have h2 : d i * y <= 18446744073709551615 * 18446744073709551615 := Nat.mul_le_mul (by have := hd i (by omega); omega) (by omega)
   unfold cR
   omega
theorem zR_lt (d : Nat -> Nat) (y r i : Nat) : zR d y r i < 18446744073709551616 := Nat.mod_lt _ (by decide)
theorem zR_sum {d : Nat -> Nat} {y r : Nat} : ∀ i, valW (zR d y r) i + cR d y r i * wq ^ i = valW d i * y + r
 | 0 => by simp [valW, cR]
 | i + 1 => by
   have ih := zR_sum (d := d) (y := y) (r := r) i
   have h : zR d y r i + cR d y r (i + 1) * wq = d i * y + cR d y r i := by
    unfold zR
    rw [cR, Nat.mul_comm _ wq]
    exact Nat.mod_add_div _ _
   rw [valW, valW, Nat.add_mul, Nat.pow_succ]
   have e : d i * wq ^ i * y = d i * y * wq ^ i := by rw [Nat.mul_assoc, Nat.mul_comm (wq ^ i), <- Nat.mul_assoc]
   rw [e]
   have e2 : cR d y r (i + 1) * (wq ^ i * wq) = cR d y r (i + 1) * wq * wq ^ i := by rw [Nat.mul_comm (wq ^ i), <- Nat.mul_assoc]
   rw [e2]
   have h2 : (zR d y r i + cR d y r (i + 1) * wq) * wq ^ i = (d i * y + cR d y r i) * wq ^ i := by rw [h]
   rw [Nat.add_mul, Nat.add_mul] at h2
   omega
set_option maxHeartbeats 1600000 in
theorem vww_walk {zb xb m M y r cz cx : Nat} {d e : Nat -> Nat} {w : World} (hz : RowW w zb M e) (hmM : m <= M) (hx : RowW w xb m d) (hm : m <= 1000000) (hd : ∀ j, j < m -> d j < 18446744073709551616) (hy : y < 18446744073709551616) (hr : r < 18446744073709551616) :
  Calls Tryz.prog 177 #[.slice (some ⟨zb, 0, none⟩) m cz, .slice (some ⟨xb, 0, none⟩) m cx, .int .u64 (y : Int), .int .u64 (r : Int)] w fun ee w' => ee = .returned (.int .u64 (cR d y r m : Int)) /\ RowW w' zb M (fun j => if j < m then zR d y r j else e j) /\ But zb w w' := by
 have hwww : ∀ (i : Nat), i < m -> ∀ W, Calls Tryz.prog 207 #[.int .u64 (d i : Int), .int .u64 (y : Int), .int .u64 (cR d y r i : Int)] W fun e w' => e = .returned (.tuple #[.int .u64 (cR d y r (i + 1) : Int), .int .u64 (zR d y r i : Int)]) /\ w' = W := fun i hi W =>
  www_walk (hd i hi) hy (cR_lt hd hy hr i (by omega)) W
 go_enter Tryz.func177, Tryz.ntmps177
 go_wp2
 go_loopg [8, 9, 19] m (fun g s8 s9 s19 wr => g <= m /\ s19 = .int .i64 ((m - g : Nat) : Int) /\ s8 = .int .u64 (cR d y r (m - g) : Int) /\ RowW wr zb M (fun j => if j < m - g then zR d y r j else e j) /\ (∀ j, m - g <= j -> j < m -> wr.cell? ⟨xb, j, none⟩ = some (.int .u64 (d j : Int))) /\ But zb w wr)
 case atStart =>
  refine ⟨Nat.le_refl _, by rw [Nat.sub_self]; rfl, by rw [Nat.sub_self]; rfl, ?_, fun j _ hj => hx.cell hj, But.refl _ _⟩
  refine hz.congr fun j hj => ?_
  rw [Nat.sub_self, if_neg (by omega)]
 case round =>
  obtain ⟨hg, rfl, rfl, hR, hX, hB⟩ := hrel
  cases gk with
  | zero =>
    rw [Nat.sub_zero] at hR ⊢
    clear hX hwww
    go_wp2
    go_ret
    exact ⟨rfl, hR, hB⟩
  | succ g =>
    have hi : m - (g + 1) < m := by omega
    obtain ⟨i, hie⟩ : ∃ i, i = m - (g + 1) := ⟨_, rfl⟩
    rw [<- hie] at hR hX hi ⊢
    have hlt : (i : Int) < (m : Int) := by omega
    have hgi : m - g = i + 1 := by omega
    have hcx := hX i (Nat.le_refl _) hi
    have hcz := hR.cell (i := i) (by omega)
    have hfz := hR.frozen i
    have hw1 := hwww i hi wr
    have hov : IntKind.i64.wrap ((i : Int) + 1) = ((i + 1 : Nat) : Int) := by rw [IntKind.wrap_i64]; omega
    have AI : Aside (RowW wr zb M (fun j => if j < i then zR d y r j else e j) /\ (∀ j, i <= j -> j < m -> wr.cell? ⟨xb, j, none⟩ = some (.int .u64 (d j : Int))) /\ But zb w wr) := ⟨hR, hX, hB⟩
    have AH : Aside (m - g = i + 1 /\ i < m /\ g + 1 <= m) := ⟨hgi, hi, hg⟩
    clear hR hX hB hwww hie hgi hi hg
    go_wp2_with (go_at_call 207; (with_reducible refine hw1.mono ?_); rintro e w1 ⟨rfl, hw2⟩; rw [hw2]; clear hw2)
    go_roundg g
    case measure => omega
    case rel =>
     go_light
     obtain ⟨hR, hX, hB⟩ := AI.out
     obtain ⟨hgi, hi, hg⟩ := AH.out
     rw [hgi]
     refine ⟨by omega, by first | rfl | rw [hov], rfl, ?_, fun j hj hjm => ?_, hB.set _ _⟩
     ·refine (hR.set i (zR d y r i)).congr fun j hj => ?_
      by_cases h1 : j = i
      ·rw [if_pos h1, if_pos (by omega), h1]
      ·rw [if_neg h1]
       by_cases h2 : j < i
       ·rw [if_pos h2, if_pos (by omega)]
       ·rw [if_neg h2, if_neg (by omega)]
     ·rw [World.cell?_setCell_other _ _ _ _ (by intro h; injection h with _ h2 _; omega)]
      exact hX j (by omega) hjm
end Go.Eng
namespace Go.Eng
open Go Go.RowKit Go.Proofs
set_option maxRecDepth 100000
set_option maxHeartbeats 1600000 in
theorem norm_walk (a : Option Addr) (b l c : Nat) (d : Nat -> Nat) (w : World) (hl : l <= 1000000) (hc : l <= c) (ha : 0 < l -> a = some ⟨b, 0, none⟩)
  (hcell : ∀ j, j < l -> w.cell? ⟨b, j, none⟩ = some (.int .u64 (d j : Int))) :
  Calls Tryz.prog 173 #[.slice a l c] w fun e w' => e = .returned (.slice a (tlw d l) c) /\ w' = w := by
 go_enter Tryz.func173, Tryz.ntmps173
 go_wp2
 go_loopg [3] l (fun g s wr => wr = w /\ g <= l /\ s = .int .i64 (g : Int) /\ tlw d g = tlw d l)
 case atStart => exact ⟨rfl, Nat.le_refl _, rfl, rfl⟩
 case round =>
  obtain ⟨rfl, hg, rfl, ht⟩ := hrel
  cases gk with
  | zero =>
    have e0 : tlw d l = 0 := by rw [<- ht]; rfl
    have AE : Aside (tlw d l = 0) := e0
    clear ht e0
    go_wp2
    go_ret
    rw [AE.out]
    exact ⟨rfl, rfl⟩
  | succ k =>
    have hb := ha (by omega)
    subst hb
    have g0 : wr.cell? ⟨b, k, none⟩ = some (.int .u64 (d k : Int)) := hcell k (by omega)
    have A0 : Aside (tlw d (k + 1) = tlw d l) := ht
    clear ht hcell ha
    by_cases hz : d k = 0
    ·have hz' : ((d k : Int) == 0) = true := by simp [hz]
     go_wp2
     go_roundg k
     case measure => go_light; omega
     case rel =>
      go_light
      refine ⟨rfl, by omega, ?_, ?_⟩
      ·first | rfl | simp
      ·have := A0.out
       rw [tlw, if_pos hz] at this
       exact this
    ·have hz' : ((d k : Int) == 0) = false := by simp [hz]
     have e0 : tlw d l = k + 1 := by
      have := A0.out
      rw [tlw, if_neg hz] at this
      exact this.symm
     have AE : Aside (tlw d l = k + 1) := e0
     clear e0 A0
     have hkl : (k : Int) + 1 <= (l : Int) := by omega
     go_wp2
     go_ret
     rw [AE.out]
     exact ⟨rfl, rfl⟩
end Go.Eng
namespace Go.Eng
open Go Go.RowKit Go.Proofs
set_option maxRecDepth 100000
theorem und66 : Tryz.prog.underlying 71 = some (.slice 157) := by kernel_rfl
theorem inf151 : (Tryz.prog.info? 157).map (fun i => (i.zero, i.size, i.bytes)) = some (some (.int .u64 0), 1, 8) := by kernel_rfl
theorem make_fit {b l c n : Nat} (hn : n <= c) (hc : c <= 1000000) (w : World) : Calls Tryz.prog 119 #[.slice (some ⟨b, 0, none⟩) l c, .int .i64 (n : Int)] w fun e w' => e = .returned (.slice (some ⟨b, 0, none⟩) n c) /\ w' = w := by
 have h1 : (n : Int) <= (c : Int) := by omega
 go_enter Tryz.func119, Tryz.ntmps119
 go_wp2
 go_ret
 exact ⟨rfl, rfl⟩
theorem make_one (l : Nat) (w : World) : Calls Tryz.prog 119 #[.slice none l 0, .int .i64 1] w fun e w' => e = .returned (.slice (some ⟨w.heap.size, 0, none⟩) 1 1) /\ w' = w.alloc (.cells (madeCells #[.int .u64 0] 1) 157) := by
 have hmk := run_make_row' (P := Tryz.prog) 71 157 (.int .u64 0) 8 und66 inf151 rfl .i64 .i64 1 (by decide) (by decide) w
 rw [show ((1 : Nat) : Int) = 1 from rfl] at hmk
 go_enter Tryz.func119, Tryz.ntmps119
 go_wp2
 go_ret
 exact ⟨rfl, rfl⟩
theorem make_new {a : Option Addr} {l c n : Nat} (hn : c < n) (h2 : n ≠ 1) (hc : n <= 1000000) (w : World) : Calls Tryz.prog 119 #[.slice a l c, .int .i64 (n : Int)] w fun e w' => e = .returned (.slice (some ⟨w.heap.size, 0, none⟩) n (n + 4)) /\ w' = w.alloc (.cells (madeCells #[.int .u64 0] (n + 4)) 157) := by
 obtain ⟨i, hi, hzz⟩ := Option.map_eq_some_iff.1 inf151
 simp only [Prod.mk.injEq] at hzz
 have hmk := run_make (P := Tryz.prog) w 71 157 i (.int .u64 0) und66 hi hzz.1 .i64 .i64 (n : Int) ((n : Int) + 4) (by omega) (by omega) (by rw [hzz.2.2]; omega) (by omega)
 have e1 : ((n : Int) + 4).toNat = n + 4 := by omega
 simp only [Int.toNat_natCast, e1, hzz.2.1, Nat.mul_one, show (Value.int .u64 0).cells = #[.int .u64 0] from rfl] at hmk
 have h1 : ¬ (n : Int) <= (c : Int) := by omega
 have h3 : ((n : Int) == 1) = false := by simp; omega
 have h4 : IntKind.i64.wrap ((n : Int) + 4) = (n : Int) + 4 := by rw [IntKind.wrap_i64]; omega
 clear hzz hi e1
 go_enter Tryz.func119, Tryz.ntmps119
 go_wp2
 go_ret
 exact ⟨rfl, rfl⟩
end Go.Eng
namespace Go.Eng
open Go Go.RowKit Go.Proofs
set_option maxRecDepth 100000
def NatW (w : World) (v : Value) (N B0 : Nat) : Prop :=
 (v = .slice none 0 0 /\ N = 0) \/ ∃ (b c : Nat) (e : Nat -> Nat), v = .slice (some ⟨b, 0, none⟩) (nlw N) c /\ nlw N <= c /\ 1 <= c /\ c <= 100000 /\ B0 <= b /\ RowW w b c e /\ ∀ j, j < nlw N -> e j = dw N j
theorem But.since {b B0 : Nat} {w w' : World} (h : But b w w') (hb : B0 <= b) : w.Since B0 w' := ⟨h.os, h.tape, h.output, by rw [h.size]; exact Nat.le_refl _, fun i hi => h.block i (by omega)⟩
theorem RowW.ofRowIs {w : World} {b n : Nat} {d : Nat -> Nat} {f : Nat -> Value} (h : w.rowIs b 157 n f) (k : ∀ i, i < n -> f i = .int .u64 (d i : Int)) : RowW w b n d := by
 obtain ⟨c, hb, hn, hc⟩ := h
 exact ⟨c, hb, by omega, fun i hi => by rw [hc i hi, k i hi]⟩
theorem RowW.made (w : World) (n : Nat) : RowW (w.alloc (.cells (madeCells #[.int .u64 0] n) 157)) w.heap.size n (fun _ => 0) := RowW.ofRowIs (World.rowIs_made w _ n 157) (fun _ _ => rfl)
theorem nlw_small {r : Nat} (h0 : r ≠ 0) (h : r < 18446744073709551616) : nlw r = 1 := by
 have h1 := nlw_pos h0
 have h2 : nlw r <= 1 := nlw_le (by rw [Nat.pow_one]; exact h)
 omega
theorem dw_small {r : Nat} (h : r < 18446744073709551616) : dw r 0 = r := by
 unfold dw
 rw [Nat.pow_zero, Nat.div_one]
 exact Nat.mod_eq_of_lt h
theorem setword_zero {a : Option Addr} {b c : Nat} (ha : a = none /\ c = 0 \/ a = some ⟨b, 0, none⟩) (w : World) : Calls Tryz.prog 171 #[.slice a 0 c, .int .u64 0] w fun e w' => e = .returned (.slice a 0 c) /\ w' = w := by
 rcases ha with ⟨rfl, rfl⟩ | rfl
 ·go_enter Tryz.func171, Tryz.ntmps171
  go_wp2
  go_ret
  exact ⟨rfl, rfl⟩
 ·go_enter Tryz.func171, Tryz.ntmps171
  go_wp2
  go_ret
  exact ⟨rfl, rfl⟩
theorem setword_nil {r : Nat} (h0 : r ≠ 0) (w : World) : Calls Tryz.prog 171 #[.slice none 0 0, .int .u64 (r : Int)] w fun e w' => e = .returned (.slice (some ⟨w.heap.size, 0, none⟩) 1 1) /\ w' = (w.alloc (.cells (madeCells #[.int .u64 0] 1) 157)).setCell ⟨w.heap.size, 0, none⟩ (.int .u64 (r : Int)) := by
 have hz : ((r : Int) == 0) = false := by simp; omega
 have hmk := make_one 0 w
 have hR := RowW.made w 1
 obtain ⟨W, hW⟩ : ∃ W, W = w.alloc (.cells (madeCells #[.int .u64 0] 1) 157) := ⟨_, rfl⟩
 rw [<- hW] at hmk hR
 rw [<- hW]
 have c0 := hR.cell (i := 0) (by decide)
 have f0 := hR.frozen 0
 clear hW hR
 go_enter Tryz.func171, Tryz.ntmps171
 go_wp2_with (go_at_call 119; (with_reducible refine hmk.mono ?_); rintro e w1 ⟨rfl, hw1⟩; rw [hw1]; clear hw1)
 go_ret
 exact ⟨rfl, rfl⟩
theorem setword_fit {b c r : Nat} {e : Nat -> Nat} (h0 : r ≠ 0) (hc : 1 <= c) (hc2 : c <= 100000) {w : World} (hR : RowW w b c e) : Calls Tryz.prog 171 #[.slice (some ⟨b, 0, none⟩) 0 c, .int .u64 (r : Int)] w fun e w' => e = .returned (.slice (some ⟨b, 0, none⟩) 1 c) /\ w' = w.setCell ⟨b, 0, none⟩ (.int .u64 (r : Int)) := by
 have hz : ((r : Int) == 0) = false := by simp; omega
 have hmk := make_fit (b := b) (l := 0) hc (by omega) w
 rw [show ((1 : Nat) : Int) = 1 from rfl] at hmk
 have c0 := hR.cell (i := 0) hc
 have f0 := hR.frozen 0
 clear hR
 go_enter Tryz.func171, Tryz.ntmps171
 go_wp2_with (go_at_call 119; (with_reducible refine hmk.mono ?_); rintro e w1 ⟨rfl, hw1⟩; rw [hw1]; clear hw1)
 go_ret
 exact ⟨rfl, rfl⟩
theorem vww_wrap {zb xb m M y r cz cx : Nat} {d e : Nat -> Nat} {w : World} (hz : RowW w zb M e) (hmM : m <= M) (hx : RowW w xb m d) (hm : m <= 1000000) (hd : ∀ j, j < m -> d j < 18446744073709551616) (hy : y < 18446744073709551616) (hr : r < 18446744073709551616) :
  Calls Tryz.prog 153 #[.slice (some ⟨zb, 0, none⟩) m cz, .slice (some ⟨xb, 0, none⟩) m cx, .int .u64 (y : Int), .int .u64 (r : Int)] w fun ee w' => ee = .returned (.int .u64 (cR d y r m : Int)) /\ RowW w' zb M (fun j => if j < m then zR d y r j else e j) /\ But zb w w' := by
 have h := vww_walk (cz := cz) (cx := cx) hz hmM hx hm hd hy hr
 clear hz hx hd
 go_enter Tryz.func153, Tryz.ntmps153
 go_wp2_with (go_at_call 177; (with_reducible refine h.mono ?_); rintro e w1 ⟨rfl, hw1, hw2⟩)
 go_ret
 exact ⟨rfl, hw1, hw2⟩
end Go.Eng
namespace Go.Eng
open Go Go.RowKit Go.Proofs
set_option maxRecDepth 100000
theorem maw_law {N y r : Nat} {g : Nat -> Nat} (hy : y < 18446744073709551616) (hr : r < 18446744073709551616) :
  (∀ j, j < nlw N + 1 -> (if j = nlw N then cR (dw N) y r (nlw N) else if j < nlw N then zR (dw N) y r j else g j) < wq) /\ valW (fun j => if j = nlw N then cR (dw N) y r (nlw N) else if j < nlw N then zR (dw N) y r j else g j) (nlw N + 1) = N * y + r := by
 refine ⟨fun j hj => ?_, ?_⟩
 ·split
  ·exact cR_lt (fun j _ => dw_lt N j) hy hr _ (Nat.le_refl _)
  ·rw [if_pos (by omega)]; exact zR_lt _ _ _ _
 ·rw [valW, if_pos rfl]
  have e : valW (fun j => if j = nlw N then cR (dw N) y r (nlw N) else if j < nlw N then zR (dw N) y r j else g j) (nlw N) = valW (zR (dw N) y r) (nlw N) := valW_congr fun j hj => by rw [if_neg (by omega), if_pos hj]
  rw [e, zR_sum, valW_dw_all]
theorem RowW.mono {w : World} {b n m : Nat} {d : Nat -> Nat} (h : RowW w b n d) (hm : m <= n) : RowW w b m d := by
 obtain ⟨c, hb, hn, hc⟩ := h
 exact ⟨c, hb, by omega, fun i hi => hc i (by omega)⟩
set_option maxHeartbeats 1600000 in
theorem maw_fit {b c N y r : Nat} {e : Nat -> Nat} {w : World} (hN : N ≠ 0) (hfit : nlw N + 1 <= c) (hc : c <= 100000) (hR : RowW w b c e) (he : ∀ j, j < nlw N -> e j = dw N j) (hy0 : y ≠ 0) (hy : y < 18446744073709551616) (hr : r < 18446744073709551616) :
  Calls Tryz.prog 185 #[.slice (some ⟨b, 0, none⟩) (nlw N) c, .slice (some ⟨b, 0, none⟩) (nlw N) c, .int .u64 (y : Int), .int .u64 (r : Int)] w fun ee w' => ∃ f, ee = .returned (.slice (some ⟨b, 0, none⟩) (nlw (N * y + r)) c) /\ RowW w' b c f /\ (∀ j, j < nlw (N * y + r) -> f j = dw (N * y + r) j) /\ But b w w' := by
 have hlaw := maw_law (N := N) (g := e) hy hr
 have hpos := nlw_pos hN
 have hvww := vww_wrap (cz := c) (cx := c) hR (Nat.le_of_succ_le hfit) ((hR.mono (Nat.le_of_succ_le hfit)).congr he) (by omega) (fun j _ => dw_lt N j) hy hr
 obtain ⟨m, hm⟩ : ∃ m, m = nlw N := ⟨_, rfl⟩
 rw [<- hm] at hlaw hvww hfit hpos he ⊢
 have htl := tlw_eq hlaw.1
 rw [hlaw.2] at htl
 have hdig : ∀ j, j < m + 1 -> dw (N * y + r) j = _ := fun j hj => (congrArg (fun x => dw x j) hlaw.2.symm).trans (dw_valW hlaw.1 j hj)
 have hmk := make_fit (b := b) (l := m) hfit (by omega) w
 rw [show ((m + 1 : Nat) : Int) = (m : Int) + 1 by omega] at hmk
 have hov : IntKind.i64.wrap ((m : Int) + 1) = (m : Int) + 1 := by rw [IntKind.wrap_i64]; omega
 have hm0 : ((m : Int) == 0) = false := by simp; omega
 have hyz : ((y : Int) == 0) = false := by simp; omega
 have AL : Aside (m + 1 <= c /\ c <= 100000 /\ tlw (fun j => if j = m then cR (dw N) y r m else if j < m then zR (dw N) y r j else e j) (m + 1) = nlw (N * y + r) /\ ∀ j, j < m + 1 -> dw (N * y + r) j = (if j = m then cR (dw N) y r m else if j < m then zR (dw N) y r j else e j)) := ⟨hfit, hc, htl, hdig⟩
 have hle1 : (m : Int) <= (m : Int) + 1 := by omega
 have hlt1 : (m : Int) < (m : Int) + 1 := by omega
 clear hlaw htl hdig he hR hm hN
 go_enter Tryz.func185, Tryz.ntmps185
 go_upto_region 6 with (first
  | (go_at_call 119; (with_reducible refine hmk.mono ?_); rintro e' w1 ⟨rfl, hw1⟩; rw [hw1]; clear hw1)
  | (go_at_call 153; (with_reducible refine hvww.mono ?_); rintro e' w2 ⟨rfl, hR2, hB2⟩; have z0 := hR2.cell (i := m) (by omega); have zf := hR2.frozen m))
 have hR3 := hR2.set m (cR (dw N) y r m)
 have hB3 := hB2.set m (.int .u64 (cR (dw N) y r m : Int))
 obtain ⟨a1, a2, a3, a4⟩ := AL.out
 have hn := norm_walk (some ⟨b, 0, none⟩) b (m + 1) c _ _ (by omega) a1 (fun _ => rfl) (fun j hj => hR3.cell (i := j) (by omega))
 rw [a3] at hn
 have AF : Aside (∃ f, RowW (w2.setCell ⟨b, m, none⟩ (.int .u64 (cR (dw N) y r m : Int))) b c f /\ (∀ j, j < nlw (N * y + r) -> f j = dw (N * y + r) j) /\ But b w (w2.setCell ⟨b, m, none⟩ (.int .u64 (cR (dw N) y r m : Int)))) := ⟨_, hR3, fun j hj => (a4 j (by
  have := tlw_le (fun j => if j = m then cR (dw N) y r m else if j < m then zR (dw N) y r j else e j) (m + 1)
  rw [a3] at this
  omega)).symm, hB3⟩
 clear hR3 hB3 hR2 hB2 a1 a2 a3 a4 AL hvww hmk z0 zf
 generalize w2.setCell ⟨b, m, none⟩ (.int .u64 (cR (dw N) y r m : Int)) = w3 at hn AF ⊢
 go_wp2_with (go_at_call 173; (with_reducible refine hn.mono ?_); rintro e' w4 ⟨rfl, hw4⟩; rw [hw4]; clear hw4)
 go_ret
 obtain ⟨f, h1, h2, h3⟩ := AF.out
 exact ⟨f, rfl, h1, h2, h3⟩
set_option maxHeartbeats 1600000 in
theorem maw_new {b c N y r : Nat} {e : Nat -> Nat} {w : World} (hN : N ≠ 0) (hfit : c < nlw N + 1) (hlc : nlw N <= c) (hc : c <= 50000) (hR : RowW w b c e) (he : ∀ j, j < nlw N -> e j = dw N j) (hy0 : y ≠ 0) (hy : y < 18446744073709551616) (hr : r < 18446744073709551616) :
  Calls Tryz.prog 185 #[.slice (some ⟨b, 0, none⟩) (nlw N) c, .slice (some ⟨b, 0, none⟩) (nlw N) c, .int .u64 (y : Int), .int .u64 (r : Int)] w fun ee w' => ∃ f, ee = .returned (.slice (some ⟨w.heap.size, 0, none⟩) (nlw (N * y + r)) (nlw N + 1 + 4)) /\ RowW w' w.heap.size (nlw N + 1 + 4) f /\ (∀ j, j < nlw (N * y + r) -> f j = dw (N * y + r) j) /\ Ext w w' := by
 have hlaw := maw_law (N := N) (g := fun _ => 0) hy hr
 have hpos := nlw_pos hN
 obtain ⟨W, hW⟩ : ∃ W, W = w.alloc (.cells (madeCells #[.int .u64 0] (nlw N + 1 + 4)) 157) := ⟨_, rfl⟩
 obtain ⟨nb, hnb⟩ : ∃ nb, nb = w.heap.size := ⟨_, rfl⟩
 have hRn : RowW W nb (nlw N + 1 + 4) (fun _ => 0) := by rw [hW, hnb]; exact RowW.made w _
 have hRx : RowW W b (nlw N) (dw N) := by rw [hW]; exact ((hR.mono hlc).congr he).alloc _
 have hEW : Ext w W := by rw [hW]; exact (Ext.refl _).alloc _
 have hvww := vww_wrap (cz := nlw N + 1 + 4) (cx := c) hRn (by omega) hRx (by omega) (fun j _ => dw_lt N j) hy hr
 have hmk := make_new (a := some ⟨b, 0, none⟩) (l := nlw N) (c := c) (n := nlw N + 1) hfit (by omega) (by omega) w
 rw [<- hW, <- hnb] at hmk
 rw [<- hnb]
 have hnbE : w.heap.size <= nb := by omega
 obtain ⟨m, hm⟩ : ∃ m, m = nlw N := ⟨_, rfl⟩
 rw [<- hm] at hlaw hvww hfit hpos hmk hlc ⊢
 have htl := tlw_eq hlaw.1
 rw [hlaw.2] at htl
 have hdig : ∀ j, j < m + 1 -> dw (N * y + r) j = _ := fun j hj => (congrArg (fun x => dw x j) hlaw.2.symm).trans (dw_valW hlaw.1 j hj)
 rw [show ((m + 1 : Nat) : Int) = (m : Int) + 1 by omega] at hmk
 have hov : IntKind.i64.wrap ((m : Int) + 1) = (m : Int) + 1 := by rw [IntKind.wrap_i64]; omega
 have hm0 : ((m : Int) == 0) = false := by simp; omega
 have hyz : ((y : Int) == 0) = false := by simp; omega
 have AL : Aside (m + 1 <= m + 1 + 4 /\ m <= 50000 /\ tlw (fun j => if j = m then cR (dw N) y r m else if j < m then zR (dw N) y r j else 0) (m + 1) = nlw (N * y + r) /\ ∀ j, j < m + 1 -> dw (N * y + r) j = (if j = m then cR (dw N) y r m else if j < m then zR (dw N) y r j else 0)) := ⟨by omega, by omega, htl, hdig⟩
 have hle1 : (m : Int) <= (m : Int) + 1 := by omega
 have hlt1 : (m : Int) < (m : Int) + 1 := by omega
 have AX : Aside (Ext w W /\ w.heap.size <= nb) := ⟨hEW, hnbE⟩
 clear hlaw htl hdig he hR hm hN hW hnb hRn hRx hEW hnbE hfit hlc
 go_enter Tryz.func185, Tryz.ntmps185
 go_upto_region 6 with (first
  | (go_at_call 119; (with_reducible refine hmk.mono ?_); rintro e' w1 ⟨rfl, hw1⟩; rw [hw1]; clear hw1)
  | (go_at_call 153; (with_reducible refine hvww.mono ?_); rintro e' w2 ⟨rfl, hR2, hB2⟩; have z0 := hR2.cell (i := m) (by omega); have zf := hR2.frozen m))
 have hR3 := hR2.set m (cR (dw N) y r m)
 have hB3 := hB2.set m (.int .u64 (cR (dw N) y r m : Int))
 obtain ⟨a1, a2, a3, a4⟩ := AL.out
 have hn := norm_walk (some ⟨nb, 0, none⟩) nb (m + 1) (m + 1 + 4) _ _ (by omega) a1 (fun _ => rfl) (fun j hj => hR3.cell (i := j) (by omega))
 rw [a3] at hn
 have AF : Aside (∃ f, RowW (w2.setCell ⟨nb, m, none⟩ (.int .u64 (cR (dw N) y r m : Int))) nb (m + 1 + 4) f /\ (∀ j, j < nlw (N * y + r) -> f j = dw (N * y + r) j) /\ But nb W (w2.setCell ⟨nb, m, none⟩ (.int .u64 (cR (dw N) y r m : Int)))) := ⟨_, hR3, fun j hj => (a4 j (by
  have := tlw_le (fun j => if j = m then cR (dw N) y r m else if j < m then zR (dw N) y r j else 0) (m + 1)
  rw [a3] at this
  omega)).symm, hB3⟩
 clear hR3 hB3 hR2 hB2 a1 a2 a3 a4 AL hvww hmk z0 zf
 generalize w2.setCell ⟨nb, m, none⟩ (.int .u64 (cR (dw N) y r m : Int)) = w3 at hn AF ⊢
 go_wp2_with (go_at_call 173; (with_reducible refine hn.mono ?_); rintro e' w4 ⟨rfl, hw4⟩; rw [hw4]; clear hw4)
 go_ret
 obtain ⟨f, h1, h2, h3⟩ := AF.out
 exact ⟨f, rfl, h1, h2, h3.ext AX.out.1 AX.out.2⟩
end Go.Eng
namespace Go.Eng
open Go Go.RowKit Go.Proofs
set_option maxRecDepth 100000
theorem maw_zero {a : Option Addr} {c y r : Nat} {w : World} {Q : Value -> World -> Prop} (h : Calls Tryz.prog 171 #[.slice a 0 c, .int .u64 (r : Int)] w fun e w' => ∃ v, e = .returned v /\ Q v w') :
  Calls Tryz.prog 185 #[.slice a 0 c, .slice a 0 c, .int .u64 (y : Int), .int .u64 (r : Int)] w fun e w' => ∃ v, e = .returned v /\ Q v w' := by
 go_enter Tryz.func185, Tryz.ntmps185
 go_wp2_with (go_at_call 171; (with_reducible refine h.mono ?_); rintro e' w2 ⟨v, rfl, hQ⟩)
 go_ret
 exact ⟨v, rfl, hQ⟩
theorem Ext.since {w w' : World} {B0 : Nat} (h : Ext w w') (hB : B0 <= w.heap.size) : w.Since B0 w' := ⟨h.os, h.tape, h.output, h.size, fun i hi => h.block i (by omega)⟩
theorem maw_nat {v : Value} {N y r B0 : Nat} {w : World} (hv : NatW w v N B0) (hB : B0 <= w.heap.size) (hl : nlw N <= 1000) (hy0 : y ≠ 0) (hy : y < 18446744073709551616) (hr : r < 18446744073709551616) :
  Calls Tryz.prog 185 #[v, v, .int .u64 (y : Int), .int .u64 (r : Int)] w fun e w' => ∃ v', e = .returned v' /\ NatW w' v' (N * y + r) B0 /\ w.Since B0 w' := by
 by_cases hN : N = 0
 ·subst hN
  rw [Nat.zero_mul, Nat.zero_add]
  by_cases h0 : r = 0
  ·subst h0
   rcases hv with ⟨rfl, _⟩ | ⟨b, c, e, rfl, h1, h2, h3, h4, h5, h6⟩
   ·exact maw_zero ((setword_zero (b := 0) (.inl ⟨rfl, rfl⟩) w).mono fun e w' ⟨k1, k2⟩ => ⟨_, k1, by rw [k2]; exact ⟨.inl ⟨rfl, rfl⟩, World.Since.refl _ _⟩⟩)
   ·exact maw_zero ((setword_zero (b := b) (c := c) (.inr rfl) w).mono fun e' w' ⟨k1, k2⟩ => ⟨_, k1, by rw [k2]; exact ⟨.inr ⟨b, c, e, rfl, h1, h2, h3, h4, h5, h6⟩, World.Since.refl _ _⟩⟩)
  ·have e1 := nlw_small h0 hr
   rcases hv with ⟨rfl, _⟩ | ⟨b, c, e, rfl, h1, h2, h3, h4, h5, h6⟩
   ·refine maw_zero ((setword_nil h0 w).mono fun e w' ⟨k1, k2⟩ => ⟨_, k1, ?_, ?_⟩)
    ·rw [k2]
     refine .inr ⟨w.heap.size, 1, _, by rw [e1], by omega, by omega, by omega, hB, (RowW.made w 1).set 0 r, fun j hj => ?_⟩
     have hj0 : j = 0 := by omega
     subst hj0
     rw [if_pos rfl, dw_small hr]
    ·rw [k2]
     exact Ext.since (World.Since.setCell ((Ext.refl w).alloc _) (Nat.le_refl _) _) hB
   ·refine maw_zero ((setword_fit h0 h2 h3 h5).mono fun e' w' ⟨k1, k2⟩ => ⟨_, k1, ?_, ?_⟩)
    ·rw [k2]
     refine .inr ⟨b, c, _, by rw [e1], by omega, h2, h3, h4, h5.set 0 r, fun j hj => ?_⟩
     have hj0 : j = 0 := by omega
     subst hj0
     rw [if_pos rfl, dw_small hr]
    ·rw [k2]
     exact ((But.refl b w).set 0 _).since h4
 ·rcases hv with ⟨_, h⟩ | ⟨b, c, e, rfl, h1, h2, h3, h4, h5, h6⟩
  ·exact absurd h hN
  ·have hpos := nlw_pos hN
   by_cases hfit : nlw N + 1 <= c
   ·refine (maw_fit hN hfit h3 h5 h6 hy0 hy hr).mono ?_
    rintro e' w' ⟨f, rfl, k1, k2, k3⟩
    have hle : nlw (N * y + r) <= c := by
     refine Nat.le_trans (nlw_le (l := nlw N + 1) ?_) hfit
     have := lt_nlw N
     have e1 : N * y + r < wq ^ nlw N * wq := by
      have a1 : N + 1 <= wq ^ nlw N := this
      have a2 : (N + 1) * wq <= wq ^ nlw N * wq := Nat.mul_le_mul_right _ a1
      have a3 : N * y <= N * 18446744073709551615 := Nat.mul_le_mul_left _ (by omega)
      have a4 : wq = 18446744073709551616 := rfl
      rw [a4] at a2 ⊢
      omega
     rw [Nat.pow_succ]; exact e1
    exact ⟨_, rfl, .inr ⟨b, c, f, rfl, hle, h2, h3, h4, k1, k2⟩, k3.since h4⟩
   ·refine (maw_new hN (by omega) h1 (by omega) h5 h6 hy0 hy hr).mono ?_
    rintro e' w' ⟨f, rfl, k1, k2, k3⟩
    have hle : nlw (N * y + r) <= nlw N + 1 + 4 := by
     refine Nat.le_trans (nlw_le (l := nlw N + 1) ?_) (by omega)
     have := lt_nlw N
     have e1 : N * y + r < wq ^ nlw N * wq := by
      have a1 : N + 1 <= wq ^ nlw N := this
      have a2 : (N + 1) * wq <= wq ^ nlw N * wq := Nat.mul_le_mul_right _ a1
      have a3 : N * y <= N * 18446744073709551615 := Nat.mul_le_mul_left _ (by omega)
      have a4 : wq = 18446744073709551616 := rfl
      rw [a4] at a2 ⊢
      omega
     rw [Nat.pow_succ]; exact e1
    exact ⟨_, rfl, .inr ⟨w.heap.size, nlw N + 1 + 4, f, rfl, hle, by omega, by omega, hB, k1, k2⟩, Ext.since k3 hB⟩
end Go.Eng
namespace Go.Eng
open Go Go.RowKit Go.Proofs
set_option maxRecDepth 100000
def Rdr (w : World) (rb : Nat) (s : ByteArray) (i : Nat) : Prop := w.cell? ⟨rb, 0, none⟩ = some (.string s) /\ w.cell? ⟨rb, 1, none⟩ = some (.int .i64 (i : Int)) /\ (∃ p : Int, w.cell? ⟨rb, 2, none⟩ = some (.int .i64 p)) /\ ∀ o, w.frozen? ⟨rb, o, none⟩ = false
theorem Rdr.since {w w' : World} {rb B0 : Nat} {s : ByteArray} {i : Nat} (h : Rdr w rb s i) (k : w.Since B0 w') (hb : rb < B0) : Rdr w' rb s i := by
 obtain ⟨h0, h1, ⟨p, h2⟩, h3⟩ := h
 have e : ∀ o, w'.cell? ⟨rb, o, none⟩ = w.cell? ⟨rb, o, none⟩ := fun o => by unfold World.cell?; rw [k.block rb hb]
 have f : ∀ o, w'.frozen? ⟨rb, o, none⟩ = w.frozen? ⟨rb, o, none⟩ := fun o => by unfold World.frozen?; rw [k.block rb hb]
 exact ⟨(e 0).trans h0, (e 1).trans h1, ⟨p, (e 2).trans h2⟩, fun o => (f o).trans (h3 o)⟩
theorem Rdr.drew {w : World} {rb : Nat} {s : ByteArray} {i : Nat} (h : Rdr w rb s i) : Rdr w.drew rb s i := h
set_option maxHeartbeats 1600000 in
theorem readByte_walk {w : World} {rb : Nat} {s : ByteArray} {i : Nat} (h : Rdr w rb s i) (hi : i < s.size) (hs : s.size <= 1000000) :
  Calls Tryz.prog 291 #[.pointer (some ⟨rb, 0, none⟩)] w fun e w' => e = .returned (.tuple #[.int .u8 (((s.data.getD i 0).toNat : Nat) : Int), .nilIface]) /\ Rdr w' rb s (i + 1) /\ But rb w w' := by
 obtain ⟨h0, h1, ⟨p, h2⟩, h3⟩ := h
 obtain ⟨W, hW⟩ : ∃ W, W = w.setCell ⟨rb, 2, none⟩ (.int .i64 (-1)) := ⟨_, rfl⟩
 have k0 : W.cell? ⟨rb, 0, none⟩ = some (.string s) := by rw [hW, World.cell?_setCell_other _ _ _ _ (by simp)]; exact h0
 have k1 : W.cell? ⟨rb, 1, none⟩ = some (.int .i64 (i : Int)) := by rw [hW, World.cell?_setCell_other _ _ _ _ (by simp)]; exact h1
 have k2 : W.cell? ⟨rb, 2, none⟩ = some (.int .i64 (-1)) := by rw [hW]; exact World.cell?_setCell_same _ _ _ h2
 have k3 : ∀ o, W.frozen? ⟨rb, o, none⟩ = false := fun o => by rw [hW]; simp only [World.frozen?_setCell]; exact h3 o
 have hB : But rb w W := by rw [hW]; exact (But.refl rb w).set 2 _
 have hlt : ¬ (s.size : Int) <= (i : Int) := by omega
 have hov : IntKind.i64.wrap ((i : Int) + 1) = ((i + 1 : Nat) : Int) := by rw [IntKind.wrap_i64]; omega
 go_enter Tryz.func291, Tryz.ntmps291
 go_upto_region 2 with fail
 rw [<- hW]
 have AB : Aside (But rb w W /\ W.cell? ⟨rb, 2, none⟩ = some (.int .i64 (-1))) := ⟨hB, k2⟩
 clear hW h0 h1 h2 h3 hB k2
 go_region
 go_upto_region 4 with fail
 have h0i : (0 : Int) <= (i : Int) := by omega
 have hii : (i : Int) < (s.size : Int) := by omega
 go_region
 go_wp2
 have hget : s.data.getD i 0 = s[i] := by
  show s.data.getD i 0 = s.data[i]
  have : i < s.data.size := hi
  rw [Array.getD_eq_getD_getElem?, Array.getElem?_eq_getElem this]
  rfl
 simp [bodyPost, results, Tryz.results291, go_sem]
 obtain ⟨hB, k2⟩ := AB.out
 refine ⟨rfl, Rdr.drew (Rdr.drew ⟨?_, ?_, ⟨-1, ?_⟩, fun o => ?_⟩), ((hB.set 1 _).drew).drew⟩
 ·rw [World.cell?_setCell_other _ _ _ _ (by simp)]; exact k0
 ·rw [World.cell?_setCell_same _ _ _ k1, show ((i + 1 : Nat) : Int) = (i : Int) + 1 by omega]
 ·rw [World.cell?_setCell_other _ _ _ _ (by simp)]; exact k2
 ·simp only [World.frozen?_setCell]; exact k3 o
set_option maxHeartbeats 1600000 in
theorem readEnd_walk {w : World} {rb eb eo : Nat} {s : ByteArray} (h : Rdr w rb s s.size) (hs : s.size <= 1000000) (hg : w.cell? ⟨2, 0, none⟩ = some (.iface 181 (.pointer (some ⟨eb, eo, none⟩)))) (h2r : rb ≠ 2) :
  Calls Tryz.prog 291 #[.pointer (some ⟨rb, 0, none⟩)] w fun e w' => e = .returned (.tuple #[.int .u8 0, .iface 181 (.pointer (some ⟨eb, eo, none⟩))]) /\ Rdr w' rb s s.size /\ But rb w w' := by
 obtain ⟨h0, h1, ⟨p, h2⟩, h3⟩ := h
 obtain ⟨W, hW⟩ : ∃ W, W = w.setCell ⟨rb, 2, none⟩ (.int .i64 (-1)) := ⟨_, rfl⟩
 have k0 : W.cell? ⟨rb, 0, none⟩ = some (.string s) := by rw [hW, World.cell?_setCell_other _ _ _ _ (by simp)]; exact h0
 have k1 : W.cell? ⟨rb, 1, none⟩ = some (.int .i64 (s.size : Int)) := by rw [hW, World.cell?_setCell_other _ _ _ _ (by simp)]; exact h1
 have k2 : W.cell? ⟨rb, 2, none⟩ = some (.int .i64 (-1)) := by rw [hW]; exact World.cell?_setCell_same _ _ _ h2
 have k3 : ∀ o, W.frozen? ⟨rb, o, none⟩ = false := fun o => by rw [hW]; simp only [World.frozen?_setCell]; exact h3 o
 have kg : W.cell? ⟨2, 0, none⟩ = some (.iface 181 (.pointer (some ⟨eb, eo, none⟩))) := by rw [hW, World.cell?_setCell_other _ _ _ _ (by simp)]; exact hg
 have hB : But rb w W := by rw [hW]; exact (But.refl rb w).set 2 _
 go_enter Tryz.func291, Tryz.ntmps291
 go_upto_region 2 with fail
 rw [<- hW]
 have AB : Aside (But rb w W /\ W.cell? ⟨rb, 2, none⟩ = some (.int .i64 (-1)) /\ W.cell? ⟨rb, 0, none⟩ = some (.string s) /\ W.cell? ⟨rb, 1, none⟩ = some (.int .i64 (s.size : Int)) /\ ∀ o, W.frozen? ⟨rb, o, none⟩ = false) := ⟨hB, k2, k0, k1, k3⟩
 clear hW h0 h1 h2 h3 hB k2 hg
 go_region
 go_upto_region 3 with fail
 go_region
 go_wp2
 simp [bodyPost, results, Tryz.results291, go_sem]
 obtain ⟨hB, k2, k0, k1, k3⟩ := AB.out
 exact ⟨Rdr.drew (Rdr.drew ⟨k0, k1, ⟨-1, k2⟩, k3⟩), hB.drew.drew⟩
set_option maxHeartbeats 1600000 in
theorem unread_walk {w : World} {rb : Nat} {s : ByteArray} {i : Nat} (h : Rdr w rb s (i + 1)) (hi : i <= 1000000) :
  Calls Tryz.prog 292 #[.pointer (some ⟨rb, 0, none⟩)] w fun e w' => e = .returned .nilIface /\ Rdr w' rb s i /\ But rb w w' := by
 obtain ⟨h0, h1, ⟨p, h2⟩, h3⟩ := h
 have hB := But.refl rb w
 have n1 : ∀ x, (w.setCell ⟨rb, 2, none⟩ x).cell? ⟨rb, 1, none⟩ = some (.int .i64 ((i + 1 : Nat) : Int)) := fun x => by rw [World.cell?_setCell_other _ _ _ _ (by simp)]; exact h1
 have hle : ¬ ((i + 1 : Nat) : Int) <= 0 := by omega
 have hov : IntKind.i64.wrap (((i + 1 : Nat) : Int) - 1) = (i : Int) := by rw [IntKind.wrap_i64]; omega
 have AK : Aside (Rdr ((w.setCell ⟨rb, 2, none⟩ (.int .i64 (-1))).setCell ⟨rb, 1, none⟩ (.int .i64 (i : Int))) rb s i /\ But rb w ((w.setCell ⟨rb, 2, none⟩ (.int .i64 (-1))).setCell ⟨rb, 1, none⟩ (.int .i64 (i : Int)))) := by
  refine ⟨⟨?_, ?_, ⟨-1, ?_⟩, fun o => ?_⟩, (hB.set 2 _).set 1 _⟩
  ·rw [World.cell?_setCell_other _ _ _ _ (by simp), World.cell?_setCell_other _ _ _ _ (by simp)]; exact h0
  ·exact World.cell?_setCell_same _ _ _ (n1 _)
  ·rw [World.cell?_setCell_other _ _ _ _ (by simp)]; exact World.cell?_setCell_same _ _ _ h2
  ·simp only [World.frozen?_setCell]; exact h3 o
 clear hB
 go_enter Tryz.func292, Tryz.ntmps292
 go_wp2
 go_ret
 exact ⟨rfl, AK.out⟩
end Go.Eng
namespace Go.Eng
open Go Go.RowKit Go.Proofs
set_option maxRecDepth 100000
set_option maxHeartbeats 1600000 in
theorem maxPow10 (w : World) : Calls Tryz.prog 125 #[.int .u64 10] w fun e w' => e = .returned (.tuple #[.int .u64 10000000000000000000, .int .i64 19]) /\ w' = w := by
 go_enter Tryz.func125, Tryz.ntmps125
 go_wp2
 go_loopg [2, 3] 18 (fun g s2 s3 wr => wr = w /\ g <= 18 /\ s2 = .int .u64 ((10 ^ (19 - g) : Nat) : Int) /\ s3 = .int .i64 ((19 - g : Nat) : Int))
 case atStart => exact ⟨rfl, Nat.le_refl _, rfl, rfl⟩
 case round =>
  obtain ⟨rfl, hg, rfl, rfl⟩ := hrel
  cases gk with
  | zero =>
    rw [show ((10 ^ (19 - 0) : Nat) : Int) = 10000000000000000000 from rfl, show ((19 - 0 : Nat) : Int) = 19 from rfl]
    go_wp2
    simp [bodyPost, results, Tryz.results125, go_sem]
  | succ g =>
    obtain ⟨k, hk⟩ : ∃ k, k = 19 - (g + 1) := ⟨_, rfl⟩
    have hkl : k <= 18 := by omega
    have e1 : 19 - g = k + 1 := by omega
    rw [<- hk]
    have hp : 10 ^ k <= 10 ^ 18 := Nat.pow_le_pow_right (by decide) hkl
    have hp' : (10 ^ 18 : Nat) = 1000000000000000000 := rfl
    obtain ⟨P, hP⟩ : ∃ P, P = 10 ^ k := ⟨_, rfl⟩
    rw [<- hP] at hp ⊢
    have hle : (P : Int) <= 1844674407370955161 := by omega
    have hw1 : IntKind.u64.wrap ((P : Int) * 10) = ((P * 10 : Nat) : Int) := by rw [IntKind.wrap_u64]; omega
    have hw2 : IntKind.i64.wrap ((k : Int) + 1) = ((k + 1 : Nat) : Int) := by rw [IntKind.wrap_i64]; omega
    have AP : Aside (P = 10 ^ k /\ 19 - g = k + 1 /\ g + 1 <= 18) := ⟨hP, e1, hg⟩
    clear hP hp hp' hk e1 hg
    go_wp2
    go_roundg g
    case measure => omega
    case rel =>
     go_light
     obtain ⟨hP, e1, hg⟩ := AP.out
     rw [e1, Nat.pow_succ, <- hP]
     refine ⟨rfl, by omega, ?_, ?_⟩
     ·first | rfl | (rw [hw1]) | simp
     ·first | rfl | (rw [hw2]) | simp
end Go.Eng
namespace Go.Eng
open Go Go.RowKit Go.Proofs
set_option maxRecDepth 100000
theorem and1_i64 {n : Nat} (h : n < 9223372036854775808) : bits .and .i64 (n : Int) 1 = ((n % 2 : Nat) : Int) := by
 have := (bits_nat .i64 63 (by decide) (fun n h0 h1 => by rw [IntKind.wrap_i64]; omega) n 1 h (by decide)).1
 rw [show ((1 : Nat) : Int) = 1 from rfl] at this
 rw [this]
 congr 1
 exact Nat.and_one_is_mod n
theorem powM_step (r x n : Nat) : (r * x % 18446744073709551616) * (x * x % 18446744073709551616) ^ n % 18446744073709551616 = r * x ^ (2 * n + 1) % 18446744073709551616 := by
 rw [Nat.mul_mod, Nat.mod_mod, <- Nat.pow_mod, <- Nat.mul_mod]
 congr 1
 rw [Nat.mul_assoc, <- Nat.pow_two, <- Nat.pow_mul, Nat.pow_succ, Nat.mul_comm x]
theorem powM_step0 (r x n : Nat) : r * (x * x % 18446744073709551616) ^ n % 18446744073709551616 = r * x ^ (2 * n) % 18446744073709551616 := by
 rw [Nat.mul_mod, <- Nat.pow_mod, <- Nat.mul_mod]
 congr 1
 rw [<- Nat.pow_two, <- Nat.pow_mul]
set_option maxHeartbeats 1600000 in
theorem pow_walk {i : Nat} (hi : i <= 19) (w : World) : Calls Tryz.prog 186 #[.int .u64 10, .int .i64 (i : Int)] w fun e w' => e = .returned (.int .u64 ((10 ^ i : Nat) : Int)) /\ w' = w := by
 have hp19 : 10 ^ i <= 10 ^ 19 := Nat.pow_le_pow_right (by decide) hi
 have hp : 10 ^ i % 18446744073709551616 = 10 ^ i := Nat.mod_eq_of_lt (Nat.lt_of_le_of_lt hp19 (by decide))
 go_enter Tryz.func186, Tryz.ntmps186
 go_wp2
 go_loopg [0, 1, 4] i (fun g s0 s1 s4 wr => ∃ x n r : Nat, wr = w /\ n = g /\ n <= 19 /\ s0 = .int .u64 (x : Int) /\ s1 = .int .i64 (n : Int) /\ s4 = .int .u64 (r : Int) /\ r < 18446744073709551616 /\ r * x ^ n % 18446744073709551616 = 10 ^ i)
 case atStart => exact ⟨10, i, 1, rfl, rfl, hi, rfl, rfl, rfl, by decide, by rw [Nat.one_mul]; exact hp⟩
 case round =>
  obtain ⟨x, n, r, rfl, rfl, hn, rfl, rfl, rfl, hr, hv⟩ := hrel
  by_cases h0 : n = 0
  ·subst h0
   rw [Nat.pow_zero, Nat.mul_one, Nat.mod_eq_of_lt hr] at hv
   have AV : Aside (r = 10 ^ i) := hv
   clear hv hp hp19 hr
   rw [show ((0 : Nat) : Int) = 0 from rfl]
   go_wp2
   go_ret
   exact ⟨by rw [AV.out]; rfl, rfl⟩
  ·have hgt : ¬ (n : Int) <= 0 := by omega
   have hgt2 : (0 : Int) < (n : Int) := by omega
   have ha := and1_i64 (n := n) (by omega)
   have hxx : IntKind.u64.wrap ((x : Int) * (x : Int)) = ((x * x % 18446744073709551616 : Nat) : Int) := by rw [IntKind.wrap_u64]; rfl
   have hrx : IntKind.u64.wrap ((r : Int) * (x : Int)) = ((r * x % 18446744073709551616 : Nat) : Int) := by rw [IntKind.wrap_u64]; rfl
   by_cases hodd : n % 2 = 1
   ·rw [hodd, show ((1 : Nat) : Int) = 1 from rfl] at ha
    have hn2 : n = 2 * (n / 2) + 1 := by omega
    have AV : Aside (r * x ^ n % 18446744073709551616 = 10 ^ i /\ n = 2 * (n / 2) + 1 /\ n <= 19) := ⟨hv, hn2, hn⟩
    clear hv hp hp19 hn2 hodd hn
    go_wp2
    go_roundg (n / 2)
    case measure => go_light; omega
    case rel =>
     go_light
     obtain ⟨hv, hn2, hn⟩ := AV.out
     refine ⟨x * x % 18446744073709551616, n / 2, r * x % 18446744073709551616, rfl, rfl, by omega, ?_, ?_, ?_, Nat.mod_lt _ (by decide), ?_⟩
     ·first | rfl | simp
     ·first | rfl | simp
     ·first | rfl | simp
     ·rw [powM_step, <- hn2]; exact hv
   ·rw [show n % 2 = 0 by omega, show ((0 : Nat) : Int) = 0 from rfl] at ha
    have hn2 : n = 2 * (n / 2) := by omega
    have AV : Aside (r * x ^ n % 18446744073709551616 = 10 ^ i /\ n = 2 * (n / 2) /\ n <= 19 /\ r < 18446744073709551616) := ⟨hv, hn2, hn, hr⟩
    clear hv hp hp19 hn2 hodd hn hr hrx
    go_wp2
    go_roundg (n / 2)
    case measure => go_light; omega
    case rel =>
     go_light
     obtain ⟨hv, hn2, hn, hr⟩ := AV.out
     refine ⟨x * x % 18446744073709551616, n / 2, r, rfl, rfl, by omega, ?_, ?_, rfl, hr, ?_⟩
     ·first | rfl | simp
     ·first | rfl | simp
     ·rw [powM_step0, <- hn2]; exact hv
end Go.Eng
namespace Go.Eng
open Go Go.RowKit Go.Proofs
set_option maxRecDepth 100000
theorem meth_of {t : TypeId} {inf : TypeInfo} {e : TypeId} {name : String} {f : FuncId} (hi : Tryz.prog.info? t = some inf) (hu : Tryz.prog.underlying t = some (.pointer e)) (hm : ((inf.methods.find? (·.name == name)).map fun m => (m.path.toList, m.func)) = some ([], some (f, true))) (k : Nat) (v : Value) (w : World) :
  (method (k + 1) t v name).run Tryz.prog w = .ok (f, v) w := by
 obtain ⟨m, hm1, hm2⟩ := Option.map_eq_some_iff.1 hm
 simp only [Prod.mk.injEq] at hm2
 obtain ⟨hpath, hfn⟩ := hm2
 unfold method
 rw [run_bind_ok (run_typeInfo hi w)]
 simp only [hm1, hpath]
 have hfo : (follow [] t (.val v)).run Tryz.prog w = .ok (t, .val v) w := rfl
 rw [run_bind_ok hfo]
 simp only [hfn]
 have hrec : ∀ wr, (receiverAt t (.val v) true wr).run Tryz.prog w = .ok v w := fun wr => by
  unfold receiverAt
  rw [run_bind_ok (run_underlying hu w)]
  rfl
 rw [run_bind_ok (hrec _)]
 rfl
theorem info146 : Tryz.prog.info? 151 = some Tryz.t151 := by kernel_rfl
theorem meth_read (v : Value) (w : World) : (method 400 151 v "ReadByte").run Tryz.prog w = .ok (291, v) w := meth_of info146 Tryz.underlying151 (by kernel_rfl) 399 v w
theorem meth_unread (v : Value) (w : World) : (method 400 151 v "UnreadByte").run Tryz.prog w = .ok (292, v) w := meth_of info146 Tryz.underlying151 (by kernel_rfl) 399 v w
theorem eq_eof (a : Addr) (w : World) : (binOp .eql 125 (.iface 181 (.pointer (some a))) (.iface 181 (.pointer (some a)))).run Tryz.prog w = .ok (.bool true) w := by
 obtain ⟨i, hi, hc⟩ := Option.map_eq_some_iff.1 (show (Tryz.prog.info? 181).map (·.comparable) = some true by kernel_rfl)
 obtain ⟨j, hj⟩ : ∃ j, Tryz.prog.info? 183 = some j := Option.isSome_iff_exists.1 (by kernel_rfl)
 exact run_eql_iface_ptr_same w a Tryz.underlying125 Tryz.underlying181 hi hc hj
theorem ne_eof (a : Addr) (w : World) : (binOp .neq 125 (.iface 181 (.pointer (some a))) (.iface 181 (.pointer (some a)))).run Tryz.prog w = .ok (.bool false) w := by
 obtain ⟨i, hi, hc⟩ := Option.map_eq_some_iff.1 (show (Tryz.prog.info? 181).map (·.comparable) = some true by kernel_rfl)
 obtain ⟨j, hj⟩ : ∃ j, Tryz.prog.info? 183 = some j := Option.isSome_iff_exists.1 (by kernel_rfl)
 simp only [binOp]
 simp [Op.equal, Op.maxDepth, run_equalIn_iface_ptr_same w 9998 a Tryz.underlying125 Tryz.underlying181 hi hc hj]
end Go.Eng
