/-
 Plain laws of digits to the base 2^32, and contracts of the reference package spec over natural numbers.
-/
import Derived.WalkKit
import Derived.Deep.LoopGhost
import Derived.Deep.OwnRows
import Derived.Deep.Cut
import Derived.Deep.Light
import Derived.Outline
import Derived.BigQuiet
import Derived.Deep.QuietTactic
import Derived.Test.YtajgaijilkfjnaaGreatDoorProg
import Derived.Deep.DeepMust
import Derived.Test.YtajgaijilkfjnaaGreatDoorA1
set_option linter.unusedVariables false
set_option linter.unusedSimpArgs false
namespace Go.Eng
open Go Go.RowKit
def Row (w : World) (b n : Nat) (d : Nat -> Nat) : Prop :=
 ∃ c : Array Value, w.heap[b]? = some (.cells c 85 (0, 0)) /\ n <= c.size /\ ∀ i, i < n -> c[i]? = some (.int .u32 (d i : Int))
namespace Row
variable {w : World} {b n : Nat} {d e : Nat -> Nat}
theorem cell (h : Row w b n d) {i : Nat} (hi : i < n) : w.cell? ⟨b, i, none⟩ = some (.int .u32 (d i : Int)) := by
 obtain ⟨c, hb, _, hc⟩ := h
 simp [World.cell?, hb, hc i hi]
theorem frozen (h : Row w b n d) (i : Nat) : w.frozen? ⟨b, i, none⟩ = false := by
 obtain ⟨c, hb, _, _⟩ := h
 simp [World.frozen?, hb]
theorem lt (h : Row w b n d) : b < w.heap.size := by
 obtain ⟨c, hb, _, _⟩ := h
 exact (Array.getElem?_eq_some_iff.1 hb).1
theorem congr (h : Row w b n d) (k : ∀ i, i < n -> d i = e i) : Row w b n e := by
 obtain ⟨c, hb, hn, hc⟩ := h
 exact ⟨c, hb, hn, fun i hi => by rw [hc i hi, k i hi]⟩
theorem of_block {w' : World} (h : Row w b n d) (k : w'.heap[b]? = w.heap[b]?) : Row w' b n d := by
 obtain ⟨c, hb, hn, hc⟩ := h
 exact ⟨c, k.trans hb, hn, hc⟩
theorem set (h : Row w b n d) (i v : Nat) : Row (w.setCell ⟨b, i, none⟩ (.int .u32 (v : Int))) b n (fun j => if j = i then v else d j) := by
 obtain ⟨c, hb, hn, hc⟩ := h
 refine ⟨c.setIfInBounds i (.int .u32 (v : Int)), ?_, by simpa using hn, fun j hj => ?_⟩
 ·simp [World.setCell, Array.getElem?_modify, hb]
 ·rw [Array.getElem?_setIfInBounds]
  by_cases e : i = j
  ·subst e
   have : i < c.size := by omega
   simp [this]
  ·rw [if_neg e]
   have e' : ¬ j = i := fun h => e h.symm
   simp only [e', if_false]
   exact hc j hj
theorem setOther (h : Row w b n d) {a : Addr} (ha : b ≠ a.block) (v : Value) : Row (w.setCell a v) b n d := h.of_block (Go.Deep.blk_setCell_other _ _ _ _ ha)
theorem alloc (h : Row w b n d) (o : Obj) : Row (w.alloc o) b n d := h.of_block (Go.Deep.blk_alloc_lt _ _ _ h.lt)
theorem drew (h : Row w b n d) : Row w.drew b n d := h
theorem drewN (h : Row w b n d) (k : Nat) : Row (w.drewN k) b n d := h.of_block (by simp)
theorem since {B : Nat} {w' : World} (h : Row w b n d) (k : w.Since B w') (hb : b < B) : Row w' b n d := h.of_block (k.block b hb)
theorem ofRowIs {f : Nat -> Value} (h : w.rowIs b 85 n f) (k : ∀ i, i < n -> f i = .int .u32 (d i : Int)) : Row w b n d := by
 obtain ⟨c, hb, hn, hc⟩ := h
 exact ⟨c, hb, by omega, fun i hi => by rw [hc i hi, k i hi]⟩
end Row
def Ext (w w' : World) : Prop := w.Since w.heap.size w'
namespace Ext
variable {w w' w'' : World}
theorem refl (w : World) : Ext w w := World.Since.refl _ _
theorem trans (h : Ext w w') (k : Ext w' w'') : Ext w w'' :=
 ⟨k.os.trans h.os, k.tape.trans h.tape, k.output.trans h.output, Nat.le_trans h.size k.size, fun i hi => (k.block i (Nat.lt_of_lt_of_le hi h.size)).trans (h.block i hi)⟩
theorem drew (h : Ext w w') : Ext w w'.drew := World.Since.drew h
theorem drewN (h : Ext w w') (k : Nat) : Ext w (w'.drewN k) := ⟨h.os, h.tape, h.output, h.size, h.block⟩
theorem alloc (h : Ext w w') (o : Obj) : Ext w (w'.alloc o) := World.Since.alloc h h.size o
theorem cell (h : Ext w w') {a : Addr} {v : Value} (k : w.cell? a = some v) : w'.cell? a = some v := by
 rw [World.Since.cell h (World.block_lt_of_cell? _ _ k)]; exact k
end Ext
def Num (w : World) (v : Value) (N : Nat) : Prop :=
 ∃ (a : Option Addr) (b o c : Nat), v = .slice a (nlen N) c /\ nlen N <= c /\ (0 < nlen N -> a = some ⟨b, o, none⟩) /\ ∀ j, j < nlen N -> w.cell? ⟨b, o + j, none⟩ = some (.int .u32 (dg N j : Int))
theorem Num.ext {w w' : World} {v : Value} {N : Nat} (e : Ext w w') (h : Num w v N) : Num w' v N := by
 obtain ⟨a, b, o, c, h1, h2, h3, h4⟩ := h
 exact ⟨a, b, o, c, h1, h2, h3, fun j hj => e.cell (h4 j hj)⟩
theorem Num.drew {w : World} {v : Value} {N : Nat} (h : Num w v N) : Num w.drew v N := h
theorem Num.drewN {w : World} {v : Value} {N : Nat} (h : Num w v N) (k : Nat) : Num (w.drewN k) v N := h
theorem Num.nil (w : World) : Num w (.slice none 0 0) 0 := ⟨none, 0, 0, 0, rfl, Nat.le_refl _, fun h => absurd h (Nat.lt_irrefl 0), fun j hj => absurd hj (Nat.not_lt_zero j)⟩
end Go.Eng
namespace Go.Eng
open Go Go.RowKit Go.Proofs
set_option maxRecDepth 100000
set_option maxHeartbeats 1600000 in
theorem trim_walk (a : Option Addr) (b o l c : Nat) (d : Nat -> Nat) (w : World) (hl : l <= 16777216) (hc : l <= c) (ha : 0 < l -> a = some ⟨b, o, none⟩)
  (hcell : ∀ j, j < l -> w.cell? ⟨b, o + j, none⟩ = some (.int .u32 (d j : Int))) :
  Calls Tryz.prog 63 #[.slice a l c] w fun e w' => e = .returned (.slice a (tlen d l) c) /\ w' = w := by
 go_enter Tryz.func63, Tryz.ntmps63
 go_wp2
 go_loopg [0] l (fun g s wr => wr = w /\ g <= l /\ s = .slice a g c /\ tlen d g = tlen d l)
 case atStart => exact ⟨rfl, Nat.le_refl _, rfl, rfl⟩
 case round =>
  obtain ⟨rfl, hg, rfl, ht⟩ := hrel
  cases gk with
  | zero =>
    go_wp2
    go_ret
    exact ⟨by rw [<- ht]; rfl, rfl⟩
  | succ k =>
    have hb := ha (by omega)
    subst hb
    have g0 : wr.cell? ⟨b, o + k, none⟩ = some (.int .u32 (d k : Int)) := hcell k (by omega)
    have A0 : Aside (tlen d (k + 1) = tlen d l) := ht
    clear ht hcell ha
    by_cases hz : d k = 0
    ·have hz' : ((d k : Int) == 0) = true := by simp [hz]
     go_wp2
     go_roundg k
     case measure => go_light; omega
     case rel =>
      go_light
      refine ⟨rfl, by omega, ?_, ?_⟩
      ·first | rfl | simp
      ·have := A0.out
       rw [tlen, if_pos hz] at this
       exact this
    ·have hz' : ((d k : Int) == 0) = false := by simp [hz]
     go_wp2
     go_ret
     have := A0.out
     rw [tlen, if_neg hz] at this
     rw [<- this]
     exact ⟨rfl, rfl⟩
end Go.Eng
namespace Go.Eng
open Go Go.RowKit Go.Proofs
set_option maxRecDepth 100000
theorem und23 : Tryz.prog.underlying 27 = some (.slice 85) := by kernel_rfl
theorem inf59 : (Tryz.prog.info? 85).map (fun i => (i.zero, i.size, i.bytes)) = some (some (.int .u32 0), 1, 4) := by kernel_rfl
structure MulO (w wr : World) (n : Nat) (z : Nat -> Nat) : Prop where
 since : w.Since w.heap.size wr
 row : Row wr w.heap.size n z
 lt : ∀ j, z j < bq
theorem MulO.start (w : World) (n : Nat) : MulO w (w.alloc (.cells (madeCells #[.int .u32 0] n) 85)) n (fun _ => 0) :=
 ⟨(World.Since.refl _ _).alloc (Nat.le_refl _) _, Row.ofRowIs (World.rowIs_made w _ n 85) (fun j _ => rfl), fun j => by simp [bq]⟩
theorem MulO.set {w wr : World} {n : Nat} {z : Nat -> Nat} (h : MulO w wr n z) {i v : Nat} (hv : v < bq) : MulO w (wr.setCell ⟨w.heap.size, i, none⟩ (.int .u32 (v : Int))) n (upd z i v) :=
 ⟨h.since.setCell (Nat.le_refl _) _, h.row.set i v, upd_lt h.lt hv⟩
theorem MulO.drewN {w wr : World} {n : Nat} {z : Nat -> Nat} (h : MulO w wr n z) (k : Nat) : MulO w (wr.drewN k) n z := ⟨Ext.drewN h.since k, h.row.drewN k, h.lt⟩
theorem wrap_u64_nat {n : Nat} (h : n < bq * bq) : IntKind.u64.wrap (n : Int) = n := by
 rw [IntKind.wrap_u64]
 have : bq * bq = 18446744073709551616 := rfl
 exact Int.emod_eq_of_lt (by omega) (by omega)
theorem lt_bqq {n : Nat} (h : n < bq) : n < bq * bq := Nat.lt_of_lt_of_le h (by decide)
theorem mul_wrap {c z a b : Nat} (h1 : c < bq) (h2 : z < bq) (h3 : a < bq) (h4 : b < bq) :
  IntKind.u64.wrap ((c : Int) + IntKind.u64.wrap (IntKind.u64.wrap (z : Int) + IntKind.u64.wrap (IntKind.u64.wrap (a : Int) * IntKind.u64.wrap (b : Int)))) = ((c + (z + a * b) : Nat) : Int) := by
 have h5 := mul_carry h1 h2 h3 h4
 rw [wrap_u64_nat (lt_bqq h2), wrap_u64_nat (lt_bqq h3), wrap_u64_nat (lt_bqq h4), <- Int.natCast_mul, wrap_u64_nat (by omega), <- Int.natCast_add, wrap_u64_nat (by omega), <- Int.natCast_add, wrap_u64_nat h5]
theorem nat_div_bq (t : Nat) : ((t : Nat) : Int) / 4294967296 = ((t / bq : Nat) : Int) := rfl
theorem nat_mod_bq (t : Nat) : ((t : Nat) : Int) % 4294967296 = ((t % bq : Nat) : Int) := rfl
set_option maxHeartbeats 1600000 in
theorem mul_walk (ax ay : Option Addr) (bx ox lx cx by' oy ly cy : Nat) (dx dy : Nat -> Nat) (w : World) (hlx : lx <= 1048576) (hly : ly <= 1048576)
  (hax : 0 < lx -> ax = some ⟨bx, ox, none⟩) (hay : 0 < ly -> ay = some ⟨by', oy, none⟩)
  (hx : ∀ j, j < lx -> w.cell? ⟨bx, ox + j, none⟩ = some (.int .u32 (dx j : Int))) (hy : ∀ j, j < ly -> w.cell? ⟨by', oy + j, none⟩ = some (.int .u32 (dy j : Int)))
  (hdx : ∀ j, dx j < bq) (hdy : ∀ j, dy j < bq) :
  Calls Tryz.prog 61 #[.slice ax lx cx, .slice ay ly cy] w fun e w' => ∃ z, MulO w w' (lx + ly) z /\ valN z (lx + ly) = valN dx lx * valN dy ly /\ e = .returned (.slice (some ⟨w.heap.size, 0, none⟩) (tlen z (lx + ly)) (lx + ly)) := by
 have hmk := run_make_row' (P := Tryz.prog) 27 85 (.int .u32 0) 4 und23 inf59 rfl .i64 .i64 (lx + ly) (by omega) (by omega)
 rw [Int.natCast_add] at hmk
 go_enter Tryz.func61, Tryz.ntmps61
 go_wp2
 clear hmk
 go_loopg [6] lx (fun g i wr => ∃ (r : Nat) (z : Nat -> Nat), r <= lx /\ g = lx - r /\ i = .int .i64 r /\ MulO w wr (lx + ly) z /\ (∀ j, r + ly <= j -> z j = 0) /\ valN z (lx + ly) = valN dx r * valN dy ly)
 case atStart => exact ⟨0, _, Nat.zero_le _, rfl, rfl, MulO.start w _, fun _ _ => rfl, by rw [valN_zero (fun _ _ => rfl)]; simp [valN]⟩
 case round =>
  obtain ⟨r, z, hr, rfl, rfl, hO, hz0, hval⟩ := hrel
  by_cases hrl : r < lx
  ·have hrz : (r : Int) < (lx : Int) := by omega
   obtain rfl := hax (by omega)
   have AO : Aside (MulO w wr (lx + ly) z /\ (∀ j, r + ly <= j -> z j = 0) /\ valN z (lx + ly) = valN dx r * valN dy ly) := ⟨hO, hz0, hval⟩
   clear hO hz0 hval
   go_wp2
   go_loopg [7, 8] ly (fun g cr k wi => ∃ (c k' : Nat) (z' : Nat -> Nat), k' <= ly /\ g = ly - k' /\ cr = .int .u64 c /\ k = .int .i64 k' /\ c < bq /\ MulO w wi (lx + ly) z' /\ (∀ j, r + ly <= j -> z' j = 0) /\ valN z' (lx + ly) + c * bq ^ (r + k') = valN dx r * valN dy ly + dx r * (valN dy k' * bq ^ r))
   case atStart => exact ⟨0, 0, z, Nat.zero_le _, rfl, rfl, rfl, bq_pos, AO.out.1, AO.out.2.1, by rw [AO.out.2.2]; simp [valN]⟩
   case round =>
    obtain ⟨c, k, z', hk, rfl, rfl, rfl, hc, hM, hz0, hval⟩ := hrel
    by_cases hkl : k < ly
    ·have hkz : (k : Int) < (ly : Int) := by omega
     obtain rfl := hay (by omega)
     have g0 : wr.cell? ⟨bx, ox + r, none⟩ = some (.int .u32 (dx r : Int)) := Ext.cell hM.since (hx r hrl)
     have g1 : wr.cell? ⟨by', oy + k, none⟩ = some (.int .u32 (dy k : Int)) := Ext.cell hM.since (hy k hkl)
     have g2 : wr.cell? ⟨w.heap.size, r + k, none⟩ = some (.int .u32 (z' (r + k) : Int)) := hM.row.cell (by omega)
     have g3 : wr.frozen? ⟨w.heap.size, r + k, none⟩ = false := hM.row.frozen _
     have AI : Aside (MulO w wr (lx + ly) z' /\ (∀ j, r + ly <= j -> z' j = 0) /\ valN z' (lx + ly) + c * bq ^ (r + k) = valN dx r * valN dy ly + dx r * (valN dy k * bq ^ r)) := ⟨hM, hz0, hval⟩
     clear hM hz0 hval hx hy AO
     have hrk : (r : Int) + (k : Int) < (lx : Int) + (ly : Int) := by omega
     go_wp2
     go_quiet (fail)
     go_wp2
     go_roundg (ly - (k + 1))
     case measure => go_light; omega
     case rel =>
      go_light
      obtain ⟨hM, hz0, hval⟩ := AI.out
      have hzl := hM.lt (r + k)
      have ht := mul_carry hc hzl (hdx r) (hdy k)
      rw [mul_wrap hc hzl (hdx r) (hdy k)]
      simp only [nat_div_bq, nat_mod_bq]
      refine ⟨_, k + 1, _, by omega, rfl, rfl, rfl, div_bq_lt ht, (hM.drewN nq).set (mod_bq_lt _), fun j hj => ?_, ?_⟩
      ·rw [upd_other _ (by omega)]; exact hz0 j hj
      ·have := mul_in (z := z') (i := r + k) (ab := dx r * dy k) (by omega : r + k < lx + ly) hval
       rw [show r + (k + 1) = r + k + 1 from rfl, this, valN]
       rw [Nat.add_mul, Nat.mul_add, Nat.pow_add, Nat.mul_assoc (dy k), Nat.mul_comm (bq ^ k), Nat.mul_assoc (dx r), Nat.add_assoc]
    ·obtain rfl : k = ly := by omega
     have hkz : ¬ (k : Int) < (k : Int) := by omega
     have AI : Aside (MulO w wr (lx + k) z' /\ (∀ j, r + k <= j -> z' j = 0) /\ valN z' (lx + k) + c * bq ^ (r + k) = valN dx r * valN dy k + dx r * (valN dy k * bq ^ r)) := ⟨hM, hz0, hval⟩
     have g3 : wr.frozen? ⟨w.heap.size, r + k, none⟩ = false := hM.row.frozen _
     have g2 : wr.cell? ⟨w.heap.size, r + k, none⟩ = some (.int .u32 (z' (r + k) : Int)) := hM.row.cell (by omega)
     have hrk : (r : Int) + (k : Int) < (lx : Int) + (k : Int) := by omega
     clear hM hz0 hval hx hy hdx hdy AO
     go_wp2
     go_roundg (lx - (r + 1))
     case measure => go_light; omega
     case rel =>
      go_light
      obtain ⟨hM, hz0, hval⟩ := AI.out
      have em : ((c : Int) % 4294967296) = ((c : Nat) : Int) := by
       have : bq = 4294967296 := rfl
       omega
      rw [em]
      refine ⟨r + 1, _, by omega, rfl, rfl, hM.set hc, fun j hj => ?_, ?_⟩
      ·rw [upd_other _ (by omega)]; exact hz0 j (by omega)
      ·have := mul_end (z := z') (i := r + k) (by omega : r + k < lx + k) (hz0 _ (Nat.le_refl _)) hval
       rw [this, valN, Nat.add_mul, Nat.mul_comm (valN dy k), Nat.mul_assoc]
  ·obtain rfl : r = lx := by omega
   have hrz : ¬ (r : Int) < (r : Int) := by omega
   have AO : Aside (MulO w wr (r + ly) z /\ (∀ j, r + ly <= j -> z j = 0) /\ valN z (r + ly) = valN dx r * valN dy ly) := ⟨hO, hz0, hval⟩
   clear hO hz0 hval hx hy hdx hdy
   go_wp2_with (go_at_call 63; refine (trim_walk _ w.heap.size 0 (r + ly) (r + ly) z _ (by omega) (Nat.le_refl _) (fun _ => rfl) (fun j hj => by rw [Nat.zero_add]; exact AO.out.1.row.cell hj)).mono ?_; rintro e w' ⟨rfl, rfl⟩)
   go_ret
   obtain ⟨hM, _, hval⟩ := AO.out
   exact ⟨z, hM, hval, rfl⟩
end Go.Eng
namespace Go.Eng
open Go Go.RowKit Go.Proofs
set_option maxRecDepth 100000
def dvals (z : Nat -> Nat) (n : Nat) : List Value := (List.range n).map fun j => .int .u32 (z j : Int)
theorem dvals_length (z : Nat -> Nat) (n : Nat) : (dvals z n).length = n := by simp [dvals]
theorem dvals_succ (z : Nat -> Nat) (n d : Nat) : dvals z n ++ [.int .u32 (d : Int)] = dvals (upd z n d) (n + 1) := by
 rw [dvals, dvals, List.range_succ, List.map_append, List.map_singleton, upd_same]
 congr 1
 refine List.map_congr_left fun j hj => ?_
 rw [upd_other _ (by have := List.mem_range.1 hj; omega)]
theorem Row.ofOwn {w : World} {base g n cap : Nat} {z : Nat -> Nat} (h : w.ownsRow base 85 1 (.slice (some ⟨g, 0, none⟩) n cap) n (dvals z n)) : Row w g n z /\ base <= g := by
 obtain ⟨_, h2 | ⟨g', cap', cur, hv, hb, hg, hn, hm, hs, ht⟩⟩ := h
 ·obtain ⟨h2, _⟩ := h2; cases h2
 ·simp only [Value.slice.injEq, Option.some.injEq, Addr.mk.injEq] at hv
  obtain ⟨⟨rfl, _⟩, _, rfl⟩ := hv
  refine ⟨⟨cur, hg, by omega, fun i hi => ?_⟩, hb⟩
  have e : (dvals z n)[i]? = some (.int .u32 (z i : Int)) := by simp [dvals, hi]
  rw [<- ht, Nat.mul_one, List.getElem?_take, if_pos hi] at e
  simpa using e
theorem Ext.grown {w w1 w2 : World} {row : Option Nat} (h : Ext w w1) (hg : w1.grownBy w2 row) (hr : ∀ k, row = some k -> w.heap.size <= k) : Ext w w2 := World.Since.grown h hg h.size hr
theorem one_cell (w : World) (u : Value) (t : TypeId) : ∀ j v, [u][j]? = some v -> (w.alloc (.cells #[u] t)).cell? ((⟨w.heap.size, 0, none⟩ : Addr).add j) = some v := by
 intro j v hj
 match j, hj with
 | 0, hj => simp at hj; subst hj; simp [Addr.add]
theorem one_oneCell (k : IntKind) (n : Int) : ∀ u ∈ [Value.int k n], u.oneCell' = true := by
 intro u hu; simp at hu; subst hu; rfl
theorem small_carry {c a b : Nat} (h1 : c < bq) (h3 : a < bq) (h4 : b < bq) : c + a * b < bq * bq := by
 have := mul_carry h1 bq_pos h3 h4
 omega
theorem small_wrap {c a b : Nat} (h1 : c < bq) (h3 : a < bq) (h4 : b < bq) :
  IntKind.u64.wrap ((c : Int) + IntKind.u64.wrap (IntKind.u64.wrap (a : Int) * IntKind.u64.wrap (b : Int))) = ((c + a * b : Nat) : Int) := by
 have h5 := small_carry h1 h3 h4
 rw [wrap_u64_nat (lt_bqq h3), wrap_u64_nat (lt_bqq h4), <- Int.natCast_mul, wrap_u64_nat (by omega), <- Int.natCast_add, wrap_u64_nat h5]
theorem small_em {c : Nat} (hc : c < bq) : ((c : Int) % 4294967296) = ((c : Nat) : Int) := by
 have : bq = 4294967296 := rfl
 omega
set_option maxHeartbeats 1600000 in
theorem small_core (ax : Option Addr) (bx ox lx cx y more : Nat) (dx : Nat -> Nat) (w : World) (hlx : lx <= 1048576) (hax : 0 < lx -> ax = some ⟨bx, ox, none⟩)
  (hx : ∀ j, j < lx -> w.cell? ⟨bx, ox + j, none⟩ = some (.int .u32 (dx j : Int))) (hdx : ∀ j, dx j < bq) (hy : y < bq) (hm : more < bq) :
  Calls Tryz.prog 39 #[.slice ax lx cx, .int .u32 y, .int .u32 more] w fun e w' => ∃ z, (∀ j, z j < bq) /\ Row w' w.heap.size (lx + 1) z /\ valN z (lx + 1) = valN dx lx * y + more /\ e = .returned (.slice (some ⟨w.heap.size, 0, none⟩) (tlen z (lx + 1)) (lx + 1)) /\ Ext w w' := by
 obtain ⟨i0, hi, hz0, hz1, hz2⟩ := info_parts inf59
 go_enter Tryz.func39, Tryz.ntmps39
 go_wp2_with (at_make; refine wpList_make_own _ rfl _ _ 27 rfl w.heap.size 85 i0 (.int .u32 0) 1 und23 hi hz0 hz1 _ _ _ (lx + 1) rfl rfl (by omega) ?b2 ?b3 (Nat.le_refl _) ?_)
 case b2 => rw [hz2]; omega
 case b3 => unfold maxLen; omega
 intro w0 hown0 hgrow0
 go_wp2
 rw [wrap_u64_nat (lt_bqq hm)]
 go_loopg [7, 8, 9] lx (fun g out cr i wr => ∃ (r c : Nat) (z : Nat -> Nat), r <= lx /\ g = lx - r /\ out = .slice (some ⟨w.heap.size, 0, none⟩) r (lx + 1) /\ cr = .int .u64 c /\ i = .int .i64 r /\ c < bq /\ (∀ j, z j < bq) /\
  wr.ownsRow w.heap.size 85 1 (.slice (some ⟨w.heap.size, 0, none⟩) r (lx + 1)) r (dvals z r) /\ valN z r + c * bq ^ r = valN dx r * y + more /\ Ext w wr)
 case atStart => exact ⟨0, more, fun _ => 0, Nat.zero_le _, rfl, rfl, rfl, rfl, hm, fun _ => bq_pos, hown0, by simp [valN], (Ext.refl w).grown hgrow0 (fun k h => by cases h)⟩
 case round =>
  obtain ⟨r, c, z, hr, rfl, rfl, rfl, rfl, hc, hz, hown, hval, hE⟩ := hrel
  by_cases hrl : r < lx
  ·have hrz : (r : Int) < (lx : Int) := by omega
   obtain rfl := hax (by omega)
   have g0 : wr.cell? ⟨bx, ox + r, none⟩ = some (.int .u32 (dx r : Int)) := hE.cell (hx r hrl)
   have hd := hdx r
   have AI : Aside (valN z r + c * bq ^ r = valN dx r * y + more /\ Ext w wr) := ⟨hval, hE⟩
   clear hval hE hx hdx
   go_wp2_with (at_builtin; (go_must (refine wpList_append_fits _ rfl (.tmp 32) (.tmp 35) 27 rfl w.heap.size 85 i0 1 und23 hi hz1 w.heap.size r (lx + 1) _ rfl (hown.alloc _) ⟨wr.heap.size, 0, none⟩ 1 1 [.int .u32 (IntKind.u64.wrap (↑c + IntKind.u64.wrap (IntKind.u64.wrap ↑(dx r) * IntKind.u64.wrap ↑y)) % 4294967296)] rfl rfl (one_cell _ _ _) (one_oneCell _ _) (by omega) ?_)))
   intro w1 hown1 hgrow1
   go_wp2
   go_roundg (lx - (r + 1))
   case measure => go_light; omega
   case rel =>
    go_light
    obtain ⟨hval, hE⟩ := AI.out
    have ht := small_carry hc hd hy
    rw [small_wrap hc hd hy, nat_mod_bq, dvals_succ] at hown1
    rw [small_wrap hc hd hy, nat_div_bq]
    refine ⟨r + 1, _, _, by omega, rfl, rfl, rfl, rfl, div_bq_lt ht, upd_lt hz (mod_bq_lt _), hown1, ?_, (hE.alloc _).grown hgrow1 (fun k hk => by cases hk; exact Nat.le_refl _)⟩
    rw [add_in hval (dx r * y) rfl, valN, Nat.add_mul, Nat.mul_right_comm (dx r)]
    omega
  ·obtain rfl : r = lx := by omega
   have hrz : ¬ (r : Int) < (r : Int) := by omega
   have AI : Aside (valN z r + c * bq ^ r = valN dx r * y + more /\ Ext w wr) := ⟨hval, hE⟩
   clear hval hE hx hdx
   go_wp2_with (first
    | (at_builtin; (go_must (refine wpList_append_fits _ rfl (.tmp 39) (.tmp 42) 27 rfl w.heap.size 85 i0 1 und23 hi hz1 w.heap.size r (r + 1) _ rfl (hown.alloc _) ⟨wr.heap.size, 0, none⟩ 1 1 [.int .u32 ((c : Int) % 4294967296)] rfl rfl (one_cell _ _ _) (one_oneCell _ _) (by omega) ?_; intro w1 hown1 hgrow1; rw [small_em hc, dvals_succ] at hown1)))
    | (go_at_call 63; refine (trim_walk _ w.heap.size 0 (r + 1) (r + 1) (upd z r c) _ (by omega) (Nat.le_refl _) (fun _ => rfl) (fun j hj => by rw [Nat.zero_add]; exact (Row.ofOwn hown1).1.cell hj)).mono ?_; rintro e w' ⟨rfl, rfl⟩))
   go_ret
   obtain ⟨hval, hE⟩ := AI.out
   refine ⟨upd z r c, upd_lt hz hc, (Row.ofOwn hown1).1, ?_, rfl, (hE.alloc _).grown hgrow1 (fun k hk => by cases hk; exact Nat.le_refl _)⟩
   rw [valN, upd_same, valN_congr (l := r) (a := upd z r c) (b := z) fun j hj => upd_other z (by omega)]
   exact hval
end Go.Eng
namespace Go.Eng
open Go Go.RowKit Go.Proofs
set_option maxRecDepth 100000
theorem sub_wrapI {x bw : Nat} (h1 : x < bq) (h2 : bw <= 1) : IntKind.u64.wrap (IntKind.u64.wrap (IntKind.u64.wrap (x : Int) + 4294967296) - (bw : Int)) = ((x + bq - bw : Nat) : Int) := by
 have e : bq = 4294967296 := rfl
 rw [wrap_u64_nat (lt_bqq h1)]
 have e2 : bq * bq = 18446744073709551616 := rfl
 rw [show ((x : Int) + 4294967296) = ((x + bq : Nat) : Int) by omega, wrap_u64_nat (by omega), show (((x + bq : Nat) : Int) - (bw : Int)) = ((x + bq - bw : Nat) : Int) by omega, wrap_u64_nat (by omega)]
theorem sub_wrap2 {x bw y : Nat} (h1 : x < bq) (h2 : bw <= 1) (h3 : y < bq) : IntKind.u64.wrap (IntKind.u64.wrap (IntKind.u64.wrap (IntKind.u64.wrap (x : Int) + 4294967296) - (bw : Int)) - IntKind.u64.wrap (y : Int)) = ((x + bq - bw - y : Nat) : Int) := by
 have e : bq = 4294967296 := rfl
 have e2 : bq * bq = 18446744073709551616 := rfl
 rw [sub_wrapI h1 h2, wrap_u64_nat (lt_bqq h3), show (((x + bq - bw : Nat) : Int) - (y : Int)) = ((x + bq - bw - y : Nat) : Int) by omega, wrap_u64_nat (by omega)]
theorem sub_bw {n : Nat} (h : n < 2 * bq) : IntKind.u64.wrap (1 - ((n : Nat) : Int) / 4294967296) = ((1 - n / bq : Nat) : Int) := by
 have h5 : n / bq < 2 := Nat.div_lt_of_lt_mul (by omega)
 have e2 : bq * bq = 18446744073709551616 := rfl
 rw [nat_div_bq, show ((1 : Int) - ((n / bq : Nat) : Int)) = ((1 - n / bq : Nat) : Int) by omega, wrap_u64_nat (Nat.lt_of_le_of_lt (Nat.sub_le _ _) (by omega))]
set_option maxHeartbeats 1600000 in
theorem sub_core (ax ay : Option Addr) (bx ox lx cx by' oy ly cy : Nat) (dx dy : Nat -> Nat) (w : World) (hlx : lx <= 1048576) (hly : ly <= 1048576) (hax : 0 < lx -> ax = some ⟨bx, ox, none⟩) (hay : 0 < ly -> ay = some ⟨by', oy, none⟩)
  (hx : ∀ j, j < lx -> w.cell? ⟨bx, ox + j, none⟩ = some (.int .u32 (dx j : Int))) (hy : ∀ j, j < ly -> w.cell? ⟨by', oy + j, none⟩ = some (.int .u32 (dy j : Int)))
  (hdx : ∀ j, dx j < bq) (hdy : ∀ j, dy j < bq) (hd0 : ∀ j, ly <= j -> dy j = 0) :
  Calls Tryz.prog 83 #[.slice ax lx cx, .slice ay ly cy] w fun e w' => ∃ (z : Nat -> Nat) (bw : Nat), bw <= 1 /\ (∀ j, z j < bq) /\ Row w' w.heap.size lx z /\ valN z lx + valN dy lx = valN dx lx + bw * bq ^ lx /\ e = .returned (.slice (some ⟨w.heap.size, 0, none⟩) (tlen z lx) lx) /\ Ext w w' := by
 obtain ⟨i0, hi, hz0, hz1, hz2⟩ := info_parts inf59
 go_enter Tryz.func83, Tryz.ntmps83
 go_wp2_with (at_make; refine wpList_make_own _ rfl _ _ 27 rfl w.heap.size 85 i0 (.int .u32 0) 1 und23 hi hz0 hz1 _ _ _ lx rfl rfl rfl ?b2 ?b3 (Nat.le_refl _) ?_)
 case b2 => rw [hz2]; omega
 case b3 => unfold maxLen; omega
 intro w0 hown0 hgrow0
 go_wp2
 go_loopg [5, 6, 7] lx (fun g out cr i wr => ∃ (r c : Nat) (z : Nat -> Nat), r <= lx /\ g = lx - r /\ out = .slice (some ⟨w.heap.size, 0, none⟩) r lx /\ cr = .int .u64 c /\ i = .int .i64 r /\ c <= 1 /\ (∀ j, z j < bq) /\
  wr.ownsRow w.heap.size 85 1 (.slice (some ⟨w.heap.size, 0, none⟩) r lx) r (dvals z r) /\ valN z r + valN dy r = valN dx r + c * bq ^ r /\ Ext w wr)
 case atStart => exact ⟨0, 0, fun _ => 0, Nat.zero_le _, rfl, rfl, rfl, rfl, Nat.zero_le _, fun _ => bq_pos, hown0, by simp [valN], (Ext.refl w).grown hgrow0 (fun k h => by cases h)⟩
 case round =>
  obtain ⟨r, c, z, hr, rfl, rfl, rfl, rfl, hc, hz, hown, hval, hE⟩ := hrel
  by_cases hrl : r < lx
  ·have hrz : (r : Int) < (lx : Int) := by omega
   obtain rfl := hax (by omega)
   have g0 : wr.cell? ⟨bx, ox + r, none⟩ = some (.int .u32 (dx r : Int)) := hE.cell (hx r hrl)
   have hd := hdx r
   have hdq := hdy r
   have AI : Aside (valN z r + valN dy r = valN dx r + c * bq ^ r /\ Ext w wr) := ⟨hval, hE⟩
   by_cases hrly : r < ly
   ·have hrz2 : (r : Int) < (ly : Int) := by omega
    obtain rfl := hay (by omega)
    have g1 : wr.cell? ⟨by', oy + r, none⟩ = some (.int .u32 (dy r : Int)) := hE.cell (hy r hrly)
    clear hval hE hx hy hdx hdy hd0
    go_wp2_with (at_builtin; (go_must (refine wpList_append_fits _ rfl (.tmp 37) (.tmp 40) 27 rfl w.heap.size 85 i0 1 und23 hi hz1 w.heap.size r lx _ rfl (hown.alloc _) ⟨wr.heap.size, 0, none⟩ 1 1 [.int .u32 (IntKind.u64.wrap (IntKind.u64.wrap (IntKind.u64.wrap (IntKind.u64.wrap ↑(dx r) + 4294967296) - ↑c) - IntKind.u64.wrap ↑(dy r)) % 4294967296)] rfl rfl (one_cell _ _ _) (one_oneCell _ _) (by omega) ?_; intro w1 hown1 hgrow1)))
    go_roundg (lx - (r + 1))
    case measure => go_light; omega
    case rel =>
     go_light
     obtain ⟨hval, hE⟩ := AI.out
     have e : bq = 4294967296 := rfl
     rw [sub_wrap2 hd hc hdq, nat_mod_bq, dvals_succ] at hown1
     rw [sub_wrap2 hd hc hdq, sub_bw (by omega)]
     have hs := sub_in (n := dx r + bq - c - dy r) hval hc hd hdq (by omega)
     exact ⟨r + 1, _, _, by omega, rfl, rfl, rfl, rfl, hs.2, upd_lt hz (mod_bq_lt _), hown1, by rw [valN, valN] at *; exact hs.1, (hE.alloc _).grown hgrow1 (fun k hk => by cases hk; exact Nat.le_refl _)⟩
   ·have hrz2 : ¬ (r : Int) < (ly : Int) := by omega
    have hd00 := hd0 r (by omega)
    have AD : Aside (dy r = 0) := hd00
    clear hval hE hx hy hdx hdy hd0 hd00
    go_wp2_with (at_builtin; (go_must (refine wpList_append_fits _ rfl (.tmp 37) (.tmp 40) 27 rfl w.heap.size 85 i0 1 und23 hi hz1 w.heap.size r lx _ rfl (hown.alloc _) ⟨wr.heap.size, 0, none⟩ 1 1 [.int .u32 (IntKind.u64.wrap (IntKind.u64.wrap (IntKind.u64.wrap ↑(dx r) + 4294967296) - ↑c) % 4294967296)] rfl rfl (one_cell _ _ _) (one_oneCell _ _) (by omega) ?_; intro w1 hown1 hgrow1)))
    go_roundg (lx - (r + 1))
    case measure => go_light; omega
    case rel =>
     go_light
     obtain ⟨hval, hE⟩ := AI.out
     have e : bq = 4294967296 := rfl
     rw [sub_wrapI hd hc, nat_mod_bq, dvals_succ] at hown1
     rw [sub_wrapI hd hc, sub_bw (by omega)]
     have hs := sub_in (n := dx r + bq - c) (y := 0) hval hc hd bq_pos (by omega)
     refine ⟨r + 1, _, _, by omega, rfl, rfl, rfl, rfl, hs.2, upd_lt hz (mod_bq_lt _), hown1, ?_, (hE.alloc _).grown hgrow1 (fun k hk => by cases hk; exact Nat.le_refl _)⟩
     have h1 : valN dy (r + 1) = valN dy r + 0 * bq ^ r := by rw [valN, AD.out]
     rw [h1]
     exact hs.1
  ·obtain rfl : r = lx := by omega
   have hrz : ¬ (r : Int) < (r : Int) := by omega
   have AI : Aside (valN z r + valN dy r = valN dx r + c * bq ^ r /\ Ext w wr) := ⟨hval, hE⟩
   clear hval hE hx hdx hy hdy
   go_wp2_with (go_at_call 63; refine (trim_walk _ w.heap.size 0 r r z _ (by omega) (Nat.le_refl _) (fun _ => rfl) (fun j hj => by rw [Nat.zero_add]; exact (Row.ofOwn hown).1.cell hj)).mono ?_; rintro e w' ⟨rfl, rfl⟩)
   go_ret
   exact ⟨z, c, hc, hz, (Row.ofOwn hown).1, AI.out.1, rfl, AI.out.2⟩
end Go.Eng
namespace Go.Eng
open Go Go.RowKit Go.Proofs
set_option maxRecDepth 100000
theorem add_wrap1 {c a : Nat} (h1 : c < bq) (h2 : a < bq) : IntKind.u64.wrap ((c : Int) + IntKind.u64.wrap (a : Int)) = ((c + a : Nat) : Int) := by
 have e : bq = 4294967296 := rfl
 have e2 : bq * bq = 18446744073709551616 := rfl
 rw [wrap_u64_nat (lt_bqq h2), <- Int.natCast_add, wrap_u64_nat (by omega)]
theorem add_wrap2 {c a b : Nat} (h1 : c < bq) (h2 : a < bq) (h3 : b < bq) : IntKind.u64.wrap (IntKind.u64.wrap ((c : Int) + IntKind.u64.wrap (a : Int)) + IntKind.u64.wrap (b : Int)) = ((c + a + b : Nat) : Int) := by
 have e : bq = 4294967296 := rfl
 have e2 : bq * bq = 18446744073709551616 := rfl
 rw [add_wrap1 h1 h2, wrap_u64_nat (lt_bqq h3), <- Int.natCast_add, wrap_u64_nat (by omega)]
set_option maxHeartbeats 1600000 in
theorem add_coreA (ax ay : Option Addr) (bx ox lx cx by' oy ly cy : Nat) (dx dy : Nat -> Nat) (w : World) (hlx : lx <= 1048576) (hly : ly <= 1048576) (hlt : lx < ly) (hax : 0 < lx -> ax = some ⟨bx, ox, none⟩) (hay : 0 < ly -> ay = some ⟨by', oy, none⟩)
  (hx : ∀ j, j < lx -> w.cell? ⟨bx, ox + j, none⟩ = some (.int .u32 (dx j : Int))) (hy : ∀ j, j < ly -> w.cell? ⟨by', oy + j, none⟩ = some (.int .u32 (dy j : Int)))
  (hdx : ∀ j, dx j < bq) (hdy : ∀ j, dy j < bq) (hd0 : ∀ j, ly <= j -> dy j = 0) (hx0 : ∀ j, lx <= j -> dx j = 0) :
  Calls Tryz.prog 62 #[.slice ax lx cx, .slice ay ly cy] w fun e w' => ∃ (z : Nat -> Nat), (∀ j, z j < bq) /\ Row w' w.heap.size (ly + 1) z /\ valN z (ly + 1) = valN dx ly + valN dy ly /\ e = .returned (.slice (some ⟨w.heap.size, 0, none⟩) (tlen z (ly + 1)) (ly + 1)) /\ Ext w w' := by
 obtain ⟨i0, hi, hz0, hz1, hz2⟩ := info_parts inf59
 go_enter Tryz.func62, Tryz.ntmps62
 go_wp2_with (at_make; refine wpList_make_own _ rfl _ _ 27 rfl w.heap.size 85 i0 (.int .u32 0) 1 und23 hi hz0 hz1 _ _ _ (ly + 1) rfl rfl (by omega) ?b2 ?b3 (Nat.le_refl _) ?_)
 case b2 => rw [hz2]; omega
 case b3 => unfold maxLen; omega
 intro w0 hown0 hgrow0
 go_wp2
 go_loopg [5, 6, 7] ly (fun g out cr i wr => ∃ (r c : Nat) (z : Nat -> Nat), r <= ly /\ g = ly - r /\ out = .slice (some ⟨w.heap.size, 0, none⟩) r (ly + 1) /\ cr = .int .u64 c /\ i = .int .i64 r /\ c < bq /\ (∀ j, z j < bq) /\
  wr.ownsRow w.heap.size 85 1 (.slice (some ⟨w.heap.size, 0, none⟩) r (ly + 1)) r (dvals z r) /\ valN z r + c * bq ^ r = valN dx r + valN dy r /\ Ext w wr)
 case atStart => exact ⟨0, 0, fun _ => 0, Nat.zero_le _, rfl, rfl, rfl, rfl, bq_pos, fun _ => bq_pos, hown0, by simp [valN], (Ext.refl w).grown hgrow0 (fun k h => by cases h)⟩
 case round =>
  obtain ⟨r, c, z, hr, rfl, rfl, rfl, rfl, hc, hz, hown, hval, hE⟩ := hrel
  by_cases hrm : r < ly
  ·by_cases hro : r < lx
   ·
    have hrz1 : (r : Int) < (lx : Int) := by omega
    have hrz2 : (r : Int) < (ly : Int) := by omega
    obtain rfl := hax (by omega)
    have g0 : wr.cell? ⟨bx, ox + r, none⟩ = some (.int .u32 (dx r : Int)) := hE.cell (hx r (by omega))
    obtain rfl := hay (by omega)
    have g1 : wr.cell? ⟨by', oy + r, none⟩ = some (.int .u32 (dy r : Int)) := hE.cell (hy r (by omega))
    have hd := hdx r
    have hdq := hdy r
    have AI : Aside (valN z r + c * bq ^ r = valN dx r + valN dy r /\ Ext w wr) := ⟨hval, hE⟩
    clear hval hE hx hy hdx hdy hd0 hx0
    go_wp2_with (at_builtin; (go_must (refine wpList_append_fits _ rfl (.tmp 49) (.tmp 52) 27 rfl w.heap.size 85 i0 1 und23 hi hz1 w.heap.size r (ly + 1) _ rfl (hown.alloc _) ⟨wr.heap.size, 0, none⟩ 1 1 [.int .u32 ((IntKind.u64.wrap ((IntKind.u64.wrap (↑c + IntKind.u64.wrap ↑(dx r))) + IntKind.u64.wrap ↑(dy r))) % 4294967296)] rfl rfl (one_cell _ _ _) (one_oneCell _ _) (by omega) ?_; intro w1 hown1 hgrow1)))
    go_roundg (ly - (r + 1))
    case measure => go_light; omega
    case rel =>
     go_light
     obtain ⟨hval, hE⟩ := AI.out
     have e : bq = 4294967296 := rfl
     have e2 : bq * bq = 18446744073709551616 := rfl
     rw [add_wrap2 hc hd hdq, nat_mod_bq, dvals_succ] at hown1
     rw [add_wrap2 hc hd hdq, nat_div_bq]
     refine ⟨r + 1, _, _, by omega, rfl, rfl, rfl, rfl, div_bq_lt (by omega), upd_lt hz (mod_bq_lt _), hown1, ?_, (hE.alloc _).grown hgrow1 (fun k hk => by cases hk; exact Nat.le_refl _)⟩
     rw [add_in (t := c + dx r + dy r) hval (dx r + dy r) (by omega), valN, valN, Nat.add_mul]
     omega
   ·
    have hrz1 : ¬ (r : Int) < (lx : Int) := by omega
    have hrz2 : (r : Int) < (ly : Int) := by omega
    obtain rfl := hay (by omega)
    have g1 : wr.cell? ⟨by', oy + r, none⟩ = some (.int .u32 (dy r : Int)) := hE.cell (hy r (by omega))
    have hd := hdx r
    have hdq := hdy r
    have AI : Aside (valN z r + c * bq ^ r = valN dx r + valN dy r /\ Ext w wr) := ⟨hval, hE⟩
    have AD : Aside (dx r = 0) := hx0 r (by omega)
    clear hval hE hx hy hdx hdy hd0 hx0
    go_wp2_with (at_builtin; (go_must (refine wpList_append_fits _ rfl (.tmp 49) (.tmp 52) 27 rfl w.heap.size 85 i0 1 und23 hi hz1 w.heap.size r (ly + 1) _ rfl (hown.alloc _) ⟨wr.heap.size, 0, none⟩ 1 1 [.int .u32 ((IntKind.u64.wrap (↑c + IntKind.u64.wrap ↑(dy r))) % 4294967296)] rfl rfl (one_cell _ _ _) (one_oneCell _ _) (by omega) ?_; intro w1 hown1 hgrow1)))
    go_roundg (ly - (r + 1))
    case measure => go_light; omega
    case rel =>
     go_light
     obtain ⟨hval, hE⟩ := AI.out
     have e : bq = 4294967296 := rfl
     have e2 : bq * bq = 18446744073709551616 := rfl
     rw [add_wrap1 hc hdq, nat_mod_bq, dvals_succ] at hown1
     rw [add_wrap1 hc hdq, nat_div_bq]
     refine ⟨r + 1, _, _, by omega, rfl, rfl, rfl, rfl, div_bq_lt (by omega), upd_lt hz (mod_bq_lt _), hown1, ?_, (hE.alloc _).grown hgrow1 (fun k hk => by cases hk; exact Nat.le_refl _)⟩
     rw [add_in (t := c + dy r) hval (dy r) (by omega), valN, valN]
     have hz1 := AD.out
     rw [hz1, Nat.zero_mul]
     omega
  ·obtain rfl : r = ly := by omega
   have hrz1 : ¬ (r : Int) < (lx : Int) := by omega
   have hrz2 : ¬ (r : Int) < (r : Int) := by omega
   have AI : Aside (valN z r + c * bq ^ r = valN dx r + valN dy r /\ Ext w wr) := ⟨hval, hE⟩
   clear hval hE hx hdx hy hdy hd0 hx0
   go_wp2_with (first
    | (at_builtin; (go_must (refine wpList_append_fits _ rfl (.tmp 56) (.tmp 59) 27 rfl w.heap.size 85 i0 1 und23 hi hz1 w.heap.size r (r + 1) _ rfl (hown.alloc _) ⟨wr.heap.size, 0, none⟩ 1 1 [.int .u32 ((c : Int) % 4294967296)] rfl rfl (one_cell _ _ _) (one_oneCell _ _) (by omega) ?_; intro w1 hown1 hgrow1; rw [small_em hc, dvals_succ] at hown1)))
    | (go_at_call 63; refine (trim_walk _ w.heap.size 0 (r + 1) (r + 1) (upd z r c) _ (by omega) (Nat.le_refl _) (fun _ => rfl) (fun j hj => by rw [Nat.zero_add]; exact (Row.ofOwn hown1).1.cell hj)).mono ?_; rintro e w' ⟨rfl, rfl⟩))
   go_ret
   obtain ⟨hval, hE⟩ := AI.out
   refine ⟨upd z r c, upd_lt hz hc, (Row.ofOwn hown1).1, ?_, rfl, (hE.alloc _).grown hgrow1 (fun k hk => by cases hk; exact Nat.le_refl _)⟩
   rw [valN, upd_same, valN_congr (l := r) (a := upd z r c) (b := z) fun j hj => upd_other z (by omega)]
   exact hval
set_option maxHeartbeats 1600000 in
theorem add_coreB (ax ay : Option Addr) (bx ox lx cx by' oy ly cy : Nat) (dx dy : Nat -> Nat) (w : World) (hlx : lx <= 1048576) (hly : ly <= 1048576) (hlt : ¬ lx < ly) (hax : 0 < lx -> ax = some ⟨bx, ox, none⟩) (hay : 0 < ly -> ay = some ⟨by', oy, none⟩)
  (hx : ∀ j, j < lx -> w.cell? ⟨bx, ox + j, none⟩ = some (.int .u32 (dx j : Int))) (hy : ∀ j, j < ly -> w.cell? ⟨by', oy + j, none⟩ = some (.int .u32 (dy j : Int)))
  (hdx : ∀ j, dx j < bq) (hdy : ∀ j, dy j < bq) (hd0 : ∀ j, ly <= j -> dy j = 0) (hx0 : ∀ j, lx <= j -> dx j = 0) :
  Calls Tryz.prog 62 #[.slice ax lx cx, .slice ay ly cy] w fun e w' => ∃ (z : Nat -> Nat), (∀ j, z j < bq) /\ Row w' w.heap.size (lx + 1) z /\ valN z (lx + 1) = valN dx lx + valN dy lx /\ e = .returned (.slice (some ⟨w.heap.size, 0, none⟩) (tlen z (lx + 1)) (lx + 1)) /\ Ext w w' := by
 obtain ⟨i0, hi, hz0, hz1, hz2⟩ := info_parts inf59
 go_enter Tryz.func62, Tryz.ntmps62
 go_wp2_with (at_make; refine wpList_make_own _ rfl _ _ 27 rfl w.heap.size 85 i0 (.int .u32 0) 1 und23 hi hz0 hz1 _ _ _ (lx + 1) rfl rfl (by omega) ?b2 ?b3 (Nat.le_refl _) ?_)
 case b2 => rw [hz2]; omega
 case b3 => unfold maxLen; omega
 intro w0 hown0 hgrow0
 go_wp2
 go_loopg [5, 6, 7] lx (fun g out cr i wr => ∃ (r c : Nat) (z : Nat -> Nat), r <= lx /\ g = lx - r /\ out = .slice (some ⟨w.heap.size, 0, none⟩) r (lx + 1) /\ cr = .int .u64 c /\ i = .int .i64 r /\ c < bq /\ (∀ j, z j < bq) /\
  wr.ownsRow w.heap.size 85 1 (.slice (some ⟨w.heap.size, 0, none⟩) r (lx + 1)) r (dvals z r) /\ valN z r + c * bq ^ r = valN dx r + valN dy r /\ Ext w wr)
 case atStart => exact ⟨0, 0, fun _ => 0, Nat.zero_le _, rfl, rfl, rfl, rfl, bq_pos, fun _ => bq_pos, hown0, by simp [valN], (Ext.refl w).grown hgrow0 (fun k h => by cases h)⟩
 case round =>
  obtain ⟨r, c, z, hr, rfl, rfl, rfl, rfl, hc, hz, hown, hval, hE⟩ := hrel
  by_cases hrm : r < lx
  ·by_cases hro : r < ly
   ·
    have hrz1 : (r : Int) < (lx : Int) := by omega
    have hrz2 : (r : Int) < (ly : Int) := by omega
    obtain rfl := hax (by omega)
    have g0 : wr.cell? ⟨bx, ox + r, none⟩ = some (.int .u32 (dx r : Int)) := hE.cell (hx r (by omega))
    obtain rfl := hay (by omega)
    have g1 : wr.cell? ⟨by', oy + r, none⟩ = some (.int .u32 (dy r : Int)) := hE.cell (hy r (by omega))
    have hd := hdx r
    have hdq := hdy r
    have AI : Aside (valN z r + c * bq ^ r = valN dx r + valN dy r /\ Ext w wr) := ⟨hval, hE⟩
    clear hval hE hx hy hdx hdy hd0 hx0
    go_wp2_with (at_builtin; (go_must (refine wpList_append_fits _ rfl (.tmp 49) (.tmp 52) 27 rfl w.heap.size 85 i0 1 und23 hi hz1 w.heap.size r (lx + 1) _ rfl (hown.alloc _) ⟨wr.heap.size, 0, none⟩ 1 1 [.int .u32 ((IntKind.u64.wrap ((IntKind.u64.wrap (↑c + IntKind.u64.wrap ↑(dx r))) + IntKind.u64.wrap ↑(dy r))) % 4294967296)] rfl rfl (one_cell _ _ _) (one_oneCell _ _) (by omega) ?_; intro w1 hown1 hgrow1)))
    go_roundg (lx - (r + 1))
    case measure => go_light; omega
    case rel =>
     go_light
     obtain ⟨hval, hE⟩ := AI.out
     have e : bq = 4294967296 := rfl
     have e2 : bq * bq = 18446744073709551616 := rfl
     rw [add_wrap2 hc hd hdq, nat_mod_bq, dvals_succ] at hown1
     rw [add_wrap2 hc hd hdq, nat_div_bq]
     refine ⟨r + 1, _, _, by omega, rfl, rfl, rfl, rfl, div_bq_lt (by omega), upd_lt hz (mod_bq_lt _), hown1, ?_, (hE.alloc _).grown hgrow1 (fun k hk => by cases hk; exact Nat.le_refl _)⟩
     rw [add_in (t := c + dx r + dy r) hval (dx r + dy r) (by omega), valN, valN, Nat.add_mul]
     omega
   ·
    have hrz1 : (r : Int) < (lx : Int) := by omega
    have hrz2 : ¬ (r : Int) < (ly : Int) := by omega
    obtain rfl := hax (by omega)
    have g0 : wr.cell? ⟨bx, ox + r, none⟩ = some (.int .u32 (dx r : Int)) := hE.cell (hx r (by omega))
    have hd := hdx r
    have hdq := hdy r
    have AI : Aside (valN z r + c * bq ^ r = valN dx r + valN dy r /\ Ext w wr) := ⟨hval, hE⟩
    have AD : Aside (dy r = 0) := hd0 r (by omega)
    clear hval hE hx hy hdx hdy hd0 hx0
    go_wp2_with (at_builtin; (go_must (refine wpList_append_fits _ rfl (.tmp 49) (.tmp 52) 27 rfl w.heap.size 85 i0 1 und23 hi hz1 w.heap.size r (lx + 1) _ rfl (hown.alloc _) ⟨wr.heap.size, 0, none⟩ 1 1 [.int .u32 ((IntKind.u64.wrap (↑c + IntKind.u64.wrap ↑(dx r))) % 4294967296)] rfl rfl (one_cell _ _ _) (one_oneCell _ _) (by omega) ?_; intro w1 hown1 hgrow1)))
    go_roundg (lx - (r + 1))
    case measure => go_light; omega
    case rel =>
     go_light
     obtain ⟨hval, hE⟩ := AI.out
     have e : bq = 4294967296 := rfl
     have e2 : bq * bq = 18446744073709551616 := rfl
     rw [add_wrap1 hc hd, nat_mod_bq, dvals_succ] at hown1
     rw [add_wrap1 hc hd, nat_div_bq]
     refine ⟨r + 1, _, _, by omega, rfl, rfl, rfl, rfl, div_bq_lt (by omega), upd_lt hz (mod_bq_lt _), hown1, ?_, (hE.alloc _).grown hgrow1 (fun k hk => by cases hk; exact Nat.le_refl _)⟩
     rw [add_in (t := c + dx r) hval (dx r) (by omega), valN, valN]
     have hz1 := AD.out
     rw [hz1, Nat.zero_mul]
     omega
  ·obtain rfl : r = lx := by omega
   have hrz1 : ¬ (r : Int) < (r : Int) := by omega
   have hrz2 : ¬ (r : Int) < (ly : Int) := by omega
   have AI : Aside (valN z r + c * bq ^ r = valN dx r + valN dy r /\ Ext w wr) := ⟨hval, hE⟩
   clear hval hE hx hdx hy hdy hd0 hx0
   go_wp2_with (first
    | (at_builtin; (go_must (refine wpList_append_fits _ rfl (.tmp 56) (.tmp 59) 27 rfl w.heap.size 85 i0 1 und23 hi hz1 w.heap.size r (r + 1) _ rfl (hown.alloc _) ⟨wr.heap.size, 0, none⟩ 1 1 [.int .u32 ((c : Int) % 4294967296)] rfl rfl (one_cell _ _ _) (one_oneCell _ _) (by omega) ?_; intro w1 hown1 hgrow1; rw [small_em hc, dvals_succ] at hown1)))
    | (go_at_call 63; refine (trim_walk _ w.heap.size 0 (r + 1) (r + 1) (upd z r c) _ (by omega) (Nat.le_refl _) (fun _ => rfl) (fun j hj => by rw [Nat.zero_add]; exact (Row.ofOwn hown1).1.cell hj)).mono ?_; rintro e w' ⟨rfl, rfl⟩))
   go_ret
   obtain ⟨hval, hE⟩ := AI.out
   refine ⟨upd z r c, upd_lt hz hc, (Row.ofOwn hown1).1, ?_, rfl, (hE.alloc _).grown hgrow1 (fun k hk => by cases hk; exact Nat.le_refl _)⟩
   rw [valN, upd_same, valN_congr (l := r) (a := upd z r c) (b := z) fun j hj => upd_other z (by omega)]
   exact hval
end Go.Eng
namespace Go.Eng
open Go Go.RowKit Go.Proofs
set_option maxRecDepth 100000
def cmpN (X Y : Nat) : Int := if X < Y then -1 else if X = Y then 0 else 1
theorem dg_split (X i : Nat) : X / bq ^ i = X / bq ^ (i + 1) * bq + dg X i := by
 rw [dg, Nat.pow_succ, <- Nat.div_div_eq_div_mul]
 have := Nat.div_add_mod (X / bq ^ i) bq
 rw [Nat.mul_comm] at this
 exact this.symm
theorem cmp_lt {X Y i : Nat} (h : X / bq ^ (i + 1) = Y / bq ^ (i + 1)) (hd : dg X i < dg Y i) : cmpN X Y = -1 := by
 have h1 := dg_split X i
 have h2 := dg_split Y i
 have h3 : X / bq ^ i < Y / bq ^ i := by rw [h1, h2, h]; omega
 refine if_pos (Nat.lt_of_not_le fun hle => ?_)
 have := Nat.div_le_div_right (c := bq ^ i) hle
 omega
theorem cmp_gt {X Y i : Nat} (h : X / bq ^ (i + 1) = Y / bq ^ (i + 1)) (hd : dg Y i < dg X i) : cmpN X Y = 1 := by
 have h1 := dg_split X i
 have h2 := dg_split Y i
 have h3 : Y / bq ^ i < X / bq ^ i := by rw [h1, h2, h]; omega
 have h4 : Y < X := Nat.lt_of_not_le fun hle => by
  have := Nat.div_le_div_right (c := bq ^ i) hle
  omega
 rw [cmpN, if_neg (by omega), if_neg (by omega)]
theorem cmp_step {X Y i : Nat} (h : X / bq ^ (i + 1) = Y / bq ^ (i + 1)) (hd : dg X i = dg Y i) : X / bq ^ i = Y / bq ^ i := by
 rw [dg_split X i, dg_split Y i, h, hd]
theorem cmp_eq {X Y : Nat} (h : X / bq ^ 0 = Y / bq ^ 0) : cmpN X Y = 0 := by
 simp only [Nat.pow_zero, Nat.div_one] at h
 rw [cmpN, if_neg (by omega), if_pos h]
theorem cmp_len_lt {X Y : Nat} (h : nlen X < nlen Y) : cmpN X Y = -1 := if_pos (Nat.lt_of_not_le fun hle => by have := nlen_mono hle; omega)
theorem cmp_len_gt {X Y : Nat} (h : nlen Y < nlen X) : cmpN X Y = 1 := by
 have h4 : Y < X := Nat.lt_of_not_le fun hle => by have := nlen_mono hle; omega
 rw [cmpN, if_neg (by omega), if_neg (by omega)]
theorem top_eq {X Y l : Nat} (hX : nlen X = l) (hY : nlen Y = l) : X / bq ^ l = Y / bq ^ l := by
 rw [Nat.div_eq_of_lt (lt_iff_nlen.2 (by omega)), Nat.div_eq_of_lt (lt_iff_nlen.2 (by omega))]
set_option maxHeartbeats 1600000 in
theorem cmp_core (ax ay : Option Addr) (bx ox cx by' oy cy l X Y : Nat) (w : World) (hl : l <= 1048576) (hX : nlen X = l) (hY : nlen Y = l)
  (hax : 0 < l -> ax = some ⟨bx, ox, none⟩) (hay : 0 < l -> ay = some ⟨by', oy, none⟩)
  (hx : ∀ j, j < l -> w.cell? ⟨bx, ox + j, none⟩ = some (.int .u32 (dg X j : Int))) (hy : ∀ j, j < l -> w.cell? ⟨by', oy + j, none⟩ = some (.int .u32 (dg Y j : Int))) :
  Calls Tryz.prog 29 #[.slice ax l cx, .slice ay l cy] w fun e w' => e = .returned (.int .i64 (cmpN X Y)) /\ Ext w w' := by
 have htop := top_eq hX hY
 clear hX hY
 have AT : Aside (X / bq ^ l = Y / bq ^ l) := htop
 clear htop
 go_enter Tryz.func29, Tryz.ntmps29
 go_wp2
 go_loopg [5] l (fun g s wr => g <= l /\ s = .int .i64 ((g : Int) - 1) /\ Ext w wr /\ X / bq ^ g = Y / bq ^ g)
 case atStart => exact ⟨Nat.le_refl _, rfl, Ext.refl w, AT.out⟩
 case round =>
  obtain ⟨hg, rfl, hE, hv⟩ := hrel
  cases gk with
  | zero =>
    have hgz : ¬ (0 : Int) <= ((0 : Nat) : Int) - 1 := by omega
    have AI : Aside (X / bq ^ 0 = Y / bq ^ 0 /\ Ext w wr) := ⟨hv, hE⟩
    clear hv hE hx hy AT
    go_wp2
    go_ret
    refine ⟨?_, AI.out.2⟩
    rw [cmp_eq AI.out.1]
    rfl
  | succ k =>
    rw [show ((k + 1 : Nat) : Int) - 1 = (k : Int) by omega]
    obtain rfl := hax (by omega)
    obtain rfl := hay (by omega)
    have hkl : (k : Int) < (l : Int) := by omega
    have g0 : wr.cell? ⟨bx, ox + k, none⟩ = some (.int .u32 (dg X k : Int)) := hE.cell (hx k (by omega))
    have g1 : wr.cell? ⟨by', oy + k, none⟩ = some (.int .u32 (dg Y k : Int)) := hE.cell (hy k (by omega))
    have AI : Aside (X / bq ^ (k + 1) = Y / bq ^ (k + 1) /\ Ext w wr) := ⟨hv, hE⟩
    clear hv hE hx hy AT
    obtain ⟨dx, hdx⟩ : ∃ d, d = dg X k := ⟨_, rfl⟩
    obtain ⟨dy, hdy⟩ : ∃ d, d = dg Y k := ⟨_, rfl⟩
    rw [<- hdx] at g0
    rw [<- hdy] at g1
    have AD : Aside (dx = dg X k /\ dy = dg Y k) := ⟨hdx, hdy⟩
    clear hdx hdy
    go_wp2
    go_quiet (fail)
    by_cases hd : dx = dy
    ·have hn : ((dx : Int) != (dy : Int)) = false := by subst hd; simp
     have AE : Aside (dx = dy) := hd
     clear hd
     go_wp2
     go_roundg k
     case measure => go_light; omega
     case rel =>
      go_light
      have h1 := AD.out
      refine ⟨by omega, rfl, AI.out.2.drewN _, cmp_step AI.out.1 ?_⟩
      rw [<- h1.1, <- h1.2]
      exact AE.out
    ·have hn : ((dx : Int) != (dy : Int)) = true := by simp; omega
     by_cases hlt : dx < dy
     ·have hlz : (dx : Int) < (dy : Int) := by omega
      have AE : Aside (dx < dy) := hlt
      clear hlt hd
      go_wp2
      go_quiet (fail)
      go_wp2
      go_ret
      refine ⟨?_, (AI.out.2.drewN _).drewN _⟩
      rw [cmp_lt AI.out.1 (by rw [<- AD.out.1, <- AD.out.2]; exact AE.out)]
      first | rfl | simp
     ·have hlz : ¬ (dx : Int) < (dy : Int) := by omega
      have AE : Aside (dy < dx) := by show dy < dx; omega
      clear hlt hd
      go_wp2
      go_quiet (fail)
      go_wp2
      go_ret
      refine ⟨?_, (AI.out.2.drewN _).drewN _⟩
      rw [cmp_gt AI.out.1 (by rw [<- AD.out.1, <- AD.out.2]; exact AE.out)]
      first | rfl | simp
set_option maxHeartbeats 1600000 in
theorem cmp_walk {vx vy : Value} {X Y : Nat} {w : World} (hx : Num w vx X) (hy : Num w vy Y) (hlx : nlen X <= 1048576) (hly : nlen Y <= 1048576) :
  Calls Tryz.prog 29 #[vx, vy] w fun e w' => e = .returned (.int .i64 (cmpN X Y)) /\ Ext w w' := by
 obtain ⟨ax, bx, ox, cx, rfl, _, hax, hxc⟩ := hx
 obtain ⟨ay, by', oy, cy, rfl, _, hay, hyc⟩ := hy
 by_cases he : nlen X = nlen Y
 ·rw [he] at hxc hax ⊢
  exact cmp_core ax ay bx ox cx by' oy cy (nlen Y) X Y w hly he rfl hax hay hxc hyc
 ·have hc1 := @cmp_len_lt X Y
  have hc2 := @cmp_len_gt X Y
  generalize nlen X = lx at *
  generalize nlen Y = ly at *
  have AC : Aside ((lx < ly -> cmpN X Y = -1) /\ (ly < lx -> cmpN X Y = 1)) := ⟨hc1, hc2⟩
  have hne : ((lx : Int) != (ly : Int)) = true := by simp; omega
  clear hc1 hc2 hxc hyc hax hay
  by_cases hlt : lx < ly
  ·have hlz : (lx : Int) < (ly : Int) := by omega
   have AL : Aside (lx < ly) := hlt
   clear hlt he
   go_enter Tryz.func29, Tryz.ntmps29
   go_wp2
   go_ret
   exact ⟨by rw [AC.out.1 AL.out]; rfl, Ext.refl w⟩
  ·have hlz : ¬ (lx : Int) < (ly : Int) := by omega
   have AL : Aside (ly < lx) := by show ly < lx; omega
   clear hlt he
   go_enter Tryz.func29, Tryz.ntmps29
   go_wp2
   go_ret
   exact ⟨by rw [AC.out.2 AL.out]; rfl, Ext.refl w⟩
end Go.Eng
namespace Go.Eng
open Go Go.RowKit Go.Proofs
set_option maxRecDepth 100000
def blen (v : Nat) : Nat := if v = 0 then 0 else v.log2 + 1
theorem blen_half {v : Nat} (h : 0 < v) : blen v = blen (v / 2) + 1 := by
 unfold blen
 rw [if_neg (by omega), Nat.log2_def]
 by_cases h2 : 2 <= v
 ·rw [if_pos h2, if_neg (by omega)]
 ·rw [if_neg h2, if_pos (by omega)]
theorem blen_le {v : Nat} (h : v < bq) : blen v <= 32 := by
 unfold blen
 split
 ·omega
 ·rename_i h0
  have := (Nat.log2_lt h0).2 (show v < 2 ^ 32 from h)
  omega
theorem blen_top {X lx : Nat} (hX : nlen X = lx) (h0 : 0 < lx) : blen (dg X (lx - 1)) + 32 * (lx - 1) = X.log2 + 1 := by
 have hne : X ≠ 0 := fun e => by subst e; rw [nlen_zero] at hX; omega
 have h1 := dg_top hne
 rw [hX] at h1
 have h2 : X / bq ^ (lx - 1) < bq := by
  rw [Nat.div_lt_iff_lt_mul (bqp_pos _), <- Nat.pow_succ', Nat.succ_eq_add_one, show lx - 1 + 1 = lx by omega, <- hX]
  exact lt_nlen X
 have h3 : dg X (lx - 1) = X / bq ^ (lx - 1) := Nat.mod_eq_of_lt h2
 rw [h3] at h1 ⊢
 unfold blen
 rw [if_neg h1]
 have h4 : X.log2 = (X / bq ^ (lx - 1)).log2 + 32 * (lx - 1) := by
  rw [Nat.log2_eq_iff hne]
  have h5 := Nat.log2_self_le h1
  have h6 := @Nat.lt_log2_self (X / bq ^ (lx - 1))
  have h7 := bq_pow (lx - 1)
  have h8 : X < (X / bq ^ (lx - 1) + 1) * bq ^ (lx - 1) := by
   have := Nat.lt_mul_div_succ X (bqp_pos (lx - 1))
   rw [Nat.mul_comm]
   exact this
  constructor
  ·rw [Nat.pow_add, <- h7]
   exact Nat.le_trans (Nat.mul_le_mul_right _ h5) (Nat.div_mul_le_self _ _)
  ·rw [show (X / bq ^ (lx - 1)).log2 + 32 * (lx - 1) + 1 = (X / bq ^ (lx - 1)).log2 + 1 + 32 * (lx - 1) by omega, Nat.pow_add, <- h7]
   exact Nat.lt_of_lt_of_le h8 (Nat.mul_le_mul_right _ h6)
 omega
set_option maxHeartbeats 1600000 in
theorem bits_core (ax : Option Addr) (bx ox lx cx X : Nat) (w : World) (hlx : lx <= 1048576) (hX : nlen X = lx)
  (hax : 0 < lx -> ax = some ⟨bx, ox, none⟩) (hx : ∀ j, j < lx -> w.cell? ⟨bx, ox + j, none⟩ = some (.int .u32 (dg X j : Int))) (h0 : 0 < lx) :
  Calls Tryz.prog 108 #[.slice ax lx cx] w fun e w' => e = .returned (.int .i64 ((X.log2 + 1 : Nat) : Int)) /\ Ext w w' := by
 obtain rfl := hax h0
 have g0 : w.cell? ⟨bx, ox + (lx - 1), none⟩ = some (.int .u32 (dg X (lx - 1) : Int)) := hx _ (by omega)
 obtain ⟨d, hd⟩ : ∃ d, d = dg X (lx - 1) := ⟨_, rfl⟩
 rw [<- hd] at g0
 have AD : Aside (d = dg X (lx - 1) /\ nlen X = lx) := ⟨hd, hX⟩
 clear hd hX hx
 have hlz : (0 : Int) < (lx : Int) := by omega
 go_enter Tryz.func108, Tryz.ntmps108
 have hq1 : (lx : Int) - 1 < (lx : Int) := by omega
 have hq0 : (0 : Int) <= (lx : Int) - 1 := by omega
 have hqn : ((lx : Int) - 1).toNat = lx - 1 := by omega
 go_wp2
 have hdl : d < bq := by rw [AD.out.1]; exact dg_lt _ _
 go_loopg [3, 4] d (fun g n v wr => ∃ (m u : Nat), g = u /\ n = .int .i64 m /\ v = .int .u32 u /\ m + blen u = blen d /\ m <= 32 /\ wr = w)
 case atStart => exact ⟨0, d, rfl, rfl, rfl, by omega, by omega, rfl⟩
 case round =>
  obtain ⟨m, u, rfl, rfl, rfl, hb, hm, rfl⟩ := hrel
  cases gk with
  | zero =>
    have hu0 : ¬ (0 : Int) < ((0 : Nat) : Int) := by omega
    have AB : Aside (m + blen 0 = blen d) := hb
    clear hb
    have hov : (m : Int) + 32 * ((lx : Int) - 1) < 1000000000 := by omega
    go_wp2
    go_ret
    refine ⟨?_, Ext.refl _⟩
    have h1 := blen_top AD.out.2 h0
    rw [<- AD.out.1] at h1
    have h2 : m + 0 = blen d := AB.out
    show Ending.returned (.int .i64 ((m : Int) + 32 * ((lx : Int) - 1))) = _
    rw [show ((m : Int) + 32 * ((lx : Int) - 1)) = ((X.log2 + 1 : Nat) : Int) by omega]
    rfl
  | succ u =>
    have hu0 : (0 : Int) < ((u + 1 : Nat) : Int) := by omega
    have AB : Aside (m + blen (u + 1) = blen d) := hb
    clear hb
    go_wp2
    go_roundg ((u + 1) / 2)
    case measure => go_light; omega
    case rel =>
     go_light
     have h1 := AB.out
     have h2 := blen_le hdl
     rw [blen_half (by omega)] at h1
     exact ⟨m + 1, _, rfl, rfl, rfl, by omega, by omega, rfl⟩
end Go.Eng
