/-
 Plain laws of digits to the base 2^32, and contracts of the reference package spec over natural numbers.
-/
import Derived.Deep.DeepMust
import Derived.Laws.BytesString
import Derived.Lib.SlBytesRow
import Derived.Test.YtajgaijilkfjnaaGreatDoorA5
set_option linter.unusedVariables false
set_option linter.unusedSimpArgs false
namespace Go.Eng
open Go Go.RowKit Go.Proofs
set_option maxRecDepth 100000
theorem und118 : Tryz.prog.underlying 133 = some (.slice 5) := by kernel_rfl
theorem inf5 : (Tryz.prog.info? 5).map (fun i => (i.zero, i.size, i.bytes)) = some (some (.int .u8 0), 1, 1) := by kernel_rfl
def bvals (N j : Nat) : List Value := (List.range j).map fun i => .int .u8 ((48 + N / 10 ^ i % 10 : Nat) : Int)
theorem bvals_succ (N j : Nat) : bvals N j ++ [.int .u8 ((48 + N / 10 ^ j % 10 : Nat) : Int)] = bvals N (j + 1) := by
 rw [bvals, bvals, List.range_succ, List.map_append, List.map_singleton]
theorem own_ext5 {w w' : World} {base n : Nat} {v : Value} {xs : List Value} (h : w.ownsRow base 5 1 v n xs) (e : Ext w w') : w'.ownsRow base 5 1 v n xs := by
 obtain ⟨h1, h2 | ⟨g, cap, cur, hv, hb, hg, hr⟩⟩ := h
 ·exact ⟨h1, .inl h2⟩
 ·refine ⟨h1, .inr ⟨g, cap, cur, hv, hb, ?_, hr⟩⟩
  rw [World.Since.block e g (Array.getElem?_eq_some_iff.1 hg).1]
  exact hg
theorem FreshN.grown5 {wr w1 w2 : World} {v vb : Value} {N n : Nat} {o : Obj} (h : FreshN wr w1 v N n) (hn : nlen N <= n) (hg : (w1.alloc o).grownBy w2 vb.ownBlock) (hk : ∀ k, vb.ownBlock = some k -> k < wr.heap.size) : Num w2 v N := by
 obtain ⟨b, c, h1, h2, h3, h4⟩ := h
 have h5 : Row w2 b n (dg N) := (h4.alloc o).of_block (hg.block b (by have := h4.lt; rw [size_al]; omega) (fun e => by have := hk b e.symm; omega))
 exact ⟨_, b, 0, c, h1, h2, fun _ => rfl, fun j hj => by rw [Nat.zero_add]; exact h5.cell (by omega)⟩
theorem digits_bound {N j : Nat} (hl : nlen N <= 1000) (h : N / 10 ^ j ≠ 0) : j + 1 <= 100000 := by
 have h1 : 10 ^ j <= N := by
  refine Nat.le_of_not_lt fun hlt => h (Nat.div_eq_of_lt hlt)
 have h3 : 2 ^ j <= 10 ^ j := Nat.pow_le_pow_left (by decide) j
 obtain ⟨K, hK⟩ : ∃ K : Nat, K = 1000 := ⟨_, rfl⟩
 rw [<- hK] at hl
 have h2 : N < bq ^ K := lt_iff_nlen.2 hl
 rw [bq_pow] at h2
 have h5 := (Nat.pow_lt_pow_iff_right (by decide : 1 < 2)).1 (Nat.lt_of_le_of_lt (Nat.le_trans h3 h1) h2)
 omega
def RowU (w : World) (b n : Nat) (d : Nat -> Nat) : Prop :=
 ∃ c : Array Value, w.heap[b]? = some (.cells c 5 (0, 0)) /\ n <= c.size /\ ∀ i, i < n -> c[i]? = some (.int .u8 (d i : Int))
namespace RowU
variable {w : World} {b n : Nat} {d e : Nat -> Nat}
theorem cell (h : RowU w b n d) {i : Nat} (hi : i < n) : w.cell? ⟨b, i, none⟩ = some (.int .u8 (d i : Int)) := by
 obtain ⟨c, hb, _, hc⟩ := h
 simp [World.cell?, hb, hc i hi]
theorem frozen (h : RowU w b n d) (i : Nat) : w.frozen? ⟨b, i, none⟩ = false := by
 obtain ⟨c, hb, _, _⟩ := h
 simp [World.frozen?, hb]
theorem congr (h : RowU w b n d) (k : ∀ i, i < n -> d i = e i) : RowU w b n e := by
 obtain ⟨c, hb, hn, hc⟩ := h
 exact ⟨c, hb, hn, fun i hi => by rw [hc i hi, k i hi]⟩
theorem set (h : RowU w b n d) (i v : Nat) : RowU (w.setCell ⟨b, i, none⟩ (.int .u8 (v : Int))) b n (fun j => if j = i then v else d j) := by
 obtain ⟨c, hb, hn, hc⟩ := h
 refine ⟨c.setIfInBounds i (.int .u8 (v : Int)), ?_, by simpa using hn, fun j hj => ?_⟩
 ·simp [World.setCell, Array.getElem?_modify, hb]
 ·rw [Array.getElem?_setIfInBounds]
  by_cases e : i = j
  ·subst e
   have : i < c.size := by omega
   simp [this]
  ·rw [if_neg e]
   have e' : ¬ j = i := fun h => e h.symm
   simp only [e', if_false]
   exact hc j hj
theorem drewN (h : RowU w b n d) (k : Nat) : RowU (w.drewN k) b n d := by
 obtain ⟨c, hb, hn, hc⟩ := h
 exact ⟨c, by simpa using hb, hn, hc⟩
theorem drew (h : RowU w b n d) : RowU w.drew b n d := h
end RowU
def dgt (N i : Nat) : Nat := 48 + N / 10 ^ i % 10
def cfS (N j i t : Nat) : Nat := if t < i \/ j < t + i + 1 then dgt N (j - 1 - t) else dgt N t
def decS (N j : Nat) : ByteArray := ⟨((List.range j).map fun t => UInt8.ofNat (dgt N (j - 1 - t))).toArray⟩
theorem dgt_lt (N i : Nat) : dgt N i < 256 := by
 unfold dgt
 have : N / 10 ^ i % 10 < 10 := Nat.mod_lt _ (by decide)
 omega
theorem decS_get {N j t : Nat} {h : t < (decS N j).size} (ht : t < j) : some (Value.int .u8 ((dgt N (j - 1 - t) : Nat) : Int)) = some (Value.int .u8 (((decS N j)[t]'h).toNat : Int)) := by
 have h1 : (decS N j)[t]'h = UInt8.ofNat (dgt N (j - 1 - t)) := by
  show (decS N j).data[t]'_ = _
  simp [decS]
 rw [h1]
 have h2 : (UInt8.ofNat (dgt N (j - 1 - t))).toNat = dgt N (j - 1 - t) := by
  rw [UInt8.toNat_ofNat']
  exact Nat.mod_eq_of_lt (dgt_lt _ _)
 rw [h2]
theorem und5 : Tryz.prog.underlying 5 = some (.int .u8) := by kernel_rfl
theorem und9 : Tryz.prog.underlying 9 = some .string := by kernel_rfl
theorem own_slice5 {w : World} {base n N : Nat} {v : Value} (h : w.ownsRow base 5 1 v n (bvals N n)) : ∃ a g c, v = .slice a n c /\ n <= c /\ (0 < n -> a = some ⟨g, 0, none⟩ /\ RowU w g n (dgt N) /\ base <= g) := by
 obtain ⟨_, h2 | ⟨g', cap', cur, hv, hb, hg, hn, hm, hs, ht⟩⟩ := h
 ·obtain ⟨h2, h3⟩ := h2
  subst h3
  exact ⟨none, 0, 0, h2, Nat.le_refl _, fun h => absurd h (Nat.lt_irrefl 0)⟩
 ·refine ⟨_, g', cap', hv, hn, fun _ => ⟨rfl, ⟨cur, hg, by omega, fun i hi => ?_⟩, hb⟩⟩
  have e : (bvals N n)[i]? = some (.int .u8 ((dgt N i : Nat) : Int)) := by simp [bvals, hi, dgt]
  rw [<- ht, Nat.mul_one, List.getElem?_take, if_pos hi] at e
  simpa using e
set_option maxHeartbeats 12800000 in
theorem text_core {v : Value} {N : Nat} {w : World} (hv : Num w v N) (hl0 : nlen N <= 1000) (h0 : N ≠ 0) :
  Calls Tryz.prog 64 #[v, .int .u32 10] w fun e w' => ∃ j, N < 10 ^ j /\ 0 < j /\ 10 ^ (j - 1) <= N /\ e = .returned (.string (decS N j)) /\ Ext w w' := by
 obtain ⟨i0, hi, hz0, hz1, hz2⟩ := info_parts inf5
 have hrest : ∀ W v X, Num W v X -> nlen X <= 1000 -> Calls Tryz.prog 95 #[v, .int .u32 10] W fun e w' => ∃ v', e = .returned (.tuple #[v', .int .u32 ((X % 10 : Nat) : Int)]) /\ FreshN W w' v' (X / 10) (nlen X) /\ Ext W w' := fun W v X h1 h2 =>
  (rest_num (y := 10) h1 (by omega) (by decide) (by decide)).mono fun e w' ⟨v', k1, k2, k3⟩ => ⟨v', k1, k2, k3⟩
 obtain ⟨av, bv, ov, cv, rfl, m1, m2, m3⟩ := id hv
 clear m1 m2 m3
 obtain ⟨lv, hlv⟩ : ∃ l, l = nlen N := ⟨_, rfl⟩
 have hlv0 : ((lv : Int) == 0) = false := by have := nlen_pos h0; simp; omega
 have AN : Aside (lv = nlen N /\ Num w (.slice av lv cv) N) := ⟨hlv, by rw [hlv]; exact hv⟩
 rw [<- hlv] at hv ⊢
 clear hv hlv
 go_enter Tryz.func64, Tryz.ntmps64
 go_wp2
 go_loopg [0, 5] N (fun g s0 s5 wr => ∃ j : Nat, g = N / 10 ^ j /\ Num wr s0 (N / 10 ^ j) /\ wr.ownsRow w.heap.size 5 1 s5 j (bvals N j) /\ Ext w wr /\ j <= 100000 /\ (0 < j -> N / 10 ^ (j - 1) ≠ 0))
 case atStart => exact ⟨0, by simp, by simpa using AN.out.2, World.ownsRow_nil _ _ _ _, Ext.refl w, by omega, fun h => absurd h (Nat.lt_irrefl 0)⟩
 case round =>
  obtain ⟨j, hg, hn, hown, hE, hj, hjm⟩ := hrel
  by_cases hx0 : N / 10 ^ j = 0
  ·have hj0 : 0 < j := Nat.pos_of_ne_zero fun e => by subst e; simp at hx0; exact h0 hx0
   obtain ⟨ab, gb, cb, hvb, hcb, hab⟩ := own_slice5 hown
   obtain ⟨q1, q2, q3⟩ := hab hj0
   subst q1
   subst hvb
   obtain ⟨ax, bx, ox, cx, rfl, m1, m2, m3⟩ := hn
   clear m1 m2 m3
   have hzl : nlen (N / 10 ^ j) = 0 := nlen_eq_zero.2 hx0
   have AJ : Aside (N / 10 ^ j = 0 /\ 0 < j /\ N / 10 ^ (j - 1) ≠ 0 /\ RowU wr gb j (dgt N) /\ w.heap.size <= gb /\ Ext w wr) := ⟨hx0, hj0, hjm hj0, q2, q3, hE⟩
   have hjj : j <= 100000 := hj
   clear hx0 hjm q2 q3 hE hown hab hg hrest
   rw [hzl]
   clear hzl
   go_wp2
   go_loopg [7, 8] j (fun g s7 s8 wx => ∃ i : Nat, i <= j /\ g = j - i /\ s7 = .int .i64 (i : Int) /\ s8 = .int .i64 ((j : Int) - 1 - (i : Int)) /\ RowU wx gb j (cfS N j i) /\ Ext w wx)
   case atStart => exact ⟨0, Nat.zero_le _, rfl, rfl, by simp, AJ.out.2.2.2.1.congr fun t ht => by unfold cfS; rw [if_neg (by omega)], AJ.out.2.2.2.2.2⟩
   case round =>
    obtain ⟨i, hi', rfl, rfl, rfl, hR, hE⟩ := hrel
    by_cases hc : i + i + 1 < j
    ·have hcz : (i : Int) < (j : Int) - 1 - (i : Int) := by omega
     obtain ⟨k, hk⟩ : ∃ k, k + i + 1 = j := ⟨j - 1 - i, by omega⟩
     have hkz : (j : Int) - 1 - (i : Int) = (k : Int) := by omega
     rw [hkz] at hcz ⊢
     have hijz : (i : Int) < (j : Int) := by omega
     have hkjz : (k : Int) < (j : Int) := by omega
     obtain ⟨di, hdi⟩ : ∃ d, d = cfS N j i i := ⟨_, rfl⟩
     obtain ⟨dk, hdk⟩ : ∃ d, d = cfS N j i k := ⟨_, rfl⟩
     have g0 : wr.cell? ⟨gb, i, none⟩ = some (.int .u8 (di : Int)) := by rw [hdi]; exact hR.cell (by omega)
     have g1 : wr.cell? ⟨gb, k, none⟩ = some (.int .u8 (dk : Int)) := by rw [hdk]; exact hR.cell (by omega)
     have g2 : wr.frozen? ⟨gb, i, none⟩ = false := hR.frozen _
     have g3 : wr.frozen? ⟨gb, k, none⟩ = false := hR.frozen _
     have hik : i ≠ k := by omega
     have AR : Aside (RowU wr gb j (cfS N j i) /\ Ext w wr /\ di = cfS N j i i /\ dk = cfS N j i k /\ k + i + 1 = j) := ⟨hR, hE, hdi, hdk, hk⟩
     clear hR hE hdi hdk hk
     go_wp2
     go_region
     go_wp2
     go_roundg (j - (i + 1))
     case measure => go_light; omega
     case rel =>
      go_light
      obtain ⟨hR, hE, hdi, hdk, hk⟩ := AR.out
      refine ⟨i + 1, by omega, rfl, rfl, congrArg _ (by omega), ?_, ?_⟩
      ·refine (((hR.set i dk).set k di).drew).congr fun t ht => ?_
       rw [hdi, hdk]
       unfold cfS
       rw [if_neg (show ¬ (k < i \/ j < k + i + 1) by omega), if_neg (show ¬ (i < i \/ j < i + i + 1) by omega)]
       by_cases e1 : t = k
       ·rw [if_pos e1, if_pos (by omega)]
        congr 1; omega
       ·rw [if_neg e1]
        by_cases e2 : t = i
        ·rw [if_pos e2, if_pos (by omega)]
         congr 1; omega
        ·rw [if_neg e2]
         by_cases e3 : t < i \/ j < t + i + 1
         ·rw [if_pos e3, if_pos (by omega)]
         ·rw [if_neg e3, if_neg (by omega)]
      ·exact Ext.drew (World.Since.setCell (World.Since.setCell hE (show w.heap.size <= gb from AJ.out.2.2.2.2.1) _) (show w.heap.size <= gb from AJ.out.2.2.2.2.1) _)
    ·have hcz : ¬ (i : Int) < (j : Int) - 1 - (i : Int) := by omega
     have hcv : (convert 133 9 (.slice (some ⟨gb, 0, none⟩) j cb)).run Tryz.prog wr = .ok (.string (decS N j)) wr := by
      have hsz : (decS N j).size = j := by simp [decS, ByteArray.size]
      have := Go.Lib.run_convert_whole (P := Tryz.prog) wr 133 5 9 und118 und5 und9 gb 0 (decS N j) (fun t ht => ?_) cb
      ·rw [hsz] at this; exact this
      ·rw [hsz] at ht
       rw [Nat.zero_add, hR.cell ht]
       have h1 : cfS N j i t = dgt N (j - 1 - t) := by
        unfold cfS
        by_cases e : t < i \/ j < t + i + 1
        ·rw [if_pos e]
        ·rw [if_neg e]; congr 1; omega
       rw [h1, decS_get ht]
     have AE : Aside (Ext w wr) := hE
     clear hR hE
     go_wp2
     go_ret
     exact ⟨j, Nat.lt_of_not_le fun h => absurd (Nat.div_pos h (Nat.pow_pos (by decide))) (by rw [AJ.out.1]; decide), AJ.out.2.1, Nat.le_of_not_lt fun h => AJ.out.2.2.1 (Nat.div_eq_of_lt h), rfl, AE.out⟩
  ·have hlx := nlen_pos hx0
   have hr1 := hrest wr u0 _ hn (Nat.le_trans (nlen_mono (Nat.div_le_self _ _)) hl0)
   obtain ⟨ax, bx, ox, cx, rfl, m1, m2, m3⟩ := hn
   clear m1 m2 m3
   obtain ⟨lx, hl⟩ : ∃ l, l = nlen (N / 10 ^ j) := ⟨_, rfl⟩
   rw [<- hl] at hr1 ⊢
   have hlz : (0 : Int) < (lx : Int) := by omega
   obtain ⟨r, hr⟩ : ∃ r, r = N / 10 ^ j % 10 := ⟨_, rfl⟩
   have hr10 : r < 10 := by omega
   have hrz : (r : Int) < 36 := by omega
   rw [<- hr] at hr1
   have AL : Aside (lx = nlen (N / 10 ^ j) /\ r = N / 10 ^ j % 10 /\ N / 10 ^ j ≠ 0 /\ gk = N / 10 ^ j) := ⟨hl, hr, hx0, hg⟩
   clear hlx hx0 hl hr hg hjm
   have AJ : Aside (True /\ j + 1 <= 100000) := ⟨trivial, digits_bound hl0 AL.out.2.2.1⟩
   have AO : Aside (∀ k, u5.ownBlock = some k -> w.heap.size <= k /\ k < wr.heap.size) := hown.lt
   rcases (by omega : r = 0 \/ r = 1 \/ r = 2 \/ r = 3 \/ r = 4 \/ r = 5 \/ r = 6 \/ r = 7 \/ r = 8 \/ r = 9) with rfl | rfl | rfl | rfl | rfl | rfl | rfl | rfl | rfl | rfl
   ·have AK : Aside (N / 10 ^ j % 10 = 0) := by show _ = 0; exact AL.out.2.1.symm
    go_wp2_with (first | (go_at_call 95; (with_reducible refine hr1.mono ?_); rintro e w1 ⟨v', rfl, hn', hE1⟩; have hown1 := own_ext5 hown hE1; clear hr1) | (at_builtin; go_must (refine wpList_append_own _ rfl (.tmp 21) (.tmp 24) 133 rfl w.heap.size 5 i0 (.int .u8 0) 1 1 und118 hi hz0 hz1 hz2 rfl (by decide) _ _ _ rfl (hown1.alloc _) ⟨w1.heap.size, 0, none⟩ 1 1 [.int .u8 48] rfl rfl (one_cell _ _ _) (one_oneCell _ _) (by unfold maxLen; omega) (by omega) (by have := hE.size; have := hE1.size; simp; omega) ?_; intro v2 w2 hown2 hgrow2 hnil2)))
    go_roundg (N / 10 ^ (j + 1))
    case measure => go_light; have h1 := AL.out; rw [h1.2.2.2, Nat.pow_succ, <- Nat.div_div_eq_div_mul]; omega
    case rel =>
     go_light
     have e1 : N / 10 ^ (j + 1) = N / 10 ^ j / 10 := by rw [Nat.pow_succ, <- Nat.div_div_eq_div_mul]
     have hb := bvals_succ N j
     rw [AK.out] at hb
     refine ⟨j + 1, rfl, ?_, ?_, ((hE.trans hE1).alloc _).grown hgrow2 (fun k hk => (hown1.lt k hk).1), AJ.out.2, fun _ => by rw [Nat.add_sub_cancel]; exact AL.out.2.2.1⟩
     ·rw [e1]
      exact hn'.grown5 (by rw [AL.out.1]; exact nlen_mono (Nat.div_le_self _ _)) hgrow2 (fun k hk => (AO.out k hk).2)
     ·rw [<- hb]; exact hown2
   ·have AK : Aside (N / 10 ^ j % 10 = 1) := by show _ = 1; exact AL.out.2.1.symm
    go_wp2_with (first | (go_at_call 95; (with_reducible refine hr1.mono ?_); rintro e w1 ⟨v', rfl, hn', hE1⟩; have hown1 := own_ext5 hown hE1; clear hr1) | (at_builtin; go_must (refine wpList_append_own _ rfl (.tmp 21) (.tmp 24) 133 rfl w.heap.size 5 i0 (.int .u8 0) 1 1 und118 hi hz0 hz1 hz2 rfl (by decide) _ _ _ rfl (hown1.alloc _) ⟨w1.heap.size, 0, none⟩ 1 1 [.int .u8 49] rfl rfl (one_cell _ _ _) (one_oneCell _ _) (by unfold maxLen; omega) (by omega) (by have := hE.size; have := hE1.size; simp; omega) ?_; intro v2 w2 hown2 hgrow2 hnil2)))
    go_roundg (N / 10 ^ (j + 1))
    case measure => go_light; have h1 := AL.out; rw [h1.2.2.2, Nat.pow_succ, <- Nat.div_div_eq_div_mul]; omega
    case rel =>
     go_light
     have e1 : N / 10 ^ (j + 1) = N / 10 ^ j / 10 := by rw [Nat.pow_succ, <- Nat.div_div_eq_div_mul]
     have hb := bvals_succ N j
     rw [AK.out] at hb
     refine ⟨j + 1, rfl, ?_, ?_, ((hE.trans hE1).alloc _).grown hgrow2 (fun k hk => (hown1.lt k hk).1), AJ.out.2, fun _ => by rw [Nat.add_sub_cancel]; exact AL.out.2.2.1⟩
     ·rw [e1]
      exact hn'.grown5 (by rw [AL.out.1]; exact nlen_mono (Nat.div_le_self _ _)) hgrow2 (fun k hk => (AO.out k hk).2)
     ·rw [<- hb]; exact hown2
   ·have AK : Aside (N / 10 ^ j % 10 = 2) := by show _ = 2; exact AL.out.2.1.symm
    go_wp2_with (first | (go_at_call 95; (with_reducible refine hr1.mono ?_); rintro e w1 ⟨v', rfl, hn', hE1⟩; have hown1 := own_ext5 hown hE1; clear hr1) | (at_builtin; go_must (refine wpList_append_own _ rfl (.tmp 21) (.tmp 24) 133 rfl w.heap.size 5 i0 (.int .u8 0) 1 1 und118 hi hz0 hz1 hz2 rfl (by decide) _ _ _ rfl (hown1.alloc _) ⟨w1.heap.size, 0, none⟩ 1 1 [.int .u8 50] rfl rfl (one_cell _ _ _) (one_oneCell _ _) (by unfold maxLen; omega) (by omega) (by have := hE.size; have := hE1.size; simp; omega) ?_; intro v2 w2 hown2 hgrow2 hnil2)))
    go_roundg (N / 10 ^ (j + 1))
    case measure => go_light; have h1 := AL.out; rw [h1.2.2.2, Nat.pow_succ, <- Nat.div_div_eq_div_mul]; omega
    case rel =>
     go_light
     have e1 : N / 10 ^ (j + 1) = N / 10 ^ j / 10 := by rw [Nat.pow_succ, <- Nat.div_div_eq_div_mul]
     have hb := bvals_succ N j
     rw [AK.out] at hb
     refine ⟨j + 1, rfl, ?_, ?_, ((hE.trans hE1).alloc _).grown hgrow2 (fun k hk => (hown1.lt k hk).1), AJ.out.2, fun _ => by rw [Nat.add_sub_cancel]; exact AL.out.2.2.1⟩
     ·rw [e1]
      exact hn'.grown5 (by rw [AL.out.1]; exact nlen_mono (Nat.div_le_self _ _)) hgrow2 (fun k hk => (AO.out k hk).2)
     ·rw [<- hb]; exact hown2
   ·have AK : Aside (N / 10 ^ j % 10 = 3) := by show _ = 3; exact AL.out.2.1.symm
    go_wp2_with (first | (go_at_call 95; (with_reducible refine hr1.mono ?_); rintro e w1 ⟨v', rfl, hn', hE1⟩; have hown1 := own_ext5 hown hE1; clear hr1) | (at_builtin; go_must (refine wpList_append_own _ rfl (.tmp 21) (.tmp 24) 133 rfl w.heap.size 5 i0 (.int .u8 0) 1 1 und118 hi hz0 hz1 hz2 rfl (by decide) _ _ _ rfl (hown1.alloc _) ⟨w1.heap.size, 0, none⟩ 1 1 [.int .u8 51] rfl rfl (one_cell _ _ _) (one_oneCell _ _) (by unfold maxLen; omega) (by omega) (by have := hE.size; have := hE1.size; simp; omega) ?_; intro v2 w2 hown2 hgrow2 hnil2)))
    go_roundg (N / 10 ^ (j + 1))
    case measure => go_light; have h1 := AL.out; rw [h1.2.2.2, Nat.pow_succ, <- Nat.div_div_eq_div_mul]; omega
    case rel =>
     go_light
     have e1 : N / 10 ^ (j + 1) = N / 10 ^ j / 10 := by rw [Nat.pow_succ, <- Nat.div_div_eq_div_mul]
     have hb := bvals_succ N j
     rw [AK.out] at hb
     refine ⟨j + 1, rfl, ?_, ?_, ((hE.trans hE1).alloc _).grown hgrow2 (fun k hk => (hown1.lt k hk).1), AJ.out.2, fun _ => by rw [Nat.add_sub_cancel]; exact AL.out.2.2.1⟩
     ·rw [e1]
      exact hn'.grown5 (by rw [AL.out.1]; exact nlen_mono (Nat.div_le_self _ _)) hgrow2 (fun k hk => (AO.out k hk).2)
     ·rw [<- hb]; exact hown2
   ·have AK : Aside (N / 10 ^ j % 10 = 4) := by show _ = 4; exact AL.out.2.1.symm
    go_wp2_with (first | (go_at_call 95; (with_reducible refine hr1.mono ?_); rintro e w1 ⟨v', rfl, hn', hE1⟩; have hown1 := own_ext5 hown hE1; clear hr1) | (at_builtin; go_must (refine wpList_append_own _ rfl (.tmp 21) (.tmp 24) 133 rfl w.heap.size 5 i0 (.int .u8 0) 1 1 und118 hi hz0 hz1 hz2 rfl (by decide) _ _ _ rfl (hown1.alloc _) ⟨w1.heap.size, 0, none⟩ 1 1 [.int .u8 52] rfl rfl (one_cell _ _ _) (one_oneCell _ _) (by unfold maxLen; omega) (by omega) (by have := hE.size; have := hE1.size; simp; omega) ?_; intro v2 w2 hown2 hgrow2 hnil2)))
    go_roundg (N / 10 ^ (j + 1))
    case measure => go_light; have h1 := AL.out; rw [h1.2.2.2, Nat.pow_succ, <- Nat.div_div_eq_div_mul]; omega
    case rel =>
     go_light
     have e1 : N / 10 ^ (j + 1) = N / 10 ^ j / 10 := by rw [Nat.pow_succ, <- Nat.div_div_eq_div_mul]
     have hb := bvals_succ N j
     rw [AK.out] at hb
     refine ⟨j + 1, rfl, ?_, ?_, ((hE.trans hE1).alloc _).grown hgrow2 (fun k hk => (hown1.lt k hk).1), AJ.out.2, fun _ => by rw [Nat.add_sub_cancel]; exact AL.out.2.2.1⟩
     ·rw [e1]
      exact hn'.grown5 (by rw [AL.out.1]; exact nlen_mono (Nat.div_le_self _ _)) hgrow2 (fun k hk => (AO.out k hk).2)
     ·rw [<- hb]; exact hown2
   ·have AK : Aside (N / 10 ^ j % 10 = 5) := by show _ = 5; exact AL.out.2.1.symm
    go_wp2_with (first | (go_at_call 95; (with_reducible refine hr1.mono ?_); rintro e w1 ⟨v', rfl, hn', hE1⟩; have hown1 := own_ext5 hown hE1; clear hr1) | (at_builtin; go_must (refine wpList_append_own _ rfl (.tmp 21) (.tmp 24) 133 rfl w.heap.size 5 i0 (.int .u8 0) 1 1 und118 hi hz0 hz1 hz2 rfl (by decide) _ _ _ rfl (hown1.alloc _) ⟨w1.heap.size, 0, none⟩ 1 1 [.int .u8 53] rfl rfl (one_cell _ _ _) (one_oneCell _ _) (by unfold maxLen; omega) (by omega) (by have := hE.size; have := hE1.size; simp; omega) ?_; intro v2 w2 hown2 hgrow2 hnil2)))
    go_roundg (N / 10 ^ (j + 1))
    case measure => go_light; have h1 := AL.out; rw [h1.2.2.2, Nat.pow_succ, <- Nat.div_div_eq_div_mul]; omega
    case rel =>
     go_light
     have e1 : N / 10 ^ (j + 1) = N / 10 ^ j / 10 := by rw [Nat.pow_succ, <- Nat.div_div_eq_div_mul]
     have hb := bvals_succ N j
     rw [AK.out] at hb
     refine ⟨j + 1, rfl, ?_, ?_, ((hE.trans hE1).alloc _).grown hgrow2 (fun k hk => (hown1.lt k hk).1), AJ.out.2, fun _ => by rw [Nat.add_sub_cancel]; exact AL.out.2.2.1⟩
     ·rw [e1]
      exact hn'.grown5 (by rw [AL.out.1]; exact nlen_mono (Nat.div_le_self _ _)) hgrow2 (fun k hk => (AO.out k hk).2)
     ·rw [<- hb]; exact hown2
   ·have AK : Aside (N / 10 ^ j % 10 = 6) := by show _ = 6; exact AL.out.2.1.symm
    go_wp2_with (first | (go_at_call 95; (with_reducible refine hr1.mono ?_); rintro e w1 ⟨v', rfl, hn', hE1⟩; have hown1 := own_ext5 hown hE1; clear hr1) | (at_builtin; go_must (refine wpList_append_own _ rfl (.tmp 21) (.tmp 24) 133 rfl w.heap.size 5 i0 (.int .u8 0) 1 1 und118 hi hz0 hz1 hz2 rfl (by decide) _ _ _ rfl (hown1.alloc _) ⟨w1.heap.size, 0, none⟩ 1 1 [.int .u8 54] rfl rfl (one_cell _ _ _) (one_oneCell _ _) (by unfold maxLen; omega) (by omega) (by have := hE.size; have := hE1.size; simp; omega) ?_; intro v2 w2 hown2 hgrow2 hnil2)))
    go_roundg (N / 10 ^ (j + 1))
    case measure => go_light; have h1 := AL.out; rw [h1.2.2.2, Nat.pow_succ, <- Nat.div_div_eq_div_mul]; omega
    case rel =>
     go_light
     have e1 : N / 10 ^ (j + 1) = N / 10 ^ j / 10 := by rw [Nat.pow_succ, <- Nat.div_div_eq_div_mul]
     have hb := bvals_succ N j
     rw [AK.out] at hb
     refine ⟨j + 1, rfl, ?_, ?_, ((hE.trans hE1).alloc _).grown hgrow2 (fun k hk => (hown1.lt k hk).1), AJ.out.2, fun _ => by rw [Nat.add_sub_cancel]; exact AL.out.2.2.1⟩
     ·rw [e1]
      exact hn'.grown5 (by rw [AL.out.1]; exact nlen_mono (Nat.div_le_self _ _)) hgrow2 (fun k hk => (AO.out k hk).2)
     ·rw [<- hb]; exact hown2
   ·have AK : Aside (N / 10 ^ j % 10 = 7) := by show _ = 7; exact AL.out.2.1.symm
    go_wp2_with (first | (go_at_call 95; (with_reducible refine hr1.mono ?_); rintro e w1 ⟨v', rfl, hn', hE1⟩; have hown1 := own_ext5 hown hE1; clear hr1) | (at_builtin; go_must (refine wpList_append_own _ rfl (.tmp 21) (.tmp 24) 133 rfl w.heap.size 5 i0 (.int .u8 0) 1 1 und118 hi hz0 hz1 hz2 rfl (by decide) _ _ _ rfl (hown1.alloc _) ⟨w1.heap.size, 0, none⟩ 1 1 [.int .u8 55] rfl rfl (one_cell _ _ _) (one_oneCell _ _) (by unfold maxLen; omega) (by omega) (by have := hE.size; have := hE1.size; simp; omega) ?_; intro v2 w2 hown2 hgrow2 hnil2)))
    go_roundg (N / 10 ^ (j + 1))
    case measure => go_light; have h1 := AL.out; rw [h1.2.2.2, Nat.pow_succ, <- Nat.div_div_eq_div_mul]; omega
    case rel =>
     go_light
     have e1 : N / 10 ^ (j + 1) = N / 10 ^ j / 10 := by rw [Nat.pow_succ, <- Nat.div_div_eq_div_mul]
     have hb := bvals_succ N j
     rw [AK.out] at hb
     refine ⟨j + 1, rfl, ?_, ?_, ((hE.trans hE1).alloc _).grown hgrow2 (fun k hk => (hown1.lt k hk).1), AJ.out.2, fun _ => by rw [Nat.add_sub_cancel]; exact AL.out.2.2.1⟩
     ·rw [e1]
      exact hn'.grown5 (by rw [AL.out.1]; exact nlen_mono (Nat.div_le_self _ _)) hgrow2 (fun k hk => (AO.out k hk).2)
     ·rw [<- hb]; exact hown2
   ·have AK : Aside (N / 10 ^ j % 10 = 8) := by show _ = 8; exact AL.out.2.1.symm
    go_wp2_with (first | (go_at_call 95; (with_reducible refine hr1.mono ?_); rintro e w1 ⟨v', rfl, hn', hE1⟩; have hown1 := own_ext5 hown hE1; clear hr1) | (at_builtin; go_must (refine wpList_append_own _ rfl (.tmp 21) (.tmp 24) 133 rfl w.heap.size 5 i0 (.int .u8 0) 1 1 und118 hi hz0 hz1 hz2 rfl (by decide) _ _ _ rfl (hown1.alloc _) ⟨w1.heap.size, 0, none⟩ 1 1 [.int .u8 56] rfl rfl (one_cell _ _ _) (one_oneCell _ _) (by unfold maxLen; omega) (by omega) (by have := hE.size; have := hE1.size; simp; omega) ?_; intro v2 w2 hown2 hgrow2 hnil2)))
    go_roundg (N / 10 ^ (j + 1))
    case measure => go_light; have h1 := AL.out; rw [h1.2.2.2, Nat.pow_succ, <- Nat.div_div_eq_div_mul]; omega
    case rel =>
     go_light
     have e1 : N / 10 ^ (j + 1) = N / 10 ^ j / 10 := by rw [Nat.pow_succ, <- Nat.div_div_eq_div_mul]
     have hb := bvals_succ N j
     rw [AK.out] at hb
     refine ⟨j + 1, rfl, ?_, ?_, ((hE.trans hE1).alloc _).grown hgrow2 (fun k hk => (hown1.lt k hk).1), AJ.out.2, fun _ => by rw [Nat.add_sub_cancel]; exact AL.out.2.2.1⟩
     ·rw [e1]
      exact hn'.grown5 (by rw [AL.out.1]; exact nlen_mono (Nat.div_le_self _ _)) hgrow2 (fun k hk => (AO.out k hk).2)
     ·rw [<- hb]; exact hown2
   ·have AK : Aside (N / 10 ^ j % 10 = 9) := by show _ = 9; exact AL.out.2.1.symm
    go_wp2_with (first | (go_at_call 95; (with_reducible refine hr1.mono ?_); rintro e w1 ⟨v', rfl, hn', hE1⟩; have hown1 := own_ext5 hown hE1; clear hr1) | (at_builtin; go_must (refine wpList_append_own _ rfl (.tmp 21) (.tmp 24) 133 rfl w.heap.size 5 i0 (.int .u8 0) 1 1 und118 hi hz0 hz1 hz2 rfl (by decide) _ _ _ rfl (hown1.alloc _) ⟨w1.heap.size, 0, none⟩ 1 1 [.int .u8 57] rfl rfl (one_cell _ _ _) (one_oneCell _ _) (by unfold maxLen; omega) (by omega) (by have := hE.size; have := hE1.size; simp; omega) ?_; intro v2 w2 hown2 hgrow2 hnil2)))
    go_roundg (N / 10 ^ (j + 1))
    case measure => go_light; have h1 := AL.out; rw [h1.2.2.2, Nat.pow_succ, <- Nat.div_div_eq_div_mul]; omega
    case rel =>
     go_light
     have e1 : N / 10 ^ (j + 1) = N / 10 ^ j / 10 := by rw [Nat.pow_succ, <- Nat.div_div_eq_div_mul]
     have hb := bvals_succ N j
     rw [AK.out] at hb
     refine ⟨j + 1, rfl, ?_, ?_, ((hE.trans hE1).alloc _).grown hgrow2 (fun k hk => (hown1.lt k hk).1), AJ.out.2, fun _ => by rw [Nat.add_sub_cancel]; exact AL.out.2.2.1⟩
     ·rw [e1]
      exact hn'.grown5 (by rw [AL.out.1]; exact nlen_mono (Nat.div_le_self _ _)) hgrow2 (fun k hk => (AO.out k hk).2)
     ·rw [<- hb]; exact hown2
theorem dec_uniq {N j k : Nat} (h1 : N < 10 ^ j) (h2 : 10 ^ (j - 1) <= N) (h3 : N < 10 ^ k) (h4 : 10 ^ (k - 1) <= N) (hj : 0 < j) (hk : 0 < k) : j = k := by
 have a := (Nat.pow_lt_pow_iff_right (by decide : 1 < 10)).1 (Nat.lt_of_le_of_lt h2 h3)
 have b := (Nat.pow_lt_pow_iff_right (by decide : 1 < 10)).1 (Nat.lt_of_le_of_lt h4 h1)
 omega
set_option maxHeartbeats 1600000 in
theorem text_zero {v : Value} {w : World} (hv : Num w v 0) : Calls Tryz.prog 64 #[v, .int .u32 10] w fun e w' => e = .returned (.string ⟨⟨[48]⟩⟩) /\ Ext w w' := by
 obtain ⟨av, bv, ov, cv, rfl, m1, m2, m3⟩ := hv
 clear m1 m2 m3
 rw [nlen_zero]
 go_enter Tryz.func64, Tryz.ntmps64
 go_wp2
 go_ret
 exact ⟨rfl, Ext.refl w⟩
def IsDec (N : Nat) (s : ByteArray) : Prop := (N = 0 /\ s = ⟨⟨[48]⟩⟩) \/ ∃ j, N < 10 ^ j /\ 0 < j /\ 10 ^ (j - 1) <= N /\ s = decS N j
set_option maxHeartbeats 1600000 in
theorem string_walk {v : Value} {N : Nat} {w : World} (hv : Num w v N) (hl : nlen N <= 1000) : Calls Tryz.prog 31 #[v] w fun e w' => ∃ s, e = .returned (.string s) /\ IsDec N s /\ Ext w w' := by
 have ht : Calls Tryz.prog 64 #[v, .int .u32 10] w fun e w' => ∃ s, e = .returned (.string s) /\ IsDec N s /\ Ext w w' := by
  by_cases h0 : N = 0
  ·subst h0
   exact (text_zero hv).mono fun e w' ⟨h1, h2⟩ => ⟨_, h1, .inl ⟨rfl, rfl⟩, h2⟩
  ·exact (text_core hv hl h0).mono fun e w' ⟨j, h1, h2, h3, h4, h5⟩ => ⟨_, h4, .inr ⟨j, h1, h2, h3, rfl⟩, h5⟩
 clear hv hl
 go_enter Tryz.func31, Tryz.ntmps31
 go_wp2_with (go_at_call 64; (with_reducible refine ht.mono ?_); rintro e w1 ⟨s, rfl, h1, h2⟩)
 go_ret
 exact ⟨s, rfl, h1, h2⟩
theorem IsDec.eq {N k : Nat} {s : ByteArray} (h : IsDec N s) (h1 : N < 10 ^ k) (h2 : 10 ^ (k - 1) <= N) (hk : 0 < k) : s = decS N k := by
 rcases h with ⟨rfl, _⟩ | ⟨j, a, b, c, rfl⟩
 ·have := Nat.pow_pos (n := k - 1) (by decide : 0 < 10)
  omega
 ·rw [dec_uniq a c h1 h2 b hk]
end Go.Eng
