/-
 Whole numbers of the program: a text read, and made an element of the field.
-/
import Derived.Deep.RegionHeld3
import Derived.Test.YtajgaijilkfjnaaGreatDoorK1
import Derived.Test.YtajgaijilkfjnaaGreatDoorA2
import Derived.Test.YtajgaijilkfjnaaGreatDoorX1
import Derived.Test.YtajgaijilkfjnaaGreatDoorD5
import Derived.Test.YtajgaijilkfjnaaGreatDoorF1
import Derived.Test.YtajgaijilkfjnaaGreatDoorF3
set_option linter.unusedVariables false
set_option linter.unusedSimpArgs false
namespace Go.Eng
open Go Go.RowKit Go.Proofs
set_option maxRecDepth 100000
def byt (s : ByteArray) (i : Nat) : Nat := (s.data.getD i 0).toNat
structure Fr (rb B0 : Nat) (w w' : World) : Prop where
 os : w'.os = w.os
 tape : w'.tape = w.tape
 output : w'.output = w.output
 size : w.heap.size <= w'.heap.size
 block : ∀ i, i < B0 -> i ≠ rb -> w'.heap[i]? = w.heap[i]?
namespace Fr
variable {rb B0 : Nat} {w w' w'' : World}
theorem refl : Fr rb B0 w w := ⟨rfl, rfl, rfl, Nat.le_refl _, fun _ _ _ => rfl⟩
theorem but (h : Fr rb B0 w w') (k : But rb w' w'') : Fr rb B0 w w'' := ⟨k.os.trans h.os, k.tape.trans h.tape, k.output.trans h.output, by rw [k.size]; exact h.size, fun i hi hr => (k.block i hr).trans (h.block i hi hr)⟩
theorem since (h : Fr rb B0 w w') (k : w'.Since B0 w'') : Fr rb B0 w w'' := ⟨k.os.trans h.os, k.tape.trans h.tape, k.output.trans h.output, Nat.le_trans h.size k.size, fun i hi hr => (k.block i hi).trans (h.block i hi hr)⟩
theorem drew (h : Fr rb B0 w w') : Fr rb B0 w w'.drew := ⟨h.os, h.tape, h.output, h.size, h.block⟩
theorem cell (h : Fr rb B0 w w') {i o : Nat} {v : Value} (hi : i < B0) (hr : i ≠ rb) (k : w.cell? ⟨i, o, none⟩ = some v) : w'.cell? ⟨i, o, none⟩ = some v := by
 unfold World.cell? at k ⊢
 rw [h.block i hi hr]
 exact k
end Fr
theorem NatW.but {w w' : World} {v : Value} {N B0 rb : Nat} (h : NatW w v N B0) (k : But rb w w') (hr : rb < B0) : NatW w' v N B0 := by
 rcases h with h | ⟨b, c, e, h1, h2, h3, h4, h5, h6, h7⟩
 ·exact .inl h
 ·exact .inr ⟨b, c, e, h1, h2, h3, h4, h5, h6.of_block (k.block b (by omega)), h7⟩
theorem readB {w : World} {rb : Nat} {s : ByteArray} {i : Nat} (h : Rdr w rb s i) (hi : i < s.size) (hs : s.size <= 1000000) :
  Calls Tryz.prog 291 #[.pointer (some ⟨rb, 0, none⟩)] w fun e w' => ∃ c : Nat, c = byt s i /\ e = .returned (.tuple #[.int .u8 (c : Int), .nilIface]) /\ Rdr w' rb s (i + 1) /\ But rb w w' :=
 (readByte_walk h hi hs).mono fun e w' ⟨h1, h2, h3⟩ => ⟨_, rfl, h1, h2, h3⟩
theorem nlw_gen {m : Nat} {s : ByteArray} {k N i di : Nat} (hd : ∀ k, k < s.size -> 48 <= byt s k /\ byt s k <= 57) (hk : k <= s.size) (hs : k <= m) (h : N * 10 ^ i + di = rdN s k) : nlw N <= m := by
 have h1 := rdN_lt (fun j hj => (hd j hj).2) k hk
 have h2 : 10 ^ k <= 10 ^ m := Nat.pow_le_pow_right (by decide) hs
 have h3 : 10 ^ m <= wq ^ m := Nat.pow_le_pow_left (by decide) m
 have h4 : N * 1 <= N * 10 ^ i := Nat.mul_le_mul_left N (Nat.pow_pos (by decide))
 refine nlw_le ?_
 refine Nat.lt_of_le_of_lt ?_ (Nat.lt_of_lt_of_le h1 (Nat.le_trans h2 h3))
 omega
theorem nlw_1000 {s : ByteArray} {k N i di : Nat} (hd : ∀ k, k < s.size -> 48 <= byt s k /\ byt s k <= 57) (hk : k <= s.size) (hs : k <= 1000) (h : N * 10 ^ i + di = rdN s k) : nlw N <= 1000 := nlw_gen hd hk hs h
theorem eof_since {w w' : World} {B0 : Nat} {v : Value} (h : w.cell? ⟨2, 0, none⟩ = some v) (k : w.Since B0 w') (hb : 2 < B0) : w'.cell? ⟨2, 0, none⟩ = some v := by
 unfold World.cell? at h ⊢
 rw [k.block 2 hb]
 exact h
theorem lt10 {a b d : Nat} (h : a < b) (h2 : d < 10) : a * 10 + d < b * 10 := by omega
set_option maxHeartbeats 6400000 in
theorem scan_walk {w : World} {rb B0 eb eo : Nat} {s : ByteArray} (hR : Rdr w rb s 0) (hs0 : 0 < s.size) (hs : s.size <= 1000) (hd : ∀ k, k < s.size -> 48 <= byt s k /\ byt s k <= 57) (hg : w.cell? ⟨2, 0, none⟩ = some (.iface 181 (.pointer (some ⟨eb, eo, none⟩)))) (h2r : rb ≠ 2) (h2B : 2 < B0) (hrB : rb < B0) (hB : B0 <= w.heap.size) :
  Calls Tryz.prog 166 #[.slice none 0 0, .iface 151 (.pointer (some ⟨rb, 0, none⟩)), .int .i64 10, .bool false] w fun e w' => ∃ v, e = .returned (.tuple #[v, .int .i64 10, .int .i64 (s.size : Int), .nilIface]) /\ NatW w' v (rdN s s.size) B0 /\ Rdr w' rb s s.size /\ Fr rb B0 w w' := by
 have hr1 := readB hR hs0 (by omega)
 have hmr := meth_read (.pointer (some ⟨rb, 0, none⟩))
 have hmp := maxPow10
 go_enter Tryz.func166, Tryz.ntmps166
 go_upto_region 7 with (go_at_call 291; (with_reducible refine hr1.mono ?_); rintro e w1 ⟨c0, hc0, rfl, hR1, hB1⟩)
 clear hr1
 go_wp2_with (go_at_call 125; (with_reducible refine (hmp w1).mono ?_); rintro e w2 ⟨rfl, hw2⟩; rw [hw2]; clear hw2)
 clear hmp
 have hF1 : Fr rb B0 w w1 := Fr.refl.but hB1
 go_loopg [0, 3, 10, 11, 13, 14, 15, 20, 21, 22] s.size (fun g s0 s3 s10 s11 s13 s14 s15 s20 s21 s22 wr => ∃ k N di i p : Nat, g = s.size - k /\ k <= s.size /\ i < 19 /\ di < 10 ^ i /\ N * 10 ^ i + di = rdN s k /\ NatW wr s0 N B0 /\ Fr rb B0 w wr /\ s3 = .bool false /\ s10 = .int .i64 (k : Int) /\ s13 = .int .i32 (p : Int) /\ p < 95 /\ s14 = .bool false /\ s20 = .int .u64 (di : Int) /\ s21 = .int .i64 (i : Int) /\ s22 = .int .i64 (-1) /\
  ((k < s.size /\ (∃ c, c = byt s k /\ s15 = .int .u8 (c : Int)) /\ s11 = .nilIface /\ Rdr wr rb s (k + 1)) \/ (k = s.size /\ (∃ c : Nat, s15 = .int .u8 (c : Int)) /\ s11 = .iface 181 (.pointer (some ⟨eb, eo, none⟩)) /\ Rdr wr rb s s.size)))
 case atStart =>
  exact ⟨0, 0, 0, 0, 46, rfl, Nat.zero_le _, by decide, by decide, rfl, .inl ⟨rfl, rfl⟩, hF1, rfl, rfl, rfl, by decide, rfl, rfl, rfl, rfl, .inl ⟨hs0, ⟨_, rfl, rfl⟩, rfl, hR1⟩⟩
 case round =>
  obtain ⟨k, N, di, i, p, hgk, hk, hi, hdi, hval, hN, hF, rfl, rfl, rfl, hp, rfl, rfl, rfl, rfl, hcase⟩ := hrel
  rcases hcase with ⟨hks, ⟨c, hc, rfl⟩, rfl, hRd⟩ | ⟨hks, ⟨c, rfl⟩, rfl, hRd⟩
  ·have hck := hd k hks
   rw [<- hc] at hck
   obtain ⟨d, hdd⟩ : ∃ d, d = c - 48 := ⟨_, rfl⟩
   have hd10 : d < 10 := by omega
   have h46 : ((c : Int) == 46) = false := by simp; omega
   have h95 : ((c : Int) == 95) = false := by simp; omega
   have hl1 : (48 : Int) <= (c : Int) := by omega
   have hl2 : (c : Int) <= 57 := by omega
   have hsub : IntKind.u8.wrap ((c : Int) - 48) = (d : Int) := by rw [IntKind.wrap_u8]; omega
   have hcv : IntKind.u64.wrap (d : Int) = (d : Int) := by rw [IntKind.wrap_u64]; omega
   have hge : ¬ (10 : Int) <= (d : Int) := by omega
   have hcnt : IntKind.i64.wrap ((k : Int) + 1) = (k : Int) + 1 := by rw [IntKind.wrap_i64]; omega
   have hinc : IntKind.i64.wrap ((i : Int) + 1) = (i : Int) + 1 := by rw [IntKind.wrap_i64]; omega
   have hdi18 : di < 10 ^ 18 := Nat.lt_of_lt_of_le hdi (Nat.pow_le_pow_right (by decide) (by omega))
   have hdi18' : di < 1000000000000000000 := hdi18
   obtain ⟨r, hr⟩ : ∃ r, r = di * 10 + d := ⟨_, rfl⟩
   have hrl : r < 10000000000000000000 := by omega
   have hmul : IntKind.u64.wrap ((di : Int) * 10) = (di : Int) * 10 := by rw [IntKind.wrap_u64]; omega
   have hadd : IntKind.u64.wrap ((di : Int) * 10 + (d : Int)) = (r : Int) := by rw [IntKind.wrap_u64]; omega
   have hrd : rdN s (k + 1) = rdN s k * 10 + d := by rw [rdN, hdd, hc]; rfl
   have hrp : r < 10 ^ (i + 1) := by rw [Nat.pow_succ, hr]; exact lt10 hdi hd10
   have hvl : N * 10 ^ (i + 1) + r = rdN s (k + 1) := by rw [hrd, <- hval, hr, Nat.pow_succ, Nat.add_mul, <- Nat.mul_assoc, Nat.add_assoc]
   have hBs : B0 <= wr.heap.size := Nat.le_trans hB hF.size
   have hgw : wr.cell? ⟨2, 0, none⟩ = some (.iface 181 (.pointer (some ⟨eb, eo, none⟩))) := hF.cell h2B (fun e => h2r e.symm) hg
   by_cases h19 : i + 1 = 19
   ·have hlw : nlw N <= 1000 := nlw_1000 hd (by omega) (by omega) hval
    have hmw := maw_nat (y := 10000000000000000000) (r := r) hN hBs hlw (by decide) (by decide) (by omega)
    have e19 : ((10000000000000000000 : Nat) : Int) = 10000000000000000000 := rfl
    rw [e19] at hmw
    have hv19 : N * 10000000000000000000 + r = rdN s (k + 1) := by rw [<- hvl, h19]
    have AV : Aside (Fr rb B0 w wr /\ k < s.size /\ s.size <= 1000 /\ N * 10000000000000000000 + r = rdN s (k + 1)) := ⟨hF, hks, hs, hv19⟩
    have heq : ((i : Int) + 1 == 19) = true := by simp; omega
    by_cases hlast : k + 1 < s.size
    ·clear hrd hvl hrp hdi hdi18 hdi18' hval hF hr hdd hc hck hd hBs h19 hd10 hrl hi hlw hv19 e19
     go_wp2_with (first
      | (go_at_call 185; (with_reducible refine hmw.mono ?_); rintro e w2 ⟨v2, rfl, hN2, hS2⟩)
      | (go_at_call 291; (with_reducible refine (readB (hRd.since hS2 hrB) hlast (by omega)).mono ?_); rintro e w3 ⟨c2, hc2, rfl, hR3, hB3⟩))
     go_roundg (s.size - (k + 1))
     case measure => go_light; omega
     case rel =>
      go_light
      obtain ⟨a1, a2, a3, a4⟩ := AV.out
      exact ⟨k + 1, _, 0, 0, 48, rfl, by omega, by decide, by decide, by rw [Nat.pow_zero, Nat.mul_one, Nat.add_zero]; exact a4, hN2.but hB3 hrB, (a1.since hS2).but hB3, rfl, rfl, rfl, by decide, rfl, rfl, rfl, rfl, .inl ⟨hlast, ⟨_, rfl, rfl⟩, rfl, hR3⟩⟩
    ·have hkl : k + 1 = s.size := by omega
     clear hrd hvl hrp hdi hdi18 hdi18' hval hF hr hdd hc hck hd hBs h19 hd10 hrl hi hlw hv19 e19
     go_wp2_with (first
      | (go_at_call 185; (with_reducible refine hmw.mono ?_); rintro e w2 ⟨v2, rfl, hN2, hS2⟩)
      | (go_at_call 291; (with_reducible refine (readEnd_walk (hkl ▸ (hRd.since hS2 hrB)) (by omega) (eof_since hgw hS2 h2B) h2r).mono ?_); rintro e w3 ⟨rfl, hR3, hB3⟩))
     go_roundg (s.size - (k + 1))
     case measure => go_light; omega
     case rel =>
      go_light
      obtain ⟨a1, a2, a3, a4⟩ := AV.out
      exact ⟨k + 1, _, 0, 0, 48, rfl, by omega, by decide, by decide, by rw [Nat.pow_zero, Nat.mul_one, Nat.add_zero]; exact a4, hN2.but hB3 hrB, (a1.since hS2).but hB3, rfl, rfl, rfl, by decide, rfl, rfl, rfl, rfl, .inr ⟨hkl, ⟨0, rfl⟩, rfl, hR3⟩⟩
   ·have hne : ((i : Int) + 1 == 19) = false := by simp; omega
    have AV : Aside (N * 10 ^ (i + 1) + r = rdN s (k + 1) /\ r < 10 ^ (i + 1) /\ i + 1 < 19 /\ NatW wr u0 N B0 /\ Fr rb B0 w wr /\ k < s.size /\ s.size <= 1000 /\ rb < B0) := ⟨hvl, hrp, by omega, hN, hF, hks, hs, hrB⟩
    by_cases hlast : k + 1 < s.size
    ·have hrb := readB hRd hlast (by omega)
     clear hrd hvl hrp hdi hdi18 hdi18' hval hN hF hr hdd hc hck hd hgw hBs h19 hd10 hrl hRd hi
     go_wp2_with (go_at_call 291; (with_reducible refine hrb.mono ?_); rintro e w2 ⟨c2, hc2, rfl, hR2, hB2⟩)
     go_roundg (s.size - (k + 1))
     case measure => go_light; omega
     case rel =>
      go_light
      obtain ⟨a1, a2, a3, a4, a5, a6, a7, a8⟩ := AV.out
      exact ⟨k + 1, N, r, i + 1, 48, rfl, by omega, a3, a2, a1, a4.but hB2 a8, a5.but hB2, rfl, rfl, rfl, by decide, rfl, rfl, rfl, rfl, .inl ⟨hlast, ⟨_, rfl, rfl⟩, rfl, hR2⟩⟩
    ·have hkl : k + 1 = s.size := by omega
     have hrb := readEnd_walk (hkl ▸ hRd) (by omega) hgw h2r
     clear hrd hvl hrp hdi hdi18 hdi18' hval hN hF hr hdd hc hck hd hgw hBs h19 hd10 hrl hRd hi
     go_wp2_with (go_at_call 291; (with_reducible refine hrb.mono ?_); rintro e w2 ⟨rfl, hR2, hB2⟩)
     go_roundg (s.size - (k + 1))
     case measure => go_light; omega
     case rel =>
      go_light
      obtain ⟨a1, a2, a3, a4, a5, a6, a7, a8⟩ := AV.out
      exact ⟨k + 1, N, r, i + 1, 48, rfl, by omega, a3, a2, a1, a4.but hB2 a8, a5.but hB2, rfl, rfl, rfl, by decide, rfl, rfl, rfl, rfl, .inr ⟨hkl, ⟨0, rfl⟩, rfl, hR2⟩⟩
  ·have hgw : wr.cell? ⟨2, 0, none⟩ = some (.iface 181 (.pointer (some ⟨eb, eo, none⟩))) := hF.cell h2B (fun e => h2r e.symm) hg
   have heof := eq_eof ⟨eb, eo, none⟩
   have hk0 : ((k : Int) == 0) = false := by simp; omega
   have hBs : B0 <= wr.heap.size := Nat.le_trans hB hF.size
   have h95 : ((p : Int) == 95) = false := by simp; omega
   by_cases hi0 : i = 0
   ·subst hi0
    have hd0 : di = 0 := by omega
    have hv : N = rdN s s.size := by rw [hks, hd0, Nat.pow_zero, Nat.mul_one, Nat.add_zero] at hval; exact hval
    rw [show ((0 : Nat) : Int) = 0 from rfl]
    have AV : Aside (N = rdN s s.size /\ NatW wr u0 N B0 /\ Fr rb B0 w wr /\ Rdr wr rb s s.size /\ k = s.size) := ⟨hv, hN, hF, hRd, hks⟩
    clear hv hN hF hRd hks hval hd0 hdi hi hk hgk hR1 hB1 hF1 hd
    go_wp2
    simp [bodyPost, results, Tryz.results166, go_sem]
    obtain ⟨a1, a2, a3, a4, a5⟩ := AV.out
    rw [<- a1]
    exact ⟨u0, ⟨rfl, by rw [a5]⟩, a2, a4, a3⟩
   ·have hgt : (0 : Int) < (i : Int) := by omega
    have hpw := pow_walk (i := i) (by omega)
    have hlw : nlw N <= 1000 := nlw_1000 hd hk (by omega) hval
    have hp18 : 10 ^ i <= 10 ^ 18 := Nat.pow_le_pow_right (by decide) (by omega)
    have hpl : 10 ^ i < 18446744073709551616 := Nat.lt_of_le_of_lt hp18 (by decide)
    have hmw := maw_nat (y := 10 ^ i) (r := di) hN hBs hlw (Nat.pos_iff_ne_zero.1 (Nat.pow_pos (by decide))) hpl (Nat.lt_trans hdi hpl)
    have hv : N * 10 ^ i + di = rdN s s.size := by rw [hks] at hval; exact hval
    have ec : ((10 ^ i : Nat) : Int) = (10 : Int) ^ i := by rw [Int.natCast_pow]; rfl
    rw [ec] at hmw
    have AV : Aside (N * 10 ^ i + di = rdN s s.size /\ Fr rb B0 w wr /\ Rdr wr rb s s.size /\ k = s.size) := ⟨hv, hF, hRd, hks⟩
    clear hv hF hRd hks hval hdi hi hk hgk hR1 hB1 hF1 hd hpl hp18 hlw
    go_wp2_with (first
     | (go_at_call 186; (with_reducible refine (hpw _).mono ?_); rintro e w2 ⟨rfl, hw2⟩; rw [hw2]; clear hw2)
     | (go_at_call 185; (with_reducible refine hmw.mono ?_); rintro e w3 ⟨v3, rfl, hN3, hS3⟩))
    simp [bodyPost, results, Tryz.results166, go_sem]
    obtain ⟨a1, a2, a3, a4⟩ := AV.out
    rw [<- a1]
    exact ⟨v3, ⟨rfl, by rw [a4]⟩, hN3, a3.since hS3 hrB, a2.since hS3⟩
end Go.Eng
namespace Go.Eng
open Go Go.RowKit Go.Proofs
set_option maxRecDepth 100000
theorem dw_split (X i : Nat) : X / wq ^ i = X / wq ^ (i + 1) * wq + dw X i := by
 rw [dw, Nat.pow_succ, <- Nat.div_div_eq_div_mul]
 have := Nat.div_add_mod (X / wq ^ i) wq
 rw [Nat.mul_comm] at this
 exact this.symm
theorem wcmp_lt {X Y i : Nat} (h : X / wq ^ (i + 1) = Y / wq ^ (i + 1)) (hd : dw X i < dw Y i) : cmpN X Y = -1 := by
 have h1 := dw_split X i
 have h2 := dw_split Y i
 have h3 : X / wq ^ i < Y / wq ^ i := by rw [h1, h2, h]; omega
 refine if_pos (Nat.lt_of_not_le fun hle => ?_)
 have := Nat.div_le_div_right (c := wq ^ i) hle
 omega
theorem wcmp_gt {X Y i : Nat} (h : X / wq ^ (i + 1) = Y / wq ^ (i + 1)) (hd : dw Y i < dw X i) : cmpN X Y = 1 := by
 have h1 := dw_split X i
 have h2 := dw_split Y i
 have h3 : Y / wq ^ i < X / wq ^ i := by rw [h1, h2, h]; omega
 have h4 : Y < X := Nat.lt_of_not_le fun hle => by
  have := Nat.div_le_div_right (c := wq ^ i) hle
  omega
 rw [cmpN, if_neg (by omega), if_neg (by omega)]
theorem wcmp_step {X Y i : Nat} (h : X / wq ^ (i + 1) = Y / wq ^ (i + 1)) (hd : dw X i = dw Y i) : X / wq ^ i = Y / wq ^ i := by
 rw [dw_split X i, dw_split Y i, h, hd]
theorem wcmp_eq {X Y : Nat} (h : X / wq ^ 0 = Y / wq ^ 0) : cmpN X Y = 0 := by
 simp only [Nat.pow_zero, Nat.div_one] at h
 rw [cmpN, if_neg (by omega), if_pos h]
theorem wcmp_len_lt {X Y : Nat} (h : nlw X < nlw Y) : cmpN X Y = -1 := if_pos (Nat.lt_of_not_le fun hle => by have := nlw_mono hle; omega)
theorem wcmp_len_gt {X Y : Nat} (h : nlw Y < nlw X) : cmpN X Y = 1 := by
 have h4 : Y < X := Nat.lt_of_not_le fun hle => by have := nlw_mono hle; omega
 rw [cmpN, if_neg (by omega), if_neg (by omega)]
theorem wtop_eq {X Y l : Nat} (hX : nlw X = l) (hY : nlw Y = l) : X / wq ^ l = Y / wq ^ l := by
 rw [Nat.div_eq_of_lt (lt_iff_nlw.2 (by omega)), Nat.div_eq_of_lt (lt_iff_nlw.2 (by omega))]
theorem NatW.ext {w w' : World} {v : Value} {N B0 : Nat} (h : NatW w v N B0) (k : Ext w w') : NatW w' v N B0 := by
 rcases h with h | ⟨b, c, e, h1, h2, h3, h4, h5, h6, h7⟩
 ·exact .inl h
 ·obtain ⟨x, hx, hn, hc⟩ := h6
  refine .inr ⟨b, c, e, h1, h2, h3, h4, h5, ⟨x, ?_, hn, hc⟩, h7⟩
  rw [k.block b (Array.getElem?_eq_some_iff.1 hx).1]
  exact hx
set_option maxHeartbeats 1600000 in
theorem ncmp_core (bx ox cx by' oy cy l X Y : Nat) (w : World) (hl : l + 1 <= 100000) (hX : nlw X = l + 1) (hY : nlw Y = l + 1)
  (hx : ∀ j, j < l + 1 -> w.cell? ⟨bx, ox + j, none⟩ = some (.int .u64 (dw X j : Int))) (hy : ∀ j, j < l + 1 -> w.cell? ⟨by', oy + j, none⟩ = some (.int .u64 (dw Y j : Int))) :
  Calls Tryz.prog 138 #[.slice (some ⟨bx, ox, none⟩) (l + 1) cx, .slice (some ⟨by', oy, none⟩) (l + 1) cy] w fun e w' => e = .returned (.int .i64 (cmpN X Y)) /\ Ext w w' := by
 have htop := wtop_eq hX hY
 clear hX hY
 have AT : Aside (X / wq ^ (l + 1) = Y / wq ^ (l + 1)) := htop
 clear htop
 have hs1 : ((l + 1 : Nat) : Int) - 1 = (l : Int) := by omega
 have hn0 : (((l + 1 : Nat) : Int) == 0) = false := by simp; omega
 go_enter Tryz.func138, Tryz.ntmps138
 go_wp2
 go_loopg [7] l (fun g s wr => g <= l /\ s = .int .i64 (g : Int) /\ Ext w wr /\ X / wq ^ (g + 1) = Y / wq ^ (g + 1))
 case atStart =>
  go_light
  exact ⟨Nat.le_refl _, by first | rfl | simp, Ext.refl w, AT.out⟩
 case round =>
  obtain ⟨hg, rfl, hE, hv⟩ := hrel
  have hkl : (gk : Int) < ((l + 1 : Nat) : Int) := by omega
  have g0 : wr.cell? ⟨bx, ox + gk, none⟩ = some (.int .u64 (dw X gk : Int)) := hE.cell (hx gk (by omega))
  have g1 : wr.cell? ⟨by', oy + gk, none⟩ = some (.int .u64 (dw Y gk : Int)) := hE.cell (hy gk (by omega))
  have AI : Aside (X / wq ^ (gk + 1) = Y / wq ^ (gk + 1) /\ Ext w wr) := ⟨hv, hE⟩
  clear hv hE hx hy AT
  obtain ⟨dx, hdx⟩ : ∃ d, d = dw X gk := ⟨_, rfl⟩
  obtain ⟨dy, hdy⟩ : ∃ d, d = dw Y gk := ⟨_, rfl⟩
  rw [<- hdx] at g0
  rw [<- hdy] at g1
  have AD : Aside (dx = dw X gk /\ dy = dw Y gk) := ⟨hdx, hdy⟩
  clear hdx hdy
  by_cases hsame : 0 < gk /\ dx = dy
  ·obtain ⟨hg0, hd⟩ := hsame
   have hgt : (0 : Int) < (gk : Int) := by omega
   have hdd : ((dx : Int) == (dy : Int)) = true := by subst hd; simp
   have hdec : IntKind.i64.wrap ((gk : Int) - 1) = ((gk - 1 : Nat) : Int) := by rw [IntKind.wrap_i64]; omega
   have AE : Aside (dx = dy /\ 0 < gk) := ⟨hd, hg0⟩
   clear hd hs1 hn0
   go_wp2
   go_quiet (fail)
   go_wp2
   go_roundg (gk - 1)
   case measure => go_light; omega
   case rel =>
    go_light
    have h1 := AD.out
    refine ⟨by omega, by first | rfl | simp, AI.out.2.drewN _, ?_⟩
    rw [show gk - 1 + 1 = gk by omega]
    refine wcmp_step AI.out.1 ?_
    rw [<- h1.1, <- h1.2]
    exact AE.out.1
  ·by_cases hlt : dx < dy
   ·have hlz : (dx : Int) < (dy : Int) := by omega
    have hdd : ((dx : Int) == (dy : Int)) = false := by simp; omega
    have hnn : ¬ dx = dy := by omega
    have AE : Aside (dx < dy) := hlt
    have hres : cmpN X Y = -1 := wcmp_lt AI.out.1 (by rw [<- AD.out.1, <- AD.out.2]; exact hlt)
    have AR : Aside (cmpN X Y = -1) := hres
    clear hres hlt hsame
    by_cases hg0 : gk = 0
    ·subst hg0
     rw [Nat.add_zero] at g0 g1
     have hgt : ¬ (0 : Int) < ((0 : Nat) : Int) := by omega
     go_wp2
     go_quiet (fail)
     go_wp2
     go_quiet (fail)
     go_wp2
     go_ret
     exact ⟨by rw [AR.out]; rfl, (AI.out.2.drewN _).drewN _⟩
    ·have hgt : (0 : Int) < (gk : Int) := by omega
     have hgp : 0 < gk := by omega
     clear hg0 hs1 hn0
     go_wp2
     go_quiet (fail)
     go_wp2
     go_quiet (fail)
     go_wp2
     go_ret
     exact ⟨by rw [AR.out]; rfl, (AI.out.2.drewN _).drewN _⟩
   ·have hlz : ¬ (dx : Int) < (dy : Int) := by omega
    by_cases hgt2 : dy < dx
    ·have hlz2 : (dy : Int) < (dx : Int) := by omega
     have hdd : ((dx : Int) == (dy : Int)) = false := by simp; omega
     have hnn : ¬ dx = dy := by omega
     have hres : cmpN X Y = 1 := wcmp_gt AI.out.1 (by rw [<- AD.out.1, <- AD.out.2]; exact hgt2)
     have AR : Aside (cmpN X Y = 1) := hres
     clear hres hlt hsame hgt2
     by_cases hg0 : gk = 0
     ·subst hg0
      rw [Nat.add_zero] at g0 g1
      have hgt : ¬ (0 : Int) < ((0 : Nat) : Int) := by omega
      go_wp2
      go_quiet (fail)
      go_wp2
      go_quiet (fail)
      go_wp2
      go_quiet (fail)
      go_wp2
      go_ret
      exact ⟨by rw [AR.out]; rfl, ((AI.out.2.drewN _).drewN _).drewN _⟩
     ·have hgt : (0 : Int) < (gk : Int) := by omega
      have hgp : 0 < gk := by omega
      clear hg0 hs1 hn0
      go_wp2
      go_quiet (fail)
      go_wp2
      go_quiet (fail)
      go_wp2
      go_quiet (fail)
      go_wp2
      go_ret
      exact ⟨by rw [AR.out]; rfl, ((AI.out.2.drewN _).drewN _).drewN _⟩
    ·have hde : dx = dy := by omega
     have hg0 : gk = 0 := by
      refine Nat.eq_zero_of_not_pos fun h => hsame ⟨h, hde⟩
     subst hg0
     rw [Nat.add_zero] at g0 g1
     have hlz2 : ¬ (dy : Int) < (dx : Int) := by omega
     have hres : cmpN X Y = 0 := wcmp_eq (wcmp_step AI.out.1 (by rw [<- AD.out.1, <- AD.out.2]; exact hde))
     have AR : Aside (cmpN X Y = 0) := hres
     have hgt : ¬ (0 : Int) < ((0 : Nat) : Int) := by omega
     clear hres hlt hsame hgt2 hde
     go_wp2
     go_quiet (fail)
     go_wp2
     go_quiet (fail)
     go_wp2
     go_quiet (fail)
     go_wp2
     go_ret
     exact ⟨by rw [AR.out]; rfl, ((AI.out.2.drewN _).drewN _).drewN _⟩
set_option maxHeartbeats 1600000 in
theorem ncmp_len (ax ay : Option Addr) (lx ly cx cy : Nat) (X Y : Nat) (w : World) (hX : nlw X = lx) (hY : nlw Y = ly) (h : lx ≠ ly \/ lx = 0) :
  Calls Tryz.prog 138 #[.slice ax lx cx, .slice ay ly cy] w fun e w' => e = .returned (.int .i64 (cmpN X Y)) /\ Ext w w' := by
 by_cases hlt : lx < ly
 ·have hne : ((lx : Int) != (ly : Int)) = true := by simp; omega
  have hlz : (lx : Int) < (ly : Int) := by omega
  have AR : Aside (cmpN X Y = -1) := wcmp_len_lt (by omega)
  clear hlt h hX hY
  go_enter Tryz.func138, Tryz.ntmps138
  go_wp2
  go_ret
  exact ⟨by rw [AR.out]; rfl, Ext.refl w⟩
 ·have hlz : ¬ (lx : Int) < (ly : Int) := by omega
  by_cases hgt : ly < lx
  ·have hne : ((lx : Int) != (ly : Int)) = true := by simp; omega
   have hgz : (ly : Int) < (lx : Int) := by omega
   have AR : Aside (cmpN X Y = 1) := wcmp_len_gt (by omega)
   clear hlt h hX hY hgt
   go_enter Tryz.func138, Tryz.ntmps138
   go_wp2
   go_ret
   exact ⟨by rw [AR.out]; rfl, Ext.refl w⟩
  ·have e1 : lx = 0 := by omega
   have e2 : ly = 0 := by omega
   have AR : Aside (cmpN X Y = 0) := by
    have h1 := nlw_eq_zero.1 (hX.trans e1)
    have h2 := nlw_eq_zero.1 (hY.trans e2)
    show cmpN X Y = 0
    rw [h1, h2]
    rfl
   clear hX hY h hlt hgt hlz
   subst e1
   subst e2
   go_enter Tryz.func138, Tryz.ntmps138
   go_wp2
   go_ret
   exact ⟨by rw [AR.out]; rfl, Ext.refl w⟩
def NatQ (w : World) (v : Value) (N : Nat) : Prop := ∃ a b o c, v = .slice a (nlw N) c /\ (0 < nlw N -> a = some ⟨b, o, none⟩) /\ ∀ j, j < nlw N -> w.cell? ⟨b, o + j, none⟩ = some (.int .u64 (dw N j : Int))
theorem NatW.q {w : World} {v : Value} {N B0 : Nat} (h : NatW w v N B0) : NatQ w v N := by
 rcases h with ⟨rfl, rfl⟩ | ⟨b, c, e, rfl, h1, h2, h3, h4, h5, h6⟩
 ·exact ⟨none, 0, 0, 0, rfl, fun h => absurd h (by decide), fun j hj => absurd hj (by rw [nlw_zero]; omega)⟩
 ·exact ⟨_, b, 0, c, rfl, fun _ => rfl, fun j hj => by rw [Nat.zero_add, <- h6 j hj]; exact h5.cell (by omega)⟩
theorem NatQ.ext {w w' : World} {v : Value} {N : Nat} (h : NatQ w v N) (k : Ext w w') : NatQ w' v N := by
 obtain ⟨a, b, o, c, h1, h2, h3⟩ := h
 exact ⟨a, b, o, c, h1, h2, fun j hj => k.cell (h3 j hj)⟩
theorem ncmp {w : World} {v1 v2 : Value} {N M : Nat} (h1 : NatQ w v1 N) (h2 : NatQ w v2 M) (hl : nlw N <= 100000) :
  Calls Tryz.prog 138 #[v1, v2] w fun e w' => e = .returned (.int .i64 (cmpN N M)) /\ Ext w w' := by
 obtain ⟨a, b, o, c, rfl, ha, hx⟩ := h1
 obtain ⟨a', b', o', c', rfl, ha', hx'⟩ := h2
 by_cases h0 : nlw N = nlw M /\ nlw N ≠ 0
 ·obtain ⟨l, hl1⟩ : ∃ l, nlw N = l + 1 := ⟨nlw N - 1, by omega⟩
  have hl2 : nlw M = l + 1 := by omega
  obtain rfl := ha (by omega)
  obtain rfl := ha' (by omega)
  rw [hl1, hl2]
  exact ncmp_core b o c b' o' c' l N M w (by omega) hl1 hl2 (fun j hj => hx j (by omega)) (fun j hj => hx' j (by omega))
 ·exact ncmp_len _ _ (nlw N) (nlw M) c c' N M w rfl rfl (by omega)
end Go.Eng
namespace Go.Eng
open Go Go.RowKit Go.Proofs
set_option maxRecDepth 100000
theorem Fr.frozen {rb B0 : Nat} {w w' : World} (h : Fr rb B0 w w') {i o : Nat} (hi : i < B0) (hr : i ≠ rb) : w'.frozen? ⟨i, o, none⟩ = w.frozen? ⟨i, o, none⟩ := by
 unfold World.frozen?
 rw [h.block i hi hr]
theorem NatW.shape {w : World} {v : Value} {N B0 : Nat} (h : NatW w v N B0) : ∃ a c, v = .slice a (nlw N) c := by
 rcases h with ⟨rfl, rfl⟩ | ⟨b, c, e, rfl, _⟩
 ·exact ⟨none, 0, rfl⟩
 ·exact ⟨_, c, rfl⟩
set_option maxHeartbeats 1600000 in
theorem scanSign_walk {w : World} {rb : Nat} {s : ByteArray} (hR : Rdr w rb s 0) (hs0 : 0 < s.size) (hs : s.size <= 1000) (hd : 48 <= byt s 0) :
  Calls Tryz.prog 165 #[.iface 151 (.pointer (some ⟨rb, 0, none⟩))] w fun e w' => e = .returned (.tuple #[.bool false, .nilIface]) /\ Rdr w' rb s 0 /\ But rb w w' := by
 have hr1 := readB hR hs0 (by omega)
 have hmr := meth_read (.pointer (some ⟨rb, 0, none⟩))
 have hmu := meth_unread (.pointer (some ⟨rb, 0, none⟩))
 have h45 : ((byt s 0 : Int) == 45) = false := by simp; omega
 have h43 : ((byt s 0 : Int) == 43) = false := by simp; omega
 go_enter Tryz.func165, Tryz.ntmps165
 go_wp2_with (first
  | (go_at_call 291; (with_reducible refine hr1.mono ?_); rintro e w1 ⟨c0, rfl, rfl, hR1, hB1⟩)
  | (go_at_call 292; (with_reducible refine (unread_walk hR1 (by omega)).mono ?_); rintro e w2 ⟨rfl, hR2, hB2⟩))
 simp [bodyPost, results, Tryz.results165, go_sem]
 exact ⟨hR2, hB1.trans hB2⟩
structure Fr2 (rb ib B0 : Nat) (w w' : World) : Prop where
 os : w'.os = w.os
 tape : w'.tape = w.tape
 output : w'.output = w.output
 size : w.heap.size <= w'.heap.size
 block : ∀ i, i < B0 -> i ≠ rb -> i ≠ ib -> w'.heap[i]? = w.heap[i]?
theorem Fr2.ofFr {rb ib B0 : Nat} {w w' : World} (h : Fr rb B0 w w') : Fr2 rb ib B0 w w' := ⟨h.os, h.tape, h.output, h.size, fun i hi hr _ => h.block i hi hr⟩
theorem Fr2.but {rb ib B0 : Nat} {w w' w'' : World} (h : Fr2 rb ib B0 w w') (k : But ib w' w'') : Fr2 rb ib B0 w w'' := ⟨k.os.trans h.os, k.tape.trans h.tape, k.output.trans h.output, by rw [k.size]; exact h.size, fun i hi hr hr2 => (k.block i hr2).trans (h.block i hi hr hr2)⟩
theorem Fr2.butr {rb ib B0 : Nat} {w w' w'' : World} (h : Fr2 rb ib B0 w w') (k : But rb w' w'') : Fr2 rb ib B0 w w'' := ⟨k.os.trans h.os, k.tape.trans h.tape, k.output.trans h.output, by rw [k.size]; exact h.size, fun i hi hr hr2 => (k.block i hr).trans (h.block i hi hr hr2)⟩
def IntW (w : World) (ib N B0 : Nat) : Prop := w.cell? ⟨ib, 0, none⟩ = some (.bool false) /\ (∃ v, w.cell? ⟨ib, 1, none⟩ = some v /\ NatW w v N B0) /\ unfr w ib
theorem Rdr.but {w w' : World} {rb ib : Nat} {s : ByteArray} {i : Nat} (h : Rdr w rb s i) (k : But ib w w') (hb : rb ≠ ib) : Rdr w' rb s i := by
 obtain ⟨h0, h1, ⟨p, h2⟩, h3⟩ := h
 have e : ∀ o, w'.cell? ⟨rb, o, none⟩ = w.cell? ⟨rb, o, none⟩ := fun o => by unfold World.cell?; rw [k.block rb hb]
 have f : ∀ o, w'.frozen? ⟨rb, o, none⟩ = w.frozen? ⟨rb, o, none⟩ := fun o => by unfold World.frozen?; rw [k.block rb hb]
 exact ⟨(e 0).trans h0, (e 1).trans h1, ⟨p, (e 2).trans h2⟩, fun o => (f o).trans (h3 o)⟩
set_option maxHeartbeats 3200000 in
theorem iscan_walk {w : World} {rb ib B0 eb eo : Nat} {s : ByteArray} (hR : Rdr w rb s 0) (hs0 : 0 < s.size) (hs : s.size <= 1000) (hd : ∀ k, k < s.size -> 48 <= byt s k /\ byt s k <= 57) (hg : w.cell? ⟨2, 0, none⟩ = some (.iface 181 (.pointer (some ⟨eb, eo, none⟩)))) (h2r : rb ≠ 2) (h2B : 2 < B0) (hrB : rb < B0) (hB : B0 <= w.heap.size)
  (hi0 : w.cell? ⟨ib, 0, none⟩ = some (.bool false)) (hi1 : w.cell? ⟨ib, 1, none⟩ = some (.slice none 0 0)) (hif : ∀ o, w.frozen? ⟨ib, o, none⟩ = false) (hir : ib ≠ rb) (hi2 : ib ≠ 2) (hiB : ib < B0) :
  Calls Tryz.prog 144 #[.pointer (some ⟨ib, 0, none⟩), .iface 151 (.pointer (some ⟨rb, 0, none⟩)), .int .i64 10] w fun e w' => e = .returned (.tuple #[.pointer (some ⟨ib, 0, none⟩), .int .i64 10, .nilIface]) /\ IntW w' ib (rdN s s.size) B0 /\ Rdr w' rb s s.size /\ Fr2 rb ib B0 w w' := by
 have hsg := scanSign_walk hR hs0 hs (hd 0 hs0).1
 by_cases hN0 : nlw (rdN s s.size) = 0
 ·have hgt : ¬ (0 : Int) < (nlw (rdN s s.size) : Int) := by omega
  have hgd : decide ((0 : Int) < (nlw (rdN s s.size) : Int)) = false := by simpa using hgt
  clear hN0
  go_enter Tryz.func144, Tryz.ntmps144
  go_wp2_with (first
   | (go_at_call 165; (with_reducible refine hsg.mono ?_); rintro e w1 ⟨rfl, hR1, hB1⟩; have k0 : w1.cell? ⟨ib, 1, none⟩ = some (.slice none 0 0) := (Fr.refl.but hB1).cell hiB hir hi1)
   | (go_at_call 166; (have hsc := scan_walk hR1 hs0 hs hd ((Fr.refl.but hB1).cell h2B (fun e => h2r e.symm) hg) h2r h2B hrB (by rw [hB1.size]; exact hB); (with_reducible refine hsc.mono ?_); rintro e w2 ⟨v, rfl, hN, hR2, hF⟩; obtain ⟨a, c, rfl⟩ := hN.shape;  have c1 := hF.cell hiB hir k0;  have c0 := hF.cell hiB hir ((Fr.refl.but hB1).cell hiB hir hi0);  have f0 : ∀ o, w2.frozen? ⟨ib, o, none⟩ = false := fun o => (hF.frozen hiB hir).trans (((Fr.refl.but hB1).frozen hiB hir).trans (hif o));  have f1 := f0 0;  have f2 := f0 1;  have m1 : ∀ x, (w2.setCell ⟨ib, 1, none⟩ x).cell? ⟨ib, 1, none⟩ = some x := fun x => World.cell?_setCell_same _ _ _ c1;  have m0 : ∀ x, (w2.setCell ⟨ib, 1, none⟩ x).cell? ⟨ib, 0, none⟩ = some (.bool false) := fun x => by rw [World.cell?_setCell_other _ _ _ _ (by simp)];exact c0)))
  simp [bodyPost, results, Tryz.results144, go_sem]
  refine ⟨⟨?_, ⟨.slice a (nlw (rdN s s.size)) c, ?_, ?_⟩, fun o => by simp only [World.frozen?_setCell]; exact f0 o⟩, ?_, ?_⟩
  ·exact World.cell?_setCell_same _ _ _ (m0 _)
  ·rw [World.cell?_setCell_other _ _ _ _ (by simp)]
   exact m1 _
  ·exact hN.but (((But.refl ib w2).set 1 _).set 0 _) hiB
  ·exact hR2.but (((But.refl ib w2).set 1 _).set 0 _) (fun e => hir e.symm)
  ·exact (Fr2.ofFr (ib := ib) ⟨hF.os.trans hB1.os, hF.tape.trans hB1.tape, hF.output.trans hB1.output, by rw [<- hB1.size]; exact hF.size, fun i hi hr => (hF.block i hi hr).trans (hB1.block i hr)⟩).but (((But.refl ib w2).set 1 _).set 0 _)
 ·have hgt : (0 : Int) < (nlw (rdN s s.size) : Int) := by omega
  clear hN0
  go_enter Tryz.func144, Tryz.ntmps144
  go_wp2_with (first
   | (go_at_call 165; (with_reducible refine hsg.mono ?_); rintro e w1 ⟨rfl, hR1, hB1⟩; have k0 : w1.cell? ⟨ib, 1, none⟩ = some (.slice none 0 0) := (Fr.refl.but hB1).cell hiB hir hi1)
   | (go_at_call 166; (have hsc := scan_walk hR1 hs0 hs hd ((Fr.refl.but hB1).cell h2B (fun e => h2r e.symm) hg) h2r h2B hrB (by rw [hB1.size]; exact hB); (with_reducible refine hsc.mono ?_); rintro e w2 ⟨v, rfl, hN, hR2, hF⟩; obtain ⟨a, c, rfl⟩ := hN.shape;  have c1 := hF.cell hiB hir k0;  have c0 := hF.cell hiB hir ((Fr.refl.but hB1).cell hiB hir hi0);  have f0 : ∀ o, w2.frozen? ⟨ib, o, none⟩ = false := fun o => (hF.frozen hiB hir).trans (((Fr.refl.but hB1).frozen hiB hir).trans (hif o));  have f1 := f0 0;  have f2 := f0 1;  have m1 : ∀ x, (w2.setCell ⟨ib, 1, none⟩ x).cell? ⟨ib, 1, none⟩ = some x := fun x => World.cell?_setCell_same _ _ _ c1;  have m0 : ∀ x, (w2.setCell ⟨ib, 1, none⟩ x).cell? ⟨ib, 0, none⟩ = some (.bool false) := fun x => by rw [World.cell?_setCell_other _ _ _ _ (by simp)];exact c0)))
  simp [bodyPost, results, Tryz.results144, go_sem]
  refine ⟨⟨?_, ⟨.slice a (nlw (rdN s s.size)) c, ?_, ?_⟩, fun o => by simp only [World.frozen?_setCell]; exact f0 o⟩, ?_, ?_⟩
  ·exact World.cell?_setCell_same _ _ _ (m0 _)
  ·rw [World.cell?_setCell_other _ _ _ _ (by simp)]
   exact m1 _
  ·exact hN.but (((But.refl ib w2).set 1 _).set 0 _) hiB
  ·exact hR2.but (((But.refl ib w2).set 1 _).set 0 _) (fun e => hir e.symm)
  ·exact (Fr2.ofFr (ib := ib) ⟨hF.os.trans hB1.os, hF.tape.trans hB1.tape, hF.output.trans hB1.output, by rw [<- hB1.size]; exact hF.size, fun i hi hr => (hF.block i hi hr).trans (hB1.block i hr)⟩).but (((But.refl ib w2).set 1 _).set 0 _)
end Go.Eng
namespace Go.Eng
open Go Go.RowKit Go.Proofs
set_option maxRecDepth 100000
theorem Fr2.cell {rb ib B0 : Nat} {w w' : World} (h : Fr2 rb ib B0 w w') {i o : Nat} {v : Value} (hi : i < B0) (hr : i ≠ rb) (hr2 : i ≠ ib) (k : w.cell? ⟨i, o, none⟩ = some v) : w'.cell? ⟨i, o, none⟩ = some v := by
 unfold World.cell? at k ⊢
 rw [h.block i hi hr hr2]
 exact k
theorem IntW.but {w w' : World} {ib N B0 rb : Nat} (h : IntW w ib N B0) (k : But rb w w') (h1 : ib ≠ rb) (h2 : rb < B0) : IntW w' ib N B0 := by
 obtain ⟨c0, ⟨v, c1, hv⟩, hu⟩ := h
 exact ⟨k.cell h1 c0, ⟨v, k.cell h1 c1, hv.but k h2⟩, fun o => by
  have := hu o
  unfold World.frozen? at this ⊢
  rw [k.block ib h1]
  exact this⟩
set_option maxHeartbeats 3200000 in
theorem setfrom_walk {w : World} {rb ib B0 eb eo : Nat} {s : ByteArray} (hR : Rdr w rb s 0) (hs0 : 0 < s.size) (hs : s.size <= 1000) (hd : ∀ k, k < s.size -> 48 <= byt s k /\ byt s k <= 57) (hg : w.cell? ⟨2, 0, none⟩ = some (.iface 181 (.pointer (some ⟨eb, eo, none⟩)))) (h2r : rb ≠ 2) (h2B : 2 < B0) (hrB : rb < B0) (hB : B0 <= w.heap.size)
  (hi0 : w.cell? ⟨ib, 0, none⟩ = some (.bool false)) (hi1 : w.cell? ⟨ib, 1, none⟩ = some (.slice none 0 0)) (hif : ∀ o, w.frozen? ⟨ib, o, none⟩ = false) (hir : ib ≠ rb) (hi2 : ib ≠ 2) (hiB : ib < B0) :
  Calls Tryz.prog 115 #[.pointer (some ⟨ib, 0, none⟩), .iface 151 (.pointer (some ⟨rb, 0, none⟩)), .int .i64 10] w fun e w' => e = .returned (.tuple #[.pointer (some ⟨ib, 0, none⟩), .bool true]) /\ IntW w' ib (rdN s s.size) B0 /\ Fr2 rb ib B0 w w' := by
 have hsc := iscan_walk hR hs0 hs hd hg h2r h2B hrB hB hi0 hi1 hif hir hi2 hiB
 have hmr := meth_read (.pointer (some ⟨rb, 0, none⟩))
 have hne := ne_eof ⟨eb, eo, none⟩
 go_enter Tryz.func115, Tryz.ntmps115
 go_wp2_with (first
  | (go_at_call 144; (with_reducible refine hsc.mono ?_); rintro e w1 ⟨rfl, hI1, hR1, hF1⟩; have g1 := hF1.cell h2B (fun e => h2r e.symm) (fun e => hi2 e.symm) hg)
  | (go_at_call 291; (with_reducible refine (readEnd_walk hR1 (by omega) g1 h2r).mono ?_); rintro e w2 ⟨rfl, hR2, hB2⟩; have g2 := hB2.cell (fun e => h2r e.symm) g1))
 simp [bodyPost, results, Tryz.results115, go_sem]
 exact ⟨hI1.but hB2 hir hrB, hF1.butr hB2⟩
set_option maxHeartbeats 3200000 in
theorem newreader_walk (s : ByteArray) (w : World) (hs : s.size <= 1000) :
  Calls Tryz.prog 116 #[.string s] w fun e w' => e = .returned (.pointer (some ⟨w.heap.size, 0, none⟩)) /\ Rdr w' w.heap.size s 0 /\ w.Since w.heap.size w' /\ w'.heap.size = w.heap.size + 1 := by
 go_enter Tryz.func116, Tryz.ntmps116
 go_wp2
 go_ret
 refine ⟨rfl, ⟨(cell_new w _ _ 0).trans rfl, (cell_new w _ _ 1).trans rfl, ⟨-1, (cell_new w _ _ 2).trans rfl⟩, fun o => frozen_new w _ _ _⟩, (World.Since.refl _ w).alloc (Nat.le_refl _) _, size_al w _⟩
theorem since_cell {w w' : World} {B i o : Nat} {v : Value} (h : w.cell? ⟨i, o, none⟩ = some v) (k : w.Since B w') (hb : i < B) : w'.cell? ⟨i, o, none⟩ = some v := by
 unfold World.cell? at h ⊢
 rw [k.block i hb]
 exact h
theorem since_frozen {w w' : World} {B i o : Nat} {b : Bool} (h : w.frozen? ⟨i, o, none⟩ = b) (k : w.Since B w') (hb : i < B) : w'.frozen? ⟨i, o, none⟩ = b := by
 unfold World.frozen? at h ⊢
 rw [k.block i hb]
 exact h
set_option maxHeartbeats 3200000 in
theorem setstring_walk {w : World} {ib eb eo : Nat} {s : ByteArray} (hs0 : 0 < s.size) (hs : s.size <= 1000) (hd : ∀ k, k < s.size -> 48 <= byt s k /\ byt s k <= 57) (hg : w.cell? ⟨2, 0, none⟩ = some (.iface 181 (.pointer (some ⟨eb, eo, none⟩)))) (h2B : 2 < w.heap.size)
  (hi0 : w.cell? ⟨ib, 0, none⟩ = some (.bool false)) (hi1 : w.cell? ⟨ib, 1, none⟩ = some (.slice none 0 0)) (hif : ∀ o, w.frozen? ⟨ib, o, none⟩ = false) (hi2 : ib ≠ 2) (hiB : ib < w.heap.size) :
  Calls Tryz.prog 92 #[.pointer (some ⟨ib, 0, none⟩), .string s, .int .i64 10] w fun e w' => e = .returned (.tuple #[.pointer (some ⟨ib, 0, none⟩), .bool true]) /\ IntW w' ib (rdN s s.size) (w.heap.size + 1) /\ Fr ib w.heap.size w w' := by
 have hnr := newreader_walk s w hs
 go_enter Tryz.func92, Tryz.ntmps92
 go_wp2_with (first
  | (go_at_call 116; (with_reducible refine hnr.mono ?_); rintro e w1 ⟨rfl, hR1, hS1, hz1⟩; have AZ : Aside (w1.heap.size = w.heap.size + 1) := hz1; clear hz1)
  | (go_at_call 115; (with_reducible refine (setfrom_walk (B0 := w.heap.size + 1) hR1 hs0 hs hd (since_cell hg hS1 h2B) (by omega) (by omega) (by omega) (by rw [AZ.out]; exact Nat.le_refl _) (since_cell hi0 hS1 hiB) (since_cell hi1 hS1 hiB) (fun o => since_frozen (hif o) hS1 hiB) (by omega) hi2 (by omega)).mono ?_); rintro e w2 ⟨rfl, hI2, hF2⟩))
 simp [bodyPost, results, Tryz.results92, go_sem]
 exact ⟨hI2, hF2.os.trans hS1.os, hF2.tape.trans hS1.tape, hF2.output.trans hS1.output, Nat.le_trans hS1.size hF2.size, fun i hi hr => (hF2.block i (by omega) (by omega) hr).trans (hS1.block i hi)⟩
end Go.Eng
namespace Go.Eng
open Go Go.RowKit Go.Proofs
set_option maxRecDepth 100000
theorem NatW.weak {w : World} {v : Value} {N B B0 : Nat} (h : NatW w v N B) (k : B0 <= B) : NatW w v N B0 := by
 rcases h with h | ⟨b, c, e, h1, h2, h3, h4, h5, h6, h7⟩
 ·exact .inl h
 ·exact .inr ⟨b, c, e, h1, h2, h3, h4, Nat.le_trans k h5, h6, h7⟩
set_option maxHeartbeats 3200000 in
theorem whole_walk {w : World} {eb eo : Nat} {s : ByteArray} (hs0 : 0 < s.size) (hs : s.size <= 1000) (hd : ∀ k, k < s.size -> 48 <= byt s k /\ byt s k <= 57) (hg : w.cell? ⟨2, 0, none⟩ = some (.iface 181 (.pointer (some ⟨eb, eo, none⟩)))) (h2B : 2 < w.heap.size) :
  Calls Tryz.prog 85 #[.string s] w fun e w' => e = .returned (.pointer (some ⟨w.heap.size, 0, none⟩)) /\ IntW w' w.heap.size (rdN s s.size) (w.heap.size + 1) /\ Ext w w' := by
 have hst : ∀ W : World, w.cell? ⟨2, 0, none⟩ = some (.iface 181 (.pointer (some ⟨eb, eo, none⟩))) -> Ext w W -> W.heap.size = w.heap.size + 1 -> W.cell? ⟨w.heap.size, 0, none⟩ = some (.bool false) -> W.cell? ⟨w.heap.size, 1, none⟩ = some (.slice none 0 0) -> (∀ o, W.frozen? ⟨w.heap.size, o, none⟩ = false) -> Calls Tryz.prog 92 #[.pointer (some ⟨w.heap.size, 0, none⟩), .string s, .int .i64 10] W fun e w' => e = .returned (.tuple #[.pointer (some ⟨w.heap.size, 0, none⟩), .bool true]) /\ IntW w' w.heap.size (rdN s s.size) (w.heap.size + 1) /\ Ext w w' := by
  intro W hg hE hz h0 h1 hf
  refine (setstring_walk hs0 hs hd (hE.cell hg) (by omega) h0 h1 hf (by omega) (by omega)).mono ?_
  rintro e w' ⟨k1, k2, k3⟩
  refine ⟨k1, ?_, ⟨k3.os.trans hE.os, k3.tape.trans hE.tape, k3.output.trans hE.output, Nat.le_trans hE.size k3.size, fun i hi => (k3.block i (by omega) (by omega)).trans (hE.block i hi)⟩⟩
  obtain ⟨c0, ⟨v, c1, hv⟩, hu⟩ := k2
  refine ⟨c0, ⟨v, c1, hv.weak (by omega)⟩, hu⟩
 have AH := hst (w.alloc (.cells #[.bool false, .slice none 0 0] 73)) hg ((Ext.refl w).alloc _) (size_al w _) ((cell_new w _ _ 0).trans rfl) ((cell_new w _ _ 1).trans rfl) (fun o => frozen_new w _ _ _)
 clear hst hg hd
 go_enter Tryz.func85, Tryz.ntmps85
 go_wp2_with (first
  | (go_at_call 92; (with_reducible refine AH.mono ?_); rintro e w2 ⟨rfl, hI2, hE2⟩))
 go_ret
 exact ⟨rfl, hI2, hE2⟩
end Go.Eng
namespace Go.Eng
open Go Go.RowKit Go.Proofs
set_option maxRecDepth 100000
def IntQ (w : World) (b o N : Nat) : Prop := w.cell? ⟨b, o, none⟩ = some (.bool false) /\ (∃ v, w.cell? ⟨b, o + 1, none⟩ = some v /\ NatQ w v N) /\ unfr w b
theorem IntW.q {w : World} {ib N B0 : Nat} (h : IntW w ib N B0) : IntQ w ib 0 N := by
 obtain ⟨c0, ⟨v, c1, hv⟩, hu⟩ := h
 exact ⟨c0, ⟨v, c1, hv.q⟩, hu⟩
theorem lt_of_cell2 {w : World} {b o : Nat} {v : Value} (h : w.cell? ⟨b, o, none⟩ = some v) : b < w.heap.size := by
 by_cases hb : b < w.heap.size
 ·exact hb
 ·exfalso
  unfold World.cell? at h
  rw [show w.heap[b]? = none from Array.getElem?_eq_none (by omega)] at h
  simp at h
theorem IntQ.ext {w w' : World} {b o N : Nat} (h : IntQ w b o N) (k : Ext w w') : IntQ w' b o N := by
 obtain ⟨c0, ⟨v, c1, hv⟩, hu⟩ := h
 exact ⟨k.cell c0, ⟨v, k.cell c1, hv.ext k⟩, fun x => by rw [k.frozenE (lt_of_cell2 c0)]; exact hu x⟩
theorem eq_ints {w : World} {b o b' o' : Nat} {v v' : Value} (h1 : w.cell? ⟨b, o, none⟩ = some v) (h2 : w.cell? ⟨b', o', none⟩ = some v') (u1 : unfr w b) (u2 : unfr w b') (hb : b ≠ b') :
  (binOp .eql 79 (.pointer (some ⟨b, o, none⟩)) (.pointer (some ⟨b', o', none⟩))).run Tryz.prog w = .ok (.bool false) w := by
 obtain ⟨j, hj, hsz⟩ := Option.map_eq_some_iff.1 (show (Tryz.prog.info? 73).map (fun i => Nat.beq i.size 0) = some false by kernel_rfl)
 have h0 : j.size ≠ 0 := fun e => by rw [e] at hsz; cases hsz
 have hs := same_apart (P := Tryz.prog) h1 h2 u1 u2 rfl rfl hb
 have h : ∀ d : Nat, (Op.equalIn (d + 1) 79 (.pointer (some ⟨b, o, none⟩)) (.pointer (some ⟨b', o', none⟩))).run Tryz.prog w = .ok false w := fun d => by
  rw [eq_ptr_ptr Tryz.underlying79 hj h0]
  exact hs
 simp only [binOp]
 simp [Op.equal, Op.maxDepth, h 9999]
theorem icmp_keep {w W W' : World} {b o b' o' : Nat} {v0 v v' : Value} (h : W.cell? ⟨b, o, none⟩ = some v0 /\ W.cell? ⟨b, o + 1, none⟩ = some v /\ W.cell? ⟨b', o' + 1, none⟩ = some v' /\ Ext w W) (k : Ext W W') :
  W'.cell? ⟨b, o, none⟩ = some v0 /\ W'.cell? ⟨b, o + 1, none⟩ = some v /\ W'.cell? ⟨b', o' + 1, none⟩ = some v' /\ Ext w W' :=
 ⟨k.cell h.1, k.cell h.2.1, k.cell h.2.2.1, h.2.2.2.trans k⟩
set_option maxHeartbeats 1600000 in
theorem icmp_walk {w : World} {b o b' o' N M : Nat} (h1 : IntQ w b o N) (h2 : IntQ w b' o' M) (hb : b ≠ b') (hl : nlw N <= 100000) :
  Calls Tryz.prog 111 #[.pointer (some ⟨b, o, none⟩), .pointer (some ⟨b', o', none⟩)] w fun e w' => e = .returned (.int .i64 (cmpN N M)) /\ Ext w w' := by
 obtain ⟨c0, ⟨v, c1, hv⟩, hu⟩ := h1
 obtain ⟨c0', ⟨v', c1', hv'⟩, hu'⟩ := h2
 obtain ⟨a, ab, ao, ac, rfl, ha⟩ := id hv
 obtain ⟨d, db, dof, dc, rfl, hd⟩ := id hv'
 obtain ⟨l, hl1⟩ : ∃ l, l = nlw N := ⟨_, rfl⟩
 obtain ⟨l', hl2⟩ : ∃ l, l = nlw M := ⟨_, rfl⟩
 have hcmp : ∀ W, Ext w W -> Calls Tryz.prog 138 #[.slice a l ac, .slice d l' dc] W fun e w' => e = .returned (.int .i64 (cmpN N M)) /\ Ext W w' := fun W hE => by
  rw [hl1, hl2]
  exact ncmp (hv.ext hE) (hv'.ext hE) hl
 have heq := eq_ints c0 c0' hu hu' hb
 rw [<- hl1] at c1
 rw [<- hl2] at c1'
 clear ha hd hv hv' hl1 hl2 hl
 have hS : w.cell? ⟨b, o, none⟩ = some (.bool false) /\ w.cell? ⟨b, o + 1, none⟩ = some (.slice a l ac) /\ w.cell? ⟨b', o' + 1, none⟩ = some (.slice d l' dc) /\ Ext w w := ⟨c0, c1, c1', Ext.refl w⟩
 go_enter Tryz.func111, Tryz.ntmps111
 go_wp2
 go_quiet (fail)
 go_wp2
 go_region_held3 (fun W => W.cell? ⟨b, o, none⟩ = some (.bool false) /\ W.cell? ⟨b, o + 1, none⟩ = some (.slice a l ac) /\ W.cell? ⟨b', o' + 1, none⟩ = some (.slice d l' dc) /\ Ext w W) (first | exact icmp_keep hS (((Ext.refl w).drewN _).drew) | exact icmp_keep (by assumption) (by assumption)) (first | (go_at_call 138; refine (hcmp _ (by assumption : _ /\ _ /\ _ /\ Ext w _).2.2.2).mono ?_; rintro e w1 ⟨rfl, hE1⟩))
 obtain ⟨s0, s1, s2, sE⟩ : w1.cell? ⟨b, o, none⟩ = some (.bool false) /\ w1.cell? ⟨b, o + 1, none⟩ = some (.slice a l ac) /\ w1.cell? ⟨b', o' + 1, none⟩ = some (.slice d l' dc) /\ Ext w w1 := by assumption
 go_wp2
 go_ret
 exact ⟨rfl, sE⟩
end Go.Eng
namespace Go.Eng
open Go Go.RowKit Go.Proofs
set_option maxRecDepth 100000
noncomputable section
theorem nlw_frQ : nlw frQ = 4 := by kernel_rfl
theorem dw_frQ : dw frQ 0 = 4891460686036598785 /\ dw frQ 1 = 2896914383306846353 /\ dw frQ 2 = 13281191951274694749 /\ dw frQ 3 = 3486998266802970665 := by
 refine ⟨?_, ?_, ?_, ?_⟩ <;> kernel_rfl
def r56 : R := leaves0 al56 (.one (.ptr 5 0))
theorem mod56_call {pE : Pl} {w : World} (hG : Glob pE w) :
  Calls Tryz.prog 68 #[] w fun e w' => ∃ b o, w.heap.size <= b /\ e = .returned (.pointer (some ⟨b, o, none⟩)) /\ IntQ w' b o frQ /\ Ext w w' := by
 have h56 : Tryz.prog.funcs[68]? = some Tryz.f68 /\ (Tryz.f68.name == "runtime.NumGoroutine") = false := fnOK (by kernel_rfl)
 have hb56 : Tryz.f68.body.isSome = true := by kernel_rfl
 obtain ⟨e1, e2, e3⟩ := cxD_e H2 12
 have hs := inlOf_spec m56
 have hK : (cxD H2 12).K = base.K := by simp only [Cx.K, e2]
 have hpre : PreE base (fun _ => 0) (phiG pE) w r56 := hG
 have hc0 := inl_call (cxD_good H2_sound 12) (by rw [e1]; exact follows) (fun f fn hf => by rw [e1]; exact fnOK hf) hs (fun _ => 0) (phiG pE) w (PreE_congr e2.symm e3.symm hpre)
 rw [hK, e1] at hc0
 have conv : ∀ v w', (∃ φ', PostE (cxD H2 12) (fun _ => 0) (phiG pE) w r56 φ' w' /\ v = r56.res.den base.K (fun _ => 0) φ') -> ∃ φ', PostE base (fun _ => 0) (phiG pE) w r56 φ' w' /\ v = r56.res.den base.K (fun _ => 0) φ' :=
  fun v w' ⟨φ', k1, k2⟩ => ⟨φ', PostE_congr e2 k1, k2⟩
 have hc1 : CallOK Tryz.prog 68 (([] : List V).map (V.den base.K (fun _ => 0) (phiG pE))).toArray w fun v w' => ∃ φ', PostE base (fun _ => 0) (phiG pE) w r56 φ' w' /\ v = r56.res.den base.K (fun _ => 0) φ' := by
  rcases hc0 with ⟨v, w', a1, a2⟩ | ⟨a1, a2⟩
  ·exact .inl ⟨v, w', a1, conv v w' a2⟩
  ·exact .inr ⟨a1, a2.mono fun e w' ⟨v, b1, b2⟩ => ⟨v, b1, conv v w' b2⟩⟩
 have hc := calls_of_callOK h56.1 h56.2 hb56 hc1
 refine Calls.mono hc ?_
 rintro e w' ⟨v, rfl, φ', ⟨_, q2, q3, q4⟩, rfl⟩
 have x1 := q2 (5, [bi 0, .sln 6 0 4 4]) (by simp [r56, leaves0, al56])
 have x2 := q2 (6, [ui 4891460686036598785, ui 2896914383306846353, ui 13281191951274694749, ui 3486998266802970665]) (by simp [r56, leaves0, al56])
 refine ⟨(φ' 5).b, (φ' 5).o + 0, x1.1, rfl, ⟨x1.2.2.1 0 _ rfl, ⟨.slice (some ⟨(φ' 6).b, (φ' 6).o + 0, none⟩) 4 (4 + (φ' 6).c), x1.2.2.1 1 _ rfl, ?_⟩, (x1.2.2.2 0 (by decide)).2⟩, ⟨q4.os, q4.tape, q4.output, q4.size, q4.block⟩⟩
 refine ⟨some ⟨(φ' 6).b, (φ' 6).o + 0, none⟩, (φ' 6).b, (φ' 6).o + 0, 4 + (φ' 6).c, by rw [nlw_frQ], fun _ => rfl, fun j hj => ?_⟩
 rw [nlw_frQ] at hj
 obtain ⟨d0, d1, d2, d3⟩ := dw_frQ
 match j, hj with
 | 0, _ => rw [d0]; exact x2.2.2.1 0 _ rfl
 | 1, _ => rw [d1]; exact x2.2.2.1 1 _ rfl
 | 2, _ => rw [d2]; exact x2.2.2.1 2 _ rfl
 | 3, _ => rw [d3]; exact x2.2.2.1 3 _ rfl
end
end Go.Eng
namespace Go.Eng
open Go Go.RowKit Go.Proofs
set_option maxRecDepth 100000
def rSq : Nat := val4 1997599621687373223 6052339484930628067 10108755138030829701 150537098327114917
theorem rSq_lt : rSq < frQ := by decide
theorem rSq_words {w : World} {pE : Pl} (hG : Glob pE w) : Words w ⟨0, 0, 0⟩ rSq := by
 refine ⟨1997599621687373223, 6052339484930628067, 10108755138030829701, 150537098327114917, by decide, by decide, by decide, by decide, rfl, ?_⟩
 exact hG.1 (0, 0, [ui 1997599621687373223, ui 6052339484930628067, ui 10108755138030829701, ui 150537098327114917]) (by simp [gR, rdG])
set_option maxHeartbeats 1600000 in
theorem tomont_walk {zb zo X : Nat} {w : World} {pE : Pl} (hX : Words w ⟨zb, zo, 0⟩ X) (hu : unfr w zb) (hG : Glob pE w) (h0 : zb ≠ 0) :
  Calls Tryz.prog 140 #[.pointer (some ⟨zb, zo, none⟩)] w fun e w' => e = .returned (.pointer (some ⟨zb, zo, none⟩)) /\ ∃ Z, Z < frQ /\ frR * Z % frQ = X * rSq % frQ /\ Put4 w ⟨zb, zo, 0⟩ Z w' := by
 have hm : Calls Tryz.prog 53 #[.pointer (some ⟨zb, zo, none⟩), .pointer (some ⟨zb, zo, none⟩), .pointer (some ⟨0, 0, none⟩)] w fun e w' => e = .returned (.pointer (some ⟨zb, zo, none⟩)) /\ ∃ Z, Z < frQ /\ frR * Z % frQ = X * rSq % frQ /\ Put4 w ⟨zb, zo, 0⟩ Z w' := mul_zy (p := ⟨zb, zo, 0⟩) (q := ⟨0, 0, 0⟩) hX hu (rSq_words hG) rSq_lt (.inl h0)
 go_enter Tryz.func140, Tryz.ntmps140
 go_wp2_with (first
  | (go_at_call 53; (with_reducible refine hm.mono ?_); rintro e w1 ⟨rfl, hw⟩))
 go_ret
 exact ⟨rfl, hw⟩
end Go.Eng
