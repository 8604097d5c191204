/-
 Contracts of the reference package spec: texts read, points told, the curve made.
-/
import Derived.Deep.DeepMust
import Derived.Test.YtajgaijilkfjnaaGreatDoorA5
set_option linter.unusedVariables false
set_option linter.unusedSimpArgs false
namespace Go.Eng
open Go Go.RowKit Go.Proofs
set_option maxRecDepth 100000
def rdN (s : ByteArray) : Nat -> Nat
 | 0 => 0
 | k + 1 => rdN s k * 10 + ((s.data.getD k 0).toNat - 48)
theorem rdN_lt {s : ByteArray} (h : ∀ k, k < s.size -> (s.data.getD k 0).toNat <= 57) : ∀ k, k <= s.size -> rdN s k < 10 ^ k
 | 0, _ => Nat.one_pos
 | k + 1, hk => by
   have h1 := rdN_lt h k (by omega)
   have h2 := h k (by omega)
   rw [rdN, Nat.pow_succ]
   omega
theorem rdN_nlen {s : ByteArray} (h : ∀ k, k < s.size -> (s.data.getD k 0).toNat <= 57) {k : Nat} (hk : k <= s.size) : nlen (rdN s k) <= k := by
 refine nlen_le (Nat.lt_of_lt_of_le (rdN_lt h k hk) ?_)
 exact Nat.pow_le_pow_left (by decide) k
set_option maxHeartbeats 3200000 in
theorem read_walk (s : ByteArray) (w : World) (hs : s.size <= 1000) (h2 : 2 <= s.size) (hd : ∀ k, k < s.size -> 48 <= (s.data.getD k 0).toNat /\ (s.data.getD k 0).toNat <= 57) (hz : (s.data.getD 0 0).toNat ≠ 48) :
  Calls Tryz.prog 18 #[.string s] w fun e w' => ∃ v, e = .returned (.tuple #[v, .bool true]) /\ Num w' v (rdN s s.size) /\ Ext w w' := by
 have hsmall : ∀ W v X m, Num W v X -> nlen X <= 1000 -> m < bq -> Calls Tryz.prog 39 #[v, .int .u32 10, .int .u32 ((m : Nat) : Int)] W fun e w' => ∃ v', e = .returned v' /\ Num w' v' (X * 10 + m) /\ Ext W w' := fun W v X m h1 hl hm =>
  (small_num (y := 10) h1 (by omega) (by decide) hm).mono fun e w' ⟨v', k1, k2, k3⟩ => ⟨v', k1, k2.num (by
   refine nlen_le ?_
   have h3 := lt_nlen X
   have h4 : bq = 4294967296 := rfl
   rw [Nat.pow_succ]
   have h5 : (X + 1) * bq <= bq ^ nlen X * bq := Nat.mul_le_mul_right _ h3
   rw [Nat.add_mul, Nat.one_mul] at h5
   have h6 : X * 10 <= X * bq := Nat.mul_le_mul_left _ (by decide)
   omega), k3⟩
 go_enter Tryz.func18, Tryz.ntmps18
 go_wp2
 have hd7 : ∀ k, k < s.size -> (s.data.getD k 0).toNat <= 57 := fun k hk => (hd k hk).2
 go_loopg [4, 5] s.size (fun g x i wr => ∃ k : Nat, k <= s.size /\ g = s.size - k /\ i = .int .i64 (k : Int) /\ Num wr x (rdN s k) /\ Ext w wr)
 case atStart => exact ⟨0, Nat.zero_le _, rfl, rfl, ⟨_, w.heap.size, 0, 0, rfl, Nat.le_refl _, fun _ => rfl, fun j hj => absurd hj (Nat.not_lt_zero j)⟩, (Ext.refl w).alloc _⟩
 case round =>
  obtain ⟨k, hk, rfl, rfl, hx, hE⟩ := hrel
  by_cases hks : k < s.size
  ·have hkz : (k : Int) < (s.size : Int) := by omega
   have hdk := hd k hks
   have hget : s.data.getD k 0 = s[k] := by
    show s.data.getD k 0 = s.data[k]
    have : k < s.data.size := hks
    rw [Array.getD_eq_getD_getElem?, Array.getElem?_eq_getElem this]
    rfl
   rw [hget] at hdk
   obtain ⟨d, hdd⟩ : ∃ d, d = s[k].toNat - 48 := ⟨_, rfl⟩
   have hl1 : ¬ ((s[k].toNat : Nat) : Int) < 48 := by omega
   have hl2 : ¬ (57 : Int) < ((s[k].toNat : Nat) : Int) := by omega
   have hsb : (((s[k].toNat : Nat) : Int) - 48) % 256 = (d : Int) := by omega
   have hsb2 : IntKind.u8.wrap (((s[k].toNat : Nat) : Int) - 48) = (d : Int) := by rw [IntKind.wrap_u8]; exact hsb
   have hsm := hsmall wr _ _ d hx (Nat.le_trans (rdN_nlen hd7 hk) (by omega)) (by have : bq = 4294967296 := rfl; omega)
   have AJ : Aside (rdN s (k + 1) = rdN s k * 10 + d /\ Ext w wr) := ⟨by rw [rdN, hget, hdd], hE⟩
   clear hd hd7 hget hdd hdk hsmall hx hE hz
   go_wp2_with (go_at_call 39; (with_reducible refine hsm.mono ?_); rintro e w1 ⟨v1, rfl, hn1, hE1⟩)
   go_roundg (s.size - (k + 1))
   case measure => go_light; omega
   case rel =>
    go_light
    exact ⟨k + 1, by omega, rfl, rfl, by rw [AJ.out.1]; exact hn1, AJ.out.2.trans hE1⟩
  ·obtain rfl : k = s.size := by omega
   have hkz : ¬ ((s.size : Nat) : Int) < ((s.size : Nat) : Int) := by omega
   have AJ : Aside (Num wr u4 (rdN s s.size) /\ Ext w wr) := ⟨hx, hE⟩
   have hs0 : 0 < s.size := by omega
   have hsz1 : ((s.size : Int) == 1) = false := by simp; omega
   have hg0 : s.data.getD 0 0 = s[0] := by
    show s.data.getD 0 0 = s.data[0]
    have : 0 < s.data.size := hs0
    rw [Array.getD_eq_getD_getElem?, Array.getElem?_eq_getElem this]
    rfl
   rw [hg0] at hz
   have hz0 : ((s[0].toNat : Int) != 48) = true := by simp; omega
   have hzz : (0 : Int) < (s.size : Int) := by omega
   have hne : s.toList.isEmpty = false := by
    rw [ByteArray.toList_eq]
    have h1 : 0 < s.data.toList.length := hs0
    cases hl : s.data.toList with
    | nil => rw [hl] at h1; cases h1
    | cons _ _ => rfl
   clear hd hd7 hg0 hsmall hx hE hz
   go_wp2
   go_quiet (fail)
   go_wp2
   go_ret2
   exact ⟨u4, rfl, AJ.out.1.drewN _, AJ.out.2.drewN _⟩
end Go.Eng
namespace Go.Eng
open Go Go.RowKit Go.Proofs
set_option maxRecDepth 100000
def Canon (s : ByteArray) : Prop := 0 < s.size /\ (∀ k, k < s.size -> 48 <= (s.data.getD k 0).toNat /\ (s.data.getD k 0).toNat <= 57) /\ (s.size = 1 \/ (s.data.getD 0 0).toNat ≠ 48)
theorem byte_get {s : ByteArray} {k : Nat} (h : k < s.size) : s.data.getD k 0 = s[k] := by
 show s.data.getD k 0 = s.data[k]
 have : k < s.data.size := h
 rw [Array.getD_eq_getD_getElem?, Array.getElem?_eq_getElem this]
 rfl
theorem rdN_lt' {s : ByteArray} : ∀ {k : Nat}, (∀ j, j < k -> (s.data.getD j 0).toNat <= 57) -> rdN s k < 10 ^ k
 | 0, _ => Nat.one_pos
 | k + 1, h => by
   have h1 := rdN_lt' (k := k) (fun j hj => h j (by omega))
   have h2 := h k (by omega)
   rw [rdN, Nat.pow_succ]
   omega
theorem rdN_nlen' {s : ByteArray} {k : Nat} (h : ∀ j, j < k -> (s.data.getD j 0).toNat <= 57) : nlen (rdN s k) <= k := by
 refine nlen_le (Nat.lt_of_lt_of_le (rdN_lt' h) ?_)
 exact Nat.pow_le_pow_left (by decide) k
set_option maxHeartbeats 3200000 in
theorem readg_walk (s : ByteArray) (w : World) (hs : s.size <= 1048576) :
  Calls Tryz.prog 18 #[.string s] w fun e w' => ∃ a l c ok, e = .returned (.tuple #[.slice a l c, .bool ok]) /\ Ext w w' /\ (ok = true ↔ Canon s) /\ (ok = true -> Num w' (.slice a l c) (rdN s s.size)) := by
 have hsmall : ∀ W v X m, Num W v X -> nlen X <= 1048576 -> m < bq -> Calls Tryz.prog 39 #[v, .int .u32 10, .int .u32 ((m : Nat) : Int)] W fun e w' => ∃ v', e = .returned v' /\ Num w' v' (X * 10 + m) /\ Ext W w' := fun W v X m h1 hl hm =>
  (small_num (y := 10) h1 (by omega) (by decide) hm).mono fun e w' ⟨v', k1, k2, k3⟩ => ⟨v', k1, k2.num (by
   refine nlen_le ?_
   have h3 := lt_nlen X
   have h4 : bq = 4294967296 := rfl
   rw [Nat.pow_succ]
   have h5 : (X + 1) * bq <= bq ^ nlen X * bq := Nat.mul_le_mul_right _ h3
   rw [Nat.add_mul, Nat.one_mul] at h5
   have h6 : X * 10 <= X * bq := Nat.mul_le_mul_left _ (by decide)
   omega), k3⟩
 go_enter Tryz.func18, Tryz.ntmps18
 go_wp2
 go_loopg [4, 5] s.size (fun g x i wr => ∃ k : Nat, k <= s.size /\ g = s.size - k /\ i = .int .i64 (k : Int) /\ Num wr x (rdN s k) /\ Ext w wr /\ ∀ j, j < k -> 48 <= (s.data.getD j 0).toNat /\ (s.data.getD j 0).toNat <= 57)
 case atStart => exact ⟨0, Nat.zero_le _, rfl, rfl, ⟨_, w.heap.size, 0, 0, rfl, Nat.le_refl _, fun _ => rfl, fun j hj => absurd hj (Nat.not_lt_zero j)⟩, (Ext.refl w).alloc _, fun j hj => absurd hj (Nat.not_lt_zero j)⟩
 case round =>
  obtain ⟨k, hk, rfl, rfl, hx, hE, hd⟩ := hrel
  by_cases hks : k < s.size
  ·have hkz : (k : Int) < (s.size : Int) := by omega
   have hget := byte_get hks
   by_cases hb1 : s[k].toNat < 48
   ·have hl1 : ((s[k].toNat : Nat) : Int) < 48 := by omega
    have AB : Aside (¬ Canon s /\ Ext w wr) := ⟨fun hc => by have := (hc.2.1 k hks).1; rw [hget] at this; omega, hE⟩
    clear hd hget hsmall hx hE hb1
    go_wp2
    go_ret2
    exact ⟨none, 0, 0, false, rfl, AB.out.2, ⟨(fun h => by cases h), fun h => absurd h AB.out.1⟩, (fun h => by cases h)⟩
   ·by_cases hb2 : 57 < s[k].toNat
    ·have hl1 : ¬ ((s[k].toNat : Nat) : Int) < 48 := by omega
     have hl2 : (57 : Int) < ((s[k].toNat : Nat) : Int) := by omega
     have AB : Aside (¬ Canon s /\ Ext w wr) := ⟨fun hc => by have := (hc.2.1 k hks).2; rw [hget] at this; omega, hE⟩
     clear hd hget hsmall hx hE hb1 hb2
     go_wp2
     go_ret2
     exact ⟨none, 0, 0, .inl ⟨rfl, AB.out.2, AB.out.1⟩⟩
    ·have hd7 : ∀ j, j < k + 1 -> 48 <= (s.data.getD j 0).toNat /\ (s.data.getD j 0).toNat <= 57 := fun j hj => by
      by_cases h : j < k
      ·exact hd j h
      ·obtain rfl : j = k := by omega
       rw [hget]; omega
     have hnl : nlen (rdN s k) <= k := rdN_nlen' (fun j hj => (hd j hj).2)
     obtain ⟨d, hdd⟩ : ∃ d, d = s[k].toNat - 48 := ⟨_, rfl⟩
     have hl1 : ¬ ((s[k].toNat : Nat) : Int) < 48 := by omega
     have hl2 : ¬ (57 : Int) < ((s[k].toNat : Nat) : Int) := by omega
     have hsb : (((s[k].toNat : Nat) : Int) - 48) % 256 = (d : Int) := by omega
     have hsb2 : IntKind.u8.wrap (((s[k].toNat : Nat) : Int) - 48) = (d : Int) := by rw [IntKind.wrap_u8]; exact hsb
     have hsm := hsmall wr _ _ d hx (Nat.le_trans hnl (by omega)) (by have : bq = 4294967296 := rfl; omega)
     have AJ : Aside (rdN s (k + 1) = rdN s k * 10 + d /\ Ext w wr /\ (∀ j, j < k + 1 -> 48 <= (s.data.getD j 0).toNat /\ (s.data.getD j 0).toNat <= 57)) := ⟨by rw [rdN, hget, hdd], hE, hd7⟩
     clear hd hd7 hget hdd hsmall hx hE hb1 hb2 hnl
     go_wp2_with (go_at_call 39; (with_reducible refine hsm.mono ?_); rintro e w1 ⟨v1, rfl, hn1, hE1⟩)
     go_roundg (s.size - (k + 1))
     case measure => go_light; omega
     case rel =>
      go_light
      exact ⟨k + 1, by omega, rfl, rfl, by rw [AJ.out.1]; exact hn1, AJ.out.2.1.trans hE1, AJ.out.2.2⟩
  ·obtain rfl : k = s.size := by omega
   obtain ⟨ua, ul, uc, rfl⟩ : ∃ a l c, u4 = .slice a l c := by
    obtain ⟨a, b, o, c, h, _⟩ := hx
    exact ⟨_, _, _, h⟩
   have hkz : ¬ ((s.size : Nat) : Int) < ((s.size : Nat) : Int) := by omega
   have AJ : Aside (Num wr (.slice ua ul uc) (rdN s s.size) /\ Ext w wr /\ (∀ k, k < s.size -> 48 <= (s.data.getD k 0).toNat /\ (s.data.getD k 0).toNat <= 57)) := ⟨hx, hE, hd⟩
   clear hd hsmall hx hE
   by_cases h0 : s.size = 0
   ·have hne : s.toList.isEmpty = true := by
     rw [ByteArray.toList_eq]
     have h1 : s.data.toList.length = 0 := h0
     rw [List.length_eq_zero_iff.1 h1]
     rfl
    have AN : Aside (¬ Canon s) := fun hc => by have := hc.1; omega
    clear h0
    go_wp2
    go_quiet (fail)
    go_wp2
    go_ret2
    exact ⟨ua, ul, uc, false, rfl, AJ.out.2.1.drewN _, ⟨(fun h => by cases h), fun h => absurd h AN.out⟩, (fun h => by cases h)⟩
   ·have hne : s.toList.isEmpty = false := by
     rw [ByteArray.toList_eq]
     have h1 : 0 < s.data.toList.length := by have : s.data.toList.length = s.size := rfl; omega
     cases hl : s.data.toList with
     | nil => rw [hl] at h1; cases h1
     | cons _ _ => rfl
    have hs0 : 0 < s.size := by omega
    by_cases h1 : s.size = 1
    ·have hsz1 : ((s.size : Int) == 1) = true := by simp; omega
     have AN : Aside (Canon s) := ⟨hs0, AJ.out.2.2, .inl h1⟩
     clear h0 h1
     go_wp2
     go_quiet (fail)
     go_wp2
     go_ret2
     exact ⟨ua, ul, uc, true, rfl, AJ.out.2.1.drewN _, ⟨fun _ => AN.out, fun _ => rfl⟩, fun _ => AJ.out.1.drewN _⟩
    ·have hsz1 : ((s.size : Int) == 1) = false := by simp; omega
     have hzz : (0 : Int) < (s.size : Int) := by omega
     have hg0 := byte_get hs0
     by_cases hz : s[0].toNat = 48
     ·have hz0 : ((s[0].toNat : Int) != 48) = false := by simp; omega
      have AN : Aside (¬ Canon s) := fun hc => by
       rcases hc.2.2 with h | h
       ·exact h1 h
       ·rw [hg0] at h; exact h hz
      clear h0 h1 hz hg0
      go_wp2
      go_quiet (fail)
      go_wp2
      go_ret2
      exact ⟨ua, ul, uc, false, rfl, AJ.out.2.1.drewN _, ⟨(fun h => by cases h), fun h => absurd h AN.out⟩, (fun h => by cases h)⟩
     ·have hz0 : ((s[0].toNat : Int) != 48) = true := by simp; omega
      have AN : Aside (Canon s) := ⟨hs0, AJ.out.2.2, .inr (by rw [hg0]; exact hz)⟩
      clear h0 h1 hz hg0
      go_wp2
      go_quiet (fail)
      go_wp2
      go_ret2
      exact ⟨ua, ul, uc, true, rfl, AJ.out.2.1.drewN _, ⟨fun _ => AN.out, fun _ => rfl⟩, fun _ => AJ.out.1.drewN _⟩
end Go.Eng
