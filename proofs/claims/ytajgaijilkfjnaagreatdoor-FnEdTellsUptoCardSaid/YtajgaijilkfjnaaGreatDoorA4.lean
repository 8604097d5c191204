/-
 Plain laws of digits to the base 2^32, and contracts of the reference package spec over natural numbers.
-/
import Derived.ArgAppend
import Derived.Deep.CutRange
import Derived.Test.YtajgaijilkfjnaaGreatDoorA3
import Derived.Test.YtajgaijilkfjnaaGreatDoorA2
import Derived.Test.YtajgaijilkfjnaaGreatDoorA1
set_option linter.unusedVariables false
set_option linter.unusedSimpArgs false
namespace Go.Eng
open Go Go.RowKit Go.Proofs
set_option maxRecDepth 100000
theorem own_empty {w : World} {g base : Nat} (z : Nat -> Nat) (h : w.heap[g]? = some (.cells #[] 85 (0, 0))) (hb : base <= g) : w.ownsRow base 85 1 (.slice (some ⟨g, 0, none⟩) 0 0) 0 (dvals z 0) :=
 ⟨rfl, .inr ⟨g, 0, #[], rfl, hb, h, Nat.le_refl _, Nat.zero_le _, rfl, rfl⟩⟩
theorem row_cells {w : World} {g n : Nat} {z : Nat -> Nat} (h : Row w g n z) : ∀ j u, (dvals z n)[j]? = some u -> w.cell? ((⟨g, 0, none⟩ : Addr).add j) = some u := by
 intro j u hu
 have hj : j < n := by
  have := (List.getElem?_eq_some_iff.1 hu).1
  rwa [dvals_length] at this
 have e : (dvals z n)[j]? = some (.int .u32 (z j : Int)) := by simp [dvals, hj]
 rw [e] at hu
 simp only [Option.some.injEq] at hu
 subst hu
 have := h.cell hj
 have hadd : (⟨g, 0, none⟩ : Addr).add j = ⟨g, j, none⟩ := by unfold Addr.add; split <;> simp_all
 rw [hadd]; exact this
theorem Row.mono {w : World} {g n m : Nat} {z : Nat -> Nat} (h : Row w g m z) (hn : n <= m) : Row w g n z := by
 obtain ⟨c, hb, hs, hc⟩ := h
 exact ⟨c, hb, by omega, fun i hi => hc i (by omega)⟩
theorem dvals_oneCell (z : Nat -> Nat) (n : Nat) : ∀ u ∈ dvals z n, u.oneCell' = true := by
 intro u hu
 obtain ⟨_, _, rfl⟩ := List.mem_map.1 hu
 rfl
theorem up_len {X n lx : Nat} {z : Nat -> Nat} (hz : ∀ j, z j < bq) (h : valN z (lx + 1) = X * 2 ^ n) : tlen z (lx + 1) = nlen (X * 2 ^ n) := by
 rw [tlen_eq (fun j _ => hz j), h]
theorem shift_lt {Y ly : Nat} (hY : nlen Y = ly) (h0 : 0 < ly) : ∃ n, n < 32 /\ 32 * ly = (Y.log2 + 1) + n /\ nlen (Y * 2 ^ n) = ly := by
 have hne : Y ≠ 0 := fun e => by subst e; rw [nlen_zero] at hY; omega
 have h1 : Y.log2 / 32 + 1 = ly := by rw [<- hY]; unfold nlen; rw [if_neg hne]
 refine ⟨32 * ly - (Y.log2 + 1), by omega, by omega, ?_⟩
 have h2 : Y * 2 ^ (32 * ly - (Y.log2 + 1)) < bq ^ ly := by
  rw [bq_pow]
  have h3 := @Nat.lt_log2_self Y
  have h4 : 2 ^ (32 * ly) = 2 ^ (Y.log2 + 1) * 2 ^ (32 * ly - (Y.log2 + 1)) := by rw [<- Nat.pow_add]; congr 1; omega
  rw [h4]
  exact Nat.mul_lt_mul_of_pos_right h3 (Nat.pow_pos (by decide))
 refine Nat.le_antisymm (nlen_le h2) ?_
 rw [<- hY]
 exact nlen_mono (Nat.le_mul_of_pos_right _ (Nat.pow_pos (by decide)))
theorem own_ext {w w' : World} {base n : Nat} {v : Value} {xs : List Value} (h : w.ownsRow base 85 1 v n xs) (e : Ext w w') : w'.ownsRow base 85 1 v n xs := by
 obtain ⟨h1, h2 | ⟨g, cap, cur, hv, hb, hg, hr⟩⟩ := h
 ·exact ⟨h1, .inl h2⟩
 ·refine ⟨h1, .inr ⟨g, cap, cur, hv, hb, ?_, hr⟩⟩
  rw [World.Since.block e g (Array.getElem?_eq_some_iff.1 hg).1]
  exact hg
def FreshN (w w' : World) (v : Value) (N n : Nat) : Prop :=
 ∃ b c, v = .slice (some ⟨b, 0, none⟩) (nlen N) c /\ nlen N <= c /\ w.heap.size <= b /\ Row w' b n (dg N)
theorem FreshN.num {w w' : World} {v : Value} {N n : Nat} (h : FreshN w w' v N n) (hn : nlen N <= n) : Num w' v N := by
 obtain ⟨b, c, h1, h2, _, h4⟩ := h
 exact ⟨_, b, 0, c, h1, h2, fun _ => rfl, fun j hj => by rw [Nat.zero_add]; exact h4.cell (by omega)⟩
theorem own_cap {w : World} {base g n cap : Nat} {xs : List Value} (h : w.ownsRow base 85 1 (.slice (some ⟨g, 0, none⟩) n cap) n xs) : n <= cap := by
 obtain ⟨_, h2 | ⟨g', cap', cur, hv, hb, hg, hn, hm, hs, ht⟩⟩ := h
 ·obtain ⟨h2, _⟩ := h2; cases h2
 ·simp only [Value.slice.injEq] at hv
  obtain ⟨_, _, rfl⟩ := hv
  exact hn
theorem own_base {w : World} {base base' n : Nat} {v : Value} {xs : List Value} (h : w.ownsRow base 85 1 v n xs) (hb : base' <= base) : w.ownsRow base' 85 1 v n xs := by
 obtain ⟨h1, h2 | ⟨g, cap, cur, hv, hbb, hr⟩⟩ := h
 ·exact ⟨h1, .inl h2⟩
 ·exact ⟨h1, .inr ⟨g, cap, cur, hv, by omega, hr⟩⟩
theorem Row.ext {w w' : World} {b n : Nat} {d : Nat -> Nat} (h : Row w b n d) (e : Ext w w') : Row w' b n d := h.since e h.lt
theorem Row.grown {w w' : World} {b n : Nat} {d : Nat -> Nat} {row : Option Nat} (h : Row w b n d) (hg : w.grownBy w' row) (hr : some b ≠ row) : Row w' b n d := h.of_block (hg.block b h.lt hr)
structure DivS (w wr : World) (ga gb gq la lb lq : Nat) (a b q : Nat -> Nat) : Prop where
 ext : Ext w wr
 ra : Row wr ga la a
 rb : Row wr gb lb b
 rq : Row wr gq lq q
 nab : gb ≠ ga
 naq : gq ≠ ga
 nbq : gb ≠ gq
 ba : w.heap.size <= ga
 bq' : w.heap.size <= gq
 la' : ∀ j, a j < bq
 lq' : ∀ j, q j < bq
namespace DivS
variable {w wr : World} {ga gb gq la lb lq : Nat} {a b q : Nat -> Nat}
theorem setA (h : DivS w wr ga gb gq la lb lq a b q) {i v : Nat} (hv : v < bq) : DivS w (wr.setCell ⟨ga, i, none⟩ (.int .u32 (v : Int))) ga gb gq la lb lq (upd a i v) b q :=
 ⟨World.Since.setCell h.ext h.ba _, h.ra.set i v, h.rb.setOther h.nab _, h.rq.setOther h.naq _, h.nab, h.naq, h.nbq, h.ba, h.bq', upd_lt h.la' hv, h.lq'⟩
theorem setQ (h : DivS w wr ga gb gq la lb lq a b q) {i v : Nat} (hv : v < bq) : DivS w (wr.setCell ⟨gq, i, none⟩ (.int .u32 (v : Int))) ga gb gq la lb lq a b (upd q i v) :=
 ⟨World.Since.setCell h.ext h.bq' _, h.ra.setOther (fun e => h.naq e.symm) _, h.rb.setOther h.nbq _, h.rq.set i v, h.nab, h.naq, h.nbq, h.ba, h.bq', h.la', upd_lt h.lq' hv⟩
theorem drewN (h : DivS w wr ga gb gq la lb lq a b q) (k : Nat) : DivS w (wr.drewN k) ga gb gq la lb lq a b q :=
 ⟨h.ext.drewN k, h.ra.drewN k, h.rb.drewN k, h.rq.drewN k, h.nab, h.naq, h.nbq, h.ba, h.bq', h.la', h.lq'⟩
end DivS
theorem guess_wrap {u1 u0 bt : Nat} (h1 : u1 < bq) (h0 : u0 < bq) :
  IntKind.u64.wrap ((bits .or .u64 (IntKind.u64.wrap (IntKind.u64.wrap (u1 : Int) * 4294967296)) (IntKind.u64.wrap (u0 : Int))).tdiv (bt : Int)) = (((u1 * bq + u0) / bt : Nat) : Int) := by
 have h2 : u1 * bq + u0 < bq * bq := by
  have : (u1 + 1) * bq <= bq * bq := Nat.mul_le_mul_right _ h1
  rw [Nat.add_mul] at this
  omega
 rw [wrap_u64_nat (lt_bqq h1), rest_or h1 h0, nat_tdiv, wrap_u64_nat (Nat.lt_of_le_of_lt (Nat.div_le_self _ _) h2)]
theorem small_wrap' {c a b : Nat} (h1 : c < bq) (h3 : a < bq) (h4 : b < bq) :
  IntKind.u64.wrap ((c : Int) + IntKind.u64.wrap ((a : Int) * IntKind.u64.wrap (b : Int))) = ((c + a * b : Nat) : Int) := by
 have h5 := small_carry h1 h3 h4
 rw [wrap_u64_nat (lt_bqq h4), <- Int.natCast_mul, wrap_u64_nat (by omega), <- Int.natCast_add, wrap_u64_nat h5]
theorem bits_and_u64 {t : Nat} (h : t < bq * bq) : bits .and .u64 (t : Int) 4294967295 = ((t % bq : Nat) : Int) := by
 have h2 : bq * bq = 18446744073709551616 := rfl
 have h1 := bits_mask .u64 64 (by decide) (fun n h0 h1 => by rw [IntKind.wrap_u64]; omega) 32 (by decide) (t : Int) (by omega) (by omega)
 exact h1
theorem sub_wrap3 {x bw r : Nat} (h1 : x < bq) (h2 : bw <= 1) (h3 : r < bq) : IntKind.u64.wrap (IntKind.u64.wrap (IntKind.u64.wrap (IntKind.u64.wrap (x : Int) + 4294967296) - (bw : Int)) - (r : Int)) = ((x + bq - bw - r : Nat) : Int) := by
 have h := sub_wrap2 h1 h2 h3
 rw [wrap_u64_nat (lt_bqq h3)] at h
 exact h
theorem v_start {au c bo : Nat} (h1 : au < bq) (h2 : c < bq) (h3 : bo <= 1) : wrap64 (wrap64 (wrap64 (au : Int) - wrap64 (c : Int)) - (bo : Int)) = (au : Int) - (c : Int) - (bo : Int) := by
 have e : bq = 4294967296 := rfl
 rw [e] at h1 h2
 clear e
 unfold wrap64
 omega
theorem v_step {v : Int} {c : Nat} (h1 : -8589934592 <= v) (h2 : v <= 4294967296) (h3 : c <= 1) : wrap64 (v + wrap64 (c : Int)) = v + (c : Int) := by
 unfold wrap64
 omega
theorem back_wrap {c a b : Nat} (hc : c <= 1) (ha : a < bq) (hb : b < bq) : IntKind.u64.wrap ((c : Int) + IntKind.u64.wrap (IntKind.u64.wrap (a : Int) + IntKind.u64.wrap (b : Int))) = ((c + (a + b) : Nat) : Int) := by
 have e : bq = 4294967296 := rfl
 have e2 : bq * bq = 18446744073709551616 := rfl
 rw [wrap_u64_nat (lt_bqq ha), wrap_u64_nat (lt_bqq hb), <- Int.natCast_add, wrap_u64_nat (by omega), <- Int.natCast_add, wrap_u64_nat (by omega)]
theorem dec_wrap {k : Nat} (h : 1 <= k) (hk : k < bq) : IntKind.u64.wrap ((k : Int) - 1) = ((k - 1 : Nat) : Int) := by
 rw [show ((k : Int) - 1) = ((k - 1 : Nat) : Int) by omega, wrap_u64_nat (lt_bqq (by omega))]
theorem v_bounds {au c bo : Nat} (h1 : au < bq) (h2 : c < bq) (h3 : bo <= 1) : -8589934592 <= (au : Int) - (c : Int) - (bo : Int) /\ (au : Int) - (c : Int) - (bo : Int) <= 4294967296 := by
 have e : bq = 4294967296 := rfl
 rw [e] at h1 h2
 clear e
 omega
set_option maxHeartbeats 6400000 in
theorem div_core (ax ay : Option Addr) (bx ox lx cx by' oy ly cy X Y : Nat) (w : World) (hlx : lx <= 1048576) (hX : nlen X = lx) (hY : nlen Y = ly) (hly : 2 <= ly) (hge : Y <= X) (hcx : lx <= cx) (hcy : ly <= cy)
  (hax : 0 < lx -> ax = some ⟨bx, ox, none⟩) (hay : 0 < ly -> ay = some ⟨by', oy, none⟩)
  (hx : ∀ j, j < lx -> w.cell? ⟨bx, ox + j, none⟩ = some (.int .u32 (dg X j : Int))) (hy : ∀ j, j < ly -> w.cell? ⟨by', oy + j, none⟩ = some (.int .u32 (dg Y j : Int))) :
  Calls Tryz.prog 94 #[.slice ax lx cx, .slice ay ly cy] w fun e w' => ∃ vq vr, e = .returned (.tuple #[vq, vr]) /\ Ext w w' /\ (∃ m, FreshN w w' vq (X / Y) m /\ nlen (X / Y) <= m) /\ (X % Y = 0 -> vr = .slice none 0 0) /\ (X % Y ≠ 0 -> FreshN w w' vr (X % Y) (nlen (X % Y))) := by
 obtain ⟨i0, hi, hz0, hz1, hz2⟩ := info_parts inf59
 have hxy : ly <= lx := by rw [<- hX, <- hY]; exact nlen_mono hge
 have hNx : Num w (.slice ax lx cx) X := ⟨ax, bx, ox, cx, by rw [hX], by rw [hX]; exact hcx, by rw [hX]; exact hax, by rw [hX]; exact hx⟩
 have hNy : Num w (.slice ay ly cy) Y := ⟨ay, by', oy, cy, by rw [hY], by rw [hY]; exact hcy, by rw [hY]; exact hay, by rw [hY]; exact hy⟩
 have hcmp := cmp_walk hNx hNy (by omega) (by omega)
 obtain ⟨cv, hcv⟩ : ∃ c, c = cmpN X Y := ⟨_, rfl⟩
 rw [<- hcv] at hcmp
 have hcv0 : ¬ cv < 0 := by
  rw [hcv]; unfold cmpN; split
  ·omega
  ·split <;> decide
 obtain ⟨n, hn, hnL, hlyn⟩ := shift_lt hY (by omega)
 obtain ⟨L, hL⟩ : ∃ L, L = Y.log2 + 1 := ⟨_, rfl⟩
 have hbits : ∀ W, Ext w W -> Calls Tryz.prog 108 #[.slice ay ly cy] W fun e w' => e = .returned (.int .i64 (L : Int)) /\ Ext W w' := fun W hW => by
  rw [hL]
  exact bits_core ay by' oy ly cy Y W (by omega) hY hay (fun j hj => hW.cell (hy j hj)) (by omega)
 obtain ⟨l0, hl0⟩ : ∃ l, l = nlen (X * 2 ^ n) := ⟨_, rfl⟩
 have hl1 : lx <= l0 := by rw [hl0, <- hX]; exact nlen_mono (Nat.le_mul_of_pos_right _ (Nat.pow_pos (by decide)))
 have hl2 : l0 <= lx + 1 := by
  rw [hl0]
  refine nlen_le ?_
  rw [Nat.pow_succ]
  exact Nat.mul_lt_mul_of_lt_of_le (by rw [<- hX]; exact lt_nlen X) (Nat.le_of_lt (pow_lt_bq hn)) bq_pos
 have hupx : ∀ W, Ext w W -> Calls Tryz.prog 117 #[.slice ax lx cx, .int .i64 (n : Int)] W fun e w' => ∃ z, MulO W w' (lx + 1) z /\ valN z (lx + 1) = X * 2 ^ n /\ e = .returned (.slice (some ⟨W.heap.size, 0, none⟩) l0 (lx + 1)) := fun W hW =>
  (up_core ax bx ox lx cx n (dg X) W (by omega) hn hax (fun j hj => hW.cell (hx j hj)) (dg_lt X)).mono fun e w' ⟨z, h1, h2, h3⟩ => by
   rw [<- hX, valN_dg_all, hX] at h2
   exact ⟨z, h1, h2, by rw [h3, up_len h1.lt h2, hl0]⟩
 have hupy : ∀ W, Ext w W -> Calls Tryz.prog 117 #[.slice ay ly cy, .int .i64 (n : Int)] W fun e w' => ∃ z, MulO W w' (ly + 1) z /\ valN z (ly + 1) = Y * 2 ^ n /\ e = .returned (.slice (some ⟨W.heap.size, 0, none⟩) ly (ly + 1)) := fun W hW =>
  (up_core ay by' oy ly cy n (dg Y) W (by omega) hn hay (fun j hj => hW.cell (hy j hj)) (dg_lt Y)).mono fun e w' ⟨z, h1, h2, h3⟩ => by
   rw [<- hY, valN_dg_all, hY] at h2
   exact ⟨z, h1, h2, by rw [h3, up_len h1.lt h2, hlyn]⟩
 have hsub : 32 * (ly : Int) - (L : Int) = (n : Int) := by omega
 have hne1 : ((ly : Int) == 1) = false := by simp; omega
 have AX : Aside (nlen X = lx /\ nlen Y = ly /\ Y <= X /\ nlen (Y * 2 ^ n) = ly /\ n < 32 /\ l0 = nlen (X * 2 ^ n) /\ (∃ L, 32 * ly = L + n /\ L = Y.log2 + 1) /\ Y ≠ 0) := ⟨hX, hY, hge, hlyn, hn, hl0, ⟨L, by omega, hL⟩, fun e => by rw [e, nlen_zero] at hY; omega⟩
 clear hX hY hge hlyn hn hl0 hNx hNy hcv hL hnL hx hy hax hay
 go_enter Tryz.func94, Tryz.ntmps94
 go_wp2_with (first
  | (go_at_call 29; refine hcmp.mono ?_; rintro e w1 ⟨rfl, hE1⟩)
  | (go_at_call 108; refine (hbits _ hE1).mono ?_; rintro e w2 ⟨rfl, hE2⟩; have hE2' := hE1.trans hE2)
  | (go_at_call 117; refine (hupx _ (hE2'.alloc _)).mono ?_; rintro e w3 ⟨zx, hMx, hvx, rfl⟩; have hE3 := (hE2'.alloc _).trans hMx.since; have hg3 := hMx.since.block w2.heap.size (by simp); have hr3 := hMx.row; rw [show (w2.alloc (.cells #[] 85)).heap.size = w2.heap.size + 1 by simp] at hr3)
  | (at_builtin; go_must (refine wpList_append_own _ rfl (.tmp 49) (.tmp 52) 27 rfl w.heap.size 85 i0 (.int .u32 0) 1 4 und23 hi hz0 hz1 hz2 rfl (by decide) _ _ _ rfl (own_empty zx (by rw [hg3]; exact heap_alloc_new _ _) hE2'.size) _ l0 (lx + 1) (dvals zx l0) rfl (by simp [dvals_length]) (row_cells (hr3.mono hl2)) (dvals_oneCell _ _) (by unfold maxLen; omega) (by omega) hE3.size ?_; intro va w4 hown4 hgrow4 hnil4; have hE4 := hE3.grown hgrow4 (fun k hk => by cases hk; exact hE2'.size); clear hupx))
  | (go_at_call 117; go_must (refine (hupy _ hE4).mono ?_; rintro e w5 ⟨zy, hMy, hvy, rfl⟩)))
 rw [Nat.zero_add, show dvals zx 0 ++ dvals zx l0 = dvals zx l0 from rfl] at hown4
 obtain ⟨av, ga, ca, hva, hca, hav⟩ := own_slice hown4
 obtain ⟨hav1, hav2, hav3⟩ := hav (by omega)
 subst hav1
 subst hva
 have hgab : ga ≠ w4.heap.size := Nat.ne_of_lt hav2.lt
 have hown5 := own_ext hown4 hMy.since
 have hE5 := hE4.trans hMy.since
 have hrb5 := hMy.row
 obtain ⟨gb, hgb⟩ : ∃ g, g = w4.heap.size := ⟨_, rfl⟩
 rw [<- hgb] at hgab hrb5 ⊢
 have hvx0 : valN zx l0 = X * 2 ^ n := by
  rw [<- hvx]
  refine (valN_top zx hl2 fun j h1 h2 => ?_).symm
  have hjl : j = lx := by omega
  subst hjl
  have h3 : valN zx (j + 1) < bq ^ j := by
   rw [hvx]
   refine lt_iff_nlen.2 ?_
   rw [<- AX.out.2.2.2.2.2.1]; exact h1
  rw [valN] at h3
  refine Decidable.byContradiction fun h0 => ?_
  have : 1 * bq ^ j <= zx j * bq ^ j := Nat.mul_le_mul_right _ (by omega)
  omega
 have AS : Aside (valN zx l0 = X * 2 ^ n /\ (∀ j, zx j < bq) /\ valN zy (ly + 1) = Y * 2 ^ n /\ (∀ j, zy j < bq)) := ⟨hvx0, hMx.lt, hvy, hMy.lt⟩
 have AR : Aside (Row w5 gb (ly + 1) zy) := hrb5
 clear hcmp hbits hupy hE1 hE2 hE2' hMx hvx hE3 hg3 hr3 hown4 hgrow4 hnil4 hE4 hMy hvy hvx0 hav hav2 hav3 hgb hsub hrb5
 go_loopg [9] (lx + 1 - l0) (fun g va wr => ∃ (m ga ca : Nat) (z : Nat -> Nat), l0 <= m /\ m <= lx + 1 /\ g = lx + 1 - m /\ va = .slice (some ⟨ga, 0, none⟩) m ca /\ wr.ownsRow w.heap.size 85 1 (.slice (some ⟨ga, 0, none⟩) m ca) m (dvals z m) /\ ga ≠ gb /\ (∀ j, z j < bq) /\ valN z m = X * 2 ^ n /\ Ext w wr /\ Row wr gb (ly + 1) zy)
 case atStart => exact ⟨l0, ga, ca, zx, Nat.le_refl _, hl2, rfl, rfl, hown5, hgab, AS.out.2.1, AS.out.1, hE5, AR.out⟩
 case round =>
  clear hown5 hE5 hgab AR
  obtain ⟨m, ga, ca, z, hm1, hm2, hgk, rfl, hown, hgab, hz, hval, hE, hrb⟩ := hrel
  by_cases hml : m <= lx
  ·obtain rfl : m = lx := by omega
   have hmz : (m : Int) <= (m : Int) := Int.le_refl _
   have hrow := (Row.ofOwn hown).1
   have AJ : Aside ((∀ j, z j < bq) /\ valN z m = X * 2 ^ n /\ Ext w wr /\ Row wr gb (ly + 1) zy /\ ga ≠ gb) := ⟨hz, hval, hE, hrb, hgab⟩
   have hwm := hE.size
   have hv1 : valN (upd z m 0) (m + 1) = X * 2 ^ n := by
    rw [valN, upd_same, Nat.zero_mul, Nat.add_zero, valN_congr (l := m) (b := z) fun j hj => upd_other _ (by omega)]
    exact hval
   have AV : Aside (valN (upd z m 0) (m + 1) = X * 2 ^ n) := hv1
   clear hz hval hE hrb hv1
   by_cases hroom : m + 1 <= ca
   ·go_wp2_with (at_builtin; (go_must (refine wpList_append_fits _ rfl (.tmp 62) (.tmp 63) 27 rfl w.heap.size 85 i0 1 und23 hi hz1 ga m ca _ rfl (hown.alloc _) ⟨wr.heap.size, 0, none⟩ 1 1 [.int .u32 0] rfl rfl (one_cell _ _ _) (one_oneCell _ _) hroom ?_; intro w8 hown8 hgrow8)))
    go_roundg (m + 1 - (m + 1))
    case measure => go_light; omega
    case rel =>
     go_light
     obtain ⟨j1, j2, j3, j4, j5⟩ := AJ.out
     have hown9 : w8.ownsRow w.heap.size 85 1 (.slice (some ⟨ga, 0, none⟩) (m + 1) ca) (m + 1) (dvals (upd z m 0) (m + 1)) := by rw [<- dvals_succ]; exact hown8
     exact ⟨m + 1, ga, ca, _, by omega, Nat.le_refl _, rfl, rfl, hown9, j5, upd_lt j1 bq_pos, AV.out, (j3.alloc _).grown hgrow8 (fun k hk => by cases hk; exact (Row.ofOwn hown).2), (j4.alloc _).grown hgrow8 (fun e => j5 (Option.some.inj e).symm)⟩
   ·go_wp2_with (at_builtin; (go_must (refine wpList_append_grows _ rfl (.tmp 62) (.tmp 63) 27 rfl 85 i0 (.int .u32 0) 1 4 und23 hi hz0 hz1 hz2 rfl (by decide) (some ⟨ga, 0, none⟩) m ca (dvals z m) rfl (by intro h; cases h) (by simp [dvals_length]) (fun b hb => by cases hb; exact row_cells (hrow.alloc _)) ⟨wr.heap.size, 0, none⟩ 1 1 [.int .u32 0] rfl rfl (one_cell _ _ _) (one_oneCell _ _) (by omega) (by unfold maxLen; omega) (by omega) ?_; intro v8 w8 hown8 hgrow8)))
    have hown9 : w8.ownsRow ((wr.alloc (.cells #[.int .u32 0] 85)).heap.size) 85 1 v8 (m + 1) (dvals (upd z m 0) (m + 1)) := by rw [<- dvals_succ]; exact hown8
    obtain ⟨a8, g8, c8, hv8, hc8, ha8⟩ := own_slice hown9
    obtain ⟨k1, k2, k3⟩ := ha8 (by omega)
    subst k1
    subst hv8
    have hown10 : w8.ownsRow w.heap.size 85 1 (.slice (some ⟨g8, 0, none⟩) (m + 1) c8) (m + 1) (dvals (upd z m 0) (m + 1)) := own_base hown9 (by simp; omega)
    have hg8 : g8 ≠ gb := fun e => by have := AJ.out.2.2.2.1.lt; simp at k3; omega
    have AW : Aside (w8.ownsRow w.heap.size 85 1 (.slice (some ⟨g8, 0, none⟩) (m + 1) c8) (m + 1) (dvals (upd z m 0) (m + 1)) /\ g8 ≠ gb /\ (wr.alloc (.cells #[.int .u32 0] 85)).grownBy w8 none) := ⟨hown10, hg8, hgrow8⟩
    clear hown8 hown9 hown10 ha8 k2 k3 hg8 hgrow8 hc8
    go_wp2
    go_roundg (m + 1 - (m + 1))
    case measure => go_light; omega
    case rel =>
     go_light
     obtain ⟨j1, j2, j3, j4, j5⟩ := AJ.out
     obtain ⟨l1, l2, l3⟩ := AW.out
     exact ⟨m + 1, g8, c8, _, by omega, Nat.le_refl _, rfl, rfl, l1, l2, upd_lt j1 bq_pos, AV.out, (j3.alloc _).grown l3 (fun k hk => by cases hk), (j4.alloc _).grown l3 (fun e => by cases e)⟩
  ·obtain rfl : m = lx + 1 := by omega
   have hmz : ¬ (lx : Int) + 1 <= (lx : Int) := by omega
   obtain ⟨lq, hlq⟩ : ∃ q, lx + 1 = q + ly := ⟨lx + 1 - ly, by omega⟩
   have hsq : (lx : Int) + 1 - (ly : Int) = (lq : Int) := by omega
   have hmk := run_make_row' (P := Tryz.prog) 27 85 (.int .u32 0) 4 und23 inf59 rfl .i64 .i64 lq (by omega) (by omega)
   have hcap := own_cap hown
   have hra := (Row.ofOwn hown).1
   have hga := (Row.ofOwn hown).2
   have hgq : wr.heap.size ≠ ga := fun e => by have := hra.lt; omega
   have hgbq : gb ≠ wr.heap.size := fun e => by have := hrb.lt; omega
   have hB : valN zy ly = Y * 2 ^ n := by
    have h0 := AS.out.2.2.1
    rw [valN] at h0
    by_cases hz0 : zy ly = 0
    ·rw [hz0, Nat.zero_mul, Nat.add_zero] at h0; exact h0
    ·have h1 : Y * 2 ^ n < bq ^ ly := lt_iff_nlen.2 (by rw [AX.out.2.2.2.1]; exact Nat.le_refl _)
     have : 1 * bq ^ ly <= zy ly * bq ^ ly := Nat.mul_le_mul_right _ (by omega)
     omega
   have hD0 : DivS w (wr.alloc (.cells (madeCells #[.int .u32 0] lq) 85)) ga gb wr.heap.size (lx + 1) ly lq z zy (fun _ => 0) :=
    ⟨hE.alloc _, hra.alloc _, (hrb.mono (Nat.le_succ ly)).alloc _, Row.ofRowIs (World.rowIs_made wr _ lq 85) (fun j _ => rfl), fun e => hgab e.symm, hgq, hgbq, hga, hE.size, hz, fun _ => bq_pos⟩
   obtain ⟨gq, hgqe⟩ : ∃ g, g = wr.heap.size := ⟨_, rfl⟩
   rw [<- hgqe] at hD0 hgq hgbq
   have hstart : valN z (lx + 1) < valN zy ly * bq ^ lq := by
    rw [hval, hB]
    exact div_top AX.out.1 hly AX.out.2.2.2.2.2.2.1 AX.out.2.2.2.2.2.2.2 AX.out.2.2.2.2.1 hlq
   have AM : Aside (valN z (lq + ly) = X * 2 ^ n /\ valN zy ly = Y * 2 ^ n /\ DivS w (wr.alloc (.cells (madeCells #[.int .u32 0] lq) 85)) ga gb gq (lq + ly) ly lq z zy (fun _ => 0) /\ valN z (lq + ly) < valN zy ly * bq ^ lq) := ⟨by rw [<- hlq]; exact hval, hB, by rw [<- hlq]; exact hD0, by rw [<- hlq]; exact hstart⟩
   have hzy := AS.out.2.2.2
   have hzp : 0 < zy (ly - 1) := top_pos hzy hB AX.out.2.2.2.1 hly
   obtain ⟨A, hA⟩ : ∃ A, A = X * 2 ^ n := ⟨_, rfl⟩
   have hsq2 : (lx : Int) + 1 - (ly : Int) - 1 = (lq : Int) - 1 := by omega
   clear hval hB hD0 hstart hown hra hrb hga hE hz hm1 hm2 hgk hml
   go_wp2
   rw [<- hgqe]
   have hcap' : lq + ly <= ca := by omega
   clear hcap
   have hlqb : lq <= 1048577 := by omega
   have hlyb : ly <= 1048577 := by omega
   clear hgqe hsq hsq2 hmz hlq hgq hgbq hgab
   have hly1 : (ly : Int) - 1 < (ly : Int) := by omega
   go_loopg [13] lq (fun g s wr => ∃ (a q : Nat -> Nat), g <= lq /\ s = .int .i64 ((g : Int) - 1) /\ DivS w wr ga gb gq (lq + ly) ly lq a zy q /\ (∀ j, g + ly <= j -> j < lq + ly -> a j = 0) /\ (∀ j, j < g -> q j = 0) /\ valN q lq * valN zy ly + valN a (g + ly) = A /\ valN a (g + ly) < valN zy ly * bq ^ g)
   case atStart =>
    obtain ⟨a1, a2, a3, a4⟩ := AM.out
    exact ⟨z, _, Nat.le_refl _, rfl, a3, fun j h1 h2 => by omega, fun _ _ => rfl, by rw [valN_zero (fun _ _ => rfl), Nat.zero_mul, Nat.zero_add, a1, hA], a4⟩
   case round =>
    obtain ⟨a, q, hg, rfl, hD, ha0, hq0, hsum, hlt⟩ := hrel
    have AI : Aside (DivS w wr ga gb gq (lq + ly) ly lq a zy q /\ (∀ j, gk + ly <= j -> j < lq + ly -> a j = 0) /\ (∀ j, j < gk -> q j = 0) /\ valN q lq * valN zy ly + valN a (gk + ly) = A /\ valN a (gk + ly) < valN zy ly * bq ^ gk) := ⟨hD, ha0, hq0, hsum, hlt⟩
    clear ha0 hq0 hsum hlt
    cases gk with
    | zero =>
      have hgz : ¬ (0 : Int) <= ((0 : Nat) : Int) - 1 := by omega
      obtain ⟨hDI, ha0, hq0, hsum, hlt⟩ := AI.out
      have hfin := div_end (Nat.pow_pos (by decide)) AM.out.2.1 (by rw [hsum, hA]) hlt
      obtain ⟨R, hR⟩ : ∃ R, R = X % Y * 2 ^ n := ⟨_, rfl⟩
      have hRa : valN a (lq + ly) = R := by
       rw [valN_top a (m := ly) (by omega) (fun j h1 h2 => ha0 j (by omega) h2), hfin.2, hR]
      have htq : tlen q lq = nlen (X / Y) := by rw [tlen_eq (fun j _ => hDI.lq' j), hfin.1]
      have hta : tlen a (lq + ly) = nlen R := by rw [tlen_eq (fun j _ => hDI.la' j), hRa]
      obtain ⟨lr, hlr⟩ : ∃ l, l = nlen R := ⟨_, rfl⟩
      have hlry : lr <= ly := by
       rw [hlr, hR, <- hfin.2]
       exact nlen_le (valN_lt fun j _ => hDI.la' j)
      have hlrl : lr <= lq + ly := by omega
      have hdr : ∀ W, Ext w W -> (∀ j, j < lr -> W.cell? ⟨ga, 0 + j, none⟩ = some (.int .u32 (dg R j : Int))) -> Calls Tryz.prog 118 #[.slice (some ⟨ga, 0, none⟩) lr ca, .int .i64 (n : Int)] W fun e w' => ∃ vr, e = .returned vr /\ Ext W w' /\ (X % Y = 0 -> vr = .slice none 0 0) /\ (X % Y ≠ 0 -> FreshN W w' vr (X % Y) (nlen (X % Y))) := fun W _ hc =>
       (down_core (some ⟨ga, 0, none⟩) ga 0 lr ca n R W (by omega) AX.out.2.2.2.2.1 (fun _ => rfl) hc hlr.symm).mono fun e w' ⟨a5, g5, c5, h1, h2, h3, h4, h5⟩ => by
        have e1 : R / 2 ^ n = X % Y := by rw [hR]; exact Nat.mul_div_cancel _ (Nat.pow_pos (by decide))
        rw [e1] at h1 h2 h3
        refine ⟨_, h1, h5, fun h0 => ?_, fun h0 => ?_⟩
        ·have : lr = 0 := by rw [hlr, hR, h0, Nat.zero_mul]; rfl
         obtain ⟨k1, k2⟩ := h4 this
         rw [k1, k2, h0]; rfl
        ·have h6 : nlen (X % Y) <= lr := by rw [hlr, hR]; exact nlen_mono (Nat.le_mul_of_pos_right _ (Nat.pow_pos (by decide)))
         have h7 := nlen_pos h0
         obtain ⟨k1, k2, k3⟩ := h3 (by omega)
         exact ⟨g5, c5, by rw [k1], h2, k3, k2.mono h6⟩
      have hrc : ∀ j, j < lr -> wr.cell? ⟨ga, 0 + j, none⟩ = some (.int .u32 (dg R j : Int)) := fun j hj => by
       rw [Nat.zero_add, hDI.ra.cell (by omega), <- hRa, dg_valN (fun j _ => hDI.la' j) j (by omega)]
      have hdr' := hdr wr hDI.ext hrc
      have hrq : Row wr gq lq (dg (X / Y)) := hDI.rq.congr fun j hj => by rw [<- hfin.1, dg_valN (fun j _ => hDI.lq' j) j hj]
      have AZ : Aside (Row wr gq lq (dg (X / Y)) /\ w.heap.size <= gq /\ Ext w wr /\ nlen (X / Y) <= lq) := ⟨hrq, hDI.bq', hDI.ext, by rw [<- htq]; exact tlen_le _ _⟩
      have htrq := trim_walk (some ⟨gq, 0, none⟩) gq 0 lq lq q wr (by omega) (Nat.le_refl _) (fun _ => rfl) (fun j hj => by rw [Nat.zero_add]; exact hDI.rq.cell hj)
      have htra := trim_walk (some ⟨ga, 0, none⟩) ga 0 (lq + ly) ca a wr (by omega) hcap' (fun _ => rfl) (fun j hj => by rw [Nat.zero_add]; exact hDI.ra.cell hj)
      rw [htq] at htrq
      rw [hta, <- hlr] at htra
      obtain ⟨nq, hnq⟩ : ∃ l, l = nlen (X / Y) := ⟨_, rfl⟩
      rw [<- hnq] at htrq
      have AQ : Aside (nq = nlen (X / Y)) := hnq
      clear hDI ha0 hq0 hsum hlt hfin hR hRa htq hta hlr hdr hrc hrq hnq hD
      go_wp2_with (first
       | (go_at_call 63; with_reducible refine htrq.mono ?_; rintro e w6 ⟨rfl, rfl⟩)
       | (go_at_call 63; with_reducible refine htra.mono ?_; rintro e w6 ⟨rfl, rfl⟩)
       | (go_at_call 118; with_reducible refine hdr'.mono ?_; rintro e w7 ⟨vr, rfl, hE7, hr1, hr2⟩))
      go_ret2
      obtain ⟨z1, z2, z3, z4⟩ := AZ.out
      refine ⟨_, vr, rfl, z3.trans hE7, ⟨lq, ⟨gq, lq, by rw [<- AQ.out]; rfl, z4, z2, z1.ext hE7⟩, z4⟩, hr1, fun h0 => ?_⟩
      obtain ⟨b, c, h1, h2, h3, h4⟩ := hr2 h0
      exact ⟨b, c, h1, h2, Nat.le_trans z3.size h3, h4⟩
    | succ i =>
      rw [show ((i + 1 : Nat) : Int) - 1 = (i : Int) by omega]
      have hilz : (i : Int) + (ly : Int) < (lq : Int) + (ly : Int) := by omega
      have hilz1 : (i : Int) + (ly : Int) - 1 < (lq : Int) + (ly : Int) := by omega
      have hilz0 : (0 : Int) <= (i : Int) + (ly : Int) - 1 := by omega
      have hiln : ((i : Int) + (ly : Int) - 1).toNat = i + ly - 1 := by omega
      have hln : ((ly : Int) - 1).toNat = ly - 1 := by omega
      have hl0 : (0 : Int) <= (ly : Int) - 1 := by omega
      obtain ⟨u1, hu1⟩ : ∃ u, u = a (i + ly) := ⟨_, rfl⟩
      obtain ⟨u0, hu0⟩ : ∃ u, u = a (i + ly - 1) := ⟨_, rfl⟩
      obtain ⟨bt, hbt⟩ : ∃ u, u = zy (ly - 1) := ⟨_, rfl⟩
      have g1 : wr.cell? ⟨ga, i + ly, none⟩ = some (.int .u32 (u1 : Int)) := by rw [hu1]; exact hD.ra.cell (by omega)
      have g0 : wr.cell? ⟨ga, i + ly - 1, none⟩ = some (.int .u32 (u0 : Int)) := by rw [hu0]; exact hD.ra.cell (by omega)
      have gb1 : wr.cell? ⟨gb, ly - 1, none⟩ = some (.int .u32 (bt : Int)) := by rw [hbt]; exact hD.rb.cell (by omega)
      have hbt0 : ¬ (bt : Int) = 0 := by have := hzp; rw [<- hbt] at this; omega
      have hbtw : IntKind.u64.wrap (bt : Int) = (bt : Int) := wrap_u64_nat (lt_bqq (by rw [hbt]; exact hzy _))
      have AU : Aside (u1 = a (i + ly) /\ u0 = a (i + ly - 1) /\ bt = zy (ly - 1)) := ⟨hu1, hu0, hbt⟩
      have hu1l : u1 < bq := by rw [hu1]; exact hD.la' _
      have hu0l : u0 < bq := by rw [hu0]; exact hD.la' _
      clear hu1 hu0 hbt hD
      go_wp2
      go_quiet (fail)
      go_upto_region 16 with fail
      obtain ⟨gs, hgs⟩ : ∃ g : Nat, g = min ((u1 * bq + u0) / bt) (bq - 1) := ⟨_, rfl⟩
      have hgsl : gs < bq := by rw [hgs]; exact Nat.lt_of_le_of_lt (Nat.min_le_right _ _) (by decide)
      have AG : Aside (gs = min ((u1 * bq + u0) / bt) (bq - 1)) := hgs
      clear hgs
      go_cut [15] from 98 to 106 (fun s15 wx => s15 = .int .u64 (gs : Int) /\ wr.drewN nq = wx)
      case first =>
       go_wp2_with fail
       all_goals
        (go_meet
         go_light
         have h1 := AG.out
         have h2 : bq = 4294967296 := rfl
         first
          | (have hcase : (4294967295 : Int) < IntKind.u64.wrap ((bits .or .u64 (IntKind.u64.wrap (IntKind.u64.wrap (u1 : Int) * 4294967296)) (IntKind.u64.wrap (u0 : Int))).tdiv (bt : Int)) := by assumption
             rw [guess_wrap hu1l hu0l] at hcase
             rw [Nat.min_eq_right (by omega)] at h1
             refine ⟨congrArg _ ?_, rfl⟩
             rw [h1]; rfl)
          | (have hcase : IntKind.u64.wrap ((bits .or .u64 (IntKind.u64.wrap (IntKind.u64.wrap (u1 : Int) * 4294967296)) (IntKind.u64.wrap (u0 : Int))).tdiv (bt : Int)) <= 4294967295 := by assumption
             rw [guess_wrap hu1l hu0l] at hcase ⊢
             rw [Nat.min_eq_left (by omega)] at h1
             rw [h1]
             exact ⟨rfl, rfl⟩))
      case rest =>
       obtain ⟨rfl, rfl⟩ := hcut
       clear hu1l hu0l g0 g1 gb1 hbt0 hbtw hilz1 hilz0 hiln hln hl0
       go_wp2
       go_loopg [16, 17, 18] ly (fun g cr bw k wi => ∃ (c bo m : Nat) (a' : Nat -> Nat), m <= ly /\ g = ly - m /\ cr = .int .u64 c /\ bw = .int .u64 bo /\ k = .int .i64 m /\ c < bq /\ bo <= 1 /\ DivS w wi ga gb gq (lq + ly) ly lq a' zy q /\ (∀ j, j < i \/ i + m <= j -> a' j = a j) /\
        valN (fun j => a' (i + j)) m + gs * valN zy m = valN (fun j => a (i + j)) m + (c + bo) * bq ^ m)
       case atStart => exact ⟨0, 0, 0, a, Nat.zero_le _, rfl, rfl, rfl, rfl, bq_pos, Nat.zero_le _, AI.out.1.drewN _, fun _ _ => rfl, by simp [valN]⟩
       case round =>
        obtain ⟨c, bo, m, a', hm, rfl, rfl, rfl, rfl, hc, hbo, hD, ha', hval⟩ := hrel
        by_cases hml : m < ly
        ·have hmlz : (m : Int) < (ly : Int) := by omega
         have himz : (i : Int) + (m : Int) < (lq : Int) + (ly : Int) := by omega
         have g1 : wr.cell? ⟨gb, m, none⟩ = some (.int .u32 (zy m : Int)) := hD.rb.cell hml
         have g2 : wr.cell? ⟨ga, i + m, none⟩ = some (.int .u32 (a' (i + m) : Int)) := hD.ra.cell (by omega)
         have g3 : wr.frozen? ⟨ga, i + m, none⟩ = false := hD.ra.frozen _
         have AJ : Aside (DivS w wr ga gb gq (lq + ly) ly lq a' zy q /\ (∀ j, j < i \/ i + m <= j -> a' j = a j) /\ valN (fun j => a' (i + j)) m + gs * valN zy m = valN (fun j => a (i + j)) m + (c + bo) * bq ^ m) := ⟨hD, ha', hval⟩
         clear hD ha' hval
         go_wp2
         go_roundg (ly - (m + 1))
         case measure => go_light; omega
         case rel =>
          go_light
          obtain ⟨hD, ha', hval⟩ := AJ.out
          have e : bq = 4294967296 := rfl
          have hzm := hzy m
          have ht := small_carry hc hgsl hzm
          have hak := ha' (i + m) (.inr (Nat.le_refl _))
          have hal := hD.la' (i + m)
          have hrl := mod_bq_lt (c + gs * zy m)
          rw [small_wrap' hc hgsl hzm, bits_and_u64 ht, sub_wrap3 hal hbo hrl, sub_bw (by omega), nat_div_bq, nat_mod_bq]
          have hs := dm_in (L := valN (fun j => a' (i + j)) m) (v := a' (i + m) + bq - bo - (c + gs * zy m) % bq) (ak := a' (i + m)) (bk := zy m) hval hbo hal (by omega)
          refine ⟨_, _, m + 1, _, by omega, rfl, rfl, rfl, rfl, div_bq_lt ht, hs.2, hD.setA (mod_bq_lt _), fun j hj => ?_, ?_⟩
          ·rw [upd_other _ (by omega)]; exact ha' j (by omega)
          ·rw [valN, valN, valN]
           simp only [upd_same]
           rw [valN_congr (l := m) (b := fun j => a' (i + j)) (fun j hj => upd_other _ (by omega)), <- hak]
           exact hs.1
        ·obtain rfl : m = ly := by omega
         have hmlz : ¬ (m : Int) < (m : Int) := by omega
         have hD' := hD
         have g1 : wr.cell? ⟨ga, i + m, none⟩ = some (.int .u32 (a' (i + m) : Int)) := hD.ra.cell (by omega)
         have AJ : Aside (DivS w wr ga gb gq (lq + m) m lq a' zy q /\ (∀ j, j < i \/ i + m <= j -> a' j = a j) /\ valN (fun j => a' (i + j)) m + gs * valN zy m = valN (fun j => a (i + j)) m + (c + bo) * bq ^ m) := ⟨hD, ha', hval⟩
         clear hD ha' hval hD'
         obtain ⟨au, hau⟩ : ∃ u, u = a' (i + m) := ⟨_, rfl⟩
         have haul : au < bq := by rw [hau]; exact AJ.out.1.la' _
         have AA : Aside (au = a' (i + m)) := hau
         rw [<- hau] at g1
         clear hau
         have hw20 : wrap64 (wrap64 (wrap64 (au : Int) - wrap64 (c : Int)) - (bo : Int)) = (au : Int) - (c : Int) - (bo : Int) := v_start haul hc hbo
         go_wp2
         have AB : Aside (((valN (fun j => a' (i + j)) m : Nat) : Int) + ((au : Int) - (c : Int) - (bo : Int)) * ((bq ^ m : Nat) : Int) = ((valN (fun j => a (i + j)) (m + 1) : Nat) : Int) - ((gs * valN zy m : Nat) : Int) /\ valN (fun j => a (i + j)) (m + 1) < (gs + 1) * valN zy m) := by
          have h1 := back_start AJ.out.2.2
          rw [<- AJ.out.2.1 (i + m) (.inr (Nat.le_refl _)), <- AA.out] at h1
          refine ⟨h1, back_guess hly AI.out.1.la' hzp ?_ AI.out.2.2.2.2⟩
          rw [<- AU.out.1, <- AU.out.2.1, <- AU.out.2.2]
          exact AG.out
         have AV := v_bounds haul hc hbo
         clear hc hbo
         go_loopg [15, 20] gs (fun g s15 s20 wi => ∃ (a2 : Nat -> Nat) (v : Int), s15 = .int .u64 (g : Int) /\ s20 = .int .i64 v /\ g <= gs /\ -8589934592 <= v /\ v <= 4294967296 /\ DivS w wi ga gb gq (lq + m) m lq a2 zy q /\ (∀ j, j < i \/ i + m <= j -> a2 j = a j) /\
          ((valN (fun j => a2 (i + j)) m : Nat) : Int) + v * ((bq ^ m : Nat) : Int) = ((valN (fun j => a (i + j)) (m + 1) : Nat) : Int) - ((g * valN zy m : Nat) : Int) /\ valN (fun j => a (i + j)) (m + 1) < (g + 1) * valN zy m)
         case atStart => exact ⟨a', _, rfl, rfl, Nat.le_refl _, AV.1, AV.2, AJ.out.1, AJ.out.2.1, AB.out⟩
         case round =>
          clear AJ AA g1 hw20 AB AV
          obtain ⟨a2, v, rfl, rfl, hgg, hv1, hv2, hD, ha2, hval, hWlt⟩ := hrel
          have AK : Aside (DivS w wr ga gb gq (lq + m) m lq a2 zy q /\ (∀ j, j < i \/ i + m <= j -> a2 j = a j) /\ ((valN (fun j => a2 (i + j)) m : Nat) : Int) + v * ((bq ^ m : Nat) : Int) = ((valN (fun j => a (i + j)) (m + 1) : Nat) : Int) - ((gk * valN zy m : Nat) : Int) /\ valN (fun j => a (i + j)) (m + 1) < (gk + 1) * valN zy m) := ⟨hD, ha2, hval, hWlt⟩
          by_cases hvn : v < 0
          ·have hgk := back_neg hval hvn (valN_lt fun j _ => hD.la' _)
           have hgk1 := hgk.1
           have hgw : IntKind.u64.wrap ((gk : Int) - 1) = ((gk - 1 : Nat) : Int) := dec_wrap hgk1 (Nat.lt_of_le_of_lt hgg hgsl)
           have AN : Aside (valN (fun j => a (i + j)) (m + 1) < gk * valN zy m) := hgk.2
           clear hgk
           clear hD ha2 hval hWlt
           go_wp2
           go_loopg [21, 22] m (fun g s21 s22 wi => ∃ (c t : Nat) (a3 : Nat -> Nat), t <= m /\ g = m - t /\ s21 = .int .u64 c /\ s22 = .int .i64 t /\ c <= 1 /\ DivS w wi ga gb gq (lq + m) m lq a3 zy q /\ (∀ j, j < i \/ i + t <= j -> a3 j = a2 j) /\ valN (fun j => a3 (i + j)) t + c * bq ^ t = valN (fun j => a2 (i + j)) t + valN zy t)
           case atStart => exact ⟨0, 0, a2, Nat.zero_le _, rfl, rfl, rfl, Nat.zero_le _, AK.out.1, fun _ _ => rfl, by simp [valN]⟩
           case round =>
            obtain ⟨c, t, a3, ht, rfl, rfl, rfl, hc, hD, ha3, hval⟩ := hrel
            by_cases htm : t < m
            ·have htmz : (t : Int) < (m : Int) := by omega
             have hitz : (i : Int) + (t : Int) < (lq : Int) + (m : Int) := by omega
             have g1 : wr.cell? ⟨gb, t, none⟩ = some (.int .u32 (zy t : Int)) := hD.rb.cell htm
             have g2 : wr.cell? ⟨ga, i + t, none⟩ = some (.int .u32 (a3 (i + t) : Int)) := hD.ra.cell (by omega)
             have g3 : wr.frozen? ⟨ga, i + t, none⟩ = false := hD.ra.frozen _
             have AL : Aside (DivS w wr ga gb gq (lq + m) m lq a3 zy q /\ (∀ j, j < i \/ i + t <= j -> a3 j = a2 j) /\ valN (fun j => a3 (i + j)) t + c * bq ^ t = valN (fun j => a2 (i + j)) t + valN zy t) := ⟨hD, ha3, hval⟩
             clear hD ha3 hval
             go_wp2
             go_quiet (fail)
             go_wp2
             go_roundg (m - (t + 1))
             case measure => go_light; omega
             case rel =>
              go_light
              obtain ⟨hD, ha3, hval⟩ := AL.out
              have hal := hD.la' (i + t)
              have hzt := hzy t
              rw [back_wrap hc hal hzt, nat_div_bq, nat_mod_bq]
              refine ⟨_, t + 1, _, by omega, rfl, rfl, rfl, back_carry hc hal hzt, (hD.drewN _).setA (mod_bq_lt _), fun j hj => ?_, back_in hval (ha3 _ (.inr (Nat.le_refl _)))⟩
              rw [upd_other _ (by omega)]; exact ha3 j (by omega)
            ·obtain rfl : t = m := by omega
             have htmz : ¬ (t : Int) < (t : Int) := by omega
             have AL : Aside (DivS w wr ga gb gq (lq + t) t lq a3 zy q /\ (∀ j, j < i \/ i + t <= j -> a3 j = a2 j) /\ valN (fun j => a3 (i + j)) t + c * bq ^ t = valN (fun j => a2 (i + j)) t + valN zy t) := ⟨hD, ha3, hval⟩
             clear hD ha3 hval
             have hw64 : wrap64 (v + wrap64 (c : Int)) = v + (c : Int) := v_step hv1 hv2 hc
             go_wp2
             go_roundg (gk - 1)
             case measure => go_light; omega
             case rel =>
              go_light
              obtain ⟨hD, ha3, hval⟩ := AL.out
              obtain ⟨_, ha2, hval2, _⟩ := AK.out
              refine ⟨a3, _, rfl, rfl, by omega, by omega, by omega, hD, fun j hj => by rw [ha3 j hj, ha2 j hj], back_next hval2 hgk1 hval, ?_⟩
              rw [Nat.sub_add_cancel hgk1]
              exact AN.out
          ·have g2 : wr.frozen? ⟨ga, i + m, none⟩ = false := hD.ra.frozen _
           have g1 : wr.cell? ⟨ga, i + m, none⟩ = some (.int .u32 (a2 (i + m) : Int)) := hD.ra.cell (by omega)
           have g3 : ∀ x, (wr.setCell ⟨ga, i + m, none⟩ x).cell? ⟨gq, i, none⟩ = some (.int .u32 (q i : Int)) := fun x => by
            rw [World.cell?_setCell_other _ _ _ _ (fun e => hD.naq (congrArg Addr.block e).symm)]
            exact hD.rq.cell (by omega)
           have g4 : ∀ x, (wr.setCell ⟨ga, i + m, none⟩ x).frozen? ⟨gq, i, none⟩ = false := fun x => by
            have := hD.rq.frozen i
            simpa using this
           have hiq : (i : Int) < (lq : Int) := by omega
           clear hD ha2 hval hWlt
           go_wp2
           go_roundg i
           case measure => go_light; omega
           case rel =>
            go_light
            obtain ⟨hD, ha2, hval, hWlt⟩ := AK.out
            obtain ⟨hDI, ha0, hq0, hsum, _⟩ := AI.out
            obtain ⟨hv0, hs1, hs2⟩ := div_final (v := v) (gk := gk) hg hDI.la' ha2 hzy (by omega) hq0 hsum hval hWlt
            subst hv0
            rw [small_em (Nat.lt_of_le_of_lt hgg hgsl)]
            refine ⟨_, _, by omega, rfl, (hD.setA (i := i + m) (v := 0) bq_pos).setQ (i := i) (Nat.lt_of_le_of_lt hgg hgsl), fun j h1 h2 => ?_, fun j hj => ?_, ?_, ?_⟩
            ·by_cases e : j = i + m
             ·rw [e, upd_same]
             ·rw [upd_other _ e, ha2 j (.inr h1)]; exact ha0 j (by omega) h2
            ·rw [upd_other _ (by omega)]; exact hq0 j (by omega)
            ·rw [valN_congr (l := i + m) (a := upd a2 (i + m) 0) (b := a2) (fun j hj => upd_other _ (by omega))]; exact hs1
            ·rw [valN_congr (l := i + m) (a := upd a2 (i + m) 0) (b := a2) (fun j hj => upd_other _ (by omega))]; exact hs2
end Go.Eng
