/-
 Plain laws of digits to the base 2^32, and contracts of the reference package spec over natural numbers.
-/
set_option linter.unusedVariables false
set_option linter.unusedSimpArgs false
namespace Go.Eng
def bq : Nat := 4294967296
theorem bq_pos : 0 < bq := by decide
theorem bqp_pos (n : Nat) : 0 < bq ^ n := Nat.pow_pos bq_pos
def valN (d : Nat -> Nat) : Nat -> Nat
 | 0 => 0
 | n + 1 => valN d n + d n * bq ^ n
def dg (N j : Nat) : Nat := N / bq ^ j % bq
def nlen (N : Nat) : Nat := if N = 0 then 0 else N.log2 / 32 + 1
theorem dg_lt (N j : Nat) : dg N j < bq := Nat.mod_lt _ bq_pos
theorem bq_pow (n : Nat) : bq ^ n = 2 ^ (32 * n) := by
 rw [show bq = 2 ^ 32 from rfl, <- Nat.pow_mul]
theorem nlen_le {N l : Nat} (h : N < bq ^ l) : nlen N <= l := by
 unfold nlen
 split
 ·omega
 ·rename_i h0
  rw [bq_pow] at h
  have := (Nat.log2_lt h0).2 h
  omega
theorem lt_nlen (N : Nat) : N < bq ^ nlen N := by
 unfold nlen
 split
 ·rename_i h; rw [h]; exact Nat.one_pos
 ·rename_i h0
  rw [bq_pow]
  refine (Nat.log2_lt h0).1 ?_
  omega
theorem nlen_pos {N : Nat} (h : N ≠ 0) : 0 < nlen N := by unfold nlen; rw [if_neg h]; omega
theorem nlen_zero : nlen 0 = 0 := rfl
theorem nlen_eq_zero {N : Nat} : nlen N = 0 ↔ N = 0 :=
 ⟨fun h => Decidable.byContradiction fun h0 => by have := nlen_pos h0; omega, fun h => by rw [h]; rfl⟩
theorem pow_le_of_lt_nlen {N l : Nat} (h : l < nlen N) : bq ^ l <= N :=
 Decidable.byContradiction fun h0 => by have := nlen_le (Nat.lt_of_not_le h0); omega
theorem lt_iff_nlen {N l : Nat} : N < bq ^ l ↔ nlen N <= l :=
 ⟨nlen_le, fun h => Nat.lt_of_lt_of_le (lt_nlen N) (Nat.pow_le_pow_right bq_pos h)⟩
theorem nlen_mono {M N : Nat} (h : M <= N) : nlen M <= nlen N := nlen_le (Nat.lt_of_le_of_lt h (lt_nlen N))
theorem valN_dg (N l : Nat) : valN (dg N) l = N % bq ^ l := by
 induction l with
 | zero => simp [valN, Nat.mod_one]
 | succ n ih =>
   rw [valN, ih, dg, Nat.mod_pow_succ, Nat.mul_comm]
theorem valN_dg_all (N : Nat) : valN (dg N) (nlen N) = N := by rw [valN_dg, Nat.mod_eq_of_lt (lt_nlen N)]
theorem valN_lt {z : Nat -> Nat} : ∀ {l : Nat}, (∀ j, j < l -> z j < bq) -> valN z l < bq ^ l
 | 0, _ => by simp [valN]
 | n + 1, h => by
   have h1 := valN_lt (l := n) fun j hj => h j (by omega)
   have h2 := h n (by omega)
   rw [valN, Nat.pow_succ]
   have h3 : z n * bq ^ n + bq ^ n <= bq * bq ^ n := by
    rw [<- Nat.succ_mul]; exact Nat.mul_le_mul_right _ h2
   rw [Nat.mul_comm (bq ^ n)]
   omega
theorem valN_congr {a b : Nat -> Nat} : ∀ {l : Nat}, (∀ j, j < l -> a j = b j) -> valN a l = valN b l
 | 0, _ => rfl
 | n + 1, h => by rw [valN, valN, valN_congr fun j hj => h j (by omega), h n (by omega)]
theorem dg_valN {z : Nat -> Nat} : ∀ {l : Nat}, (∀ j, j < l -> z j < bq) -> ∀ j, j < l -> dg (valN z l) j = z j
 | 0, _, j, hj => by omega
 | n + 1, h, j, hj => by
   have h1 := valN_lt (l := n) fun j hj => h j (by omega)
   rw [valN]
   by_cases hjn : j = n
   ·subst hjn
    rw [dg, Nat.add_mul_div_right _ _ (bqp_pos _), Nat.div_eq_of_lt h1, Nat.zero_add, Nat.mod_eq_of_lt (h j (by omega))]
   ·have hlt : j < n := by omega
    rw [<- dg_valN (l := n) (fun j hj => h j (by omega)) j hlt]
    obtain ⟨t, rfl⟩ : ∃ t, n = j + 1 + t := ⟨n - (j + 1), by omega⟩
    unfold dg
    rw [show z (j + 1 + t) * bq ^ (j + 1 + t) = (z (j + 1 + t) * bq ^ t * bq) * bq ^ j by
     rw [Nat.pow_add, Nat.pow_succ, Nat.mul_comm (bq ^ j * bq), <- Nat.mul_assoc, <- Nat.mul_assoc, Nat.mul_assoc (z (j + 1 + t) * bq ^ t), Nat.mul_comm (bq ^ j) bq, <- Nat.mul_assoc]]
    rw [Nat.add_mul_div_right _ _ (bqp_pos _), Nat.add_mul_mod_self_right]
def tlen (d : Nat -> Nat) : Nat -> Nat
 | 0 => 0
 | n + 1 => if d n = 0 then tlen d n else n + 1
theorem tlen_eq {z : Nat -> Nat} : ∀ {l : Nat}, (∀ j, j < l -> z j < bq) -> tlen z l = nlen (valN z l)
 | 0, _ => rfl
 | n + 1, h => by
   rw [tlen]
   by_cases h0 : z n = 0
   ·rw [if_pos h0, tlen_eq fun j hj => h j (by omega), valN, h0, Nat.zero_mul, Nat.add_zero]
   ·rw [if_neg h0]
    refine Nat.le_antisymm ?_ (nlen_le (valN_lt h))
    refine Nat.not_lt.1 fun hlt => ?_
    have h1 : valN z (n + 1) < bq ^ n := lt_iff_nlen.2 (by omega)
    rw [valN] at h1
    have : 1 * bq ^ n <= z n * bq ^ n := Nat.mul_le_mul_right _ (by omega)
    omega
theorem tlen_le (z : Nat -> Nat) : ∀ l, tlen z l <= l
 | 0 => Nat.le_refl _
 | n + 1 => by rw [tlen]; split; exact Nat.le_succ_of_le (tlen_le z n); exact Nat.le_refl _
theorem valN_zero {z : Nat -> Nat} : ∀ {l : Nat}, (∀ j, j < l -> z j = 0) -> valN z l = 0
 | 0, _ => rfl
 | n + 1, h => by rw [valN, valN_zero fun j hj => h j (by omega), h n (by omega), Nat.zero_mul]
theorem valN_set (z : Nat -> Nat) (i v : Nat) : ∀ {l : Nat}, i < l -> valN (fun j => if j = i then v else z j) l + z i * bq ^ i = valN z l + v * bq ^ i
 | 0, h => by omega
 | n + 1, h => by
   by_cases e : i = n
   ·subst e
    rw [valN, valN, if_pos rfl, valN_congr (l := i) (a := fun j => if j = i then v else z j) (b := z) fun j hj => if_neg (by omega)]
    omega
   ·have ih := valN_set z i v (l := n) (by omega)
    rw [valN, valN, if_neg (fun h => e h.symm)]
    omega
theorem valN_top (z : Nat -> Nat) {m : Nat} : ∀ {l : Nat}, m <= l -> (∀ j, m <= j -> j < l -> z j = 0) -> valN z l = valN z m
 | 0, h, _ => by rw [Nat.le_zero.1 h]
 | n + 1, h, hz => by
   by_cases e : m = n + 1
   ·rw [e]
   ·rw [valN, valN_top z (m := m) (l := n) (by omega) (fun j h1 h2 => hz j h1 (by omega)), hz n (by omega) (by omega), Nat.zero_mul, Nat.add_zero]
theorem dg_zero_of_le {N j : Nat} (h : nlen N <= j) : dg N j = 0 := by
 rw [dg, Nat.div_eq_of_lt (lt_iff_nlen.2 h), Nat.zero_mod]
theorem dg_top {N : Nat} (h : N ≠ 0) : dg N (nlen N - 1) ≠ 0 := by
 have hp := nlen_pos h
 have h1 := pow_le_of_lt_nlen (N := N) (l := nlen N - 1) (by omega)
 have h2 : N / bq ^ (nlen N - 1) < bq := by
  rw [Nat.div_lt_iff_lt_mul (bqp_pos _), <- Nat.pow_succ', Nat.succ_eq_add_one, show nlen N - 1 + 1 = nlen N by omega]
  exact lt_nlen N
 rw [dg, Nat.mod_eq_of_lt h2]
 have := Nat.div_pos h1 (bqp_pos _)
 omega
end Go.Eng
namespace Go.Eng
def upd (z : Nat -> Nat) (i v : Nat) : Nat -> Nat := fun j => if j = i then v else z j
theorem upd_same (z : Nat -> Nat) (i v : Nat) : upd z i v i = v := if_pos rfl
theorem upd_other (z : Nat -> Nat) {i v j : Nat} (h : j ≠ i) : upd z i v j = z j := if_neg h
theorem upd_lt {z : Nat -> Nat} {i v : Nat} (h : ∀ j, z j < bq) (hv : v < bq) : ∀ j, upd z i v j < bq := fun j => by
 unfold upd; split
 ·exact hv
 ·exact h j
theorem mod_bq_lt (t : Nat) : t % bq < bq := Nat.mod_lt _ bq_pos
theorem mul_in {z : Nat -> Nat} {L i cr ab T : Nat} (hi : i < L) (h : valN z L + cr * bq ^ i = T) :
  valN (upd z i ((cr + (z i + ab)) % bq)) L + (cr + (z i + ab)) / bq * bq ^ (i + 1) = T + ab * bq ^ i := by
 have h1 : valN (upd z i ((cr + (z i + ab)) % bq)) L + z i * bq ^ i = valN z L + (cr + (z i + ab)) % bq * bq ^ i := valN_set z i _ hi
 have h2 := congrArg (· * bq ^ i) (Nat.div_add_mod (cr + (z i + ab)) bq)
 simp only [Nat.add_mul] at h2
 generalize hq : (cr + (z i + ab)) / bq = q at *
 generalize hr : (cr + (z i + ab)) % bq = r at *
 have h3 : q * bq ^ (i + 1) = bq * q * bq ^ i := by rw [Nat.pow_succ, Nat.mul_comm (bq ^ i), <- Nat.mul_assoc, Nat.mul_comm q]
 rw [h3]
 omega
theorem mul_end {z : Nat -> Nat} {L i cr T : Nat} (hi : i < L) (hz : z i = 0) (h : valN z L + cr * bq ^ i = T) : valN (upd z i cr) L = T := by
 have h1 : valN (upd z i cr) L + z i * bq ^ i = valN z L + cr * bq ^ i := valN_set z i _ hi
 rw [hz] at h1
 omega
theorem mul_carry {cr z a b : Nat} (h1 : cr < bq) (h2 : z < bq) (h3 : a < bq) (h4 : b < bq) : cr + (z + a * b) < bq * bq := by
 have h5 : a * b <= (bq - 1) * (bq - 1) := Nat.mul_le_mul (by omega) (by omega)
 have h6 : (bq - 1) * (bq - 1) + (bq - 1) + (bq - 1) + 1 = bq * bq := by decide
 omega
theorem div_bq_lt {t : Nat} (h : t < bq * bq) : t / bq < bq := Nat.div_lt_of_lt_mul h
theorem add_in {z : Nat -> Nat} {i cr t T : Nat} (h : valN z i + cr * bq ^ i = T) (d : Nat) (ht : t = cr + d) :
  valN (upd z i (t % bq)) (i + 1) + t / bq * bq ^ (i + 1) = T + d * bq ^ i := by
 rw [valN, upd_same, valN_congr (l := i) (a := upd z i (t % bq)) (b := z) fun j hj => upd_other z (by omega)]
 have h2 := congrArg (· * bq ^ i) (Nat.div_add_mod t bq)
 rw [ht] at h2
 simp only [Nat.add_mul] at h2
 rw [<- ht] at h2
 have h3 : t / bq * bq ^ (i + 1) = bq * (t / bq) * bq ^ i := by rw [Nat.pow_succ, Nat.mul_comm (bq ^ i), <- Nat.mul_assoc, Nat.mul_comm (t / bq)]
 rw [h3]
 omega
theorem sub_in {z : Nat -> Nat} {i bw x y n A B : Nat} (h : valN z i + B = A + bw * bq ^ i) (hbw : bw <= 1) (hx : x < bq) (hy : y < bq) (hn : n + bw + y = x + bq) :
  valN (upd z i (n % bq)) (i + 1) + (B + y * bq ^ i) = A + x * bq ^ i + (1 - n / bq) * bq ^ (i + 1) /\ 1 - n / bq <= 1 := by
 refine ⟨?_, Nat.sub_le _ _⟩
 rw [valN, upd_same, valN_congr (l := i) (a := upd z i (n % bq)) (b := z) fun j hj => upd_other z (by omega)]
 have h1 : n % bq + bw + y = x + (1 - n / bq) * bq := by
  have := Nat.div_add_mod n bq
  have h5 : n / bq < 2 := Nat.div_lt_of_lt_mul (by omega)
  generalize n / bq = q at *
  generalize n % bq = r at *
  rcases (by omega : q = 0 \/ q = 1) with e | e <;> subst e <;> omega
 have h2 := congrArg (· * bq ^ i) h1
 simp only [Nat.add_mul] at h2
 have h3 : (1 - n / bq) * bq ^ (i + 1) = (1 - n / bq) * bq * bq ^ i := by rw [Nat.pow_succ, Nat.mul_comm (bq ^ i), <- Nat.mul_assoc]
 rw [h3]
 omega
theorem rest_in {X i y : Nat} (hy : 0 < y) (_hyb : y <= bq) : (X / bq ^ (i + 1) % y * bq + dg X i) / y = dg (X / y) i /\ (X / bq ^ (i + 1) % y * bq + dg X i) % y = X / bq ^ i % y := by
 have e1 : X / bq ^ i = X / bq ^ (i + 1) * bq + dg X i := by
  rw [dg, Nat.pow_succ, <- Nat.div_div_eq_div_mul]
  have := Nat.div_add_mod (X / bq ^ i) bq
  rw [Nat.mul_comm] at this
  exact this.symm
 generalize hH : X / bq ^ (i + 1) = H at *
 have e2 : X / bq ^ i = (H % y * bq + dg X i) + y * (H / y * bq) := by
  rw [e1]
  have := congrArg (· * bq) (Nat.div_add_mod H y)
  simp only [Nat.add_mul, Nat.mul_assoc] at this
  omega
 have hr : H % y < y := Nat.mod_lt _ hy
 have hd := dg_lt X i
 have hlt : (H % y * bq + dg X i) / y < bq := by
  refine Nat.div_lt_of_lt_mul ?_
  have : (H % y + 1) * bq <= y * bq := Nat.mul_le_mul_right _ hr
  rw [Nat.add_mul] at this
  omega
 refine ⟨?_, ?_⟩
 ·have e3 : X / y / bq ^ i = X / bq ^ i / y := by rw [Nat.div_div_eq_div_mul, Nat.div_div_eq_div_mul, Nat.mul_comm]
  show _ = X / y / bq ^ i % bq
  rw [e3, e2, Nat.add_mul_div_left _ _ hy, Nat.add_mul_mod_self_right, Nat.mod_eq_of_lt hlt]
 ·rw [e2, Nat.add_mul_mod_self_left]
theorem down_in {X i n : Nat} (hn : n <= 32) : (dg X i + dg X (i + 1) * bq) / 2 ^ n % bq = dg (X / 2 ^ n) i := by
 have hp : 0 < 2 ^ n := Nat.pow_pos (by decide)
 obtain ⟨k, hk⟩ : ∃ k, bq = 2 ^ n * k := ⟨2 ^ (32 - n), by rw [<- Nat.pow_add, show n + (32 - n) = 32 by omega]; rfl⟩
 have e1 : X / bq ^ i = X / bq ^ i / bq / bq * bq * bq + (dg X i + dg X (i + 1) * bq) := by
  have h1 := Nat.div_add_mod (X / bq ^ i) bq
  have h2 := Nat.div_add_mod (X / bq ^ i / bq) bq
  have h3 : dg X (i + 1) = X / bq ^ i / bq % bq := by rw [dg, Nat.pow_succ, <- Nat.div_div_eq_div_mul]
  rw [h3, dg]
  have h4 := congrArg (· * bq) h2
  simp only [Nat.add_mul] at h4
  rw [Nat.mul_comm bq (X / bq ^ i / bq / bq)] at h4
  rw [Nat.mul_comm bq (X / bq ^ i / bq)] at h1
  omega
 show _ = X / 2 ^ n / bq ^ i % bq
 have e3 : X / 2 ^ n / bq ^ i = X / bq ^ i / 2 ^ n := by rw [Nat.div_div_eq_div_mul, Nat.div_div_eq_div_mul, Nat.mul_comm]
 rw [e3, e1]
 generalize X / bq ^ i / bq / bq = m
 generalize dg X i + dg X (i + 1) * bq = u
 have e4 : m * bq * bq + u = u + 2 ^ n * (m * bq * k) := by
  rw [Nat.add_comm]
  congr 1
  rw [show m * bq * bq = m * bq * (2 ^ n * k) from congrArg (m * bq * ·) hk, Nat.mul_left_comm]
 rw [e4, Nat.add_mul_div_left _ _ hp, show m * bq * k = m * k * bq by rw [Nat.mul_assoc, Nat.mul_comm bq, <- Nat.mul_assoc], Nat.add_mul_mod_self_right]
theorem up_in {z : Nat -> Nat} {i n x V : Nat} (hn : n <= 32) (hx : x < bq) (hz : z i < 2 ^ n) (h : valN z (i + 1) = V) :
  (z i ||| (x * 2 ^ n) % bq) = z i + (x * 2 ^ n) % bq /\ x * 2 ^ n / bq < 2 ^ n /\ z i + (x * 2 ^ n) % bq < bq /\
  valN (upd (upd z i (z i + (x * 2 ^ n) % bq)) (i + 1) (x * 2 ^ n / bq)) (i + 2) = V + x * 2 ^ n * bq ^ i := by
 have hp : 0 < 2 ^ n := Nat.pow_pos (by decide)
 obtain ⟨k, hk⟩ : ∃ k, bq = 2 ^ n * k := ⟨2 ^ (32 - n), by rw [<- Nat.pow_add, show n + (32 - n) = 32 by omega]; rfl⟩
 have hlo : (x * 2 ^ n) % bq = 2 ^ n * (x % k) := by rw [hk, Nat.mul_comm x, Nat.mul_mod_mul_left]
 have hkp : 0 < k := Nat.pos_of_ne_zero fun h0 => by rw [h0, Nat.mul_zero] at hk; exact absurd hk (by decide)
 refine ⟨?_, ?_, ?_, ?_⟩
 ·rw [hlo, Nat.or_comm, Nat.add_comm, Nat.mul_comm, <- Nat.shiftLeft_eq, Nat.shiftLeft_add_eq_or_of_lt hz]
 ·refine Nat.div_lt_of_lt_mul ?_
  exact Nat.mul_lt_mul_of_pos_right hx hp
 ·rw [hlo]
  have : x % k < k := Nat.mod_lt _ hkp
  have h5 : 2 ^ n * (x % k + 1) <= 2 ^ n * k := Nat.mul_le_mul_left _ this
  rw [Nat.mul_add, <- hk] at h5
  omega
 ·rw [valN, upd_same, valN, upd_other _ (by omega), upd_same, valN_congr (l := i) (a := upd (upd z i (z i + (x * 2 ^ n) % bq)) (i + 1) (x * 2 ^ n / bq)) (b := z) fun j hj => by rw [upd_other _ (by omega), upd_other _ (by omega)]]
  rw [valN] at h
  have h2 := congrArg (· * bq ^ i) (Nat.div_add_mod (x * 2 ^ n) bq)
  simp only [Nat.add_mul] at h2
  have h3 : x * 2 ^ n / bq * bq ^ (i + 1) = bq * (x * 2 ^ n / bq) * bq ^ i := by rw [Nat.pow_succ, Nat.mul_comm (bq ^ i), <- Nat.mul_assoc, Nat.mul_comm (x * 2 ^ n / bq)]
  rw [h3, Nat.add_mul]
  omega
end Go.Eng
namespace Go.Eng
theorem valN_split (a : Nat -> Nat) (i : Nat) : ∀ m, valN a (i + m) = valN a i + bq ^ i * valN (fun j => a (i + j)) m
 | 0 => by simp [valN]
 | m + 1 => by
   rw [<- Nat.add_assoc, valN, valN_split a i m, valN, Nat.pow_add, Nat.mul_add, Nat.add_assoc]
   congr 2
   rw [Nat.mul_comm (bq ^ i) (a (i + m) * bq ^ m), Nat.mul_assoc, Nat.mul_comm (bq ^ m)]
theorem guess_ge {u b : Nat -> Nat} {n : Nat} (hb : 0 < b n) (hu : ∀ j, j <= n + 1 -> u j < bq) (hW : valN u (n + 2) < valN b (n + 1) * bq) :
  valN u (n + 2) < (min ((u (n + 1) * bq + u n) / b n) (bq - 1) + 1) * valN b (n + 1) := by
 have hB : 0 < valN b (n + 1) := by
  rw [valN]
  have := Nat.mul_pos hb (bqp_pos n)
  omega
 rcases Nat.le_total ((u (n + 1) * bq + u n) / b n) (bq - 1) with h | h
 ·rw [Nat.min_eq_left h]
  have h1 : valN u (n + 2) < (u (n + 1) * bq + u n + 1) * bq ^ n := by
   rw [valN, valN]
   have := valN_lt (z := u) (l := n) fun j hj => hu j (by omega)
   have e : u (n + 1) * bq ^ (n + 1) = u (n + 1) * bq * bq ^ n := by rw [Nat.pow_succ, Nat.mul_comm (bq ^ n), <- Nat.mul_assoc]
   rw [e]
   simp only [Nat.add_mul, Nat.one_mul]
   omega
  have h2 : u (n + 1) * bq + u n + 1 <= ((u (n + 1) * bq + u n) / b n + 1) * b n := by
   have := Nat.lt_mul_div_succ (u (n + 1) * bq + u n) hb
   rw [Nat.mul_comm (b n)] at this
   omega
  refine Nat.lt_of_lt_of_le h1 ?_
  refine Nat.le_trans (Nat.mul_le_mul_right _ h2) ?_
  rw [Nat.mul_assoc]
  refine Nat.mul_le_mul_left _ ?_
  rw [valN]
  omega
 ·rw [Nat.min_eq_right h, show bq - 1 + 1 = bq from rfl, Nat.mul_comm]
  exact hW
theorem dm_in {L L0 Bk P c w ak bk g v : Nat} (h : L + g * Bk = L0 + (c + w) * P) (hw : w <= 1) (ha : ak < bq) (hv : v + w + (c + g * bk) % bq = ak + bq) :
  (L + v % bq * P) + g * (Bk + bk * P) = (L0 + ak * P) + ((c + g * bk) / bq + (1 - v / bq)) * (P * bq) /\ 1 - v / bq <= 1 := by
 refine ⟨?_, Nat.sub_le _ _⟩
 have ht := Nat.div_add_mod (c + g * bk) bq
 have hm := mod_bq_lt (c + g * bk)
 generalize (c + g * bk) % bq = r at *
 generalize (c + g * bk) / bq = q at *
 have h1 : v % bq + w + r = ak + (1 - v / bq) * bq := by
  have := Nat.div_add_mod v bq
  have h5 : v / bq < 2 := Nat.div_lt_of_lt_mul (by omega)
  generalize v / bq = y at *
  generalize v % bq = x at *
  rcases (by omega : y = 0 \/ y = 1) with e | e <;> subst e <;> omega
 generalize v % bq = d at *
 generalize 1 - v / bq = w' at *
 have h2 := congrArg (· * P) h1
 have h3 := congrArg (· * P) ht
 simp only [Nat.add_mul] at h2 h3 h
 simp only [Nat.add_mul, Nat.mul_add]
 have e1 : q * (P * bq) = bq * q * P := by rw [Nat.mul_comm P, <- Nat.mul_assoc, Nat.mul_comm q]
 have e2 : w' * (P * bq) = w' * bq * P := by rw [Nat.mul_comm P, <- Nat.mul_assoc]
 have e3 : g * (bk * P) = g * bk * P := by rw [Nat.mul_assoc]
 rw [e1, e2, e3]
 omega
theorem fin_v {low W g B p : Nat} {v : Int} (h : (low : Int) + v * p = W - (g * B : Nat)) (hv : 0 <= v) (hW : W < (g + 1) * B) (hB : B <= p) : v = 0 /\ low + g * B = W := by
 have hz : v = 0 := by
  rcases Int.lt_or_eq_of_le hv with h0 | h0
  ·have h1 : (1 : Int) * p <= v * p := Int.mul_le_mul_of_nonneg_right h0 (Int.natCast_nonneg p)
   rw [Nat.add_mul] at hW
   omega
  ·exact h0.symm
 subst hz
 omega
theorem div_round {a a' b q : Nat -> Nat} {i n g A lq : Nat} (hi : i < lq) (ha : ∀ j, j < i -> a j < bq) (hlow : ∀ j, j < i -> a' j = a j) (hq : q i = 0)
  (h2 : valN q lq * valN b n + valN a (i + (n + 1)) = A) (hw : valN (fun j => a' (i + j)) n + g * valN b n = valN (fun j => a (i + j)) (n + 1)) (hg : valN (fun j => a (i + j)) (n + 1) < (g + 1) * valN b n) :
  valN (upd q i g) lq * valN b n + valN a' (i + n) = A /\ valN a' (i + n) < valN b n * bq ^ i := by
 have h3 : valN (upd q i g) lq + q i * bq ^ i = valN q lq + g * bq ^ i := valN_set q i g hi
 rw [hq, Nat.zero_mul, Nat.add_zero] at h3
 have e0 : valN a' i = valN a i := valN_congr hlow
 rw [valN_split a' i n, e0]
 rw [valN_split a i (n + 1)] at h2
 have hl := valN_lt (z := a) (l := i) ha
 generalize valN a i = u at *
 generalize valN (fun j => a' (i + j)) n = x at *
 generalize valN (fun j => a (i + j)) (n + 1) = W at *
 generalize valN b n = B at *
 generalize bq ^ i = P at *
 rw [h3]
 have e1 := congrArg (P * ·) hw
 simp only [Nat.mul_add] at e1
 refine ⟨?_, ?_⟩
 ·rw [Nat.add_mul]
  have e2 : g * P * B = P * (g * B) := by rw [Nat.mul_comm g P, Nat.mul_assoc]
  rw [e2]
  omega
 ·rw [Nat.add_mul, Nat.one_mul] at hg
  have : P * (x + 1) <= P * B := Nat.mul_le_mul_left _ (by omega)
  rw [Nat.mul_add, Nat.mul_one] at this
  rw [Nat.mul_comm B P]
  omega
theorem div_start {a b : Nat -> Nat} {i n : Nat} (h1 : valN a (i + (n + 1)) < valN b n * bq ^ (i + 1)) : valN (fun j => a (i + j)) (n + 1) < valN b n * bq := by
 rw [valN_split a i (n + 1)] at h1
 refine Nat.lt_of_mul_lt_mul_left (a := bq ^ i) ?_
 rw [Nat.pow_succ] at h1
 have e : bq ^ i * (valN b n * bq) = valN b n * (bq ^ i * bq) := by rw [<- Nat.mul_assoc, Nat.mul_comm (bq ^ i), Nat.mul_assoc]
 rw [e]
 omega
end Go.Eng
namespace Go.Eng
theorem win_upd (a : Nat -> Nat) (i m v k : Nat) (h : k <= m) : valN (fun j => upd a (i + m) v (i + j)) k = valN (fun j => a (i + j)) k :=
 valN_congr fun j hj => upd_other _ (by omega)
theorem win_upd_succ (a : Nat -> Nat) (i m v : Nat) : valN (fun j => upd a (i + m) v (i + j)) (m + 1) = valN (fun j => a (i + j)) m + v * bq ^ m := by
 rw [valN, win_upd a i m v m (Nat.le_refl _)]
 simp only [upd_same]
theorem back_start {a a' zy : Nat -> Nat} {i m c bo gs : Nat} (hJ : valN (fun j => a' (i + j)) m + gs * valN zy m = valN (fun j => a (i + j)) m + (c + bo) * bq ^ m) :
  ((valN (fun j => a' (i + j)) m : Nat) : Int) + ((a (i + m) : Int) - (c : Int) - (bo : Int)) * ((bq ^ m : Nat) : Int) = ((valN (fun j => a (i + j)) (m + 1) : Nat) : Int) - ((gs * valN zy m : Nat) : Int) := by
 rw [valN]
 generalize valN (fun j => a' (i + j)) m = L' at *
 generalize gs * valN zy m = G at *
 generalize valN (fun j => a (i + j)) m = L at *
 generalize bq ^ m = P at *
 rw [Int.natCast_add, Int.natCast_mul, Int.sub_mul, Int.sub_mul]
 rw [Nat.add_mul] at hJ
 have h1 : ((c * P : Nat) : Int) = (c : Int) * (P : Int) := Int.natCast_mul _ _
 have h2 : ((bo * P : Nat) : Int) = (bo : Int) * (P : Int) := Int.natCast_mul _ _
 omega
theorem back_guess {a zy : Nat -> Nat} {i m gs : Nat} (hm : 2 <= m) (ha : ∀ j, a j < bq) (hz : 0 < zy (m - 1)) (hG : gs = min ((a (i + m) * bq + a (i + m - 1)) / zy (m - 1)) (bq - 1)) (hlt : valN a (i + 1 + m) < valN zy m * bq ^ (i + 1)) :
  valN (fun j => a (i + j)) (m + 1) < (gs + 1) * valN zy m := by
 obtain ⟨n, rfl⟩ : ∃ n, m = n + 1 := ⟨m - 1, by omega⟩
 have h1 := div_start (a := a) (b := zy) (i := i) (n := n + 1) (by rw [show i + (n + 1 + 1) = i + 1 + (n + 1) by omega]; exact hlt)
 have h2 := guess_ge (u := fun j => a (i + j)) (b := zy) (n := n) (by simpa using hz) (fun j _ => ha _) h1
 rw [hG]
 have e : i + (n + 1) - 1 = i + n := by omega
 rw [e]
 exact h2
theorem back_neg {L P W gk B : Nat} {v : Int} (h : (L : Int) + v * (P : Int) = (W : Int) - ((gk * B : Nat) : Int)) (hv : v < 0) (hL : L < P) : 1 <= gk /\ W < gk * B := by
 have h1 : v * (P : Int) <= (-1) * (P : Int) := Int.mul_le_mul_of_nonneg_right (by omega) (Int.natCast_nonneg P)
 have h2 : W < gk * B := by omega
 refine ⟨?_, h2⟩
 refine Nat.pos_of_ne_zero fun e => ?_
 subst e
 rw [Nat.zero_mul] at h2
 omega
theorem back_next {L3 L2 P W gk B c : Nat} {v : Int} (h : (L2 : Int) + v * (P : Int) = (W : Int) - ((gk * B : Nat) : Int)) (hg : 1 <= gk) (h3 : L3 + c * P = L2 + B) :
  (L3 : Int) + (v + (c : Int)) * (P : Int) = (W : Int) - (((gk - 1) * B : Nat) : Int) := by
 obtain ⟨k, rfl⟩ : ∃ k, gk = k + 1 := ⟨gk - 1, by omega⟩
 rw [Nat.add_sub_cancel]
 rw [Nat.add_mul, Nat.one_mul] at h
 rw [Int.add_mul]
 have h1 : ((c * P : Nat) : Int) = (c : Int) * (P : Int) := Int.natCast_mul _ _
 omega
theorem back_carry {c a b : Nat} (hc : c <= 1) (ha : a < bq) (hb : b < bq) : (c + (a + b)) / bq <= 1 := by
 have : (c + (a + b)) / bq < 2 := Nat.div_lt_of_lt_mul (by omega)
 omega
theorem back_in {a3 a2 zy : Nat -> Nat} {i t c : Nat} (h : valN (fun j => a3 (i + j)) t + c * bq ^ t = valN (fun j => a2 (i + j)) t + valN zy t) (h2 : a3 (i + t) = a2 (i + t)) :
  valN (fun j => upd a3 (i + t) ((c + (a3 (i + t) + zy t)) % bq) (i + j)) (t + 1) + (c + (a3 (i + t) + zy t)) / bq * bq ^ (t + 1) = valN (fun j => a2 (i + j)) (t + 1) + valN zy (t + 1) := by
 have h1 := add_in (z := fun j => a3 (i + j)) (i := t) h (a3 (i + t) + zy t) rfl
 rw [win_upd_succ]
 rw [valN, upd_same, valN_congr (l := t) (a := upd (fun j => a3 (i + j)) t ((c + (a3 (i + t) + zy t)) % bq)) (b := fun j => a3 (i + j)) (fun j hj => upd_other _ (by omega))] at h1
 rw [h1, valN, valN, h2, Nat.add_mul]
 omega
theorem div_final {a a2 zy q : Nat -> Nat} {i m gk A lq : Nat} {v : Int} (hi : i + 1 <= lq) (ha : ∀ j, a j < bq) (ha2 : ∀ j, j < i \/ i + m <= j -> a2 j = a j) (hzy : ∀ j, zy j < bq) (hv : ¬ v < 0) (hq0 : ∀ j, j < i + 1 -> q j = 0)
  (hsum : valN q lq * valN zy m + valN a (i + 1 + m) = A)
  (h : ((valN (fun j => a2 (i + j)) m : Nat) : Int) + v * ((bq ^ m : Nat) : Int) = ((valN (fun j => a (i + j)) (m + 1) : Nat) : Int) - ((gk * valN zy m : Nat) : Int)) (hW : valN (fun j => a (i + j)) (m + 1) < (gk + 1) * valN zy m) :
  v = 0 /\ valN (upd q i gk) lq * valN zy m + valN a2 (i + m) = A /\ valN a2 (i + m) < valN zy m * bq ^ i := by
 obtain ⟨h1, h2⟩ := fin_v h (by omega) hW (Nat.le_of_lt (valN_lt fun j _ => hzy j))
 refine ⟨h1, div_round (a := a) (by omega) (fun j _ => ha j) (fun j hj => ha2 j (.inl hj)) (hq0 i (by omega)) ?_ h2 hW⟩
 rw [show i + (m + 1) = i + 1 + m by omega]
 exact hsum
theorem div_end {a q zy : Nat -> Nat} {m lq X Y n : Nat} (hn : 0 < 2 ^ n) (hB : valN zy m = Y * 2 ^ n) (hsum : valN q lq * valN zy m + valN a (0 + m) = X * 2 ^ n) (hlt : valN a (0 + m) < valN zy m * bq ^ 0) :
  valN q lq = X / Y /\ valN a m = X % Y * 2 ^ n := by
 rw [Nat.zero_add, hB] at hsum hlt
 rw [Nat.pow_zero, Nat.mul_one] at hlt
 have hY : 0 < Y := by
  refine Nat.pos_of_ne_zero fun e => ?_
  subst e
  omega
 have h1 : X * 2 ^ n / (Y * 2 ^ n) = X / Y := Nat.mul_div_mul_right _ _ hn
 have h2 : X * 2 ^ n % (Y * 2 ^ n) = X % Y * 2 ^ n := Nat.mul_mod_mul_right _ _ _
 have h3 : X * 2 ^ n / (Y * 2 ^ n) = valN q lq := by
  rw [<- hsum, Nat.mul_comm, Nat.mul_add_div (by omega), Nat.div_eq_of_lt hlt, Nat.add_zero]
 have h4 : X * 2 ^ n % (Y * 2 ^ n) = valN a m := by
  rw [<- hsum, Nat.mul_comm (valN q lq), Nat.mul_add_mod, Nat.mod_eq_of_lt hlt]
 exact ⟨by rw [<- h3, h1], by rw [<- h4, h2]⟩
theorem div_top {X Y lx ly lq n : Nat} (hX : nlen X = lx) (_h0 : 2 <= ly) (hb : ∃ L, 32 * ly = L + n /\ L = Y.log2 + 1) (hY0 : Y ≠ 0) (hn : n < 32) (hq : lx + 1 = lq + ly) : X * 2 ^ n < Y * 2 ^ n * bq ^ lq := by
 obtain ⟨L, h1, h2⟩ := hb
 have h3 : X * 2 ^ n < bq ^ lx * 2 ^ n := Nat.mul_lt_mul_of_pos_right (by rw [<- hX]; exact lt_nlen X) (Nat.pow_pos (by decide))
 refine Nat.lt_of_lt_of_le h3 ?_
 have h4 : 2 ^ (L - 1) <= Y := by rw [h2, Nat.add_sub_cancel]; exact Nat.log2_self_le hY0
 have h5 : 2 ^ (L - 1) * 2 ^ n * bq ^ lq <= Y * 2 ^ n * bq ^ lq := Nat.mul_le_mul_right _ (Nat.mul_le_mul_right _ h4)
 refine Nat.le_trans ?_ h5
 rw [bq_pow, bq_pow, <- Nat.pow_add, <- Nat.pow_add, <- Nat.pow_add]
 exact Nat.pow_le_pow_right (by decide) (by omega)
theorem top_pos {zy : Nat -> Nat} {N m : Nat} (hzy : ∀ j, zy j < bq) (hB : valN zy m = N) (hm : nlen N = m) (h2 : 2 <= m) : 0 < zy (m - 1) := by
 have hN : N ≠ 0 := fun e => by subst e; rw [nlen_zero] at hm; omega
 have h1 := dg_top hN
 rw [hm, <- hB, dg_valN (fun j _ => hzy j) _ (by omega)] at h1
 omega
end Go.Eng
