/-
 Further operations of the reckoner, proved sound.
-/
import Derived.Laws.MakeOwn
import Derived.Test.YtajgaijilkfjnaaGreatDoorX1
set_option linter.unusedVariables false
set_option linter.unusedSimpArgs false
namespace Go.Eng
open Go Go.RowKit
noncomputable section
section
variable {cx : Cx}
def litN (evo : Operand -> Option V) (d : Nat) : Option Operand -> Option Nat
 | none => some d
 | some y => match (evo y).bind intLit with | some (.ofNat z) => some z | _ => none
theorem litN_eval {evo : Operand -> Option V} {ρ : Nat -> Int} {d n : Nat} {y : Option Operand} (h : litN evo d y = some n) {a : Act} {φ : Nat -> Pl} (hev : ∀ x v, evo x = some v -> a.eval x = v.den cx.K ρ φ) :
  (y = none /\ n = d) \/ ∃ x ik, y = some x /\ a.eval x = .int ik (.ofNat n) := by
 cases y with
 | none => simp only [litN, Option.some.injEq] at h; exact .inl ⟨rfl, h.symm⟩
 | some y =>
   simp only [litN] at h
   split at h
   ·rename_i z hz
    simp only [Option.some.injEq] at h; subst h
    obtain ⟨ik, hik⟩ := eval_lit (cx := cx) (ρ := ρ) hz hev
    exact .inr ⟨y, ik, rfl, hik⟩
   ·cases h
theorem run_bounds {evo : Operand -> Option V} {ρ : Nat -> Int} {isS : Bool} {len cap l h : Nat} {lo hi : Option Operand} (hl : litN evo 0 lo = some l) (hh : litN evo len hi = some h) (h1 : l <= h) (h2 : h <= cap) {a : Act} {φ : Nat -> Pl}
  (hev : ∀ x v, evo x = some v -> a.eval x = v.den cx.K ρ φ) (P : Program) (w : World) : (Instr.sliceBounds isS len cap (lo.map a.eval) (hi.map a.eval) none).run P w = .ok (l, h, cap) w := by
 unfold Instr.sliceBounds
 simp only
 rw [run_bind_ok (run_pure P cap w)]
 rcases litN_eval (cx := cx) hh hev with ⟨rfl, rfl⟩ | ⟨y, ik, rfl, hik⟩
 ·simp only [Option.map_none]
  rw [run_bind_ok (run_pure P h w)]
  rcases litN_eval (cx := cx) hl hev with ⟨rfl, rfl⟩ | ⟨y, ik, rfl, hik⟩
  ·rfl
  ·simp only [Option.map_some, hik]
   rw [run_bind_ok (run_bound _ h1)]; rfl
 ·simp only [Option.map_some, hik]
  rw [run_bind_ok (run_bound _ h2)]
  rcases litN_eval (cx := cx) hl hev with ⟨rfl, rfl⟩ | ⟨y', ik', rfl, hik'⟩
  ·rfl
  ·simp only [Option.map_some, hik']
   rw [run_bind_ok (run_bound _ h1)]; rfl
def cloO (evo : Operand -> Option V) : Option Operand -> Option (Option Value)
 | none => some none
 | some y => match clo1 (evo y) with | some v => some (some v) | none => none
theorem cloO_eval {evo : Operand -> Option V} {ρ : Nat -> Int} {y : Option Operand} {v : Option Value} (h : cloO evo y = some v) {a : Act} {φ : Nat -> Pl} (hev : ∀ x v, evo x = some v -> a.eval x = v.den cx.K ρ φ) : y.map a.eval = v := by
 cases y with
 | none => simp only [cloO, Option.some.injEq] at h; subst h; rfl
 | some y =>
   simp only [cloO] at h
   split at h
   ·rename_i v' hv
    simp only [Option.some.injEq] at h; subst h
    simp [clo1_eval hv hev]
   ·cases h
def xSlice (cx : Cx) (evo : Operand -> Option V) (t : TypeId) (x : Operand) (lo hi mx : Option Operand) : Option R :=
 match evo x with
 | some (.one (.slc r o l c)) => match mx, cx.un t, litN evo 0 lo, litN evo l hi with
   | none, some (.slice e), some a, some b => match cx.ti e with
     | some inf => bif Nat.ble a b && Nat.ble b c then (bif Nat.beq c a then some (R.pure (.one (.slc r o (b - a) (c - a)))) else some (R.pure (.one (.slc r (o + a * inf.size) (b - a) (c - a))))) else none
     | none => none
   | _, _, _, _ => none
 | some (.one (.sln r o l c)) => match mx, cx.un t, litN evo 0 lo, litN evo l hi with
   | none, some (.slice e), some a, some b => match cx.ti e with
     | some inf => bif Nat.ble a b && Nat.ble b c && Nat.blt a c then some (R.pure (.one (.sln r (o + a * inf.size) (b - a) (c - a)))) else none
     | none => none
   | _, _, _, _ => none
 | some (.one (.val v)) => match cloO evo lo, cloO evo hi, cloO evo mx with
   | some a, some b, some m => match prun cx.P 8 (Instr.sliceAt t v a b m) with | some u => some (R.pure (ofConst u)) | none => none
   | _, _, _ => none
 | _ => none
theorem xSlice_ok {evo : Operand -> Option V} {M : List Reg} {t x lo hi mx r dst type pos after guard} (h : xSlice cx evo t x lo hi mx = some r) : Ok3 cx evo M ⟨dst, .slice t x lo hi mx, type, pos, after, guard⟩ r := by
 unfold xSlice at h
 split at h
 ·rename_i rr o l c hx
  split at h
  ·rename_i e a b ht hlo hhi
   split at h
   ·rename_i inf he
    cases hb : (Nat.ble a b && Nat.ble b c) with
    | false => rw [hb] at h; cases h
    | true =>
      rw [hb] at h
      simp only [cond_true] at h
      simp only [Bool.and_eq_true] at hb
      have h1 := Nat.le_of_ble_eq_true hb.1
      have h2 := Nat.le_of_ble_eq_true hb.2
      have run : ∀ (ρ : Nat -> Int) (φ : Nat -> Pl) (a' : Act) (w : World), (∀ x v, evo x = some v -> a'.eval x = v.den cx.K ρ φ) -> (Instr.sliceAt t (a'.eval x) (lo.map a'.eval) (hi.map a'.eval) none).run cx.P w =
        .ok (.slice (if c = a then some (paddr φ rr o) else some (paddr φ rr (o + a * inf.size))) (b - a) (c - a)) w := fun ρ φ a' w hev => by
       rw [hev x _ hx]
       unfold Instr.sliceAt
       rw [run_bind_ok (run_underlying (cx.unOK ht) w)]
       simp only
       unfold Instr.slice
       rw [run_bind_ok (run_underlying (cx.unOK ht) w)]
       show (do
        let (l', h', m') <- Instr.sliceBounds true l c (lo.map a'.eval) (hi.map a'.eval) none
        let size <- sizeOf e
        pure (Value.slice (if m' = l' then some (paddr φ rr o) else (some (paddr φ rr o)).map (·.add (l' * size))) (h' - l') (m' - l')) : Sem Value).run cx.P w = _
       rw [run_bind_ok (run_bounds (cx := cx) hlo hhi h1 h2 hev cx.P w)]
       simp only
       rw [run_bind_ok (run_sizeOf (cx.tiOK he) w)]
       simp only [Option.map_some, addr_idx]
       rfl
      cases hc : Nat.beq c a with
      | true =>
        rw [hc] at h
        simp only [cond_true, Option.some.injEq] at h; subst h
        have := Nat.eq_of_beq_eq_true hc
        refine Ok3.pure fun ρ => RunOK.of_pure rfl rfl rfl fun φ a' w hev _ => ?_
        refine wp_val (s := Instr.sliceAt t (a'.eval x) (lo.map a'.eval) (hi.map a'.eval) none) rfl ?_
        rw [run ρ φ a' w hev, if_pos this]; rfl
      | false =>
        rw [hc] at h
        simp only [cond_false, Option.some.injEq] at h; subst h
        have := Nat.ne_of_beq_eq_false hc
        refine Ok3.pure fun ρ => RunOK.of_pure rfl rfl rfl fun φ a' w hev _ => ?_
        refine wp_val (s := Instr.sliceAt t (a'.eval x) (lo.map a'.eval) (hi.map a'.eval) none) rfl ?_
        rw [run ρ φ a' w hev, if_neg this]; rfl
   ·cases h
  ·cases h
 ·rename_i rr o l c hx
  split at h
  ·rename_i e a b ht hlo hhi
   split at h
   ·rename_i inf he
    cases hb : (Nat.ble a b && Nat.ble b c && Nat.blt a c) with
    | false => rw [hb] at h; cases h
    | true =>
      rw [hb] at h
      simp only [cond_true, Option.some.injEq] at h; subst h
      simp only [Bool.and_eq_true] at hb
      have h1 := Nat.le_of_ble_eq_true hb.1.1
      have h2 := Nat.le_of_ble_eq_true hb.1.2
      have h3 := Nat.blt_eq.mp hb.2
      refine Ok3.pure fun ρ => RunOK.of_pure rfl rfl rfl fun φ a' w hev _ => ?_
      refine wp_val (s := Instr.sliceAt t (a'.eval x) (lo.map a'.eval) (hi.map a'.eval) none) rfl ?_
      rw [hev x _ hx]
      unfold Instr.sliceAt
      rw [run_bind_ok (run_underlying (cx.unOK ht) w)]
      simp only
      unfold Instr.slice
      rw [run_bind_ok (run_underlying (cx.unOK ht) w)]
      show (do
       let (l', h', m') <- Instr.sliceBounds true l (c + (φ rr).c) (lo.map a'.eval) (hi.map a'.eval) none
       let size <- sizeOf e
       pure (Value.slice (if m' = l' then some (paddr φ rr o) else (some (paddr φ rr o)).map (·.add (l' * size))) (h' - l') (m' - l')) : Sem Value).run cx.P w = _
      rw [run_bind_ok (run_bounds (cx := cx) hlo hhi h1 (Nat.le_trans h2 (Nat.le_add_right _ _)) hev cx.P w)]
      simp only
      rw [run_bind_ok (run_sizeOf (cx.tiOK he) w)]
      simp only [Option.map_some, addr_idx]
      rw [if_neg (by omega)]
      show Result.ok (Value.slice _ _ _) w = Result.ok (Value.slice _ _ _) w
      have : c + (φ rr).c - a = c - a + (φ rr).c := by omega
      rw [this]
   ·cases h
  ·cases h
 ·rename_i v hx
  split at h
  ·rename_i a b m ha hb hm
   split at h
   ·rename_i u hu
    simp only [Option.some.injEq] at h; subst h
    refine Ok3.pure fun ρ => RunOK.closed fun φ a' hev => ⟨Instr.sliceAt t (a'.eval x) (lo.map a'.eval) (hi.map a'.eval) (mx.map a'.eval), rfl, fun w => ?_⟩
    rw [hev x _ hx, cloO_eval (cx := cx) ha hev, cloO_eval (cx := cx) hb hev, cloO_eval (cx := cx) hm hev]
    exact prun_ok hu w
   ·cases h
  ·cases h
 ·cases h
def zero1 (cx : Cx) (t : TypeId) : Option (C × TypeInfo) :=
 match cx.ti t with
 | some i => match i.zero with
   | some v => match (ofConst v).cells with
     | some [z] => bif Nat.beq i.size 1 && z.sto cx then some (z, i) else none
     | _ => none
   | none => none
 | none => none
def repC (z : C) : Nat -> List C
 | 0 => []
 | n + 1 => z :: repC z n
theorem repC_eq (z : C) : ∀ n, repC z n = List.replicate n z
 | 0 => rfl
 | n + 1 => by simp [repC, repC_eq z n, List.replicate_succ]
theorem zero1_spec {t : TypeId} {z : C} {i : TypeInfo} (h : zero1 cx t = some (z, i)) : cx.ti t = some i /\ i.size = 1 /\ z.sto cx = true /\ z.men = none /\ ∃ v, i.zero = some v /\ ∀ ρ φ, v.cells = #[z.den cx.K ρ φ] := by
 unfold zero1 at h
 split at h
 ·rename_i j hj
  split at h
  ·rename_i v hv
   split at h
   ·rename_i z' hz
    cases hb : (Nat.beq j.size 1 && z'.sto cx) with
    | false => rw [hb] at h; cases h
    | true =>
      rw [hb] at h
      simp only [cond_true, Option.some.injEq, Prod.mk.injEq] at h
      obtain ⟨rfl, rfl⟩ := h
      simp only [Bool.and_eq_true] at hb
      refine ⟨hj, Nat.eq_of_beq_eq_true hb.1, hb.2, ?_, v, hv, fun ρ φ => ?_⟩
      ·have := const_menL hz
       unfold menL at this
       cases hm : z'.men with
       | none => rfl
       | some m => simp [hm] at this
      ·rw [zero_cells (cx := cx) (ρ := ρ) hz φ]; rfl
   ·cases h
  ·cases h
 ·cases h
theorem menLt_rep {z : C} (h : z.men = none) (n m : Nat) : ∀ x ∈ menL (List.replicate m z), x < n := by
 intro x hx
 unfold menL at hx
 obtain ⟨c, hc, hcm⟩ := List.mem_filterMap.1 hx
 have := List.eq_of_mem_replicate hc
 subst this
 rw [h] at hcm; cases hcm
def xMkS (cx : Cx) (evo : Operand -> Option V) (M : List Reg) (t : TypeId) (l c : Operand) : Option R :=
 match cx.un t, (evo l).bind intLit, (evo c).bind intLit with
 | some (.slice e), some (.ofNat a), some (.ofNat b) => match zero1 cx e with
   | some (z, i) => bif Nat.ble a b && Nat.blt b 1048576 && Nat.ble i.bytes 1024 then some { fn := none, kd := [], rds := [], wcs := [], al := [(M.length, repC z b)], res := .one (.slc M.length 0 a b) } else none
   | none => none
 | _, _, _ => none
theorem range_rep (v : Value) (n : Nat) : ((Array.range n).map fun i => #[v][i % (#[v] : Array Value).size]!) = (List.replicate n v).toArray := by
 apply Array.ext
 ·simp
 ·intro i h1 h2
  simp [Nat.mod_one]
theorem xMkS_ok {evo : Operand -> Option V} {M : List Reg} {t l c r dst type pos after guard} (h : xMkS cx evo M t l c = some r) : Ok3 cx evo M ⟨dst, .makeSlice t l c, type, pos, after, guard⟩ r := by
 unfold xMkS at h
 split at h
 ·rename_i e a b ht hl hc
  split at h
  ·rename_i z i hz
   cases hb : (Nat.ble a b && Nat.blt b 1048576 && Nat.ble i.bytes 1024) with
   | false => rw [hb] at h; cases h
   | true =>
     rw [hb] at h
     simp only [cond_true, Option.some.injEq] at h
     simp only [Bool.and_eq_true] at hb
     have h1 := Nat.le_of_ble_eq_true hb.1.1
     have h2 := Nat.blt_eq.mp hb.1.2
     have h3 := Nat.le_of_ble_eq_true hb.2
     obtain ⟨hi, hsz, hsto, hmen, v, hv, hvc⟩ := zero1_spec hz
     subst h
     refine ⟨rfl, rfl, ⟨fun x hx => (by cases hx), fun x hx => (by cases hx), fun i x hn => ?_, fun x hx => (by cases hx)⟩, fun ρ => ?_⟩
     ·cases i with
      | zero => simp at hn; rw [<- hn]; rfl
      | succ i => simp at hn
     ·intro φ a' w next Q hev hpre hnext
      obtain ⟨k1, e1⟩ := eval_lit (cx := cx) (ρ := ρ) hl hev
      obtain ⟨k2, e2⟩ := eval_lit (cx := cx) (ρ := ρ) hc hev
      have hprod : i.bytes * b <= 1024 * 1048576 := Nat.mul_le_mul h3 (Nat.le_of_lt h2)
      have hrun : (Instr.makeSlice t (a'.eval l) (a'.eval c)).run cx.P w = .ok (.slice (some ⟨w.heap.size, 0, none⟩) a b) (w.alloc (.cells (denL cx ρ φ (repC z b)).toArray e)) := by
       have hb' : (i.bytes : Int) * (Int.ofNat b) <= 281474976710656 := by
        have h : ((i.bytes * b : Nat) : Int) <= 281474976710656 := by omega
        rw [Int.natCast_mul] at h; exact h
       have := run_make (P := cx.P) w t e i v (cx.unOK ht) (cx.tiOK hi) hv k1 k2 (.ofNat a) (.ofNat b) (Int.natCast_nonneg a) (Int.ofNat_le.2 h1) hb' (by simp only [Int.ofNat_eq_natCast]; omega)
       rw [e1, e2, this]
       have hm : madeCells v.cells (b * i.size) = (denL cx ρ φ (repC z b)).toArray := by
        rw [hvc ρ φ, hsz, Nat.mul_one]
        unfold madeCells
        rw [range_rep, repC_eq]
        simp [denL]
       show Result.ok (Value.slice (some ⟨w.heap.size, 0, none⟩) a b) (w.alloc (.cells (madeCells v.cells (b * i.size)) e)) = _
       rw [hm]
      unfold Oper.wp
      simp only [execOp]
      rw [run_bind_ok hrun]
      have := hnext _ _ (post_alloc (t := e) rfl (by rw [repC_eq]; exact menLt_rep hmen _ _))
      have hres : (V.one (.slc M.length 0 a b)).den cx.K ρ (updP φ M.length ⟨w.heap.size, 0, 0⟩) = .slice (some ⟨w.heap.size, 0, none⟩) a b := by
       simp [V.den, C.den, paddr, updP]
      simp only [hres] at this
      exact this
  ·cases h
 ·cases h
def xIdxA (cx : Cx) (evo : Operand -> Option V) (t : TypeId) (x i : Operand) : Option R :=
 match evo x with
 | some (.one (.sln r o l _)) => match cx.un t, (evo i).bind intLit with
   | some (.slice e), some (.ofNat n) => match cx.ti e with
     | some inf => bif Nat.blt n l then some (R.pure (.one (.ptr r (o + n * inf.size)))) else none
     | none => none
   | _, _ => none
 | _ => none
theorem xIdxA_ok {evo : Operand -> Option V} {M : List Reg} {t x i r dst type pos after guard} (h : xIdxA cx evo t x i = some r) : Ok3 cx evo M ⟨dst, .indexAddr t x i, type, pos, after, guard⟩ r := by
 unfold xIdxA at h
 split at h
 ·rename_i rr oo len cap hx
  split at h
  ·rename_i e n ht hi
   split at h
   ·rename_i inf he
    cases hb : Nat.blt n len with
    | false => simp [hb] at h
    | true =>
      simp only [hb, cond_true, Option.some.injEq] at h
      subst h
      have hlt : n < len := by simpa [Nat.blt_eq] using hb
      refine Ok3.pure fun ρ => RunOK.of_pure rfl rfl rfl fun φ a' w hev _ => ?_
      obtain ⟨ik, hik⟩ := eval_lit (cx := cx) (ρ := ρ) hi hev
      refine wp_val (s := Instr.indexAt t (a'.eval x) (a'.eval i)) rfl ?_
      rw [hev x _ hx, hik]
      unfold Instr.indexAt
      have h0 : (asIntOf (.int ik (.ofNat n))).run cx.P w = .ok (ik, .ofNat n) w := rfl
      rw [run_bind_ok h0]
      simp only
      rw [run_bind_ok (run_underlying (cx.unOK ht) w)]
      simp only [V.den, C.den]
      rw [run_bind_ok (run_pure cx.P _ w)]
      simp only
      rw [run_bind_ok (run_underlying (cx.unOK ht) w)]
      simp only
      rw [if_pos ⟨Int.natCast_nonneg n, Int.ofNat_lt.2 hlt⟩, run_bind_ok (run_sizeOf (cx.tiOK he) w)]
      show Result.ok (Value.pointer (some ((paddr φ rr oo).add (n * inf.size)))) w = _
      rw [addr_idx]; rfl
   ·cases h
  ·cases h
 ·cases h
end
end
end Go.Eng
namespace Go.Eng
open Go Go.RowKit
noncomputable section
section
variable {cx : Cx}
theorem one_al {M : List Reg} {cs : List C} (i : Nat) (x : Nat × List C) (hn : [(M.length, cs)][i]? = some x) : x.1 = M.length + i := by
 cases i with
 | zero => simp at hn; rw [<- hn]; rfl
 | succ i => simp at hn
def nilL {α : Type} : List α -> Bool
 | [] => true
 | _ => false
theorem evPairs_nil {evo : Operand -> Option V} : ∀ {ps : List (Nat × Operand)}, evPairs evo ps = some [] -> ps = []
 | [], _ => rfl
 | (i, x) :: l, h => by
   simp only [evPairs] at h
   split at h <;> simp at h
def xBuildS (cx : Cx) (evo : Operand -> Option V) (M : List Reg) (t : TypeId) (n : Nat) (ps : Array (Nat × Operand)) : Option R :=
 match cx.un t, evPairs evo ps.toList with
 | some (.slice e), some vs => match zero1 cx e with
   | some (z, _) => bif Nat.blt 0 n && Nat.blt n 1048576 && (vs.flatMap (fun p => (p.2.cells).getD [])).all (C.sto cx) then
     match fillC (fun i => some (i * 1, 1)) (repC z n) vs with
     | some cs => bif menLt M.length cs then some { fn := none, kd := [], rds := [], wcs := [], al := [(M.length, cs)], res := .one (.slc M.length 0 n n) } else none
     | none => none
     else bif Nat.beq n 0 && nilL vs then some { fn := none, kd := [], rds := [], wcs := [], al := [(M.length, [])], res := .one (.slc M.length 0 0 0) } else none
   | none => none
 | _, _ => none
theorem xBuildS_ok (hk : ∀ k, (cx.K k).Good) {evo : Operand -> Option V} {M : List Reg} {t n ps r dst type pos after guard} (h : xBuildS cx evo M t n ps = some r) : Ok3 cx evo M ⟨dst, .buildSlice t n ps, type, pos, after, guard⟩ r := by
 unfold xBuildS at h
 split at h
 ·rename_i e vs ht hvs
  split at h
  ·rename_i z inf hz
   cases hb : (Nat.blt 0 n && Nat.blt n 1048576 && (vs.flatMap (fun p => (p.2.cells).getD [])).all (C.sto cx)) with
   | false =>
     rw [hb] at h
     simp only [cond_false] at h
     cases h0 : (Nat.beq n 0 && nilL vs) with
     | false => rw [h0] at h; cases h
     | true =>
       rw [h0] at h
       simp only [cond_true, Option.some.injEq] at h
       subst h
       simp only [Bool.and_eq_true] at h0
       have hn := Nat.eq_of_beq_eq_true h0.1
       subst hn
       have hvn : vs = [] := by
        cases vs with
        | nil => rfl
        | cons a l => cases h0.2
       subst hvn
       have hps : ps = #[] := by
        have := evPairs_nil hvs
        exact Array.toList_inj.1 (by simpa using this)
       subst hps
       obtain ⟨hi, hsz, _⟩ := zero1_spec hz
       refine ⟨rfl, rfl, ⟨fun x hx => (by cases hx), fun x hx => (by cases hx), one_al, fun x hx => (by cases hx)⟩, fun ρ => ?_⟩
       intro φ a' w next Q hev hpre hnext
       have hrun : (Instr.buildSlice t 0 ((#[] : Array (Nat × Operand)).map fun (i, x) => (i, a'.eval x))).run cx.P w = .ok (.slice (some ⟨w.heap.size, 0, none⟩) 0 0) (w.alloc (.cells #[] e)) := by
        unfold Instr.buildSlice
        rw [run_bind_ok (run_underlying (cx.unOK ht) w)]
        simp only
        rw [run_bind_ok (run_sizeOf (cx.tiOK hi) w)]
        rw [if_neg (by omega)]
        rw [if_pos (by omega), Nat.zero_mul]
        have hfill : Instr.fill (fun i => some (i * inf.size, inf.size)) #[] [] = some #[] := by simp [Instr.fill]
        have hr0 : (Array.range 0).map (fun x => (#[] : Array Value)[x % (#[] : Array Value).size]!) = #[] := by simp
        have hp : (pure #[] : Sem (Array Value)).run cx.P w = .ok #[] w := rfl
        rw [run_bind_ok hp]
        simp only [hr0]
        have hm0 : (Array.map (fun (x : Nat × Operand) => (x.1, a'.eval x.2)) #[]).toList = [] := by simp
        rw [hm0, hfill]
        rfl
       unfold Oper.wp
       simp only [execOp]
       rw [run_bind_ok hrun]
       have := hnext _ _ (post_alloc (t := e) (cs := []) rfl (menLt_spec rfl))
       have hres : (V.one (.slc M.length 0 0 0)).den cx.K ρ (updP φ M.length ⟨w.heap.size, 0, 0⟩) = .slice (some ⟨w.heap.size, 0, none⟩) 0 0 := by
        simp [V.den, C.den, paddr, updP]
       simp only [hres] at this
       exact this
   | true =>
     rw [hb] at h
     simp only [cond_true] at h
     simp only [Bool.and_eq_true] at hb
     have h1 := Nat.blt_eq.mp hb.1.1
     have h2 := Nat.blt_eq.mp hb.1.2
     split at h
     ·rename_i cs hcs
      cases hm : menLt M.length cs with
      | false => rw [hm] at h; cases h
      | true =>
      rw [hm] at h
      simp only [cond_true, Option.some.injEq] at h
      obtain ⟨hi, hsz, hsto, hmen, v, hv, hvc⟩ := zero1_spec hz
      subst h
      refine ⟨rfl, rfl, ⟨fun x hx => (by cases hx), fun x hx => (by cases hx), one_al, fun x hx => (by cases hx)⟩, fun ρ => ?_⟩
      intro φ a' w next Q hev hpre hnext
      have hl := evPairs_spec (cx := cx) (ρ := ρ) hev _ _ hvs
      have hfs := fill_spec (cx := cx) (ρ := ρ) hk φ (fun i => some (i * 1, 1)) vs (ps.map fun (i, x) => (i, a'.eval x)).toList (repC z n) cs (List.all_eq_true.1 hb.2) (by simpa using hl) hcs
      have hrun : (Instr.buildSlice t n (ps.map fun (i, x) => (i, a'.eval x))).run cx.P w = .ok (.slice (some ⟨w.heap.size, 0, none⟩) n n) (w.alloc (.cells (denL cx ρ φ cs).toArray e)) := by
       unfold Instr.buildSlice
       rw [run_bind_ok (run_underlying (cx.unOK ht) w)]
       simp only
       rw [run_bind_ok (run_sizeOf (cx.tiOK hi) w), hsz]
       rw [if_neg (by omega)]
       have hzr : (zeroValue e).run cx.P w = .ok v w := by
        unfold zeroValue
        rw [run_bind_ok (run_typeInfo (cx.tiOK hi) w)]
        simp [hv, run_pure]
       rw [if_neg (by omega)]
       rw [run_bind_ok hzr]
       have hz2 : (pure v.cells : Sem (Array Value)).run cx.P w = .ok #[z.den cx.K ρ φ] w := by rw [hvc ρ φ]; rfl
       rw [run_bind_ok hz2, Nat.mul_one, range_rep]
       have hrep : (List.replicate n (z.den cx.K ρ φ)).toArray = (denL cx ρ φ (repC z n)).toArray := by rw [repC_eq]; simp [denL]
       rw [hrep, hfs]
       rfl
      unfold Oper.wp
      simp only [execOp]
      rw [run_bind_ok hrun]
      have := hnext _ _ (post_alloc (t := e) rfl (menLt_spec hm))
      have hres : (V.one (.slc M.length 0 n n)).den cx.K ρ (updP φ M.length ⟨w.heap.size, 0, 0⟩) = .slice (some ⟨w.heap.size, 0, none⟩) n n := by
       simp [V.den, C.den, paddr, updP]
      simp only [hres] at this
      exact this
     ·cases h
  ·cases h
 ·cases h
def placesF (cx : Cx) : List Field -> Option (List (Nat × Nat))
 | [] => some []
 | f :: l => match cx.ti f.type, placesF cx l with | some i, some ps => some ((f.offset, i.size) :: ps) | _, _ => none
theorem placesF_run (w : World) : ∀ {l : List Field} {ps : List (Nat × Nat)}, placesF cx l = some ps -> (l.mapM (m := Sem) fun f => do pure (f.offset, <- sizeOf f.type)).run cx.P w = .ok ps w
 | [], ps, h => by simp [placesF] at h; subst h; rfl
 | f :: l, ps, h => by
   simp only [placesF] at h
   split at h
   ·rename_i i ps' hi hps
    simp only [Option.some.injEq] at h; subst h
    rw [List.mapM_cons]
    have h1 : (do pure (f.offset, <- sizeOf f.type) : Sem (Nat × Nat)).run cx.P w = .ok (f.offset, i.size) w := by rw [run_bind_ok (run_sizeOf (cx.tiOK hi) w)]; rfl
    rw [run_bind_ok h1, run_bind_ok (placesF_run w hps)]
    rfl
   ·cases h
def xBuild (cx : Cx) (evo : Operand -> Option V) (t : TypeId) (ps : Array (Nat × Operand)) : Option R :=
 match cx.un t with
 | some (.struct fs) => match zeroCells cx t, evPairs evo ps.toList, placesF cx fs.toList with
   | some z, some vs, some pl => bif (vs.flatMap (fun p => (p.2.cells).getD [])).all (C.sto cx) then
     match fillC (fun i => pl[i]?) z vs with
     | some cs => some (R.pure (.agg cs))
     | none => none
     else none
   | _, _, _ => none
 | _ => none
theorem xBuild_ok (hk : ∀ k, (cx.K k).Good) {evo : Operand -> Option V} {M : List Reg} {t ps r dst type pos after guard} (h : xBuild cx evo t ps = some r) : Ok3 cx evo M ⟨dst, .build t ps, type, pos, after, guard⟩ r := by
 unfold xBuild at h
 split at h
 ·rename_i fs ht
  split at h
  ·rename_i z vs pl hz hvs hpl
   cases hb : (vs.flatMap (fun p => (p.2.cells).getD [])).all (C.sto cx) with
   | false => rw [hb] at h; cases h
   | true =>
     rw [hb] at h
     simp only [cond_true] at h
     split at h
     ·rename_i cs hfl
      simp only [Option.some.injEq] at h; subst h
      refine Ok3.pure fun ρ => RunOK.of_pure rfl rfl rfl fun φ a' w hev _ => ?_
      refine wp_val (s := Instr.build t (ps.map fun (i, x) => (i, a'.eval x))) rfl ?_
      unfold zeroCells at hz
      split at hz
      ·rename_i i hi
       split at hz
       ·rename_i v hv
        have hzr : (zeroValue t).run cx.P w = .ok v w := by
         unfold zeroValue
         rw [run_bind_ok (run_typeInfo (cx.tiOK hi) w)]
         simp [hv, run_pure]
        unfold Instr.build
        rw [run_bind_ok hzr]
        simp only
        rw [run_bind_ok (run_underlying (cx.unOK ht) w)]
        simp only
        have hpr := placesF_run (cx := cx) w hpl
        have hpa : (fs.mapM (m := Sem) fun f => do pure (f.offset, <- sizeOf f.type)).run cx.P w = .ok pl.toArray w := by
         rw [Array.mapM_eq_mapM_toList, map_eq_pure_bind]
         rw [run_bind_ok hpr]; rfl
        rw [run_bind_ok hpa]
        have hzc := zero_cells (cx := cx) (ρ := ρ) hz φ
        have hl := evPairs_spec (cx := cx) (ρ := ρ) hev _ _ hvs
        have hfs := fill_spec (cx := cx) (ρ := ρ) hk φ (fun i => pl.toArray[i]?) vs (ps.map fun (i, x) => (i, a'.eval x)).toList z cs (List.all_eq_true.1 hb) (by simpa using hl) (by simpa using hfl)
        rw [hzc, hfs]; rfl
       ·cases hz
      ·cases hz
     ·cases h
  ·cases h
 ·cases h
def xCopy (cx : Cx) (evo : Operand -> Option V) (M : List Reg) (args : List Operand) (at_ : Array TypeId) : Option R :=
 match args, at_[0]? with
 | [x, y], some t => match cx.un t, evo x, evo y with
   | some (.slice e), some (.one (.slc r o l _)), some (.one d) => match cx.ti e with
     | some inf => bif Nat.beq inf.size 1 then
       match d with
       | .slc r' o' l' _ | .sln r' o' l' _ => match readC M r' o' (Nat.min l' l) with
         | some cs => bif canWr M r o cs.length && cs.all (C.sto cx) then some { fn := none, kd := [], rds := [(r', o', cs)], wcs := [(r, o, cs)], al := [], res := litI (Nat.min l' l) } else none
         | none => none
       | _ => none
       else none
     | none => none
   | _, _, _ => none
 | _, _ => none
theorem xCopy_ok (hk : ∀ k, (cx.K k).Good) {evo : Operand -> Option V} {M : List Reg} {args at_ r dst type pos after guard} (h : xCopy cx evo M args.toList at_ = some r) : Ok3 cx evo M ⟨dst, .call { callee := .builtin .copy, args, argTypes := at_ }, type, pos, after, guard⟩ r := by
 unfold xCopy at h
 split at h
 ·rename_i x y t ha ht
  split at h
  ·rename_i e rr o l c0 d hu hx hy
   split at h
   ·rename_i inf hi
    cases hsz : Nat.beq inf.size 1 with
    | false => rw [hsz] at h; cases h
    | true =>
    rw [hsz] at h
    simp only [cond_true] at h
    have hsz' := Nat.eq_of_beq_eq_true hsz
    have main : ∀ (r' o' l' : Nat) (hd : ∀ ρ φ, ∃ c', d.den cx.K ρ φ = .slice (some (paddr φ r' o')) l' c'), (match readC M r' o' (Nat.min l' l) with
     | some cs => bif canWr M rr o cs.length && cs.all (C.sto cx) then some ({ fn := none, kd := [], rds := [(r', o', cs)], wcs := [(rr, o, cs)], al := [], res := litI (Nat.min l' l) } : R) else none
     | none => none) = some r -> Ok3 cx evo M ⟨dst, .call { callee := .builtin .copy, args, argTypes := at_ }, type, pos, after, guard⟩ r := by
     intro r' o' l' hd h
     split at h
     ·rename_i cs hcs
      cases hb : (canWr M rr o cs.length && cs.all (C.sto cx)) with
      | false => rw [hb] at h; cases h
      | true =>
      rw [hb] at h
      simp only [cond_true, Option.some.injEq] at h; subst h
      simp only [Bool.and_eq_true] at hb
      obtain ⟨hlen, hreg⟩ := readC_get' hcs
      refine ⟨rfl, rfl, ⟨fun x hx => ?_, fun x hx => ?_, fun i x hn => (by simp at hn), fun x hx => (by cases hx)⟩, fun ρ => ?_⟩
      ·simp only [List.mem_singleton] at hx; subst hx; exact hreg
      ·simp only [List.mem_singleton] at hx; subst hx; exact canWr_spec hb.1
      ·intro φ a w next Q hev hpre hnext
       have hc := hpre.1 (r', o', cs) (by simp)
       have hw := hpre.2.1 (rr, o, cs) (by simp)
       simp only at hc hw
       have hargs : args = #[x, y] := by apply Array.toList_inj.1; simpa using ha
       subst hargs
       obtain ⟨c', hdd⟩ := hd ρ φ
       have ex : a.eval x = .slice (some (paddr φ rr o)) l c0 := hev x _ hx
       have ey : a.eval y = .slice (some (paddr φ r' o')) l' c' := by rw [hev y _ hy]; exact hdd
       have hrun : (Builtin.copy_ at_ type #[a.eval x, a.eval y]).run cx.P w = .ok (goInt (Nat.min l' l)) (putCells w (pl φ rr o) (denL cx ρ φ cs)) := by
        unfold Builtin.copy_
        rw [ht]
        simp only [List.getElem?_toArray, List.getElem?_cons_zero, List.getElem?_cons_succ]
        rw [run_bind_ok (run_underlying (cx.unOK hu) w), ex, ey]
        simp only
        have hl : (Builtin.lenOf (.slice (some (paddr φ r' o')) l' c')).run cx.P w = .ok l' w := rfl
        rw [run_bind_ok hl, run_bind_ok (run_sizeOf (cx.tiOK hi) w), hsz']
        have hf : (Builtin.firstCells 1 (Nat.min l' l) (.slice (some (paddr φ r' o')) l' c')).run cx.P w = .ok (denL cx ρ φ cs).toArray w := by
         have := run_loadCells (P := cx.P) hc
         rw [List.length_map, hlen] at this
         show (loadCells _ (Nat.min l' l * 1)).run cx.P w = _
         rw [Nat.mul_one]; exact this
        rw [run_bind_ok hf]
        simp only
        have hst := run_storeCells (P := cx.P) (p := pl φ rr o) (denL cx ρ φ cs) 0 w (fun v hv => by
         obtain ⟨c, hcm, rfl⟩ := List.mem_map.1 hv
         exact C.one_den hk (List.all_eq_true.1 hb.2 c hcm) φ) (by simpa using hw)
        refine Eq.trans (run_bind_ok hst) ?_
        rfl
       show Oper.wp cx.P _ a w next Q
       unfold Oper.wp
       show Oper.upon _ _ _ _ _ ((do pure (Next.value (<- Builtin.copy_ at_ type (#[x, y].map a.eval))) : Sem Next).run cx.P w)
       rw [show (#[x, y].map a.eval) = #[a.eval x, a.eval y] by simp]
       rw [run_bind_ok hrun]
       have := hnext φ (putCells w (pl φ rr o) (denL cx ρ φ cs)) (PostE.plain cx ρ rfl (Below.refl _ _))
       simp only [litI_den] at this
       exact this
     ·cases h
    split at h
    ·exact main _ _ _ (fun ρ φ => ⟨_, rfl⟩) h
    ·exact main _ _ _ (fun ρ φ => ⟨_, rfl⟩) h
    ·cases h
   ·cases h
  ·cases h
 ·cases h
end
end
end Go.Eng
namespace Go.Eng
open Go Go.RowKit
noncomputable section
theorem extract_tail {α : Type} (v : α) (l : List α) : (#[v] ++ l.toArray).extract 1 (#[v] ++ l.toArray).size = l.toArray := by
 apply Array.ext
 ·simp
 ·intro i h1 h2
  simp only [Array.getElem_extract]
  rw [Array.getElem_append_right (by simp)]
  simp
def xInv (cx : Cx) (evo : Operand -> Option V) (M : List Reg) (recv : Operand) (name : String) (args : List Operand) : Option R :=
 match evo recv, allM evo args with
 | some (.one (.ifc t c)), some vs => match cx.ti t, cx.un t with
   | some inf, some (.pointer _) => match inf.methods.find? (·.name == name) with
     | some m => match m.path.toList, m.func with
       | [], some (f, true) => cx.inl f (.one c :: vs) M
       | _, _ => none
     | none => none
   | _, _ => none
 | _, _ => none
theorem xInv_ok {cx : Cx} (hi : cx.InlOK) {evo : Operand -> Option V} {M : List Reg} {recv name args at_ r dst type pos after guard} (h : xInv cx evo M recv name args.toList = some r) : Ok3 cx evo M ⟨dst, .call { callee := .invoke recv name, args, argTypes := at_ }, type, pos, after, guard⟩ r := by
 unfold xInv at h
 split at h
 ·rename_i t c vs hr hvs
  split at h
  ·rename_i inf e hti hun
   split at h
   ·rename_i m hm
    split at h
    ·rename_i f hpath hfn
     obtain ⟨h1, h2, h3, h4⟩ := hi _ _ _ _ h
     refine ⟨h1, h2, h3, fun ρ => ?_⟩
     intro φ a w next Q hev hpre hnext
     have hs := h4 ρ φ w hpre
     have hargs : args.map a.eval = (vs.map (V.den cx.K ρ φ)).toArray := by
      have := allM_spec (cx := cx) (ρ := ρ) hev _ _ hvs
      apply Array.toList_inj.1
      simpa using this
     have hrecv : a.eval recv = .iface t (c.den cx.K ρ φ) := hev recv _ hr
     have hmeth : (method (cx.P.types.size + Made.depth) t (c.den cx.K ρ φ) name).run cx.P w = .ok (f, c.den cx.K ρ φ) w := by
      have hpos : 0 < Made.depth := by decide
      obtain ⟨k, hk⟩ : ∃ k, cx.P.types.size + Made.depth = k + 1 := ⟨cx.P.types.size + Made.depth - 1, by omega⟩
      rw [hk]
      unfold method
      rw [run_bind_ok (run_typeInfo (cx.tiOK hti) w)]
      simp only [hm, hpath]
      have hfo : (follow [] t (.val (c.den cx.K ρ φ))).run cx.P w = .ok (t, .val (c.den cx.K ρ φ)) w := rfl
      rw [run_bind_ok hfo]
      simp only [hfn]
      have hrec : ∀ wr, (receiverAt t (.val (c.den cx.K ρ φ)) true wr).run cx.P w = .ok (c.den cx.K ρ φ) w := fun wr => by
       unfold receiverAt
       rw [run_bind_ok (run_underlying (cx.unOK hun) w)]
       rfl
      rw [run_bind_ok (hrec _)]
      rfl
     have hrun : (execOp a.eval ⟨dst, .call { callee := .invoke recv name, args, argTypes := at_ }, type, pos, after, guard⟩).run cx.P w = (callFunc f ((V.one c :: vs).map (V.den cx.K ρ φ)).toArray).run cx.P w := by
      simp only [execOp, resolve, hrecv, hargs]
      have h0 : (pure { target := .fn (.method name) #[], args := #[Value.iface t (c.den cx.K ρ φ)] ++ (vs.map (V.den cx.K ρ φ)).toArray } : Sem Deferred).run cx.P w = .ok { target := .fn (.method name) #[], args := #[Value.iface t (c.den cx.K ρ φ)] ++ (vs.map (V.den cx.K ρ φ)).toArray } w := rfl
      rw [run_bind_ok h0]
      simp only [invoke]
      have hg0 : (#[Value.iface t (c.den cx.K ρ φ)] ++ (vs.map (V.den cx.K ρ φ)).toArray)[0]? = some (.iface t (c.den cx.K ρ φ)) := by simp
      have hex : (#[Value.iface t (c.den cx.K ρ φ)] ++ (vs.map (V.den cx.K ρ φ)).toArray).extract 1 (#[Value.iface t (c.den cx.K ρ φ)] ++ (vs.map (V.den cx.K ρ φ)).toArray).size = (vs.map (V.den cx.K ρ φ)).toArray := by
       exact extract_tail _ _
      rw [hg0, hex]
      simp only [callMethod]
      have hp : (program : Sem Program).run cx.P w = .ok cx.P w := rfl
      rw [run_bind_ok hp, run_bind_ok hmeth]
      simp only
      congr 2
      simp [V.den]
     unfold Oper.wp
     rw [hrun]
     rcases hs with ⟨u, w', hru, φ', hpost, hu⟩ | ⟨hru, hcalls⟩
     ·rw [hru]
      show next _ _
      rw [hu]; exact hnext φ' w' hpost
     ·rw [hru]
      refine hcalls.mono fun e w' ⟨u, he, φ', hpost, hu⟩ => ?_
      subst he
      show next _ _
      rw [hu]; exact hnext φ' w' hpost
    ·cases h
   ·cases h
  ·cases h
 ·cases h
def xopF : XO := fun cx evo M o =>
 match o.op with
 | .binOp op t x y _ => xBin cx evo M op t x y
 | .unOp op _ x => xUn cx evo op x
 | .convert s d x => xConv cx evo M s d x
 | .makeInterface t x => xMkI cx evo t x
 | .index t x i => xIndex cx evo t x i
 | .indexAddr t x i => xIdxA cx evo t x i
 | .slice t x lo hi mx => xSlice cx evo t x lo hi mx
 | .makeSlice t l c => xMkS cx evo M t l c
 | .buildSlice t n ps => xBuildS cx evo M t n ps
 | .build t ps => xBuild cx evo t ps
 | .call { callee := .builtin b, args, argTypes } => match b with
   | .copy => xCopy cx evo M args.toList argTypes
   | _ => xBlt cx evo b args argTypes o.type
 | .call { callee := .invoke recv name, args, .. } => xInv cx evo M recv name args.toList
 | _ => none
theorem allClo_congr {f g : Operand -> Option V} : ∀ {l : List Operand}, (∀ x ∈ l, f x = g x) -> allClo f l = allClo g l
 | [], _ => rfl
 | x :: l, h => by simp only [allClo, h x (by simp), allClo_congr (l := l) (fun y hy => h y (by simp [hy]))]
theorem litN_congr {f g : Operand -> Option V} {d : Nat} {y : Option Operand} (h : ∀ x, y = some x -> f x = g x) : litN f d y = litN g d y := by
 cases y with
 | none => rfl
 | some y => simp only [litN, h y rfl]
theorem cloO_congr {f g : Operand -> Option V} {y : Option Operand} (h : ∀ x, y = some x -> f x = g x) : cloO f y = cloO g y := by
 cases y with
 | none => rfl
 | some y => simp only [cloO, h y rfl]
theorem xLen_congr {cx : Cx} {f g : Operand -> Option V} {cap : Bool} {l : List Operand} {at_ : Array TypeId} (h : ∀ x ∈ l, f x = g x) : xLen cx f cap l at_ = xLen cx g cap l at_ := by
 unfold xLen
 split
 ·rename_i x t _
  rw [h x (by simp)]
 ·rfl
theorem xCopy_congr {cx : Cx} {f g : Operand -> Option V} {M : List Reg} {l : List Operand} {at_ : Array TypeId} (h : ∀ x ∈ l, f x = g x) : xCopy cx f M l at_ = xCopy cx g M l at_ := by
 unfold xCopy
 split
 ·rename_i x y t _
  rw [h x (by simp), h y (by simp)]
 ·rfl
theorem xBlt_congr {cx : Cx} {f g : Operand -> Option V} {b : Builtin} {args : Array Operand} {at_ : Array TypeId} {type : TypeId} (h : ∀ x ∈ args.toList, f x = g x) : xBlt cx f b args at_ type = xBlt cx g b args at_ type := by
 have h1 : xClo cx f b args at_ type = xClo cx g b args at_ type := by unfold xClo; rw [allClo_congr h]
 unfold xBlt
 split <;> first | rfl | simp only [h1, xLen_congr h]
theorem xopF_sound (P : Program) : XO.Sound xopF P := by
 refine ⟨fun cx f g M o h => ?_, fun cx hP h0 hi evo M o r h => ?_⟩
 ·obtain ⟨dst, op, type, pos, after, guard⟩ := o
  cases op with
  | binOp op t x y t' => simp only [xopF, xBin, h x (by simp [Op.operands]), h y (by simp [Op.operands])]
  | unOp op t x => simp only [xopF, xUn, h x (by simp [Op.operands])]
  | convert s d x => simp only [xopF, xConv, h x (by simp [Op.operands])]
  | makeInterface t x => simp only [xopF, xMkI, h x (by simp [Op.operands])]
  | index t x i => simp only [xopF, xIndex, h x (by simp [Op.operands]), h i (by simp [Op.operands])]
  | indexAddr t x i => simp only [xopF, xIdxA, h x (by simp [Op.operands]), h i (by simp [Op.operands])]
  | slice t x lo hi mx =>
    have e1 : ∀ d, litN f d lo = litN g d lo := fun d => litN_congr fun y hy => h y (by simp [Op.operands, hy])
    have e2 : ∀ d, litN f d hi = litN g d hi := fun d => litN_congr fun y hy => h y (by simp [Op.operands, hy])
    have e3 : cloO f lo = cloO g lo := cloO_congr fun y hy => h y (by simp [Op.operands, hy])
    have e4 : cloO f hi = cloO g hi := cloO_congr fun y hy => h y (by simp [Op.operands, hy])
    have e5 : cloO f mx = cloO g mx := cloO_congr fun y hy => h y (by simp [Op.operands, hy])
    simp only [xopF, xSlice, h x (by simp [Op.operands]), e1, e2, e3, e4, e5]
  | makeSlice t l c => simp only [xopF, xMkS, h l (by simp [Op.operands]), h c (by simp [Op.operands])]
  | buildSlice t n ps =>
    have h2 : evPairs f ps.toList = evPairs g ps.toList := evPairs_congr fun x hx => h x (by simpa [Op.operands] using hx)
    simp only [xopF, xBuildS, h2]
  | build t ps =>
    have h2 : evPairs f ps.toList = evPairs g ps.toList := evPairs_congr fun x hx => h x (by simpa [Op.operands] using hx)
    simp only [xopF, xBuild, h2]
  | call c =>
    obtain ⟨callee, args, at_⟩ := c
    cases callee with
    | builtin b =>
      have hh : ∀ x ∈ args.toList, f x = g x := fun x hx => h x (by simp [Op.operands, Call.operands]; simpa using hx)
      have e1 := xCopy_congr (cx := cx) (M := M) (at_ := at_) hh
      have e2 : ∀ b, xBlt cx f b args at_ type = xBlt cx g b args at_ type := fun b => xBlt_congr hh
      cases b <;> simp only [xopF] <;> first | exact e1 | exact e2 _
    | invoke recv name =>
      have e1 : f recv = g recv := h recv (by simp [Op.operands, Call.operands])
      have e2 : allM f args.toList = allM g args.toList := allM_congr fun x hx => h x (by simp [Op.operands, Call.operands]; exact .inr (by simpa using hx))
      simp only [xopF, xInv, e1, e2]
    | _ => rfl
  | _ => rfl
 ·have hk := h0.kinds
  obtain ⟨dst, op, type, pos, after, guard⟩ := o
  show Ok3 cx evo M _ r
  cases op with
  | binOp op t x y t' => exact xBin_ok h
  | unOp op t x => exact xUn_ok h
  | convert s d x => exact xConv_ok h
  | makeInterface t x => exact xMkI_ok h
  | index t x i => exact xIndex_ok h
  | indexAddr t x i => exact xIdxA_ok h
  | slice t x lo hi mx => exact xSlice_ok h
  | makeSlice t l c => exact xMkS_ok h
  | buildSlice t n ps => exact xBuildS_ok hk h
  | build t ps => exact xBuild_ok hk h
  | call c =>
    obtain ⟨callee, args, at_⟩ := c
    cases callee with
    | builtin b => cases b <;> first | exact xCopy_ok hk h | exact xBlt_ok h
    | invoke recv name => exact xInv_ok hi h
    | _ => cases h
  | _ => cases h
end
end Go.Eng
namespace Go.Eng
open Go Go.RowKit
noncomputable section
def cloL : List V -> Option (List Value)
 | [] => some []
 | .one c :: l => match c.clo, cloL l with | some v, some vs => some (v :: vs) | _, _ => none
 | _ => none
theorem cloL_den {ext ρ φ} : ∀ {vs : List V} {l : List Value}, cloL vs = some l -> vs.map (V.den (kinds ext) ρ φ) = l
 | [], l, h => by simp [cloL] at h; subst h; rfl
 | .one c :: vs, l, h => by
   simp only [cloL] at h
   split at h
   ·rename_i v l' hv hl
    simp only [Option.some.injEq] at h; subst h
    rw [List.map_cons, cloL_den hl]
    show c.den (kinds ext) ρ φ :: l' = _
    rw [C.clo_den hv]
   ·cases h
 | .agg _ :: _, _, h => by simp [cloL] at h
 | .tup _ :: _, _, h => by simp [cloL] at h
def ofVal : Value -> V
 | .tuple vs => .tup (vs.toList.map fun u => (false, [cellOf u]))
 | v => ofConst v
theorem ofVal_den (ext ρ φ) (v : Value) : (ofVal v).den (kinds ext) ρ φ = v := by
 unfold ofVal
 split
 ·rename_i vs
  simp only [V.den, List.map_map]
  congr 1
  have : (comp (kinds ext) ρ φ ∘ fun u => (false, [cellOf u])) = id := funext fun u => by
   simp [comp, cellOf_den]
  rw [this]; simp
 ·exact ofConst_den ext ρ φ v
def pureH (pv : FuncId -> List Value -> Option Value) : HK := fun f vs _ =>
 match cloL vs with
 | some l => match pv f l with | some v => some (R.pure (ofVal v)) | none => none
 | none => none
def PvOK (P : Program) (pv : FuncId -> List Value -> Option Value) : Prop := ∀ f l v, pv f l = some v -> ∀ w, CallOK P f l.toArray w fun u w' => u = v /\ w' = w
theorem pureH_sound {base : Cx} {pv : FuncId -> List Value -> Option Value} (h : PvOK base.P pv) : (pureH pv).Sound base := by
 intro f vs M r hr
 unfold pureH at hr
 split at hr
 ·rename_i l hl
  split at hr
  ·rename_i v hv
   simp only [Option.some.injEq] at hr; subst hr
   refine ⟨rfl, rfl, .plain rfl rfl rfl rfl, fun ρ φ w hpre => ?_⟩
   rw [cloL_den hl]
   have conv : ∀ u w', (u = v /\ w' = w) -> ∃ φ', PostE base ρ φ w (R.pure (ofVal v)) φ' w' /\ u = (R.pure (ofVal v)).res.den base.K ρ φ' := fun u w' ⟨h1, h2⟩ => by
    subst h1; subst h2
    exact ⟨φ, PostE.plain base ρ rfl (Below.refl _ _), (ofVal_den base.ext ρ φ _).symm⟩
   rcases h f l v hv w with ⟨u, w', a1, a2⟩ | ⟨a1, a2⟩
   ·exact .inl ⟨u, w', a1, conv u w' a2⟩
   ·exact .inr ⟨a1, a2.mono fun e w' ⟨u, b1, b2⟩ => ⟨u, b1, conv u w' b2⟩⟩
  ·cases hr
 ·cases hr
theorem orH_sound {base : Cx} {H G : HK} (h : H.Sound base) (g : G.Sound base) : (orH H G).Sound base := by
 intro f vs M r hr
 unfold orH at hr
 split at hr
 ·rename_i r' hr'
  simp only [Option.some.injEq] at hr; subst hr
  exact h f vs M r' hr'
 ·exact g f vs M r hr
def pvExt (P : Program) (fs : List FuncId) : FuncId -> List Value -> Option Value := fun f l =>
 bif memN f fs then match prun P 6 (callFunc f l.toArray) with | some (.value v) => some v | _ => none else none
theorem pvExt_ok (P : Program) (fs : List FuncId) : PvOK P (pvExt P fs) := by
 intro f l v h w
 unfold pvExt at h
 cases hm : memN f fs with
 | false => rw [hm] at h; cases h
 | true =>
   rw [hm] at h
   simp only [cond_true] at h
   split at h
   ·rename_i u hu
    simp only [Option.some.injEq] at h; subst h
    exact .inl ⟨u, w, prun_ok hu w, rfl, rfl⟩
   ·cases h
theorem run_ext {P : Program} {f : FuncId} {fn : Func} {e : Array Value -> Sem Value} {args : Array Value} {v : Value} {w : World} (hf : P.funcs[f]? = some fn) (hn : (fn.name == "runtime.NumGoroutine") = false) (hb : fn.body.isNone = true) (hx : Extern.findNext fn = none) (he : Extern.find fn = some e)
  (hv : (e args).run P w = .ok v w) : (callFunc f args).run P w = .ok (.value v) w := by
 have hn' : ¬ fn.name = "runtime.NumGoroutine" := by simpa using hn
 simp only [callFunc, program, bind, Sem.bind, Sem.run, hf, hn, hb, hx, he, mark, if_true, Bool.false_eq_true, if_false]
 exact run_bind_ok hv
end
end Go.Eng
