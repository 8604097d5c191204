/-
  The reckoner at this program: types, functions and calls known beforehand.
-/
import Derived.Shelf.Bits.Mul64
import Derived.Test.YtgcdmdkemcgljaaGreatDoorProg
import Derived.WalkKit
import Derived.Defers
import Derived.Tactics
import Derived.Tactics2
import Derived.Test.YtgcdmdkemcgljaaGreatDoorX2
import Derived.Test.YtgcdmdkemcgljaaGreatDoorS1
import Derived.Test.YtgcdmdkemcgljaaGreatDoorX3
set_option linter.unusedVariables false
set_option linter.unusedSimpArgs false
/-
  DERIVED: THE SHELF's CONTRACTS AT THIS DUMP, IN PLAIN WORDS (tools/lay-plain.mjs out of 'TryzShelf.lean', which tools/lay-shelf.mjs wrote): THE SAME DECLARATIONS UNDER THE SAME NAMES: 'import', 'namespace', 'open', 'def', 'theorem' AND NOTHING ELSE: no command of the shelf's: FOR A HAND-IN. Each laying: the table of numbers ('.._ren') and one theorem, a field a fact of the dump's own or the kernel's comparison; each contract: ONE APPLICATION.
-/
namespace Go.Proofs
open Go.Shelf
def Tryz.lays264_ren : Go.Shelf.Ren := ⟨fun | 264 => 89 | n => n, fun | 53 => 53 | 46 => 101 | n => n, fun | n => n⟩
theorem Tryz.lays264 : Go.Proofs.Lays.n264 Tryz.prog Tryz.lays264_ren := {
  mixed := by kernel_rfl
  f264 := Tryz.func89.trans (congrArg some (by kernel_rfl))
  t46 := Tryz.underlying101
  a46 := Tryz.isAgg101
  z46 := Tryz.sizeOf101
  v46 := Tryz.zeroValue101
  t53 := Tryz.underlying53
  a53 := Tryz.isAgg53
  z53 := Tryz.sizeOf53
  v53 := Tryz.zeroValue53 }
open Go.RowKit Go.Lib in
theorem Tryz.bits_Mul64 (x y : Nat) (hx : x < 18446744073709551616) (hy : y < 18446744073709551616) (w : World) :
    Calls Tryz.prog 89 #[.int .u64 x, .int .u64 y] w fun e w' => e = .returned (.tuple #[.int .u64 ((x * y / 18446744073709551616 : Nat) : Int), .int .u64 ((x * y % 18446744073709551616 : Nat) : Int)]) ∧ w' = w := Any.bits_Mul64 Tryz.lays264 x y hx hy w
def Tryz.lays212_ren : Go.Shelf.Ren := ⟨fun | 212 => 192 | 263 => 228 | 264 => 89 | n => n, fun | 46 => 101 | 51 => 59 | 146 => 263 | 53 => 53 | 148 => 132 | n => n, fun | n => n⟩
theorem Tryz.lays212 : Go.Proofs.Lays.n212 Tryz.prog Tryz.lays212_ren := {
  mixed := by kernel_rfl
  f212 := Tryz.func192.trans (congrArg some (by kernel_rfl))
  f263 := Tryz.func228.trans (congrArg some (by kernel_rfl))
  f264 := Tryz.func89.trans (congrArg some (by kernel_rfl))
  t46 := Tryz.underlying101
  a46 := Tryz.isAgg101
  z46 := Tryz.sizeOf101
  v46 := Tryz.zeroValue101
  t51 := Tryz.underlying59
  a51 := Tryz.isAgg59
  z51 := Tryz.sizeOf59
  v51 := Tryz.zeroValue59
  t53 := Tryz.underlying53
  a53 := Tryz.isAgg53
  z53 := Tryz.sizeOf53
  v53 := Tryz.zeroValue53
  t146 := Tryz.underlying263
  a146 := Tryz.isAgg263
  z146 := Tryz.sizeOf263
  v146 := Tryz.zeroValue263
  t148 := Tryz.underlying132
  a148 := Tryz.isAgg132
  z148 := Tryz.sizeOf132
  v148 := Tryz.zeroValue132 }
open Go.RowKit Go.Lib in
/-- math/bits.Mul: "Mul returns the full-width product of x and y": on a machine of 64 bits: Mul64's. (LAID: no walk: one application.) -/
theorem Tryz.bits_Mul (x y : Nat) (hx : x < 18446744073709551616) (hy : y < 18446744073709551616) (w : World) :
    Calls Tryz.prog 192 #[.int .u64 x, .int .u64 y] w fun e w' => e = .returned (.tuple #[.int .u64 ((x * y / 18446744073709551616 : Nat) : Int), .int .u64 ((x * y % 18446744073709551616 : Nat) : Int)]) ∧ w' = w := Any.bits_Mul Tryz.lays212 x y hx hy w
end Go.Proofs
namespace Go.Eng
open Go Go.RowKit Go.Proofs
noncomputable section
set_option maxRecDepth 100000
/-! The functions of this seat that are known beforehand. -/
def isU64 (x : Nat) : Bool := Nat.blt x 18446744073709551616
def pvB : FuncId → List Value → Option Value := fun f l =>
  match l with
  | [.int .u64 (.ofNat x), .int .u64 (.ofNat y), .int .u64 (.ofNat c)] =>
    bif Nat.beq f 86 && Nat.ble c 1 then some (.tuple #[.int .u64 (.ofNat ((x + y + c) % 18446744073709551616)), .int .u64 (.ofNat ((x + y + c) / 18446744073709551616))])
    else bif Nat.beq f 88 && Nat.ble c 1 then some (.tuple #[.int .u64 (.ofNat ((x + 18446744073709551616 - y - c) % 18446744073709551616)), .int .u64 (.ofNat (bif Nat.blt x (y + c) then 1 else 0))]) else none
  | [.int .u64 (.ofNat x), .int .u64 (.ofNat y)] =>
    bif (Nat.beq f 89 || Nat.beq f 192) && isU64 x && isU64 y then some (.tuple #[.int .u64 (.ofNat (x * y / 18446744073709551616)), .int .u64 (.ofNat (x * y % 18446744073709551616))]) else none
  | _ => none
theorem find86 : Extern.find Tryz.f86 = Extern.MathBitsCarry.rows.lookup "math/bits.Add64" := by kernel_rfl
theorem find88 : Extern.find Tryz.f88 = Extern.MathBitsCarry.rows.lookup "math/bits.Sub64" := by kernel_rfl
theorem add64_run (x y c : Nat) (hc : c ≤ 1) (w : World) : (callFunc 86 #[.int .u64 (.ofNat x), .int .u64 (.ofNat y), .int .u64 (.ofNat c)]).run Tryz.prog w =
    .ok (.value (.tuple #[.int .u64 (.ofNat ((x + y + c) % 18446744073709551616)), .int .u64 (.ofNat ((x + y + c) / 18446744073709551616))])) w := by
  refine run_ext (fn := Tryz.f86) (fnOK (by kernel_rfl)).1 (fnOK (f := 86) (by kernel_rfl)).2 (by kernel_rfl) (by kernel_rfl) (find86.trans rfl) ?_
  rcases (by omega : c = 0 ∨ c = 1) with rfl | rfl <;> rfl
theorem sub64_run (x y c : Nat) (hc : c ≤ 1) (w : World) : (callFunc 88 #[.int .u64 (.ofNat x), .int .u64 (.ofNat y), .int .u64 (.ofNat c)]).run Tryz.prog w =
    .ok (.value (.tuple #[.int .u64 (.ofNat ((x + 18446744073709551616 - y - c) % 18446744073709551616)), .int .u64 (.ofNat (bif Nat.blt x (y + c) then 1 else 0))])) w := by
  refine run_ext (fn := Tryz.f88) (fnOK (by kernel_rfl)).1 (fnOK (f := 88) (by kernel_rfl)).2 (by kernel_rfl) (by kernel_rfl) (find88.trans rfl) ?_
  have hb : (bif Nat.blt x (y + c) then 1 else 0) = if x < y + c then 1 else 0 := by
    by_cases hx : x < y + c
    · rw [if_pos hx, Nat.blt_eq.mpr hx]; rfl
    · rw [if_neg hx]
      cases hbb : Nat.blt x (y + c) with
      | true => exact absurd (Nat.blt_eq.mp hbb) hx
      | false => rfl
  rw [hb]
  rcases (by omega : c = 0 ∨ c = 1) with rfl | rfl <;> rfl
theorem pvB_ok : PvOK Tryz.prog pvB := by
  intro f l v h w
  unfold pvB at h
  split at h
  · rename_i x y c
    cases h1 : (Nat.beq f 86 && Nat.ble c 1) with
    | true =>
      rw [h1] at h
      simp only [cond_true, Option.some.injEq] at h; subst h
      simp only [Bool.and_eq_true] at h1
      rw [Nat.eq_of_beq_eq_true h1.1]
      exact .inl ⟨_, w, add64_run x y c (Nat.le_of_ble_eq_true h1.2) w, rfl, rfl⟩
    | false =>
      rw [h1] at h
      simp only [cond_false] at h
      cases h2 : (Nat.beq f 88 && Nat.ble c 1) with
      | true =>
        rw [h2] at h
        simp only [cond_true, Option.some.injEq] at h; subst h
        simp only [Bool.and_eq_true] at h2
        rw [Nat.eq_of_beq_eq_true h2.1]
        exact .inl ⟨_, w, sub64_run x y c (Nat.le_of_ble_eq_true h2.2) w, rfl, rfl⟩
      | false => rw [h2] at h; cases h
  · rename_i x y
    cases h1 : ((Nat.beq f 89 || Nat.beq f 192) && isU64 x && isU64 y) with
    | false => rw [h1] at h; cases h
    | true =>
      rw [h1] at h
      simp only [cond_true, Option.some.injEq] at h; subst h
      simp only [Bool.and_eq_true, Bool.or_eq_true] at h1
      have hx : x < 18446744073709551616 := Nat.blt_eq.mp h1.1.2
      have hy : y < 18446744073709551616 := Nat.blt_eq.mp h1.2
      rcases h1.1.1 with e | e
      · rw [Nat.eq_of_beq_eq_true e]
        exact callOK_of_calls (fn := Tryz.f89) (fnOK (by kernel_rfl)).1 (fnOK (f := 89) (by kernel_rfl)).2 (by kernel_rfl) ((Tryz.bits_Mul64 x y hx hy w).mono fun e w' ⟨h1, h2⟩ => ⟨_, h1, rfl, h2⟩)
      · rw [Nat.eq_of_beq_eq_true e]
        exact callOK_of_calls (fn := Tryz.f192) (fnOK (by kernel_rfl)).1 (fnOK (f := 192) (by kernel_rfl)).2 (by kernel_rfl) ((Tryz.bits_Mul x y hx hy w).mono fun e w' ⟨h1, h2⟩ => ⟨_, h1, rfl, h2⟩)
  · cases h
end
end Go.Eng
namespace Go.Eng
open Go Go.RowKit Go.Proofs
noncomputable section
set_option maxRecDepth 100000
theorem free_d (b o : Nat) (w : World) (hc : w.cell? ⟨b, o, none⟩ = some (.pointer none)) (u : FrameMode) :
    CallsD Tryz.prog 112 #[.pointer (some ⟨b, o, none⟩)] u w fun e u' w' => u' = u ∧ (∃ v, e = .returned v) ∧ w' = w := by
  go_enter_d Tryz.func112, Tryz.ntmps112
  go_wp2
  go_end0
  exact ⟨⟨_, rfl⟩, rfl⟩

/-! ## The context of this seat -/
noncomputable def isNilP : Option (List C) → Bool
  | some [.val (.pointer none)] => true
  | _ => false
noncomputable def dqF (f : FuncId) (vs : List V) (M : List Reg) : Option (List (Nat × Nat × List C)) :=
  bif Nat.beq f 112 then (match vs with
    | [.one (.ptr r o)] => bif isNilP (readC M r o 1) then some [(r, o, [.val (.pointer none)])] else none
    | _ => none) else none
noncomputable def base0 : Cx := { P := Tryz.prog, ext := fun _ => boolKind, cs := [], gl := [(0, 0), (1, 1), (4, 2), (2, 3)], dec := fun _ _ => none, inl := fun _ _ _ => none, xop := fun _ _ _ => none, dq := dqF, alt := fun _ _ _ => none, ti := tyT.get, un := undOf tyT.get, tiOK := tyOK, unOK := undOf_ok tyOK }
noncomputable def base : Cx := { base0 with alt := altF base0 }
noncomputable def H0 : HK := orH (pureH pvB) (pureH (pvExt Tryz.prog [216, 217, 183]))
theorem kindsGood (k : Nat) : (base.K k).Good := by
  have hb : boolKind.Good := ⟨fun _ => rfl, fun n v hv => by simp [boolKind] at hv; subst hv; rfl⟩
  have hi : ∀ ik, (intKind ik).Good := fun ik => ⟨fun _ => rfl, fun n v hv => by simp [intKind] at hv; subst hv; rfl⟩
  show (kinds (fun _ => boolKind) k).Good
  unfold kinds
  split <;> first | exact hi _ | exact hb
theorem dq_good (f : FuncId) (vs : List V) (M : List Reg) (l : List (Nat × Nat × List C)) (h : dqF f vs M = some l) : (∀ x ∈ l, ∃ reg, M[x.1]? = some reg ∧ x.2.1 + x.2.2.length ≤ reg.cells.length ∧ ∀ j c, x.2.2[j]? = some c → reg.cells[x.2.1 + j]? = some c) ∧
    ∀ (ρ : Nat → Int) (φ : Nat → Pl) (w : World), (∀ x ∈ l, cellsAt w (pl φ x.1 x.2.1) (denL base ρ φ x.2.2)) → QuietD Tryz.prog f (vs.map (V.den base.K ρ φ)).toArray w := by
  unfold dqF at h
  cases hf : Nat.beq f 112 with
  | false => rw [hf] at h; cases h
  | true =>
    rw [hf] at h
    simp only [cond_true] at h
    have := Nat.eq_of_beq_eq_true hf
    subst this
    split at h
    · rename_i r o
      cases hn : isNilP (readC M r o 1) with
      | false => rw [hn] at h; cases h
      | true =>
        rw [hn] at h
        simp only [cond_true, Option.some.injEq] at h; subst h
        unfold isNilP at hn
        split at hn
        · rename_i hr
          refine ⟨fun x hx => ?_, fun ρ φ w hc => ?_⟩
          · simp only [List.mem_singleton] at hx; subst hx
            exact (readC_get' hr).2
          · have h0 := hc (r, o, [.val (.pointer none)]) (by simp) 0 (.pointer none) rfl
            have h1 : w.cell? ⟨(φ r).b, (φ r).o + o, none⟩ = some (.pointer none) := h0
            refine ⟨?_, fun u => (free_d _ _ w h1 u).mono fun e u' w' h => ⟨h.2.1, h.1, h.2.2⟩⟩
            have hb : (fnT.get 112) = some Tryz.f112 := by kernel_rfl
            obtain ⟨k1, k2⟩ := fnOK hb
            have hbody : Tryz.f112.body.isNone = false := by kernel_rfl
            have hn' : ¬ Tryz.f112.name = "runtime.NumGoroutine" := by simpa using k2
            have hb2 : ¬ Tryz.f112.body = none := fun e => by rw [e] at hbody; cases hbody
            simp [callFunc, program, bind, Sem.bind, Sem.run, k1, hn', hb2, pure]
        · cases hn
    · cases h
theorem base_good : base.Good0 := by
  refine ⟨kindsGood, fun c hc => (by cases hc), fun k l n h => (by cases h), dq_good, fun evo M o rs h => ?_⟩
  obtain ⟨h1, h2⟩ := altF_ok (cx := base0) kindsGood evo M o rs h
  exact ⟨h1, fun ρ => AltOK_congr (cx := base0) (cx' := base) rfl rfl rfl (h2 ρ)⟩
theorem follows : base.P.follows .mixedOrders = true := by kernel_rfl
theorem H0_sound : H0.Sound base := orH_sound (pureH_sound pvB_ok) (pureH_sound (pvExt_ok Tryz.prog _))
/-- The context with calls reckoned in place, to a depth. -/
noncomputable def cxD (H : HK) (d : Nat) : Cx := lvl base xopF H fnT.get 5 200 d
theorem cxD_good {H : HK} (hH : H.Sound base) (d : Nat) : (cxD H d).Good := lvl_good (xopF_sound _) hH base_good follows (fun f fn h => fnOK h) 5 200 d
end
end Go.Eng
