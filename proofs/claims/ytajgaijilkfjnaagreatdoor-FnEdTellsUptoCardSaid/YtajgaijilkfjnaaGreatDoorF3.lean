/-
 The field: products, sums and opposites of any elements (Montgomery form), as contracts.
-/
import Derived.Test.YtajgaijilkfjnaaGreatDoorF2
import Derived.Test.YtajgaijilkfjnaaGreatDoorA2
set_option linter.unusedVariables false
set_option linter.unusedSimpArgs false
namespace Go.Eng
open Go Go.RowKit Go.Proofs
noncomputable section
set_option maxRecDepth 100000
theorem gam_get {i k : Nat} : ∀ {n : Nat}, (gam n .lf).get i = some k -> i < n /\ k = 7
 | 0, h => by rw [Tr.get_eq] at h; cases h
 | n + 1, h => by
   rcases Tr.get_set _ _ _ _ _ h with ⟨rfl, rfl⟩ | ⟨_, h1⟩
   ·exact ⟨Nat.lt_succ_self _, rfl⟩
   ·have := gam_get h1
    exact ⟨by omega, this.2⟩
theorem gam_ok {ρ : Nat -> Int} {n : Nat} (h : ∀ i, i < n -> ∃ x : Nat, x < 18446744073709551616 /\ ρ i = (x : Int)) : GamOK cxS ρ (gam n .lf) := fun i k hk => by
 obtain ⟨h1, rfl⟩ := gam_get hk
 obtain ⟨x, h2, h3⟩ := h i h1
 rw [h3]
 exact ok7_of h2
def phi2 (p q : Pl) : Nat -> Pl
 | 0 => p
 | _ => q
theorem call2 {f : FuncId} {fn : Func} {c : Code} {vs : List V} {ρ : Nat -> Int} {i0 i1 n : Nat} {p q : Pl} {w : World} {Q : List C -> Prop} (hf : Tryz.prog.funcs[f]? = some fn) (hb : fn.body = some c) (hle : Nat.ble (lenN vs) fn.ntmps = true)
  (hvs : inAll [0, 1] (vmens vs) = true) (hren : vs.map (V.ren (inv [0, 1])) = vs) (hg : ∀ i, i < n -> ∃ x : Nat, x < 18446744073709551616 /\ ρ i = (x : Int))
  (h : (evTF fn vs [⟨four i0, true⟩, ⟨four i1, false⟩] n).holds ρ (LeafIs fun v M => v = .one (.ptr 0 0) /\ ∃ cs, M = [⟨cs, true⟩, ⟨four i1, false⟩] /\ cs.length = 4 /\ menL cs = [] /\ Q cs))
  (hp : cellsAt w p ((four i0).map (C.den base.K ρ fun _ => p))) (hu : unfr w p.b) (hq : cellsAt w q ((four i1).map (C.den base.K ρ fun _ => p))) (hd : p.b ≠ q.b \/ p.o + 4 <= q.o \/ q.o + 4 <= p.o) :
  Calls Tryz.prog f (vs.map (V.den base.K ρ fun i => phi2 p q (([0, 1] : List Nat).getD i 0))).toArray w fun e w' => ∃ cs, Q cs /\ e = .returned (.pointer (some (at_ p 0))) /\ Ext (putCells w p (cs.map (C.den base.K ρ fun _ => p))) w' := by
 have hlt : ∀ {r : Pl} {i : Nat}, cellsAt w r ((four i).map (C.den base.K ρ fun _ => p)) -> (∀ j, j < 4 -> ∃ v, w.cell? (at_ r j) = some v) /\ r.b < w.heap.size := fun {r i} hc => by
  have h0 := hc 0 _ rfl
  refine ⟨fun j hj => ?_, cell?_lt h0⟩
  match j, hj with
  | 0, _ => exact ⟨_, hc 0 _ rfl⟩
  | 1, _ => exact ⟨_, hc 1 _ rfl⟩
  | 2, _ => exact ⟨_, hc 2 _ rfl⟩
  | 3, _ => exact ⟨_, hc 3 _ rfl⟩
 have hrds : ∀ x ∈ rdsOf [0, 1] [(⟨four i0, true⟩ : Reg), ⟨four i1, false⟩], cellsAt w (pl (phi2 p q) x.1 x.2.1) (denL cxS ρ (phi2 p q) x.2.2) := fun x hx => by
  have hx' : x ∈ [(0, 0, four i0), (1, 0, four i1)] := hx
  simp only [List.mem_cons, List.not_mem_nil, or_false] at hx'
  rcases hx' with rfl | rfl
  ·exact hp
  ·exact hq
 have hdj : DjE (phi2 p q) w (djOf [0, 1] [(⟨four i0, true⟩ : Reg), ⟨four i1, false⟩]) := by
  have hl : djOf [0, 1] [(⟨four i0, true⟩ : Reg), ⟨four i1, false⟩] = [(0, 4, true), (1, 4, false)] := rfl
  rw [hl]
  refine ⟨fun x hx => ?_, fun x hx y hy hne hw => ?_⟩
  ·simp only [List.mem_cons, List.not_mem_nil, or_false] at hx
   rcases hx with rfl | rfl
   ·exact ⟨(hlt hp).1, fun _ _ _ => hu, (hlt hp).2⟩
   ·exact ⟨(hlt hq).1, fun hh => (by cases hh), (hlt hq).2⟩
  ·simp only [List.mem_cons, List.not_mem_nil, or_false] at hx hy
   rcases hx with rfl | rfl
   ·rcases hy with rfl | rfl
    ·exact absurd rfl hne
    ·exact hd
   ·cases hw
 have h0 := rel0 (cx := cxS) (ρ := ρ) (φ := phi2 p q) (w := w) (vs := vs) (M := [⟨four i0, true⟩, ⟨four i1, false⟩]) (rs := [0, 1]) rfl (by decide) rfl hvs hrds hdj
 rw [hren] at h0
 have hT : (evT cxS 200 fn c vs [⟨four i0, true⟩, ⟨four i1, false⟩] n (gam n .lf)).holds ρ (LeafIs fun v M => v = .one (.ptr 0 0) /\ ∃ cs, M = [⟨cs, true⟩, ⟨four i1, false⟩] /\ cs.length = 4 /\ menL cs = [] /\ Q cs) := by
  unfold evTF at h
  rw [hb] at h
  exact h
 have hc := evT_ok (ρ := ρ) cxS_good follows hf hb hle (gam_ok hg) hT h0 (fun g r hl => by cases hl)
 refine Calls.mono hc ?_
 rintro e w' ⟨φ', σ', v, M', ⟨rfl, cs, rfl, hl4, hmen, hQ⟩, rfl, hR, hcc, hgg, hold, _⟩
 have hφ : φ' 0 = p := hold 0 (show 0 < 2 by decide)
 refine ⟨cs, hQ, ?_, ?_⟩
 ·show Ending.returned (.pointer (some (paddr φ' 0 0))) = _
  unfold paddr at_
  rw [hφ]
 ·have hos := putCells_os (cs.map (C.den base.K ρ fun _ => p)) w p
  have hsz := putCells_size (cs.map (C.den base.K ρ fun _ => p)) w p
  have hB : Below w.heap.size (putCells w p (cs.map (C.den base.K ρ fun _ => p))) w' := by
   refine below_of_sameBut (D := dOf (fun i => phi2 p q (([0, 1] : List Nat).getD i 0)) [⟨four i0, true⟩, ⟨four i1, false⟩]) (w0 := w) ⟨hos.1, hos.2.1, hos.2.2.1, hsz⟩ (SameBut.putCells _ p (SameBut.refl _ _ _) fun j hj _ => ?_) hR.same (Nat.le_refl _) (fun b o hb2 hD => ?_)
   ·have hj4 : j < 4 := by simpa [hl4] using hj
    exact ⟨0, _, j, rfl, rfl, hj4, rfl, rfl⟩
   ·obtain ⟨i, reg, j, hi, hw, hj, e1, e2⟩ := hD
    match i, hi with
    | 0, hi =>
      simp only [List.getElem?_cons_zero, Option.some.injEq] at hi
      subst hi
      have hj4 : j < 4 := hj
      have e1' : p.b = b := e1
      have e2' : p.o + j = o := e2
      subst e1' e2'
      obtain ⟨u, hu2⟩ := (hlt hp).1 j hj4
      have hcj : cs[j]? = some (cs[j]'(by omega)) := List.getElem?_eq_getElem (by omega)
      have h1 := putCells_cell_in (cs.map (C.den base.K ρ fun _ => p)) w p j u ((cs[j]'(by omega)).den base.K ρ fun _ => p) hu2 (by rw [List.getElem?_map, hcj]; rfl)
      have h2 := hR.cell 0 j (cs[j]'(by omega)) (by rw [<- hcc]; simp [mg, hcj])
      rw [hφ] at h2
      have hm : ∀ m ∈ menL cs, False := fun m hm => by rw [hmen] at hm; cases hm
      have h3 : (cs[j]'(by omega)).den cxS.K ρ φ' = (cs[j]'(by omega)).den base.K ρ fun _ => p := C.den_congr fun r hr => (hm r (List.mem_filterMap.2 ⟨_, List.getElem_mem _, hr⟩)).elim
      rw [h3] at h2
      show (putCells w p _).cell? (at_ p j) = w'.cell? (at_ p j)
      rw [h1, h2]
    | 1, hi =>
      simp only [List.getElem?_cons_succ, List.getElem?_cons_zero, Option.some.injEq] at hi
      subst hi
      cases hw
  exact ⟨hB.os, hB.tape, hB.output, hB.size, fun b hb2 => hB.block b (by rw [hsz] at hb2; exact hb2)⟩
def Words (w : World) (p : Pl) (X : Nat) : Prop := ∃ x0 x1 x2 x3 : Nat, x0 < 18446744073709551616 /\ x1 < 18446744073709551616 /\ x2 < 18446744073709551616 /\ x3 < 18446744073709551616 /\ val4 x0 x1 x2 x3 = X /\ cellsAt w p [.int .u64 (x0 : Int), .int .u64 (x1 : Int), .int .u64 (x2 : Int), .int .u64 (x3 : Int)]
def Put4 (w : World) (p : Pl) (Z : Nat) (w' : World) : Prop := ∃ z0 z1 z2 z3 : Nat, z0 < 18446744073709551616 /\ z1 < 18446744073709551616 /\ z2 < 18446744073709551616 /\ z3 < 18446744073709551616 /\ val4 z0 z1 z2 z3 = Z /\ Ext (putCells w p [.int .u64 (z0 : Int), .int .u64 (z1 : Int), .int .u64 (z2 : Int), .int .u64 (z3 : Int)]) w'
def rho8 (a b c d e f g h : Nat) : Nat -> Int
 | 0 => a | 1 => b | 2 => c | 3 => d | 4 => e | 5 => f | 6 => g | 7 => h | _ => 0
def mulPost (X Y : Nat) (ρ : Nat -> Int) (cs : List C) : Prop := ∃ z0 z1 z2 z3 : Nat, z0 < 18446744073709551616 /\ z1 < 18446744073709551616 /\ z2 < 18446744073709551616 /\ z3 < 18446744073709551616 /\ val4 z0 z1 z2 z3 < frQ /\ frR * val4 z0 z1 z2 z3 % frQ = X * Y % frQ /\
 ∀ φ, cs.map (C.den base.K ρ φ) = [.int .u64 (z0 : Int), .int .u64 (z1 : Int), .int .u64 (z2 : Int), .int .u64 (z3 : Int)]
theorem mulPost_of {X Y Z : Nat} {ρ : Nat -> Int} {R : List Reg} {v : V} {M : List Reg} (hZ : Z < frQ) (h : 115792089237316195423570985008687907853269984665640564039457584007913129639936 * Z % frQ = X * Y % frQ) (hF : Four ρ Z R v M) :
  v = .one (.ptr 0 0) /\ ∃ cs, M = ⟨cs, true⟩ :: R /\ cs.length = 4 /\ menL cs = [] /\ mulPost X Y ρ cs := by
 obtain ⟨rfl, a, b, c, d, z0, z1, z2, z3, rfl, ha, hb, hc, hd, b0, b1, b2, b3, rfl⟩ := hF
 refine ⟨rfl, _, rfl, rfl, rfl, z0, z1, z2, z3, b0, b1, b2, b3, hZ, h, fun φ => ?_⟩
 show [Value.int .u64 (A.den ρ a), .int .u64 (A.den ρ b), .int .u64 (A.den ρ c), .int .u64 (A.den ρ d)] = _
 rw [ha, hb, hc, hd]
theorem body68 : ∃ c, Tryz.f53.body = some c := Option.isSome_iff_exists.1 (by kernel_rfl)
theorem mul_zy {p q : Pl} {w : World} {X Y : Nat} (hX : Words w p X) (hu : unfr w p.b) (hY : Words w q Y) (hYq : Y < frQ) (hd : p.b ≠ q.b \/ p.o + 4 <= q.o \/ q.o + 4 <= p.o) :
  Calls Tryz.prog 53 #[.pointer (some (at_ p 0)), .pointer (some (at_ p 0)), .pointer (some (at_ q 0))] w fun e w' => e = .returned (.pointer (some (at_ p 0))) /\ ∃ Z, Z < frQ /\ frR * Z % frQ = X * Y % frQ /\ Put4 w p Z w' := by
 obtain ⟨x0, x1, x2, x3, a0, a1, a2, a3, rfl, hX⟩ := hX
 obtain ⟨y0, y1, y2, y3, c0, c1, c2, c3, rfl, hY⟩ := hY
 obtain ⟨c, hb⟩ := body68
 obtain ⟨ρ, hρ, hT⟩ := T.exists_holds (Ψ := fun ρ => LeafIs fun v M => v = .one (.ptr 0 0) /\ ∃ cs, M = [⟨cs, true⟩, ⟨four 4, false⟩] /\ cs.length = 4 /\ menL cs = [] /\ mulPost (val4 x0 x1 x2 x3) (val4 y0 y1 y2 y3) ρ cs) mulT2 8 (rho8 x0 x1 x2 x3 y0 y1 y2 y3) (by kernel_rfl) (fun ρ h =>
  mulT2_vc (h 0 (by decide)) a0 (h 1 (by decide)) a1 (h 2 (by decide)) a2 (h 3 (by decide)) a3 (h 4 (by decide)) c0 (h 5 (by decide)) c1 (h 6 (by decide)) c2 (h 7 (by decide)) c3 hYq (fun Z hZ he v M hF => ⟨.inr rfl, v, rfl, mulPost_of hZ he hF⟩))
 rw [<- mulT2_eq] at hT
 have hr : ∀ i, i < 8 -> ∃ x : Nat, x < 18446744073709551616 /\ ρ i = (x : Int) := fun i hi => by
  rw [hρ i hi]
  match i, hi with
  | 0, _ => exact ⟨x0, a0, rfl⟩
  | 1, _ => exact ⟨x1, a1, rfl⟩
  | 2, _ => exact ⟨x2, a2, rfl⟩
  | 3, _ => exact ⟨x3, a3, rfl⟩
  | 4, _ => exact ⟨y0, c0, rfl⟩
  | 5, _ => exact ⟨y1, c1, rfl⟩
  | 6, _ => exact ⟨y2, c2, rfl⟩
  | 7, _ => exact ⟨y3, c3, rfl⟩
 have e0 : (four 0).map (C.den base.K ρ fun _ => p) = [.int .u64 (x0 : Int), .int .u64 (x1 : Int), .int .u64 (x2 : Int), .int .u64 (x3 : Int)] := by
  show [Value.int .u64 (ρ 0), .int .u64 (ρ 1), .int .u64 (ρ 2), .int .u64 (ρ 3)] = _
  rw [hρ 0 (by decide), hρ 1 (by decide), hρ 2 (by decide), hρ 3 (by decide)]; rfl
 have e4 : (four 4).map (C.den base.K ρ fun _ => p) = [.int .u64 (y0 : Int), .int .u64 (y1 : Int), .int .u64 (y2 : Int), .int .u64 (y3 : Int)] := by
  show [Value.int .u64 (ρ 4), .int .u64 (ρ 5), .int .u64 (ρ 6), .int .u64 (ρ 7)] = _
  rw [hρ 4 (by decide), hρ 5 (by decide), hρ 6 (by decide), hρ 7 (by decide)]; rfl
 have hf : Tryz.prog.funcs[53]? = some Tryz.f53 := (fnOK (f := 53) (by kernel_rfl)).1
 have hcall := call2 (f := 53) (fn := Tryz.f53) (c := c) (vs := [.one (.ptr 0 0), .one (.ptr 0 0), .one (.ptr 1 0)]) (ρ := ρ) (i0 := 0) (i1 := 4) (n := 8) (p := p) (q := q) (w := w) (Q := mulPost (val4 x0 x1 x2 x3) (val4 y0 y1 y2 y3) ρ) hf hb (by kernel_rfl) rfl rfl hr hT (by rw [e0]; exact hX) hu (by rw [e4]; exact hY) hd
 refine Calls.mono hcall ?_
 rintro e w' ⟨cs, ⟨z0, z1, z2, z3, b0, b1, b2, b3, hZ, he, hden⟩, rfl, hE⟩
 rw [hden] at hE
 exact ⟨rfl, _, hZ, he, z0, z1, z2, z3, b0, b1, b2, b3, rfl, hE⟩
theorem mul_xx {p q : Pl} {w : World} {X Z0 : Nat} (hZ0 : Words w p Z0) (hu : unfr w p.b) (hX : Words w q X) (hXq : X < frQ) (hd : p.b ≠ q.b \/ p.o + 4 <= q.o \/ q.o + 4 <= p.o) :
  Calls Tryz.prog 53 #[.pointer (some (at_ p 0)), .pointer (some (at_ q 0)), .pointer (some (at_ q 0))] w fun e w' => e = .returned (.pointer (some (at_ p 0))) /\ ∃ Z, Z < frQ /\ frR * Z % frQ = X * X % frQ /\ Put4 w p Z w' := by
 obtain ⟨x0, x1, x2, x3, a0, a1, a2, a3, rfl, hX⟩ := hX
 obtain ⟨y0, y1, y2, y3, c0, c1, c2, c3, -, hY⟩ := hZ0
 obtain ⟨c, hb⟩ := body68
 obtain ⟨ρ, hρ, hT⟩ := T.exists_holds (Ψ := fun ρ => LeafIs fun v M => v = .one (.ptr 0 0) /\ ∃ cs, M = [⟨cs, true⟩, ⟨four 0, false⟩] /\ cs.length = 4 /\ menL cs = [] /\ mulPost (val4 x0 x1 x2 x3) (val4 x0 x1 x2 x3) ρ cs) mulT1 8 (rho8 x0 x1 x2 x3 y0 y1 y2 y3) (by kernel_rfl) (fun ρ h =>
  mulT1_vc (h 0 (by decide)) a0 (h 1 (by decide)) a1 (h 2 (by decide)) a2 (h 3 (by decide)) a3 hXq (fun Z hZ he v M hF => ⟨.inr rfl, v, rfl, mulPost_of hZ he hF⟩))
 rw [<- mulT1_eq] at hT
 have hr : ∀ i, i < 8 -> ∃ x : Nat, x < 18446744073709551616 /\ ρ i = (x : Int) := fun i hi => by
  rw [hρ i hi]
  match i, hi with
  | 0, _ => exact ⟨x0, a0, rfl⟩
  | 1, _ => exact ⟨x1, a1, rfl⟩
  | 2, _ => exact ⟨x2, a2, rfl⟩
  | 3, _ => exact ⟨x3, a3, rfl⟩
  | 4, _ => exact ⟨y0, c0, rfl⟩
  | 5, _ => exact ⟨y1, c1, rfl⟩
  | 6, _ => exact ⟨y2, c2, rfl⟩
  | 7, _ => exact ⟨y3, c3, rfl⟩
 have e0 : (four 0).map (C.den base.K ρ fun _ => p) = [.int .u64 (x0 : Int), .int .u64 (x1 : Int), .int .u64 (x2 : Int), .int .u64 (x3 : Int)] := by
  show [Value.int .u64 (ρ 0), .int .u64 (ρ 1), .int .u64 (ρ 2), .int .u64 (ρ 3)] = _
  rw [hρ 0 (by decide), hρ 1 (by decide), hρ 2 (by decide), hρ 3 (by decide)]; rfl
 have e4 : (four 4).map (C.den base.K ρ fun _ => p) = [.int .u64 (y0 : Int), .int .u64 (y1 : Int), .int .u64 (y2 : Int), .int .u64 (y3 : Int)] := by
  show [Value.int .u64 (ρ 4), .int .u64 (ρ 5), .int .u64 (ρ 6), .int .u64 (ρ 7)] = _
  rw [hρ 4 (by decide), hρ 5 (by decide), hρ 6 (by decide), hρ 7 (by decide)]; rfl
 have hf : Tryz.prog.funcs[53]? = some Tryz.f53 := (fnOK (f := 53) (by kernel_rfl)).1
 have hcall := call2 (f := 53) (fn := Tryz.f53) (c := c) (vs := [.one (.ptr 0 0), .one (.ptr 1 0), .one (.ptr 1 0)]) (ρ := ρ) (i0 := 4) (i1 := 0) (n := 8) (p := p) (q := q) (w := w) (Q := mulPost (val4 x0 x1 x2 x3) (val4 x0 x1 x2 x3) ρ) hf hb (by kernel_rfl) rfl rfl hr hT (by rw [e4]; exact hY) hu (by rw [e0]; exact hX) hd
 refine Calls.mono hcall ?_
 rintro e w' ⟨cs, ⟨z0, z1, z2, z3, b0, b1, b2, b3, hZ, he, hden⟩, rfl, hE⟩
 rw [hden] at hE
 exact ⟨rfl, _, hZ, he, z0, z1, z2, z3, b0, b1, b2, b3, rfl, hE⟩
end
end Go.Eng
namespace Go.Eng
open Go Go.RowKit Go.Proofs
noncomputable section
set_option maxRecDepth 1000000
theorem add_sum {x0 x1 x2 x3 y0 y1 y2 y3 s0 s1 s2 s3 c0 c1 c2 c3 : Nat} (hX : val4 x0 x1 x2 x3 < frQ) (hY : val4 y0 y1 y2 y3 < frQ) (e0 : A64 x0 y0 0 s0 c0) (e1 : A64 x1 y1 c0 s1 c1) (e2 : A64 x2 y2 c1 s2 c2) (e3 : A64 x3 y3 c2 s3 c3) :
  val4 s0 s1 s2 s3 = val4 x0 x1 x2 x3 + val4 y0 y1 y2 y3 := by
 have g0 : s0 + 18446744073709551616 * c0 = x0 + y0 := e0.1
 have h := ch4 g0 e1.1 e2.1 e3.1
 have hc := e3.2.2
 generalize val4 x0 x1 x2 x3 = X at *
 generalize val4 y0 y1 y2 y3 = Y at *
 generalize val4 s0 s1 s2 s3 = S at *
 clear e0 e1 e2 e3 g0
 unfold frQ at *
 omega
theorem add_lt2 {X Y : Nat} (hX : X < frQ) (hY : Y < frQ) : X + Y < 2 * frQ := by omega
theorem neg_sum {x0 x1 x2 x3 s0 s1 s2 s3 c0 c1 c2 c3 : Nat} (hX : val4 x0 x1 x2 x3 < frQ) (e0 : S64 q0 x0 0 s0 c0) (e1 : S64 q1 x1 c0 s1 c1) (e2 : S64 q2 x2 c1 s2 c2) (e3 : S64 q3 x3 c2 s3 c3) : val4 s0 s1 s2 s3 = frQ - val4 x0 x1 x2 x3 := by
 have h := sub4 e0 e1 e2 e3
 rw [q_val] at h
 have hs := val4_lt e0.2.1 e1.2.1 e2.2.1 e3.2.1
 have hc := e3.2.2
 generalize val4 x0 x1 x2 x3 = X at *
 generalize val4 s0 s1 s2 s3 = S at *
 clear e0 e1 e2 e3
 unfold frQ at *
 omega
theorem vc_iz {ρ : Nat -> Int} {Ψ : Ek -> St -> Prop} {t : T} {nv : Nat} {a b c d : A} {x y z u : Nat} (ha : A.den ρ a = (x : Int)) (hb : A.den ρ b = (y : Int)) (hc : A.den ρ c = (z : Int)) (hd : A.den ρ d = (u : Int))
  (h1 : val4 x y z u = 0 -> ρ nv = 1 -> t.vc ρ Ψ) (h0 : ¬ val4 x y z u = 0 -> ρ nv = 0 -> t.vc ρ Ψ) : (T.def_ nv (.ctr cIz) [a, b, c, d] 1 t).vc ρ Ψ := by
 refine ⟨trivial, fun he => ?_⟩
 have h : ρ nv = if A.den ρ a + A.den ρ b * 18446744073709551616 + A.den ρ c * 340282366920938463463374607431768211456 + A.den ρ d * 6277101735386680763835789423207666416102355444464034512896 = 0 then 1 else 0 := he.1
 rw [ha, hb, hc, hd] at h
 by_cases hlt : val4 x y z u = 0
 ·rw [if_pos (by unfold val4 at hlt; omega)] at h
  exact h1 hlt h
 ·rw [if_neg (by unfold val4 at hlt; omega)] at h
  exact h0 hlt h
theorem vc_sz {ρ : Nat -> Int} {Ψ : Ek -> St -> Prop} {t : T} {nv : Nat} {l : List A} (h : ρ nv = ((0 : Nat) : Int) -> ρ (nv + 1) = ((0 : Nat) : Int) -> ρ (nv + 2) = ((0 : Nat) : Int) -> ρ (nv + 3) = ((0 : Nat) : Int) -> t.vc ρ Ψ) : (T.def_ nv (.ctr cSz) l 4 t).vc ρ Ψ :=
 ⟨trivial, fun he => h he.1 he.2.1 he.2.2.1 he.2.2.2.1⟩
def addT1 : T := (T.def_ 8 (Fn.ctr cA64) [(A.v 0), (A.v 4), (A.n 0)] 2 (T.def_ 10 (Fn.ctr cA64) [(A.v 1), (A.v 5), (A.v 9)] 2 (T.def_ 12 (Fn.ctr cA64) [(A.v 2), (A.v 6), (A.v 11)] 2 (T.def_ 14 (Fn.ctr cA64) [(A.v 3), (A.v 7), (A.v 13)] 2 (T.def_ 16 (Fn.ctr cLt) [(A.v 8), (A.v 10), (A.v 12), (A.v 14)] 1 (T.def_ 17 Fn.nt [(A.v 16)] 1 (T.br 17 (T.def_ 18 (Fn.ctr cS64) [(A.v 8), (A.n (Int.ofNat 4891460686036598785)), (A.n 0)] 2 (T.def_ 20 (Fn.ctr cS64) [(A.v 10), (A.n (Int.ofNat 2896914383306846353)), (A.v 19)] 2 (T.def_ 22 (Fn.ctr cS64) [(A.v 12), (A.n (Int.ofNat 13281191951274694749)), (A.v 21)] 2 (T.def_ 24 (Fn.ctr cS64) [(A.v 14), (A.n (Int.ofNat 3486998266802970665)), (A.v 23)] 2 (T.leaf Ek.r (St.mk (Tr.nd Tr.lf (some (V.one (C.ptr 0 0))) Tr.lf) [(Reg.mk [(C.ch 7 (A.v 18) 0), (C.ch 7 (A.v 20) 0), (C.ch 7 (A.v 22) 0), (C.ch 7 (A.v 24) 0)] true), (Reg.mk [(C.ch 7 (A.v 4) 0), (C.ch 7 (A.v 5) 0), (C.ch 7 (A.v 6) 0), (C.ch 7 (A.v 7) 0)] false)] 0 Tr.lf)))))) (T.leaf Ek.r (St.mk (Tr.nd Tr.lf (some (V.one (C.ptr 0 0))) Tr.lf) [(Reg.mk [(C.ch 7 (A.v 8) 0), (C.ch 7 (A.v 10) 0), (C.ch 7 (A.v 12) 0), (C.ch 7 (A.v 14) 0)] true), (Reg.mk [(C.ch 7 (A.v 4) 0), (C.ch 7 (A.v 5) 0), (C.ch 7 (A.v 6) 0), (C.ch 7 (A.v 7) 0)] false)] 0 Tr.lf)))))))))
theorem addT1_eq : evTF Tryz.f55 [.one (.ptr 0 0), .one (.ptr 0 0), .one (.ptr 1 0)] [⟨four 0, true⟩, ⟨four 4, false⟩] 8 = addT1 := by kernel_rfl
theorem addT1_vc {ρ : Nat -> Int} {x0 x1 x2 x3 y0 y1 y2 y3 : Nat} (h0 : ρ 0 = (x0 : Int)) (b0 : x0 < 18446744073709551616) (h1 : ρ 1 = (x1 : Int)) (b1 : x1 < 18446744073709551616) (h2 : ρ 2 = (x2 : Int)) (b2 : x2 < 18446744073709551616) (h3 : ρ 3 = (x3 : Int)) (b3 : x3 < 18446744073709551616) (h4 : ρ 4 = (y0 : Int)) (b4 : y0 < 18446744073709551616) (h5 : ρ 5 = (y1 : Int)) (b5 : y1 < 18446744073709551616) (h6 : ρ 6 = (y2 : Int)) (b6 : y2 < 18446744073709551616) (h7 : ρ 7 = (y3 : Int)) (b7 : y3 < 18446744073709551616) (hX : val4 x0 x1 x2 x3 < frQ) (hY : val4 y0 y1 y2 y3 < frQ) {Ψ : Ek -> St -> Prop}
  (hfin : ∀ Z, Z = (val4 x0 x1 x2 x3 + val4 y0 y1 y2 y3) % frQ -> ∀ v M, Four ρ Z [⟨four 4, false⟩] v M -> Ψ .r ⟨.nd .lf (some v) .lf, M, 0, .lf⟩) : addT1.vc ρ Ψ := by
 unfold addT1
 refine vc_a64 (x := x0) (y := y0) (z := 0) h0 h4 rfl b0 b4 (by decide) fun w8 w9 h8 h9 e8 b8 b9 => ?_
 refine vc_a64 (x := x1) (y := y1) (z := w9) h1 h5 h9 b1 b5 b9 fun w10 w11 h10 h11 e10 b10 b11 => ?_
 refine vc_a64 (x := x2) (y := y2) (z := w11) h2 h6 h11 b2 b6 b11 fun w12 w13 h12 h13 e12 b12 b13 => ?_
 refine vc_a64 (x := x3) (y := y3) (z := w13) h3 h7 h13 b3 b7 b13 fun w14 w15 h14 h15 e14 b14 b15 => ?_
 have C := add_sum hX hY e8 e10 e12 e14
 have hT := add_lt2 hX hY
 rw [<- C] at hT
 refine vc_lt h8 h10 h12 h14 (fun hlt hb => ?_) (fun hlt hb => ?_)
 ·refine vc_nt hb fun hn => vc_br0 hn ?_
  exact hfin _ (by rw [<- C, Nat.mod_eq_of_lt hlt]) _ _ ⟨rfl, _, _, _, _, _, _, _, _, rfl, h8, h10, h12, h14, b8, b10, b12, b14, rfl⟩
 ·refine vc_nt hb fun hn => vc_br1 hn ?_
  refine vc_s64 (x := w8) (y := 4891460686036598785) (z := 0) h8 rfl rfl b8 (by decide) (by decide) fun w18 w19 h18 h19 e18 b18 b19 => ?_
  refine vc_s64 (x := w10) (y := 2896914383306846353) (z := w19) h10 rfl h19 b10 (by decide) b19 fun w20 w21 h20 h21 e20 b20 b21 => ?_
  refine vc_s64 (x := w12) (y := 13281191951274694749) (z := w21) h12 rfl h21 b12 (by decide) b21 fun w22 w23 h22 h23 e22 b22 b23 => ?_
  refine vc_s64 (x := w14) (y := 3486998266802970665) (z := w23) h14 rfl h23 b14 (by decide) b23 fun w24 w25 h24 h25 e24 b24 b25 => ?_
  have F := fin_sub b8 b10 b12 b14 hT hlt e18 e20 e22 e24
  exact hfin _ (by rw [F, <- C, mod_sub_once hT hlt]) _ _ ⟨rfl, _, _, _, _, _, _, _, _, rfl, h18, h20, h22, h24, b18, b20, b22, b24, rfl⟩
def negT1 : T := (T.def_ 4 (Fn.ctr cIz) [(A.v 0), (A.v 1), (A.v 2), (A.v 3)] 1 (T.br 4 (T.def_ 5 (Fn.ctr cSz) [(A.v 0), (A.v 1), (A.v 2), (A.v 3)] 4 (T.leaf Ek.r (St.mk (Tr.nd Tr.lf (some (V.one (C.ptr 0 0))) Tr.lf) [(Reg.mk [(C.ch 7 (A.v 5) 0), (C.ch 7 (A.v 6) 0), (C.ch 7 (A.v 7) 0), (C.ch 7 (A.v 8) 0)] true)] 0 Tr.lf))) (T.def_ 5 (Fn.ctr cS64) [(A.n (Int.ofNat 4891460686036598785)), (A.v 0), (A.n 0)] 2 (T.def_ 7 (Fn.ctr cS64) [(A.n (Int.ofNat 2896914383306846353)), (A.v 1), (A.v 6)] 2 (T.def_ 9 (Fn.ctr cS64) [(A.n (Int.ofNat 13281191951274694749)), (A.v 2), (A.v 8)] 2 (T.def_ 11 (Fn.ctr cS64) [(A.n (Int.ofNat 3486998266802970665)), (A.v 3), (A.v 10)] 2 (T.leaf Ek.r (St.mk (Tr.nd Tr.lf (some (V.one (C.ptr 0 0))) Tr.lf) [(Reg.mk [(C.ch 7 (A.v 5) 0), (C.ch 7 (A.v 7) 0), (C.ch 7 (A.v 9) 0), (C.ch 7 (A.v 11) 0)] true)] 0 Tr.lf))))))))
theorem negT1_eq : evTF Tryz.f90 [.one (.ptr 0 0), .one (.ptr 0 0)] [⟨four 0, true⟩] 4 = negT1 := by kernel_rfl
theorem negT1_vc {ρ : Nat -> Int} {x0 x1 x2 x3 : Nat} (h0 : ρ 0 = (x0 : Int)) (b0 : x0 < 18446744073709551616) (h1 : ρ 1 = (x1 : Int)) (b1 : x1 < 18446744073709551616) (h2 : ρ 2 = (x2 : Int)) (b2 : x2 < 18446744073709551616) (h3 : ρ 3 = (x3 : Int)) (b3 : x3 < 18446744073709551616) (hX : val4 x0 x1 x2 x3 < frQ) {Ψ : Ek -> St -> Prop}
  (hfin : ∀ Z, Z = (frQ - val4 x0 x1 x2 x3) % frQ -> ∀ v M, Four ρ Z [] v M -> Ψ .r ⟨.nd .lf (some v) .lf, M, 0, .lf⟩) : negT1.vc ρ Ψ := by
 unfold negT1
 refine vc_iz h0 h1 h2 h3 (fun hz hb => ?_) (fun hz hb => ?_)
 ·refine vc_br1 hb ?_
  refine vc_sz fun k0 k1 k2 k3 => ?_
  exact hfin _ (by rw [hz]; decide) _ _ ⟨rfl, _, _, _, _, 0, 0, 0, 0, rfl, k0, k1, k2, k3, by decide, by decide, by decide, by decide, rfl⟩
 ·refine vc_br0 hb ?_
  refine vc_s64 (x := 4891460686036598785) (y := x0) (z := 0) rfl h0 rfl (by decide) b0 (by decide) fun w5 w6 h5 h6 e5 b5 b6 => ?_
  refine vc_s64 (x := 2896914383306846353) (y := x1) (z := w6) rfl h1 h6 (by decide) b1 b6 fun w7 w8 h7 h8 e7 b7 b8 => ?_
  refine vc_s64 (x := 13281191951274694749) (y := x2) (z := w8) rfl h2 h8 (by decide) b2 b8 fun w9 w10 h9 h10 e9 b9 b10 => ?_
  refine vc_s64 (x := 3486998266802970665) (y := x3) (z := w10) rfl h3 h10 (by decide) b3 b10 fun w11 w12 h11 h12 e11 b11 b12 => ?_
  have F := neg_sum hX e5 e7 e9 e11
  exact hfin _ (by rw [F, Nat.mod_eq_of_lt (by omega)]) _ _ ⟨rfl, _, _, _, _, _, _, _, _, rfl, h5, h7, h9, h11, b5, b7, b9, b11, rfl⟩
end
end Go.Eng
namespace Go.Eng
open Go Go.RowKit Go.Proofs
noncomputable section
set_option maxRecDepth 100000
theorem call1 {f : FuncId} {fn : Func} {c : Code} {vs : List V} {ρ : Nat -> Int} {i0 n : Nat} {p : Pl} {w : World} {Q : List C -> Prop} (hf : Tryz.prog.funcs[f]? = some fn) (hb : fn.body = some c) (hle : Nat.ble (lenN vs) fn.ntmps = true)
  (hvs : inAll [0] (vmens vs) = true) (hren : vs.map (V.ren (inv [0])) = vs) (hg : ∀ i, i < n -> ∃ x : Nat, x < 18446744073709551616 /\ ρ i = (x : Int))
  (h : (evTF fn vs [⟨four i0, true⟩] n).holds ρ (LeafIs fun v M => v = .one (.ptr 0 0) /\ ∃ cs, M = [⟨cs, true⟩] /\ cs.length = 4 /\ menL cs = [] /\ Q cs))
  (hp : cellsAt w p ((four i0).map (C.den base.K ρ fun _ => p))) (hu : unfr w p.b) :
  Calls Tryz.prog f (vs.map (V.den base.K ρ fun i => (fun _ => p) (([0] : List Nat).getD i 0))).toArray w fun e w' => ∃ cs, Q cs /\ e = .returned (.pointer (some (at_ p 0))) /\ Ext (putCells w p (cs.map (C.den base.K ρ fun _ => p))) w' := by
 have hlt : ∀ {r : Pl} {i : Nat}, cellsAt w r ((four i).map (C.den base.K ρ fun _ => p)) -> (∀ j, j < 4 -> ∃ v, w.cell? (at_ r j) = some v) /\ r.b < w.heap.size := fun {r i} hc => by
  have h0 := hc 0 _ rfl
  refine ⟨fun j hj => ?_, cell?_lt h0⟩
  match j, hj with
  | 0, _ => exact ⟨_, hc 0 _ rfl⟩
  | 1, _ => exact ⟨_, hc 1 _ rfl⟩
  | 2, _ => exact ⟨_, hc 2 _ rfl⟩
  | 3, _ => exact ⟨_, hc 3 _ rfl⟩
 have hrds : ∀ x ∈ rdsOf [0] [(⟨four i0, true⟩ : Reg)], cellsAt w (pl (fun _ => p) x.1 x.2.1) (denL cxS ρ (fun _ => p) x.2.2) := fun x hx => by
  have hx' : x ∈ [(0, 0, four i0)] := hx
  simp only [List.mem_cons, List.not_mem_nil, or_false] at hx'
  subst hx'
  exact hp
 have hdj : DjE (fun _ => p) w (djOf [0] [(⟨four i0, true⟩ : Reg)]) := by
  have hl : djOf [0] [(⟨four i0, true⟩ : Reg)] = [(0, 4, true)] := rfl
  rw [hl]
  refine ⟨fun x hx => ?_, fun x hx y hy hne hw => ?_⟩
  ·simp only [List.mem_cons, List.not_mem_nil, or_false] at hx
   subst hx
   exact ⟨(hlt hp).1, fun _ _ _ => hu, (hlt hp).2⟩
  ·simp only [List.mem_cons, List.not_mem_nil, or_false] at hx hy
   subst hx hy
   exact absurd rfl hne
 have h0 := rel0 (cx := cxS) (ρ := ρ) (φ := fun _ => p) (w := w) (vs := vs) (M := [⟨four i0, true⟩]) (rs := [0]) rfl (by decide) rfl hvs hrds hdj
 rw [hren] at h0
 have hT : (evT cxS 200 fn c vs [⟨four i0, true⟩] n (gam n .lf)).holds ρ (LeafIs fun v M => v = .one (.ptr 0 0) /\ ∃ cs, M = [⟨cs, true⟩] /\ cs.length = 4 /\ menL cs = [] /\ Q cs) := by
  unfold evTF at h
  rw [hb] at h
  exact h
 have hc := evT_ok (ρ := ρ) cxS_good follows hf hb hle (gam_ok hg) hT h0 (fun g r hl => by cases hl)
 refine Calls.mono hc ?_
 rintro e w' ⟨φ', σ', v, M', ⟨rfl, cs, rfl, hl4, hmen, hQ⟩, rfl, hR, hcc, hgg, hold, _⟩
 have hφ : φ' 0 = p := hold 0 (show 0 < 1 by decide)
 refine ⟨cs, hQ, ?_, ?_⟩
 ·show Ending.returned (.pointer (some (paddr φ' 0 0))) = _
  unfold paddr at_
  rw [hφ]
 ·have hos := putCells_os (cs.map (C.den base.K ρ fun _ => p)) w p
  have hsz := putCells_size (cs.map (C.den base.K ρ fun _ => p)) w p
  have hB : Below w.heap.size (putCells w p (cs.map (C.den base.K ρ fun _ => p))) w' := by
   refine below_of_sameBut (D := dOf (fun i => (fun _ => p) (([0] : List Nat).getD i 0)) [⟨four i0, true⟩]) (w0 := w) ⟨hos.1, hos.2.1, hos.2.2.1, hsz⟩ (SameBut.putCells _ p (SameBut.refl _ _ _) fun j hj _ => ?_) hR.same (Nat.le_refl _) (fun b o hb2 hD => ?_)
   ·have hj4 : j < 4 := by simpa [hl4] using hj
    exact ⟨0, _, j, rfl, rfl, hj4, rfl, rfl⟩
   ·obtain ⟨i, reg, j, hi, hw, hj, e1, e2⟩ := hD
    match i, hi with
    | 0, hi =>
      simp only [List.getElem?_cons_zero, Option.some.injEq] at hi
      subst hi
      have hj4 : j < 4 := hj
      have e1' : p.b = b := e1
      have e2' : p.o + j = o := e2
      subst e1' e2'
      obtain ⟨u, hu2⟩ := (hlt hp).1 j hj4
      have hcj : cs[j]? = some (cs[j]'(by omega)) := List.getElem?_eq_getElem (by omega)
      have h1 := putCells_cell_in (cs.map (C.den base.K ρ fun _ => p)) w p j u ((cs[j]'(by omega)).den base.K ρ fun _ => p) hu2 (by rw [List.getElem?_map, hcj]; rfl)
      have h2 := hR.cell 0 j (cs[j]'(by omega)) (by rw [<- hcc]; simp [mg, hcj])
      rw [hφ] at h2
      have hm : ∀ m ∈ menL cs, False := fun m hm => by rw [hmen] at hm; cases hm
      have h3 : (cs[j]'(by omega)).den cxS.K ρ φ' = (cs[j]'(by omega)).den base.K ρ fun _ => p := C.den_congr fun r hr => (hm r (List.mem_filterMap.2 ⟨_, List.getElem_mem _, hr⟩)).elim
      rw [h3] at h2
      show (putCells w p _).cell? (at_ p j) = w'.cell? (at_ p j)
      rw [h1, h2]
  exact ⟨hB.os, hB.tape, hB.output, hB.size, fun b hb2 => hB.block b (by rw [hsz] at hb2; exact hb2)⟩
def opPost (Z : Nat) (ρ : Nat -> Int) (cs : List C) : Prop := ∃ z0 z1 z2 z3 : Nat, z0 < 18446744073709551616 /\ z1 < 18446744073709551616 /\ z2 < 18446744073709551616 /\ z3 < 18446744073709551616 /\ val4 z0 z1 z2 z3 = Z /\
 ∀ φ, cs.map (C.den base.K ρ φ) = [.int .u64 (z0 : Int), .int .u64 (z1 : Int), .int .u64 (z2 : Int), .int .u64 (z3 : Int)]
theorem opPost_of {Z : Nat} {ρ : Nat -> Int} {R : List Reg} {v : V} {M : List Reg} (hF : Four ρ Z R v M) :
  v = .one (.ptr 0 0) /\ ∃ cs, M = ⟨cs, true⟩ :: R /\ cs.length = 4 /\ menL cs = [] /\ opPost Z ρ cs := by
 obtain ⟨rfl, a, b, c, d, z0, z1, z2, z3, rfl, ha, hb, hc, hd, b0, b1, b2, b3, rfl⟩ := hF
 refine ⟨rfl, _, rfl, rfl, rfl, z0, z1, z2, z3, b0, b1, b2, b3, rfl, fun φ => ?_⟩
 show [Value.int .u64 (A.den ρ a), .int .u64 (A.den ρ b), .int .u64 (A.den ρ c), .int .u64 (A.den ρ d)] = _
 rw [ha, hb, hc, hd]
theorem body64 : ∃ c, Tryz.f55.body = some c := Option.isSome_iff_exists.1 (by kernel_rfl)
theorem body90 : ∃ c, Tryz.f90.body = some c := Option.isSome_iff_exists.1 (by kernel_rfl)
theorem add_zy {p q : Pl} {w : World} {X Y : Nat} (hX : Words w p X) (hXq : X < frQ) (hu : unfr w p.b) (hY : Words w q Y) (hYq : Y < frQ) (hd : p.b ≠ q.b \/ p.o + 4 <= q.o \/ q.o + 4 <= p.o) :
  Calls Tryz.prog 55 #[.pointer (some (at_ p 0)), .pointer (some (at_ p 0)), .pointer (some (at_ q 0))] w fun e w' => e = .returned (.pointer (some (at_ p 0))) /\ Put4 w p ((X + Y) % frQ) w' := by
 obtain ⟨x0, x1, x2, x3, a0, a1, a2, a3, rfl, hX⟩ := hX
 obtain ⟨y0, y1, y2, y3, c0, c1, c2, c3, rfl, hY⟩ := hY
 obtain ⟨c, hb⟩ := body64
 obtain ⟨ρ, hρ, hT⟩ := T.exists_holds (Ψ := fun ρ => LeafIs fun v M => v = .one (.ptr 0 0) /\ ∃ cs, M = [⟨cs, true⟩, ⟨four 4, false⟩] /\ cs.length = 4 /\ menL cs = [] /\ opPost ((val4 x0 x1 x2 x3 + val4 y0 y1 y2 y3) % frQ) ρ cs) addT1 8 (rho8 x0 x1 x2 x3 y0 y1 y2 y3) (by kernel_rfl) (fun ρ h =>
  addT1_vc (h 0 (by decide)) a0 (h 1 (by decide)) a1 (h 2 (by decide)) a2 (h 3 (by decide)) a3 (h 4 (by decide)) c0 (h 5 (by decide)) c1 (h 6 (by decide)) c2 (h 7 (by decide)) c3 hXq hYq (fun Z hZ v M hF => ⟨.inr rfl, v, rfl, opPost_of (hZ ▸ hF)⟩))
 rw [<- addT1_eq] at hT
 have hr : ∀ i, i < 8 -> ∃ x : Nat, x < 18446744073709551616 /\ ρ i = (x : Int) := fun i hi => by
  rw [hρ i hi]
  match i, hi with
  | 0, _ => exact ⟨x0, a0, rfl⟩
  | 1, _ => exact ⟨x1, a1, rfl⟩
  | 2, _ => exact ⟨x2, a2, rfl⟩
  | 3, _ => exact ⟨x3, a3, rfl⟩
  | 4, _ => exact ⟨y0, c0, rfl⟩
  | 5, _ => exact ⟨y1, c1, rfl⟩
  | 6, _ => exact ⟨y2, c2, rfl⟩
  | 7, _ => exact ⟨y3, c3, rfl⟩
 have e0 : (four 0).map (C.den base.K ρ fun _ => p) = [.int .u64 (x0 : Int), .int .u64 (x1 : Int), .int .u64 (x2 : Int), .int .u64 (x3 : Int)] := by
  show [Value.int .u64 (ρ 0), .int .u64 (ρ 1), .int .u64 (ρ 2), .int .u64 (ρ 3)] = _
  rw [hρ 0 (by decide), hρ 1 (by decide), hρ 2 (by decide), hρ 3 (by decide)]; rfl
 have e4 : (four 4).map (C.den base.K ρ fun _ => p) = [.int .u64 (y0 : Int), .int .u64 (y1 : Int), .int .u64 (y2 : Int), .int .u64 (y3 : Int)] := by
  show [Value.int .u64 (ρ 4), .int .u64 (ρ 5), .int .u64 (ρ 6), .int .u64 (ρ 7)] = _
  rw [hρ 4 (by decide), hρ 5 (by decide), hρ 6 (by decide), hρ 7 (by decide)]; rfl
 have hf : Tryz.prog.funcs[55]? = some Tryz.f55 := (fnOK (f := 55) (by kernel_rfl)).1
 have hcall := call2 (f := 55) (fn := Tryz.f55) (c := c) (vs := [.one (.ptr 0 0), .one (.ptr 0 0), .one (.ptr 1 0)]) (ρ := ρ) (i0 := 0) (i1 := 4) (n := 8) (p := p) (q := q) (w := w) (Q := opPost ((val4 x0 x1 x2 x3 + val4 y0 y1 y2 y3) % frQ) ρ) hf hb (by kernel_rfl) rfl rfl hr hT (by rw [e0]; exact hX) hu (by rw [e4]; exact hY) hd
 refine Calls.mono hcall ?_
 rintro e w' ⟨cs, ⟨z0, z1, z2, z3, b0, b1, b2, b3, hZ, hden⟩, rfl, hE⟩
 rw [hden] at hE
 exact ⟨rfl, z0, z1, z2, z3, b0, b1, b2, b3, hZ, hE⟩
theorem neg_z {p : Pl} {w : World} {X : Nat} (hX : Words w p X) (hXq : X < frQ) (hu : unfr w p.b) :
  Calls Tryz.prog 90 #[.pointer (some (at_ p 0)), .pointer (some (at_ p 0))] w fun e w' => e = .returned (.pointer (some (at_ p 0))) /\ Put4 w p ((frQ - X) % frQ) w' := by
 obtain ⟨x0, x1, x2, x3, a0, a1, a2, a3, rfl, hX⟩ := hX
 obtain ⟨c, hb⟩ := body90
 obtain ⟨ρ, hρ, hT⟩ := T.exists_holds (Ψ := fun ρ => LeafIs fun v M => v = .one (.ptr 0 0) /\ ∃ cs, M = [⟨cs, true⟩] /\ cs.length = 4 /\ menL cs = [] /\ opPost ((frQ - val4 x0 x1 x2 x3) % frQ) ρ cs) negT1 4 (rho8 x0 x1 x2 x3 0 0 0 0) (by kernel_rfl) (fun ρ h =>
  negT1_vc (h 0 (by decide)) a0 (h 1 (by decide)) a1 (h 2 (by decide)) a2 (h 3 (by decide)) a3 hXq (fun Z hZ v M hF => ⟨.inr rfl, v, rfl, opPost_of (hZ ▸ hF)⟩))
 rw [<- negT1_eq] at hT
 have hr : ∀ i, i < 4 -> ∃ x : Nat, x < 18446744073709551616 /\ ρ i = (x : Int) := fun i hi => by
  rw [hρ i hi]
  match i, hi with
  | 0, _ => exact ⟨x0, a0, rfl⟩
  | 1, _ => exact ⟨x1, a1, rfl⟩
  | 2, _ => exact ⟨x2, a2, rfl⟩
  | 3, _ => exact ⟨x3, a3, rfl⟩
 have e0 : (four 0).map (C.den base.K ρ fun _ => p) = [.int .u64 (x0 : Int), .int .u64 (x1 : Int), .int .u64 (x2 : Int), .int .u64 (x3 : Int)] := by
  show [Value.int .u64 (ρ 0), .int .u64 (ρ 1), .int .u64 (ρ 2), .int .u64 (ρ 3)] = _
  rw [hρ 0 (by decide), hρ 1 (by decide), hρ 2 (by decide), hρ 3 (by decide)]; rfl
 have hf : Tryz.prog.funcs[90]? = some Tryz.f90 := (fnOK (f := 90) (by kernel_rfl)).1
 have hcall := call1 (f := 90) (fn := Tryz.f90) (c := c) (vs := [.one (.ptr 0 0), .one (.ptr 0 0)]) (ρ := ρ) (i0 := 0) (n := 4) (p := p) (w := w) (Q := opPost ((frQ - val4 x0 x1 x2 x3) % frQ) ρ) hf hb (by kernel_rfl) rfl rfl hr hT (by rw [e0]; exact hX) hu
 refine Calls.mono hcall ?_
 rintro e w' ⟨cs, ⟨z0, z1, z2, z3, b0, b1, b2, b3, hZ, hden⟩, rfl, hE⟩
 rw [hden] at hE
 exact ⟨rfl, z0, z1, z2, z3, b0, b1, b2, b3, hZ, hE⟩
end
end Go.Eng
