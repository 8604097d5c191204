/-
 A reckoner of code over symbolic memory, proved sound over the walk of the kit.
-/
import Derived.Test.YtajgaijilkfjnaaGreatDoorE1
set_option linter.unusedVariables false
set_option linter.unusedSimpArgs false
namespace Go.Eng
open Go Go.RowKit
noncomputable section
section
variable {cx : Cx} {ρ : Nat -> Int}
theorem cells_den {v : V} {cs : List C} (h : v.cells = some cs) (φ : Nat -> Pl) (h1 : ∀ c ∈ cs, oneC (c.den cx.K ρ φ) = true) : (v.den cx.K ρ φ).cells = (denL cx ρ φ cs).toArray := by
 cases v with
 | one c =>
   simp [V.cells] at h; subst h
   have := h1 c (by simp)
   simp only [V.den, denL, List.map_cons, List.map_nil]
   cases hc : c.den cx.K ρ φ <;> simp [hc, oneC] at this <;> rfl
 | agg l => simp [V.cells] at h; subst h; rfl
 | tup vs => simp [V.cells] at h
theorem C.one_den (hk : ∀ k, (cx.K k).Good) {c : C} (h : c.sto cx = true) (φ) : oneC (c.den cx.K ρ φ) = true := by
 cases c with
 | ch k a j =>
   simp only [C.den]
   have hj : j < ((cx.K k).enc (a.den ρ)).length := by
    rw [(hk k).len]
    simp [C.sto, Nat.blt_eq] at h
    exact h
   have : ((cx.K k).enc (a.den ρ)).getD j undef = ((cx.K k).enc (a.den ρ))[j] := by simp [hj]
   rw [this]
   exact (hk k).one _ _ (List.getElem_mem hj)
 | ptr r o => rfl
 | ifc t c => rfl
 | val v => exact h
 | slc r o l c => rfl
 | sln r o l c => rfl
theorem readC_spec {M : List Reg} {r o n : Nat} {l : List C} (h : readC M r o n = some l) : l.length = n /\ ∃ reg, M[r]? = some reg /\ o + n <= reg.cells.length /\ l = (reg.cells.drop o).take n := by
 unfold readC at h
 split at h
 ·rename_i reg hr
  cases hb : Nat.ble (o + n) reg.cells.length with
  | false => simp [hb] at h
  | true =>
    simp only [hb, cond_true, Option.some.injEq] at h
    have := Nat.le_of_ble_eq_true hb
    exact ⟨by rw [<- h]; simp; omega, reg, hr, this, h.symm⟩
 ·simp at h
theorem canWr_spec {M : List Reg} {r o n : Nat} (h : canWr M r o n = true) : ∃ reg, M[r]? = some reg /\ reg.wr = true /\ o + n <= reg.cells.length := by
 unfold canWr at h
 split at h
 ·rename_i reg hr
  simp only [Bool.and_eq_true] at h
  exact ⟨reg, hr, h.1, Nat.le_of_ble_eq_true h.2⟩
 ·simp at h
theorem ok_load {evo : Operand -> Option V} {M Γ nv} {dst type pos after guard} {t : TypeId} {x : Operand} {r : R}
  (h : evalOp0 cx evo M Γ nv ⟨dst, .load t x, type, pos, after, guard⟩ = some r) : RunOK cx ρ evo ⟨dst, .load t x, type, pos, after, guard⟩ r := by
 simp only [evalOp0] at h
 split at h
 ·rename_i rr oo d hx hd
  split at h
  ·rename_i hagg
   split at h
   ·rename_i cs i hcs hi
    obtain ⟨hl, _⟩ := readC_spec hcs
    simp only [Option.some.injEq] at h
    subst h
    refine RunOK.of_pure rfl rfl rfl fun φ a w hev hpre => ?_
    have hp := hev x _ hx
    have hc := hpre.1 (rr, oo, cs) (by simp)
    simp only [execOp]
    rw [hi] at hl
    simp only at hl
    have h1 : (Instr.loadAt t (a.eval x)).run cx.P w = .ok (.agg (denL cx ρ φ cs).toArray) w := by
     rw [hp]
     show (loadVar t (at_ (pl φ rr oo) 0)).run cx.P w = _
     unfold loadVar
     rw [run_bind_ok (run_isAgg (cx.unOK hd) w), hagg]
     simp only [if_true]
     rw [run_bind_ok (run_sizeOf (cx.tiOK hi) w)]
     have := run_loadCells (P := cx.P) hc
     simp only [List.length_map, hl] at this
     rw [run_bind_ok this]; rfl
    rw [run_bind_ok h1]; rfl
   ·simp at h
  ·rename_i hagg
   split at h
   ·rename_i c hcs
    simp only [Option.some.injEq] at h
    subst h
    refine RunOK.of_pure rfl rfl rfl fun φ a w hev hpre => ?_
    have hp := hev x _ hx
    have hc := hpre.1 (rr, oo, [c]) (by simp)
    simp only [execOp]
    have h1 : (Instr.loadAt t (a.eval x)).run cx.P w = .ok (c.den cx.K ρ φ) w := by
     rw [hp]
     show (loadVar t (at_ (pl φ rr oo) 0)).run cx.P w = _
     unfold loadVar
     rw [run_bind_ok (run_isAgg (cx.unOK hd) w), hagg]
     have := hc 0 (c.den cx.K ρ φ) rfl
     simp [load, Sem.run, this]
    rw [run_bind_ok h1]; rfl
   ·simp at h
 ·simp at h
theorem ok_store (hk : ∀ k, (cx.K k).Good) {evo : Operand -> Option V} {M Γ nv} {dst type pos after guard} {t : TypeId} {x y : Operand} {r : R}
  (h : evalOp0 cx evo M Γ nv ⟨dst, .store t x y, type, pos, after, guard⟩ = some r) : RunOK cx ρ evo ⟨dst, .store t x y, type, pos, after, guard⟩ r := by
 simp only [evalOp0] at h
 split at h
 ·rename_i rr oo cs i hx hy hi
  cases hb : (Nat.beq cs.length i.size && canWr M rr oo cs.length && cs.all (C.sto cx)) with
  | false => simp [hb] at h
  | true =>
    simp only [hb, cond_true, Option.some.injEq] at h
    subst h
    simp only [Bool.and_eq_true] at hb
    obtain ⟨⟨hb1, hb2⟩, hb3⟩ := hb
    have hsz := Nat.eq_of_beq_eq_true hb1
    intro φ a w next Q hev hpre hnext
    have hp := hev x _ hx
    cases hyv : evo y with
    | none => simp [hyv] at hy
    | some v =>
      simp [hyv] at hy
      have hv := hev y _ hyv
      have hone : ∀ c ∈ cs, oneC (c.den cx.K ρ φ) = true := fun c hc => C.one_den hk (List.all_eq_true.1 hb3 c hc) φ
      have hcells := cells_den (ρ := ρ) (cx := cx) hy φ hone
      have hw := hpre.2.1 (rr, oo, cs) (by simp)
      have h1 : (Instr.storeAt t (a.eval x) (a.eval y)).run cx.P w = .ok () (putCells w (pl φ rr oo) (denL cx ρ φ cs)) := by
       rw [hp, hv]
       show (storeVar t (at_ (pl φ rr oo) 0) _).run cx.P w = _
       unfold storeVar
       rw [run_bind_ok (run_sizeOf (cx.tiOK hi) w), hcells]
       have e : ¬ ((denL cx ρ φ cs).toArray.size ≠ i.size) := by simp [hsz]
       rw [if_neg e]
       exact run_storeCells (denL cx ρ φ cs) 0 w (by simpa using hone) (by simpa using hw)
      unfold Oper.wp
      simp only [execOp]
      rw [run_bind_ok h1]
      show next _ _
      have := hnext φ (putCells w (pl φ rr oo) (denL cx ρ φ cs)) (PostE.plain cx ρ rfl (Below.refl _ _))
      exact this
 ·simp at h
theorem C.den_men {K : Nat -> Kind} {ρ : Nat -> Int} {φ φ' : Nat -> Pl} {c : C} (h : ∀ r, c.men = some r -> φ r = φ' r) : c.den K ρ φ = c.den K ρ φ' := by
 induction c with
 | ptr r o => simp [C.den, paddr, h r rfl]
 | slc r o l c => simp [C.den, paddr, h r rfl]
 | sln r o l c => simp [C.den, paddr, h r rfl]
 | ifc t c ih => simp only [C.den]; rw [ih h]
 | _ => rfl
theorem denL_men {φ φ' : Nat -> Pl} {cs : List C} (h : ∀ r ∈ menL cs, φ r = φ' r) : denL cx ρ φ cs = denL cx ρ φ' cs :=
 List.map_congr_left fun c hc => C.den_men fun r hr => h r (List.mem_filterMap.2 ⟨c, hc, hr⟩)
theorem post_alloc {w : World} {φ : Nat -> Pl} {cs : List C} {n : Nat} {t : TypeId} {v : V} {r : R} (hr : r = { fn := none, kd := [], rds := [], wcs := [], al := [(n, cs)], res := v }) (hmen : ∀ m ∈ menL cs, m < n) :
  PostE cx ρ φ w r (updP φ n ⟨w.heap.size, 0, 0⟩) (w.alloc (.cells (denL cx ρ φ cs).toArray t)) := by
 subst hr
 have hd : denL cx ρ (updP φ n ⟨w.heap.size, 0, 0⟩) cs = denL cx ρ φ cs := denL_men fun m hm => by
  have := hmen m hm
  unfold updP; rw [if_neg (by omega)]
 have hn : updP φ n ⟨w.heap.size, 0, 0⟩ n = ⟨w.heap.size, 0, 0⟩ := by simp [updP]
 refine ⟨fun m hm => ?_, fun x hx => ?_, fun x hx y hy hne => ?_, ?_⟩
 ·have := hm (n, cs) (List.mem_singleton.2 rfl)
  unfold updP; rw [if_neg (fun e => this e.symm)]
 ·simp only [List.mem_singleton] at hx
  subst hx
  simp only [hn, hd]
  refine ⟨Nat.le_refl _, by show _ < (w.heap.push _).size; simp, fun j v hv => ?_, fun j hj => ?_⟩
  ·show (w.alloc _).cell? ⟨w.heap.size, 0 + j, none⟩ = some v
   rw [World.cell?_alloc_new, Nat.zero_add]
   simpa using hv
  ·constructor
   ·refine ⟨(denL cx ρ φ cs)[j]'(by simpa using hj), ?_⟩
    show (w.alloc _).cell? ⟨w.heap.size, 0 + j, none⟩ = _
    rw [World.cell?_alloc_new, Nat.zero_add]
    simp [hj]
   ·intro o
    show (match (w.heap.push (.cells (denL cx ρ φ cs).toArray t))[w.heap.size]? with | some (.cells _ _ (lo, hi)) => decide (lo <= o) && decide (o < hi) | _ => false) = false
    simp
 ·simp only [List.mem_singleton] at hx hy
  subst hx; subst hy; exact absurd rfl hne
 ·exact (Below.refl _ _).alloc (Nat.le_refl _) _
theorem res_alloc {φ : Nat -> Pl} {n : Nat} {b : Nat} : (V.one (.ptr n 0)).den cx.K ρ (updP φ n ⟨b, 0, 0⟩) = .pointer (some ⟨b, 0, none⟩) := by
 simp [V.den, C.den, paddr, updP]
theorem run_newVar {P : Program} {t : TypeId} {v : Value} {w : World} : (newVar t v).run P w = .ok ⟨w.heap.size, 0, none⟩ (w.alloc (.cells v.cells t)) := by
 rfl
theorem zero_cells {v : Value} {cs : List C} (h : (ofConst v).cells = some cs) (φ : Nat -> Pl) : v.cells = (denL cx ρ φ cs).toArray := by
 have hd := ofConst_den cx.ext ρ φ v
 unfold ofConst at h hd
 split at h
 ·rename_i c
  simp only [V.cells, Option.some.injEq] at h
  subst h
  simp only [V.den] at hd
  have : Value.agg c = .agg (denL cx ρ φ (c.toList.map cellOf)).toArray := hd.symm
  simp only [Value.agg.injEq] at this
  simp only [Value.cells]
  exact this
 ·rename_i vs
  split at h
  ·simp [V.cells] at h
  ·simp only [V.cells, Option.some.injEq] at h
   subst h
   rfl
 ·rename_i hna hnt
  simp only [V.cells, Option.some.injEq] at h
  subst h
  have : (cellOf v).den cx.K ρ φ = v := cellOf_den cx.ext ρ φ v
  simp only [denL, List.map_cons, List.map_nil, this]
  cases v <;> first | rfl | (exact absurd rfl (hna _))
theorem const_menL {v : Value} {cs : List C} (h : (ofConst v).cells = some cs) : menL cs = [] := by
 have hc : ∀ u, (cellOf u).men = none := fun u => by cases u <;> rfl
 unfold ofConst at h
 split at h
 ·simp only [V.cells, Option.some.injEq] at h
  subst h
  apply List.filterMap_eq_nil_iff.2
  intro c hx
  obtain ⟨u, _, rfl⟩ := List.mem_map.1 hx
  exact hc u
 ·split at h
  ·simp [V.cells] at h
  ·simp only [V.cells, Option.some.injEq] at h; subst h; rfl
 ·simp only [V.cells, Option.some.injEq] at h
  subst h
  simp [menL, hc]
theorem ok_alloc {evo : Operand -> Option V} {M Γ nv} {dst type pos after guard} {t : TypeId} {r : R}
  (h : evalOp0 cx evo M Γ nv ⟨dst, .alloc t, type, pos, after, guard⟩ = some r) : RunOK cx ρ evo ⟨dst, .alloc t, type, pos, after, guard⟩ r := by
 simp only [evalOp0] at h
 split at h
 ·rename_i cs hz
  simp only [Option.some.injEq] at h
  unfold zeroCells at hz
  split at hz
  ·rename_i i hi
   split at hz
   ·rename_i v hv
    intro φ a w next Q hev hpre hnext
    have hc := zero_cells (cx := cx) (ρ := ρ) hz φ
    have h1 : (Instr.alloc t true (.tuple #[])).run cx.P w = .ok (.pointer (some ⟨w.heap.size, 0, none⟩)) (w.alloc (.cells (denL cx ρ φ cs).toArray t)) := by
     unfold Instr.alloc
     have hz : (zeroValue t).run cx.P w = .ok v w := by
      unfold zeroValue
      rw [run_bind_ok (run_typeInfo (cx.tiOK hi) w)]
      simp [hv]
     rw [run_bind_ok hz]
     show (do let a <- newVar t v; pure (Value.pointer (some a)) : Sem Value).run cx.P w = _
     rw [run_bind_ok run_newVar, hc]; rfl
    unfold Oper.wp
    simp only [execOp]
    rw [run_bind_ok h1]
    have := hnext _ _ (post_alloc (t := t) h.symm (fun m hm => by rw [const_menL hz] at hm; cases hm))
    rw [<- h] at this
    simp only [res_alloc] at this
    exact this
   ·simp at hz
  ·simp at hz
 ·simp at h
theorem ok_box (hk : ∀ k, (cx.K k).Good) {evo : Operand -> Option V} {M Γ nv} {dst type pos after guard} {t : TypeId} {x : Operand} {r : R}
  (h : evalOp0 cx evo M Γ nv ⟨dst, .box t x, type, pos, after, guard⟩ = some r) : RunOK cx ρ evo ⟨dst, .box t x, type, pos, after, guard⟩ r := by
 simp only [evalOp0] at h
 split at h
 ·rename_i cs hx
  cases hb : cs.all (C.sto cx) with
  | false => simp [hb] at h
  | true =>
  cases hml : menLt M.length cs with
  | false => simp [hb, hml] at h
  | true =>
    simp only [hb, hml, Bool.not_true, Bool.or_false, cond_false, Option.some.injEq] at h
    cases hxv : evo x with
    | none => simp [hxv] at hx
    | some v =>
      simp [hxv] at hx
      intro φ a w next Q hev hpre hnext
      have hv := hev x _ hxv
      have hone : ∀ c ∈ cs, oneC (c.den cx.K ρ φ) = true := fun c hc => C.one_den hk (List.all_eq_true.1 hb c hc) φ
      have hc := cells_den (ρ := ρ) (cx := cx) hx φ hone
      have h1 : (Instr.box t (a.eval x)).run cx.P w = .ok (.pointer (some ⟨w.heap.size, 0, none⟩)) (w.alloc (.cells (denL cx ρ φ cs).toArray t)) := by
       rw [hv]
       unfold Instr.box
       rw [run_bind_ok run_newVar, hc]; rfl
      unfold Oper.wp
      simp only [execOp]
      rw [run_bind_ok h1]
      have := hnext _ _ (post_alloc (t := t) h.symm (menLt_spec hml))
      rw [<- h] at this
      simp only [res_alloc] at this
      exact this
 ·simp at h
theorem wp_val {o : Oper} {a : Act} {w : World} {s : Sem Value} {v : Value} {w' : World} (he : execOp a.eval o = (do pure (.value (<- s)))) (hs : s.run cx.P w = .ok v w') :
  (execOp a.eval o).run cx.P w = .ok (.value v) w' := by
 rw [he, run_bind_ok hs]; rfl
theorem ok_move {evo : Operand -> Option V} {M Γ nv} {dst type pos after guard} {x : Operand} {r : R} {op : Op} (ho : op = .move x \/ op = .assign x)
  (h : evalOp0 cx evo M Γ nv ⟨dst, op, type, pos, after, guard⟩ = some r) : RunOK cx ρ evo ⟨dst, op, type, pos, after, guard⟩ r := by
 have h' : (evo x).map .pure = some r := by rcases ho with rfl | rfl <;> exact h
 cases hx : evo x with
 | none => simp [hx] at h'
 | some v =>
   simp [hx] at h'
   subst h'
   refine RunOK.of_pure rfl rfl rfl fun φ a w hev _ => ?_
   have := hev x v hx
   rcases ho with rfl | rfl <;> (simp only [execOp, this]; rfl)
theorem ok_nilCheck {evo : Operand -> Option V} {M Γ nv} {dst type pos after guard} {x : Operand} {r : R}
  (h : evalOp0 cx evo M Γ nv ⟨dst, .nilCheck x, type, pos, after, guard⟩ = some r) : RunOK cx ρ evo ⟨dst, .nilCheck x, type, pos, after, guard⟩ r := by
 simp only [evalOp0] at h
 split at h
 ·rename_i rr oo hx
  simp only [Option.some.injEq] at h
  subst h
  refine RunOK.of_pure rfl rfl rfl fun φ a w hev _ => ?_
  simp only [execOp, hev x _ hx]; rfl
 ·rename_i f c d hx
  simp only [Option.some.injEq] at h
  subst h
  refine RunOK.of_pure rfl rfl rfl fun φ a w hev _ => ?_
  simp only [execOp, hev x _ hx]; rfl
 ·simp at h
end
end
end Go.Eng
namespace Go.Eng
open Go Go.RowKit
noncomputable section
section
variable {cx : Cx} {ρ : Nat -> Int}
theorem eqGuard_int (op : BinOp) (t : TypeId) (x y : Operand) (k k' : IntKind) (m n : Int) (P : Program) (w : World) : (eqGuard op t x y (.int k m) (.int k' n)).run P w = .ok () w := by
 unfold eqGuard
 cases op <;> rfl
theorem run_bin {op : BinOp} (ho : isArith op = true) (t : TypeId) (k : IntKind) (m n : Int) (P : Program) (w : World) : (binOp op t (.int k m) (.int k n)).run P w = .ok (.int k (binF op k m n)) w := by
 cases op <;> simp [isArith] at ho <;> simp [binOp, Op.intArith, Op.intBits, binF, Pure.pure]
theorem run_cmp {op : BinOp} (ho : isCmp op = true) (t : TypeId) (k : IntKind) (m n : Int) (P : Program) (w : World) : (binOp op t (.int k m) (.int k n)).run P w = .ok (.bool (cmpF op m n)) w := by
 cases op <;> simp [isCmp] at ho <;> simp [binOp, Op.intCmp, cmpF, Pure.pure]
theorem run_dvd {op : BinOp} (ho : op = .quo \/ op = .rem) (t : TypeId) (k : IntKind) (m n : Int) (hn : n ≠ 0) (P : Program) (w : World) : (binOp op t (.int k m) (.int k n)).run P w = .ok (.int k (dvdF op k m n)) w := by
 rcases ho with rfl | rfl <;> simp [binOp, Op.intDiv, dvdF, Pure.pure, hn]
theorem run_sh {op : BinOp} (ho : op = .shl \/ op = .shr) (t : TypeId) (k k' : IntKind) (m n : Int) (hn : 0 <= n) (P : Program) (w : World) : (binOp op t (.int k m) (.int k' n)).run P w = .ok (.int k (shF op k m n)) w := by
 have : ¬ n < 0 := by omega
 rcases ho with rfl | rfl <;> simp [binOp, Op.shift, shF, Pure.pure, this]
theorem den_b2i (b : Bool) : decide (b2i b ≠ 0) = b := by cases b <;> rfl
theorem ok_binOp {evo : Operand -> Option V} {M Γ nv} {dst type pos after guard} {op : BinOp} {t t' : TypeId} {x y : Operand} {r : R}
  (h : evalOp0 cx evo M Γ nv ⟨dst, .binOp op t x y t', type, pos, after, guard⟩ = some r) (hf : FnOK ρ nv r) : RunOK cx ρ evo ⟨dst, .binOp op t x y t', type, pos, after, guard⟩ r := by
 simp only [evalOp0] at h
 split at h
 ·rename_i k a k' b hx hy
  split at h
  ·rename_i ik ik' hk hk'
   cases hb : (aok Γ k a && aok Γ k' b) with
   | false => simp [hb] at h
   | true =>
     simp only [hb, cond_true] at h
     have main : ∀ (v : V) (out : Value), (∀ φ, v.den cx.K ρ φ = out) -> r.al = [] -> r.wcs = [] -> r.res = v ->
       (∀ w, (binOp op t (.int ik (a.den ρ)) (.int ik' (b.den ρ))).run cx.P w = .ok out w) -> RunOK cx ρ evo ⟨dst, .binOp op t x y t', type, pos, after, guard⟩ r := by
      intro v out hv h1 h2 h3 hrun
      refine RunOK.of_pure h1 h2 h3 fun φ a' w hev _ => ?_
      rw [hv φ]
      simp only [execOp]
      have e1 : a'.eval x = .int ik (a.den ρ) := by rw [hev x _ hx]; exact den_int (φ := φ) hk a
      have e2 : a'.eval y = .int ik' (b.den ρ) := by rw [hev y _ hy]; exact den_int (φ := φ) hk' b
      rw [e1, e2]
      have : (do eqGuard op t x y (.int ik (a.den ρ)) (.int ik' (b.den ρ)); binOp op t (.int ik (a.den ρ)) (.int ik' (b.den ρ)) : Sem Value).run cx.P w = .ok out w := by
       rw [run_bind_ok (eqGuard_int ..)]
       exact hrun w
      rw [run_bind_ok this]; rfl
     have shift : ∀ (_ : op = .shl \/ op = .shr), some ({ fn := some (.sh op ik, [a, b]), kd := [k], rds := [], wcs := [], al := [], res := .one (.ch k (.v nv) 0) } : R) = some r ->
       RunOK cx ρ evo ⟨dst, .binOp op t x y t', type, pos, after, guard⟩ r := by
      intro ho h
      simp only [Option.some.injEq] at h
      subst h
      simp only [FnOK, Fn.pre, Fn.den, List.map_cons, List.map_nil, List.length_cons, List.length_nil] at hf
      have h0 := hf.2 0 (by omega)
      simp at h0
      refine main _ (.int ik (shF op ik (a.den ρ) (b.den ρ))) (fun φ => ?_) rfl rfl rfl (fun w => run_sh ho t ik ik' _ _ (by simpa using hf.1) cx.P w)
      show (C.ch k (.v nv) 0).den cx.K ρ φ = _
      rw [den_int hk]; simp [A.den, h0]
     have dv : ∀ (_ : op = .quo \/ op = .rem), (bif Nat.beq k k' then some ({ fn := some (.dvd op ik, [a, b]), kd := [k], rds := [], wcs := [], al := [], res := .one (.ch k (.v nv) 0) } : R) else none) = some r ->
       RunOK cx ρ evo ⟨dst, .binOp op t x y t', type, pos, after, guard⟩ r := by
      intro ho h
      cases hkk : Nat.beq k k' with
      | false => simp [hkk] at h
      | true =>
        have := Nat.eq_of_beq_eq_true hkk
        subst this
        have : ik = ik' := Option.some.inj (hk.symm.trans hk')
        subst this
        simp only [hkk, cond_true, Option.some.injEq] at h
        subst h
        simp only [FnOK, Fn.pre, Fn.den, List.map_cons, List.map_nil, List.length_cons, List.length_nil] at hf
        have h0 := hf.2 0 (by omega)
        simp at h0
        refine main _ (.int ik (dvdF op ik (a.den ρ) (b.den ρ))) (fun φ => ?_) rfl rfl rfl (fun w => run_dvd ho t ik _ _ (by simpa using hf.1) cx.P w)
        show (C.ch k (.v nv) 0).den cx.K ρ φ = _
        rw [den_int hk]; simp [A.den, h0]
     split at h
     ·exact shift (.inl rfl) h
     ·exact shift (.inr rfl) h
     ·exact dv (.inl rfl) h
     ·exact dv (.inr rfl) h
     ·cases hkk : Nat.beq k k' with
      | false => simp [hkk] at h
      | true =>
        have := Nat.eq_of_beq_eq_true hkk
        subst this
        have : ik = ik' := Option.some.inj (hk.symm.trans hk')
        subst this
        simp only [hkk, cond_true] at h
        cases har : isArith op with
        | true =>
          simp only [har, cond_true] at h
          split at h
          ·rename_i zx zy
           simp only [Option.some.injEq] at h
           subst h
           refine main _ (.int ik (binF op ik zx zy)) (fun φ => ?_) rfl rfl rfl (fun w => run_bin har t ik _ _ cx.P w)
           show (C.ch k (.n _) 0).den cx.K ρ φ = _
           rw [den_int hk]; rfl
          ·simp only [Option.some.injEq] at h
           subst h
           simp only [FnOK, Fn.pre, Fn.den, List.map_cons, List.map_nil, List.length_cons, List.length_nil] at hf
           have h0 := hf.2 0 (by omega)
           simp at h0
           refine main _ (.int ik (binF op ik (a.den ρ) (b.den ρ))) (fun φ => ?_) rfl rfl rfl (fun w => run_bin har t ik _ _ cx.P w)
           show (C.ch k (.v nv) 0).den cx.K ρ φ = _
           rw [den_int hk]; simp [A.den, h0]
        | false =>
          simp only [har, cond_false] at h
          cases hcm : isCmp op with
          | false => simp [hcm] at h
          | true =>
            simp only [hcm, cond_true] at h
            split at h
            ·rename_i zx zy
             simp only [Option.some.injEq] at h
             subst h
             refine main _ (.bool (cmpF op zx zy)) (fun φ => ?_) rfl rfl rfl (fun w => run_cmp hcm t ik _ _ cx.P w)
             show (C.ch 8 (.n _) 0).den cx.K ρ φ = _
             rw [den_bool]; exact congrArg Value.bool (den_b2i _)
            ·simp only [Option.some.injEq] at h
             subst h
             simp only [FnOK, Fn.pre, Fn.den, List.map_cons, List.map_nil, List.length_cons, List.length_nil] at hf
             have h0 := hf.2 0 (by omega)
             simp at h0
             refine main _ (.bool (cmpF op (a.den ρ) (b.den ρ))) (fun φ => ?_) rfl rfl rfl (fun w => run_cmp hcm t ik _ _ cx.P w)
             show (C.ch 8 (.v nv) 0).den cx.K ρ φ = _
             rw [den_bool, A.den, h0]; exact congrArg Value.bool (den_b2i _)
  ·simp at h
 ·simp at h
theorem ok_unOp {evo : Operand -> Option V} {M Γ nv} {dst type pos after guard} {op : UnOp} {t : TypeId} {x : Operand} {r : R}
  (h : evalOp0 cx evo M Γ nv ⟨dst, .unOp op t x, type, pos, after, guard⟩ = some r) (hf : FnOK ρ nv r) : RunOK cx ρ evo ⟨dst, .unOp op t x, type, pos, after, guard⟩ r := by
 simp only [evalOp0] at h
 split at h
 ·rename_i a hx
  split at h
  ·rename_i z
   simp only [Option.some.injEq] at h
   subst h
   refine RunOK.of_pure rfl rfl rfl fun φ a' w hev _ => ?_
   refine wp_val (s := Op.unary .not (a'.eval x)) rfl ?_
   rw [hev x _ hx]
   show (Op.unary .not ((C.ch 8 (.n z) 0).den cx.K ρ φ)).run cx.P w = .ok ((C.ch 8 (.n _) 0).den cx.K ρ φ) w
   rw [den_bool, den_bool]
   simp only [A.den, Op.unary, Sem.run, Pure.pure]
   by_cases hz : z = 0 <;> simp [hz]
  ·simp only [Option.some.injEq] at h
   subst h
   simp only [FnOK, Fn.pre, Fn.den, List.map_cons, List.map_nil, List.length_cons, List.length_nil] at hf
   have h0 := hf.2 0 (by omega)
   simp at h0
   refine RunOK.of_pure rfl rfl rfl fun φ a' w hev _ => ?_
   refine wp_val (s := Op.unary .not (a'.eval x)) rfl ?_
   rw [hev x _ hx]
   show (Op.unary .not ((C.ch 8 a 0).den cx.K ρ φ)).run cx.P w = .ok ((C.ch 8 (.v nv) 0).den cx.K ρ φ) w
   rw [den_bool, den_bool]
   have e : A.den ρ (.v nv) = if A.den ρ a = 0 then 1 else 0 := h0
   rw [e]
   generalize A.den ρ a = z
   simp only [Op.unary, Sem.run, Pure.pure]
   by_cases hz : z = 0 <;> simp [hz]
 ·rename_i k a hx
  split at h
  ·rename_i ik hk
   simp only [Option.some.injEq] at h
   subst h
   simp only [FnOK, Fn.pre, Fn.den, List.map_cons, List.map_nil, List.length_cons, List.length_nil] at hf
   have h0 := hf.2 0 (by omega)
   simp at h0
   refine RunOK.of_pure rfl rfl rfl fun φ a' w hev _ => ?_
   refine wp_val (s := Op.unary .neg (a'.eval x)) rfl ?_
   rw [hev x _ hx]
   show (Op.unary .neg ((C.ch k a 0).den cx.K ρ φ)).run cx.P w = .ok ((C.ch k (.v nv) 0).den cx.K ρ φ) w
   rw [den_int hk, den_int hk]
   simp [A.den, Op.unary, Op.intArith, Pure.pure, h0]
  ·simp at h
 ·rename_i k a hx
  split at h
  ·rename_i ik hk
   simp only [Option.some.injEq] at h
   subst h
   simp only [FnOK, Fn.pre, Fn.den, List.map_cons, List.map_nil, List.length_cons, List.length_nil] at hf
   have h0 := hf.2 0 (by omega)
   simp at h0
   refine RunOK.of_pure rfl rfl rfl fun φ a' w hev _ => ?_
   refine wp_val (s := Op.unary .xor (a'.eval x)) rfl ?_
   rw [hev x _ hx]
   show (Op.unary .xor ((C.ch k a 0).den cx.K ρ φ)).run cx.P w = .ok ((C.ch k (.v nv) 0).den cx.K ρ φ) w
   rw [den_int hk, den_int hk]
   simp [A.den, Op.unary, Op.intBits, Pure.pure, h0, cplF]
  ·simp at h
 ·simp at h
theorem ok_convert {evo : Operand -> Option V} {M Γ nv} {dst type pos after guard} {s d : TypeId} {x : Operand} {r : R}
  (h : evalOp0 cx evo M Γ nv ⟨dst, .convert s d x, type, pos, after, guard⟩ = some r) (hf : FnOK ρ nv r) : RunOK cx ρ evo ⟨dst, .convert s d x, type, pos, after, guard⟩ r := by
 simp only [evalOp0] at h
 split at h
 ·rename_i k a sd ik hx hs hd
  split at h
  ·rename_i ik' hk
   have run : ∀ w, (convert s d (.int ik' (a.den ρ))).run cx.P w = .ok (.int ik (ik.wrap (a.den ρ))) w := by
    intro w
    unfold convert
    rw [run_bind_ok (run_underlying (cx.unOK hs) w), run_bind_ok (run_underlying (cx.unOK hd) w)]
    rfl
   split at h
   ·rename_i z
    simp only [Option.some.injEq] at h
    subst h
    refine RunOK.of_pure rfl rfl rfl fun φ a' w hev _ => ?_
    refine wp_val (s := convert s d (a'.eval x)) rfl ?_
    rw [hev x _ hx]
    show (convert s d ((C.ch k (.n z) 0).den cx.K ρ φ)).run cx.P w = .ok ((C.ch (kof ik) (.n _) 0).den cx.K ρ φ) w
    rw [den_int hk, den_int (fok_kof ik)]
    exact run w
   ·simp only [Option.some.injEq] at h
    subst h
    simp only [FnOK, Fn.pre, Fn.den, List.map_cons, List.map_nil, List.length_cons, List.length_nil] at hf
    have h0 := hf.2 0 (by omega)
    simp at h0
    refine RunOK.of_pure rfl rfl rfl fun φ a' w hev _ => ?_
    refine wp_val (s := convert s d (a'.eval x)) rfl ?_
    rw [hev x _ hx]
    show (convert s d ((C.ch k a 0).den cx.K ρ φ)).run cx.P w = .ok ((C.ch (kof ik) (.v nv) 0).den cx.K ρ φ) w
    rw [den_int hk, den_int (fok_kof ik), run w]
    simp [A.den, h0]
  ·simp at h
 ·simp at h
end
end
end Go.Eng
namespace Go.Eng
open Go Go.RowKit
noncomputable section
section
variable {cx : Cx} {ρ : Nat -> Int}
theorem intLit_spec {evo : Operand -> Option V} {i : Operand} {z : Int} (h : (evo i).bind intLit = some z) : ∃ k ik, fok k = some ik /\ evo i = some (.one (.ch k (.n z) 0)) := by
 cases hv : evo i with
 | none => simp [hv] at h
 | some v =>
   simp only [hv, Option.bind_some] at h
   unfold intLit at h
   split at h
   ·rename_i k z'
    split at h
    ·rename_i ik hk
     simp only [Option.some.injEq] at h
     subst h
     exact ⟨k, ik, hk, rfl⟩
    ·simp at h
   ·simp at h
theorem eval_lit {evo : Operand -> Option V} {i : Operand} {z : Int} (h : (evo i).bind intLit = some z) {a : Act} {φ : Nat -> Pl} (hev : ∀ x v, evo x = some v -> a.eval x = v.den cx.K ρ φ) : ∃ ik, a.eval i = .int ik z := by
 obtain ⟨k, ik, hk, hv⟩ := intLit_spec h
 exact ⟨ik, by rw [hev i _ hv]; exact den_int (cx := cx) (ρ := ρ) (φ := φ) hk (.n z)⟩
theorem ok_fieldAddr {evo : Operand -> Option V} {M Γ nv} {dst type pos after guard} {s : TypeId} {x : Operand} {i : Nat} {r : R}
  (h : evalOp0 cx evo M Γ nv ⟨dst, .fieldAddr s x i, type, pos, after, guard⟩ = some r) : RunOK cx ρ evo ⟨dst, .fieldAddr s x i, type, pos, after, guard⟩ r := by
 simp only [evalOp0] at h
 split at h
 ·rename_i rr oo fs hx hs
  split at h
  ·rename_i f hf
   split at h
   ·rename_i inf hi
    cases hb : Nat.beq inf.size 0 with
    | true => simp [hb] at h
    | false =>
      simp only [hb, cond_false, Option.some.injEq] at h
      subst h
      have hne : inf.size ≠ 0 := Nat.ne_of_beq_eq_false hb
      refine RunOK.of_pure rfl rfl rfl fun φ a' w hev _ => ?_
      refine wp_val (s := Instr.fieldAt s (a'.eval x) i) rfl ?_
      rw [hev x _ hx]
      unfold Instr.fieldAt
      rw [run_bind_ok (run_underlying (cx.unOK hs) w)]
      simp only [hf]
      show (do let a <- Instr.sureAddr (.pointer (some (paddr φ rr oo))); pure (.pointer (some (<- fieldPlace a f))) : Sem Value).run cx.P w = _
      have h1 : (Instr.sureAddr (.pointer (some (paddr φ rr oo)))).run cx.P w = .ok (paddr φ rr oo) w := rfl
      rw [run_bind_ok h1]
      have h2 : (fieldPlace (paddr φ rr oo) f).run cx.P w = .ok (paddr φ rr (oo + f.offset)) w := by
       unfold fieldPlace
       rw [run_bind_ok (run_sizeOf (cx.tiOK hi) w), if_neg hne]
       show Result.ok ((at_ (pl φ rr oo) 0).add f.offset) w = _
       rw [addr_add]
       simp [at_, pl, paddr, Nat.add_assoc]
      rw [run_bind_ok h2]; rfl
   ·simp at h
  ·simp at h
 ·simp at h
theorem addr_idx (φ : Nat -> Pl) (r o n : Nat) : (paddr φ r o).add n = paddr φ r (o + n) := by
 have := addr_add (pl φ r o) 0 n
 simp only [at_, pl, Nat.zero_add, Nat.add_zero] at this
 simpa [paddr, Nat.add_assoc] using this
theorem ok_indexAddr {evo : Operand -> Option V} {M Γ nv} {dst type pos after guard} {t : TypeId} {x i : Operand} {r : R}
  (h : evalOp0 cx evo M Γ nv ⟨dst, .indexAddr t x i, type, pos, after, guard⟩ = some r) : RunOK cx ρ evo ⟨dst, .indexAddr t x i, type, pos, after, guard⟩ r := by
 simp only [evalOp0] at h
 split at h
 ·rename_i rr oo len e n hx ht hi
  split at h
  ·rename_i inf he
   cases hb : Nat.blt n len with
   | false => simp [hb] at h
   | true =>
     simp only [hb, cond_true, Option.some.injEq] at h
     subst h
     have hlt : n < len := by simpa [Nat.blt_eq] using hb
     refine RunOK.of_pure rfl rfl rfl fun φ a' w hev _ => ?_
     obtain ⟨ik, hik⟩ := eval_lit (cx := cx) (ρ := ρ) hi hev
     refine wp_val (s := Instr.indexAt t (a'.eval x) (a'.eval i)) rfl ?_
     rw [hev x _ hx, hik]
     unfold Instr.indexAt
     have h0 : (asIntOf (.int ik (.ofNat n))).run cx.P w = .ok (ik, .ofNat n) w := rfl
     rw [run_bind_ok h0]
     simp only
     rw [run_bind_ok (run_underlying (cx.unOK ht) w)]
     simp only [V.den, C.den]
     have h1 : (Instr.sureAddr (.pointer (some (paddr φ rr oo)))).run cx.P w = .ok (paddr φ rr oo) w := rfl
     rw [run_bind_ok h1, run_bind_ok (run_pure cx.P _ w)]
     simp only
     rw [run_bind_ok (run_underlying (cx.unOK ht) w)]
     simp only
     rw [if_pos ⟨Int.natCast_nonneg n, Int.ofNat_lt.2 hlt⟩, run_bind_ok (run_sizeOf (cx.tiOK he) w)]
     show Result.ok (Value.pointer (some ((paddr φ rr oo).add (n * inf.size)))) w = _
     rw [addr_idx]; rfl
  ·simp at h
 ·rename_i rr oo len cap e n hx ht hi
  split at h
  ·rename_i inf he
   cases hb : Nat.blt n len with
   | false => simp [hb] at h
   | true =>
     simp only [hb, cond_true, Option.some.injEq] at h
     subst h
     have hlt : n < len := by simpa [Nat.blt_eq] using hb
     refine RunOK.of_pure rfl rfl rfl fun φ a' w hev _ => ?_
     obtain ⟨ik, hik⟩ := eval_lit (cx := cx) (ρ := ρ) hi hev
     refine wp_val (s := Instr.indexAt t (a'.eval x) (a'.eval i)) rfl ?_
     rw [hev x _ hx, hik]
     unfold Instr.indexAt
     have h0 : (asIntOf (.int ik (.ofNat n))).run cx.P w = .ok (ik, .ofNat n) w := rfl
     rw [run_bind_ok h0]
     simp only
     rw [run_bind_ok (run_underlying (cx.unOK ht) w)]
     simp only [V.den, C.den]
     rw [run_bind_ok (run_pure cx.P _ w)]
     simp only
     rw [run_bind_ok (run_underlying (cx.unOK ht) w)]
     simp only
     rw [if_pos ⟨Int.natCast_nonneg n, Int.ofNat_lt.2 hlt⟩, run_bind_ok (run_sizeOf (cx.tiOK he) w)]
     show Result.ok (Value.pointer (some ((paddr φ rr oo).add (n * inf.size)))) w = _
     rw [addr_idx]; rfl
  ·simp at h
 ·simp at h
theorem denL_extract (φ : Nat -> Pl) (cs : List C) (o n : Nat) : ((denL cx ρ φ cs).toArray.extract o (o + n)) = (denL cx ρ φ ((cs.drop o).take n)).toArray := by
 simp [denL, List.map_drop, List.map_take, List.extract_eq_take_drop, Nat.add_sub_cancel_left]
theorem run_part {P : Program} {t : TypeId} {d : TypeDesc} {inf : TypeInfo} (hd : P.underlying t = some d) (hi : P.info? t = some inf) (cs : Array Value) (o : Nat) (w : World) (v : Value)
  (hv : if isAggD d then v = .agg (cs.extract o (o + inf.size)) else cs[o]? = some v) : (part t cs o).run P w = .ok v w := by
 unfold part
 rw [run_bind_ok (run_isAgg hd w)]
 cases hagg : isAggD d with
 | true =>
   rw [hagg] at hv
   simp only [if_true] at hv ⊢
   rw [run_bind_ok (run_sizeOf hi w), hv]; rfl
 | false =>
   rw [hagg] at hv
   simp only [Bool.false_eq_true, if_false] at hv ⊢
   rw [hv]; rfl
theorem ok_field {evo : Operand -> Option V} {M Γ nv} {dst type pos after guard} {t : TypeId} {x : Operand} {i : Nat} {r : R}
  (h : evalOp0 cx evo M Γ nv ⟨dst, .field t x i, type, pos, after, guard⟩ = some r) : RunOK cx ρ evo ⟨dst, .field t x i, type, pos, after, guard⟩ r := by
 simp only [evalOp0] at h
 split at h
 ·rename_i cs fs hx ht
  split at h
  ·rename_i f hf
   split at h
   ·rename_i d inf hd hi
    have run : ∀ (φ : Nat -> Pl) (w : World) (v : Value), (if isAggD d then v = .agg ((denL cx ρ φ cs).toArray.extract f.offset (f.offset + inf.size)) else (denL cx ρ φ cs).toArray[f.offset]? = some v) ->
      (Instr.field t (.agg (denL cx ρ φ cs).toArray) i).run cx.P w = .ok v w := by
     intro φ w v hv
     unfold Instr.field
     rw [run_bind_ok (run_underlying (cx.unOK ht) w)]
     simp only [hf]
     have h0 : (asAgg (.agg (denL cx ρ φ cs).toArray)).run cx.P w = .ok (denL cx ρ φ cs).toArray w := rfl
     rw [run_bind_ok h0]
     exact run_part (cx.unOK hd) (cx.tiOK hi) _ _ _ _ hv
    split at h
    ·rename_i hagg
     simp only [Option.some.injEq] at h
     subst h
     refine RunOK.of_pure rfl rfl rfl fun φ a' w hev _ => ?_
     refine wp_val (s := Instr.field t (a'.eval x) i) rfl ?_
     rw [hev x _ hx]
     exact run φ w _ (by rw [hagg]; simp only [if_true]; rw [denL_extract]; rfl)
    ·rename_i hagg
     split at h
     ·rename_i c hc
      simp only [Option.some.injEq] at h
      subst h
      refine RunOK.of_pure rfl rfl rfl fun φ a' w hev _ => ?_
      refine wp_val (s := Instr.field t (a'.eval x) i) rfl ?_
      rw [hev x _ hx]
      exact run φ w _ (by rw [hagg]; simp [denL, hc, V.den, R.pure])
     ·simp at h
   ·simp at h
  ·simp at h
 ·simp at h
theorem ok_index {evo : Operand -> Option V} {M Γ nv} {dst type pos after guard} {t : TypeId} {x i : Operand} {r : R}
  (h : evalOp0 cx evo M Γ nv ⟨dst, .index t x i, type, pos, after, guard⟩ = some r) : RunOK cx ρ evo ⟨dst, .index t x i, type, pos, after, guard⟩ r := by
 simp only [evalOp0] at h
 split at h
 ·rename_i cs len e n hx ht hil
  split at h
  ·rename_i d inf hd hi
   cases hb : Nat.blt n len with
   | false => simp [hb] at h
   | true =>
     simp only [hb, cond_true] at h
     have hlt : n < len := by simpa [Nat.blt_eq] using hb
     have run : ∀ (φ : Nat -> Pl) (w : World) (v : Value) (ik : IntKind), (if isAggD d then v = .agg ((denL cx ρ φ cs).toArray.extract (n * inf.size) (n * inf.size + inf.size)) else (denL cx ρ φ cs).toArray[n * inf.size]? = some v) ->
       (Instr.index t (.agg (denL cx ρ φ cs).toArray) (.int ik (.ofNat n))).run cx.P w = .ok v w := by
      intro φ w v ik hv
      unfold Instr.index
      have h0 : (asIntOf (.int ik (.ofNat n))).run cx.P w = .ok (ik, .ofNat n) w := rfl
      rw [run_bind_ok h0]
      simp only
      rw [run_bind_ok (run_underlying (cx.unOK ht) w)]
      simp only
      rw [if_pos ⟨Int.natCast_nonneg n, Int.ofNat_lt.2 hlt⟩, run_bind_ok (run_sizeOf (cx.tiOK hi) w)]
      exact run_part (cx.unOK hd) (cx.tiOK hi) _ _ _ _ hv
     split at h
     ·rename_i hagg
      simp only [Option.some.injEq] at h
      subst h
      refine RunOK.of_pure rfl rfl rfl fun φ a' w hev _ => ?_
      obtain ⟨ik, hik⟩ := eval_lit (cx := cx) (ρ := ρ) hil hev
      refine wp_val (s := Instr.index t (a'.eval x) (a'.eval i)) rfl ?_
      rw [hev x _ hx, hik]
      exact run φ w _ ik (by rw [hagg]; simp only [if_true]; rw [denL_extract]; rfl)
     ·rename_i hagg
      split at h
      ·rename_i c hc
       simp only [Option.some.injEq] at h
       subst h
       refine RunOK.of_pure rfl rfl rfl fun φ a' w hev _ => ?_
       obtain ⟨ik, hik⟩ := eval_lit (cx := cx) (ρ := ρ) hil hev
       refine wp_val (s := Instr.index t (a'.eval x) (a'.eval i)) rfl ?_
       rw [hev x _ hx, hik]
       exact run φ w _ ik (by rw [hagg]; simp [denL, hc, V.den, R.pure])
      ·simp at h
  ·simp at h
 ·simp at h
theorem ok_extract {evo : Operand -> Option V} {M Γ nv} {dst type pos after guard} {x : Operand} {i : Nat} {r : R}
  (h : evalOp0 cx evo M Γ nv ⟨dst, .extract x i, type, pos, after, guard⟩ = some r) : RunOK cx ρ evo ⟨dst, .extract x i, type, pos, after, guard⟩ r := by
 simp only [evalOp0] at h
 split at h
 ·rename_i vs hx
  split at h
  ·rename_i cs hv
   simp only [Option.some.injEq] at h
   subst h
   refine RunOK.of_pure rfl rfl rfl fun φ a' w hev _ => ?_
   refine wp_val (s := Instr.extract (a'.eval x) i) rfl ?_
   rw [hev x _ hx]
   simp only [V.den, Instr.extract]
   simp [hv, comp, Pure.pure, R.pure]
  ·rename_i c hv
   simp only [Option.some.injEq] at h
   subst h
   refine RunOK.of_pure rfl rfl rfl fun φ a' w hev _ => ?_
   refine wp_val (s := Instr.extract (a'.eval x) i) rfl ?_
   rw [hev x _ hx]
   simp only [V.den, Instr.extract]
   simp [hv, comp, Pure.pure, R.pure]
  ·simp at h
 ·simp at h
end
end
end Go.Eng
namespace Go.Eng
open Go Go.RowKit
noncomputable section
section
variable {cx : Cx} {ρ : Nat -> Int}
theorem foldl_set (l : List Value) : ∀ (cs : List Value) (off k : Nat), off + k + l.length <= cs.length ->
  (l.zipIdx k).foldl (fun (acc : Array Value) (x : Value × Nat) => acc.setIfInBounds (off + x.2) x.1) cs.toArray = (cs.take (off + k) ++ l ++ cs.drop (off + k + l.length)).toArray := by
 induction l with
 | nil => intro cs off k h; simp
 | cons v l ih =>
   intro cs off k h
   simp only [List.length_cons] at h
   simp only [List.zipIdx_cons, List.foldl_cons, List.setIfInBounds_toArray]
   rw [ih (cs.set (off + k) v) off (k + 1) (by simp; omega)]
   congr 1
   rw [List.drop_set_of_lt (by omega)]
   have : (cs.set (off + k) v).take (off + (k + 1)) = cs.take (off + k) ++ [v] := by
    rw [List.set_eq_take_append_cons_drop, if_pos (by omega), <- Nat.add_assoc, List.take_append]
    have e1 : (List.take (off + k) cs).length = off + k := by simp; omega
    rw [e1, List.take_take, Nat.min_eq_right (by omega)]
    have : off + k + 1 - (off + k) = 1 := by omega
    rw [this]; simp
   rw [this]
   have e : off + (k + 1) + l.length = off + k + (l.length + 1) := by omega
   rw [e]
   simp only [List.append_assoc, List.cons_append, List.nil_append, List.length_cons]
theorem fill_spec (hk : ∀ k, (cx.K k).Good) (φ : Nat -> Pl) (place : Nat -> Option (Nat × Nat)) : ∀ (vs : List (Nat × V)) (vals : List (Nat × Value)) (cells out : List C),
  (∀ c ∈ vs.flatMap (fun p => (p.2.cells).getD []), c.sto cx = true) ->
  vals = vs.map (fun p => (p.1, p.2.den cx.K ρ φ)) ->
  fillC place cells vs = some out -> Instr.fill place (denL cx ρ φ cells).toArray vals = some (denL cx ρ φ out).toArray
 | [], vals, cells, out, _, hv, h => by
   subst hv
   simp [fillC] at h; subst h; rfl
 | (i, v) :: vs, vals, cells, out, hs, hv, h => by
   subst hv
   unfold fillC at h
   split at h
   ·rename_i off size cs hp hc
    cases hb : (Nat.beq cs.length size && Nat.ble (off + size) cells.length) with
    | false => simp [hb] at h
    | true =>
      simp only [hb, cond_true] at h
      simp only [Bool.and_eq_true] at hb
      have h1 := Nat.eq_of_beq_eq_true hb.1
      have h2 := Nat.le_of_ble_eq_true hb.2
      have hone : ∀ c ∈ cs, oneC (c.den cx.K ρ φ) = true := fun c hcc => C.one_den hk (hs c (by
       simp only [List.flatMap_cons, hc, Option.getD_some, List.mem_append]; exact .inl hcc)) φ
      have hcd := cells_den (ρ := ρ) (cx := cx) hc φ hone
      simp only [List.map_cons, Instr.fill, hp, hcd]
      have hsz : (denL cx ρ φ cs).toArray.size = size := by simp [h1]
      rw [if_neg (by simp [h1]; omega)]
      have hf := foldl_set (denL cx ρ φ cs) (denL cx ρ φ cells) off 0 (by simp; omega)
      have e : (denL cx ρ φ cs).toArray.zipIdx.foldl (fun cs (c, j) => cs.setIfInBounds (off + j) c) (denL cx ρ φ cells).toArray = (denL cx ρ φ (cells.take off ++ cs ++ cells.drop (off + size))).toArray := by
       rw [<- Array.foldl_toList, Array.toList_zipIdx]
       simp only [Nat.add_zero] at hf
       rw [hf]
       simp [denL, List.map_take, List.map_drop, h1]
      rw [e]
      exact fill_spec hk φ place vs _ _ _ (fun c hcc => hs c (by simp only [List.flatMap_cons, List.mem_append]; exact .inr hcc)) rfl h
   ·simp at h
theorem evPairs_spec {evo : Operand -> Option V} {a : Act} {φ : Nat -> Pl} (hev : ∀ x v, evo x = some v -> a.eval x = v.den cx.K ρ φ) : ∀ (l : List (Nat × Operand)) (vs : List (Nat × V)), evPairs evo l = some vs ->
  l.map (fun (i, x) => (i, a.eval x)) = vs.map (fun p => (p.1, p.2.den cx.K ρ φ))
 | [], vs, h => by simp [evPairs] at h; subst h; rfl
 | (i, x) :: l, vs, h => by
   unfold evPairs at h
   split at h
   ·rename_i v vs' hx hl
    simp only [Option.some.injEq] at h
    subst h
    simp only [List.map_cons, hev x v hx, evPairs_spec hev l vs' hl]
   ·simp at h
theorem allM_spec {evo : Operand -> Option V} {a : Act} {φ : Nat -> Pl} (hev : ∀ x v, evo x = some v -> a.eval x = v.den cx.K ρ φ) : ∀ (l : List Operand) (vs : List V), allM evo l = some vs ->
  l.map a.eval = vs.map (V.den cx.K ρ φ)
 | [], vs, h => by simp [allM] at h; subst h; rfl
 | x :: l, vs, h => by
   unfold allM at h
   split at h
   ·rename_i v vs' hx hl
    simp only [Option.some.injEq] at h
    subst h
    simp only [List.map_cons, hev x v hx, allM_spec hev l vs' hl]
   ·simp at h
theorem ok_build (hk : ∀ k, (cx.K k).Good) {evo : Operand -> Option V} {M Γ nv} {dst type pos after guard} {t : TypeId} {ps : Array (Nat × Operand)} {r : R}
  (h : evalOp0 cx evo M Γ nv ⟨dst, .build t ps, type, pos, after, guard⟩ = some r) : RunOK cx ρ evo ⟨dst, .build t ps, type, pos, after, guard⟩ r := by
 simp only [evalOp0] at h
 split at h
 ·rename_i z len e vs hz ht hvs
  split at h
  ·rename_i inf he
   cases hb : (vs.flatMap (fun p => (p.2.cells).getD [])).all (C.sto cx) with
   | false => simp [hb] at h
   | true =>
     simp only [hb, cond_true] at h
     cases hfl : fillC (fun i => some (i * inf.size, inf.size)) z vs with
     | none => simp [hfl] at h
     | some cs =>
       simp only [hfl, Option.map_some, Option.some.injEq] at h
       subst h
       refine RunOK.of_pure rfl rfl rfl fun φ a' w hev _ => ?_
       refine wp_val (s := Instr.build t (ps.map fun (i, x) => (i, a'.eval x))) rfl ?_
       unfold zeroCells at hz
       split at hz
       ·rename_i i hi
        split at hz
        ·rename_i v hv
         have hzr : (zeroValue t).run cx.P w = .ok v w := by
          unfold zeroValue
          rw [run_bind_ok (run_typeInfo (cx.tiOK hi) w)]
          simp [hv]
         unfold Instr.build
         rw [run_bind_ok hzr]
         simp only
         rw [run_bind_ok (run_underlying (cx.unOK ht) w)]
         simp only
         rw [run_bind_ok (run_sizeOf (cx.tiOK he) w)]
         have hzc := zero_cells (cx := cx) (ρ := ρ) hz φ
         have hl := evPairs_spec (cx := cx) (ρ := ρ) hev _ _ hvs
         have hfs := fill_spec (cx := cx) (ρ := ρ) hk φ (fun i => some (i * inf.size, inf.size)) vs (ps.map fun (i, x) => (i, a'.eval x)).toList z cs (List.all_eq_true.1 hb) (by simpa using hl) hfl
         rw [hzc, hfs]; rfl
        ·simp at hz
       ·simp at hz
  ·simp at h
 ·simp at h
theorem run_bound {P : Program} {w : World} {k : IntKind} {z : Nat} {y : Nat} (c : BoundsCode) (h : z <= y) : (Instr.sliceBound (.int k (.ofNat z)) y c).run P w = .ok z w := by
 unfold Instr.sliceBound
 have h0 : (asIntOf (.int k (.ofNat z))).run P w = .ok (k, .ofNat z) w := rfl
 rw [run_bind_ok h0]
 simp only
 rw [if_pos ⟨Int.natCast_nonneg z, Int.ofNat_le.2 h⟩]; rfl
theorem ok_slice {evo : Operand -> Option V} {M Γ nv} {dst type pos after guard} {t : TypeId} {x : Operand} {lo hi : Option Operand} {r : R}
  (h : evalOp0 cx evo M Γ nv ⟨dst, .slice t x lo hi none, type, pos, after, guard⟩ = some r) : RunOK cx ρ evo ⟨dst, .slice t x lo hi none, type, pos, after, guard⟩ r := by
 simp only [evalOp0] at h
 split at h
 ·rename_i rr oo n e hx ht
  split at h
  ·rename_i l hh inf hl hhi he
   cases hb : (Nat.ble l hh && Nat.ble hh n && Nat.blt l n) with
   | false => simp [hb] at h
   | true =>
     simp only [hb, cond_true, Option.some.injEq] at h
     subst h
     simp only [Bool.and_eq_true] at hb
     obtain ⟨⟨h1, h2⟩, h3⟩ := hb
     have h1 := Nat.le_of_ble_eq_true h1
     have h2 := Nat.le_of_ble_eq_true h2
     have h3 : l < n := by simpa [Nat.blt_eq] using h3
     refine RunOK.of_pure rfl rfl rfl fun φ a' w hev _ => ?_
     refine wp_val (s := Instr.sliceAt t (a'.eval x) (lo.map a'.eval) (hi.map a'.eval) none) rfl ?_
     rw [hev x _ hx]
     have hbnd : (Instr.sliceBounds false n n (lo.map a'.eval) (hi.map a'.eval) none).run cx.P w = .ok (l, hh, n) w := by
      have hhi' : (hi = none /\ hh = n) \/ ∃ y ik, hi = some y /\ a'.eval y = .int ik (.ofNat hh) := by
       cases hi with
       | none => simp only [Option.some.injEq] at hhi; exact .inl ⟨rfl, hhi.symm⟩
       | some y =>
         simp only at hhi
         split at hhi
         ·rename_i z hz
          simp only [Option.some.injEq] at hhi
          subst hhi
          obtain ⟨ik, hik⟩ := eval_lit (cx := cx) (ρ := ρ) hz hev
          exact .inr ⟨y, ik, rfl, hik⟩
         ·simp at hhi
      have hlo' : (lo = none /\ l = 0) \/ ∃ y ik, lo = some y /\ a'.eval y = .int ik (.ofNat l) := by
       cases lo with
       | none => simp only [Option.some.injEq] at hl; exact .inl ⟨rfl, hl.symm⟩
       | some y =>
         simp only at hl
         split at hl
         ·rename_i z hz
          simp only [Option.some.injEq] at hl
          subst hl
          obtain ⟨ik, hik⟩ := eval_lit (cx := cx) (ρ := ρ) hz hev
          exact .inr ⟨y, ik, rfl, hik⟩
         ·simp at hl
      unfold Instr.sliceBounds
      simp only
      rw [run_bind_ok (run_pure cx.P n w)]
      rcases hhi' with ⟨rfl, rfl⟩ | ⟨y, ik, rfl, hik⟩
      ·simp only [Option.map_none]
       rw [run_bind_ok (run_pure cx.P hh w)]
       rcases hlo' with ⟨rfl, rfl⟩ | ⟨y, ik, rfl, hik⟩
       ·rfl
       ·simp only [Option.map_some, hik]
        rw [run_bind_ok (run_bound _ h1)]; rfl
      ·simp only [Option.map_some, hik]
       rw [run_bind_ok (run_bound _ h2)]
       rcases hlo' with ⟨rfl, rfl⟩ | ⟨y', ik', rfl, hik'⟩
       ·rfl
       ·simp only [Option.map_some, hik']
        rw [run_bind_ok (run_bound _ h1)]; rfl
     unfold Instr.sliceAt
     rw [run_bind_ok (run_underlying (cx.unOK ht) w)]
     simp only
     have h0 : (Instr.sureAddr ((V.one (.ptr rr oo)).den cx.K ρ φ)).run cx.P w = .ok (paddr φ rr oo) w := rfl
     rw [run_bind_ok h0, run_bind_ok hbnd]
     simp only
     rw [run_bind_ok (run_sizeOf (cx.tiOK he) w)]
     have hne : ¬ n = l := by omega
     rw [if_neg hne, addr_idx]; rfl
  ·simp at h
 ·simp at h
end
end
end Go.Eng
namespace Go.Eng
open Go Go.RowKit
noncomputable section
section
variable {cx : Cx} {ρ : Nat -> Int}
theorem eqL_eq : ∀ {l m : List Nat}, eqL l m = true -> l = m
 | [], [], _ => rfl
 | [], _ :: _, h => by simp [eqL] at h
 | _ :: _, [], h => by simp [eqL] at h
 | a :: l, b :: m, h => by
   simp only [eqL, Bool.and_eq_true] at h
   rw [Nat.eq_of_beq_eq_true h.1, eqL_eq h.2]
theorem sameCh_spec {k : Nat} {a : A} : ∀ (l : List C) (j : Nat), sameCh k a j l = true -> l = (List.range' j l.length).map (.ch k a)
 | [], _, _ => rfl
 | c :: l, j, h => by
   cases c with
   | ch k' a' j' =>
     simp only [sameCh, Bool.and_eq_true] at h
     obtain ⟨⟨⟨h1, h2⟩, h3⟩, h4⟩ := h
     have h1 := Nat.eq_of_beq_eq_true h1
     have h2 := A.eq_of_beq h2
     have h3 := Nat.eq_of_beq_eq_true h3
     subst h1; subst h2; subst h3
     rw [List.length_cons, List.range'_succ, List.map_cons, <- sameCh_spec l (j + 1) h4]
   | _ => simp [sameCh] at h
theorem chCells_den (hk : ∀ k, (cx.K k).Good) (φ : Nat -> Pl) (k : Nat) (a : A) : denL cx ρ φ (chCells k a (cx.K k).size) = (cx.K k).enc (a.den ρ) := by
 refine List.ext_getElem? fun j => ?_
 simp only [denL, chCells, List.map_map, List.getElem?_map]
 rcases Nat.lt_or_ge j (cx.K k).size with h | h
 ·have : (List.range (cx.K k).size)[j]? = some j := by simp [h]
  rw [this]
  have hl : j < ((cx.K k).enc (a.den ρ)).length := by rw [(hk k).len]; exact h
  simp [C.den, hl]
 ·have : (List.range (cx.K k).size)[j]? = none := by simp [h]
  rw [this]
  have hl : ((cx.K k).enc (a.den ρ)).length <= j := by rw [(hk k).len]; exact h
  simp [hl]
theorem parse1_spec (hg : cx.Good) {Γ : Tr Nat} (hΓ : GamOK cx ρ Γ) {k : Nat} {l : List C} {a : A} (h : parse1 cx Γ k l = some a) (φ : Nat -> Pl) :
  denL cx ρ φ l = (cx.K k).enc (a.den ρ) /\ (cx.K k).ok (a.den ρ) := by
 unfold parse1 at h
 cases hl : Nat.beq l.length (cx.K k).size with
 | false => simp [hl] at h
 | true =>
   simp only [hl, cond_true] at h
   have hlen := Nat.eq_of_beq_eq_true hl
   have dec : (cx.dec k l).map A.n = some a -> denL cx ρ φ l = (cx.K k).enc (a.den ρ) /\ (cx.K k).ok (a.den ρ) := by
    intro hd
    cases hdd : cx.dec k l with
    | none => simp [hdd] at hd
    | some n =>
      simp [hdd] at hd
      subst hd
      have := hg.dec k l n hdd
      exact ⟨this.2 ρ φ, this.1⟩
   split at h
   ·rename_i k' a' l'
    cases hs : (sameCh k a' 0 (.ch k' a' 0 :: l') && aok Γ k a') with
    | true =>
      simp only [hs, cond_true, Option.some.injEq] at h
      subst h
      simp only [Bool.and_eq_true] at hs
      have h1 := sameCh_spec _ _ hs.1
      have h2 := aok_ok hΓ hs.2
      refine ⟨?_, h2⟩
      rw [h1, hlen, <- List.range_eq_range']
      exact chCells_den hg.kinds φ k a'
    | false =>
      simp only [hs, cond_false] at h
      cases hkk : Nat.beq k k' with
      | true => simp [hkk] at h
      | false => simp only [hkk, cond_false] at h; exact dec h
   ·exact dec h
theorem parseL_spec (hg : cx.Good) {Γ : Tr Nat} (hΓ : GamOK cx ρ Γ) (φ : Nat -> Pl) : ∀ (ks : List Nat) (l : List C) (as : List A), parseL cx Γ ks l = some as ->
  denL cx ρ φ l = encs cx.K ks (as.map (A.den ρ)) /\ oks cx.K ks (as.map (A.den ρ)) /\ as.length = ks.length
 | [], [], as, h => by simp [parseL] at h; subst h; exact ⟨rfl, trivial, rfl⟩
 | [], _ :: _, as, h => by simp [parseL] at h
 | k :: ks, l, as, h => by
   unfold parseL at h
   split at h
   ·rename_i a as' h1 h2
    simp only [Option.some.injEq] at h
    subst h
    have p1 := parse1_spec hg hΓ h1 φ
    have p2 := parseL_spec hg hΓ φ ks _ _ h2
    refine ⟨?_, ?_, by simp [p2.2.2]⟩
    ·simp only [encs, List.map_cons, List.headD_cons, List.tail_cons]
     rw [<- p1.1, <- p2.1]
     simp [denL]
    ·exact ⟨p1.2, p2.2.1⟩
   ·simp at h
theorem encs_append (K : Nat -> Kind) : ∀ (ks : List Nat) (xs ys : List Int), xs.length = ks.length -> encs K ks (xs ++ ys) = encs K ks xs
 | [], _, _, _ => rfl
 | k :: ks, x :: xs, ys, h => by simp only [encs, List.cons_append, List.headD_cons, List.tail_cons, encs_append K ks xs ys (by simpa using h)]
 | k :: ks, [], _, h => by simp at h
theorem oks_append (K : Nat -> Kind) : ∀ (ks : List Nat) (xs ys : List Int), xs.length = ks.length -> (oks K ks (xs ++ ys) ↔ oks K ks xs)
 | [], _, _, _ => Iff.rfl
 | k :: ks, x :: xs, ys, h => by simp only [oks, List.cons_append, List.headD_cons, List.tail_cons, oks_append K ks xs ys (by simpa using h)]
 | k :: ks, [], _, h => by simp at h
theorem newCells_den (hk : ∀ k, (cx.K k).Good) (φ : Nat -> Pl) : ∀ (ks : List Nat) (nv : Nat) (ys : List Int), (∀ i, i < ks.length -> ρ (nv + i) = ys.getD i 0) -> denL cx ρ φ (newCells cx ks nv) = encs cx.K ks ys
 | [], _, _, _ => rfl
 | k :: ks, nv, ys, h => by
   simp only [newCells, encs, denL, List.map_append]
   have h0 : ρ nv = ys.headD 0 := by have := h 0 (by simp); simpa [List.headD_eq_head?_getD, List.getD_eq_getElem?_getD, List.head?_eq_getElem?] using this
   have ih := newCells_den hk φ ks (nv + 1) ys.tail (fun i hi => by
    have := h (i + 1) (by simp; omega)
    rw [show nv + 1 + i = nv + (i + 1) by omega, this]
    simp [List.getD_eq_getElem?_getD])
   have hc := chCells_den (ρ := ρ) hk φ k (.v nv)
   simp only [denL] at ih hc
   rw [ih, hc]
   simp [A.den, h0]
theorem newCells_length (hk : ∀ k, (cx.K k).Good) : ∀ (ks : List Nat) (nv : Nat), (newCells cx ks nv).length = szs cx.K ks
 | [], _ => rfl
 | k :: ks, nv => by simp [newCells, szs, chCells, newCells_length hk ks]
def acts (φ : Nat -> Pl) (as : List (Nat × Nat × Nat)) : List Act' := as.map fun x => (pl φ x.1 x.2.1, x.2.2)
theorem acts_headD (φ : Nat -> Pl) (a : Nat × Nat × Nat) (as : List (Nat × Nat × Nat)) : (acts φ (a :: as)).headD (⟨0, 0, 0⟩, 0) = (pl φ a.1 a.2.1, a.2.2) := rfl
theorem acts_tail (φ : Nat -> Pl) (a : Nat × Nat × Nat) (as : List (Nat × Nat × Nat)) : (acts φ (a :: as)).tail = acts φ as := rfl
theorem doArgs_spec (hg : cx.Good) {M : List Reg} {Γ : Tr Nat} (hΓ : GamOK cx ρ Γ) (φ : Nat -> Pl) (w : World) : ∀ (ds : List ArgD) (vs : List V) (ca : CA) (nv : Nat), doArgs cx M Γ ds vs = some ca ->
  (∀ x ∈ ca.rds, cellsAt w (pl φ x.1 x.2.1) (denL cx ρ φ x.2.2)) -> (∀ x ∈ doOuts cx ds ca.as nv, wrAt w (pl φ x.1 x.2.1) x.2.2.length) ->
  insHold cx.K w ds (acts φ ca.as) (ca.ins.map (A.den ρ)) /\ argVals cx.K ds (acts φ ca.as) (ca.ins.map (A.den ρ)) = vs.map (V.den cx.K ρ φ)
 | [], [], ca, _, h, _, _ => by simp [doArgs] at h; subst h; exact ⟨trivial, rfl⟩
 | [], _ :: _, ca, _, h, _, _ => by simp [doArgs] at h
 | .ref rd wr sl ks :: ds, v :: vs, ca, nv, h, hr, hw => by
   simp only [doArgs] at h
   split at h
   ·rename_i rr oo cc ca' hpl hrec
    cases hb : ((wr && !canWr M rr oo (szs cx.K ks)) || (!rd && !wr)) with
    | true => simp [hb] at h
    | false =>
      simp only [hb, cond_false] at h
      have hptr : (if sl then Value.slice (some (at_ (pl φ rr oo) 0)) (szs cx.K ks) cc else Value.pointer (some (at_ (pl φ rr oo) 0))) = v.den cx.K ρ φ := by
       split at hpl
       ·simp only [Option.some.injEq, Prod.mk.injEq] at hpl
        obtain ⟨rfl, rfl, rfl⟩ := hpl
        rfl
       ·rename_i r' o' l' c'
        cases hl : Nat.beq l' (szs cx.K ks) with
        | false => simp [hl] at hpl
        | true =>
          simp only [hl, cond_true, Option.some.injEq, Prod.mk.injEq] at hpl
          obtain ⟨rfl, rfl, rfl⟩ := hpl
          have := Nat.eq_of_beq_eq_true hl
          subst this
          rfl
       ·simp at hpl
      split at h
      ·simp only [Option.some.injEq] at h
       subst h
       have hwr : wr = true := by cases wr <;> simp at hb <;> rfl
       subst hwr
       simp only [doOuts, cond_true, List.headD_cons, List.tail_cons] at hw
       have ih := doArgs_spec hg hΓ φ w ds vs ca' (nv + ks.length) hrec hr (fun x hx => hw x (List.mem_cons_of_mem _ hx))
       refine ⟨⟨fun hf => (by cases hf), fun _ => ?_, ?_⟩, ?_⟩
       ·have := hw _ (List.mem_cons_self ..)
        rw [newCells_length hg.kinds] at this
        exact this
       ·exact ih.1
       ·simp only [argVals, acts_headD, acts_tail, Bool.false_eq_true, if_false, List.map_cons, hptr, ih.2]
      ·split at h
       ·rename_i l hl
        split at h
        ·rename_i as has
         simp only [Option.some.injEq] at h
         subst h
         have p := parseL_spec hg hΓ φ ks l as has
         have hlen : (as.map (A.den ρ)).length = ks.length := by simp [p.2.2]
         have hc := hr _ (List.mem_cons_self ..)
         simp only at hc
         rw [p.1] at hc
         have hwt : (∀ x ∈ doOuts cx ds ca'.as (if wr then nv + ks.length else nv), wrAt w (pl φ x.1 x.2.1) x.2.2.length) /\ (wr = true -> wrAt w (pl φ rr oo) (szs cx.K ks)) := by
          cases wr with
          | true =>
            simp only [doOuts, cond_true, List.headD_cons, List.tail_cons] at hw
            refine ⟨fun x hx => hw x (List.mem_cons_of_mem _ (by simpa using hx)), fun _ => ?_⟩
            have := hw _ (List.mem_cons_self ..)
            rw [newCells_length hg.kinds] at this
            exact this
          | false =>
            simp only [doOuts, cond_false, List.headD_cons, List.tail_cons] at hw
            exact ⟨fun x hx => hw x (by simpa using hx), fun hf => (by cases hf)⟩
         have ih := doArgs_spec hg hΓ φ w ds vs ca' _ hrec (fun x hx => hr x (List.mem_cons_of_mem _ hx)) hwt.1
         have hdrop : ((as ++ ca'.ins).map (A.den ρ)).drop ks.length = ca'.ins.map (A.den ρ) := by
          rw [List.map_append, <- hlen, List.drop_left]
         refine ⟨⟨fun _ => ?_, hwt.2, ?_⟩, ?_⟩
         ·simp only [acts_headD, List.map_append]
          rw [encs_append _ _ _ _ hlen, oks_append _ _ _ _ hlen]
          exact ⟨hc, p.2.1⟩
         ·simp only [if_true, acts_tail]
          rw [hdrop]; exact ih.1
         ·simp only [argVals, acts_headD, acts_tail, if_true, List.map_cons, hptr]
          rw [hdrop, ih.2]
        ·simp at h
       ·simp at h
   ·simp at h
 | .val k :: ds, v :: vs, ca, nv, h, hr, hw => by
   simp only [doArgs] at h
   split at h
   ·rename_i c ca' hrec
    split at h
    ·rename_i as has
     simp only [Option.some.injEq] at h
     subst h
     have p := parseL_spec hg hΓ φ [k] [c] as has
     have ih := doArgs_spec hg hΓ φ w ds vs ca' nv hrec hr hw
     match as, p with
     | [a], p =>
       refine ⟨⟨?_, ih.1⟩, ?_⟩
       ·exact ⟨p.2.1.1, trivial⟩
       ·have e := p.1
        simp only [denL, List.map_cons, List.map_nil] at e
        have e2 : encs cx.K [k] (([a] ++ ca'.ins).map (A.den ρ)) = [c.den cx.K ρ φ] := by
         rw [List.map_append, encs_append _ _ _ _ rfl]; exact e.symm
        simp only [argVals, acts_tail, List.map_cons]
        rw [e2]
        simp only [List.cons_append, List.nil_append, List.map_cons, List.tail_cons, ih.2]
        rfl
     | [], p => simp at p
     | _ :: _ :: _, p => simp at p
    ·simp at h
   ·simp at h
 | .agg ks :: ds, v :: vs, ca, nv, h, hr, hw => by
   simp only [doArgs] at h
   split at h
   ·rename_i l ca' hrec
    split at h
    ·rename_i as has
     simp only [Option.some.injEq] at h
     subst h
     have p := parseL_spec hg hΓ φ ks l as has
     have ih := doArgs_spec hg hΓ φ w ds vs ca' nv hrec hr hw
     have hlen : (as.map (A.den ρ)).length = ks.length := by simp [p.2.2]
     have hdrop : ((as ++ ca'.ins).map (A.den ρ)).drop ks.length = ca'.ins.map (A.den ρ) := by
      rw [List.map_append, <- hlen, List.drop_left]
     refine ⟨⟨?_, ?_⟩, ?_⟩
     ·rw [List.map_append, oks_append _ _ _ _ hlen]; exact p.2.1
     ·rw [hdrop]; exact ih.1
     ·simp only [argVals, acts_tail, List.map_cons]
      rw [hdrop, ih.2, List.map_append, encs_append _ _ _ _ hlen, <- p.1]
      rfl
    ·simp at h
   ·simp at h
 | .ref .. :: _, [], ca, _, h, _, _ => by simp [doArgs] at h
 | .val _ :: _, [], ca, _, h, _, _ => by simp [doArgs] at h
 | .agg _ :: _, [], ca, _, h, _, _ => by simp [doArgs] at h
theorem doArgs_len {M : List Reg} {Γ : Tr Nat} : ∀ (ds : List ArgD) (vs : List V) (ca : CA), doArgs cx M Γ ds vs = some ca -> ca.as.length = ds.length
 | [], [], ca, h => by simp [doArgs] at h; subst h; rfl
 | [], _ :: _, ca, h => by simp [doArgs] at h
 | .ref rd wr sl ks :: ds, v :: vs, ca, h => by
   simp only [doArgs] at h
   split at h
   ·rename_i rr oo cc ca' hpl hrec
    have ih := doArgs_len ds vs ca' hrec
    cases hb : ((wr && !canWr M rr oo (szs cx.K ks)) || (!rd && !wr)) with
    | true => simp [hb] at h
    | false =>
      simp only [hb, cond_false] at h
      split at h
      ·simp only [Option.some.injEq] at h; subst h; simp [ih]
      ·split at h
       ·split at h
        ·simp only [Option.some.injEq] at h; subst h; simp [ih]
        ·simp at h
       ·simp at h
   ·simp at h
 | .val k :: ds, v :: vs, ca, h => by
   simp only [doArgs] at h
   split at h
   ·rename_i c ca' hrec
    have ih := doArgs_len ds vs ca' hrec
    split at h
    ·simp only [Option.some.injEq] at h; subst h; simp [ih]
    ·simp at h
   ·simp at h
 | .agg ks :: ds, v :: vs, ca, h => by
   simp only [doArgs] at h
   split at h
   ·rename_i l ca' hrec
    have ih := doArgs_len ds vs ca' hrec
    split at h
    ·simp only [Option.some.injEq] at h; subst h; simp [ih]
    ·simp at h
   ·simp at h
 | .ref .. :: _, [], ca, h => by simp [doArgs] at h
 | .val _ :: _, [], ca, h => by simp [doArgs] at h
 | .agg _ :: _, [], ca, h => by simp [doArgs] at h
theorem args_entry (hk : ∀ k, (cx.K k).Good) {M : List Reg} {Γ : Tr Nat} : ∀ (ds : List ArgD) (vs : List V) (ca : CA) (nv : Nat), doArgs cx M Γ ds vs = some ca ->
  ∀ i wr ks, (ds[i]?).bind ArgD.ref? = some (wr, ks) -> ∃ x, (wr = true -> x ∈ doOuts cx ds ca.as nv) /\ (x ∈ ca.rds \/ x ∈ doOuts cx ds ca.as nv) /\
   x.1 = (ca.as.getD i (0, 0, 0)).1 /\ x.2.1 = (ca.as.getD i (0, 0, 0)).2.1 /\ x.2.2.length = szs cx.K ks
 | [], [], ca, _, h, i, wr, ks, hi => by simp at hi
 | [], _ :: _, ca, _, h, _, _, _, _ => by simp [doArgs] at h
 | .ref rd wr sl ks :: ds, v :: vs, ca, nv, h, i, wr', ks', hi => by
   simp only [doArgs] at h
   split at h
   ·rename_i rr oo cc ca' hpl hrec
    cases hb : ((wr && !canWr M rr oo (szs cx.K ks)) || (!rd && !wr)) with
    | true => simp [hb] at h
    | false =>
      simp only [hb, cond_false] at h
      have key : ∀ (rds : List (Nat × Nat × List C)) (ins : List A), ca = ⟨ins, (rr, oo, cc) :: ca'.as, rds⟩ -> (∀ x ∈ ca'.rds, x ∈ rds) -> (wr = false -> ∃ l, (rr, oo, l) ∈ rds /\ l.length = szs cx.K ks) ->
        ∃ x, (wr' = true -> x ∈ doOuts cx (.ref rd wr sl ks :: ds) ca.as nv) /\ (x ∈ ca.rds \/ x ∈ doOuts cx (.ref rd wr sl ks :: ds) ca.as nv) /\
         x.1 = (ca.as.getD i (0, 0, 0)).1 /\ x.2.1 = (ca.as.getD i (0, 0, 0)).2.1 /\ x.2.2.length = szs cx.K ks' := by
       intro rds ins hca hsub hrd
       subst hca
       cases i with
       | zero =>
         simp [ArgD.ref?] at hi
         obtain ⟨rfl, rfl⟩ := hi
         cases wr with
         | true => exact ⟨(rr, oo, newCells cx ks nv), fun _ => by simp [doOuts], .inr (by simp [doOuts]), rfl, rfl, newCells_length hk ks nv⟩
         | false =>
           obtain ⟨l, hl, hll⟩ := hrd rfl
           exact ⟨(rr, oo, l), fun hf => (by cases hf), .inl hl, rfl, rfl, hll⟩
       | succ i =>
         obtain ⟨x, h1, h2, h3, h4, h5⟩ := args_entry hk ds vs ca' (bif wr then nv + ks.length else nv) hrec i wr' ks' (by simpa using hi)
         have hin : x ∈ doOuts cx ds ca'.as (bif wr then nv + ks.length else nv) -> x ∈ doOuts cx (.ref rd wr sl ks :: ds) ((rr, oo, cc) :: ca'.as) nv := by
          intro hx
          cases wr with
          | true => simp only [doOuts, cond_true, List.tail_cons]; exact List.mem_cons_of_mem _ hx
          | false => simpa [doOuts] using hx
         exact ⟨x, fun hw => hin (h1 hw), h2.elim (fun hx => .inl (hsub x hx)) (fun hx => .inr (hin hx)), by simpa using h3, by simpa using h4, h5⟩
      split at h
      ·simp only [Option.some.injEq] at h
       have hwr : wr = true := by cases wr <;> simp at hb <;> rfl
       exact key _ _ h.symm (fun x hx => hx) (fun hf => by rw [hwr] at hf; cases hf)
      ·split at h
       ·rename_i l hl
        split at h
        ·simp only [Option.some.injEq] at h
         exact key _ _ h.symm (fun x hx => List.mem_cons_of_mem _ hx) (fun _ => ⟨l, List.mem_cons_self .., (readC_spec hl).1⟩)
        ·simp at h
       ·simp at h
   ·simp at h
 | .val k :: ds, v :: vs, ca, nv, h, i, wr', ks', hi => by
   simp only [doArgs] at h
   split at h
   ·rename_i c ca' hrec
    split at h
    ·simp only [Option.some.injEq] at h
     subst h
     cases i with
     | zero => simp [ArgD.ref?] at hi
     | succ i => simpa [doOuts] using args_entry hk ds vs ca' nv hrec i wr' ks' (by simpa using hi)
    ·simp at h
   ·simp at h
 | .agg k :: ds, v :: vs, ca, nv, h, i, wr', ks', hi => by
   simp only [doArgs] at h
   split at h
   ·rename_i c ca' hrec
    split at h
    ·simp only [Option.some.injEq] at h
     subst h
     cases i with
     | zero => simp [ArgD.ref?] at hi
     | succ i => simpa [doOuts] using args_entry hk ds vs ca' nv hrec i wr' ks' (by simpa using hi)
    ·simp at h
   ·simp at h
 | .ref .. :: _, [], ca, _, h, _, _, _, _ => by simp [doArgs] at h
 | .val _ :: _, [], ca, _, h, _, _, _, _ => by simp [doArgs] at h
 | .agg _ :: _, [], ca, _, h, _, _, _, _ => by simp [doArgs] at h
theorem apartL_spec {d : ArgD} {a : Nat × Nat × Nat} : ∀ (ds : List ArgD) (as : List (Nat × Nat × Nat)), apartL cx d a ds as = true -> ∀ j dj, ds[j]? = some dj -> apart1 cx d a dj (as.getD j (0, 0, 0)) = true
 | [], _, _, j, dj, hj => by simp at hj
 | d' :: ds, as, h, j, dj, hj => by
   simp only [apartL, Bool.and_eq_true] at h
   cases j with
   | zero =>
     simp at hj; subst hj
     have : as.getD 0 (0, 0, 0) = as.headD (0, 0, 0) := by cases as <;> rfl
     rw [this]; exact h.1
   | succ j =>
     have := apartL_spec ds as.tail h.2 j dj (by simpa using hj)
     have e : as.tail.getD j (0, 0, 0) = as.getD (j + 1) (0, 0, 0) := by cases as <;> simp
     rwa [e] at this
theorem apartLL_spec : ∀ (ds : List ArgD) (as : List (Nat × Nat × Nat)), apartLL cx ds as = true -> ∀ i j di dj, i < j -> ds[i]? = some di -> ds[j]? = some dj -> apart1 cx di (as.getD i (0, 0, 0)) dj (as.getD j (0, 0, 0)) = true
 | [], _, _, i, j, di, dj, _, hi, _ => by simp at hi
 | d :: ds, as, h, i, j, di, dj, hij, hi, hj => by
   simp only [apartLL, Bool.and_eq_true] at h
   obtain ⟨j', rfl⟩ : ∃ j', j = j' + 1 := ⟨j - 1, by omega⟩
   have e : ∀ n, as.tail.getD n (0, 0, 0) = as.getD (n + 1) (0, 0, 0) := fun n => by cases as <;> simp
   cases i with
   | zero =>
     simp at hi; subst hi
     have := apartL_spec ds as.tail h.1 j' dj (by simpa using hj)
     rw [e] at this
     have e0 : as.getD 0 (0, 0, 0) = as.headD (0, 0, 0) := by cases as <;> rfl
     rwa [e0]
   | succ i =>
     have := apartLL_spec ds as.tail h.2 i j' di dj (by omega) (by simpa using hi) (by simpa using hj)
     rwa [e, e] at this
theorem acts_getD (φ : Nat -> Pl) (as : List (Nat × Nat × Nat)) (i : Nat) (h : i < as.length) : ((acts φ as).getD i (⟨0, 0, 0⟩, 0)).1 = pl φ (as.getD i (0, 0, 0)).1 (as.getD i (0, 0, 0)).2.1 := by
 simp [acts, h]
theorem disj_symm {p q : Pl} {n m : Nat} (h : disj p n q m) : disj q m p n := by
 unfold disj at *
 rcases h with h | h | h
 ·exact .inl (fun e => h e.symm)
 ·exact .inr (.inr h)
 ·exact .inr (.inl h)
theorem sep_spec (hk : ∀ k, (cx.K k).Good) {M : List Reg} {Γ : Tr Nat} (φ : Nat -> Pl) {ds : List ArgD} {vs : List V} {ca : CA} {nv : Nat} (h : doArgs cx M Γ ds vs = some ca) (ha : apartLL cx ds ca.as = true)
  (hd : ∀ x ∈ doOuts cx ds ca.as nv, ∀ y ∈ ca.rds ++ doOuts cx ds ca.as nv, x.1 ≠ y.1 -> disj (pl φ x.1 x.2.1) x.2.2.length (pl φ y.1 y.2.1) y.2.2.length) :
  sepP cx.K ds (acts φ ca.as) := by
 intro i j ki kj b hij hi hj
 have hlen := doArgs_len ds vs ca h
 obtain ⟨di, hdi, hri⟩ : ∃ di, ds[i]? = some di /\ di.ref? = some (true, ki) := by
  cases hx : ds[i]? with
  | none => simp [hx] at hi
  | some d => exact ⟨d, rfl, by simpa [hx] using hi⟩
 obtain ⟨dj, hdj, hrj⟩ : ∃ dj, ds[j]? = some dj /\ dj.ref? = some (b, kj) := by
  cases hx : ds[j]? with
  | none => simp [hx] at hj
  | some d => exact ⟨d, rfl, by simpa [hx] using hj⟩
 have hil : i < ca.as.length := by rw [hlen]; exact (List.getElem?_eq_some_iff.1 hdi).1
 have hjl : j < ca.as.length := by rw [hlen]; exact (List.getElem?_eq_some_iff.1 hdj).1
 rw [acts_getD φ _ _ hil, acts_getD φ _ _ hjl]
 obtain ⟨x, hx1, _, hx3, hx4, hx5⟩ := args_entry hk ds vs ca nv h i true ki hi
 obtain ⟨y, _, hy2, hy3, hy4, hy5⟩ := args_entry hk ds vs ca nv h j b kj hj
 by_cases hr : (ca.as.getD i (0, 0, 0)).1 = (ca.as.getD j (0, 0, 0)).1
 ·have hap : (apart1 cx di (ca.as.getD i (0, 0, 0)) dj (ca.as.getD j (0, 0, 0)) = true) \/ (apart1 cx dj (ca.as.getD j (0, 0, 0)) di (ca.as.getD i (0, 0, 0)) = true) := by
   rcases Nat.lt_or_gt_of_ne hij with hlt | hlt
   ·exact .inl (apartLL_spec ds _ ha i j di dj hlt hdi hdj)
   ·exact .inr (apartLL_spec ds _ ha j i dj di hlt hdj hdi)
  cases di with
  | ref rd wr sl ks =>
    simp [ArgD.ref?] at hri
    obtain ⟨rfl, rfl⟩ := hri
    cases dj with
    | ref rd' wr' sl' ks' =>
      simp [ArgD.ref?] at hrj
      obtain ⟨rfl, rfl⟩ := hrj
      generalize ca.as.getD i (0, 0, 0) = a at *
      generalize ca.as.getD j (0, 0, 0) = a' at *
      obtain ⟨r1, o1, c1⟩ := a
      obtain ⟨r2, o2, c2⟩ := a'
      simp only at hr
      subst hr
      have hbq : Nat.beq r1 r1 = true := Nat.beq_refl r1
      rcases hap with hap | hap
      ·simp only [apart1, Bool.true_or, Bool.not_true, Bool.false_or, hbq, Bool.or_eq_true, Bool.and_eq_true, Bool.true_and, Bool.not_eq_true'] at hap
       rcases hap with (⟨⟨h1, h2⟩, h3⟩ | h1) | h1
       ·left
        have := Nat.eq_of_beq_eq_true h1
        subst this
        exact ⟨rfl, eqL_eq h2, h3⟩
       ·right; right; left
        have := Nat.le_of_ble_eq_true h1
        simp only [pl]; omega
       ·right; right; right
        have := Nat.le_of_ble_eq_true h1
        simp only [pl]; omega
      ·simp only [apart1, Bool.or_true, Bool.not_true, Bool.false_or, hbq, Bool.or_eq_true, Bool.and_eq_true, Bool.and_true, Bool.not_eq_true'] at hap
       rcases hap with (⟨⟨h1, h2⟩, h3⟩ | h1) | h1
       ·left
        have := Nat.eq_of_beq_eq_true h1
        subst this
        exact ⟨rfl, (eqL_eq h2).symm, h3⟩
       ·right; right; right
        have := Nat.le_of_ble_eq_true h1
        simp only [pl]; omega
       ·right; right; left
        have := Nat.le_of_ble_eq_true h1
        simp only [pl]; omega
    | val k => simp [ArgD.ref?] at hrj
    | agg k => simp [ArgD.ref?] at hrj
  | val k => simp [ArgD.ref?] at hri
  | agg k => simp [ArgD.ref?] at hri
 ·right
  have := hd x (hx1 rfl) y (by rw [List.mem_append]; exact hy2) (by rw [hx3, hy3]; exact hr)
  rw [hx3, hx4, hx5, hy3, hy4, hy5] at this
  exact this
end
end
end Go.Eng
