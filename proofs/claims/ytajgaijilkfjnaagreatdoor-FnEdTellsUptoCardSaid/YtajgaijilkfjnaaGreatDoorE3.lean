/-
 A reckoner of code over symbolic memory, proved sound over the walk of the kit.
-/
import Derived.Test.YtajgaijilkfjnaaGreatDoorE2
set_option linter.unusedVariables false
set_option linter.unusedSimpArgs false
namespace Go.Eng
open Go Go.RowKit
noncomputable section
section
variable {cx : Cx} {ρ : Nat -> Int}
theorem outsPut_eq (hk : ∀ k, (cx.K k).Good) (φ : Nat -> Pl) : ∀ (ds : List ArgD) (as : List (Nat × Nat × Nat)) (nv : Nat) (ys : List Int) (w : World), as.length = ds.length ->
  (∀ i, i < (outKinds ds).length -> ρ (nv + i) = ys.getD i 0) -> outsPut cx.K w ds (acts φ as) ys = putW cx ρ φ w (doOuts cx ds as nv)
 | [], _, _, _, _, _, _ => rfl
 | .ref rd wr sl ks :: ds, [], _, _, _, hl, _ => by simp at hl
 | .ref rd wr sl ks :: ds, a :: as, nv, ys, w, hl, h => by
   cases wr with
   | false =>
     simp only [outsPut, doOuts, cond_false, Bool.false_eq_true, if_false, acts_tail, List.tail_cons]
     exact outsPut_eq hk φ ds as nv ys w (by simpa using hl) (fun i hi => h i (by simpa [outKinds] using hi))
   | true =>
     simp only [outsPut, doOuts, cond_true, if_true, acts_tail, List.tail_cons, acts_headD, List.headD_cons, putW]
     have hks : ∀ i, i < ks.length -> ρ (nv + i) = ys.getD i 0 := fun i hi => h i (by simp [outKinds]; omega)
     rw [newCells_den hk φ ks nv ys hks]
     exact outsPut_eq hk φ ds as (nv + ks.length) (ys.drop ks.length) _ (by simpa using hl) (fun i hi => by
      have := h (ks.length + i) (by simp [outKinds]; omega)
      rw [show nv + ks.length + i = nv + (ks.length + i) by omega, this]
      simp [List.getD_eq_getElem?_getD])
 | .val k :: ds, [], _, _, _, hl, _ => by simp at hl
 | .val k :: ds, a :: as, nv, ys, w, hl, h => outsPut_eq hk φ ds as nv ys w (by simpa using hl) h
 | .agg k :: ds, [], _, _, _, hl, _ => by simp at hl
 | .agg k :: ds, a :: as, nv, ys, w, hl, h => outsPut_eq hk φ ds as nv ys w (by simpa using hl) h
theorem compsV_den (hk : ∀ k, (cx.K k).Good) (φ : Nat -> Pl) : ∀ (cs : List (Bool × List Nat)) (nv : Nat) (ys : List Int), (∀ i, i < (cs.flatMap (·.2)).length -> ρ (nv + i) = ys.getD i 0) ->
  (compsV cx cs nv).map (comp cx.K ρ φ) = compVals cx.K cs ys
 | [], _, _, _ => rfl
 | (b, ks) :: cs, nv, ys, h => by
   have hks : ∀ i, i < ks.length -> ρ (nv + i) = ys.getD i 0 := fun i hi => h i (by simp; omega)
   have h1 := newCells_den (ρ := ρ) hk φ ks nv ys hks
   have ih := compsV_den hk φ cs (nv + ks.length) (ys.drop ks.length) (fun i hi => by
     have := h (ks.length + i) (by simp only [List.flatMap_cons, List.length_append]; omega)
     rw [show nv + ks.length + i = nv + (ks.length + i) by omega, this]
     simp [List.getD_eq_getElem?_getD])
   simp only [compsV, List.map_cons, compVals, ih]
   congr 1
   cases b with
   | true => simp only [comp, compVal, if_true]; exact congrArg _ (congrArg _ h1)
   | false => simp only [comp, compVal, Bool.false_eq_true, if_false]; exact congrArg (·.headD undef) h1
theorem retSym_den (hk : ∀ k, (cx.K k).Good) (φ : Nat -> Pl) {r : RetD} {as : List (Nat × Nat × Nat)} {nv : Nat} {v : V} (h : retSym cx r as nv = some v) (ys : List Int) (hy : ∀ i, i < r.kinds.length -> ρ (nv + i) = ys.getD i 0) :
  v.den cx.K ρ φ = retV cx.K r (acts φ as) ys := by
 unfold retSym at h
 split at h
 ·simp only [Option.some.injEq] at h; subst h; rfl
 ·rename_i j
  cases ha : as[j]? with
  | none => simp [ha] at h
  | some a =>
    simp [ha] at h; subst h
    have hl := (List.getElem?_eq_some_iff.1 ha).1
    simp only [retV, V.den, C.den]
    rw [acts_getD φ as j hl]
    have : as.getD j (0, 0, 0) = a := by simp [List.getD_eq_getElem?_getD, ha]
    rw [this]; rfl
 ·rename_i ks
  simp only [Option.some.injEq] at h; subst h
  have h1 := newCells_den (ρ := ρ) hk φ ks nv ys (fun i hi => hy i (by simpa [RetD.kinds] using hi))
  simp only [retV, compVal, if_true, V.den]
  exact congrArg _ (congrArg _ h1)
 ·rename_i ks
  split at h
  ·rename_i c l hc
   simp only [Option.some.injEq] at h; subst h
   have h1 := newCells_den (ρ := ρ) hk φ ks nv ys (fun i hi => hy i (by simpa [RetD.kinds] using hi))
   simp only [retV, compVal, Bool.false_eq_true, if_false, V.den]
   rw [<- h1, hc]; rfl
  ·simp at h
 ·rename_i cs h1 h2
  simp only [Option.some.injEq] at h; subst h
  have := compsV_den (ρ := ρ) hk φ cs nv ys (fun i hi => hy i hi)
  match cs, h1, h2, this with
  | [], _, _, this => rfl
  | [(true, ks)], h1, h2, this => exact absurd rfl (h1 ks)
  | [(false, ks)], h1, h2, this => exact absurd rfl (h2 ks)
  | a :: b :: cs, h1, h2, this => simp only [retV, V.den, this]
theorem findC_spec : ∀ (cs : List Ctr) (f : Nat) (c : Ctr), findC cs f = some c -> c ∈ cs /\ c.f = f
 | [], _, _, h => by simp [findC] at h
 | c' :: cs, f, c, h => by
   unfold findC at h
   cases hb : Nat.beq c'.f f with
   | true => simp only [hb, cond_true, Option.some.injEq] at h; subst h; exact ⟨by simp, Nat.eq_of_beq_eq_true hb⟩
   | false => simp only [hb, cond_false] at h; have := findC_spec cs f c h; exact ⟨by simp [this.1], this.2⟩
theorem run_call {ρ' : Operand -> Value} {g : Operand} {args : Array Operand} {at_ : Array TypeId} {f : FuncId} (hgv : ρ' g = .func (.func f) #[] #[]) (dst type pos after guard) (P : Program) (w : World) :
  (execOp ρ' ⟨dst, .call { callee := .value g, args, argTypes := at_ }, type, pos, after, guard⟩).run P w = (callFunc f (args.map ρ')).run P w := by
 simp only [execOp, resolve, hgv, Deferred.ofValue]
 have h0 : (pure { target := .fn (.func f) #[], args := #[] ++ args.map ρ' } : Sem Deferred).run P w = .ok { target := .fn (.func f) #[], args := #[] ++ args.map ρ' } w := rfl
 rw [run_bind_ok h0]
 simp only [invoke]
 congr 2
 simp
theorem ok_call (hg : cx.Good) {Γ : Tr Nat} (hΓ : GamOK cx ρ Γ) {evo : Operand -> Option V} {M nv} {dst type pos after guard} {g : Operand} {args : Array Operand} {at_ : Array TypeId} {r : R}
  (h : evalOp0 cx evo M Γ nv ⟨dst, .call { callee := .value g, args, argTypes := at_ }, type, pos, after, guard⟩ = some r) (hf : FnOK ρ nv r) :
  RunOK cx ρ evo ⟨dst, .call { callee := .value g, args, argTypes := at_ }, type, pos, after, guard⟩ r := by
 simp only [evalOp0] at h
 split at h
 ·rename_i f a b vs hgv hvs
  cases hb : (Nat.beq a.size 0 && Nat.beq b.size 0) with
  | false => simp [hb] at h
  | true =>
    simp only [hb, cond_true] at h
    simp only [Bool.and_eq_true] at hb
    have ha0 : a = #[] := Array.eq_empty_of_size_eq_zero (Nat.eq_of_beq_eq_true hb.1)
    have hb0 : b = #[] := Array.eq_empty_of_size_eq_zero (Nat.eq_of_beq_eq_true hb.2)
    subst ha0; subst hb0
    unfold evalCall at h
    split at h
    ·obtain ⟨_, _, _, hin⟩ := hg.inl f vs M r h
     intro φ a' w next Q hev hpre hnext
     have hs := hin ρ φ w hpre
     have hargs : args.map a'.eval = (vs.map (V.den cx.K ρ φ)).toArray := by
      have := allM_spec (cx := cx) (ρ := ρ) hev _ _ hvs
      apply Array.toList_inj.1
      simpa using this
     have hgval : a'.eval g = .func (.func f) #[] #[] := hev g _ hgv
     unfold Oper.wp
     rw [run_call hgval, hargs]
     rcases hs with ⟨u, w', hrun, φ', hpost, hu⟩ | ⟨hrun, hcalls⟩
     ·rw [hrun]
      show next _ _
      rw [hu]; exact hnext φ' w' hpost
     ·rw [hrun]
      refine hcalls.mono fun e w' ⟨u, he, φ', hpost, hu⟩ => ?_
      subst he
      show next _ _
      rw [hu]; exact hnext φ' w' hpost
    ·rename_i c hc
     split at h
     ·simp at h
     ·rename_i ca hca
      cases hap : apartLL cx c.args ca.as with
      | false => simp [hap] at h
      | true =>
        simp only [hap, cond_true] at h
        split at h
        ·simp at h
        ·rename_i v hv
         simp only [Option.some.injEq] at h
         subst h
         obtain ⟨hmem, hcf⟩ := findC_spec _ _ _ hc
         simp only [FnOK, Fn.pre, Fn.den] at hf
         intro φ a' w next Q hev hpre hnext
         obtain ⟨hp1, hp2, hp3, _⟩ := hpre
         have hspec := doArgs_spec hg hΓ φ w c.args vs ca nv hca hp1 hp2
         have hsep := sep_spec hg.kinds φ hca hap hp3
         have hs := (hg.sound c hmem).2 w _ _ hspec.1 hsep hf.1
         have hlen := doArgs_len c.args vs ca hca
         have hO : outsPut cx.K w c.args (acts φ ca.as) (c.sem (ca.ins.map (A.den ρ))) = putW cx ρ φ w (doOuts cx c.args ca.as nv) :=
          outsPut_eq hg.kinds φ c.args ca.as nv _ w hlen (fun i hi => hf.2 i (by simp; omega))
         have hR : v.den cx.K ρ φ = retV cx.K c.ret (acts φ ca.as) ((c.sem (ca.ins.map (A.den ρ))).drop (outKinds c.args).length) :=
          retSym_den hg.kinds φ hv _ (fun i hi => by
           have := hf.2 ((outKinds c.args).length + i) (by simp; omega)
           rw [show nv + (outKinds c.args).length + i = nv + ((outKinds c.args).length + i) by omega, this]
           simp [List.getD_eq_getElem?_getD])
         have hargs : args.map a'.eval = (argVals cx.K c.args (acts φ ca.as) (ca.ins.map (A.den ρ))).toArray := by
          rw [hspec.2]
          have := allM_spec (cx := cx) (ρ := ρ) hev _ _ hvs
          apply Array.toList_inj.1
          simpa using this
         have hgval : a'.eval g = .func (.func f) #[] #[] := hev g _ hgv
         have hfin : ∀ u w', (u = retV cx.K c.ret (acts φ ca.as) ((c.sem (ca.ins.map (A.den ρ))).drop (outKinds c.args).length) /\ Below w.heap.size (outsPut cx.K w c.args (acts φ ca.as) (c.sem (ca.ins.map (A.den ρ)))) w') -> next (a'.put dst u) w' := by
          rintro u w' ⟨hu, hbw⟩
          rw [hu, <- hR]
          exact hnext φ w' (PostE.plain cx ρ rfl (by rw [hO] at hbw; exact hbw))
         unfold Oper.wp
         rw [run_call hgval, hargs, <- hcf]
         rcases hs.2 with ⟨u, w', hrun, hpost⟩ | ⟨hrun, hcalls⟩
         ·rw [hrun]
          exact hfin u w' hpost
         ·rw [hrun]
          refine hcalls.mono fun e w' ⟨u, he, hpost⟩ => ?_
          subst he
          exact hfin u w' hpost
 ·simp at h
theorem ok_pick {evo : Operand -> Option V} {M Γ nv} {dst type pos after guard} {c x y : Operand} {r : R}
  (h : evalOp0 cx evo M Γ nv ⟨dst, .pick c x y, type, pos, after, guard⟩ = some r) : RunOK cx ρ evo ⟨dst, .pick c x y, type, pos, after, guard⟩ r := by
 simp only [evalOp0] at h
 split at h
 ·rename_i z hc
  have hr : ∀ {o : Option V}, o.map R.pure = some r -> ∃ v, o = some v /\ r = R.pure v := fun {o} h => by
   cases o with
   | none => simp at h
   | some v => simp at h; exact ⟨v, rfl, h.symm⟩
  obtain ⟨v, hv, rfl⟩ := hr h
  refine RunOK.of_pure (v := v) rfl rfl rfl fun φ a w hev hpre => ?_
  have hcv := hev c _ hc
  have hb : a.eval c = .bool (decide (z ≠ 0)) := by rw [hcv]; exact den_bool (φ := φ) _
  rw [pickO_eq] at hv
  simp only [execOp, hb, asBool]
  by_cases hz : z = 0
  ·rw [if_pos hz] at hv
   have := hev y v hv
   simp [hz, this, run_bind, run_pure]
  ·rw [if_neg hz] at hv
   have := hev x v hv
   simp [hz, this, run_bind, run_pure]
 ·cases h
theorem evalOp0_ok (hg : cx.Good) {Γ : Tr Nat} (hΓ : GamOK cx ρ Γ) {evo : Operand -> Option V} {M : List Reg} {nv : Nat} {o : Oper} {r : R} (h : evalOp0 cx evo M Γ nv o = some r) (hf : FnOK ρ nv r) : RunOK cx ρ evo o r := by
 obtain ⟨dst, op, type, pos, after, guard⟩ := o
 cases op with
 | move x => exact ok_move (.inl rfl) h
 | assign x => exact ok_move (.inr rfl) h
 | nilCheck x => exact ok_nilCheck h
 | pick c x y => exact ok_pick h
 | alloc t => exact ok_alloc h
 | box t x => exact ok_box hg.kinds h
 | load t x => exact ok_load h
 | store t x y => exact ok_store hg.kinds h
 | binOp op t x y t' => exact ok_binOp h hf
 | unOp op t x => exact ok_unOp h hf
 | convert s d x => exact ok_convert h hf
 | fieldAddr s x i => exact ok_fieldAddr h
 | indexAddr t x i => exact ok_indexAddr h
 | field t x i => exact ok_field h
 | index t x i => exact ok_index h
 | build t ps => exact ok_build hg.kinds h
 | extract x i => exact ok_extract h
 | slice t x lo hi mx =>
   cases mx with
   | none => exact ok_slice h
   | some m => simp [evalOp0] at h
 | call c =>
   obtain ⟨callee, args, at_⟩ := c
   cases callee with
   | value g => exact ok_call hg hΓ h hf
   | invoke _ _ => simp [evalOp0] at h
   | builtin _ => simp [evalOp0] at h
 | _ => simp [evalOp0] at h
theorem evalOp_ok (hg : cx.Good) {Γ : Tr Nat} (hΓ : GamOK cx ρ Γ) {evo : Operand -> Option V} {M : List Reg} {nv : Nat} {o : Oper} {r : R} (h : evalOp cx evo M Γ nv o = some r) (hf : FnOK ρ nv r) : RunOK cx ρ evo o r := by
 rw [evalOp_eq] at h
 split at h
 ·rename_i r' hx
  simp only [Option.some.injEq] at h; subst h
  exact (hg.xo _ _ _ _ hx).2.2.2 ρ
 ·exact evalOp0_ok hg hΓ h hf
end
end
end Go.Eng
namespace Go.Eng
open Go Go.RowKit
noncomputable section
section
variable {cx : Cx} {ρ : Nat -> Int}
theorem oks_append2 (K : Nat -> Kind) : ∀ (ks ls : List Nat) (xs ys : List Int), xs.length = ks.length -> oks K ks xs -> oks K ls ys -> oks K (ks ++ ls) (xs ++ ys)
 | [], ls, [], ys, _, _, h => h
 | [], ls, _ :: _, ys, h, _, _ => by simp at h
 | k :: ks, ls, x :: xs, ys, h, h1, h2 => ⟨h1.1, oks_append2 K ks ls xs ys (by simpa using h) h1.2 h2⟩
 | k :: ks, ls, [], ys, h, _, _ => by simp at h
theorem oks_getD (K : Nat -> Kind) : ∀ (ks : List Nat) (xs : List Int), oks K ks xs -> ∀ i k, ks[i]? = some k -> (K k).ok (xs.getD i 0)
 | [], _, _, i, k, h => by simp at h
 | k' :: ks, xs, h, i, k, hi => by
   cases i with
   | zero => simp at hi; subst hi; have := h.1; simpa [List.getD_eq_getElem?_getD, List.headD_eq_head?_getD, List.head?_eq_getElem?] using this
   | succ i =>
     have := oks_getD K ks xs.tail h.2 i k (by simpa using hi)
     simpa [List.getD_eq_getElem?_getD] using this
theorem doArgs_oks (hg : cx.Good) {M : List Reg} {Γ : Tr Nat} (hΓ : GamOK cx ρ Γ) : ∀ (ds : List ArgD) (vs : List V) (ca : CA), doArgs cx M Γ ds vs = some ca -> oks cx.K (ds.flatMap ArgD.inKinds) (ca.ins.map (A.den ρ))
 | [], [], ca, h => by simp [doArgs] at h; subst h; trivial
 | [], _ :: _, ca, h => by simp [doArgs] at h
 | .ref rd wr sl ks :: ds, v :: vs, ca, h => by
   simp only [doArgs] at h
   split at h
   ·rename_i rr oo cc ca' hpl hrec
    have ih := doArgs_oks hg hΓ ds vs ca' hrec
    cases hb : ((wr && !canWr M rr oo (szs cx.K ks)) || (!rd && !wr)) with
    | true => simp [hb] at h
    | false =>
      simp only [hb, cond_false] at h
      split at h
      ·simp only [Option.some.injEq] at h; subst h; simpa [ArgD.inKinds] using ih
      ·split at h
       ·rename_i l hl
        split at h
        ·rename_i as has
         have p := parseL_spec hg hΓ (fun _ => ⟨0, 0, 0⟩) ks l as has
         simp only [Option.some.injEq] at h; subst h
         rw [List.map_append]
         exact oks_append2 _ _ _ _ _ (by simp [ArgD.inKinds, p.2.2]) p.2.1 ih
        ·simp at h
       ·simp at h
   ·simp at h
 | .val k :: ds, v :: vs, ca, h => by
   simp only [doArgs] at h
   split at h
   ·rename_i c ca' hrec
    have ih := doArgs_oks hg hΓ ds vs ca' hrec
    split at h
    ·rename_i as has
     have p := parseL_spec hg hΓ (fun _ => ⟨0, 0, 0⟩) [k] [c] as has
     simp only [Option.some.injEq] at h; subst h
     rw [List.map_append]
     exact oks_append2 _ _ _ _ _ (by simp [ArgD.inKinds, p.2.2]) p.2.1 ih
    ·simp at h
   ·simp at h
 | .agg ks :: ds, v :: vs, ca, h => by
   simp only [doArgs] at h
   split at h
   ·rename_i l ca' hrec
    have ih := doArgs_oks hg hΓ ds vs ca' hrec
    split at h
    ·rename_i as has
     have p := parseL_spec hg hΓ (fun _ => ⟨0, 0, 0⟩) ks l as has
     simp only [Option.some.injEq] at h; subst h
     rw [List.map_append]
     exact oks_append2 _ _ _ _ _ (by simp [ArgD.inKinds, p.2.2]) p.2.1 ih
    ·simp at h
   ·simp at h
 | .ref .. :: _, [], ca, h => by simp [doArgs] at h
 | .val _ :: _, [], ca, h => by simp [doArgs] at h
 | .agg _ :: _, [], ca, h => by simp [doArgs] at h
theorem tmod_ok (k : IntKind) {x y : Int} (h : k.min <= x /\ x <= k.max) : k.min <= x.tmod y /\ x.tmod y <= k.max := by
 have hz : k.min <= 0 /\ 0 <= k.max := by cases k <;> decide
 rcases Int.le_total 0 x with hx | hx
 ·have h1 := Int.tmod_nonneg y hx
  have h2 : x.tmod y <= x := by
   have := Int.natAbs_tmod x y; have := Nat.mod_le x.natAbs y.natAbs
   omega
  omega
 ·have h1 : x.tmod y <= 0 := by
   have := Int.tmod_nonneg y (a := -x) (by omega)
   rw [Int.neg_tmod] at this; omega
  have h2 : x <= x.tmod y := by
   have := Int.natAbs_tmod x y; have := Nat.mod_le x.natAbs y.natAbs
   omega
  omega
theorem fdiv_ok (k : IntKind) {x : Int} (n : Nat) (h : k.min <= x /\ x <= k.max) : k.min <= x.fdiv (2 ^ n) /\ x.fdiv (2 ^ n) <= k.max := by
 have hz : k.min <= 0 /\ 0 <= k.max := by cases k <;> decide
 have hp : (0 : Int) < 2 ^ n := Int.pow_pos (by omega)
 rw [Int.fdiv_eq_ediv_of_nonneg _ (by omega)]
 have hp1 : (1 : Int) <= 2 ^ n := by omega
 rcases Int.le_total 0 x with hx | hx
 ·have h1 := Int.ediv_nonneg hx (by omega : (0 : Int) <= 2 ^ n)
  have h2 := Int.ediv_le_self (2 ^ n) hx
  omega
 ·have h1 : x / 2 ^ n <= 0 := Int.ediv_nonpos_of_nonpos_of_neg hx (by omega)
  have h2 : x <= x / 2 ^ n := by
   rw [Int.le_ediv_iff_mul_le hp]
   have := Int.mul_le_mul_of_nonpos_left (a := x) hx hp1
   omega
  omega
theorem b2i_ok (b : Bool) : boolKind.ok (b2i b) := by cases b <;> simp [boolKind, b2i]
theorem evalOp0_kinds (hg : cx.Good) {Γ : Tr Nat} (hΓ : GamOK cx ρ Γ) {evo : Operand -> Option V} {M : List Reg} {nv : Nat} {o : Oper} {r : R} (h : evalOp0 cx evo M Γ nv o = some r) (hf : FnOK ρ nv r) :
  ∀ i k, r.kd[i]? = some k -> (cx.K k).ok (ρ (nv + i)) := by
 have none_ok : r.kd = [] -> ∀ i k, r.kd[i]? = some k -> (cx.K k).ok (ρ (nv + i)) := fun e i k hi => by rw [e] at hi; simp at hi
 have one_ok : ∀ {k : Nat} {z : Int}, r.kd = [k] -> ρ nv = z -> (cx.K k).ok z -> ∀ i k, r.kd[i]? = some k -> (cx.K k).ok (ρ (nv + i)) := fun {k z} e hz hok i k' hi => by
  rw [e] at hi
  cases i with
  | zero => simp at hi; subst hi; rw [Nat.add_zero, hz]; exact hok
  | succ i => simp at hi
 have iok : ∀ {k : Nat} {ik : IntKind} {z : Int}, fok k = some ik -> (ik.min <= z /\ z <= ik.max) -> (cx.K k).ok z := fun {k ik z} hk hz => by
  show (kinds cx.ext k).ok z
  rw [kinds_fok hk]; exact hz
 have ioko : ∀ {k : Nat} {ik : IntKind} {z : Int}, fok k = some ik -> (cx.K k).ok z -> (ik.min <= z /\ z <= ik.max) := fun {k ik z} hk hz => by
  have : (kinds cx.ext k).ok z := hz
  rw [kinds_fok hk] at this; exact this
 have bok : ∀ {b : Bool}, (cx.K 8).ok (b2i b) := fun {b} => b2i_ok b
 obtain ⟨dst, op, type, pos, after, guard⟩ := o
 cases op with
 | binOp op t x y t' =>
   simp only [evalOp0] at h
   split at h
   ·rename_i k a k' b hx hy
    split at h
    ·rename_i ik ik' hk hk'
     cases hb : (aok Γ k a && aok Γ k' b) with
     | false => simp [hb] at h
     | true =>
       simp only [hb, cond_true] at h
       simp only [Bool.and_eq_true] at hb
       have oka := ioko hk (aok_ok hΓ hb.1)
       have get0 : ∀ {f : Fn} {z : Int} {as : List A} {r' : R}, r' = r -> r'.fn = some (f, as) -> r'.kd.length = 1 -> f.den (as.map (A.den ρ)) = [z] -> ρ nv = z := by
        intro f z as r' hr hfn hkd hden
        subst hr
        unfold FnOK at hf
        rw [hfn] at hf
        have := hf.2 0 (by omega)
        rw [hden] at this
        simpa using this
       split at h
       ·simp only [Option.some.injEq] at h
        have := get0 h rfl rfl rfl
        exact one_ok (by rw [<- h]) this (iok hk (intOK_wrap _ _))
       ·simp only [Option.some.injEq] at h
        have := get0 h rfl rfl rfl
        exact one_ok (by rw [<- h]) this (iok hk (fdiv_ok _ _ oka))
       ·cases hkk : Nat.beq k k' with
        | false => simp [hkk] at h
        | true =>
          simp only [hkk, cond_true, Option.some.injEq] at h
          have := get0 h rfl rfl rfl
          exact one_ok (by rw [<- h]) this (iok hk (intOK_wrap _ _))
       ·cases hkk : Nat.beq k k' with
        | false => simp [hkk] at h
        | true =>
          simp only [hkk, cond_true, Option.some.injEq] at h
          have := get0 h rfl rfl rfl
          exact one_ok (by rw [<- h]) this (iok hk (tmod_ok _ oka))
       ·cases hkk : Nat.beq k k' with
        | false => simp [hkk] at h
        | true =>
          simp only [hkk, cond_true] at h
          cases har : isArith op with
          | true =>
            simp only [har, cond_true] at h
            split at h
            ·simp only [Option.some.injEq] at h; exact none_ok (by rw [<- h]; rfl)
            ·simp only [Option.some.injEq] at h
             have := get0 h rfl rfl rfl
             refine one_ok (by rw [<- h]) this (iok hk ?_)
             cases op <;> simp [isArith] at har <;> exact intOK_wrap _ _
          | false =>
            simp only [har, cond_false] at h
            cases hcm : isCmp op with
            | false => simp [hcm] at h
            | true =>
              simp only [hcm, cond_true] at h
              split at h
              ·simp only [Option.some.injEq] at h; exact none_ok (by rw [<- h]; rfl)
              ·simp only [Option.some.injEq] at h
               have := get0 h rfl rfl rfl
               exact one_ok (by rw [<- h]) this bok
    ·simp at h
   ·simp at h
 | unOp op t x =>
   simp only [evalOp0] at h
   have get0 : ∀ {f : Fn} {z : Int} {as : List A} {r' : R}, r' = r -> r'.fn = some (f, as) -> r'.kd.length = 1 -> f.den (as.map (A.den ρ)) = [z] -> ρ nv = z := by
    intro f z as r' hr hfn hkd hden
    subst hr
    unfold FnOK at hf
    rw [hfn] at hf
    have := hf.2 0 (by omega)
    rw [hden] at this
    simpa using this
   split at h
   ·split at h
    ·simp only [Option.some.injEq] at h; exact none_ok (by rw [<- h]; rfl)
    ·simp only [Option.some.injEq] at h
     have := get0 h rfl rfl rfl
     refine one_ok (by rw [<- h]) this ?_
     show boolKind.ok _
     simp only [boolKind]; split <;> simp
   ·split at h
    ·rename_i ik hk
     simp only [Option.some.injEq] at h
     have := get0 h rfl rfl rfl
     exact one_ok (by rw [<- h]) this (iok hk (intOK_wrap _ _))
    ·simp at h
   ·split at h
    ·rename_i ik hk
     simp only [Option.some.injEq] at h
     have := get0 h rfl rfl rfl
     exact one_ok (by rw [<- h]) this (iok hk (intOK_wrap _ _))
    ·simp at h
   ·simp at h
 | convert s d x =>
   simp only [evalOp0] at h
   split at h
   ·split at h
    ·split at h
     ·simp only [Option.some.injEq] at h; exact none_ok (by rw [<- h]; rfl)
     ·simp only [Option.some.injEq] at h
      subst h
      simp only [FnOK, Fn.pre, Fn.den, List.map_cons, List.map_nil, List.length_cons, List.length_nil] at hf
      have h0 := hf.2 0 (by omega)
      simp at h0
      exact one_ok rfl h0 (iok (fok_kof _) (intOK_wrap _ _))
    ·simp at h
   ·simp at h
 | call c =>
   obtain ⟨callee, args, at_⟩ := c
   cases callee with
   | value g =>
     simp only [evalOp0] at h
     split at h
     ·rename_i f a b vs hgv hvs
      cases hb : (Nat.beq a.size 0 && Nat.beq b.size 0) with
      | false => simp [hb] at h
      | true =>
        simp only [hb, cond_true] at h
        unfold evalCall at h
        split at h
        ·exact none_ok (hg.inl f vs M r h).2.1
        ·rename_i c hc
         split at h
         ·simp at h
         ·rename_i ca hca
          cases hap : apartLL cx c.args ca.as with
          | false => simp [hap] at h
          | true =>
            simp only [hap, cond_true] at h
            split at h
            ·simp at h
            ·rename_i v hv
             simp only [Option.some.injEq] at h
             subst h
             simp only [FnOK, Fn.pre, Fn.den] at hf
             have hs := (hg.sound c (findC_spec _ _ _ hc).1).1
             have := hs (ca.ins.map (A.den ρ)) (by
              have h1 := doArgs_oks (ρ := ρ) hg hΓ _ _ _ hca
              exact h1) hf.1
             intro i k hi
             rw [hf.2 i (List.getElem?_eq_some_iff.1 hi).1]
             exact oks_getD _ _ _ this i k hi
     ·simp at h
   | invoke _ _ => simp [evalOp0] at h
   | builtin _ => simp [evalOp0] at h
 | move x => simp only [evalOp0] at h; cases hx : evo x with
   | none => simp [hx] at h
   | some v => simp [hx] at h; exact none_ok (by rw [<- h]; rfl)
 | assign x => simp only [evalOp0] at h; cases hx : evo x with
   | none => simp [hx] at h
   | some v => simp [hx] at h; exact none_ok (by rw [<- h]; rfl)
 | pick c x y =>
   simp only [evalOp0] at h
   split at h
   ·rename_i z hc
    cases ho : pickO z (evo x) (evo y) with
    | none => rw [ho] at h; cases h
    | some v => rw [ho] at h; simp at h; exact none_ok (by rw [<- h]; rfl)
   ·cases h
 | nilCheck x => simp only [evalOp0] at h; split at h <;> simp at h <;> exact none_ok (by rw [<- h]; rfl)
 | alloc t => simp only [evalOp0] at h; split at h <;> simp at h; exact none_ok (by rw [<- h])
 | box t x =>
   simp only [evalOp0] at h
   split at h
   ·rename_i cs hx
    cases hb : cs.all (C.sto cx) with
    | false => simp [hb] at h
    | true =>
      cases hml : menLt M.length cs with
      | false => simp [hb, hml] at h
      | true => simp only [hb, hml, Bool.not_true, Bool.or_false, cond_false, Option.some.injEq] at h; exact none_ok (by rw [<- h])
   ·simp at h
 | load t x =>
   simp only [evalOp0] at h
   split at h
   ·split at h
    ·split at h <;> simp at h; exact none_ok (by rw [<- h])
    ·split at h <;> simp at h; exact none_ok (by rw [<- h])
   ·simp at h
 | store t x y =>
   simp only [evalOp0] at h
   split at h
   ·rename_i rr oo cs i hx hy hi
    cases hb : (Nat.beq cs.length i.size && canWr M rr oo cs.length && cs.all (C.sto cx)) with
    | false => simp [hb] at h
    | true => simp only [hb, cond_true, Option.some.injEq] at h; exact none_ok (by rw [<- h])
   ·simp at h
 | fieldAddr s x i =>
   simp only [evalOp0] at h
   split at h
   ·split at h
    ·split at h
     ·rename_i inf hi
      cases hb : Nat.beq inf.size 0 with
      | true => simp [hb] at h
      | false => simp only [hb, cond_false, Option.some.injEq] at h; exact none_ok (by rw [<- h]; rfl)
     ·simp at h
    ·simp at h
   ·simp at h
 | indexAddr t x i =>
   simp only [evalOp0] at h
   split at h
   ·rename_i rr oo len e n hx ht hi
    split at h
    ·cases hb : Nat.blt n len with
     | false => simp [hb] at h
     | true => simp only [hb, cond_true, Option.some.injEq] at h; exact none_ok (by rw [<- h]; rfl)
    ·simp at h
   ·rename_i rr oo len cap e n hx ht hi
    split at h
    ·cases hb : Nat.blt n len with
     | false => simp [hb] at h
     | true => simp only [hb, cond_true, Option.some.injEq] at h; exact none_ok (by rw [<- h]; rfl)
    ·simp at h
   ·simp at h
 | field t x i =>
   simp only [evalOp0] at h
   split at h
   ·split at h
    ·split at h
     ·split at h
      ·simp only [Option.some.injEq] at h; exact none_ok (by rw [<- h]; rfl)
      ·split at h <;> simp at h; exact none_ok (by rw [<- h]; rfl)
     ·simp at h
    ·simp at h
   ·simp at h
 | index t x i =>
   simp only [evalOp0] at h
   split at h
   ·rename_i cs len e n hx ht hil
    split at h
    ·cases hb : Nat.blt n len with
     | false => simp [hb] at h
     | true =>
       simp only [hb, cond_true] at h
       split at h
       ·simp only [Option.some.injEq] at h; exact none_ok (by rw [<- h]; rfl)
       ·split at h <;> simp at h; exact none_ok (by rw [<- h]; rfl)
    ·simp at h
   ·simp at h
 | build t ps =>
   simp only [evalOp0] at h
   split at h
   ·rename_i z len e vs hz ht hvs
    split at h
    ·rename_i inf he
     cases hb : (vs.flatMap (fun p => (p.2.cells).getD [])).all (C.sto cx) with
     | false => simp [hb] at h
     | true =>
       simp only [hb, cond_true] at h
       cases hfl : fillC (fun i => some (i * inf.size, inf.size)) z vs with
       | none => simp [hfl] at h
       | some cs => simp only [hfl, Option.map_some, Option.some.injEq] at h; exact none_ok (by rw [<- h]; rfl)
    ·simp at h
   ·simp at h
 | extract x i =>
   simp only [evalOp0] at h
   split at h
   ·split at h <;> simp at h <;> exact none_ok (by rw [<- h]; rfl)
   ·simp at h
 | slice t x lo hi mx =>
   cases mx with
   | none =>
     simp only [evalOp0] at h
     split at h
     ·rename_i rr oo n e hx ht
      split at h
      ·rename_i l hh inf hl hhi he
       cases hb : (Nat.ble l hh && Nat.ble hh n && Nat.blt l n) with
       | false => simp [hb] at h
       | true => simp only [hb, cond_true, Option.some.injEq] at h; exact none_ok (by rw [<- h]; rfl)
      ·simp at h
     ·simp at h
   | some m => simp [evalOp0] at h
 | _ => simp [evalOp0] at h
theorem evalOp_kinds (hg : cx.Good) {Γ : Tr Nat} (hΓ : GamOK cx ρ Γ) {evo : Operand -> Option V} {M : List Reg} {nv : Nat} {o : Oper} {r : R} (h : evalOp cx evo M Γ nv o = some r) (hf : FnOK ρ nv r) :
  ∀ i k, r.kd[i]? = some k -> (cx.K k).ok (ρ (nv + i)) := by
 rw [evalOp_eq] at h
 split at h
 ·rename_i r' hx
  simp only [Option.some.injEq] at h; subst h
  intro i k hi
  rw [(hg.xo _ _ _ _ hx).2.1] at hi
  simp at hi
 ·exact evalOp0_kinds hg hΓ h hf
end
end
end Go.Eng
namespace Go.Eng
open Go Go.RowKit
noncomputable section
inductive Key where
 | s (t : Nat)
 | c (r j : Nat)
 | g (r : Nat)
 deriving DecidableEq
inductive Val where
 | v (x : V)
 | c (x : C)
 | g (n : Nat) (wr : Bool)
abbrev Sg := Key -> Option Val
def set1 (σ : Sg) (k : Key) (v : Val) : Sg := fun k' => if k' = k then some v else σ k'
def updL (σ : Sg) : List (Key × Val) -> Sg
 | [] => σ
 | (k, v) :: l => updL (set1 σ k v) l
theorem updL_append (σ : Sg) : ∀ (l m : List (Key × Val)), updL σ (l ++ m) = updL (updL σ l) m
 | [], _ => by simp [updL]
 | (k, v) :: l, m => by simp only [List.cons_append, updL]; exact updL_append _ l m
theorem updL_out {k : Key} : ∀ (l : List (Key × Val)) (σ : Sg), (∀ x ∈ l, x.1 ≠ k) -> updL σ l k = σ k
 | [], σ, _ => rfl
 | (k', v) :: l, σ, h => by
   simp only [updL]
   rw [updL_out l _ (fun x hx => h x (List.mem_cons_of_mem _ hx))]
   have := h (k', v) (List.mem_cons_self ..)
   simp only [set1]
   rw [if_neg (fun e => this e.symm)]
theorem updL_congr {k : Key} : ∀ (l : List (Key × Val)) (σ σ' : Sg), σ k = σ' k -> updL σ l k = updL σ' l k
 | [], _, _, h => h
 | (k', v) :: l, σ, σ', h => by
   simp only [updL]
   apply updL_congr l
   simp only [set1]
   split
   ·rfl
   ·exact h
theorem updL_comm {l m : List (Key × Val)} (h : ∀ x ∈ l, ∀ y ∈ m, x.1 ≠ y.1) (σ : Sg) : updL (updL σ l) m = updL (updL σ m) l := by
 funext k
 by_cases hm : ∃ y ∈ m, y.1 = k
 ·obtain ⟨y, hy, rfl⟩ := hm
  have hl : ∀ x ∈ l, x.1 ≠ y.1 := fun x hx => h x hx y hy
  rw [updL_out l _ hl]
  exact updL_congr m _ _ (updL_out l σ hl)
 ·have hm' : ∀ y ∈ m, y.1 ≠ k := fun y hy e => hm ⟨y, hy, e⟩
  rw [updL_out m _ hm']
  exact (updL_congr l _ _ (updL_out m σ hm')).symm
def cellUps (r : Nat) : Nat -> List C -> List (Key × Val)
 | _, [] => []
 | o, c :: cs => (.c r o, .c c) :: cellUps r (o + 1) cs
def wcUps : List (Nat × Nat × List C) -> List (Key × Val)
 | [] => []
 | x :: l => cellUps x.1 x.2.1 x.2.2 ++ wcUps l
def alUp1 (x : Nat × List C) : List (Key × Val) := (.g x.1, .g x.2.length true) :: cellUps x.1 0 x.2
def alUps : List (Nat × List C) -> List (Key × Val)
 | [] => []
 | x :: l => alUp1 x ++ alUps l
def dstUps (dst : Option Tmp) (v : V) : List (Key × Val) := match dst with | some d => [(.s d, .v v)] | none => []
def ups (dst : Option Tmp) (r : R) : List (Key × Val) := wcUps r.wcs ++ alUps r.al ++ dstUps dst r.res
theorem cellUps_keys {r : Nat} : ∀ {o : Nat} {cs : List C} {x : Key × Val}, x ∈ cellUps r o cs -> ∃ j c, x = (.c r (o + j), .c c) /\ cs[j]? = some c
 | _, [], _, h => by simp [cellUps] at h
 | o, c :: cs, x, h => by
   simp only [cellUps, List.mem_cons] at h
   rcases h with rfl | h
   ·exact ⟨0, c, rfl, rfl⟩
   ·obtain ⟨j, c', rfl, hj⟩ := cellUps_keys h
    exact ⟨j + 1, c', by rw [Nat.add_assoc, Nat.add_comm 1], by simpa using hj⟩
theorem cellUps_get {r : Nat} : ∀ (cs : List C) (o : Nat) (σ : Sg) (r' j : Nat), updL σ (cellUps r o cs) (.c r' j) = if r' = r /\ o <= j /\ j < o + cs.length then (cs[j - o]?).map .c else σ (.c r' j)
 | [], o, σ, r', j => by simp [cellUps, updL]; omega
 | c :: cs, o, σ, r', j => by
   simp only [cellUps, updL]
   rw [cellUps_get cs (o + 1)]
   simp only [set1, Key.c.injEq, List.length_cons]
   by_cases hr : r' = r
   ·subst hr
    by_cases h1 : o + 1 <= j /\ j < o + 1 + cs.length
    ·rw [if_pos ⟨rfl, h1⟩, if_pos ⟨rfl, by omega, by omega⟩]
     have : j - o = (j - (o + 1)) + 1 := by omega
     rw [this]; simp
    ·rw [if_neg (fun h => h1 h.2)]
     by_cases h2 : j = o
     ·subst h2; simp
     ·rw [if_neg (fun h => h2 h.2), if_neg (by omega)]
   ·simp [hr]
theorem cellUps_other {r : Nat} (cs : List C) (o : Nat) (σ : Sg) (k : Key) (hk : ∀ r j, k ≠ .c r j) : updL σ (cellUps r o cs) k = σ k :=
 updL_out _ _ (fun x hx => by obtain ⟨j, c, rfl, _⟩ := cellUps_keys hx; exact fun e => hk _ _ e.symm)
def V.men : V -> List Nat
 | .one c => c.men.toList
 | .agg cs => cs.filterMap C.men
 | .tup vs => vs.flatMap fun x => x.2.filterMap C.men
def Val.men : Val -> List Nat
 | .v x => x.men
 | .c x => x.men.toList
 | .g _ _ => []
section
variable (cx : Cx) (ρ : Nat -> Int)
theorem C.den_congr {K : Nat -> Kind} {ρ : Nat -> Int} {φ φ' : Nat -> Pl} {c : C} (h : ∀ r, c.men = some r -> φ r = φ' r) : c.den K ρ φ = c.den K ρ φ' := C.den_men h
theorem map_den_congr {K : Nat -> Kind} {ρ : Nat -> Int} {φ φ' : Nat -> Pl} {cs : List C} (h : ∀ r, r ∈ cs.filterMap C.men -> φ r = φ' r) : cs.map (C.den K ρ φ) = cs.map (C.den K ρ φ') :=
 List.map_congr_left fun c hc => C.den_congr fun r hr => h r (List.mem_filterMap.2 ⟨c, hc, hr⟩)
theorem V.den_congr {K : Nat -> Kind} {ρ : Nat -> Int} {φ φ' : Nat -> Pl} {v : V} (h : ∀ r ∈ v.men, φ r = φ' r) : v.den K ρ φ = v.den K ρ φ' := by
 cases v with
 | one c => exact C.den_congr fun r hr => h r (by simp [V.men, hr])
 | agg cs => exact congrArg (fun l => Value.agg (List.toArray l)) (map_den_congr h)
 | tup vs =>
   simp only [V.den]
   congr 2
   refine List.map_congr_left fun x hx => ?_
   obtain ⟨b, cs⟩ := x
   have : cs.map (C.den K ρ φ) = cs.map (C.den K ρ φ') := map_den_congr fun r hr => h r (by
    simp only [V.men, List.mem_flatMap]
    exact ⟨(b, cs), hx, hr⟩)
   cases b <;> simp [comp, this]
structure RelV (n0 : Nat) (D : Nat -> Nat -> Prop) (w0 : World) (φ : Nat -> Pl) (σ : Sg) (w : World) : Prop where
 cell : ∀ r j c, σ (.c r j) = some (.c c) -> w.cell? (at_ (φ r) j) = some (c.den cx.K ρ φ)
 cellIn : ∀ r j x, σ (.c r j) = some x -> ∃ c n wr, x = .c c /\ σ (.g r) = some (.g n wr) /\ j < n
 reg : ∀ r x, σ (.g r) = some x -> ∃ n wr, x = .g n wr /\ (∀ j, j < n -> ∃ v, w.cell? (at_ (φ r) j) = some v) /\ (wr = true -> ∀ j, j < n -> unfr w (φ r).b) /\
  (φ r).b < w.heap.size /\ (wr = true -> (φ r).b < n0 -> ∀ j, j < n -> D (φ r).b ((φ r).o + j))
 disj : ∀ r r' n n' wr, r ≠ r' -> σ (.g r) = some (.g n true) -> σ (.g r') = some (.g n' wr) -> disj (φ r) n (φ r') n'
 slot : ∀ t x, σ (.s t) = some x -> ∃ v, x = .v v
 same : SameBut n0 D w0 w
 n0le : n0 <= w.heap.size
structure RelW (n0 : Nat) (D : Nat -> Nat -> Prop) (w0 : World) (φ : Nat -> Pl) (σ : Sg) (w : World) : Prop extends RelV cx ρ n0 D w0 φ σ w where
 men : ∀ k x, σ k = some x -> ∀ r ∈ x.men, ∃ y, σ (.g r) = some y
structure Rel (nt n0 : Nat) (dl : List Deferred) (D : Nat -> Nat -> Prop) (w0 : World) (φ : Nat -> Pl) (σ : Sg) (a : Act) (w : World) : Prop extends RelW cx ρ n0 D w0 φ σ w where
 tmps : ∀ t v, σ (.s t) = some (.v v) -> a.tmps[t]? = some (v.den cx.K ρ φ)
 size : a.tmps.size = nt
 defers : a.defers = dl
 glob : ∀ g r, lookup cx.gl g = some r -> φ r = ⟨g, 0, 0⟩ /\ ∃ y, σ (.g r) = some y
variable {cx ρ}
theorem pl_at (φ : Nat -> Pl) (r o j : Nat) : at_ (pl φ r o) j = at_ (φ r) (o + j) := by simp [at_, pl, Nat.add_assoc]
theorem RelV.put {n0 D w0 φ σ w} (h : RelV cx ρ n0 D w0 φ σ w) {r o : Nat} {cs : List C} {n : Nat} (hr : σ (.g r) = some (.g n true)) (hle : o + cs.length <= n) :
  RelV cx ρ n0 D w0 φ (updL σ (cellUps r o cs)) (putCells w (pl φ r o) (denL cx ρ φ cs)) := by
 have hg : ∀ m, updL σ (cellUps r o cs) (.g m) = σ (.g m) := fun m => cellUps_other cs o σ _ (fun _ _ => by simp)
 have hs : ∀ m, updL σ (cellUps r o cs) (.s m) = σ (.s m) := fun m => cellUps_other cs o σ _ (fun _ _ => by simp)
 obtain ⟨n', wr', he, hcells, hfr, hlt, hD⟩ := h.reg r _ hr
 simp only [Val.g.injEq] at he
 obtain ⟨rfl, rfl⟩ := he
 refine ⟨?_, ?_, ?_, ?_, ?_, ?_, ?_⟩
 ·intro r' j c hc
  rw [cellUps_get] at hc
  split at hc
  ·rename_i hcond
   obtain ⟨rfl, h1, h2⟩ := hcond
   cases hcs : cs[j - o]? with
   | none => simp [hcs] at hc
   | some c' =>
     simp [hcs] at hc; subst hc
     obtain ⟨v, hv⟩ := hcells j (by omega)
     have e : at_ (φ r') j = at_ (pl φ r' o) (j - o) := by rw [pl_at]; congr 1; omega
     rw [e] at hv ⊢
     exact putCells_cell_in _ _ _ _ _ _ hv (by simp [hcs])
  ·rename_i hcond
   have hv := h.cell r' j c hc
   obtain ⟨c', n', wr', _, hg', hj⟩ := h.cellIn r' j _ hc
   refine putCells_cell_out _ _ _ _ _ _ hv ?_
   simp only [pl, List.length_map]
   by_cases hrr : r' = r
   ·subst hrr; right; omega
   ·have := h.disj r r' n n' wr' (fun e => hrr e.symm) hr hg'
    unfold Eng.disj at this
    rcases this with h1 | h1 | h1
    ·exact .inl h1
    ·right; right; omega
    ·right; left; omega
 ·intro r' j x hx
  rw [cellUps_get] at hx
  rw [hg]
  split at hx
  ·rename_i hcond
   obtain ⟨rfl, h1, h2⟩ := hcond
   cases hcs : cs[j - o]? with
   | none => simp [hcs] at hx
   | some c' => simp [hcs] at hx; exact ⟨c', n, true, hx.symm, hr, by omega⟩
  ·exact h.cellIn r' j x hx
 ·intro r' x hx
  rw [hg] at hx
  obtain ⟨n1, wr1, he1, hc1, hf1, hl1, hD1⟩ := h.reg r' x hx
  refine ⟨n1, wr1, he1, fun j hj => ?_, fun hw j hj => ?_, by rw [putCells_size]; exact hl1, hD1⟩
  ·obtain ⟨v, hv⟩ := hc1 j hj
   exact putCells_some _ _ _ _ _ _ hv
  ·exact fun o => by rw [putCells_frozen]; exact hf1 hw j hj o
 ·intro r1 r2 n1 n2 wr hne h1 h2
  rw [hg] at h1 h2
  exact h.disj r1 r2 n1 n2 wr hne h1 h2
 ·intro t x hx; rw [hs] at hx; exact h.slot t x hx
 ·refine SameBut.putCells _ _ h.same (fun j hj hlt' => ?_)
  have := hD rfl hlt' (o + j) (by simp at hj; omega)
  simpa [pl, Nat.add_assoc] using this
 ·rw [putCells_size]; exact h.n0le
theorem RelV.below {n0 D w0 φ σ w w'} (h : RelV cx ρ n0 D w0 φ σ w) (hb : Below w.heap.size w w') : RelV cx ρ n0 D w0 φ σ w' := by
 have hold : ∀ r, (∃ x, σ (.g r) = some x) -> (φ r).b < w.heap.size := fun r ⟨x, hx⟩ => by
  obtain ⟨_, _, _, _, _, hl, _⟩ := h.reg r x hx; exact hl
 refine ⟨?_, h.cellIn, ?_, h.disj, h.slot, h.same.of_below (hb.mono h.n0le), Nat.le_trans h.n0le hb.size⟩
 ·intro r j c hc
  obtain ⟨_, n, wr, _, hg, _⟩ := h.cellIn r j _ hc
  rw [hb.cell (p := at_ (φ r) j) (hold r ⟨_, hg⟩)]
  exact h.cell r j c hc
 ·intro r x hx
  obtain ⟨n, wr, he, hc, hf, hl, hD⟩ := h.reg r x hx
  refine ⟨n, wr, he, fun j hj => ?_, fun hw j hj => ?_, Nat.lt_of_lt_of_le hl hb.size, hD⟩
  ·rw [hb.cell (p := at_ (φ r) j) hl]; exact hc j hj
  ·exact fun o => by rw [hb.frozen (p := ⟨(φ r).b, o, none⟩) hl]; exact hf hw j hj o
theorem RelW.below {n0 D w0 φ σ w w'} (h : RelW cx ρ n0 D w0 φ σ w) (hb : Below w.heap.size w w') : RelW cx ρ n0 D w0 φ σ w' := ⟨h.toRelV.below hb, h.men⟩
theorem RelW.rephi {n0 D w0 φ φ' σ w} (h : RelW cx ρ n0 D w0 φ σ w) (hφ : ∀ m, (∃ y, σ (.g m) = some y) -> φ' m = φ m) : RelV cx ρ n0 D w0 φ' σ w := by
 have hr : ∀ r j x, σ (.c r j) = some x -> φ' r = φ r := fun r j x hx => by
  obtain ⟨_, _, _, _, hg, _⟩ := h.cellIn r j x hx
  exact hφ r ⟨_, hg⟩
 refine ⟨fun r j c hc => ?_, h.cellIn, fun r x hx => ?_, fun r r' n n' wr hne h1 h2 => ?_, h.slot, h.same, h.n0le⟩
 ·rw [hr r j _ hc, C.den_congr (φ' := φ) (fun m hm => hφ m (h.men _ _ hc m (by simp [Val.men, hm])))]
  exact h.cell r j c hc
 ·rw [hφ r ⟨x, hx⟩]; exact h.reg r x hx
 ·rw [hφ r ⟨_, h1⟩, hφ r' ⟨_, h2⟩]; exact h.disj r r' n n' wr hne h1 h2
theorem RelV.new1 {n0 D w0 φ σ w} (h : RelV cx ρ n0 D w0 φ σ w) {n : Nat} {cs : List C} (hn : σ (.g n) = none) (hb : (φ n).b < w.heap.size) (hb0 : n0 <= (φ n).b)
  (hnew : ∀ r m wr, σ (.g r) = some (.g m wr) -> Eng.disj (φ r) m (φ n) cs.length)
  (hc : cellsAt w (φ n) (denL cx ρ φ cs)) (hw : wrAt w (φ n) cs.length) : RelV cx ρ n0 D w0 φ (updL σ (alUp1 (n, cs))) w := by
 have hg : ∀ m, updL σ (alUp1 (n, cs)) (.g m) = if m = n then some (.g cs.length true) else σ (.g m) := fun m => by
  simp only [alUp1, updL]
  rw [cellUps_other _ _ _ _ (fun _ _ => by simp)]
  simp [set1]
 have hs : ∀ m, updL σ (alUp1 (n, cs)) (.s m) = σ (.s m) := fun m => by
  simp only [alUp1, updL]
  rw [cellUps_other _ _ _ _ (fun _ _ => by simp)]
  simp [set1]
 have hcl : ∀ r j, updL σ (alUp1 (n, cs)) (.c r j) = if r = n /\ j < cs.length then (cs[j]?).map .c else σ (.c r j) := fun r j => by
  simp only [alUp1, updL]
  rw [cellUps_get]
  simp [set1]
 refine ⟨?_, ?_, ?_, ?_, ?_, h.same, h.n0le⟩
 ·intro r j c hx
  rw [hcl] at hx
  split at hx
  ·rename_i hcond
   obtain ⟨rfl, hj⟩ := hcond
   cases hcs : cs[j]? with
   | none => simp [hcs] at hx
   | some c' =>
     simp [hcs] at hx; subst hx
     exact hc j _ (by simp [hcs])
  ·exact h.cell r j c hx
 ·intro r j x hx
  rw [hcl] at hx
  rw [hg]
  split at hx
  ·rename_i hcond
   obtain ⟨rfl, hj⟩ := hcond
   cases hcs : cs[j]? with
   | none => simp [hcs] at hx
   | some c' => simp [hcs] at hx; exact ⟨c', cs.length, true, hx.symm, by simp, hj⟩
  ·obtain ⟨c, m, wr, he, hg', hj⟩ := h.cellIn r j x hx
   refine ⟨c, m, wr, he, ?_, hj⟩
   rw [if_neg]; · exact hg'
   ·rintro rfl; rw [hn] at hg'; cases hg'
 ·intro r x hx
  rw [hg] at hx
  split at hx
  ·rename_i hrn
   subst hrn
   simp only [Option.some.injEq] at hx
   exact ⟨cs.length, true, hx.symm, fun j hj => (hw j hj).1, fun _ j hj => (hw j hj).2, hb, fun _ hlt => by omega⟩
  ·exact h.reg r x hx
 ·intro r r' m m' wr hne h1 h2
  rw [hg] at h1 h2
  split at h1
  ·rename_i hr1
   subst hr1
   rw [if_neg (fun e => hne e.symm)] at h2
   simp only [Option.some.injEq, Val.g.injEq, and_true] at h1
   subst h1
   exact disj_symm (hnew r' _ _ h2)
  ·split at h2
   ·rename_i hr2
    subst hr2
    simp only [Option.some.injEq, Val.g.injEq] at h2
    rw [<- h2.1]
    exact hnew r _ _ h1
   ·exact h.disj r r' m m' wr hne h1 h2
 ·intro t x hx; rw [hs] at hx; exact h.slot t x hx
theorem alUps_s : ∀ (l : List (Nat × List C)) (σ : Sg) (m : Nat), updL σ (alUps l) (.s m) = σ (.s m)
 | [], _, _ => rfl
 | x :: l, σ, m => by
   simp only [alUps, updL_append]
   rw [alUps_s l]
   simp only [alUp1, updL]
   rw [cellUps_other _ _ _ _ (fun _ _ => by simp)]
   simp [set1]
theorem alUps_gin : ∀ (l : List (Nat × List C)) (σ : Sg) (m : Nat), (∃ y, σ (.g m) = some y) \/ (∃ x ∈ l, x.1 = m) -> ∃ y, updL σ (alUps l) (.g m) = some y
 | [], _, _, h => by
   rcases h with h | ⟨x, hx, _⟩
   ·exact h
   ·cases hx
 | x :: l, σ, m, h => by
   simp only [alUps, updL_append]
   refine alUps_gin l _ m ?_
   have hg : updL σ (alUp1 x) (.g m) = if m = x.1 then some (.g x.2.length true) else σ (.g m) := by
    simp only [alUp1, updL]
    rw [cellUps_other _ _ _ _ (fun _ _ => by simp)]
    simp [set1]
   rw [hg]
   rcases h with h | ⟨y, hy, rfl⟩
   ·left; split
    ·exact ⟨_, rfl⟩
    ·exact h
   ·rcases List.mem_cons.1 hy with rfl | hy
    ·left; exact ⟨_, if_pos rfl⟩
    ·exact .inr ⟨y, hy, rfl⟩
theorem RelV.news {n0 D w0 φ w} : ∀ (l : List (Nat × List C)) {σ}, RelV cx ρ n0 D w0 φ σ w -> (∀ x ∈ l, σ (.g x.1) = none /\ (φ x.1).b < w.heap.size /\ n0 <= (φ x.1).b /\ cellsAt w (φ x.1) (denL cx ρ φ x.2) /\ wrAt w (φ x.1) x.2.length) ->
  (∀ x ∈ l, ∀ r m wr, σ (.g r) = some (.g m wr) -> Eng.disj (φ r) m (φ x.1) x.2.length) -> (l.map (·.1)).Nodup -> (∀ x ∈ l, ∀ y ∈ l, x.1 ≠ y.1 -> Eng.disj (φ x.1) x.2.length (φ y.1) y.2.length) -> RelV cx ρ n0 D w0 φ (updL σ (alUps l)) w
 | [], _, h, _, _, _, _ => h
 | x :: l, σ, h, h1, h2, h3, h4 => by
   obtain ⟨a1, a2, a3, a4, a5⟩ := h1 x (List.mem_cons_self ..)
   simp only [alUps, updL_append]
   have hn := h.new1 a1 a2 a3 (h2 x (List.mem_cons_self ..)) a4 a5
   simp only [List.map_cons, List.nodup_cons] at h3
   have hg : ∀ m, updL σ (alUp1 x) (.g m) = if m = x.1 then some (.g x.2.length true) else σ (.g m) := fun m => by
    simp only [alUp1, updL]
    rw [cellUps_other _ _ _ _ (fun _ _ => by simp)]
    simp [set1]
   have hne : ∀ y ∈ l, y.1 ≠ x.1 := fun y hy e => h3.1 (List.mem_map.2 ⟨y, hy, e⟩)
   refine RelV.news l hn (fun y hy => ?_) (fun y hy r m wr hr => ?_) h3.2 (fun y hy z hz => h4 y (List.mem_cons_of_mem _ hy) z (List.mem_cons_of_mem _ hz))
   ·obtain ⟨b1, b2, b3, b4, b5⟩ := h1 y (List.mem_cons_of_mem _ hy)
    exact ⟨by rw [hg, if_neg (hne y hy)]; exact b1, b2, b3, b4, b5⟩
   ·rw [hg] at hr
    split at hr
    ·rename_i hrx
     subst hrx
     simp only [Option.some.injEq, Val.g.injEq] at hr
     rw [<- hr.1]
     exact h4 x (List.mem_cons_self ..) y (List.mem_cons_of_mem _ hy) (fun e => hne y hy e.symm)
    ·exact h2 y (List.mem_cons_of_mem _ hy) r m wr hr
end
end
end Go.Eng
namespace Go.Eng
open Go Go.RowKit
noncomputable section
section
variable {cx : Cx} {ρ : Nat -> Int}
theorem allM_congr {f g : Operand -> Option V} : ∀ {l : List Operand}, (∀ x ∈ l, f x = g x) -> allM f l = allM g l
 | [], _ => rfl
 | x :: l, h => by simp only [allM, h x (by simp), allM_congr (l := l) (fun y hy => h y (by simp [hy]))]
theorem evPairs_congr {f g : Operand -> Option V} : ∀ {l : List (Nat × Operand)}, (∀ x ∈ l.map (·.2), f x = g x) -> evPairs f l = evPairs g l
 | [], _ => rfl
 | (i, x) :: l, h => by simp only [evPairs, h x (by simp), evPairs_congr (l := l) (fun y hy => h y (by simp at hy ⊢; exact .inr hy))]
theorem evalOp0_congr {f g : Operand -> Option V} {M Γ nv} {o : Oper} (h : ∀ x ∈ o.op.operands, f x = g x) : evalOp0 cx f M Γ nv o = evalOp0 cx g M Γ nv o := by
 obtain ⟨dst, op, type, pos, after, guard⟩ := o
 cases op with
 | call c =>
   obtain ⟨callee, args, at_⟩ := c
   cases callee with
   | value y =>
     have h1 : f y = g y := h y (by simp [Op.operands, Call.operands])
     have h2 : allM f args.toList = allM g args.toList := allM_congr fun x hx => h x (by simp [Op.operands, Call.operands]; exact .inr (by simpa using hx))
     simp only [evalOp0, h1, h2]
   | invoke _ _ => rfl
   | builtin _ => rfl
 | build t ps =>
   have h2 : evPairs f ps.toList = evPairs g ps.toList := evPairs_congr fun x hx => h x (by simpa [Op.operands] using hx)
   simp only [evalOp0, h2]
 | slice t x lo hi mx =>
   cases mx with
   | some m => rfl
   | none =>
     have h0 : f x = g x := h x (by simp [Op.operands])
     cases lo with
     | none =>
       cases hi with
       | none => simp only [evalOp0, h0]
       | some b => simp only [evalOp0, h0, h b (by simp [Op.operands])]
     | some a =>
       cases hi with
       | none => simp only [evalOp0, h0, h a (by simp [Op.operands])]
       | some b => simp only [evalOp0, h0, h a (by simp [Op.operands]), h b (by simp [Op.operands])]
 | move x => simp only [evalOp0, h x (by simp [Op.operands])]
 | assign x => simp only [evalOp0, h x (by simp [Op.operands])]
 | nilCheck x => simp only [evalOp0, h x (by simp [Op.operands])]
 | box t x => simp only [evalOp0, h x (by simp [Op.operands])]
 | load t x => simp only [evalOp0, h x (by simp [Op.operands])]
 | store t x y => simp only [evalOp0, h x (by simp [Op.operands]), h y (by simp [Op.operands])]
 | binOp op t x y t' => simp only [evalOp0, h x (by simp [Op.operands]), h y (by simp [Op.operands])]
 | unOp op t x => simp only [evalOp0, h x (by simp [Op.operands])]
 | convert s d x => simp only [evalOp0, h x (by simp [Op.operands])]
 | fieldAddr s x i => simp only [evalOp0, h x (by simp [Op.operands])]
 | indexAddr t x i => simp only [evalOp0, h x (by simp [Op.operands]), h i (by simp [Op.operands])]
 | field t x i => simp only [evalOp0, h x (by simp [Op.operands])]
 | index t x i => simp only [evalOp0, h x (by simp [Op.operands]), h i (by simp [Op.operands])]
 | extract x i => simp only [evalOp0, h x (by simp [Op.operands])]
 | pick c x y => simp only [evalOp0, h c (by simp [Op.operands]), h x (by simp [Op.operands]), h y (by simp [Op.operands])]
 | _ => rfl
theorem readC_get {M : List Reg} {r o n : Nat} {l : List C} (h : readC M r o n = some l) : ∃ reg, M[r]? = some reg /\ o + l.length <= reg.cells.length /\ ∀ j c, l[j]? = some c -> reg.cells[o + j]? = some c := by
 obtain ⟨hl, reg, hr, hle, rfl⟩ := readC_spec h
 refine ⟨reg, hr, by rw [hl]; exact hle, fun j c hj => ?_⟩
 have hj' : j < n := by
  have := (List.getElem?_eq_some_iff.1 hj).1
  rw [hl] at this; exact this
 rw [List.getElem?_take_of_lt hj', List.getElem?_drop] at hj
 exact hj
theorem doArgs_mem (hk : ∀ k, (cx.K k).Good) {M : List Reg} {Γ : Tr Nat} : ∀ (ds : List ArgD) (vs : List V) (ca : CA) (nv : Nat), doArgs cx M Γ ds vs = some ca ->
  (∀ x ∈ ca.rds, ∃ reg, M[x.1]? = some reg /\ x.2.1 + x.2.2.length <= reg.cells.length /\ ∀ j c, x.2.2[j]? = some c -> reg.cells[x.2.1 + j]? = some c) /\
  (∀ x ∈ doOuts cx ds ca.as nv, ∃ reg, M[x.1]? = some reg /\ reg.wr = true /\ x.2.1 + x.2.2.length <= reg.cells.length)
 | [], [], ca, nv, h => by simp [doArgs] at h; subst h; simp [doOuts]
 | [], _ :: _, ca, _, h => by simp [doArgs] at h
 | .ref rd wr sl ks :: ds, v :: vs, ca, nv, h => by
   simp only [doArgs] at h
   split at h
   ·rename_i rr oo cc ca' hpl hrec
    cases hb : ((wr && !canWr M rr oo (szs cx.K ks)) || (!rd && !wr)) with
    | true => simp [hb] at h
    | false =>
      simp only [hb, cond_false] at h
      have hout : ∀ (ins : List A) (rds : List (Nat × Nat × List C)), ∀ x ∈ doOuts cx (.ref rd wr sl ks :: ds) (⟨ins, (rr, oo, cc) :: ca'.as, rds⟩ : CA).as nv, ∃ reg, M[x.1]? = some reg /\ reg.wr = true /\ x.2.1 + x.2.2.length <= reg.cells.length := by
       intro ins rds x hx
       cases wr with
       | true =>
         simp only [doOuts, cond_true, List.headD_cons, List.tail_cons, List.mem_cons] at hx
         rcases hx with rfl | hx
         ·have hcw : canWr M rr oo (szs cx.K ks) = true := by cases hc : canWr M rr oo (szs cx.K ks) <;> simp [hc] at hb ⊢
          obtain ⟨reg, h1, h2, h3⟩ := canWr_spec hcw
          exact ⟨reg, h1, h2, by rw [newCells_length hk]; exact h3⟩
         ·exact (doArgs_mem hk ds vs ca' _ hrec).2 x hx
       | false =>
         simp only [doOuts, cond_false, List.tail_cons] at hx
         exact (doArgs_mem hk ds vs ca' _ hrec).2 x hx
      split at h
      ·simp only [Option.some.injEq] at h; subst h
       exact ⟨(doArgs_mem hk ds vs ca' nv hrec).1, hout _ _⟩
      ·split at h
       ·rename_i l hl
        split at h
        ·simp only [Option.some.injEq] at h; subst h
         refine ⟨fun x hx => ?_, hout _ _⟩
         simp only [List.mem_cons] at hx
         rcases hx with rfl | hx
         ·exact readC_get hl
         ·exact (doArgs_mem hk ds vs ca' nv hrec).1 x hx
        ·simp at h
       ·simp at h
   ·simp at h
 | .val k :: ds, v :: vs, ca, nv, h => by
   simp only [doArgs] at h
   split at h
   ·rename_i c ca' hrec
    split at h
    ·simp only [Option.some.injEq] at h; subst h; exact doArgs_mem hk ds vs ca' nv hrec
    ·simp at h
   ·simp at h
 | .agg k :: ds, v :: vs, ca, nv, h => by
   simp only [doArgs] at h
   split at h
   ·rename_i c ca' hrec
    split at h
    ·simp only [Option.some.injEq] at h; subst h; exact doArgs_mem hk ds vs ca' nv hrec
    ·simp at h
   ·simp at h
 | .ref .. :: _, [], ca, _, h => by simp [doArgs] at h
 | .val _ :: _, [], ca, _, h => by simp [doArgs] at h
 | .agg _ :: _, [], ca, _, h => by simp [doArgs] at h
theorem evalOp0_mem (hg : cx.Good) {evo : Operand -> Option V} {M Γ nv} {o : Oper} {r : R} (h : evalOp0 cx evo M Γ nv o = some r) : MemOK M r := by
 have one_al : ∀ {cs : List C} (i : Nat) (x : Nat × List C), [(M.length, cs)][i]? = some x -> x.1 = M.length + i := fun i x hn => by
  cases i with
  | zero => simp at hn; rw [<- hn]; rfl
  | succ i => simp at hn
 obtain ⟨dst, op, type, pos, after, guard⟩ := o
 cases op with
 | call c =>
   obtain ⟨callee, args, at_⟩ := c
   cases callee with
   | value y =>
     simp only [evalOp0] at h
     split at h
     ·rename_i f a b vs hgv hvs
      cases hb : (Nat.beq a.size 0 && Nat.beq b.size 0) with
      | false => simp [hb] at h
      | true =>
        simp only [hb, cond_true] at h
        unfold evalCall at h
        split at h
        ·exact (hg.inl f vs M r h).2.2.1
        ·rename_i c hc
         split at h
         ·simp at h
         ·rename_i ca hca
          cases hap : apartLL cx c.args ca.as with
          | false => simp [hap] at h
          | true =>
            simp only [hap, cond_true] at h
            split at h
            ·simp at h
            ·simp only [Option.some.injEq] at h
             subst h
             have := doArgs_mem hg.kinds c.args vs ca nv hca
             exact ⟨this.1, this.2, fun i x hn => (by simp at hn), fun x hx => (by cases hx)⟩
     ·simp at h
   | invoke _ _ => simp [evalOp0] at h
   | builtin _ => simp [evalOp0] at h
 | alloc t =>
   simp only [evalOp0] at h
   split at h
   ·simp only [Option.some.injEq] at h; subst h
    exact ⟨fun x hx => (by cases hx), fun x hx => (by cases hx), one_al, fun x hx => (by cases hx)⟩
   ·simp at h
 | box t x =>
   simp only [evalOp0] at h
   split at h
   ·rename_i cs hx
    cases hb : cs.all (C.sto cx) with
    | false => simp [hb] at h
    | true =>
    cases hml : menLt M.length cs with
    | false => simp [hb, hml] at h
    | true =>
      simp only [hb, hml, Bool.not_true, Bool.or_false, cond_false, Option.some.injEq] at h; subst h
      exact ⟨fun x hx => (by cases hx), fun x hx => (by cases hx), one_al, fun x hx => (by cases hx)⟩
   ·simp at h
 | load t x =>
   simp only [evalOp0] at h
   split at h
   ·split at h
    ·split at h
     ·rename_i cs i hcs hi
      simp only [Option.some.injEq] at h; subst h
      exact ⟨fun x hx => by simp only [List.mem_singleton] at hx; subst hx; exact readC_get hcs, fun x hx => (by cases hx), fun i x hn => (by simp at hn), fun x hx => (by cases hx)⟩
     ·simp at h
    ·split at h
     ·rename_i c hcs
      simp only [Option.some.injEq] at h; subst h
      exact ⟨fun x hx => by simp only [List.mem_singleton] at hx; subst hx; exact readC_get hcs, fun x hx => (by cases hx), fun i x hn => (by simp at hn), fun x hx => (by cases hx)⟩
     ·simp at h
   ·simp at h
 | store t x y =>
   simp only [evalOp0] at h
   split at h
   ·rename_i rr oo cs i hx hy hi
    cases hb : (Nat.beq cs.length i.size && canWr M rr oo cs.length && cs.all (C.sto cx)) with
    | false => simp [hb] at h
    | true =>
      simp only [hb, cond_true, Option.some.injEq] at h; subst h
      simp only [Bool.and_eq_true] at hb
      exact ⟨fun x hx => (by cases hx), fun x hx => by simp only [List.mem_singleton] at hx; subst hx; exact canWr_spec hb.1.2, fun i x hn => (by simp at hn), fun x hx => (by cases hx)⟩
   ·simp at h
 | binOp op t x y t' =>
   simp only [evalOp0] at h
   split at h
   ·rename_i k a k' b hx hy
    split at h
    ·rename_i ik ik' hik hk'
     cases hb : (aok Γ k a && aok Γ k' b) with
     | false => simp [hb] at h
     | true =>
       simp only [hb, cond_true] at h
       split at h
       ·simp only [Option.some.injEq] at h; subst h; exact .plain rfl rfl rfl rfl
       ·simp only [Option.some.injEq] at h; subst h; exact .plain rfl rfl rfl rfl
       ·cases hkk : Nat.beq k k' with
        | false => simp [hkk] at h
        | true => simp only [hkk, cond_true, Option.some.injEq] at h; subst h; exact .plain rfl rfl rfl rfl
       ·cases hkk : Nat.beq k k' with
        | false => simp [hkk] at h
        | true => simp only [hkk, cond_true, Option.some.injEq] at h; subst h; exact .plain rfl rfl rfl rfl
       ·cases hkk : Nat.beq k k' with
        | false => simp [hkk] at h
        | true =>
          simp only [hkk, cond_true] at h
          cases har : isArith op with
          | true =>
            simp only [har, cond_true] at h
            split at h <;> (simp only [Option.some.injEq] at h; subst h; exact .plain rfl rfl rfl rfl)
          | false =>
            simp only [har, cond_false] at h
            cases hcm : isCmp op with
            | false => simp [hcm] at h
            | true =>
              simp only [hcm, cond_true] at h
              split at h <;> (simp only [Option.some.injEq] at h; subst h; exact .plain rfl rfl rfl rfl)
    ·simp at h
   ·simp at h
 | unOp op t x =>
   simp only [evalOp0] at h
   split at h
   ·split at h <;> (simp only [Option.some.injEq] at h; subst h; exact .plain rfl rfl rfl rfl)
   ·split at h
    ·simp only [Option.some.injEq] at h; subst h; exact .plain rfl rfl rfl rfl
    ·simp at h
   ·split at h
    ·simp only [Option.some.injEq] at h; subst h; exact .plain rfl rfl rfl rfl
    ·simp at h
   ·simp at h
 | convert s d x =>
   simp only [evalOp0] at h
   split at h
   ·split at h
    ·split at h <;> (simp only [Option.some.injEq] at h; subst h; exact .plain rfl rfl rfl rfl)
    ·simp at h
   ·simp at h
 | move x =>
   simp only [evalOp0] at h
   cases hx : evo x with
   | none => simp [hx] at h
   | some v => simp [hx] at h; subst h; exact .plain rfl rfl rfl rfl
 | assign x =>
   simp only [evalOp0] at h
   cases hx : evo x with
   | none => simp [hx] at h
   | some v => simp [hx] at h; subst h; exact .plain rfl rfl rfl rfl
 | pick c x y =>
   simp only [evalOp0] at h
   split at h
   ·rename_i z hc
    cases ho : pickO z (evo x) (evo y) with
    | none => rw [ho] at h; cases h
    | some v => rw [ho] at h; simp at h; subst h; exact .plain rfl rfl rfl rfl
   ·cases h
 | nilCheck x => simp only [evalOp0] at h; split at h <;> simp at h <;> (subst h; exact .plain rfl rfl rfl rfl)
 | fieldAddr s x i =>
   simp only [evalOp0] at h
   split at h
   ·split at h
    ·split at h
     ·rename_i inf hi
      cases hb : Nat.beq inf.size 0 with
      | true => simp [hb] at h
      | false => simp only [hb, cond_false, Option.some.injEq] at h; subst h; exact .plain rfl rfl rfl rfl
     ·simp at h
    ·simp at h
   ·simp at h
 | indexAddr t x i =>
   simp only [evalOp0] at h
   split at h
   ·rename_i rr oo len e n hx ht hi
    split at h
    ·cases hb : Nat.blt n len with
     | false => simp [hb] at h
     | true => simp only [hb, cond_true, Option.some.injEq] at h; subst h; exact .plain rfl rfl rfl rfl
    ·simp at h
   ·rename_i rr oo len cap e n hx ht hi
    split at h
    ·cases hb : Nat.blt n len with
     | false => simp [hb] at h
     | true => simp only [hb, cond_true, Option.some.injEq] at h; subst h; exact .plain rfl rfl rfl rfl
    ·simp at h
   ·simp at h
 | field t x i =>
   simp only [evalOp0] at h
   split at h
   ·split at h
    ·split at h
     ·split at h
      ·simp only [Option.some.injEq] at h; subst h; exact .plain rfl rfl rfl rfl
      ·split at h <;> simp at h; subst h; exact .plain rfl rfl rfl rfl
     ·simp at h
    ·simp at h
   ·simp at h
 | index t x i =>
   simp only [evalOp0] at h
   split at h
   ·rename_i cs len e n hx ht hil
    split at h
    ·cases hb : Nat.blt n len with
     | false => simp [hb] at h
     | true =>
       simp only [hb, cond_true] at h
       split at h
       ·simp only [Option.some.injEq] at h; subst h; exact .plain rfl rfl rfl rfl
       ·split at h <;> simp at h; subst h; exact .plain rfl rfl rfl rfl
    ·simp at h
   ·simp at h
 | build t ps =>
   simp only [evalOp0] at h
   split at h
   ·rename_i z len e vs hz ht hvs
    split at h
    ·rename_i inf he
     cases hb : (vs.flatMap (fun p => (p.2.cells).getD [])).all (C.sto cx) with
     | false => simp [hb] at h
     | true =>
       simp only [hb, cond_true] at h
       cases hfl : fillC (fun i => some (i * inf.size, inf.size)) z vs with
       | none => simp [hfl] at h
       | some cs => simp only [hfl, Option.map_some, Option.some.injEq] at h; subst h; exact .plain rfl rfl rfl rfl
    ·simp at h
   ·simp at h
 | extract x i =>
   simp only [evalOp0] at h
   split at h
   ·split at h <;> simp at h <;> (subst h; exact .plain rfl rfl rfl rfl)
   ·simp at h
 | slice t x lo hi mx =>
   cases mx with
   | none =>
     simp only [evalOp0] at h
     split at h
     ·rename_i rr oo n e hx ht
      split at h
      ·rename_i l hh inf hl hhi he
       cases hb : (Nat.ble l hh && Nat.ble hh n && Nat.blt l n) with
       | false => simp [hb] at h
       | true => simp only [hb, cond_true, Option.some.injEq] at h; subst h; exact .plain rfl rfl rfl rfl
      ·simp at h
     ·simp at h
   | some m => simp [evalOp0] at h
 | _ => simp [evalOp0] at h
structure St where
 t : Tr V
 m : List Reg
 nv : Nat
 g : Tr Nat
theorem evalOp_congr (hg : cx.Good) {f g : Operand -> Option V} {M Γ nv} {o : Oper} (h : ∀ x ∈ o.op.operands, f x = g x) : evalOp cx f M Γ nv o = evalOp cx g M Γ nv o := by
 rw [evalOp_eq, evalOp_eq, hg.xc f g M o h, evalOp0_congr h]
theorem evalOp_mem (hg : cx.Good) {evo : Operand -> Option V} {M Γ nv} {o : Oper} {r : R} (h : evalOp cx evo M Γ nv o = some r) : MemOK M r := by
 rw [evalOp_eq] at h
 split at h
 ·rename_i r' hx
  simp only [Option.some.injEq] at h; subst h
  exact (hg.xo _ _ _ _ hx).2.2.1
 ·exact evalOp0_mem hg h
def opTmps (o : Oper) : List Nat := o.op.operands.toList.filterMap fun | .tmp t => some t | _ => none
structure Agrees (s : St) (σ : Sg) (o : Oper) (r : R) : Prop where
 slot : ∀ t ∈ opTmps o, ∀ v, s.t.get t = some v -> σ (.s t) = some (.v v)
 rds : ∀ x ∈ r.rds, (∃ n wr, σ (.g x.1) = some (.g n wr) /\ x.2.1 + x.2.2.length <= n) /\ ∀ j c, x.2.2[j]? = some c -> σ (.c x.1 (x.2.1 + j)) = some (.c c)
 wcs : ∀ x ∈ r.wcs, (∃ n, σ (.g x.1) = some (.g n true) /\ x.2.1 + x.2.2.length <= n) /\ ∀ c ∈ x.2.2, ∀ m, c.men = some m -> (∃ y, σ (.g m) = some y) \/ ∃ z ∈ r.al, z.1 = m
 al : ∀ z ∈ r.al, σ (.g z.1) = none /\ ∀ c ∈ z.2, ∀ m, c.men = some m -> (∃ y, σ (.g m) = some y) \/ ∃ z' ∈ r.al, z'.1 = m
 nodup : (r.al.map (·.1)).Nodup
 res : ∀ m ∈ r.res.men, (∃ y, σ (.g m) = some y) \/ ∃ z ∈ r.al, z.1 = m
 dj : ∀ x ∈ r.dj, σ (.g x.1) = some (.g x.2.1 x.2.2)
theorem updL_wc_g : ∀ (l : List (Nat × Nat × List C)) (σ : Sg) (m : Nat), updL σ (wcUps l) (.g m) = σ (.g m)
 | [], _, _ => rfl
 | x :: l, σ, m => by
   simp only [wcUps, updL_append]
   rw [updL_wc_g l]
   exact cellUps_other _ _ _ _ (fun _ _ => by simp)
theorem updL_wc_s : ∀ (l : List (Nat × Nat × List C)) (σ : Sg) (m : Nat), updL σ (wcUps l) (.s m) = σ (.s m)
 | [], _, _ => rfl
 | x :: l, σ, m => by
   simp only [wcUps, updL_append]
   rw [updL_wc_s l]
   exact cellUps_other _ _ _ _ (fun _ _ => by simp)
theorem RelV.puts {n0 D w0 φ} : ∀ (l : List (Nat × Nat × List C)) {σ w}, RelV cx ρ n0 D w0 φ σ w -> (∀ x ∈ l, ∃ n, σ (.g x.1) = some (.g n true) /\ x.2.1 + x.2.2.length <= n) ->
  RelV cx ρ n0 D w0 φ (updL σ (wcUps l)) (putW cx ρ φ w l)
 | [], _, _, h, _ => h
 | x :: l, σ, w, h, hx => by
   obtain ⟨n, h1, h2⟩ := hx x (List.mem_cons_self ..)
   simp only [wcUps, updL_append, putW]
   refine RelV.puts l (h.put h1 h2) (fun y hy => ?_)
   obtain ⟨n', k1, k2⟩ := hx y (List.mem_cons_of_mem _ hy)
   have e : ∀ m, updL σ (cellUps x.1 x.2.1 x.2.2) (.g m) = σ (.g m) := fun m => cellUps_other _ _ _ _ (fun _ _ => by simp)
   exact ⟨n', by rw [e]; exact k1, k2⟩
theorem putW_size (φ : Nat -> Pl) : ∀ (l : List (Nat × Nat × List C)) (w : World), (putW cx ρ φ w l).heap.size = w.heap.size
 | [], _ => rfl
 | x :: l, w => by simp only [putW]; rw [putW_size φ l, putCells_size]
theorem RelV.set {n0 D w0 φ σ w} (h : RelV cx ρ n0 D w0 φ σ w) {d : Nat} {v : V} : RelV cx ρ n0 D w0 φ (set1 σ (.s d) (.v v)) w := by
 have hg : ∀ m, set1 σ (.s d) (.v v) (.g m) = σ (.g m) := fun m => by simp [set1]
 have hc : ∀ r j, set1 σ (.s d) (.v v) (.c r j) = σ (.c r j) := fun r j => by simp [set1]
 refine ⟨fun r j c hx => h.cell r j c (by rwa [hc] at hx), fun r j x hx => ?_, fun r x hx => h.reg r x (by rwa [hg] at hx), fun r r' n n' wr hne h1 h2 => h.disj r r' n n' wr hne (by rwa [hg] at h1) (by rwa [hg] at h2), fun t x hx => ?_, h.same, h.n0le⟩
 ·rw [hc] at hx; rw [hg]; exact h.cellIn r j x hx
 ·by_cases ht : (Key.s t) = .s d
  ·simp only [set1, if_pos ht, Option.some.injEq] at hx
   exact ⟨v, hx.symm⟩
  ·simp only [set1, if_neg ht] at hx
   exact h.slot t x hx
theorem RelW.set {n0 D w0 φ σ w} (h : RelW cx ρ n0 D w0 φ σ w) {d : Nat} {v : V} (hm : ∀ m ∈ v.men, ∃ y, σ (.g m) = some y) : RelW cx ρ n0 D w0 φ (set1 σ (.s d) (.v v)) w := by
 have hg : ∀ m, set1 σ (.s d) (.v v) (.g m) = σ (.g m) := fun m => by simp [set1]
 refine ⟨h.toRelV.set, fun k x hx m hm' => ?_⟩
 rw [hg]
 by_cases hk : k = .s d
 ·subst hk
  simp only [set1, if_true, Option.some.injEq] at hx
  subst hx
  exact hm m hm'
 ·simp only [set1, if_neg hk] at hx
  exact h.men k x hx m hm'
theorem put_getElem {a : Act} {dst : Option Tmp} {v : Value} {t : Nat} : (a.put dst v).tmps[t]? = if dst = some t /\ t < a.tmps.size then some v else a.tmps[t]? := by
 cases dst with
 | none => simp [Act.put]
 | some d =>
   simp only [Act.put, Array.getElem?_setIfInBounds, Option.some.injEq]
   by_cases hd : d = t
   ·subst hd
    by_cases hs : d < a.tmps.size
    ·simp [hs]
    ·simp [hs]
   ·simp [hd]
theorem cell_val {r : Nat} : ∀ (cs : List C) (o : Nat) (σ : Sg) (k : Key) (x : Val), updL σ (cellUps r o cs) k = some x -> σ k = some x \/ ∃ c ∈ cs, x = .c c
 | [], _, _, _, _, h => .inl h
 | c :: cs, o, σ, k, x, h => by
   simp only [cellUps, updL] at h
   rcases cell_val cs (o + 1) _ k x h with h1 | ⟨c', hc, e⟩
   ·simp only [set1] at h1
    split at h1
    ·simp only [Option.some.injEq] at h1
     exact .inr ⟨c, List.mem_cons_self .., h1.symm⟩
    ·exact .inl h1
   ·exact .inr ⟨c', List.mem_cons_of_mem _ hc, e⟩
theorem wc_val : ∀ (l : List (Nat × Nat × List C)) (σ : Sg) (k : Key) (x : Val), updL σ (wcUps l) k = some x -> σ k = some x \/ ∃ y ∈ l, ∃ c ∈ y.2.2, x = .c c
 | [], _, _, _, h => .inl h
 | y :: l, σ, k, x, h => by
   simp only [wcUps, updL_append] at h
   rcases wc_val l _ k x h with h1 | ⟨z, hz, c, hc, e⟩
   ·rcases cell_val _ _ _ _ _ h1 with h2 | ⟨c, hc, e⟩
    ·exact .inl h2
    ·exact .inr ⟨y, List.mem_cons_self .., c, hc, e⟩
   ·exact .inr ⟨z, List.mem_cons_of_mem _ hz, c, hc, e⟩
theorem al_val : ∀ (l : List (Nat × List C)) (σ : Sg) (k : Key) (x : Val), updL σ (alUps l) k = some x -> σ k = some x \/ ∃ y ∈ l, (∃ c ∈ y.2, x = .c c) \/ ∃ n, x = .g n true
 | [], _, _, _, h => .inl h
 | y :: l, σ, k, x, h => by
   simp only [alUps, updL_append] at h
   rcases al_val l _ k x h with h1 | ⟨z, hz, e⟩
   ·simp only [alUp1, updL] at h1
    rcases cell_val _ _ _ _ _ h1 with h2 | ⟨c, hc, e⟩
    ·simp only [set1] at h2
     split at h2
     ·simp only [Option.some.injEq] at h2
      exact .inr ⟨y, List.mem_cons_self .., .inr ⟨_, h2.symm⟩⟩
     ·exact .inl h2
    ·exact .inr ⟨y, List.mem_cons_self .., .inl ⟨c, hc, e⟩⟩
   ·exact .inr ⟨z, List.mem_cons_of_mem _ hz, e⟩
theorem pre_op {s : St} {o : Oper} {r : R} {nt n0 dl D w0 φ σ a w} (h : Rel cx ρ nt n0 dl D w0 φ σ a w) (hag : Agrees s σ o r) : PreE cx ρ φ w r := by
 refine ⟨fun x hx => ?_, fun x hx => ?_, fun x hx y hy hne => ?_, ⟨fun x hx => ?_, fun x hx y hy hne hwr => ?_⟩, fun g rr hl => (h.glob g rr hl).1⟩
 ·intro j v hv
  have hr := hag.rds x hx
  cases hc : x.2.2[j]? with
  | none => simp [hc] at hv
  | some c =>
    simp [hc] at hv; subst hv
    rw [pl_at]
    exact h.cell _ _ _ (hr.2 j c hc)
 ·intro j hj
  obtain ⟨⟨n, h1, h2⟩, _⟩ := hag.wcs x hx
  obtain ⟨n', wr', he, hc, hfz, _, _⟩ := h.reg _ _ h1
  simp only [Val.g.injEq] at he
  obtain ⟨rfl, rfl⟩ := he
  rw [pl_at]
  exact ⟨hc _ (by omega), hfz rfl j (by omega)⟩
 ·obtain ⟨⟨n, h1, h2⟩, _⟩ := hag.wcs x hx
  have hy' : ∃ n' wr, σ (.g y.1) = some (.g n' wr) /\ y.2.1 + y.2.2.length <= n' := by
   rw [List.mem_append] at hy
   rcases hy with hy | hy
   ·exact (hag.rds y hy).1
   ·obtain ⟨⟨n', k1, k2⟩, _⟩ := hag.wcs y hy; exact ⟨n', true, k1, k2⟩
  obtain ⟨n', wr, k1, k2⟩ := hy'
  have := h.disj _ _ n n' wr hne h1 k1
  unfold Eng.disj at *
  simp only [pl]
  omega
 ·obtain ⟨n', wr', he, hc, hfz, hl, _⟩ := h.reg _ _ (hag.dj x hx)
  simp only [Val.g.injEq] at he
  obtain ⟨h1, h2⟩ := he
  rw [h1, h2]
  exact ⟨hc, hfz, hl⟩
 ·have h1 := hag.dj x hx
  rw [hwr] at h1
  exact h.disj _ _ _ _ _ hne h1 (hag.dj y hy)
theorem post_op {s : St} {o : Oper} {r : R} {nt n0 dl D w0 φ φ' σ a w w'} (h : Rel cx ρ nt n0 dl D w0 φ σ a w) (hag : Agrees s σ o r) (hd : ∀ d, o.dst = some d -> d < nt) (hpost : PostE cx ρ φ w r φ' w') :
  Rel cx ρ nt n0 dl D w0 φ' (updL σ (ups o.dst r)) (a.put o.dst (r.res.den cx.K ρ φ')) w' /\ ∀ m, (∃ y, σ (.g m) = some y) -> φ' m = φ m := by
 obtain ⟨p1, p2, p3, p4⟩ := hpost
 have hold : ∀ m, (∃ y, σ (.g m) = some y) -> φ' m = φ m := fun m ⟨y, hy⟩ => p1 m (fun x hx e => by
  have := (hag.al x hx).1
  rw [e, hy] at this; cases this)
 have hv1 := h.toRelW.rephi hold
 have hv2 := RelV.puts (cx := cx) (ρ := ρ) r.wcs hv1 (fun x hx => (hag.wcs x hx).1)
 have hsz := putW_size (cx := cx) (ρ := ρ) φ' r.wcs w
 have hv3 := hv2.below (by rw [hsz]; exact p4)
 have hgw : ∀ m, updL σ (wcUps r.wcs) (.g m) = σ (.g m) := updL_wc_g _ _
 have hle : w.heap.size <= w'.heap.size := by have := p4.size; rw [hsz] at this; exact this
 have hv4 := RelV.news r.al hv3 (fun x hx => ⟨by rw [hgw]; exact (hag.al x hx).1, (p2 x hx).2.1, Nat.le_trans h.n0le (p2 x hx).1, (p2 x hx).2.2.1, (p2 x hx).2.2.2⟩)
  (fun x hx q m wr hq => by
   rw [hgw] at hq
   obtain ⟨_, _, _, _, _, hl, _⟩ := h.reg q _ hq
   have := (p2 x hx).1
   rw [hold q ⟨_, hq⟩]
   exact .inl (by omega)) hag.nodup p3
 have hgin : ∀ m, (∃ y, σ (.g m) = some y) \/ (∃ z ∈ r.al, z.1 = m) -> ∃ y, updL (updL σ (wcUps r.wcs)) (alUps r.al) (.g m) = some y := fun m hm =>
  alUps_gin r.al _ m (by rw [hgw]; exact hm)
 have hmen : ∀ k x, updL (updL σ (wcUps r.wcs)) (alUps r.al) k = some x -> ∀ m ∈ x.men, ∃ y, updL (updL σ (wcUps r.wcs)) (alUps r.al) (.g m) = some y := by
  intro k x hx m hm
  apply hgin
  by_cases hk : ∃ z ∈ alUps r.al, z.1 = k
  ·obtain ⟨z, hz, hzk⟩ := hk
   rcases al_val r.al (updL σ (wcUps r.wcs)) k x hx with hx' | ⟨y, hy, hxy⟩
   ·rcases wc_val r.wcs σ k x hx' with hx'' | ⟨y, hy, c, hc, hxc⟩
    ·exact .inl (h.men k x hx'' m hm)
    ·subst hxc
     simp only [Val.men, Option.mem_toList] at hm
     exact (hag.wcs y hy).2 c hc m hm
   ·rcases hxy with ⟨c, hc, hxc⟩ | ⟨n, hxn⟩
    ·subst hxc
     simp only [Val.men, Option.mem_toList] at hm
     exact (hag.al y hy).2 c hc m hm
    ·subst hxn; simp [Val.men] at hm
  ·rw [updL_out _ _ (fun z hz e => hk ⟨z, hz, e⟩)] at hx
   rcases wc_val r.wcs σ k x hx with hx'' | ⟨y, hy, c, hc, hxc⟩
   ·exact .inl (h.men k x hx'' m hm)
   ·subst hxc
    simp only [Val.men, Option.mem_toList] at hm
    exact (hag.wcs y hy).2 c hc m hm
 have hR : RelW cx ρ n0 D w0 φ' (updL (updL σ (wcUps r.wcs)) (alUps r.al)) w' := ⟨hv4, hmen⟩
 have heq : updL (updL (updL σ (wcUps r.wcs)) (alUps r.al)) (dstUps o.dst r.res) = updL σ (ups o.dst r) := by simp only [ups, updL_append]
 have hslots : ∀ t, updL (updL σ (wcUps r.wcs)) (alUps r.al) (.s t) = σ (.s t) := fun t => by rw [alUps_s, updL_wc_s]
 have hres : ∀ m ∈ r.res.men, ∃ y, updL (updL σ (wcUps r.wcs)) (alUps r.al) (.g m) = some y := fun m hm => hgin m (hag.res m hm)
 refine ⟨?_, hold⟩
 rw [<- heq]
 have hden : ∀ t v, σ (.s t) = some (.v v) -> v.den cx.K ρ φ' = v.den cx.K ρ φ := fun t v hv => V.den_congr fun m hm => hold m (h.men _ _ hv m hm)
 cases hdst : o.dst with
 | none =>
   refine { toRelW := hR, tmps := fun t v hv => ?_, size := h.size, defers := h.defers, glob := fun g rr hl => ?_ }
   ·simp only [dstUps, updL] at hv
    rw [hslots] at hv
    rw [hden t v hv]; exact h.tmps t v hv
   ·have := h.glob g rr hl
    exact ⟨by rw [hold rr this.2]; exact this.1, hgin rr (.inl this.2)⟩
 | some d =>
   refine { toRelW := hR.set hres, tmps := fun t v hv => ?_, size := by simp [Act.put, h.size], defers := h.defers, glob := fun g rr hl => ?_ }
   ·rw [put_getElem]
    by_cases htd : t = d
    ·subst htd
     change set1 _ (.s t) (.v r.res) (.s t) = _ at hv
     simp only [set1, if_true, Option.some.injEq, Val.v.injEq] at hv
     subst hv
     rw [if_pos ⟨rfl, by rw [h.size]; exact hd t hdst⟩]
    ·have : ¬ (Key.s t = .s d) := fun e => htd (by injection e)
     change set1 _ (.s d) (.v r.res) (.s t) = _ at hv
     simp only [set1, if_neg this] at hv
     rw [if_neg (fun e => htd (by have := e.1; injection this with e'; exact e'.symm))]
     rw [hslots] at hv
     rw [hden t v hv]; exact h.tmps t v hv
   ·have := h.glob g rr hl
    refine ⟨by rw [hold rr this.2]; exact this.1, ?_⟩
    change ∃ y, set1 _ (.s d) (.v r.res) (.g rr) = some y
    simp only [set1]
    rw [if_neg (by simp)]
    exact hgin rr (.inl this.2)
theorem step_op (hg : cx.Good) {s : St} {o : Oper} {r : R} (he : evalOp cx (ev cx s.t) s.m s.g s.nv o = some r) (hf : FnOK ρ s.nv r) (hΓ : GamOK cx ρ s.g)
  {nt n0 dl D w0 φ σ a w} (h : Rel cx ρ nt n0 dl D w0 φ σ a w) (hag : Agrees s σ o r) (hd : ∀ d, o.dst = some d -> d < nt) {next : Act -> World -> Prop} {Q : Exit -> Act -> World -> Prop}
  (hn : ∀ φ' a' w', Rel cx ρ nt n0 dl D w0 φ' (updL σ (ups o.dst r)) a' w' -> (∀ m, (∃ y, σ (.g m) = some y) -> φ' m = φ m) -> next a' w') : o.wp cx.P a w next Q := by
 classical
 let evo' : Operand -> Option V := fun x => if x ∈ o.op.operands then ev cx s.t x else none
 have he' : evalOp cx evo' s.m s.g s.nv o = some r := by
  rw [<- he]
  exact evalOp_congr hg fun x hx => by simp only [evo', if_pos hx]
 refine evalOp_ok hg hΓ he' hf φ a w next Q ?_ ?_ ?_
 ·intro x v hx
  simp only [evo'] at hx
  split at hx
  ·rename_i hmem
   cases x with
   | tmp t =>
     simp only [ev] at hx
     have := h.tmps t v (hag.slot t (List.mem_filterMap.2 ⟨.tmp t, by simpa using hmem, rfl⟩) v hx)
     simp only [Act.eval, Array.getD_eq_getD_getElem?, this]; rfl
   | const u =>
     simp only [ev, Option.some.injEq] at hx; subst hx
     exact (ofConst_den cx.ext ρ φ u).symm
   | global g =>
     simp only [ev] at hx
     cases hl : lookup cx.gl g with
     | none => simp [hl] at hx
     | some rr =>
       simp [hl] at hx; subst hx
       have := (h.glob g rr hl).1
       simp [Act.eval, V.den, C.den, paddr, this]
   | func f => simp only [ev, Option.some.injEq] at hx; subst hx; rfl
  ·simp at hx
 ·exact pre_op h hag
 ·intro φ' w' hpost
  obtain ⟨k1, k2⟩ := post_op h hag hd hpost
  exact hn φ' _ w' k1 k2
end
end
end Go.Eng
