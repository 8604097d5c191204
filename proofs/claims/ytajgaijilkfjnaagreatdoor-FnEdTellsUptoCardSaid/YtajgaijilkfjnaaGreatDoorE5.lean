/-
 A reckoner of code over symbolic memory, proved sound over the walk of the kit.
-/
import Derived.LoopN
import Derived.Tactics
import Derived.Test.YtajgaijilkfjnaaGreatDoorE4
set_option linter.unusedVariables false
set_option linter.unusedSimpArgs false
namespace Go.Eng
open Go Go.RowKit
noncomputable section
inductive Ek where
 | n
 | e (id : Nat)
 | r
def Ek.exit : Ek -> Exit
 | .n => .normal
 | .e id => .exit id
 | .r => .ret
inductive T where
 | fail (why : Nat)
 | leaf (x : Ek) (s : St)
 | def_ (nv : Nat) (f : Fn) (as : List A) (n : Nat) (t : T)
 | br (i : Nat) (t e : T)
 | both (t e : T)
def eqsFrom (ρ : Nat -> Int) : Nat -> Nat -> List Int -> Prop
 | _, 0, _ => True
 | nv, n + 1, ys => ρ nv = ys.headD 0 /\ eqsFrom ρ (nv + 1) n ys.tail
theorem eqsFrom_iff {ρ : Nat -> Int} : ∀ (n nv : Nat) (ys : List Int), eqsFrom ρ nv n ys ↔ ∀ i, i < n -> ρ (nv + i) = ys.getD i 0
 | 0, nv, ys => by simp [eqsFrom]
 | n + 1, nv, ys => by
   simp only [eqsFrom, eqsFrom_iff n]
   constructor
   ·rintro ⟨h1, h2⟩ i hi
    cases i with
    | zero => rw [Nat.add_zero, h1]; cases ys <;> rfl
    | succ i =>
      have := h2 i (by omega)
      rw [show nv + (i + 1) = nv + 1 + i by omega, this]; cases ys <;> simp
   ·intro h
    refine ⟨?_, fun i hi => ?_⟩
    ·have := h 0 (by omega); rw [Nat.add_zero] at this; rw [this]; cases ys <;> rfl
    ·have := h (i + 1) (by omega)
     rw [show nv + 1 + i = nv + (i + 1) by omega, this]; cases ys <;> simp
def T.holds (ρ : Nat -> Int) (Ψ : Ek -> St -> Prop) : T -> Prop
 | .fail _ => False
 | .leaf x s => Ψ x s
 | .def_ nv f as n t => f.pre (as.map (A.den ρ)) /\ eqsFrom ρ nv n (f.den (as.map (A.den ρ))) /\ t.holds ρ Ψ
 | .br i t e => (ρ i = 1 /\ t.holds ρ Ψ) \/ (ρ i = 0 /\ e.holds ρ Ψ)
 | .both t e => t.holds ρ Ψ /\ e.holds ρ Ψ
def T.vc (ρ : Nat -> Int) (Ψ : Ek -> St -> Prop) : T -> Prop
 | .fail _ => False
 | .leaf x s => Ψ x s
 | .def_ nv f as n t => f.pre (as.map (A.den ρ)) /\ (eqsFrom ρ nv n (f.den (as.map (A.den ρ))) -> t.vc ρ Ψ)
 | .br i t e => (ρ i = 1 \/ ρ i = 0) /\ (ρ i = 1 -> t.vc ρ Ψ) /\ (ρ i = 0 -> e.vc ρ Ψ)
 | .both t e => t.vc ρ Ψ /\ e.vc ρ Ψ
def T.noDef : T -> Bool
 | .fail _ => true
 | .leaf _ _ => true
 | .def_ .. => false
 | .br _ t e => t.noDef && e.noDef
 | .both t e => t.noDef && e.noDef
theorem T.noDef_holds {ρ : Nat -> Int} {Ψ : Ek -> St -> Prop} : ∀ {t : T}, t.noDef = true -> t.vc ρ Ψ -> t.holds ρ Ψ
 | .fail _, _, h => h
 | .leaf _ _, _, h => h
 | .br i t e, hn, h => by
   simp only [T.noDef, Bool.and_eq_true] at hn
   rcases h.1 with h1 | h1
   ·exact .inl ⟨h1, T.noDef_holds hn.1 (h.2.1 h1)⟩
   ·exact .inr ⟨h1, T.noDef_holds hn.2 (h.2.2 h1)⟩
 | .both t e, hn, h => by
   simp only [T.noDef, Bool.and_eq_true] at hn
   exact ⟨T.noDef_holds hn.1 h.1, T.noDef_holds hn.2 h.2⟩
def asLt (n : Nat) : List A -> Bool
 | [] => true
 | .v i :: l => Nat.blt i n && asLt n l
 | .n _ :: l => asLt n l
def T.closed : Nat -> T -> Bool
 | _, .fail _ => true
 | _, .leaf _ _ => true
 | m, .def_ nv _ as n t => Nat.ble m nv && asLt nv as && t.closed (nv + n)
 | m, .br i t e => Nat.blt i m && t.closed m && e.closed m
 | _, .both t e => t.noDef && e.noDef
def extend (ρ : Nat -> Int) (nv : Nat) (ys : List Int) : Nat -> Int := fun i => if nv <= i then ys.getD (i - nv) 0 else ρ i
theorem asLt_spec {n : Nat} {ρ ρ' : Nat -> Int} (h : ∀ i, i < n -> ρ i = ρ' i) : ∀ {as : List A}, asLt n as = true -> as.map (A.den ρ) = as.map (A.den ρ')
 | [], _ => rfl
 | .v i :: l, hl => by
   simp only [asLt, Bool.and_eq_true] at hl
   simp only [List.map_cons, A.den, asLt_spec h hl.2, h i (Nat.blt_eq.mp hl.1)]
 | .n z :: l, hl => by
   simp only [asLt] at hl
   simp only [List.map_cons, A.den, asLt_spec h hl]
theorem T.exists_holds {Ψ : (Nat -> Int) -> Ek -> St -> Prop} : ∀ (t : T) (m : Nat) (ρ : Nat -> Int), t.closed m = true -> (∀ ρ', (∀ i, i < m -> ρ' i = ρ i) -> t.vc ρ' (Ψ ρ')) -> ∃ ρ', (∀ i, i < m -> ρ' i = ρ i) /\ t.holds ρ' (Ψ ρ')
 | .fail _, m, ρ, _, h => (h ρ fun _ _ => rfl).elim
 | .leaf x s, m, ρ, _, h => ⟨ρ, fun _ _ => rfl, h ρ fun _ _ => rfl⟩
 | .def_ nv f as n t, m, ρ, hs, h => by
   simp only [T.closed, Bool.and_eq_true] at hs
   obtain ⟨⟨h1, h2⟩, h3⟩ := hs
   have h1 := Nat.le_of_ble_eq_true h1
   let ys := f.den (as.map (A.den ρ))
   have hold : ∀ i, i < nv -> extend ρ nv ys i = ρ i := fun i hi => by simp [extend, Nat.not_le.2 hi]
   have key : ∀ ρ', (∀ i, i < nv + n -> ρ' i = extend ρ nv ys i) -> as.map (A.den ρ') = as.map (A.den ρ) /\ eqsFrom ρ' nv n (f.den (as.map (A.den ρ'))) := fun ρ' hρ' => by
    have e : as.map (A.den ρ') = as.map (A.den ρ) := asLt_spec (fun i hi => by rw [hρ' i (by omega), hold i hi]) h2
    refine ⟨e, (eqsFrom_iff _ _ _).2 fun i hi => ?_⟩
    rw [e, hρ' (nv + i) (by omega)]
    simp [extend, ys]
   obtain ⟨ρ', hρ', ht⟩ := T.exists_holds (Ψ := Ψ) t (nv + n) (extend ρ nv ys) h3 (fun ρ' hρ' => (h ρ' (fun i hi => by rw [hρ' i (by omega), hold i (by omega)])).2 (key ρ' hρ').2)
   refine ⟨ρ', fun i hi => by rw [hρ' i (by omega), hold i (by omega)], ?_, (key ρ' hρ').2, ht⟩
   exact (h ρ' (fun i hi => by rw [hρ' i (by omega), hold i (by omega)])).1
 | .br i t e, m, ρ, hs, h => by
   simp only [T.closed, Bool.and_eq_true] at hs
   have hi := Nat.blt_eq.mp hs.1.1
   rcases (h ρ fun _ _ => rfl).1 with h1 | h1
   ·obtain ⟨ρ', hρ', ht⟩ := T.exists_holds (Ψ := Ψ) t m ρ hs.1.2 (fun ρ' hρ' => (h ρ' hρ').2.1 (by rw [hρ' i hi]; exact h1))
    exact ⟨ρ', hρ', .inl ⟨by rw [hρ' i hi]; exact h1, ht⟩⟩
   ·obtain ⟨ρ', hρ', ht⟩ := T.exists_holds (Ψ := Ψ) e m ρ hs.2 (fun ρ' hρ' => (h ρ' hρ').2.2 (by rw [hρ' i hi]; exact h1))
    exact ⟨ρ', hρ', .inr ⟨by rw [hρ' i hi]; exact h1, ht⟩⟩
 | .both t e, m, ρ, hs, h => by
   simp only [T.closed, Bool.and_eq_true] at hs
   have := h ρ fun _ _ => rfl
   exact ⟨ρ, fun _ _ => rfl, T.noDef_holds hs.1 this.1, T.noDef_holds hs.2 this.2⟩
structure Sx where
 s : St
 kn : List (Nat × Bool)
 df : List (FuncId × List V)
def knB : List (Nat × Bool) -> Nat -> Option Bool
 | [], _ => none
 | (a, b) :: l, i => bif Nat.beq a i then some b else knB l i
def dstOK (nt : Nat) : Option Tmp -> Bool
 | some d => Nat.blt d nt
 | none => true
inductive Bv where
 | b (u : Bool)
 | s (i : Nat)
 | no
def bv (kn : List (Nat × Bool)) : Option V -> Bv
 | some (.one (.ch 8 (.n z) 0)) => .b (z != 0)
 | some (.one (.ch 8 (.v i) 0)) => match knB kn i with | some u => .b u | none => .s i
 | _ => .no
def wrapD (nv : Nat) (r : R) (t : T) : T := match r.fn with | some (f, as) => .def_ nv f as r.kd.length t | none => t
def runO (cx : Cx) (s : Sx) (o : Oper) (k : It -> Sx -> T) : T :=
 match evalOp cx (ev cx s.s.t) s.s.m s.s.g s.s.nv o with
 | none => .fail (1000 + o.dst.getD 999)
 | some r => bif okMen s.s.m.length r then wrapD s.s.nv r (k ⟨o, s.s, r, true⟩ ⟨applyR s.s o.dst r, s.kn, s.df⟩) else .fail 2
def skipO (s : Sx) (o : Oper) (k : It -> Sx -> T) : T := k ⟨o, s.s, R.pure undefV, false⟩ ⟨applyR s.s o.dst (R.pure undefV), s.kn, s.df⟩
def oneO (cx : Cx) (ops : List Oper) (s : Sx) (o : Oper) (k : It -> Sx -> T) : T :=
 match o.guard with
 | none => runO cx s o k
 | some (j, want) =>
   match (ops[j]?).bind (·.dst) with
   | none => .fail 3
   | some d =>
     match s.s.t.get d with
     | some (.tup []) => skipO s o k
     | v =>
       match bv s.kn v with
       | .b u => bif u == want then runO cx s o k else skipO s o k
       | .s i => .br i (bif want then runO cx ⟨s.s, (i, true) :: s.kn, s.df⟩ o k else skipO ⟨s.s, (i, true) :: s.kn, s.df⟩ o k) (bif want then skipO ⟨s.s, (i, false) :: s.kn, s.df⟩ o k else runO cx ⟨s.s, (i, false) :: s.kn, s.df⟩ o k)
       | .no => .fail 4
def evOps (cx : Cx) (nt : Nat) (ops : List Oper) : List Oper -> Sx -> List It -> (List It -> Sx -> T) -> T
 | [], s, acc, k => k acc s
 | o :: l, s, acc, k => bif dstOK nt o.dst then oneO cx ops s o fun it s' => evOps cx nt ops l s' (it :: acc) k else .fail 5
def iter (f : Sx -> (Ek -> Sx -> T) -> T) : Nat -> Sx -> (Ek -> Sx -> T) -> T
 | 0, _, _ => .fail 6
 | n + 1, s, k => f s fun e s' => match e with | .n => iter f n s' k | e => k e s'
def lastD : List Oper -> Option (List Oper × Oper)
 | [] => none
 | [o] => match o.op, o.guard, o.dst with | .defer _, none, none => some ([], o) | _, _, _ => none
 | o :: l => match lastD l with | some (a, b) => some (o :: a, b) | none => none
def evDefer (cx : Cx) (s : Sx) (o : Oper) (k : Sx -> T) : T :=
 match o.op with
 | .defer { callee := .value g, args, .. } =>
   match ev cx s.s.t g, allM (ev cx s.s.t) args.toList with
   | some (.one (.val (.func (.func f) a b))), some vs => bif Nat.beq a.size 0 && Nat.beq b.size 0 && vs.all (fun v => v.men.all fun m => Nat.blt m s.s.m.length) then k ⟨s.s, s.kn, (f, vs) :: s.df⟩ else .fail 11
   | _, _ => .fail 11
 | _ => .fail 11
def isAlt (o : Oper) : Bool := match o.op, o.guard with | .call { callee := .builtin .append, .. }, none => true | _, _ => false
def splitA : List Oper -> Option (List Oper × Oper × List Oper)
 | [] => none
 | o :: l => bif isAlt o then some ([], o, l) else match splitA l with | some (a, b, c) => some (o :: a, b, c) | none => none
def altT (s : Sx) (o : Oper) : List R -> (Sx -> T) -> T
 | [], _ => .fail 16
 | [r], k => bif okMen s.s.m.length r then k ⟨applyR s.s o.dst r, s.kn, s.df⟩ else .fail 17
 | r :: l, k => .both (bif okMen s.s.m.length r then k ⟨applyR s.s o.dst r, s.kn, s.df⟩ else .fail 17) (altT s o l k)
def evAlt (cx : Cx) (s : Sx) (o : Oper) (k : Sx -> T) : T :=
 match cx.alt (ev cx s.s.t) s.s.m o with
 | none => .fail 18
 | some rs => altT s o rs k
def evC (cx : Cx) (nt fuel : Nat) : Code -> Sx -> (Ek -> Sx -> T) -> T
 | .skip, s, k => k .n s
 | .region _ ops draw, s, k =>
   match lastD ops.toList with
   | none => match splitA ops.toList with
     | none => evOps cx nt ops.toList ops.toList s [] fun its s' => bif !draw || fastR ops.toList its.reverse then k .n s' else .fail 7
     | some (pre, o, post) => bif draw || !dstOK nt o.dst then .fail 14 else evOps cx nt ops.toList pre s [] fun _ s' => evAlt cx s' o fun s2 => evOps cx nt ops.toList post s2 [] fun _ s3 => k .n s3
   | some (pre, o) => bif draw then .fail 12 else evOps cx nt ops.toList pre s [] fun _ s' => evDefer cx s' o (k .n)
 | .seq a b, s, k => evC cx nt fuel a s fun e s' => match e with | .n => evC cx nt fuel b s' k | e => k e s'
 | .cond c x y, s, k =>
   match bv s.kn (ev cx s.s.t c) with
   | .b u => bif u then evC cx nt fuel x s k else evC cx nt fuel y s k
   | .s i => .br i (evC cx nt fuel x ⟨s.s, (i, true) :: s.kn, s.df⟩ k) (evC cx nt fuel y ⟨s.s, (i, false) :: s.kn, s.df⟩ k)
   | .no => .fail 8
 | .block id c, s, k => evC cx nt fuel c s fun e s' => match e with | .e id' => bif Nat.beq id' id then k .n s' else k (.e id') s' | e => k e s'
 | .loop c, s, k => iter (evC cx nt fuel c) fuel s k
 | .exit id, s, k => k (.e id) s
 | .ret, s, k => k .r s
 | _, _, _ => .fail 9
end
end Go.Eng
namespace Go.Eng
open Go Go.RowKit
noncomputable section
section
variable {cx : Cx} {ρ : Nat -> Int} {Ψ : Ek -> St -> Prop}
def KnOK (ρ : Nat -> Int) (kn : List (Nat × Bool)) : Prop := ∀ i u, knB kn i = some u -> ρ i = b2i u
theorem KnOK.cons {kn} (h : KnOK ρ kn) {i : Nat} {u : Bool} (hi : ρ i = b2i u) : KnOK ρ ((i, u) :: kn) := by
 intro j v hj
 simp only [knB] at hj
 cases hb : Nat.beq i j with
 | true =>
   simp only [hb, cond_true, Option.some.injEq] at hj
   subst hj
   rw [<- Nat.eq_of_beq_eq_true hb]; exact hi
 | false => simp only [hb, cond_false] at hj; exact h j v hj
theorem bv_b {kn : List (Nat × Bool)} (hk : KnOK ρ kn) {v : Option V} {u : Bool} (h : bv kn v = .b u) : ∃ x, v = some x /\ ∀ φ, x.den cx.K ρ φ = .bool u := by
 unfold bv at h
 split at h
 ·rename_i z
  simp only [Bv.b.injEq] at h
  subst h
  refine ⟨_, rfl, fun φ => ?_⟩
  simp [V.den, C.den, A.den, kinds, boolKind]
  by_cases hz : z = 0 <;> simp [hz]
 ·rename_i i
  split at h
  ·rename_i u' hu
   simp only [Bv.b.injEq] at h
   subst h
   refine ⟨_, rfl, fun φ => ?_⟩
   simp only [V.den, C.den, A.den, kinds, boolKind, hk i u' hu]
   cases u' <;> rfl
  ·simp at h
 ·simp at h
theorem bv_s {kn : List (Nat × Bool)} {v : Option V} {i : Nat} (h : bv kn v = .s i) : ∃ x, v = some x /\ ∀ u, ρ i = b2i u -> ∀ φ, x.den cx.K ρ φ = .bool u := by
 unfold bv at h
 split at h
 ·simp at h
 ·split at h
  ·simp at h
  ·simp only [Bv.s.injEq] at h
   subst h
   refine ⟨_, rfl, fun u hu φ => ?_⟩
   simp only [V.den, C.den, A.den, kinds, boolKind, hu]
   cases u <;> rfl
 ·simp at h
theorem wrapD_holds {nv : Nat} {r : R} {t : T} (h : (wrapD nv r t).holds ρ Ψ) : FnOK ρ nv r /\ t.holds ρ Ψ := by
 unfold wrapD at h
 unfold FnOK
 split at h
 ·rename_i f as hf
  obtain ⟨h1, h2, h3⟩ := h
  exact ⟨by rw [hf]; exact ⟨h1, (eqsFrom_iff _ _ _).1 h2⟩, h3⟩
 ·rename_i hf
  exact ⟨by rw [hf]; trivial, h⟩
def Stepped (cx : Cx) (ρ : Nat -> Int) (Ψ : Ek -> St -> Prop) (ops : List Oper) (s : Sx) (o : Oper) (k : It -> Sx -> T) : Prop :=
 ∃ it s', it.o = o /\ it.s = s.s /\ s'.s = applyR s.s o.dst it.r /\ s'.df = s.df /\ It.Ok cx ρ ops it /\ GamOK cx ρ s'.s.g /\ KnOK ρ s'.kn /\ (k it s').holds ρ Ψ
theorem runO_holds (hg : cx.Good) {ops : List Oper} {s : Sx} {o : Oper} {k : It -> Sx -> T} (h : (runO cx s o k).holds ρ Ψ) (hΓ : GamOK cx ρ s.s.g) (hk : KnOK ρ s.kn) (hgd : GuardSays cx ρ ops s.s o true) :
  Stepped cx ρ Ψ ops s o k := by
 unfold runO at h
 split at h
 ·exact h.elim
 ·rename_i r hr
  cases hm : okMen s.s.m.length r with
  | false => rw [hm] at h; exact h.elim
  | true =>
    rw [hm] at h
    obtain ⟨h1, h2⟩ := wrapD_holds h
    exact ⟨⟨o, s.s, r, true⟩, ⟨applyR s.s o.dst r, s.kn, s.df⟩, rfl, rfl, rfl, rfl, ⟨hgd, fun _ => ⟨hr, h1, hΓ⟩, (fun h => nomatch h), hm⟩, addK_ok _ _ _ hΓ (evalOp_kinds hg hΓ hr h1), hk, h2⟩
theorem skipO_holds {ops : List Oper} {s : Sx} {o : Oper} {k : It -> Sx -> T} (h : (skipO s o k).holds ρ Ψ) (hΓ : GamOK cx ρ s.s.g) (hk : KnOK ρ s.kn) (hgd : GuardSays cx ρ ops s.s o false) :
  Stepped cx ρ Ψ ops s o k :=
 ⟨⟨o, s.s, R.pure undefV, false⟩, ⟨applyR s.s o.dst (R.pure undefV), s.kn, s.df⟩, rfl, rfl, rfl, rfl, ⟨hgd, (fun h => nomatch h), fun _ => rfl, by simp [okMen, R.pure, undefV, V.men]⟩, hΓ, hk, h⟩
theorem oneO_holds (hg : cx.Good) {ops : List Oper} {s : Sx} {o : Oper} {k : It -> Sx -> T} (h : (oneO cx ops s o k).holds ρ Ψ) (hΓ : GamOK cx ρ s.s.g) (hk : KnOK ρ s.kn) : Stepped cx ρ Ψ ops s o k := by
 unfold oneO at h
 split at h
 ·rename_i hgo
  exact runO_holds hg h hΓ hk (by simp [GuardSays, hgo])
 ·rename_i j want hgo
  split at h
  ·exact h.elim
  ·rename_i d hd
   have gs : ∀ (b : Bool), (∃ v, s.s.t.get d = some v /\ ((∃ u : Bool, (∀ φ, v.den cx.K ρ φ = .bool u) /\ b = (u == want)) \/ (v = undefV /\ b = false))) -> GuardSays cx ρ ops s.s o b := fun b ⟨v, h1, h2⟩ => by
    unfold GuardSays; rw [hgo]; exact ⟨d, v, hd, h1, h2⟩
   split at h
   ·rename_i hv
    exact skipO_holds h hΓ hk (gs false ⟨_, hv, .inr ⟨rfl, rfl⟩⟩)
   ·split at h
    ·rename_i u hu
     obtain ⟨x, hx, hden⟩ := bv_b (cx := cx) hk hu
     cases hw : (u == want) with
     | true => rw [hw] at h; exact runO_holds hg h hΓ hk (gs true ⟨x, hx, .inl ⟨u, hden, hw.symm⟩⟩)
     | false => rw [hw] at h; exact skipO_holds h hΓ hk (gs false ⟨x, hx, .inl ⟨u, hden, hw.symm⟩⟩)
    ·rename_i i hi
     obtain ⟨x, hx, hden⟩ := bv_s (cx := cx) (ρ := ρ) hi
     have lift : ∀ {u : Bool}, Stepped cx ρ Ψ ops ⟨s.s, (i, u) :: s.kn, s.df⟩ o k -> Stepped cx ρ Ψ ops s o k := fun h => h
     rcases h with ⟨h1, h2⟩ | ⟨h1, h2⟩
     ·have hkn := hk.cons (i := i) (u := true) h1
      cases want with
      | true => exact lift (runO_holds hg h2 hΓ hkn (gs true ⟨x, hx, .inl ⟨true, hden true h1, rfl⟩⟩))
      | false => exact lift (skipO_holds h2 hΓ hkn (gs false ⟨x, hx, .inl ⟨true, hden true h1, rfl⟩⟩))
     ·have hkn := hk.cons (i := i) (u := false) h1
      cases want with
      | true => exact lift (skipO_holds h2 hΓ hkn (gs false ⟨x, hx, .inl ⟨false, hden false h1, rfl⟩⟩))
      | false => exact lift (runO_holds hg h2 hΓ hkn (gs true ⟨x, hx, .inl ⟨false, hden false h1, rfl⟩⟩))
    ·exact h.elim
theorem evOps_holds (hg : cx.Good) {nt : Nat} {ops : List Oper} : ∀ (l : List Oper) (s : Sx) (acc : List It) (k : List It -> Sx -> T), (evOps cx nt ops l s acc k).holds ρ Ψ -> GamOK cx ρ s.s.g -> KnOK ρ s.kn ->
  ∃ its s', its.map (·.o) = l /\ s'.df = s.df /\ Chain its s.s s'.s /\ (∀ it ∈ its, It.Ok cx ρ ops it) /\ (∀ it ∈ its, ∀ d, it.o.dst = some d -> d < nt) /\ GamOK cx ρ s'.s.g /\ KnOK ρ s'.kn /\ (k (its.reverse ++ acc) s').holds ρ Ψ
 | [], s, acc, k, h, hΓ, hk => ⟨[], s, rfl, rfl, rfl, by simp, by simp, hΓ, hk, h⟩
 | o :: l, s, acc, k, h, hΓ, hk => by
   simp only [evOps] at h
   cases hd : dstOK nt o.dst with
   | false => rw [hd] at h; exact h.elim
   | true =>
     rw [hd] at h
     obtain ⟨it, s1, e1, e2, e3, e4, hok, hΓ1, hk1, h1⟩ := oneO_holds hg h hΓ hk
     obtain ⟨its, s2, f1, f0, f2, f3, f4, f5, f6, f7⟩ := evOps_holds hg l s1 (it :: acc) k h1 hΓ1 hk1
     refine ⟨it :: its, s2, by simp [e1, f1], f0.trans e4, ⟨e2, by rw [e1, <- e3]; exact f2⟩, ?_, ?_, f5, f6, by simpa using f7⟩
     ·intro x hx
      rcases List.mem_cons.1 hx with rfl | hx
      ·exact hok
      ·exact f3 x hx
     ·intro x hx d hxd
      rcases List.mem_cons.1 hx with rfl | hx
      ·rw [e1] at hxd; rw [hxd] at hd; exact Nat.blt_eq.mp hd
      ·exact f4 x hx d hxd
def dfl (cx : Cx) (ρ : Nat -> Int) (φ : Nat -> Pl) (df : List (FuncId × List V)) : List Deferred :=
 df.map fun d => { target := .fn (.func d.1) #[], args := (d.2.map (V.den cx.K ρ φ)).toArray }
theorem dfl_congr {φ φ' : Nat -> Pl} {df : List (FuncId × List V)} (h : ∀ d ∈ df, ∀ v ∈ d.2, ∀ m ∈ v.men, φ m = φ' m) : dfl cx ρ φ df = dfl cx ρ φ' df :=
 List.map_congr_left fun d hd => by
  have : d.2.map (V.den cx.K ρ φ) = d.2.map (V.den cx.K ρ φ') := List.map_congr_left fun v hv => V.den_congr (h d hd v hv)
  rw [this]
theorem lastD_spec : ∀ {l pre : List Oper} {o : Oper}, lastD l = some (pre, o) -> l = pre ++ [o] /\ o.guard = none /\ o.dst = none
 | [], _, _, h => by cases h
 | [o'], pre, o, h => by
   unfold lastD at h
   split at h
   ·rename_i h1 h2 h3
    simp only [Option.some.injEq, Prod.mk.injEq] at h
    obtain ⟨rfl, rfl⟩ := h
    exact ⟨rfl, h2, h3⟩
   ·cases h
 | a :: b :: l, pre, o, h => by
   rw [lastD] at h
   ·split at h
    ·rename_i x y hxy
     simp only [Option.some.injEq, Prod.mk.injEq] at h
     obtain ⟨rfl, rfl⟩ := h
     obtain ⟨h1, h2⟩ := lastD_spec hxy
     exact ⟨by rw [h1]; rfl, h2⟩
    ·cases h
   ·intro e; cases e
theorem splitA_spec : ∀ {l pre post : List Oper} {o : Oper}, splitA l = some (pre, o, post) -> l = pre ++ o :: post /\ o.guard = none
 | [], _, _, _, h => by cases h
 | a :: l, pre, post, o, h => by
   unfold splitA at h
   cases hb : isAlt a with
   | true =>
     rw [hb] at h
     simp only [cond_true, Option.some.injEq, Prod.mk.injEq] at h
     obtain ⟨rfl, rfl, rfl⟩ := h
     refine ⟨rfl, ?_⟩
     unfold isAlt at hb
     split at hb
     ·assumption
     ·cases hb
   | false =>
     rw [hb] at h
     simp only [cond_false] at h
     split at h
     ·rename_i x y z hxy
      simp only [Option.some.injEq, Prod.mk.injEq] at h
      obtain ⟨rfl, rfl, rfl⟩ := h
      obtain ⟨h1, h2⟩ := splitA_spec hxy
      exact ⟨by rw [h1]; rfl, h2⟩
     ·cases h
theorem altT_holds {s : Sx} {o : Oper} {k : Sx -> T} : ∀ {rs : List R}, (altT s o rs k).holds ρ Ψ -> ∀ r ∈ rs, okMen s.s.m.length r = true /\ (k ⟨applyR s.s o.dst r, s.kn, s.df⟩).holds ρ Ψ
 | [], h, _, _ => h.elim
 | [r], h, r', hr => by
   simp only [List.mem_singleton] at hr; subst hr
   simp only [altT] at h
   cases hb : okMen s.s.m.length r' with
   | true => rw [hb] at h; exact ⟨rfl, h⟩
   | false => rw [hb] at h; exact h.elim
 | r :: r2 :: l, h, r', hr => by
   simp only [altT] at h
   obtain ⟨h1, h2⟩ := h
   rcases List.mem_cons.1 hr with rfl | hr
   ·cases hb : okMen s.s.m.length r' with
    | true => rw [hb] at h1; exact ⟨rfl, h1⟩
    | false => rw [hb] at h1; exact h1.elim
   ·exact altT_holds h2 r' hr
structure Inv (cx : Cx) (ρ : Nat -> Int) (nt n0 : Nat) (D : Nat -> Nat -> Prop) (w0 : World) (φ0 : Nat -> Pl) (nr : Nat) (s : Sx) (φ : Nat -> Pl) (σ : Sg) (a : Act) (w : World) : Prop where
 rel : Rel cx ρ nt n0 (dfl cx ρ φ s.df) D w0 φ σ a w
 dmen : ∀ d ∈ s.df, ∀ v ∈ d.2, ∀ m ∈ v.men, ∃ y, σ (.g m) = some y
 sub : Sub s.s σ
 gam : GamOK cx ρ s.s.g
 kn : KnOK ρ s.kn
 old : ∀ m, m < nr -> φ m = φ0 m /\ ∃ y, σ (.g m) = some y
theorem Inv.eval {nt n0 D w0 φ0 nr s φ σ a w} (h : Inv cx ρ nt n0 D w0 φ0 nr s φ σ a w) {c : Operand} {x : V} (hx : ev cx s.s.t c = some x) : a.eval c = x.den cx.K ρ φ := by
 cases c with
 | tmp t =>
   simp only [ev] at hx
   have := h.rel.tmps t x (h.sub.t t x hx)
   simp only [Act.eval, Array.getD_eq_getD_getElem?, this]; rfl
 | const u =>
   simp only [ev, Option.some.injEq] at hx; subst hx
   exact (ofConst_den cx.ext ρ φ u).symm
 | global g =>
   simp only [ev] at hx
   cases hl : lookup cx.gl g with
   | none => simp [hl] at hx
   | some rr =>
     simp [hl] at hx; subst hx
     have := (h.rel.glob g rr hl).1
     simp [Act.eval, V.den, C.den, paddr, this]
 | func f => simp only [ev, Option.some.injEq] at hx; subst hx; rfl
theorem iter_ok {P : Program} {nt n0 D w0 φ0 nr} {Q : Exit -> Act -> World -> Prop} {c : Code} {f : Sx -> (Ek -> Sx -> T) -> T}
  (hf : ∀ (s : Sx) (k : Ek -> Sx -> T) (φ : Nat -> Pl) (σ : Sg) (a : Act) (w : World) (Q : Exit -> Act -> World -> Prop), Inv cx ρ nt n0 D w0 φ0 nr s φ σ a w -> (f s k).holds ρ Ψ ->
   (∀ e s' φ' σ' a' w', Inv cx ρ nt n0 D w0 φ0 nr s' φ' σ' a' w' -> (k e s').holds ρ Ψ -> Q e.exit a' w') -> c.wp P Q a w) :
  ∀ (n : Nat) (s : Sx) (k : Ek -> Sx -> T) (φ : Nat -> Pl) (σ : Sg) (a : Act) (w : World), Inv cx ρ nt n0 D w0 φ0 nr s φ σ a w -> (iter f n s k).holds ρ Ψ ->
   (∀ e s' φ' σ' a' w', Inv cx ρ nt n0 D w0 φ0 nr s' φ' σ' a' w' -> (k e s').holds ρ Ψ -> Q e.exit a' w') -> Code.rounds P c Q n a w
 | 0, _, _, _, _, _, _, _, h, _ => h.elim
 | n + 1, s, k, φ, σ, a, w, hI, h, hQ => by
   refine hf s _ φ σ a w _ hI h (fun e s' φ' σ' a' w' hI' h' => ?_)
   cases e with
   | n => exact iter_ok hf n s' k φ' σ' a' w' hI' h' hQ
   | e id => exact hQ (.e id) s' φ' σ' a' w' hI' h'
   | r => exact hQ .r s' φ' σ' a' w' hI' h'
theorem evC_ok (hg : cx.Good) (hm : cx.P.follows .mixedOrders = true) {nt fuel n0 D w0 φ0 nr} : ∀ (c : Code) (s : Sx) (k : Ek -> Sx -> T) (φ : Nat -> Pl) (σ : Sg) (a : Act) (w : World) (Q : Exit -> Act -> World -> Prop),
  Inv cx ρ nt n0 D w0 φ0 nr s φ σ a w -> (evC cx nt fuel c s k).holds ρ Ψ -> (∀ e s' φ' σ' a' w', Inv cx ρ nt n0 D w0 φ0 nr s' φ' σ' a' w' -> (k e s').holds ρ Ψ -> Q e.exit a' w') -> c.wp cx.P Q a w := by
 intro c
 induction c with
 | skip => exact fun s k φ σ a w Q hI h hQ => wp_skip (hQ .n s φ σ a w hI h)
 | region id ops draw =>
   intro s k φ σ a w Q hI h hQ
   have lift : ∀ {s' : Sx} {φ' : Nat -> Pl} {σ' : Sg} {a' : Act} {w' : World}, s'.df = s.df -> Rel cx ρ nt n0 (dfl cx ρ φ s.df) D w0 φ' σ' a' w' -> (∀ m, (∃ y, σ (.g m) = some y) -> φ' m = φ m /\ ∃ y, σ' (.g m) = some y) ->
     Rel cx ρ nt n0 (dfl cx ρ φ' s'.df) D w0 φ' σ' a' w' /\ (∀ d ∈ s'.df, ∀ v ∈ d.2, ∀ m ∈ v.men, ∃ y, σ' (.g m) = some y) := fun {s' φ' σ' a' w'} he k1 k3 => by
    refine ⟨?_, fun d hd v hv m hm => ?_⟩
    ·rw [he, dfl_congr (φ' := φ) (fun d hd v hv m hm => (k3 m (hI.dmen d hd v hv m hm)).1)]; exact k1
    ·rw [he] at hd; exact (k3 m (hI.dmen d hd v hv m hm)).2
   simp only [evC] at h
   split at h
   ·split at h
    ·obtain ⟨its, s', h1, h0, h2, h3, h4, h5, h6, h7⟩ := evOps_holds hg _ _ _ _ h hI.gam hI.kn
     simp only [List.append_nil, List.reverse_reverse] at h7
     have fin : ∀ φ' σ' a' w', Rel cx ρ nt n0 (dfl cx ρ φ s.df) D w0 φ' σ' a' w' -> Sub s'.s σ' -> (∀ m, (∃ y, σ (.g m) = some y) -> φ' m = φ m /\ ∃ y, σ' (.g m) = some y) -> (k .n s').holds ρ Ψ -> Q .normal a' w' :=
      fun φ' σ' a' w' k1 k2 k3 hk => hQ .n s' φ' σ' a' w' ⟨(lift h0 k1 k3).1, (lift h0 k1 k3).2, k2, h5, h6, fun m hm' => by
       obtain ⟨o1, o2⟩ := hI.old m hm'
       obtain ⟨o3, o4⟩ := k3 m o2
       exact ⟨o3.trans o1, o4⟩⟩ hk
     cases draw with
     | false => exact region_seq hg h1 h2 h3 h4 hI.sub hI.rel fun φ' σ' a' w' k1 k2 k3 => fin φ' σ' a' w' k1 k2 k3 h7
     | true =>
       cases hc : fastR ops.toList its with
       | false => rw [hc] at h7; exact h7.elim
       | true =>
         rw [hc] at h7
         exact region_any hg hm h1 h2 h3 (fastR_chk h1 hc) h4 hI.sub hI.rel fun φ' σ' a' w' k1 k2 k3 => fin φ' σ' a' w' k1 k2 k3 h7
    ·rename_i pre o post hl
     obtain ⟨hops, hgd⟩ := splitA_spec hl
     cases hdr : (draw || !dstOK nt o.dst) with
     | true => rw [hdr] at h; exact h.elim
     | false =>
     rw [hdr] at h
     simp only [Bool.or_eq_false_iff, Bool.not_eq_false'] at hdr
     obtain ⟨rfl, hdn⟩ := hdr
     simp only [cond_false] at h
     have hdst : ∀ d, o.dst = some d -> d < nt := fun d hd => by rw [hd] at hdn; exact Nat.blt_eq.mp hdn
     obtain ⟨its, s', h1, h0, h2, h3, h4, h5, h6, h7⟩ := evOps_holds hg _ _ _ _ h hI.gam hI.kn
     have hlen : its.length = pre.length := by have := congrArg List.length h1; simpa using this
     have hsz : ops.size = pre.length + (post.length + 1) := by have := congrArg List.length hops; simpa using this
     refine wp_region ?_
     have hrange : List.range ops.size = List.range' 0 its.length ++ (pre.length :: List.range' (pre.length + 1) post.length) := by
      rw [hsz, List.range_eq_range', <- hlen]
      rw [show its.length + (post.length + 1) = its.length + (post.length + 1) from rfl]
      rw [<- List.range'_append_1]
      simp [List.range'_succ]
     rw [hrange]
     refine region_lin2 hg its 0 s.s σ φ a w (fun i it hi => ?_) h2 h3 h4 hI.sub hI.rel (fun φ' σ' a' w' k1 k2 k3 => ?_)
     ·have e : (its.map (·.o))[i]? = pre[i]? := by rw [h1]
      simp [hi] at e
      have hlt : i < pre.length := by
       rw [<- hlen]; exact (List.getElem?_eq_some_iff.1 hi).1
      have : ops.toList[i]? = some it.o := by rw [hops, List.getElem?_append_left hlt]; exact e.symm
      rw [Nat.zero_add]; simpa using this
     ·have ho : ops[pre.length]? = some o := by
       have : ops.toList[pre.length]? = some o := by rw [hops]; simp
       simpa using this
      rw [wpOps_cons]
      unfold wpOp
      rw [ho]
      have hw : Region.wanted o (yielded ops a'.tmps) = true := by simp [Region.wanted, hgd]
      simp only [hw, if_true]
      left
      obtain ⟨r1, r2⟩ := lift h0 k1 k3
      have hold : ∀ m, m < nr -> φ' m = φ0 m /\ ∃ y, σ' (.g m) = some y := fun m hm' => by
       obtain ⟨o1, o2⟩ := hI.old m hm'
       obtain ⟨o3, o4⟩ := k3 m o2
       exact ⟨o3.trans o1, o4⟩
      have hI' : Inv cx ρ nt n0 D w0 φ0 nr s' φ' σ' a' w' := ⟨r1, r2, k2, h5, h6, hold⟩
      unfold evAlt at h7
      split at h7
      ·exact h7.elim
      ·rename_i rs hrs
       obtain ⟨q1, q2⟩ := hg.alt _ _ _ _ hrs
       have hag : ∀ r ∈ rs, Agrees s'.s σ' o r := fun r hr => agrees_of (ops := ops.toList) (it := ⟨o, s'.s, r, true⟩) (q1 r hr).2.2 (altT_holds h7 r hr).1 k2 (fun _ _ => rfl)
       refine q2 ρ φ' a' w' _ Q (fun x v hx => hI'.eval hx) (fun r hr => pre_op r1 (hag r hr)) (fun r hr φ2 w2 hpost => ?_)
       obtain ⟨m1, m2⟩ := post_op r1 (hag r hr) hdst hpost
       have hh := (altT_holds h7 r hr).2
       have hkd := (q1 r hr).2.1
       have hgam : GamOK cx ρ (applyR s'.s o.dst r).g := by
        show GamOK cx ρ (addK s'.s.g s'.s.nv r.kd)
        rw [hkd]; exact h5
       obtain ⟨its2, s3, f1, f0, f2, f3, f4, f5, f6, f7⟩ := evOps_holds hg _ _ _ _ hh hgam h6
       have hlen2 : its2.length = post.length := by have := congrArg List.length f1; simpa using this
       have hrest : List.range' (pre.length + 1) post.length = List.range' (pre.length + 1) its2.length ++ [] := by rw [hlen2]; simp
       rw [hrest]
       refine region_lin2 hg its2 (pre.length + 1) _ _ φ2 _ w2 (fun i it hi => ?_) f2 f3 f4 (k2.apply (q1 r hr).2.2) m1 (fun φ3 σ3 a3 w3 n1 n2 n3 => ?_)
       ·have e : (its2.map (·.o))[i]? = post[i]? := by rw [f1]
        simp [hi] at e
        have : ops.toList[pre.length + 1 + i]? = some it.o := by
         rw [hops, List.getElem?_append_right (by omega)]
         rw [show pre.length + 1 + i - pre.length = i + 1 by omega]
         simpa using e.symm
        simpa using this
       ·have gold : ∀ m, (∃ y, σ' (.g m) = some y) -> φ3 m = φ' m /\ ∃ y, σ3 (.g m) = some y := fun m hm => by
         have e1 := m2 m hm
         have hg2 : ∃ y, updL σ' (ups o.dst r) (.g m) = some y := by
          have := sigP_put (k := .g m) rfl [(⟨o, s'.s, r, true⟩ : It)] 0 σ' (fun _ => true) hm
          simp only [sigP, if_true] at this
          exact this
         obtain ⟨e2, e3⟩ := n3 m hg2
         exact ⟨e2.trans e1, e3⟩
        refine hQ .n s3 φ3 σ3 a3 w3 ⟨?_, ?_, n2, f5, f6, fun m hm' => ?_⟩ f7
        ·rw [f0]
         show Rel cx ρ nt n0 (dfl cx ρ φ3 s'.df) D w0 φ3 σ3 a3 w3
         rw [dfl_congr (φ' := φ') (fun d hd v hv m hm => (gold m (r2 d hd v hv m hm)).1)]; exact n1
        ·rw [f0]
         intro d hd v hv m hm
         exact (gold m (r2 d hd v hv m hm)).2
        ·obtain ⟨o1, o2⟩ := hold m hm'
         obtain ⟨o3, o4⟩ := gold m o2
         exact ⟨o3.trans o1, o4⟩
   ·rename_i pre o hl
    obtain ⟨hops, hgd, hdst⟩ := lastD_spec hl
    cases draw with
    | true => exact h.elim
    | false =>
    simp only [cond_false] at h
    obtain ⟨its, s', h1, h0, h2, h3, h4, h5, h6, h7⟩ := evOps_holds hg _ _ _ _ h hI.gam hI.kn
    have hlen : its.length = pre.length := by have := congrArg List.length h1; simpa using this
    have hsz : ops.size = pre.length + 1 := by have := congrArg List.length hops; simpa using this
    refine wp_region ?_
    have hrange : List.range ops.size = List.range' 0 its.length ++ [pre.length] := by
     rw [hsz, List.range_succ, List.range_eq_range', hlen]
    rw [hrange]
    refine region_lin2 hg its 0 s.s σ φ a w (fun i it hi => ?_) h2 h3 h4 hI.sub hI.rel (fun φ' σ' a' w' k1 k2 k3 => ?_)
    ·have e : (its.map (·.o))[i]? = pre[i]? := by rw [h1]
     simp [hi] at e
     have hlt : i < pre.length := by
      rw [<- hlen]; exact (List.getElem?_eq_some_iff.1 hi).1
     have : ops.toList[i]? = some it.o := by rw [hops, List.getElem?_append_left hlt]; exact e.symm
     rw [Nat.zero_add]; simpa using this
    ·have ho : ops[pre.length]? = some o := by
      have : ops.toList[pre.length]? = some o := by rw [hops]; simp
      simpa using this
     rw [wpOps_cons]
     unfold wpOp
     rw [ho]
     have hw : Region.wanted o (yielded ops a'.tmps) = true := by simp [Region.wanted, hgd]
     simp only [hw, if_true]
     left
     unfold evDefer at h7
     split at h7
     ·rename_i g args at_ hop
      split at h7
      ·rename_i f ca cb vs hgv hvs
       cases hb : (Nat.beq ca.size 0 && Nat.beq cb.size 0 && vs.all (fun v => v.men.all fun m => Nat.blt m s'.s.m.length)) with
       | false => rw [hb] at h7; exact h7.elim
       | true =>
       rw [hb] at h7
       simp only [Bool.and_eq_true] at hb
       have ha0 : ca = #[] := Array.eq_empty_of_size_eq_zero (Nat.eq_of_beq_eq_true hb.1.1)
       have hb0 : cb = #[] := Array.eq_empty_of_size_eq_zero (Nat.eq_of_beq_eq_true hb.1.2)
       subst ha0; subst hb0
       obtain ⟨r1, r2⟩ := lift h0 k1 k3
       have hold : ∀ m, m < nr -> φ' m = φ0 m /\ ∃ y, σ' (.g m) = some y := fun m hm' => by
        obtain ⟨o1, o2⟩ := hI.old m hm'
        obtain ⟨o3, o4⟩ := k3 m o2
        exact ⟨o3.trans o1, o4⟩
       have hI' : Inv cx ρ nt n0 D w0 φ0 nr s' φ' σ' a' w' := ⟨r1, r2, k2, h5, h6, hold⟩
       have hev : ∀ x v, ev cx s'.s.t x = some v -> a'.eval x = v.den cx.K ρ φ' := fun x v hx => hI'.eval hx
       have hargs : args.map a'.eval = (vs.map (V.den cx.K ρ φ')).toArray := by
        have := allM_spec (cx := cx) (ρ := ρ) hev _ _ hvs
        apply Array.toList_inj.1
        simpa using this
       have hgval : a'.eval g = .func (.func f) #[] #[] := hev g _ hgv
       have hrun : (execOp a'.eval o).run cx.P w' = .ok (.defer { target := .fn (.func f) #[], args := (vs.map (V.den cx.K ρ φ')).toArray }) w' := by
        simp only [execOp, hop, resolve, hgval, Deferred.ofValue, hargs, Array.empty_append]
        rfl
       unfold Oper.wp
       rw [hrun, Oper.upon_defer, hdst]
       refine hQ .n ⟨s'.s, s'.kn, (f, vs) :: s'.df⟩ φ' σ' _ w' ⟨?_, ?_, k2, h5, h6, hold⟩ h7
       ·exact { toRelW := r1.toRelW, tmps := r1.tmps, size := r1.size, defers := by show _ :: a'.defers = _; rw [r1.defers]; rfl, glob := r1.glob }
       ·intro d hd v hv m hm
        rcases List.mem_cons.1 hd with rfl | hd
        ·have h1 := List.all_eq_true.1 hb.2 v hv
         have h2 := Nat.blt_eq.mp (List.all_eq_true.1 h1 m hm)
         exact ⟨_, k2.g m ▸ mg_g (List.getElem?_eq_getElem h2)⟩
        ·exact r2 d hd v hv m hm
      ·exact h7.elim
     ·exact h7.elim
 | seq x y ihx ihy =>
   intro s k φ σ a w Q hI h hQ
   refine wp_seq (ihx s _ φ σ a w _ hI h (fun e s' φ' σ' a' w' hI' h' => ?_))
   cases e with
   | n => exact ihy s' k φ' σ' a' w' Q hI' h' hQ
   | e id => exact hQ (.e id) s' φ' σ' a' w' hI' h'
   | r => exact hQ .r s' φ' σ' a' w' hI' h'
 | cond c x y ihx ihy =>
   intro s k φ σ a w Q hI h hQ
   simp only [evC] at h
   split at h
   ·rename_i u hu
    obtain ⟨v, hv, hden⟩ := bv_b (cx := cx) hI.kn hu
    have he := (hI.eval hv).trans (hden φ)
    cases u with
    | true => exact wp_cond_true he (ihx s k φ σ a w Q hI h hQ)
    | false => exact wp_cond_false he (ihy s k φ σ a w Q hI h hQ)
   ·rename_i i hi
    obtain ⟨v, hv, hden⟩ := bv_s (cx := cx) (ρ := ρ) hi
    rcases h with ⟨h1, h2⟩ | ⟨h1, h2⟩
    ·exact wp_cond_true ((hI.eval hv).trans (hden true h1 φ)) (ihx ⟨s.s, (i, true) :: s.kn, s.df⟩ k φ σ a w Q ⟨hI.rel, hI.dmen, hI.sub, hI.gam, hI.kn.cons (u := true) h1, hI.old⟩ h2 hQ)
    ·exact wp_cond_false ((hI.eval hv).trans (hden false h1 φ)) (ihy ⟨s.s, (i, false) :: s.kn, s.df⟩ k φ σ a w Q ⟨hI.rel, hI.dmen, hI.sub, hI.gam, hI.kn.cons (u := false) h1, hI.old⟩ h2 hQ)
   ·exact h.elim
 | block id c ih =>
   intro s k φ σ a w Q hI h hQ
   refine wp_block (ih s _ φ σ a w _ hI h (fun e s' φ' σ' a' w' hI' h' => ?_))
   cases e with
   | n => exact hQ .n s' φ' σ' a' w' hI' h'
   | e id' =>
     simp only at h'
     simp only [Ek.exit, Exit.inBlock]
     cases hb : Nat.beq id' id with
     | true =>
       rw [hb] at h'
       rw [if_pos (Nat.eq_of_beq_eq_true hb)]
       exact hQ .n s' φ' σ' a' w' hI' h'
     | false =>
       rw [hb] at h'
       rw [if_neg (Nat.ne_of_beq_eq_false hb)]
       exact hQ (.e id') s' φ' σ' a' w' hI' h'
   | r => exact hQ .r s' φ' σ' a' w' hI' h'
 | loop c ih =>
   intro s k φ σ a w Q hI h hQ
   exact wp_loop_rounds fuel (iter_ok (fun s k φ σ a w Q => ih s k φ σ a w Q) fuel s k φ σ a w hI h hQ)
 | exit id => exact fun s k φ σ a w Q hI h hQ => wp_exit (hQ (.e id) s φ σ a w hI h)
 | ret => exact fun s k φ σ a w Q hI h hQ => wp_ret (hQ .r s φ σ a w hI h)
 | _ => intro s k φ σ a w Q hI h hQ; exact h.elim
end
end
end Go.Eng
namespace Go.Eng
open Go Go.RowKit
noncomputable section
def halves {α : Type} : List α -> List α × List α
 | [] => ([], [])
 | [x] => ([x], [])
 | x :: y :: l => (x :: (halves l).1, y :: (halves l).2)
theorem halves_get {α : Type} : ∀ (l : List α) (n : Nat), (halves l).1[n]? = l[2 * n]? /\ (halves l).2[n]? = l[2 * n + 1]?
 | [], n => by simp [halves]
 | [x], n => by cases n <;> simp [halves]
 | x :: y :: l, 0 => by simp [halves]
 | x :: y :: l, n + 1 => by
   have := halves_get l n
   simp only [halves, List.getElem?_cons_succ]
   rw [show 2 * (n + 1) = 2 * n + 1 + 1 by omega]
   simp only [List.getElem?_cons_succ]
   exact this
def mkTr {α : Type} : Nat -> List α -> Tr α
 | 0, _ => .lf
 | _ + 1, [] => .lf
 | f + 1, x :: l => .nd (mkTr f (halves l).1) (some x) (mkTr f (halves l).2)
theorem mkTr_get0 {α : Type} : ∀ (f : Nat) (l : List α) (n : Nat) (x : α), (mkTr f l).get0 n = some x -> l[n]? = some x
 | 0, _, _, _, h => by simp [mkTr, Tr.get0] at h
 | _ + 1, [], _, _, h => by simp [mkTr, Tr.get0] at h
 | f + 1, y :: l, n, x, h => by
   simp only [mkTr, Tr.get0] at h
   cases hn : Nat.beq n 0 with
   | true =>
     simp only [hn, cond_true] at h
     have := Nat.eq_of_beq_eq_true hn
     subst this; simpa using h
   | false =>
     have hn0 := Nat.ne_of_beq_eq_false hn
     simp only [hn, cond_false] at h
     cases h2 : Nat.beq (n % 2) 1 with
     | true =>
       have h2' := Nat.eq_of_beq_eq_true h2
       simp only [h2, cond_true] at h
       have := mkTr_get0 f _ _ _ h
       rw [(halves_get l _).1] at this
       obtain ⟨m, rfl⟩ : ∃ m, n = m + 1 := ⟨n - 1, by omega⟩
       rw [List.getElem?_cons_succ]
       rw [show 2 * ((m + 1) / 2) = m by omega] at this
       exact this
     | false =>
       have h2' := Nat.ne_of_beq_eq_false h2
       simp only [h2, cond_false] at h
       have := mkTr_get0 f _ _ _ h
       rw [(halves_get l _).2] at this
       obtain ⟨m, rfl⟩ : ∃ m, n = m + 1 := ⟨n - 1, by omega⟩
       rw [List.getElem?_cons_succ]
       rw [show 2 * ((m + 1) / 2 - 1) + 1 = m by omega] at this
       exact this
theorem tab_ok {α : Type} {l : List α} {t : Tr α} {f : Nat} (h : t = mkTr f l) {n : Nat} {x : α} (hx : t.get n = some x) : l[n]? = some x := mkTr_get0 f l n x (by rw [<- Tr.get_eq, <- h]; exact hx)
def undOf (ti : TypeId -> Option TypeInfo) (t : TypeId) : Option TypeDesc :=
 match ti t with
 | none => none
 | some i => match i.desc with
   | .named _ u => match ti u with | some j => some j.desc | none => none
   | d => some d
theorem undOf_ok {P : Program} {ti : TypeId -> Option TypeInfo} (h : ∀ {t i}, ti t = some i -> P.info? t = some i) {t : TypeId} {d : TypeDesc} (hd : undOf ti t = some d) : P.underlying t = some d := by
 unfold undOf at hd
 unfold Program.underlying
 split at hd
 ·cases hd
 ·rename_i i hi
  rw [h hi]
  obtain ⟨desc, _⟩ := i
  cases desc <;> simp only at hd ⊢ <;> try exact hd
  rename_i nm u
  split at hd
  ·rename_i j hj
   rw [h hj]; exact hd
  ·cases hd
end
end Go.Eng
namespace Go.Eng
open Go Go.RowKit
noncomputable section
def argTr : List V -> Nat -> Tr V -> Tr V
 | [], _, t => t
 | v :: vs, n, t => argTr vs (n + 1) (t.set n v)
theorem argTr_get : ∀ (vs : List V) (n : Nat) (t : Tr V) (m : Nat) (v : V), (argTr vs n t).get m = some v -> t.get m = some v \/ (n <= m /\ vs[m - n]? = some v)
 | [], _, _, _, _, h => .inl h
 | x :: vs, n, t, m, v, h => by
   rcases argTr_get vs (n + 1) _ m v h with h1 | ⟨h1, h2⟩
   ·rcases Tr.get_set _ _ _ _ _ h1 with ⟨rfl, rfl⟩ | ⟨_, h1⟩
    ·right; simp
    ·exact .inl h1
   ·right
    refine ⟨by omega, ?_⟩
    rw [show m - n = (m - (n + 1)) + 1 by omega, List.getElem?_cons_succ]; exact h2
def resComp : V -> Option (Bool × List C)
 | .one c => some (false, [c])
 | .agg cs => some (true, cs)
 | _ => none
def resCell (cx : Cx) (M : List Reg) (t : Tr V) (a : Tmp) (ty : TypeId) : Option (Bool × List C) :=
 match t.get a, cx.un ty, cx.ti ty with
 | some (.one (.ptr r o)), some d, some i => match isAggD d with
   | true => match readC M r o i.size with | some cs => some (true, cs) | none => none
   | false => match readC M r o 1 with | some [c] => some (false, [c]) | _ => none
 | _, _, _ => none
def resL (cx : Cx) (M : List Reg) (t : Tr V) : List ResultVar -> Option (List (Bool × List C))
 | [] => some []
 | .tmp r :: l => match (t.get r).bind resComp, resL cx M t l with
   | some x, some xs => some (x :: xs)
   | _, _ => none
 | .cell a ty :: l => match resCell cx M t a ty, resL cx M t l with
   | some x, some xs => some (x :: xs)
   | _, _ => none
def compV : Bool × List C -> Option V
 | (true, cs) => some (.agg cs)
 | (false, [c]) => some (.one c)
 | _ => none
def resV (cx : Cx) (M : List Reg) (fn : Func) (t : Tr V) : Option V :=
 match fn.results.toList with
 | [.tmp r] => t.get r
 | [.cell a ty] => (resCell cx M t a ty).bind compV
 | l => (resL cx M t l).map .tup
def dfOK (cx : Cx) (M : List Reg) : List (FuncId × List V) -> Bool
 | [] => true
 | d :: l => (cx.dq d.1 d.2 M).isSome && dfOK cx M l
def leafK (cx : Cx) (e : Ek) (s : Sx) : T := bif dfOK cx s.s.m s.df then .leaf e s.s else .fail 13
def evF (cx : Cx) (fuel : Nat) (fn : Func) (c : Code) (vs : List V) (M : List Reg) : Option (V × List Reg) :=
 bif Nat.ble (lenN vs) fn.ntmps then
  match evC cx fn.ntmps fuel c ⟨⟨argTr vs 0 .lf, M, 0, .lf⟩, [], []⟩ (leafK cx) with
  | .leaf .n s => (resV cx s.m fn s.t).map fun v => (v, s.m)
  | .leaf .r s => (resV cx s.m fn s.t).map fun v => (v, s.m)
  | _ => none
 else none
section
variable {cx : Cx} {ρ : Nat -> Int}
theorem resComp_den {v : V} {x : Bool × List C} (h : resComp v = some x) (φ : Nat -> Pl) : v.den cx.K ρ φ = comp cx.K ρ φ x := by
 cases v with
 | one c => simp [resComp] at h; subst h; rfl
 | agg cs => simp [resComp] at h; subst h; rfl
 | tup vs => simp [resComp] at h
theorem resCell_run {M : List Reg} {t : Tr V} {tmps : Array Value} {φ : Nat -> Pl} {w : World} (ht : ∀ r v, t.get r = some v -> tmps[r]? = some (v.den cx.K ρ φ)) (hM : ∀ (r : Nat) (reg : Reg) (j : Nat) (c : C), M[r]? = some reg -> reg.cells[j]? = some c -> w.cell? (at_ (φ r) j) = some (c.den cx.K ρ φ))
  {a : Tmp} {ty : TypeId} {x : Bool × List C} (h : resCell cx M t a ty = some x) : (do loadVar ty (<- asAddr (tmps.getD a undef)) : Sem Value).run cx.P w = .ok (comp cx.K ρ φ x) w := by
 unfold resCell at h
 split at h
 ·rename_i r o d i hr hd hi
  have hp : tmps.getD a undef = .pointer (some (paddr φ r o)) := by
   rw [Array.getD_eq_getD_getElem?, ht a _ hr]; rfl
  have h0 : (asAddr (tmps.getD a undef)).run cx.P w = .ok (paddr φ r o) w := by rw [hp]; rfl
  have hcells : ∀ {n : Nat} {cs : List C}, readC M r o n = some cs -> cellsAt w (pl φ r o) (denL cx ρ φ cs) /\ cs.length = n := fun {n cs} hcs => by
   obtain ⟨hl, reg, hreg, hle, rfl⟩ := readC_spec hcs
   refine ⟨fun j v hv => ?_, hl⟩
   cases hc : ((reg.cells.drop o).take n)[j]? with
   | none => rw [List.getElem?_map, hc] at hv; cases hv
   | some c =>
     rw [List.getElem?_map, hc] at hv
     simp only [Option.map_some, Option.some.injEq] at hv; subst hv
     rw [pl_at]
     have hj : j < n := by have := (List.getElem?_eq_some_iff.1 hc).1; simp at this; omega
     rw [List.getElem?_take_of_lt hj, List.getElem?_drop] at hc
     exact hM r reg _ c hreg hc
  rw [run_bind_ok h0]
  unfold loadVar
  split at h
  ·rename_i hagg
   split at h
   ·rename_i cs hcs
    simp only [Option.some.injEq] at h; subst h
    obtain ⟨k1, k2⟩ := hcells hcs
    rw [run_bind_ok (run_isAgg (cx.unOK hd) w), hagg]
    simp only [if_true]
    rw [run_bind_ok (run_sizeOf (cx.tiOK hi) w)]
    have := run_loadCells (P := cx.P) k1
    simp only [List.length_map, k2] at this
    exact Eq.trans (run_bind_ok this) rfl
   ·cases h
  ·rename_i hagg
   split at h
   ·rename_i c hcs
    simp only [Option.some.injEq] at h; subst h
    obtain ⟨k1, k2⟩ := hcells hcs
    rw [run_bind_ok (run_isAgg (cx.unOK hd) w), hagg]
    have := k1 0 (c.den cx.K ρ φ) rfl
    show (load (paddr φ r o)).run cx.P w = _
    have e : paddr φ r o = at_ (pl φ r o) 0 := rfl
    rw [e]
    simp [load, Sem.run, this, comp]
   ·cases h
 ·cases h
theorem resCell_men {M : List Reg} {t : Tr V} {p : Nat -> Prop} (hM : ∀ (r : Nat) (reg : Reg) (j : Nat) (c : C), M[r]? = some reg -> reg.cells[j]? = some c -> ∀ m ∈ c.men.toList, p m) {a : Tmp} {ty : TypeId} {x : Bool × List C} (h : resCell cx M t a ty = some x) : ∀ m ∈ x.2.filterMap C.men, p m := by
 have key : ∀ {r o n : Nat} {cs : List C}, readC M r o n = some cs -> ∀ m ∈ cs.filterMap C.men, p m := fun {r o n cs} hcs m hm => by
  obtain ⟨hl, reg, hreg, hle, rfl⟩ := readC_spec hcs
  obtain ⟨c, hc, hcm⟩ := List.mem_filterMap.1 hm
  obtain ⟨j, hj⟩ := List.getElem?_of_mem hc
  have hjn : j < n := by have := (List.getElem?_eq_some_iff.1 hj).1; simp at this; omega
  rw [List.getElem?_take_of_lt hjn, List.getElem?_drop] at hj
  exact hM r reg _ c hreg hj m (by simp [hcm])
 unfold resCell at h
 split at h
 ·split at h
  ·split at h
   ·rename_i cs hcs; simp only [Option.some.injEq] at h; subst h; exact key hcs
   ·cases h
  ·split at h
   ·rename_i c hcs; simp only [Option.some.injEq] at h; subst h; exact key hcs
   ·cases h
 ·cases h
theorem resL_run {M : List Reg} {t : Tr V} {tmps : Array Value} {φ : Nat -> Pl} {w : World} (ht : ∀ r v, t.get r = some v -> tmps[r]? = some (v.den cx.K ρ φ)) (hM : ∀ (r : Nat) (reg : Reg) (j : Nat) (c : C), M[r]? = some reg -> reg.cells[j]? = some c -> w.cell? (at_ (φ r) j) = some (c.den cx.K ρ φ)) : ∀ (l : List ResultVar) (xs : List (Bool × List C)), resL cx M t l = some xs ->
  (l.mapM (m := Sem) fun | .tmp t => pure (tmps.getD t undef) | .cell a t => do loadVar t (<- asAddr (tmps.getD a undef))).run cx.P w = .ok (xs.map (comp cx.K ρ φ)) w
 | [], xs, h => by simp [resL] at h; subst h; rfl
 | .tmp r :: l, xs, h => by
   simp only [resL] at h
   split at h
   ·rename_i x xs' hx hxs
    simp only [Option.some.injEq] at h; subst h
    cases hv : t.get r with
    | none => simp [hv] at hx
    | some v =>
      simp [hv] at hx
      have hd : tmps.getD r undef = comp cx.K ρ φ x := by
       rw [<- resComp_den hx φ, Array.getD_eq_getD_getElem?, ht r v hv]; rfl
      have ih := resL_run ht hM l xs' hxs
      rw [List.mapM_cons]
      rw [run_bind_ok (run_pure cx.P _ w)]
      rw [run_bind_ok ih]
      rw [run_pure, hd]; rfl
   ·simp at h
 | .cell a ty :: l, xs, h => by
   simp only [resL] at h
   split at h
   ·rename_i x xs' hx hxs
    simp only [Option.some.injEq] at h; subst h
    have ih := resL_run ht hM l xs' hxs
    rw [List.mapM_cons]
    rw [run_bind_ok (resCell_run ht hM hx)]
    rw [run_bind_ok ih]
    rw [run_pure]; rfl
   ·simp at h
theorem resV_run {fn : Func} {M : List Reg} {t : Tr V} {tmps : Array Value} {φ : Nat -> Pl} {w : World} {v : V} (ht : ∀ r v, t.get r = some v -> tmps[r]? = some (v.den cx.K ρ φ)) (hM : ∀ (r : Nat) (reg : Reg) (j : Nat) (c : C), M[r]? = some reg -> reg.cells[j]? = some c -> w.cell? (at_ (φ r) j) = some (c.den cx.K ρ φ)) (h : resV cx M fn t = some v) :
  (results fn tmps).run cx.P w = .ok (v.den cx.K ρ φ) w := by
 unfold resV at h
 split at h
 ·rename_i r hr
  have hr' : fn.results = #[.tmp r] := by rw [<- Array.toList_inj]; exact hr
  rw [results_tmp hr', Array.getD_eq_getD_getElem?, ht r v h]; rfl
 ·rename_i a ty hr
  cases hx : resCell cx M t a ty with
  | none => simp [hx] at h
  | some x =>
    simp [hx] at h
    have hl : resL cx M t fn.results.toList = some [x] := by rw [hr]; simp [resL, hx]
    have hrun := resL_run (cx := cx) (ρ := ρ) ht hM _ _ hl
    have hd : v.den cx.K ρ φ = comp cx.K ρ φ x := by
     unfold compV at h
     split at h
     ·simp only [Option.some.injEq] at h; subst h; rfl
     ·simp only [Option.some.injEq] at h; subst h; rfl
     ·cases h
    unfold results
    rw [Array.mapM_eq_mapM_toList]
    rw [map_eq_pure_bind, bind_assoc]
    refine Eq.trans (run_bind_ok (a := [x].map (comp cx.K ρ φ)) (w' := w) hrun) ?_
    simp only [pure_bind]
    rw [run_pure, hd]; rfl
 ·rename_i h1 h2
  cases hl : resL cx M t fn.results.toList with
  | none => simp [hl] at h
  | some xs =>
    simp [hl] at h; subst h
    have hrun := resL_run (cx := cx) (ρ := ρ) ht hM _ xs hl
    have hlen : xs.length ≠ 1 := by
     have key : ∀ (l : List ResultVar) (xs : List (Bool × List C)), resL cx M t l = some xs -> l.length = xs.length := by
      intro l
      induction l with
      | nil => intro xs h; simp [resL] at h; subst h; rfl
      | cons a l ih =>
        intro xs h
        cases a with
        | tmp r =>
          simp only [resL] at h
          split at h
          ·rename_i x xs' _ hxs
           simp only [Option.some.injEq] at h; subst h
           simp [ih _ hxs]
          ·simp at h
        | cell a ty =>
          simp only [resL] at h
          split at h
          ·rename_i x xs' _ hxs
           simp only [Option.some.injEq] at h; subst h
           simp [ih _ hxs]
          ·simp at h
     have hk := key _ _ hl
     intro h1l
     rw [h1l] at hk
     obtain ⟨a, ha⟩ := List.length_eq_one_iff.1 hk
     cases a with
     | tmp r => exact h1 r ha
     | cell a b => exact h2 _ _ ha
    unfold results
    rw [Array.mapM_eq_mapM_toList]
    rw [map_eq_pure_bind, bind_assoc]
    refine Eq.trans (run_bind_ok (a := xs.map (comp cx.K ρ φ)) (w' := w) hrun) ?_
    simp only [pure_bind]
    rw [run_pure]
    have : ¬ ((xs.map (comp cx.K ρ φ)).toArray.size = 1) := by simpa using hlen
    rw [dif_neg this]; rfl
theorem resL_men {M : List Reg} {t : Tr V} {p : Nat -> Prop} (ht : ∀ r v, t.get r = some v -> ∀ m ∈ v.men, p m) (hM : ∀ (r : Nat) (reg : Reg) (j : Nat) (c : C), M[r]? = some reg -> reg.cells[j]? = some c -> ∀ m ∈ c.men.toList, p m) : ∀ (l : List ResultVar) (xs : List (Bool × List C)), resL cx M t l = some xs -> ∀ x ∈ xs, ∀ m ∈ x.2.filterMap C.men, p m
 | [], xs, h, x, hx => by simp [resL] at h; subst h; cases hx
 | .tmp r :: l, xs, h, x, hx => by
   simp only [resL] at h
   split at h
   ·rename_i y ys hy hys
    simp only [Option.some.injEq] at h; subst h
    rcases List.mem_cons.1 hx with rfl | hx
    ·intro m hm
     cases hv : t.get r with
     | none => simp [hv] at hy
     | some v =>
       simp [hv] at hy
       refine ht r v hv m ?_
       cases v with
       | one c =>
         simp [resComp] at hy; subst hy
         simp only [V.men, Option.mem_toList, Option.mem_def]
         cases hc : c.men with
         | none => simp [hc] at hm
         | some k => simp [hc] at hm; rw [hm]
       | agg cs => simp [resComp] at hy; subst hy; exact hm
       | tup _ => simp [resComp] at hy
    ·exact resL_men ht hM l ys hys x hx
   ·simp at h
 | .cell a ty :: l, xs, h, x, hx => by
   simp only [resL] at h
   split at h
   ·rename_i y ys hy hys
    simp only [Option.some.injEq] at h; subst h
    rcases List.mem_cons.1 hx with rfl | hx
    ·exact resCell_men hM hy
    ·exact resL_men ht hM l ys hys x hx
   ·simp at h
theorem resV_men {fn : Func} {M : List Reg} {t : Tr V} {p : Nat -> Prop} (ht : ∀ r v, t.get r = some v -> ∀ m ∈ v.men, p m) (hM : ∀ (r : Nat) (reg : Reg) (j : Nat) (c : C), M[r]? = some reg -> reg.cells[j]? = some c -> ∀ m ∈ c.men.toList, p m) {v : V} (h : resV cx M fn t = some v) : ∀ m ∈ v.men, p m := by
 unfold resV at h
 split at h
 ·exact ht _ v h
 ·rename_i a ty hr
  cases hx : resCell cx M t a ty with
  | none => simp [hx] at h
  | some x =>
    simp [hx] at h
    have hm := resCell_men hM hx
    unfold compV at h
    split at h
    ·simp only [Option.some.injEq] at h; subst h; exact hm
    ·simp only [Option.some.injEq] at h; subst h
     intro m hmm
     refine hm m ?_
     simp only [V.men, Option.mem_toList] at hmm
     simp [hmm]
    ·cases h
 ·cases hl : resL cx M t fn.results.toList with
  | none => simp [hl] at h
  | some xs =>
    simp [hl] at h; subst h
    intro m hm
    simp only [V.men, List.mem_flatMap] at hm
    obtain ⟨x, hx, hm⟩ := hm
    exact resL_men ht hM _ xs hl x hx m hm
def sg0 (vs : List V) (M : List Reg) : Sg
 | .s t => ((argTr vs 0 .lf).get t).map .v
 | k => mg M k
theorem evF_ok (hg : cx.Good) (hm : cx.P.follows .mixedOrders = true) {fuel : Nat} {f : FuncId} {fn : Func} {c : Code} {vs : List V} {M M' : List Reg} {v : V} (hf : cx.P.funcs[f]? = some fn) (hb : fn.body = some c)
  (h : evF cx fuel fn c vs M = some (v, M')) {D : Nat -> Nat -> Prop} {φ : Nat -> Pl} {w : World} (h0 : RelW cx ρ w.heap.size D w φ (sg0 vs M) w) (hgl : ∀ g r, lookup cx.gl g = some r -> φ r = ⟨g, 0, 0⟩ /\ r < M.length) :
  Calls cx.P f (vs.map (V.den cx.K ρ φ)).toArray w fun e w' => ∃ φ' σ', e = .returned (v.den cx.K ρ φ') /\ RelW cx ρ w.heap.size D w φ' σ' w' /\ (∀ r j, mg M' (.c r j) = σ' (.c r j)) /\ (∀ r, mg M' (.g r) = σ' (.g r)) /\
   (∀ m, m < M.length -> φ' m = φ m) /\ ∀ m ∈ v.men, ∃ y, σ' (.g m) = some y := by
 unfold evF at h
 cases hle : Nat.ble (lenN vs) fn.ntmps with
 | false => rw [hle] at h; cases h
 | true =>
 rw [hle] at h
 simp only [cond_true] at h
 have hlen : vs.length <= fn.ntmps := by have := Nat.le_of_ble_eq_true hle; rwa [lenN_eq] at this
 have main : ∀ (e : Ek) (s : St), evC cx fn.ntmps fuel c ⟨⟨argTr vs 0 .lf, M, 0, .lf⟩, [], []⟩ (leafK cx) = .leaf e s -> (e = .n \/ e = .r) -> (resV cx s.m fn s.t).map (fun v => (v, s.m)) = some (v, M') ->
   Calls cx.P f (vs.map (V.den cx.K ρ φ)).toArray w fun e w' => ∃ φ' σ', e = .returned (v.den cx.K ρ φ') /\ RelW cx ρ w.heap.size D w φ' σ' w' /\ (∀ r j, mg M' (.c r j) = σ' (.c r j)) /\ (∀ r, mg M' (.g r) = σ' (.g r)) /\
    (∀ m, m < M.length -> φ' m = φ m) /\ ∀ m ∈ v.men, ∃ y, σ' (.g m) = some y := by
  intro e s hev hek hres
  cases hrv : resV cx s.m fn s.t with
  | none => simp [hrv] at hres
  | some v' =>
  simp [hrv] at hres
  obtain ⟨rfl, rfl⟩ := hres
  refine calls_of_wp_defers hf hb ?_
  have hsize : (vs.map (V.den cx.K ρ φ)).toArray.size = vs.length := by simp
  refine evC_ok (ρ := ρ) (n0 := w.heap.size) (D := D) (w0 := w) (Ψ := fun e' s' => e' = e /\ s' = s) (φ0 := φ) (nr := M.length) hg hm c _ (leafK cx) φ (sg0 vs M) _ w _ ?_ (by rw [hev]; exact ⟨rfl, rfl⟩) ?_
  ·refine ⟨{ toRelW := h0, tmps := fun t x ht => ?_, size := ?_, defers := rfl, glob := fun g r hl => ?_ }, fun d hd => (by cases hd), ⟨fun t x ht => ?_, fun r j => rfl, fun r => rfl⟩, fun i k hk => ?_, fun i u hu => ?_, fun m hm' => ⟨rfl, ?_⟩⟩
   ·simp only [sg0] at ht
    cases hx : (argTr vs 0 .lf).get t with
    | none => simp [hx] at ht
    | some x' =>
      simp [hx] at ht; subst ht
      rcases argTr_get _ _ _ _ _ hx with h1 | ⟨_, h1⟩
      ·rw [Tr.get_eq] at h1; cases h1
      ·rw [Nat.sub_zero] at h1
       have hlt := (List.getElem?_eq_some_iff.1 h1).1
       rw [Array.getElem?_append_left (by rw [hsize]; exact hlt)]
       simp [h1]
   ·simp only [Array.size_append, hsize, Array.size_replicate]; omega
   ·obtain ⟨h1, h2⟩ := hgl g r hl
    exact ⟨h1, ⟨_, by show mg M (.g r) = some _; exact mg_g (List.getElem?_eq_getElem h2)⟩⟩
   ·show ((argTr vs 0 .lf).get t).map Val.v = _
    rw [show (argTr vs 0 .lf).get t = some x from ht]; rfl
   ·rw [Tr.get_eq] at hk; cases hk
   ·cases hu
   ·exact ⟨_, by show mg M (.g m) = some _; exact mg_g (List.getElem?_eq_getElem hm')⟩
  ·intro e' s' φ' σ' a' w' hI' hk'
   unfold leafK at hk'
   cases hdf : dfOK cx s'.s.m s'.df with
   | false => rw [hdf] at hk'; exact hk'.elim
   | true =>
   rw [hdf] at hk'
   obtain ⟨rfl, hs⟩ := hk'
   have hMk : ∀ r reg j c, s.m[r]? = some reg -> reg.cells[j]? = some c -> σ' (.c r j) = some (.c c) := fun r reg j c h1 h2 => by
    rw [<- hI'.sub.c, hs]; simp [mg, h1, h2]
   have hrun := resV_run (cx := cx) (ρ := ρ) (fn := fn) (tmps := a'.tmps) (φ := φ') (w := w') (fun r v hr => hI'.rel.tmps r v (hI'.sub.t r v (by rw [hs]; exact hr))) (fun r reg j c h1 h2 => hI'.rel.cell r j c (hMk r reg j c h1 h2)) hrv
   have hmen : ∀ m ∈ v'.men, ∃ y, σ' (.g m) = some y := resV_men (fun r x hr m hmm => hI'.rel.men _ _ (hI'.sub.t r x (by rw [hs]; exact hr)) m hmm) (fun r reg j c h1 h2 m hm => hI'.rel.men _ _ (hMk r reg j c h1 h2) m hm) hrv
   have fin : ∃ φ'' σ'', (Ending.returned (v'.den cx.K ρ φ')) = .returned (v'.den cx.K ρ φ'') /\ RelW cx ρ w.heap.size D w φ'' σ'' w' /\ (∀ r j, mg s.m (.c r j) = σ'' (.c r j)) /\ (∀ r, mg s.m (.g r) = σ'' (.g r)) /\
     (∀ m, m < M.length -> φ'' m = φ m) /\ ∀ m ∈ v'.men, ∃ y, σ'' (.g m) = some y :=
    ⟨φ', σ', rfl, hI'.rel.toRelW, fun r j => by rw [<- hs]; exact hI'.sub.c r j, fun r => by rw [<- hs]; exact hI'.sub.g r, fun m hm' => (hI'.old m hm').1, hmen⟩
   have hcells : ∀ (l : List (Nat × Nat × List C)), (∀ x ∈ l, ∃ reg, s'.s.m[x.1]? = some reg /\ x.2.1 + x.2.2.length <= reg.cells.length /\ ∀ j c, x.2.2[j]? = some c -> reg.cells[x.2.1 + j]? = some c) -> ∀ x ∈ l, cellsAt w' (pl φ' x.1 x.2.1) (denL cx ρ φ' x.2.2) := by
    intro l hl x hx j u hu
    obtain ⟨reg, h1, h2, h3⟩ := hl x hx
    cases hc : x.2.2[j]? with
    | none => simp [hc] at hu
    | some c0 =>
      simp [hc] at hu; subst hu
      rw [pl_at]
      refine hI'.rel.cell _ _ _ ?_
      rw [<- hI'.sub.c]
      simp [mg, h1, h3 j c0 hc]
   have hleave : ∀ (l : List (FuncId × List V)), dfOK cx s'.s.m l = true -> Leaves cx.P fn a'.tmps (fun e w'' => ∃ φ'' σ'', e = .returned (v'.den cx.K ρ φ'') /\ RelW cx ρ w.heap.size D w φ'' σ'' w'' /\ (∀ r j, mg s.m (.c r j) = σ'' (.c r j)) /\ (∀ r, mg s.m (.g r) = σ'' (.g r)) /\
     (∀ m, m < M.length -> φ'' m = φ m) /\ ∀ m ∈ v'.men, ∃ y, σ'' (.g m) = some y) (dfl cx ρ φ' l) .returning w' := by
    intro l
    induction l with
    | nil => intro _; exact ⟨_, hrun, fin⟩
    | cons d l ih =>
      intro hl
      simp only [dfOK, Bool.and_eq_true] at hl
      obtain ⟨rds, hrds⟩ := Option.isSome_iff_exists.1 hl.1
      obtain ⟨q1, q2⟩ := hg.dq _ _ _ _ hrds
      obtain ⟨q3, q4⟩ := q2 ρ φ' w' (hcells rds q1)
      refine ⟨(by intro e; cases e), .func d.1, #[], d.1, (d.2.map (V.den cx.K ρ φ')).toArray, rfl, ?_, ?_⟩
      ·show (invoke (.fn (.func d.1) #[]) _).run cx.P w' = _
       simp only [invoke, Array.append_empty]
       exact q3
      ·intro c0 cs hc0
       obtain ⟨e, u', w2, fr, ⟨⟨v0, rfl⟩, rfl, rfl⟩, k1, k2, k3⟩ := q4 .returning c0 cs hc0
       exact ⟨.returned v0, .returning, w2, fr, ih hl.2, k1, k2, k3⟩
   have hd : a'.defers = dfl cx ρ φ' s'.df := hI'.rel.defers
   rcases hek with rfl | rfl
   ·show Leaves cx.P fn a'.tmps _ a'.defers .returning w'
    rw [hd]; exact hleave _ hdf
   ·show Leaves cx.P fn a'.tmps _ a'.defers .returning w'
    rw [hd]; exact hleave _ hdf
 split at h
 ·rename_i s hev; exact main .n s hev (.inl rfl) h
 ·rename_i s hev; exact main .r s hev (.inr rfl) h
 ·cases h
end
end
end Go.Eng
