/-
 Further operations of the reckoner, proved sound.
-/
import Derived.Laws.Append
import Derived.Test.YtajgaijilkfjnaaGreatDoorX2
set_option linter.unusedVariables false
set_option linter.unusedSimpArgs false
namespace Go.Eng
open Go Go.RowKit
noncomputable section
def appNew (M : List Reg) (rd : List (Nat × Nat × List C)) (cs zs : List C) (n c : Nat) (known : Bool) : R :=
 { fn := none, kd := [], rds := rd, wcs := [], al := [(M.length, cs ++ zs)], res := .one (bif known then .slc M.length 0 n c else .sln M.length 0 n c) }
def appAlts (M : List Reg) (rd : List (Nat × Nat × List C)) (cs : List C) (z : C) (n : Nat) : Nat -> Nat -> List R
 | 0, c => [appNew M rd cs (repC z (c - n)) n c false]
 | k + 1, c => appNew M rd cs (repC z (c - n)) n c true :: appAlts M rd cs z n k (c + 1)
def growK : Nat := 4
def appPut (r o l c n : Nat) (sln : Bool) (rd : List (Nat × Nat × List C)) (ds : List C) : R :=
 { fn := none, kd := [], rds := rd, wcs := [(r, o + l, ds)], al := [], res := .one (bif sln then .sln r o n c else .slc r o n c) }
def altApp (cx : Cx) (evo : Operand -> Option V) (M : List Reg) (x y : Operand) (t : TypeId) : Option (List R) :=
 match cx.un t, evo x, evo y with
 | some (.slice e), some (.one c), some (.one (.slc r' o' l' _)) => match zero1 cx e, readC M r' o' l' with
   | some (z, i), some ds => bif Nat.ble i.bytes 8 && ds.all (C.sto cx) && menLt M.length ds && Nat.blt 0 l' then
     match c with
     | .val (.slice none 0 0) => bif Nat.ble l' growK then some (appAlts M [(r', o', ds)] ds z l' (growK - l') l') else none
     | .slc r o l cp => bif Nat.ble (l + l') cp then
       (bif canWr M r (o + l) ds.length then some [appPut r o l cp (l + l') false [(r', o', ds)] ds] else none)
       else match readC M r o l with
        | some cs => bif Nat.ble (l + l') growK && menLt M.length cs then some (appAlts M [(r, o, cs), (r', o', ds)] (cs ++ ds) z (l + l') (growK - (l + l')) (l + l')) else none
        | none => none
     | .sln r o l cp => bif Nat.ble (l + l') cp && canWr M r (o + l) ds.length then some [appPut r o l cp (l + l') true [(r', o', ds)] ds] else none
     | _ => none
     else none
   | _, _ => none
 | _, _, _ => none
def altF (cx : Cx) (evo : Operand -> Option V) (M : List Reg) (o : Oper) : Option (List R) :=
 match o.op with
 | .call { callee := .builtin .append, args, argTypes } => match args.toList, argTypes.toList with
   | [x, y], [t, t'] => bif Nat.beq t t' then altApp cx evo M x y t else none
   | _, _ => none
 | _ => none
section
variable {cx : Cx}
theorem appAlts_mem {M : List Reg} {rd : List (Nat × Nat × List C)} {cs : List C} {z : C} {n : Nat} : ∀ {k c : Nat} {r : R}, r ∈ appAlts M rd cs z n k c -> ∃ c' b, c <= c' /\ c' <= c + k /\ r = appNew M rd cs (repC z (c' - n)) n c' b
 | 0, c, r, h => by
   simp only [appAlts, List.mem_singleton] at h
   exact ⟨c, false, Nat.le_refl _, Nat.le_refl _, h⟩
 | k + 1, c, r, h => by
   simp only [appAlts] at h
   rcases List.mem_cons.1 h with rfl | h
   ·exact ⟨c, true, Nat.le_refl _, by omega, rfl⟩
   ·obtain ⟨c', b, h1, h2, h3⟩ := appAlts_mem h
    exact ⟨c', b, by omega, by omega, h3⟩
theorem appAlts_cover {M : List Reg} {rd : List (Nat × Nat × List C)} {cs : List C} {z : C} {n : Nat} : ∀ (k c cap : Nat), c <= cap -> ∃ r ∈ appAlts M rd cs z n k c, (r = appNew M rd cs (repC z (cap - n)) n cap true) \/ (c + k <= cap /\ r = appNew M rd cs (repC z (c + k - n)) n (c + k) false)
 | 0, c, cap, h => ⟨_, List.mem_singleton.2 rfl, .inr ⟨h, rfl⟩⟩
 | k + 1, c, cap, h => by
   rcases Nat.eq_or_lt_of_le h with rfl | h
   ·exact ⟨_, List.mem_cons_self .., .inl rfl⟩
   ·obtain ⟨r, hr, h1⟩ := appAlts_cover (M := M) (rd := rd) (cs := cs) (z := z) (n := n) k (c + 1) cap h
    refine ⟨r, List.mem_cons_of_mem _ hr, ?_⟩
    rw [show c + (k + 1) = c + 1 + k by omega]; exact h1
theorem zeroCells_rep (v : Value) (n : Nat) : Builtin.zeroCells #[v] n = (List.replicate n v).toArray := by
 unfold Builtin.zeroCells
 apply Array.ext
 ·simp
 ·intro i h1 h2; simp [Nat.mod_one]
theorem post_row {ρ : Nat -> Int} {w : World} {φ : Nat -> Pl} {cs : List C} {n : Nat} {t : TypeId} {e : Nat} {ex : List Value} {r : R} (hfn : r.al = [(n, cs)]) (hw : r.wcs = []) (hmen : ∀ m ∈ menL cs, m < n) :
  PostE cx ρ φ w r (updP φ n ⟨w.heap.size, 0, e⟩) (w.drew.alloc (.cells (denL cx ρ φ cs ++ ex).toArray t)) := by
 have hd : denL cx ρ (updP φ n ⟨w.heap.size, 0, e⟩) cs = denL cx ρ φ cs := denL_men fun m hm => by
  have := hmen m hm
  unfold updP; rw [if_neg (by omega)]
 have hn : updP φ n ⟨w.heap.size, 0, e⟩ n = ⟨w.heap.size, 0, e⟩ := by simp [updP]
 have hsz : w.drew.heap.size = w.heap.size := rfl
 have hcell : ∀ j v, (denL cx ρ φ cs)[j]? = some v -> (w.drew.alloc (.cells (denL cx ρ φ cs ++ ex).toArray t)).cell? ⟨w.heap.size, 0 + j, none⟩ = some v := fun j v hv => by
  have := World.cell?_alloc_new w.drew (denL cx ρ φ cs ++ ex).toArray t (0 + j)
  rw [hsz] at this
  rw [this, Nat.zero_add]
  have hj := (List.getElem?_eq_some_iff.1 hv).1
  simp only [List.getElem?_toArray]
  rw [List.getElem?_append_left hj]; exact hv
 refine ⟨fun m hm => ?_, fun x hx => ?_, fun x hx y hy hne => ?_, ?_⟩
 ·have := hm (n, cs) (by rw [hfn]; exact List.mem_singleton.2 rfl)
  unfold updP; rw [if_neg (fun e => this e.symm)]
 ·rw [hfn] at hx
  simp only [List.mem_singleton] at hx
  subst hx
  simp only [hn, hd]
  refine ⟨Nat.le_refl _, by show _ < (w.heap.push _).size; simp, fun j v hv => hcell j v hv, fun j hj => ⟨?_, ?_⟩⟩
  ·exact ⟨(denL cx ρ φ cs)[j]'(by simpa using hj), hcell j _ (by simp [hj])⟩
  ·intro o
   show (match (w.heap.push (.cells (denL cx ρ φ cs ++ ex).toArray t))[w.heap.size]? with | some (.cells _ _ (lo, hi)) => decide (lo <= o) && decide (o < hi) | _ => false) = false
   simp
 ·rw [hfn] at hx hy
  simp only [List.mem_singleton] at hx hy
  subst hx; subst hy; exact absurd rfl hne
 ·rw [hw]
  show Below w.heap.size w (w.drew.alloc _)
  have h1 : Below w.heap.size w w.drew := ⟨rfl, rfl, rfl, Nat.le_refl _, fun _ _ => rfl⟩
  exact h1.alloc (Nat.le_refl _) _
theorem menLt_append {n : Nat} : ∀ {l m : List C}, menLt n l = true -> menLt n m = true -> menLt n (l ++ m) = true
 | [], _, _, h => h
 | c :: l, m, h1, h2 => by
   simp only [menLt, Bool.and_eq_true] at h1
   simp only [List.cons_append, menLt, Bool.and_eq_true]
   exact ⟨h1.1, menLt_append h1.2 h2⟩
theorem menLt_rep' {z : C} (h : z.men = none) (n : Nat) : ∀ m, menLt n (repC z m) = true
 | 0 => rfl
 | m + 1 => by simp only [repC, menLt, h, Bool.true_and]; exact menLt_rep' h n m
theorem alt_grow {evo : Operand -> Option V} {M : List Reg} {args : Array Operand} {at_ : Array TypeId} {dst type pos after guard} {rd : List (Nat × Nat × List C)} {cs : List C} {z : C} {zv : Value} {n k old : Nat} {e : TypeId}
  (hrd : ∀ x ∈ rd, ∃ reg, M[x.1]? = some reg /\ x.2.1 + x.2.2.length <= reg.cells.length /\ ∀ j c, x.2.2[j]? = some c -> reg.cells[x.2.1 + j]? = some c)
  (hzm : z.men = none) (hzc : ∀ ρ φ, zv.cells = #[z.den cx.K ρ φ]) (hcs : menLt M.length cs = true) (hn : cs.length = n)
  (hrun : ∀ ρ φ (a : Act) (w : World), (∀ x v, evo x = some v -> a.eval x = v.den cx.K ρ φ) -> (∀ x ∈ rd, cellsAt w (pl φ x.1 x.2.1) (denL cx ρ φ x.2.2)) ->
   (Builtin.append_ at_ type (args.map a.eval)).run cx.P w = .ok (.slice (some ⟨w.heap.size, 0, none⟩) n (grownCap w n old e)) (w.drew.alloc (.cells ((denL cx ρ φ cs).toArray ++ Builtin.zeroCells zv.cells (grownCap w n old e - n)) e))) :
  (∀ r ∈ appAlts M rd cs z n k n, r.fn = none /\ r.kd = [] /\ MemOK M r) /\ ∀ ρ, AltOK cx ρ evo ⟨dst, .call { callee := .builtin .append, args, argTypes := at_ }, type, pos, after, guard⟩ (appAlts M rd cs z n k n) := by
 refine ⟨fun r hr => ?_, fun ρ => ?_⟩
 ·obtain ⟨c', b, _, _, rfl⟩ := appAlts_mem hr
  exact ⟨rfl, rfl, hrd, fun x hx => (by cases hx), one_al, fun x hx => (by cases hx)⟩
 ·intro φ a w next Q hev hpre hnext
  have hcap := grownCap_ge w n old e
  have hany : ∃ r, r ∈ appAlts M rd cs z n k n := ⟨_, (appAlts_cover k n n (Nat.le_refl _)).choose_spec.1⟩
  obtain ⟨r0, hr0⟩ := hany
  have hrds : ∀ x ∈ rd, cellsAt w (pl φ x.1 x.2.1) (denL cx ρ φ x.2.2) := by
   obtain ⟨c', b, _, _, rfl⟩ := appAlts_mem hr0
   exact (hpre _ hr0).1
  have hr := hrun ρ φ a w hev hrds
  unfold Oper.wp
  show Oper.upon _ _ _ _ _ ((do pure (Next.value (<- Builtin.append_ at_ type (args.map a.eval))) : Sem Next).run cx.P w)
  rw [run_bind_ok hr]
  rw [hzc ρ φ, zeroCells_rep]
  obtain ⟨r, hrm, h | ⟨hle, h⟩⟩ := appAlts_cover (M := M) (rd := rd) (cs := cs) (z := z) (n := n) k n (grownCap w n old e) hcap
  ·subst h
   have hp := post_row (cx := cx) (ρ := ρ) (w := w) (φ := φ) (cs := cs ++ repC z (grownCap w n old e - n)) (n := M.length) (t := e) (e := 0) (ex := []) (r := appNew M rd cs (repC z (grownCap w n old e - n)) n (grownCap w n old e) true) rfl rfl (menLt_spec (menLt_append hcs (menLt_rep' hzm _ _)))
   have := hnext _ hrm _ _ hp
   have e1 : (denL cx ρ φ (cs ++ repC z (grownCap w n old e - n)) ++ []).toArray = (denL cx ρ φ cs).toArray ++ (List.replicate (grownCap w n old e - n) (z.den cx.K ρ φ)).toArray := by
    rw [repC_eq]; simp [denL]
   rw [e1] at this
   have e2 : (appNew M rd cs (repC z (grownCap w n old e - n)) n (grownCap w n old e) true).res.den cx.K ρ (updP φ M.length ⟨w.heap.size, 0, 0⟩) = .slice (some ⟨w.heap.size, 0, none⟩) n (grownCap w n old e) := by
    simp [appNew, V.den, C.den, paddr, updP]
   rw [e2] at this
   exact this
  ·subst h
   have hp := post_row (cx := cx) (ρ := ρ) (w := w) (φ := φ) (cs := cs ++ repC z (n + k - n)) (n := M.length) (t := e) (e := grownCap w n old e - (n + k)) (ex := List.replicate (grownCap w n old e - (n + k)) (z.den cx.K ρ φ)) (r := appNew M rd cs (repC z (n + k - n)) n (n + k) false) rfl rfl (menLt_spec (menLt_append hcs (menLt_rep' hzm _ _)))
   have := hnext _ hrm _ _ hp
   have e1 : (denL cx ρ φ (cs ++ repC z (n + k - n)) ++ List.replicate (grownCap w n old e - (n + k)) (z.den cx.K ρ φ)).toArray = (denL cx ρ φ cs).toArray ++ (List.replicate (grownCap w n old e - n) (z.den cx.K ρ φ)).toArray := by
    rw [repC_eq]
    have : grownCap w n old e - n = (n + k - n) + (grownCap w n old e - (n + k)) := by omega
    rw [this, <- List.replicate_append_replicate]
    simp [denL]
   rw [e1] at this
   have e2 : (appNew M rd cs (repC z (n + k - n)) n (n + k) false).res.den cx.K ρ (updP φ M.length ⟨w.heap.size, 0, grownCap w n old e - (n + k)⟩) = .slice (some ⟨w.heap.size, 0, none⟩) n (grownCap w n old e) := by
    simp [appNew, V.den, C.den, paddr, updP]; omega
   rw [e2] at this
   exact this
theorem cells_add {w : World} {p : Pl} {l : List Value} (h : cellsAt w p l) : ∀ j v, l[j]? = some v -> w.cell? ((at_ p 0).add j) = some v := fun j v hv => by rw [addr_add, Nat.zero_add]; exact h j v hv
theorem run_append_in {P : Program} {t ty e : TypeId} {i : TypeInfo} {w : World} {p q : Pl} {l c l' c' : Nat} {news : List Value} (ht : P.underlying t = some (.slice e)) (hi : P.info? e = some i) (hs : i.size = 1) (hl : news.length = l') (hc : cellsAt w q news)
  (h1 : ∀ v ∈ news, oneC v = true) (hw : wrAt w ⟨p.b, p.o + l, p.c⟩ news.length) (hfit : l + l' <= c) :
  (Builtin.append_ #[t, t] ty #[.slice (some (at_ p 0)) l c, .slice (some (at_ q 0)) l' c']).run P w = .ok (.slice (some (at_ p 0)) (l + l') c) (putCells w ⟨p.b, p.o + l, p.c⟩ news) := by
 have hf := run_firstCells_some (P := P) w 1 l' (at_ q 0) l' c' news (by omega) (cells_add hc)
 have hst : (storeCells ((at_ p 0).add (l * 1)) news).run P w = .ok () (putCells w ⟨p.b, p.o + l, p.c⟩ news) := by
  have := run_storeCells (P := P) (p := ⟨p.b, p.o + l, p.c⟩) news 0 w h1 hw
  rw [addr_add, Nat.mul_one, Nat.zero_add]
  exact this
 simp [Builtin.append_, Go.run_underlying ht, sizeOf, typeInfo, hi, hs, Builtin.lenOf, hfit, hf, hst] at hst ⊢
 simp [hst]
theorem alt_put {evo : Operand -> Option V} {M : List Reg} {args : Array Operand} {at_ : Array TypeId} {dst type pos after guard} {r0 o l c n : Nat} {sln : Bool} {rd : List (Nat × Nat × List C)} {ds : List C}
  (hrd : ∀ x ∈ rd, ∃ reg, M[x.1]? = some reg /\ x.2.1 + x.2.2.length <= reg.cells.length /\ ∀ j c, x.2.2[j]? = some c -> reg.cells[x.2.1 + j]? = some c) (hcw : canWr M r0 (o + l) ds.length = true)
  (hrun : ∀ ρ φ (a : Act) (w : World), (∀ x v, evo x = some v -> a.eval x = v.den cx.K ρ φ) -> (∀ x ∈ rd, cellsAt w (pl φ x.1 x.2.1) (denL cx ρ φ x.2.2)) -> wrAt w (pl φ r0 (o + l)) ds.length ->
   (Builtin.append_ at_ type (args.map a.eval)).run cx.P w = .ok ((V.one (bif sln then .sln r0 o n c else .slc r0 o n c)).den cx.K ρ φ) (putCells w (pl φ r0 (o + l)) (denL cx ρ φ ds))) :
  (∀ r ∈ [appPut r0 o l c n sln rd ds], r.fn = none /\ r.kd = [] /\ MemOK M r) /\ ∀ ρ, AltOK cx ρ evo ⟨dst, .call { callee := .builtin .append, args, argTypes := at_ }, type, pos, after, guard⟩ [appPut r0 o l c n sln rd ds] := by
 refine ⟨fun r hr => ?_, fun ρ => ?_⟩
 ·simp only [List.mem_singleton] at hr; subst hr
  exact ⟨rfl, rfl, hrd, fun x hx => by simp only [appPut, List.mem_singleton] at hx; subst hx; exact canWr_spec hcw, fun i x hn => (by simp [appPut] at hn), fun x hx => (by cases hx)⟩
 ·intro φ a w next Q hev hpre hnext
  have hp := hpre _ (List.mem_singleton.2 rfl)
  have hr := hrun ρ φ a w hev hp.1 (by have := hp.2.1 (r0, o + l, ds) (by simp [appPut]); exact this)
  unfold Oper.wp
  show Oper.upon _ _ _ _ _ ((do pure (Next.value (<- Builtin.append_ at_ type (args.map a.eval))) : Sem Next).run cx.P w)
  rw [run_bind_ok hr]
  exact hnext _ (List.mem_singleton.2 rfl) φ _ (PostE.plain cx ρ rfl (Below.refl _ _))
theorem altF_ok (hk : ∀ k, (cx.K k).Good) (evo : Operand -> Option V) (M : List Reg) (o : Oper) (rs : List R) (h : altF cx evo M o = some rs) : (∀ r ∈ rs, r.fn = none /\ r.kd = [] /\ MemOK M r) /\ ∀ ρ, AltOK cx ρ evo o rs := by
 obtain ⟨dst, op, type, pos, after, guard⟩ := o
 unfold altF at h
 split at h
 ·rename_i args at_ hop
  simp only at hop
  subst hop
  split at h
  ·rename_i x y t t' hargs hat
   cases htt : Nat.beq t t' with
   | false => rw [htt] at h; cases h
   | true =>
   rw [htt] at h
   simp only [cond_true] at h
   have := Nat.eq_of_beq_eq_true htt
   subst this
   have hargs' : args = #[x, y] := by apply Array.toList_inj.1; simpa using hargs
   have hat' : at_ = #[t, t] := by apply Array.toList_inj.1; simpa using hat
   subst hargs'; subst hat'
   have hmap : ∀ (a : Act), (#[x, y].map a.eval) = #[a.eval x, a.eval y] := fun a => by simp
   unfold altApp at h
   split at h
   ·rename_i e c r' o' l' cp' hu hx hy
    split at h
    ·rename_i z i ds hz hds
     cases hb : (Nat.ble i.bytes 8 && ds.all (C.sto cx) && menLt M.length ds && Nat.blt 0 l') with
     | false => rw [hb] at h; cases h
     | true =>
     rw [hb] at h
     simp only [cond_true] at h
     simp only [Bool.and_eq_true] at hb
     obtain ⟨⟨⟨hby, hall⟩, hdm⟩, hpos⟩ := hb
     have hby := Nat.le_of_ble_eq_true hby
     have hpos := Nat.blt_eq.mp hpos
     obtain ⟨hi, hsz, hsto, hzm, zv, hzv, hzc⟩ := zero1_spec hz
     obtain ⟨hdl, hdreg⟩ := readC_get' hds
     have ey : ∀ ρ φ (a : Act), (∀ x v, evo x = some v -> a.eval x = v.den cx.K ρ φ) -> a.eval y = .slice (some (at_ (pl φ r' o') 0)) l' cp' := fun ρ φ a hev => hev y _ hy
     split at h
     ·cases hle : Nat.ble l' growK with
      | false => rw [hle] at h; cases h
      | true =>
      rw [hle] at h
      simp only [cond_true, Option.some.injEq] at h; subst h
      have hle := Nat.le_of_ble_eq_true hle
      refine alt_grow (e := e) (zv := zv) (old := 0) (fun x hx => by simp only [List.mem_singleton] at hx; subst hx; exact hdreg) hzm hzc hdm hdl (fun ρ φ a w hev hrds => ?_)
      have hc := hrds (r', o', ds) (by simp)
      have hxv : a.eval x = .slice none 0 0 := hev x _ hx
      rw [hmap, hxv, ey ρ φ a hev]
      exact run_append_nil (P := cx.P) w t type e i zv (cx.unOK hu) (cx.tiOK hi) hzv _ l' cp' (denL cx ρ φ ds) (by rw [hsz]; simp [hdl]) (cells_add hc) hpos (by unfold growK at hle; omega)
       (by have : l' * i.bytes <= 4 * 8 := Nat.mul_le_mul hle hby
           omega)
     ·rename_i r o l cp
      cases hfit : Nat.ble (l + l') cp with
      | true =>
        rw [hfit] at h
        simp only [cond_true] at h
        cases hcw : canWr M r (o + l) ds.length with
        | false => rw [hcw] at h; cases h
        | true =>
        rw [hcw] at h
        simp only [cond_true, Option.some.injEq] at h; subst h
        refine alt_put (fun x hx => by simp only [List.mem_singleton] at hx; subst hx; exact hdreg) hcw (fun ρ φ a w hev hrds hw => ?_)
        have hc := hrds (r', o', ds) (by simp)
        have hxv : a.eval x = .slice (some (at_ (pl φ r o) 0)) l cp := hev x _ hx
        rw [hmap, hxv, ey ρ φ a hev]
        have e0 : pl φ r (o + l) = ⟨(pl φ r o).b, (pl φ r o).o + l, (pl φ r o).c⟩ := by simp [pl, Nat.add_assoc]
        rw [e0] at hw ⊢
        exact run_append_in (P := cx.P) (p := pl φ r o) (q := pl φ r' o') (news := denL cx ρ φ ds) (cx.unOK hu) (cx.tiOK hi) hsz (by simp [hdl]) hc (fun v hv => by
         obtain ⟨c0, hc0, rfl⟩ := List.mem_map.1 hv
         exact C.one_den hk (List.all_eq_true.1 hall c0 hc0) φ) (by simpa using hw) (Nat.le_of_ble_eq_true hfit)
      | false =>
        rw [hfit] at h
        simp only [cond_false] at h
        have hnf : cp < l + l' := by
         rcases Nat.lt_or_ge cp (l + l') with h1 | h1
         ·exact h1
         ·rw [Nat.ble_eq_true_of_le h1] at hfit; cases hfit
        split at h
        ·rename_i cs hcs
         cases hb2 : (Nat.ble (l + l') growK && menLt M.length cs) with
         | false => rw [hb2] at h; cases h
         | true =>
         rw [hb2] at h
         simp only [cond_true, Option.some.injEq] at h; subst h
         simp only [Bool.and_eq_true] at hb2
         have hle := Nat.le_of_ble_eq_true hb2.1
         obtain ⟨hcl, hcreg⟩ := readC_get' hcs
         refine alt_grow (e := e) (zv := zv) (old := cp) (fun x hx => ?_) hzm hzc (menLt_append hb2.2 hdm) (by simp [hcl, hdl]) (fun ρ φ a w hev hrds => ?_)
         ·simp only [List.mem_cons, List.not_mem_nil, or_false] at hx
          rcases hx with rfl | rfl
          ·exact hcreg
          ·exact hdreg
         ·have hc := hrds (r', o', ds) (by simp)
          have hc0 := hrds (r, o, cs) (by simp)
          have hxv : a.eval x = .slice (some (at_ (pl φ r o) 0)) l cp := hev x _ hx
          rw [hmap, hxv, ey ρ φ a hev]
          have hg := run_append_grow (P := cx.P) w t type e i zv (cx.unOK hu) (cx.tiOK hi) hzv _ l cp (denL cx ρ φ cs) (by rw [hsz]; simp [hcl]) (cells_add hc0) (at_ (pl φ r' o') 0) l' cp' (denL cx ρ φ ds) (by rw [hsz]; simp [hdl]) (cells_add hc) hnf
           (by unfold growK at hle; omega) (growslice_fits hnf (by
            have : (l + l') * i.bytes <= 4 * 8 := Nat.mul_le_mul hle hby
            omega))
          rw [hg]
          simp [denL]
        ·cases h
     ·rename_i r o l cp
      cases hb2 : (Nat.ble (l + l') cp && canWr M r (o + l) ds.length) with
      | false => rw [hb2] at h; cases h
      | true =>
      rw [hb2] at h
      simp only [cond_true, Option.some.injEq] at h; subst h
      simp only [Bool.and_eq_true] at hb2
      have hfit := Nat.le_of_ble_eq_true hb2.1
      refine alt_put (fun x hx => by simp only [List.mem_singleton] at hx; subst hx; exact hdreg) hb2.2 (fun ρ φ a w hev hrds hw => ?_)
      have hc := hrds (r', o', ds) (by simp)
      have hxv : a.eval x = .slice (some (at_ (pl φ r o) 0)) l (cp + (φ r).c) := hev x _ hx
      rw [hmap, hxv, ey ρ φ a hev]
      have e0 : pl φ r (o + l) = ⟨(pl φ r o).b, (pl φ r o).o + l, (pl φ r o).c⟩ := by simp [pl, Nat.add_assoc]
      rw [e0] at hw ⊢
      exact run_append_in (P := cx.P) (p := pl φ r o) (q := pl φ r' o') (news := denL cx ρ φ ds) (cx.unOK hu) (cx.tiOK hi) hsz (by simp [hdl]) hc (fun v hv => by
        obtain ⟨c0, hc0, rfl⟩ := List.mem_map.1 hv
        exact C.one_den hk (List.all_eq_true.1 hall c0 hc0) φ) (by simpa using hw) (Nat.le_trans hfit (Nat.le_add_right _ _))
     ·cases h
    ·cases h
   ·cases h
  ·cases h
 ·cases h
end
end
end Go.Eng
namespace Go.Eng
open Go Go.RowKit
noncomputable section
def leaves : T -> Option (List (Ek × St))
 | .leaf e s => some [(e, s)]
 | .both t e => match leaves t, leaves e with | some l, some m => some (l ++ m) | _, _ => none
 | _ => none
theorem holds_mono {ρ : Nat -> Int} {Ψ Ψ' : Ek -> St -> Prop} (h : ∀ e s, Ψ e s -> Ψ' e s) : ∀ {t : T}, t.holds ρ Ψ -> t.holds ρ Ψ'
 | .fail _, hh => hh
 | .leaf _ _, hh => h _ _ hh
 | .def_ .., hh => ⟨hh.1, hh.2.1, holds_mono h hh.2.2⟩
 | .br .., hh => by
   rcases hh with ⟨h1, h2⟩ | ⟨h1, h2⟩
   ·exact .inl ⟨h1, holds_mono h h2⟩
   ·exact .inr ⟨h1, holds_mono h h2⟩
 | .both .., hh => ⟨holds_mono h hh.1, holds_mono h hh.2⟩
theorem leaves_holds {ρ : Nat -> Int} : ∀ {t : T} {L : List (Ek × St)}, leaves t = some L -> t.holds ρ (fun e s => (e, s) ∈ L)
 | .leaf e s, L, h => by simp [leaves] at h; subst h; simp [T.holds]
 | .both t e, L, h => by
   simp only [leaves] at h
   split at h
   ·rename_i l m hl hm
    simp only [Option.some.injEq] at h; subst h
    exact ⟨holds_mono (fun e s hh => List.mem_append_left _ hh) (leaves_holds hl), holds_mono (fun e s hh => List.mem_append_right _ hh) (leaves_holds hm)⟩
   ·cases h
 | .fail _, _, h => by simp [leaves] at h
 | .def_ .., _, h => by simp [leaves] at h
 | .br .., _, h => by simp [leaves] at h
def resA (cx : Cx) (fn : Func) : List (Ek × St) -> Option (List (V × List Reg))
 | [] => some []
 | (.e _, _) :: _ => none
 | (_, s) :: l => match resV cx s.m fn s.t, resA cx fn l with | some v, some vs => some ((v, s.m) :: vs) | _, _ => none
def evFA (cx : Cx) (fuel : Nat) (fn : Func) (c : Code) (vs : List V) (M : List Reg) : Option (List (V × List Reg)) :=
 bif Nat.ble (lenN vs) fn.ntmps then
  match leaves (evC cx fn.ntmps fuel c ⟨⟨argTr vs 0 .lf, M, 0, .lf⟩, [], []⟩ (leafK cx)) with
  | some L => resA cx fn L
  | none => none
 else none
theorem resA_spec {cx : Cx} {fn : Func} : ∀ {L : List (Ek × St)} {out : List (V × List Reg)}, resA cx fn L = some out -> ∀ e s, (e, s) ∈ L -> (e = .n \/ e = .r) /\ ∃ x ∈ out, resV cx s.m fn s.t = some x.1 /\ s.m = x.2
 | [], _, _, _, _, h => by cases h
 | (.n, s) :: l, out, h, e, s', hm => by
   simp only [resA] at h
   split at h
   ·rename_i v vs hv hvs
    simp only [Option.some.injEq] at h; subst h
    rcases List.mem_cons.1 hm with he | hm
    ·injection he with h1 h2; subst h1; subst h2
     exact ⟨.inl rfl, (v, s'.m), List.mem_cons_self .., hv, rfl⟩
    ·obtain ⟨k1, x, k2, k3⟩ := resA_spec hvs e s' hm
     exact ⟨k1, x, List.mem_cons_of_mem _ k2, k3⟩
   ·cases h
 | (.r, s) :: l, out, h, e, s', hm => by
   simp only [resA] at h
   split at h
   ·rename_i v vs hv hvs
    simp only [Option.some.injEq] at h; subst h
    rcases List.mem_cons.1 hm with he | hm
    ·injection he with h1 h2; subst h1; subst h2
     exact ⟨.inr rfl, (v, s'.m), List.mem_cons_self .., hv, rfl⟩
    ·obtain ⟨k1, x, k2, k3⟩ := resA_spec hvs e s' hm
     exact ⟨k1, x, List.mem_cons_of_mem _ k2, k3⟩
   ·cases h
 | (.e _, _) :: _, _, h, _, _, _ => by simp [resA] at h
def LeftA (cx : Cx) (ρ : Nat -> Int) (n0 : Nat) (D : Nat -> Nat -> Prop) (w0 : World) (φ0 : Nat -> Pl) (M : List Reg) (x : V × List Reg) (e : Ending) (w' : World) : Prop :=
 ∃ φ' σ', e = .returned (x.1.den cx.K ρ φ') /\ RelW cx ρ n0 D w0 φ' σ' w' /\ (∀ r j, mg x.2 (.c r j) = σ' (.c r j)) /\ (∀ r, mg x.2 (.g r) = σ' (.g r)) /\ (∀ m, m < M.length -> φ' m = φ0 m) /\ ∀ m ∈ x.1.men, ∃ y, σ' (.g m) = some y
section
variable {cx : Cx} {ρ : Nat -> Int}
theorem evFA_ok (hg : cx.Good) (hm : cx.P.follows .mixedOrders = true) {fuel : Nat} {f : FuncId} {fn : Func} {c : Code} {vs : List V} {M : List Reg} {out : List (V × List Reg)} (hf : cx.P.funcs[f]? = some fn) (hb : fn.body = some c)
  (h : evFA cx fuel fn c vs M = some out) {D : Nat -> Nat -> Prop} {φ : Nat -> Pl} {w : World} (h0 : RelW cx ρ w.heap.size D w φ (sg0 vs M) w) (hgl : ∀ g r, lookup cx.gl g = some r -> φ r = ⟨g, 0, 0⟩ /\ r < M.length) :
  Calls cx.P f (vs.map (V.den cx.K ρ φ)).toArray w fun e w' => ∃ x ∈ out, LeftA cx ρ w.heap.size D w φ M x e w' := by
 unfold evFA at h
 cases hle : Nat.ble (lenN vs) fn.ntmps with
 | false => rw [hle] at h; cases h
 | true =>
 rw [hle] at h
 simp only [cond_true] at h
 have hlen : vs.length <= fn.ntmps := by have := Nat.le_of_ble_eq_true hle; rwa [lenN_eq] at this
 split at h
 ·rename_i L hLv
  have hL := leaves_holds (ρ := ρ) hLv
  have hout := resA_spec h
  refine calls_of_wp_defers hf hb ?_
  have hsize : (vs.map (V.den cx.K ρ φ)).toArray.size = vs.length := by simp
  refine evC_ok (ρ := ρ) (n0 := w.heap.size) (D := D) (w0 := w) (Ψ := fun e' s' => (e', s') ∈ L) (φ0 := φ) (nr := M.length) hg hm c _ (leafK cx) φ (sg0 vs M) _ w _ ?_ hL ?_
  ·refine ⟨{ toRelW := h0, tmps := fun t x ht => ?_, size := ?_, defers := rfl, glob := fun g r hl => ?_ }, fun d hd => (by cases hd), ⟨fun t x ht => ?_, fun r j => rfl, fun r => rfl⟩, fun i k hk => ?_, fun i u hu => ?_, fun m hm' => ⟨rfl, ?_⟩⟩
   ·simp only [sg0] at ht
    cases hx : (argTr vs 0 .lf).get t with
    | none => simp [hx] at ht
    | some x' =>
      simp [hx] at ht; subst ht
      rcases argTr_get _ _ _ _ _ hx with h1 | ⟨_, h1⟩
      ·rw [Tr.get_eq] at h1; cases h1
      ·rw [Nat.sub_zero] at h1
       have hlt := (List.getElem?_eq_some_iff.1 h1).1
       rw [Array.getElem?_append_left (by rw [hsize]; exact hlt)]
       simp [h1]
   ·simp only [Array.size_append, hsize, Array.size_replicate]; omega
   ·obtain ⟨h1, h2⟩ := hgl g r hl
    exact ⟨h1, ⟨_, by show mg M (.g r) = some _; exact mg_g (List.getElem?_eq_getElem h2)⟩⟩
   ·show ((argTr vs 0 .lf).get t).map Val.v = _
    rw [show (argTr vs 0 .lf).get t = some x from ht]; rfl
   ·rw [Tr.get_eq] at hk; cases hk
   ·cases hu
   ·exact ⟨_, by show mg M (.g m) = some _; exact mg_g (List.getElem?_eq_getElem hm')⟩
  ·intro e' s' φ' σ' a' w' hI' hk'
   unfold leafK at hk'
   cases hdf : dfOK cx s'.s.m s'.df with
   | false => rw [hdf] at hk'; exact hk'.elim
   | true =>
   rw [hdf] at hk'
   obtain ⟨hek, x, hx, hrv, hsm⟩ := hout _ _ hk'
   have hMk : ∀ r reg j c, s'.s.m[r]? = some reg -> reg.cells[j]? = some c -> σ' (.c r j) = some (.c c) := fun r reg j c h1 h2 => by
    rw [<- hI'.sub.c]; simp [mg, h1, h2]
   have hrun := resV_run (cx := cx) (ρ := ρ) (fn := fn) (tmps := a'.tmps) (φ := φ') (w := w') (fun r v hr => hI'.rel.tmps r v (hI'.sub.t r v hr)) (fun r reg j c h1 h2 => hI'.rel.cell r j c (hMk r reg j c h1 h2)) hrv
   have hmen : ∀ m ∈ x.1.men, ∃ y, σ' (.g m) = some y := resV_men (fun r x hr m hmm => hI'.rel.men _ _ (hI'.sub.t r x hr) m hmm) (fun r reg j c h1 h2 m hm => hI'.rel.men _ _ (hMk r reg j c h1 h2) m hm) hrv
   have fin : ∃ x' ∈ out, LeftA cx ρ w.heap.size D w φ M x' (.returned (x.1.den cx.K ρ φ')) w' :=
    ⟨x, hx, φ', σ', rfl, hI'.rel.toRelW, fun r j => by rw [<- hsm]; exact hI'.sub.c r j, fun r => by rw [<- hsm]; exact hI'.sub.g r, fun m hm' => (hI'.old m hm').1, hmen⟩
   have hcells : ∀ (l : List (Nat × Nat × List C)), (∀ x ∈ l, ∃ reg, s'.s.m[x.1]? = some reg /\ x.2.1 + x.2.2.length <= reg.cells.length /\ ∀ j c, x.2.2[j]? = some c -> reg.cells[x.2.1 + j]? = some c) -> ∀ x ∈ l, cellsAt w' (pl φ' x.1 x.2.1) (denL cx ρ φ' x.2.2) := by
    intro l hl x hx j u hu
    obtain ⟨reg, h1, h2, h3⟩ := hl x hx
    cases hc : x.2.2[j]? with
    | none => simp [hc] at hu
    | some c0 =>
      simp [hc] at hu; subst hu
      rw [pl_at]
      refine hI'.rel.cell _ _ _ ?_
      rw [<- hI'.sub.c]
      simp [mg, h1, h3 j c0 hc]
   have hleave : ∀ (l : List (FuncId × List V)), dfOK cx s'.s.m l = true -> Leaves cx.P fn a'.tmps (fun e w'' => ∃ x' ∈ out, LeftA cx ρ w.heap.size D w φ M x' e w'') (dfl cx ρ φ' l) .returning w' := by
    intro l
    induction l with
    | nil => intro _; exact ⟨_, hrun, fin⟩
    | cons d l ih =>
      intro hl
      simp only [dfOK, Bool.and_eq_true] at hl
      obtain ⟨rds, hrds⟩ := Option.isSome_iff_exists.1 hl.1
      obtain ⟨q1, q2⟩ := hg.dq _ _ _ _ hrds
      obtain ⟨q3, q4⟩ := q2 ρ φ' w' (hcells rds q1)
      refine ⟨(by intro e; cases e), .func d.1, #[], d.1, (d.2.map (V.den cx.K ρ φ')).toArray, rfl, ?_, ?_⟩
      ·show (invoke (.fn (.func d.1) #[]) _).run cx.P w' = _
       simp only [invoke, Array.append_empty]
       exact q3
      ·intro c0 cs hc0
       obtain ⟨e, u', w2, fr, ⟨⟨v0, rfl⟩, rfl, rfl⟩, k1, k2, k3⟩ := q4 .returning c0 cs hc0
       exact ⟨.returned v0, .returning, w2, fr, ih hl.2, k1, k2, k3⟩
   have hd : a'.defers = dfl cx ρ φ' s'.df := hI'.rel.defers
   rcases hek with rfl | rfl
   ·show Leaves cx.P fn a'.tmps _ a'.defers .returning w'
    rw [hd]; exact hleave _ hdf
   ·show Leaves cx.P fn a'.tmps _ a'.defers .returning w'
    rw [hd]; exact hleave _ hdf
 ·cases h
end
def sameT : List (Bool × List C) -> List (Bool × List C) -> Bool
 | [], [] => true
 | (x, a) :: l, (y, b) :: m => eqB x y && sameLS a b && sameT l m
 | _, _ => false
theorem eq_of_sameT : ∀ {l m : List (Bool × List C)}, sameT l m = true -> l = m
 | [], [], _ => rfl
 | (x, a) :: l, (y, b) :: m, h => by
   simp only [sameT, Bool.and_eq_true] at h
   have h1 : x = y := by cases x <;> cases y <;> simp [eqB] at h <;> rfl
   rw [h1, eq_of_sameLS h.1.2, eq_of_sameT h.2]
 | [], _ :: _, h => by cases h
 | _ :: _, [], h => by cases h
def V.same : V -> V -> Bool
 | .one a, .one b => a.sameS b
 | .agg a, .agg b => sameLS a b
 | .tup a, .tup b => sameT a b
 | _, _ => false
theorem V.eq_of_same {a b : V} (h : V.same a b = true) : a = b := by
 cases a with
 | one a => cases b with
   | one b => rw [C.eq_of_sameS (a := a) (b := b) h]
   | _ => cases h
 | agg a => cases b with
   | agg b => rw [eq_of_sameLS (l := a) (m := b) h]
   | _ => cases h
 | tup a => cases b with
   | tup b => rw [eq_of_sameT (l := a) (m := b) h]
   | _ => cases h
def sameW : List (Nat × Nat × List C) -> List (Nat × Nat × List C) -> Bool
 | [], [] => true
 | (a, b, c) :: l, (a', b', c') :: m => Nat.beq a a' && Nat.beq b b' && sameLS c c' && sameW l m
 | _, _ => false
theorem eq_of_sameW : ∀ {l m : List (Nat × Nat × List C)}, sameW l m = true -> l = m
 | [], [], _ => rfl
 | (a, b, c) :: l, (a', b', c') :: m, h => by
   simp only [sameW, Bool.and_eq_true] at h
   rw [Nat.eq_of_beq_eq_true h.1.1.1, Nat.eq_of_beq_eq_true h.1.1.2, eq_of_sameLS h.1.2, eq_of_sameW h.2]
 | [], _ :: _, h => by cases h
 | _ :: _, [], h => by cases h
def sameA : List (Nat × List C) -> List (Nat × List C) -> Bool
 | [], [] => true
 | (a, c) :: l, (a', c') :: m => Nat.beq a a' && sameLS c c' && sameA l m
 | _, _ => false
theorem eq_of_sameA : ∀ {l m : List (Nat × List C)}, sameA l m = true -> l = m
 | [], [], _ => rfl
 | (a, c) :: l, (a', c') :: m, h => by
   simp only [sameA, Bool.and_eq_true] at h
   rw [Nat.eq_of_beq_eq_true h.1.1, eq_of_sameLS h.1.2, eq_of_sameA h.2]
 | [], _ :: _, h => by cases h
 | _ :: _, [], h => by cases h
def mkR (rs : List Nat) (Ms : List Reg) (M : List Reg) (x : V × List Reg) : Option R :=
 let k := lenN rs
 let all := reachF x.2 4096 (x.1.men ++ upTo k 0) []
 let ns := all.filter fun m => Nat.ble k m
 bif noDup ns && keptB k ns x.1.men && keptR k ns x.2 ns && keptO k ns k x.2 && shapeB (Ms.map (renReg (inv rs))) x.2 then
  some { fn := none, kd := [], rds := rdsOf rs Ms, wcs := wcsOf (outN rs ns (lenN M)) rs (Ms.map (renReg (inv rs))) x.2, al := alOf (outN rs ns (lenN M)) x.2 ns (lenN M), res := x.1.ren (outN rs ns (lenN M)), dj := djOf rs Ms }
 else none
def allSame (rs : List Nat) (Ms : List Reg) (M : List Reg) (r : R) : List (V × List Reg) -> Bool
 | [] => true
 | x :: l => (match mkR rs Ms M x with | some r' => sameW r.wcs r'.wcs && sameA r.al r'.al && V.same r.res r'.res | none => false) && allSame rs Ms M r l
def inlA (cx : Cx) (fns : FuncId -> Option Func) (ng fuel : Nat) (f : FuncId) (vs : List V) (M : List Reg) : Option R :=
 match fns f with
 | none => none
 | some fn =>
 match fn.body with
 | none => none
 | some c =>
 let rs := reachF M 4096 (upTo ng 0 ++ vmens vs) []
 match sel M rs with
 | none => none
 | some Ms =>
 bif !(noDup rs && glOK cx.gl rs && inAll rs (vmens vs) && closedB rs Ms) then none else
 match evFA cx fuel fn c (vs.map (V.ren (inv rs))) (Ms.map (renReg (inv rs))) with
 | some (x :: l) => match mkR rs Ms M x with
   | some r => bif allSame rs Ms M r (x :: l) then some r else none
   | none => none
 | _ => none
section
variable {cx : Cx}
theorem mkR_spec {rs : List Nat} {Ms M : List Reg} {x : V × List Reg} {r : R} (h : mkR rs Ms M x = some r) : ∃ ns, noDup ns = true /\ keptB rs.length ns x.1.men = true /\ keptR rs.length ns x.2 ns = true /\ keptO rs.length ns rs.length x.2 = true /\ shapeB (Ms.map (renReg (inv rs))) x.2 = true /\
  r = { fn := none, kd := [], rds := rdsOf rs Ms, wcs := wcsOf (outN rs ns M.length) rs (Ms.map (renReg (inv rs))) x.2, al := alOf (outN rs ns M.length) x.2 ns M.length, res := x.1.ren (outN rs ns M.length), dj := djOf rs Ms } := by
 unfold mkR at h
 simp only [lenN_eq] at h
 generalize ((reachF x.2 4096 (x.1.men ++ upTo rs.length 0) []).filter fun m => Nat.ble rs.length m) = ns at h
 cases hb : (noDup ns && keptB rs.length ns x.1.men && keptR rs.length ns x.2 ns && keptO rs.length ns rs.length x.2 && shapeB (Ms.map (renReg (inv rs))) x.2) with
 | false => rw [hb] at h; cases h
 | true =>
   rw [hb] at h
   simp only [cond_true, Option.some.injEq] at h
   simp only [Bool.and_eq_true] at hb
   exact ⟨ns, hb.1.1.1.1, hb.1.1.1.2, hb.1.1.2, hb.1.2, hb.2, h.symm⟩
theorem allSame_spec {rs : List Nat} {Ms M : List Reg} {r : R} (hr : r.fn = none /\ r.kd = [] /\ r.rds = rdsOf rs Ms /\ r.dj = djOf rs Ms) : ∀ {l : List (V × List Reg)}, allSame rs Ms M r l = true -> ∀ x ∈ l, mkR rs Ms M x = some r
 | [], _, _, h => by cases h
 | y :: l, h, x, hx => by
   simp only [allSame, Bool.and_eq_true] at h
   rcases List.mem_cons.1 hx with rfl | hx
   ·have h1 := h.1
    split at h1
    ·rename_i r' hr'
     simp only [Bool.and_eq_true] at h1
     rw [hr']
     obtain ⟨ns, _, _, _, _, _, he⟩ := mkR_spec hr'
     have e1 := eq_of_sameW h1.1.1
     have e2 := eq_of_sameA h1.1.2
     have e3 := V.eq_of_same h1.2
     congr 1
     obtain ⟨rfn, rkd, rrds, rwcs, ral, rres, rdj⟩ := r
     obtain ⟨a, b, c, d⟩ := hr
     simp only at a b c d e1 e2 e3
     subst he
     simp only at e1 e2 e3
     rw [a, b, c, d, e1, e2, e3]
    ·cases h1
   ·exact allSame_spec hr h.2 x hx
theorem mkR_mem {rs : List Nat} {Ms M : List Reg} {x : V × List Reg} {r : R} (hsel : sel M rs = some Ms) (h : mkR rs Ms M x = some r) : r.fn = none /\ r.kd = [] /\ MemOK M r := by
 obtain ⟨ns, _, _, _, _, hsh, rfl⟩ := mkR_spec h
 obtain ⟨hlen, hget⟩ := sel_get hsel
 refine ⟨rfl, rfl, fun x hx => ?_, fun x hx => ?_, fun i x hx => ?_, fun x hx => ?_⟩
 ·obtain ⟨i, reg, h1, h2, h3, h4⟩ := rdsOf_mem hx
  obtain ⟨reg', k1, k2⟩ := hget i _ h1
  rw [h2] at k1; cases k1
  exact ⟨reg, k2, by rw [h3, h4]; simp, fun j c hj => by rw [h3, Nat.zero_add, <- h4]; exact hj⟩
 ·obtain ⟨i, a, b, h1, h2, h3, h4, h5, h6⟩ := wcsOf_mem hx
  obtain ⟨reg, k1, k2⟩ := hget i _ h1
  have ha : a = renReg (inv rs) reg := by simp [k1] at h2; exact h2.symm
  obtain ⟨b', m1, m2, m3⟩ := shapeB_spec hsh i a h2
  rw [h3] at m1; cases m1
  refine ⟨reg, k2, by rw [ha] at h4; exact h4, ?_⟩
  rw [h5, h6, Nat.zero_add, List.length_map, m2, ha]
  simp [renReg]
 ·exact (alOf_get hx).1
 ·obtain ⟨i, reg, h1, h2, h3, h4⟩ := djOf_mem hx
  obtain ⟨reg', k1, k2⟩ := hget i _ h1
  rw [h2] at k1; cases k1
  exact ⟨reg, k2, h3.symm, h4.symm⟩
theorem inlA_ok (hg : cx.Good) (hm : cx.P.follows .mixedOrders = true) {fns : FuncId -> Option Func} (hfns : ∀ f fn, fns f = some fn -> cx.P.funcs[f]? = some fn /\ (fn.name == "runtime.NumGoroutine") = false)
  {ng fuel : Nat} {f : FuncId} {vs : List V} {M : List Reg} {r : R} (h : inlA cx fns ng fuel f vs M = some r) : r.fn = none /\ r.kd = [] /\ MemOK M r /\ ∀ (ρ : Nat -> Int) (φ : Nat -> Pl) (w : World), PreE cx ρ φ w r ->
  CallOK cx.P f (vs.map (V.den cx.K ρ φ)).toArray w fun v w' => ∃ φ', PostE cx ρ φ w r φ' w' /\ v = r.res.den cx.K ρ φ' := by
 unfold inlA at h
 split at h
 ·cases h
 rename_i fn hf
 split at h
 ·cases h
 rename_i c hb
 simp only at h
 generalize hrs : reachF M 4096 (upTo ng 0 ++ vmens vs) [] = rs at h
 split at h
 ·cases h
 rename_i Ms hsel
 cases hc : (noDup rs && glOK cx.gl rs && inAll rs (vmens vs) && closedB rs Ms) with
 | false => rw [hc] at h; cases h
 | true =>
 rw [hc] at h
 simp only [Bool.not_true, cond_false] at h
 simp only [Bool.and_eq_true] at hc
 obtain ⟨⟨⟨hnd, hgo⟩, hvs⟩, hcl⟩ := hc
 split at h
 ·rename_i x l hE
  split at h
  ·rename_i r' hr'
   cases ha : allSame rs Ms M r' (x :: l) with
   | false => rw [ha] at h; cases h
   | true =>
   rw [ha] at h
   simp only [cond_true, Option.some.injEq] at h; subst h
   have hrr : r'.fn = none /\ r'.kd = [] /\ r'.rds = rdsOf rs Ms /\ r'.dj = djOf rs Ms := by
    obtain ⟨ns, _, _, _, _, _, rfl⟩ := mkR_spec hr'
    exact ⟨rfl, rfl, rfl, rfl⟩
   have hall := allSame_spec hrr ha
   obtain ⟨m1, m2, m3⟩ := mkR_mem hsel hr'
   refine ⟨m1, m2, m3, fun ρ φ w hpre => ?_⟩
   obtain ⟨hlen, hget⟩ := sel_get hsel
   have hnd' := noDup_spec hnd
   obtain ⟨p1, p2, p3, p4, p5⟩ := hpre
   have h0 := rel0 (cx := cx) (ρ := ρ) (φ := φ) (w := w) hsel hnd' hcl hvs (by rw [hrr.2.2.1] at p1; exact p1) (by rw [hrr.2.2.2] at p4; exact p4)
   have hMc : (Ms.map (renReg (inv rs))).length = rs.length := by simp [hlen]
   have hφc : ∀ l, inAll rs l = true -> ∀ m ∈ l, φ (rs.getD (inv rs m) 0) = φ m := fun l hl m hm => by
    have := inAll_get hl m hm
    simp [List.getD_eq_getElem?_getD, this]
   have hcalls := evFA_ok (ρ := ρ) hg hm (hfns f fn hf).1 hb hE h0 (fun g r hl => by
    have := glOK_spec hgo g r hl
    refine ⟨?_, by rw [hMc]; exact (List.getElem?_eq_some_iff.1 this).1⟩
    have e : rs.getD r 0 = r := by simp [List.getD_eq_getElem?_getD, this]
    simp only [e]; exact p5 g r hl)
   have hargs : ((vs.map (V.ren (inv rs))).map (V.den cx.K ρ fun i => φ (rs.getD i 0))) = vs.map (V.den cx.K ρ φ) := by
    rw [List.map_map]
    exact List.map_congr_left fun x hx => V.ren_den (inv rs) (φ := φ) (φ' := fun i => φ (rs.getD i 0)) fun m hm => hφc _ hvs m (vmens_mem hx hm)
   rw [hargs] at hcalls
   refine callOK_of_calls (hfns f fn hf).1 (hfns f fn hf).2 (by rw [hb]; rfl) (hcalls.mono fun e w' ⟨y, hy, φ', σ', he, hR, hc, hgg, hold, _⟩ => ⟨_, he, ?_⟩)
   obtain ⟨ns, hnn, hkv, hkr, hko, hsh, hreq⟩ := mkR_spec (hall y hy)
   have := inl_post hsel hnd hvs hcl hnn hkv hkr hko hsh (ρ := ρ) (φ := φ) (w := w) (w' := w') (by rw [<- hreq]; exact ⟨p1, p2, p3, p4, p5⟩) hR hc hgg hold
   rw [<- hreq] at this
   obtain ⟨φ2, k1, k2⟩ := this
   refine ⟨φ2, k1, ?_⟩
   rw [k2, hreq]
  ·cases h
 ·cases h
end
end
end Go.Eng
namespace Go.Eng
open Go Go.RowKit
noncomputable section
def shiftN (n0 n m : Nat) : Nat := bif Nat.ble n0 m then n + (m - n0) else m
def shiftR (n0 n : Nat) (r : R) : R :=
 { fn := none, kd := [], rds := r.rds, wcs := [], al := r.al.map fun x => (shiftN n0 n x.1, x.2.map (C.ren (shiftN n0 n))), res := r.res.ren (shiftN n0 n), dj := r.dj }
def sameReg : List Reg -> List Reg -> Bool
 | [], _ => true
 | a :: l, b :: m => sameLS a.cells b.cells && eqB a.wr b.wr && sameReg l m
 | _ :: _, [] => false
theorem sameReg_spec : ∀ {l m : List Reg}, sameReg l m = true -> ∀ (i : Nat) (a : Reg), l[i]? = some a -> ∃ b : Reg, m[i]? = some b /\ b.cells = a.cells /\ b.wr = a.wr
 | [], _, _, i, a, h => by simp at h
 | a :: l, b :: m, h, i, x, hi => by
   simp only [sameReg, Bool.and_eq_true] at h
   cases i with
   | zero =>
     simp at hi; subst hi
     refine ⟨b, rfl, (eq_of_sameLS h.1.1).symm, ?_⟩
     have := h.1.2
     revert this
     cases a.wr <;> cases b.wr <;> simp [eqB]
   | succ i => exact sameReg_spec h.2 i x (by simpa using hi)
 | _ :: _, [], h, _, _, _ => by cases h
def memoH (f0 : FuncId) (M0 : List Reg) (r0 : R) : HK := fun f vs M =>
 match vs with
 | [] => bif Nat.beq f f0 && sameReg M0 M then some (shiftR M0.length M.length r0) else none
 | _ => none
theorem memoH_sound {base cx : Cx} (e1 : cx.ext = base.ext) (e2 : cx.gl = base.gl) (e3 : cx.P = base.P) {f0 : FuncId} {M0 : List Reg} {r0 : R} (hw : r0.wcs = []) (hmen : okMen M0.length r0 = true)
  (hr : r0.fn = none /\ r0.kd = [] /\ MemOK M0 r0 /\ ∀ (ρ : Nat -> Int) (φ : Nat -> Pl) (w : World), PreE cx ρ φ w r0 ->
   CallOK cx.P f0 (([] : List V).map (V.den cx.K ρ φ)).toArray w fun v w' => ∃ φ', PostE cx ρ φ w r0 φ' w' /\ v = r0.res.den cx.K ρ φ') : (memoH f0 M0 r0).Sound base := by
 intro f vs M r h
 unfold memoH at h
 split at h
 ·cases hb : (Nat.beq f f0 && sameReg M0 M) with
  | false => rw [hb] at h; cases h
  | true =>
  rw [hb] at h
  simp only [cond_true, Option.some.injEq] at h; subst h
  simp only [Bool.and_eq_true] at hb
  have := Nat.eq_of_beq_eq_true hb.1
  subst this
  have hsame := sameReg_spec hb.2
  obtain ⟨h1, h2, ⟨m1, m2, m3, m4⟩, h4⟩ := hr
  have hK : cx.K = base.K := by simp only [Cx.K, e1]
  have hle : M0.length <= M.length := by
   rcases Nat.lt_or_ge M.length M0.length with hlt | hge
   ·obtain ⟨b, hb', _⟩ := hsame M.length M0[M.length] (by simp [hlt])
    have := (List.getElem?_eq_some_iff.1 hb').1
    omega
   ·exact hge
  simp only [okMen, hw, List.all_nil, Bool.true_and, Bool.and_eq_true, lenN_eq] at hmen
  obtain ⟨hal, hres⟩ := hmen
  refine ⟨rfl, rfl, ⟨fun x hx => ?_, fun x hx => (by cases hx), fun i x hx => ?_, fun x hx => ?_⟩, fun ρ φ w hpre => ?_⟩
  ·obtain ⟨reg, k1, k2, k3⟩ := m1 x hx
   obtain ⟨b, q1, q2, q3⟩ := hsame _ _ k1
   exact ⟨b, q1, by rw [q2]; exact k2, fun j c hj => by rw [q2]; exact k3 j c hj⟩
  ·simp only [shiftR, List.getElem?_map] at hx
   cases hi : r0.al[i]? with
   | none => simp [hi] at hx
   | some y =>
     simp [hi] at hx; subst hx
     have := m3 i y hi
     simp only [shiftN, this, Nat.ble_eq_true_of_le (Nat.le_add_right _ _), cond_true]
     omega
  ·obtain ⟨reg, k1, k2, k3⟩ := m4 x hx
   obtain ⟨b, q1, q2, q3⟩ := hsame _ _ k1
   exact ⟨b, q1, by rw [q2]; exact k2, by rw [q3]; exact k3⟩
  ·have hpre0 : PreE cx ρ φ w r0 := by
    obtain ⟨a1, a2, a3, a4, a5⟩ := PreE_congr (cx' := cx) e1.symm e2.symm hpre
    exact ⟨a1, fun x hx => (by rw [hw] at hx; cases hx), fun x hx => (by rw [hw] at hx; cases hx), a4, a5⟩
   have hc := h4 ρ φ w hpre0
   have conv : ∀ v w', (∃ φ', PostE cx ρ φ w r0 φ' w' /\ v = r0.res.den cx.K ρ φ') -> ∃ φ', PostE base ρ φ w (shiftR M0.length M.length r0) φ' w' /\ v = (shiftR M0.length M.length r0).res.den base.K ρ φ' := by
    rintro v w' ⟨φ', ⟨p1, p2, p3, p4⟩, hv⟩
    -- the new places, told anew
    let φ2 : Nat -> Pl := fun m => if M.length <= m /\ m < M.length + r0.al.length then φ' (m - M.length + M0.length) else φ m
    have F : ∀ m, m < M0.length + r0.al.length -> φ2 (shiftN M0.length M.length m) = φ' m := fun m hm => by
     unfold shiftN
     cases hb2 : Nat.ble M0.length m with
     | true =>
       have := Nat.le_of_ble_eq_true hb2
       simp only [cond_true, φ2]
       rw [if_pos ⟨by omega, by omega⟩]
       congr 1; omega
     | false =>
       have hlt : m < M0.length := by
        rcases Nat.lt_or_ge m M0.length with h | h
        ·exact h
        ·rw [Nat.ble_eq_true_of_le h] at hb2; cases hb2
       simp only [cond_false, φ2]
       rw [if_neg (by omega)]
       refine (p1 m fun x hx => ?_).symm
       obtain ⟨i, hi⟩ := List.getElem?_of_mem hx
       have := m3 i x hi
       omega
    have Fx : ∀ x ∈ r0.al, φ2 (shiftN M0.length M.length x.1) = φ' x.1 := fun x hx => by
     obtain ⟨i, hi⟩ := List.getElem?_of_mem hx
     have := m3 i x hi
     have := (List.getElem?_eq_some_iff.1 hi).1
     exact F _ (by omega)
    have Fc : ∀ x ∈ r0.al, denL base ρ φ2 (x.2.map (C.ren (shiftN M0.length M.length))) = denL cx ρ φ' x.2 := fun x hx => by
     show (x.2.map _).map (C.den base.K ρ φ2) = x.2.map (C.den cx.K ρ φ')
     rw [hK]
     exact renL_den _ fun m hm => F m (menLt_spec (List.all_eq_true.1 hal x hx) m hm)
    refine ⟨φ2, ⟨fun m hm => ?_, fun y hy => ?_, fun y hy z hz hne => ?_, ?_⟩, ?_⟩
    ·simp only [φ2]
     rw [if_neg]
     rintro ⟨q1, q2⟩
     have hi : m - M.length < r0.al.length := by omega
     have hg : r0.al[m - M.length]? = some r0.al[m - M.length] := by simp [hi]
     have e := m3 _ _ hg
     refine hm (shiftN M0.length M.length (r0.al[m - M.length]).1, _) (List.mem_map.2 ⟨_, List.getElem_mem hi, rfl⟩) ?_
     rw [e]
     simp only [shiftN, Nat.ble_eq_true_of_le (Nat.le_add_right _ _), cond_true]
     omega
    ·obtain ⟨x, hx, rfl⟩ := List.mem_map.1 hy
     simp only [Fx x hx, Fc x hx, List.length_map]
     exact p2 x hx
    ·obtain ⟨x, hx, rfl⟩ := List.mem_map.1 hy
     obtain ⟨x', hx', rfl⟩ := List.mem_map.1 hz
     simp only [Fx x hx, Fx x' hx', List.length_map]
     exact p3 x hx x' hx' (fun e => hne (by simp only; rw [e]))
    ·rw [hw] at p4
     exact p4
    ·rw [hv, hK]
     exact (V.ren_den _ (φ := φ') (φ' := φ2) fun m hm => F m (Nat.blt_eq.mp (List.all_eq_true.1 hres m hm))).symm
   rw [e3] at hc
   rcases hc with ⟨v, w', a1, a2⟩ | ⟨a1, a2⟩
   ·exact .inl ⟨v, w', a1, conv v w' a2⟩
   ·exact .inr ⟨a1, a2.mono fun e w' ⟨v, b1, b2⟩ => ⟨v, b1, conv v w' b2⟩⟩
 ·cases h
end
end Go.Eng
namespace Go.Eng
open Go Go.RowKit
noncomputable section
def inlX (gl : List (Nat × Nat)) (E : List V -> List Reg -> Option (V × List Reg)) (ng : Nat) (vs : List V) (M : List Reg) : Option R :=
 let rs := reachF M 4096 (upTo ng 0 ++ vmens vs) []
 match sel M rs with
 | none => none
 | some Ms =>
 bif !(noDup rs && glOK gl rs && inAll rs (vmens vs) && closedB rs Ms) then none else
 let Mc := Ms.map (renReg (inv rs))
 match E (vs.map (V.ren (inv rs))) Mc with
 | none => none
 | some (v, M') =>
 let k := lenN rs
 let all := reachF M' 4096 (v.men ++ upTo k 0) []
 let ns := all.filter fun m => Nat.ble k m
 bif !(noDup ns && keptB k ns v.men && keptR k ns M' ns && keptO k ns k M' && shapeB Mc M') then none else
 let g := outN rs ns (lenN M)
 some { fn := none, kd := [], rds := rdsOf rs Ms, wcs := wcsOf g rs Mc M', al := alOf g M' ns (lenN M), res := v.ren g, dj := djOf rs Ms }
theorem inlX_mono {gl : List (Nat × Nat)} {E E' : List V -> List Reg -> Option (V × List Reg)} (h : ∀ a b o, E a b = some o -> E' a b = some o) {ng : Nat} {vs : List V} {M : List Reg} {r : R} (hr : inlX gl E ng vs M = some r) : inlX gl E' ng vs M = some r := by
 unfold inlX at hr ⊢
 simp only at hr ⊢
 generalize reachF M 4096 (upTo ng 0 ++ vmens vs) [] = rs at hr ⊢
 cases hs : sel M rs with
 | none => rw [hs] at hr; cases hr
 | some Ms =>
   rw [hs] at hr
   simp only at hr ⊢
   cases hc : (!(noDup rs && glOK gl rs && inAll rs (vmens vs) && closedB rs Ms)) with
   | true => rw [hc] at hr; cases hr
   | false =>
     rw [hc] at hr
     simp only [cond_false] at hr ⊢
     cases hE : E (vs.map (V.ren (inv rs))) (Ms.map (renReg (inv rs))) with
     | none => rw [hE] at hr; cases hr
     | some o =>
       rw [hE] at hr
       rw [h _ _ _ hE]
       exact hr
theorem inlX_inlOf {cx : Cx} {fns : FuncId -> Option Func} {ng fuel : Nat} {f : FuncId} {fn : Func} {c : Code} (hf : fns f = some fn) (hb : fn.body = some c) {vs : List V} {M : List Reg} {r : R} (hr : inlX cx.gl (evF cx fuel fn c) ng vs M = some r) : inlOf cx fns ng fuel f vs M = some r := by
 unfold inlOf
 rw [hf]
 simp only
 rw [hb]
 exact hr
def sameVs : List V -> List V -> Bool
 | [], [] => true
 | a :: l, b :: m => V.same a b && sameVs l m
 | _, _ => false
theorem eq_of_sameVs : ∀ {l m : List V}, sameVs l m = true -> l = m
 | [], [], _ => rfl
 | a :: l, b :: m, h => by
   simp only [sameVs, Bool.and_eq_true] at h
   rw [V.eq_of_same h.1, eq_of_sameVs h.2]
 | [], _ :: _, h => by cases h
 | _ :: _, [], h => by cases h
def sameM : List Reg -> List Reg -> Bool
 | [], [] => true
 | a :: l, b :: m => sameLS a.cells b.cells && eqB a.wr b.wr && sameM l m
 | _, _ => false
theorem eq_of_sameM : ∀ {l m : List Reg}, sameM l m = true -> l = m
 | [], [], _ => rfl
 | a :: l, b :: m, h => by
   simp only [sameM, Bool.and_eq_true] at h
   obtain ⟨ac, aw⟩ := a
   obtain ⟨bc, bw⟩ := b
   have h1 : aw = bw := by
    have := h.1.2
    revert this
    cases aw <;> cases bw <;> simp [eqB]
   have h2 : ac = bc := eq_of_sameLS h.1.1
   rw [h2, h1, eq_of_sameM h.2]
 | [], _ :: _, h => by cases h
 | _ :: _, [], h => by cases h
def memoX (gl : List (Nat × Nat)) (ng : Nat) (f0 : FuncId) (vs0 : List V) (M0 : List Reg) (out : V × List Reg) : HK := fun f vs M =>
 bif Nat.beq f f0 then inlX gl (fun a b => bif sameVs vs0 a && sameM M0 b then some out else none) ng vs M else none
theorem memoX_inlOf {cx : Cx} {fns : FuncId -> Option Func} {ng fuel : Nat} {f0 : FuncId} {fn : Func} {c : Code} (hf : fns f0 = some fn) (hb : fn.body = some c) {vs0 : List V} {M0 : List Reg} {out : V × List Reg}
  (h0 : evF cx fuel fn c vs0 M0 = some out) {f : FuncId} {vs : List V} {M : List Reg} {r : R} (hr : memoX cx.gl ng f0 vs0 M0 out f vs M = some r) : inlOf cx fns ng fuel f vs M = some r := by
 unfold memoX at hr
 cases hb' : Nat.beq f f0 with
 | false => rw [hb'] at hr; cases hr
 | true =>
   rw [hb'] at hr
   simp only [cond_true] at hr
   have := Nat.eq_of_beq_eq_true hb'
   subst this
   refine inlX_inlOf hf hb (inlX_mono (fun a b o ho => ?_) hr)
   cases hs : (sameVs vs0 a && sameM M0 b) with
   | false => simp only [hs, cond_false] at ho; cases ho
   | true =>
     simp only [hs, cond_true, Option.some.injEq] at ho
     simp only [Bool.and_eq_true] at hs
     rw [<- eq_of_sameVs hs.1, <- eq_of_sameM hs.2, h0, ho]
end
end Go.Eng
