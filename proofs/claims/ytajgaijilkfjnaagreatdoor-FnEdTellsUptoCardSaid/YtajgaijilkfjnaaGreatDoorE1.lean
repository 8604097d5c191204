/-
 A reckoner of code over symbolic memory, proved sound over the walk of the kit.
-/
import Derived.Orders
import Derived.Below
import Derived.Laws.World
import Derived.Defers
set_option linter.unusedVariables false
set_option linter.unusedSimpArgs false
namespace Go.Eng
open Go Go.RowKit
structure Kind where
 size : Nat
 enc : Int -> List Value
 ok : Int -> Prop
def oneC : Value -> Bool
 | .agg _ | .tuple _ => false
 | _ => true
structure Kind.Good (k : Kind) : Prop where
 len : ∀ n, (k.enc n).length = k.size
 one : ∀ n v, v ∈ k.enc n -> oneC v = true
def intKind (k : IntKind) : Kind := ⟨1, fun n => [.int k n], fun n => k.min <= n /\ n <= k.max⟩
def boolKind : Kind := ⟨1, fun n => [.bool (decide (n ≠ 0))], fun n => n = 0 \/ n = 1⟩
def kof : IntKind -> Nat
 | .i8 => 0 | .i16 => 1 | .i32 => 2 | .i64 => 3 | .u8 => 4 | .u16 => 5 | .u32 => 6 | .u64 => 7
def fok : Nat -> Option IntKind
 | 0 => some .i8 | 1 => some .i16 | 2 => some .i32 | 3 => some .i64
 | 4 => some .u8 | 5 => some .u16 | 6 => some .u32 | 7 => some .u64 | _ => none
def kinds (ext : Nat -> Kind) : Nat -> Kind
 | 0 => intKind .i8 | 1 => intKind .i16 | 2 => intKind .i32 | 3 => intKind .i64
 | 4 => intKind .u8 | 5 => intKind .u16 | 6 => intKind .u32 | 7 => intKind .u64
 | 8 => boolKind
 | n + 9 => ext n
theorem kinds_fok {ext : Nat -> Kind} {n : Nat} {k : IntKind} (h : fok n = some k) : kinds ext n = intKind k := by
 unfold fok at h
 split at h <;> simp at h <;> subst h <;> rfl
theorem fok_kof (k : IntKind) : fok (kof k) = some k := by cases k <;> rfl
inductive A where
 | v (i : Nat)
 | n (z : Int)
def A.den (ρ : Nat -> Int) : A -> Int
 | .v i => ρ i
 | .n z => z
def A.beq : A -> A -> Bool
 | .v i, .v j => Nat.beq i j
 | .n x, .n y => x == y
 | _, _ => false
theorem A.eq_of_beq {a b : A} (h : A.beq a b = true) : a = b := by
 cases a <;> cases b <;> simp [A.beq] at h <;> simp [h]
inductive C where
 | ch (k : Nat) (a : A) (j : Nat)
 | ptr (r o : Nat)
 | val (v : Value)
 | slc (r o l c : Nat)
 | sln (r o l c : Nat)
 | ifc (t : TypeId) (c : C)
inductive V where
 | one (c : C)
 | agg (cs : List C)
 | tup (vs : List (Bool × List C))     -- a component: is it a struct or an array?
structure Pl where
 b : Nat
 o : Nat
 c : Nat
section den
variable (K : Nat -> Kind) (ρ : Nat -> Int) (φ : Nat -> Pl)
def paddr (φ : Nat -> Pl) (r o : Nat) : Addr := ⟨(φ r).b, (φ r).o + o, none⟩
def C.den : C -> Value
 | .ch k a j => ((K k).enc (a.den ρ)).getD j undef
 | .ptr r o => .pointer (some (paddr φ r o))
 | .val v => v
 | .slc r o l c => .slice (some (paddr φ r o)) l c
 | .sln r o l c => .slice (some (paddr φ r o)) l (c + (φ r).c)
 | .ifc t c => .iface t c.den
def comp (x : Bool × List C) : Value := match x with
 | (true, cs) => .agg (cs.map (C.den K ρ φ)).toArray
 | (false, cs) => (cs.map (C.den K ρ φ)).headD undef
def V.den : V -> Value
 | .one c => c.den K ρ φ
 | .agg cs => .agg (cs.map (C.den K ρ φ)).toArray
 | .tup vs => .tuple (vs.map (comp K ρ φ)).toArray
end den
def undefV : V := .tup []
theorem undefV_den (K ρ φ) : undefV.den K ρ φ = undef := rfl
def C.men : C -> Option Nat
 | .ptr r _ => some r
 | .slc r .. => some r
 | .sln r .. => some r
 | .ifc _ c => c.men
 | _ => none
def menL (cs : List C) : List Nat := cs.filterMap C.men
def menLt (n : Nat) : List C -> Bool
 | [] => true
 | c :: cs => (match c.men with | some m => Nat.blt m n | none => true) && menLt n cs
theorem menLt_spec {n : Nat} : ∀ {cs : List C}, menLt n cs = true -> ∀ m ∈ menL cs, m < n
 | [], _, m, hm => by simp [menL] at hm
 | c :: cs, h, m, hm => by
   simp only [menLt, Bool.and_eq_true] at h
   simp only [menL, List.filterMap_cons] at hm
   cases hc : c.men with
   | none => rw [hc] at hm; exact menLt_spec h.2 m hm
   | some m' =>
     rw [hc] at hm h
     simp only [List.mem_cons] at hm
     rcases hm with rfl | hm
     ·exact Nat.blt_eq.mp h.1
     ·exact menLt_spec h.2 m hm
def V.cells : V -> Option (List C)
 | .one c => some [c]
 | .agg cs => some cs
 | .tup _ => none
def cellOf : Value -> C
 | .int k n => .ch (kof k) (.n n) 0
 | .bool b => .ch 8 (.n (if b then 1 else 0)) 0
 | v => .val v
theorem cellOf_den (ext ρ φ) (v : Value) : (cellOf v).den (kinds ext) ρ φ = v := by
 cases v <;> simp [cellOf, C.den, A.den]
 ·rename_i b; cases b <;> simp [kinds, boolKind]
 ·rename_i k n; cases k <;> simp [kof, kinds, intKind]
def ofConst : Value -> V
 | .agg cs => .agg (cs.toList.map cellOf)
 | .tuple vs => if vs.size = 0 then .tup [] else .one (.val (.tuple vs))
 | v => .one (cellOf v)
theorem ofConst_den (ext ρ φ) (v : Value) : (ofConst v).den (kinds ext) ρ φ = v := by
 unfold ofConst
 split
 ·rename_i cs
  simp only [V.den, List.map_map]
  congr 1
  have : (C.den (kinds ext) ρ φ ∘ cellOf) = id := funext fun v => by simp [cellOf_den]
  rw [this]; simp
 ·rename_i vs
  split
  ·rename_i h
   simp only [V.den, List.map_nil]
   congr 1
   exact (Array.eq_empty_of_size_eq_zero h).symm
  ·rfl
 ·simp [V.den, cellOf_den]
inductive Tr (α : Type) where
 | lf
 | nd (l : Tr α) (v : Option α) (r : Tr α)
namespace Tr
variable {α : Type}
def get0 : Tr α -> Nat -> Option α
 | .lf, _ => none
 | .nd l v r, n => bif Nat.beq n 0 then v else bif Nat.beq (n % 2) 1 then l.get0 (n / 2) else r.get0 (n / 2 - 1)
def single0 : Nat -> Nat -> α -> Tr α
 | 0, _, _ => .lf
 | f + 1, n, x => bif Nat.beq n 0 then .nd .lf (some x) .lf else bif Nat.beq (n % 2) 1 then .nd (single0 f (n / 2) x) none .lf else .nd .lf none (single0 f (n / 2 - 1) x)
def set0 : Tr α -> Nat -> α -> Tr α
 | .lf, n, x => single0 24 n x
 | .nd l v r, n, x => bif Nat.beq n 0 then .nd l (some x) r else bif Nat.beq (n % 2) 1 then .nd (l.set0 (n / 2) x) v r else .nd l v (r.set0 (n / 2 - 1) x)
theorem get_single0 : ∀ (f n : Nat) (x : α) (m : Nat) (y : α), (single0 f n x).get0 m = some y -> m = n /\ y = x
 | 0, _, _, _, _, h => by simp [single0, get0] at h
 | f + 1, n, x, m, y, h => by
   unfold single0 at h
   cases hn : Nat.beq n 0 with
   | true =>
     have hn0 := Nat.eq_of_beq_eq_true hn
     simp only [hn, cond_true, get0] at h
     cases hm : Nat.beq m 0 with
     | true => simp only [hm, cond_true, Option.some.injEq] at h; exact ⟨(Nat.eq_of_beq_eq_true hm).trans hn0.symm, h.symm⟩
     | false => simp only [hm, cond_false] at h; cases h2 : Nat.beq (m % 2) 1 <;> simp [h2] at h
   | false =>
     have hn0 : n ≠ 0 := Nat.ne_of_beq_eq_false hn
     simp only [hn, cond_false] at h
     cases h1 : Nat.beq (n % 2) 1 with
     | true =>
       have h1' := Nat.eq_of_beq_eq_true h1
       simp only [h1, cond_true, get0] at h
       cases hm : Nat.beq m 0 with
       | true => simp [hm] at h
       | false =>
         simp only [hm, cond_false] at h
         cases h2 : Nat.beq (m % 2) 1 with
         | true =>
           have h2' := Nat.eq_of_beq_eq_true h2
           simp only [h2, cond_true] at h
           have := get_single0 f _ _ _ _ h
           exact ⟨by omega, this.2⟩
         | false => simp [h2] at h
     | false =>
       have h1' : n % 2 ≠ 1 := Nat.ne_of_beq_eq_false h1
       simp only [h1, cond_false, get0] at h
       cases hm : Nat.beq m 0 with
       | true => simp [hm] at h
       | false =>
         have hm0 : m ≠ 0 := Nat.ne_of_beq_eq_false hm
         simp only [hm, cond_false] at h
         cases h2 : Nat.beq (m % 2) 1 with
         | true => simp [h2] at h
         | false =>
           have h2' : m % 2 ≠ 1 := Nat.ne_of_beq_eq_false h2
           simp only [h2, cond_false] at h
           have := get_single0 f _ _ _ _ h
           exact ⟨by omega, this.2⟩
theorem get_set0 : ∀ (t : Tr α) (n : Nat) (x : α) (m : Nat) (y : α), (t.set0 n x).get0 m = some y -> (m = n /\ y = x) \/ (m ≠ n /\ t.get0 m = some y)
 | .lf, n, x, m, y, h => .inl (get_single0 _ _ _ _ _ h)
 | .nd l v r, n, x, m, y, h => by
   unfold set0 at h
   cases hn : Nat.beq n 0 with
   | true =>
     have hn0 := Nat.eq_of_beq_eq_true hn
     simp only [hn, cond_true, get0] at h
     cases hm : Nat.beq m 0 with
     | true => simp only [hm, cond_true, Option.some.injEq] at h; exact .inl ⟨(Nat.eq_of_beq_eq_true hm).trans hn0.symm, h.symm⟩
     | false =>
       have hm0 : m ≠ 0 := Nat.ne_of_beq_eq_false hm
       exact .inr ⟨by omega, by simpa only [get0, hm, cond_false] using h⟩
   | false =>
     have hn0 : n ≠ 0 := Nat.ne_of_beq_eq_false hn
     simp only [hn, cond_false] at h
     cases h1 : Nat.beq (n % 2) 1 with
     | true =>
       have h1' := Nat.eq_of_beq_eq_true h1
       simp only [h1, cond_true, get0] at h
       cases hm : Nat.beq m 0 with
       | true =>
         have hm0 := Nat.eq_of_beq_eq_true hm
         exact .inr ⟨by omega, by simpa only [get0, hm, cond_true] using h⟩
       | false =>
         have hm0 : m ≠ 0 := Nat.ne_of_beq_eq_false hm
         simp only [hm, cond_false] at h
         cases h2 : Nat.beq (m % 2) 1 with
         | true =>
           have h2' := Nat.eq_of_beq_eq_true h2
           simp only [h2, cond_true] at h
           rcases get_set0 l _ _ _ _ h with ⟨a, b⟩ | ⟨a, b⟩
           ·exact .inl ⟨by omega, b⟩
           ·exact .inr ⟨by omega, by simpa only [get0, hm, cond_false, h2, cond_true] using b⟩
         | false =>
           simp only [h2, cond_false] at h
           have h2' : m % 2 ≠ 1 := Nat.ne_of_beq_eq_false h2
           exact .inr ⟨by omega, by simpa only [get0, hm, cond_false, h2] using h⟩
     | false =>
       have h1' : n % 2 ≠ 1 := Nat.ne_of_beq_eq_false h1
       simp only [h1, cond_false, get0] at h
       cases hm : Nat.beq m 0 with
       | true =>
         have hm0 := Nat.eq_of_beq_eq_true hm
         exact .inr ⟨by omega, by simpa only [get0, hm, cond_true] using h⟩
       | false =>
         have hm0 : m ≠ 0 := Nat.ne_of_beq_eq_false hm
         simp only [hm, cond_false] at h
         cases h2 : Nat.beq (m % 2) 1 with
         | true =>
           have h2' := Nat.eq_of_beq_eq_true h2
           simp only [h2, cond_true] at h
           exact .inr ⟨by omega, by simpa only [get0, hm, cond_false, h2, cond_true] using h⟩
         | false =>
           have h2' : m % 2 ≠ 1 := Nat.ne_of_beq_eq_false h2
           simp only [h2, cond_false] at h
           rcases get_set0 r _ _ _ _ h with ⟨a, b⟩ | ⟨a, b⟩
           ·exact .inl ⟨by omega, b⟩
           ·exact .inr ⟨by omega, by simpa only [get0, hm, cond_false, h2] using b⟩
noncomputable def get (t : Tr α) : Nat -> Option α :=
 Tr.rec (motive := fun _ => Nat -> Option α) (fun _ => none) (fun _ v _ gl gr n => Bool.rec (Bool.rec (gr (Nat.sub (Nat.div n 2) 1)) (gl (Nat.div n 2)) (Nat.beq (Nat.mod n 2) 1)) v (Nat.beq n 0)) t
noncomputable def single (f : Nat) (n : Nat) (x : α) : Tr α :=
 Nat.rec (motive := fun _ => Nat -> Tr α) (fun _ => .lf) (fun _ g n => Bool.rec (Bool.rec (.nd .lf none (g (Nat.sub (Nat.div n 2) 1))) (.nd (g (Nat.div n 2)) none .lf) (Nat.beq (Nat.mod n 2) 1)) (.nd .lf (some x) .lf) (Nat.beq n 0)) f n
noncomputable def set (t : Tr α) (n : Nat) (x : α) : Tr α :=
 Tr.rec (motive := fun _ => Nat -> Tr α) (fun n => single 24 n x) (fun l v r gl gr n => Bool.rec (Bool.rec (.nd l v (gr (Nat.sub (Nat.div n 2) 1))) (.nd (gl (Nat.div n 2)) v r) (Nat.beq (Nat.mod n 2) 1)) (.nd l (some x) r) (Nat.beq n 0)) t n
theorem get_eq : ∀ (t : Tr α) (n : Nat), t.get n = t.get0 n
 | .lf, _ => rfl
 | .nd l v r, n => by
   have e : get (.nd l v r) n = bif Nat.beq n 0 then v else bif Nat.beq (n % 2) 1 then l.get (n / 2) else r.get (n / 2 - 1) := by
    show Bool.rec (motive := fun _ => Option α) (Bool.rec (motive := fun _ => Option α) (get r (Nat.sub (Nat.div n 2) 1)) (get l (Nat.div n 2)) (Nat.beq (Nat.mod n 2) 1)) v (Nat.beq n 0) = _
    have e2 : Nat.beq (Nat.mod n 2) 1 = Nat.beq (n % 2) 1 := rfl
    rw [e2]
    cases Nat.beq n 0 <;> cases Nat.beq (n % 2) 1 <;> rfl
   rw [e, get0, get_eq l, get_eq r]
theorem single_eq (x : α) : ∀ (f n : Nat), single f n x = single0 f n x
 | 0, _ => rfl
 | f + 1, n => by
   have e : single (f + 1) n x = bif Nat.beq n 0 then .nd .lf (some x) .lf else bif Nat.beq (n % 2) 1 then .nd (single f (n / 2) x) none .lf else .nd .lf none (single f (n / 2 - 1) x) := by
    show Bool.rec (motive := fun _ => Tr α) (Bool.rec (motive := fun _ => Tr α) (Tr.nd .lf none (single f (Nat.sub (Nat.div n 2) 1) x)) (.nd (single f (Nat.div n 2) x) none .lf) (Nat.beq (Nat.mod n 2) 1)) (.nd .lf (some x) .lf) (Nat.beq n 0) = _
    have e2 : Nat.beq (Nat.mod n 2) 1 = Nat.beq (n % 2) 1 := rfl
    rw [e2]
    cases Nat.beq n 0 <;> cases Nat.beq (n % 2) 1 <;> rfl
   rw [e, single0, single_eq x f, single_eq x f]
theorem set_eq (x : α) : ∀ (t : Tr α) (n : Nat), t.set n x = t.set0 n x
 | .lf, n => single_eq x 24 n
 | .nd l v r, n => by
   have e : set (.nd l v r) n x = bif Nat.beq n 0 then .nd l (some x) r else bif Nat.beq (n % 2) 1 then .nd (l.set (n / 2) x) v r else .nd l v (r.set (n / 2 - 1) x) := by
    show Bool.rec (motive := fun _ => Tr α) (Bool.rec (motive := fun _ => Tr α) (Tr.nd l v (set r (Nat.sub (Nat.div n 2) 1) x)) (.nd (set l (Nat.div n 2) x) v r) (Nat.beq (Nat.mod n 2) 1)) (.nd l (some x) r) (Nat.beq n 0) = _
    have e2 : Nat.beq (Nat.mod n 2) 1 = Nat.beq (n % 2) 1 := rfl
    rw [e2]
    cases Nat.beq n 0 <;> cases Nat.beq (n % 2) 1 <;> rfl
   rw [e, set0, set_eq x l, set_eq x r]
theorem get_set (t : Tr α) (n : Nat) (x : α) (m : Nat) (y : α) (h : (t.set n x).get m = some y) : (m = n /\ y = x) \/ (m ≠ n /\ t.get m = some y) := by
 rw [get_eq, set_eq] at h
 rw [get_eq]
 exact get_set0 t n x m y h
end Tr
end Go.Eng
namespace Go.Eng
open Go Go.RowKit
def at_ (p : Pl) (j : Nat) : Addr := ⟨p.b, p.o + j, none⟩
def cellsAt (w : World) (p : Pl) (l : List Value) : Prop := ∀ j v, l[j]? = some v -> w.cell? (at_ p j) = some v
def unfr (w : World) (b : Nat) : Prop := ∀ o, w.frozen? ⟨b, o, none⟩ = false
def wrAt (w : World) (p : Pl) (n : Nat) : Prop := ∀ j, j < n -> (∃ v, w.cell? (at_ p j) = some v) /\ unfr w p.b
def disj (p : Pl) (n : Nat) (q : Pl) (m : Nat) : Prop := p.b ≠ q.b \/ p.o + n <= q.o \/ q.o + m <= p.o
def putCells (w : World) (p : Pl) : List Value -> World
 | [] => w
 | v :: l => putCells (w.setCell (at_ p 0) v) ⟨p.b, p.o + 1, p.c⟩ l
theorem at_succ (p : Pl) (j : Nat) : at_ ⟨p.b, p.o + 1, p.c⟩ j = at_ p (j + 1) := by simp [at_]; omega
theorem setCell_size (w : World) (a : Addr) (v : Value) : (w.setCell a v).heap.size = w.heap.size := by simp [World.setCell]
theorem setCell_block_ne (w : World) (a : Addr) (v : Value) (b : Nat) (h : b ≠ a.block) : (w.setCell a v).heap[b]? = w.heap[b]? := Below.heap_setCell w a v b h
theorem setCell_block (w : World) (a : Addr) (v : Value) : (w.setCell a v).heap[a.block]? = (w.heap[a.block]?).map fun
   | .cells c elem frozen => .cells (if a.spot.isSome then c else c.setIfInBounds a.off v) elem frozen
   | o => o := by
 simp only [World.setCell, Array.getElem?_modify, if_true]
 rfl
theorem cell?_setCell (w : World) (b o : Nat) (v : Value) (b' o' : Nat) (u : Value) (hold : w.cell? ⟨b', o', none⟩ = some u) :
  (w.setCell ⟨b, o, none⟩ v).cell? ⟨b', o', none⟩ = some (if b = b' /\ o = o' then v else u) := by
 unfold World.cell? at *
 by_cases hb : b' = b
 ·subst hb
  rw [setCell_block]
  simp only at hold ⊢
  cases h : w.heap[b']? with
  | none => simp [h] at hold
  | some ob =>
    rw [h] at hold
    cases ob <;> simp at hold ⊢
    rename_i c e f
    rw [Array.getElem?_setIfInBounds]
    by_cases ho : o = o'
    ·subst ho
     have : o < c.size := (Array.getElem?_eq_some_iff.1 hold).1
     simp [this]
    ·simp [ho, hold]
 ·rw [setCell_block_ne _ _ _ _ (by simpa using hb), if_neg (fun h => hb h.1.symm)]
  exact hold
theorem frozen?_setCell' (w : World) (a : Addr) (v : Value) (a' : Addr) : (w.setCell a v).frozen? a' = w.frozen? a' := by
 unfold World.frozen?
 by_cases hb : a'.block = a.block
 ·rw [hb, setCell_block]
  cases h : w.heap[a.block]? with
  | none => rfl
  | some ob => cases ob <;> rfl
 ·rw [setCell_block_ne _ _ _ _ hb]
theorem cell?_lt {w : World} {a : Addr} {v : Value} (h : w.cell? a = some v) : a.block < w.heap.size := by
 unfold World.cell? at h
 rcases Nat.lt_or_ge a.block w.heap.size with h' | h'
 ·exact h'
 ·simp [Array.getElem?_eq_none h'] at h
theorem putCells_size (l : List Value) : ∀ (w : World) (p : Pl), (putCells w p l).heap.size = w.heap.size := by
 induction l with
 | nil => intro w p; rfl
 | cons v l ih => intro w p; simp only [putCells, ih, setCell_size]
theorem putCells_frozen (l : List Value) : ∀ (w : World) (p : Pl) (a : Addr), (putCells w p l).frozen? a = w.frozen? a := by
 induction l with
 | nil => intro w p a; rfl
 | cons v l ih => intro w p a; simp only [putCells, ih, frozen?_setCell']
theorem putCells_os (l : List Value) : ∀ (w : World) (p : Pl), (putCells w p l).os = w.os /\ (putCells w p l).tape = w.tape /\ (putCells w p l).output = w.output /\ (putCells w p l).drawn = w.drawn := by
 induction l with
 | nil => intro w p; exact ⟨rfl, rfl, rfl, rfl⟩
 | cons v l ih => intro w p; exact ih _ _
theorem putCells_cell_out (l : List Value) : ∀ (w : World) (p : Pl) (b o : Nat) (u : Value), w.cell? ⟨b, o, none⟩ = some u -> (p.b ≠ b \/ o < p.o \/ p.o + l.length <= o) ->
  (putCells w p l).cell? ⟨b, o, none⟩ = some u := by
 induction l with
 | nil => intro w p b o u h _; exact h
 | cons v l ih =>
   intro w p b o u h hd
   simp only [putCells]
   refine ih _ _ _ _ _ ?_ ?_
   ·have := cell?_setCell w p.b (p.o + 0) v b o u h
    rw [at_, this, if_neg]
    rintro ⟨rfl, rfl⟩
    simp at hd
    omega
   ·simp only [List.length_cons] at hd; simp only; omega
theorem putCells_cell_in (l : List Value) : ∀ (w : World) (p : Pl) (j : Nat) (u v : Value), w.cell? (at_ p j) = some u -> l[j]? = some v -> (putCells w p l).cell? (at_ p j) = some v := by
 induction l with
 | nil => intro w p j u v _ h; simp at h
 | cons x l ih =>
   intro w p j u v h hv
   simp only [putCells]
   cases j with
   | zero =>
     simp at hv; subst hv
     have := cell?_setCell w p.b (p.o + 0) x p.b (p.o + 0) u h
     rw [if_pos ⟨rfl, rfl⟩] at this
     exact putCells_cell_out l _ _ _ _ _ this (.inr (.inl (by simp)))
   | succ j =>
     rw [<- at_succ]
     have := cell?_setCell w p.b (p.o + 0) x p.b (p.o + (j + 1)) u h
     refine ih _ _ j (if p.b = p.b /\ p.o + 0 = p.o + (j + 1) then x else u) v ?_ (by simpa using hv)
     rw [at_succ]; exact this
theorem putCells_cellsAt (w : World) (p : Pl) (l : List Value) (h : ∀ j, j < l.length -> ∃ v, w.cell? (at_ p j) = some v) : cellsAt (putCells w p l) p l := by
 intro j v hv
 obtain ⟨u, hu⟩ := h j (List.getElem?_eq_some_iff.1 hv).1
 exact putCells_cell_in l w p j u v hu hv
theorem putCells_some (l : List Value) : ∀ (w : World) (p : Pl) (b o : Nat) (u : Value), w.cell? ⟨b, o, none⟩ = some u -> ∃ u', (putCells w p l).cell? ⟨b, o, none⟩ = some u' := by
 induction l with
 | nil => intro w p b o u h; exact ⟨u, h⟩
 | cons v l ih => intro w p b o u h; exact ih _ _ _ _ _ (cell?_setCell w p.b (p.o + 0) v b o u h)
theorem wrAt_put {w : World} {p q : Pl} {l : List Value} {n : Nat} (h : wrAt w q n) : wrAt (putCells w p l) q n := by
 intro j hj
 obtain ⟨⟨v, hv⟩, hf⟩ := h j hj
 exact ⟨putCells_some l w p _ _ _ hv, fun o => by rw [putCells_frozen]; exact hf o⟩
structure SameBut (n0 : Nat) (D : Nat -> Nat -> Prop) (w0 w : World) : Prop where
 os : w.os = w0.os
 tape : w.tape = w0.tape
 output : w.output = w0.output
 size : w0.heap.size <= w.heap.size
 block : ∀ b, b < n0 -> w.heap[b]? = w0.heap[b]? \/ ∃ c c' e f, w0.heap[b]? = some (.cells c e f) /\ w.heap[b]? = some (.cells c' e f) /\ c.size = c'.size /\ ∀ j, ¬ D b j -> c'[j]? = c[j]?
theorem SameBut.refl (n0 : Nat) (D) (w : World) : SameBut n0 D w w := ⟨rfl, rfl, rfl, Nat.le_refl _, fun _ _ => .inl rfl⟩
theorem SameBut.of_below {n0 : Nat} {D} {w0 w w' : World} (h : SameBut n0 D w0 w) (hb : Below n0 w w') : SameBut n0 D w0 w' :=
 ⟨hb.os.trans h.os, hb.tape.trans h.tape, hb.output.trans h.output, Nat.le_trans h.size hb.size, fun b hlt => by rw [hb.block b hlt]; exact h.block b hlt⟩
theorem SameBut.setCell {n0 : Nat} {D : Nat -> Nat -> Prop} {w0 w : World} (h : SameBut n0 D w0 w) (b o : Nat) (v : Value) (hD : b < n0 -> D b o) : SameBut n0 D w0 (w.setCell ⟨b, o, none⟩ v) := by
 refine ⟨h.os, h.tape, h.output, by rw [setCell_size]; exact h.size, fun b' hlt => ?_⟩
 by_cases hb : b' = b
 ·subst hb
  rw [setCell_block]
  rcases h.block b' hlt with he | ⟨c, c', e, f, h1, h2, h3, h4⟩
  ·cases ho : w0.heap[b']? with
   | none => left; simp only; rw [he, ho]; rfl
   | some ob =>
     cases ob with
     | cells c e f =>
       right
       refine ⟨c, c.setIfInBounds o v, e, f, rfl, by simp only; rw [he, ho]; rfl, by simp, fun j hj => ?_⟩
       rw [Array.getElem?_setIfInBounds]
       by_cases hoj : o = j
       ·subst hoj; exact absurd (hD hlt) hj
       ·simp [hoj]
     | _ => left; simp only; rw [he, ho]; rfl
  ·right
   refine ⟨c, c'.setIfInBounds o v, e, f, h1, by simp only; rw [h2]; rfl, by simp [h3], fun j hj => ?_⟩
   rw [Array.getElem?_setIfInBounds]
   by_cases hoj : o = j
   ·subst hoj; exact absurd (hD hlt) hj
   ·simp [hoj, h4 j hj]
 ·rw [setCell_block_ne _ _ _ _ (by simpa using hb)]
  exact h.block b' hlt
theorem SameBut.putCells {n0 : Nat} {D : Nat -> Nat -> Prop} {w0 : World} : ∀ (l : List Value) {w : World} (p : Pl), SameBut n0 D w0 w -> (∀ j, j < l.length -> p.b < n0 -> D p.b (p.o + j)) -> SameBut n0 D w0 (putCells w p l)
 | [], _, _, h, _ => h
 | v :: l, w, p, h, hD => by
   refine SameBut.putCells l _ (h.setCell _ _ _ (fun hlt => by simpa using hD 0 (by simp) hlt)) (fun j hj hlt => ?_)
   have := hD (j + 1) (by simp; omega) hlt
   simpa [Nat.add_assoc, Nat.add_comm 1] using this
theorem SameBut.alloc {n0 : Nat} {D : Nat -> Nat -> Prop} {w0 w : World} (h : SameBut n0 D w0 w) (hn : n0 <= w.heap.size) (o : Obj) : SameBut n0 D w0 (w.alloc o) :=
 h.of_below ((Below.refl _ _).alloc hn o)
theorem below_of_sameBut {n0 : Nat} {D : Nat -> Nat -> Prop} {w0 w w' : World} (hd : w.os = w0.os /\ w.tape = w0.tape /\ w.output = w0.output /\ w.heap.size = w0.heap.size) (h : SameBut n0 D w0 w) (h' : SameBut n0 D w0 w') (_hn : n0 <= w0.heap.size)
  (hc : ∀ b o, b < n0 -> D b o -> w.cell? ⟨b, o, none⟩ = w'.cell? ⟨b, o, none⟩) : Below n0 w w' := by
 refine ⟨h'.os.trans h.os.symm, h'.tape.trans h.tape.symm, h'.output.trans h.output.symm, by rw [hd.2.2.2]; exact h'.size, fun b hlt => ?_⟩
 have key : ∀ {c c1 c2 : Array Value}, c1.size = c.size -> c2.size = c.size -> (∀ j, ¬ D b j -> c1[j]? = c[j]?) -> (∀ j, ¬ D b j -> c2[j]? = c[j]?) -> (∀ j, D b j -> c1[j]? = c2[j]?) -> c1 = c2 := by
  intro c c1 c2 s1 s2 a1 a2 a3
  refine Array.ext_getElem? fun j => ?_
  by_cases hj : D b j
  ·exact a3 j hj
  ·rw [a1 j hj, a2 j hj]
 have cell : ∀ (x : World) (c : Array Value) e f, x.heap[b]? = some (.cells c e f) -> ∀ j, x.cell? ⟨b, j, none⟩ = c[j]? := by
  intro x c e f hx j
  simp [World.cell?, hx]
 rcases h.block b hlt with e1 | ⟨c, c1, e, f, h1, h2, h3, h4⟩
 ·rcases h'.block b hlt with e2 | ⟨c', c2, e', f', k1, k2, k3, k4⟩
  ·rw [e1, e2]
  ·rw [k2, e1, k1]
   have : c2 = c' := key (c := c') k3.symm rfl k4 (fun _ _ => rfl) (fun j hj => by
    have := hc b j hlt hj
    rw [cell w c' e' f' (e1.trans k1), cell w' c2 e' f' k2] at this
    exact this.symm)
   rw [this]
 ·rcases h'.block b hlt with e2 | ⟨c', c2, e', f', k1, k2, k3, k4⟩
  ·rw [e2, h2, h1]
   have : c1 = c := key (c := c) h3.symm rfl h4 (fun _ _ => rfl) (fun j hj => by
    have := hc b j hlt hj
    rw [cell w c1 e f h2, cell w' c e f (e2.trans h1)] at this
    exact this)
   rw [this]
  ·rw [h1] at k1
   simp only [Option.some.injEq, Obj.cells.injEq] at k1
   obtain ⟨rfl, rfl, rfl⟩ := k1
   rw [h2, k2]
   have : c1 = c2 := key (c := c) h3.symm k3.symm h4 k4 (fun j hj => by
    have := hc b j hlt hj
    rwa [cell w c1 e f h2, cell w' c2 e f k2] at this)
   rw [this]
section
variable (K : Nat -> Kind)
def encs : List Nat -> List Int -> List Value
 | [], _ => []
 | k :: ks, xs => (K k).enc (xs.headD 0) ++ encs ks xs.tail
def oks : List Nat -> List Int -> Prop
 | [], _ => True
 | k :: ks, xs => (K k).ok (xs.headD 0) /\ oks ks xs.tail
def szs : List Nat -> Nat
 | [] => 0
 | k :: ks => (K k).size + szs ks
inductive ArgD where
 | ref (rd wr sl : Bool) (ks : List Nat)
 | val (k : Nat)
 | agg (ks : List Nat)
def ArgD.inKinds : ArgD -> List Nat
 | .ref true _ _ ks => ks
 | .val k => [k]
 | .agg ks => ks
 | _ => []
inductive RetD where
 | unit
 | arg (j : Nat)
 | vals (cs : List (Bool × List Nat))
structure Ctr where
 f : FuncId
 args : List ArgD
 ret : RetD
 sem : List Int -> List Int
 pre : List Int -> Prop
abbrev Act' := Pl × Nat
def insHold (w : World) : List ArgD -> List Act' -> List Int -> Prop
 | [], _, _ => True
 | .ref rd wr _ ks :: ds, as, xs =>
   (rd = true -> cellsAt w (as.headD (⟨0, 0, 0⟩, 0)).1 (encs K ks xs) /\ oks K ks xs) /\
   (wr = true -> wrAt w (as.headD (⟨0, 0, 0⟩, 0)).1 (szs K ks)) /\ insHold w ds as.tail (if rd then xs.drop ks.length else xs)
 | .val k :: ds, as, xs => oks K [k] xs /\ insHold w ds as.tail xs.tail
 | .agg ks :: ds, as, xs => oks K ks xs /\ insHold w ds as.tail (xs.drop ks.length)
def argVals : List ArgD -> List Act' -> List Int -> List Value
 | [], _, _ => []
 | .ref rd _ sl ks :: ds, as, xs =>
   (let a := as.headD (⟨0, 0, 0⟩, 0)
    if sl then .slice (some (at_ a.1 0)) (szs K ks) a.2 else .pointer (some (at_ a.1 0))) :: argVals ds as.tail (if rd then xs.drop ks.length else xs)
 | .val k :: ds, as, xs => ((encs K [k] xs).headD undef) :: argVals ds as.tail xs.tail
 | .agg ks :: ds, as, xs => .agg (encs K ks xs).toArray :: argVals ds as.tail (xs.drop ks.length)
def outsPut (w : World) : List ArgD -> List Act' -> List Int -> World
 | [], _, _ => w
 | .ref _ wr _ ks :: ds, as, ys =>
   if wr then outsPut (putCells w (as.headD (⟨0, 0, 0⟩, 0)).1 (encs K ks ys)) ds as.tail (ys.drop ks.length) else outsPut w ds as.tail ys
 | _ :: ds, as, ys => outsPut w ds as.tail ys
def outKinds : List ArgD -> List Nat
 | [] => []
 | .ref _ wr _ ks :: ds => if wr then ks ++ outKinds ds else outKinds ds
 | _ :: ds => outKinds ds
def RetD.kinds : RetD -> List Nat
 | .vals cs => cs.flatMap (·.2)
 | _ => []
def compVal (b : Bool) (ks : List Nat) (ys : List Int) : Value :=
 if b then .agg (encs K ks ys).toArray else (encs K ks ys).headD undef
def compVals : List (Bool × List Nat) -> List Int -> List Value
 | [], _ => []
 | (b, ks) :: cs, ys => compVal K b ks ys :: compVals cs (ys.drop ks.length)
def retV (r : RetD) (as : List Act') (ys : List Int) : Value :=
 match r with
 | .unit => .tuple #[]
 | .arg j => .pointer (some (at_ (as.getD j (⟨0, 0, 0⟩, 0)).1 0))
 | .vals [c] => compVal K c.1 c.2 ys
 | .vals cs => .tuple (compVals K cs ys).toArray
def ArgD.ref? : ArgD -> Option (Bool × List Nat)
 | .ref _ wr _ ks => some (wr, ks)
 | _ => none
def sepP (ds : List ArgD) (as : List Act') : Prop :=
 ∀ i j ki kj b, i ≠ j -> (ds[i]?).bind ArgD.ref? = some (true, ki) -> (ds[j]?).bind ArgD.ref? = some (b, kj) ->
  ((as.getD i (⟨0, 0, 0⟩, 0)).1 = (as.getD j (⟨0, 0, 0⟩, 0)).1 /\ ki = kj /\ b = false) \/ disj (as.getD i (⟨0, 0, 0⟩, 0)).1 (szs K ki) (as.getD j (⟨0, 0, 0⟩, 0)).1 (szs K kj)
def CallOK (P : Program) (f : FuncId) (args : Array Value) (w : World) (R : Value -> World -> Prop) : Prop :=
 (∃ v w', (callFunc f args).run P w = .ok (.value v) w' /\ R v w') \/
 ((callFunc f args).run P w = .ok (.enter f args) w /\ Calls P f args w fun e w' => ∃ v, e = .returned v /\ R v w')
def Ctr.Sound (P : Program) (c : Ctr) : Prop :=
 ∀ (w : World) (as : List Act') (xs : List Int), insHold K w c.args as xs -> sepP K c.args as -> c.pre xs ->
  oks K (outKinds c.args ++ c.ret.kinds) (c.sem xs) /\
  CallOK P c.f (argVals K c.args as xs).toArray w fun v w' =>
   v = retV K c.ret as ((c.sem xs).drop (outKinds c.args).length) /\ Below w.heap.size (outsPut K w c.args as (c.sem xs)) w'
end
theorem callOK_of_calls {P : Program} {f : FuncId} {args : Array Value} {w : World} {fn : Func} {R : Value -> World -> Prop} (hf : P.funcs[f]? = some fn) (hn : (fn.name == "runtime.NumGoroutine") = false) (hb : fn.body.isSome = true)
  (h : Calls P f args w fun e w' => ∃ v, e = .returned v /\ R v w') : CallOK P f args w R := by
 refine .inr ⟨?_, h⟩
 cases hbb : fn.body with
 | none => rw [hbb] at hb; cases hb
 | some b =>
   have hn' : ¬ fn.name = "runtime.NumGoroutine" := by simpa using hn
   simp [callFunc, program, bind, Sem.bind, Sem.run, hf, hn', hbb, pure]
end Go.Eng
namespace Go.Eng
open Go Go.RowKit
noncomputable section
inductive Fn where
 | bin (op : BinOp) (k : IntKind)
 | dvd (op : BinOp) (k : IntKind)
 | sh (op : BinOp) (k : IntKind)
 | cmp (op : BinOp)
 | neg (k : IntKind)
 | cpl (k : IntKind)
 | nt
 | conv (k : IntKind)
 | ctr (c : Ctr)
def binF (op : BinOp) (k : IntKind) (x y : Int) : Int :=
 match op with
 | .add => k.wrap (x + y)
 | .sub => k.wrap (x - y)
 | .mul => k.wrap (x * y)
 | .and => k.wrap (BitVec.ofInt k.bits x &&& BitVec.ofInt k.bits y).toNat
 | .or => k.wrap (BitVec.ofInt k.bits x ||| BitVec.ofInt k.bits y).toNat
 | .xor => k.wrap (BitVec.ofInt k.bits x ^^^ BitVec.ofInt k.bits y).toNat
 | .andNot => k.wrap (BitVec.ofInt k.bits x &&& ~~~BitVec.ofInt k.bits y).toNat
 | _ => 0
def dvdF (op : BinOp) (k : IntKind) (x y : Int) : Int :=
 match op with
 | .quo => k.wrap (x.tdiv y)
 | _ => x.tmod y
def shF (op : BinOp) (k : IntKind) (x y : Int) : Int :=
 match op with
 | .shl => k.wrap (x * 2 ^ (min y.toNat k.bits))
 | _ => x.fdiv (2 ^ (min y.toNat k.bits))
def cmpF (op : BinOp) (x y : Int) : Bool :=
 match op with
 | .eql => x == y
 | .neq => x != y
 | .lss => decide (x < y)
 | .leq => decide (x <= y)
 | .gtr => decide (x > y)
 | _ => decide (x ≥ y)
def cplF (k : IntKind) (x : Int) : Int := k.wrap (BitVec.ofInt k.bits (if k.signed then -1 else k.max) ^^^ BitVec.ofInt k.bits x).toNat
def b2i (b : Bool) : Int := if b then 1 else 0
def Fn.den : Fn -> List Int -> List Int
 | .bin op k, xs => [binF op k (xs.getD 0 0) (xs.getD 1 0)]
 | .dvd op k, xs => [dvdF op k (xs.getD 0 0) (xs.getD 1 0)]
 | .sh op k, xs => [shF op k (xs.getD 0 0) (xs.getD 1 0)]
 | .cmp op, xs => [b2i (cmpF op (xs.getD 0 0) (xs.getD 1 0))]
 | .neg k, xs => [k.wrap (0 - xs.getD 0 0)]
 | .cpl k, xs => [cplF k (xs.getD 0 0)]
 | .nt, xs => [if xs.getD 0 0 = 0 then 1 else 0]
 | .conv k, xs => [k.wrap (xs.getD 0 0)]
 | .ctr c, xs => c.sem xs
def Fn.pre : Fn -> List Int -> Prop
 | .dvd _ _, xs => xs.getD 1 0 ≠ 0
 | .sh _ _, xs => 0 <= xs.getD 1 0
 | .ctr c, xs => c.pre xs
 | _, _ => True
structure Reg where
 cells : List C
 wr : Bool
structure R where
 fn : Option (Fn × List A)
 kd : List Nat
 rds : List (Nat × Nat × List C)
 wcs : List (Nat × Nat × List C)
 al : List (Nat × List C)
 res : V
 dj : List (Nat × Nat × Bool) := []
def R.pure (v : V) : R := ⟨none, [], [], [], [], v, []⟩
structure Cx where
 P : Program
 ext : Nat -> Kind
 cs : List Ctr
 gl : List (Nat × Nat)
 dec : Nat -> List C -> Option Int
 inl : FuncId -> List V -> List Reg -> Option R
 xop : (Operand -> Option V) -> List Reg -> Oper -> Option R
 dq : FuncId -> List V -> List Reg -> Option (List (Nat × Nat × List C))
 alt : (Operand -> Option V) -> List Reg -> Oper -> Option (List R)
 ti : TypeId -> Option TypeInfo
 un : TypeId -> Option TypeDesc
 tiOK : ∀ {t i}, ti t = some i -> P.info? t = some i
 unOK : ∀ {t d}, un t = some d -> P.underlying t = some d
abbrev Cx.K (cx : Cx) := kinds cx.ext
def lookup : List (Nat × Nat) -> Nat -> Option Nat
 | [], _ => none
 | (a, b) :: l, n => bif Nat.beq a n then some b else lookup l n
def ev (cx : Cx) (t : Tr V) : Operand -> Option V
 | .tmp i => t.get i
 | .const v => some (ofConst v)
 | .global g => (lookup cx.gl g).map fun r => .one (.ptr r 0)
 | .func f => some (.one (.val (.func (.func f) #[] #[])))
def readC (M : List Reg) (r o n : Nat) : Option (List C) :=
 match M[r]? with
 | some reg => bif Nat.ble (o + n) reg.cells.length then some ((reg.cells.drop o).take n) else none
 | none => none
def canWr (M : List Reg) (r o n : Nat) : Bool :=
 match M[r]? with
 | some reg => reg.wr && Nat.ble (o + n) reg.cells.length
 | none => false
def okb (k : Nat) (z : Int) : Bool :=
 match fok k with
 | some ik => decide (ik.min <= z /\ z <= ik.max)
 | none => Nat.beq k 8 && (z == 0 || z == 1)
def aok (Γ : Tr Nat) (k : Nat) : A -> Bool
 | .v i => match Γ.get i with | some k' => Nat.beq k k' | none => false
 | .n z => okb k z
def sameCh (k : Nat) (a : A) : Nat -> List C -> Bool
 | _, [] => true
 | j, .ch k' a' j' :: l => Nat.beq k k' && A.beq a a' && Nat.beq j j' && sameCh k a (j + 1) l
 | _, _ :: _ => false
def parse1 (cx : Cx) (Γ : Tr Nat) (k : Nat) (l : List C) : Option A :=
 bif Nat.beq l.length (cx.K k).size then
  match l with
  | .ch k' a 0 :: _ => bif sameCh k a 0 l && aok Γ k a then some a else bif Nat.beq k k' then none else (cx.dec k l).map .n
  | _ => (cx.dec k l).map .n
 else none
def parseL (cx : Cx) (Γ : Tr Nat) : List Nat -> List C -> Option (List A)
 | [], [] => some []
 | [], _ :: _ => none
 | k :: ks, l =>
   match parse1 cx Γ k (l.take (cx.K k).size), parseL cx Γ ks (l.drop (cx.K k).size) with
   | some a, some as => some (a :: as)
   | _, _ => none
def chCells (k : Nat) (a : A) (n : Nat) : List C := (List.range n).map (.ch k a)
def newCells (cx : Cx) : List Nat -> Nat -> List C
 | [], _ => []
 | k :: ks, nv => chCells k (.v nv) (cx.K k).size ++ newCells cx ks (nv + 1)
structure CA where
 ins : List A
 as : List (Nat × Nat × Nat)
 rds : List (Nat × Nat × List C)
def doArgs (cx : Cx) (M : List Reg) (Γ : Tr Nat) : List ArgD -> List V -> Option CA
 | [], [] => some ⟨[], [], []⟩
 | .ref rd wr sl ks :: ds, v :: vs =>
   let n := szs cx.K ks
   let place : Option (Nat × Nat × Nat) := match sl, v with
    | false, .one (.ptr r o) => some (r, o, 0)
    | true, .one (.slc r o l c) => bif Nat.beq l n then some (r, o, c) else none
    | _, _ => none
   match place, doArgs cx M Γ ds vs with
   | some (r, o, c), some ca =>
     bif (wr && !canWr M r o n) || (!rd && !wr) then none else
     match rd with
     | false => some ⟨ca.ins, (r, o, c) :: ca.as, ca.rds⟩
     | true =>
       match readC M r o n with
       | some l => match parseL cx Γ ks l with
         | some as => some ⟨as ++ ca.ins, (r, o, c) :: ca.as, (r, o, l) :: ca.rds⟩
         | none => none
       | none => none
   | _, _ => none
 | .val k :: ds, v :: vs =>
   match v, doArgs cx M Γ ds vs with
   | .one c, some ca => match parseL cx Γ [k] [c] with
     | some as => some ⟨as ++ ca.ins, (0, 0, 0) :: ca.as, ca.rds⟩
     | none => none
   | _, _ => none
 | .agg ks :: ds, v :: vs =>
   match v, doArgs cx M Γ ds vs with
   | .agg l, some ca => match parseL cx Γ ks l with
     | some as => some ⟨as ++ ca.ins, (0, 0, 0) :: ca.as, ca.rds⟩
     | none => none
   | _, _ => none
 | _, _ => none
def doOuts (cx : Cx) : List ArgD -> List (Nat × Nat × Nat) -> Nat -> List (Nat × Nat × List C)
 | [], _, _ => []
 | .ref _ wr _ ks :: ds, as, nv =>
   bif wr then ((as.headD (0, 0, 0)).1, (as.headD (0, 0, 0)).2.1, newCells cx ks nv) :: doOuts cx ds as.tail (nv + ks.length) else doOuts cx ds as.tail nv
 | _ :: ds, as, nv => doOuts cx ds as.tail nv
def eqL : List Nat -> List Nat -> Bool
 | [], [] => true
 | a :: l, b :: m => Nat.beq a b && eqL l m
 | _, _ => false
def apart1 (cx : Cx) (d : ArgD) (a : Nat × Nat × Nat) (d' : ArgD) (a' : Nat × Nat × Nat) : Bool :=
 match d, d' with
 | .ref _ wr _ ks, .ref _ wr' _ ks' =>
   !(wr || wr') || !Nat.beq a.1 a'.1 || (Nat.beq a.2.1 a'.2.1 && eqL ks ks' && !(wr && wr')) || Nat.ble (a.2.1 + szs cx.K ks) a'.2.1 || Nat.ble (a'.2.1 + szs cx.K ks') a.2.1
 | _, _ => true
def apartL (cx : Cx) (d : ArgD) (a : Nat × Nat × Nat) : List ArgD -> List (Nat × Nat × Nat) -> Bool
 | [], _ => true
 | d' :: ds, as => apart1 cx d a d' (as.headD (0, 0, 0)) && apartL cx d a ds as.tail
def apartLL (cx : Cx) : List ArgD -> List (Nat × Nat × Nat) -> Bool
 | [], _ => true
 | d :: ds, as => apartL cx d (as.headD (0, 0, 0)) ds as.tail && apartLL cx ds as.tail
def compsV (cx : Cx) : List (Bool × List Nat) -> Nat -> List (Bool × List C)
 | [], _ => []
 | (b, ks) :: cs, nv => (b, newCells cx ks nv) :: compsV cx cs (nv + ks.length)
def retSym (cx : Cx) (r : RetD) (as : List (Nat × Nat × Nat)) (nv : Nat) : Option V :=
 match r with
 | .unit => some (.tup [])
 | .arg j => (as[j]?).map fun a => .one (.ptr a.1 a.2.1)
 | .vals [(true, ks)] => some (.agg (newCells cx ks nv))
 | .vals [(false, ks)] => match newCells cx ks nv with | c :: _ => some (.one c) | [] => none
 | .vals cs => some (.tup (compsV cx cs nv))
def findC : List Ctr -> Nat -> Option Ctr
 | [], _ => none
 | c :: cs, f => bif Nat.beq c.f f then some c else findC cs f
def evalCall (cx : Cx) (M : List Reg) (Γ : Tr Nat) (nv : Nat) (f : FuncId) (vs : List V) : Option R :=
 match findC cx.cs f with
 | none => cx.inl f vs M
 | some c =>
   match doArgs cx M Γ c.args vs with
   | none => none
   | some ca =>
     bif apartLL cx c.args ca.as then
      match retSym cx c.ret ca.as (nv + (outKinds c.args).length) with
      | none => none
      | some v => some { fn := some (.ctr c, ca.ins), kd := outKinds c.args ++ c.ret.kinds, rds := ca.rds, wcs := doOuts cx c.args ca.as nv, al := [], res := v }
     else none
def allM (evo : Operand -> Option V) : List Operand -> Option (List V)
 | [] => some []
 | x :: xs => match evo x, allM evo xs with
   | some v, some vs => some (v :: vs)
   | _, _ => none
def fillC (place : Nat -> Option (Nat × Nat)) (cells : List C) : List (Nat × V) -> Option (List C)
 | [] => some cells
 | (i, v) :: rest =>
   match place i, v.cells with
   | some (off, size), some cs =>
     bif Nat.beq cs.length size && Nat.ble (off + size) cells.length then fillC place (cells.take off ++ cs ++ cells.drop (off + size)) rest else none
   | _, _ => none
def evPairs (evo : Operand -> Option V) : List (Nat × Operand) -> Option (List (Nat × V))
 | [] => some []
 | (i, x) :: xs => match evo x, evPairs evo xs with
   | some v, some vs => some ((i, v) :: vs)
   | _, _ => none
def isAggD : TypeDesc -> Bool
 | .struct _ | .array _ _ => true
 | _ => false
def intLit : V -> Option Int
 | .one (.ch k (.n z) 0) => match fok k with | some _ => some z | none => none
 | _ => none
def isArith : BinOp -> Bool
 | .add | .sub | .mul | .and | .or | .xor | .andNot => true
 | _ => false
def isCmp : BinOp -> Bool
 | .eql | .neq | .lss | .leq | .gtr | .geq => true
 | _ => false
def zeroCells (cx : Cx) (t : TypeId) : Option (List C) :=
 match cx.ti t with
 | some i => match i.zero with
   | some v => (ofConst v).cells
   | none => none
 | none => none
def C.sto (cx : Cx) : C -> Bool
 | .ch k _ j => Nat.blt j (cx.K k).size
 | .val v => oneC v
 | _ => true
def pickO (z : Int) (a b : Option V) : Option V := match Int.decEq z 0 with | .isTrue _ => b | .isFalse _ => a
theorem pickO_eq (z : Int) (a b : Option V) : pickO z a b = if z = 0 then b else a := by
 unfold pickO
 split <;> simp_all
def evalOp0 (cx : Cx) (evo : Operand -> Option V) (M : List Reg) (Γ : Tr Nat) (nv : Nat) (o : Oper) : Option R :=
 match o.op with
 | .move x | .assign x => (evo x).map .pure
 | .pick c a b => match evo c with
   | some (.one (.ch 8 (.n z) 0)) => (pickO z (evo a) (evo b)).map .pure
   | _ => none
 | .nilCheck x => match evo x with
   | some (.one (.ptr r o)) => some (.pure (.one (.ptr r o)))
   | some (.one (.val (.func (.func f) a b))) => some (.pure (.one (.val (.func (.func f) a b))))
   | _ => none
 | .alloc t => match zeroCells cx t with
   | some cs => some { fn := none, kd := [], rds := [], wcs := [], al := [(M.length, cs)], res := .one (.ptr M.length 0) }
   | none => none
 | .box _ x => match (evo x).bind V.cells with
   | some cs => bif !cs.all (C.sto cx) || !menLt M.length cs then none else some { fn := none, kd := [], rds := [], wcs := [], al := [(M.length, cs)], res := .one (.ptr M.length 0) }
   | none => none
 | .load t x => match evo x, cx.un t with
   | some (.one (.ptr r o)), some d =>
     match isAggD d with
     | true => match readC M r o (match cx.ti t with | some i => i.size | none => 0), cx.ti t with
       | some cs, some _ => some { fn := none, kd := [], rds := [(r, o, cs)], wcs := [], al := [], res := .agg cs }
       | _, _ => none
     | false => match readC M r o 1 with
       | some [c] => some { fn := none, kd := [], rds := [(r, o, [c])], wcs := [], al := [], res := .one c }
       | _ => none
   | _, _ => none
 | .store t x y => match evo x, (evo y).bind V.cells, cx.ti t with
   | some (.one (.ptr r o)), some cs, some i =>
     bif Nat.beq cs.length i.size && canWr M r o cs.length && cs.all (C.sto cx) then some { fn := none, kd := [], rds := [], wcs := [(r, o, cs)], al := [], res := undefV } else none
   | _, _, _ => none
 | .binOp op _ x y _ => match evo x, evo y with
   | some (.one (.ch k a 0)), some (.one (.ch k' b 0)) =>
     match fok k, fok k' with
     | some ik, some _ =>
       bif aok Γ k a && aok Γ k' b then
        match op with
        | .shl | .shr => some { fn := some (.sh op ik, [a, b]), kd := [k], rds := [], wcs := [], al := [], res := .one (.ch k (.v nv) 0) }
        | .quo | .rem => bif Nat.beq k k' then some { fn := some (.dvd op ik, [a, b]), kd := [k], rds := [], wcs := [], al := [], res := .one (.ch k (.v nv) 0) } else none
        | _ =>
          bif Nat.beq k k' then
           bif isArith op then
            match a, b with
            | .n x, .n y => some (.pure (.one (.ch k (.n (binF op ik x y)) 0)))
            | _, _ => some { fn := some (.bin op ik, [a, b]), kd := [k], rds := [], wcs := [], al := [], res := .one (.ch k (.v nv) 0) }
           else bif isCmp op then
            match a, b with
            | .n x, .n y => some (.pure (.one (.ch 8 (.n (b2i (cmpF op x y))) 0)))
            | _, _ => some { fn := some (.cmp op, [a, b]), kd := [8], rds := [], wcs := [], al := [], res := .one (.ch 8 (.v nv) 0) }
           else none
          else none
       else none
     | _, _ => none
   | _, _ => none
 | .unOp op _ x => match op, evo x with
   | .not, some (.one (.ch 8 a 0)) => match a with
     | .n z => some (.pure (.one (.ch 8 (.n (if z = 0 then 1 else 0)) 0)))
     | _ => some { fn := some (.nt, [a]), kd := [8], rds := [], wcs := [], al := [], res := .one (.ch 8 (.v nv) 0) }
   | .neg, some (.one (.ch k a 0)) => match fok k with
     | some ik => some { fn := some (.neg ik, [a]), kd := [k], rds := [], wcs := [], al := [], res := .one (.ch k (.v nv) 0) }
     | none => none
   | .xor, some (.one (.ch k a 0)) => match fok k with
     | some ik => some { fn := some (.cpl ik, [a]), kd := [k], rds := [], wcs := [], al := [], res := .one (.ch k (.v nv) 0) }
     | none => none
   | _, _ => none
 | .convert s d x => match evo x, cx.un s, cx.un d with
   | some (.one (.ch k a 0)), some _, some (.int ik) => match fok k with
     | some _ => match a with
       | .n z => some (.pure (.one (.ch (kof ik) (.n (ik.wrap z)) 0)))
       | _ => some { fn := some (.conv ik, [a]), kd := [kof ik], rds := [], wcs := [], al := [], res := .one (.ch (kof ik) (.v nv) 0) }
     | none => none
   | _, _, _ => none
 | .fieldAddr s x i => match evo x, cx.un s with
   | some (.one (.ptr r o)), some (.struct fs) => match fs[i]? with
     | some f => match cx.ti f.type with
       | some inf => bif Nat.beq inf.size 0 then none else some (.pure (.one (.ptr r (o + f.offset))))
       | none => none
     | none => none
   | _, _ => none
 | .indexAddr t x i => match evo x, cx.un t, (evo i).bind intLit with
   | some (.one (.ptr r o)), some (.array len e), some (.ofNat n) => match cx.ti e with
     | some inf => bif Nat.blt n len then some (.pure (.one (.ptr r (o + n * inf.size)))) else none
     | none => none
   | some (.one (.slc r o len _)), some (.slice e), some (.ofNat n) => match cx.ti e with
     | some inf => bif Nat.blt n len then some (.pure (.one (.ptr r (o + n * inf.size)))) else none
     | none => none
   | _, _, _ => none
 | .field t x i => match evo x, cx.un t with
   | some (.agg cs), some (.struct fs) => match fs[i]? with
     | some f => match cx.un f.type, cx.ti f.type with
       | some d, some inf => match isAggD d with
         | true => some (.pure (.agg ((cs.drop f.offset).take inf.size)))
         | false => match cs[f.offset]? with
           | some c => some (.pure (.one c))
           | none => none
       | _, _ => none
     | none => none
   | _, _ => none
 | .index t x i => match evo x, cx.un t, (evo i).bind intLit with
   | some (.agg cs), some (.array len e), some (.ofNat n) => match cx.un e, cx.ti e with
     | some d, some inf =>
       bif Nat.blt n len then
        match isAggD d with
        | true => some (.pure (.agg ((cs.drop (n * inf.size)).take inf.size)))
        | false => match cs[n * inf.size]? with
          | some c => some (.pure (.one c))
          | none => none
       else none
     | _, _ => none
   | _, _, _ => none
 | .build t ps => match zeroCells cx t, cx.un t, evPairs evo ps.toList with
   | some z, some (.array _ e), some vs => match cx.ti e with
     | some inf => bif (vs.flatMap (fun p => (p.2.cells).getD [])).all (C.sto cx) then (fillC (fun i => some (i * inf.size, inf.size)) z vs).map fun cs => .pure (.agg cs) else none
     | none => none
   | _, _, _ => none
 | .extract x i => match evo x with
   | some (.tup vs) => match vs[i]? with
     | some (true, cs) => some (.pure (.agg cs))
     | some (false, [c]) => some (.pure (.one c))
     | _ => none
   | _ => none
 | .slice t x lo hi none => match evo x, cx.un t with
   | some (.one (.ptr r o)), some (.array n e) =>
     let get (y : Option Operand) (d : Nat) : Option Nat := match y with
      | none => some d
      | some y => match (evo y).bind intLit with | some (.ofNat z) => some z | _ => none
     match get lo 0, get hi n, cx.ti e with
     | some l, some h, some inf => bif Nat.ble l h && Nat.ble h n && Nat.blt l n then some (.pure (.one (.slc r (o + l * inf.size) (h - l) (n - l)))) else none
     | _, _, _ => none
   | _, _ => none
 | .call { callee := .value g, args, .. } => match evo g, allM evo args.toList with
   | some (.one (.val (.func (.func f) a b))), some vs => bif Nat.beq a.size 0 && Nat.beq b.size 0 then evalCall cx M Γ nv f vs else none
   | _, _ => none
 | _ => none
def op_mv (cx : Cx) (evo : Operand -> Option V) (M : List Reg) (Γ : Tr Nat) (nv : Nat) (x : Operand) : Option R := (evo x).map .pure
def op_pick (cx : Cx) (evo : Operand -> Option V) (M : List Reg) (Γ : Tr Nat) (nv : Nat) (c a b : Operand) : Option R := match evo c with
 | some (.one (.ch 8 (.n z) 0)) => (pickO z (evo a) (evo b)).map .pure
 | _ => none
def op_nil (cx : Cx) (evo : Operand -> Option V) (M : List Reg) (Γ : Tr Nat) (nv : Nat) (x : Operand) : Option R := match evo x with
 | some (.one (.ptr r o)) => some (.pure (.one (.ptr r o)))
 | some (.one (.val (.func (.func f) a b))) => some (.pure (.one (.val (.func (.func f) a b))))
 | _ => none
def op_alloc (cx : Cx) (evo : Operand -> Option V) (M : List Reg) (Γ : Tr Nat) (nv : Nat) (t : TypeId) : Option R := match zeroCells cx t with
 | some cs => some { fn := none, kd := [], rds := [], wcs := [], al := [(M.length, cs)], res := .one (.ptr M.length 0) }
 | none => none
def op_box (cx : Cx) (evo : Operand -> Option V) (M : List Reg) (Γ : Tr Nat) (nv : Nat) (x : Operand) : Option R := match (evo x).bind V.cells with
 | some cs => bif !cs.all (C.sto cx) || !menLt M.length cs then none else some { fn := none, kd := [], rds := [], wcs := [], al := [(M.length, cs)], res := .one (.ptr M.length 0) }
 | none => none
def op_load (cx : Cx) (evo : Operand -> Option V) (M : List Reg) (Γ : Tr Nat) (nv : Nat) (t : TypeId) (x : Operand) : Option R := match evo x, cx.un t with
 | some (.one (.ptr r o)), some d =>
   match isAggD d with
   | true => match readC M r o (match cx.ti t with | some i => i.size | none => 0), cx.ti t with
     | some cs, some _ => some { fn := none, kd := [], rds := [(r, o, cs)], wcs := [], al := [], res := .agg cs }
     | _, _ => none
   | false => match readC M r o 1 with
     | some [c] => some { fn := none, kd := [], rds := [(r, o, [c])], wcs := [], al := [], res := .one c }
     | _ => none
 | _, _ => none
def op_store (cx : Cx) (evo : Operand -> Option V) (M : List Reg) (Γ : Tr Nat) (nv : Nat) (t : TypeId) (x y : Operand) : Option R := match evo x, (evo y).bind V.cells, cx.ti t with
 | some (.one (.ptr r o)), some cs, some i =>
   bif Nat.beq cs.length i.size && canWr M r o cs.length && cs.all (C.sto cx) then some { fn := none, kd := [], rds := [], wcs := [(r, o, cs)], al := [], res := undefV } else none
 | _, _, _ => none
def op_bin (cx : Cx) (evo : Operand -> Option V) (M : List Reg) (Γ : Tr Nat) (nv : Nat) (op : BinOp) (x y : Operand) : Option R := match evo x, evo y with
 | some (.one (.ch k a 0)), some (.one (.ch k' b 0)) =>
   match fok k, fok k' with
   | some ik, some _ =>
     bif aok Γ k a && aok Γ k' b then
      match op with
      | .shl | .shr => some { fn := some (.sh op ik, [a, b]), kd := [k], rds := [], wcs := [], al := [], res := .one (.ch k (.v nv) 0) }
      | .quo | .rem => bif Nat.beq k k' then some { fn := some (.dvd op ik, [a, b]), kd := [k], rds := [], wcs := [], al := [], res := .one (.ch k (.v nv) 0) } else none
      | _ =>
        bif Nat.beq k k' then
         bif isArith op then
          match a, b with
          | .n x, .n y => some (.pure (.one (.ch k (.n (binF op ik x y)) 0)))
          | _, _ => some { fn := some (.bin op ik, [a, b]), kd := [k], rds := [], wcs := [], al := [], res := .one (.ch k (.v nv) 0) }
         else bif isCmp op then
          match a, b with
          | .n x, .n y => some (.pure (.one (.ch 8 (.n (b2i (cmpF op x y))) 0)))
          | _, _ => some { fn := some (.cmp op, [a, b]), kd := [8], rds := [], wcs := [], al := [], res := .one (.ch 8 (.v nv) 0) }
         else none
        else none
     else none
   | _, _ => none
 | _, _ => none
def op_un (cx : Cx) (evo : Operand -> Option V) (M : List Reg) (Γ : Tr Nat) (nv : Nat) (op : UnOp) (x : Operand) : Option R := match op, evo x with
 | .not, some (.one (.ch 8 a 0)) => match a with
   | .n z => some (.pure (.one (.ch 8 (.n (if z = 0 then 1 else 0)) 0)))
   | _ => some { fn := some (.nt, [a]), kd := [8], rds := [], wcs := [], al := [], res := .one (.ch 8 (.v nv) 0) }
 | .neg, some (.one (.ch k a 0)) => match fok k with
   | some ik => some { fn := some (.neg ik, [a]), kd := [k], rds := [], wcs := [], al := [], res := .one (.ch k (.v nv) 0) }
   | none => none
 | .xor, some (.one (.ch k a 0)) => match fok k with
   | some ik => some { fn := some (.cpl ik, [a]), kd := [k], rds := [], wcs := [], al := [], res := .one (.ch k (.v nv) 0) }
   | none => none
 | _, _ => none
def op_conv (cx : Cx) (evo : Operand -> Option V) (M : List Reg) (Γ : Tr Nat) (nv : Nat) (s d : TypeId) (x : Operand) : Option R := match evo x, cx.un s, cx.un d with
 | some (.one (.ch k a 0)), some _, some (.int ik) => match fok k with
   | some _ => match a with
     | .n z => some (.pure (.one (.ch (kof ik) (.n (ik.wrap z)) 0)))
     | _ => some { fn := some (.conv ik, [a]), kd := [kof ik], rds := [], wcs := [], al := [], res := .one (.ch (kof ik) (.v nv) 0) }
   | none => none
 | _, _, _ => none
def op_fa (cx : Cx) (evo : Operand -> Option V) (M : List Reg) (Γ : Tr Nat) (nv : Nat) (s : TypeId) (x : Operand) (i : Nat) : Option R := match evo x, cx.un s with
 | some (.one (.ptr r o)), some (.struct fs) => match fs[i]? with
   | some f => match cx.ti f.type with
     | some inf => bif Nat.beq inf.size 0 then none else some (.pure (.one (.ptr r (o + f.offset))))
     | none => none
   | none => none
 | _, _ => none
def op_ia (cx : Cx) (evo : Operand -> Option V) (M : List Reg) (Γ : Tr Nat) (nv : Nat) (t : TypeId) (x i : Operand) : Option R := match evo x, cx.un t, (evo i).bind intLit with
 | some (.one (.ptr r o)), some (.array len e), some (.ofNat n) => match cx.ti e with
   | some inf => bif Nat.blt n len then some (.pure (.one (.ptr r (o + n * inf.size)))) else none
   | none => none
 | some (.one (.slc r o len _)), some (.slice e), some (.ofNat n) => match cx.ti e with
   | some inf => bif Nat.blt n len then some (.pure (.one (.ptr r (o + n * inf.size)))) else none
   | none => none
 | _, _, _ => none
def op_fld (cx : Cx) (evo : Operand -> Option V) (M : List Reg) (Γ : Tr Nat) (nv : Nat) (t : TypeId) (x : Operand) (i : Nat) : Option R := match evo x, cx.un t with
 | some (.agg cs), some (.struct fs) => match fs[i]? with
   | some f => match cx.un f.type, cx.ti f.type with
     | some d, some inf => match isAggD d with
       | true => some (.pure (.agg ((cs.drop f.offset).take inf.size)))
       | false => match cs[f.offset]? with
         | some c => some (.pure (.one c))
         | none => none
     | _, _ => none
   | none => none
 | _, _ => none
def op_idx (cx : Cx) (evo : Operand -> Option V) (M : List Reg) (Γ : Tr Nat) (nv : Nat) (t : TypeId) (x i : Operand) : Option R := match evo x, cx.un t, (evo i).bind intLit with
 | some (.agg cs), some (.array len e), some (.ofNat n) => match cx.un e, cx.ti e with
   | some d, some inf =>
     bif Nat.blt n len then
      match isAggD d with
      | true => some (.pure (.agg ((cs.drop (n * inf.size)).take inf.size)))
      | false => match cs[n * inf.size]? with
        | some c => some (.pure (.one c))
        | none => none
     else none
   | _, _ => none
 | _, _, _ => none
def op_bld (cx : Cx) (evo : Operand -> Option V) (M : List Reg) (Γ : Tr Nat) (nv : Nat) (t : TypeId) (ps : Array (Nat × Operand)) : Option R := match zeroCells cx t, cx.un t, evPairs evo ps.toList with
 | some z, some (.array _ e), some vs => match cx.ti e with
   | some inf => bif (vs.flatMap (fun p => (p.2.cells).getD [])).all (C.sto cx) then (fillC (fun i => some (i * inf.size, inf.size)) z vs).map fun cs => .pure (.agg cs) else none
   | none => none
 | _, _, _ => none
def op_ext (cx : Cx) (evo : Operand -> Option V) (M : List Reg) (Γ : Tr Nat) (nv : Nat) (x : Operand) (i : Nat) : Option R := match evo x with
 | some (.tup vs) => match vs[i]? with
   | some (true, cs) => some (.pure (.agg cs))
   | some (false, [c]) => some (.pure (.one c))
   | _ => none
 | _ => none
def op_slc (cx : Cx) (evo : Operand -> Option V) (M : List Reg) (Γ : Tr Nat) (nv : Nat) (t : TypeId) (x : Operand) (lo hi : Option Operand) : Option R := match evo x, cx.un t with
 | some (.one (.ptr r o)), some (.array n e) =>
   let get (y : Option Operand) (d : Nat) : Option Nat := match y with
    | none => some d
    | some y => match (evo y).bind intLit with | some (.ofNat z) => some z | _ => none
   match get lo 0, get hi n, cx.ti e with
   | some l, some h, some inf => bif Nat.ble l h && Nat.ble h n && Nat.blt l n then some (.pure (.one (.slc r (o + l * inf.size) (h - l) (n - l)))) else none
   | _, _, _ => none
 | _, _ => none
def op_call (cx : Cx) (evo : Operand -> Option V) (M : List Reg) (Γ : Tr Nat) (nv : Nat) (g : Operand) (args : Array Operand) : Option R := match evo g, allM evo args.toList with
 | some (.one (.val (.func (.func f) a b))), some vs => bif Nat.beq a.size 0 && Nat.beq b.size 0 then evalCall cx M Γ nv f vs else none
 | _, _ => none
def evalOpF (cx : Cx) (evo : Operand -> Option V) (M : List Reg) (Γ : Tr Nat) (nv : Nat) (o : Oper) : Option R :=
 match o.op with
 | .move x | .assign x => op_mv cx evo M Γ nv x
 | .pick c a b => op_pick cx evo M Γ nv c a b
 | .nilCheck x => op_nil cx evo M Γ nv x
 | .alloc t => op_alloc cx evo M Γ nv t
 | .box _ x => op_box cx evo M Γ nv x
 | .load t x => op_load cx evo M Γ nv t x
 | .store t x y => op_store cx evo M Γ nv t x y
 | .binOp op _ x y _ => op_bin cx evo M Γ nv op x y
 | .unOp op _ x => op_un cx evo M Γ nv op x
 | .convert s d x => op_conv cx evo M Γ nv s d x
 | .fieldAddr s x i => op_fa cx evo M Γ nv s x i
 | .indexAddr t x i => op_ia cx evo M Γ nv t x i
 | .field t x i => op_fld cx evo M Γ nv t x i
 | .index t x i => op_idx cx evo M Γ nv t x i
 | .build t ps => op_bld cx evo M Γ nv t ps
 | .extract x i => op_ext cx evo M Γ nv x i
 | .slice t x lo hi none => op_slc cx evo M Γ nv t x lo hi
 | .call { callee := .value g, args, .. } => op_call cx evo M Γ nv g args
 | _ => none
theorem evalOpF_eq (cx : Cx) (evo : Operand -> Option V) (M : List Reg) (Γ : Tr Nat) (nv : Nat) (o : Oper) : evalOpF cx evo M Γ nv o = evalOp0 cx evo M Γ nv o := by
 obtain ⟨dst, op, type, pos, after, guard⟩ := o
 cases op with
 | slice t x lo hi mx => cases mx <;> rfl
 | call c =>
   obtain ⟨callee, args, at_⟩ := c
   cases callee <;> rfl
 | _ => rfl
def evalOp (cx : Cx) (evo : Operand -> Option V) (M : List Reg) (Γ : Tr Nat) (nv : Nat) (o : Oper) : Option R :=
 match cx.xop evo M o with
 | some r => some r
 | none => evalOpF cx evo M Γ nv o
theorem evalOp_eq (cx : Cx) (evo : Operand -> Option V) (M : List Reg) (Γ : Tr Nat) (nv : Nat) (o : Oper) : evalOp cx evo M Γ nv o = match cx.xop evo M o with | some r => some r | none => evalOp0 cx evo M Γ nv o := by
 unfold evalOp; rw [evalOpF_eq]
end
end Go.Eng
namespace Go.Eng
open Go Go.RowKit
noncomputable section
section
variable (cx : Cx) (ρ : Nat -> Int)
def pl (φ : Nat -> Pl) (r o : Nat) : Pl := ⟨(φ r).b, (φ r).o + o, (φ r).c⟩
def updP (φ : Nat -> Pl) (n : Nat) (p : Pl) : Nat -> Pl := fun m => if m = n then p else φ m
abbrev denL (φ : Nat -> Pl) (cs : List C) : List Value := cs.map (C.den cx.K ρ φ)
def DjE (φ : Nat -> Pl) (w : World) (l : List (Nat × Nat × Bool)) : Prop :=
 (∀ x ∈ l, (∀ j, j < x.2.1 -> ∃ v, w.cell? (at_ (φ x.1) j) = some v) /\ (x.2.2 = true -> ∀ j, j < x.2.1 -> unfr w (φ x.1).b) /\ (φ x.1).b < w.heap.size) /\
 (∀ x ∈ l, ∀ y ∈ l, x.1 ≠ y.1 -> x.2.2 = true -> disj (φ x.1) x.2.1 (φ y.1) y.2.1)
def PreE (φ : Nat -> Pl) (w : World) (r : R) : Prop :=
 (∀ x ∈ r.rds, cellsAt w (pl φ x.1 x.2.1) (denL cx ρ φ x.2.2)) /\
 (∀ x ∈ r.wcs, wrAt w (pl φ x.1 x.2.1) x.2.2.length) /\
 (∀ x ∈ r.wcs, ∀ y ∈ r.rds ++ r.wcs, x.1 ≠ y.1 -> disj (pl φ x.1 x.2.1) x.2.2.length (pl φ y.1 y.2.1) y.2.2.length) /\
 DjE φ w r.dj /\ ∀ g rr, lookup cx.gl g = some rr -> φ rr = ⟨g, 0, 0⟩
def putW (φ : Nat -> Pl) (w : World) : List (Nat × Nat × List C) -> World
 | [] => w
 | x :: l => putW φ (putCells w (pl φ x.1 x.2.1) (denL cx ρ φ x.2.2)) l
def PostE (φ : Nat -> Pl) (w : World) (r : R) (φ' : Nat -> Pl) (w' : World) : Prop :=
 (∀ m, (∀ x ∈ r.al, x.1 ≠ m) -> φ' m = φ m) /\
 (∀ x ∈ r.al, w.heap.size <= (φ' x.1).b /\ (φ' x.1).b < w'.heap.size /\ cellsAt w' (φ' x.1) (denL cx ρ φ' x.2) /\ wrAt w' (φ' x.1) x.2.length) /\
 (∀ x ∈ r.al, ∀ y ∈ r.al, x.1 ≠ y.1 -> disj (φ' x.1) x.2.length (φ' y.1) y.2.length) /\
 Below w.heap.size (putW cx ρ φ' w r.wcs) w'
theorem PostE.plain {φ : Nat -> Pl} {w w' : World} {r : R} (ha : r.al = []) (h : Below w.heap.size (putW cx ρ φ w r.wcs) w') : PostE cx ρ φ w r φ w' :=
 ⟨fun _ _ => rfl, fun x hx => (by rw [ha] at hx; cases hx), fun x hx => (by rw [ha] at hx; cases hx), h⟩
def FnOK (nv : Nat) (r : R) : Prop :=
 match r.fn with
 | none => True
 | some (f, as) => f.pre (as.map (A.den ρ)) /\ ∀ i, i < r.kd.length -> ρ (nv + i) = (f.den (as.map (A.den ρ))).getD i 0
def GamOK (Γ : Tr Nat) : Prop := ∀ i k, Γ.get i = some k -> (cx.K k).ok (ρ i)
def RunOK (evo : Operand -> Option V) (o : Oper) (r : R) : Prop :=
 ∀ (φ : Nat -> Pl) (a : Act) (w : World) (next : Act -> World -> Prop) (Q : Exit -> Act -> World -> Prop),
  (∀ x v, evo x = some v -> a.eval x = v.den cx.K ρ φ) -> PreE cx ρ φ w r ->
  (∀ φ' w', PostE cx ρ φ w r φ' w' -> next (a.put o.dst (r.res.den cx.K ρ φ')) w') -> o.wp cx.P a w next Q
def MemOK (M : List Reg) (r : R) : Prop :=
 (∀ x ∈ r.rds, ∃ reg, M[x.1]? = some reg /\ x.2.1 + x.2.2.length <= reg.cells.length /\ ∀ j c, x.2.2[j]? = some c -> reg.cells[x.2.1 + j]? = some c) /\
 (∀ x ∈ r.wcs, ∃ reg, M[x.1]? = some reg /\ reg.wr = true /\ x.2.1 + x.2.2.length <= reg.cells.length) /\
 (∀ i x, r.al[i]? = some x -> x.1 = M.length + i) /\
 (∀ x ∈ r.dj, ∃ reg, M[x.1]? = some reg /\ reg.cells.length = x.2.1 /\ reg.wr = x.2.2)
theorem MemOK.plain {M : List Reg} {r : R} (h1 : r.rds = []) (h2 : r.wcs = []) (h3 : r.al = []) (h4 : r.dj = []) : MemOK M r :=
 ⟨fun x hx => (by rw [h1] at hx; cases hx), fun x hx => (by rw [h2] at hx; cases hx), fun i x hn => (by rw [h3] at hn; simp at hn), fun x hx => (by rw [h4] at hx; cases hx)⟩
def AltOK (evo : Operand -> Option V) (o : Oper) (rs : List R) : Prop :=
 ∀ (φ : Nat -> Pl) (a : Act) (w : World) (next : Act -> World -> Prop) (Q : Exit -> Act -> World -> Prop),
  (∀ x v, evo x = some v -> a.eval x = v.den cx.K ρ φ) -> (∀ r ∈ rs, PreE cx ρ φ w r) ->
  (∀ r ∈ rs, ∀ φ' w', PostE cx ρ φ w r φ' w' -> next (a.put o.dst (r.res.den cx.K ρ φ')) w') -> o.wp cx.P a w next Q
def QuietD (P : Program) (f : FuncId) (args : Array Value) (w : World) : Prop :=
 (callFunc f args).run P w = .ok (.enter f args) w /\ ∀ u, CallsD P f args u w fun e u' w' => (∃ v, e = .returned v) /\ u' = u /\ w' = w
structure Cx.Good : Prop where
 kinds : ∀ k, (cx.K k).Good
 sound : ∀ c ∈ cx.cs, (∀ xs, oks cx.K (c.args.flatMap ArgD.inKinds) xs -> c.pre xs -> oks cx.K (outKinds c.args ++ c.ret.kinds) (c.sem xs)) /\ c.Sound cx.K cx.P
 dec : ∀ k l n, cx.dec k l = some n -> (cx.K k).ok n /\ ∀ ρ φ, l.map (C.den cx.K ρ φ) = (cx.K k).enc n
 inl : ∀ f vs M r, cx.inl f vs M = some r -> r.fn = none /\ r.kd = [] /\ MemOK M r /\ ∀ (ρ : Nat -> Int) (φ : Nat -> Pl) (w : World), PreE cx ρ φ w r ->
  CallOK cx.P f (vs.map (V.den cx.K ρ φ)).toArray w fun v w' => ∃ φ', PostE cx ρ φ w r φ' w' /\ v = r.res.den cx.K ρ φ'
 dq : ∀ f vs M l, cx.dq f vs M = some l -> (∀ x ∈ l, ∃ reg, M[x.1]? = some reg /\ x.2.1 + x.2.2.length <= reg.cells.length /\ ∀ j c, x.2.2[j]? = some c -> reg.cells[x.2.1 + j]? = some c) /\
  ∀ (ρ : Nat -> Int) (φ : Nat -> Pl) (w : World), (∀ x ∈ l, cellsAt w (pl φ x.1 x.2.1) (denL cx ρ φ x.2.2)) -> QuietD cx.P f (vs.map (V.den cx.K ρ φ)).toArray w
 alt : ∀ evo M o rs, cx.alt evo M o = some rs -> (∀ r ∈ rs, r.fn = none /\ r.kd = [] /\ MemOK M r) /\ ∀ ρ, AltOK cx ρ evo o rs
 xc : ∀ (f g : Operand -> Option V) M o, (∀ x ∈ o.op.operands, f x = g x) -> cx.xop f M o = cx.xop g M o
 xo : ∀ evo M o r, cx.xop evo M o = some r -> r.fn = none /\ r.kd = [] /\ MemOK M r /\ ∀ ρ, RunOK cx ρ evo o r
end
theorem intOK_wrap (k : IntKind) (n : Int) : k.min <= k.wrap n /\ k.wrap n <= k.max := by
 cases k <;> simp only [IntKind.wrap, IntKind.min, IntKind.max, IntKind.signed, IntKind.bits] <;> simp <;> omega
theorem okb_ok {ext : Nat -> Kind} {k : Nat} {z : Int} (h : okb k z = true) : (kinds ext k).ok z := by
 unfold okb at h
 cases hk : fok k with
 | some ik => rw [hk] at h; simp at h; rw [kinds_fok hk]; exact h
 | none =>
   rw [hk] at h
   simp only [Bool.and_eq_true, Bool.or_eq_true, beq_iff_eq] at h
   have := Nat.eq_of_beq_eq_true h.1
   subst this
   exact h.2
theorem aok_ok {cx : Cx} {ρ : Nat -> Int} {Γ : Tr Nat} (hΓ : GamOK cx ρ Γ) {k : Nat} {a : A} (h : aok Γ k a = true) : (cx.K k).ok (a.den ρ) := by
 cases a with
 | v i =>
   unfold aok at h
   cases hg : Γ.get i with
   | none => simp [hg] at h
   | some k' =>
     simp only [hg] at h
     have := Nat.eq_of_beq_eq_true h
     subst this
     exact hΓ _ _ hg
 | n z => exact okb_ok h
theorem enc_int {cx : Cx} {k : Nat} {ik : IntKind} (h : fok k = some ik) (n : Int) : (cx.K k).enc n = [.int ik n] := by
 show (kinds cx.ext k).enc n = _
 rw [kinds_fok h]; rfl
theorem den_int {cx : Cx} {ρ φ} {k : Nat} {ik : IntKind} (h : fok k = some ik) (a : A) : (C.ch k a 0).den cx.K ρ φ = .int ik (a.den ρ) := by
 simp [C.den, enc_int h]
theorem den_bool {cx : Cx} {ρ φ} (a : A) : (C.ch 8 a 0).den cx.K ρ φ = .bool (decide (a.den ρ ≠ 0)) := by
 simp [C.den, Cx.K, kinds, boolKind]
section
variable {cx : Cx} {ρ : Nat -> Int}
theorem RunOK.of_pure {evo : Operand -> Option V} {o : Oper} {v : V} {r : R} (hal : r.al = []) (hw : r.wcs = []) (hres : r.res = v)
  (h : ∀ (φ : Nat -> Pl) (a : Act) (w : World), (∀ x v, evo x = some v -> a.eval x = v.den cx.K ρ φ) -> PreE cx ρ φ w r -> (execOp a.eval o).run cx.P w = .ok (.value (v.den cx.K ρ φ)) w) : RunOK cx ρ evo o r := by
 intro φ a w next Q hev hpre hnext
 unfold Oper.wp
 rw [h φ a w hev hpre]
 show next _ w
 have := hnext φ w (PostE.plain cx ρ hal (by rw [hw]; exact Below.refl _ _))
 rw [hres] at this
 exact this
theorem run_underlying {P : Program} {t : TypeId} {d : TypeDesc} (h : P.underlying t = some d) (w : World) : (underlying t).run P w = .ok d w := by
 simp [underlying, program, bind, Sem.bind, Sem.run, h, Pure.pure]
theorem run_typeInfo {P : Program} {t : TypeId} {d : TypeInfo} (h : P.info? t = some d) (w : World) : (typeInfo t).run P w = .ok d w := by
 simp [typeInfo, program, bind, Sem.bind, Sem.run, h, Pure.pure]
theorem run_bind {α β : Type} (P : Program) (s : Sem α) (f : α -> Sem β) : ∀ (w : World), (s >>= f).run P w = match s.run P w with | .ok a w' => (f a).run P w' | .halt h w' => .halt h w' := by
 show ∀ w, (Sem.bind s f).run P w = _
 induction s with
 | pure a => intro w; rfl
 | load m a k ih => intro w; simp only [Sem.bind, Sem.run]; (repeat' split) <;> simp_all
 | store m a v k ih => intro w; cases v <;> simp only [Sem.bind, Sem.run] <;> first | rfl | ((repeat' split) <;> simp_all)
 | new o k ih => intro w; simp only [Sem.bind, Sem.run, ih]
 | shape r k ih => intro w; simp only [Sem.bind, Sem.run, ih]
 | freeze a n k ih => intro w; simp only [Sem.bind, Sem.run, ih]
 | frozen a k ih => intro w; simp only [Sem.bind, Sem.run, ih]
 | getObj r k ih => intro w; simp only [Sem.bind, Sem.run]; (repeat' split) <;> simp_all
 | setObj r o k ih => intro w; simp only [Sem.bind, Sem.run]; (repeat' split) <;> simp_all
 | choose q k ih => intro w; simp only [Sem.bind, Sem.run]; split <;> simp_all
 | sys c k ih => intro w; simp only [Sem.bind, Sem.run, ih]
 | program k ih => intro w; simp only [Sem.bind, Sem.run, ih]
 | mark m k ih => intro w; simp only [Sem.bind, Sem.run, ih]
 | halt h => intro w; rfl
theorem run_bind_ok {α β : Type} {P : Program} {s : Sem α} {f : α -> Sem β} {w w' : World} {a : α} (h : s.run P w = .ok a w') : (s >>= f).run P w = (f a).run P w' := by
 rw [run_bind, h]
theorem run_pure {α : Type} (P : Program) (a : α) (w : World) : (pure a : Sem α).run P w = .ok a w := rfl
theorem addr_add (p : Pl) (j n : Nat) : (at_ p j).add n = at_ p (j + n) := by
 unfold Addr.add
 split
 ·rename_i h; subst h; rfl
 ·simp [at_, Nat.add_assoc]
theorem run_loadCellsFrom {P : Program} {w : World} {p : Pl} : ∀ (n i : Nat) (l : List Value) (acc : Array Value), cellsAt w p l -> i + n = l.length ->
  (loadCellsFrom (at_ p 0) i n acc).run P w = .ok (acc ++ (l.drop i).toArray) w
 | 0, i, l, acc, h, hn => by
   have : l.drop i = [] := by simp; omega
   simp [loadCellsFrom, this, Pure.pure]
 | n + 1, i, l, acc, h, hn => by
   have hi : i < l.length := by omega
   have hc : w.cell? (at_ p i) = some l[i] := h i _ (List.getElem?_eq_getElem hi)
   unfold loadCellsFrom
   have hl : (load ((at_ p 0).add i)).run P w = .ok l[i] w := by
    rw [addr_add, Nat.zero_add]
    simp [load, Sem.run, hc]
   rw [run_bind_ok hl, run_loadCellsFrom n (i + 1) l _ h (by omega)]
   congr 1
   rw [List.drop_eq_getElem_cons hi]
   simp
theorem run_loadCells {P : Program} {w : World} {p : Pl} {l : List Value} (h : cellsAt w p l) : (loadCells (at_ p 0) l.length).run P w = .ok l.toArray w := by
 unfold loadCells
 rw [run_loadCellsFrom l.length 0 l #[] h (by omega)]
 simp
theorem run_isAgg {P : Program} {t : TypeId} {d : TypeDesc} (h : P.underlying t = some d) (w : World) : (isAgg t).run P w = .ok (isAggD d) w := by
 unfold isAgg
 rw [run_bind_ok (run_underlying h w)]
 cases d <;> rfl
theorem run_sizeOf {P : Program} {t : TypeId} {d : TypeInfo} (h : P.info? t = some d) (w : World) : (sizeOf t).run P w = .ok d.size w := by
 unfold sizeOf
 rw [run_bind_ok (run_typeInfo h w)]; rfl
theorem run_storeCells {P : Program} {p : Pl} : ∀ (l : List Value) (i : Nat) (w : World), (∀ v ∈ l, oneC v = true) -> wrAt w ⟨p.b, p.o + i, p.c⟩ l.length ->
  (storeCells (at_ p 0) l i).run P w = .ok () (putCells w ⟨p.b, p.o + i, p.c⟩ l)
 | [], _, _, _, _ => rfl
 | v :: l, i, w, h1, h2 => by
   unfold storeCells
   obtain ⟨⟨u, hu⟩, hf⟩ := h2 0 (by simp)
   have hst : (store ((at_ p 0).add i) v).run P w = .ok () (w.setCell (at_ ⟨p.b, p.o + i, p.c⟩ 0) v) := by
    have e : (at_ p 0).add i = at_ ⟨p.b, p.o + i, p.c⟩ 0 := by rw [addr_add]; simp [at_]
    rw [e]
    have hv := h1 v (by simp)
    have hf' : w.frozen? (at_ ⟨p.b, p.o + i, p.c⟩ 0) = false := hf _
    cases v <;> simp [oneC] at hv <;> simp [store, Sem.run, hu, hf']
   rw [run_bind_ok hst]
   have := run_storeCells (P := P) l (i + 1) (w.setCell (at_ ⟨p.b, p.o + i, p.c⟩ 0) v) (fun v hv => h1 v (by simp [hv])) (by
    have h3 : wrAt w ⟨p.b, p.o + (i + 1), p.c⟩ l.length := fun j hj => by
     have := h2 (j + 1) (by simp; omega)
     simpa [at_, Nat.add_assoc, Nat.add_comm 1] using this
    exact wrAt_put (l := [v]) h3)
   rw [this]
   simp [putCells, Nat.add_assoc]
end
end
end Go.Eng
