/-
 Calls of the program reckoned: the base doubled; the two calls as contracts.
-/
import Derived.Defers
import Derived.Recover
import Derived.Test.YtajgaijilkfjnaaGreatDoorD1
import Derived.Test.YtajgaijilkfjnaaGreatDoorD3
import Derived.Test.YtajgaijilkfjnaaGreatDoorA5
import Derived.Test.YtajgaijilkfjnaaGreatDoorS2
import Derived.Test.YtajgaijilkfjnaaGreatDoorE1
set_option linter.unusedVariables false
set_option linter.unusedSimpArgs false
namespace Go.Eng
open Go Go.RowKit Go.Proofs
noncomputable section
set_option maxRecDepth 1000000
def H9 : HK := orH H8 (orH h44 (orH h43 (orH Dx_h Dy_h)))
theorem H9_sound : H9.Sound base := orH_sound H8_sound (orH_sound h44_ok (orH_sound h43_ok (orH_sound Dx_ok Dy_ok)))
def M36 : List Reg := MG ++ [⟨[i64c 0], true⟩, ⟨[.slc 7 0 1 1, .slc 8 0 1 1], true⟩, ⟨[TxX_s], true⟩, ⟨[TxY_s], true⟩, ⟨[.val (.string ⟨⟨[49]⟩⟩)], true⟩]
def r36 : R := { fn := none, kd := [], rds := rdsOf (upTo 10 0) M36, wcs := [], al := [(10, [Dx_s]), (11, [Dy_s])], res := .agg [.slc 10 0 1 1, .slc 11 0 1 1], dj := djOf (upTo 10 0) M36 }
theorem m36 : inlOf (cxD H9 16) fnT.get 5 200 41 [.one (.ptr 5 0), .one (.ptr 6 0), .one (.ptr 9 0)] M36 = some r36 := by kernel_rfl
end
end Go.Eng
namespace Go.Eng
open Go Go.RowKit Go.Proofs
noncomputable section
set_option maxRecDepth 100000
abbrev Rd := List (Nat × Nat × List C)
def RdOK (M : List Reg) (l : Rd) : Prop := ∀ x ∈ l, ∃ reg, M[x.1]? = some reg /\ x.2.1 + x.2.2.length <= reg.cells.length /\ ∀ j c, x.2.2[j]? = some c -> reg.cells[x.2.1 + j]? = some c
def RdAt (ρ : Nat -> Int) (φ : Nat -> Pl) (w : World) (l : Rd) : Prop := ∀ x ∈ l, cellsAt w (pl φ x.1 x.2.1) (denL base ρ φ x.2.2)
theorem RdOK.append {M : List Reg} {l m : Rd} (h : RdOK M l) (k : RdOK M m) : RdOK M (l ++ m) := fun x hx => by
 rcases List.mem_append.1 hx with h' | h'
 ·exact h x h'
 ·exact k x h'
theorem RdAt.left {ρ φ w} {l m : Rd} (h : RdAt ρ φ w (l ++ m)) : RdAt ρ φ w l := fun x hx => h x (List.mem_append_left _ hx)
theorem RdAt.right {ρ φ w} {l m : Rd} (h : RdAt ρ φ w (l ++ m)) : RdAt ρ φ w m := fun x hx => h x (List.mem_append_right _ hx)
theorem Ext.below {w w' : World} (h : Ext w w') : Below w.heap.size w w' := ⟨h.os, h.tape, h.output, h.size, h.block⟩
end
end Go.Eng
namespace Go.Eng
open Go Go.RowKit Go.Proofs
set_option maxRecDepth 100000
theorem eqNil20 (w : World) : (binOp BinOp.eql 20 .nilIface .nilIface).run Tryz.prog w = .ok (.bool true) w := by kernel_rfl
theorem safe1_idle (p : Addr) (b : Bool) (w : World) (hc : w.cell? p = some (.bool b)) (hz : w.frozen? p = false) :
  CallsD Tryz.prog 51 #[.pointer (some p)] .returning w fun e u' w' => e = .returned (.tuple #[]) /\ u' = .returning /\ w' = w.setCell p (.bool true) := by
 have hnil := eqNil20
 refine callsD_of_wpS Tryz.func51 rfl fun c₀ cs hu => ?_
 apply wpS_region
 simp [wpOpsS, go_sem, recoverD, hu, Tryz.ntmps51, Exit.thenS, hc, hz]
 cases c₀
 simp_all [bodyPostS, results, Tryz.results51]
set_option maxHeartbeats 1600000 in
theorem safe_walk (caps : Array Value) (w : World) (R : World -> Prop)
  (h : ∀ W, W = w.alloc (.cells #[.bool false] 4) -> Calls Tryz.prog 71 caps W fun e w' => e = .returned (.tuple #[]) /\ R w' /\ w'.cell? ⟨w.heap.size, 0, none⟩ = some (.bool false) /\ w'.frozen? ⟨w.heap.size, 0, none⟩ = false) :
  Calls Tryz.prog 22 #[.func (.func 71) #[] caps] w fun e w' => e = .returned (.bool true) /\ ∃ w1, R w1 /\ w' = (w1.setCell ⟨w.heap.size, 0, none⟩ (.bool true)).setCell ⟨w.heap.size, 0, none⟩ (.bool true) := by
 have hmf : ∀ (fn : Go.Fn) (first cap : Array Value) (w : World), (Instr.makeFunc fn first cap).run Tryz.prog w = .ok (.func fn first cap) w := fun _ _ _ _ => rfl
 go_enter_defers Tryz.func22, Tryz.ntmps22
 go_wp2_with (go_at_call 71; refine (h _ rfl).mono ?_; rintro e w1 ⟨rfl, hR, hc1, hf1⟩)
 refine leaves_cons (f := 51) (args := #[.pointer (some ⟨w.heap.size, 0, none⟩)]) (by simp) (by simp [go_sem]) ?_
 refine (safe1_idle ⟨w.heap.size, 0, none⟩ true _ ?_ ?_).mono ?_
 ·exact World.cell?_setCell_same _ _ _ hc1
 ·simpa using hf1
 rintro e u' w'' ⟨rfl, rfl, rfl⟩
 have hS : ∃ w2, R w2 /\ ((w1.setCell ⟨w.heap.size, 0, none⟩ (.bool true)).setCell ⟨w.heap.size, 0, none⟩ (.bool true)) = (w2.setCell ⟨w.heap.size, 0, none⟩ (.bool true)).setCell ⟨w.heap.size, 0, none⟩ (.bool true) := ⟨w1, hR, rfl⟩
 generalize hW : (w1.setCell ⟨w.heap.size, 0, none⟩ (.bool true)).setCell ⟨w.heap.size, 0, none⟩ (.bool true) = W at hS ⊢
 have hcW : W.cell? ⟨w.heap.size, 0, none⟩ = some (.bool true) := by rw [<- hW]; exact World.cell?_setCell_same _ _ _ (World.cell?_setCell_same _ _ _ hc1)
 simp [Leaves, settle, results, Tryz.results22, go_sem, hcW]
 exact hS
set_option maxHeartbeats 1600000 in
theorem made1_walk (p1 : Addr) (bp : Nat) (caps : Array Value) (s1 s2 : Value) (w : World) (R : Option Addr -> Option Addr -> World -> Prop) (h1 : w.cell? p1 = some (.func (.func 41) #[] caps))
  (h : Calls Tryz.prog 41 caps w fun e w' => ∃ a b, e = .returned (.agg #[.slice a 1 1, .slice b 1 1]) /\ R a b w' /\ w'.cell? ⟨bp, 0, none⟩ = some s1 /\ w'.cell? ⟨bp, 1, none⟩ = some s2 /\ (∀ o, w'.frozen? ⟨bp, o, none⟩ = false)) :
  Calls Tryz.prog 71 #[.pointer (some p1), .pointer (some ⟨bp, 0, none⟩)] w fun e w' => e = .returned (.tuple #[]) /\ ∃ a b w1, R a b w1 /\ w' = (w1.setCell ⟨bp, 0, none⟩ (.slice a 1 1)).setCell ⟨bp, 1, none⟩ (.slice b 1 1) := by
 go_enter Tryz.func71, Tryz.ntmps71
 go_wp2_with (go_at_call 41; refine h.mono ?_; rintro e w1 ⟨a, b, rfl, hR, hc1, hc2, hf⟩; have hc3 : ∀ v, (w1.setCell ⟨bp, 0, none⟩ v).cell? ⟨bp, 1, none⟩ = some s2 := fun v => by rw [World.cell?_setCell_other _ _ _ _ (fun e => by have := congrArg Addr.off e; simp at this)]; exact hc2)
 go_end0
 exact ⟨rfl, a, b, w1, hR, rfl⟩
def RT (lo : Nat) (s1 s2 : Value) (a b : Option Addr) (W : World) : Prop :=
 ∃ b1 o1 b2 o2, a = some ⟨b1, o1, none⟩ /\ b = some ⟨b2, o2, none⟩ /\ lo <= b1 /\ lo <= b2 /\ (b1 ≠ b2 \/ o1 ≠ o2) /\ b1 < W.heap.size /\ b2 < W.heap.size /\ W.cell? ⟨b1, o1, none⟩ = some s1 /\ W.cell? ⟨b2, o2, none⟩ = some s2 /\ (∀ o, W.frozen? ⟨b1, o, none⟩ = false) /\ ∀ o, W.frozen? ⟨b2, o, none⟩ = false
theorem RT.set {lo : Nat} {s1 s2 : Value} {a b : Option Addr} {W : World} (h : RT lo s1 s2 a b W) {k o : Nat} (v : Value) (hk : k < lo) : RT lo s1 s2 a b (W.setCell ⟨k, o, none⟩ v) := by
 obtain ⟨b1, o1, b2, o2, h1, h2, h3, h4, h5, h6, h7, h8, h9, h10, h11⟩ := h
 refine ⟨b1, o1, b2, o2, h1, h2, h3, h4, h5, by simpa using h6, by simpa using h7, ?_, ?_, fun o => by simpa using h10 o, fun o => by simpa using h11 o⟩
 ·rw [World.cell?_setCell_other _ _ _ _ (fun e => by have := congrArg Addr.block e; simp at this; omega)]; exact h8
 ·rw [World.cell?_setCell_other _ _ _ _ (fun e => by have := congrArg Addr.block e; simp at this; omega)]; exact h9
theorem RT.lower {lo lo' : Nat} {s1 s2 : Value} {a b : Option Addr} {W : World} (h : RT lo s1 s2 a b W) (hl : lo' <= lo) : RT lo' s1 s2 a b W := by
 obtain ⟨b1, o1, b2, o2, h1, h2, h3, h4, h5⟩ := h
 exact ⟨b1, o1, b2, o2, h1, h2, by omega, by omega, h5⟩
set_option maxHeartbeats 3200000 in
theorem made_walk (caps : Array Value) (s1 s2 : Value) (w : World)
  (h : ∀ W, Ext w W -> Calls Tryz.prog 41 caps W fun e w' => ∃ a b, e = .returned (.agg #[.slice a 1 1, .slice b 1 1]) /\ RT W.heap.size s1 s2 a b w' /\ Ext W w') :
  Calls Tryz.prog 40 #[.func (.func 41) #[] caps] w fun e w' => ∃ a b, e = .returned (.tuple #[.agg #[.slice a 1 1, .slice b 1 1], .bool true]) /\ RT w.heap.size s1 s2 a b w' /\ Ext w w' := by
 have hmf : ∀ (fn : Go.Fn) (first cap : Array Value) (w : World), (Instr.makeFunc fn first cap).run Tryz.prog w = .ok (.func fn first cap) w := fun _ _ _ _ => rfl
 obtain ⟨W2, hW2⟩ : ∃ W, W = (w.alloc (.cells #[.func (.func 41) #[] caps] 100)).alloc (.cells #[.slice none 0 0, .slice none 0 0] 24) := ⟨_, rfl⟩
 have hs2 : W2.heap.size = w.heap.size + 1 + 1 := by rw [hW2, size_al, size_al]
 have hE2 : Ext w W2 := by rw [hW2]; exact ((Ext.refl w).alloc _).alloc _
 have hE1 : Ext (w.alloc (.cells #[.func (.func 41) #[] caps] 100)) W2 := by rw [hW2]; exact (Ext.refl _).alloc _
 have c0 : W2.cell? ⟨w.heap.size, 0, none⟩ = some (.func (.func 41) #[] caps) := hE1.cell (by rw [cell_new]; rfl)
 have c1 : ∀ o, o < 2 -> W2.cell? ⟨w.heap.size + 1, o, none⟩ = some (.slice none 0 0) := fun o ho => by
  rw [hW2]
  have := cell_new (w.alloc (.cells #[.func (.func 41) #[] caps] 100)) #[.slice none 0 0, .slice none 0 0] 24 o
  rw [size_al] at this
  rw [this]
  match o, ho with
  | 0, _ => rfl
  | 1, _ => rfl
 have f1 : ∀ o, W2.frozen? ⟨w.heap.size + 1, o, none⟩ = false := fun o => by
  rw [hW2]
  have := frozen_new (w.alloc (.cells #[.func (.func 41) #[] caps] 100)) #[.slice none 0 0, .slice none 0 0] 24 o
  rw [size_al] at this
  exact this
 have hsafe : Calls Tryz.prog 22 #[.func (.func 71) #[] #[.pointer (some ⟨w.heap.size, 0, none⟩), .pointer (some ⟨w.heap.size + 1, 0, none⟩)]] W2 fun e w' => e = .returned (.bool true) /\ ∃ a b, RT w.heap.size s1 s2 a b w' /\ Ext w w' /\
   w'.cell? ⟨w.heap.size + 1, 0, none⟩ = some (.slice a 1 1) /\ w'.cell? ⟨w.heap.size + 1, 1, none⟩ = some (.slice b 1 1) /\ (∀ o, w'.frozen? ⟨w.heap.size + 1, o, none⟩ = false) /\ RT (w.heap.size + 2) s1 s2 a b w' := by
  refine (safe_walk _ W2 (fun W' => ∃ a b w1, RT (W2.heap.size + 1) s1 s2 a b w1 /\ Ext (W2.alloc (.cells #[.bool false] 4)) w1 /\ W' = (w1.setCell ⟨w.heap.size + 1, 0, none⟩ (.slice a 1 1)).setCell ⟨w.heap.size + 1, 1, none⟩ (.slice b 1 1)) ?_).mono ?_
  ·intro W hW
   subst hW
   have hE3 : Ext W2 (W2.alloc (.cells #[.bool false] 4)) := (Ext.refl W2).alloc _
   refine (made1_walk ⟨w.heap.size, 0, none⟩ (w.heap.size + 1) caps (.slice none 0 0) (.slice none 0 0) _ (fun a b w1 => RT (W2.heap.size + 1) s1 s2 a b w1 /\ Ext (W2.alloc (.cells #[.bool false] 4)) w1) (hE3.cell c0) ?_).mono ?_
   ·refine (h _ (hE2.trans hE3)).mono ?_
    rintro e w1 ⟨a, b, h1, h2, h3⟩
    rw [size_al] at h2
    refine ⟨a, b, h1, ⟨h2, h3⟩, h3.cell (hE3.cell (c1 0 (by omega))), h3.cell (hE3.cell (c1 1 (by omega))), fun o => ?_⟩
    rw [h3.frozenE (by rw [size_al]; omega), hE3.frozenE (by omega)]
    exact f1 o
   ·rintro e w3 ⟨rfl, a, b, w1, ⟨h2, h3⟩, rfl⟩
    refine ⟨rfl, ⟨a, b, w1, h2, h3, rfl⟩, ?_, ?_⟩
    ·rw [World.cell?_setCell_other _ _ _ _ (fun e => by have := congrArg Addr.block e; simp at this; omega), World.cell?_setCell_other _ _ _ _ (fun e => by have := congrArg Addr.block e; simp at this; omega)]
     exact h3.cell (by rw [cell_new]; rfl)
    ·simp only [World.frozen?_setCell]
     rw [h3.frozenE (by rw [size_al]; omega)]
     exact frozen_new _ _ _ _
  ·rintro e w3 ⟨rfl, w1', ⟨a, b, w1, h2, h3, rfl⟩, rfl⟩
   have hs3 := h3.size
   rw [size_al, hs2] at hs3
   have hc := h3.cell (((Ext.refl W2).alloc (.cells #[.bool false] 4)).cell (c1 0 (by omega)))
   have hc' := h3.cell (((Ext.refl W2).alloc (.cells #[.bool false] 4)).cell (c1 1 (by omega)))
   have hR := (((h2.set (o := 0) (.slice a 1 1) (show w.heap.size + 1 < W2.heap.size + 1 by omega)).set (o := 1) (.slice b 1 1) (show w.heap.size + 1 < W2.heap.size + 1 by omega)).set (o := 0) (.bool true) (show W2.heap.size < W2.heap.size + 1 by omega)).set (o := 0) (.bool true) (show W2.heap.size < W2.heap.size + 1 by omega)
   refine ⟨rfl, a, b, hR.lower (by omega), ?_, ?_, ?_, fun o => ?_, hR.lower (by omega)⟩
   ·exact World.Since.setCell (World.Since.setCell (World.Since.setCell (World.Since.setCell ((hE2.alloc _).trans h3) (by show w.heap.size <= w.heap.size + 1; omega) _) (by show w.heap.size <= w.heap.size + 1; omega) _) (by show w.heap.size <= W2.heap.size; omega) _) (by show w.heap.size <= W2.heap.size; omega) _
   ·rw [World.cell?_setCell_other _ _ _ _ (fun e => by have := congrArg Addr.block e; simp at this; omega), World.cell?_setCell_other _ _ _ _ (fun e => by have := congrArg Addr.block e; simp at this; omega), World.cell?_setCell_other _ _ _ _ (fun e => by have := congrArg Addr.off e; simp at this)]
    exact World.cell?_setCell_same _ _ _ hc
   ·rw [World.cell?_setCell_other _ _ _ _ (fun e => by have := congrArg Addr.block e; simp at this; omega), World.cell?_setCell_other _ _ _ _ (fun e => by have := congrArg Addr.block e; simp at this; omega)]
    exact World.cell?_setCell_same _ _ _ (u := .slice none 0 0) (by rw [World.cell?_setCell_other _ _ _ _ (fun e => by have := congrArg Addr.off e; simp at this)]; exact hc')
   ·simp only [World.frozen?_setCell]
    rw [h3.frozenE (by rw [size_al]; omega), ((Ext.refl W2).alloc (.cells #[.bool false] 4)).frozenE (by omega)]
    exact f1 o
 clear c0 c1 f1 hE1 hE2 hs2 h
 go_enter Tryz.func40, Tryz.ntmps40
 rw [hW2] at hsafe
 clear hW2
 go_wp2_with (go_at_call 22; refine hsafe.mono ?_; rintro e w3 ⟨rfl, a, b, hR, hE, hc1, hc2, hf, hR2⟩; have hc3 : ∀ v, (w3.setCell ⟨w.heap.size + 1, 0, none⟩ v).cell? ⟨w.heap.size + 1, 1, none⟩ = some (.slice b 1 1) := fun v => by rw [World.cell?_setCell_other _ _ _ _ (fun e => by have := congrArg Addr.off e; simp at this)]; exact hc2)
 have k1 := World.cell?_setCell_same (w3.setCell ⟨w.heap.size + 1, 0, none⟩ (.slice a 1 1)) _ (.slice b 1 1) (hc3 (.slice a 1 1))
 have k0 : ((w3.setCell ⟨w.heap.size + 1, 0, none⟩ (.slice a 1 1)).setCell ⟨w.heap.size + 1, 1, none⟩ (.slice b 1 1)).cell? ⟨w.heap.size + 1, 0, none⟩ = some (.slice a 1 1) := by
  rw [World.cell?_setCell_other _ _ _ _ (fun e => by have := congrArg Addr.off e; simp at this)]
  exact World.cell?_setCell_same _ _ _ hc1
 have kR := (hR2.set (k := w.heap.size + 1) (o := 0) (.slice a 1 1) (by omega)).set (k := w.heap.size + 1) (o := 1) (.slice b 1 1) (by omega)
 have kE : Ext w ((w3.setCell ⟨w.heap.size + 1, 0, none⟩ (.slice a 1 1)).setCell ⟨w.heap.size + 1, 1, none⟩ (.slice b 1 1)) := World.Since.setCell (World.Since.setCell hE (by show w.heap.size <= w.heap.size + 1; omega) _) (by show w.heap.size <= w.heap.size + 1; omega) _
 generalize (w3.setCell ⟨w.heap.size + 1, 0, none⟩ (.slice a 1 1)).setCell ⟨w.heap.size + 1, 1, none⟩ (.slice b 1 1) = W4 at k0 k1 kR kE ⊢
 simp [bodyPost, results, Tryz.results40, go_sem, k0, k1]
 exact ⟨a, b, ⟨rfl, rfl⟩, kR.lower (by omega), kE⟩
set_option maxHeartbeats 3200000 in
theorem edDouble_walk (vx vy : Value) (s : ByteArray) (s1 s2 : Value) (w : World)
  (h : ∀ W, Ext (((w.alloc (.cells #[.int .i64 0] 3)).alloc (.cells #[vx, vy] 24)).alloc (.cells #[.string s] 9)) W -> Calls Tryz.prog 41 #[.pointer (some ⟨w.heap.size, 0, none⟩), .pointer (some ⟨w.heap.size + 1, 0, none⟩), .pointer (some ⟨w.heap.size + 1 + 1, 0, none⟩)] W fun e w' => ∃ a b, e = .returned (.agg #[.slice a 1 1, .slice b 1 1]) /\ RT W.heap.size s1 s2 a b w' /\ Ext W w') :
  Calls Tryz.prog 20 #[.int .i64 0, .int .i64 0, .int .i64 0, .agg #[vx, vy], .string s] w fun e w' => ∃ a b, e = .returned (.tuple #[.agg #[.slice a 1 1, .slice b 1 1], .bool true]) /\ RT w.heap.size s1 s2 a b w' /\ Ext w w' := by
 have hmf : ∀ (fn : Go.Fn) (first cap : Array Value) (w : World), (Instr.makeFunc fn first cap).run Tryz.prog w = .ok (.func fn first cap) w := fun _ _ _ _ => rfl
 obtain ⟨W1, hW1⟩ : ∃ W, W = ((w.alloc (.cells #[.int .i64 0] 3)).alloc (.cells #[vx, vy] 24)).alloc (.cells #[.string s] 9) := ⟨_, rfl⟩
 have hs1 : W1.heap.size = w.heap.size + 1 + 1 + 1 := by rw [hW1, size_al, size_al, size_al]
 have hE1 : Ext w W1 := by rw [hW1]; exact (((Ext.refl w).alloc _).alloc _).alloc _
 have hE2 : Ext W1 (W1.alloc (.cells #[.slice none 0 0, .slice none 0 0] 24)) := (Ext.refl W1).alloc _
 have hm : Calls Tryz.prog 40 #[.func (.func 41) #[] #[.pointer (some ⟨w.heap.size, 0, none⟩), .pointer (some ⟨w.heap.size + 1, 0, none⟩), .pointer (some ⟨w.heap.size + 1 + 1, 0, none⟩)]] (W1.alloc (.cells #[.slice none 0 0, .slice none 0 0] 24)) fun e w' =>
   ∃ a b, e = .returned (.tuple #[.agg #[.slice a 1 1, .slice b 1 1], .bool true]) /\ RT (w.heap.size + 4) s1 s2 a b w' /\ Ext w w' /\ w'.cell? ⟨w.heap.size + 1 + 1 + 1, 0, none⟩ = some (.slice none 0 0) /\ w'.cell? ⟨w.heap.size + 1 + 1 + 1, 1, none⟩ = some (.slice none 0 0) /\ ∀ o, w'.frozen? ⟨w.heap.size + 1 + 1 + 1, o, none⟩ = false := by
  refine (made_walk _ s1 s2 _ (fun W hW => h W ?_)).mono ?_
  ·rw [<- hW1]; exact hE2.trans hW
  ·rintro e w' ⟨a, b, h1, h2, h3⟩
   rw [size_al, hs1] at h2
   refine ⟨a, b, h1, h2.lower (by omega), (hE1.trans hE2).trans h3, h3.cell ?_, h3.cell ?_, fun o => ?_⟩
   ·rw [<- hs1, cell_new]; rfl
   ·rw [<- hs1, cell_new]; rfl
   ·rw [h3.frozenE (by rw [size_al]; omega), <- hs1]
    exact frozen_new _ _ _ _
 clear h hE1 hE2 hs1
 go_enter Tryz.func20, Tryz.ntmps20
 rw [hW1] at hm
 clear hW1
 go_wp2_with (go_at_call 40; refine hm.mono ?_; rintro e w3 ⟨a, b, rfl, hR, hE, hc1, hc2, hf⟩; have hc3 : ∀ v, (w3.setCell ⟨w.heap.size + 1 + 1 + 1, 0, none⟩ v).cell? ⟨w.heap.size + 1 + 1 + 1, 1, none⟩ = some (.slice none 0 0) := fun v => by rw [World.cell?_setCell_other _ _ _ _ (fun e => by have := congrArg Addr.off e; simp at this)]; exact hc2)
 have k1 := World.cell?_setCell_same (w3.setCell ⟨w.heap.size + 1 + 1 + 1, 0, none⟩ (.slice a 1 1)) _ (.slice b 1 1) (hc3 (.slice a 1 1))
 have k0 : ((w3.setCell ⟨w.heap.size + 1 + 1 + 1, 0, none⟩ (.slice a 1 1)).setCell ⟨w.heap.size + 1 + 1 + 1, 1, none⟩ (.slice b 1 1)).cell? ⟨w.heap.size + 1 + 1 + 1, 0, none⟩ = some (.slice a 1 1) := by
  rw [World.cell?_setCell_other _ _ _ _ (fun e => by have := congrArg Addr.off e; simp at this)]
  exact World.cell?_setCell_same _ _ _ hc1
 have kR := (hR.set (k := w.heap.size + 1 + 1 + 1) (o := 0) (.slice a 1 1) (by omega)).set (k := w.heap.size + 1 + 1 + 1) (o := 1) (.slice b 1 1) (by omega)
 have kE : Ext w ((w3.setCell ⟨w.heap.size + 1 + 1 + 1, 0, none⟩ (.slice a 1 1)).setCell ⟨w.heap.size + 1 + 1 + 1, 1, none⟩ (.slice b 1 1)) := World.Since.setCell (World.Since.setCell hE (by show w.heap.size <= w.heap.size + 1 + 1 + 1; omega) _) (by show w.heap.size <= w.heap.size + 1 + 1 + 1; omega) _
 generalize (w3.setCell ⟨w.heap.size + 1 + 1 + 1, 0, none⟩ (.slice a 1 1)).setCell ⟨w.heap.size + 1 + 1 + 1, 1, none⟩ (.slice b 1 1) = W4 at k0 k1 kR kE ⊢
 simp [bodyPost, results, Tryz.results20, go_sem, k0, k1]
 exact ⟨a, b, ⟨rfl, rfl⟩, kR.lower (by omega), kE⟩
end Go.Eng
namespace Go.Eng
open Go Go.RowKit Go.Proofs
noncomputable section
set_option maxRecDepth 1000000
theorem calls_of_callOK {P : Program} {f : FuncId} {args : Array Value} {w : World} {fn : Func} {R : Value -> World -> Prop} (hf : P.funcs[f]? = some fn) (hn : (fn.name == "runtime.NumGoroutine") = false) (hb : fn.body.isSome = true)
  (h : CallOK P f args w R) : Calls P f args w fun e w' => ∃ v, e = .returned v /\ R v w' := by
 rcases h with ⟨v, w', h1, _⟩ | ⟨_, h2⟩
 ·exfalso
  cases hbb : fn.body with
  | none => rw [hbb] at hb; cases hb
  | some b =>
    have hn' : ¬ fn.name = "runtime.NumGoroutine" := by simpa using hn
    simp [callFunc, program, bind, Sem.bind, Sem.run, hf, hn', hbb, pure] at h1
 ·exact h2
def edR (rx ry n : Nat) : R := { fn := none, kd := [], rds := rdG ++ [(rx, 0, [TxX_s]), (ry, 0, [TxY_s])], wcs := [], al := [(n, [Dx_s]), (n + 1, [Dy_s])], res := .tup [(true, [.slc n 0 1 1, .slc (n + 1) 0 1 1]), (false, [.ch 8 (.n 1) 0])], dj := djG ++ [(rx, 1, true), (ry, 1, true)] }
def phi36 (φ : Nat -> Pl) (rx ry N : Nat) : Nat -> Pl
 | 5 => ⟨N, 0, 0⟩
 | 6 => ⟨N + 1, 0, 0⟩
 | 7 => φ rx
 | 8 => φ ry
 | 9 => ⟨N + 1 + 1, 0, 0⟩
 | i => φ i
theorem c36 (ρ : Nat -> Int) (φ : Nat -> Pl) (w : World) (hpre : PreE base ρ φ w r36) :
  CallOK Tryz.prog 41 (([.one (.ptr 5 0), .one (.ptr 6 0), .one (.ptr 9 0)] : List V).map (V.den base.K ρ φ)).toArray w fun v w' => ∃ φ', PostE base ρ φ w r36 φ' w' /\ v = r36.res.den base.K ρ φ' := by
 obtain ⟨e1, e2, e3⟩ := cxD_e H9 16
 have hs := inlOf_spec m36
 have hK : (cxD H9 16).K = base.K := by simp only [Cx.K, e2]
 have := inl_call (cxD_good H9_sound 16) (by rw [e1]; exact follows) (fun f fn hf => by rw [e1]; exact fnOK hf) hs ρ φ w (PreE_congr e2.symm e3.symm hpre)
 rw [hK, e1] at this
 have conv : ∀ v w', (∃ φ', PostE (cxD H9 16) ρ φ w r36 φ' w' /\ v = r36.res.den base.K ρ φ') -> ∃ φ', PostE base ρ φ w r36 φ' w' /\ v = r36.res.den base.K ρ φ' :=
  fun v w' ⟨φ', k1, k2⟩ => ⟨φ', PostE_congr e2 k1, k2⟩
 rcases this with ⟨v, w', a1, a2⟩ | ⟨a1, a2⟩
 ·exact .inl ⟨v, w', a1, conv v w' a2⟩
 ·exact .inr ⟨a1, a2.mono fun e w' ⟨v, b1, b2⟩ => ⟨v, b1, conv v w' b2⟩⟩
theorem gl_lt {g rr : Nat} (h : lookup base.gl g = some rr) : rr < 4 := by
 have hg : base.gl = [(0, 0), (1, 1), (4, 2), (2, 3)] := rfl
 rw [hg] at h
 simp only [lookup] at h
 cases h0 : Nat.beq 0 g <;> rw [h0] at h <;> simp only [cond_true, cond_false] at h
 ·cases h1 : Nat.beq 1 g <;> rw [h1] at h <;> simp only [cond_true, cond_false] at h
  ·cases h2 : Nat.beq 4 g <;> rw [h2] at h <;> simp only [cond_true, cond_false] at h
   ·cases h3 : Nat.beq 2 g <;> rw [h3] at h <;> simp only [cond_true, cond_false] at h
    ·cases h
    ·simp only [Option.some.injEq] at h; omega
   ·simp only [Option.some.injEq] at h; omega
  ·simp only [Option.some.injEq] at h; omega
 ·simp only [Option.some.injEq] at h; omega
theorem pre36 {ρ : Nat -> Int} {φ : Nat -> Pl} {w W : World} {rx ry n : Nat} (hx : 5 <= rx) (hy : 5 <= ry) (hxy : rx ≠ ry) (hpre : PreE base ρ φ w (edR rx ry n))
  (hE : Ext (((w.alloc (.cells #[.int .i64 0] 3)).alloc (.cells #[.slice (some (paddr φ rx 0)) 1 1, .slice (some (paddr φ ry 0)) 1 1] 24)).alloc (.cells #[.string ⟨⟨[49]⟩⟩] 9)) W) : PreE base ρ (phi36 φ rx ry w.heap.size) W r36 := by
 obtain ⟨p1, _, _, ⟨d1, d2⟩, p5⟩ := hpre
 have hE0 : Ext w W := ((((Ext.refl w).alloc _).alloc _).alloc _).trans hE
 have hsz := hE.size
 rw [size_al, size_al, size_al] at hsz
 have c5 : W.cell? ⟨w.heap.size, 0, none⟩ = some (.int .i64 0) := hE.cell (Ext.cell ((Ext.refl _).alloc _) (Ext.cell ((Ext.refl _).alloc _) (by rw [cell_new]; rfl)))
 have c6 : ∀ o v, #[Value.slice (some (paddr φ rx 0)) 1 1, .slice (some (paddr φ ry 0)) 1 1][o]? = some v -> W.cell? ⟨w.heap.size + 1, o, none⟩ = some v := fun o v hv => hE.cell (Ext.cell ((Ext.refl _).alloc _) (by
  have := cell_new (w.alloc (.cells #[.int .i64 0] 3)) #[.slice (some (paddr φ rx 0)) 1 1, .slice (some (paddr φ ry 0)) 1 1] 24 o
  rw [size_al] at this
  rw [this]; exact hv))
 have c9 : W.cell? ⟨w.heap.size + 1 + 1, 0, none⟩ = some (.string ⟨⟨[49]⟩⟩) := hE.cell (by
  have := cell_new ((w.alloc (.cells #[.int .i64 0] 3)).alloc (.cells #[.slice (some (paddr φ rx 0)) 1 1, .slice (some (paddr φ ry 0)) 1 1] 24)) #[.string ⟨⟨[49]⟩⟩] 9 0
  rw [size_al, size_al] at this
  rw [this]; rfl)
 have f5 : unfr W w.heap.size := fun o => by
  rw [hE.frozenE (by rw [size_al, size_al, size_al]; omega), Ext.frozenE ((Ext.refl _).alloc _) (by rw [size_al, size_al]; omega), Ext.frozenE ((Ext.refl _).alloc _) (by rw [size_al]; omega)]
  exact frozen_new _ _ _ _
 have f6 : unfr W (w.heap.size + 1) := fun o => by
  rw [hE.frozenE (by rw [size_al, size_al, size_al]; omega), Ext.frozenE ((Ext.refl _).alloc _) (by rw [size_al, size_al]; omega)]
  have := frozen_new (w.alloc (.cells #[.int .i64 0] 3)) #[.slice (some (paddr φ rx 0)) 1 1, .slice (some (paddr φ ry 0)) 1 1] 24 o
  rw [size_al] at this
  exact this
 have f9 : unfr W (w.heap.size + 1 + 1) := fun o => by
  rw [hE.frozenE (by rw [size_al, size_al, size_al]; omega)]
  have := frozen_new ((w.alloc (.cells #[.int .i64 0] 3)).alloc (.cells #[.slice (some (paddr φ rx 0)) 1 1, .slice (some (paddr φ ry 0)) 1 1] 24)) #[.string ⟨⟨[49]⟩⟩] 9 o
  rw [size_al, size_al] at this
  exact this
 have old : ∀ i cs, (i, 0, cs) ∈ (edR rx ry n).rds -> cellsAt W (pl φ i 0) (denL base ρ φ cs) := fun i cs hm j u hu => hE0.cell (p1 (i, 0, cs) hm j u hu)
 have hall : ∀ x ∈ (edR rx ry n).dj, (∀ j, j < x.2.1 -> ∃ v, W.cell? (at_ (φ x.1) j) = some v) /\ (x.2.2 = true -> ∀ j, j < x.2.1 -> unfr W (φ x.1).b) /\ (φ x.1).b < w.heap.size := fun x hx => by
  obtain ⟨q1, q2, q3⟩ := d1 x hx
  refine ⟨fun j hj => ?_, fun hw j hj o => ?_, q3⟩
  ·obtain ⟨v, hv⟩ := q1 j hj
   exact ⟨v, hE0.cell hv⟩
  ·rw [hE0.frozenE q3]; exact q2 hw j hj o
 have hne : ∀ i, i ≠ 5 -> i ≠ 6 -> i ≠ 7 -> i ≠ 8 -> i ≠ 9 -> phi36 φ rx ry w.heap.size i = φ i := fun i h5 h6 h7 h8 h9 => by
  unfold phi36
  split <;> first | rfl | (exact absurd rfl (by assumption))
 have hdj : r36.dj = [(0, 4, false), (1, 0, false), (2, 1, false), (3, 1, false), (4, 1, false), (5, 1, true), (6, 2, true), (7, 1, true), (8, 1, true), (9, 1, true)] := rfl
 have m0 : (0, 4, false) ∈ (edR rx ry n).dj := by simp [edR, djG]
 have m1 : (1, 0, false) ∈ (edR rx ry n).dj := by simp [edR, djG]
 have m2 : (2, 1, false) ∈ (edR rx ry n).dj := by simp [edR, djG]
 have m3 : (3, 1, false) ∈ (edR rx ry n).dj := by simp [edR, djG]
 have m4 : (4, 1, false) ∈ (edR rx ry n).dj := by simp [edR, djG]
 have m6 : (rx, 1, true) ∈ (edR rx ry n).dj := by simp [edR, djG]
 have m7 : (ry, 1, true) ∈ (edR rx ry n).dj := by simp [edR, djG]
 have a0 := hall _ m0
 have a1 := hall _ m1
 have a2 := hall _ m2
 have a3 := hall _ m3
 have a4 := hall _ m4
 have ax := hall _ m6
 have ay := hall _ m7
 have hxy0 := hxy
 refine ⟨fun x hx => ?_, fun x hx => (by cases hx), fun x hx => (by cases hx), ⟨fun x hx => ?_, fun x hx y hy hxy hw => ?_⟩, fun g rr hl => ?_⟩
 ·have hr : r36.rds = [(0, 0, [ui 1997599621687373223, ui 6052339484930628067, ui 10108755138030829701, ui 150537098327114917]), (1, 0, []), (2, 0, [.ch 3 (.n 8) 0]), (3, 0, [.ifc 181 (.ptr 4 0)]), (4, 0, [.val (.string ⟨#[69, 79, 70]⟩)]), (5, 0, [i64c 0]), (6, 0, [.slc 7 0 1 1, .slc 8 0 1 1]), (7, 0, [TxX_s]), (8, 0, [TxY_s]), (9, 0, [.val (.string ⟨⟨[49]⟩⟩)])] := rfl
  rw [hr] at hx
  simp only [List.mem_cons, List.not_mem_nil, or_false] at hx
  rcases hx with rfl | rfl | rfl | rfl | rfl | rfl | rfl | rfl | rfl | rfl
  ·exact old 0 [ui 1997599621687373223, ui 6052339484930628067, ui 10108755138030829701, ui 150537098327114917] (by simp [edR, rdG])
  ·exact old 1 [] (by simp [edR, rdG])
  ·exact old 2 [.ch 3 (.n 8) 0] (by simp [edR, rdG])
  ·exact old 3 [.ifc 181 (.ptr 4 0)] (by simp [edR, rdG])
  ·exact old 4 [.val (.string ⟨#[69, 79, 70]⟩)] (by simp [edR, rdG])
  ·intro j u hu
   match j, hu with
   | 0, hu => simp only [List.getElem?_cons_zero, List.map_cons, Option.some.injEq] at hu; subst hu; exact c5
  ·intro j u hu
   match j, hu with
   | 0, hu => simp only [List.getElem?_cons_zero, List.map_cons, Option.some.injEq] at hu; subst hu; exact c6 0 _ rfl
   | 1, hu => simp only [List.getElem?_cons_succ, List.getElem?_cons_zero, List.map_cons, Option.some.injEq] at hu; subst hu; exact c6 1 _ rfl
  ·exact old rx [TxX_s] (by simp [edR, rdG])
  ·exact old ry [TxY_s] (by simp [edR, rdG])
  ·intro j u hu
   match j, hu with
   | 0, hu => simp only [List.getElem?_cons_zero, List.map_cons, Option.some.injEq] at hu; subst hu; exact c9
 ·rw [hdj] at hx
  simp only [List.mem_cons, List.not_mem_nil, or_false] at hx
  rcases hx with rfl | rfl | rfl | rfl | rfl | rfl | rfl | rfl | rfl | rfl
  ·exact ⟨a0.1, a0.2.1, Nat.lt_of_lt_of_le a0.2.2 hE0.size⟩
  ·exact ⟨a1.1, a1.2.1, Nat.lt_of_lt_of_le a1.2.2 hE0.size⟩
  ·exact ⟨a2.1, a2.2.1, Nat.lt_of_lt_of_le a2.2.2 hE0.size⟩
  ·exact ⟨a3.1, a3.2.1, Nat.lt_of_lt_of_le a3.2.2 hE0.size⟩
  ·exact ⟨a4.1, a4.2.1, Nat.lt_of_lt_of_le a4.2.2 hE0.size⟩
  ·exact ⟨fun j hj => ⟨_, by match j, hj with | 0, _ => exact c5⟩, fun _ _ _ => f5, by show w.heap.size < W.heap.size; omega⟩
  ·exact ⟨fun j hj => by match j, hj with | 0, _ => exact ⟨_, c6 0 _ rfl⟩ | 1, _ => exact ⟨_, c6 1 _ rfl⟩, fun _ _ _ => f6, by show w.heap.size + 1 < W.heap.size; omega⟩
  ·exact ⟨ax.1, ax.2.1, Nat.lt_of_lt_of_le ax.2.2 hE0.size⟩
  ·exact ⟨ay.1, ay.2.1, Nat.lt_of_lt_of_le ay.2.2 hE0.size⟩
  ·exact ⟨fun j hj => ⟨_, by match j, hj with | 0, _ => exact c9⟩, fun _ _ _ => f9, by show w.heap.size + 1 + 1 < W.heap.size; omega⟩
 ·have l0 := a0.2.2
  have l1 := a1.2.2
  have l2 := a2.2.2
  have l3 := a3.2.2
  have l4 := a4.2.2
  have lx := ax.2.2
  have ly := ay.2.2
  simp only at l0 l1 l2 l3 l4 lx ly
  rw [hdj] at hx hy
  simp only [List.mem_cons, List.not_mem_nil, or_false] at hx hy
  rcases hx with rfl | rfl | rfl | rfl | rfl | rfl | rfl | rfl | rfl | rfl <;> first
   | (cases hw; done)
   | (rcases hy with rfl | rfl | rfl | rfl | rfl | rfl | rfl | rfl | rfl | rfl <;> first
     | (exact absurd rfl hxy)
     | (left; simp only [phi36]; omega)
     | (exact d2 (rx, 1, true) m6 (0, 4, false) m0 (by show rx ≠ 0; omega) rfl)
     | (exact d2 (rx, 1, true) m6 (1, 0, false) m1 (by show rx ≠ 1; omega) rfl)
     | (exact d2 (rx, 1, true) m6 (2, 1, false) m2 (by show rx ≠ 2; omega) rfl)
     | (exact d2 (rx, 1, true) m6 (3, 1, false) m3 (by show rx ≠ 3; omega) rfl)
     | (exact d2 (rx, 1, true) m6 (4, 1, false) m4 (by show rx ≠ 4; omega) rfl)
     | (exact d2 (rx, 1, true) m6 (ry, 1, true) m7 hxy0 rfl)
     | (exact d2 (ry, 1, true) m7 (0, 4, false) m0 (by show ry ≠ 0; omega) rfl)
     | (exact d2 (ry, 1, true) m7 (1, 0, false) m1 (by show ry ≠ 1; omega) rfl)
     | (exact d2 (ry, 1, true) m7 (2, 1, false) m2 (by show ry ≠ 2; omega) rfl)
     | (exact d2 (ry, 1, true) m7 (3, 1, false) m3 (by show ry ≠ 3; omega) rfl)
     | (exact d2 (ry, 1, true) m7 (4, 1, false) m4 (by show ry ≠ 4; omega) rfl)
     | (exact d2 (ry, 1, true) m7 (rx, 1, true) m6 (fun e => hxy0 e.symm) rfl))
 ·have h4 := gl_lt hl
  rw [hne rr (by omega) (by omega) (by omega) (by omega) (by omega)]
  exact p5 g rr hl
def Dx_v : Value := Dx_s.den base.K (fun _ => 0) (fun _ => ⟨0, 0, 0⟩)
def Dy_v : Value := Dy_s.den base.K (fun _ => 0) (fun _ => ⟨0, 0, 0⟩)
theorem call36 {ρ : Nat -> Int} {φ : Nat -> Pl} {w W : World} {rx ry n : Nat} (hx : 5 <= rx) (hy : 5 <= ry) (hxy : rx ≠ ry) (hpre : PreE base ρ φ w (edR rx ry n))
  (hE : Ext (((w.alloc (.cells #[.int .i64 0] 3)).alloc (.cells #[.slice (some (paddr φ rx 0)) 1 1, .slice (some (paddr φ ry 0)) 1 1] 24)).alloc (.cells #[.string ⟨⟨[49]⟩⟩] 9)) W) :
  Calls Tryz.prog 41 #[.pointer (some ⟨w.heap.size, 0, none⟩), .pointer (some ⟨w.heap.size + 1, 0, none⟩), .pointer (some ⟨w.heap.size + 1 + 1, 0, none⟩)] W fun e w' => ∃ a b, e = .returned (.agg #[.slice a 1 1, .slice b 1 1]) /\ RT W.heap.size Dx_v Dy_v a b w' /\ Ext W w' := by
 have h36 : Tryz.prog.funcs[41]? = some Tryz.f41 /\ (Tryz.f41.name == "runtime.NumGoroutine") = false := fnOK (by kernel_rfl)
 have hb36 : Tryz.f41.body.isSome = true := by kernel_rfl
 have hc := calls_of_callOK h36.1 h36.2 hb36 (c36 ρ (phi36 φ rx ry w.heap.size) W (pre36 hx hy hxy hpre hE))
 refine Calls.mono hc ?_
 rintro e w' ⟨v, rfl, φ', ⟨_, q2, q3, q4⟩, rfl⟩
 have x1 := q2 (10, [Dx_s]) (by simp [r36])
 have x2 := q2 (11, [Dy_s]) (by simp [r36])
 have x3 := q3 (10, [Dx_s]) (by simp [r36]) (11, [Dy_s]) (by simp [r36]) (by decide)
 refine ⟨some (paddr φ' 10 0), some (paddr φ' 11 0), rfl, ⟨(φ' 10).b, (φ' 10).o, (φ' 11).b, (φ' 11).o, rfl, rfl, x1.1, x2.1, ?_, x1.2.1, x2.2.1, x1.2.2.1 0 _ rfl, x2.2.2.1 0 _ rfl, (x1.2.2.2 0 (by decide)).2, (x2.2.2.2 0 (by decide)).2⟩, ⟨q4.os, q4.tape, q4.output, q4.size, q4.block⟩⟩
 rcases x3 with h | h | h
 ·exact .inl h
 ·right; simp only [List.length_cons, List.length_nil] at h; omega
 ·right; simp only [List.length_cons, List.length_nil] at h; omega
end
end Go.Eng
namespace Go.Eng
open Go Go.RowKit Go.Proofs
noncomputable section
set_option maxRecDepth 1000000
def phiG (pE : Pl) : Nat -> Pl
 | 0 => ⟨0, 0, 0⟩
 | 1 => ⟨1, 0, 0⟩
 | 2 => ⟨4, 0, 0⟩
 | 3 => ⟨2, 0, 0⟩
 | _ => pE
def gR : R := { fn := none, kd := [], rds := rdG, wcs := [], al := [], res := .tup [], dj := djG }
def Glob (pE : Pl) (w : World) : Prop := PreE base (fun _ => 0) (phiG pE) w gR
theorem Glob.ext {pE : Pl} {w W : World} (h : Glob pE w) (e : Ext w W) : Glob pE W := by
 obtain ⟨p1, _, _, ⟨d1, d2⟩, p5⟩ := h
 refine ⟨fun x hx j v hv => e.cell (p1 x hx j v hv), fun x hx => (by cases hx), fun x hx => (by cases hx), ⟨fun x hx => ?_, d2⟩, p5⟩
 obtain ⟨q1, q2, q3⟩ := d1 x hx
 refine ⟨fun j hj => ?_, fun hw j hj o => ?_, Nat.lt_of_lt_of_le q3 e.size⟩
 ·obtain ⟨v, hv⟩ := q1 j hj
  exact ⟨v, e.cell hv⟩
 ·rw [e.frozenE q3]; exact q2 hw j hj o
theorem lt_of_cell' {w : World} {b o : Nat} {v : Value} (h : w.cell? ⟨b, o, none⟩ = some v) : b < w.heap.size := by
 by_cases hb : b < w.heap.size
 ·exact hb
 ·exfalso
  unfold World.cell? at h
  rw [show w.heap[b]? = none from Array.getElem?_eq_none (by omega)] at h
  simp at h
def sOf : C -> ByteArray
 | .val (.string s) => s
 | _ => ⟨⟨[]⟩⟩
theorem info_call {pE : Pl} {w : World} (hG : Glob pE w) :
  Calls Tryz.prog 16 #[.int .i64 0, .int .i64 0] w fun e w' => ∃ b1 o1 b2 o2, e = .returned (.tuple #[.string (sOf TxP_s), .string (sOf TxA_s), .string (sOf TxD_s), .string (sOf TxQ_s), .string (sOf TxC_s), .agg #[.slice (some ⟨b1, o1, none⟩) 1 1, .slice (some ⟨b2, o2, none⟩) 1 1]]) /\
   w'.cell? ⟨b1, o1, none⟩ = some (.string (sOf TxX_s)) /\ w'.cell? ⟨b2, o2, none⟩ = some (.string (sOf TxY_s)) /\ Ext w w' := by
 have h13 : Tryz.prog.funcs[16]? = some Tryz.f16 /\ (Tryz.f16.name == "runtime.NumGoroutine") = false := fnOK (by kernel_rfl)
 have hb13 : Tryz.f16.body.isSome = true := by kernel_rfl
 obtain ⟨e1, e2, e3⟩ := cxD_e H6 16
 have hs := inlOf_spec m13
 have hK : (cxD H6 16).K = base.K := by simp only [Cx.K, e2]
 have hpre : PreE base (fun _ => 0) (phiG pE) w r13 := hG
 have hc0 := inl_call (cxD_good H6_sound 16) (by rw [e1]; exact follows) (fun f fn hf => by rw [e1]; exact fnOK hf) hs (fun _ => 0) (phiG pE) w (PreE_congr e2.symm e3.symm hpre)
 rw [hK, e1] at hc0
 have conv : ∀ v w', (∃ φ', PostE (cxD H6 16) (fun _ => 0) (phiG pE) w r13 φ' w' /\ v = r13.res.den base.K (fun _ => 0) φ') -> ∃ φ', PostE base (fun _ => 0) (phiG pE) w r13 φ' w' /\ v = r13.res.den base.K (fun _ => 0) φ' :=
  fun v w' ⟨φ', k1, k2⟩ => ⟨φ', PostE_congr e2 k1, k2⟩
 have hc1 : CallOK Tryz.prog 16 (([.one (i64c 0), .one (i64c 0)] : List V).map (V.den base.K (fun _ => 0) (phiG pE))).toArray w fun v w' => ∃ φ', PostE base (fun _ => 0) (phiG pE) w r13 φ' w' /\ v = r13.res.den base.K (fun _ => 0) φ' := by
  rcases hc0 with ⟨v, w', a1, a2⟩ | ⟨a1, a2⟩
  ·exact .inl ⟨v, w', a1, conv v w' a2⟩
  ·exact .inr ⟨a1, a2.mono fun e w' ⟨v, b1, b2⟩ => ⟨v, b1, conv v w' b2⟩⟩
 have hc := calls_of_callOK h13.1 h13.2 hb13 hc1
 refine Calls.mono hc ?_
 rintro e w' ⟨v, rfl, φ', ⟨_, q2, q3, q4⟩, rfl⟩
 have x1 := q2 (5, [TxX_s]) (by simp [r13, leaves0])
 have x2 := q2 (6, [TxY_s]) (by simp [r13, leaves0])
 refine ⟨(φ' 5).b, (φ' 5).o + 0, (φ' 6).b, (φ' 6).o + 0, rfl, x1.2.2.1 0 _ rfl, x2.2.2.1 0 _ rfl, ⟨q4.os, q4.tape, q4.output, q4.size, q4.block⟩⟩
def phiB (pE : Pl) (bx by_ : Nat) : Nat -> Pl
 | 0 => ⟨0, 0, 0⟩
 | 1 => ⟨1, 0, 0⟩
 | 2 => ⟨4, 0, 0⟩
 | 3 => ⟨2, 0, 0⟩
 | 4 => pE
 | 5 => ⟨bx, 0, 0⟩
 | 6 => ⟨by_, 0, 0⟩
 | _ => pE
theorem double_call {pE : Pl} {w0 w : World} (hG : Glob pE w0) (hE : Ext w0 w) {bx by_ : Nat} (hbx : w0.heap.size <= bx) (hby : w0.heap.size <= by_) (hne : bx ≠ by_)
  (cx : w.cell? ⟨bx, 0, none⟩ = some (.string (sOf TxX_s))) (cy : w.cell? ⟨by_, 0, none⟩ = some (.string (sOf TxY_s))) (fx : ∀ o, w.frozen? ⟨bx, o, none⟩ = false) (fy : ∀ o, w.frozen? ⟨by_, o, none⟩ = false) :
  Calls Tryz.prog 20 #[.int .i64 0, .int .i64 0, .int .i64 0, .agg #[.slice (some ⟨bx, 0, none⟩) 1 1, .slice (some ⟨by_, 0, none⟩) 1 1], .string ⟨⟨[49]⟩⟩] w fun e w' => ∃ b1 o1 b2 o2, e = .returned (.tuple #[.agg #[.slice (some ⟨b1, o1, none⟩) 1 1, .slice (some ⟨b2, o2, none⟩) 1 1], .bool true]) /\
   w'.cell? ⟨b1, o1, none⟩ = some (.string (sOf Dx_s)) /\ w'.cell? ⟨b2, o2, none⟩ = some (.string (sOf Dy_s)) /\ Ext w w' := by
 have hGw := hG.ext hE
 obtain ⟨g1, _, _, ⟨d1, _⟩, g5⟩ := hG
 obtain ⟨p1, _, _, ⟨k1, k2⟩, p5⟩ := hGw
 have hall : ∀ i n, (i, n, false) ∈ djG -> (phiG pE i).b < w0.heap.size := fun i n h => (d1 (i, n, false) h).2.2
 have b0 := hall 0 4 (by simp [djG])
 have b1 := hall 1 0 (by simp [djG])
 have b2 := hall 2 1 (by simp [djG])
 have b3 := hall 3 1 (by simp [djG])
 have b4 := hall 4 1 (by simp [djG])
 have hlx := Nat.lt_of_lt_of_le (lt_of_cell' cx) (Nat.le_refl _)
 have hly := Nat.lt_of_lt_of_le (lt_of_cell' cy) (Nat.le_refl _)
 simp only [phiG] at b0 b1 b2 b3 b4
 have hpre : PreE base (fun _ => 0) (phiB pE bx by_) w (edR 5 6 7) := by
  refine ⟨fun x hx => ?_, fun x hx => (by cases hx), fun x hx => (by cases hx), ⟨fun x hx => ?_, fun x hx y hy hxy hw => ?_⟩, fun g rr hl => ?_⟩
  ·have hr : (edR 5 6 7).rds = [(0, 0, [ui 1997599621687373223, ui 6052339484930628067, ui 10108755138030829701, ui 150537098327114917]), (1, 0, []), (2, 0, [.ch 3 (.n 8) 0]), (3, 0, [.ifc 181 (.ptr 4 0)]), (4, 0, [.val (.string ⟨#[69, 79, 70]⟩)]), (5, 0, [TxX_s]), (6, 0, [TxY_s])] := rfl
   rw [hr] at hx
   simp only [List.mem_cons, List.not_mem_nil, or_false] at hx
   rcases hx with rfl | rfl | rfl | rfl | rfl | rfl | rfl
   ·exact p1 (0, 0, [ui 1997599621687373223, ui 6052339484930628067, ui 10108755138030829701, ui 150537098327114917]) (by simp [gR, rdG])
   ·exact p1 (1, 0, []) (by simp [gR, rdG])
   ·exact p1 (2, 0, [.ch 3 (.n 8) 0]) (by simp [gR, rdG])
   ·exact p1 (3, 0, [.ifc 181 (.ptr 4 0)]) (by simp [gR, rdG])
   ·exact p1 (4, 0, [.val (.string ⟨#[69, 79, 70]⟩)]) (by simp [gR, rdG])
   ·intro j u hu
    match j, hu with
    | 0, hu => simp only [List.getElem?_cons_zero, List.map_cons, Option.some.injEq] at hu; subst hu; exact cx
   ·intro j u hu
    match j, hu with
    | 0, hu => simp only [List.getElem?_cons_zero, List.map_cons, Option.some.injEq] at hu; subst hu; exact cy
  ·have hdj : (edR 5 6 7).dj = [(0, 4, false), (1, 0, false), (2, 1, false), (3, 1, false), (4, 1, false), (5, 1, true), (6, 1, true)] := rfl
   rw [hdj] at hx
   simp only [List.mem_cons, List.not_mem_nil, or_false] at hx
   rcases hx with rfl | rfl | rfl | rfl | rfl | rfl | rfl
   ·exact k1 (0, 4, false) (by simp [gR, djG])
   ·exact k1 (1, 0, false) (by simp [gR, djG])
   ·exact k1 (2, 1, false) (by simp [gR, djG])
   ·exact k1 (3, 1, false) (by simp [gR, djG])
   ·exact k1 (4, 1, false) (by simp [gR, djG])
   ·exact ⟨fun j hj => ⟨_, by match j, hj with | 0, _ => exact cx⟩, fun _ _ _ => fx, hlx⟩
   ·exact ⟨fun j hj => ⟨_, by match j, hj with | 0, _ => exact cy⟩, fun _ _ _ => fy, hly⟩
  ·have hdj : (edR 5 6 7).dj = [(0, 4, false), (1, 0, false), (2, 1, false), (3, 1, false), (4, 1, false), (5, 1, true), (6, 1, true)] := rfl
   rw [hdj] at hx hy
   simp only [List.mem_cons, List.not_mem_nil, or_false] at hx hy
   rcases hx with rfl | rfl | rfl | rfl | rfl | rfl | rfl <;> first
    | (cases hw; done)
    | (rcases hy with rfl | rfl | rfl | rfl | rfl | rfl | rfl <;> first
      | (exact absurd rfl hxy)
      | (left; simp only [phiB]; omega))
  ·have h4 := gl_lt hl
   have h := g5 g rr hl
   match rr, h4, h with
   | 0, _, h => exact h
   | 1, _, h => exact h
   | 2, _, h => exact h
   | 3, _, h => exact h
 refine (edDouble_walk (.slice (some ⟨bx, 0, none⟩) 1 1) (.slice (some ⟨by_, 0, none⟩) 1 1) ⟨⟨[49]⟩⟩ Dx_v Dy_v w (fun W hW => call36 (by decide) (by decide) (by decide) hpre hW)).mono ?_
 rintro e w' ⟨a, b, rfl, ⟨c1, o1, c2, o2, rfl, rfl, _, _, _, _, _, h1, h2, _, _⟩, hEw⟩
 exact ⟨c1, o1, c2, o2, rfl, h1, h2, hEw⟩
end
end Go.Eng
