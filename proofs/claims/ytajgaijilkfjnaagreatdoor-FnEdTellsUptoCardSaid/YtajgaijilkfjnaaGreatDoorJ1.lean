/-
 The law: the walk through laws.FnEdTells and the plain reckoning at the curve.
-/
import Derived.Test.YtajgaijilkfjnaaGreatDoorRows
import Derived.ProofKit
import Derived.LaidMore
import Derived.OpenShut
import Derived.Stop.Joined
import Derived.Stop.LaidErr
import Derived.Lib.LaidTab
import Derived.Test.YtajgaijilkfjnaaGreatDoorD5
set_option linter.unusedVariables false
set_option linter.unusedSimpArgs false
namespace Go.Eng
open Go Go.RowKit Go.Proofs Go.Proofs.YtajgaijilkfjnaaGreatDoor
set_option maxRecDepth 100000
theorem star_err : ("*" ++ "errors.errorString" : String) = "*errors.errorString" := by decide
theorem row172 : ∀ u, Tryz.prog.typeName? 3 u = some "*errors.errorString" -> u = 181 := fun u h =>
 typeName_ptr_named (nm := "errors.errorString") (by rw [star_err]; kernel_rfl) (by kernel_rfl) (by decide) u (by rw [star_err]; exact h)
theorem eof_of {r : List (String × DataW Unit)} {W : World} (h : laidMet Tryz.prog (("io.EOF", Rows.laid_io_EOF) :: r) W) : ∃ b o, W.cell? ⟨2, 0, none⟩ = some (.iface 181 (.pointer (some ⟨b, o, none⟩))) /\ W.cell? ⟨b, o, none⟩ = some (.string ⟨#[69, 79, 70]⟩) := by
 obtain ⟨a, s, hv, hc, hs, _⟩ := laid_sentinel (g := 2) (ti := 125) (tp := 181) (te := 183) (ts := 9) h (by kernel_rfl) (by kernel_rfl) Tryz.underlying125 row172 Tryz.underlying181 Tryz.underlying183 rfl rfl Tryz.underlying9 (by kernel_rfl) (by kernel_rfl)
 have h2 := World.var?_cell (P := Tryz.prog) (n := "io.EOF") (g := 2) (by kernel_rfl) hv 0
 obtain ⟨b, o, sp⟩ := a
 have hsp : sp = none := by
  cases sp with
  | none => rfl
  | some x =>
    exfalso
    unfold World.cell? at hc
    split at hc
    ·simp at hc
    ·cases hc
 subst hsp
 refine ⟨b, o, by simpa using h2, ?_⟩
 rw [hc]
 obtain ⟨⟨l⟩⟩ := s
 have : l = [69, 79, 70] := hs
 rw [this]
theorem leaf_of {r : List (String × DataW Unit)} {W : World} (h : laidMet Tryz.prog (("pub-foxglove/pub/bigall.leafSize", Rows.laid_pub_foxglove_pub_bigall_leafSize) :: r) W) : W.cell? ⟨4, 0, none⟩ = some (.int .i64 8) := by
 obtain ⟨ps, ⟨g, t, cs, fuel, p, q, hg, ht, hv, hd, _⟩, _⟩ := h
 have g4 : Tryz.prog.globalNamed "pub-foxglove/pub/bigall.leafSize" = some 4 := by kernel_rfl
 have t3 : (Tryz.prog.globals[4]?).map (·.type) = some 3 := by kernel_rfl
 obtain rfl := Option.some.inj (g4.symm.trans hg)
 obtain rfl := Option.some.inj (t3.symm.trans ht)
 obtain ⟨k, e1, e2, _⟩ := DataW.trod_int Tryz.underlying3 hd
 have hk : k = 8 := by
  simp only [Rows.laid_pub_foxglove_pub_bigall_leafSize, Prod.mk.injEq, DataW.lit.injEq, Lit.int.injEq] at e2
  exact e2.1.2.symm
 subst hk
 have := World.var?_cell hg hv 0
 obtain ⟨l⟩ := cs
 simp only at e1
 subst e1
 simpa using this
theorem rsq_of {r : List (String × DataW Unit)} {W : World} (h : laidMet Tryz.prog (("pub-foxglove/pub/gnarkcrypto/ecc/bn254/fr.rSquare", Rows.laid_pub_foxglove_pub_gnarkcrypto_ecc_bn254_fr_rSquare) :: r) W) :
  ∀ j v, [Value.int .u64 1997599621687373223, .int .u64 6052339484930628067, .int .u64 10108755138030829701, .int .u64 150537098327114917][j]? = some v -> W.cell? ⟨0, j, none⟩ = some v := by
 have hT := Lib.tabIs_of_head (k := .u64) (zs := [1997599621687373223, 6052339484930628067, 10108755138030829701, 150537098327114917]) (g := 0) (t := 69) (e := 65) (n := 4) (by kernel_rfl) (by kernel_rfl) (by kernel_rfl) (by kernel_rfl) (by kernel_rfl) (by kernel_rfl) h
 intro j v hj
 have hlt : j < 4 := by
  have := (List.getElem?_eq_some_iff.1 hj).1
  simpa using this
 have := hT.cell (g := 0) (by kernel_rfl) j (by simpa using hlt)
 rw [this, <- hj]
 match j, hlt with
 | 0, _ => rfl
 | 1, _ => rfl
 | 2, _ => rfl
 | 3, _ => rfl
theorem glob_of {W : World} (h : laidMetH Tryz.prog Rows.fnEdTellsUptoRow.laid W) : ∃ pE, Glob pE W := by
 rw [MakeChecks.laidMetH_plain _ _ _ (by kernel_rfl)] at h
 have h3 := h.tail.tail
 obtain ⟨b, o, e1, e2⟩ := eof_of h3
 have l1 := leaf_of h3.tail.tail.tail
 have r1 := rsq_of h3.tail.tail.tail.tail.tail.tail.tail.tail
 have hlt : 4 < W.heap.size := lt_of_cell' l1
 refine ⟨⟨b, o, 0⟩, fun x hx => ?_, fun x hx => (by cases hx), fun x hx => (by cases hx), ⟨fun x hx => ?_, fun x hx y hy hxy hw => ?_⟩, fun g rr hl => ?_⟩
 ·have hr : gR.rds = [(0, 0, [ui 1997599621687373223, ui 6052339484930628067, ui 10108755138030829701, ui 150537098327114917]), (1, 0, []), (2, 0, [.ch 3 (.n 8) 0]), (3, 0, [.ifc 181 (.ptr 4 0)]), (4, 0, [.val (.string ⟨#[69, 79, 70]⟩)])] := rfl
  rw [hr] at hx
  simp only [List.mem_cons, List.not_mem_nil, or_false] at hx
  rcases hx with rfl | rfl | rfl | rfl | rfl
  ·intro j u hu
   have := r1 j u hu
   simpa [at_, pl, phiG] using this
  ·intro j u hu
   simp at hu
  ·intro j u hu
   match j, hu with
   | 0, hu => simp only [List.getElem?_cons_zero, List.map_cons, Option.some.injEq] at hu; subst hu; exact l1
  ·intro j u hu
   match j, hu with
   | 0, hu => simp only [List.getElem?_cons_zero, List.map_cons, Option.some.injEq] at hu; subst hu; exact e1
  ·intro j u hu
   match j, hu with
   | 0, hu => simp only [List.getElem?_cons_zero, List.map_cons, Option.some.injEq] at hu; subst hu; exact e2
 ·have hdj : gR.dj = [(0, 4, false), (1, 0, false), (2, 1, false), (3, 1, false), (4, 1, false)] := rfl
  rw [hdj] at hx
  simp only [List.mem_cons, List.not_mem_nil, or_false] at hx
  rcases hx with rfl | rfl | rfl | rfl | rfl
  ·refine ⟨fun j hj => ?_, fun hw => (by cases hw), by show 0 < W.heap.size; omega⟩
   obtain ⟨v, hv⟩ : ∃ v, [Value.int .u64 1997599621687373223, .int .u64 6052339484930628067, .int .u64 10108755138030829701, .int .u64 150537098327114917][j]? = some v := ⟨_, List.getElem?_eq_getElem (by simpa using hj)⟩
   exact ⟨v, by have := r1 j v hv; simpa [at_, phiG] using this⟩
  ·exact ⟨fun j hj => absurd hj (Nat.not_lt_zero j), fun hw => (by cases hw), by show 1 < W.heap.size; omega⟩
  ·exact ⟨fun j hj => ⟨_, by match j, hj with | 0, _ => exact l1⟩, fun hw => (by cases hw), hlt⟩
  ·exact ⟨fun j hj => ⟨_, by match j, hj with | 0, _ => exact e1⟩, fun hw => (by cases hw), lt_of_cell' e1⟩
  ·exact ⟨fun j hj => ⟨_, by match j, hj with | 0, _ => exact e2⟩, fun hw => (by cases hw), lt_of_cell' e2⟩
 ·have hdj : gR.dj = [(0, 4, false), (1, 0, false), (2, 1, false), (3, 1, false), (4, 1, false)] := rfl
  rw [hdj] at hx hy
  simp only [List.mem_cons, List.not_mem_nil, or_false] at hx hy
  rcases hx with rfl | rfl | rfl | rfl | rfl <;> cases hw
 ·have h4 := gl_lt hl
  have hg : base.gl = [(0, 0), (1, 1), (4, 2), (2, 3)] := rfl
  rw [hg] at hl
  simp only [lookup] at hl
  cases h0 : Nat.beq 0 g <;> rw [h0] at hl <;> simp only [cond_true, cond_false] at hl
  ·cases h1 : Nat.beq 1 g <;> rw [h1] at hl <;> simp only [cond_true, cond_false] at hl
   ·cases h2 : Nat.beq 4 g <;> rw [h2] at hl <;> simp only [cond_true, cond_false] at hl
    ·cases h3 : Nat.beq 2 g <;> rw [h3] at hl <;> simp only [cond_true, cond_false] at hl
     ·cases hl
     ·cases hl; rw [<- Nat.eq_of_beq_eq_true h3]; rfl
    ·cases hl; rw [<- Nat.eq_of_beq_eq_true h2]; rfl
   ·cases hl; rw [<- Nat.eq_of_beq_eq_true h1]; rfl
  ·cases hl; rw [<- Nat.eq_of_beq_eq_true h0]; rfl
end Go.Eng
