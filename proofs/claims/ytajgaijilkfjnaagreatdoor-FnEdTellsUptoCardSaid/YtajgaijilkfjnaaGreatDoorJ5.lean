/-
 The law: the walk through laws.FnEdTells and the plain reckoning at the curve.
-/
import Derived.Test.YtajgaijilkfjnaaGreatDoorTie
import Derived.Test.YtajgaijilkfjnaaGreatDoorCards
import Derived.SevenTiedAt
import Derived.ChangeSame
import Derived.ChangeVars
import Derived.JoinedOf
import Derived.JoinedCond
import Derived.LaidHandle
import Derived.SliceStrings
import Derived.Carry
import Derived.Deep.DeepHandedRow
import Derived.Test.YtajgaijilkfjnaaGreatDoorJ1
import Derived.Test.YtajgaijilkfjnaaGreatDoorJ4
set_option linter.unusedVariables false
set_option linter.unusedSimpArgs false
namespace Go.Proofs.YtajgaijilkfjnaaGreatDoor
open Go Go.ChangeShapes Go.WideShapes Go.ChangeAt Go.RowKit Go.Eng
set_option maxRecDepth 100000
theorem bulk_one {H : Type} (d : DataW H) : 1 <= Rows.uptoBulk d := by
 cases d with
 | lit l => cases l <;> simp [Rows.uptoBulk]
 | nil => simp [Rows.uptoBulk]
 | ptr d => simp [Rows.uptoBulk]
 | slice elems spare => simp [Rows.uptoBulk]
 | agg parts => simp [Rows.uptoBulk]
 | iface t d => simp [Rows.uptoBulk]
 | map entries => simp [Rows.uptoBulk]
 | held h => simp [Rows.uptoBulk]
theorem bulk_part {H : Type} {d : DataW H} {l : List (DataW H)} (h : d ∈ l) : Rows.uptoBulk d <= Rows.uptoBulkAll l := by
 induction l with
 | nil => cases h
 | cons x r ih =>
   simp only [Rows.uptoBulkAll]
   cases List.mem_cons.1 h with
   | inl e => subst e; omega
   | inr e => have := ih e; omega
theorem bulk_length {H : Type} (l : List (DataW H)) : l.length <= Rows.uptoBulkAll l := by
 induction l with
 | nil => simp [Rows.uptoBulkAll]
 | cons x r ih => have := bulk_one x; simp only [Rows.uptoBulkAll, List.length_cons]; omega
theorem cell_plain {w : World} {a : Addr} {v : Value} (h : w.cell? a = some v) : a.spot = none := by
 obtain ⟨b, o, sp⟩ := a
 cases sp with
 | none => rfl
 | some x =>
   exfalso
   unfold World.cell? at h
   split at h
   ·simp at h
   ·cases h
theorem strs_of {H : Type} {enc : TypeId × Value -> H} {W : World} {fuel : Nat} {u : Value} {x : DataW H × List MemPlace} (h : DataW.trod enc Tryz.prog W 0 (fun _ => true) true fuel 22 [u] = some x) (hb : Rows.uptoBulk x.1 <= 1048576) : ∃ a l c, u = .slice a l c /\ Strs W (.slice a l c) := by
 rcases open_strings Tryz.underlying22 Tryz.underlying9 (by kernel_rfl) h with ⟨h1, _⟩ | ⟨a, len, cap, ss, h1, _, h3, h4, h5, h6, h7, h8⟩
 ·simp only [List.cons.injEq, and_true] at h1
  exact ⟨none, 0, 0, h1, none, 0, 0, 0, 0, rfl, by decide, (fun h => absurd h (Nat.lt_irrefl _)), fun k hk => absurd hk (Nat.not_lt_zero k)⟩
 ·simp only [List.cons.injEq, and_true] at h1
  simp only [if_true] at h5
  rw [h6] at hb
  replace hb : Rows.uptoBulk (DataW.slice (strs (H := H) (ss.take len)) (strs (ss.drop len))) <= 1048576 := hb
  have hb1 : Rows.uptoBulkAll (strs (H := H) (ss.take len)) <= 1048576 := by
   have : Rows.uptoBulk (DataW.slice (strs (H := H) (ss.take len)) (strs (ss.drop len))) = Rows.uptoBulkAll (strs (H := H) (ss.take len)) + Rows.uptoBulkAll (strs (H := H) (ss.drop len)) + 1 := by simp only [Rows.uptoBulk]
   omega
  have hl : len <= 1048576 := by
   have h9 := bulk_length (strs (H := H) (ss.take len))
   have h10 : (strs (H := H) (ss.take len)).length = len := by simp [strs]; omega
   omega
  refine ⟨some a, len, cap, h1, some a, len, cap, a.block, a.off, rfl, hl, fun h0 => ?_, fun k hk => ?_⟩
  ·have hc := cell_plain (h7 0 (by omega))
   obtain ⟨b, o, sp⟩ := a
   have : sp = none := hc
   rw [this]
  ·have hc0 := cell_plain (h7 0 (by omega))
   have hc := h7 k (by omega)
   have hk2 : k < ss.length := by omega
   have e1 : ss.getD k ByteArray.empty = ss[k] := by rw [List.getD_eq_getElem?_getD, List.getElem?_eq_getElem hk2]; rfl
   refine ⟨ss[k], ?_, ?_⟩
   ·have hm : DataW.lit (.string ss[k].data.toList) ∈ strs (H := H) (ss.take len) := by
     refine List.mem_map.2 ⟨ss[k], ?_, rfl⟩
     refine List.mem_iff_getElem?.2 ⟨k, ?_⟩
     rw [List.getElem?_take_of_lt hk, List.getElem?_eq_getElem hk2]
    have h9 := bulk_part hm
    have h10 : Rows.uptoBulk (DataW.lit (H := H) (.string ss[k].data.toList)) = ss[k].data.toList.length + 1 := by simp only [Rows.uptoBulk]
    have h11 : ss[k].data.toList.length = ss[k].size := by rw [Array.length_toList]; rfl
    omega
   ·rw [e1] at hc
    obtain ⟨b, o, sp⟩ := a
    have : sp = none := hc0
    subst this
    have h12 : (⟨b, o, none⟩ : Addr).add k = ⟨b, o + k, none⟩ := by
     unfold Addr.add
     by_cases hk0 : k = 0
     ·rw [if_pos hk0, hk0]; rfl
     ·rw [if_neg hk0]
    rw [h12] at hc
    exact hc
theorem laidOut_tryz : laidOutB Tryz.prog = true := by kernel_rfl
theorem fnEdTells_own : ownKnob Tryz.prog.godebug = none := by kernel_rfl
theorem glob_upto {W : World} (h : laidMetH Tryz.prog Rows.fnEdTellsUptoRow.laid W) : ∃ pE, Glob pE W := glob_of h
theorem contract (H : Type) (enc : TypeId × Value -> H) (W : World) (base : Nat) (args : Array Value) (ds gs : List (DataW H)) (before : List MemPlace)
  (hval0 : ∀ (j : Nat) t v, Tryz.f3.params[j]? = some t -> args[j]? = some v -> Value.okWide Tryz.prog W .any base t v)
  (hW : DataW.Whole enc Tryz.prog Tryz.f3.params.toList Rows.fnEdTellsSpec.vars false W args.toList ds gs before) (hL : laidMetH Tryz.prog Rows.fnEdTellsUptoRow.laid W) (hk : Rows.uptoSmall H (ds ++ gs) = true) :
  Calls Tryz.prog 3 args W fun e W' => ∃ v, e = .returned v /\ Rows.fnEdTellsSpec.post enc Tryz.prog Tryz.f3 false true false false W args v W' := by
 have hval : ∀ (j : Nat) t v, Tryz.f3.params[j]? = some t -> args[j]? = some v -> Value.okWide Tryz.prog W .any base t v := hval0
 have hW' := hW
 obtain ⟨p, q, hA0, hV, rfl, hfz, hnd⟩ := hW
 have hA : DataW.TrodAll enc Tryz.prog W 0 (fun _ => true) true Tryz.f3.params.toList args.toList ds p := hA0
 rw [Tryz.params3] at hA hval
 obtain ⟨v0, vs0, d0, ds0, p0, q0, hargs, rfl, rfl, h0, r0⟩ := trodAll_cons hA
 obtain ⟨v1, vs1, d1, ds1, p1, q1, rfl, rfl, rfl, h1, r1⟩ := trodAll_cons r0
 obtain ⟨v2, vs2, d2, ds2, p2, q2, rfl, rfl, rfl, h2, r2⟩ := trodAll_cons r1
 obtain ⟨rfl, rfl, rfl⟩ := trodAll_nil r2
 obtain rfl : args = #[v0, v1, v2] := by cases args; simp_all
 obtain ⟨rfl, rfl⟩ := trodVars_none hV
 obtain ⟨n, rfl, rfl, rfl, hwn⟩ := open_int Tryz.underlying5 (hval 0 5 v0 rfl rfl) h0
 obtain ⟨b, rfl, rfl, rfl⟩ := open_bool Tryz.underlying4 (hval 1 4 v1 rfl rfl) h1
 obtain ⟨cs, rfl, hcs⟩ := okWide_struct Tryz.underlying24 (hval 2 24 v2 rfl rfl)
 obtain ⟨pE, hG⟩ := glob_upto hL
 have h2k := h2
 obtain ⟨fuel, hf⟩ := h2
 obtain ⟨y0, y1, m, hy, hlen, e0, e1⟩ := trod_struct2 Tryz.underlying24 hf
 have c24 : Tryz.prog.cellsOf 24 = 2 := by kernel_rfl
 have c22 : Tryz.prog.cellsOf 22 = 1 := by kernel_rfl
 obtain ⟨u0, u1, rfl⟩ : ∃ u0 u1, cs = #[u0, u1] := by
  rw [c24] at hcs
  obtain ⟨l⟩ := cs
  match l, hcs with
  | [a, b], _ => exact ⟨a, b, rfl⟩
 simp only [Prod.mk.injEq] at hy
 obtain ⟨rfl, rfl⟩ := hy
 simp only [List.append_nil] at hW' hk
 have hbulk : Rows.uptoBulk y0.1 <= 1048576 /\ Rows.uptoBulk y1.1 <= 1048576 := by
  have h : Rows.uptoBulkAll [DataW.lit (H := H) (.int .u8 n), .lit (.bool b), .agg [y0.1, y1.1]] <= 1048576 := of_decide_eq_true hk
  simp only [Rows.uptoBulkAll, Rows.uptoBulk] at h
  omega
 obtain ⟨aX, lX, cX, rfl, hx⟩ := strs_of (u := u0) (by simpa [Value.cells, c22] using e0) hbulk.1
 obtain ⟨aY, lY, cY, rfl, hy⟩ := strs_of (u := u1) (by simpa [Value.cells, c22] using e1) hbulk.2
 clear hA0 hval0
 obtain ⟨c, hc, rfl⟩ : ∃ c : Nat, c < 256 /\ n = (c : Int) := by
  have hb : (0 : Int) <= n /\ n <= 255 := by
   have h2 : (decide (IntKind.min .u8 <= n) && decide (n <= IntKind.max .u8)) = true := hwn
   rw [show IntKind.min .u8 = 0 from rfl, show IntKind.max .u8 = 255 from rfl] at h2
   simpa using h2
  exact ⟨n.toNat, by omega, by omega⟩
 refine (fnEdTells_walk hc b hG hx hy).mono fun e W' ⟨he, hE⟩ => ?_
 subst he
 have hlt : ∀ x ∈ y0.2 ++ y1.2, x.block < W.heap.size := fun x hx => by
  have := hW'.lt x (by simpa using hx)
  simpa using this
 have hB : Below W.heap.size W W' := hE.below
 have h2' := Below.trod laidOut_tryz (by kernel_rfl) (of_decide_eq_true (by kernel_rfl)) h2k hB hlt
 refine ⟨_, rfl, _, _, _, [], y0.2 ++ y1.2, [], hW', ?_, ?_, rfl, World.Since.frame hE _, fun h => by cases h⟩
 ·exact trodAll_mk1 (shut_bool Tryz.underlying4 true)
 ·have hh := trodAll_cons_mk (shut_int Tryz.underlying5 hwn) (trodAll_cons_mk (shut_bool Tryz.underlying4 b) (trodAll_cons_mk h2' trodAll_mk0))
  rw [List.nil_append, List.nil_append, List.append_nil] at hh
  exact hh
end Go.Proofs.YtajgaijilkfjnaaGreatDoor
namespace Go.Proofs.YtajgaijilkfjnaaGreatDoor
open Go Go.ChangeShapes Go.WideShapes Go.ChangeAt Go.RowKit Go.Eng
set_option maxRecDepth 100000
theorem fnEdTells_door (os : Os) : laidMet Tryz.prog Rows.fnEdTellsUptoRow.laid ((World.doorLaid Tryz.prog 101 os).forCall (fun _ _ => 0) ⟨#[], #[.int .u8 0, .bool false, .agg #[.slice none 0 0, .slice none 0 0]], []⟩).memory :=
 laidMet_of_run' 8 (by kernel_rfl) (by kernel_rfl)
theorem fnEdTells_reads (os : Os) {H : Type} (enc : TypeId × Value -> H) : ∃ places, DataW.whole enc Tryz.prog ((World.doorLaid Tryz.prog 101 os).forCall (fun _ _ => 0) ⟨#[], #[.int .u8 0, .bool false, .agg #[.slice none 0 0, .slice none 0 0]], []⟩).memory Tryz.f3.params.toList Rows.fnEdTellsSpec.vars false #[Value.int .u8 0, .bool false, .agg #[.slice none 0 0, .slice none 0 0]].toList 8 = some ([.lit (.int .u8 0), .lit (.bool false), .agg [.nil, .nil]], [], places) :=
 ⟨[], by kernel_rfl⟩
theorem fnEdTells_lifted (os : Os) (started : os.Started) (H : Type) (enc : TypeId × Value -> H) (F : Stop.Interp) :
  ReturnsInHanded {} Tryz.checked os 3 .any ((Rows.OpenSpec.upto Rows.fnEdTellsSpec).preRow enc Tryz.prog Tryz.f3 Rows.fnEdTellsUptoRow.domain false Rows.fnEdTellsUptoRow.laid) (((Rows.OpenSpec.upto Rows.fnEdTellsSpec).at F).post enc Tryz.prog Tryz.f3 false true false false) := by
 obtain ⟨places, hx⟩ := fnEdTells_reads os enc
 refine returnsInHanded_of_row (C := Tryz.checked) (s := Rows.OpenSpec.upto Rows.fnEdTellsSpec) fnEdTells_own started (by kernel_rfl) Tryz.func3
  ⟨World.doorLaid Tryz.prog 101 os, fun _ _ => 0, ⟨#[], #[.int .u8 0, .bool false, .agg #[.slice none 0 0, .slice none 0 0]], []⟩, rfl, World.shaped_of_RefB (by kernel_rfl) (by kernel_rfl),
   rfl, (Input.okWide_of_okWideB (by kernel_rfl)).2,
   OpenSpec.preRow_of_cond 8 hx (by kernel_rfl) (fun k hk => by cases hk; kernel_rfl) (by kernel_rfl) (fnEdTells_door os), by
    simp only [Assume.holds]
    exact ⟨by simp, by simp, fun _ => Modest.zero, by simp, by simp⟩⟩ ?_
 intro W base args ds gs before hval hW _ hk _ hL _ _
 exact contract H enc W base args ds gs before hval hW hL (hk _ rfl)
end Go.Proofs.YtajgaijilkfjnaaGreatDoor
