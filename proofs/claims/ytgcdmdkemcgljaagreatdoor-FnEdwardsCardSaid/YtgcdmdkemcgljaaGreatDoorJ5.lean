/-
  FnEdwards: for every input the law laws.FnEdwards returns true, its arguments read as before, and memory that was there is as it was; the condition: the listed package variables hold what the program lays (tied to its text by the card).
-/
import Derived.Test.YtgcdmdkemcgljaaGreatDoorTie
import Derived.Test.YtgcdmdkemcgljaaGreatDoorCards
import Derived.SevenTiedAt
import Derived.ChangeSame
import Derived.ChangeVars
import Derived.JoinedOf
import Derived.LaidHandle
import Derived.Test.YtgcdmdkemcgljaaGreatDoorJ1
import Derived.Test.YtgcdmdkemcgljaaGreatDoorJ4
set_option linter.unusedVariables false
set_option linter.unusedSimpArgs false
namespace Go.Proofs.YtgcdmdkemcgljaaGreatDoor
open Go Go.ChangeShapes Go.WideShapes Go.ChangeAt Go.RowKit Go.Eng
set_option maxRecDepth 100000
theorem fnEdwards_own : ownKnob Tryz.prog.godebug = none := by kernel_rfl
/-- The door's own heap meets the condition. -/
theorem fnEdwards_door (os : Os) (args : Array Value) : laidMetH Tryz.prog Rows.fnEdwardsRow.laid ((World.doorLaid Tryz.prog 101 os).forCall (fun _ _ => 0) ⟨#[], args, []⟩).memory :=
  laidMetH_of_parts3 (fuel := 8) (laidMet_of_run' 8 (by kernel_rfl) (by kernel_rfl)) (by kernel_rfl) (by kernel_rfl)
theorem fnEdwards_lifted (os : Os) (started : os.Started) (H : Type) (enc : TypeId × Value → H) :
    ReturnsInHanded {} Tryz.checked os 3 .any (fun w args => (Rows.fnEdwardsSpec.pre enc Tryz.prog Tryz.f3 [] false w args ∧ laidMetH Tryz.prog Rows.fnEdwardsRow.laid w) ∧ sizedMet enc Tryz.prog Tryz.f3 (OpenSpec.ofChange Rows.fnEdwardsSpec) false w args)
      (Rows.fnEdwardsSpec.post enc Tryz.prog Tryz.f3 false true false false) := by
  refine returnsInHanded_of_change_and (C := Tryz.checked) (X := fun w _ => laidMetH Tryz.prog Rows.fnEdwardsRow.laid w) (fun _ _ _ hh h => h.of_heap hh) fnEdwards_own started (by kernel_rfl) Tryz.func3
    (ChangeSpec.witness_shaped (enc := enc) (C := Tryz.checked) (os := os) (X := fun w _ => laidMetH Tryz.prog Rows.fnEdwardsRow.laid w) false (World.doorLaid Tryz.prog 101 os) #[.int .u8 0, .bool false] 8 rfl (World.shaped_of_RefB (by kernel_rfl) (by kernel_rfl)) (by kernel_rfl) (by kernel_rfl) (by kernel_rfl) (fnEdwards_door os _)) ?_
  intro W base args ds gs before hval0 hW _ _ hL _
  have hval : ∀ (j : Nat) t v, Tryz.f3.params[j]? = some t → args[j]? = some v → Value.okWide Tryz.prog W .any base t v := hval0
  have hW' := hW
  obtain ⟨p, q, hA0, hV, rfl, hfz, hnd⟩ := hW
  have hA : DataW.TrodAll enc Tryz.prog W 0 (fun _ => true) true Tryz.f3.params.toList args.toList ds p := hA0
  rw [Tryz.params3] at hA hval
  obtain ⟨v0, v1, d0, d1, p0, p1, rfl, rfl, rfl, h0, h1⟩ := trodAll_two hA
  obtain ⟨rfl, rfl⟩ := trodVars_none hV
  obtain ⟨n, rfl, rfl, rfl, hwn⟩ := open_int Tryz.underlying5 (hval 0 5 v0 rfl rfl) h0
  obtain ⟨b, rfl, rfl, rfl⟩ := open_bool Tryz.underlying4 (hval 1 4 v1 rfl rfl) h1
  obtain ⟨pE, hG⟩ := glob_of hL
  clear hA0 hval0
  simp only [List.append_nil] at hW'
  obtain ⟨c, hc, rfl⟩ : ∃ c : Nat, c < 256 ∧ n = (c : Int) := by
    have hb : (0 : Int) ≤ n ∧ n ≤ 255 := by
      have h2 : (decide (IntKind.min .u8 ≤ n) && decide (n ≤ IntKind.max .u8)) = true := hwn
      rw [show IntKind.min .u8 = 0 from rfl, show IntKind.max .u8 = 255 from rfl] at h2
      simpa using h2
    exact ⟨n.toNat, by omega, by omega⟩
  refine (fnEdwards_walk hc b hG).mono fun e W' ⟨he, hE⟩ => ?_
  subst he
  refine ⟨_, rfl, _, _, _, [], [], [], hW', ?_, ?_, rfl, World.Since.frame hE _, fun h => by cases h⟩
  · exact trodAll_mk1 (shut_bool Tryz.underlying4 true)
  · exact trodAll_mk2 (shut_int Tryz.underlying5 hwn) (shut_bool Tryz.underlying4 b)
theorem fnEdwards_said : Rows.FnEdwardsSaid :=
  OpenClaim.holds_of_wide 3 Tryz.f3 rfl rfl rfl rfl rfl rfl rfl ⟨rfl, rfl, rfl, rfl, rfl⟩ rfl rfl rfl rfl rfl (by kernel_rfl) Tryz.func3 (by kernel_rfl)
    (of_decide_eq_true (by kernel_rfl)) (by unfold Func.isWrapper; first | (rw [if_pos (by decide +kernel)]; kernel_rfl) | (rw [if_neg (by decide +kernel)]; exact ⟨rfl, rfl⟩))
    (fun os started H enc _ => fnEdwards_lifted os started H enc)
theorem fnEdwards_holds : Rows.FnEdwardsCardSaid :=
  Claim7.holds_tied_plain_at .later [] [.data, .data, .sentinel, .sentinel, .sentinel, .data, .data, .data, .data, .data, .widerDeep] true (true, "c122113ff2f170db383d0e657f543f51eaf10a288c9f83f428473344a6692221") true
    fnEdwards_said (fun _ h => by cases h) (by kernel_rfl) (fun _ h => by cases h) fnEdwards_row_tie rfl ⟨rfl, rfl⟩ (by kernel_rfl) rfl
    (fun f fn hf hfn => by
      obtain rfl : f = 3 := Option.some.inj ((show Tryz.prog.funcNamed "pub-foxglove/laws.FnEdwards" = some 3 by kernel_rfl).symm.trans hf) |>.symm
      obtain rfl : fn = Tryz.f3 := (Option.some.inj (Tryz.func3.symm.trans hfn)).symm
      exact ⟨by kernel_rfl, fun j t ht => by
        rw [Tryz.params3] at ht
        have hm : t ∈ [5, 4] := by simpa using Array.mem_of_getElem? ht
        have hall : ([5, 4].all fun u => !Tryz.prog.wantsStandIn u) = true := by kernel_rfl
        exact (show Tryz.prog.wantsStandIn t = false by simpa using List.all_eq_true.1 hall t hm)⟩)
    (by kernel_rfl)
#print axioms fnEdwards_holds
end Go.Proofs.YtgcdmdkemcgljaaGreatDoor
