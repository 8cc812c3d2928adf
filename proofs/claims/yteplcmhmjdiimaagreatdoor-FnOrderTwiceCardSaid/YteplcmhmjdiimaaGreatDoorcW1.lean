/-
  FnOrderTwice: the row and the card, out of the walk's contract.
-/
import Derived.Test.YteplcmhmjdiimaaGreatDoorCards
import Derived.Test.YteplcmhmjdiimaaGreatDoorTie
import Derived.Test.YteplcmhmjdiimaaGreatDoorChecked
import Derived.WalkKit
import Derived.ProofKit
import Derived.OpenShut
import Derived.LaidMore
import Derived.Lay
import Derived.SevenTiedAt
import Derived.Stop.Joined
namespace Go.Proofs.YteplcmhmjdiimaaGreatDoor
open Go.ChangeShapes Go.WideShapes Go.ChangeAt Go.RowKit
set_option maxRecDepth 100000

theorem own4 : ownKnob Tryz.prog.godebug = none := by kernel_rfl

/-- The world of the witness holds what the row lists. -/
theorem fnOrderTwice_met (os : Os) (args : Array Value) : laidMetH Tryz.prog Rows.fnOrderTwiceRow.laid ((World.laidAll Tryz.prog os Rows.fnOrderTwiceRow.laid).forCall (fun _ _ => 0) ⟨#[], args, []⟩).memory := by
  rw [MakeChecks.laidMetH_plain _ _ _ (by kernel_rfl)]
  exact laidMet_laidAll _ (by kernel_rfl) (by kernel_rfl)

/-- What is owed of the walk. -/
def FnOrderTwiceContract : Prop := ∀ (H : Type) (enc : TypeId × Value → H) (W : World) (base : Nat) (args : Array Value) (ds gs : List (DataW H)) (before : List MemPlace),
  (∀ (j : Nat) t v, Tryz.f4.params[j]? = some t → args[j]? = some v → Value.okWide Tryz.prog W .any base t v) →
  DataW.Whole enc Tryz.prog Tryz.f4.params.toList Rows.fnOrderTwiceSpec.vars false W args.toList ds gs before → laidMetH Tryz.prog Rows.fnOrderTwiceRow.laid W →
  Calls Tryz.prog 4 args W fun e W' => ∃ v, e = .returned v ∧ Rows.fnOrderTwiceSpec.post enc Tryz.prog Tryz.f4 false true false false W args v W'

theorem fnOrderTwice_lifted (con : FnOrderTwiceContract) (os : Os) (started : os.Started) (H : Type) (enc : TypeId × Value → H) :
    ReturnsInHanded {} Tryz.checked os 4 .any (fun w args => (Rows.fnOrderTwiceSpec.pre enc Tryz.prog Tryz.f4 Rows.fnOrderTwiceRow.domain false w args ∧ laidMetH Tryz.prog Rows.fnOrderTwiceRow.laid w) ∧ sizedMet enc Tryz.prog Tryz.f4 (OpenSpec.ofChange Rows.fnOrderTwiceSpec) false w args)
      (Rows.fnOrderTwiceSpec.post enc Tryz.prog Tryz.f4 false true false false) := by
  refine returnsInHanded_of_change_and (C := Tryz.checked) (X := fun w _ => laidMetH Tryz.prog Rows.fnOrderTwiceRow.laid w) (fun _ _ _ hh h => h.of_heap hh) own4 started (by kernel_rfl) Tryz.func4
    (ChangeSpec.witness_shaped (enc := enc) (C := Tryz.checked) (os := os) (X := fun w _ => laidMetH Tryz.prog Rows.fnOrderTwiceRow.laid w) false (World.laidAll Tryz.prog os Rows.fnOrderTwiceRow.laid) #[.slice none 0 0, .int .i64 0, .slice none 0 0, .agg #[.int .i64 0, .int .i64 0, .bool false]] 8 (World.laidAll_os _ _ _)
      (World.shaped_of_ZipB (by kernel_rfl) (by kernel_rfl)) (by kernel_rfl) (by kernel_rfl) (by kernel_rfl)
      (fnOrderTwice_met os _)) ?_
  intro W base args ds gs before hval0 hW hc _ hL _
  exact con H enc W base args ds gs before hval0 hW hL

theorem fnOrderTwice_holds (con : FnOrderTwiceContract) : Rows.FnOrderTwiceSaid :=
  OpenClaim.holds_of_wide 4 Tryz.f4 rfl rfl rfl rfl rfl rfl rfl ⟨rfl, rfl, rfl, rfl, rfl⟩ rfl rfl rfl rfl rfl (by kernel_rfl) Tryz.func4 (by kernel_rfl)
    (of_decide_eq_true (by kernel_rfl)) (by unfold Func.isWrapper; first | (rw [if_pos (by decide +kernel)]; kernel_rfl) | (rw [if_neg (by decide +kernel)]; exact ⟨rfl, rfl⟩))
    (fun os started H enc _ => fnOrderTwice_lifted con os started H enc)

theorem fnOrderTwice_plain (f : FuncId) (fn : Func) (hf : Tryz.pinned.checked.prog.funcNamed "pub-pinstripe/laws.FnOrderTwice" = some f) (hfn : Tryz.pinned.checked.prog.funcs[f]? = some fn) :
    true = Tryz.pinned.checked.prog.looks [] ∧ ∀ (j : Nat) t, fn.params[j]? = some t → Tryz.pinned.checked.prog.wantsStandIn t = false := by
  obtain rfl : f = 4 := Option.some.inj ((show Tryz.prog.funcNamed "pub-pinstripe/laws.FnOrderTwice" = some 4 by kernel_rfl).symm.trans hf) |>.symm
  obtain rfl : fn = Tryz.f4 := (Option.some.inj (Tryz.func4.symm.trans hfn)).symm
  refine ⟨by kernel_rfl, fun j t ht => ?_⟩
  rw [Tryz.params4] at ht
  have hm : t ∈ [22, 3, 23, 32] := by simpa using Array.mem_of_getElem? ht
  have hall : ([22, 3, 23, 32].all fun u => !Tryz.prog.wantsStandIn u) = true := by kernel_rfl
  exact (show Tryz.prog.wantsStandIn t = false by simpa using List.all_eq_true.1 hall t hm)

theorem fnOrderTwice_card (con : FnOrderTwiceContract) : Rows.FnOrderTwiceCardSaid :=
  Claim7.holds_tied_plain_at .later [] _ _ _ _ (fnOrderTwice_holds con) (fun _ h => by cases h) (by kernel_rfl) (fun _ h => by cases h) fnOrderTwice_row_tie rfl ⟨rfl, rfl⟩ (by kernel_rfl) rfl fnOrderTwice_plain (by kernel_rfl)
end Go.Proofs.YteplcmhmjdiimaaGreatDoor
