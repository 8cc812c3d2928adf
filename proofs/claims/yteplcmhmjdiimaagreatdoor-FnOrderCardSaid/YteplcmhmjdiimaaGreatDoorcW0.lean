/-
  FnOrder: the row and the card, out of the walk's contract.
-/
import Derived.Test.YteplcmhmjdiimaaGreatDoorCards
import Derived.Test.YteplcmhmjdiimaaGreatDoorTie
import Derived.Test.YteplcmhmjdiimaaGreatDoorChecked
import Derived.WalkKit
import Derived.ProofKit
import Derived.OpenShut
import Derived.LaidMore
import Derived.Lay
import Derived.SevenTiedAt
import Derived.Stop.Joined
namespace Go.Proofs.YteplcmhmjdiimaaGreatDoor
open Go.ChangeShapes Go.WideShapes Go.ChangeAt Go.RowKit
set_option maxRecDepth 100000

theorem own3 : ownKnob Tryz.prog.godebug = none := by kernel_rfl

/-- The world of the witness holds what the row lists. -/
theorem fnOrder_met (os : Os) (args : Array Value) : laidMetH Tryz.prog Rows.fnOrderRow.laid ((World.laidAll Tryz.prog os Rows.fnOrderRow.laid).forCall (fun _ _ => 0) ⟨#[], args, []⟩).memory := by
  rw [MakeChecks.laidMetH_plain _ _ _ (by kernel_rfl)]
  exact laidMet_laidAll _ (by kernel_rfl) (by kernel_rfl)

/-- What is owed of the walk. -/
def FnOrderContract : Prop := ∀ (H : Type) (enc : TypeId × Value → H) (W : World) (base : Nat) (args : Array Value) (ds gs : List (DataW H)) (before : List MemPlace),
  (∀ (j : Nat) t v, Tryz.f3.params[j]? = some t → args[j]? = some v → Value.okWide Tryz.prog W .any base t v) →
  DataW.Whole enc Tryz.prog Tryz.f3.params.toList Rows.fnOrderSpec.vars false W args.toList ds gs before → laidMetH Tryz.prog Rows.fnOrderRow.laid W →
  Calls Tryz.prog 3 args W fun e W' => ∃ v, e = .returned v ∧ Rows.fnOrderSpec.post enc Tryz.prog Tryz.f3 false true false false W args v W'

theorem fnOrder_lifted (con : FnOrderContract) (os : Os) (started : os.Started) (H : Type) (enc : TypeId × Value → H) :
    ReturnsInHanded {} Tryz.checked os 3 .any (fun w args => (Rows.fnOrderSpec.pre enc Tryz.prog Tryz.f3 Rows.fnOrderRow.domain false w args ∧ laidMetH Tryz.prog Rows.fnOrderRow.laid w) ∧ sizedMet enc Tryz.prog Tryz.f3 (OpenSpec.ofChange Rows.fnOrderSpec) false w args)
      (Rows.fnOrderSpec.post enc Tryz.prog Tryz.f3 false true false false) := by
  refine returnsInHanded_of_change_and (C := Tryz.checked) (X := fun w _ => laidMetH Tryz.prog Rows.fnOrderRow.laid w) (fun _ _ _ hh h => h.of_heap hh) own3 started (by kernel_rfl) Tryz.func3
    (ChangeSpec.witness_shaped (enc := enc) (C := Tryz.checked) (os := os) (X := fun w _ => laidMetH Tryz.prog Rows.fnOrderRow.laid w) false (World.laidAll Tryz.prog os Rows.fnOrderRow.laid) #[.slice none 0 0, .int .i64 0, .slice none 0 0] 8 (World.laidAll_os _ _ _)
      (World.shaped_of_ZipB (by kernel_rfl) (by kernel_rfl)) (by kernel_rfl) (by kernel_rfl) (by kernel_rfl)
      (fnOrder_met os _)) ?_
  intro W base args ds gs before hval0 hW hc _ hL _
  exact con H enc W base args ds gs before hval0 hW hL

theorem fnOrder_holds (con : FnOrderContract) : Rows.FnOrderSaid :=
  OpenClaim.holds_of_wide 3 Tryz.f3 rfl rfl rfl rfl rfl rfl rfl ⟨rfl, rfl, rfl, rfl, rfl⟩ rfl rfl rfl rfl rfl (by kernel_rfl) Tryz.func3 (by kernel_rfl)
    (of_decide_eq_true (by kernel_rfl)) (by unfold Func.isWrapper; first | (rw [if_pos (by decide +kernel)]; kernel_rfl) | (rw [if_neg (by decide +kernel)]; exact ⟨rfl, rfl⟩))
    (fun os started H enc _ => fnOrder_lifted con os started H enc)

theorem fnOrder_plain (f : FuncId) (fn : Func) (hf : Tryz.pinned.checked.prog.funcNamed "pub-pinstripe/laws.FnOrder" = some f) (hfn : Tryz.pinned.checked.prog.funcs[f]? = some fn) :
    true = Tryz.pinned.checked.prog.looks [] ∧ ∀ (j : Nat) t, fn.params[j]? = some t → Tryz.pinned.checked.prog.wantsStandIn t = false := by
  obtain rfl : f = 3 := Option.some.inj ((show Tryz.prog.funcNamed "pub-pinstripe/laws.FnOrder" = some 3 by kernel_rfl).symm.trans hf) |>.symm
  obtain rfl : fn = Tryz.f3 := (Option.some.inj (Tryz.func3.symm.trans hfn)).symm
  refine ⟨by kernel_rfl, fun j t ht => ?_⟩
  rw [Tryz.params3] at ht
  have hm : t ∈ [22, 3, 23] := by simpa using Array.mem_of_getElem? ht
  have hall : ([22, 3, 23].all fun u => !Tryz.prog.wantsStandIn u) = true := by kernel_rfl
  exact (show Tryz.prog.wantsStandIn t = false by simpa using List.all_eq_true.1 hall t hm)

theorem fnOrder_card (con : FnOrderContract) : Rows.FnOrderCardSaid :=
  Claim7.holds_tied_plain_at .later [] _ _ _ _ (fnOrder_holds con) (fun _ h => by cases h) (by kernel_rfl) (fun _ h => by cases h) fnOrder_row_tie rfl ⟨rfl, rfl⟩ (by kernel_rfl) rfl fnOrder_plain (by kernel_rfl)
end Go.Proofs.YteplcmhmjdiimaaGreatDoor
