/-
  FnOrder answers true whatever rows, columns and rules it is handed, and its input reads as it did: the tied card. Condition: the library's variables that the row lists hold what the program's text lays.
-/
import Derived.Test.YteplcmhmjdiimaaGreatDoorcQ0
import Derived.Test.YteplcmhmjdiimaaGreatDoorcX1
import Derived.Test.YteplcmhmjdiimaaGreatDoorcW0
import Derived.Carry
namespace Go.Proofs.YteplcmhmjdiimaaGreatDoor
open Go.RowKit Go.ChangeShapes Go.WideShapes Go.ChangeAt

theorem fnOrder_globs {W : World} (h : laidMetH Tryz.prog Rows.fnOrderRow.laid W) : Globs W := by
  rw [MakeChecks.laidMetH_plain _ _ _ (by kernel_rfl)] at h
  exact globs_of_reads (Lib.laidMet.reads h (List.mem_of_getElem? (show Rows.fnOrderRow.laid[4]? = some _ from rfl))) (Lib.laidMet.reads h (List.mem_of_getElem? (show Rows.fnOrderRow.laid[3]? = some _ from rfl)))
    (Lib.laidMet.reads h (List.mem_of_getElem? (show Rows.fnOrderRow.laid[11]? = some _ from rfl)))

set_option maxRecDepth 100000 in
theorem fnOrder_contract : FnOrderContract := by
  intro H enc W base args ds gs before hval0 hW hL
  have hval : ∀ (j : Nat) t v, Tryz.f3.params[j]? = some t → args[j]? = some v → Value.okWide Tryz.prog W .any base t v := hval0
  have hW' := hW
  obtain ⟨p, q, hA0, hV, rfl, hfz, hnd⟩ := hW
  have hA : DataW.TrodAll enc Tryz.prog W 0 (fun _ => true) true Tryz.f3.params.toList args.toList ds p := hA0
  rw [Tryz.params3] at hA hval
  obtain ⟨v0, v1, v2, d0, d1, d2, p0, p1, p2, rfl, rfl, rfl, h0, h1, h2⟩ := trodAll_three hA
  obtain ⟨rfl, rfl⟩ := trodVars_none hV
  obtain ⟨cols, rfl, rfl, rfl, wc⟩ := open_int Tryz.underlying3 (hval 1 3 v1 rfl rfl) h1
  obtain ⟨a0, len0, cap0, rfl⟩ := okWide_slice Tryz.underlying22 (hval 0 22 v0 rfl rfl)
  obtain ⟨a2, len2, cap2, rfl⟩ := okWide_slice Tryz.underlying23 (hval 2 23 v2 rfl rfl)
  have h0k := h0
  have h2k := h2
  obtain ⟨f0, g0⟩ := h0
  obtain ⟨f2, g2⟩ := h2
  obtain ⟨rows, hr⟩ := rows_open g0
  obtain ⟨l, hl⟩ := rules_open g2
  clear hA0 hval0 hA
  simp only [List.append_nil] at hW'
  have hlt0 : ∀ x ∈ p0, x.block < W.heap.size := fun x hx => hW'.lt x (by simp [hx])
  have hlt2 : ∀ x ∈ p2, x.block < W.heap.size := fun x hx => hW'.lt x (by simp [hx])
  refine (fnOrder_calls W _ _ rows cols l hr hl (fnOrder_globs hL)).mono fun e W' ⟨he, hB⟩ => ?_
  subst he
  refine ⟨_, rfl, _, _, _, [], p0 ++ ([] ++ p2), [], hW', ?_, ?_, rfl, hB.frame _, fun h => by cases h⟩
  · exact trodAll_mk1 (shut_bool Tryz.underlying4 _)
  · exact trodAll_mk3 (Below.trod laidOut (by kernel_rfl) (of_decide_eq_true (by kernel_rfl)) h0k hB hlt0) (shut_int Tryz.underlying3 wc) (Below.trod laidOut (by kernel_rfl) (of_decide_eq_true (by kernel_rfl)) h2k hB hlt2)

theorem fnOrder_card_holds : Rows.FnOrderCardSaid := fnOrder_card fnOrder_contract
#print axioms fnOrder_card_holds
end Go.Proofs.YteplcmhmjdiimaaGreatDoor
