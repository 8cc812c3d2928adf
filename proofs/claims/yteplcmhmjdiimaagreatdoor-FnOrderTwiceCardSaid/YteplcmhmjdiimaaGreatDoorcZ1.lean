/-
  FnOrderTwice answers true whatever rows, columns, rules and one rule more it is handed, and its input reads as it did: the tied card. Condition: the library's variables that the row lists hold what the program's text lays.
-/
import Derived.Test.YteplcmhmjdiimaaGreatDoorcQ1
import Derived.Test.YteplcmhmjdiimaaGreatDoorcX1
import Derived.Test.YteplcmhmjdiimaaGreatDoorcW1
import Derived.Carry
namespace Go.Proofs.YteplcmhmjdiimaaGreatDoor
open Go.RowKit Go.ChangeShapes Go.WideShapes Go.ChangeAt

theorem fnOrderTwice_globs {W : World} (h : laidMetH Tryz.prog Rows.fnOrderTwiceRow.laid W) : Globs W := by
  rw [MakeChecks.laidMetH_plain _ _ _ (by kernel_rfl)] at h
  exact globs_of_reads (Lib.laidMet.reads h (List.mem_of_getElem? (show Rows.fnOrderTwiceRow.laid[4]? = some _ from rfl))) (Lib.laidMet.reads h (List.mem_of_getElem? (show Rows.fnOrderTwiceRow.laid[3]? = some _ from rfl)))
    (Lib.laidMet.reads h (List.mem_of_getElem? (show Rows.fnOrderTwiceRow.laid[11]? = some _ from rfl)))

set_option maxRecDepth 100000 in
theorem rule_open {H : Type} {enc : TypeId × Value → H} {W : World} {hd : Bool} {fuel : Nat} {cs : Array Value} {x : DataW H × List MemPlace} (hsz : cs.size = Tryz.prog.cellsOf 32)
    (h : DataW.trod enc Tryz.prog W 0 (fun _ => true) hd fuel 32 cs.toList = some x) : ∃ xn xm xf, cs = #[.int .i64 xn, .int .i64 xm, .bool xf] := by
  rw [cells32] at hsz
  obtain ⟨c0, c1, c2, rfl⟩ : ∃ c0 c1 c2, cs = #[c0, c1, c2] := by
    cases cs with
    | mk l =>
      match l, hsz with
      | [a, b, c], _ => exact ⟨a, b, c, rfl⟩
  obtain ⟨y0, y1, y2, n', -, -, g0, g1, g2⟩ := Deep.trod_struct3 Tryz.underlying32 h
  simp only [cells3, cells4, List.drop_zero, List.take_succ_cons, List.take_zero, List.drop_succ_cons] at g0 g1 g2
  obtain ⟨k0, h0, -⟩ := DataW.trod_int Tryz.underlying3 g0
  obtain ⟨k1, h1, -⟩ := DataW.trod_int Tryz.underlying3 g1
  obtain ⟨k2, h2, -⟩ := DataW.trod_bool Tryz.underlying4 g2
  obtain rfl : c0 = .int .i64 k0 := by simpa using h0
  obtain rfl : c1 = .int .i64 k1 := by simpa using h1
  obtain rfl : c2 = .bool k2 := by simpa using h2
  exact ⟨k0, k1, k2, rfl⟩

set_option maxRecDepth 100000 in
theorem fnOrderTwice_contract : FnOrderTwiceContract := by
  intro H enc W base args ds gs before hval0 hW hL
  have hval : ∀ (j : Nat) t v, Tryz.f4.params[j]? = some t → args[j]? = some v → Value.okWide Tryz.prog W .any base t v := hval0
  have hW' := hW
  obtain ⟨p, q, hA0, hV, rfl, hfz, hnd⟩ := hW
  have hA : DataW.TrodAll enc Tryz.prog W 0 (fun _ => true) true Tryz.f4.params.toList args.toList ds p := hA0
  rw [Tryz.params4] at hA hval
  obtain ⟨v0, vs0, d0, ds0, p0, q0, hargs, rfl, rfl, h0, r0⟩ := trodAll_cons hA
  obtain ⟨v1, vs1, d1, ds1, p1, q1, rfl, rfl, rfl, h1, r1⟩ := trodAll_cons r0
  obtain ⟨v2, vs2, d2, ds2, p2, q2, rfl, rfl, rfl, h2, r2⟩ := trodAll_cons r1
  obtain ⟨v3, vs3, d3, ds3, p3, q3, rfl, rfl, rfl, h3, r3⟩ := trodAll_cons r2
  obtain ⟨rfl, rfl, rfl⟩ := trodAll_nil r3
  obtain rfl : args = #[v0, v1, v2, v3] := by cases args; simp_all
  obtain ⟨rfl, rfl⟩ := trodVars_none hV
  obtain ⟨cols, rfl, rfl, rfl, wc⟩ := open_int Tryz.underlying3 (hval 1 3 v1 rfl rfl) h1
  obtain ⟨a0, len0, cap0, rfl⟩ := okWide_slice Tryz.underlying22 (hval 0 22 v0 rfl rfl)
  obtain ⟨a2, len2, cap2, rfl⟩ := okWide_slice Tryz.underlying23 (hval 2 23 v2 rfl rfl)
  obtain ⟨cs, rfl, hcs⟩ := okWide_struct Tryz.underlying32 (hval 3 32 v3 rfl rfl)
  have h0k := h0
  have h2k := h2
  have h3k := h3
  obtain ⟨f0, g0⟩ := h0
  obtain ⟨f2, g2⟩ := h2
  obtain ⟨f3, g3⟩ := h3
  obtain ⟨rows, hr⟩ := rows_open g0
  obtain ⟨l, hl⟩ := rules_open g2
  obtain ⟨xn, xm, xf, rfl⟩ := rule_open hcs g3
  clear hA0 hval0 hA
  simp only [List.append_nil] at hW'
  have hlt0 : ∀ x ∈ p0, x.block < W.heap.size := fun x hx => hW'.lt x (by simp [hx])
  have hlt2 : ∀ x ∈ p2, x.block < W.heap.size := fun x hx => hW'.lt x (by simp [hx])
  have hlt3 : ∀ x ∈ p3, x.block < W.heap.size := fun x hx => hW'.lt x (by simp [hx])
  refine (fnOrderTwice_calls W _ _ rows cols l xn xm xf hr hl (fnOrderTwice_globs hL)).mono fun e W' ⟨he, hB⟩ => ?_
  subst he
  refine ⟨_, rfl, _, _, _, [], p0 ++ ([] ++ (p2 ++ p3)), [], hW', ?_, ?_, rfl, hB.frame _, fun h => by cases h⟩
  · exact trodAll_mk1 (shut_bool Tryz.underlying4 _)
  · exact trodAll_cons_mk (Below.trod laidOut (by kernel_rfl) (of_decide_eq_true (by kernel_rfl)) h0k hB hlt0) (trodAll_mk3 (shut_int Tryz.underlying3 wc) (Below.trod laidOut (by kernel_rfl) (of_decide_eq_true (by kernel_rfl)) h2k hB hlt2)
      (Below.trod laidOut (by kernel_rfl) (of_decide_eq_true (by kernel_rfl)) h3k hB hlt3))

theorem fnOrderTwice_card_holds : Rows.FnOrderTwiceCardSaid := fnOrderTwice_card fnOrderTwice_contract
#print axioms fnOrderTwice_card_holds
end Go.Proofs.YteplcmhmjdiimaaGreatDoor
