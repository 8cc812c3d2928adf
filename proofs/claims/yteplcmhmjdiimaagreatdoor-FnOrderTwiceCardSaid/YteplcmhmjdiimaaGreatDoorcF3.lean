/-
  strconv's readFloat on what is no number.
-/
import Derived.Test.YteplcmhmjdiimaaGreatDoorcF1
import Derived.Deep.DeepCutAuto
import Derived.WalkMore
namespace Go.Proofs.YteplcmhmjdiimaaGreatDoor
open Go.RowKit

theorem results_tmp7' {fn : Func} {a b c d e f g : Tmp} (h : fn.results = #[.tmp a, .tmp b, .tmp c, .tmp d, .tmp e, .tmp f, .tmp g]) (tmps : Array Value) (P : Program) (w : World) :
    (results fn tmps).run P w = .ok (.tuple #[tmps.getD a undef, tmps.getD b undef, tmps.getD c undef, tmps.getD d undef, tmps.getD e undef, tmps.getD f undef, tmps.getD g undef]) w := by
  simp [results, h]

set_option maxHeartbeats 8000000 in
set_option maxRecDepth 100000 in
theorem readFloat_word (w : World) (s : ByteArray) (hs : s.size < 2147483648) (h : 1 ≤ s.size → isL (bt s 0)) :
    Calls Tryz.prog 117 #[.string s] w fun e w' => (∃ m x a b c i, e = .returned (.tuple #[m, x, a, b, c, .int .i64 i, .bool false])) ∧ w' = w := by
  have H := aside h
  clear h
  go_enter Tryz.func117, Tryz.ntmps117
  go_wp2_with fail
  go_step3
  by_cases h0 : s = ByteArray.empty
  · have e0 : decide (s = ByteArray.empty) = true := by simp [h0]
    go_wp2_with fail
    all_goals
      simp only [Exit.noGoto_ret]
      refine bodyPost_ret (results_tmp7' rfl _ _ _) rfl ?_
      exact ⟨⟨_, _, _, _, _, _, rfl⟩, rfl⟩
  · have e0 : decide (s = ByteArray.empty) = false := by simp [h0]
    have hlt0 : 0 < s.size := by
      rcases Nat.eq_zero_or_pos s.size with h1 | h1
      · exfalso; apply h0; exact ByteArray.size_eq_zero_iff.1 h1
      · exact h1
    obtain ⟨c, hc⟩ : ∃ c, c = bt s 0 := ⟨_, rfl⟩
    have e3 : (s[0]'hlt0).toNat = c := by rw [bt_in hlt0, hc]
    have hl : isL c := by rw [hc]; exact H.out hlt0
    unfold isL at hl
    have t0 : ((c : Int) == 43) = false := by simp only [beq_eq_false_iff_ne, ne_eq]; omega
    have t1 : ((c : Int) == 45) = false := by simp only [beq_eq_false_iff_ne, ne_eq]; omega
    have t2 : ((c : Int) == 48) = false := by simp only [beq_eq_false_iff_ne, ne_eq]; omega
    have t3 : ((c : Int) == 95) = false := by simp only [beq_eq_false_iff_ne, ne_eq]; omega
    have t4 : ((c : Int) == 46) = false := by simp only [beq_eq_false_iff_ne, ne_eq]; omega
    have t5 : decide ((48 : Int) ≤ (c : Int)) = true := by simp; omega
    have t6 : decide ((c : Int) ≤ 57) = false := by simp; omega
    have t7 : ¬ (c : Int) ≤ 57 := by omega
    clear hc hl h0
    by_cases h2 : 2 < s.size
    · have e1 : decide ((2 : Int) < (s.size : Int)) = true := by simp; omega
      go_wp2_with fail
      go_step3
      go_wp2_with fail
      go_loopg [2, 5, 7, 9, 13, 14, 15, 16, 17] 0 (fun q s2 s5 s7 s9 s13 s14 s15 s16 s17 wr => s7 = .int .i64 0 ∧ s13 = .bool false ∧ s14 = .bool false ∧ w = wr)
      case atStart => exact ⟨rfl, rfl, rfl, rfl⟩
      case round =>
        obtain ⟨rfl, rfl, rfl, rfl⟩ := hrel
        go_wp2_with fail
        all_goals
          simp only [Exit.noGoto_ret]
          refine bodyPost_ret (results_tmp7' rfl _ _ _) rfl ?_
          exact ⟨⟨_, _, _, _, _, _, rfl⟩, rfl⟩
    · have e1 : decide ((2 : Int) < (s.size : Int)) = false := by simp; omega
      go_wp2_with fail
      go_step3
      go_wp2_with fail
      go_loopg [2, 5, 7, 9, 13, 14, 15, 16, 17] 0 (fun q s2 s5 s7 s9 s13 s14 s15 s16 s17 wr => s7 = .int .i64 0 ∧ s13 = .bool false ∧ s14 = .bool false ∧ w = wr)
      case atStart => exact ⟨rfl, rfl, rfl, rfl⟩
      case round =>
        obtain ⟨rfl, rfl, rfl, rfl⟩ := hrel
        go_wp2_with fail
        all_goals
          simp only [Exit.noGoto_ret]
          refine bodyPost_ret (results_tmp7' rfl _ _ _) rfl ?_
          exact ⟨⟨_, _, _, _, _, _, rfl⟩, rfl⟩
end Go.Proofs.YteplcmhmjdiimaaGreatDoor
