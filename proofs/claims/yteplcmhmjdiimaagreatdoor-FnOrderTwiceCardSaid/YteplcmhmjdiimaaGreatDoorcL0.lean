/-
  Single, Worded, Whole: what a text's bytes are.
-/
import Derived.Test.YteplcmhmjdiimaaGreatDoorcE1
namespace Go.Proofs.YteplcmhmjdiimaaGreatDoor
open Go.RowKit

def single (s : ByteArray) : Bool := decide (∀ i, i < s.size → 32 ≤ bt s i ∧ bt s i ≤ 126)
def letters (s : ByteArray) : Prop := ∀ i, i < s.size → isL (bt s i)
def worded (s : ByteArray) : Bool := decide (1 ≤ s.size ∧ ∀ i, i < s.size → (65 ≤ bt s i ∧ bt s i ≤ 90 ∨ 97 ≤ bt s i ∧ bt s i ≤ 122))

set_option maxHeartbeats 2000000 in
theorem single_calls (w : World) (s : ByteArray) (hs : s.size < 2147483648) :
    Calls Tryz.prog 14 #[.string s] w fun e w' => e = .returned (.bool (single s)) ∧ w' = w := by
  go_enter Tryz.func14, Tryz.ntmps14
  go_wp2
  go_loopg [3] s.size (fun q s3 wr => ∃ i : Nat, s3 = .int .i64 i ∧ i ≤ s.size ∧ s.size ≤ q + i ∧ Hid (∀ k, k < i → 32 ≤ bt s k ∧ bt s k ≤ 126) ∧ w = wr)
  case atStart => exact ⟨0, rfl, by omega, by omega, fun k hk => absurd hk (by omega), rfl⟩
  case round =>
    obtain ⟨i, rfl, hi, hq, HM, rfl⟩ := hrel
    by_cases hlt : i < s.size
    · have e2 : decide ((i : Int) < (s.size : Int)) = true := by simp; omega
      obtain ⟨c, hc⟩ : ∃ c : Nat, c = bt s i := ⟨_, rfl⟩
      have e3 : (s[i]'hlt).toNat = c := by rw [hc]; exact bt_in hlt
      have HC := aside hc
      clear hc
      by_cases h1 : c < 32
      · have f1 : decide ((c : Int) < 32) = true := by simp; omega
        have hf : single s = false := by
          simp only [single, decide_eq_false_iff_not, Classical.not_forall]
          exact ⟨i, hlt, by rw [← HC.out]; omega⟩
        have HF := aside hf
        clear hf
        go_wp2_with fail
        go_ret
        exact ⟨by rw [HF.out]; rfl, rfl⟩
      · have f1 : decide ((c : Int) < 32) = false := by simp; omega
        by_cases h2 : 126 < c
        · have f2 : decide ((c : Int) > 126) = true := by simp; omega
          have hf : single s = false := by
            simp only [single, decide_eq_false_iff_not, Classical.not_forall]
            exact ⟨i, hlt, by rw [← HC.out]; omega⟩
          have HF := aside hf
          clear hf
          go_wp2_with fail
          go_ret
          exact ⟨by rw [HF.out]; rfl, rfl⟩
        · have f2 : decide ((c : Int) > 126) = false := by simp; omega
          go_wp2_with fail
          go_roundg (s.size - (i + 1))
          case measure => omega
          case rel =>
            refine ⟨i + 1, by simp, by omega, by omega, ?_, rfl⟩
            intro k hk
            by_cases hki : k = i
            · subst hki; rw [← HC.out]; omega
            · exact HM.out k (by omega)
    · have e2 : decide ((i : Int) < (s.size : Int)) = false := by simp; omega
      have ht : single s = true := by
        simp only [single, decide_eq_true_eq]
        exact fun k hk => HM.out k (by omega)
      go_wp2_with fail
      go_ret
      rw [ht]
      exact ⟨rfl, rfl⟩

set_option maxHeartbeats 4000000 in
theorem worded_calls (w : World) (s : ByteArray) (hs : s.size < 2147483648) :
    Calls Tryz.prog 15 #[.string s] w fun e w' => e = .returned (.bool (worded s)) ∧ w' = w := by
  go_enter Tryz.func15, Tryz.ntmps15
  go_wp2
  go_loopg [3] s.size (fun q s3 wr => ∃ i : Nat, s3 = .int .i64 i ∧ i ≤ s.size ∧ s.size ≤ q + i ∧ Hid (∀ k, k < i → (65 ≤ bt s k ∧ bt s k ≤ 90 ∨ 97 ≤ bt s k ∧ bt s k ≤ 122)) ∧ w = wr)
  case atStart => exact ⟨0, rfl, by omega, by omega, fun k hk => absurd hk (by omega), rfl⟩
  case round =>
    obtain ⟨i, rfl, hi, hq, HM, rfl⟩ := hrel
    by_cases hlt : i < s.size
    · have e2 : decide ((i : Int) < (s.size : Int)) = true := by simp; omega
      obtain ⟨c, hc⟩ : ∃ c : Nat, c = bt s i := ⟨_, rfl⟩
      have e3 : (s[i]'hlt).toNat = c := by rw [hc]; exact bt_in hlt
      have HC := aside hc
      clear hc
      have bad : ¬(65 ≤ c ∧ c ≤ 90 ∨ 97 ≤ c ∧ c ≤ 122) → worded s = false := fun h => by
        simp only [worded, decide_eq_false_iff_not, not_and, Classical.not_forall]
        exact fun _ => ⟨i, hlt, by rw [← HC.out]; exact h⟩
      have good : (65 ≤ c ∧ c ≤ 90 ∨ 97 ≤ c ∧ c ≤ 122) → ∀ k, k < i + 1 → (65 ≤ bt s k ∧ bt s k ≤ 90 ∨ 97 ≤ bt s k ∧ bt s k ≤ 122) := fun h k hk => by
        by_cases hki : k = i
        · subst hki; rw [← HC.out]; exact h
        · exact HM.out k (by omega)
      have BAD := aside bad
      have GOOD := aside good
      clear bad good
      by_cases h1 : c < 65
      · have f1 : decide ((c : Int) < 97) = true := by simp; omega
        have f2 : decide ((c : Int) < 65) = true := by simp; omega
        go_wp2_with fail
        go_ret
        exact ⟨by rw [BAD.out (by omega)]; rfl, rfl⟩
      · by_cases h2 : c ≤ 90
        · have f1 : decide ((c : Int) < 97) = true := by simp; omega
          have f2 : decide ((c : Int) < 65) = false := by simp; omega
          have f3 : decide ((c : Int) > 90) = false := by simp; omega
          go_wp2_with fail
          go_roundg (s.size - (i + 1))
          case measure => omega
          case rel => exact ⟨i + 1, by simp, by omega, by omega, GOOD.out (by omega), rfl⟩
        · by_cases h3 : c < 97
          · have f1 : decide ((c : Int) < 97) = true := by simp; omega
            have f2 : decide ((c : Int) < 65) = false := by simp; omega
            have f3 : decide ((c : Int) > 90) = true := by simp; omega
            go_wp2_with fail
            go_ret
            exact ⟨by rw [BAD.out (by omega)]; rfl, rfl⟩
          · have f1 : decide ((c : Int) < 97) = false := by simp; omega
            by_cases h4 : c ≤ 122
            · have f4 : decide ((c : Int) > 122) = false := by simp; omega
              go_wp2_with fail
              go_roundg (s.size - (i + 1))
              case measure => omega
              case rel => exact ⟨i + 1, by simp, by omega, by omega, GOOD.out (by omega), rfl⟩
            · have f4 : decide ((c : Int) > 122) = true := by simp; omega
              have f2 : decide ((c : Int) < 65) = false := by simp; omega
              have f3 : decide ((c : Int) > 90) = true := by simp; omega
              go_wp2_with fail
              go_ret
              exact ⟨by rw [BAD.out (by omega)]; rfl, rfl⟩
    · have e2 : decide ((i : Int) < (s.size : Int)) = false := by simp; omega
      by_cases h0 : s.size = 0
      · have e3 : decide ((s.size : Int) > 0) = false := by rw [h0]; decide
        have ht : worded s = false := by
          simp only [worded, decide_eq_false_iff_not, not_and]
          omega
        have HT := aside ht
        clear ht
        go_wp2_with fail
        go_ret
        exact ⟨by rw [HT.out]; rfl, rfl⟩
      · have e3 : decide (0 < s.size) = true := by simp; omega
        have ht : worded s = true := by
          simp only [worded, decide_eq_true_eq]
          exact ⟨by omega, fun k hk => HM.out k (by omega)⟩
        have HT := aside ht
        clear ht
        go_wp2_with fail
        go_ret
        exact ⟨by rw [HT.out]; rfl, rfl⟩
end Go.Proofs.YteplcmhmjdiimaaGreatDoor
