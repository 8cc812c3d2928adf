/-
  strconv's own reader, first part: words that name no number, infinity and nan.
-/
import Derived.Test.YteplcmhmjdiimaaGreatDoorcE1
import Derived.Deep.DeepCutAuto
namespace Go.Proofs.YteplcmhmjdiimaaGreatDoor
open Go.RowKit

set_option maxHeartbeats 2000000 in
set_option maxRecDepth 100000 in
theorem cpl_calls (w : World) (s t : ByteArray) (ht : t.size ≤ 100) :
    Calls Tryz.prog 136 #[.string s, .string t] w fun e w' => (∃ c : Nat, e = .returned (.int .i64 c) ∧ c ≤ s.size ∧ c ≤ t.size ∧ ∀ k, k < c → low (bt s k) = bt t k) ∧ w' = w := by
  go_enter Tryz.func136, Tryz.ntmps136
  obtain ⟨n, hn⟩ : ∃ n, n = min s.size t.size := ⟨_, rfl⟩
  go_upto_region 1 with fail
  go_cut [5] (fun s5 wx => s5 = .int .i64 n ∧ wx = w)
  case first =>
    by_cases hlt : s.size < t.size
    · have e1 : n = s.size := by omega
      clear hn
      subst e1
      go_wp2_with fail
      all_goals (go_meet; exact ⟨by simp, rfl⟩)
    · have e1 : n = t.size := by omega
      clear hn
      subst e1
      go_wp2_with fail
      all_goals (go_meet; exact ⟨by simp, rfl⟩)
  case rest =>
    obtain ⟨rfl, hwx⟩ := hcut
    rw [hwx]
    clear hwx
    have hns : n ≤ s.size := by omega
    have hnt : n ≤ t.size := by omega
    have hn100 : n ≤ 100 := by omega
    clear hn
    go_wp2_with fail
    go_loopg [6, 7] n (fun q s6 s7 wr => ∃ i : Nat, s6 = .int .i64 i ∧ i ≤ n ∧ n ≤ q + i ∧ Hid (∀ k, k < i → low (bt s k) = bt t k) ∧ w = wr)
    case atStart => exact ⟨0, rfl, by omega, by omega, fun k hk => absurd hk (by omega), rfl⟩
    case round =>
      obtain ⟨i, rfl, hi, hq, HM, rfl⟩ := hrel
      by_cases hlt : i < n
      · have e2 : decide ((i : Int) < (n : Int)) = true := by simp; omega
        obtain ⟨c, hc⟩ : ∃ c : Nat, c = bt s i := ⟨_, rfl⟩
        obtain ⟨d, hd⟩ : ∃ d : Nat, d = bt t i := ⟨_, rfl⟩
        have hlts : i < s.size := by omega
        have hlt' : i < t.size := by omega
        have e3 : (s[i]'hlts).toNat = c := by rw [hc]; exact bt_in hlts
        have e4 : (t[i]'hlt').toNat = d := by rw [hd]; exact bt_in hlt'
        have HC := aside hc
        have HDD := aside hd
        have hc256 : c < 256 := by rw [hc]; exact bt_lt _ _
        clear hc hd
        by_cases heq : low c = d
        · go_wp2_with fail
          all_goals first
            | (go_roundg (n - (i + 1))
               case measure => omega
               case rel =>
                 refine ⟨i + 1, by simp, by omega, by omega, ?_, rfl⟩
                 intro k hk
                 by_cases hki : k = i
                 · subst hki; rw [← HC.out, ← HDD.out]; exact heq
                 · exact HM.out k (by omega))
            | (exfalso; unfold low at heq; simp at *; split at heq <;> omega)
        · go_wp2_with fail
          all_goals first
            | (go_ret; exact ⟨⟨i, rfl, by omega, by omega, HM.out⟩, rfl⟩)
            | (exfalso; unfold low at heq; simp at *; split at heq <;> omega)
      · have e2 : decide ((i : Int) < (n : Int)) = false := by simp; omega
        have hin : i = n := by omega
        go_wp2_with fail
        go_ret
        exact ⟨⟨n, rfl, hns, hnt, fun k hk => HM.out k (by omega)⟩, rfl⟩

theorem frombits' (w : World) (b : Nat) : (callFunc 126 #[.int .u64 (b : Int)]).run Tryz.prog w = .ok (.value (.float .f64 b)) w := by
  have h := run_callFunc_extern Tryz.func126 (by kernel_rfl) (by kernel_rfl) (by kernel_rfl) (e := Go.Extern.MathFloatBits.float64frombits) (by kernel_rfl) #[.int .u64 (b : Int)] w
  rw [h]
  rfl

set_option maxHeartbeats 2000000 in
set_option maxRecDepth 100000 in
theorem inf_calls (w : World) : Calls Tryz.prog 137 #[.int .i64 1] w fun e w' => (∃ b, e = .returned (.float .f64 b)) ∧ w' = w := by
  have hc : ∀ w, (callFunc 126 #[.int .u64 9218868437227405312]).run Tryz.prog w = .ok (.value (.float .f64 9218868437227405312)) w := fun w => frombits' w 9218868437227405312
  go_enter Tryz.func137, Tryz.ntmps137
  go_wp2
  go_ret
  exact ⟨⟨_, rfl⟩, rfl⟩
set_option maxHeartbeats 2000000 in
set_option maxRecDepth 100000 in
theorem nan_calls (w : World) : Calls Tryz.prog 138 #[] w fun e w' => (∃ b, e = .returned (.float .f64 b)) ∧ w' = w := by
  have hc : ∀ w, (callFunc 126 #[.int .u64 9221120237041090561]).run Tryz.prog w = .ok (.value (.float .f64 9221120237041090561)) w := fun w => frombits' w 9221120237041090561
  go_enter Tryz.func138, Tryz.ntmps138
  go_wp2
  go_ret
  exact ⟨⟨_, rfl⟩, rfl⟩
end Go.Proofs.YteplcmhmjdiimaaGreatDoor
