/-
  Whole; a row's cell by its number.
  zzFits4, zzFits19: nothing is longer than the bound.
-/
import Derived.Test.YteplcmhmjdiimaaGreatDoorcL0
import Derived.Test.YteplcmhmjdiimaaGreatDoorcK0
namespace Go.Proofs.YteplcmhmjdiimaaGreatDoor
open Go.RowKit

/-- What stands behind a minus. -/
def tailS (s : ByteArray) : ByteArray := if 1 ≤ s.size ∧ bt s 0 = 45 then s.extract 1 s.size else s
def digitsS (t : ByteArray) : Bool := decide ((∀ i, i < t.size → 48 ≤ bt t i ∧ bt t i ≤ 57) ∧ 1 ≤ t.size ∧ t.size ≤ 15)
def wholeS (s : ByteArray) : Bool := digitsS (tailS s)

theorem tailS_size (s : ByteArray) : (tailS s).size ≤ s.size := by
  unfold tailS
  split
  · rw [ByteArray.size_extract]; omega
  · exact Nat.le_refl _

set_option maxHeartbeats 4000000 in
theorem wholeS_calls (w : World) (s : ByteArray) (hs : s.size < 2147483648) :
    Calls Tryz.prog 16 #[.string s] w fun e w' => e = .returned (.bool (wholeS s)) ∧ w' = w := by
  have hts : (tailS s).size < 2147483648 := by have := tailS_size s; omega
  unfold wholeS
  obtain ⟨t, ht⟩ : ∃ t, t = tailS s := ⟨_, rfl⟩
  rw [← ht] at hts ⊢
  have HT := aside ht
  clear ht
  go_enter Tryz.func16, Tryz.ntmps16
  obtain ⟨fl, hfl⟩ : ∃ fl, fl = decide (1 ≤ s.size ∧ bt s 0 = 45) := ⟨_, rfl⟩
  have HFL := aside hfl
  clear hfl
  go_upto_region 1 with fail
  go_cut [11] (fun s11 wx => s11 = .bool fl ∧ wx = w)
  case first =>
    by_cases h0 : s.size = 0
    · have e1 : decide ((s.size : Int) > 0) = false := by rw [h0]; decide
      have hf : fl = false := by rw [HFL.out, decide_eq_false_iff_not]; omega
      have HF := aside hf
      clear hf
      go_wp2_with fail
      all_goals (go_meet; exact ⟨by rw [HF.out], rfl⟩)
    · have e1 : decide (0 < s.size) = true := by simp; omega
      have hlt : 0 < s.size := by omega
      obtain ⟨c, hc⟩ : ∃ c : Nat, c = bt s 0 := ⟨_, rfl⟩
      have e3 : (s[0]'hlt).toNat = c := by rw [hc]; exact bt_in hlt
      by_cases h45 : c = 45
      · have hf : fl = true := by rw [HFL.out, decide_eq_true_eq]; omega
        have e4 : ((c : Int) == 45) = true := by rw [h45]; rfl
        have HF := aside hf
        clear hf hc h45
        go_wp2_with fail
        all_goals (go_meet; exact ⟨by rw [HF.out], rfl⟩)
      · have hf : fl = false := by rw [HFL.out, decide_eq_false_iff_not]; omega
        have e4 : ((c : Int) == 45) = false := by simp only [beq_eq_false_iff_ne, ne_eq]; omega
        have HF := aside hf
        clear hf hc h45
        go_wp2_with fail
        all_goals (go_meet; exact ⟨by rw [HF.out], rfl⟩)
  case rest =>
  obtain ⟨rfl, hwx⟩ := hcut; rw [hwx]; clear hwx
  go_upto_if 11 with fail
  go_cut [0] (fun s0 wy => s0 = .string t ∧ wy = w)
  case first =>
    cases hfl : fl with
    | true =>
      have h1 := of_decide_eq_true (HFL.out.symm.trans hfl)
      have ht : t = s.extract 1 s.size := by rw [HT.out]; unfold tailS; rw [if_pos h1]
      have hl1 : (1 : Int) ≤ (s.size : Int) := by omega
      have HE := aside ht
      clear ht h1
      go_wp2_with fail
      all_goals (go_meet; exact ⟨by rw [HE.out], rfl⟩)
    | false =>
      have h1 := of_decide_eq_false (HFL.out.symm.trans hfl)
      have ht : t = s := by rw [HT.out]; unfold tailS; rw [if_neg h1]
      have HE := aside ht
      clear ht h1
      go_wp2_with fail
      all_goals (go_meet; exact ⟨by rw [HE.out], rfl⟩)
  case rest =>
    obtain ⟨rfl, hwx⟩ := hcut; rw [hwx]; clear hwx
    go_wp2_with fail
    go_loopg [3] t.size (fun q s3 wr => ∃ i : Nat, s3 = .int .i64 i ∧ i ≤ t.size ∧ t.size ≤ q + i ∧ Hid (∀ k, k < i → 48 ≤ bt t k ∧ bt t k ≤ 57) ∧ w = wr)
    case atStart => exact ⟨0, rfl, by omega, by omega, fun k hk => absurd hk (by omega), rfl⟩
    case round =>
      obtain ⟨i, rfl, hi, hq, HM, rfl⟩ := hrel
      by_cases hlt : i < t.size
      · have e2 : decide ((i : Int) < (t.size : Int)) = true := by simp; omega
        obtain ⟨c, hc⟩ : ∃ c : Nat, c = bt t i := ⟨_, rfl⟩
        have e3 : (t[i]'hlt).toNat = c := by rw [hc]; exact bt_in hlt
        have HC := aside hc
        clear hc
        have bad : ¬(48 ≤ c ∧ c ≤ 57) → digitsS t = false := fun h => by
          simp only [digitsS, decide_eq_false_iff_not, not_and]
          exact fun hall => absurd (by rw [HC.out]; exact hall i hlt) h
        have BAD := aside bad
        clear bad
        by_cases h1 : c < 48
        · have f1 : decide ((c : Int) < 48) = true := by simp; omega
          go_wp2_with fail
          go_ret
          exact ⟨by rw [BAD.out (by omega)]; rfl, rfl⟩
        · have f1 : decide ((c : Int) < 48) = false := by simp; omega
          by_cases h2 : 57 < c
          · have f2 : decide ((c : Int) > 57) = true := by simp; omega
            go_wp2_with fail
            go_ret
            exact ⟨by rw [BAD.out (by omega)]; rfl, rfl⟩
          · have f2 : decide ((c : Int) > 57) = false := by simp; omega
            go_wp2_with fail
            go_roundg (t.size - (i + 1))
            case measure => omega
            case rel =>
              refine ⟨i + 1, by simp, by omega, by omega, ?_, rfl⟩
              intro k hk
              by_cases hki : k = i
              · subst hki; rw [← HC.out]; omega
              · exact HM.out k (by omega)
      · have e2 : decide ((i : Int) < (t.size : Int)) = false := by simp; omega
        have hall : ∀ k, k < t.size → 48 ≤ bt t k ∧ bt t k ≤ 57 := fun k hk => HM.out k (by omega)
        by_cases h0 : t.size = 0
        · have e3 : decide ((t.size : Int) > 0) = false := by rw [h0]; decide
          have hf : digitsS t = false := by
            simp only [digitsS, decide_eq_false_iff_not, not_and]
            omega
          have HF := aside hf
          clear hf hall
          go_wp2_with fail
          go_ret
          exact ⟨by rw [HF.out]; rfl, rfl⟩
        · have e3 : decide (0 < t.size) = true := by simp; omega
          by_cases h15 : t.size ≤ 15
          · have e4 : decide ((t.size : Int) ≤ 15) = true := by simp; omega
            have hf : digitsS t = true := by
              simp only [digitsS, decide_eq_true_eq]
              exact ⟨hall, by omega, h15⟩
            have HF := aside hf
            clear hf hall
            go_wp2_with fail
            go_ret
            exact ⟨by rw [HF.out]; rfl, rfl⟩
          · have e4 : decide ((t.size : Int) ≤ 15) = false := by simp; omega
            have hf : digitsS t = false := by
              simp only [digitsS, decide_eq_false_iff_not, not_and]
              omega
            have HF := aside hf
            clear hf hall
            go_wp2_with fail
            go_ret
            exact ⟨by rw [HF.out]; rfl, rfl⟩

set_option maxHeartbeats 2000000 in
theorem cellOf_calls (w : World) (v : Value) (l : List ByteArray) (hv : TextsAt w v l) (k : Nat) (hk : k < 1000) :
    Calls Tryz.prog 13 #[v, .int .i64 ((k : Int) + 1)] w fun e w' => e = .returned (.string (l.getD k ByteArray.empty)) ∧ w' = w := by
  obtain ⟨base, c, rfl, hc, -, hcell⟩ := hv.shape
  by_cases h : k < l.length
  · obtain ⟨b, o, rfl, hbl, m1, -⟩ := hcell k h
    obtain ⟨s, hs⟩ : ∃ s, s = l.getD k ByteArray.empty := ⟨_, rfl⟩
    rw [← hs] at m1 ⊢
    have e1 : decide ((k : Int) + 1 ≤ (l.length : Int)) = true := by simp; omega
    have e2 : (k : Int) < (l.length : Int) := by omega
    clear hcell hv hs
    go_enter Tryz.func13, Tryz.ntmps13
    go_wp2_with fail
    go_ret
    exact ⟨rfl, rfl⟩
  · have hg : l.getD k ByteArray.empty = ByteArray.empty := by
      rw [List.getD_eq_getElem?_getD, List.getElem?_eq_none (by omega)]; rfl
    rw [hg]
    have e1 : decide ((k : Int) + 1 ≤ (l.length : Int)) = false := by simp; omega
    clear hcell hv hg
    go_enter Tryz.func13, Tryz.ntmps13
    go_wp2_with fail
    go_ret
    exact ⟨rfl, rfl⟩
end Go.Proofs.YteplcmhmjdiimaaGreatDoor
namespace Go.Proofs.YteplcmhmjdiimaaGreatDoor
open Go.RowKit

/-- A row of no great texts. -/
def Fits (l : List ByteArray) : Prop := l.length < 2147483648 ∧ ∀ j, j < l.length → (l.getD j ByteArray.empty).size < 2147483648

set_option maxHeartbeats 2000000 in
theorem fits4_calls (w : World) (v : Value) (l : List ByteArray) (hv : TextsAt w v l) :
    Calls Tryz.prog 12 #[v] w fun e w' => ∃ b, e = .returned (.bool b) ∧ (b = true → Fits l) ∧ w' = w := by
  obtain ⟨base, c, rfl, hc, -, hcell⟩ := hv.shape
  have HCELL := aside hcell
  clear hcell hv
  go_enter Tryz.func12, Tryz.ntmps12
  by_cases hbig : l.length < 2147483648
  · have e0 : decide ((l.length : Int) > 2147483647) = false := by simp; omega
    go_wp2_with fail
    go_loopg [10] l.length (fun q s10 wr => ∃ i : Nat, s10 = .int .i64 i ∧ i ≤ l.length ∧ l.length ≤ q + i ∧ Hid (∀ j, j < i → (l.getD j ByteArray.empty).size < 2147483648) ∧ w = wr)
    case atStart => exact ⟨0, rfl, by omega, by omega, fun k hk => absurd hk (by omega), rfl⟩
    case round =>
      obtain ⟨i, rfl, hi, hq, HM, rfl⟩ := hrel
      by_cases hlt : i < l.length
      · have e1 : decide ((i : Int) < (l.length : Int)) = true := by simp; omega
        have e2 : (i : Int) < (l.length : Int) := by omega
        obtain ⟨b, o, rfl, hbl, m1, -⟩ := HCELL.out i hlt
        obtain ⟨s, hs⟩ : ∃ s, s = l.getD i ByteArray.empty := ⟨_, rfl⟩
        rw [← hs] at m1
        have HS := aside hs
        clear hs
        by_cases hsz : s.size < 2147483648
        · have e3 : decide ((s.size : Int) > 2147483647) = false := by simp; omega
          go_wp2_with fail
          go_roundg (l.length - (i + 1))
          case measure => omega
          case rel =>
            refine ⟨i + 1, by simp, by omega, by omega, ?_, rfl⟩
            intro j hj
            by_cases hji : j = i
            · subst hji; rw [← HS.out]; exact hsz
            · exact HM.out j (by omega)
        · have e3 : decide ((s.size : Int) > 2147483647) = true := by simp; omega
          go_wp2_with fail
          go_ret
          exact ⟨false, rfl, (fun h => by cases h), rfl⟩
      · have e1 : decide ((i : Int) < (l.length : Int)) = false := by simp; omega
        go_wp2_with fail
        go_ret
        exact ⟨true, rfl, fun _ => ⟨hbig, fun j hj => HM.out j (by omega)⟩, rfl⟩
  · have e0 : decide ((l.length : Int) > 2147483647) = true := by simp; omega
    go_wp2_with fail
    go_ret
    exact ⟨false, rfl, (fun h => by cases h), rfl⟩

set_option maxHeartbeats 2000000 in
theorem fits19_calls (w : World) (v : Value) (rows : List (List ByteArray)) (hv : RowsM w v rows) :
    Calls Tryz.prog 5 #[v] w fun e w' => ∃ b, e = .returned (.bool b) ∧ (b = true → rows.length < 2147483648 ∧ ∀ k, k < rows.length → Fits (rows.getD k [])) ∧ w' = w := by
  obtain ⟨base, c, rfl, hc, -, hcell⟩ := hv
  have HCELL := aside hcell
  clear hcell
  go_enter Tryz.func5, Tryz.ntmps5
  by_cases hbig : rows.length < 2147483648
  · have e0 : decide ((rows.length : Int) > 2147483647) = false := by simp; omega
    go_wp2_with fail
    go_loopg [10] rows.length (fun q s10 wr => ∃ i : Nat, s10 = .int .i64 i ∧ i ≤ rows.length ∧ rows.length ≤ q + i ∧ Hid (∀ j, j < i → Fits (rows.getD j [])) ∧ w = wr)
    case atStart => exact ⟨0, rfl, by omega, by omega, fun k hk => absurd hk (by omega), rfl⟩
    case round =>
      obtain ⟨i, rfl, hi, hq, HM, rfl⟩ := hrel
      by_cases hlt : i < rows.length
      · have e1 : decide ((i : Int) < (rows.length : Int)) = true := by simp; omega
        have e2 : (i : Int) < (rows.length : Int) := by omega
        obtain ⟨b, o, u, rfl, hbl, m1, ht⟩ := HCELL.out i hlt
        have HT := aside ht
        clear ht
        go_wp2_with (go_at_call 12; refine (fits4_calls _ _ _ HT.out).mono ?_; rintro e w4 ⟨x, rfl, hx, hw4⟩; rw [hw4]; clear hw4 w4; refine Hid.out ?_)
        refine Lib.hid ?_
        have HX := aside hx
        clear hx
        cases x with
        | true =>
          go_wp2_with fail
          go_roundg (rows.length - (i + 1))
          case measure => omega
          case rel =>
            refine ⟨i + 1, by simp, by omega, by omega, ?_, rfl⟩
            intro j hj
            by_cases hji : j = i
            · subst hji; exact HX.out trivial
            · exact HM.out j (by omega)
        | false =>
          go_wp2_with fail
          go_ret
          exact ⟨false, rfl, (fun h => by cases h), rfl⟩
      · have e1 : decide ((i : Int) < (rows.length : Int)) = false := by simp; omega
        go_wp2_with fail
        go_ret
        exact ⟨true, rfl, fun _ => ⟨hbig, fun j hj => HM.out j (by omega)⟩, rfl⟩
  · have e0 : decide ((rows.length : Int) > 2147483647) = true := by simp; omega
    go_wp2_with fail
    go_ret
    exact ⟨false, rfl, (fun h => by cases h), rfl⟩
end Go.Proofs.YteplcmhmjdiimaaGreatDoor
