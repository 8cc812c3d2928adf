/-
  strconv's 'special' on words and on whole decimals.
-/
import Derived.Test.YteplcmhmjdiimaaGreatDoorcF0
import Derived.OwnWalk
namespace Go.Proofs.YteplcmhmjdiimaaGreatDoor
open Go.RowKit

/-- A prefix as long as the word, of a text as long: the text is the word. -/
theorem fold_of_prefix {s t : ByteArray} {c : Nat} (h : ∀ k, k < c → low (bt s k) = bt t k) (hf : foldB s t = false) (hc : t.size ≤ c) : s.size ≠ t.size := by
  intro e
  have : foldB s t = true := by
    simp only [foldB, decide_eq_true_eq]
    exact ⟨e, fun i hi => h i (by omega)⟩
  rw [this] at hf
  cases hf
theorem bt_inf (k : Nat) (hk : k < 3) : bt sInf k = bt sInfinity k := by
  have : k = 0 ∨ k = 1 ∨ k = 2 := by omega
  rcases this with h | h | h <;> subst h <;> decide

set_option maxHeartbeats 4000000 in
set_option maxRecDepth 100000 in
theorem special_word (w : World) (s : ByteArray) (hs : s.size < 2147483648) (h : 1 ≤ s.size → isL (bt s 0)) (h1 : foldB s sNan = false) (h2 : foldB s sInf = false) (h3 : foldB s sInfinity = false) :
    Calls Tryz.prog 116 #[.string s] w fun e w' => (∃ (b n : Nat) (ok : Bool), e = .returned (.tuple #[.float .f64 b, .int .i64 n, .bool ok]) ∧ (ok = false ∨ n ≠ s.size)) ∧ w' = w := by
  have H := aside h
  have H1 := aside h1
  have H2 := aside h2
  have H3 := aside h3
  clear h h1 h2 h3
  go_enter Tryz.func116, Tryz.ntmps116
  by_cases h0 : s.size = 0
  · have e0 : ((s.size : Int) == 0) = true := by rw [h0]; rfl
    go_wp2
    go_ret3
    exact ⟨⟨0, 0, false, rfl, .inl rfl⟩, rfl⟩
  · have e0 : ((s.size : Int) == 0) = false := by simp only [beq_eq_false_iff_ne, ne_eq]; omega
    obtain ⟨c, hc⟩ : ∃ c, c = bt s 0 := ⟨_, rfl⟩
    have hlt : 0 < s.size := by omega
    have e3 : (s[0]'hlt).toNat = c := by rw [bt_in hlt, hc]
    have hl : isL c := by rw [hc]; exact H.out (by omega)
    unfold isL at hl
    have t0 : ((c : Int) == 43) = false := by simp only [beq_eq_false_iff_ne, ne_eq]; omega
    have t1 : ((c : Int) == 45) = false := by simp only [beq_eq_false_iff_ne, ne_eq]; omega
    clear hc hl
    by_cases hi : c = 105
    · subst hi
      skip
      go_wp2_with (go_at_call 136; refine (cpl_calls _ s _ (by decide)).mono ?_; rintro e w4 ⟨⟨n, rfl, hn1, hn2, hn3⟩, hw4⟩; rw [hw4]; clear hw4 w4; refine Hid.out ?_)
      refine Lib.hid ?_
      have HP := aside hn3
      clear hn3
      have hn8 : n ≤ 8 := hn2
      by_cases g1 : n < 3
      · have b1 : decide ((3 : Int) < (n : Int)) = false := by simp; omega
        have b2 : ((n : Int) == 3) = false := by simp only [beq_eq_false_iff_ne, ne_eq]; omega
        have b3 : ((n : Int) == 8) = false := by simp only [beq_eq_false_iff_ne, ne_eq]; omega
        go_wp2_with fail
        go_ret3
        exact ⟨⟨0, 0, false, rfl, .inl rfl⟩, rfl⟩
      · have hne3 : s.size ≠ 3 := fold_of_prefix (t := sInf) (c := 3) (fun k hk => by rw [bt_inf k hk]; exact HP.out k (by omega)) H2.out (by decide)
        by_cases g2 : n = 8
        · subst g2
          have hne8 : s.size ≠ 8 := fold_of_prefix (t := sInfinity) (c := 8) (fun k hk => HP.out k hk) H3.out (by decide)
          have HN8 := aside hne8
          clear hne8 hne3
          go_wp2_with (go_at_call 137; refine (inf_calls _).mono ?_; rintro e w4 ⟨⟨b, rfl⟩, hw4⟩; rw [hw4]; clear hw4 w4; refine Hid.out ?_)
          refine Lib.hid ?_
          go_wp2_with fail
          go_ret3
          exact ⟨⟨b, 8, true, rfl, .inr (fun e => HN8.out e.symm)⟩, rfl⟩
        · have HN3 := aside hne3
          clear hne3
          by_cases g3 : n = 3
          · subst g3
            go_wp2_with (go_at_call 137; refine (inf_calls _).mono ?_; rintro e w4 ⟨⟨b, rfl⟩, hw4⟩; rw [hw4]; clear hw4 w4; refine Hid.out ?_)
            refine Lib.hid ?_
            go_wp2_with fail
            go_ret3
            exact ⟨⟨b, 3, true, rfl, .inr (fun e => HN3.out e.symm)⟩, rfl⟩
          · have b1 : decide ((3 : Int) < (n : Int)) = true := by simp; omega
            have b4 : decide ((n : Int) < 8) = true := by simp; omega
            go_wp2_with (go_at_call 137; refine (inf_calls _).mono ?_; rintro e w4 ⟨⟨b, rfl⟩, hw4⟩; rw [hw4]; clear hw4 w4; refine Hid.out ?_)
            refine Lib.hid ?_
            go_wp2_with fail
            go_ret3
            exact ⟨⟨b, 3, true, rfl, .inr (fun e => HN3.out e.symm)⟩, rfl⟩
    · have a1 : ((c : Int) == 105) = false := by simp only [beq_eq_false_iff_ne, ne_eq]; omega
      by_cases hi2 : c = 73
      · subst hi2
        skip
        go_wp2_with (go_at_call 136; refine (cpl_calls _ s _ (by decide)).mono ?_; rintro e w4 ⟨⟨n, rfl, hn1, hn2, hn3⟩, hw4⟩; rw [hw4]; clear hw4 w4; refine Hid.out ?_)
        refine Lib.hid ?_
        have HP := aside hn3
        clear hn3
        have hn8 : n ≤ 8 := hn2
        by_cases g1 : n < 3
        · have b1 : decide ((3 : Int) < (n : Int)) = false := by simp; omega
          have b2 : ((n : Int) == 3) = false := by simp only [beq_eq_false_iff_ne, ne_eq]; omega
          have b3 : ((n : Int) == 8) = false := by simp only [beq_eq_false_iff_ne, ne_eq]; omega
          go_wp2_with fail
          go_ret3
          exact ⟨⟨0, 0, false, rfl, .inl rfl⟩, rfl⟩
        · have hne3 : s.size ≠ 3 := fold_of_prefix (t := sInf) (c := 3) (fun k hk => by rw [bt_inf k hk]; exact HP.out k (by omega)) H2.out (by decide)
          by_cases g2 : n = 8
          · subst g2
            have hne8 : s.size ≠ 8 := fold_of_prefix (t := sInfinity) (c := 8) (fun k hk => HP.out k hk) H3.out (by decide)
            have HN8 := aside hne8
            clear hne8 hne3
            go_wp2_with (go_at_call 137; refine (inf_calls _).mono ?_; rintro e w4 ⟨⟨b, rfl⟩, hw4⟩; rw [hw4]; clear hw4 w4; refine Hid.out ?_)
            refine Lib.hid ?_
            go_wp2_with fail
            go_ret3
            exact ⟨⟨b, 8, true, rfl, .inr (fun e => HN8.out e.symm)⟩, rfl⟩
          · have HN3 := aside hne3
            clear hne3
            by_cases g3 : n = 3
            · subst g3
              go_wp2_with (go_at_call 137; refine (inf_calls _).mono ?_; rintro e w4 ⟨⟨b, rfl⟩, hw4⟩; rw [hw4]; clear hw4 w4; refine Hid.out ?_)
              refine Lib.hid ?_
              go_wp2_with fail
              go_ret3
              exact ⟨⟨b, 3, true, rfl, .inr (fun e => HN3.out e.symm)⟩, rfl⟩
            · have b1 : decide ((3 : Int) < (n : Int)) = true := by simp; omega
              have b4 : decide ((n : Int) < 8) = true := by simp; omega
              go_wp2_with (go_at_call 137; refine (inf_calls _).mono ?_; rintro e w4 ⟨⟨b, rfl⟩, hw4⟩; rw [hw4]; clear hw4 w4; refine Hid.out ?_)
              refine Lib.hid ?_
              go_wp2_with fail
              go_ret3
              exact ⟨⟨b, 3, true, rfl, .inr (fun e => HN3.out e.symm)⟩, rfl⟩
      · have a2 : ((c : Int) == 73) = false := by simp only [beq_eq_false_iff_ne, ne_eq]; omega
        by_cases hn : c = 110
        · subst hn
          skip
          go_wp2_with (go_at_call 136; refine (cpl_calls _ s _ (by decide)).mono ?_; rintro e w4 ⟨⟨n, rfl, hn1, hn2, hn3⟩, hw4⟩; rw [hw4]; clear hw4 w4; refine Hid.out ?_)
          refine Lib.hid ?_
          have HP := aside hn3
          clear hn3
          by_cases g3 : n = 3
          · subst g3
            have hne3 : s.size ≠ 3 := fold_of_prefix (t := sNan) (c := 3) (fun k hk => HP.out k hk) H1.out (by decide)
            have HN3 := aside hne3
            clear hne3
            go_wp2_with (go_at_call 138; refine (nan_calls _).mono ?_; rintro e w4 ⟨⟨b, rfl⟩, hw4⟩; rw [hw4]; clear hw4 w4; refine Hid.out ?_)
            refine Lib.hid ?_
            go_wp2_with fail
            go_ret3
            exact ⟨⟨b, 3, true, rfl, .inr (fun e => HN3.out e.symm)⟩, rfl⟩
          · have b2 : ((n : Int) == 3) = false := by simp only [beq_eq_false_iff_ne, ne_eq]; omega
            go_wp2_with fail
            go_ret3
            exact ⟨⟨0, 0, false, rfl, .inl rfl⟩, rfl⟩
        · have a3 : ((c : Int) == 110) = false := by simp only [beq_eq_false_iff_ne, ne_eq]; omega
          by_cases hn2 : c = 78
          · subst hn2
            skip
            go_wp2_with (go_at_call 136; refine (cpl_calls _ s _ (by decide)).mono ?_; rintro e w4 ⟨⟨n, rfl, hn1, hn2, hn3⟩, hw4⟩; rw [hw4]; clear hw4 w4; refine Hid.out ?_)
            refine Lib.hid ?_
            have HP := aside hn3
            clear hn3
            by_cases g3 : n = 3
            · subst g3
              have hne3 : s.size ≠ 3 := fold_of_prefix (t := sNan) (c := 3) (fun k hk => HP.out k hk) H1.out (by decide)
              have HN3 := aside hne3
              clear hne3
              go_wp2_with (go_at_call 138; refine (nan_calls _).mono ?_; rintro e w4 ⟨⟨b, rfl⟩, hw4⟩; rw [hw4]; clear hw4 w4; refine Hid.out ?_)
              refine Lib.hid ?_
              go_wp2_with fail
              go_ret3
              exact ⟨⟨b, 3, true, rfl, .inr (fun e => HN3.out e.symm)⟩, rfl⟩
            · have b2 : ((n : Int) == 3) = false := by simp only [beq_eq_false_iff_ne, ne_eq]; omega
              go_wp2_with fail
              go_ret3
              exact ⟨⟨0, 0, false, rfl, .inl rfl⟩, rfl⟩
          · have a4 : ((c : Int) == 78) = false := by simp only [beq_eq_false_iff_ne, ne_eq]; omega
            go_wp2_with fail
            go_ret3
            exact ⟨⟨0, 0, false, rfl, .inl rfl⟩, rfl⟩

set_option maxHeartbeats 4000000 in
set_option maxRecDepth 100000 in
theorem special_whole (w : World) (s : ByteArray) (neg : Bool) (ds : List Nat) (h : WholeAt s neg ds) :
    Calls Tryz.prog 116 #[.string s] w fun e w' => (∃ (b n : Nat), e = .returned (.tuple #[.float .f64 b, .int .i64 n, .bool false])) ∧ w' = w := by
  have hsz := h.size
  have hone := h.one
  have hmost := h.most
  have hlt : 0 < s.size := by omega
  have hs16 : s.size ≤ 16 := by cases neg <;> simp at hsz <;> omega
  have e0 : ((s.size : Int) == 0) = false := by simp only [beq_eq_false_iff_ne, ne_eq]; omega
  cases neg with
  | false =>
    obtain ⟨c, hc⟩ : ∃ c, c = bt s 0 := ⟨_, rfl⟩
    have e3 : (s[0]'hlt).toNat = c := by rw [bt_in hlt, hc]
    have hl := (h.pos rfl).byte 0 hlt
    rw [← hc] at hl
    have t0 : ((c : Int) == 43) = false := by simp only [beq_eq_false_iff_ne, ne_eq]; omega
    have t1 : ((c : Int) == 45) = false := by simp only [beq_eq_false_iff_ne, ne_eq]; omega
    have a1 : ((c : Int) == 105) = false := by simp only [beq_eq_false_iff_ne, ne_eq]; omega
    have a2 : ((c : Int) == 73) = false := by simp only [beq_eq_false_iff_ne, ne_eq]; omega
    have a3 : ((c : Int) == 110) = false := by simp only [beq_eq_false_iff_ne, ne_eq]; omega
    have a4 : ((c : Int) == 78) = false := by simp only [beq_eq_false_iff_ne, ne_eq]; omega
    clear hc hl h hsz
    go_enter Tryz.func116, Tryz.ntmps116
    go_wp2
    go_ret3
    exact ⟨⟨0, 0, rfl⟩, rfl⟩
  | true =>
    obtain ⟨hs1', hb45, hdg⟩ := h.neg rfl
    have e3 : (s[0]'hlt).toNat = 45 := by rw [bt_in hlt, hb45]
    obtain ⟨t, ht⟩ : ∃ t, t = s.extract 1 s.size := ⟨_, rfl⟩
    rw [← ht] at hdg
    have htb := hdg.byte 0 (by rw [hdg.size]; omega)
    have HTB := aside htb
    have HT := aside ht
    have u1 : (1 : Int) ≤ (s.size : Int) := by omega
    clear hb45 h hdg ht htb hsz
    go_enter Tryz.func116, Tryz.ntmps116
    go_wp2_with (go_at_call 136; rw [← HT.out]; refine (cpl_calls _ t _ (by decide)).mono ?_; rintro e w4 ⟨⟨n, rfl, hn1, hn2, hn3⟩, hw4⟩; rw [hw4]; clear hw4 w4; refine Hid.out ?_)
    refine Lib.hid ?_
    have hn0 : n = 0 := by
      rcases Nat.eq_zero_or_pos n with h0 | h0
      · exact h0
      · exfalso
        have h5 := hn3 0 h0
        have h6 := HTB.out
        have h7 : bt ⟨#[105, 110, 102, 105, 110, 105, 116, 121]⟩ 0 = 105 := by decide
        rw [h7] at h5
        unfold low at h5
        rw [if_neg (by omega)] at h5
        omega
    subst hn0
    clear hn3 hn1 hn2
    go_wp2_with fail
    go_ret3
    exact ⟨⟨0, 0, rfl⟩, rfl⟩
end Go.Proofs.YteplcmhmjdiimaaGreatDoor
