/-
  strconv's readFloat on whole decimals and on words.
-/
import Derived.Test.YteplcmhmjdiimaaGreatDoorcF1
import Derived.Test.YteplcmhmjdiimaaGreatDoorcE1
import Derived.Deep.DeepCutAuto
import Derived.WalkMore
namespace Go.Proofs.YteplcmhmjdiimaaGreatDoor
open Go.RowKit

theorem results_tmp7 {fn : Func} {a b c d e f g : Tmp} (h : fn.results = #[.tmp a, .tmp b, .tmp c, .tmp d, .tmp e, .tmp f, .tmp g]) (tmps : Array Value) (P : Program) (w : World) :
    (results fn tmps).run P w = .ok (.tuple #[tmps.getD a undef, tmps.getD b undef, tmps.getD c undef, tmps.getD d undef, tmps.getD e undef, tmps.getD f undef, tmps.getD g undef]) w := by
  simp [results, h]

theorem lower139_calls (w : World) (c : Nat) (h1 : 48 ≤ c) (h2 : c < 58) :
    Calls Tryz.prog 139 #[.int .u8 c] w fun e w' => e = .returned (.int .u8 c) ∧ w' = w := by
  have k := or32 c h1 h2
  go_enter Tryz.func139, Tryz.ntmps139
  go_wp2
  go_ret
  exact ⟨rfl, rfl⟩

/-- The number of the first digits, step by step. -/
theorem dval_take_succ (ds : List Nat) (j : Nat) (h : j < ds.length) : Dec.dval (ds.take (j + 1)) = Dec.dval (ds.take j) * 10 + ds.getD j 0 := by
  rw [List.take_succ_eq_append_getElem h, Dec.dval_snoc]
  simp [List.getD_eq_getElem?_getD, List.getElem?_eq_getElem h]

set_option maxHeartbeats 8000000 in
set_option maxRecDepth 100000 in
theorem readFloat_pos (w : World) (s : ByteArray) (ds : List Nat) (h : Digs s ds) (hone : 1 ≤ ds.length) (hmost : ds.length ≤ 15) :
    Calls Tryz.prog 117 #[.string s] w fun e w' => e = .returned (.tuple #[.int .u64 ((Dec.dval ds : Nat) : Int), .int .i64 0, .bool false, .bool false, .bool false, .int .i64 (s.size : Int), .bool true]) ∧ w' = w := by
  have hsz : s.size = ds.length + 0 := by
    have := h.size
    omega
  have hbyte : ∀ j, j < ds.length → bt s (j) = 48 + ds.getD j 0 := fun j hj => by
    exact h.at_ j (by rw [h.size]; exact hj)
  have hdig := h.dig
  have z9 : ∀ i, ds.getD i 0 < 10 := by
    intro i
    by_cases hi : i < ds.length
    · have := hdig (ds[i]) (List.getElem_mem hi)
      simpa [List.getD_eq_getElem?_getD, List.getElem?_eq_getElem hi] using this
    · rw [List.getD_eq_getElem?_getD, List.getElem?_eq_none (by omega)]; simp
  obtain ⟨n, hn⟩ : ∃ n, n = ds.length := ⟨_, rfl⟩
  have HBY := aside hbyte
  have HZ := aside z9
  have HN := aside hn
  have HDIG := aside hdig
  rw [← hn] at hsz hone hmost
  have hlt0 : 0 < s.size := by omega
  have hs16 : s.size ≤ 16 := by omega
  obtain ⟨c0, hc0⟩ : ∃ c0, c0 = bt s 0 := ⟨_, rfl⟩
  have e30 : (s[0]'hlt0).toNat = c0 := by rw [bt_in hlt0, hc0]
  have hc1 : 48 ≤ c0 ∧ c0 < 58 := by rw [hc0]; have := HBY.out 0 (by rw [← HN.out]; omega); have := HZ.out 0; omega
  have t0 : ((c0 : Int) == 43) = false := by simp only [beq_eq_false_iff_ne, ne_eq]; omega
  have t1 : ((c0 : Int) == 45) = false := by simp only [beq_eq_false_iff_ne, ne_eq]; omega
  have e0 : decide (s = ByteArray.empty) = false := by simp only [decide_eq_false_iff_not]; intro e; rw [e] at hlt0; exact absurd hlt0 (by decide)
  have HSZ := aside hsz
  clear hbyte z9 hdig hn hc0 h hc1 hsz
  go_enter Tryz.func117, Tryz.ntmps117
  go_wp2_with fail
  go_step3
  obtain ⟨ca, hca⟩ : ∃ ca, ca = c0 := ⟨_, rfl⟩
  subst hca
  obtain ⟨cb, hcb⟩ : ∃ cb, cb = bt s 1 := ⟨_, rfl⟩
  have hla : 0 < s.size := by have := HSZ.out; omega

  by_cases h2 : 2 < s.size
  · have e1 : decide (((2 : Nat) : Int) < (s.size : Int)) = true := by simp; omega
    have hlb : 1 < s.size := by omega
    have e3b : (s[1]'hlb).toNat = cb := by rw [bt_in hlb, hcb]
    have hcb1 : 48 ≤ cb ∧ cb < 58 := by
      rw [hcb]
      have h5 : bt s 1 = 48 + ds.getD 1 0 := HBY.out 1 (by rw [← HN.out]; have := HSZ.out; omega)
      have h6 := HZ.out 1
      omega
    obtain ⟨hcb1, hcb2⟩ := hcb1
    have hcx : ((cb : Int) == 120) = false := by simp only [beq_eq_false_iff_ne, ne_eq]; omega
    clear hcb
    by_cases hc48 : ca = 48
    · have e4 : ((ca : Int) == 48) = true := by simp; omega
      clear hc48
      go_wp2_with (go_at_call 139; refine (lower139_calls _ cb hcb1 hcb2).mono ?_; rintro e w4 ⟨rfl, hw4⟩; rw [hw4]; clear hw4 w4)
      clear e1
      go_step3
      go_wp2_with fail
      go_loopg [2, 5, 7, 9, 13, 14, 15, 16, 17] n (fun q s2 s5 s7 s9 s13 s14 s15 s16 s17 wr => ∃ (j m k : Nat), s2 = .int .u64 m ∧ s5 = .bool false ∧ s7 = .int .i64 ((j : Int)) ∧ s9 = .bool false ∧ s13 = .bool false ∧ s14 = .bool (decide (0 < j)) ∧ s15 = .int .i64 k ∧ s16 = .int .i64 k ∧ (∃ p : Int, s17 = .int .i64 p ∧ -20 ≤ p + j ∧ p ≤ 20) ∧
        Hid (m = Dec.dval (ds.take j)) ∧ Hid (k = (Dec.dz (ds.take j)).length) ∧ j ≤ n ∧ n ≤ q + j ∧ w = wr)
      case atStart => exact ⟨0, 0, 0, rfl, rfl, rfl, rfl, rfl, rfl, rfl, rfl, ⟨0, rfl, by omega, by omega⟩, rfl, rfl, by omega, by omega, rfl⟩
      case round =>
        obtain ⟨j, m, k, rfl, rfl, rfl, rfl, rfl, rfl, rfl, rfl, ⟨p, rfl, hp1, hp2⟩, HM, HK, hj, hq, rfl⟩ := hrel
        by_cases hjn : j < n
        · have hlt : j < s.size := by have := HSZ.out; omega
          have a1 : decide (((j : Int)) < (s.size : Int)) = true := by simp; omega
          obtain ⟨c, hc⟩ : ∃ c, c = bt s (j) := ⟨_, rfl⟩
          obtain ⟨d, hd⟩ : ∃ d, d = ds.getD j 0 := ⟨_, rfl⟩
          have hcd : c = 48 + d := by rw [hc, hd]; exact HBY.out j (by rw [← HN.out]; exact hjn)
          have e3 : (s[j]'hlt).toNat = c := by rw [bt_in hlt, hc]
          have hd9 : d < 10 := by rw [hd]; exact HZ.out j
          have b1 : ((c : Int) == 95) = false := by simp only [beq_eq_false_iff_ne, ne_eq]; omega
          have b2 : ((c : Int) == 46) = false := by simp only [beq_eq_false_iff_ne, ne_eq]; omega
          have b3 : decide ((48 : Int) ≤ (c : Int)) = true := by simp; omega
          have b4 : decide ((c : Int) ≤ 57) = true := by simp; omega
          have b5 : IntKind.u8.wrap ((c : Int) - 48) = (d : Int) := by rw [IntWalk.u8_in _ (by omega)]; omega
          have hm15 : m < 1000000000000000 := by
            have h1 : m < 10 ^ (ds.take j).length := by rw [HM.out]; exact Dec.dval_lt _ (fun d hd => HDIG.out d (List.mem_of_mem_take hd))
            have h2 : (ds.take j).length ≤ 15 := by simp; omega
            have h3 : (10 : Nat) ^ (ds.take j).length ≤ 10 ^ 15 := Nat.pow_le_pow_right (by omega) h2
            have h4 : (10 : Nat) ^ 15 = 1000000000000000 := by decide
            omega
          have hk15 : k ≤ 15 := by rw [HK.out]; have := Dec.dz_len (ds.take j); simp at this; omega
          have w1 : IntKind.u64.wrap ((m : Int) * 10) = (m : Int) * 10 := IntWalk.u64_in _ (by omega)
          have w2 : IntKind.u64.wrap ((m : Int) * 10 + (d : Int)) = (m : Int) * 10 + (d : Int) := IntWalk.u64_in _ (by omega)
          have w3 : IntKind.u64.wrap (d : Int) = (d : Int) := IntWalk.u64_in _ (by omega)
          have w4' : IntKind.i64.wrap ((k : Int) + 1) = (k : Int) + 1 := IntWalk.i64_in _ (by omega)
          have w5 : IntKind.i64.wrap (p - 1) = p - 1 := IntWalk.i64_in _ (by omega)
          have b8 : decide ((k : Int) < 19) = true := by simp; omega
          have hjl : j < ds.length := by rw [← HN.out]; exact hjn
          have HD := aside hd
          have HJ := aside hjl
          by_cases hlead : k = 0 ∧ d = 0
          · have b6 : ((c : Int) == 48) = true := by simp; omega
            have b7 : ((k : Int) == 0) = true := by simp; omega
            obtain ⟨hk0, hd0⟩ := hlead
            have HK0 := aside hk0
            have HD0 := aside hd0
            clear hc hd hcd hjl hk0 hd0 w1 w2 hm15
            go_wp2_with fail
            go_roundg (n - (j + 1))
            case measure => omega
            case rel =>
              have hdz : Dec.dz (ds.take j) = [] := by have := HK.out; rw [HK0.out] at this; exact List.length_eq_zero_iff.1 this.symm
              have hm0 : m = 0 := by rw [HM.out, ← Dec.dval_dz, hdz]; rfl
              refine ⟨j + 1, m, k, rfl, rfl, ?_, rfl, rfl, by simp, rfl, rfl, ⟨p - 1, by simp, by omega, by omega⟩, ?_, ?_, by omega, by omega, rfl⟩
              · simp
              · show _ = _
                rw [dval_take_succ ds j HJ.out, ← HM.out, ← HD.out, HD0.out, hm0]
              · show _ = _
                rw [List.take_succ_eq_append_getElem HJ.out, Dec.dz_snoc, if_pos ⟨hdz, by have := HD.out; rw [HD0.out, List.getD_eq_getElem?_getD, List.getElem?_eq_getElem HJ.out] at this; exact this.symm⟩, HK0.out]
                rfl
          · have hne : ¬ (Dec.dz (ds.take j) = [] ∧ ds[j]'hjl = 0) := by
              rintro ⟨x1, x2⟩
              refine hlead ⟨by rw [HK.out, x1]; rfl, ?_⟩
              rw [hd, List.getD_eq_getElem?_getD, List.getElem?_eq_getElem hjl]
              exact x2
            have HNE := aside hne
            have hway : (((c : Int) == 48) = false) ∨ (((c : Int) == 48) = true ∧ ((k : Int) == 0) = false) := by
              by_cases hd0 : d = 0
              · right; exact ⟨by simp; omega, by simp only [beq_eq_false_iff_ne, ne_eq]; omega⟩
              · left; simp only [beq_eq_false_iff_ne, ne_eq]; omega
            clear hne hlead hc hd hcd hm15
            rcases hway with b6 | ⟨b6, b7⟩
            all_goals
              go_wp2_with fail
              go_roundg (n - (j + 1))
              case measure => omega
              case rel =>
                refine ⟨j + 1, m * 10 + d, k + 1, by simp, rfl, ?_, rfl, rfl, by simp, by simp, by simp, ⟨p, rfl, by omega, by omega⟩, ?_, ?_, by omega, by omega, rfl⟩
                · simp
                · show _ = _
                  rw [dval_take_succ ds j HJ.out, ← HM.out, ← HD.out]
                · show _ = _
                  rw [List.take_succ_eq_append_getElem HJ.out, Dec.dz_snoc, if_neg HNE.out, List.length_append, ← HK.out]
                  rfl
        · have a1 : decide (((j : Int)) < (s.size : Int)) = false := by have := HSZ.out; simp; omega
          have hjn' : j = n := by omega
          subst hjn'
          have a2 : decide (0 < j) = true := by simp; omega
          have hnlt : ¬ j < s.size := by have := HSZ.out; omega
          have hjs : ((j : Int)) = (s.size : Int) := by have := HSZ.out; omega
          have htk : ds.take j = ds := by rw [HN.out, List.take_length]
          have hk15 : k ≤ 15 := by rw [HK.out]; have := Dec.dz_len (ds.take j); simp at this; omega
          have w6 : IntKind.i64.wrap ((k : Int) - (k : Int)) = 0 := by rw [Int.sub_self]; decide
          have HJS := aside hjs
          rw [htk] at HM HK
          clear htk hjs
          have hj0 : 0 < j := by omega
          have hne2 : (!(decide (0 < j))) = false := by rw [a2]; rfl
          go_wp2_with fail
          all_goals
            simp only [Exit.noGoto_ret]
            refine bodyPost_ret (results_tmp7 rfl _ _ _) rfl ?_
            refine ⟨?_, rfl⟩
            rw [← HM.out, ← HJS.out]
            rfl
    · have e4 : ((ca : Int) == 48) = false := by simp only [beq_eq_false_iff_ne, ne_eq]; omega
      clear hc48
      go_wp2_with (go_at_call 139; refine (lower139_calls _ cb hcb1 hcb2).mono ?_; rintro e w4 ⟨rfl, hw4⟩; rw [hw4]; clear hw4 w4)
      clear e1
      go_step3
      go_wp2_with fail
      go_loopg [2, 5, 7, 9, 13, 14, 15, 16, 17] n (fun q s2 s5 s7 s9 s13 s14 s15 s16 s17 wr => ∃ (j m k : Nat), s2 = .int .u64 m ∧ s5 = .bool false ∧ s7 = .int .i64 ((j : Int)) ∧ s9 = .bool false ∧ s13 = .bool false ∧ s14 = .bool (decide (0 < j)) ∧ s15 = .int .i64 k ∧ s16 = .int .i64 k ∧ (∃ p : Int, s17 = .int .i64 p ∧ -20 ≤ p + j ∧ p ≤ 20) ∧
        Hid (m = Dec.dval (ds.take j)) ∧ Hid (k = (Dec.dz (ds.take j)).length) ∧ j ≤ n ∧ n ≤ q + j ∧ w = wr)
      case atStart => exact ⟨0, 0, 0, rfl, rfl, rfl, rfl, rfl, rfl, rfl, rfl, ⟨0, rfl, by omega, by omega⟩, rfl, rfl, by omega, by omega, rfl⟩
      case round =>
        obtain ⟨j, m, k, rfl, rfl, rfl, rfl, rfl, rfl, rfl, rfl, ⟨p, rfl, hp1, hp2⟩, HM, HK, hj, hq, rfl⟩ := hrel
        by_cases hjn : j < n
        · have hlt : j < s.size := by have := HSZ.out; omega
          have a1 : decide (((j : Int)) < (s.size : Int)) = true := by simp; omega
          obtain ⟨c, hc⟩ : ∃ c, c = bt s (j) := ⟨_, rfl⟩
          obtain ⟨d, hd⟩ : ∃ d, d = ds.getD j 0 := ⟨_, rfl⟩
          have hcd : c = 48 + d := by rw [hc, hd]; exact HBY.out j (by rw [← HN.out]; exact hjn)
          have e3 : (s[j]'hlt).toNat = c := by rw [bt_in hlt, hc]
          have hd9 : d < 10 := by rw [hd]; exact HZ.out j
          have b1 : ((c : Int) == 95) = false := by simp only [beq_eq_false_iff_ne, ne_eq]; omega
          have b2 : ((c : Int) == 46) = false := by simp only [beq_eq_false_iff_ne, ne_eq]; omega
          have b3 : decide ((48 : Int) ≤ (c : Int)) = true := by simp; omega
          have b4 : decide ((c : Int) ≤ 57) = true := by simp; omega
          have b5 : IntKind.u8.wrap ((c : Int) - 48) = (d : Int) := by rw [IntWalk.u8_in _ (by omega)]; omega
          have hm15 : m < 1000000000000000 := by
            have h1 : m < 10 ^ (ds.take j).length := by rw [HM.out]; exact Dec.dval_lt _ (fun d hd => HDIG.out d (List.mem_of_mem_take hd))
            have h2 : (ds.take j).length ≤ 15 := by simp; omega
            have h3 : (10 : Nat) ^ (ds.take j).length ≤ 10 ^ 15 := Nat.pow_le_pow_right (by omega) h2
            have h4 : (10 : Nat) ^ 15 = 1000000000000000 := by decide
            omega
          have hk15 : k ≤ 15 := by rw [HK.out]; have := Dec.dz_len (ds.take j); simp at this; omega
          have w1 : IntKind.u64.wrap ((m : Int) * 10) = (m : Int) * 10 := IntWalk.u64_in _ (by omega)
          have w2 : IntKind.u64.wrap ((m : Int) * 10 + (d : Int)) = (m : Int) * 10 + (d : Int) := IntWalk.u64_in _ (by omega)
          have w3 : IntKind.u64.wrap (d : Int) = (d : Int) := IntWalk.u64_in _ (by omega)
          have w4' : IntKind.i64.wrap ((k : Int) + 1) = (k : Int) + 1 := IntWalk.i64_in _ (by omega)
          have w5 : IntKind.i64.wrap (p - 1) = p - 1 := IntWalk.i64_in _ (by omega)
          have b8 : decide ((k : Int) < 19) = true := by simp; omega
          have hjl : j < ds.length := by rw [← HN.out]; exact hjn
          have HD := aside hd
          have HJ := aside hjl
          by_cases hlead : k = 0 ∧ d = 0
          · have b6 : ((c : Int) == 48) = true := by simp; omega
            have b7 : ((k : Int) == 0) = true := by simp; omega
            obtain ⟨hk0, hd0⟩ := hlead
            have HK0 := aside hk0
            have HD0 := aside hd0
            clear hc hd hcd hjl hk0 hd0 w1 w2 hm15
            go_wp2_with fail
            go_roundg (n - (j + 1))
            case measure => omega
            case rel =>
              have hdz : Dec.dz (ds.take j) = [] := by have := HK.out; rw [HK0.out] at this; exact List.length_eq_zero_iff.1 this.symm
              have hm0 : m = 0 := by rw [HM.out, ← Dec.dval_dz, hdz]; rfl
              refine ⟨j + 1, m, k, rfl, rfl, ?_, rfl, rfl, by simp, rfl, rfl, ⟨p - 1, by simp, by omega, by omega⟩, ?_, ?_, by omega, by omega, rfl⟩
              · simp
              · show _ = _
                rw [dval_take_succ ds j HJ.out, ← HM.out, ← HD.out, HD0.out, hm0]
              · show _ = _
                rw [List.take_succ_eq_append_getElem HJ.out, Dec.dz_snoc, if_pos ⟨hdz, by have := HD.out; rw [HD0.out, List.getD_eq_getElem?_getD, List.getElem?_eq_getElem HJ.out] at this; exact this.symm⟩, HK0.out]
                rfl
          · have hne : ¬ (Dec.dz (ds.take j) = [] ∧ ds[j]'hjl = 0) := by
              rintro ⟨x1, x2⟩
              refine hlead ⟨by rw [HK.out, x1]; rfl, ?_⟩
              rw [hd, List.getD_eq_getElem?_getD, List.getElem?_eq_getElem hjl]
              exact x2
            have HNE := aside hne
            have hway : (((c : Int) == 48) = false) ∨ (((c : Int) == 48) = true ∧ ((k : Int) == 0) = false) := by
              by_cases hd0 : d = 0
              · right; exact ⟨by simp; omega, by simp only [beq_eq_false_iff_ne, ne_eq]; omega⟩
              · left; simp only [beq_eq_false_iff_ne, ne_eq]; omega
            clear hne hlead hc hd hcd hm15
            rcases hway with b6 | ⟨b6, b7⟩
            all_goals
              go_wp2_with fail
              go_roundg (n - (j + 1))
              case measure => omega
              case rel =>
                refine ⟨j + 1, m * 10 + d, k + 1, by simp, rfl, ?_, rfl, rfl, by simp, by simp, by simp, ⟨p, rfl, by omega, by omega⟩, ?_, ?_, by omega, by omega, rfl⟩
                · simp
                · show _ = _
                  rw [dval_take_succ ds j HJ.out, ← HM.out, ← HD.out]
                · show _ = _
                  rw [List.take_succ_eq_append_getElem HJ.out, Dec.dz_snoc, if_neg HNE.out, List.length_append, ← HK.out]
                  rfl
        · have a1 : decide (((j : Int)) < (s.size : Int)) = false := by have := HSZ.out; simp; omega
          have hjn' : j = n := by omega
          subst hjn'
          have a2 : decide (0 < j) = true := by simp; omega
          have hnlt : ¬ j < s.size := by have := HSZ.out; omega
          have hjs : ((j : Int)) = (s.size : Int) := by have := HSZ.out; omega
          have htk : ds.take j = ds := by rw [HN.out, List.take_length]
          have hk15 : k ≤ 15 := by rw [HK.out]; have := Dec.dz_len (ds.take j); simp at this; omega
          have w6 : IntKind.i64.wrap ((k : Int) - (k : Int)) = 0 := by rw [Int.sub_self]; decide
          have HJS := aside hjs
          rw [htk] at HM HK
          clear htk hjs
          have hj0 : 0 < j := by omega
          have hne2 : (!(decide (0 < j))) = false := by rw [a2]; rfl
          go_wp2_with fail
          all_goals
            simp only [Exit.noGoto_ret]
            refine bodyPost_ret (results_tmp7 rfl _ _ _) rfl ?_
            refine ⟨?_, rfl⟩
            rw [← HM.out, ← HJS.out]
            rfl
  · have e1 : decide (((2 : Nat) : Int) < (s.size : Int)) = false := by simp; omega
    clear hcb
    go_wp2_with (go_at_call 139; refine (lower139_calls _ cb hcb1 hcb2).mono ?_; rintro e w4 ⟨rfl, hw4⟩; rw [hw4]; clear hw4 w4)
    clear e1
    go_step3
    go_wp2_with fail
    go_loopg [2, 5, 7, 9, 13, 14, 15, 16, 17] n (fun q s2 s5 s7 s9 s13 s14 s15 s16 s17 wr => ∃ (j m k : Nat), s2 = .int .u64 m ∧ s5 = .bool false ∧ s7 = .int .i64 ((j : Int)) ∧ s9 = .bool false ∧ s13 = .bool false ∧ s14 = .bool (decide (0 < j)) ∧ s15 = .int .i64 k ∧ s16 = .int .i64 k ∧ (∃ p : Int, s17 = .int .i64 p ∧ -20 ≤ p + j ∧ p ≤ 20) ∧
      Hid (m = Dec.dval (ds.take j)) ∧ Hid (k = (Dec.dz (ds.take j)).length) ∧ j ≤ n ∧ n ≤ q + j ∧ w = wr)
    case atStart => exact ⟨0, 0, 0, rfl, rfl, rfl, rfl, rfl, rfl, rfl, rfl, ⟨0, rfl, by omega, by omega⟩, rfl, rfl, by omega, by omega, rfl⟩
    case round =>
      obtain ⟨j, m, k, rfl, rfl, rfl, rfl, rfl, rfl, rfl, rfl, ⟨p, rfl, hp1, hp2⟩, HM, HK, hj, hq, rfl⟩ := hrel
      by_cases hjn : j < n
      · have hlt : j < s.size := by have := HSZ.out; omega
        have a1 : decide (((j : Int)) < (s.size : Int)) = true := by simp; omega
        obtain ⟨c, hc⟩ : ∃ c, c = bt s (j) := ⟨_, rfl⟩
        obtain ⟨d, hd⟩ : ∃ d, d = ds.getD j 0 := ⟨_, rfl⟩
        have hcd : c = 48 + d := by rw [hc, hd]; exact HBY.out j (by rw [← HN.out]; exact hjn)
        have e3 : (s[j]'hlt).toNat = c := by rw [bt_in hlt, hc]
        have hd9 : d < 10 := by rw [hd]; exact HZ.out j
        have b1 : ((c : Int) == 95) = false := by simp only [beq_eq_false_iff_ne, ne_eq]; omega
        have b2 : ((c : Int) == 46) = false := by simp only [beq_eq_false_iff_ne, ne_eq]; omega
        have b3 : decide ((48 : Int) ≤ (c : Int)) = true := by simp; omega
        have b4 : decide ((c : Int) ≤ 57) = true := by simp; omega
        have b5 : IntKind.u8.wrap ((c : Int) - 48) = (d : Int) := by rw [IntWalk.u8_in _ (by omega)]; omega
        have hm15 : m < 1000000000000000 := by
          have h1 : m < 10 ^ (ds.take j).length := by rw [HM.out]; exact Dec.dval_lt _ (fun d hd => HDIG.out d (List.mem_of_mem_take hd))
          have h2 : (ds.take j).length ≤ 15 := by simp; omega
          have h3 : (10 : Nat) ^ (ds.take j).length ≤ 10 ^ 15 := Nat.pow_le_pow_right (by omega) h2
          have h4 : (10 : Nat) ^ 15 = 1000000000000000 := by decide
          omega
        have hk15 : k ≤ 15 := by rw [HK.out]; have := Dec.dz_len (ds.take j); simp at this; omega
        have w1 : IntKind.u64.wrap ((m : Int) * 10) = (m : Int) * 10 := IntWalk.u64_in _ (by omega)
        have w2 : IntKind.u64.wrap ((m : Int) * 10 + (d : Int)) = (m : Int) * 10 + (d : Int) := IntWalk.u64_in _ (by omega)
        have w3 : IntKind.u64.wrap (d : Int) = (d : Int) := IntWalk.u64_in _ (by omega)
        have w4' : IntKind.i64.wrap ((k : Int) + 1) = (k : Int) + 1 := IntWalk.i64_in _ (by omega)
        have w5 : IntKind.i64.wrap (p - 1) = p - 1 := IntWalk.i64_in _ (by omega)
        have b8 : decide ((k : Int) < 19) = true := by simp; omega
        have hjl : j < ds.length := by rw [← HN.out]; exact hjn
        have HD := aside hd
        have HJ := aside hjl
        by_cases hlead : k = 0 ∧ d = 0
        · have b6 : ((c : Int) == 48) = true := by simp; omega
          have b7 : ((k : Int) == 0) = true := by simp; omega
          obtain ⟨hk0, hd0⟩ := hlead
          have HK0 := aside hk0
          have HD0 := aside hd0
          clear hc hd hcd hjl hk0 hd0 w1 w2 hm15
          go_wp2_with fail
          go_roundg (n - (j + 1))
          case measure => omega
          case rel =>
            have hdz : Dec.dz (ds.take j) = [] := by have := HK.out; rw [HK0.out] at this; exact List.length_eq_zero_iff.1 this.symm
            have hm0 : m = 0 := by rw [HM.out, ← Dec.dval_dz, hdz]; rfl
            refine ⟨j + 1, m, k, rfl, rfl, ?_, rfl, rfl, by simp, rfl, rfl, ⟨p - 1, by simp, by omega, by omega⟩, ?_, ?_, by omega, by omega, rfl⟩
            · simp
            · show _ = _
              rw [dval_take_succ ds j HJ.out, ← HM.out, ← HD.out, HD0.out, hm0]
            · show _ = _
              rw [List.take_succ_eq_append_getElem HJ.out, Dec.dz_snoc, if_pos ⟨hdz, by have := HD.out; rw [HD0.out, List.getD_eq_getElem?_getD, List.getElem?_eq_getElem HJ.out] at this; exact this.symm⟩, HK0.out]
              rfl
        · have hne : ¬ (Dec.dz (ds.take j) = [] ∧ ds[j]'hjl = 0) := by
            rintro ⟨x1, x2⟩
            refine hlead ⟨by rw [HK.out, x1]; rfl, ?_⟩
            rw [hd, List.getD_eq_getElem?_getD, List.getElem?_eq_getElem hjl]
            exact x2
          have HNE := aside hne
          have hway : (((c : Int) == 48) = false) ∨ (((c : Int) == 48) = true ∧ ((k : Int) == 0) = false) := by
            by_cases hd0 : d = 0
            · right; exact ⟨by simp; omega, by simp only [beq_eq_false_iff_ne, ne_eq]; omega⟩
            · left; simp only [beq_eq_false_iff_ne, ne_eq]; omega
          clear hne hlead hc hd hcd hm15
          rcases hway with b6 | ⟨b6, b7⟩
          all_goals
            go_wp2_with fail
            go_roundg (n - (j + 1))
            case measure => omega
            case rel =>
              refine ⟨j + 1, m * 10 + d, k + 1, by simp, rfl, ?_, rfl, rfl, by simp, by simp, by simp, ⟨p, rfl, by omega, by omega⟩, ?_, ?_, by omega, by omega, rfl⟩
              · simp
              · show _ = _
                rw [dval_take_succ ds j HJ.out, ← HM.out, ← HD.out]
              · show _ = _
                rw [List.take_succ_eq_append_getElem HJ.out, Dec.dz_snoc, if_neg HNE.out, List.length_append, ← HK.out]
                rfl
      · have a1 : decide (((j : Int)) < (s.size : Int)) = false := by have := HSZ.out; simp; omega
        have hjn' : j = n := by omega
        subst hjn'
        have a2 : decide (0 < j) = true := by simp; omega
        have hnlt : ¬ j < s.size := by have := HSZ.out; omega
        have hjs : ((j : Int)) = (s.size : Int) := by have := HSZ.out; omega
        have htk : ds.take j = ds := by rw [HN.out, List.take_length]
        have hk15 : k ≤ 15 := by rw [HK.out]; have := Dec.dz_len (ds.take j); simp at this; omega
        have w6 : IntKind.i64.wrap ((k : Int) - (k : Int)) = 0 := by rw [Int.sub_self]; decide
        have HJS := aside hjs
        rw [htk] at HM HK
        clear htk hjs
        have hj0 : 0 < j := by omega
        have hne2 : (!(decide (0 < j))) = false := by rw [a2]; rfl
        go_wp2_with fail
        all_goals
          simp only [Exit.noGoto_ret]
          refine bodyPost_ret (results_tmp7 rfl _ _ _) rfl ?_
          refine ⟨?_, rfl⟩
          rw [← HM.out, ← HJS.out]
          rfl

set_option maxHeartbeats 8000000 in
set_option maxRecDepth 100000 in
theorem readFloat_neg (w : World) (s : ByteArray) (ds : List Nat) (hs1 : 1 ≤ s.size) (h45 : bt s 0 = 45) (h : Digs (s.extract 1 s.size) ds) (hone : 1 ≤ ds.length) (hmost : ds.length ≤ 15) :
    Calls Tryz.prog 117 #[.string s] w fun e w' => e = .returned (.tuple #[.int .u64 ((Dec.dval ds : Nat) : Int), .int .i64 0, .bool true, .bool false, .bool false, .int .i64 (s.size : Int), .bool true]) ∧ w' = w := by
  have hsz : s.size = ds.length + 1 := by
    have := h.size
    rw [extract_size] at this
    omega
  have hbyte : ∀ j, j < ds.length → bt s (j + 1) = 48 + ds.getD j 0 := fun j hj => by
    rw [← bt_extract s j (by have := h.size; rw [extract_size] at this; omega)]
    exact h.at_ j (by rw [h.size]; exact hj)
  have hdig := h.dig
  have z9 : ∀ i, ds.getD i 0 < 10 := by
    intro i
    by_cases hi : i < ds.length
    · have := hdig (ds[i]) (List.getElem_mem hi)
      simpa [List.getD_eq_getElem?_getD, List.getElem?_eq_getElem hi] using this
    · rw [List.getD_eq_getElem?_getD, List.getElem?_eq_none (by omega)]; simp
  obtain ⟨n, hn⟩ : ∃ n, n = ds.length := ⟨_, rfl⟩
  have HBY := aside hbyte
  have HZ := aside z9
  have HN := aside hn
  have HDIG := aside hdig
  rw [← hn] at hsz hone hmost
  have hlt0 : 0 < s.size := by omega
  have hs16 : s.size ≤ 16 := by omega
  obtain ⟨c0, hc0⟩ : ∃ c0, c0 = bt s 0 := ⟨_, rfl⟩
  have e30 : (s[0]'hlt0).toNat = c0 := by rw [bt_in hlt0, hc0]
  have hc45 : c0 = 45 := by rw [hc0]; exact h45
  subst hc45
  have e0 : decide (s = ByteArray.empty) = false := by simp only [decide_eq_false_iff_not]; intro e; rw [e] at hlt0; exact absurd hlt0 (by decide)
  have HSZ := aside hsz
  clear hbyte z9 hdig hn hc0 h hs1 h45 hsz
  go_enter Tryz.func117, Tryz.ntmps117
  go_wp2_with fail
  go_step3
  obtain ⟨ca, hca⟩ : ∃ ca, ca = bt s 1 := ⟨_, rfl⟩
  obtain ⟨cb, hcb⟩ : ∃ cb, cb = bt s 2 := ⟨_, rfl⟩
  have hla : 1 < s.size := by have := HSZ.out; omega
  have e3a : (s[1]'hla).toNat = ca := by rw [bt_in hla, hca]
  clear hca
  by_cases h2 : 3 < s.size
  · have e1 : decide (((3 : Nat) : Int) < (s.size : Int)) = true := by simp; omega
    have hlb : 2 < s.size := by omega
    have e3b : (s[2]'hlb).toNat = cb := by rw [bt_in hlb, hcb]
    have hcb1 : 48 ≤ cb ∧ cb < 58 := by
      rw [hcb]
      have h5 : bt s 2 = 48 + ds.getD 1 0 := HBY.out 1 (by rw [← HN.out]; have := HSZ.out; omega)
      have h6 := HZ.out 1
      omega
    obtain ⟨hcb1, hcb2⟩ := hcb1
    have hcx : ((cb : Int) == 120) = false := by simp only [beq_eq_false_iff_ne, ne_eq]; omega
    clear hcb
    by_cases hc48 : ca = 48
    · have e4 : ((ca : Int) == 48) = true := by simp; omega
      clear hc48
      go_wp2_with (go_at_call 139; refine (lower139_calls _ cb hcb1 hcb2).mono ?_; rintro e w4 ⟨rfl, hw4⟩; rw [hw4]; clear hw4 w4)
      clear e1
      go_step3
      go_wp2_with fail
      go_loopg [2, 5, 7, 9, 13, 14, 15, 16, 17] n (fun q s2 s5 s7 s9 s13 s14 s15 s16 s17 wr => ∃ (j m k : Nat), s2 = .int .u64 m ∧ s5 = .bool false ∧ s7 = .int .i64 ((j : Int) + 1) ∧ s9 = .bool false ∧ s13 = .bool false ∧ s14 = .bool (decide (0 < j)) ∧ s15 = .int .i64 k ∧ s16 = .int .i64 k ∧ (∃ p : Int, s17 = .int .i64 p ∧ -20 ≤ p + j ∧ p ≤ 20) ∧
        Hid (m = Dec.dval (ds.take j)) ∧ Hid (k = (Dec.dz (ds.take j)).length) ∧ j ≤ n ∧ n ≤ q + j ∧ w = wr)
      case atStart => exact ⟨0, 0, 0, rfl, rfl, rfl, rfl, rfl, rfl, rfl, rfl, ⟨0, rfl, by omega, by omega⟩, rfl, rfl, by omega, by omega, rfl⟩
      case round =>
        obtain ⟨j, m, k, rfl, rfl, rfl, rfl, rfl, rfl, rfl, rfl, ⟨p, rfl, hp1, hp2⟩, HM, HK, hj, hq, rfl⟩ := hrel
        by_cases hjn : j < n
        · have hlt : j + 1 < s.size := by have := HSZ.out; omega
          have a1 : decide (((j : Int) + 1) < (s.size : Int)) = true := by simp; omega
          obtain ⟨c, hc⟩ : ∃ c, c = bt s (j + 1) := ⟨_, rfl⟩
          obtain ⟨d, hd⟩ : ∃ d, d = ds.getD j 0 := ⟨_, rfl⟩
          have hcd : c = 48 + d := by rw [hc, hd]; exact HBY.out j (by rw [← HN.out]; exact hjn)
          have e3 : (s[j + 1]'hlt).toNat = c := by rw [bt_in hlt, hc]
          have hd9 : d < 10 := by rw [hd]; exact HZ.out j
          have b1 : ((c : Int) == 95) = false := by simp only [beq_eq_false_iff_ne, ne_eq]; omega
          have b2 : ((c : Int) == 46) = false := by simp only [beq_eq_false_iff_ne, ne_eq]; omega
          have b3 : decide ((48 : Int) ≤ (c : Int)) = true := by simp; omega
          have b4 : decide ((c : Int) ≤ 57) = true := by simp; omega
          have b5 : IntKind.u8.wrap ((c : Int) - 48) = (d : Int) := by rw [IntWalk.u8_in _ (by omega)]; omega
          have hm15 : m < 1000000000000000 := by
            have h1 : m < 10 ^ (ds.take j).length := by rw [HM.out]; exact Dec.dval_lt _ (fun d hd => HDIG.out d (List.mem_of_mem_take hd))
            have h2 : (ds.take j).length ≤ 15 := by simp; omega
            have h3 : (10 : Nat) ^ (ds.take j).length ≤ 10 ^ 15 := Nat.pow_le_pow_right (by omega) h2
            have h4 : (10 : Nat) ^ 15 = 1000000000000000 := by decide
            omega
          have hk15 : k ≤ 15 := by rw [HK.out]; have := Dec.dz_len (ds.take j); simp at this; omega
          have w1 : IntKind.u64.wrap ((m : Int) * 10) = (m : Int) * 10 := IntWalk.u64_in _ (by omega)
          have w2 : IntKind.u64.wrap ((m : Int) * 10 + (d : Int)) = (m : Int) * 10 + (d : Int) := IntWalk.u64_in _ (by omega)
          have w3 : IntKind.u64.wrap (d : Int) = (d : Int) := IntWalk.u64_in _ (by omega)
          have w4' : IntKind.i64.wrap ((k : Int) + 1) = (k : Int) + 1 := IntWalk.i64_in _ (by omega)
          have w5 : IntKind.i64.wrap (p - 1) = p - 1 := IntWalk.i64_in _ (by omega)
          have b8 : decide ((k : Int) < 19) = true := by simp; omega
          have hjl : j < ds.length := by rw [← HN.out]; exact hjn
          have HD := aside hd
          have HJ := aside hjl
          by_cases hlead : k = 0 ∧ d = 0
          · have b6 : ((c : Int) == 48) = true := by simp; omega
            have b7 : ((k : Int) == 0) = true := by simp; omega
            obtain ⟨hk0, hd0⟩ := hlead
            have HK0 := aside hk0
            have HD0 := aside hd0
            clear hc hd hcd hjl hk0 hd0 w1 w2 hm15
            go_wp2_with fail
            go_roundg (n - (j + 1))
            case measure => omega
            case rel =>
              have hdz : Dec.dz (ds.take j) = [] := by have := HK.out; rw [HK0.out] at this; exact List.length_eq_zero_iff.1 this.symm
              have hm0 : m = 0 := by rw [HM.out, ← Dec.dval_dz, hdz]; rfl
              refine ⟨j + 1, m, k, rfl, rfl, ?_, rfl, rfl, by simp, rfl, rfl, ⟨p - 1, by simp, by omega, by omega⟩, ?_, ?_, by omega, by omega, rfl⟩
              · simp
              · show _ = _
                rw [dval_take_succ ds j HJ.out, ← HM.out, ← HD.out, HD0.out, hm0]
              · show _ = _
                rw [List.take_succ_eq_append_getElem HJ.out, Dec.dz_snoc, if_pos ⟨hdz, by have := HD.out; rw [HD0.out, List.getD_eq_getElem?_getD, List.getElem?_eq_getElem HJ.out] at this; exact this.symm⟩, HK0.out]
                rfl
          · have hne : ¬ (Dec.dz (ds.take j) = [] ∧ ds[j]'hjl = 0) := by
              rintro ⟨x1, x2⟩
              refine hlead ⟨by rw [HK.out, x1]; rfl, ?_⟩
              rw [hd, List.getD_eq_getElem?_getD, List.getElem?_eq_getElem hjl]
              exact x2
            have HNE := aside hne
            have hway : (((c : Int) == 48) = false) ∨ (((c : Int) == 48) = true ∧ ((k : Int) == 0) = false) := by
              by_cases hd0 : d = 0
              · right; exact ⟨by simp; omega, by simp only [beq_eq_false_iff_ne, ne_eq]; omega⟩
              · left; simp only [beq_eq_false_iff_ne, ne_eq]; omega
            clear hne hlead hc hd hcd hm15
            rcases hway with b6 | ⟨b6, b7⟩
            all_goals
              go_wp2_with fail
              go_roundg (n - (j + 1))
              case measure => omega
              case rel =>
                refine ⟨j + 1, m * 10 + d, k + 1, by simp, rfl, ?_, rfl, rfl, by simp, by simp, by simp, ⟨p, rfl, by omega, by omega⟩, ?_, ?_, by omega, by omega, rfl⟩
                · simp
                · show _ = _
                  rw [dval_take_succ ds j HJ.out, ← HM.out, ← HD.out]
                · show _ = _
                  rw [List.take_succ_eq_append_getElem HJ.out, Dec.dz_snoc, if_neg HNE.out, List.length_append, ← HK.out]
                  rfl
        · have a1 : decide (((j : Int) + 1) < (s.size : Int)) = false := by have := HSZ.out; simp; omega
          have hjn' : j = n := by omega
          subst hjn'
          have a2 : decide (0 < j) = true := by simp; omega
          have hnlt : ¬ j + 1 < s.size := by have := HSZ.out; omega
          have hjs : ((j : Int) + 1) = (s.size : Int) := by have := HSZ.out; omega
          have htk : ds.take j = ds := by rw [HN.out, List.take_length]
          have hk15 : k ≤ 15 := by rw [HK.out]; have := Dec.dz_len (ds.take j); simp at this; omega
          have w6 : IntKind.i64.wrap ((k : Int) - (k : Int)) = 0 := by rw [Int.sub_self]; decide
          have HJS := aside hjs
          rw [htk] at HM HK
          clear htk hjs
          have hj0 : 0 < j := by omega
          have hne2 : (!(decide (0 < j))) = false := by rw [a2]; rfl
          go_wp2_with fail
          all_goals
            simp only [Exit.noGoto_ret]
            refine bodyPost_ret (results_tmp7 rfl _ _ _) rfl ?_
            refine ⟨?_, rfl⟩
            rw [← HM.out, ← HJS.out]
            rfl
    · have e4 : ((ca : Int) == 48) = false := by simp only [beq_eq_false_iff_ne, ne_eq]; omega
      clear hc48
      go_wp2_with (go_at_call 139; refine (lower139_calls _ cb hcb1 hcb2).mono ?_; rintro e w4 ⟨rfl, hw4⟩; rw [hw4]; clear hw4 w4)
      clear e1
      go_step3
      go_wp2_with fail
      go_loopg [2, 5, 7, 9, 13, 14, 15, 16, 17] n (fun q s2 s5 s7 s9 s13 s14 s15 s16 s17 wr => ∃ (j m k : Nat), s2 = .int .u64 m ∧ s5 = .bool false ∧ s7 = .int .i64 ((j : Int) + 1) ∧ s9 = .bool false ∧ s13 = .bool false ∧ s14 = .bool (decide (0 < j)) ∧ s15 = .int .i64 k ∧ s16 = .int .i64 k ∧ (∃ p : Int, s17 = .int .i64 p ∧ -20 ≤ p + j ∧ p ≤ 20) ∧
        Hid (m = Dec.dval (ds.take j)) ∧ Hid (k = (Dec.dz (ds.take j)).length) ∧ j ≤ n ∧ n ≤ q + j ∧ w = wr)
      case atStart => exact ⟨0, 0, 0, rfl, rfl, rfl, rfl, rfl, rfl, rfl, rfl, ⟨0, rfl, by omega, by omega⟩, rfl, rfl, by omega, by omega, rfl⟩
      case round =>
        obtain ⟨j, m, k, rfl, rfl, rfl, rfl, rfl, rfl, rfl, rfl, ⟨p, rfl, hp1, hp2⟩, HM, HK, hj, hq, rfl⟩ := hrel
        by_cases hjn : j < n
        · have hlt : j + 1 < s.size := by have := HSZ.out; omega
          have a1 : decide (((j : Int) + 1) < (s.size : Int)) = true := by simp; omega
          obtain ⟨c, hc⟩ : ∃ c, c = bt s (j + 1) := ⟨_, rfl⟩
          obtain ⟨d, hd⟩ : ∃ d, d = ds.getD j 0 := ⟨_, rfl⟩
          have hcd : c = 48 + d := by rw [hc, hd]; exact HBY.out j (by rw [← HN.out]; exact hjn)
          have e3 : (s[j + 1]'hlt).toNat = c := by rw [bt_in hlt, hc]
          have hd9 : d < 10 := by rw [hd]; exact HZ.out j
          have b1 : ((c : Int) == 95) = false := by simp only [beq_eq_false_iff_ne, ne_eq]; omega
          have b2 : ((c : Int) == 46) = false := by simp only [beq_eq_false_iff_ne, ne_eq]; omega
          have b3 : decide ((48 : Int) ≤ (c : Int)) = true := by simp; omega
          have b4 : decide ((c : Int) ≤ 57) = true := by simp; omega
          have b5 : IntKind.u8.wrap ((c : Int) - 48) = (d : Int) := by rw [IntWalk.u8_in _ (by omega)]; omega
          have hm15 : m < 1000000000000000 := by
            have h1 : m < 10 ^ (ds.take j).length := by rw [HM.out]; exact Dec.dval_lt _ (fun d hd => HDIG.out d (List.mem_of_mem_take hd))
            have h2 : (ds.take j).length ≤ 15 := by simp; omega
            have h3 : (10 : Nat) ^ (ds.take j).length ≤ 10 ^ 15 := Nat.pow_le_pow_right (by omega) h2
            have h4 : (10 : Nat) ^ 15 = 1000000000000000 := by decide
            omega
          have hk15 : k ≤ 15 := by rw [HK.out]; have := Dec.dz_len (ds.take j); simp at this; omega
          have w1 : IntKind.u64.wrap ((m : Int) * 10) = (m : Int) * 10 := IntWalk.u64_in _ (by omega)
          have w2 : IntKind.u64.wrap ((m : Int) * 10 + (d : Int)) = (m : Int) * 10 + (d : Int) := IntWalk.u64_in _ (by omega)
          have w3 : IntKind.u64.wrap (d : Int) = (d : Int) := IntWalk.u64_in _ (by omega)
          have w4' : IntKind.i64.wrap ((k : Int) + 1) = (k : Int) + 1 := IntWalk.i64_in _ (by omega)
          have w5 : IntKind.i64.wrap (p - 1) = p - 1 := IntWalk.i64_in _ (by omega)
          have b8 : decide ((k : Int) < 19) = true := by simp; omega
          have hjl : j < ds.length := by rw [← HN.out]; exact hjn
          have HD := aside hd
          have HJ := aside hjl
          by_cases hlead : k = 0 ∧ d = 0
          · have b6 : ((c : Int) == 48) = true := by simp; omega
            have b7 : ((k : Int) == 0) = true := by simp; omega
            obtain ⟨hk0, hd0⟩ := hlead
            have HK0 := aside hk0
            have HD0 := aside hd0
            clear hc hd hcd hjl hk0 hd0 w1 w2 hm15
            go_wp2_with fail
            go_roundg (n - (j + 1))
            case measure => omega
            case rel =>
              have hdz : Dec.dz (ds.take j) = [] := by have := HK.out; rw [HK0.out] at this; exact List.length_eq_zero_iff.1 this.symm
              have hm0 : m = 0 := by rw [HM.out, ← Dec.dval_dz, hdz]; rfl
              refine ⟨j + 1, m, k, rfl, rfl, ?_, rfl, rfl, by simp, rfl, rfl, ⟨p - 1, by simp, by omega, by omega⟩, ?_, ?_, by omega, by omega, rfl⟩
              · simp
              · show _ = _
                rw [dval_take_succ ds j HJ.out, ← HM.out, ← HD.out, HD0.out, hm0]
              · show _ = _
                rw [List.take_succ_eq_append_getElem HJ.out, Dec.dz_snoc, if_pos ⟨hdz, by have := HD.out; rw [HD0.out, List.getD_eq_getElem?_getD, List.getElem?_eq_getElem HJ.out] at this; exact this.symm⟩, HK0.out]
                rfl
          · have hne : ¬ (Dec.dz (ds.take j) = [] ∧ ds[j]'hjl = 0) := by
              rintro ⟨x1, x2⟩
              refine hlead ⟨by rw [HK.out, x1]; rfl, ?_⟩
              rw [hd, List.getD_eq_getElem?_getD, List.getElem?_eq_getElem hjl]
              exact x2
            have HNE := aside hne
            have hway : (((c : Int) == 48) = false) ∨ (((c : Int) == 48) = true ∧ ((k : Int) == 0) = false) := by
              by_cases hd0 : d = 0
              · right; exact ⟨by simp; omega, by simp only [beq_eq_false_iff_ne, ne_eq]; omega⟩
              · left; simp only [beq_eq_false_iff_ne, ne_eq]; omega
            clear hne hlead hc hd hcd hm15
            rcases hway with b6 | ⟨b6, b7⟩
            all_goals
              go_wp2_with fail
              go_roundg (n - (j + 1))
              case measure => omega
              case rel =>
                refine ⟨j + 1, m * 10 + d, k + 1, by simp, rfl, ?_, rfl, rfl, by simp, by simp, by simp, ⟨p, rfl, by omega, by omega⟩, ?_, ?_, by omega, by omega, rfl⟩
                · simp
                · show _ = _
                  rw [dval_take_succ ds j HJ.out, ← HM.out, ← HD.out]
                · show _ = _
                  rw [List.take_succ_eq_append_getElem HJ.out, Dec.dz_snoc, if_neg HNE.out, List.length_append, ← HK.out]
                  rfl
        · have a1 : decide (((j : Int) + 1) < (s.size : Int)) = false := by have := HSZ.out; simp; omega
          have hjn' : j = n := by omega
          subst hjn'
          have a2 : decide (0 < j) = true := by simp; omega
          have hnlt : ¬ j + 1 < s.size := by have := HSZ.out; omega
          have hjs : ((j : Int) + 1) = (s.size : Int) := by have := HSZ.out; omega
          have htk : ds.take j = ds := by rw [HN.out, List.take_length]
          have hk15 : k ≤ 15 := by rw [HK.out]; have := Dec.dz_len (ds.take j); simp at this; omega
          have w6 : IntKind.i64.wrap ((k : Int) - (k : Int)) = 0 := by rw [Int.sub_self]; decide
          have HJS := aside hjs
          rw [htk] at HM HK
          clear htk hjs
          have hj0 : 0 < j := by omega
          have hne2 : (!(decide (0 < j))) = false := by rw [a2]; rfl
          go_wp2_with fail
          all_goals
            simp only [Exit.noGoto_ret]
            refine bodyPost_ret (results_tmp7 rfl _ _ _) rfl ?_
            refine ⟨?_, rfl⟩
            rw [← HM.out, ← HJS.out]
            rfl
  · have e1 : decide (((3 : Nat) : Int) < (s.size : Int)) = false := by simp; omega
    clear hcb
    go_wp2_with (go_at_call 139; refine (lower139_calls _ cb hcb1 hcb2).mono ?_; rintro e w4 ⟨rfl, hw4⟩; rw [hw4]; clear hw4 w4)
    clear e1
    go_step3
    go_wp2_with fail
    go_loopg [2, 5, 7, 9, 13, 14, 15, 16, 17] n (fun q s2 s5 s7 s9 s13 s14 s15 s16 s17 wr => ∃ (j m k : Nat), s2 = .int .u64 m ∧ s5 = .bool false ∧ s7 = .int .i64 ((j : Int) + 1) ∧ s9 = .bool false ∧ s13 = .bool false ∧ s14 = .bool (decide (0 < j)) ∧ s15 = .int .i64 k ∧ s16 = .int .i64 k ∧ (∃ p : Int, s17 = .int .i64 p ∧ -20 ≤ p + j ∧ p ≤ 20) ∧
      Hid (m = Dec.dval (ds.take j)) ∧ Hid (k = (Dec.dz (ds.take j)).length) ∧ j ≤ n ∧ n ≤ q + j ∧ w = wr)
    case atStart => exact ⟨0, 0, 0, rfl, rfl, rfl, rfl, rfl, rfl, rfl, rfl, ⟨0, rfl, by omega, by omega⟩, rfl, rfl, by omega, by omega, rfl⟩
    case round =>
      obtain ⟨j, m, k, rfl, rfl, rfl, rfl, rfl, rfl, rfl, rfl, ⟨p, rfl, hp1, hp2⟩, HM, HK, hj, hq, rfl⟩ := hrel
      by_cases hjn : j < n
      · have hlt : j + 1 < s.size := by have := HSZ.out; omega
        have a1 : decide (((j : Int) + 1) < (s.size : Int)) = true := by simp; omega
        obtain ⟨c, hc⟩ : ∃ c, c = bt s (j + 1) := ⟨_, rfl⟩
        obtain ⟨d, hd⟩ : ∃ d, d = ds.getD j 0 := ⟨_, rfl⟩
        have hcd : c = 48 + d := by rw [hc, hd]; exact HBY.out j (by rw [← HN.out]; exact hjn)
        have e3 : (s[j + 1]'hlt).toNat = c := by rw [bt_in hlt, hc]
        have hd9 : d < 10 := by rw [hd]; exact HZ.out j
        have b1 : ((c : Int) == 95) = false := by simp only [beq_eq_false_iff_ne, ne_eq]; omega
        have b2 : ((c : Int) == 46) = false := by simp only [beq_eq_false_iff_ne, ne_eq]; omega
        have b3 : decide ((48 : Int) ≤ (c : Int)) = true := by simp; omega
        have b4 : decide ((c : Int) ≤ 57) = true := by simp; omega
        have b5 : IntKind.u8.wrap ((c : Int) - 48) = (d : Int) := by rw [IntWalk.u8_in _ (by omega)]; omega
        have hm15 : m < 1000000000000000 := by
          have h1 : m < 10 ^ (ds.take j).length := by rw [HM.out]; exact Dec.dval_lt _ (fun d hd => HDIG.out d (List.mem_of_mem_take hd))
          have h2 : (ds.take j).length ≤ 15 := by simp; omega
          have h3 : (10 : Nat) ^ (ds.take j).length ≤ 10 ^ 15 := Nat.pow_le_pow_right (by omega) h2
          have h4 : (10 : Nat) ^ 15 = 1000000000000000 := by decide
          omega
        have hk15 : k ≤ 15 := by rw [HK.out]; have := Dec.dz_len (ds.take j); simp at this; omega
        have w1 : IntKind.u64.wrap ((m : Int) * 10) = (m : Int) * 10 := IntWalk.u64_in _ (by omega)
        have w2 : IntKind.u64.wrap ((m : Int) * 10 + (d : Int)) = (m : Int) * 10 + (d : Int) := IntWalk.u64_in _ (by omega)
        have w3 : IntKind.u64.wrap (d : Int) = (d : Int) := IntWalk.u64_in _ (by omega)
        have w4' : IntKind.i64.wrap ((k : Int) + 1) = (k : Int) + 1 := IntWalk.i64_in _ (by omega)
        have w5 : IntKind.i64.wrap (p - 1) = p - 1 := IntWalk.i64_in _ (by omega)
        have b8 : decide ((k : Int) < 19) = true := by simp; omega
        have hjl : j < ds.length := by rw [← HN.out]; exact hjn
        have HD := aside hd
        have HJ := aside hjl
        by_cases hlead : k = 0 ∧ d = 0
        · have b6 : ((c : Int) == 48) = true := by simp; omega
          have b7 : ((k : Int) == 0) = true := by simp; omega
          obtain ⟨hk0, hd0⟩ := hlead
          have HK0 := aside hk0
          have HD0 := aside hd0
          clear hc hd hcd hjl hk0 hd0 w1 w2 hm15
          go_wp2_with fail
          go_roundg (n - (j + 1))
          case measure => omega
          case rel =>
            have hdz : Dec.dz (ds.take j) = [] := by have := HK.out; rw [HK0.out] at this; exact List.length_eq_zero_iff.1 this.symm
            have hm0 : m = 0 := by rw [HM.out, ← Dec.dval_dz, hdz]; rfl
            refine ⟨j + 1, m, k, rfl, rfl, ?_, rfl, rfl, by simp, rfl, rfl, ⟨p - 1, by simp, by omega, by omega⟩, ?_, ?_, by omega, by omega, rfl⟩
            · simp
            · show _ = _
              rw [dval_take_succ ds j HJ.out, ← HM.out, ← HD.out, HD0.out, hm0]
            · show _ = _
              rw [List.take_succ_eq_append_getElem HJ.out, Dec.dz_snoc, if_pos ⟨hdz, by have := HD.out; rw [HD0.out, List.getD_eq_getElem?_getD, List.getElem?_eq_getElem HJ.out] at this; exact this.symm⟩, HK0.out]
              rfl
        · have hne : ¬ (Dec.dz (ds.take j) = [] ∧ ds[j]'hjl = 0) := by
            rintro ⟨x1, x2⟩
            refine hlead ⟨by rw [HK.out, x1]; rfl, ?_⟩
            rw [hd, List.getD_eq_getElem?_getD, List.getElem?_eq_getElem hjl]
            exact x2
          have HNE := aside hne
          have hway : (((c : Int) == 48) = false) ∨ (((c : Int) == 48) = true ∧ ((k : Int) == 0) = false) := by
            by_cases hd0 : d = 0
            · right; exact ⟨by simp; omega, by simp only [beq_eq_false_iff_ne, ne_eq]; omega⟩
            · left; simp only [beq_eq_false_iff_ne, ne_eq]; omega
          clear hne hlead hc hd hcd hm15
          rcases hway with b6 | ⟨b6, b7⟩
          all_goals
            go_wp2_with fail
            go_roundg (n - (j + 1))
            case measure => omega
            case rel =>
              refine ⟨j + 1, m * 10 + d, k + 1, by simp, rfl, ?_, rfl, rfl, by simp, by simp, by simp, ⟨p, rfl, by omega, by omega⟩, ?_, ?_, by omega, by omega, rfl⟩
              · simp
              · show _ = _
                rw [dval_take_succ ds j HJ.out, ← HM.out, ← HD.out]
              · show _ = _
                rw [List.take_succ_eq_append_getElem HJ.out, Dec.dz_snoc, if_neg HNE.out, List.length_append, ← HK.out]
                rfl
      · have a1 : decide (((j : Int) + 1) < (s.size : Int)) = false := by have := HSZ.out; simp; omega
        have hjn' : j = n := by omega
        subst hjn'
        have a2 : decide (0 < j) = true := by simp; omega
        have hnlt : ¬ j + 1 < s.size := by have := HSZ.out; omega
        have hjs : ((j : Int) + 1) = (s.size : Int) := by have := HSZ.out; omega
        have htk : ds.take j = ds := by rw [HN.out, List.take_length]
        have hk15 : k ≤ 15 := by rw [HK.out]; have := Dec.dz_len (ds.take j); simp at this; omega
        have w6 : IntKind.i64.wrap ((k : Int) - (k : Int)) = 0 := by rw [Int.sub_self]; decide
        have HJS := aside hjs
        rw [htk] at HM HK
        clear htk hjs
        have hj0 : 0 < j := by omega
        have hne2 : (!(decide (0 < j))) = false := by rw [a2]; rfl
        go_wp2_with fail
        all_goals
          simp only [Exit.noGoto_ret]
          refine bodyPost_ret (results_tmp7 rfl _ _ _) rfl ?_
          refine ⟨?_, rfl⟩
          rw [← HM.out, ← HJS.out]
          rfl

end Go.Proofs.YteplcmhmjdiimaaGreatDoor
