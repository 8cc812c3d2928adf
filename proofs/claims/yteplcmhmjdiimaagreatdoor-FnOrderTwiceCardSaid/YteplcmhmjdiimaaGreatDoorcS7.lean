/-
  sort.partialInsertionSort_func over a comparison that makes memory: the plain function of Derived/Sort.
-/
import Derived.Test.YteplcmhmjdiimaaGreatDoorcS0
import Derived.Sort.WalkA6
import Derived.Sort.LotA
namespace Go.Proofs.YteplcmhmjdiimaaGreatDoor
open Go.RowKit
variable {α : Type} [Inhabited α]

set_option maxHeartbeats 8000000 in
set_option maxRecDepth 1000000 in
theorem partialInsertionSort_calls (enc : α → Value) (lt : α → α → Bool) (g : Nat) (lb : Array Value) (sf : Nat) (sb : Array Value) (blk off a b : Nat) (d : Array α) (w : World)
    (eg : ∀ args w, (callFunc g args).run Tryz.prog w = .ok (.enter g args) w) (hless : LessB Tryz.prog g lb enc lt blk off d.size w) (hswap : SwapSwaps Tryz.prog sf sb enc blk off d.size)
    (hH : Sort.Holds enc w blk off d) (hblk : blk < w.heap.size) (hab : a < b) (hb : b ≤ d.size) (hsz : d.size < 4611686018427387904) :
    Calls Tryz.prog 65 #[.agg #[.func (.func g) #[] lb, .func (.func sf) #[] sb], .int .i64 a, .int .i64 b] w fun e w' =>
      e = .returned (.bool (Sort.partialInsertionSort lt d a b).2) ∧ To enc blk off (Sort.partialInsertionSort lt d a b).1 w w' := by
  have hne : w.heap.size ≠ blk := by omega
  go_enter Tryz.func65, Tryz.ntmps65
  go_wp2
  go_loopg [7, 8] 5 (fun g1 vi vs wr => ∃ (i s : Nat) (dk : Array α), vi = .int .i64 i ∧ vs = .int .i64 s ∧ s ≤ 5 ∧ 5 - s ≤ g1 ∧ a < i ∧ i ≤ b ∧ dk.size = d.size ∧ To enc blk off dk w wr ∧ Box w.heap.size (.func (.func g) #[] lb) (.func (.func sf) #[] sb) wr ∧ Hid (Sort.partialIns lt a b (5 - s) i dk = Sort.partialIns lt a b 5 (a + 1) d))
  case atStart => exact ⟨a + 1, 0, d, by go_num, rfl, by omega, by omega, by omega, by omega, rfl, (To.start hH).alloc _, Box.new _ _ _ _, rfl⟩
  case round =>
    obtain ⟨i, s, dk, rfl, rfl, hs5, hg1, hai, hib, hsk, hT0, hB0, HO⟩ := hrel
    by_cases hs : s < 5
    · have hsz5 : (s : Int) < 5 := by omega
      obtain ⟨z0, z1, z2⟩ := hB0
      go_wp2
      have hB0 : Box w.heap.size (.func (.func g) #[] lb) (.func (.func sf) #[] sb) wr := ⟨z0, z1, z2⟩
      clear z0 z1 z2
      go_loopg [7] (b - i) (fun g2 vi wr2 => ∃ k : Nat, vi = .int .i64 k ∧ i ≤ k ∧ k ≤ b ∧ b - k ≤ g2 ∧ To enc blk off dk w wr2 ∧ Box w.heap.size (.func (.func g) #[] lb) (.func (.func sf) #[] sb) wr2 ∧ Hid (Sort.scanSorted lt dk b k = Sort.scanSorted lt dk b i))
      case atStart => exact ⟨i, rfl, Nat.le_refl _, hib, Nat.le_refl _, hT0, hB0, rfl⟩
      case round =>
        clear hT0 hB0
        obtain ⟨k, rfl, hik, hkb, hg2, hT, hB, HSc⟩ := hrel
        by_cases hkb' : k < b
        · have hkz : (k : Int) < (b : Int) := by omega
          cases hlv : lt dk[k]! dk[k - 1]! with
          | false =>
            have hl := hless.at hT hsk hB k (k - 1) k ((k : Int) - 1) rfl (by omega) (by omega) (by omega) hlv
            obtain ⟨c0, c1, c2⟩ := hB
            go_wp2_with (go_at_fn g; refine hl.mono ?_; rintro e w1 ⟨rfl, t1, d0, d1, d2⟩)
            go_roundg (b - (k + 1))
            case measure => omega
            case rel => exact ⟨k + 1, by go_num, by omega, by omega, Nat.le_refl _, t1, ⟨d0, d1, d2⟩, (show _ = _ by rw [← HSc.out, scanSorted_go lt dk b k hkb' hlv])⟩
          | true =>
            have HK : Hid (Sort.scanSorted lt dk b i = k) := by show _ = _; rw [← HSc.out, scanSorted_stop lt dk b k (Or.inr hlv)]
            by_cases h50 : b - a < 50
            · have h50z : (b : Int) - (a : Int) < 50 := by omega
              have hkb2 : ((k : Int) == (b : Int)) = false := by simp; omega
              have hl := hless.at hT hsk hB k (k - 1) k ((k : Int) - 1) rfl (by omega) (by omega) (by omega) hlv
              obtain ⟨c0, c1, c2⟩ := hB
              go_wp2_with (go_at_fn g; refine hl.mono ?_; rintro e w1 ⟨rfl, t1, d0, d1, d2⟩)
              have hv : Sort.partialInsertionSort lt d a b = (dk, false) := by
                unfold Sort.partialInsertionSort
                rw [← HO.out, pi_short lt a b s i dk hs (by rw [HK.out]; omega) h50]
              rw [hv]
              go_ret
              exact ⟨rfl, t1⟩
            · have h50z : ¬ ((b : Int) - (a : Int) < 50) := by omega
              have hkb2 : ((k : Int) == (b : Int)) = false := by simp; omega
              have hl := hless.swap hT hsk hB k (k - 1) k ((k : Int) - 1) rfl (by omega) (by omega) (by omega) hlv hswap hH hsk hblk k (k - 1) k ((k : Int) - 1) rfl (by omega) (by omega) (by omega)
              obtain ⟨c0, c1, c2⟩ := hB
              have hsj : (Sort.swp dk k (k - 1)).size = d.size := by rw [Sort.size_swp]; exact hsk
              by_cases hka : k - a ≥ 2
              · have hkaz : (2 : Int) ≤ (k : Int) - (a : Int) := by omega
                go_wp2_with (go_at_fn g; refine hl.mono ?_; rintro e w1 ⟨rfl, t1, d0, d1, d2, hsw⟩)
                go_loopg [9] (k - 1) (fun g3 vj wr3 => ∃ (j : Nat) (dj : Array α), vj = .int .i64 j ∧ j ≤ k - 1 ∧ j ≤ g3 ∧ dj.size = d.size ∧ To enc blk off dj w wr3 ∧ Box w.heap.size (.func (.func g) #[] lb) (.func (.func sf) #[] sb) wr3 ∧ Hid (Sort.shiftDown lt j dj = Sort.shiftDown lt (k - 1) (Sort.swp dk k (k - 1))))
                case atStart => exact ⟨k - 1, Sort.swp dk k (k - 1), by congr 1; omega, Nat.le_refl _, Nat.le_refl _, hsj, t1.swap _ _ (by omega) (by omega), Box.swapped ⟨d0, d1, d2⟩ hne _ _ _ _, rfl⟩
                case round =>
                  clear hT c0 c1 c2 t1 d0 d1 d2 hsw hl hsj
                  obtain ⟨j, dj, rfl, hjk, hg3, hsj, hT, hB, HDn⟩ := hrel
                  by_cases hj1 : 1 ≤ j
                  · have hj1z : (1 : Int) ≤ (j : Int) := by omega
                    cases hlv2 : lt dj[j]! dj[j - 1]! with
                    | true =>
                      have hl2 := hless.swap hT hsj hB j (j - 1) j ((j : Int) - 1) rfl (by omega) (by omega) (by omega) hlv2 hswap hH hsj hblk j (j - 1) j ((j : Int) - 1) rfl (by omega) (by omega) (by omega)
                      obtain ⟨c0, c1, c2⟩ := hB
                      go_wp2_with (go_at_fn g; refine hl2.mono ?_; rintro e w2 ⟨rfl, t2, d0, d1, d2, hsw⟩)
                      go_roundg (j - 1)
                      case measure => omega
                      case rel => exact ⟨j - 1, Sort.swp dj j (j - 1), by congr 1; omega, by omega, Nat.le_refl _, by rw [Sort.size_swp]; exact hsj, t2.swap _ _ (by omega) (by omega), Box.swapped ⟨d0, d1, d2⟩ hne _ _ _ _, (show _ = _ by rw [← HDn.out, shiftDown_go lt j dj hj1 hlv2])⟩
                    | false =>
                      have hl2 := hless.at hT hsj hB j (j - 1) j ((j : Int) - 1) rfl (by omega) (by omega) (by omega) hlv2
                      obtain ⟨c0, c1, c2⟩ := hB
                      have HD : Hid (Sort.fixDown lt a k (Sort.swp dk k (k - 1)) = dj) := by show _ = _; unfold Sort.fixDown; rw [if_pos hka, ← HDn.out, shiftDown_stop lt j dj (Or.inr hlv2)]
                      by_cases hbk : b - k ≥ 2
                      · have hbkz : (2 : Int) ≤ (b : Int) - (k : Int) := by omega
                        go_wp2_with (go_at_fn g; refine hl2.mono ?_; rintro e w2 ⟨rfl, t2, d0, d1, d2⟩)
                        go_loopg [10] (b - (k + 1)) (fun g4 vj wr4 => ∃ (ju : Nat) (du : Array α), vj = .int .i64 ju ∧ k + 1 ≤ ju ∧ ju ≤ b ∧ b - ju ≤ g4 ∧ du.size = d.size ∧ To enc blk off du w wr4 ∧ Box w.heap.size (.func (.func g) #[] lb) (.func (.func sf) #[] sb) wr4 ∧ Hid (Sort.shiftUp lt b ju du = Sort.shiftUp lt b (k + 1) dj))
                        case atStart => exact ⟨k + 1, dj, by go_num, Nat.le_refl _, by omega, Nat.le_refl _, hsj, t2, ⟨d0, d1, d2⟩, rfl⟩
                        case round =>
                          obtain ⟨ju, du, rfl, hkj, hjb, hg4, hsu, hTu, hBu, HU⟩ := hrel
                          by_cases hjb' : ju < b
                          · have hjz : (ju : Int) < (b : Int) := by omega
                            cases hlv3 : lt du[ju]! du[ju - 1]! with
                            | true =>
                              have hl3 := hless.swap hTu hsu hBu ju (ju - 1) ju ((ju : Int) - 1) rfl (by omega) (by omega) (by omega) hlv3 hswap hH hsu hblk ju (ju - 1) ju ((ju : Int) - 1) rfl (by omega) (by omega) (by omega)
                              obtain ⟨x0, x1, x2⟩ := hBu
                              go_wp2_with (go_at_fn g; refine hl3.mono ?_; rintro e w9 ⟨rfl, t9, y0, y1, y2, hsw9⟩)
                              go_roundg (b - (ju + 1))
                              case measure => omega
                              case rel => exact ⟨ju + 1, Sort.swp du ju (ju - 1), by go_num, by omega, by omega, Nat.le_refl _, by rw [Sort.size_swp]; exact hsu, t9.swap _ _ (by omega) (by omega), Box.swapped ⟨y0, y1, y2⟩ hne _ _ _ _, (show _ = _ by rw [← HU.out, shiftUp_go lt b ju du hjb' hlv3])⟩
                            | false =>
                              have hl3 := hless.at hTu hsu hBu ju (ju - 1) ju ((ju : Int) - 1) rfl (by omega) (by omega) (by omega) hlv3
                              obtain ⟨x0, x1, x2⟩ := hBu
                              go_wp2_with (go_at_fn g; refine hl3.mono ?_; rintro e w9 ⟨rfl, t9, y0, y1, y2⟩)
                              go_roundg (5 - (s + 1))
                              case measure => omega
                              case rel => exact ⟨k, s + 1, du, rfl, by go_num, by omega, Nat.le_refl _, by omega, by omega, hsu, t9, ⟨y0, y1, y2⟩, (show _ = _ by rw [← HO.out, pi_go lt a b s i k dk hs HK.out (by omega) h50, HD.out, show Sort.fixUp lt b k dj = du from by unfold Sort.fixUp; rw [if_pos hbk, ← HU.out, shiftUp_stop lt b ju du (Or.inr hlv3)]])⟩
                          · have hjz : ¬ (ju : Int) < (b : Int) := by omega
                            obtain ⟨x0, x1, x2⟩ := hBu
                            go_wp2
                            go_roundg (5 - (s + 1))
                            case measure => omega
                            case rel => exact ⟨k, s + 1, du, rfl, by go_num, by omega, Nat.le_refl _, by omega, by omega, hsu, hTu, ⟨x0, x1, x2⟩, (show _ = _ by rw [← HO.out, pi_go lt a b s i k dk hs HK.out (by omega) h50, HD.out, show Sort.fixUp lt b k dj = du from by unfold Sort.fixUp; rw [if_pos hbk, ← HU.out, shiftUp_stop lt b ju du (Or.inl hjb')]])⟩
                      · have hbkz : ¬ (2 : Int) ≤ (b : Int) - (k : Int) := by omega
                        go_wp2_with (go_at_fn g; refine hl2.mono ?_; rintro e w2 ⟨rfl, t2, d0, d1, d2⟩)
                        go_roundg (5 - (s + 1))
                        case measure => omega
                        case rel => exact ⟨k, s + 1, dj, rfl, by go_num, by omega, Nat.le_refl _, by omega, by omega, hsj, t2, ⟨d0, d1, d2⟩, (show _ = _ by rw [← HO.out, pi_go lt a b s i k dk hs HK.out (by omega) h50, HD.out, show Sort.fixUp lt b k dj = dj from by unfold Sort.fixUp; rw [if_neg hbk]])⟩
                  · have hj1z : ¬ (1 : Int) ≤ (j : Int) := by omega
                    obtain ⟨c0, c1, c2⟩ := hB
                    have HD : Hid (Sort.fixDown lt a k (Sort.swp dk k (k - 1)) = dj) := by show _ = _; unfold Sort.fixDown; rw [if_pos hka, ← HDn.out, shiftDown_stop lt j dj (Or.inl (by omega))]
                    by_cases hbk : b - k ≥ 2
                    · have hbkz : (2 : Int) ≤ (b : Int) - (k : Int) := by omega
                      go_wp2
                      go_loopg [10] (b - (k + 1)) (fun g4 vj wr4 => ∃ (ju : Nat) (du : Array α), vj = .int .i64 ju ∧ k + 1 ≤ ju ∧ ju ≤ b ∧ b - ju ≤ g4 ∧ du.size = d.size ∧ To enc blk off du w wr4 ∧ Box w.heap.size (.func (.func g) #[] lb) (.func (.func sf) #[] sb) wr4 ∧ Hid (Sort.shiftUp lt b ju du = Sort.shiftUp lt b (k + 1) dj))
                      case atStart => exact ⟨k + 1, dj, by go_num, Nat.le_refl _, by omega, Nat.le_refl _, hsj, hT, ⟨c0, c1, c2⟩, rfl⟩
                      case round =>
                        obtain ⟨ju, du, rfl, hkj, hjb, hg4, hsu, hTu, hBu, HU⟩ := hrel
                        by_cases hjb' : ju < b
                        · have hjz : (ju : Int) < (b : Int) := by omega
                          cases hlv3 : lt du[ju]! du[ju - 1]! with
                          | true =>
                            have hl3 := hless.swap hTu hsu hBu ju (ju - 1) ju ((ju : Int) - 1) rfl (by omega) (by omega) (by omega) hlv3 hswap hH hsu hblk ju (ju - 1) ju ((ju : Int) - 1) rfl (by omega) (by omega) (by omega)
                            obtain ⟨x0, x1, x2⟩ := hBu
                            go_wp2_with (go_at_fn g; refine hl3.mono ?_; rintro e w9 ⟨rfl, t9, y0, y1, y2, hsw9⟩)
                            go_roundg (b - (ju + 1))
                            case measure => omega
                            case rel => exact ⟨ju + 1, Sort.swp du ju (ju - 1), by go_num, by omega, by omega, Nat.le_refl _, by rw [Sort.size_swp]; exact hsu, t9.swap _ _ (by omega) (by omega), Box.swapped ⟨y0, y1, y2⟩ hne _ _ _ _, (show _ = _ by rw [← HU.out, shiftUp_go lt b ju du hjb' hlv3])⟩
                          | false =>
                            have hl3 := hless.at hTu hsu hBu ju (ju - 1) ju ((ju : Int) - 1) rfl (by omega) (by omega) (by omega) hlv3
                            obtain ⟨x0, x1, x2⟩ := hBu
                            go_wp2_with (go_at_fn g; refine hl3.mono ?_; rintro e w9 ⟨rfl, t9, y0, y1, y2⟩)
                            go_roundg (5 - (s + 1))
                            case measure => omega
                            case rel => exact ⟨k, s + 1, du, rfl, by go_num, by omega, Nat.le_refl _, by omega, by omega, hsu, t9, ⟨y0, y1, y2⟩, (show _ = _ by rw [← HO.out, pi_go lt a b s i k dk hs HK.out (by omega) h50, HD.out, show Sort.fixUp lt b k dj = du from by unfold Sort.fixUp; rw [if_pos hbk, ← HU.out, shiftUp_stop lt b ju du (Or.inr hlv3)]])⟩
                        · have hjz : ¬ (ju : Int) < (b : Int) := by omega
                          obtain ⟨x0, x1, x2⟩ := hBu
                          go_wp2
                          go_roundg (5 - (s + 1))
                          case measure => omega
                          case rel => exact ⟨k, s + 1, du, rfl, by go_num, by omega, Nat.le_refl _, by omega, by omega, hsu, hTu, ⟨x0, x1, x2⟩, (show _ = _ by rw [← HO.out, pi_go lt a b s i k dk hs HK.out (by omega) h50, HD.out, show Sort.fixUp lt b k dj = du from by unfold Sort.fixUp; rw [if_pos hbk, ← HU.out, shiftUp_stop lt b ju du (Or.inl hjb')]])⟩
                    · have hbkz : ¬ (2 : Int) ≤ (b : Int) - (k : Int) := by omega
                      go_wp2
                      go_roundg (5 - (s + 1))
                      case measure => omega
                      case rel => exact ⟨k, s + 1, dj, rfl, by go_num, by omega, Nat.le_refl _, by omega, by omega, hsj, hT, ⟨c0, c1, c2⟩, (show _ = _ by rw [← HO.out, pi_go lt a b s i k dk hs HK.out (by omega) h50, HD.out, show Sort.fixUp lt b k dj = dj from by unfold Sort.fixUp; rw [if_neg hbk]])⟩
              · have hkaz : ¬ (2 : Int) ≤ (k : Int) - (a : Int) := by omega
                have HD : Hid (Sort.fixDown lt a k (Sort.swp dk k (k - 1)) = (Sort.swp dk k (k - 1))) := by show _ = _; unfold Sort.fixDown; rw [if_neg hka]
                by_cases hbk : b - k ≥ 2
                · have hbkz : (2 : Int) ≤ (b : Int) - (k : Int) := by omega
                  go_wp2_with (go_at_fn g; refine hl.mono ?_; rintro e w1 ⟨rfl, t1, d0, d1, d2, hsw⟩)
                  go_loopg [10] (b - (k + 1)) (fun g4 vj wr4 => ∃ (ju : Nat) (du : Array α), vj = .int .i64 ju ∧ k + 1 ≤ ju ∧ ju ≤ b ∧ b - ju ≤ g4 ∧ du.size = d.size ∧ To enc blk off du w wr4 ∧ Box w.heap.size (.func (.func g) #[] lb) (.func (.func sf) #[] sb) wr4 ∧ Hid (Sort.shiftUp lt b ju du = Sort.shiftUp lt b (k + 1) (Sort.swp dk k (k - 1))))
                  case atStart => exact ⟨k + 1, (Sort.swp dk k (k - 1)), by go_num, Nat.le_refl _, by omega, Nat.le_refl _, hsj, (t1.swap k (k - 1) (by omega) (by omega)), (Box.swapped ⟨d0, d1, d2⟩ hne _ _ _ _), rfl⟩
                  case round =>
                    obtain ⟨ju, du, rfl, hkj, hjb, hg4, hsu, hTu, hBu, HU⟩ := hrel
                    by_cases hjb' : ju < b
                    · have hjz : (ju : Int) < (b : Int) := by omega
                      cases hlv3 : lt du[ju]! du[ju - 1]! with
                      | true =>
                        have hl3 := hless.swap hTu hsu hBu ju (ju - 1) ju ((ju : Int) - 1) rfl (by omega) (by omega) (by omega) hlv3 hswap hH hsu hblk ju (ju - 1) ju ((ju : Int) - 1) rfl (by omega) (by omega) (by omega)
                        obtain ⟨x0, x1, x2⟩ := hBu
                        go_wp2_with (go_at_fn g; refine hl3.mono ?_; rintro e w9 ⟨rfl, t9, y0, y1, y2, hsw9⟩)
                        go_roundg (b - (ju + 1))
                        case measure => omega
                        case rel => exact ⟨ju + 1, Sort.swp du ju (ju - 1), by go_num, by omega, by omega, Nat.le_refl _, by rw [Sort.size_swp]; exact hsu, t9.swap _ _ (by omega) (by omega), Box.swapped ⟨y0, y1, y2⟩ hne _ _ _ _, (show _ = _ by rw [← HU.out, shiftUp_go lt b ju du hjb' hlv3])⟩
                      | false =>
                        have hl3 := hless.at hTu hsu hBu ju (ju - 1) ju ((ju : Int) - 1) rfl (by omega) (by omega) (by omega) hlv3
                        obtain ⟨x0, x1, x2⟩ := hBu
                        go_wp2_with (go_at_fn g; refine hl3.mono ?_; rintro e w9 ⟨rfl, t9, y0, y1, y2⟩)
                        go_roundg (5 - (s + 1))
                        case measure => omega
                        case rel => exact ⟨k, s + 1, du, rfl, by go_num, by omega, Nat.le_refl _, by omega, by omega, hsu, t9, ⟨y0, y1, y2⟩, (show _ = _ by rw [← HO.out, pi_go lt a b s i k dk hs HK.out (by omega) h50, HD.out, show Sort.fixUp lt b k (Sort.swp dk k (k - 1)) = du from by unfold Sort.fixUp; rw [if_pos hbk, ← HU.out, shiftUp_stop lt b ju du (Or.inr hlv3)]])⟩
                    · have hjz : ¬ (ju : Int) < (b : Int) := by omega
                      obtain ⟨x0, x1, x2⟩ := hBu
                      go_wp2
                      go_roundg (5 - (s + 1))
                      case measure => omega
                      case rel => exact ⟨k, s + 1, du, rfl, by go_num, by omega, Nat.le_refl _, by omega, by omega, hsu, hTu, ⟨x0, x1, x2⟩, (show _ = _ by rw [← HO.out, pi_go lt a b s i k dk hs HK.out (by omega) h50, HD.out, show Sort.fixUp lt b k (Sort.swp dk k (k - 1)) = du from by unfold Sort.fixUp; rw [if_pos hbk, ← HU.out, shiftUp_stop lt b ju du (Or.inl hjb')]])⟩
                · exfalso; omega
        · obtain rfl : k = b := by omega
          have hkz : ¬ (k : Int) < (k : Int) := by omega
          obtain ⟨c0, c1, c2⟩ := hB
          go_wp2
          have hv : Sort.partialInsertionSort lt d a k = (dk, true) := by
            unfold Sort.partialInsertionSort
            rw [← HO.out, pi_true lt a k s i dk hs (by rw [← HSc.out, scanSorted_stop lt dk k k (Or.inl (by omega))])]
          rw [hv]
          go_ret
          exact ⟨rfl, hT⟩
    · obtain rfl : s = 5 := by omega
      obtain ⟨z0, z1, z2⟩ := hB0
      go_wp2
      have hv : Sort.partialInsertionSort lt d a b = (dk, false) := by
        unfold Sort.partialInsertionSort
        rw [← HO.out, pi_end]
      rw [hv]
      go_ret
      exact ⟨rfl, hT0⟩
end Go.Proofs.YteplcmhmjdiimaaGreatDoor
