/-
  sort.siftDown_func and heapSort_func over a comparison that makes memory: the plain functions of Derived/Sort.
-/
import Derived.Test.YteplcmhmjdiimaaGreatDoorcS0
import Derived.Sort.WalkB3
import Derived.Sort.LotB
namespace Go.Proofs.YteplcmhmjdiimaaGreatDoor
open Go.RowKit
variable {α : Type} [Inhabited α]

set_option maxHeartbeats 2000000 in
set_option maxRecDepth 1000000 in
theorem siftDown_calls (enc : α → Value) (lt : α → α → Bool) (g : Nat) (lb : Array Value) (sf : Nat) (sb : Array Value) (blk off lo hi first : Nat) (d : Array α) (w : World)
    (eg : ∀ args w, (callFunc g args).run Tryz.prog w = .ok (.enter g args) w) (hless : LessB Tryz.prog g lb enc lt blk off d.size w) (hswap : SwapSwaps Tryz.prog sf sb enc blk off d.size)
    (hH : Sort.Holds enc w blk off d) (hblk : blk < w.heap.size) (hlo : lo ≤ hi) (hb : first + hi ≤ d.size) (hsz : d.size < 4611686018427387904) :
    Calls Tryz.prog 82 #[.agg #[.func (.func g) #[] lb, .func (.func sf) #[] sb], .int .i64 lo, .int .i64 hi, .int .i64 first] w fun e w' =>
      e = .returned (.tuple #[]) ∧ To enc blk off (Sort.siftDown lt hi first lo d) w w' := by
  have hne : w.heap.size ≠ blk := by omega
  go_enter Tryz.func82, Tryz.ntmps82
  go_wp2
  go_loopg [8] (hi - lo) (fun k s8 wr => ∃ (root : Nat) (dk : Array α), s8 = .int .i64 root ∧ root ≤ hi ∧ hi - root ≤ k ∧ dk.size = d.size ∧ To enc blk off dk w wr ∧ Box w.heap.size (.func (.func g) #[] lb) (.func (.func sf) #[] sb) wr ∧ Hid (Sort.siftDown lt hi first root dk = Sort.siftDown lt hi first lo d))
  case atStart => exact ⟨lo, d, rfl, hlo, Nat.le_refl _, rfl, (To.start hH).alloc _, Box.new _ _ _ _, rfl⟩
  case round =>
    obtain ⟨root, dk, rfl, hr, hk, hds, hT, hB, HE⟩ := hrel
    by_cases h0 : hi ≤ 2 * root + 1
    · have h0z : (hi : Int) ≤ 2 * (root : Int) + 1 := by omega
      go_wp2
      go_end0
      exact ⟨rfl, by rw [← HE.out, Sort.sd_end lt dk h0]; exact hT⟩
    · have h0z : ¬ ((hi : Int) ≤ 2 * (root : Int) + 1) := by omega
      by_cases h1 : 2 * root + 2 < hi
      · have h1z : 2 * (root : Int) + 1 + 1 < (hi : Int) := by omega
        cases hL : lt dk[first + (2 * root + 1)]! dk[first + (2 * root + 2)]! with
        | true =>
          have hl1 := hless.at hT hds hB (first + (2 * root + 1)) (first + (2 * root + 2)) ((first : Int) + (2 * (root : Int) + 1)) ((first : Int) + (2 * (root : Int) + 1) + 1) (by omega) (by omega) (by omega) (by omega) hL
          obtain ⟨c0, c1, c2⟩ := hB
          go_wp2_with fail
          refine hl1.mono ?_
          clear c0 c1 c2 hl1 hT
          rintro e w1 ⟨rfl, hT, c0, c1, c2⟩
          cases hG : lt dk[first + root]! dk[first + (2 * root + 2)]! with
          | true =>
            have hl2 := hless.swap hT hds ⟨c0, c1, c2⟩ (first + root) (first + (2 * root + 2)) ((first : Int) + (root : Int)) ((first : Int) + (2 * (root : Int) + 1 + 1)) (by omega) (by omega) (by omega) (by omega) hG hswap hH hds hblk (first + root) (first + (2 * root + 2)) ((first : Int) + (root : Int)) ((first : Int) + (2 * (root : Int) + 1 + 1)) (by omega) (by omega) (by omega) (by omega)
            go_wp2_with fail
            refine hl2.mono ?_
            clear c0 c1 c2 hl2 hT
            rintro e w2 ⟨rfl, hT, c0, c1, c2, hs⟩
            go_wp2
            go_roundg (hi - (2 * root + 2))
            case measure => omega
            case rel => exact ⟨2 * root + 2, Sort.swp dk (first + root) (first + (2 * root + 2)), by go_num, by omega, Nat.le_refl _, by rw [Sort.size_swp]; exact hds, hT.swap _ _ (by omega) (by omega), Box.swapped ⟨c0, c1, c2⟩ hne _ _ _ _, (Sort.sd_right_go lt dk h1 hL hG).symm.trans HE.out⟩
          | false =>
            have hl2 := hless.at hT hds ⟨c0, c1, c2⟩ (first + root) (first + (2 * root + 2)) ((first : Int) + (root : Int)) ((first : Int) + (2 * (root : Int) + 1 + 1)) (by omega) (by omega) (by omega) (by omega) hG
            go_wp2_with fail
            refine hl2.mono ?_
            clear c0 c1 c2 hl2 hT
            rintro e w2 ⟨rfl, hT, c0, c1, c2⟩
            go_wp2
            (try simp only [Exit.inBlock, Exit.then]); refine bodyPost_ret (results_none rfl _ _ _) rfl ?_
            exact ⟨rfl, by rw [← HE.out, Sort.sd_right_stop lt dk h1 hL hG]; exact hT⟩
        | false =>
          have hl1 := hless.at hT hds hB (first + (2 * root + 1)) (first + (2 * root + 2)) ((first : Int) + (2 * (root : Int) + 1)) ((first : Int) + (2 * (root : Int) + 1) + 1) (by omega) (by omega) (by omega) (by omega) hL
          obtain ⟨c0, c1, c2⟩ := hB
          go_wp2_with fail
          refine hl1.mono ?_
          clear c0 c1 c2 hl1 hT
          rintro e w1 ⟨rfl, hT, c0, c1, c2⟩
          cases hG : lt dk[first + root]! dk[first + (2 * root + 1)]! with
          | true =>
            have hl2 := hless.swap hT hds ⟨c0, c1, c2⟩ (first + root) (first + (2 * root + 1)) ((first : Int) + (root : Int)) ((first : Int) + (2 * (root : Int) + 1)) (by omega) (by omega) (by omega) (by omega) hG hswap hH hds hblk (first + root) (first + (2 * root + 1)) ((first : Int) + (root : Int)) ((first : Int) + (2 * (root : Int) + 1)) (by omega) (by omega) (by omega) (by omega)
            go_wp2_with fail
            refine hl2.mono ?_
            clear c0 c1 c2 hl2 hT
            rintro e w2 ⟨rfl, hT, c0, c1, c2, hs⟩
            go_wp2
            go_roundg (hi - (2 * root + 1))
            case measure => omega
            case rel => exact ⟨2 * root + 1, Sort.swp dk (first + root) (first + (2 * root + 1)), by go_num, by omega, Nat.le_refl _, by rw [Sort.size_swp]; exact hds, hT.swap _ _ (by omega) (by omega), Box.swapped ⟨c0, c1, c2⟩ hne _ _ _ _, (Sort.sd_left_go lt dk (by omega) (fun _ => hL) hG).symm.trans HE.out⟩
          | false =>
            have hl2 := hless.at hT hds ⟨c0, c1, c2⟩ (first + root) (first + (2 * root + 1)) ((first : Int) + (root : Int)) ((first : Int) + (2 * (root : Int) + 1)) (by omega) (by omega) (by omega) (by omega) hG
            go_wp2_with fail
            refine hl2.mono ?_
            clear c0 c1 c2 hl2 hT
            rintro e w2 ⟨rfl, hT, c0, c1, c2⟩
            go_wp2
            (try simp only [Exit.inBlock, Exit.then]); refine bodyPost_ret (results_none rfl _ _ _) rfl ?_
            exact ⟨rfl, by rw [← HE.out, Sort.sd_left_stop lt dk (by omega) (fun _ => hL) hG]; exact hT⟩
      · have h1z : ¬ (2 * (root : Int) + 1 + 1 < (hi : Int)) := by omega
        obtain ⟨c0, c1, c2⟩ := hB
        cases hG : lt dk[first + root]! dk[first + (2 * root + 1)]! with
        | true =>
          have hl2 := hless.swap hT hds ⟨c0, c1, c2⟩ (first + root) (first + (2 * root + 1)) ((first : Int) + (root : Int)) ((first : Int) + (2 * (root : Int) + 1)) (by omega) (by omega) (by omega) (by omega) hG hswap hH hds hblk (first + root) (first + (2 * root + 1)) ((first : Int) + (root : Int)) ((first : Int) + (2 * (root : Int) + 1)) (by omega) (by omega) (by omega) (by omega)
          go_wp2_with fail
          refine hl2.mono ?_
          clear c0 c1 c2 hl2 hT
          rintro e w2 ⟨rfl, hT, c0, c1, c2, hs⟩
          go_wp2
          go_roundg (hi - (2 * root + 1))
          case measure => omega
          case rel => exact ⟨2 * root + 1, Sort.swp dk (first + root) (first + (2 * root + 1)), by go_num, by omega, Nat.le_refl _, by rw [Sort.size_swp]; exact hds, hT.swap _ _ (by omega) (by omega), Box.swapped ⟨c0, c1, c2⟩ hne _ _ _ _, (Sort.sd_left_go lt dk (by omega) (fun h => absurd h h1) hG).symm.trans HE.out⟩
        | false =>
          have hl2 := hless.at hT hds ⟨c0, c1, c2⟩ (first + root) (first + (2 * root + 1)) ((first : Int) + (root : Int)) ((first : Int) + (2 * (root : Int) + 1)) (by omega) (by omega) (by omega) (by omega) hG
          go_wp2_with fail
          refine hl2.mono ?_
          clear c0 c1 c2 hl2 hT
          rintro e w2 ⟨rfl, hT, c0, c1, c2⟩
          go_wp2
          (try simp only [Exit.inBlock, Exit.then]); refine bodyPost_ret (results_none rfl _ _ _) rfl ?_
          exact ⟨rfl, by rw [← HE.out, Sort.sd_left_stop lt dk (by omega) (fun h => absurd h h1) hG]; exact hT⟩

set_option maxHeartbeats 2000000 in
set_option maxRecDepth 1000000 in
theorem heapSort_calls (enc : α → Value) (lt : α → α → Bool) (g : Nat) (lb : Array Value) (sf : Nat) (sb : Array Value) (blk off a b : Nat) (d : Array α) (w : World)
    (eg : ∀ args w, (callFunc g args).run Tryz.prog w = .ok (.enter g args) w) (hless : LessB Tryz.prog g lb enc lt blk off d.size w) (hswap : SwapSwaps Tryz.prog sf sb enc blk off d.size)
    (hH : Sort.Holds enc w blk off d) (hblk : blk < w.heap.size) (hab : a ≤ b) (hb : b ≤ d.size) (hsz : d.size < 4611686018427387904) :
    Calls Tryz.prog 61 #[.agg #[.func (.func g) #[] lb, .func (.func sf) #[] sb], .int .i64 a, .int .i64 b] w fun e w' =>
      e = .returned (.tuple #[]) ∧ To enc blk off (Sort.heapSort lt d a b) w w' := by
  have ecast : ((b - a : Nat) : Int) = (b : Int) - (a : Int) := by omega
  have hne : w.heap.size ≠ blk := by omega
  go_enter Tryz.func61, Tryz.ntmps61
  go_wp2
  go_loopg [9] ((b - a - 1) / 2 + 1) (fun k s9 wr => s9 = .int .i64 ((k : Int) - 1) ∧ k ≤ (b - a - 1) / 2 + 1 ∧ ∃ (dk : Array α), dk.size = d.size ∧ To enc blk off dk w wr ∧ Box w.heap.size (.func (.func g) #[] lb) (.func (.func sf) #[] sb) wr ∧
    Hid (Sort.heapBuild lt (b - a) a k dk = Sort.heapBuild lt (b - a) a ((b - a - 1) / 2 + 1) d))
  case atStart => exact ⟨by rw [half_start hab], Nat.le_refl _, d, rfl, (To.start hH).alloc _, Box.new _ _ _ _, rfl⟩
  case round =>
    obtain ⟨rfl, hkk, dk, hds, hT, hB, HE⟩ := hrel
    cases gk with
    | zero =>
      have hB0 : Hid (dk = Sort.heapBuild lt (b - a) a ((b - a - 1) / 2 + 1) d) := HE.out
      clear HE hkk
      go_wp2
      go_loopg [10] (b - a) (fun k s10 wr2 => s10 = .int .i64 ((k : Int) - 1) ∧ k ≤ b - a ∧ ∃ (dj : Array α), dj.size = d.size ∧ To enc blk off dj w wr2 ∧ Box w.heap.size (.func (.func g) #[] lb) (.func (.func sf) #[] sb) wr2 ∧ Hid (Sort.heapPop lt a k dj = Sort.heapPop lt a (b - a) dk))
      case atStart => exact ⟨by rw [ecast], Nat.le_refl _, dk, hds, hT, hB, rfl⟩
      case round =>
        clear hT hB
        obtain ⟨rfl, hkk, dj, hdj, hT, hB, HE2⟩ := hrel
        cases gk with
        | zero =>
          go_wp2
          go_end0
          have e : dj = Sort.heapSort lt d a b := by rw [Sort.heapSort, ← hB0.out, ← HE2.out]; rfl
          rw [← e]
          exact ⟨rfl, hT⟩
        | succ k =>
          have hs := hswap wr dj (hT.holds hblk hH hdj) hdj a (a + k) (by omega) (by omega)
          rw [show ((a + k : Nat) : Int) = (a : Int) + (k : Int) by omega] at hs
          have T2 := hT.swap a (a + k) (by omega) (by omega)
          have B2 := hB.swapped hne (off + a) (off + (a + k)) (enc dj[a + k]!) (enc dj[a]!)
          have hd2 : (Sort.swp dj a (a + k)).size = d.size := by rw [Sort.size_swp]; exact hdj
          obtain ⟨c0, c1, c2⟩ := hB
          generalize (wr.setCell ⟨blk, off + a, none⟩ (enc dj[a + k]!)).setCell ⟨blk, off + (a + k), none⟩ (enc dj[a]!) = w2 at hs T2 B2
          have hcall := siftDown_calls enc lt g lb sf sb blk off 0 k a (Sort.swp dj a (a + k)) w2 eg (by rw [hd2]; exact hless.on T2 hd2) (by rw [hd2]; exact hswap) (T2.holds hblk hH hd2) (T2.lt hblk) (Nat.zero_le _) (by rw [hd2]; omega) (by rw [hd2]; exact hsz)
          have HD2 := hid hd2
          have B3 := hid B2
          obtain ⟨d0, d1, d2⟩ := B2
          clear hT hless hswap hH hd2
          go_wp2_with fail
          refine hcall.mono ?_
          clear hcall hs c0 c1 c2 d0 d1 d2
          rintro e w3 ⟨rfl, t3⟩
          go_wp2
          go_roundg k
          case measure => omega
          case rel => exact ⟨by go_num, by omega, Sort.siftDown lt k a 0 (Sort.swp dj a (a + k)), by rw [Sort.size_siftDown lt k a _ 0 _ (Nat.le_refl _)]; exact HD2.out, T2.trans t3 (Sort.size_siftDown lt k a _ 0 _ (Nat.le_refl _)), B3.out.to t3 hne, HE2.out⟩
    | succ k =>
      have hcall := siftDown_calls enc lt g lb sf sb blk off k (b - a) a dk wr eg (by rw [hds]; exact hless.on hT hds) (by rw [hds]; exact hswap) (hT.holds hblk hH hds) (hT.lt hblk) (by omega) (by rw [hds]; omega) (by rw [hds]; exact hsz)
      rw [ecast] at hcall
      have B3 := hid hB
      have HD := hid hds
      obtain ⟨c0, c1, c2⟩ := hB
      clear hds
      go_wp2_with fail
      refine hcall.mono ?_
      clear hcall c0 c1 c2
      rintro e w3 ⟨rfl, t3⟩
      go_wp2
      go_roundg k
      case measure => omega
      case rel => exact ⟨by go_num, by omega, Sort.siftDown lt (b - a) a k dk, by rw [Sort.size_siftDown lt (b - a) a _ k _ (Nat.le_refl _)]; exact HD.out, hT.trans t3 (Sort.size_siftDown lt (b - a) a _ k _ (Nat.le_refl _)), B3.out.to t3 hne, HE.out⟩
end Go.Proofs.YteplcmhmjdiimaaGreatDoor
