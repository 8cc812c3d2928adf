/-
  sort.partitionEqual_func over a comparison that makes memory: the plain function of Derived/Sort.
-/
import Derived.Test.YteplcmhmjdiimaaGreatDoorcS0
import Derived.Sort.WalkC4
namespace Go.Proofs.YteplcmhmjdiimaaGreatDoor
open Go.RowKit
variable {α : Type} [Inhabited α]

set_option maxHeartbeats 3000000 in
set_option maxRecDepth 100000 in
theorem partitionEqual_calls (enc : α → Value) (lt : α → α → Bool) (g : Nat) (lb : Array Value) (sf : Nat) (sb : Array Value) (blk off a b pivot : Nat) (d : Array α) (W : World)
    (eg : ∀ args w, (callFunc g args).run Tryz.prog w = .ok (.enter g args) w) (hless : LessB Tryz.prog g lb enc lt blk off d.size W) (hswap : SwapSwaps Tryz.prog sf sb enc blk off d.size)
    (hH : Sort.Holds enc W blk off d) (hblk : blk < W.heap.size) (hap : a ≤ pivot) (hpb : pivot < b) (hb : b ≤ d.size) (hsz : d.size < 4611686018427387904) :
    Calls Tryz.prog 66 #[.agg #[.func (.func g) #[] lb, .func (.func sf) #[] sb], .int .i64 a, .int .i64 b, .int .i64 pivot] W fun e w' =>
      e = .returned (.int .i64 (Sort.partitionEqual lt d a b pivot).1) ∧ To enc blk off (Sort.partitionEqual lt d a b pivot).2 W w' := by
  have hne : W.heap.size ≠ blk := by omega
  have hla : a < d.size := by omega
  have hlp : pivot < d.size := by omega
  obtain ⟨W1, hs0, T1, B1⟩ : ∃ W1, (callFunc sf (#[.int .i64 a, .int .i64 pivot] ++ sb)).run Tryz.prog (W.alloc (.cells #[.func (.func g) #[] lb, .func (.func sf) #[] sb] 101)) = .ok (.value (.tuple #[])) W1 ∧
      To enc blk off (Sort.swp d a pivot) W W1 ∧ Box W.heap.size (.func (.func g) #[] lb) (.func (.func sf) #[] sb) W1 :=
    ⟨_, hswap _ d (((To.start hH).alloc _).holds hblk hH rfl) rfl a pivot hla hlp, ((To.start hH).alloc _).swap a pivot hla hlp, (Box.new W _ _ _).swapped hne _ _ _ _⟩
  have HS0 := hs0
  go_enter Tryz.func66, Tryz.ntmps66
  go_wp2
  go_loopw [9, 10] (fun vi vj wr => ∃ (i j : Nat) (dk : Array α), vi = .int .i64 i ∧ vj = .int .i64 j ∧ a < i ∧ i ≤ j + 1 ∧ j < b ∧ dk.size = d.size ∧ To enc blk off dk W wr ∧ Box W.heap.size (.func (.func g) #[] lb) (.func (.func sf) #[] sb) wr ∧
      Hid (Sort.partEqLoop lt a i j dk = Sort.partEqLoop lt a (a + 1) (b - 1) (Sort.swp d a pivot)))
    (fun vi vj _ => (intOf vj).toNat + 1 - (intOf vi).toNat)
  case atStart => exact ⟨a + 1, b - 1, Sort.swp d a pivot, by go_num, by go_num, by omega, by omega, by omega, Sort.size_swp _ _ _, T1, B1, rfl⟩
  case round =>
    clear hs0 HS0 T1 B1
    obtain ⟨i, j, dk, rfl, rfl, hai, hij, hjb, hs, hT, hB, AE⟩ := hrel
    obtain ⟨e0, e1, e2⟩ := hB
    go_wp2
    have hB : Box W.heap.size (.func (.func g) #[] lb) (.func (.func sf) #[] sb) wr := ⟨e0, e1, e2⟩
    clear e0 e1 e2
    go_loopw [9] (fun vi w1 => ∃ i' : Nat, vi = .int .i64 i' ∧ i ≤ i' ∧ i' ≤ j + 1 ∧ To enc blk off dk W w1 ∧ Box W.heap.size (.func (.func g) #[] lb) (.func (.func sf) #[] sb) w1 ∧
        Hid (Sort.scanUp (fun x => !lt dk[a]! x) dk j i' = Sort.scanUp (fun x => !lt dk[a]! x) dk j i))
      (fun vi _ => j + 1 - (intOf vi).toNat)
    case atStart => exact ⟨i, rfl, Nat.le_refl _, hij, hT, hB, rfl⟩
    case round =>
      clear hT hB
      obtain ⟨i', rfl, hii, hij', hT, hB, hsc⟩ := hrel
      by_cases hle : i' ≤ j
      · cases hlv : lt dk[a]! dk[i']! with
        | false =>
          have hl := hless.at hT hs hB a i' a i' rfl rfl (by omega) (by omega) hlv
          obtain ⟨c0, c1, c2⟩ := hB
          clear hT
          go_wp2_with (go_at_fn g; refine hl.mono ?_; rintro e w1 ⟨rfl, t1, d0, d1, d2⟩)
          go_roundw
          case rel => exact ⟨i' + 1, by go_num, by omega, by omega, t1, ⟨d0, d1, d2⟩, (scanUp_go (fun x => !lt dk[a]! x) dk j i' hle (by simp [hlv])).symm.trans hsc.out⟩
          case measure => simp [intOf]; omega
        | true =>
          have hl := hless.at hT hs hB a i' a i' rfl rfl (by omega) (by omega) hlv
          have hi2 : Hid (i' = Sort.scanUp (fun x => !lt dk[a]! x) dk j i) := (scanUp_end (fun x => !lt dk[a]! x) dk j i' (Or.inr (by simp [hlv]))).symm.trans hsc.out
          obtain ⟨c0, c1, c2⟩ := hB
          clear hT hsc
          go_wp2_with (go_at_fn g; refine hl.mono ?_; rintro e w1 ⟨rfl, hT, d0, d1, d2⟩)
          have hB : Box W.heap.size (.func (.func g) #[] lb) (.func (.func sf) #[] sb) w1 := ⟨d0, d1, d2⟩
          clear c0 c1 c2 d0 d1 d2 hl
          go_loopw [10] (fun vj w2 => ∃ j' : Nat, vj = .int .i64 j' ∧ j' ≤ j ∧ i' ≤ j' + 1 ∧ To enc blk off dk W w2 ∧ Box W.heap.size (.func (.func g) #[] lb) (.func (.func sf) #[] sb) w2 ∧
              Hid (Sort.scanDown (fun x => lt dk[a]! x) dk i' j' = Sort.scanDown (fun x => lt dk[a]! x) dk i' j))
            (fun vj _ => (intOf vj).toNat)
          case atStart => exact ⟨j, rfl, Nat.le_refl _, hij', hT, hB, rfl⟩
          case round =>
            clear hT hB
            obtain ⟨j', rfl, hjj, hij2, hT, hB, hsd⟩ := hrel
            by_cases hle2 : i' ≤ j'
            · cases hlv2 : lt dk[a]! dk[j']! with
              | true =>
                have hl := hless.at hT hs hB a j' a j' rfl rfl (by omega) (by omega) hlv2
                obtain ⟨c0, c1, c2⟩ := hB
                clear hT
                go_wp2_with (go_at_fn g; refine hl.mono ?_; rintro e w1 ⟨rfl, t1, d0, d1, d2⟩)
                go_roundw
                case rel => exact ⟨j' - 1, by go_num, by omega, by omega, t1, ⟨d0, d1, d2⟩, (scanDown_go (fun x => lt dk[a]! x) dk i' j' hle2 (by omega) hlv2).symm.trans hsd.out⟩
                case measure => simp [intOf]; omega
              | false =>
                have hj2 : Hid (j' = Sort.scanDown (fun x => lt dk[a]! x) dk i' j) := (scanDown_end (fun x => lt dk[a]! x) dk i' j' (Or.inr hlv2)).symm.trans hsd.out
                have hlt3 := scans_lt lt a i j dk (by omega) hi2.out hj2.out hle2
                have hl := hless.swap hT hs hB a j' a j' rfl rfl (by omega) (by omega) hlv2 hswap hH hs hblk i' j' i' j' rfl rfl (by omega) (by omega)
                obtain ⟨c0, c1, c2⟩ := hB
                clear hT hsd
                go_wp2_with (go_at_fn g; refine hl.mono ?_; rintro e w1 ⟨rfl, t1, d0, d1, d2, hsw⟩)
                go_roundw
                case rel =>
                  exact ⟨i' + 1, j' - 1, Sort.swp dk i' j', by go_num, by go_num, by omega, by omega, by omega, by rw [Sort.size_swp]; exact hs, t1.swap i' j' (by omega) (by omega), Box.swapped ⟨d0, d1, d2⟩ hne _ _ _ _, (partEq_go lt a i j dk hi2.out hj2.out (by omega)).symm.trans AE.out⟩
                case measure => simp [intOf]; omega
            · have hj2 : Hid (j' = Sort.scanDown (fun x => lt dk[a]! x) dk i' j) := (scanDown_end (fun x => lt dk[a]! x) dk i' j' (Or.inl hle2)).symm.trans hsd.out
              clear hsd
              obtain ⟨c0, c1, c2⟩ := hB
              go_wp2
              go_ret
              have e := partEq_break lt a i j dk hi2.out hj2.out (by omega)
              refine ⟨?_, ?_⟩
              · unfold Sort.partitionEqual; rw [← AE.out, e]; first | done | rfl
              · unfold Sort.partitionEqual; rw [← AE.out, e]; exact hT
      · have hi2 : Hid (i' = Sort.scanUp (fun x => !lt dk[a]! x) dk j i) := (scanUp_end (fun x => !lt dk[a]! x) dk j i' (Or.inl hle)).symm.trans hsc.out
        obtain ⟨c0, c1, c2⟩ := hB
        go_wp2
        have hB : Box W.heap.size (.func (.func g) #[] lb) (.func (.func sf) #[] sb) wr := ⟨c0, c1, c2⟩
        clear c0 c1 c2 hsc
        go_loopw [10] (fun vj w2 => ∃ j' : Nat, vj = .int .i64 j' ∧ j' ≤ j ∧ i' ≤ j' + 1 ∧ To enc blk off dk W w2 ∧ Box W.heap.size (.func (.func g) #[] lb) (.func (.func sf) #[] sb) w2 ∧
            Hid (Sort.scanDown (fun x => lt dk[a]! x) dk i' j' = Sort.scanDown (fun x => lt dk[a]! x) dk i' j))
          (fun vj _ => (intOf vj).toNat)
        case atStart => exact ⟨j, rfl, Nat.le_refl _, hij', hT, hB, rfl⟩
        case round =>
          clear hT hB
          obtain ⟨j', rfl, hjj, hij2, hT, hB, hsd⟩ := hrel
          by_cases hle2 : i' ≤ j'
          · exfalso; omega
          · have hj2 : Hid (j' = Sort.scanDown (fun x => lt dk[a]! x) dk i' j) := (scanDown_end (fun x => lt dk[a]! x) dk i' j' (Or.inl hle2)).symm.trans hsd.out
            clear hsd
            obtain ⟨c0, c1, c2⟩ := hB
            go_wp2
            go_ret
            have e := partEq_break lt a i j dk hi2.out hj2.out (by omega)
            refine ⟨?_, ?_⟩
            · unfold Sort.partitionEqual; rw [← AE.out, e]; first | done | rfl
            · unfold Sort.partitionEqual; rw [← AE.out, e]; exact hT
end Go.Proofs.YteplcmhmjdiimaaGreatDoor
