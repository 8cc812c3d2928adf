/-
  sort.pdqsort_func over a comparison that makes memory and tells a strict weak order: the row holds Sort.pdq behind it.
-/
import Derived.Test.YteplcmhmjdiimaaGreatDoorcS0
import Derived.Test.YteplcmhmjdiimaaGreatDoorcS2
import Derived.Test.YteplcmhmjdiimaaGreatDoorcS4
import Derived.Test.YteplcmhmjdiimaaGreatDoorcS5
import Derived.Test.YteplcmhmjdiimaaGreatDoorcS6
import Derived.Test.YteplcmhmjdiimaaGreatDoorcS7
import Derived.Test.YteplcmhmjdiimaaGreatDoorcS8
import Derived.Sort.Walk13
import Derived.Sort.AssemblyPlain
namespace Go.Proofs.YteplcmhmjdiimaaGreatDoor
open Go.RowKit
variable {α : Type} [Inhabited α]

set_option maxHeartbeats 12800000 in
set_option maxRecDepth 1000000 in
theorem pdqsort_calls (enc : α → Value) (lt : α → α → Bool) (hO : Sort.SWO lt) (g : Nat) (lb : Array Value) (sf : Nat) (sb : Array Value) (eg : ∀ args w, (callFunc g args).run Tryz.prog w = .ok (.enter g args) w) :
    ∀ (N blk off a b limit : Nat) (d : Array α) (w : World), b - a < N → LessB Tryz.prog g lb enc lt blk off d.size w → SwapSwaps Tryz.prog sf sb enc blk off d.size → Sort.Holds enc w blk off d → blk < w.heap.size → a ≤ b → b ≤ d.size → d.size < 4611686018427387904 → limit < 4611686018427387904 → Sort.Below lt a b d →
    Calls Tryz.prog 37 #[.agg #[.func (.func g) #[] lb, .func (.func sf) #[] sb], .int .i64 a, .int .i64 b, .int .i64 limit] w fun e w' => e = .returned (.tuple #[]) ∧ To enc blk off (Sort.pdq lt d a b limit true true) w w' := by
  intro N
  induction N with
  | zero => intro _ _ _ _ _ _ _ h; exact absurd h (Nat.not_lt_zero _)
  | succ N ih =>
    intro blk off a b limit d w hN hL hS hH hblk hab hb hsz hlimit hBel0
    have hne : w.heap.size ≠ blk := by omega
    have LR : ∀ {D : Array α} {X : World}, To enc blk off D w X → D.size = d.size → LessB Tryz.prog g lb enc lt blk off D.size X := fun {D X} hA hs => by rw [hs]; exact hL.on hA hs
    have SR : ∀ {D : Array α}, D.size = d.size → SwapSwaps Tryz.prog sf sb enc blk off D.size := fun {D} hs => by rw [hs]; exact hS
    go_enter Tryz.func37, Tryz.ntmps37
    go_wp2
    go_loopg [1, 2, 3, 8, 9] (b - a) (fun k s1 s2 s3 s8 s9 wr => ∃ (a' b' lim : Nat) (wb wp : Bool) (dk : Array α), s1 = .int .i64 a' ∧ s2 = .int .i64 b' ∧ s3 = .int .i64 lim ∧ s8 = .bool wb ∧ s9 = .bool wp ∧
      a' ≤ b' ∧ b' ≤ d.size ∧ b' - a' ≤ k ∧ k ≤ b - a ∧ lim ≤ limit ∧ dk.size = d.size ∧ Sort.Below lt a' b' dk ∧ To enc blk off dk w wr ∧ Box w.heap.size (.func (.func g) #[] lb) (.func (.func sf) #[] sb) wr ∧ Hid (Sort.pdq lt dk a' b' lim wb wp = Sort.pdq lt d a b limit true true))
    case atStart => exact ⟨a, b, limit, true, true, d, rfl, rfl, rfl, rfl, rfl, hab, hb, Nat.le_refl _, Nat.le_refl _, Nat.le_refl _, rfl, hBel0, (To.start hH).alloc _, Box.new _ _ _ _, rfl⟩
    case round =>
      obtain ⟨a', b', lim, wb, wp, dk, rfl, rfl, rfl, rfl, rfl, hab', hb', hk, hkN, hlim, hds, hBel, hAt, hBx, A⟩ := hrel
      have hHk := hAt.holds hblk hH hds
      have hblk' := hAt.lt hblk
      obtain ⟨x0, x1, x2⟩ := hBx
      by_cases h12 : b' - a' ≤ 12
      · have h12z : (b' : Int) - (a' : Int) ≤ 12 := by omega
        have hc := insertionSort_calls enc lt g lb sf sb blk off a' b' dk wr eg (LR hAt hds) (SR hds) hHk hblk' hab' (by omega) (by omega)
        go_wp2_with (go_at_call 60; refine hc.mono ?_; rintro e w1 ⟨rfl, hw1⟩)
        (try simp only [Exit.inBlock, Exit.then]); refine bodyPost_ret (results_none rfl _ _ _) rfl ?_
        refine ⟨rfl, ?_⟩
        rw [← A.out, Sort.pdq_small h12]
        exact hAt.trans hw1 (Sort.insertionSort_holds hO dk a' b' hab' (by omega)).1.1
      · have h12z : ¬ ((b' : Int) - (a' : Int) ≤ 12) := by omega
        by_cases hl0 : lim = 0
        · subst hl0
          have hc := heapSort_calls enc lt g lb sf sb blk off a' b' dk wr eg (LR hAt hds) (SR hds) hHk hblk' hab' (by omega) (by omega)
          go_wp2_with (go_at_call 61; refine hc.mono ?_; rintro e w1 ⟨rfl, hw1⟩)
          (try simp only [Exit.inBlock, Exit.then]); refine bodyPost_ret (results_none rfl _ _ _) rfl ?_
          refine ⟨rfl, ?_⟩
          rw [← A.out, Sort.pdq_heap h12 rfl]
          exact hAt.trans hw1 (Sort.heapSort_holds hO dk a' b' hab' (by omega)).1.1
        · have hl0z : ¬ ((lim : Int) = 0) := by omega
          obtain ⟨s1, B1, hc1, s2, B2, hpv, s3, B3⟩ := Sort.rd_facts (lt := lt) (limit := lim) (wb := wb) (wp := wp) hO Sort.partialInsertionSort_holds Sort.reverseRange_holds (show a' < b' by omega) (show b' ≤ dk.size by omega) hBel
          go_upto_if 35 with fail
          go_cut [3] from 19 (fun s3 wc => s3 = .int .i64 (Sort.rd lt dk a' b' lim wb wp).lim ∧ To enc blk off (Sort.rd lt dk a' b' lim wb wp).d1 w wc ∧ Box w.heap.size (.func (.func g) #[] lb) (.func (.func sf) #[] sb) wc)
          case first =>
            cases wb
            · have hc := breakPatterns_calls enc (.func g) #[] lb sf sb blk off a' b' dk wr (SR hds) hHk hblk' hab' (by omega) (by omega)
              go_wp2_with (go_at_call 62; refine hc.mono ?_; rintro e w1 ⟨rfl, hw1⟩)
              go_meet
              case rel =>
                refine ⟨?_, hAt.trans hw1 s1, Box.to ⟨x0, x1, x2⟩ hw1 hne⟩
                show Value.int .i64 ((lim : Int) - 1) = Value.int .i64 ((lim - 1 : Nat) : Int)
                congr 1
                omega
            · go_wp2_with fail
              go_meet
              case rel => exact ⟨rfl, hAt, ⟨x0, x1, x2⟩⟩
          case rest =>
            obtain ⟨rfl, hAt1, hBx1⟩ := hcut
            clear x0 x1 x2
            have hH1 := hAt1.holds hblk hH (s1.trans hds)
            have hblk1 := hAt1.lt hblk
            have hBx1' := hid hBx1
            obtain ⟨y0, y1, y2⟩ := hBx1
            have hc17 := choosePivot_calls enc lt g lb (.func (.func sf) #[] sb) blk off a' b' wc (Sort.rd lt dk a' b' lim wb wp).d1 eg (LR hAt1 (s1.trans hds)) hH1 (by omega) (by omega) (by omega)
            change Calls Tryz.prog 63 _ wc (fun e w' => e = .returned (.tuple #[.int .i64 (Sort.rd lt dk a' b' lim wb wp).c.1, .int .i64 (Sort.hintCode (Sort.rd lt dk a' b' lim wb wp).c.2)]) ∧ To enc blk off (Sort.rd lt dk a' b' lim wb wp).d1 wc w') at hc17
            go_upto_if 50 with (go_at_call 63; refine hc17.mono ?_; rintro e w2 ⟨rfl, hw2⟩)
            have hAt2 : To enc blk off (Sort.rd lt dk a' b' lim wb wp).d1 w w2 := hAt1.trans hw2 rfl
            have hBx2 : Box w.heap.size (.func (.func g) #[] lb) (.func (.func sf) #[] sb) w2 := hBx1'.out.to hw2 hne
            clear y0 y1 y2
            have hH2 := hAt2.holds hblk hH (s1.trans hds)
            have hblk2 := hAt2.lt hblk
            obtain ⟨z0, z1, z2⟩ := hBx2
            go_cut [11, 12] from 19 (fun s11 s12 wc => s11 = .int .i64 (Sort.rd lt dk a' b' lim wb wp).pivot ∧ s12 = .int .i64 (Sort.hintCode (Sort.rd lt dk a' b' lim wb wp).hint) ∧ To enc blk off (Sort.rd lt dk a' b' lim wb wp).d2 w wc ∧ Box w.heap.size (.func (.func g) #[] lb) (.func (.func sf) #[] sb) wc)
            case first =>
              by_cases hh : (Sort.rd lt dk a' b' lim wb wp).c.2 = .decreasing
              · have hcode : Sort.hintCode (Sort.rd lt dk a' b' lim wb wp).c.2 = 2 := by rw [hh]; rfl
                obtain ⟨e2, epv, eht⟩ := Sort.rd_dec hh
                have hc18 := reverseRange_calls enc (.func g) #[] lb sf sb blk off a' b' (Sort.rd lt dk a' b' lim wb wp).d1 w2 (SR (s1.trans hds)) hH2 hblk2 hab' (by omega) (by omega)
                go_wp2_with (go_at_call 64; refine hc18.mono ?_; rintro e w3 ⟨rfl, hw3⟩)
                go_meet
                case rel =>
                  refine ⟨?_, by rw [eht]; rfl, by rw [e2]; exact hAt2.trans hw3 (by rw [← e2, s2, s1]), Box.to ⟨z0, z1, z2⟩ hw3 hne⟩
                  rw [epv]
                  congr 1
                  omega
              · have hcode : ¬ (Sort.hintCode (Sort.rd lt dk a' b' lim wb wp).c.2 = 2) := fun h => hh (hintCode_two h)
                obtain ⟨e2, epv, eht⟩ := Sort.rd_not hh
                go_wp2_with fail
                go_meet
                case rel => exact ⟨by rw [epv], by rw [eht], by rw [e2]; exact hAt2, ⟨z0, z1, z2⟩⟩
            case rest =>
              obtain ⟨rfl, rfl, hAt3, hBx3⟩ := hcut
              clear z0 z1 z2
              have hH3 := hAt3.holds hblk hH (s2.trans hds)
              have hblk3 := hAt3.lt hblk
              obtain ⟨v0, v1, v2⟩ := hBx3
              go_upto_region 16 with fail
              go_cut [12, 68] from 19 (fun s12 s68 wx => s12 = .int .i64 (Sort.hintCode (Sort.rd lt dk a' b' lim wb wp).hint) ∧ s68 = .bool (wb && wp && decide ((Sort.rd lt dk a' b' lim wb wp).hint = .increasing)) ∧ wx = wc)
              case first =>
                cases wb <;> cases wp <;> cases hh3 : (Sort.rd lt dk a' b' lim _ _).hint <;>
                  (have hcode3 := congrArg Sort.hintCode hh3
                   simp only [Sort.hintCode] at hcode3
                   go_wp2_with fail
                   go_meet
                   exact ⟨by simp [hh3, Sort.hintCode], by simp [hh3, Sort.hintCode], rfl⟩)
              case rest =>
                obtain ⟨rfl, rfl, rfl⟩ := hcut
                go_upto_if 68 with fail
                go_cut [] from 19 (fun wx => (Sort.rd lt dk a' b' lim wb wp).pi.2 = false ∧ To enc blk off (Sort.rd lt dk a' b' lim wb wp).pi.1 w wx ∧ Box w.heap.size (.func (.func g) #[] lb) (.func (.func sf) #[] sb) wx)
                case first =>
                  cases h68 : (wb && wp && decide ((Sort.rd lt dk a' b' lim wb wp).hint = .increasing))
                  · have epi := Sort.rd_pi_no h68
                    go_wp2_with fail
                    go_meet
                    case rel => exact ⟨by rw [epi], by rw [epi]; exact hAt3, ⟨v0, v1, v2⟩⟩
                  · have epi := Sort.rd_pi_yes h68
                    have hc19 := partialInsertionSort_calls enc lt g lb sf sb blk off a' b' (Sort.rd lt dk a' b' lim wb wp).d2 wc eg (LR hAt3 (s2.trans hds)) (SR (s2.trans hds)) hH3 hblk3 (by omega) (by omega) (by omega)
                    rw [← epi] at hc19
                    go_wp2_with (go_at_call 65; refine hc19.mono ?_; rintro e w4 ⟨rfl, hw4⟩)
                    all_goals first
                      | (have hp2 : (Sort.rd lt dk a' b' lim wb wp).pi.2 = false := by rw [epi]; assumption
                         go_meet
                         exact ⟨hp2, hAt3.trans hw4 (by rw [s3, s2]), Box.to ⟨v0, v1, v2⟩ hw4 hne⟩)
                      | (have hp2 : (Sort.rd lt dk a' b' lim wb wp).pi.2 = true := by rw [epi]; assumption
                         (try simp only [Exit.inBlock, Exit.then]); refine bodyPost_ret (results_none rfl _ _ _) rfl ?_
                         refine ⟨rfl, ?_⟩
                         rw [← A.out, Sort.pdq_done h12 hl0 hp2]
                         exact hAt3.trans hw4 (by rw [s3, s2]))
                case rest =>
                  obtain ⟨hp2, hAt5, hBx5⟩ := hcut
                  clear v0 v1 v2
                  have hBx5' := hid hBx5
                  obtain ⟨t0, t1, t2⟩ := hBx5
                  go_upto_region 18 with fail
                  go_cut [83] from 19 (fun s83 wx => s83 = .bool (decide (a' > 0) && !lt (Sort.rd lt dk a' b' lim wb wp).pi.1[a' - 1]! (Sort.rd lt dk a' b' lim wb wp).pi.1[(Sort.rd lt dk a' b' lim wb wp).pivot]!) ∧ To enc blk off (Sort.rd lt dk a' b' lim wb wp).pi.1 w wx ∧ Box w.heap.size (.func (.func g) #[] lb) (.func (.func sf) #[] sb) wx)
                  case first =>
                    rcases Nat.eq_zero_or_pos a' with ha0 | ha0
                    · have ha0z : decide ((a' : Int) > 0) = false := decide_eq_false (by omega)
                      go_wp2_with fail
                      go_meet
                      case rel => exact ⟨by simp [ha0], hAt5, ⟨t0, t1, t2⟩⟩
                    · have ha0z : (a' : Int) > 0 := by omega
                      cases hlv : lt (Sort.rd lt dk a' b' lim wb wp).pi.1[a' - 1]! (Sort.rd lt dk a' b' lim wb wp).pi.1[(Sort.rd lt dk a' b' lim wb wp).pivot]! <;>
                        (have hl := hL.at hAt5 (s3.trans hds) hBx5'.out (a' - 1) (Sort.rd lt dk a' b' lim wb wp).pivot ((a' : Int) - 1) (Sort.rd lt dk a' b' lim wb wp).pivot (by omega) rfl (by omega) (by omega) hlv
                         go_wp2_with (go_at_fn g; refine hl.mono ?_; rintro e w9 ⟨rfl, t9, q0, q1, q2⟩)
                         go_meet
                         exact ⟨by simp [ha0, hlv], t9, ⟨q0, q1, q2⟩⟩)
                  case rest =>
                    obtain ⟨rfl, hAt6, hBx6⟩ := hcut
                    clear t0 t1 t2
                    have hH6 := hAt6.holds hblk hH (s3.trans hds)
                    have hblk6 := hAt6.lt hblk
                    have hBx6' := hid hBx6
                    obtain ⟨q0, q1, q2⟩ := hBx6
                    cases h87 : (decide (a' > 0) && !lt (Sort.rd lt dk a' b' lim wb wp).pi.1[a' - 1]! (Sort.rd lt dk a' b' lim wb wp).pi.1[(Sort.rd lt dk a' b' lim wb wp).pivot]!)
                    · obtain ⟨mid, ap, d4, hx⟩ : ∃ mid ap d4, Sort.partition lt (Sort.rd lt dk a' b' lim wb wp).pi.1 a' b' (Sort.rd lt dk a' b' lim wb wp).pivot = (mid, ap, d4) := ⟨(Sort.partition lt (Sort.rd lt dk a' b' lim wb wp).pi.1 a' b' (Sort.rd lt dk a' b' lim wb wp).pivot).1, (Sort.partition lt (Sort.rd lt dk a' b' lim wb wp).pi.1 a' b' (Sort.rd lt dk a' b' lim wb wp).pivot).2.1, (Sort.partition lt (Sort.rd lt dk a' b' lim wb wp).pi.1 a' b' (Sort.rd lt dk a' b' lim wb wp).pivot).2.2, rfl⟩
                      obtain ⟨r1, r2, r3, r4, r5, r6, r7⟩ := Sort.round_part hO (Sort.partition_holds lt) hpv.1 hpv.2 (show b' ≤ (Sort.rd lt dk a' b' lim wb wp).pi.1.size by omega) B3 hx
                      have hc22 := partition_calls enc lt g lb sf sb blk off a' b' (Sort.rd lt dk a' b' lim wb wp).pivot (Sort.rd lt dk a' b' lim wb wp).pi.1 wc eg (LR hAt6 (s3.trans hds)) (SR (s3.trans hds)) hH6 hblk6 hpv.1 hpv.2 (by omega) (by omega)
                      rw [hx] at hc22
                      have X : Aside (Sort.partition lt (Sort.rd lt dk a' b' lim wb wp).pi.1 a' b' (Sort.rd lt dk a' b' lim wb wp).pivot = (mid, ap, d4)) := hx
                      clear hx
                      go_upto_if 109 with (go_at_call 67; refine hc22.mono ?_; rintro e w7 ⟨rfl, hw7⟩)
                      have hx := X.out
                      have hs4 : d4.size = d.size := r3.trans (s3.trans hds)
                      have hAt7 : To enc blk off d4 w w7 := hAt6.trans hw7 r3
                      have hBx7 : Box w.heap.size (.func (.func g) #[] lb) (.func (.func sf) #[] sb) w7 := hBx6'.out.to hw7 hne
                      clear q0 q1 q2
                      have hH7 := hAt7.holds hblk hH hs4
                      have hblk7 := hAt7.lt hblk
                      have hBx7' := hid hBx7
                      obtain ⟨p0, p1, p2⟩ := hBx7
                      by_cases h4 : mid - a' < b' - mid
                      · have h4z : (mid : Int) - (a' : Int) < (b' : Int) - (mid : Int) := by omega
                        have hih := ih blk off a' mid (Sort.rd lt dk a' b' lim wb wp).lim d4 w7 (by omega) (LR hAt7 hs4) (SR hs4) hH7 hblk7 (by omega) (by omega) (by omega) (Nat.lt_of_le_of_lt (Nat.le_trans Sort.rd_lim_le hlim) hlimit) r4
                        obtain ⟨pL, sL⟩ := Sort.pdq_sorts lt hO d4 a' mid (Sort.rd lt dk a' b' lim wb wp).lim true true (by omega) (by omega) r4
                        go_wp2_with (go_at_call 37; refine hih.mono ?_; rintro e w8 ⟨rfl, hw8⟩)
                        go_roundg (b' - (mid + 1))
                        case measure => omega
                        case rel =>
                          refine ⟨mid + 1, b', (Sort.rd lt dk a' b' lim wb wp).lim, decide (mid - a' ≥ (b' - a') / 8), ap, Sort.pdq lt d4 a' mid (Sort.rd lt dk a' b' lim wb wp).lim true true, by simp, rfl, rfl, ?_, rfl, by omega, by omega, Nat.le_refl _, by omega, Nat.le_trans Sort.rd_lim_le hlim, by rw [pL.1, hs4], (r6 _ pL sL).1, hAt7.trans hw8 pL.1, hBx7'.out.to hw8 hne, ?_⟩
                          · exact congrArg Value.bool (eighth (by omega) (by omega))
                          · show _ = _
                            rw [← A.out, Sort.pdq_left h12 hl0 hp2 h87 (by rw [hx]; exact ⟨r1, r2⟩) (by rw [hx]; exact h4), hx]
                      · have h4z : ¬ ((mid : Int) - (a' : Int) < (b' : Int) - (mid : Int)) := by omega
                        have hih := ih blk off (mid + 1) b' (Sort.rd lt dk a' b' lim wb wp).lim d4 w7 (by omega) (LR hAt7 hs4) (SR hs4) hH7 hblk7 (by omega) (by omega) (by omega) (Nat.lt_of_le_of_lt (Nat.le_trans Sort.rd_lim_le hlim) hlimit) r5
                        rw [show ((mid + 1 : Nat) : Int) = (mid : Int) + 1 by omega] at hih
                        obtain ⟨pL, sL⟩ := Sort.pdq_sorts lt hO d4 (mid + 1) b' (Sort.rd lt dk a' b' lim wb wp).lim true true (by omega) (by omega) r5
                        go_wp2_with (go_at_call 37; refine hih.mono ?_; rintro e w8 ⟨rfl, hw8⟩)
                        go_roundg (mid - a')
                        case measure => omega
                        case rel =>
                          refine ⟨a', mid, (Sort.rd lt dk a' b' lim wb wp).lim, decide (b' - mid ≥ (b' - a') / 8), ap, Sort.pdq lt d4 (mid + 1) b' (Sort.rd lt dk a' b' lim wb wp).lim true true, rfl, rfl, rfl, ?_, rfl, by omega, by omega, Nat.le_refl _, by omega, Nat.le_trans Sort.rd_lim_le hlim, by rw [pL.1, hs4], (r7 _ pL sL).1, hAt7.trans hw8 pL.1, hBx7'.out.to hw8 hne, ?_⟩
                          · exact congrArg Value.bool (eighth (by omega) (by omega))
                          · show _ = _
                            rw [← A.out, Sort.pdq_right h12 hl0 hp2 h87 (by rw [hx]; exact ⟨r1, r2⟩) (by rw [hx]; exact h4), hx]
                    · have h87' := h87
                      simp only [Bool.and_eq_true, decide_eq_true_eq, Bool.not_eq_true'] at h87'
                      obtain ⟨mid, d4, hx⟩ : ∃ mid d4, Sort.partitionEqual lt (Sort.rd lt dk a' b' lim wb wp).pi.1 a' b' (Sort.rd lt dk a' b' lim wb wp).pivot = (mid, d4) := ⟨(Sort.partitionEqual lt (Sort.rd lt dk a' b' lim wb wp).pi.1 a' b' (Sort.rd lt dk a' b' lim wb wp).pivot).1, (Sort.partitionEqual lt (Sort.rd lt dk a' b' lim wb wp).pi.1 a' b' (Sort.rd lt dk a' b' lim wb wp).pivot).2, rfl⟩
                      obtain ⟨r1, r2, r3, r4, _⟩ := Sort.round_eq hO (Sort.partitionEqual_holds lt) h87'.1 hpv.1 hpv.2 (show b' ≤ (Sort.rd lt dk a' b' lim wb wp).pi.1.size by omega) B3 h87'.2 hx
                      have hc21 := partitionEqual_calls enc lt g lb sf sb blk off a' b' (Sort.rd lt dk a' b' lim wb wp).pivot (Sort.rd lt dk a' b' lim wb wp).pi.1 wc eg (LR hAt6 (s3.trans hds)) (SR (s3.trans hds)) hH6 hblk6 hpv.1 hpv.2 (by omega) (by omega)
                      rw [hx] at hc21
                      have X : Aside (Sort.partitionEqual lt (Sort.rd lt dk a' b' lim wb wp).pi.1 a' b' (Sort.rd lt dk a' b' lim wb wp).pivot = (mid, d4)) := hx
                      clear hx
                      go_wp2_with (go_at_call 66; refine hc21.mono ?_; rintro e w7 ⟨rfl, hw7⟩)
                      go_roundg (b' - mid)
                      case measure => omega
                      case rel =>
                        have hx := X.out
                        exact ⟨mid, b', (Sort.rd lt dk a' b' lim wb wp).lim, wb, wp, d4, rfl, rfl, rfl, rfl, rfl, r2, hb', Nat.le_refl _, by omega, Nat.le_trans Sort.rd_lim_le hlim, by rw [r3, s3, hds], r4, hAt6.trans hw7 r3, hBx6'.out.to hw7 hne, (show _ = _ by rw [← A.out, Sort.pdq_eq h12 hl0 hp2 h87 (by rw [hx]; exact ⟨r1, r2⟩), hx])⟩
end Go.Proofs.YteplcmhmjdiimaaGreatDoor
