/-
  RowAhead: whether a row comes ahead of another one by rules.
-/
import Derived.Test.YteplcmhmjdiimaaGreatDoorcL3
import Derived.Test.YteplcmhmjdiimaaGreatDoorcG0
import Derived.Deep.RegionHeld3
namespace Go.Proofs.YteplcmhmjdiimaaGreatDoor
open Go.RowKit

/-- How two rows stand by a rule. -/
noncomputable def CRR (a b : List ByteArray) (r : Raw) : Bool × Bool :=
  BEF r.mode r.fold (rcell a (toRule r)) (rcell b (toRule r)) (numOf (rcell a (toRule r))) (numOf (rcell b (toRule r)))

noncomputable def aheadS (a b : List ByteArray) (cols : Int) (l : List Raw) : Bool := lexS ((l.filter (okRule cols)).map (CRR a b))

theorem aheadS_skip {a b : List ByteArray} {cols : Int} {r : Raw} {l : List Raw} (h : okRule cols r = false) : aheadS a b cols (r :: l) = aheadS a b cols l := by
  unfold aheadS; rw [List.filter_cons, h]; rfl
theorem aheadS_ok {a b : List ByteArray} {cols : Int} {r : Raw} {l : List Raw} (h : okRule cols r = true) :
    aheadS a b cols (r :: l) = if (CRR a b r).1 then aheadS a b cols l else (CRR a b r).2 := by
  unfold aheadS
  rw [List.filter_cons, if_pos h, List.map_cons]
  rfl

/-- What a row's cells are, for RowAhead. -/
def RowOK (x : List ByteArray) (cols : Int) (l : List Raw) : Prop := ∀ r ∈ l, okRule cols r = true → CellAt (rcell x (toRule r)) (numOf (rcell x (toRule r)))

theorem keep_drew {W w : World} {N : Nat} {p q r : Addr} {x y z : Value} (h : Hid (Below N W w)) (h1 : w.cell? p = some x) (h2 : w.cell? q = some y) (h3 : w.cell? r = some z) :
    Hid (Below N W w.drew) ∧ w.drew.cell? p = some x ∧ w.drew.cell? q = some y ∧ w.drew.cell? r = some z :=
  ⟨h.out.drew, h1, h2, h3⟩
theorem keep_below {W w w' : World} {N : Nat} {p q r : Addr} {x y z : Value} (hN : N ≤ W.heap.size) (h : Hid (Below N W w)) (hb : Below w.heap.size w w') (h1 : w.cell? p = some x) (h2 : w.cell? q = some y) (h3 : w.cell? r = some z) :
    Hid (Below N W w') ∧ w'.cell? p = some x ∧ w'.cell? q = some y ∧ w'.cell? r = some z := by
  have c : ∀ {a : Addr} {v : Value}, w.cell? a = some v → w'.cell? a = some v := fun {a v} ha => by
    rw [hb.cell (World.block_lt_of_cell? w a ha)]; exact ha
  exact ⟨h.out.trans (hb.mono (Nat.le_trans hN h.out.size)), c h1, c h2, c h3⟩

set_option maxHeartbeats 4000000 in
set_option maxRecDepth 100000 in
theorem rowAhead_calls (W : World) (va vb vl : Value) (a b : List ByteArray) (cols : Int) (l : List RawZ) (ha : TextsAt W va a) (hb : TextsAt W vb b) (hl : RulesM W vl l)
    (hlen : l.length ≤ 8) (hc0 : 0 ≤ cols) (hc20 : cols ≤ 20) (hm : ∀ r ∈ l, 0 ≤ r.mode ∧ r.mode ≤ 7) (hoa : RowOK a cols (l.map RawZ.raw)) (hob : RowOK b cols (l.map RawZ.raw)) (hg : Globs W) :
    Calls Tryz.prog 9 #[va, vb, .int .i64 cols, vl] W fun e w' => e = .returned (.bool (aheadS a b cols (l.map RawZ.raw))) ∧ Below W.heap.size W w' := by
  obtain ⟨base, c, rfl, hc, -, hcell⟩ := hl
  have HCELL := aside hcell
  have HA := aside ha
  have HBB := aside hb
  have HM := aside hm
  have HOA := aside hoa
  have HOB := aside hob
  have HG := aside hg
  clear hcell ha hb hm hoa hob hg
  go_enter Tryz.func9, Tryz.ntmps9
  go_wp2_with fail
  go_loopg [9] l.length (fun q s9 wr => ∃ k : Nat, s9 = .int .i64 k ∧ k ≤ l.length ∧ l.length ≤ q + k ∧ Hid (aheadS a b cols ((l.map RawZ.raw).drop k) = aheadS a b cols (l.map RawZ.raw)) ∧ Hid (Below W.heap.size W wr))
  case atStart => exact ⟨0, rfl, by omega, by omega, rfl, Below.refl _ _⟩
  case round =>
    obtain ⟨k, rfl, hk, hq, HS, HB⟩ := hrel
    by_cases hlt : k < l.length
    · have e1 : decide ((k : Int) < (l.length : Int)) = true := by simp; omega
      have e2 : (k : Int) < (l.length : Int) := by omega
      obtain ⟨B, o, rfl, hbl, m1, m2, m3⟩ := HCELL.out k hlt
      have r1 : wr.cell? ⟨B, o + k * 3, none⟩ = some (.int .i64 l[k].num) := by rw [HB.out.cell hbl]; exact m1
      have r2 : wr.cell? ⟨B, o + k * 3 + 1, none⟩ = some (.int .i64 l[k].mode) := by rw [HB.out.cell hbl]; exact m2
      have r3 : wr.cell? ⟨B, o + k * 3 + 2, none⟩ = some (.bool l[k].fold) := by rw [HB.out.cell hbl]; exact m3
      have hmem := List.getElem_mem hlt
      have hmk := HM.out _ hmem
      have hdrop : (l.map RawZ.raw).drop k = l[k].raw :: (l.map RawZ.raw).drop (k + 1) := by
        rw [List.drop_eq_getElem_cons (by simpa using hlt)]
        simp
      have hmemr : l[k].raw ∈ l.map RawZ.raw := List.mem_map_of_mem hmem
      obtain ⟨r, hr⟩ : ∃ r, r = l[k] := ⟨_, rfl⟩
      rw [← hr] at r1 r2 r3 hmk hdrop hmemr
      clear hr hmem m1 m2 m3
      obtain ⟨num, mode, fold⟩ := r
      obtain ⟨mN, rfl⟩ : ∃ mN : Nat, mode = (mN : Int) := ⟨mode.toNat, by have := hmk.1; simp only at this; omega⟩
      have hm7 : mN ≤ 7 := by have := hmk.2; simp only at this; omega
      have hraw : (RawZ.mk num (mN : Int) fold).raw = ⟨num, mN, fold⟩ := by unfold RawZ.raw; simp
      rw [hraw] at hdrop hmemr
      have HD := aside hdrop
      have HMR := aside hmemr
      clear hmk hraw hdrop hmemr
      simp only at r1 r2 r3
      by_cases h1 : num < 1
      · have d1 : decide (num < 1) = true := by simpa using h1
        go_wp2_with fail
        go_roundg (l.length - (k + 1))
        case measure => omega
        case rel =>
          refine ⟨k + 1, by simp, by omega, by omega, ?_, HB.out⟩
          have h5 := HS.out
          rw [HD.out, aheadS_skip (by unfold okRule; simp; omega)] at h5
          exact h5
      · have d1 : decide (num < 1) = false := by simpa using h1
        by_cases h2 : cols < num
        · have d2 : decide (num > cols) = true := by simpa using h2
          go_wp2_with fail
          go_roundg (l.length - (k + 1))
          case measure => omega
          case rel =>
            refine ⟨k + 1, by simp, by omega, by omega, ?_, HB.out⟩
            have h5 := HS.out
            rw [HD.out, aheadS_skip (by unfold okRule; simp; omega)] at h5
            exact h5
        · have d2 : decide (num > cols) = false := by simpa using h2
          obtain ⟨j, rfl⟩ : ∃ j : Nat, num = (j : Int) + 1 := ⟨(num - 1).toNat, by omega⟩
          have hok : okRule cols ⟨(j : Int) + 1, mN, fold⟩ = true := by unfold okRule; simp; omega
          have hca := HOA.out _ HMR.out hok
          have hcb := HOB.out _ HMR.out hok
          have hj : j < 1000 := by omega
          have hrc : ∀ x : List ByteArray, rcell x (toRule ⟨(j : Int) + 1, mN, fold⟩) = x.getD j ByteArray.empty := fun x => by
            unfold rcell toRule
            simp only
            rw [show ((j : Int) + 1).toNat - 1 = j by omega]
          rw [hrc] at hca hcb
          have HCA := aside hca
          have HCB := aside hcb
          have HOK := aside hok
          have HJ := aside hj
          have HM7 := aside hm7
          obtain ⟨x, hx⟩ : ∃ x, x = a.getD j ByteArray.empty := ⟨_, rfl⟩
          obtain ⟨y, hy⟩ : ∃ y, y = b.getD j ByteArray.empty := ⟨_, rfl⟩
          have hcr : CRR a b ⟨(j : Int) + 1, mN, fold⟩ = BEF mN fold x y (numOf x) (numOf y) := by
            unfold CRR
            rw [hrc, hrc, ← hx, ← hy]
          have HCR := aside hcr
          have HX := aside hx
          have HY := aside hy
          clear hca hcb hrc hx hy hcr hok
          obtain ⟨P, hP⟩ : ∃ P, P = BEF mN fold x y (numOf x) (numOf y) := ⟨_, rfl⟩
          have HPP := aside hP
          clear hP
          have c13a : ∀ w, (Hid (Below W.heap.size W w) ∧ w.cell? ⟨B, o + k * 3, none⟩ = some (.int .i64 ((j : Int) + 1)) ∧ w.cell? ⟨B, o + k * 3 + 1, none⟩ = some (.int .i64 (mN : Int)) ∧ w.cell? ⟨B, o + k * 3 + 2, none⟩ = some (.bool fold)) → Calls Tryz.prog 13 #[va, .int .i64 ((j : Int) + 1)] w fun e w' => e = .returned (.string x) ∧ (Hid (Below W.heap.size W w') ∧ w'.cell? ⟨B, o + k * 3, none⟩ = some (.int .i64 ((j : Int) + 1)) ∧ w'.cell? ⟨B, o + k * 3 + 1, none⟩ = some (.int .i64 (mN : Int)) ∧ w'.cell? ⟨B, o + k * 3 + 2, none⟩ = some (.bool fold)) := fun w hS => by
            rw [HX.out]
            refine (cellOf_calls w va a (HA.out.below hS.1.out (Nat.le_refl _)) j HJ.out).mono ?_
            rintro e w' ⟨rfl, rfl⟩
            exact ⟨rfl, hS⟩
          have c13b : ∀ w, (Hid (Below W.heap.size W w) ∧ w.cell? ⟨B, o + k * 3, none⟩ = some (.int .i64 ((j : Int) + 1)) ∧ w.cell? ⟨B, o + k * 3 + 1, none⟩ = some (.int .i64 (mN : Int)) ∧ w.cell? ⟨B, o + k * 3 + 2, none⟩ = some (.bool fold)) → Calls Tryz.prog 13 #[vb, .int .i64 ((j : Int) + 1)] w fun e w' => e = .returned (.string y) ∧ (Hid (Below W.heap.size W w') ∧ w'.cell? ⟨B, o + k * 3, none⟩ = some (.int .i64 ((j : Int) + 1)) ∧ w'.cell? ⟨B, o + k * 3 + 1, none⟩ = some (.int .i64 (mN : Int)) ∧ w'.cell? ⟨B, o + k * 3 + 2, none⟩ = some (.bool fold)) := fun w hS => by
            rw [HY.out]
            refine (cellOf_calls w vb b (HBB.out.below hS.1.out (Nat.le_refl _)) j HJ.out).mono ?_
            rintro e w' ⟨rfl, rfl⟩
            exact ⟨rfl, hS⟩
          have c20 : ∀ w, (Hid (Below W.heap.size W w) ∧ w.cell? ⟨B, o + k * 3, none⟩ = some (.int .i64 ((j : Int) + 1)) ∧ w.cell? ⟨B, o + k * 3 + 1, none⟩ = some (.int .i64 (mN : Int)) ∧ w.cell? ⟨B, o + k * 3 + 2, none⟩ = some (.bool fold)) → Calls Tryz.prog 20 #[.string x, .string y, .int .i64 (mN : Int), .bool fold] w fun e w' => e = .returned (.tuple #[.bool P.1, .bool P.2]) ∧ (Hid (Below W.heap.size W w') ∧ w'.cell? ⟨B, o + k * 3, none⟩ = some (.int .i64 ((j : Int) + 1)) ∧ w'.cell? ⟨B, o + k * 3 + 1, none⟩ = some (.int .i64 (mN : Int)) ∧ w'.cell? ⟨B, o + k * 3 + 2, none⟩ = some (.bool fold)) := fun w hS => by
            rw [HPP.out, HX.out, HY.out]
            refine (before_calls w _ _ _ _ HCA.out HCB.out (HG.out.below hS.1.out HG.out.size) mN HM7.out fold).mono ?_
            rintro e w' ⟨rfl, hB⟩
            exact ⟨rfl, keep_below (Nat.le_refl _) hS.1 hB hS.2.1 hS.2.2.1 hS.2.2.2⟩
          have kd : ∀ w, (Hid (Below W.heap.size W w) ∧ w.cell? ⟨B, o + k * 3, none⟩ = some (.int .i64 ((j : Int) + 1)) ∧ w.cell? ⟨B, o + k * 3 + 1, none⟩ = some (.int .i64 (mN : Int)) ∧ w.cell? ⟨B, o + k * 3 + 2, none⟩ = some (.bool fold)) → (Hid (Below W.heap.size W w.drew) ∧ w.drew.cell? ⟨B, o + k * 3, none⟩ = some (.int .i64 ((j : Int) + 1)) ∧ w.drew.cell? ⟨B, o + k * 3 + 1, none⟩ = some (.int .i64 (mN : Int)) ∧ w.drew.cell? ⟨B, o + k * 3 + 2, none⟩ = some (.bool fold)) := fun w hS => keep_drew hS.1 hS.2.1 hS.2.2.1 hS.2.2.2
          have hS0 : (Hid (Below W.heap.size W wr) ∧ wr.cell? ⟨B, o + k * 3, none⟩ = some (.int .i64 ((j : Int) + 1)) ∧ wr.cell? ⟨B, o + k * 3 + 1, none⟩ = some (.int .i64 (mN : Int)) ∧ wr.cell? ⟨B, o + k * 3 + 2, none⟩ = some (.bool fold)) := ⟨HB, r1, r2, r3⟩
          obtain ⟨p1, hp1⟩ : ∃ p1, p1 = P.1 := ⟨_, rfl⟩
          obtain ⟨p2, hp2⟩ : ∃ p2, p2 = P.2 := ⟨_, rfl⟩
          rw [← hp1, ← hp2] at c20
          have hstep := aheadS_ok (a := a) (b := b) (l := (l.map RawZ.raw).drop (k + 1)) HOK.out
          rw [HCR.out, ← HPP.out, ← hp1, ← hp2, ← HD.out, HS.out] at hstep
          have HSTEP := aside hstep
          have kb : ∀ w, (Hid (Below W.heap.size W w) ∧ w.cell? ⟨B, o + k * 3, none⟩ = some (.int .i64 ((j : Int) + 1)) ∧ w.cell? ⟨B, o + k * 3 + 1, none⟩ = some (.int .i64 (mN : Int)) ∧ w.cell? ⟨B, o + k * 3 + 2, none⟩ = some (.bool fold)) → Hid (Below W.heap.size W w) := fun w hS => hS.1
          have KB := aside kb
          have C13A := aside c13a
          have C13B := aside c13b
          have C20 := aside c20
          have KD := aside kd
          clear c13a c13b c20 kd hp1 hp2 hstep kb
          go_upto_region 5 with fail
          go_region_held3 (fun w' => Hid (Below W.heap.size W w') ∧ w'.cell? ⟨B, o + k * 3, none⟩ = some (.int .i64 ((j : Int) + 1)) ∧ w'.cell? ⟨B, o + k * 3 + 1, none⟩ = some (.int .i64 (mN : Int)) ∧ w'.cell? ⟨B, o + k * 3 + 2, none⟩ = some (.bool fold))
            (first
              | assumption
              | exact KD.out _ (by assumption))
            (first
              | (go_at_call_of 13 va; refine (C13A.out _ (by assumption)).mono ?_; rintro e w' ⟨rfl, hS⟩)
              | (go_at_call_of 13 vb; refine (C13B.out _ (by assumption)).mono ?_; rintro e w' ⟨rfl, hS⟩)
              | (go_at_call 20; refine (C20.out _ (by assumption)).mono ?_; rintro e w' ⟨rfl, hS⟩))
          cases p1 with
          | true =>
            go_wp2_with fail
            go_roundg (l.length - (k + 1))
            case measure => omega
            case rel =>
              refine ⟨k + 1, by simp, by omega, by omega, ?_, KB.out _ (by assumption)⟩
              have h5 := HSTEP.out
              simp only [if_true] at h5
              exact h5.symm
          | false =>
            go_wp2_with fail
            go_ret
            refine ⟨?_, (KB.out _ (by assumption)).out⟩
            have h5 := HSTEP.out
            simp only [Bool.false_eq_true, if_false] at h5
            rw [h5]
            rfl
    · have e1 : decide ((k : Int) < (l.length : Int)) = false := by simp; omega
      go_wp2_with fail
      go_ret
      refine ⟨?_, HB.out⟩
      have h5 := HS.out
      rw [List.drop_of_length_le (by simp; omega)] at h5
      rw [← h5]
      rfl
end Go.Proofs.YteplcmhmjdiimaaGreatDoor
