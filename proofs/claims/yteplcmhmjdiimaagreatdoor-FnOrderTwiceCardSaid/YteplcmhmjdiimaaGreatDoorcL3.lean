/-
  What Ordered asks of a cell makes it a word or a number.
  Ordered: each rule is of a mode that is one, and what it compares is of a kind that is spoken of.
-/
import Derived.Test.YteplcmhmjdiimaaGreatDoorcL1
import Derived.Test.YteplcmhmjdiimaaGreatDoorcL5
namespace Go.Proofs.YteplcmhmjdiimaaGreatDoor
open Go.RowKit



def CellOK (s : ByteArray) (two : Bool) : Prop :=
  single s = true ∧ ((worded s = true ∧ two = false ∧ namedS s = false) ∨ (worded s = false ∧ wholeS s = true) ∨ (worded s = false ∧ s = ByteArray.empty ∧ two = false))

def digitsOf (t : ByteArray) : List Nat := (List.range t.size).map fun i => bt t i - 48
theorem digs_of {t : ByteArray} (h : digitsS t = true) : Digs t (digitsOf t) ∧ 1 ≤ (digitsOf t).length ∧ (digitsOf t).length ≤ 15 := by
  simp only [digitsS, decide_eq_true_eq] at h
  obtain ⟨h1, h2, h3⟩ := h
  have hlen : (digitsOf t).length = t.size := by unfold digitsOf; simp
  refine ⟨⟨hlen.symm, fun d hd => ?_, fun i hi => ?_⟩, by rw [hlen]; exact h2, by rw [hlen]; exact h3⟩
  · unfold digitsOf at hd
    obtain ⟨i, hi, rfl⟩ := List.mem_map.1 hd
    have := h1 i (List.mem_range.1 hi)
    omega
  · have := h1 i hi
    unfold digitsOf
    rw [List.getD_eq_getElem?_getD, List.getElem?_map, List.getElem?_range hi]
    simp only [Option.map_some, Option.getD_some]
    omega

theorem single_asc {s : ByteArray} (hs : s.size < 2147483648) (h : single s = true) : Asc s := by
  simp only [single, decide_eq_true_eq] at h
  exact ⟨hs, fun i hi => by have := h i hi; omega⟩

theorem cell_of_ok {s : ByteArray} (hs : s.size < 2147483648) {two : Bool} (h : CellOK s two) : ∃ o, CellAt s o ∧ (two = true → o ≠ none) := by
  obtain ⟨h1, h2 | h2 | h2⟩ := h
  · obtain ⟨hw, h3, h4⟩ := h2
    simp only [worded, decide_eq_true_eq] at hw
    simp only [namedS, Bool.or_eq_false_iff] at h4
    refine ⟨none, .word ⟨hs, fun h0 => hw.2 0 (by omega), h4.2, h4.1.1, h4.1.2⟩ (single_asc hs h1), fun h5 => ?_⟩
    rw [h3] at h5; cases h5
  · obtain ⟨-, hw⟩ := h2
    unfold wholeS at hw
    obtain ⟨hd, h3, h4⟩ := digs_of hw
    refine ⟨_, .num (decide (1 ≤ s.size ∧ bt s 0 = 45)) (digitsOf (tailS s)) ⟨h3, h4, fun hn => ?_, fun hn => ?_⟩, fun _ => by simp⟩
    · have hn' : ¬(1 ≤ s.size ∧ bt s 0 = 45) := of_decide_eq_false hn
      have e : tailS s = s := by unfold tailS; rw [if_neg hn']
      rw [e] at hd ⊢
      exact hd
    · have hn' : 1 ≤ s.size ∧ bt s 0 = 45 := of_decide_eq_true hn
      have e : tailS s = s.extract 1 s.size := by unfold tailS; rw [if_pos hn']
      rw [e] at hd ⊢
      exact ⟨hn'.1, hn'.2, hd⟩
  · obtain ⟨-, rfl, h3⟩ := h2
    refine ⟨none, .word ⟨by decide, fun h0 => absurd h0 (by decide), by decide, by decide, by decide⟩ ⟨by decide, fun i hi => absurd hi (by simp)⟩, fun h5 => ?_⟩
    rw [h3] at h5; cases h5

/-- What Ordered finds where it says true. -/
def OrdZ (rows : List (List ByteArray)) (cols : Int) (l : List RawZ) : Prop :=
  ∀ r ∈ l, 0 ≤ r.mode ∧ r.mode ≤ 7 ∧ (okRule cols r.raw = true → ∀ k, k < rows.length → CellOK ((rows.getD k []).getD (r.num.toNat - 1) ByteArray.empty) (decide (r.mode.tmod 4 = 2)))

theorem OrdZ.ordP {rows : List (List ByteArray)} {cols : Int} {l : List RawZ} (h : OrdZ rows cols l) (hf : ∀ k, k < rows.length → Fits (rows.getD k [])) : OrdP rows cols (l.map RawZ.raw) := by
  intro r hr
  obtain ⟨z, hz, rfl⟩ := List.mem_map.1 hr
  obtain ⟨h1, h2, h3⟩ := h z hz
  refine ⟨by show z.mode.toNat ≤ 7; omega, fun hok x hx => ?_⟩
  obtain ⟨k, hk, rfl⟩ := List.getElem_of_mem hx
  have hc := h3 hok k hk
  have hg : rows.getD k [] = rows[k] := by rw [List.getD_eq_getElem?_getD, List.getElem?_eq_getElem hk]; rfl
  have hft := hf k hk
  rw [hg] at hc hft
  have hsz : (rows[k].getD (z.num.toNat - 1) ByteArray.empty).size < 2147483648 := by
    by_cases hj : z.num.toNat - 1 < rows[k].length
    · exact hft.2 _ hj
    · rw [List.getD_eq_getElem?_getD, List.getElem?_eq_none (by omega)]
      exact (by decide : (0 : Nat) < 2147483648)
  obtain ⟨o, ho, hm⟩ := cell_of_ok hsz hc
  refine ⟨o, ho, fun h26 => hm ?_⟩
  simp only [decide_eq_true_eq]
  have e : z.mode = (z.mode.toNat : Int) := by omega
  rw [e]
  have h26' : z.mode.toNat = 2 ∨ z.mode.toNat = 6 := h26
  rcases h26' with e2 | e2 <;> rw [e2] <;> rfl
end Go.Proofs.YteplcmhmjdiimaaGreatDoor
namespace Go.Proofs.YteplcmhmjdiimaaGreatDoor
open Go.RowKit

def RuleOK (rows : List (List ByteArray)) (cols : Int) (r : RawZ) : Prop :=
  0 ≤ r.mode ∧ r.mode ≤ 7 ∧ (okRule cols r.raw = true → ∀ k, k < rows.length → CellOK ((rows.getD k []).getD (r.num.toNat - 1) ByteArray.empty) (decide (r.mode.tmod 4 = 2)))

/-- What the walk of one cell finds. -/
def cellB (s : ByteArray) (two : Bool) : Bool :=
  single s && ((worded s && !two && !namedS s) || (!worded s && (wholeS s || (decide (s.size = 0) && !two))))
theorem cellB_ok {s : ByteArray} {two : Bool} (h : cellB s two = true) : CellOK s two := by
  unfold cellB at h
  simp only [Bool.and_eq_true, Bool.or_eq_true, Bool.not_eq_true', decide_eq_true_eq] at h
  obtain ⟨h1, h2 | h2⟩ := h
  · exact ⟨h1, .inl ⟨h2.1.1, h2.1.2, h2.2⟩⟩
  · obtain ⟨h2, h3 | h3⟩ := h2
    · exact ⟨h1, .inr (.inl ⟨h2, h3⟩)⟩
    · refine ⟨h1, .inr (.inr ⟨h2, ?_, h3.2⟩)⟩
      apply ByteArray.ext
      exact Array.eq_empty_of_size_eq_zero h3.1

def OrdPost (W : World) (rows : List (List ByteArray)) (cols : Int) (l : List RawZ) (e : Ending) (w' : World) : Prop :=
  ∃ b, e = .returned (.bool b) ∧ (b = true → ∀ j, (h : j < l.length) → RuleOK rows cols l[j]) ∧ Below W.heap.size W w'

theorem mode_rem (mode : Int) (h0 : 0 ≤ mode) (h7 : mode ≤ 7) : IntKind.i64.wrap (mode.tmod 4) = mode.tmod 4 := by
  rcases (by omega : mode = 0 ∨ mode = 1 ∨ mode = 2 ∨ mode = 3 ∨ mode = 4 ∨ mode = 5 ∨ mode = 6 ∨ mode = 7) with rfl | rfl | rfl | rfl | rfl | rfl | rfl | rfl <;> decide

set_option maxHeartbeats 8000000 in
set_option maxRecDepth 100000 in
theorem ordered_calls (W : World) (vr vl : Value) (rows : List (List ByteArray)) (cols : Int) (l : List RawZ) (hr : RowsM W vr rows) (hl : RulesM W vl l) (hn : rows.length ≤ 60) (hlen : l.length ≤ 8)
    (hc0 : 0 ≤ cols) (hc20 : cols ≤ 20) (hf : ∀ k, k < rows.length → Fits (rows.getD k [])) :
    Calls Tryz.prog 6 #[vr, .int .i64 cols, vl] W (OrdPost W rows cols l) := by
  obtain ⟨base, c, rfl, hc, -, hcell⟩ := hl
  obtain ⟨rbase, rc, rfl, hrc, -, hrcell⟩ := hr
  have HCELL := aside hcell
  have HRC := aside hrcell
  have HF := aside hf
  clear hcell hrcell hf
  go_enter Tryz.func6, Tryz.ntmps6
  go_wp2_with fail
  go_loopg [7] l.length (fun q s7 wr => ∃ i : Nat, s7 = .int .i64 i ∧ i ≤ l.length ∧ l.length ≤ q + i ∧ Hid (∀ j, (h : j < l.length) → j < i → RuleOK rows cols l[j]) ∧ Hid (Below W.heap.size W wr))
  case atStart => exact ⟨0, rfl, by omega, by omega, fun j _ h => absurd h (by omega), Below.refl _ _⟩
  case round =>
    obtain ⟨i, rfl, hi, hq, HOK, HB⟩ := hrel
    by_cases hlt : i < l.length
    · have e1 : decide ((i : Int) < (l.length : Int)) = true := by simp; omega
      have e2 : (i : Int) < (l.length : Int) := by omega
      obtain ⟨B, o, rfl, hbl, m1, m2, m3⟩ := HCELL.out i hlt
      obtain ⟨r, hr⟩ : ∃ r, r = l[i] := ⟨_, rfl⟩
      have r1 : wr.cell? ⟨B, o + i * 3, none⟩ = some (.int .i64 r.num) := by rw [HB.out.cell hbl, hr]; exact m1
      have r2 : wr.cell? ⟨B, o + i * 3 + 1, none⟩ = some (.int .i64 r.mode) := by rw [HB.out.cell hbl, hr]; exact m2
      have r3 : wr.cell? ⟨B, o + i * 3 + 2, none⟩ = some (.bool r.fold) := by rw [HB.out.cell hbl, hr]; exact m3
      clear m1 m2 m3
      have next : RuleOK rows cols r → ∀ j, (h : j < l.length) → j < i + 1 → RuleOK rows cols l[j] := fun h j hj hji => by
        by_cases e : j = i
        · subst e; rw [← hr]; exact h
        · exact HOK.out j hj (by omega)
      have NEXT := aside next
      clear next hr
      obtain ⟨num, mode, fold⟩ := r
      simp only at r1 r2 r3
      go_upto_region 5 with fail
      obtain ⟨wa, hwa⟩ : ∃ wa, wa = wr.alloc (Obj.cells #[.int .i64 num, .int .i64 mode, .bool fold] 32) := ⟨_, rfl⟩
      rw [← hwa]
      obtain ⟨F, hF⟩ : ∃ F, F = wr.heap.size := ⟨_, rfl⟩
      have a1 : wa.cell? ⟨F, 0, none⟩ = some (.int .i64 num) := by rw [hwa, hF]; simp
      have a2 : wa.cell? ⟨F, 1, none⟩ = some (.int .i64 mode) := by rw [hwa, hF]; simp
      have hBa : Below W.heap.size W wa := by rw [hwa]; exact HB.out.alloc HB.out.size _
      have hFa : F < wa.heap.size := by rw [hwa, hF]; simp
      rw [← hF]
      have HBA := aside hBa
      have HFA := aside hFa
      clear hwa hF hBa hFa r1 r2 r3
      by_cases g1 : mode < 0
      · have d1 : decide (mode < 0) = true := by simpa using g1
        go_wp2_with fail
        go_ret
        exact ⟨false, rfl, (fun h => by cases h), HBA.out⟩
      · have d1 : decide (mode < 0) = false := by simpa using g1
        by_cases g2 : 7 < mode
        · have d2 : decide (mode > 7) = true := by simpa using g2
          go_wp2_with fail
          go_ret
          exact ⟨false, rfl, (fun h => by cases h), HBA.out⟩
        · have d2 : decide (mode > 7) = false := by simpa using g2
          by_cases g3 : num < 1
          · have d3 : decide (num < 1) = true := by simpa using g3
            go_wp2_with fail
            go_roundg (l.length - (i + 1))
            case measure => omega
            case rel =>
              refine ⟨i + 1, by simp, by omega, by omega, NEXT.out ⟨by show 0 ≤ mode; omega, by show mode ≤ 7; omega, fun h => ?_⟩, HBA.out⟩
              unfold okRule RawZ.raw at h; simp at h; omega
          · have d3 : decide (num < 1) = false := by simpa using g3
            by_cases g4 : cols < num
            · have d4 : decide (num > cols) = true := by simpa using g4
              go_wp2_with fail
              go_roundg (l.length - (i + 1))
              case measure => omega
              case rel =>
                refine ⟨i + 1, by simp, by omega, by omega, NEXT.out ⟨by show 0 ≤ mode; omega, by show mode ≤ 7; omega, fun h => ?_⟩, HBA.out⟩
                unfold okRule RawZ.raw at h; simp at h; omega
            · have d4 : decide (num > cols) = false := by simpa using g4
              obtain ⟨p, rfl⟩ : ∃ p : Nat, num = (p : Int) + 1 := ⟨(num - 1).toNat, by omega⟩
              obtain ⟨two, htwo⟩ : ∃ two, two = decide (mode.tmod 4 = 2) := ⟨_, rfl⟩
              have t1 : (mode.tmod 4 == 2) = two := by rw [htwo]; rfl
              have t2 : IntKind.i64.wrap (mode.tmod 4) = mode.tmod 4 := mode_rem mode (by omega) (by omega)
              have HTWO := aside htwo
              clear htwo
              go_wp2_with fail
              go_loopg [9] rows.length (fun q2 s9 wr => ∃ k : Nat, s9 = .int .i64 k ∧ k ≤ rows.length ∧ rows.length ≤ q2 + k ∧ Hid (∀ j, j < k → CellOK ((rows.getD j []).getD p ByteArray.empty) two) ∧ Hid (Below wa.heap.size wa wr))
              case atStart => exact ⟨0, rfl, by omega, by omega, fun j h => absurd h (by omega), Below.refl _ _⟩
              case round =>
                obtain ⟨k, rfl, hk, hq2, HC, HB2⟩ := hrel
                by_cases hlt2 : k < rows.length
                · have f1 : decide ((k : Int) < (rows.length : Int)) = true := by simp; omega
                  have f2 : (k : Int) < (rows.length : Int) := by omega
                  obtain ⟨RB, ro, u, rfl, hrb, q1, q2⟩ := HRC.out k hlt2
                  have x1 : wr.cell? ⟨F, 0, none⟩ = some (.int .i64 ((p : Int) + 1)) := by rw [HB2.out.cell HFA.out]; exact a1
                  have x2 : wr.cell? ⟨F, 1, none⟩ = some (.int .i64 mode) := by rw [HB2.out.cell HFA.out]; exact a2
                  have hB2 : Below W.heap.size W wr := HBA.out.trans (HB2.out.mono HBA.out.size)
                  have x3 : wr.cell? ⟨RB, ro + k, none⟩ = some u := by rw [hB2.cell hrb]; exact q1
                  have ht : TextsAt wr u (rows.getD k []) := q2.below hB2 (Nat.le_refl _)
                  have hp : p < 1000 := by omega
                  have hsz : ((rows.getD k []).getD p ByteArray.empty).size < 2147483648 := by
                    by_cases hj : p < (rows.getD k []).length
                    · exact (HF.out k hlt2).2 p hj
                    · rw [List.getD_eq_getElem?_getD, List.getElem?_eq_none (by omega)]
                      exact (by decide : (0 : Nat) < 2147483648)
                  have c13 : ∀ n, Calls Tryz.prog 13 #[u, .int .i64 ((p : Int) + 1)] (wr.drewN n) fun e w' => e = .returned (.string ((rows.getD k []).getD p ByteArray.empty)) ∧ w' = wr.drewN n := fun n =>
                    cellOf_calls _ u _ (ht.below (⟨rfl, rfl, rfl, Nat.le_refl _, fun _ _ => rfl⟩ : Below wr.heap.size wr (wr.drewN n)) (Nat.le_refl _)) p hp
                  have next2 : CellOK ((rows.getD k []).getD p ByteArray.empty) two → ∀ j, j < k + 1 → CellOK ((rows.getD j []).getD p ByteArray.empty) two := fun h j hj => by
                    by_cases e : j = k
                    · subst e; exact h
                    · exact HC.out j (by omega)
                  obtain ⟨s, hs⟩ : ∃ s, s = (rows.getD k []).getD p ByteArray.empty := ⟨_, rfl⟩
                  rw [← hs] at hsz c13 next2
                  have HSZ := aside hsz
                  have C13 := aside c13
                  have NEXT2 := aside next2
                  clear q1 q2 hB2 ht hp hsz c13 next2 hs
                  go_upto_region 11 with fail
                  go_quiet ((go_at_call 13; exact Calls.quiet_of_same (C13.out _)))
                  obtain ⟨w3, hw3⟩ : ∃ w3, w3 = wr.drewN nq := ⟨_, rfl⟩
                  rw [← hw3]
                  have y1 : w3.cell? ⟨F, 0, none⟩ = some (.int .i64 ((p : Int) + 1)) := by rw [hw3]; exact x1
                  have y2 : w3.cell? ⟨F, 1, none⟩ = some (.int .i64 mode) := by rw [hw3]; exact x2
                  have hB3 : Below wa.heap.size wa w3 := by rw [hw3]; exact ⟨HB2.out.os, HB2.out.tape, HB2.out.output, HB2.out.size, HB2.out.block⟩
                  have hBW : Below W.heap.size W w3 := HBA.out.trans (hB3.mono HBA.out.size)
                  have HB3 := aside hB3
                  have HBW := aside hBW
                  have c14 := fun w => single_calls w s HSZ.out
                  have c15 := fun w => worded_calls w s HSZ.out
                  have c16 := fun w => wholeS_calls w s HSZ.out
                  have c17 := fun w => named_calls w s HSZ.out
                  clear x1 x2 x3 hw3 hB3 hBW
                  cases h1 : single s with
                  | false =>
                    rw [h1] at c14
                    have C14 := aside c14
                    clear c14 c15 c16 c17 h1
                    go_wp2_with (go_at_call 14; refine (C14.out _).mono ?_; rintro e w4 ⟨rfl, hw4⟩; rw [hw4]; clear hw4 w4; refine Hid.out ?_)
                    refine Lib.hid ?_
                    go_wp2_with fail
                    go_ret
                    exact ⟨false, rfl, (fun h => by cases h), HBW.out⟩
                  | true =>
                    rw [h1] at c14
                    have C14 := aside c14
                    clear c14
                    cases h2 : worded s with
                    | true =>
                      rw [h2] at c15
                      have C15 := aside c15
                      clear c15 c16
                      cases h3 : two with
                      | true =>
                        have t1' : (mode.tmod 4 == 2) = true := by rw [t1, h3]
                        have t3' : (mode % 4 == 2) = true := by rw [← IntWalk.rem_in mode 4 (by omega)]; exact t1'
                        have T1 := aside t1
                        clear c17 t1 h1 h2 h3
                        go_wp2_with (go_at_call 14; refine (C14.out _).mono ?_; rintro e w4 ⟨rfl, hw4⟩; rw [hw4]; clear hw4 w4; refine Hid.out ?_)
                        refine Lib.hid ?_
                        go_wp2_with (go_at_call 15; refine (C15.out _).mono ?_; rintro e w4 ⟨rfl, hw4⟩; rw [hw4]; clear hw4 w4; refine Hid.out ?_)
                        refine Lib.hid ?_
                        go_wp2_with (go_at_call 15; refine (C15.out _).mono ?_; rintro e w4 ⟨rfl, hw4⟩; rw [hw4]; clear hw4 w4; refine Hid.out ?_)
                        refine Lib.hid ?_
                        go_wp2_with fail
                        go_ret
                        exact ⟨false, rfl, (fun h => by cases h), HBW.out⟩
                      | false =>
                        have t1' : (mode.tmod 4 == 2) = false := by rw [t1, h3]
                        have t3' : (mode % 4 == 2) = false := by rw [← IntWalk.rem_in mode 4 (by omega)]; exact t1'
                        cases h4 : namedS s with
                        | true =>
                          rw [h4] at c17
                          have C17 := aside c17
                          clear c17 t1 h1 h2 h3 h4
                          go_wp2_with (go_at_call 14; refine (C14.out _).mono ?_; rintro e w4 ⟨rfl, hw4⟩; rw [hw4]; clear hw4 w4; refine Hid.out ?_)
                          refine Lib.hid ?_
                          go_wp2_with (go_at_call 15; refine (C15.out _).mono ?_; rintro e w4 ⟨rfl, hw4⟩; rw [hw4]; clear hw4 w4; refine Hid.out ?_)
                          refine Lib.hid ?_
                          go_wp2_with (go_at_call 15; refine (C15.out _).mono ?_; rintro e w4 ⟨rfl, hw4⟩; rw [hw4]; clear hw4 w4; refine Hid.out ?_)
                          refine Lib.hid ?_
                          go_wp2_with (go_at_call 17; refine (C17.out _).mono ?_; rintro e w4 ⟨rfl, hB4⟩; refine Hid.out ?_)
                          refine Lib.hid ?_
                          have hBW4 : Below W.heap.size W w4 := HBW.out.trans (hB4.mono HBW.out.size)
                          have HBW := aside hBW4
                          clear hB4 hBW4
                          go_wp2_with fail
                          go_ret
                          exact ⟨false, rfl, (fun h => by cases h), HBW.out⟩
                        | false =>
                          rw [h4] at c17
                          have C17 := aside c17
                          have HH := aside (And.intro h1 (And.intro h2 (And.intro h3 h4)))
                          clear c17 t1 h1 h2 h3 h4
                          go_wp2_with (go_at_call 14; refine (C14.out _).mono ?_; rintro e w4 ⟨rfl, hw4⟩; rw [hw4]; clear hw4 w4; refine Hid.out ?_)
                          refine Lib.hid ?_
                          go_wp2_with (go_at_call 15; refine (C15.out _).mono ?_; rintro e w4 ⟨rfl, hw4⟩; rw [hw4]; clear hw4 w4; refine Hid.out ?_)
                          refine Lib.hid ?_
                          go_wp2_with (go_at_call 15; refine (C15.out _).mono ?_; rintro e w4 ⟨rfl, hw4⟩; rw [hw4]; clear hw4 w4; refine Hid.out ?_)
                          refine Lib.hid ?_
                          go_wp2_with (go_at_call 17; refine (C17.out _).mono ?_; rintro e w4 ⟨rfl, hB4⟩; refine Hid.out ?_)
                          refine Lib.hid ?_
                          have hB34 : Below wa.heap.size wa w4 := HB3.out.trans (hB4.mono HB3.out.size)
                          have HB34 := aside hB34
                          clear hB4 hB34
                          go_wp2_with fail
                          go_roundg (rows.length - (k + 1))
                          case measure => omega
                          case rel => exact ⟨k + 1, by simp, by omega, by omega, NEXT2.out (cellB_ok (by unfold cellB; simp [HH.out])), HB34.out⟩
                    | false =>
                      rw [h2] at c15
                      have C15 := aside c15
                      clear c15 c17
                      cases h3 : wholeS s with
                      | true =>
                        rw [h3] at c16
                        have C16 := aside c16
                        have HH := aside (And.intro h1 (And.intro h2 h3))
                        clear c16 t1 h1 h2 h3
                        go_wp2_with (go_at_call 14; refine (C14.out _).mono ?_; rintro e w4 ⟨rfl, hw4⟩; rw [hw4]; clear hw4 w4; refine Hid.out ?_)
                        refine Lib.hid ?_
                        go_wp2_with (go_at_call 15; refine (C15.out _).mono ?_; rintro e w4 ⟨rfl, hw4⟩; rw [hw4]; clear hw4 w4; refine Hid.out ?_)
                        refine Lib.hid ?_
                        go_wp2_with (go_at_call 16; refine (C16.out _).mono ?_; rintro e w4 ⟨rfl, hw4⟩; rw [hw4]; clear hw4 w4; refine Hid.out ?_)
                        refine Lib.hid ?_
                        go_wp2_with (go_at_call 15; refine (C15.out _).mono ?_; rintro e w4 ⟨rfl, hw4⟩; rw [hw4]; clear hw4 w4; refine Hid.out ?_)
                        refine Lib.hid ?_
                        go_wp2_with fail
                        go_roundg (rows.length - (k + 1))
                        case measure => omega
                        case rel => exact ⟨k + 1, by simp, by omega, by omega, NEXT2.out (cellB_ok (by unfold cellB; simp [HH.out])), HB3.out⟩
                      | false =>
                        rw [h3] at c16
                        have C16 := aside c16
                        clear c16
                        by_cases h4 : s.size = 0
                        · obtain rfl : s = ⟨#[]⟩ := by apply ByteArray.ext; exact Array.eq_empty_of_size_eq_zero h4
                          cases h5 : two with
                          | true =>
                            have t1' : (mode.tmod 4 == 2) = true := by rw [t1, h5]
                            have t3' : (mode % 4 == 2) = true := by rw [← IntWalk.rem_in mode 4 (by omega)]; exact t1'
                            have z1 : (⟨#[]⟩ : ByteArray).toList.isEmpty = true := by rw [isEmpty_size]; rfl
                            clear t1 h1 h2 h3 h4 h5
                            go_wp2_with (go_at_call 14; refine (C14.out _).mono ?_; rintro e w4 ⟨rfl, hw4⟩; rw [hw4]; clear hw4 w4; refine Hid.out ?_)
                            refine Lib.hid ?_
                            go_wp2_with (go_at_call 15; refine (C15.out _).mono ?_; rintro e w4 ⟨rfl, hw4⟩; rw [hw4]; clear hw4 w4; refine Hid.out ?_)
                            refine Lib.hid ?_
                            go_wp2_with (go_at_call 16; refine (C16.out _).mono ?_; rintro e w4 ⟨rfl, hw4⟩; rw [hw4]; clear hw4 w4; refine Hid.out ?_)
                            refine Lib.hid ?_
                            go_wp2_with fail
                            go_ret
                            exact ⟨false, rfl, (fun h => by cases h), HBW.out⟩
                          | false =>
                            have t1' : (mode.tmod 4 == 2) = false := by rw [t1, h5]
                            have t3' : (mode % 4 == 2) = false := by rw [← IntWalk.rem_in mode 4 (by omega)]; exact t1'
                            have HH := aside (And.intro h1 (And.intro h2 (And.intro h3 (And.intro h4 h5))))
                            clear t1 h1 h2 h3 h4 h5
                            go_wp2_with (go_at_call 14; refine (C14.out _).mono ?_; rintro e w4 ⟨rfl, hw4⟩; rw [hw4]; clear hw4 w4; refine Hid.out ?_)
                            refine Lib.hid ?_
                            go_wp2_with (go_at_call 15; refine (C15.out _).mono ?_; rintro e w4 ⟨rfl, hw4⟩; rw [hw4]; clear hw4 w4; refine Hid.out ?_)
                            refine Lib.hid ?_
                            go_wp2_with (go_at_call 16; refine (C16.out _).mono ?_; rintro e w4 ⟨rfl, hw4⟩; rw [hw4]; clear hw4 w4; refine Hid.out ?_)
                            refine Lib.hid ?_
                            go_wp2_with (go_at_call 15; refine (C15.out _).mono ?_; rintro e w4 ⟨rfl, hw4⟩; rw [hw4]; clear hw4 w4; refine Hid.out ?_)
                            refine Lib.hid ?_
                            go_wp2_with fail
                            go_roundg (rows.length - (k + 1))
                            case measure => omega
                            case rel => exact ⟨k + 1, by simp, by omega, by omega, NEXT2.out (cellB_ok (by unfold cellB; simp [HH.out])), HB3.out⟩
                        · have z1 : s.toList.isEmpty = false := by rw [isEmpty_size]; simpa using h4
                          clear t1 h1 h2 h3 h4
                          go_wp2_with (go_at_call 14; refine (C14.out _).mono ?_; rintro e w4 ⟨rfl, hw4⟩; rw [hw4]; clear hw4 w4; refine Hid.out ?_)
                          refine Lib.hid ?_
                          go_wp2_with (go_at_call 15; refine (C15.out _).mono ?_; rintro e w4 ⟨rfl, hw4⟩; rw [hw4]; clear hw4 w4; refine Hid.out ?_)
                          refine Lib.hid ?_
                          go_wp2_with (go_at_call 16; refine (C16.out _).mono ?_; rintro e w4 ⟨rfl, hw4⟩; rw [hw4]; clear hw4 w4; refine Hid.out ?_)
                          refine Lib.hid ?_
                          go_wp2_with fail
                          go_ret
                          exact ⟨false, rfl, (fun h => by cases h), HBW.out⟩
                · have f1 : decide ((k : Int) < (rows.length : Int)) = false := by simp; omega
                  have hB2 : Below W.heap.size W wr := HBA.out.trans (HB2.out.mono HBA.out.size)
                  have HB2W := aside hB2
                  clear hB2
                  go_wp2_with fail
                  go_roundg (l.length - (i + 1))
                  case measure => omega
                  case rel =>
                    refine ⟨i + 1, by simp, by omega, by omega, NEXT.out ⟨by show 0 ≤ mode; omega, by show mode ≤ 7; omega, fun _ j hj => ?_⟩, HB2W.out⟩
                    have := HC.out j (by omega)
                    rw [HTWO.out] at this
                    exact this
    · have e1 : decide ((i : Int) < (l.length : Int)) = false := by simp; omega
      go_wp2_with fail
      go_ret
      exact ⟨true, rfl, fun _ j hj => HOK.out j hj (by omega), HB.out⟩
end Go.Proofs.YteplcmhmjdiimaaGreatDoor
