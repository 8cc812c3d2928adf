/-
  Apiece: rows that the rules tell apart.
-/
import Derived.Test.YteplcmhmjdiimaaGreatDoorcN0
namespace Go.Proofs.YteplcmhmjdiimaaGreatDoor
open Go.RowKit

def ApPost (W : World) (rows : List (List ByteArray)) (cols : Int) (l : List Raw) (e : Ending) (w' : World) : Prop :=
  ∃ b, e = .returned (.bool b) ∧ (b = true → Apart rows cols l) ∧ Below W.heap.size W w'

theorem keep2_drew {W w : World} {N : Nat} {p q : Addr} {x y : Value} (h : Hid (Below N W w)) (h1 : w.cell? p = some x) (h2 : w.cell? q = some y) :
    Hid (Below N W w.drew) ∧ w.drew.cell? p = some x ∧ w.drew.cell? q = some y := ⟨h.out.drew, h1, h2⟩
theorem keep2_below {W w w' : World} {N : Nat} {p q : Addr} {x y : Value} (hN : N ≤ W.heap.size) (h : Hid (Below N W w)) (hb : Below w.heap.size w w') (h1 : w.cell? p = some x) (h2 : w.cell? q = some y) :
    Hid (Below N W w') ∧ w'.cell? p = some x ∧ w'.cell? q = some y := by
  have c : ∀ {a : Addr} {v : Value}, w.cell? a = some v → w'.cell? a = some v := fun {a v} ha => by
    rw [hb.cell (World.block_lt_of_cell? w a ha)]; exact ha
  exact ⟨h.out.trans (hb.mono (Nat.le_trans hN h.out.size)), c h1, c h2⟩

/-- A row's cells are of a kind that RowAhead speaks of. -/
theorem OrdP.rowOK {rows : List (List ByteArray)} {cols : Int} {l : List Raw} (h : OrdP rows cols l) {i : Nat} (hi : i < rows.length) : RowOK (rows.getD i []) cols l := fun r hr hok => by
  have := (h.at_ hr hok hi).1
  exact this

set_option maxHeartbeats 4000000 in
set_option maxRecDepth 100000 in
theorem apiece_calls (W : World) (vr vl : Value) (rows : List (List ByteArray)) (cols : Int) (l : List RawZ) (hr : RowsM W vr rows) (hl : RulesM W vl l) (hn : rows.length ≤ 60) (hlen : l.length ≤ 8)
    (hc0 : 0 ≤ cols) (hc20 : cols ≤ 20) (hm : ∀ r ∈ l, 0 ≤ r.mode ∧ r.mode ≤ 7) (hO : OrdP rows cols (l.map RawZ.raw)) (hg : Globs W) :
    Calls Tryz.prog 10 #[vr, .int .i64 cols, vl] W (ApPost W rows cols (l.map RawZ.raw)) := by
  obtain ⟨rbase, rc, rfl, hrc, -, hrcell⟩ := hr
  have HRC := aside hrcell
  have HL := aside hl
  have HM := aside hm
  have HO := aside hO
  have HG := aside hg
  clear hrcell hl hm hO hg
  go_enter Tryz.func10, Tryz.ntmps10
  go_wp2_with fail
  go_loopg [7] rows.length (fun q s7 wr => ∃ i : Nat, s7 = .int .i64 i ∧ i ≤ rows.length ∧ rows.length ≤ q + i ∧
    Hid (∀ i', i' < i → ∀ k, k < i' → aheadS (rows.getD i' []) (rows.getD k []) cols (l.map RawZ.raw) = true ∨ aheadS (rows.getD k []) (rows.getD i' []) cols (l.map RawZ.raw) = true) ∧ Hid (Below W.heap.size W wr))
  case atStart => exact ⟨0, rfl, by omega, by omega, fun i' h => absurd h (by omega), Below.refl _ _⟩
  case round =>
    obtain ⟨i, rfl, hi, hq, HA, HB⟩ := hrel
    by_cases hlt : i < rows.length
    · have e1 : decide ((i : Int) < (rows.length : Int)) = true := by simp; omega
      have e2 : (i : Int) < (rows.length : Int) := by omega
      obtain ⟨RB, ro, ui, rfl, hrb, m1, ti⟩ := HRC.out i hlt
      have TI := aside ti
      have M1 := aside m1
      clear ti m1
      go_wp2_with fail
      go_loopg [8] i (fun q2 s8 wr => ∃ k : Nat, s8 = .int .i64 k ∧ k ≤ i ∧ i ≤ q2 + k ∧
        Hid (∀ k', k' < k → aheadS (rows.getD i []) (rows.getD k' []) cols (l.map RawZ.raw) = true ∨ aheadS (rows.getD k' []) (rows.getD i []) cols (l.map RawZ.raw) = true) ∧ Hid (Below W.heap.size W wr))
      case atStart => exact ⟨0, rfl, by omega, by omega, fun i' h => absurd h (by omega), HB.out⟩
      case round =>
        obtain ⟨k, rfl, hk, hq2, HK, HB2⟩ := hrel
        by_cases hlt2 : k < i
        · have f1 : decide ((k : Int) < (i : Int)) = true := by simp; omega
          have f2 : (k : Int) < (rows.length : Int) := by omega
          have hkn : k < rows.length := by omega
          obtain ⟨RB', ro', uk, e', hrb', m2, tk⟩ := HRC.out k hkn
          simp only [Option.some.injEq, Addr.mk.injEq, and_true] at e'
          obtain ⟨rfl, rfl⟩ := e'
          have r1 : wr.cell? ⟨RB, ro + i, none⟩ = some ui := by rw [HB2.out.cell hrb]; exact M1.out
          have r2 : wr.cell? ⟨RB, ro + k, none⟩ = some uk := by rw [HB2.out.cell hrb]; exact m2
          obtain ⟨p1, hp1⟩ : ∃ p1, p1 = aheadS (rows.getD i []) (rows.getD k []) cols (l.map RawZ.raw) := ⟨_, rfl⟩
          obtain ⟨p2, hp2⟩ : ∃ p2, p2 = aheadS (rows.getD k []) (rows.getD i []) cols (l.map RawZ.raw) := ⟨_, rfl⟩
          have c9a : ∀ w, (Hid (Below W.heap.size W w) ∧ w.cell? ⟨RB, ro + i, none⟩ = some ui ∧ w.cell? ⟨RB, ro + k, none⟩ = some uk) → Calls Tryz.prog 9 #[ui, uk, .int .i64 cols, vl] w fun e w' => e = .returned (.bool p1) ∧ (Hid (Below W.heap.size W w') ∧ w'.cell? ⟨RB, ro + i, none⟩ = some ui ∧ w'.cell? ⟨RB, ro + k, none⟩ = some uk) := fun w hS => by
            rw [hp1]
            have hb := hS.1.out
            refine (rowAhead_calls w ui uk vl _ _ cols l (TI.out.below hb (Nat.le_refl _)) (tk.below hb (Nat.le_refl _)) (HL.out.below hb (Nat.le_refl _)) hlen hc0 hc20 HM.out (HO.out.rowOK hlt) (HO.out.rowOK hkn) (HG.out.below hb HG.out.size)).mono ?_
            rintro e w' ⟨rfl, hB⟩
            exact ⟨rfl, keep2_below (Nat.le_refl _) hS.1 hB hS.2.1 hS.2.2⟩
          have c9b : ∀ w, (Hid (Below W.heap.size W w) ∧ w.cell? ⟨RB, ro + i, none⟩ = some ui ∧ w.cell? ⟨RB, ro + k, none⟩ = some uk) → Calls Tryz.prog 9 #[uk, ui, .int .i64 cols, vl] w fun e w' => e = .returned (.bool p2) ∧ (Hid (Below W.heap.size W w') ∧ w'.cell? ⟨RB, ro + i, none⟩ = some ui ∧ w'.cell? ⟨RB, ro + k, none⟩ = some uk) := fun w hS => by
            rw [hp2]
            have hb := hS.1.out
            refine (rowAhead_calls w uk ui vl _ _ cols l (tk.below hb (Nat.le_refl _)) (TI.out.below hb (Nat.le_refl _)) (HL.out.below hb (Nat.le_refl _)) hlen hc0 hc20 HM.out (HO.out.rowOK hkn) (HO.out.rowOK hlt) (HG.out.below hb HG.out.size)).mono ?_
            rintro e w' ⟨rfl, hB⟩
            exact ⟨rfl, keep2_below (Nat.le_refl _) hS.1 hB hS.2.1 hS.2.2⟩
          have kd : ∀ w, (Hid (Below W.heap.size W w) ∧ w.cell? ⟨RB, ro + i, none⟩ = some ui ∧ w.cell? ⟨RB, ro + k, none⟩ = some uk) → (Hid (Below W.heap.size W w.drew) ∧ w.drew.cell? ⟨RB, ro + i, none⟩ = some ui ∧ w.drew.cell? ⟨RB, ro + k, none⟩ = some uk) := fun w hS => keep2_drew hS.1 hS.2.1 hS.2.2
          have kb : ∀ w, (Hid (Below W.heap.size W w) ∧ w.cell? ⟨RB, ro + i, none⟩ = some ui ∧ w.cell? ⟨RB, ro + k, none⟩ = some uk) → Hid (Below W.heap.size W w) := fun w hS => hS.1
          have next : p1 = true ∨ p2 = true → ∀ k', k' < k + 1 → aheadS (rows.getD i []) (rows.getD k' []) cols (l.map RawZ.raw) = true ∨ aheadS (rows.getD k' []) (rows.getD i []) cols (l.map RawZ.raw) = true := fun h k' hk' => by
            by_cases e : k' = k
            · subst e; rw [← hp1, ← hp2]; exact h
            · exact HK.out k' (by omega)
          have hS0 : (Hid (Below W.heap.size W wr) ∧ wr.cell? ⟨RB, ro + i, none⟩ = some ui ∧ wr.cell? ⟨RB, ro + k, none⟩ = some uk) := ⟨HB2, r1, r2⟩
          have C9A := aside c9a
          have C9B := aside c9b
          have KD := aside kd
          have KB := aside kb
          have NEXT := aside next
          clear c9a c9b kd kb next hp1 hp2 tk m2
          cases p1 with
          | true =>
            go_upto_region 7 with fail
            refine wp_region_noPanic ?_
            refine wp_region_held_drew (S := fun w' => Hid (Below W.heap.size W w') ∧ w'.cell? ⟨RB, ro + i, none⟩ = some ui ∧ w'.cell? ⟨RB, ro + k, none⟩ = some uk) (by kernel_rfl) (KD.out _ hS0) (fun hHeld => ?_)
            refine wpAnyH_take (i := 0) (v := .slice (some ⟨RB, ro, none⟩) rows.length rc) rfl (by kernel_rfl) (by kernel_rfl) (by kernel_rfl) (fun _ _ _ h => h) (Or.inl ⟨by rfl, by intro w hSw; (try dsimp only at hSw); go_simp⟩) (by assumption) ?_
            try simp only [Act.put, List.getElem_toArray, List.getElem_cons_succ, List.getElem_cons_zero, List.setIfInBounds_toArray, List.set_cons_zero, List.set_cons_succ]
            refine wpAnyH_take (i := 1) (v := .int .i64 (i : Int)) rfl (by kernel_rfl) (by kernel_rfl) (by kernel_rfl) (fun _ _ _ h => h) (Or.inl ⟨by rfl, by intro w hSw; (try dsimp only at hSw); go_simp⟩) (by assumption) ?_
            try simp only [Act.put, List.getElem_toArray, List.getElem_cons_succ, List.getElem_cons_zero, List.setIfInBounds_toArray, List.set_cons_zero, List.set_cons_succ]
            refine wpAnyH_take (i := 2) (v := .pointer (some ⟨RB, ro + i, none⟩)) rfl (by kernel_rfl) (by kernel_rfl) (by kernel_rfl) (fun _ _ _ h => h) (Or.inl ⟨by rfl, by intro w hSw; (try dsimp only at hSw); go_simp⟩) (by assumption) ?_
            try simp only [Act.put, List.getElem_toArray, List.getElem_cons_succ, List.getElem_cons_zero, List.setIfInBounds_toArray, List.set_cons_zero, List.set_cons_succ]
            refine wpAnyH_take (i := 3) (v := ui) rfl (by kernel_rfl) (by kernel_rfl) (by kernel_rfl) (fun _ _ _ h => h) (Or.inl ⟨by rfl, by intro w hSw; (try dsimp only at hSw); go_simp⟩) (by assumption) ?_
            try simp only [Act.put, List.getElem_toArray, List.getElem_cons_succ, List.getElem_cons_zero, List.setIfInBounds_toArray, List.set_cons_zero, List.set_cons_succ]
            refine wpAnyH_take (i := 4) (v := .slice (some ⟨RB, ro, none⟩) rows.length rc) rfl (by kernel_rfl) (by kernel_rfl) (by kernel_rfl) (fun _ _ _ h => h) (Or.inl ⟨by rfl, by intro w hSw; (try dsimp only at hSw); go_simp⟩) (by assumption) ?_
            try simp only [Act.put, List.getElem_toArray, List.getElem_cons_succ, List.getElem_cons_zero, List.setIfInBounds_toArray, List.set_cons_zero, List.set_cons_succ]
            refine wpAnyH_take (i := 5) (v := .int .i64 (k : Int)) rfl (by kernel_rfl) (by kernel_rfl) (by kernel_rfl) (fun _ _ _ h => h) (Or.inl ⟨by rfl, by intro w hSw; (try dsimp only at hSw); go_simp⟩) (by assumption) ?_
            try simp only [Act.put, List.getElem_toArray, List.getElem_cons_succ, List.getElem_cons_zero, List.setIfInBounds_toArray, List.set_cons_zero, List.set_cons_succ]
            refine wpAnyH_take (i := 6) (v := .pointer (some ⟨RB, ro + k, none⟩)) rfl (by kernel_rfl) (by kernel_rfl) (by kernel_rfl) (fun _ _ _ h => h) (Or.inl ⟨by rfl, by intro w hSw; (try dsimp only at hSw); go_simp⟩) (by assumption) ?_
            try simp only [Act.put, List.getElem_toArray, List.getElem_cons_succ, List.getElem_cons_zero, List.setIfInBounds_toArray, List.set_cons_zero, List.set_cons_succ]
            refine wpAnyH_take (i := 7) (v := uk) rfl (by kernel_rfl) (by kernel_rfl) (by kernel_rfl) (fun _ _ _ h => h) (Or.inl ⟨by rfl, by intro w hSw; (try dsimp only at hSw); go_simp⟩) (by assumption) ?_
            try simp only [Act.put, List.getElem_toArray, List.getElem_cons_succ, List.getElem_cons_zero, List.setIfInBounds_toArray, List.set_cons_zero, List.set_cons_succ]
            refine wpAnyH_take (i := 8) (v := .int .i64 cols) rfl (by kernel_rfl) (by kernel_rfl) (by kernel_rfl) (fun _ _ _ h => h) (Or.inl ⟨by rfl, by intro w hSw; (try dsimp only at hSw); go_simp⟩) (by assumption) ?_
            try simp only [Act.put, List.getElem_toArray, List.getElem_cons_succ, List.getElem_cons_zero, List.setIfInBounds_toArray, List.set_cons_zero, List.set_cons_succ]
            refine wpAnyH_take (i := 9) (v := vl) rfl (by kernel_rfl) (by kernel_rfl) (by kernel_rfl) (fun _ _ _ h => h) (Or.inl ⟨by rfl, by intro w hSw; (try dsimp only at hSw); go_simp⟩) (by assumption) ?_
            try simp only [Act.put, List.getElem_toArray, List.getElem_cons_succ, List.getElem_cons_zero, List.setIfInBounds_toArray, List.set_cons_zero, List.set_cons_succ]
            refine wpAnyH_ready (rs := [10]) (by kernel_rfl) (by simp) ?_
            refine AllReadyH.cons rfl (fun K hK => ?_) AllReadyH.nil
            go_simp
            go_at_call_of 9 ui
            refine (C9A.out _ (by assumption)).mono ?_
            rintro e w' ⟨rfl, hS⟩
            refine hK.out _ _ hS (fun hHeld2 => ?_)
            clear hK K
            try simp only [Act.put, List.getElem_toArray, List.getElem_cons_succ, List.getElem_cons_zero, List.setIfInBounds_toArray, List.set_cons_zero, List.set_cons_succ]
            refine wpAnyH_take (i := 11) (v := .bool false) rfl (by kernel_rfl) (by kernel_rfl) (by kernel_rfl) (fun _ _ _ h => h) (Or.inl ⟨by rfl, by intro w hSw; (try dsimp only at hSw); go_simp⟩) (by assumption) ?_
            try simp only [Act.put, List.getElem_toArray, List.getElem_cons_succ, List.getElem_cons_zero, List.setIfInBounds_toArray, List.set_cons_zero, List.set_cons_succ]
            refine wpAnyH_take (i := 12) (v := .bool false) rfl (by kernel_rfl) (by kernel_rfl) (by kernel_rfl) (fun _ _ _ h => h) (Or.inl ⟨by rfl, by intro w hSw; (try dsimp only at hSw); go_simp⟩) (by assumption) ?_
            try simp only [Act.put, List.getElem_toArray, List.getElem_cons_succ, List.getElem_cons_zero, List.setIfInBounds_toArray, List.set_cons_zero, List.set_cons_succ]
            refine wpAnyH_take (i := 13) (v := undef) rfl (by kernel_rfl) (by kernel_rfl) (by kernel_rfl) (fun _ _ _ h => h) (Or.inr ⟨by rfl, rfl⟩) (by assumption) ?_
            try simp only [Act.put, List.getElem_toArray, List.getElem_cons_succ, List.getElem_cons_zero, List.setIfInBounds_toArray, List.set_cons_zero, List.set_cons_succ]
            refine wpAnyH_take (i := 14) (v := undef) rfl (by kernel_rfl) (by kernel_rfl) (by kernel_rfl) (fun _ _ _ h => h) (Or.inr ⟨by rfl, rfl⟩) (by assumption) ?_
            try simp only [Act.put, List.getElem_toArray, List.getElem_cons_succ, List.getElem_cons_zero, List.setIfInBounds_toArray, List.set_cons_zero, List.set_cons_succ]
            refine wpAnyH_take (i := 15) (v := undef) rfl (by kernel_rfl) (by kernel_rfl) (by kernel_rfl) (fun _ _ _ h => h) (Or.inr ⟨by rfl, rfl⟩) (by assumption) ?_
            try simp only [Act.put, List.getElem_toArray, List.getElem_cons_succ, List.getElem_cons_zero, List.setIfInBounds_toArray, List.set_cons_zero, List.set_cons_succ]
            refine wpAnyH_take (i := 16) (v := undef) rfl (by kernel_rfl) (by kernel_rfl) (by kernel_rfl) (fun _ _ _ h => h) (Or.inr ⟨by rfl, rfl⟩) (by assumption) ?_
            try simp only [Act.put, List.getElem_toArray, List.getElem_cons_succ, List.getElem_cons_zero, List.setIfInBounds_toArray, List.set_cons_zero, List.set_cons_succ]
            refine wpAnyH_take (i := 17) (v := undef) rfl (by kernel_rfl) (by kernel_rfl) (by kernel_rfl) (fun _ _ _ h => h) (Or.inr ⟨by rfl, rfl⟩) (by assumption) ?_
            try simp only [Act.put, List.getElem_toArray, List.getElem_cons_succ, List.getElem_cons_zero, List.setIfInBounds_toArray, List.set_cons_zero, List.set_cons_succ]
            refine wpAnyH_take (i := 18) (v := undef) rfl (by kernel_rfl) (by kernel_rfl) (by kernel_rfl) (fun _ _ _ h => h) (Or.inr ⟨by rfl, rfl⟩) (by assumption) ?_
            try simp only [Act.put, List.getElem_toArray, List.getElem_cons_succ, List.getElem_cons_zero, List.setIfInBounds_toArray, List.set_cons_zero, List.set_cons_succ]
            refine wpAnyH_take (i := 19) (v := undef) rfl (by kernel_rfl) (by kernel_rfl) (by kernel_rfl) (fun _ _ _ h => h) (Or.inr ⟨by rfl, rfl⟩) (by assumption) ?_
            try simp only [Act.put, List.getElem_toArray, List.getElem_cons_succ, List.getElem_cons_zero, List.setIfInBounds_toArray, List.set_cons_zero, List.set_cons_succ]
            refine wpAnyH_take (i := 20) (v := undef) rfl (by kernel_rfl) (by kernel_rfl) (by kernel_rfl) (fun _ _ _ h => h) (Or.inr ⟨by rfl, rfl⟩) (by assumption) ?_
            try simp only [Act.put, List.getElem_toArray, List.getElem_cons_succ, List.getElem_cons_zero, List.setIfInBounds_toArray, List.set_cons_zero, List.set_cons_succ]
            refine wpAnyH_take (i := 21) (v := undef) rfl (by kernel_rfl) (by kernel_rfl) (by kernel_rfl) (fun _ _ _ h => h) (Or.inr ⟨by rfl, rfl⟩) (by assumption) ?_
            try simp only [Act.put, List.getElem_toArray, List.getElem_cons_succ, List.getElem_cons_zero, List.setIfInBounds_toArray, List.set_cons_zero, List.set_cons_succ]
            refine wpAnyH_take (i := 22) (v := undef) rfl (by kernel_rfl) (by kernel_rfl) (by kernel_rfl) (fun _ _ _ h => h) (Or.inr ⟨by rfl, rfl⟩) (by assumption) ?_
            try simp only [Act.put, List.getElem_toArray, List.getElem_cons_succ, List.getElem_cons_zero, List.setIfInBounds_toArray, List.set_cons_zero, List.set_cons_succ]
            refine wpAnyH_take (i := 23) (v := undef) rfl (by kernel_rfl) (by kernel_rfl) (by kernel_rfl) (fun _ _ _ h => h) (Or.inr ⟨by rfl, rfl⟩) (by assumption) ?_
            try simp only [Act.put, List.getElem_toArray, List.getElem_cons_succ, List.getElem_cons_zero, List.setIfInBounds_toArray, List.set_cons_zero, List.set_cons_succ]
            refine wpAnyH_take (i := 24) (v := undef) rfl (by kernel_rfl) (by kernel_rfl) (by kernel_rfl) (fun _ _ _ h => h) (Or.inr ⟨by rfl, rfl⟩) (by assumption) ?_
            try simp only [Act.put, List.getElem_toArray, List.getElem_cons_succ, List.getElem_cons_zero, List.setIfInBounds_toArray, List.set_cons_zero, List.set_cons_succ]
            refine wpAnyH_take (i := 25) (v := .bool false) rfl (by kernel_rfl) (by kernel_rfl) (by kernel_rfl) (fun _ _ _ h => h) (Or.inl ⟨by rfl, by intro w hSw; (try dsimp only at hSw); go_simp⟩) (by assumption) ?_
            try simp only [Act.put, List.getElem_toArray, List.getElem_cons_succ, List.getElem_cons_zero, List.setIfInBounds_toArray, List.set_cons_zero, List.set_cons_succ]
            refine wpAnyH_done (by kernel_rfl) ?_ _
            refine NoPanic.normal ?_
            go_wp2_with fail
            go_roundg (i - (k + 1))
            case measure => omega
            case rel => exact ⟨k + 1, by simp, by omega, by omega, NEXT.out (.inl trivial), KB.out _ (by assumption)⟩
          | false =>
            cases p2 with
            | true =>
              go_upto_region 7 with fail
              refine wp_region_noPanic ?_
              refine wp_region_held_drew (S := fun w' => Hid (Below W.heap.size W w') ∧ w'.cell? ⟨RB, ro + i, none⟩ = some ui ∧ w'.cell? ⟨RB, ro + k, none⟩ = some uk) (by kernel_rfl) (KD.out _ hS0) (fun hHeld => ?_)
              refine wpAnyH_take (i := 0) (v := .slice (some ⟨RB, ro, none⟩) rows.length rc) rfl (by kernel_rfl) (by kernel_rfl) (by kernel_rfl) (fun _ _ _ h => h) (Or.inl ⟨by rfl, by intro w hSw; (try dsimp only at hSw); go_simp⟩) (by assumption) ?_
              try simp only [Act.put, List.getElem_toArray, List.getElem_cons_succ, List.getElem_cons_zero, List.setIfInBounds_toArray, List.set_cons_zero, List.set_cons_succ]
              refine wpAnyH_take (i := 1) (v := .int .i64 (i : Int)) rfl (by kernel_rfl) (by kernel_rfl) (by kernel_rfl) (fun _ _ _ h => h) (Or.inl ⟨by rfl, by intro w hSw; (try dsimp only at hSw); go_simp⟩) (by assumption) ?_
              try simp only [Act.put, List.getElem_toArray, List.getElem_cons_succ, List.getElem_cons_zero, List.setIfInBounds_toArray, List.set_cons_zero, List.set_cons_succ]
              refine wpAnyH_take (i := 2) (v := .pointer (some ⟨RB, ro + i, none⟩)) rfl (by kernel_rfl) (by kernel_rfl) (by kernel_rfl) (fun _ _ _ h => h) (Or.inl ⟨by rfl, by intro w hSw; (try dsimp only at hSw); go_simp⟩) (by assumption) ?_
              try simp only [Act.put, List.getElem_toArray, List.getElem_cons_succ, List.getElem_cons_zero, List.setIfInBounds_toArray, List.set_cons_zero, List.set_cons_succ]
              refine wpAnyH_take (i := 3) (v := ui) rfl (by kernel_rfl) (by kernel_rfl) (by kernel_rfl) (fun _ _ _ h => h) (Or.inl ⟨by rfl, by intro w hSw; (try dsimp only at hSw); go_simp⟩) (by assumption) ?_
              try simp only [Act.put, List.getElem_toArray, List.getElem_cons_succ, List.getElem_cons_zero, List.setIfInBounds_toArray, List.set_cons_zero, List.set_cons_succ]
              refine wpAnyH_take (i := 4) (v := .slice (some ⟨RB, ro, none⟩) rows.length rc) rfl (by kernel_rfl) (by kernel_rfl) (by kernel_rfl) (fun _ _ _ h => h) (Or.inl ⟨by rfl, by intro w hSw; (try dsimp only at hSw); go_simp⟩) (by assumption) ?_
              try simp only [Act.put, List.getElem_toArray, List.getElem_cons_succ, List.getElem_cons_zero, List.setIfInBounds_toArray, List.set_cons_zero, List.set_cons_succ]
              refine wpAnyH_take (i := 5) (v := .int .i64 (k : Int)) rfl (by kernel_rfl) (by kernel_rfl) (by kernel_rfl) (fun _ _ _ h => h) (Or.inl ⟨by rfl, by intro w hSw; (try dsimp only at hSw); go_simp⟩) (by assumption) ?_
              try simp only [Act.put, List.getElem_toArray, List.getElem_cons_succ, List.getElem_cons_zero, List.setIfInBounds_toArray, List.set_cons_zero, List.set_cons_succ]
              refine wpAnyH_take (i := 6) (v := .pointer (some ⟨RB, ro + k, none⟩)) rfl (by kernel_rfl) (by kernel_rfl) (by kernel_rfl) (fun _ _ _ h => h) (Or.inl ⟨by rfl, by intro w hSw; (try dsimp only at hSw); go_simp⟩) (by assumption) ?_
              try simp only [Act.put, List.getElem_toArray, List.getElem_cons_succ, List.getElem_cons_zero, List.setIfInBounds_toArray, List.set_cons_zero, List.set_cons_succ]
              refine wpAnyH_take (i := 7) (v := uk) rfl (by kernel_rfl) (by kernel_rfl) (by kernel_rfl) (fun _ _ _ h => h) (Or.inl ⟨by rfl, by intro w hSw; (try dsimp only at hSw); go_simp⟩) (by assumption) ?_
              try simp only [Act.put, List.getElem_toArray, List.getElem_cons_succ, List.getElem_cons_zero, List.setIfInBounds_toArray, List.set_cons_zero, List.set_cons_succ]
              refine wpAnyH_take (i := 8) (v := .int .i64 cols) rfl (by kernel_rfl) (by kernel_rfl) (by kernel_rfl) (fun _ _ _ h => h) (Or.inl ⟨by rfl, by intro w hSw; (try dsimp only at hSw); go_simp⟩) (by assumption) ?_
              try simp only [Act.put, List.getElem_toArray, List.getElem_cons_succ, List.getElem_cons_zero, List.setIfInBounds_toArray, List.set_cons_zero, List.set_cons_succ]
              refine wpAnyH_take (i := 9) (v := vl) rfl (by kernel_rfl) (by kernel_rfl) (by kernel_rfl) (fun _ _ _ h => h) (Or.inl ⟨by rfl, by intro w hSw; (try dsimp only at hSw); go_simp⟩) (by assumption) ?_
              try simp only [Act.put, List.getElem_toArray, List.getElem_cons_succ, List.getElem_cons_zero, List.setIfInBounds_toArray, List.set_cons_zero, List.set_cons_succ]
              refine wpAnyH_ready (rs := [10]) (by kernel_rfl) (by simp) ?_
              refine AllReadyH.cons rfl (fun K hK => ?_) AllReadyH.nil
              go_simp
              go_at_call_of 9 ui
              refine (C9A.out _ (by assumption)).mono ?_
              rintro e w' ⟨rfl, hS⟩
              refine hK.out _ _ hS (fun hHeld2 => ?_)
              clear hK K
              try simp only [Act.put, List.getElem_toArray, List.getElem_cons_succ, List.getElem_cons_zero, List.setIfInBounds_toArray, List.set_cons_zero, List.set_cons_succ]
              refine wpAnyH_take (i := 11) (v := .bool true) rfl (by kernel_rfl) (by kernel_rfl) (by kernel_rfl) (fun _ _ _ h => h) (Or.inl ⟨by rfl, by intro w hSw; (try dsimp only at hSw); go_simp⟩) (by assumption) ?_
              try simp only [Act.put, List.getElem_toArray, List.getElem_cons_succ, List.getElem_cons_zero, List.setIfInBounds_toArray, List.set_cons_zero, List.set_cons_succ]
              refine wpAnyH_take (i := 12) (v := .bool true) rfl (by kernel_rfl) (by kernel_rfl) (by kernel_rfl) (fun _ _ _ h => h) (Or.inl ⟨by rfl, by intro w hSw; (try dsimp only at hSw); go_simp⟩) (by assumption) ?_
              try simp only [Act.put, List.getElem_toArray, List.getElem_cons_succ, List.getElem_cons_zero, List.setIfInBounds_toArray, List.set_cons_zero, List.set_cons_succ]
              refine wpAnyH_take (i := 13) (v := .slice (some ⟨RB, ro, none⟩) rows.length rc) rfl (by kernel_rfl) (by kernel_rfl) (by kernel_rfl) (fun _ _ _ h => h) (Or.inl ⟨by rfl, by intro w hSw; (try dsimp only at hSw); go_simp⟩) (by assumption) ?_
              try simp only [Act.put, List.getElem_toArray, List.getElem_cons_succ, List.getElem_cons_zero, List.setIfInBounds_toArray, List.set_cons_zero, List.set_cons_succ]
              refine wpAnyH_take (i := 14) (v := .int .i64 (k : Int)) rfl (by kernel_rfl) (by kernel_rfl) (by kernel_rfl) (fun _ _ _ h => h) (Or.inl ⟨by rfl, by intro w hSw; (try dsimp only at hSw); go_simp⟩) (by assumption) ?_
              try simp only [Act.put, List.getElem_toArray, List.getElem_cons_succ, List.getElem_cons_zero, List.setIfInBounds_toArray, List.set_cons_zero, List.set_cons_succ]
              refine wpAnyH_take (i := 15) (v := .pointer (some ⟨RB, ro + k, none⟩)) rfl (by kernel_rfl) (by kernel_rfl) (by kernel_rfl) (fun _ _ _ h => h) (Or.inl ⟨by rfl, by intro w hSw; (try dsimp only at hSw); go_simp⟩) (by assumption) ?_
              try simp only [Act.put, List.getElem_toArray, List.getElem_cons_succ, List.getElem_cons_zero, List.setIfInBounds_toArray, List.set_cons_zero, List.set_cons_succ]
              refine wpAnyH_take (i := 16) (v := uk) rfl (by kernel_rfl) (by kernel_rfl) (by kernel_rfl) (fun _ _ _ h => h) (Or.inl ⟨by rfl, by intro w hSw; (try dsimp only at hSw); go_simp⟩) (by assumption) ?_
              try simp only [Act.put, List.getElem_toArray, List.getElem_cons_succ, List.getElem_cons_zero, List.setIfInBounds_toArray, List.set_cons_zero, List.set_cons_succ]
              refine wpAnyH_take (i := 17) (v := .slice (some ⟨RB, ro, none⟩) rows.length rc) rfl (by kernel_rfl) (by kernel_rfl) (by kernel_rfl) (fun _ _ _ h => h) (Or.inl ⟨by rfl, by intro w hSw; (try dsimp only at hSw); go_simp⟩) (by assumption) ?_
              try simp only [Act.put, List.getElem_toArray, List.getElem_cons_succ, List.getElem_cons_zero, List.setIfInBounds_toArray, List.set_cons_zero, List.set_cons_succ]
              refine wpAnyH_take (i := 18) (v := .int .i64 (i : Int)) rfl (by kernel_rfl) (by kernel_rfl) (by kernel_rfl) (fun _ _ _ h => h) (Or.inl ⟨by rfl, by intro w hSw; (try dsimp only at hSw); go_simp⟩) (by assumption) ?_
              try simp only [Act.put, List.getElem_toArray, List.getElem_cons_succ, List.getElem_cons_zero, List.setIfInBounds_toArray, List.set_cons_zero, List.set_cons_succ]
              refine wpAnyH_take (i := 19) (v := .pointer (some ⟨RB, ro + i, none⟩)) rfl (by kernel_rfl) (by kernel_rfl) (by kernel_rfl) (fun _ _ _ h => h) (Or.inl ⟨by rfl, by intro w hSw; (try dsimp only at hSw); go_simp⟩) (by assumption) ?_
              try simp only [Act.put, List.getElem_toArray, List.getElem_cons_succ, List.getElem_cons_zero, List.setIfInBounds_toArray, List.set_cons_zero, List.set_cons_succ]
              refine wpAnyH_take (i := 20) (v := ui) rfl (by kernel_rfl) (by kernel_rfl) (by kernel_rfl) (fun _ _ _ h => h) (Or.inl ⟨by rfl, by intro w hSw; (try dsimp only at hSw); go_simp⟩) (by assumption) ?_
              try simp only [Act.put, List.getElem_toArray, List.getElem_cons_succ, List.getElem_cons_zero, List.setIfInBounds_toArray, List.set_cons_zero, List.set_cons_succ]
              refine wpAnyH_take (i := 21) (v := .int .i64 cols) rfl (by kernel_rfl) (by kernel_rfl) (by kernel_rfl) (fun _ _ _ h => h) (Or.inl ⟨by rfl, by intro w hSw; (try dsimp only at hSw); go_simp⟩) (by assumption) ?_
              try simp only [Act.put, List.getElem_toArray, List.getElem_cons_succ, List.getElem_cons_zero, List.setIfInBounds_toArray, List.set_cons_zero, List.set_cons_succ]
              refine wpAnyH_take (i := 22) (v := vl) rfl (by kernel_rfl) (by kernel_rfl) (by kernel_rfl) (fun _ _ _ h => h) (Or.inl ⟨by rfl, by intro w hSw; (try dsimp only at hSw); go_simp⟩) (by assumption) ?_
              try simp only [Act.put, List.getElem_toArray, List.getElem_cons_succ, List.getElem_cons_zero, List.setIfInBounds_toArray, List.set_cons_zero, List.set_cons_succ]
              refine wpAnyH_ready (rs := [23]) (by kernel_rfl) (by simp) ?_
              refine AllReadyH.cons rfl (fun K hK => ?_) AllReadyH.nil
              go_simp
              go_at_call_of 9 uk
              refine (C9B.out _ (by assumption)).mono ?_
              rintro e w' ⟨rfl, hS⟩
              refine hK.out _ _ hS (fun hHeld3 => ?_)
              clear hK K
              try simp only [Act.put, List.getElem_toArray, List.getElem_cons_succ, List.getElem_cons_zero, List.setIfInBounds_toArray, List.set_cons_zero, List.set_cons_succ]
              refine wpAnyH_take (i := 24) (v := .bool false) rfl (by kernel_rfl) (by kernel_rfl) (by kernel_rfl) (fun _ _ _ h => h) (Or.inl ⟨by rfl, by intro w hSw; (try dsimp only at hSw); go_simp⟩) (by assumption) ?_
              try simp only [Act.put, List.getElem_toArray, List.getElem_cons_succ, List.getElem_cons_zero, List.setIfInBounds_toArray, List.set_cons_zero, List.set_cons_succ]
              refine wpAnyH_take (i := 25) (v := .bool false) rfl (by kernel_rfl) (by kernel_rfl) (by kernel_rfl) (fun _ _ _ h => h) (Or.inl ⟨by rfl, by intro w hSw; (try dsimp only at hSw); go_simp⟩) (by assumption) ?_
              try simp only [Act.put, List.getElem_toArray, List.getElem_cons_succ, List.getElem_cons_zero, List.setIfInBounds_toArray, List.set_cons_zero, List.set_cons_succ]
              refine wpAnyH_done (by kernel_rfl) ?_ _
              refine NoPanic.normal ?_
              go_wp2_with fail
              go_roundg (i - (k + 1))
              case measure => omega
              case rel => exact ⟨k + 1, by simp, by omega, by omega, NEXT.out (.inr trivial), KB.out _ (by assumption)⟩
            | false =>
              go_upto_region 7 with fail
              refine wp_region_noPanic ?_
              refine wp_region_held_drew (S := fun w' => Hid (Below W.heap.size W w') ∧ w'.cell? ⟨RB, ro + i, none⟩ = some ui ∧ w'.cell? ⟨RB, ro + k, none⟩ = some uk) (by kernel_rfl) (KD.out _ hS0) (fun hHeld => ?_)
              refine wpAnyH_take (i := 0) (v := .slice (some ⟨RB, ro, none⟩) rows.length rc) rfl (by kernel_rfl) (by kernel_rfl) (by kernel_rfl) (fun _ _ _ h => h) (Or.inl ⟨by rfl, by intro w hSw; (try dsimp only at hSw); go_simp⟩) (by assumption) ?_
              try simp only [Act.put, List.getElem_toArray, List.getElem_cons_succ, List.getElem_cons_zero, List.setIfInBounds_toArray, List.set_cons_zero, List.set_cons_succ]
              refine wpAnyH_take (i := 1) (v := .int .i64 (i : Int)) rfl (by kernel_rfl) (by kernel_rfl) (by kernel_rfl) (fun _ _ _ h => h) (Or.inl ⟨by rfl, by intro w hSw; (try dsimp only at hSw); go_simp⟩) (by assumption) ?_
              try simp only [Act.put, List.getElem_toArray, List.getElem_cons_succ, List.getElem_cons_zero, List.setIfInBounds_toArray, List.set_cons_zero, List.set_cons_succ]
              refine wpAnyH_take (i := 2) (v := .pointer (some ⟨RB, ro + i, none⟩)) rfl (by kernel_rfl) (by kernel_rfl) (by kernel_rfl) (fun _ _ _ h => h) (Or.inl ⟨by rfl, by intro w hSw; (try dsimp only at hSw); go_simp⟩) (by assumption) ?_
              try simp only [Act.put, List.getElem_toArray, List.getElem_cons_succ, List.getElem_cons_zero, List.setIfInBounds_toArray, List.set_cons_zero, List.set_cons_succ]
              refine wpAnyH_take (i := 3) (v := ui) rfl (by kernel_rfl) (by kernel_rfl) (by kernel_rfl) (fun _ _ _ h => h) (Or.inl ⟨by rfl, by intro w hSw; (try dsimp only at hSw); go_simp⟩) (by assumption) ?_
              try simp only [Act.put, List.getElem_toArray, List.getElem_cons_succ, List.getElem_cons_zero, List.setIfInBounds_toArray, List.set_cons_zero, List.set_cons_succ]
              refine wpAnyH_take (i := 4) (v := .slice (some ⟨RB, ro, none⟩) rows.length rc) rfl (by kernel_rfl) (by kernel_rfl) (by kernel_rfl) (fun _ _ _ h => h) (Or.inl ⟨by rfl, by intro w hSw; (try dsimp only at hSw); go_simp⟩) (by assumption) ?_
              try simp only [Act.put, List.getElem_toArray, List.getElem_cons_succ, List.getElem_cons_zero, List.setIfInBounds_toArray, List.set_cons_zero, List.set_cons_succ]
              refine wpAnyH_take (i := 5) (v := .int .i64 (k : Int)) rfl (by kernel_rfl) (by kernel_rfl) (by kernel_rfl) (fun _ _ _ h => h) (Or.inl ⟨by rfl, by intro w hSw; (try dsimp only at hSw); go_simp⟩) (by assumption) ?_
              try simp only [Act.put, List.getElem_toArray, List.getElem_cons_succ, List.getElem_cons_zero, List.setIfInBounds_toArray, List.set_cons_zero, List.set_cons_succ]
              refine wpAnyH_take (i := 6) (v := .pointer (some ⟨RB, ro + k, none⟩)) rfl (by kernel_rfl) (by kernel_rfl) (by kernel_rfl) (fun _ _ _ h => h) (Or.inl ⟨by rfl, by intro w hSw; (try dsimp only at hSw); go_simp⟩) (by assumption) ?_
              try simp only [Act.put, List.getElem_toArray, List.getElem_cons_succ, List.getElem_cons_zero, List.setIfInBounds_toArray, List.set_cons_zero, List.set_cons_succ]
              refine wpAnyH_take (i := 7) (v := uk) rfl (by kernel_rfl) (by kernel_rfl) (by kernel_rfl) (fun _ _ _ h => h) (Or.inl ⟨by rfl, by intro w hSw; (try dsimp only at hSw); go_simp⟩) (by assumption) ?_
              try simp only [Act.put, List.getElem_toArray, List.getElem_cons_succ, List.getElem_cons_zero, List.setIfInBounds_toArray, List.set_cons_zero, List.set_cons_succ]
              refine wpAnyH_take (i := 8) (v := .int .i64 cols) rfl (by kernel_rfl) (by kernel_rfl) (by kernel_rfl) (fun _ _ _ h => h) (Or.inl ⟨by rfl, by intro w hSw; (try dsimp only at hSw); go_simp⟩) (by assumption) ?_
              try simp only [Act.put, List.getElem_toArray, List.getElem_cons_succ, List.getElem_cons_zero, List.setIfInBounds_toArray, List.set_cons_zero, List.set_cons_succ]
              refine wpAnyH_take (i := 9) (v := vl) rfl (by kernel_rfl) (by kernel_rfl) (by kernel_rfl) (fun _ _ _ h => h) (Or.inl ⟨by rfl, by intro w hSw; (try dsimp only at hSw); go_simp⟩) (by assumption) ?_
              try simp only [Act.put, List.getElem_toArray, List.getElem_cons_succ, List.getElem_cons_zero, List.setIfInBounds_toArray, List.set_cons_zero, List.set_cons_succ]
              refine wpAnyH_ready (rs := [10]) (by kernel_rfl) (by simp) ?_
              refine AllReadyH.cons rfl (fun K hK => ?_) AllReadyH.nil
              go_simp
              go_at_call_of 9 ui
              refine (C9A.out _ (by assumption)).mono ?_
              rintro e w' ⟨rfl, hS⟩
              refine hK.out _ _ hS (fun hHeld2 => ?_)
              clear hK K
              try simp only [Act.put, List.getElem_toArray, List.getElem_cons_succ, List.getElem_cons_zero, List.setIfInBounds_toArray, List.set_cons_zero, List.set_cons_succ]
              refine wpAnyH_take (i := 11) (v := .bool true) rfl (by kernel_rfl) (by kernel_rfl) (by kernel_rfl) (fun _ _ _ h => h) (Or.inl ⟨by rfl, by intro w hSw; (try dsimp only at hSw); go_simp⟩) (by assumption) ?_
              try simp only [Act.put, List.getElem_toArray, List.getElem_cons_succ, List.getElem_cons_zero, List.setIfInBounds_toArray, List.set_cons_zero, List.set_cons_succ]
              refine wpAnyH_take (i := 12) (v := .bool true) rfl (by kernel_rfl) (by kernel_rfl) (by kernel_rfl) (fun _ _ _ h => h) (Or.inl ⟨by rfl, by intro w hSw; (try dsimp only at hSw); go_simp⟩) (by assumption) ?_
              try simp only [Act.put, List.getElem_toArray, List.getElem_cons_succ, List.getElem_cons_zero, List.setIfInBounds_toArray, List.set_cons_zero, List.set_cons_succ]
              refine wpAnyH_take (i := 13) (v := .slice (some ⟨RB, ro, none⟩) rows.length rc) rfl (by kernel_rfl) (by kernel_rfl) (by kernel_rfl) (fun _ _ _ h => h) (Or.inl ⟨by rfl, by intro w hSw; (try dsimp only at hSw); go_simp⟩) (by assumption) ?_
              try simp only [Act.put, List.getElem_toArray, List.getElem_cons_succ, List.getElem_cons_zero, List.setIfInBounds_toArray, List.set_cons_zero, List.set_cons_succ]
              refine wpAnyH_take (i := 14) (v := .int .i64 (k : Int)) rfl (by kernel_rfl) (by kernel_rfl) (by kernel_rfl) (fun _ _ _ h => h) (Or.inl ⟨by rfl, by intro w hSw; (try dsimp only at hSw); go_simp⟩) (by assumption) ?_
              try simp only [Act.put, List.getElem_toArray, List.getElem_cons_succ, List.getElem_cons_zero, List.setIfInBounds_toArray, List.set_cons_zero, List.set_cons_succ]
              refine wpAnyH_take (i := 15) (v := .pointer (some ⟨RB, ro + k, none⟩)) rfl (by kernel_rfl) (by kernel_rfl) (by kernel_rfl) (fun _ _ _ h => h) (Or.inl ⟨by rfl, by intro w hSw; (try dsimp only at hSw); go_simp⟩) (by assumption) ?_
              try simp only [Act.put, List.getElem_toArray, List.getElem_cons_succ, List.getElem_cons_zero, List.setIfInBounds_toArray, List.set_cons_zero, List.set_cons_succ]
              refine wpAnyH_take (i := 16) (v := uk) rfl (by kernel_rfl) (by kernel_rfl) (by kernel_rfl) (fun _ _ _ h => h) (Or.inl ⟨by rfl, by intro w hSw; (try dsimp only at hSw); go_simp⟩) (by assumption) ?_
              try simp only [Act.put, List.getElem_toArray, List.getElem_cons_succ, List.getElem_cons_zero, List.setIfInBounds_toArray, List.set_cons_zero, List.set_cons_succ]
              refine wpAnyH_take (i := 17) (v := .slice (some ⟨RB, ro, none⟩) rows.length rc) rfl (by kernel_rfl) (by kernel_rfl) (by kernel_rfl) (fun _ _ _ h => h) (Or.inl ⟨by rfl, by intro w hSw; (try dsimp only at hSw); go_simp⟩) (by assumption) ?_
              try simp only [Act.put, List.getElem_toArray, List.getElem_cons_succ, List.getElem_cons_zero, List.setIfInBounds_toArray, List.set_cons_zero, List.set_cons_succ]
              refine wpAnyH_take (i := 18) (v := .int .i64 (i : Int)) rfl (by kernel_rfl) (by kernel_rfl) (by kernel_rfl) (fun _ _ _ h => h) (Or.inl ⟨by rfl, by intro w hSw; (try dsimp only at hSw); go_simp⟩) (by assumption) ?_
              try simp only [Act.put, List.getElem_toArray, List.getElem_cons_succ, List.getElem_cons_zero, List.setIfInBounds_toArray, List.set_cons_zero, List.set_cons_succ]
              refine wpAnyH_take (i := 19) (v := .pointer (some ⟨RB, ro + i, none⟩)) rfl (by kernel_rfl) (by kernel_rfl) (by kernel_rfl) (fun _ _ _ h => h) (Or.inl ⟨by rfl, by intro w hSw; (try dsimp only at hSw); go_simp⟩) (by assumption) ?_
              try simp only [Act.put, List.getElem_toArray, List.getElem_cons_succ, List.getElem_cons_zero, List.setIfInBounds_toArray, List.set_cons_zero, List.set_cons_succ]
              refine wpAnyH_take (i := 20) (v := ui) rfl (by kernel_rfl) (by kernel_rfl) (by kernel_rfl) (fun _ _ _ h => h) (Or.inl ⟨by rfl, by intro w hSw; (try dsimp only at hSw); go_simp⟩) (by assumption) ?_
              try simp only [Act.put, List.getElem_toArray, List.getElem_cons_succ, List.getElem_cons_zero, List.setIfInBounds_toArray, List.set_cons_zero, List.set_cons_succ]
              refine wpAnyH_take (i := 21) (v := .int .i64 cols) rfl (by kernel_rfl) (by kernel_rfl) (by kernel_rfl) (fun _ _ _ h => h) (Or.inl ⟨by rfl, by intro w hSw; (try dsimp only at hSw); go_simp⟩) (by assumption) ?_
              try simp only [Act.put, List.getElem_toArray, List.getElem_cons_succ, List.getElem_cons_zero, List.setIfInBounds_toArray, List.set_cons_zero, List.set_cons_succ]
              refine wpAnyH_take (i := 22) (v := vl) rfl (by kernel_rfl) (by kernel_rfl) (by kernel_rfl) (fun _ _ _ h => h) (Or.inl ⟨by rfl, by intro w hSw; (try dsimp only at hSw); go_simp⟩) (by assumption) ?_
              try simp only [Act.put, List.getElem_toArray, List.getElem_cons_succ, List.getElem_cons_zero, List.setIfInBounds_toArray, List.set_cons_zero, List.set_cons_succ]
              refine wpAnyH_ready (rs := [23]) (by kernel_rfl) (by simp) ?_
              refine AllReadyH.cons rfl (fun K hK => ?_) AllReadyH.nil
              go_simp
              go_at_call_of 9 uk
              refine (C9B.out _ (by assumption)).mono ?_
              rintro e w' ⟨rfl, hS⟩
              refine hK.out _ _ hS (fun hHeld3 => ?_)
              clear hK K
              try simp only [Act.put, List.getElem_toArray, List.getElem_cons_succ, List.getElem_cons_zero, List.setIfInBounds_toArray, List.set_cons_zero, List.set_cons_succ]
              refine wpAnyH_take (i := 24) (v := .bool true) rfl (by kernel_rfl) (by kernel_rfl) (by kernel_rfl) (fun _ _ _ h => h) (Or.inl ⟨by rfl, by intro w hSw; (try dsimp only at hSw); go_simp⟩) (by assumption) ?_
              try simp only [Act.put, List.getElem_toArray, List.getElem_cons_succ, List.getElem_cons_zero, List.setIfInBounds_toArray, List.set_cons_zero, List.set_cons_succ]
              refine wpAnyH_take (i := 25) (v := .bool true) rfl (by kernel_rfl) (by kernel_rfl) (by kernel_rfl) (fun _ _ _ h => h) (Or.inl ⟨by rfl, by intro w hSw; (try dsimp only at hSw); go_simp⟩) (by assumption) ?_
              try simp only [Act.put, List.getElem_toArray, List.getElem_cons_succ, List.getElem_cons_zero, List.setIfInBounds_toArray, List.set_cons_zero, List.set_cons_succ]
              refine wpAnyH_done (by kernel_rfl) ?_ _
              refine NoPanic.normal ?_
              go_wp2_with fail
              go_ret
              exact ⟨false, rfl, (fun h => by cases h), (KB.out _ (by assumption)).out⟩
        · have f1 : decide ((k : Int) < (i : Int)) = false := by simp; omega
          go_wp2_with fail
          go_roundg (rows.length - (i + 1))
          case measure => omega
          case rel =>
            refine ⟨i + 1, by simp, by omega, by omega, fun i' hi' k' hk' => ?_, HB2.out⟩
            by_cases e : i' = i
            · subst e; exact HK.out k' (by omega)
            · exact HA.out i' (by omega) k' hk'
    · have e1 : decide ((i : Int) < (rows.length : Int)) = false := by simp; omega
      go_wp2_with fail
      go_ret
      exact ⟨true, rfl, fun _ i' k' hi' hk' => HA.out i' (by omega) k' hk', HB.out⟩
end Go.Proofs.YteplcmhmjdiimaaGreatDoor
