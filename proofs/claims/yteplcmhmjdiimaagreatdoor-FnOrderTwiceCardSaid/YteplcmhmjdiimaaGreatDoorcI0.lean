/-
  The closure that compares two rows: what it finds in memory.
-/
import Derived.Test.YteplcmhmjdiimaaGreatDoorcG0
import Derived.Test.YteplcmhmjdiimaaGreatDoorcH0
import Derived.Test.YteplcmhmjdiimaaGreatDoorcS0
namespace Go.Proofs.YteplcmhmjdiimaaGreatDoor
open Go.RowKit

/-- A row of texts in memory, apart from the block blk. -/
def StrRow (W : World) (blk : Nat) (v : Value) (l : List ByteArray) : Prop :=
  (l = [] ∧ ∃ base c, v = .slice base 0 c) ∨ ∃ b o c, v = .slice (some ⟨b, o, none⟩) l.length c ∧ b ≠ blk ∧ b < W.heap.size ∧ l.length ≤ c ∧ ∀ j, j < l.length → W.cell? ⟨b, o + j, none⟩ = some (.string (l.getD j ByteArray.empty))

theorem StrRow.shape {W : World} {blk : Nat} {v : Value} {l : List ByteArray} (h : StrRow W blk v l) :
    ∃ base c, v = .slice base l.length c ∧ ∀ j, j < l.length → ∃ b o, base = some ⟨b, o, none⟩ ∧ b < W.heap.size ∧ l.length ≤ c ∧ W.cell? ⟨b, o + j, none⟩ = some (.string (l.getD j ByteArray.empty)) := by
  rcases h with ⟨rfl, base, c, rfl⟩ | ⟨b, o, c, rfl, -, hb, hc, hcell⟩
  · exact ⟨base, c, rfl, fun j hj => absurd hj (by simp)⟩
  · exact ⟨_, c, rfl, fun j hj => ⟨b, o, rfl, hb, hc, hcell j hj⟩⟩

structure Rule where
  num : Nat
  mode : Nat
  fold : Bool

/-- What the closure finds. -/
structure Ctx (W : World) (blk n bi bp bt T P R ro : Nat) (rows : Nat → List ByteArray) (rs : List Rule) : Prop where
  biLt : bi < W.heap.size
  bpLt : bp < W.heap.size
  btLt : bt < W.heap.size
  tLt : T < W.heap.size
  pLt : P < W.heap.size
  rLt : R < W.heap.size
  biNe : bi ≠ blk
  bpNe : bp ≠ blk
  btNe : bt ≠ blk
  tNe : T ≠ blk
  pNe : P ≠ blk
  rNe : R ≠ blk
  idx : ∃ c, W.cell? ⟨bi, 0, none⟩ = some (.slice (some ⟨blk, 0, none⟩) n c)
  rul : ∃ c, W.cell? ⟨bp, 0, none⟩ = some (.slice (some ⟨P, 0, none⟩) rs.length c)
  tab : W.cell? ⟨bt, 0, none⟩ = some (.pointer (some ⟨T, 0, none⟩))
  row : ∃ c, W.cell? ⟨T, 20, none⟩ = some (.slice (some ⟨R, ro, none⟩) n c)
  rowAt : ∀ i, i < n → ∃ v, W.cell? ⟨R, ro + i, none⟩ = some v ∧ StrRow W blk v (rows i)
  rulAt : ∀ k, (h : k < rs.length) → W.cell? ⟨P, k * 5, none⟩ = some (.string ⟨#[]⟩) ∧ W.cell? ⟨P, k * 5 + 1, none⟩ = some (.int .i64 (rs[k].num : Int)) ∧ W.cell? ⟨P, k * 5 + 2, none⟩ = some (.int .i64 (rs[k].mode : Int)) ∧
    W.cell? ⟨P, k * 5 + 3, none⟩ = some (.bool rs[k].fold) ∧ W.cell? ⟨P, k * 5 + 4, none⟩ = some .nilFunc
  num1 : ∀ k, (h : k < rs.length) → 1 ≤ rs[k].num ∧ rs[k].num ≤ 1000

/-- The cell that a rule looks at. -/
def rcell (l : List ByteArray) (r : Rule) : ByteArray := l.getD (r.num - 1) ByteArray.empty

/-- lexL, with what has been found so far. -/
def lexG (acc : Bool) : List (Bool × Bool) → Bool
  | [] => acc
  | p :: r => if p.1 then lexG p.2 r else p.2
theorem lexG_lexL (l : List (Bool × Bool)) : ∀ acc, l ≠ [] → lexG acc l = lexL l := by
  induction l with
  | nil => intro _ h; exact absurd rfl h
  | cons p r ih =>
    intro acc _
    cases r with
    | nil => unfold lexG lexL; cases p.1 <;> rfl
    | cons q r =>
      show (if p.1 then lexG p.2 (q :: r) else p.2) = if p.1 then lexL (q :: r) else p.2
      rw [ih p.2 (by simp)]
theorem lexG_false (l : List (Bool × Bool)) : lexG false l = lexL l := by
  cases l with
  | nil => rfl
  | cons p r => exact lexG_lexL _ _ (by simp)

set_option maxHeartbeats 4000000 in
set_option maxRecDepth 100000 in
theorem closure_calls (W : World) (blk n bi bp bt T P R ro : Nat) (rows : Nat → List ByteArray) (rs : List Rule) (hc : Ctx W blk n bi bp bt T P R ro rows rs)
    (a b : Nat) (i j : Nat) (hi : i < n) (hj : j < n) (ha : a < n) (hb : b < n) (h1 : W.cell? ⟨blk, i, none⟩ = some (.int .i64 a)) (h2 : W.cell? ⟨blk, j, none⟩ = some (.int .i64 b))
    (hrs : rs.length ≤ 100)
    (C : Nat → Bool × Bool)
    (hless : ∀ k, (h : k < rs.length) → (∀ k', k' < k → (C k').1 = true) → ∀ w, Below W.heap.size W w → Calls Tryz.prog 30 #[.string (rcell (rows a) rs[k]), .string (rcell (rows b) rs[k]), SB ⟨#[]⟩ rs[k].num rs[k].mode rs[k].fold] w fun e w' =>
      e = .returned (.tuple #[.bool (C k).1, .bool (C k).2]) ∧ Below w.heap.size w w') :
    Calls Tryz.prog 29 #[.int .i64 i, .int .i64 j, .pointer (some ⟨bi, 0, none⟩), .pointer (some ⟨bp, 0, none⟩), .pointer (some ⟨bt, 0, none⟩)] W fun e w' =>
      e = .returned (.bool (lexL ((List.range rs.length).map C))) ∧ Below W.heap.size W w' := by
  obtain ⟨cc, g1⟩ := hc.idx
  obtain ⟨cr, g2⟩ := hc.rul
  have g3 := hc.tab
  obtain ⟨cw, g4⟩ := hc.row
  have HC := aside hc
  have HL := aside hless
  have q1 : (i : Int) < (n : Int) := by omega
  have q2 : (j : Int) < (n : Int) := by omega
  clear hc hless
  have hsf : ∀ (w : World) (a : Addr) (m : Mode), (store a .nilFunc m).run Tryz.prog w = stored Tryz.prog w a .nilFunc m := fun w a m => run_store Tryz.prog w a .nilFunc m rfl
  go_enter Tryz.func29, Tryz.ntmps29
  go_wp2_with fail
  go_quiet (fail)
  go_wp2_with fail
  obtain ⟨w0, hw0⟩ : ∃ w0, w0 = W.drewN nq := ⟨_, rfl⟩
  rw [← hw0]
  have hB0 : Below W.heap.size W w0 := by rw [hw0]; exact ⟨rfl, rfl, rfl, Nat.le_refl _, fun _ _ => rfl⟩
  have HB0 := aside hB0
  clear hw0 hB0 g1 h1 h2 q1 q2
  have G3 := aside g3
  have G4 := aside g4
  clear g3 g4
  go_loopg [8, 9, 29] rs.length (fun q s8 s9 s29 wr => ∃ (k : Nat) (eq acc : Bool), s29 = .int .i64 k ∧ s8 = .bool eq ∧ s9 = .bool acc ∧ k ≤ rs.length ∧ rs.length ≤ q + k ∧ Hid (∀ k', k' < k → (C k').1 = true) ∧
    Hid (lexG acc (((List.range rs.length).map C).drop k) = lexL ((List.range rs.length).map C)) ∧ Hid (Below W.heap.size W wr))
  case atStart => exact ⟨0, false, false, rfl, rfl, rfl, by omega, by omega, fun k' h => absurd h (by omega), lexG_false _, HB0.out⟩
  case round =>
    obtain ⟨k, eq, acc, rfl, rfl, rfl, hk, hq, HEQ, HLEX, HB⟩ := hrel
    by_cases hlt : k < rs.length
    · have e1 : decide ((k : Int) < (rs.length : Int)) = true := by simp; omega
      have hdrop : ((List.range rs.length).map C).drop k = C k :: ((List.range rs.length).map C).drop (k + 1) := by
        rw [List.drop_eq_getElem_cons (by simpa using hlt)]
        simp
      have HDROP := aside hdrop
      obtain ⟨m1, m2, m3, m4, m5⟩ := HC.out.rulAt k hlt
      have hn1 := HC.out.num1 k hlt
      have hcall := HL.out k hlt HEQ.out
      obtain ⟨num, hnum⟩ : ∃ num, num = rs[k].num := ⟨_, rfl⟩
      obtain ⟨mode, hmode⟩ : ∃ mode, mode = rs[k].mode := ⟨_, rfl⟩
      obtain ⟨fold, hfold⟩ : ∃ fold, fold = rs[k].fold := ⟨_, rfl⟩
      obtain ⟨x, hx⟩ : ∃ x, x = rcell (rows a) rs[k] := ⟨_, rfl⟩
      obtain ⟨y, hy⟩ : ∃ y, y = rcell (rows b) rs[k] := ⟨_, rfl⟩
      rw [← hnum, ← hmode, ← hfold, ← hx, ← hy] at hcall
      rw [← hnum] at m2 hn1
      rw [← hmode] at m3
      rw [← hfold] at m4
      unfold rcell at hx hy
      rw [← hnum] at hx hy
      have pl := HC.out.pLt
      have r1 : wr.cell? ⟨P, k * 5, none⟩ = some (.string ⟨#[]⟩) := by rw [HB.out.cell pl]; exact m1
      have r2 : wr.cell? ⟨P, k * 5 + 1, none⟩ = some (.int .i64 (num : Int)) := by rw [HB.out.cell pl]; exact m2
      have r3 : wr.cell? ⟨P, k * 5 + 2, none⟩ = some (.int .i64 (mode : Int)) := by rw [HB.out.cell pl]; exact m3
      have r4 : wr.cell? ⟨P, k * 5 + 3, none⟩ = some (.bool fold) := by rw [HB.out.cell pl]; exact m4
      have r5 : wr.cell? ⟨P, k * 5 + 4, none⟩ = some .nilFunc := by rw [HB.out.cell pl]; exact m5
      have HCALL := aside hcall
      have HX := aside hx
      have HY := aside hy
      obtain ⟨hn1, hn2⟩ := hn1
      clear m1 m2 m3 m4 m5 hcall hx hy hnum hmode hfold hdrop pl
      have e2 : (k : Int) < (rs.length : Int) := by omega
      go_upto_region 6 with fail
      have hSa := SBAt.new wr ⟨#[]⟩ (num : Int) mode fold
      obtain ⟨wa, hwa⟩ : ∃ wa, wa = wr.alloc (Obj.cells #[.string ⟨#[]⟩, .int .i64 (num : Int), .int .i64 mode, .bool fold, .nilFunc] 72) := ⟨_, rfl⟩
      rw [← hwa] at hSa ⊢
      have hBa : Below W.heap.size W wa := by rw [hwa]; exact HB.out.alloc HB.out.size _
      obtain ⟨F, hF⟩ : ∃ F, F = wr.heap.size := ⟨_, rfl⟩
      rw [← hF] at hSa ⊢
      obtain ⟨va, ga, hva⟩ := HC.out.rowAt a ha
      obtain ⟨vb, gb, hvb⟩ := HC.out.rowAt b hb
      obtain ⟨basea, ca, rfl, hsa⟩ := hva.shape
      obtain ⟨baseb, cb, rfl, hsb⟩ := hvb.shape
      have t3 : wa.cell? ⟨bt, 0, none⟩ = some (.pointer (some ⟨T, 0, none⟩)) := by rw [hBa.cell HC.out.btLt]; exact G3.out
      have t4 : wa.cell? ⟨T, 20, none⟩ = some (.slice (some ⟨R, ro, none⟩) n cw) := by rw [hBa.cell HC.out.tLt]; exact G4.out
      have t5 : wa.cell? ⟨R, ro + a, none⟩ = some (.slice basea (rows a).length ca) := by rw [hBa.cell HC.out.rLt]; exact ga
      have t6 : wa.cell? ⟨R, ro + b, none⟩ = some (.slice baseb (rows b).length cb) := by rw [hBa.cell HC.out.rLt]; exact gb
      obtain ⟨c0, c1, c2, c3, c4⟩ := hSa.c
      obtain ⟨la, hla⟩ : ∃ la, la = (rows a).length := ⟨_, rfl⟩
      obtain ⟨lb, hlb⟩ : ∃ lb, lb = (rows b).length := ⟨_, rfl⟩
      rw [← hla] at t5 hsa
      rw [← hlb] at t6 hsb
      have HLA := aside hla
      have HLB := aside hlb
      have HSA := aside hSa
      have HBA := aside hBa
      have q1 : (a : Int) < (n : Int) := by omega
      have q2 : (b : Int) < (n : Int) := by omega
      have q3 : IntKind.i64.wrap ((num : Int) - 1) = (num : Int) - 1 := IntWalk.i64_in _ (by omega)
      clear r1 r2 r3 r4 r5 ga gb hva hvb hwa hF hla hlb hSa hBa
      go_quiet (fail)
      obtain ⟨w1, hw1⟩ : ∃ w1, w1 = wa.drewN nq := ⟨_, rfl⟩
      rw [← hw1]
      have hB1 : Below W.heap.size W w1 := by rw [hw1]; exact ⟨HBA.out.os, HBA.out.tape, HBA.out.output, HBA.out.size, HBA.out.block⟩
      have hS1 : SBAt w1 F ⟨#[]⟩ (num : Int) mode fold := by rw [hw1]; exact ⟨HSA.out.blk⟩
      have HB1 := aside hB1
      obtain ⟨d0, d1, d2, d3, d4⟩ := hS1.c
      clear hw1 hB1 hS1 t3 t4 t5 t6 c0 c1 c2 c3 c4 q1 q2 q3
      unfold SB at HCALL
      have n0 : (0 : Int) ≤ (num : Int) - 1 := by omega
      have n1 : ((num : Int) - 1).toNat = num - 1 := by omega
      by_cases ina : num - 1 < la
      · by_cases inb : num - 1 < lb
        · have a1 : decide ((num : Int) - 1 < (la : Int)) = true := by simp; omega
          have a1' : (num : Int) - 1 < (la : Int) := by omega
          obtain ⟨bA, oA, rfl, hbA, hcA, cA⟩ := hsa (num - 1) (by omega)
          have cA' : w1.cell? ⟨bA, oA + (num - 1), none⟩ = some (.string x) := by rw [HB1.out.cell hbA, cA, ← HX.out]
          clear cA
          have b1 : decide ((num : Int) - 1 < (lb : Int)) = true := by simp; omega
          have b1' : (num : Int) - 1 < (lb : Int) := by omega
          obtain ⟨bB, oB, rfl, hbB, hcB, cB⟩ := hsb (num - 1) (by omega)
          have cB' : w1.cell? ⟨bB, oB + (num - 1), none⟩ = some (.string y) := by rw [HB1.out.cell hbB, cB, ← HY.out]
          clear cB
          clear hsa hsb
          go_wp2_with (go_at_call 30; refine (HCALL.out _ HB1.out).mono ?_; rintro e w3 ⟨rfl, hB3⟩; refine Hid.out ?_)
          refine Lib.hid ?_
          have HB3 := aside (HB1.out.trans (hB3.mono HB1.out.size))
          clear hB3
          cases hc1 : (C k).1
          · have HC1 := aside hc1
            clear hc1
            go_wp2_with fail
            go_ret
            refine ⟨?_, HB3.out⟩
            have h5 := HLEX.out
            rw [HDROP.out] at h5
            unfold lexG at h5
            rw [HC1.out] at h5
            rw [← h5]
            rfl
          · have HC1 := aside hc1
            clear hc1
            go_wp2_with fail
            go_roundg (rs.length - (k + 1))
            case measure => omega
            case rel =>
              refine ⟨k + 1, true, (C k).2, by simp, rfl, rfl, by omega, by omega, ?_, ?_, HB3.out⟩
              · intro k' hk'
                by_cases hkk : k' = k
                · subst hkk; exact HC1.out
                · exact HEQ.out k' (by omega)
              · have h5 := HLEX.out
                rw [HDROP.out] at h5
                unfold lexG at h5
                rw [HC1.out] at h5
                exact h5
        · have a1 : decide ((num : Int) - 1 < (la : Int)) = true := by simp; omega
          have a1' : (num : Int) - 1 < (la : Int) := by omega
          obtain ⟨bA, oA, rfl, hbA, hcA, cA⟩ := hsa (num - 1) (by omega)
          have cA' : w1.cell? ⟨bA, oA + (num - 1), none⟩ = some (.string x) := by rw [HB1.out.cell hbA, cA, ← HX.out]
          clear cA
          have b1 : decide ((num : Int) - 1 < (lb : Int)) = false := by simp; omega
          have b1' : ¬ (num : Int) - 1 < (lb : Int) := by omega
          have hy0 : y = ⟨#[]⟩ := by rw [HY.out, List.getD_eq_getElem?_getD, List.getElem?_eq_none (by rw [← HLB.out]; omega)]; rfl
          subst hy0
          clear hsa hsb
          go_wp2_with (go_at_call 30; refine (HCALL.out _ HB1.out).mono ?_; rintro e w3 ⟨rfl, hB3⟩; refine Hid.out ?_)
          refine Lib.hid ?_
          have HB3 := aside (HB1.out.trans (hB3.mono HB1.out.size))
          clear hB3
          cases hc1 : (C k).1
          · have HC1 := aside hc1
            clear hc1
            go_wp2_with fail
            go_ret
            refine ⟨?_, HB3.out⟩
            have h5 := HLEX.out
            rw [HDROP.out] at h5
            unfold lexG at h5
            rw [HC1.out] at h5
            rw [← h5]
            rfl
          · have HC1 := aside hc1
            clear hc1
            go_wp2_with fail
            go_roundg (rs.length - (k + 1))
            case measure => omega
            case rel =>
              refine ⟨k + 1, true, (C k).2, by simp, rfl, rfl, by omega, by omega, ?_, ?_, HB3.out⟩
              · intro k' hk'
                by_cases hkk : k' = k
                · subst hkk; exact HC1.out
                · exact HEQ.out k' (by omega)
              · have h5 := HLEX.out
                rw [HDROP.out] at h5
                unfold lexG at h5
                rw [HC1.out] at h5
                exact h5
      · by_cases inb : num - 1 < lb
        · have a1 : decide ((num : Int) - 1 < (la : Int)) = false := by simp; omega
          have a1' : ¬ (num : Int) - 1 < (la : Int) := by omega
          have hx0 : x = ⟨#[]⟩ := by rw [HX.out, List.getD_eq_getElem?_getD, List.getElem?_eq_none (by rw [← HLA.out]; omega)]; rfl
          subst hx0
          have b1 : decide ((num : Int) - 1 < (lb : Int)) = true := by simp; omega
          have b1' : (num : Int) - 1 < (lb : Int) := by omega
          obtain ⟨bB, oB, rfl, hbB, hcB, cB⟩ := hsb (num - 1) (by omega)
          have cB' : w1.cell? ⟨bB, oB + (num - 1), none⟩ = some (.string y) := by rw [HB1.out.cell hbB, cB, ← HY.out]
          clear cB
          clear hsa hsb
          go_wp2_with (go_at_call 30; refine (HCALL.out _ HB1.out).mono ?_; rintro e w3 ⟨rfl, hB3⟩; refine Hid.out ?_)
          refine Lib.hid ?_
          have HB3 := aside (HB1.out.trans (hB3.mono HB1.out.size))
          clear hB3
          cases hc1 : (C k).1
          · have HC1 := aside hc1
            clear hc1
            go_wp2_with fail
            go_ret
            refine ⟨?_, HB3.out⟩
            have h5 := HLEX.out
            rw [HDROP.out] at h5
            unfold lexG at h5
            rw [HC1.out] at h5
            rw [← h5]
            rfl
          · have HC1 := aside hc1
            clear hc1
            go_wp2_with fail
            go_roundg (rs.length - (k + 1))
            case measure => omega
            case rel =>
              refine ⟨k + 1, true, (C k).2, by simp, rfl, rfl, by omega, by omega, ?_, ?_, HB3.out⟩
              · intro k' hk'
                by_cases hkk : k' = k
                · subst hkk; exact HC1.out
                · exact HEQ.out k' (by omega)
              · have h5 := HLEX.out
                rw [HDROP.out] at h5
                unfold lexG at h5
                rw [HC1.out] at h5
                exact h5
        · have a1 : decide ((num : Int) - 1 < (la : Int)) = false := by simp; omega
          have a1' : ¬ (num : Int) - 1 < (la : Int) := by omega
          have hx0 : x = ⟨#[]⟩ := by rw [HX.out, List.getD_eq_getElem?_getD, List.getElem?_eq_none (by rw [← HLA.out]; omega)]; rfl
          subst hx0
          have b1 : decide ((num : Int) - 1 < (lb : Int)) = false := by simp; omega
          have b1' : ¬ (num : Int) - 1 < (lb : Int) := by omega
          have hy0 : y = ⟨#[]⟩ := by rw [HY.out, List.getD_eq_getElem?_getD, List.getElem?_eq_none (by rw [← HLB.out]; omega)]; rfl
          subst hy0
          clear hsa hsb
          go_wp2_with (go_at_call 30; refine (HCALL.out _ HB1.out).mono ?_; rintro e w3 ⟨rfl, hB3⟩; refine Hid.out ?_)
          refine Lib.hid ?_
          have HB3 := aside (HB1.out.trans (hB3.mono HB1.out.size))
          clear hB3
          cases hc1 : (C k).1
          · have HC1 := aside hc1
            clear hc1
            go_wp2_with fail
            go_ret
            refine ⟨?_, HB3.out⟩
            have h5 := HLEX.out
            rw [HDROP.out] at h5
            unfold lexG at h5
            rw [HC1.out] at h5
            rw [← h5]
            rfl
          · have HC1 := aside hc1
            clear hc1
            go_wp2_with fail
            go_roundg (rs.length - (k + 1))
            case measure => omega
            case rel =>
              refine ⟨k + 1, true, (C k).2, by simp, rfl, rfl, by omega, by omega, ?_, ?_, HB3.out⟩
              · intro k' hk'
                by_cases hkk : k' = k
                · subst hkk; exact HC1.out
                · exact HEQ.out k' (by omega)
              · have h5 := HLEX.out
                rw [HDROP.out] at h5
                unfold lexG at h5
                rw [HC1.out] at h5
                exact h5
    · have e1 : decide ((k : Int) < (rs.length : Int)) = false := by simp; omega
      have hkl : k = rs.length := by omega
      go_wp2_with fail
      go_ret
      refine ⟨?_, HB.out⟩
      have h5 := HLEX.out
      rw [List.drop_of_length_le (by simp; omega)] at h5
      rw [← h5]
      rfl
end Go.Proofs.YteplcmhmjdiimaaGreatDoor
