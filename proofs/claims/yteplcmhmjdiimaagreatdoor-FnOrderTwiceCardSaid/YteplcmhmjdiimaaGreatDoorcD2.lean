/-
  half: a decimal divided by 2^k.
  double: a decimal multiplied by 2^k.
  digit, nearUp, whole, shift: a decimal read as a whole number.
  bits: a whole number of at most 15 digits as the bits of a double.
  bits: the walk.
  Bytes of texts; fold: a text against a word, letters of either case alike.
-/
import Derived.Test.YteplcmhmjdiimaaGreatDoorcD1
import Derived.Lib.Hide
namespace Go.Proofs.YteplcmhmjdiimaaGreatDoor
open Go.RowKit

theorem pow_le59 {k : Nat} (hk : k ≤ 59) : (2 : Nat) ^ k ≤ 576460752303423488 := by
  have : (2 : Nat) ^ k ≤ 2 ^ 59 := Nat.pow_le_pow_right (by omega) hk
  have e : (2 : Nat) ^ 59 = 576460752303423488 := by decide
  omega
theorem wrap_mul10 {n k : Nat} (hk : k ≤ 59) (h : n < 2 ^ k) : IntKind.u64.wrap ((n : Int) * 10) = (n : Int) * 10 := by
  have := pow_le59 hk
  exact IntWalk.u64_in _ (by omega)
theorem wrap_mul10_add {n k z : Nat} (hk : k ≤ 59) (h : n < 2 ^ k) (hz : z < 10) : IntKind.u64.wrap ((n : Int) * 10 + (z : Int)) = (n : Int) * 10 + (z : Int) := by
  have := pow_le59 hk
  exact IntWalk.u64_in _ (by omega)

theorem DecAt.below {w w' : World} {B D g cap : Nat} {ds : List Nat} {dp : Int} {N : Nat} (h : DecAt w B D g cap ds dp) (hb : Below N w w') (hD : D < N) (hg : g < N) : DecAt w' B D g cap ds dp := by
  refine ⟨by rw [hb.block D hD]; exact h.blk, ?_, h.ne, h.ge⟩
  refine ⟨h.row.1, ?_⟩
  rcases h.row.2 with h' | ⟨g', cap', cur, h', h2, h3, h4⟩
  · exact .inl h'
  · refine .inr ⟨g', cap', cur, h', h2, ?_, h4⟩
    simp only [Value.slice.injEq, Option.some.injEq, Addr.mk.injEq, and_true, true_and] at h'
    rw [← h'.1, hb.block g hg]
    rw [← h'.1] at h3
    exact h3
theorem byte_info : (Tryz.prog.info? 5).map (fun i => (i.zero, i.size, i.bytes)) = some (some (.int .u8 0), 1, 1) := by kernel_rfl
theorem mask_and {n k z : Nat} (hk : k ≤ 59) (hn : n < 10 * 2 ^ k) (hz : z < 10) :
    IntKind.u64.wrap (IntKind.u64.wrap (bits .and .u64 (n : Int) (IntKind.u64.wrap (IntKind.u64.wrap (2 ^ k) - 1)) * 10) + (z : Int)) = ((n % 2 ^ k * 10 + z : Nat) : Int) := by
  have h1 := pow_le59 hk
  have h2 := Nat.two_pow_pos k
  have e1 : IntKind.u64.wrap ((2 : Int) ^ k) = ((2 ^ k : Nat) : Int) := by
    have : ((2 : Int) ^ k) = ((2 ^ k : Nat) : Int) := by simp
    rw [this]
    exact IntWalk.u64_in _ (by omega)
  have e2 : IntKind.u64.wrap (((2 ^ k : Nat) : Int) - 1) = ((2 ^ k - 1 : Nat) : Int) := by
    rw [show ((2 ^ k : Nat) : Int) - 1 = ((2 ^ k - 1 : Nat) : Int) by omega]
    exact IntWalk.u64_in _ (by omega)
  have e3 : bits .and .u64 (n : Int) ((2 ^ k - 1 : Nat) : Int) = ((n % 2 ^ k : Nat) : Int) := by
    rw [bits_and_u64_nat _ _ (by omega) (by omega), Nat.and_two_pow_sub_one_eq_mod]
  have h3 := Nat.mod_lt n h2
  have h4 : n % 2 ^ k < 576460752303423488 := Nat.lt_of_lt_of_le h3 h1
  rw [e1, e2, e3, show ((n % 2 ^ k : Nat) : Int) * 10 = ((n % 2 ^ k * 10 : Nat) : Int) by omega, IntWalk.u64_in ((n % 2 ^ k * 10 : Nat) : Int) (by omega), IntWalk.u64_in _ (by omega)]
  omega
theorem mask_and0 {n k : Nat} (hk : k ≤ 59) (hn : n < 10 * 2 ^ k) :
    IntKind.u64.wrap (bits .and .u64 (n : Int) (IntKind.u64.wrap (IntKind.u64.wrap (2 ^ k) - 1)) * 10) = ((n % 2 ^ k * 10 : Nat) : Int) := by
  have h1 := pow_le59 hk
  have h2 := Nat.two_pow_pos k
  have e1 : IntKind.u64.wrap ((2 : Int) ^ k) = ((2 ^ k : Nat) : Int) := by
    have : ((2 : Int) ^ k) = ((2 ^ k : Nat) : Int) := by simp
    rw [this]
    exact IntWalk.u64_in _ (by omega)
  have e2 : IntKind.u64.wrap (((2 ^ k : Nat) : Int) - 1) = ((2 ^ k - 1 : Nat) : Int) := by
    rw [show ((2 ^ k : Nat) : Int) - 1 = ((2 ^ k - 1 : Nat) : Int) by omega]
    exact IntWalk.u64_in _ (by omega)
  have e3 : bits .and .u64 (n : Int) ((2 ^ k - 1 : Nat) : Int) = ((n % 2 ^ k : Nat) : Int) := by
    rw [bits_and_u64_nat _ _ (by omega) (by omega), Nat.and_two_pow_sub_one_eq_mod]
  have h3 := Nat.mod_lt n h2
  have h4 : n % 2 ^ k < 576460752303423488 := Nat.lt_of_lt_of_le h3 h1
  rw [e1, e2, e3, show ((n % 2 ^ k : Nat) : Int) * 10 = ((n % 2 ^ k * 10 : Nat) : Int) by omega, IntWalk.u64_in _ (by omega)]
theorem DecAt.new {w : World} {B D g cap : Nat} {ds O : List Nat} {dp : Int} {N : Nat} {v : Value} (hA : DecAt w B D g cap ds dp) (hO : w.ownsRow N 5 1 v O.length (dcells O)) (hD : D < N) (hne : O ≠ []) :
    ∃ g' cap', v = .slice (some ⟨g', 0, none⟩) O.length cap' ∧ DecAt (w.setCell ⟨D, 0, none⟩ v) B D g' cap' O dp := by
  have hp : 0 < O.length := List.length_pos_iff.2 hne
  have hge := hA.ge
  rcases hO.2 with ⟨_, h0⟩ | ⟨g', cap', cur, hv, hb, hg, hn, hc, hs, ht⟩
  · omega
  · refine ⟨g', cap', hv, ?_, ?_, by omega, hge⟩
    · rw [hv]; exact heap_setCell_same w D 0 _ 179 _ hA.blk
    · refine ⟨by rw [dcells_length]; omega, .inr ⟨g', cap', cur, rfl, by omega, ?_, hn, hc, hs, ht⟩⟩
      rw [heap_setCell_other _ _ _ _ (by show g' ≠ D; omega)]; exact hg
/-- What half leaves. -/
def HalfPost (w : World) (B D k : Nat) (ds : List Nat) (dp : Int) (w' : World) : Prop :=
  w.grownBy w' (some D) ∧ ∃ g' cap' ds' dp', DecAt w' B D g' cap' ds' dp' ∧ Dec.Norm ds' ∧ 2 ^ k * Dec.V ds' dp' = Dec.V ds dp ∧ Dec.Fits ds' dp' ∧ (ds'.length : Int) - dp' ≤ max ((ds.length : Int) - dp) (19 - dp) + k + 4

set_option maxHeartbeats 2000000 in
set_option maxRecDepth 100000 in
theorem half_calls (w : World) (B D g cap : Nat) (ds : List Nat) (dp : Int) (k : Nat) (h : DecAt w B D g cap ds dp) (hN : Dec.Norm ds) (hk : 1 ≤ k) (hk' : k ≤ 59)
    (hlen : ds.length ≤ 300) (hdp : -300 ≤ dp) (hdp' : dp ≤ 300) (hF : max (ds.length : Int) 19 + k + 4 ≤ dp + 250) :
    Calls Tryz.prog 113 #[.pointer (some ⟨D, 0, none⟩), .int .i64 k] w fun e w' => e = .returned (.tuple #[]) ∧ HalfPost w B D k ds dp w' := by
  have hcap := h.capLe
  have em : min k 64 = k := by omega
  have c0 := h.c0
  go_enter Tryz.func113, Tryz.ntmps113
  go_wp2
  have c1 := h.c1
  have f0 := h.f 0
  have f1 := h.f 1
  have HD := aside h
  go_loopg [4, 5] 20 (fun q s4 s5 wr => ∃ i n : Nat, s4 = .int .u64 n ∧ s5 = .int .i64 i ∧ Hid (n = Dec.P ds i) ∧ i ≤ 19 ∧ 20 ≤ q + i ∧ Hid (i ≠ 0 → Dec.P ds (i - 1) < 2 ^ k) ∧ w = wr)
  case atStart => exact ⟨0, 0, rfl, rfl, (Dec.P_zero ds).symm, by omega, by omega, fun h => absurd rfl h, rfl⟩
  case round =>
    obtain ⟨i, n, rfl, rfl, Hn, hi, hq, Hp, rfl⟩ := hrel
    by_cases hlt : n < 2 ^ k
    · have hz : (((n : Int) / 2 ^ k) == 0) = true := by
        simp only [beq_iff_eq]
        exact Int.ediv_eq_zero_of_lt (by omega) (by exact_mod_cast hlt)
      have w1 := wrap_mul10 hk' hlt
      have hi18 : i ≤ 18 := Dec.P_small hN hk' (by rw [← Hn.out]; exact hlt)
      have HLT := aside hlt
      clear hlt
      by_cases hil : i < ds.length
      · have d1 : w.cell? ⟨g, i, none⟩ = some (.int .u8 ((ds.getD i 0 : Nat) : Int)) := HD.out.d i hil
        obtain ⟨z, hz⟩ : ∃ z : Nat, z = ds.getD i 0 := ⟨_, rfl⟩
        rw [← hz] at d1
        have hz9 : z < 10 := by
          have := hN.dig (ds[i]) (List.getElem_mem hil)
          rw [hz]
          simpa [List.getD_eq_getElem?_getD, List.getElem?_eq_getElem hil] using this
        have HZ := aside hz
        have w2 := wrap_mul10_add hk' HLT.out hz9
        clear hz
        have hge : decide ((ds.length : Int) ≤ (i : Int)) = false := by simp; omega
        go_wp2_with fail
        go_roundg (20 - (i + 1))
        case measure => omega
        case rel =>
          refine ⟨i + 1, n * 10 + z, by simp, by simp, ?_, by omega, by omega, fun _ => by simpa [Hn.out] using HLT.out, rfl⟩
          show _ = _
          rw [Dec.P_succ_in ds i hil, ← Hn.out, HZ.out]
      · have hge : decide ((ds.length : Int) ≤ (i : Int)) = true := by simp; omega
        have hlt' : decide ((i : Int) < (ds.length : Int)) = false := by simp; omega
        have hn0 : ((n : Int) == 0) = false := by
          simp only [beq_eq_false_iff_ne, ne_eq]
          have := Dec.P_ge hN (i - 1)
          have hl := hN.len
          have h1 := Nat.pow_pos (n := i - 1) (show 0 < 10 by omega)
          rw [show i - 1 + 1 = i by omega, ← Hn.out] at this
          omega
        go_wp2_with fail
        go_roundg (20 - (i + 1))
        case measure => omega
        case rel =>
          refine ⟨i + 1, n * 10, by simp, by simp, ?_, by omega, by omega, fun _ => by simpa [Hn.out] using HLT.out, rfl⟩
          show _ = _
          rw [Dec.P_succ_out ds i (by omega), ← Hn.out]
    · have hz : (((n : Int) / 2 ^ k) == 0) = false := by
        simp only [beq_eq_false_iff_ne, ne_eq]
        intro e
        have h1 : n / 2 ^ k = 0 := by exact_mod_cast e
        have := Nat.two_pow_pos k
        rcases (Nat.div_eq_zero_iff).1 h1 with h2 | h2 <;> omega
      have hsub : IntKind.i64.wrap ((i : Int) - 1) = (i : Int) - 1 := IntWalk.i64_in _ (by omega)
      have hsub2 : IntKind.i64.wrap (dp - ((i : Int) - 1)) = dp - ((i : Int) - 1) := IntWalk.i64_in _ (by omega)
      have i0 : 1 ≤ i := by
        rcases Nat.eq_zero_or_pos i with h0 | h0
        · subst h0
          exfalso
          have e : n = 0 := by rw [Hn.out, Dec.P_zero]
          have := Nat.two_pow_pos k
          omega
        · exact h0
      have hlow : 2 ^ k ≤ Dec.P ds i := by rw [← Hn.out]; omega
      have hhigh : Dec.P ds i < 10 * 2 ^ k := by
        have h1 := Hp.out (by omega)
        obtain ⟨i', rfl⟩ : ∃ i', i = i' + 1 := ⟨i - 1, by omega⟩
        simp only [Nat.add_sub_cancel] at h1
        by_cases hi' : i' < ds.length
        · rw [Dec.P_succ_in ds i' hi']
          have := hN.dig (ds[i']) (List.getElem_mem hi')
          have e : ds.getD i' 0 = ds[i'] := by simp [List.getD_eq_getElem?_getD, List.getElem?_eq_getElem hi']
          omega
        · rw [Dec.P_succ_out ds i' (by omega)]; omega
      have HH : Hid (Dec.Half ds k i i [] n) := by show Dec.Half _ _ _ _ _ _; rw [Hn.out]; exact Dec.Half.start hlow hhigh
      obtain ⟨m0, hm0⟩ : ∃ m0, m0 = max i ds.length + k + 4 := ⟨_, rfl⟩
      have HM := aside hm0
      have HLH := aside (And.intro hlow hhigh)
      clear hlow hhigh hm0
      go_wp2_with fail
      obtain ⟨w1, hw1⟩ : ∃ w1, w1 = w.setCell ⟨D, 1, none⟩ (.int .i64 (dp - ((i : Int) - 1))) := ⟨_, rfl⟩
      rw [← hw1]
      have HW1 := aside hw1
      clear hw1
      have hgD := HD.out.glt
      have hDl := HD.out.lt
      have hG1 : w.grownBy w1 (some D) := by rw [HW1.out]; exact grownBy_set (grownBy_refl _ _) _ _
      have hA1 : DecAt w1 B D g cap ds (dp - ((i : Int) - 1)) := by
        have := HD.out.cut hG1 ds.length (Nat.le_refl _) (dp' := dp - ((i : Int) - 1)) (by rw [HW1.out]; exact heap_setCell_same w D 1 _ 179 _ HD.out.blk)
        rwa [List.take_length] at this
      have hs1 : w1.heap.size = w.heap.size := by rw [HW1.out]; simp only [World.setCell, Array.size_modify]
      have HA := aside hA1
      have HG := aside hG1
      have HS1 := aside hs1
      clear hG1 hA1 hs1 c0 c1 f0 f1
      obtain ⟨i5, hi5, hz5, hs5, hb5⟩ := info_parts byte_info
      go_loopg [4, 5, 6] (m0 - i) (fun q s4 s5 s6 wr => ∃ (j n' : Nat) (O : List Nat), s4 = .int .u64 n' ∧ s5 = .int .i64 j ∧ Hid (Dec.Half ds k i j O n') ∧ i ≤ j ∧ j ≤ m0 ∧ m0 ≤ q + j ∧ Hid (Below w.heap.size w1 wr) ∧ Hid (wr.ownsRow w.heap.size 5 1 s6 O.length (dcells O)))
      case atStart => exact ⟨i, n, [], rfl, rfl, HH.out, Nat.le_refl _, by have := HM.out; omega, by omega, Below.refl _ _, World.ownsRow_nil _ _ _ _⟩
      case round =>
        obtain ⟨j, n', O, rfl, rfl, HH', hij, hjm, hq, HB, HO⟩ := hrel
        have hA := HA.out.below HB.out (by omega) (by omega)
        have c0 := hA.c0
        have f0 := hA.f 0
        have HA' := aside hA
        clear hA
        by_cases hjl : j < ds.length
        · have hjl' : decide ((j : Int) < (ds.length : Int)) = true := by simp; omega
          obtain ⟨q8, hq8⟩ : ∃ q8 : Nat, q8 = n' / 2 ^ k := ⟨_, rfl⟩
          have hq9 : q8 < 10 := by
            rw [hq8, Nat.div_lt_iff_lt_mul (Nat.two_pow_pos k)]
            exact HH'.out.small
          have hqe : (n' : Int) / 2 ^ k = (q8 : Int) := by rw [hq8]; simp
          have hqw : IntKind.u8.wrap (q8 : Int) = (q8 : Int) := IntWalk.u8_in _ (by omega)
          have HQ8 := aside hq8
          have hBs := HB.out.size
          have hS1 := HS1.out
          have hm0l : m0 ≤ 400 := by have := HM.out; omega
          have hjm' : j < m0 := by have := HM.out; omega
          have hOl : O.length ≤ 400 := by have := HH'.out.len; omega
          clear hq8
          go_wp2_with (at_builtin; refine wpList_append_own _ rfl _ _ 78 rfl w.heap.size 5 i5 (.int .u8 0) 1 1 Tryz.underlying78 hi5 hz5 hs5 hb5 rfl (by decide) _ _ _ rfl (HO.out.alloc _) ⟨wr.heap.size, 0, none⟩ 1 1 [Value.int .u8 q8] rfl rfl (by intro j u' hj; match j, hj with | 0, hj => simp at hj; subst hj; simp [Addr.add]) (by intro u' hu'; simp at hu'; subst hu'; rfl) (by unfold maxLen; omega) (by omega) (by simp; omega) ?_)
          intro v2 w2 hown2 hgrow _
          have hB2 : Below w.heap.size w1 w2 := (HB.out.alloc (by omega) _).grown hgrow (by simp; omega) (fun k' hk' => (HO.out.lt k' hk').1)
          have hA2 := HA.out.below hB2 (by omega) (by omega)
          have c0' := hA2.c0
          have f0' := hA2.f 0
          have d1 : w2.cell? ⟨g, j, none⟩ = some (.int .u8 ((ds.getD j 0 : Nat) : Int)) := hA2.d j hjl
          obtain ⟨z, hz'⟩ : ∃ z : Nat, z = ds.getD j 0 := ⟨_, rfl⟩
          rw [← hz'] at d1
          have hz9 : z < 10 := by
            have := hN.dig (ds[j]) (List.getElem_mem hjl)
            rw [hz']
            simpa [List.getD_eq_getElem?_getD, List.getElem?_eq_getElem hjl] using this
          have HZ := aside hz'
          have HB2 := aside hB2
          have HA2 := aside hA2
          have HOWN := aside hown2
          have HGR := aside hgrow
          clear hz' hB2 hA2 hown2 hgrow HA' hqe hqw c0 f0
          have hc1 : j < cap := by omega
          go_wp2_with fail
          go_roundg (m0 - (j + 1))
          case measure => omega
          case rel =>
            refine ⟨j + 1, n' % 2 ^ k * 10 + z, O ++ [q8], ?_, by simp, ?_, by omega, by omega, by omega, HB2.out, ?_⟩
            · congr 1; exact mask_and hk' HH'.out.small hz9
            · have := HH'.out.step hN.dig
              rw [if_pos hjl, ← HZ.out, ← HQ8.out] at this
              exact this
            · have := HOWN.out; show World.ownsRow _ _ _ _ _ _ _; simpa [dcells] using this
        · have hjl' : decide ((j : Int) < (ds.length : Int)) = false := by simp; omega
          rcases Nat.eq_zero_or_pos n' with hn0 | hn0
          · subst hn0
            have hOne : O ≠ [] := fun e => by have := HH'.out.head e; have := Nat.two_pow_pos k; omega
            obtain ⟨g', cap', rfl, hA3⟩ := HA'.out.new HO.out hDl hOne
            have HA3 := aside hA3
            clear hA3
            have hdl : ds.length ≤ j := by omega
            have hj19 : (j : Int) ≤ dp + 250 := by have := HM.out; omega
            have hdone := HH'.out.done hdl dp (by unfold Dec.Fits; omega) hj19
            have HDN := aside hdone
            clear hdone
            go_wp2_with (go_at_call 109; refine (trim_calls _ B D g' cap' O _ HA3.out HDN.out.1).mono ?_; rintro e w4 ⟨rfl, hg4, hd4⟩; refine Hid.out ?_)
            refine Lib.hid ?_
            go_wp2_with fail
            go_end0
            refine ⟨rfl, ?_⟩
            have hN' := HDN.out.1
            have hg1 : w.grownBy wr (some D) := by
              have hG := HG.out
              have hB := HB.out
              refine ⟨hB.os.trans hG.os, hB.tape.trans hG.tape, hB.output.trans hG.output, Nat.le_trans hG.size hB.size, fun b hb hne => (hB.block b hb).trans (hG.block b hb hne)⟩
            have hV := Dec.V_trimZ O (dp - ((i : Int) - 1)) HDN.out.2.2
            refine ⟨grownBy_trans (grownBy_set hg1 _ _) hg4, g', cap', Dec.trimZ O, _, hd4, Dec.trimZ_norm hN', ?_, hV.2, ?_⟩
            · rw [hV.1]; exact HDN.out.2.1
            · have h1 := Dec.trimZ_length O
              have h2 := HH'.out.len
              have h3 := HM.out
              omega
          · have hjn' : decide ((n' : Int) > 0) = true := by simp; omega
            have hjm' : j < m0 := by have := HH'.out.bound hn0; rw [HM.out]; exact this
            obtain ⟨q8, hq8⟩ : ∃ q8 : Nat, q8 = n' / 2 ^ k := ⟨_, rfl⟩
            have hq9 : q8 < 10 := by
              rw [hq8, Nat.div_lt_iff_lt_mul (Nat.two_pow_pos k)]
              exact HH'.out.small
            have hqe : (n' : Int) / 2 ^ k = (q8 : Int) := by rw [hq8]; simp
            have hqw : IntKind.u8.wrap (q8 : Int) = (q8 : Int) := IntWalk.u8_in _ (by omega)
            have HQ8 := aside hq8
            have hBs := HB.out.size
            have hS1 := HS1.out
            have hm0l : m0 ≤ 400 := by have := HM.out; omega
            have hOl : O.length ≤ 400 := by have := HH'.out.len; omega
            clear hq8
            go_wp2_with (at_builtin; refine wpList_append_own _ rfl _ _ 78 rfl w.heap.size 5 i5 (.int .u8 0) 1 1 Tryz.underlying78 hi5 hz5 hs5 hb5 rfl (by decide) _ _ _ rfl (HO.out.alloc _) ⟨wr.heap.size, 0, none⟩ 1 1 [Value.int .u8 q8] rfl rfl (by intro j u' hj; match j, hj with | 0, hj => simp at hj; subst hj; simp [Addr.add]) (by intro u' hu'; simp at hu'; subst hu'; rfl) (by unfold maxLen; omega) (by omega) (by simp; omega) ?_)
            intro v2 w2 hown2 hgrow _
            have hB2 : Below w.heap.size w1 w2 := (HB.out.alloc (by omega) _).grown hgrow (by simp; omega) (fun k' hk' => (HO.out.lt k' hk').1)
            have hA2 := HA.out.below hB2 (by omega) (by omega)
            have c0' := hA2.c0
            have f0' := hA2.f 0
            have HB2 := aside hB2
            have HA2 := aside hA2
            have HOWN := aside hown2
            have HGR := aside hgrow
            clear hB2 hA2 hown2 hgrow HA' hqe hqw c0 f0
            go_wp2_with fail
            go_roundg (m0 - (j + 1))
            case measure => omega
            case rel =>
              refine ⟨j + 1, n' % 2 ^ k * 10, O ++ [q8], ?_, by simp, ?_, by omega, by omega, by omega, HB2.out, ?_⟩
              · congr 1; exact mask_and0 hk' HH'.out.small
              · have := HH'.out.step hN.dig
                rw [if_neg hjl, ← HQ8.out] at this
                exact this
              · have := HOWN.out; show World.ownsRow _ _ _ _ _ _ _; simpa [dcells] using this
end Go.Proofs.YteplcmhmjdiimaaGreatDoor
namespace Go.Proofs.YteplcmhmjdiimaaGreatDoor
open Go.RowKit

theorem Dec.Dbl.bound {ds : List Nat} (hd : ∀ d ∈ ds, d < 10) {k j : Nat} {O : List Nat} {n : Nat} (h : Dec.Dbl ds k j O n) (hk : k ≤ 59) (hj : ds.length ≤ j) (hn : 0 < n) : j < ds.length + 18 := by
  have e := h.sum
  rw [Dec.T_all ds _ hj] at e
  have h1 := Dec.dval_lt ds hd
  have h2 := pow_le59 hk
  have h3 : 1 * 10 ^ j ≤ n * 10 ^ j := Nat.mul_le_mul_right _ hn
  have h4 : Dec.dval ds * 2 ^ k ≤ Dec.dval ds * 576460752303423488 := Nat.mul_le_mul_left _ h2
  have h5 : Dec.dval ds * 576460752303423488 < 10 ^ ds.length * 10 ^ 18 := by
    have : (10 : Nat) ^ 18 = 1000000000000000000 := by decide
    rw [this]; omega
  rw [← Nat.pow_add] at h5
  have h6 : 10 ^ j < 10 ^ (ds.length + 18) := by omega
  exact (Nat.pow_lt_pow_iff_right (by omega : 1 < 10)).1 h6

/-- The digits of which the outer i pairs have changed places. -/
def rp (O : List Nat) (i : Nat) : List Nat := (List.range O.length).map fun x => if x < i ∨ O.length ≤ x + i then O.getD (O.length - 1 - x) 0 else O.getD x 0
theorem rp_length (O : List Nat) (i : Nat) : (rp O i).length = O.length := by simp [rp]
theorem rp_get (O : List Nat) (i x : Nat) (hx : x < O.length) : (rp O i).getD x 0 = if x < i ∨ O.length ≤ x + i then O.getD (O.length - 1 - x) 0 else O.getD x 0 := by
  simp [rp, List.getD_eq_getElem?_getD, List.getElem?_map, List.getElem?_range hx]
theorem list_ext_getD {a b : List Nat} (hl : a.length = b.length) (h : ∀ x, x < a.length → a.getD x 0 = b.getD x 0) : a = b := by
  apply List.ext_getElem hl
  intro x h1 h2
  have := h x h1
  simpa [List.getD_eq_getElem?_getD, List.getElem?_eq_getElem h1, List.getElem?_eq_getElem h2] using this
theorem rp_zero (O : List Nat) : rp O 0 = O := by
  refine list_ext_getD (rp_length _ _) fun x hx => ?_
  rw [rp_length] at hx
  rw [rp_get O 0 x hx, if_neg (by omega)]
theorem rp_end (O : List Nat) (i : Nat) (h : O.length ≤ 2 * i + 1) : rp O i = O.reverse := by
  refine list_ext_getD (by rw [rp_length, List.length_reverse]) fun x hx => ?_
  rw [rp_length] at hx
  rw [rp_get O i x hx, List.getD_eq_getElem?_getD (l := O.reverse), List.getElem?_reverse hx, ← List.getD_eq_getElem?_getD]
  split
  · rfl
  · congr 1; omega
theorem rp_step (O : List Nat) (i : Nat) (h : 2 * i + 1 < O.length) :
    rp O (i + 1) = ((rp O i).set i ((rp O i).getD (O.length - 1 - i) 0)).set (O.length - 1 - i) ((rp O i).getD i 0) := by
  refine list_ext_getD (by simp [rp_length]) fun x hx => ?_
  rw [rp_length] at hx
  have e : ∀ (l : List Nat) (a b v : Nat), a < l.length → (l.set a v).getD b 0 = if a = b then v else l.getD b 0 := by
    intro l a b v ha
    simp only [List.getD_eq_getElem?_getD, List.getElem?_set]
    by_cases hab : a = b
    · subst hab; simp [ha]
    · simp [hab]
  rw [e _ _ _ _ (by simp [rp_length]; omega), e _ _ _ _ (by rw [rp_length]; omega), rp_get O (i + 1) x hx, rp_get O i x hx, rp_get O i (O.length - 1 - i) (by omega), rp_get O i i (by omega)]
  by_cases h1 : O.length - 1 - i = x
  · rw [if_pos h1, if_pos (by omega), if_neg (by omega)]; congr 1; omega
  · rw [if_neg h1]
    by_cases h2 : i = x
    · rw [if_pos h2, if_pos (by omega), if_neg (by omega), h2]
    · rw [if_neg h2]
      by_cases h3 : x < i ∨ O.length ≤ x + i
      · rw [if_pos h3, if_pos (by omega)]
      · rw [if_neg h3, if_neg (by omega)]

theorem ownsRow_set {w : World} {N g cap n : Nat} {xs : List Value} (h : w.ownsRow N 5 1 (.slice (some ⟨g, 0, none⟩) n cap) n xs) (i : Nat) (v : Value) :
    (w.setCell ⟨g, i, none⟩ v).ownsRow N 5 1 (.slice (some ⟨g, 0, none⟩) n cap) n (xs.set i v) := by
  refine ⟨by rw [List.length_set]; exact h.1, ?_⟩
  rcases h.2 with ⟨h', _⟩ | ⟨g', cap', cur, hv, hb, hg, hn, hc, hs, ht⟩
  · simp at h'
  · simp only [Value.slice.injEq, Option.some.injEq, Addr.mk.injEq, and_true, true_and] at hv
    obtain ⟨rfl, rfl⟩ := hv
    refine .inr ⟨g, cap, _, rfl, hb, heap_setCell_same w g i _ 5 v hg, hn, hc, by simpa using hs, ?_⟩
    rw [← ht]; simp [List.take_set]

theorem dcells_set (ds : List Nat) (i z : Nat) : dcells (ds.set i z) = (dcells ds).set i (.int .u8 (z : Int)) := by simp [dcells, List.map_set]

theorem Dec.trimZ_trimZ (l : List Nat) : Dec.trimZ (Dec.trimZ l) = Dec.trimZ l := by
  induction l with
  | nil => rfl
  | cons d r ih =>
    simp only [Dec.trimZ]
    by_cases h : Dec.trimZ r = [] ∧ d = 0
    · rw [if_pos h]; rfl
    · rw [if_neg h]; simp only [Dec.trimZ]; rw [ih, if_neg h]
/-- What double leaves. -/
def DblPost (w : World) (B D k : Nat) (ds : List Nat) (dp : Int) (w' : World) : Prop :=
  w.grownBy w' (some D) ∧ ∃ g' cap' ds' dp', DecAt w' B D g' cap' ds' dp' ∧ Dec.Norm ds' ∧ Dec.trimZ ds' = ds' ∧ Dec.V ds' dp' = 2 ^ k * Dec.V ds dp ∧ Dec.Fits ds' dp' ∧ (ds'.length : Int) - dp' ≤ (ds.length : Int) - dp

theorem wrap_dbl {n z k : Nat} (hk : k ≤ 59) (hn : n ≤ 2 ^ k) (hz : z < 10) : IntKind.u64.wrap ((n : Int) + IntKind.u64.wrap ((z : Int) * 2 ^ k)) = ((n + z * 2 ^ k : Nat) : Int) := by
  have h1 := pow_le59 hk
  have h2 : z * 2 ^ k ≤ 9 * 2 ^ k := Nat.mul_le_mul_right _ (by omega)
  have e1 : (z : Int) * 2 ^ k = ((z * 2 ^ k : Nat) : Int) := by simp
  rw [e1, IntWalk.u64_in ((z * 2 ^ k : Nat) : Int) (by omega), IntWalk.u64_in _ (by omega)]
  omega

theorem wrap_div10 {n z m k : Nat} (hk : k ≤ 59) (hn : n ≤ 2 ^ k) (hz : z < 10) (hm : m = n + z * 2 ^ k) : IntKind.u64.wrap ((m : Int) / 10) = ((m / 10 : Nat) : Int) := by
  have h1 := pow_le59 hk
  have h2 : z * 2 ^ k ≤ 9 * 2 ^ k := Nat.mul_le_mul_right _ (by omega)
  rw [IntWalk.u64_in _ (by omega)]
  omega

set_option maxHeartbeats 2000000 in
set_option maxRecDepth 100000 in
theorem double_calls (w : World) (B D g cap : Nat) (ds : List Nat) (dp : Int) (k : Nat) (h : DecAt w B D g cap ds dp) (hN : Dec.Norm ds) (hk : 1 ≤ k) (hk' : k ≤ 59)
    (hlen : ds.length ≤ 300) (hdp : -300 ≤ dp) (hdp' : dp ≤ 300) (hF : Dec.Fits ds dp) :
    Calls Tryz.prog 114 #[.pointer (some ⟨D, 0, none⟩), .int .i64 k] w fun e w' => e = .returned (.tuple #[]) ∧ DblPost w B D k ds dp w' := by
  have hcap := h.capLe
  have em : min k 64 = k := by omega
  have c0 := h.c0
  have f0 := h.f 0
  have hlp := hN.len
  have hL1 : IntKind.i64.wrap ((ds.length : Int) - 1) = (ds.length : Int) - 1 := IntWalk.i64_in _ (by omega)
  go_enter Tryz.func114, Tryz.ntmps114
  go_wp2
  have HD := aside h
  have hgD := HD.out.glt
  have hDl := HD.out.lt
  obtain ⟨i5, hi5, hz5, hs5, hb5⟩ := info_parts byte_info
  go_loopg [4, 5, 6] (ds.length + 18) (fun q s4 s5 s6 wr => ∃ (j n : Nat) (O : List Nat), s4 = .int .u64 n ∧ s6 = .int .i64 ((ds.length : Int) - 1 - (j : Int)) ∧ Hid (Dec.Dbl ds k j O n) ∧ j ≤ ds.length + 18 ∧ ds.length + 18 ≤ q + j ∧ Hid (Below w.heap.size w wr) ∧ Hid (wr.ownsRow w.heap.size 5 1 s5 O.length (dcells O)))
  case atStart => exact ⟨0, 0, [], rfl, by simp, Dec.Dbl.start hN k, by omega, by omega, Below.refl _ _, World.ownsRow_nil _ _ _ _⟩
  case round =>
    obtain ⟨j, n, O, rfl, rfl, HH, hjm, hq, HB, HO⟩ := hrel
    have hA := HD.out.below HB.out hDl hgD
    have c0 := hA.c0
    have f0 := hA.f 0
    have HA := aside hA
    have hOl : O.length ≤ 400 := by have := HH.out.len; omega
    have hBs := HB.out.size
    by_cases hjl : j < ds.length
    · have hge : decide ((ds.length : Int) - 1 - (j : Int) ≥ 0) = true := by simp; omega
      obtain ⟨z, hz⟩ : ∃ z : Nat, z = ds.getD (ds.length - 1 - j) 0 := ⟨_, rfl⟩
      have d1 := hA.d (ds.length - 1 - j) (by omega)
      rw [← hz] at d1
      have hz9 : z < 10 := by
        have hi : ds.length - 1 - j < ds.length := by omega
        have := hN.dig (ds[ds.length - 1 - j]) (List.getElem_mem hi)
        rw [hz]
        simpa [List.getD_eq_getElem?_getD, List.getElem?_eq_getElem hi] using this
      obtain ⟨m, hm⟩ : ∃ m : Nat, m = n + z * 2 ^ k := ⟨_, rfl⟩
      have k1 := wrap_dbl hk' HH.out.small hz9
      rw [← hm] at k1
      have HZ := aside hz
      have HM := aside hm
      obtain ⟨q8, hq8⟩ : ∃ q8 : Nat, q8 = m % 10 := ⟨_, rfl⟩
      have hq9 : q8 < 10 := by omega
      have hqe : (m : Int) % 10 = (q8 : Int) := by omega
      have hqt : (m : Int).tmod 10 = (q8 : Int) := by rw [hq8]; rfl
      have hqw : IntKind.u8.wrap (q8 : Int) = (q8 : Int) := IntWalk.u8_in _ (by omega)
      have HQ8 := aside hq8
      clear hz hA hm hq8
      go_wp2_with (at_builtin; refine wpList_append_own _ rfl _ _ 78 rfl w.heap.size 5 i5 (.int .u8 0) 1 1 Tryz.underlying78 hi5 hz5 hs5 hb5 rfl (by decide) _ _ _ rfl (HO.out.alloc _) ⟨wr.heap.size, 0, none⟩ 1 1 [Value.int .u8 q8] rfl rfl (by intro j u' hj; match j, hj with | 0, hj => simp at hj; subst hj; simp [Addr.add]) (by intro u' hu'; simp at hu'; subst hu'; rfl) (by unfold maxLen; omega) (by omega) (by simp; omega) ?_)
      intro v2 w2 hown2 hgrow _
      have hB2 : Below w.heap.size w w2 := (HB.out.alloc (by omega) _).grown hgrow (by simp; omega) (fun k' hk' => (HO.out.lt k' hk').1)
      have HB2 := aside hB2
      have HOWN := aside hown2
      clear hB2 hown2 hgrow hqe hqw hqt c0 f0
      have hs1 : IntKind.i64.wrap ((ds.length : Int) - 1 - (j : Int) - 1) = (ds.length : Int) - 1 - (j : Int) - 1 := IntWalk.i64_in _ (by omega)
      go_wp2_with fail
      go_roundg (ds.length + 18 - (j + 1))
      case measure => omega
      case rel =>
        refine ⟨j + 1, m / 10, O ++ [q8], ?_, ?_, ?_, by omega, by omega, HB2.out, ?_⟩
        · congr 1; exact wrap_div10 hk' HH.out.small hz9 HM.out
        · congr 1; omega
        · have := HH.out.stepIn hN hjl
          rw [← HZ.out, ← HM.out, ← HQ8.out] at this
          exact this
        · have := HOWN.out; show World.ownsRow _ _ _ _ _ _ _; simpa [dcells] using this
    · have hge : decide ((ds.length : Int) - 1 - (j : Int) ≥ 0) = false := by simp; omega
      rcases Nat.eq_zero_or_pos n with hn0 | hn0
      · subst hn0
        have hOne : O ≠ [] := fun e => by have := HH.out.len; rw [e] at this; simp at this; omega
        obtain ⟨g', cap', rfl, hgN, hcap'⟩ : ∃ g' cap', u5 = .slice (some ⟨g', 0, none⟩) O.length cap' ∧ w.heap.size ≤ g' ∧ O.length ≤ cap' := by
          rcases HO.out.2 with ⟨_, h0⟩ | ⟨g', cap', cur, hv, hb, hg, hn, hc, hs, ht⟩
          · exact absurd (List.length_eq_zero_iff.1 h0) hOne
          · exact ⟨g', cap', hv, hb, hn⟩
        have c1 := hA.c1
        have f1 := hA.f 1
        have hj0 : 0 < j := by omega
        obtain ⟨L, hL⟩ : ∃ L, L = O.length := ⟨_, rfl⟩
        have hLj : L = j := by rw [hL]; exact HH.out.len
        have k1 : IntKind.i64.wrap ((L : Int) - (ds.length : Int)) = (L : Int) - (ds.length : Int) := IntWalk.i64_in _ (by omega)
        have k2 : IntKind.i64.wrap (dp + ((L : Int) - (ds.length : Int))) = dp + ((L : Int) - (ds.length : Int)) := IntWalk.i64_in _ (by omega)
        have k3 : IntKind.i64.wrap ((L : Int) - 1) = (L : Int) - 1 := IntWalk.i64_in _ (by omega)
        rw [← hL]
        have HL := aside hL
        have HLJ := aside hLj
        clear hL hA hLj
        go_wp2_with fail
        go_region
        go_wp2
        obtain ⟨wb, hwb⟩ : ∃ wb, wb = (wr.setCell ⟨D, 1, none⟩ (.int .i64 (dp + ((L : Int) - (ds.length : Int))))).drew := ⟨_, rfl⟩
        rw [← hwb]
        have hgb : wr.grownBy wb (some D) := by rw [hwb]; exact grownBy_drew (grownBy_set (grownBy_refl _ _) _ _)
        have hAb : DecAt wb B D g cap ds (dp + ((L : Int) - (ds.length : Int))) := by
          have := HA.out.cut hgb ds.length (Nat.le_refl _) (dp' := dp + ((L : Int) - (ds.length : Int))) (by rw [hwb]; exact heap_setCell_same wr D 1 _ 179 _ HA.out.blk)
          rwa [List.take_length] at this
        have hOb : wb.ownsRow w.heap.size 5 1 (.slice (some ⟨g', 0, none⟩) O.length cap') O.length (dcells O) := HO.out.kept hgb (.inr (by simp [Value.ownBlock]; omega))
        rw [← HL.out] at hOb
        have HAB := aside hAb
        have HOB := aside hOb
        have HGB := aside hgb
        clear hwb hgb hAb hOb
        have hLL : L ≤ 400 := by rw [HL.out]; exact hOl
        go_loopg [7, 8] L (fun q s7 s8 wq => ∃ i : Nat, s7 = .int .i64 i ∧ s8 = .int .i64 ((L : Int) - 1 - (i : Int)) ∧ 2 * i ≤ L ∧ L ≤ q + i ∧ Hid (wb.grownBy wq (some g')) ∧ Hid (wq.ownsRow w.heap.size 5 1 (.slice (some ⟨g', 0, none⟩) L cap') L (dcells (rp O i))))
        case atStart => exact ⟨0, rfl, by simp, by omega, by omega, grownBy_refl _ _, by rw [rp_zero]; exact HOB.out⟩
        case round =>
          obtain ⟨i, rfl, rfl, hi2, hq2, HG2, HO2⟩ := hrel
          by_cases hlt : 2 * i + 1 < L
          · have hlt' : decide ((i : Int) < (L : Int) - 1 - (i : Int)) = true := by simp; omega
            obtain ⟨z1, hz1⟩ : ∃ z1 : Nat, z1 = (rp O i).getD i 0 := ⟨_, rfl⟩
            obtain ⟨z2, hz2⟩ : ∃ z2 : Nat, z2 = (rp O i).getD (L - 1 - i) 0 := ⟨_, rfl⟩
            have hrl : (rp O i).length = L := by rw [rp_length, HL.out]
            have e1 : wr.cell? ⟨g', i, none⟩ = some (.int .u8 (z1 : Int)) := by
              rw [HO2.out.cellAt i (by omega), dcells_get _ _ (by omega), hz1]
            have e2 : wr.cell? ⟨g', L - 1 - i, none⟩ = some (.int .u8 (z2 : Int)) := by
              rw [HO2.out.cellAt (L - 1 - i) (by omega), dcells_get _ _ (by omega), hz2]
            have hfr : ∀ x, wr.frozen? ⟨g', x, none⟩ = false := by
              intro x
              rcases HO2.out.2 with ⟨h', _⟩ | ⟨g2, cap2, cur, hv, hb, hg, hn, hc, hs, ht⟩
              · simp at h'
              · simp only [Value.slice.injEq, Option.some.injEq, Addr.mk.injEq, and_true, true_and] at hv
                rw [← hv.1] at hg
                exact frozen_of_row wr g' x _ _ hg
            have f1 := hfr i
            have f2 := hfr (L - 1 - i)
            have HZ1 := aside hz1
            have HZ2 := aside hz2
            have HRL := aside hrl
            clear hz1 hz2 hrl hfr
            have q1 : IntKind.i64.wrap ((i : Int) + 1) = (i : Int) + 1 := IntWalk.i64_in _ (by omega)
            have q2 : IntKind.i64.wrap ((L : Int) - 1 - (i : Int) - 1) = (L : Int) - 1 - (i : Int) - 1 := IntWalk.i64_in _ (by omega)
            have r1 : (i : Int) < (L : Int) := by omega
            have r2 : (0 : Int) ≤ (L : Int) - 1 - (i : Int) := by omega
            have r3 : (L : Int) - 1 - (i : Int) < (L : Int) := by omega
            have r4 : ((L : Int) - 1 - (i : Int)).toNat = L - 1 - i := by omega
            go_wp2_with fail
            go_region
            go_wp2
            clear q1 q2 r1 r2 r3 r4
            go_roundg (L - (i + 1))
            case measure => omega
            case rel =>
              have hstep := rp_step O i (by have := HL.out; omega)
              rw [← HL.out, ← HZ1.out, ← HZ2.out] at hstep
              have hO3 := ownsRow_set (ownsRow_set HO2.out i (.int .u8 (z2 : Int))) (L - 1 - i) (.int .u8 (z1 : Int))
              rw [← dcells_set, ← dcells_set, ← hstep] at hO3
              refine ⟨i + 1, by simp, ?_, by omega, by omega, ?_, ?_⟩
              · congr 1; omega
              · exact grownBy_drew (grownBy_set (grownBy_set HG2.out _ _) _ _)
              · exact hO3
          · have hlt' : decide ((i : Int) < (L : Int) - 1 - (i : Int)) = false := by simp; omega
            have hrev : rp O i = O.reverse := rp_end O i (by have := HL.out; omega)
            have hA4 : DecAt wr B D g cap ds (dp + ((L : Int) - (ds.length : Int))) := by
              have h1 := HG2.out
              have hbs := HGB.out.size
              have hBs' := HB.out.size
              refine HAB.out.below (N := w.heap.size) ⟨h1.os, h1.tape, h1.output, h1.size, fun b hb => h1.block b (by omega) (by simp; omega)⟩ hDl hgD
            have hO4 := HO2.out
            rw [hrev, show L = O.reverse.length by rw [List.length_reverse]; exact HL.out] at hO4
            have hrne : O.reverse ≠ [] := by simpa using hOne
            obtain ⟨g3, cap3, hv3, hA5⟩ := hA4.new hO4 hDl hrne
            have hdone := HH.out.done (by omega) hj0 dp hF
            have hdn : Dec.Norm O.reverse := hdone.1
            have f04 := hA4.f 0
            have c04 := hA4.c0
            rw [show O.reverse.length = L by rw [List.length_reverse]; exact HL.out.symm] at hv3 hA5
            simp only [Value.slice.injEq, Option.some.injEq, Addr.mk.injEq, and_true, true_and] at hv3
            obtain ⟨rfl, rfl⟩ := hv3
            have HA5 := aside hA5
            have HDN := aside hdone
            clear hA4 hO4 hrev hA5 hdone
            go_wp2_with (go_at_call 109; refine (trim_calls _ B D g' cap' O.reverse _ HA5.out hdn).mono ?_; rintro e w4 ⟨rfl, hg4, hd4⟩; refine Hid.out ?_)
            refine Lib.hid ?_
            go_wp2_with fail
            go_end0
            refine ⟨rfl, ?_⟩
            have hB := HB.out
            have h1 := HG2.out
            have h2 := HGB.out
            have hG : w.grownBy wr (some D) := by
              have hbs := h2.size
              have hBs' := hB.size
              refine ⟨h1.os.trans (h2.os.trans hB.os), h1.tape.trans (h2.tape.trans hB.tape), h1.output.trans (h2.output.trans hB.output), Nat.le_trans hB.size (Nat.le_trans h2.size h1.size), fun b hb hne => ?_⟩
              rw [h1.block b (by omega) (by simp; omega), h2.block b (by omega) hne, hB.block b hb]
            have hd := HDN.out
            rw [← HLJ.out] at hd
            have hV := Dec.V_trimZ O.reverse (dp + ((L : Int) - (ds.length : Int))) hd.2.2
            refine ⟨grownBy_trans (grownBy_set hG _ _) hg4, g', cap', Dec.trimZ O.reverse, _, hd4, Dec.trimZ_norm hdn, Dec.trimZ_trimZ _, ?_, hV.2, ?_⟩
            · rw [hV.1]; exact hd.2.1
            · have h3 := Dec.trimZ_length O.reverse
              have h4 := HL.out
              rw [List.length_reverse] at h3
              omega
      · have hjn' : decide ((n : Int) > 0) = true := by simp; omega
        have hjm' := HH.out.bound hN.dig hk' (by omega) hn0
        obtain ⟨q8, hq8⟩ : ∃ q8 : Nat, q8 = n % 10 := ⟨_, rfl⟩
        have hq9 : q8 < 10 := by omega
        have hqe : (n : Int) % 10 = (q8 : Int) := by omega
        have hqt : (n : Int).tmod 10 = (q8 : Int) := by rw [hq8]; rfl
        have hqw : IntKind.u8.wrap (q8 : Int) = (q8 : Int) := IntWalk.u8_in _ (by omega)
        have HQ8 := aside hq8
        clear hA hq8
        go_wp2_with (at_builtin; refine wpList_append_own _ rfl _ _ 78 rfl w.heap.size 5 i5 (.int .u8 0) 1 1 Tryz.underlying78 hi5 hz5 hs5 hb5 rfl (by decide) _ _ _ rfl (HO.out.alloc _) ⟨wr.heap.size, 0, none⟩ 1 1 [Value.int .u8 q8] rfl rfl (by intro j u' hj; match j, hj with | 0, hj => simp at hj; subst hj; simp [Addr.add]) (by intro u' hu'; simp at hu'; subst hu'; rfl) (by unfold maxLen; omega) (by omega) (by simp; omega) ?_)
        intro v2 w2 hown2 hgrow _
        have hB2 : Below w.heap.size w w2 := (HB.out.alloc (by omega) _).grown hgrow (by simp; omega) (fun k' hk' => (HO.out.lt k' hk').1)
        have HB2 := aside hB2
        have HOWN := aside hown2
        clear hB2 hown2 hgrow hqe hqw hqt c0 f0
        have hs1 : IntKind.i64.wrap ((ds.length : Int) - 1 - (j : Int) - 1) = (ds.length : Int) - 1 - (j : Int) - 1 := IntWalk.i64_in _ (by omega)
        go_wp2_with fail
        go_roundg (ds.length + 18 - (j + 1))
        case measure => omega
        case rel =>
          refine ⟨j + 1, n / 10, O ++ [q8], ?_, ?_, ?_, by omega, by omega, HB2.out, ?_⟩
          · congr 1; exact wrap_div10 (z := 0) hk' HH.out.small (by omega) (by omega)
          · congr 1; omega
          · have := HH.out.stepOut (by omega) hn0
            rw [← HQ8.out] at this
            exact this
          · have := HOWN.out; show World.ownsRow _ _ _ _ _ _ _; simpa [dcells] using this
end Go.Proofs.YteplcmhmjdiimaaGreatDoor
namespace Go.Proofs.YteplcmhmjdiimaaGreatDoor
open Go.RowKit

/-- A whole number's decimal has no digit behind the point. -/
theorem Dec.whole_len {ds : List Nat} {dp : Int} {M : Nat} (hN : Dec.Norm ds) (hT : Dec.trimZ ds = ds) (hF : Dec.Fits ds dp) (hV : Dec.V ds dp = M * 10 ^ 250) (h0 : 0 ≤ dp) : (ds.length : Int) ≤ dp ∧ Dec.P ds dp.toNat = M := by
  have hle : (ds.length : Int) ≤ dp := by
    refine Int.not_lt.1 fun hlt => ?_
    unfold Dec.V at hV
    unfold Dec.Fits at hF
    obtain ⟨c, hc⟩ : ∃ c, c = (dp + 250 - ds.length).toNat := ⟨_, rfl⟩
    have hc1 : c ≤ 249 := by omega
    rw [← hc, show 250 = c + 1 + (249 - c) by omega, Nat.pow_add, Nat.pow_succ] at hV
    have h10 : 10 ∣ Dec.dval ds := by
      refine ⟨M * 10 ^ (249 - c), ?_⟩
      have hp : 0 < 10 ^ c := Nat.pow_pos (by omega)
      refine Nat.eq_of_mul_eq_mul_right hp ?_
      rw [hV]
      rw [Nat.mul_comm (10 ^ c) 10, Nat.mul_assoc 10, Nat.mul_left_comm M, Nat.mul_assoc 10, Nat.mul_assoc M]
      congr 2; rw [Nat.mul_comm]
    have hne : ds ≠ [] := fun e => by have := hN.len; rw [e] at this; simp at this
    obtain ⟨a, d, rfl⟩ : ∃ a d, ds = a ++ [d] := ⟨ds.dropLast, ds.getLast hne, (List.dropLast_concat_getLast hne).symm⟩
    have hd := hN.dig d (by simp)
    rw [Dec.dval_snoc] at h10
    have hd0 : d = 0 := by omega
    subst hd0
    rw [Dec.trimZ_snoc_zero] at hT
    have := Dec.trimZ_length a
    rw [hT] at this
    simp at this
    omega
  refine ⟨hle, ?_⟩
  rw [Dec.P_end ds _ (by omega)]
  unfold Dec.V at hV
  rw [show (dp + 250 - ds.length).toNat = (dp.toNat - ds.length) + 250 by omega, Nat.pow_add, ← Nat.mul_assoc] at hV
  exact Nat.eq_of_mul_eq_mul_right (Nat.pow_pos (by omega)) hV

set_option maxHeartbeats 1000000 in
theorem digit_calls (w : World) (B D g cap : Nat) (ds : List Nat) (dp : Int) (i : Nat) (h : DecAt w B D g cap ds dp) :
    Calls Tryz.prog 134 #[.pointer (some ⟨D, 0, none⟩), .int .i64 i] w fun e w' => e = .returned (.int .u8 ((ds.getD i 0 : Nat) : Int)) ∧ w' = w := by
  have c0 := h.c0
  have hcap := h.capLe
  go_enter Tryz.func134, Tryz.ntmps134
  by_cases hi : i < ds.length
  · have d1 := h.d i hi
    have e1 : decide ((i : Int) < (ds.length : Int)) = true := by simp; omega
    obtain ⟨z, hz⟩ : ∃ z : Nat, z = ds.getD i 0 := ⟨_, rfl⟩
    rw [← hz] at d1 ⊢
    clear hz
    go_wp2
    go_ret
    exact ⟨rfl, rfl⟩
  · have e1 : decide ((i : Int) < (ds.length : Int)) = false := by simp; omega
    have e0 : ds.getD i 0 = 0 := by rw [List.getD_eq_getElem?_getD, List.getElem?_eq_none (by omega)]; rfl
    rw [e0]
    go_wp2
    go_ret
    exact ⟨rfl, rfl⟩

set_option maxHeartbeats 1000000 in
theorem nearUp_calls (w : World) (B D g cap : Nat) (ds : List Nat) (dp : Int) (i : Nat) (h : DecAt w B D g cap ds dp) (hi : ds.length ≤ i) :
    Calls Tryz.prog 135 #[.pointer (some ⟨D, 0, none⟩), .int .i64 i] w fun e w' => e = .returned (.bool false) ∧ w' = w := by
  have c0 := h.c0
  have e1 : decide ((ds.length : Int) ≤ (i : Int)) = true := by simp; omega
  go_enter Tryz.func135, Tryz.ntmps135
  go_wp2
  go_ret
  exact ⟨rfl, rfl⟩

set_option maxHeartbeats 1000000 in
theorem whole_calls (w : World) (B D g cap : Nat) (ds : List Nat) (dp : Nat) (h : DecAt w B D g cap ds (dp : Int)) (hN : Dec.Norm ds) (hl : ds.length ≤ dp) (hdp : dp ≤ 17) :
    Calls Tryz.prog 115 #[.pointer (some ⟨D, 0, none⟩)] w fun e w' => e = .returned (.int .u64 ((Dec.P ds dp : Nat) : Int)) ∧ w' = w := by
  have c1 := h.c1
  have HD := aside h
  go_enter Tryz.func115, Tryz.ntmps115
  go_wp2
  go_loopg [3, 4] dp (fun q s3 s4 wr => ∃ i n : Nat, s3 = .int .u64 n ∧ s4 = .int .i64 i ∧ Hid (n = Dec.P ds i) ∧ n < 10 ^ i ∧ i ≤ dp ∧ dp ≤ q + i ∧ w = wr)
  case atStart => exact ⟨0, 0, rfl, rfl, (Dec.P_zero ds).symm, by omega, by omega, by omega, rfl⟩
  case round =>
    obtain ⟨i, n, rfl, rfl, Hn, hn, hi, hq, rfl⟩ := hrel
    by_cases hlt : i < dp
    · have e1 : decide ((i : Int) < (dp : Int)) = true := by simp; omega
      obtain ⟨z, hz⟩ : ∃ z : Nat, z = ds.getD i 0 := ⟨_, rfl⟩
      have hz9 : z < 10 := by
        by_cases hi' : i < ds.length
        · have := hN.dig (ds[i]) (List.getElem_mem hi')
          rw [hz]
          simpa [List.getD_eq_getElem?_getD, List.getElem?_eq_getElem hi'] using this
        · rw [hz, List.getD_eq_getElem?_getD, List.getElem?_eq_none (by omega)]; simp
      have hp : (10 : Nat) ^ i ≤ 10 ^ 16 := Nat.pow_le_pow_right (by omega) (by omega)
      have hp2 : (10 : Nat) ^ 16 = 10000000000000000 := by decide
      have hlt10 : n * 10 + z < 10 ^ (i + 1) := by rw [Nat.pow_succ]; omega
      have k1 : IntKind.u64.wrap ((n : Int) * 10) = (n : Int) * 10 := IntWalk.u64_in _ (by omega)
      have k2 : IntKind.u64.wrap ((n : Int) * 10 + (z : Int)) = (n : Int) * 10 + (z : Int) := IntWalk.u64_in _ (by omega)
      have k3 : IntKind.i64.wrap ((i : Int) + 1) = (i : Int) + 1 := IntWalk.i64_in _ (by omega)
      have k4 : IntKind.u64.wrap (z : Int) = (z : Int) := IntWalk.u64_in _ (by omega)
      have HZ := aside hz
      have HLT := aside hlt10
      clear hp hp2 hz hlt10 hn
      go_wp2_with (go_at_call 134; refine (digit_calls _ B D g cap ds dp i HD.out).mono ?_; rintro e w4 ⟨rfl, rfl⟩; rw [← HZ.out]; refine Hid.out ?_)
      refine Lib.hid ?_
      go_wp2_with fail
      go_roundg (dp - (i + 1))
      case measure => omega
      case rel =>
        refine ⟨i + 1, n * 10 + z, by simp, by simp, ?_, HLT.out, by omega, by omega, rfl⟩
        show _ = _
        by_cases hi' : i < ds.length
        · rw [Dec.P_succ_in ds i hi', ← Hn.out, HZ.out]
        · rw [Dec.P_succ_out ds i (by omega), ← Hn.out, HZ.out, List.getD_eq_getElem?_getD, List.getElem?_eq_none (by omega)]; rfl
    · have e1 : decide ((i : Int) < (dp : Int)) = false := by simp; omega
      have hid : i = dp := by omega
      subst hid
      clear hn
      go_wp2_with (go_at_call 135; refine (nearUp_calls _ B D g cap ds i i HD.out hl).mono ?_; rintro e w4 ⟨rfl, rfl⟩; refine Hid.out ?_)
      refine Lib.hid ?_
      go_wp2_with fail
      go_ret
      rw [Hn.out]
      exact ⟨rfl, rfl⟩

set_option maxHeartbeats 1000000 in
theorem shift_calls (w : World) (B D g cap : Nat) (ds : List Nat) (dp : Int) (h : DecAt w B D g cap ds dp) (hN : Dec.Norm ds)
    (hlen : ds.length ≤ 300) (hdp : -300 ≤ dp) (hdp' : dp ≤ 300) (hF : Dec.Fits ds dp) :
    Calls Tryz.prog 111 #[.pointer (some ⟨D, 0, none⟩), .int .i64 53] w fun e w' => e = .returned (.tuple #[]) ∧ DblPost w B D 53 ds dp w' := by
  have hd := double_calls w B D g cap ds dp 53 h hN (by omega) (by omega) hlen hdp hdp' hF
  go_enter Tryz.func111, Tryz.ntmps111
  go_wp2
  go_loopg [1] 0 (fun q s1 wr => s1 = .int .i64 53 ∧ w = wr)
  case atStart => exact ⟨rfl, rfl⟩
  case round =>
    obtain ⟨rfl, rfl⟩ := hrel
    go_wp2
    go_loopg [1] 0 (fun q s1 wr => s1 = .int .i64 53 ∧ w = wr)
    case atStart => exact ⟨rfl, rfl⟩
    case round =>
      obtain ⟨rfl, rfl⟩ := hrel
      go_wp2_with (go_at_call 114; refine hd.mono ?_; rintro e w4 ⟨rfl, hp⟩; refine Hid.out ?_)
      refine Lib.hid ?_
      go_wp2_with fail
      go_end0
      exact ⟨rfl, hp⟩
end Go.Proofs.YteplcmhmjdiimaaGreatDoor
namespace Go.Proofs.YteplcmhmjdiimaaGreatDoor
open Go.RowKit

namespace Dec
/-- The decimal (times 2^x) is the number v. -/
structure St (v x : Nat) (ds : List Nat) (dp : Int) : Prop where
  norm : Norm ds
  fits : Fits ds dp
  val : V ds dp * 2 ^ x = v * 10 ^ 250

variable {v x : Nat} {ds : List Nat} {dp : Int}
theorem ten15 : (10 : Nat) ^ 15 < 2 ^ 50 := by decide
theorem pow10_lt {a b : Nat} (h : 10 ^ a < 10 ^ b) : a < b := (Nat.pow_lt_pow_iff_right (by omega : 1 < 10)).1 h
theorem pow2_lt {a b : Nat} (h : 2 ^ a < 2 ^ b) : a < b := (Nat.pow_lt_pow_iff_right (by omega : 1 < 2)).1 h

theorem St.dp_pos (h : St v x ds dp) : 1 ≤ dp + 250 := by have := h.norm.len; have := h.fits; unfold Fits at this; omega
theorem St.dp_le (h : St v x ds dp) (hv : v < 10 ^ 15) : dp ≤ 15 := by
  have h1 := V_ge h.norm h.fits
  have h2 : V ds dp * 1 ≤ V ds dp * 2 ^ x := Nat.mul_le_mul_left _ (Nat.two_pow_pos x)
  rw [h.val] at h2
  have h3 : v * 10 ^ 250 < 10 ^ 15 * 10 ^ 250 := Nat.mul_lt_mul_of_pos_right hv (Nat.pow_pos (by omega))
  rw [← Nat.pow_add] at h3
  have := pow10_lt (Nat.lt_of_le_of_lt (Nat.le_trans h1 (by omega)) h3)
  omega
theorem St.x_le (h : St v x ds dp) (hv : v < 10 ^ 15) (hd : 0 < dp) : x ≤ 49 := by
  have h1 := V_ge h.norm h.fits
  have h2 : 10 ^ 250 ≤ V ds dp := Nat.le_trans (Nat.pow_le_pow_right (by omega) (by omega)) h1
  have h3 : 10 ^ 250 * 2 ^ x ≤ V ds dp * 2 ^ x := Nat.mul_le_mul_right _ h2
  rw [h.val, Nat.mul_comm v] at h3
  have h4 : 2 ^ x ≤ v := Nat.le_of_mul_le_mul_left h3 (Nat.pow_pos (by omega))
  have := ten15
  have := pow2_lt (a := x) (b := 50) (by omega)
  omega
theorem St.dp_ge (h : St v x ds dp) (hv : 1 ≤ v) (hx : x ≤ 94) : -29 ≤ dp := by
  have hp := h.dp_pos
  have h1 := V_lt h.norm h.fits (by omega)
  have h2 : 1 * 10 ^ 250 ≤ v * 10 ^ 250 := Nat.mul_le_mul_right _ hv
  rw [← h.val] at h2
  have h3 : V ds dp * 2 ^ x < 10 ^ (dp + 250).toNat * 10 ^ 29 := by
    have a : (2 : Nat) ^ x ≤ 2 ^ 94 := Nat.pow_le_pow_right (by omega) hx
    have b : (2 : Nat) ^ 94 ≤ 10 ^ 29 := by decide
    exact Nat.lt_of_lt_of_le (Nat.mul_lt_mul_of_pos_right h1 (Nat.two_pow_pos x)) (Nat.mul_le_mul_left _ (Nat.le_trans a b))
  rw [← Nat.pow_add] at h3
  have := pow10_lt (a := 250) (b := (dp + 250).toNat + 29) (by omega)
  omega
theorem St.half (h : St v x ds dp) {k : Nat} {ds' : List Nat} {dp' : Int} (hN : Norm ds') (hF : Fits ds' dp') (hV : 2 ^ k * V ds' dp' = V ds dp) : St v (x + k) ds' dp' :=
  ⟨hN, hF, by rw [← h.val, ← hV, Nat.pow_add, Nat.mul_comm (2 ^ x), ← Nat.mul_assoc, Nat.mul_comm (V ds' dp')]⟩
theorem le_zero_of (hN : Norm ds) (hF : Fits ds dp) (h : V ds dp < 10 ^ 250) : dp ≤ 0 := by
  have h1 := V_ge hN hF
  have := pow10_lt (a := (dp + 250 - 1).toNat) (b := 250) (by omega)
  omega
theorem St.double (h : St v x ds dp) (hv : 1 ≤ v) {k : Nat} (hlt : 2 ^ k * V ds dp < 10 ^ 250) {ds' : List Nat} {dp' : Int} (hN : Norm ds') (hF : Fits ds' dp') (hV : V ds' dp' = 2 ^ k * V ds dp) : k < x ∧ dp' ≤ 0 ∧ St v (x - k) ds' dp' := by
  have hkx : k < x := by
    have h2 : 1 * 10 ^ 250 ≤ v * 10 ^ 250 := Nat.mul_le_mul_right _ hv
    rw [← h.val, Nat.mul_comm (V ds dp)] at h2
    have h3 : 2 ^ k * V ds dp < 2 ^ x * V ds dp := by omega
    exact pow2_lt (Nat.lt_of_mul_lt_mul_right h3)
  refine ⟨hkx, le_zero_of hN hF (by rw [hV]; exact hlt), hN, hF, ?_⟩
  rw [hV, ← h.val, Nat.mul_right_comm, ← Nat.pow_add, show k + (x - k) = x by omega, Nat.mul_comm]
theorem dbl_neg (hN : Norm ds) (hF : Fits ds dp) (h0 : 0 ≤ dp + 250) (hd : dp < 0) {k : Nat} (hk : (k : Int) ≤ -3 * dp) : 2 ^ k * V ds dp < 10 ^ 250 := by
  have h1 := V_lt hN hF h0
  obtain ⟨m, hm⟩ : ∃ m : Nat, m = (-dp).toNat := ⟨_, rfl⟩
  have h2 : (2 : Nat) ^ k ≤ 2 ^ (3 * m) := Nat.pow_le_pow_right (by omega) (by omega)
  have h3 : (2 : Nat) ^ (3 * m) ≤ 10 ^ m := by rw [Nat.pow_mul]; exact Nat.pow_le_pow_left (by omega) m
  have h4 : 2 ^ k * V ds dp < 10 ^ m * 10 ^ (dp + 250).toNat := Nat.lt_of_le_of_lt (Nat.mul_le_mul_right _ (Nat.le_trans h2 h3)) (Nat.mul_lt_mul_of_pos_left h1 (Nat.pow_pos (by omega)))
  rw [← Nat.pow_add] at h4
  rwa [show m + (dp + 250).toNat = 250 by omega] at h4
theorem dbl_zero (hN : Norm ds) (hF : Fits ds 0) (h5 : ds.getD 0 0 < 5) : 2 ^ 1 * V ds 0 < 10 ^ 250 := by
  have h1 := (V_first hN hF).2
  have h2 : (ds.getD 0 0 + 1) * 10 ^ 249 ≤ 5 * 10 ^ 249 := Nat.mul_le_mul_right _ (by omega)
  have h3 : (10 : Nat) ^ 250 = 10 * 10 ^ 249 := by rw [← Nat.pow_succ']
  omega
/-- The exponent found. -/
theorem St.found (h : St v x ds 0) (hv : v < 10 ^ 15) (h5 : 5 ≤ ds.getD 0 0) : 1 ≤ x ∧ 2 ^ (x - 1) ≤ v ∧ v < 2 ^ x ∧ x ≤ 50 := by
  have h1 := (V_first h.norm h.fits).1
  have h2 : 5 * 10 ^ 249 ≤ ds.getD 0 0 * 10 ^ 249 := Nat.mul_le_mul_right _ h5
  have h3 : (10 : Nat) ^ 250 = 10 * 10 ^ 249 := by rw [← Nat.pow_succ']
  have h4 := V_lt h.norm h.fits (by omega)
  rw [show ((0 : Int) + 250).toNat = 250 from rfl] at h4
  have hval := h.val
  have hlt : v < 2 ^ x := by
    have : v * 10 ^ 250 < 2 ^ x * 10 ^ 250 := by
      rw [← hval, Nat.mul_comm]
      exact Nat.mul_lt_mul_of_pos_left h4 (Nat.two_pow_pos x)
    exact Nat.lt_of_mul_lt_mul_right this
  have hge : 2 ^ x ≤ 2 * v := by
    have h5' : 10 ^ 250 ≤ 2 * V ds 0 := by omega
    have h6 : 10 ^ 250 * 2 ^ x ≤ 2 * V ds 0 * 2 ^ x := Nat.mul_le_mul_right _ h5'
    rw [Nat.mul_assoc, hval, ← Nat.mul_assoc, Nat.mul_comm (10 ^ 250)] at h6
    exact Nat.le_of_mul_le_mul_right h6 (Nat.pow_pos (by omega))
  have hx1 : 1 ≤ x := by
    rcases Nat.eq_zero_or_pos x with h0 | h0
    · subst h0; simp at hlt hge; omega
    · exact h0
  have e : 2 ^ x = 2 * 2 ^ (x - 1) := by rw [← Nat.pow_succ']; congr 1; omega
  have h7 : 2 ^ (x - 1) ≤ v := by omega
  refine ⟨hx1, h7, hlt, ?_⟩
  have := ten15
  have := pow2_lt (a := x - 1) (b := 50) (by omega)
  omega
/-- The mantissa. -/
theorem St.mant (h : St v x ds 0) (hv : v < 10 ^ 15) (h5 : 5 ≤ ds.getD 0 0) {ds' : List Nat} {dp' : Int} (hN : Norm ds') (hF : Fits ds' dp') (hT : trimZ ds' = ds') (hV : V ds' dp' = 2 ^ 53 * V ds 0) :
    dp' = 16 ∧ ds'.length ≤ 16 ∧ P ds' 16 = v * 2 ^ (53 - x) ∧ 2 ^ 52 ≤ v * 2 ^ (53 - x) ∧ v * 2 ^ (53 - x) < 2 ^ 53 := by
  obtain ⟨hx1, hlo, hhi, hx⟩ := h.found hv h5
  have hlo' : 2 ^ 52 ≤ v * 2 ^ (53 - x) := by
    have : 2 ^ (x - 1) * 2 ^ (53 - x) ≤ v * 2 ^ (53 - x) := Nat.mul_le_mul_right _ hlo
    rw [← Nat.pow_add] at this
    rwa [show x - 1 + (53 - x) = 52 by omega] at this
  have hhi' : v * 2 ^ (53 - x) < 2 ^ 53 := by
    have : v * 2 ^ (53 - x) < 2 ^ x * 2 ^ (53 - x) := Nat.mul_lt_mul_of_pos_right hhi (Nat.two_pow_pos _)
    rw [← Nat.pow_add] at this
    rwa [show x + (53 - x) = 53 by omega] at this
  have hV' : V ds' dp' = v * 2 ^ (53 - x) * 10 ^ 250 := by
    rw [hV, show 53 = x + (53 - x) by omega, Nat.pow_add, Nat.mul_right_comm, Nat.mul_comm (2 ^ x), h.val, show x + (53 - x) - x = 53 - x by omega, Nat.mul_right_comm]
  have hdp : dp' = 16 := by
    have hp : 1 ≤ dp' + 250 := by have := hN.len; unfold Fits at hF; omega
    have h1 := V_ge hN hF
    have h2 := V_lt hN hF (by omega)
    rw [hV'] at h1 h2
    have a : (2 : Nat) ^ 53 < 10 ^ 16 := by decide
    have b : (10 : Nat) ^ 15 ≤ 2 ^ 52 := by decide
    have h3 : v * 2 ^ (53 - x) * 10 ^ 250 < 10 ^ 16 * 10 ^ 250 := Nat.mul_lt_mul_of_pos_right (by omega) (Nat.pow_pos (by omega))
    have h4 : 10 ^ 15 * 10 ^ 250 ≤ v * 2 ^ (53 - x) * 10 ^ 250 := Nat.mul_le_mul_right _ (by omega)
    rw [← Nat.pow_add] at h3 h4
    have := pow10_lt (Nat.lt_of_le_of_lt h1 h3)
    have := pow10_lt (Nat.lt_of_le_of_lt h4 h2)
    omega
  subst hdp
  have hw := whole_len hN hT hF hV' (by omega)
  exact ⟨rfl, by have := hw.1; omega, hw.2, hlo', hhi'⟩
end Dec

end Go.Proofs.YteplcmhmjdiimaaGreatDoor
namespace Go.Proofs.YteplcmhmjdiimaaGreatDoor
open Go.RowKit

/-- A form's three cells. -/
structure FormAt (w : World) (F : Nat) : Prop where
  blk : w.heap[F]? = some (.cells #[.int .i64 52, .int .i64 11, .int .i64 (-1023)] 152 (0, 0))
theorem FormAt.c {w : World} {F : Nat} (h : FormAt w F) : w.cell? ⟨F, 0, none⟩ = some (.int .i64 52) ∧ w.cell? ⟨F, 1, none⟩ = some (.int .i64 11) ∧ w.cell? ⟨F, 2, none⟩ = some (.int .i64 (-1023)) :=
  ⟨by rw [cell_of_row w F 0 _ _ _ h.blk]; rfl, by rw [cell_of_row w F 1 _ _ _ h.blk]; rfl, by rw [cell_of_row w F 2 _ _ _ h.blk]; rfl⟩
theorem FormAt.grown {w w' : World} {F D : Nat} (h : FormAt w F) (hg : w.grownBy w' (some D)) (hne : F ≠ D) : FormAt w' F := by
  have hlt : F < w.heap.size := (Array.getElem?_eq_some_iff.1 h.blk).1
  exact ⟨by rw [hg.block F hlt (by simpa using hne)]; exact h.blk⟩
theorem DecAt.drewN {w : World} {B D g cap : Nat} {ds : List Nat} {dp : Int} (h : DecAt w B D g cap ds dp) (n : Nat) : DecAt (w.drewN n) B D g cap ds dp := ⟨h.blk, h.row, h.ne, h.ge⟩

/-- The bits of the double that is v (v below 2^53, 2^(x-1) ≤ v < 2^x). -/
def fb (v x : Nat) : Nat := v * 2 ^ (53 - x) + (x + 1021) * 2 ^ 52

theorem p52 : (2 : Nat) ^ 52 = 4503599627370496 := by decide
theorem p53 : (2 : Nat) ^ 53 = 9007199254740992 := by decide
theorem and_bit52 {M : Nat} (h1 : 2 ^ 52 ≤ M) (h2 : M < 2 ^ 53) : bits .and .u64 (M : Int) 4503599627370496 = 4503599627370496 := by
  rw [p52] at h1; rw [p53] at h2
  have := bits_and_u64_nat M 4503599627370496 (by omega) (by omega)
  rw [show ((4503599627370496 : Nat) : Int) = 4503599627370496 from rfl] at this
  have e : M &&& 2 ^ 52 = 2 ^ 52 := by
    apply Nat.eq_of_testBit_eq
    intro i
    rw [Nat.testBit_and, Nat.testBit_two_pow]
    by_cases hi : 52 = i
    · subst hi
      rw [Nat.testBit_eq_decide_div_mod_eq, show M / 2 ^ 52 % 2 = 1 by rw [p52]; omega]
      simp
    · simp [hi]
  rw [this, ← p52, e, p52]
  rfl
theorem and_low52 {M : Nat} (h1 : 2 ^ 52 ≤ M) (h2 : M < 2 ^ 53) : bits .and .u64 (M : Int) 4503599627370495 = (M : Int) - 4503599627370496 := by
  have e := Nat.and_two_pow_sub_one_eq_mod M 52
  rw [p52] at h1 e; rw [p53] at h2
  have := bits_and_u64_nat M 4503599627370495 (by omega) (by omega)
  rw [show ((4503599627370495 : Nat) : Int) = 4503599627370495 from rfl] at this
  rw [this, show (4503599627370495 : Nat) = 4503599627370496 - 1 from rfl, e]
  omega
theorem or_fb {M v x : Nat} (hM : M = v * 2 ^ (53 - x)) (h1 : 2 ^ 52 ≤ M) (h2 : M < 2 ^ 53) (hx1 : 1 ≤ x) (hx : x ≤ 50) :
    bits .or .u64 ((M : Int) - 4503599627370496) (((x : Int) - 1 + 1023) * 4503599627370496) = ((fb v x : Nat) : Int) := by
  have e := Nat.two_pow_add_eq_or_of_lt (i := 52) (b := M - 2 ^ 52) (by rw [p53] at h2; rw [p52] at h1 ⊢; omega) (x + 1022)
  unfold fb
  rw [← hM]
  rw [p52] at h1 e ⊢; rw [p53] at h2
  have := bits_or_u64_nat (M - 4503599627370496) ((x + 1022) * 4503599627370496) (by omega) (by omega)
  rw [show (M : Int) - 4503599627370496 = ((M - 4503599627370496 : Nat) : Int) by omega, show (((x : Int) - 1 + 1023) * 4503599627370496) = (((x + 1022) * 4503599627370496 : Nat) : Int) by omega, this, Nat.or_comm, Nat.mul_comm (x + 1022), ← e]
  omega

set_option maxHeartbeats 4000000 in
set_option maxRecDepth 100000 in
theorem bits_calls (w : World) (B D g cap v : Nat) (ds : List Nat) (dp : Int) (h : DecAt w B D g cap ds dp) (hS : Dec.St v 0 ds dp) (hv1 : 1 ≤ v) (hv : v < 10 ^ 15) (hl : (ds.length : Int) ≤ dp) :
    Calls Tryz.prog 95 #[.pointer (some ⟨D, 0, none⟩), .agg #[.int .i64 52, .int .i64 11, .int .i64 (-1023)]] w fun e w' =>
      ∃ x, 1 ≤ x ∧ 2 ^ (x - 1) ≤ v ∧ v < 2 ^ x ∧ x ≤ 50 ∧ e = .returned (.tuple #[.int .u64 (fb v x), .bool false]) ∧ w.grownBy w' (some D) := by
  have HS := aside hS
  have HV1 := aside hv1
  have HV := aside hv
  have hdp1 : 1 ≤ dp := by have := hS.norm.len; omega
  have hdp15 := hS.dp_le hv
  clear hS hv1 hv
  have hDl := h.lt
  have hgl := h.glt
  have HD := aside h
  go_enter Tryz.func95, Tryz.ntmps95
  go_wp2
  obtain ⟨w0, hw0⟩ : ∃ w0, w0 = w.alloc (Obj.cells #[.int .i64 52, .int .i64 11, .int .i64 (-1023)] 152) := ⟨_, rfl⟩
  rw [← hw0]
  obtain ⟨F, hF⟩ : ∃ F, F = w.heap.size := ⟨_, rfl⟩
  rw [← hF]
  have hB0 : Below w.heap.size w w0 := by rw [hw0]; exact (Below.refl _ _).alloc (Nat.le_refl _) _
  have hA0 := h.below hB0 hDl hgl
  have hF0 : FormAt w0 F := ⟨by rw [hF, hw0]; exact Array.getElem?_push_size⟩
  obtain ⟨p0, p1, p2⟩ := hF0.c
  have HW0 := aside hw0
  have HF := aside hF
  have HB0 := aside hB0
  have HA0 := aside hA0
  have HF0 := aside hF0
  clear hw0 hF hB0 hA0 hF0 h
  go_quiet (fail)
  have hG1 : w0.grownBy (w0.drewN nq) (some D) := grownBy_drewN (grownBy_refl _ _) _
  have hA1 := HA0.out.drewN nq
  have hF1 := HF0.out.grown hG1 (by have := HF.out; omega)
  obtain ⟨w1, hw1⟩ : ∃ w1, w1 = w0.drewN nq := ⟨_, rfl⟩
  rw [← hw1] at hG1 hA1 hF1 ⊢
  have c0 := hA1.c0
  have c1 := hA1.c1
  have t1 : ((ds.length : Int) == 0) = false := by have := HS.out.norm.len; simp only [beq_eq_false_iff_ne, ne_eq]; omega
  have t2 : decide (dp < -330) = false := by simp; omega
  have t3 : decide (dp > 310) = false := by simp; omega
  have HA1 := aside hA1
  have HG1 := aside hG1
  have HF1 := aside hF1
  clear hw1 hA1 hF1 hG1 p0 p1 p2
  go_wp2_with fail
  have hb1 : (ds.length : Int) - dp ≤ 0 := by omega
  clear t1 t2 t3 c0 c1
  go_loopg [7, 8] 95 (fun q s7 s8 wr => ∃ (x : Nat) (ds : List Nat) (dp : Int) (g cap : Nat), s7 = .int .i64 x ∧ Hid (Dec.St v x ds dp) ∧ Hid (DecAt wr B D g cap ds dp) ∧ Hid (w1.grownBy wr (some D)) ∧ 3 * ((ds.length : Int) - dp) ≤ 57 + 7 * x ∧ x ≤ 94 ∧ 95 ≤ q + x)
  case atStart => exact ⟨0, ds, dp, g, cap, rfl, HS.out, HA1.out, grownBy_refl _ _, by omega, by omega, by omega⟩
  case round =>
    obtain ⟨x, ds, dp, g, cap, rfl, HS, HA, HG, hb, hx, hq⟩ := hrel
    have c0 := HA.out.c0
    have c1 := HA.out.c1
    have d15 := HS.out.dp_le HV.out
    have d29 := HS.out.dp_ge HV1.out hx
    by_cases hd : 0 < dp
    · have e1 : decide (dp > 0) = true := by simp; omega
      have x49 := HS.out.x_le HV.out hd
      obtain ⟨k, hk⟩ : ∃ k : Nat, (k : Int) = 3 * dp := ⟨(3 * dp).toNat, by omega⟩
      have k1 : IntKind.i64.wrap (3 * dp) = (k : Int) := by rw [IntWalk.i64_in _ (by omega), hk]
      have hkle : k ≤ 45 := by omega
      have hkge : 3 ≤ k := by omega
      have k2 : IntKind.i64.wrap ((x : Int) + (k : Int)) = (x : Int) + (k : Int) := IntWalk.i64_in _ (by omega)
      have hc := half_calls wr B D g cap ds dp k HA.out HS.out.norm (by omega) (by omega) (by omega) (by omega) (by omega) (by omega)
      have HK := aside hk
      clear hk
      go_wp2_with (go_at_call 113; refine hc.mono ?_; rintro e w4 ⟨rfl, hp⟩; refine Hid.out ?_)
      refine Lib.hid ?_
      obtain ⟨hg4, g', cap', ds', dp', hA', hN', hV', hF', hb'⟩ := hp
      have HG4 := aside hg4
      have HA4 := aside hA'
      clear hg4 hA' hc
      go_wp2_with fail
      go_roundg (95 - (x + k))
      case measure => omega
      case rel =>
        have h3k := HK.out
        refine ⟨x + k, ds', dp', g', cap', by simp, HS.out.half hN' hF' hV', HA4.out, grownBy_trans HG.out HG4.out, ?_, by omega, by omega⟩
        push_cast
        omega
    · have e1 : decide (dp > 0) = false := by simp; omega
      go_wp2_with fail
      clear e1 c0 c1 d15 d29 hq
      go_loopg [7, 9] x (fun q s7 s9 wr => ∃ (x : Nat) (ds : List Nat) (dp : Int) (g cap : Nat), s7 = .int .i64 x ∧ Hid (Dec.St v x ds dp) ∧ Hid (DecAt wr B D g cap ds dp) ∧ Hid (w1.grownBy wr (some D)) ∧ (ds.length : Int) - dp ≤ 239 ∧ dp ≤ 0 ∧ x ≤ 94 ∧ x ≤ q)
      case atStart => exact ⟨x, ds, dp, g, cap, rfl, HS.out, HA.out, HG.out, by omega, by omega, by omega, by omega⟩
      case round =>
        obtain ⟨x, ds, dp, g, cap, rfl, HS, HA, HG, hb, hd, hx, hq⟩ := hrel
        have c0 := HA.out.c0
        have c1 := HA.out.c1
        have d29 := HS.out.dp_ge HV1.out hx
        have hlp := HS.out.norm.len
        have d0 := HA.out.d 0 hlp
        obtain ⟨z, hz⟩ : ∃ z : Nat, z = ds.getD 0 0 := ⟨_, rfl⟩
        rw [← hz] at d0
        have HZ := aside hz
        clear hz
        by_cases hneg : dp < 0
        · have e1 : decide (dp < 0) = true := by simp; omega
          by_cases h59 : 59 < -3 * dp
          · have hlt := Dec.dbl_neg HS.out.norm HS.out.fits (by omega) hneg (k := 59) (by omega)
            have hc : Calls Tryz.prog 114 #[.pointer (some ⟨D, 0, none⟩), .int .i64 59] wr _ := double_calls wr B D g cap ds dp 59 HA.out HS.out.norm (by omega) (by omega) (by omega) (by omega) (by omega) HS.out.fits
            obtain ⟨hkx, hnew⟩ : 59 < x ∧ ∀ (ds' : List Nat) (dp' : Int), Dec.Norm ds' → Dec.Fits ds' dp' → Dec.V ds' dp' = 2 ^ 59 * Dec.V ds dp → dp' ≤ 0 ∧ Dec.St v (x - 59) ds' dp' := by
              refine ⟨?_, fun _ _ hN hF hV => (HS.out.double HV1.out hlt hN hF hV).2⟩
              refine Dec.pow2_lt (Nat.lt_of_mul_lt_mul_right (a := Dec.V ds dp) ?_)
              have h2 : 1 * 10 ^ 250 ≤ v * 10 ^ 250 := Nat.mul_le_mul_right _ HV1.out
              rw [← HS.out.val, Nat.mul_comm (Dec.V ds dp)] at h2
              omega
            have HNEW := aside hnew
            have HX := aside hkx
            have k2 : IntKind.i64.wrap ((x : Int) - 59) = (x : Int) - 59 := IntWalk.i64_in _ (by omega)
            clear hlt hnew hkx
            go_wp2_with (go_at_call 114; refine hc.mono ?_; rintro e w4 ⟨rfl, hp⟩; refine Hid.out ?_)
            refine Lib.hid ?_
            obtain ⟨hg4, g', cap', ds', dp', hA', hN', hT', hV', hF', hb'⟩ := hp
            have HG4 := aside hg4
            have HA4 := aside hA'
            have HV4 := aside hV'
            clear hg4 hA' hc hV'
            go_wp2_with fail
            have hkx := HX.out
            go_roundg (x - 59)
            case measure => omega
            case rel =>
              have h5 := HNEW.out _ _ hN' hF' HV4.out
              refine ⟨x - 59, ds', dp', g', cap', ?_, h5.2, HA4.out, grownBy_trans HG.out HG4.out, by omega, h5.1, by omega, by omega⟩
              congr 1; omega
          · obtain ⟨k, hk⟩ : ∃ k : Nat, (k : Int) = -3 * dp := ⟨(-3 * dp).toNat, by omega⟩
            have hlt := Dec.dbl_neg HS.out.norm HS.out.fits (by omega) hneg (k := k) (by omega)
            have hc := double_calls wr B D g cap ds dp k HA.out HS.out.norm (by omega) (by omega) (by omega) (by omega) (by omega) HS.out.fits
            rw [hk] at hc
            have hk1 : 1 ≤ k := by omega
            obtain ⟨hkx, hnew⟩ : k < x ∧ ∀ (ds' : List Nat) (dp' : Int), Dec.Norm ds' → Dec.Fits ds' dp' → Dec.V ds' dp' = 2 ^ k * Dec.V ds dp → dp' ≤ 0 ∧ Dec.St v (x - k) ds' dp' := by
              refine ⟨?_, fun _ _ hN hF hV => (HS.out.double HV1.out hlt hN hF hV).2⟩
              refine Dec.pow2_lt (Nat.lt_of_mul_lt_mul_right (a := Dec.V ds dp) ?_)
              have h2 : 1 * 10 ^ 250 ≤ v * 10 ^ 250 := Nat.mul_le_mul_right _ HV1.out
              rw [← HS.out.val, Nat.mul_comm (Dec.V ds dp)] at h2
              omega
            have HNEW := aside hnew
            have HX := aside hkx
            have k2 : IntKind.i64.wrap ((x : Int) - (-3 * dp)) = (x : Int) - (-3 * dp) := IntWalk.i64_in _ (by omega)
            clear hlt hnew hkx
            go_wp2_with (go_at_call 114; refine hc.mono ?_; rintro e w4 ⟨rfl, hp⟩; refine Hid.out ?_)
            refine Lib.hid ?_
            obtain ⟨hg4, g', cap', ds', dp', hA', hN', hT', hV', hF', hb'⟩ := hp
            have HG4 := aside hg4
            have HA4 := aside hA'
            have HV4 := aside hV'
            clear hg4 hA' hc hV'
            go_wp2_with fail
            have hkx := HX.out
            go_roundg (x - k)
            case measure => omega
            case rel =>
              have h5 := HNEW.out _ _ hN' hF' HV4.out
              refine ⟨x - k, ds', dp', g', cap', ?_, h5.2, HA4.out, grownBy_trans HG.out HG4.out, by omega, h5.1, by omega, by omega⟩
              congr 1; omega
        · have hd0 : dp = 0 := by omega
          subst hd0
          by_cases hz5 : z < 5
          · have e2 : decide ((z : Int) < 5) = true := by simp; omega
            have hlt := Dec.dbl_zero HS.out.norm HS.out.fits (by have := HZ.out; omega)
            have hc : Calls Tryz.prog 114 #[.pointer (some ⟨D, 0, none⟩), .int .i64 1] wr _ := double_calls wr B D g cap ds 0 1 HA.out HS.out.norm (by omega) (by omega) (by omega) (by omega) (by omega) HS.out.fits
            obtain ⟨hkx, hnew⟩ : 1 < x ∧ ∀ (ds' : List Nat) (dp' : Int), Dec.Norm ds' → Dec.Fits ds' dp' → Dec.V ds' dp' = 2 ^ 1 * Dec.V ds 0 → dp' ≤ 0 ∧ Dec.St v (x - 1) ds' dp' := by
              refine ⟨?_, fun _ _ hN hF hV => (HS.out.double HV1.out hlt hN hF hV).2⟩
              refine Dec.pow2_lt (Nat.lt_of_mul_lt_mul_right (a := Dec.V ds 0) ?_)
              have h2 : 1 * 10 ^ 250 ≤ v * 10 ^ 250 := Nat.mul_le_mul_right _ HV1.out
              rw [← HS.out.val, Nat.mul_comm (Dec.V ds 0)] at h2
              omega
            have HNEW := aside hnew
            have HX := aside hkx
            have k2 : IntKind.i64.wrap ((x : Int) - 1) = (x : Int) - 1 := IntWalk.i64_in _ (by omega)
            clear hlt hnew hkx
            go_wp2_with (go_at_call 114; refine hc.mono ?_; rintro e w4 ⟨rfl, hp⟩; refine Hid.out ?_)
            refine Lib.hid ?_
            obtain ⟨hg4, g', cap', ds', dp', hA', hN', hT', hV', hF', hb'⟩ := hp
            have HG4 := aside hg4
            have HA4 := aside hA'
            have HV4 := aside hV'
            clear hg4 hA' hc hV'
            go_wp2_with fail
            have hkx := HX.out
            go_roundg (x - 1)
            case measure => omega
            case rel =>
              have h5 := HNEW.out _ _ hN' hF' HV4.out
              refine ⟨x - 1, ds', dp', g', cap', ?_, h5.2, HA4.out, grownBy_trans HG.out HG4.out, by omega, h5.1, by omega, by omega⟩
              congr 1; omega
          · have e2 : decide ((z : Int) < 5) = false := by simp; omega
            have hfd := HS.out.found HV.out (by have := HZ.out; omega)
            obtain ⟨hx1, hlo, hhi, hx50⟩ := hfd
            have HLO := aside hlo
            have HHI := aside hhi
            have hgDF : D < w1.heap.size := by have := HG1.out.size; have := HB0.out.size; omega
            have hFr := (HF1.out.grown HG.out (by have := HF.out; omega))
            have HFR := aside hFr
            obtain ⟨p0, p1, p2⟩ := hFr.c
            have k1 : IntKind.i64.wrap ((x : Int) - 1) = (x : Int) - 1 := IntWalk.i64_in _ (by omega)
            have k2 : IntKind.i64.wrap (-1022 - ((x : Int) - 1)) = -1022 - ((x : Int) - 1) := IntWalk.i64_in _ (by omega)
            have k3 : IntKind.i64.wrap ((x : Int) - 1 - -1023) = (x : Int) - 1 - -1023 := IntWalk.i64_in _ (by omega)
            have e3 : decide (-1022 - ((x : Int) - 1) > 0) = false := by simp; omega
            clear hlo hhi hFr
            go_wp2_with fail
            go_quiet (fail)
            have hG5 : w1.grownBy (wr.drewN nq) (some D) := grownBy_drewN HG.out _
            have hA5 := HA.out.drewN nq
            have hF5 := HF1.out.grown hG5 (by have := HF.out; omega)
            obtain ⟨w5, hw5⟩ : ∃ w5, w5 = wr.drewN nq := ⟨_, rfl⟩
            rw [← hw5] at hG5 hA5 hF5 ⊢
            obtain ⟨p0, p1, p2⟩ := hF5.c
            have hc := shift_calls w5 B D g cap ds 0 hA5 HS.out.norm (by omega) (by omega) (by omega) HS.out.fits
            have HG5 := aside hG5
            have HF5 := aside hF5
            have HW5 := aside hw5
            clear hG5 hF5 hA5 hw5
            have e4 : decide ((x : Int) - 1 - -1023 ≥ 2047) = false := by simp; omega
            go_wp2_with (go_at_call 111; refine hc.mono ?_; rintro e w6 ⟨rfl, hp⟩; refine Hid.out ?_)
            refine Lib.hid ?_
            obtain ⟨hg6, g', cap', ds', dp', hA6, hN', hT', hV', hF', hb'⟩ := hp
            obtain ⟨rfl, hl16, hP16, hMlo, hMhi⟩ := HS.out.mant HV.out (by have := HZ.out; omega) hN' hF' hT' hV'
            have hF6 := HF5.out.grown hg6 (by have := HF.out; omega)
            obtain ⟨p0', p1', p2'⟩ := hF6.c
            have hw := whole_calls w6 B D g' cap' ds' 16 hA6 hN' hl16 (by omega)
            obtain ⟨M, hM⟩ : ∃ M : Nat, M = v * 2 ^ (53 - x) := ⟨_, rfl⟩
            rw [hP16, ← hM] at hw
            rw [← hM] at hMlo hMhi
            have HM := aside hM
            have m1 : ((M : Int) == 9007199254740992) = false := by simp only [beq_eq_false_iff_ne, ne_eq]; omega
            have m2 : bits .and .u64 (M : Int) 4503599627370496 = 4503599627370496 := and_bit52 hMlo hMhi
            have m3 : bits .and .u64 (M : Int) 4503599627370495 = (M : Int) - 4503599627370496 := and_low52 hMlo hMhi
            have HG6 := aside hg6
            have HMM := aside (And.intro hMlo hMhi)
            clear hg6 hA6 hF6 hV' hMlo hMhi hM hT' hP16 hl16 hF' hb' hc e4
            go_wp2_with (go_at_call 115; refine hw.mono ?_; rintro e w7 ⟨rfl, rfl⟩; refine Hid.out ?_)
            refine Lib.hid ?_
            go_wp2_with fail
            go_quiet (fail)
            go_wp2_with fail
            go_ret2
            have hb := HB0.out
            have hg7 := grownBy_trans HG5.out HG6.out
            have hg1 := grownBy_trans HG1.out hg7
            refine ⟨x, hx1, HLO.out, HHI.out, hx50, ?_, ?_⟩
            · rw [or_fb HM.out HMM.out.1 HMM.out.2 hx1 hx50]; rfl
            · refine grownBy_drewN (grownBy_trans (b := w0) ?_ hg1) _
              exact ⟨hb.os, hb.tape, hb.output, hb.size, fun b hb' _ => hb.block b hb'⟩
end Go.Proofs.YteplcmhmjdiimaaGreatDoor
namespace Go.Proofs.YteplcmhmjdiimaaGreatDoor
open Go.RowKit

/-- A text's byte. -/
def bt (s : ByteArray) (i : Nat) : Nat := if h : i < s.size then (s[i]'h).toNat else 0
theorem bt_in {s : ByteArray} {i : Nat} (h : i < s.size) : (s[i]'h).toNat = bt s i := by unfold bt; rw [dif_pos h]
theorem bt_lt (s : ByteArray) (i : Nat) : bt s i < 256 := by
  unfold bt; split
  · exact UInt8.toNat_lt _
  · omega
/-- A letter in lower case. -/
def low (c : Nat) : Nat := if 65 ≤ c ∧ c ≤ 90 then c + 32 else c
/-- Two texts are one but for the case of the first one's letters. -/
def foldB (s t : ByteArray) : Bool := decide (s.size = t.size ∧ ∀ i, i < s.size → low (bt s i) = bt t i)

set_option maxHeartbeats 2000000 in
theorem fold_calls (w : World) (s t : ByteArray) (hs : s.size < 9223372036854775807) :
    Calls Tryz.prog 87 #[.string s, .string t] w fun e w' => e = .returned (.bool (foldB s t)) ∧ w' = w := by
  go_enter Tryz.func87, Tryz.ntmps87
  by_cases hl : s.size = t.size
  · have e1 : (!((s.size : Int) == (t.size : Int))) = false := by simp; omega
    go_wp2
    go_loopg [5, 6] s.size (fun q s5 s6 wr => ∃ i : Nat, s5 = .int .i64 i ∧ i ≤ s.size ∧ s.size ≤ q + i ∧ Hid (∀ k, k < i → low (bt s k) = bt t k) ∧ w = wr)
    case atStart => exact ⟨0, rfl, by omega, by omega, fun k hk => absurd hk (by omega), rfl⟩
    case round =>
      obtain ⟨i, rfl, hi, hq, HM, rfl⟩ := hrel
      by_cases hlt : i < s.size
      · have e2 : decide ((i : Int) < (s.size : Int)) = true := by simp; omega
        obtain ⟨c, hc⟩ : ∃ c : Nat, c = bt s i := ⟨_, rfl⟩
        obtain ⟨d, hd⟩ : ∃ d : Nat, d = bt t i := ⟨_, rfl⟩
        have hlt' : i < t.size := by omega
        have e3 : (s[i]'hlt).toNat = c := by rw [hc]; exact bt_in hlt
        have e4 : (t[i]'hlt').toNat = d := by rw [hd]; exact bt_in hlt'
        have HC := aside hc
        have HDD := aside hd
        have hc256 : c < 256 := by rw [hc]; exact bt_lt _ _
        clear hc hd
        by_cases heq : low c = d
        · have HE := aside heq
          go_wp2_with fail
          all_goals first
            | (go_roundg (s.size - (i + 1))
               case measure => omega
               case rel =>
                 refine ⟨i + 1, by simp, by omega, by omega, ?_, rfl⟩
                 intro k hk
                 by_cases hki : k = i
                 · subst hki; rw [← HC.out, ← HDD.out]; exact heq
                 · exact HM.out k (by omega))
            | (exfalso; unfold low at heq; simp at *; split at heq <;> omega)
        · have hf : foldB s t = false := by
            simp only [foldB, decide_eq_false_iff_not, not_and, Classical.not_forall]
            exact fun _ => ⟨i, hlt, by rw [← HC.out, ← HDD.out]; exact heq⟩
          go_wp2_with fail
          all_goals first
            | (go_ret; exact ⟨by first | rfl | (rw [hf]; rfl), rfl⟩)
            | (exfalso; unfold low at heq; simp at *; split at heq <;> omega)

      · have e2 : decide ((i : Int) < (s.size : Int)) = false := by simp; omega
        have ht : foldB s t = true := by
          simp only [foldB, decide_eq_true_eq]
          exact ⟨hl, fun k hk => HM.out k (by omega)⟩
        go_wp2_with fail
        go_ret
        rw [ht]
        exact ⟨rfl, rfl⟩
  · have e1 : (!((s.size : Int) == (t.size : Int))) = true := by simp; omega
    have hf : foldB s t = false := by
      simp only [foldB, decide_eq_false_iff_not, not_and]
      exact fun h => absurd h hl
    rw [hf]
    go_wp2
    go_ret
    exact ⟨rfl, rfl⟩
end Go.Proofs.YteplcmhmjdiimaaGreatDoor
