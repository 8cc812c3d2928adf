/-
  A decimal in memory ('DecAt'), and trim: trailing zeros are cut off; nothing but the decimal's own two cells is written.
-/
import Derived.Test.YteplcmhmjdiimaaGreatDoorProg
import Derived.Test.YteplcmhmjdiimaaGreatDoorcD0
import Derived.WalkKit
import Derived.WalkSpells
import Derived.WalkLawsBesides
import Derived.BigQuiet
import Derived.IntWalk
import Derived.StillTailTactics
import Derived.Deep.QuietTactic
import Derived.Deep.LoopGhost
namespace Go.Proofs.YteplcmhmjdiimaaGreatDoor
open Go.RowKit

/-- A fact put aside: the walk does not look behind the name. -/
theorem aside {p : Prop} (h : p) : Hid p := h

def dcells (ds : List Nat) : List Value := ds.map fun d : Nat => Value.int .u8 (d : Int)
theorem dcells_length (ds : List Nat) : (dcells ds).length = ds.length := by simp [dcells]
theorem dcells_get (ds : List Nat) (j : Nat) (h : j < ds.length) : (dcells ds)[j]? = some (.int .u8 ((ds.getD j 0 : Nat) : Int)) := by
  simp [dcells, List.getElem?_eq_getElem h, List.getD_eq_getElem?_getD]

/-- A decimal with at least one digit, at block D: its digits lie in a row g of their own, from block B on. -/
structure DecAt (w : World) (B D g cap : Nat) (ds : List Nat) (dp : Int) : Prop where
  blk : w.heap[D]? = some (.cells #[.slice (some ⟨g, 0, none⟩) ds.length cap, .int .i64 dp] 179 (0, 0))
  row : w.ownsRow B 5 1 (.slice (some ⟨g, 0, none⟩) ds.length cap) ds.length (dcells ds)
  ne : g ≠ D
  ge : B ≤ D

section
variable {w w' : World} {B D g cap : Nat} {ds : List Nat} {dp : Int}
theorem DecAt.c0 (h : DecAt w B D g cap ds dp) : w.cell? ⟨D, 0, none⟩ = some (.slice (some ⟨g, 0, none⟩) ds.length cap) := by
  rw [cell_of_row w D 0 _ _ _ h.blk]; rfl
theorem DecAt.c1 (h : DecAt w B D g cap ds dp) : w.cell? ⟨D, 1, none⟩ = some (.int .i64 dp) := by
  rw [cell_of_row w D 1 _ _ _ h.blk]; rfl
theorem DecAt.f (h : DecAt w B D g cap ds dp) (i : Nat) : w.frozen? ⟨D, i, none⟩ = false := frozen_of_row w D i _ _ h.blk
theorem DecAt.d (h : DecAt w B D g cap ds dp) (j : Nat) (hj : j < ds.length) : w.cell? ⟨g, j, none⟩ = some (.int .u8 ((ds.getD j 0 : Nat) : Int)) := by
  rw [h.row.cellAt j (by omega), dcells_get ds j hj]
theorem DecAt.lt (h : DecAt w B D g cap ds dp) : D < w.heap.size := (Array.getElem?_eq_some_iff.1 h.blk).1
theorem DecAt.glt (h : DecAt w B D g cap ds dp) : g < w.heap.size := (h.row.lt g rfl).2
theorem DecAt.capLe (h : DecAt w B D g cap ds dp) : ds.length ≤ cap ∧ cap ≤ maxLen := by
  rcases h.row.2 with ⟨h', _⟩ | ⟨g', cap', cur, h', _, _, h1, h2, _⟩
  · simp at h'
  · simp only [Value.slice.injEq, Option.some.injEq, Addr.mk.injEq, and_true, true_and] at h'
    obtain ⟨_, rfl⟩ := h'
    exact ⟨h1, h2⟩
/-- The decimal with a prefix of its digits, in a world of which the block D alone has turned. -/
theorem DecAt.cut (h : DecAt w B D g cap ds dp) (hg : w.grownBy w' (some D)) (m : Nat) (hm : m ≤ ds.length) {dp' : Int} (hb : w'.heap[D]? = some (.cells #[.slice (some ⟨g, 0, none⟩) m cap, .int .i64 dp'] 179 (0, 0))) :
    DecAt w' B D g cap (ds.take m) dp' := by
  have hl : (ds.take m).length = m := by simp; omega
  refine ⟨by rw [hl]; exact hb, ?_, h.ne, h.ge⟩
  have h1 := h.row.kept hg (.inr (by simp [Value.ownBlock]; exact h.ne))
  refine ⟨by rw [dcells_length]; omega, ?_⟩
  rcases h1.2 with ⟨h', _⟩ | ⟨g', cap', cur, h', hbb, hgg, hn, hc, hs, ht⟩
  · simp at h'
  · simp only [Value.slice.injEq, Option.some.injEq, Addr.mk.injEq, and_true, true_and] at h'
    obtain ⟨rfl, rfl⟩ := h'
    refine .inr ⟨g, cap, cur, by rw [hl], hbb, hgg, by omega, hc, hs, ?_⟩
    rw [hl, Nat.mul_one]
    rw [Nat.mul_one] at ht
    have : cur.toList.take m = (cur.toList.take ds.length).take m := by rw [List.take_take]; congr 1; omega
    rw [this, ht]
    simp [dcells, List.map_take]
end

theorem grownBy_refl (w : World) (r : Option Nat) : w.grownBy w r := ⟨rfl, rfl, rfl, Nat.le_refl _, fun _ _ _ => rfl⟩
theorem grownBy_trans {a b c : World} {r : Option Nat} (h : a.grownBy b r) (k : b.grownBy c r) : a.grownBy c r :=
  ⟨k.os.trans h.os, k.tape.trans h.tape, k.output.trans h.output, Nat.le_trans h.size k.size, fun i hi hne => (k.block i (Nat.lt_of_lt_of_le hi h.size) hne).trans (h.block i hi hne)⟩
theorem grownBy_drewN {a b : World} {r : Option Nat} (h : a.grownBy b r) (n : Nat) : a.grownBy (b.drewN n) r := ⟨h.os, h.tape, h.output, h.size, h.block⟩
theorem grownBy_drew {a b : World} {r : Option Nat} (h : a.grownBy b r) : a.grownBy b.drew r := ⟨h.os, h.tape, h.output, h.size, h.block⟩
theorem grownBy_set {a b : World} {D : Nat} (h : a.grownBy b (some D)) (i : Nat) (v : Value) : a.grownBy (b.setCell ⟨D, i, none⟩ v) (some D) :=
  ⟨h.os, h.tape, h.output, by simp only [World.setCell, Array.size_modify]; exact h.size, fun k hk hne => by rw [heap_setCell_other _ _ _ _ (fun e => hne (by simp [e]))]; exact h.block k hk hne⟩
theorem grownBy_below {a b : World} {B D : Nat} (h : a.grownBy b (some D)) (hB : B ≤ a.heap.size) (hD : B ≤ D) : Below B a b :=
  ⟨h.os, h.tape, h.output, h.size, fun k hk => h.block k (by omega) (by simp; omega)⟩

set_option maxHeartbeats 1000000 in
set_option maxRecDepth 100000 in
theorem trim_calls (w : World) (B D g cap : Nat) (ds : List Nat) (dp : Int) (h : DecAt w B D g cap ds dp) (hN : Dec.Norm ds) :
    Calls Tryz.prog 109 #[.pointer (some ⟨D, 0, none⟩)] w fun e w' => e = .returned (.pointer (some ⟨D, 0, none⟩)) ∧ w.grownBy w' (some D) ∧ DecAt w' B D g cap (Dec.trimZ ds) dp := by
  have hcap := h.capLe
  have hmax : ds.length ≤ 9223372036854775807 := by have := hcap.2; unfold maxLen at this; omega
  go_enter Tryz.func109, Tryz.ntmps109
  go_wp2
  go_loopg [] ds.length (fun k wr => ∃ m : Nat, m ≤ k ∧ k ≤ ds.length ∧ 0 < m ∧ w.grownBy wr (some D) ∧ DecAt wr B D g cap (ds.take m) dp ∧ Hid (Dec.trimZ (ds.take m) = Dec.trimZ ds))
  case atStart => exact ⟨ds.length, Nat.le_refl _, Nat.le_refl _, hN.len, grownBy_refl _ _, by rw [List.take_length]; exact h, by show _ = _; rw [List.take_length]⟩
  case round =>
    obtain ⟨m, hmk, hkl, hm0, hg, hd, HT⟩ := hrel
    have hl : (ds.take m).length = m := by simp; omega
    have c0 := hd.c0
    have f0 := hd.f 0
    rw [hl] at c0
    obtain ⟨z, hz⟩ : ∃ z : Nat, z = (ds.take m).getD (m - 1) 0 := ⟨_, rfl⟩
    have dl := hd.d (m - 1) (by omega)
    rw [← hz] at dl
    have hgt : decide ((m : Int) > 0) = true := by simp; omega
    have e1 : (0 : Int) ≤ (m : Int) - 1 := by omega
    have e2 : (m : Int) - 1 < (m : Int) := by omega
    have hD := aside hd
    have HL := aside hl
    have HZ := aside hz
    have hmc : m ≤ cap := by have := hcap.1; omega
    clear hl hd h hcap hz
    by_cases h0 : z = 0
    · have h0z : ((z : Int) == 0) = true := by simp [h0]
      go_wp2_with fail
      go_quiet (fail)
      go_wp2_with fail
      have c0' : (wr.drewN nq).cell? ⟨D, 0, none⟩ = some (.slice (some ⟨g, 0, none⟩) m cap) := c0
      have f0' : (wr.drewN nq).frozen? ⟨D, 0, none⟩ = false := f0
      have k1 : (m : Int) - 1 ≤ (cap : Int) := by omega
      have k2 : ((m : Int) - 1).toNat = m - 1 := by omega
      have k3 : IntKind.i64.wrap ((m : Int) - 1) = (m : Int) - 1 := IntWalk.i64_in _ (by omega)
      obtain ⟨w2, hw2⟩ : ∃ w2, w2 = wr.drewN nq := ⟨_, rfl⟩
      rw [← hw2] at c0' f0' ⊢
      have HW := aside hw2
      clear hw2
      go_region
      go_wp2
      clear k1 k2 k3
      go_roundg (m - 1)
      case measure => omega
      case rel =>
        have hm1 : 0 < m - 1 := by
          by_cases h1 : m = 1
          · exfalso
            subst h1
            have := hN.head
            have hz := HZ.out
            rw [h0] at hz
            cases ds with
            | nil => exact this rfl
            | cons d r => simp at hz this; omega
          · omega
        have hgw : w2.heap[D]? = some (.cells #[.slice (some ⟨g, 0, none⟩) m cap, .int .i64 dp] 179 (0, 0)) := by
          rw [HW.out]; have := hD.out.blk; rw [HL.out] at this; exact this
        have hG : wr.grownBy (w2.drew.setCell ⟨D, 0, none⟩ (.slice (some ⟨g, 0, none⟩) (m - 1) cap)) (some D) := by
          rw [HW.out]; exact grownBy_set (grownBy_drew (grownBy_drewN (grownBy_refl _ _) _)) _ _
        refine ⟨m - 1, Nat.le_refl _, by omega, hm1, grownBy_trans hg hG, ?_, ?_⟩
        · have := hD.out.cut hG (m - 1) (by rw [HL.out]; omega) (dp' := dp) (heap_setCell_same w2.drew D 0 _ 179 _ hgw)
          rw [List.take_take] at this
          rwa [show min (m - 1) m = m - 1 by omega] at this
        · show _ = _
          rw [← HT.out]
          have e : ds.take m = ds.take (m - 1) ++ [0] := by
            have hi : m - 1 < ds.length := by omega
            have hz := HZ.out
            rw [h0] at hz
            have : ds.take m = ds.take (m - 1) ++ [ds[m - 1]] := by
              have := List.take_succ_eq_append_getElem hi
              rwa [show m - 1 + 1 = m by omega] at this
            rw [this]
            congr 2
            rw [List.getD_eq_getElem?_getD, List.getElem?_take, if_pos (by omega), List.getElem?_eq_getElem hi] at hz
            simpa using hz.symm
          rw [e, Dec.trimZ_snoc_zero]
    · have h0z : ((z : Int) == 0) = false := by simp [h0]
      have hl0 : ((m : Int) == 0) = false := by simp; omega
      go_wp2_with fail
      go_quiet (fail)
      go_wp2_with fail
      go_ret
      have e : Dec.trimZ ds = ds.take m := by
        rw [← HT.out]
        have hi : m - 1 < ds.length := by omega
        have hz := HZ.out
        have : ds.take m = ds.take (m - 1) ++ [ds[m - 1]] := by
          have := List.take_succ_eq_append_getElem hi
          rwa [show m - 1 + 1 = m by omega] at this
        rw [this]
        refine Dec.trimZ_snoc _ _ ?_
        rw [List.getD_eq_getElem?_getD, List.getElem?_take, if_pos (by omega), List.getElem?_eq_getElem hi] at hz
        simp at hz
        omega
      rw [e]
      refine ⟨rfl, grownBy_drewN hg _, ?_⟩
      have := hD.out
      exact ⟨this.blk, this.row, this.ne, this.ge⟩
end Go.Proofs.YteplcmhmjdiimaaGreatDoor
