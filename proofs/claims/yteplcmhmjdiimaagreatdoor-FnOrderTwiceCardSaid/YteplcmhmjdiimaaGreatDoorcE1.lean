/-
  read: digits as a decimal.
  The small ones: formOf, float, fail, underscores; read on a word.
  read on what is no number.
  lightstrconv.ParseFloat on a word that is no number.
  lightstrconv.ParseFloat on a whole decimal.
  lightstrconv.ParseFloat on a whole decimal: the walk.
  Floats of whole numbers: the word nearest to a number is its own word; order of words is order of numbers.
-/
import Derived.Test.YteplcmhmjdiimaaGreatDoorcD2
import Derived.Deep.DeepCutAuto
namespace Go.Proofs.YteplcmhmjdiimaaGreatDoor
open Go.RowKit

namespace Dec
/-- Leading zeros cut off. -/
def dz (l : List Nat) : List Nat := l.dropWhile (· == 0)
theorem dz_nil : dz [] = [] := rfl
theorem dz_snoc (l : List Nat) (d : Nat) : dz (l ++ [d]) = if dz l = [] ∧ d = 0 then [] else dz l ++ [d] := by
  induction l with
  | nil => by_cases h : d = 0 <;> simp [dz, h]
  | cons x r ih =>
    by_cases hx : x = 0
    · subst hx
      have e : ∀ r' : List Nat, dz (0 :: r') = dz r' := fun r' => by simp [dz]
      rw [List.cons_append, e, e]; exact ih
    · have : ∀ r' : List Nat, dz (x :: r') = x :: r' := fun r' => by simp [dz, hx]
      rw [List.cons_append, this, this, if_neg (by simp)]
      rfl
theorem dval_dz (l : List Nat) : dval (dz l) = dval l := by
  induction l with
  | nil => rfl
  | cons x r ih =>
    by_cases hx : x = 0
    · subst hx; rw [dval_cons, Nat.zero_mul, Nat.zero_add, ← ih]; simp [dz]
    · simp [dz, hx]
theorem dz_mem (l : List Nat) (d : Nat) (h : d ∈ dz l) : d ∈ l := (List.dropWhile_suffix _).subset h
theorem dz_len (l : List Nat) : (dz l).length ≤ l.length := (List.dropWhile_suffix _).length_le
theorem dz_norm {l : List Nat} (hd : ∀ d ∈ l, d < 10) (hne : dz l ≠ []) : Norm (dz l) := by
  refine ⟨fun d h => hd d (dz_mem l d h), ?_⟩
  induction l with
  | nil => exact absurd rfl hne
  | cons x r ih =>
    by_cases hx : x = 0
    · subst hx
      have e : dz (0 :: r) = dz r := by simp [dz]
      rw [e] at hne ⊢
      exact ih (fun d h => hd d (List.mem_cons_of_mem _ h)) hne
    · have e : dz (x :: r) = x :: r := by simp [dz, hx]
      rw [e]; simpa using hx
theorem st_start {ds : List Nat} (h : Norm ds) : St (dval ds) 0 (trimZ ds) (ds.length : Int) ∧ ((trimZ ds).length : Int) ≤ ds.length := by
  have hF : Fits ds (ds.length : Int) := by unfold Fits; omega
  have hV := V_trimZ ds (ds.length : Int) hF
  refine ⟨⟨trimZ_norm h, hV.2, ?_⟩, by have := trimZ_length ds; omega⟩
  rw [hV.1]
  unfold V
  rw [show ((ds.length : Int) + 250 - ds.length).toNat = 250 by omega]
  simp
theorem dz_empty {l : List Nat} (hd : ∀ d ∈ l, d < 10) : dz l = [] ↔ dval l = 0 := by
  constructor
  · intro h; rw [← dval_dz, h]; rfl
  · intro h
    refine Classical.byContradiction fun hne => ?_
    have := (dz_norm hd hne).ge
    rw [dval_dz, h] at this
    have := Nat.pow_pos (n := (dz l).length - 1) (show 0 < 10 by omega)
    omega
end Dec

set_option maxHeartbeats 1000000 in
theorem trim_empty (w : World) (D : Nat) (h : w.heap[D]? = some (.cells #[.slice none 0 0, .int .i64 0] 179 (0, 0))) :
    Calls Tryz.prog 109 #[.pointer (some ⟨D, 0, none⟩)] w fun e w' => e = .returned (.pointer (some ⟨D, 0, none⟩)) ∧ w.grownBy w' (some D) ∧ w'.heap[D]? = some (.cells #[.slice none 0 0, .int .i64 0] 179 (0, 0)) := by
  have c0 : w.cell? ⟨D, 0, none⟩ = some (.slice none 0 0) := by rw [cell_of_row w D 0 _ _ _ h]; rfl
  have f0 : w.frozen? ⟨D, 1, none⟩ = false := frozen_of_row w D 1 _ _ h
  have c1 : w.cell? ⟨D, 1, none⟩ = some (.int .i64 0) := by rw [cell_of_row w D 1 _ _ _ h]; rfl
  have H := aside h
  clear h
  go_enter Tryz.func109, Tryz.ntmps109
  go_wp2
  go_loopg [] 0 (fun q wr => w = wr)
  case atStart => exact rfl
  case round =>
    obtain rfl := hrel
    go_wp2_with fail
    go_quiet (fail)
    go_wp2_with fail
    go_ret
    refine ⟨rfl, ?_, ?_⟩
    · exact grownBy_set (grownBy_drewN (grownBy_refl _ _) _) _ _
    · exact heap_setCell_same (w.drewN nq) D 1 _ 179 _ H.out

theorem or32 : ∀ c : Nat, 48 ≤ c → c < 58 → bits .or .u8 (c : Int) 32 = (c : Int) := by
  intro c h1 h2
  have : c = 48 ∨ c = 49 ∨ c = 50 ∨ c = 51 ∨ c = 52 ∨ c = 53 ∨ c = 54 ∨ c = 55 ∨ c = 56 ∨ c = 57 := by omega
  rcases this with h | h | h | h | h | h | h | h | h | h <;> subst h <;> decide

theorem lower_calls (w : World) (c : Nat) (h1 : 48 ≤ c) (h2 : c < 58) :
    Calls Tryz.prog 108 #[.int .u8 c] w fun e w' => e = .returned (.int .u8 c) ∧ w' = w := by
  have k := or32 c h1 h2
  go_enter Tryz.func108, Tryz.ntmps108
  go_wp2
  go_ret
  exact ⟨rfl, rfl⟩

/-- What read has gathered: a decimal at block D, without a digit too. -/
structure Acc (w : World) (D : Nat) (v : Value) (ds : List Nat) : Prop where
  blk : w.heap[D]? = some (.cells #[v, .int .i64 (ds.length : Int)] 179 (0, 0))
  row : w.ownsRow (D + 1) 5 1 v ds.length (dcells ds)
  nil : ds = [] → v = .slice none 0 0

theorem Acc.dec {w : World} {D : Nat} {v : Value} {ds : List Nat} (h : Acc w D v ds) (hne : ds ≠ []) : ∃ g cap, DecAt w D D g cap ds (ds.length : Int) := by
  have hp : 0 < ds.length := List.length_pos_iff.2 hne
  rcases h.row.2 with ⟨_, h0⟩ | ⟨g, cap, cur, hv, hb, hg, hn, hc, hs, ht⟩
  · omega
  · refine ⟨g, cap, by rw [← hv]; exact h.blk, ⟨by rw [dcells_length]; omega, .inr ⟨g, cap, cur, rfl, by omega, hg, hn, hc, hs, ht⟩⟩, by omega, Nat.le_refl _⟩
/-- A text of digits. -/
structure Digs (s : ByteArray) (ds : List Nat) : Prop where
  size : s.size = ds.length
  dig : ∀ d ∈ ds, d < 10
  at_ : ∀ i, i < s.size → bt s i = 48 + ds.getD i 0

theorem Acc.push {w w1 w2 : World} {D : Nat} {ds : List Nat} {d : Nat} {base : Option Addr} {cap : Nat} {v2 : Value} (h : Acc w D (.slice base ds.length cap) ds) (hsz : D < w.heap.size)
    (hw : ∀ k, k < w.heap.size → w1.heap[k]? = w.heap[k]?) (hs1 : w.heap.size ≤ w1.heap.size) (hg : w1.grownBy w2 (Value.slice base ds.length cap).ownBlock) (hO : w2.ownsRow (D + 1) 5 1 v2 (ds.length + 1) (dcells (ds ++ [d]))) :
    w2.heap[D]? = some (.cells #[.slice base ds.length cap, .int .i64 (ds.length : Int)] 179 (0, 0)) ∧ Acc ((w2.setCell ⟨D, 0, none⟩ v2).setCell ⟨D, 1, none⟩ (.int .i64 ((ds.length : Int) + 1))) D v2 (ds ++ [d]) := by
  have hb : w2.heap[D]? = some (.cells #[.slice base ds.length cap, .int .i64 (ds.length : Int)] 179 (0, 0)) := by
    rw [hg.block D (by omega) ?_, hw D hsz]
    · exact h.blk
    · intro e
      have := (h.row.lt D e.symm).1
      omega
  refine ⟨hb, ?_, ?_, fun h => absurd h (by simp)⟩
  · have h1 := heap_setCell_same w2 D 0 _ 179 v2 hb
    have h2 := heap_setCell_same _ D 1 _ 179 (.int .i64 ((ds.length : Int) + 1)) h1
    rw [h2]
    simp
  · rw [List.length_append]
    exact ownsRow_setCell_below (ownsRow_setCell_below hO (by simp) _) (by simp) _

set_option maxHeartbeats 4000000 in
set_option maxRecDepth 100000 in
theorem read_digits (w : World) (s : ByteArray) (ds : List Nat) (h : Digs s ds) (h1 : 1 ≤ ds.length) (h15 : ds.length ≤ 15) :
    Calls Tryz.prog 92 #[.string s] w fun e w' => e = .returned (.tuple #[.pointer (some ⟨w.heap.size, 0, none⟩), .bool true]) ∧ Below w.heap.size w w' ∧
      (Dec.dval ds = 0 → w'.heap[w.heap.size]? = some (.cells #[.slice none 0 0, .int .i64 0] 179 (0, 0))) ∧
      (Dec.dval ds ≠ 0 → ∃ g cap ds' dp', DecAt w' w.heap.size w.heap.size g cap ds' dp' ∧ Dec.St (Dec.dval ds) 0 ds' dp' ∧ (ds'.length : Int) ≤ dp') := by
  have z9 : ∀ i, ds.getD i 0 < 10 := by
    intro i
    by_cases hi : i < ds.length
    · have := h.dig (ds[i]) (List.getElem_mem hi)
      simpa [List.getD_eq_getElem?_getD, List.getElem?_eq_getElem hi] using this
    · rw [List.getD_eq_getElem?_getD, List.getElem?_eq_none (by omega)]; simp
  have hs1 : 1 ≤ s.size := by rw [h.size]; exact h1
  have hs15 : s.size ≤ 15 := by rw [h.size]; exact h15
  have H := aside h
  have HZ := aside z9
  clear h z9 h1 h15
  go_enter Tryz.func92, Tryz.ntmps92
  go_upto_region 2 with fail
  obtain ⟨w0, hw0⟩ : ∃ w0, w0 = w.alloc (Obj.cells #[.slice none 0 0, .int .i64 0] 179) := ⟨_, rfl⟩
  rw [← hw0]
  have HW0 := aside hw0
  clear hw0
  go_cut [5] (fun s5 wx => s5 = .bool false ∧ wx = w0)
  case first =>
    by_cases h2 : 2 ≤ s.size
    · have e1 : decide ((s.size : Int) ≥ 2) = true := by simp; omega
      obtain ⟨c, hc⟩ : ∃ c, c = 48 + ds.getD 1 0 := ⟨_, rfl⟩
      have e3 : (s[1]'(by omega)).toNat = c := by rw [bt_in, hc]; exact H.out.at_ 1 (by omega)
      have hz := HZ.out 1
      have hc1 : 48 ≤ c := by omega
      have hc2 : c < 58 := by omega
      have hcx : ((c : Int) == 120) = false := by simp only [beq_eq_false_iff_ne, ne_eq]; omega
      clear hc hz
      go_wp2_with (go_at_call 108; refine (lower_calls _ c hc1 hc2).mono ?_; rintro e w4 ⟨rfl, rfl⟩)
      all_goals (go_meet; exact ⟨rfl, rfl⟩)
    · have e1 : decide ((s.size : Int) ≥ 2) = false := by simp; omega
      go_wp2_with fail
      go_meet
      exact ⟨rfl, rfl⟩
  case rest =>
    obtain ⟨rfl, hwx⟩ := hcut
    rw [hwx]
    clear hwx
    go_wp2_with fail
    obtain ⟨D, hD⟩ : ∃ D, D = w.heap.size := ⟨_, rfl⟩
    rw [← hD]
    have hA0 : Acc w0 D (.slice none 0 0) [] := ⟨by rw [HW0.out, hD]; exact Array.getElem?_push_size, World.ownsRow_nil _ _ _ _, fun _ => rfl⟩
    have hB0 : Below w.heap.size w w0 := by rw [HW0.out]; exact (Below.refl _ _).alloc (Nat.le_refl _) _
    have hs0 : D < w0.heap.size := by rw [HW0.out, hD]; simp only [World.alloc, Array.size_push]; omega
    have HDW := aside hD
    have HA0 := aside hA0
    have HB0 := aside hB0
    clear hD hA0 hB0
    obtain ⟨i5, hi5, hz5, hs5, hb5⟩ := info_parts byte_info
    go_loopg [7, 8, 9, 10, 11] s.size (fun q s7 s8 s9 s10 s11 wr => ∃ (i : Nat) (v : Value), s7 = .int .u64 0 ∧ s8 = .bool (decide (0 < i)) ∧ s9 = .bool false ∧ s10 = .int .i64 0 ∧ s11 = .int .i64 i ∧ i ≤ s.size ∧ s.size ≤ q + i ∧
      Hid (Acc wr D v (Dec.dz (ds.take i))) ∧ Hid (Below w.heap.size w wr) ∧ D < wr.heap.size)
    case atStart => exact ⟨0, _, rfl, rfl, rfl, rfl, rfl, by omega, by omega, HA0.out, HB0.out, hs0⟩
    case round =>
      obtain ⟨i, v, rfl, rfl, rfl, rfl, rfl, hi, hq, HA, HB, hDs⟩ := hrel
      by_cases hlt : i < s.size
      · have e1 : decide ((i : Int) < (s.size : Int)) = true := by simp; omega
        obtain ⟨d, hd⟩ : ∃ d, d = ds.getD i 0 := ⟨_, rfl⟩
        obtain ⟨c, hc⟩ : ∃ c, c = 48 + d := ⟨_, rfl⟩
        have e3 : (s[i]'hlt).toNat = c := by rw [bt_in hlt, hc, hd]; exact H.out.at_ i hlt
        have hd9 : d < 10 := by rw [hd]; exact HZ.out i
        have hc1 : 48 ≤ c := by omega
        have hc2 : c < 58 := by omega
        have k1 : IntKind.u8.wrap ((c : Int) - 48) = (d : Int) := by rw [IntWalk.u8_in _ (by omega)]; omega
        have t1 : ((c : Int) == 95) = false := by simp only [beq_eq_false_iff_ne, ne_eq]; omega
        have t2 : ((c : Int) == 46) = false := by simp only [beq_eq_false_iff_ne, ne_eq]; omega
        have t3 : decide ((48 : Int) ≤ (c : Int)) = true := by simp; omega
        have t4 : decide ((c : Int) ≤ 57) = true := by simp; omega
        have t5 : ((d : Int) == 16) = false := by simp only [beq_eq_false_iff_ne, ne_eq]; omega
        have HDD := aside hd
        obtain ⟨L, hL⟩ : ∃ L, L = (Dec.dz (ds.take i)).length := ⟨_, rfl⟩
        have hLi : L ≤ 15 := by rw [hL]; have := Dec.dz_len (ds.take i); simp at this; omega
        obtain ⟨base, cap, rfl⟩ : ∃ base cap, v = .slice base L cap := by
          rcases HA.out.row.2 with ⟨hv, h0⟩ | ⟨g, cap, cur, hv, _⟩
          · exact ⟨none, 0, by rw [hv, hL, h0]⟩
          · exact ⟨_, cap, by rw [hv, hL]⟩
        have hblk := HA.out.blk
        rw [← hL] at hblk
        have c0 : wr.cell? ⟨D, 0, none⟩ = some (.slice base L cap) := by rw [cell_of_row wr D 0 _ _ _ hblk]; rfl
        have c1 : wr.cell? ⟨D, 1, none⟩ = some (.int .i64 L) := by rw [cell_of_row wr D 1 _ _ _ hblk]; rfl
        have f0 : wr.frozen? ⟨D, 0, none⟩ = false := frozen_of_row wr D 0 _ _ hblk
        have f1 : wr.frozen? ⟨D, 1, none⟩ = false := frozen_of_row wr D 1 _ _ hblk
        have HL := aside hL
        have HBLK := aside hblk
        clear hc hd hL hblk
        have HAL : Hid (Acc wr D (.slice base (Dec.dz (ds.take i)).length cap) (Dec.dz (ds.take i))) := by show Acc _ _ _ _; rw [← HL.out]; exact HA.out
        have HR : Hid (wr.ownsRow (D + 1) 5 1 (.slice base L cap) L (dcells (Dec.dz (ds.take i)))) := by show World.ownsRow _ _ _ _ _ _ _; have := HAL.out.row; rwa [← HL.out] at this
        by_cases hne : L = 0 ∧ d = 0
        · obtain ⟨rfl, rfl⟩ := hne
          go_wp2_with fail
          go_roundg (s.size - (i + 1))
          case measure => omega
          case rel =>
            refine ⟨i + 1, .slice base 0 cap, rfl, by simp, rfl, rfl, by simp, by omega, by omega, ?_, HB.out, hDs⟩
            show Acc _ _ _ _
            have hil : i < ds.length := by have := H.out.size; omega
            have hdi : ds[i]'hil = 0 := by
              have := HDD.out
              rw [List.getD_eq_getElem?_getD, List.getElem?_eq_getElem hil] at this
              exact this.symm
            have hE := List.length_eq_zero_iff.1 HL.out.symm
            have e : Dec.dz (ds.take (i + 1)) = Dec.dz (ds.take i) := by
              rw [List.take_succ_eq_append_getElem hil, Dec.dz_snoc, if_pos ⟨hE, hdi⟩, hE]
            rw [e]; exact HA.out
        · rcases Nat.eq_zero_or_pos L with hL0 | hL0
          · have u1 : decide ((L : Int) > 0) = false := by simp; omega
            have u2 : (!((d : Int) == 0)) = true := by simp; omega
            subst hL0
            go_wp2_with (at_builtin; refine wpList_append_own _ rfl _ _ 78 rfl (D + 1) 5 i5 (.int .u8 0) 1 1 Tryz.underlying78 hi5 hz5 hs5 hb5 rfl (by decide) _ _ _ rfl (HR.out.alloc _) ⟨wr.heap.size, 0, none⟩ 1 1 [Value.int .u8 d] rfl rfl (by intro j u' hj; match j, hj with | 0, hj => simp at hj; subst hj; simp [Addr.add]) (by intro u' hu'; simp at hu'; subst hu'; rfl) (by unfold maxLen; omega) (by omega) (by simp; omega) ?_)
            intro v2 w2 hown2 hgrow _
            have hpush := Acc.push (d := d) HAL.out hDs (w1 := wr.alloc (Obj.cells #[Value.int .u8 d] 5)) (fun k hk => ((Below.refl wr.heap.size wr).alloc (Nat.le_refl _) _).block k hk) (((Below.refl wr.heap.size wr).alloc (Nat.le_refl _) (Obj.cells #[Value.int .u8 d] 5)).size) (by rw [← HL.out]; exact hgrow) (by rw [← HL.out, show dcells (Dec.dz (ds.take i) ++ [d]) = dcells (Dec.dz (ds.take i)) ++ [.int .u8 d] by simp [dcells]]; exact hown2)
            obtain ⟨base2, cap2, rfl⟩ : ∃ base2 cap2, v2 = .slice base2 1 cap2 := by
              rcases hown2.2 with ⟨hv, h0⟩ | ⟨g, cap, cur, hv, _⟩
              · omega
              · exact ⟨_, cap, hv⟩
            obtain ⟨hb2, hacc⟩ := hpush
            rw [← HL.out] at hb2 hacc
            have hB2 : Below w.heap.size w w2 := (HB.out.alloc (by have := HB.out.size; omega) _).grown hgrow (by have := HB.out.size; simp; omega) (fun k' hk' => by have := (HR.out.lt k' hk').1; have := HDW.out; omega)
            have c0' : w2.cell? ⟨D, 0, none⟩ = some (.slice base 0 cap) := by rw [cell_of_row w2 D 0 _ _ _ hb2]; rfl
            have c1' : w2.cell? ⟨D, 1, none⟩ = some (.int .i64 0) := by rw [cell_of_row w2 D 1 _ _ _ hb2]; rfl
            have f0' : w2.frozen? ⟨D, 0, none⟩ = false := frozen_of_row w2 D 0 _ _ hb2
            have f1' : w2.frozen? ⟨D, 1, none⟩ = false := frozen_of_row w2 D 1 _ _ hb2
            have HB2 := aside hB2
            have HACC := aside hacc
            have hDs2 : D < w2.heap.size := (Array.getElem?_eq_some_iff.1 hb2).1
            clear hB2 hacc hb2 hown2 hgrow c0 c1 f0 f1
            go_wp2_with fail
            go_roundg (s.size - (i + 1))
            case measure => omega
            case rel =>
              have hds : D < ((w2.setCell ⟨D, 0, none⟩ (.slice base2 1 cap2)).setCell ⟨D, 1, none⟩ (.int .i64 1)).heap.size := by simp only [World.setCell, Array.size_modify]; exact hDs2
              refine ⟨i + 1, .slice base2 1 cap2, rfl, by simp, rfl, rfl, by simp, by omega, by omega, ?_, ?_, hds⟩
              · show Acc _ _ _ _
                have e : Dec.dz (ds.take (i + 1)) = Dec.dz (ds.take i) ++ [d] := by
                  rw [List.take_succ_eq_append_getElem (by have := H.out.size; omega), Dec.dz_snoc, if_neg ?_, HDD.out]
                  · simp [List.getD_eq_getElem?_getD, List.getElem?_eq_getElem (show i < ds.length by have := H.out.size; omega)]
                  · rintro ⟨a, b⟩
                    refine hne ⟨by first | trivial | (rw [HL.out, a]; rfl), ?_⟩
                    rw [HDD.out, List.getD_eq_getElem?_getD, List.getElem?_eq_getElem (show i < ds.length by have := H.out.size; omega)]
                    exact b
                rw [e]; exact HACC.out
              · exact (HB2.out.setCell (by have := HDW.out; simp; omega) _).setCell (by have := HDW.out; simp; omega) _
          · have u1 : decide ((L : Int) > 0) = true := by simp; omega
            go_wp2_with (at_builtin; refine wpList_append_own _ rfl _ _ 78 rfl (D + 1) 5 i5 (.int .u8 0) 1 1 Tryz.underlying78 hi5 hz5 hs5 hb5 rfl (by decide) _ _ _ rfl (HR.out.alloc _) ⟨wr.heap.size, 0, none⟩ 1 1 [Value.int .u8 d] rfl rfl (by intro j u' hj; match j, hj with | 0, hj => simp at hj; subst hj; simp [Addr.add]) (by intro u' hu'; simp at hu'; subst hu'; rfl) (by unfold maxLen; omega) (by omega) (by simp; omega) ?_)
            intro v2 w2 hown2 hgrow _
            have hpush := Acc.push (d := d) HAL.out hDs (w1 := wr.alloc (Obj.cells #[Value.int .u8 d] 5)) (fun k hk => ((Below.refl wr.heap.size wr).alloc (Nat.le_refl _) _).block k hk) (((Below.refl wr.heap.size wr).alloc (Nat.le_refl _) (Obj.cells #[Value.int .u8 d] 5)).size) (by rw [← HL.out]; exact hgrow) (by rw [← HL.out, show dcells (Dec.dz (ds.take i) ++ [d]) = dcells (Dec.dz (ds.take i)) ++ [.int .u8 d] by simp [dcells]]; exact hown2)
            obtain ⟨base2, cap2, rfl⟩ : ∃ base2 cap2, v2 = .slice base2 (L + 1) cap2 := by
              rcases hown2.2 with ⟨hv, h0⟩ | ⟨g, cap, cur, hv, _⟩
              · omega
              · exact ⟨_, cap, hv⟩
            obtain ⟨hb2, hacc⟩ := hpush
            rw [← HL.out] at hb2 hacc
            have hB2 : Below w.heap.size w w2 := (HB.out.alloc (by have := HB.out.size; omega) _).grown hgrow (by have := HB.out.size; simp; omega) (fun k' hk' => by have := (HR.out.lt k' hk').1; have := HDW.out; omega)
            have c0' : w2.cell? ⟨D, 0, none⟩ = some (.slice base L cap) := by rw [cell_of_row w2 D 0 _ _ _ hb2]; rfl
            have c1' : w2.cell? ⟨D, 1, none⟩ = some (.int .i64 L) := by rw [cell_of_row w2 D 1 _ _ _ hb2]; rfl
            have f0' : w2.frozen? ⟨D, 0, none⟩ = false := frozen_of_row w2 D 0 _ _ hb2
            have f1' : w2.frozen? ⟨D, 1, none⟩ = false := frozen_of_row w2 D 1 _ _ hb2
            have HB2 := aside hB2
            have HACC := aside hacc
            have hDs2 : D < w2.heap.size := (Array.getElem?_eq_some_iff.1 hb2).1
            clear hB2 hacc hb2 hown2 hgrow c0 c1 f0 f1
            go_wp2_with fail
            go_roundg (s.size - (i + 1))
            case measure => omega
            case rel =>
              have hds : D < ((w2.setCell ⟨D, 0, none⟩ (.slice base2 (L + 1) cap2)).setCell ⟨D, 1, none⟩ (.int .i64 ((L : Int) + 1))).heap.size := by simp only [World.setCell, Array.size_modify]; exact hDs2
              refine ⟨i + 1, .slice base2 (L + 1) cap2, rfl, by simp, rfl, rfl, by simp, by omega, by omega, ?_, ?_, hds⟩
              · show Acc _ _ _ _
                have e : Dec.dz (ds.take (i + 1)) = Dec.dz (ds.take i) ++ [d] := by
                  rw [List.take_succ_eq_append_getElem (by have := H.out.size; omega), Dec.dz_snoc, if_neg ?_, HDD.out]
                  · simp [List.getD_eq_getElem?_getD, List.getElem?_eq_getElem (show i < ds.length by have := H.out.size; omega)]
                  · rintro ⟨a, b⟩
                    refine hne ⟨by first | trivial | (rw [HL.out, a]; rfl), ?_⟩
                    rw [HDD.out, List.getD_eq_getElem?_getD, List.getElem?_eq_getElem (show i < ds.length by have := H.out.size; omega)]
                    exact b
                rw [e]; exact HACC.out
              · exact (HB2.out.setCell (by have := HDW.out; simp; omega) _).setCell (by have := HDW.out; simp; omega) _
      · have e1 : decide ((i : Int) < (s.size : Int)) = false := by simp; omega
        have hil : i = s.size := by omega
        subst hil
        have hi0 : decide (0 < s.size) = true := by simp; omega
        have htk : ds.take s.size = ds := by rw [List.take_of_length_le]; have := H.out.size; omega
        rw [htk] at HA
        by_cases hv0 : Dec.dval ds = 0
        · have hdz := (Dec.dz_empty H.out.dig).2 hv0
          rw [hdz] at HA
          obtain rfl := HA.out.nil rfl
          have hblk := HA.out.blk
          have c1 : wr.cell? ⟨D, 1, none⟩ = some (.int .i64 0) := by rw [cell_of_row wr D 1 _ _ _ hblk]; rfl
          have f1 : wr.frozen? ⟨D, 1, none⟩ = false := frozen_of_row wr D 1 _ _ hblk
          have hb2 := heap_setCell_same wr D 1 _ 179 (.int .i64 0) hblk
          have HB2 := aside hb2
          have HBLK := aside hblk
          clear hb2 hblk hdz
          go_wp2_with (go_at_call 109; refine (trim_empty _ D HB2.out).mono ?_; rintro e w4 ⟨rfl, hg4, hd4⟩; refine Hid.out ?_)
          refine Lib.hid ?_
          go_wp2_with fail
          go_ret2
          have hB := HB.out
          have hgb := grownBy_trans (grownBy_set (grownBy_refl wr (some D)) 1 (.int .i64 0)) hg4
          have hDW := HDW.out
          refine ⟨by rw [← hDW]; rfl, hB.trans (grownBy_below hgb hB.size (by omega)), fun _ => by rw [← hDW]; exact hd4, fun h0 => absurd hv0 h0⟩
        · have hne : Dec.dz ds ≠ [] := fun e => hv0 ((Dec.dz_empty H.out.dig).1 e)
          obtain ⟨g, cap, hD3⟩ := HA.out.dec hne
          have hN := Dec.dz_norm H.out.dig hne
          have hl15 : (Dec.dz ds).length ≤ 15 := by have := Dec.dz_len ds; have := H.out.size; omega
          have c1 := hD3.c1
          have f1 := hD3.f 1
          have hDD := hD3.cut (grownBy_set (grownBy_refl wr (some D)) 1 (.int .i64 ((Dec.dz ds).length : Int))) (Dec.dz ds).length (Nat.le_refl _) (dp' := ((Dec.dz ds).length : Int)) (heap_setCell_same wr D 1 _ 179 _ hD3.blk)
          rw [List.take_length] at hDD
          have HN := aside hN
          have HD3 := aside hD3
          have HDD := aside hDD
          obtain ⟨L, hL⟩ : ∃ L, L = (Dec.dz ds).length := ⟨_, rfl⟩
          rw [← hL] at c1 HDD
          have hLw : IntKind.i64.wrap (L : Int) = (L : Int) := IntWalk.i64_in _ (by omega)
          have HL := aside hL
          clear hN hD3 hDD hL hl15
          go_wp2_with (go_at_call 109; refine (trim_calls _ D D g cap (Dec.dz ds) _ HDD.out HN.out).mono ?_; rintro e w4 ⟨rfl, hg4, hd4⟩; refine Hid.out ?_)
          refine Lib.hid ?_
          go_wp2_with fail
          go_ret2
          have hB := HB.out
          have hgb := grownBy_trans (grownBy_set (grownBy_refl wr (some D)) 1 (.int .i64 (L : Int))) hg4
          have hst := Dec.st_start HN.out
          rw [Dec.dval_dz] at hst
          have hDW := HDW.out
          refine ⟨by rw [← hDW]; rfl, hB.trans (grownBy_below hgb hB.size (by omega)), fun h0 => absurd h0 hv0, fun _ => ⟨g, cap, _, _, ?_, hst.1, hst.2⟩⟩
          rw [← hDW, ← HL.out]
          exact hd4
end Go.Proofs.YteplcmhmjdiimaaGreatDoor
namespace Go.Proofs.YteplcmhmjdiimaaGreatDoor
open Go.RowKit

theorem frombits (w : World) (b : Nat) : (callFunc 107 #[.int .u64 (b : Int)]).run Tryz.prog w = .ok (.value (.float .f64 b)) w := by
  have h := run_callFunc_extern Tryz.func107 (by kernel_rfl) (by kernel_rfl) (by kernel_rfl) (e := Go.Extern.MathFloatBits.float64frombits) (by kernel_rfl) #[.int .u64 (b : Int)] w
  rw [h]
  rfl

set_option maxHeartbeats 1000000 in
set_option maxRecDepth 100000 in
theorem formOf_calls (w : World) : Calls Tryz.prog 90 #[.int .i64 64] w fun e w' => e = .returned (.agg #[.int .i64 52, .int .i64 11, .int .i64 (-1023)]) ∧ Below w.heap.size w w' := by
  go_enter Tryz.func90, Tryz.ntmps90
  go_wp2
  refine bodyPost_ret (results_cell_row rfl _ _ w.heap.size 152 _ (0, 0) _ rfl Array.getElem?_push_size Tryz.underlying152 rfl (by kernel_rfl)) rfl ?_
  exact ⟨rfl, (Below.refl _ _).alloc (Nat.le_refl _) _⟩

set_option maxHeartbeats 1000000 in
set_option maxRecDepth 100000 in
theorem float_calls (w : World) (b : Nat) : Calls Tryz.prog 91 #[.agg #[.int .i64 52, .int .i64 11, .int .i64 (-1023)], .int .u64 b] w fun e w' => e = .returned (.float .f64 b) ∧ Below w.heap.size w w' := by
  have hc := fun w => frombits w b
  go_enter Tryz.func91, Tryz.ntmps91
  go_wp2
  go_ret
  exact ⟨rfl, (Below.refl _ _).alloc (Nat.le_refl _) _⟩

set_option maxHeartbeats 1000000 in
set_option maxRecDepth 100000 in
theorem fail_calls (w : World) (a s c : ByteArray) : Calls Tryz.prog 94 #[.string a, .string s, .string c] w fun e w' => (∃ t v, e = .returned (.iface t v)) ∧ Below w.heap.size w w' := by
  go_enter Tryz.func94, Tryz.ntmps94
  go_wp2
  go_ret
  exact ⟨⟨_, _, rfl⟩, (Below.refl _ _).alloc (Nat.le_refl _) _⟩

set_option maxHeartbeats 1000000 in
set_option maxRecDepth 100000 in
theorem underscores_calls (w : World) (s : ByteArray) (hs : s.size < 9223372036854775807) (h : ∀ i, i < s.size → bt s i ≠ 95) : Calls Tryz.prog 93 #[.string s] w fun e w' => e = .returned (.bool true) ∧ w' = w := by
  have H := aside h
  clear h
  go_enter Tryz.func93, Tryz.ntmps93
  go_wp2
  go_loopg [3] s.size (fun q s3 wr => ∃ i : Nat, s3 = .int .i64 i ∧ i ≤ s.size ∧ s.size ≤ q + i ∧ w = wr)
  case atStart => exact ⟨0, rfl, by omega, by omega, rfl⟩
  case round =>
    obtain ⟨i, rfl, hi, hq, rfl⟩ := hrel
    by_cases hlt : i < s.size
    · have e1 : decide ((i : Int) < (s.size : Int)) = true := by simp; omega
      obtain ⟨c, hc⟩ : ∃ c, c = bt s i := ⟨_, rfl⟩
      have e3 : (s[i]'hlt).toNat = c := by rw [bt_in hlt, hc]
      have e4 : ((c : Int) == 95) = false := by have := H.out i hlt; simp only [beq_eq_false_iff_ne, ne_eq]; omega
      clear hc
      go_wp2_with fail
      go_roundg (s.size - (i + 1))
      case measure => omega
      case rel => exact ⟨i + 1, by simp, by omega, by omega, rfl⟩
    · have e1 : decide ((i : Int) < (s.size : Int)) = false := by simp; omega
      go_wp2_with fail
      go_ret
      exact ⟨rfl, rfl⟩
end Go.Proofs.YteplcmhmjdiimaaGreatDoor
namespace Go.Proofs.YteplcmhmjdiimaaGreatDoor
open Go.RowKit

def isL (c : Nat) : Prop := 65 ≤ c ∧ c ≤ 90 ∨ 97 ≤ c ∧ c ≤ 122

set_option maxHeartbeats 4000000 in
set_option maxRecDepth 100000 in
theorem read_word (w : World) (s : ByteArray) (hs : s.size < 9223372036854775807) (h : 1 ≤ s.size → isL (bt s 0)) :
    Calls Tryz.prog 92 #[.string s] w fun e w' => e = .returned (.tuple #[.pointer none, .bool false]) ∧ Below w.heap.size w w' := by
  have H := aside h
  clear h
  go_enter Tryz.func92, Tryz.ntmps92
  go_upto_region 2 with fail
  obtain ⟨w0, hw0⟩ : ∃ w0, w0 = w.alloc (Obj.cells #[.slice none 0 0, .int .i64 0] 179) := ⟨_, rfl⟩
  rw [← hw0]
  have HW0 := aside hw0
  clear hw0
  have hB0 : Below w.heap.size w w0 := by rw [HW0.out]; exact (Below.refl _ _).alloc (Nat.le_refl _) _
  have HB0 := aside hB0
  clear hB0
  by_cases h0 : s.size = 0
  · have e1 : decide ((s.size : Int) ≥ 2) = false := by simp; omega
    have e2 : decide ((0 : Int) < (s.size : Int)) = false := by rw [h0]; decide
    have H0 := aside h0
    go_wp2_with fail
    go_loopg [7, 8, 9, 10, 11] 0 (fun q s7 s8 s9 s10 s11 wr => s8 = .bool false ∧ s11 = .int .i64 0 ∧ w0 = wr)
    case atStart => exact ⟨rfl, rfl, rfl⟩
    case round =>
      obtain ⟨rfl, rfl, rfl⟩ := hrel
      go_wp2_with fail
      go_ret2
      exact ⟨rfl, HB0.out⟩
  · obtain ⟨c, hc⟩ : ∃ c, c = bt s 0 := ⟨_, rfl⟩
    have hlt : 0 < s.size := by omega
    have e3 : (s[0]'hlt).toNat = c := by rw [bt_in hlt, hc]
    have hl : isL c := by rw [hc]; exact H.out (by omega)
    unfold isL at hl
    have t0 : ((c : Int) == 48) = false := by simp only [beq_eq_false_iff_ne, ne_eq]; omega
    have t1 : ((c : Int) == 95) = false := by simp only [beq_eq_false_iff_ne, ne_eq]; omega
    have t2 : ((c : Int) == 46) = false := by simp only [beq_eq_false_iff_ne, ne_eq]; omega
    have t3 : decide ((48 : Int) ≤ (c : Int)) = true := by simp; omega
    have t4 : decide ((c : Int) ≤ 57) = false := by simp; omega
    have e1 : decide ((0 : Int) < (s.size : Int)) = true := by simp; omega
    clear hc hl
    go_cut [5] (fun s5 wx => s5 = .bool false ∧ wx = w0)
    case first =>
      by_cases h2 : 2 ≤ s.size
      · have e1 : decide ((s.size : Int) ≥ 2) = true := by simp; omega
        go_wp2_with fail
        all_goals (go_meet; exact ⟨rfl, rfl⟩)
      · have e1 : decide ((s.size : Int) ≥ 2) = false := by simp; omega
        go_wp2_with fail
        go_meet
        exact ⟨rfl, rfl⟩
    case rest =>
      obtain ⟨rfl, hwx⟩ := hcut
      rw [hwx]
      clear hwx
      go_wp2_with fail
      go_loopg [7, 8, 9, 10, 11] 0 (fun q s7 s8 s9 s10 s11 wr => s8 = .bool false ∧ s9 = .bool false ∧ s11 = .int .i64 0 ∧ w0 = wr)
      case atStart => exact ⟨rfl, rfl, rfl, rfl⟩
      case round =>
        obtain ⟨rfl, rfl, rfl, rfl⟩ := hrel
        go_wp2_with fail
        go_ret2
        exact ⟨rfl, HB0.out⟩
end Go.Proofs.YteplcmhmjdiimaaGreatDoor
namespace Go.Proofs.YteplcmhmjdiimaaGreatDoor
open Go.RowKit

def sNan : ByteArray := ⟨#[110, 97, 110]⟩
def sInf : ByteArray := ⟨#[105, 110, 102]⟩
def sInfinity : ByteArray := ⟨#[105, 110, 102, 105, 110, 105, 116, 121]⟩

theorem isEmpty_size (s : ByteArray) : s.toList.isEmpty = decide (s.size = 0) := by
  rw [ByteArray.toList_eq]
  show s.data.toList.isEmpty = decide (s.data.size = 0)
  rw [← Array.length_toList]
  cases s.data.toList with
  | nil => rfl
  | cons x r => rfl

set_option maxHeartbeats 4000000 in
set_option maxRecDepth 100000 in
theorem pf_word (w : World) (s : ByteArray) (hs : s.size < 9223372036854775807) (h : 1 ≤ s.size → isL (bt s 0)) (h1 : foldB s sNan = false) (h2 : foldB s sInf = false) (h3 : foldB s sInfinity = false) :
    Calls Tryz.prog 68 #[.string s, .int .i64 64] w fun e w' => (∃ t v, e = .returned (.tuple #[.float .f64 0, .iface t v])) ∧ Below w.heap.size w w' := by
  unfold sNan at h1
  unfold sInf at h2
  unfold sInfinity at h3
  have H := aside h
  have HS := aside hs
  clear h hs
  go_enter Tryz.func68, Tryz.ntmps68
  by_cases h0 : s.size = 0
  · have e0 : s.toList.isEmpty = true := by rw [isEmpty_size]; simpa using h0
    go_wp2_with (first | (go_at_call 87; refine (fold_calls _ s _ HS.out).mono ?_; rintro e w4 ⟨rfl, rfl⟩) | (go_at_call 90; refine (formOf_calls _).mono ?_; rintro e w1 ⟨rfl, hB1⟩; refine Hid.out ?_))
    refine Lib.hid ?_
    go_wp2_with (first | (go_at_call 87; refine (fold_calls _ s _ HS.out).mono ?_; rintro e w4 ⟨rfl, rfl⟩) | (go_at_call 92; refine (read_word _ s HS.out H.out).mono ?_; rintro e w2 ⟨rfl, hB2⟩; refine Hid.out ?_))
    refine Lib.hid ?_
    go_wp2_with (go_at_call 94; refine (fail_calls _ _ _ _).mono ?_; rintro e w3 ⟨⟨t, v, rfl⟩, hB3⟩; refine Hid.out ?_)
    refine Lib.hid ?_
    go_wp2_with fail
    go_ret2
    refine ⟨⟨t, v, rfl⟩, ?_⟩
    have hs1 := hB1.size
    have hA := hB1.alloc (by omega) (Obj.cells #[.int .i64 52, .int .i64 11, .int .i64 (-1023)] 152)
    exact (hA.trans (hB2.mono hA.size)).trans (hB3.mono (Nat.le_trans hA.size hB2.size))
  · obtain ⟨c, hc⟩ : ∃ c, c = bt s 0 := ⟨_, rfl⟩
    have hlt : 0 < s.size := by omega
    have e3 : (s[0]'hlt).toNat = c := by rw [bt_in hlt, hc]
    have hl : isL c := by rw [hc]; exact H.out (by omega)
    unfold isL at hl
    have t0 : ((c : Int) == 43) = false := by simp only [beq_eq_false_iff_ne, ne_eq]; omega
    have t1 : ((c : Int) == 45) = false := by simp only [beq_eq_false_iff_ne, ne_eq]; omega
    have e0 : s.toList.isEmpty = false := by rw [isEmpty_size]; simpa using h0
    clear hc hl
    go_wp2_with (first | (go_at_call 87; refine (fold_calls _ s _ HS.out).mono ?_; rintro e w4 ⟨rfl, rfl⟩) | (go_at_call 90; refine (formOf_calls _).mono ?_; rintro e w1 ⟨rfl, hB1⟩; refine Hid.out ?_))
    refine Lib.hid ?_
    go_wp2_with (first | (go_at_call 87; refine (fold_calls _ s _ HS.out).mono ?_; rintro e w4 ⟨rfl, rfl⟩) | (go_at_call 92; refine (read_word _ s HS.out H.out).mono ?_; rintro e w2 ⟨rfl, hB2⟩; refine Hid.out ?_))
    refine Lib.hid ?_
    go_wp2_with (go_at_call 94; refine (fail_calls _ _ _ _).mono ?_; rintro e w3 ⟨⟨t, v, rfl⟩, hB3⟩; refine Hid.out ?_)
    refine Lib.hid ?_
    go_wp2_with fail
    go_ret2
    refine ⟨⟨t, v, rfl⟩, ?_⟩
    have hs1 := hB1.size
    have hA := hB1.alloc (by omega) (Obj.cells #[.int .i64 52, .int .i64 11, .int .i64 (-1023)] 152)
    exact (hA.trans (hB2.mono hA.size)).trans (hB3.mono (Nat.le_trans hA.size hB2.size))
end Go.Proofs.YteplcmhmjdiimaaGreatDoor
namespace Go.Proofs.YteplcmhmjdiimaaGreatDoor
open Go.RowKit

theorem bt_extract (s : ByteArray) (i : Nat) (h : i + 1 < s.size) : bt (s.extract 1 s.size) i = bt s (i + 1) := by
  have h' : i < (s.extract 1 s.size).size := by simp; omega
  rw [← bt_in h', ← bt_in h]
  simp [ByteArray.getElem_extract, Nat.add_comm]
theorem extract_size (s : ByteArray) : (s.extract 1 s.size).size = s.size - 1 := by simp

/-- A whole decimal: a minus or none, and up to 15 digits. -/
structure WholeAt (s : ByteArray) (neg : Bool) (ds : List Nat) : Prop where
  one : 1 ≤ ds.length
  most : ds.length ≤ 15
  pos : neg = false → Digs s ds
  neg : neg = true → 1 ≤ s.size ∧ bt s 0 = 45 ∧ Digs (s.extract 1 s.size) ds

theorem WholeAt.size {s : ByteArray} {neg : Bool} {ds : List Nat} (h : WholeAt s neg ds) : s.size = ds.length + neg.toNat := by
  cases neg with
  | false => rw [(h.pos rfl).size]; rfl
  | true =>
    obtain ⟨h1, _, h3⟩ := h.neg rfl
    have := h3.size
    rw [extract_size] at this
    simp; omega
theorem Digs.byte {s : ByteArray} {ds : List Nat} (h : Digs s ds) (i : Nat) (hi : i < s.size) : 48 ≤ bt s i ∧ bt s i < 58 := by
  rw [h.at_ i hi]
  have hl : i < ds.length := by rw [← h.size]; exact hi
  have := h.dig (ds[i]) (List.getElem_mem hl)
  have e : ds.getD i 0 = ds[i] := by simp [List.getD_eq_getElem?_getD, List.getElem?_eq_getElem hl]
  omega
theorem WholeAt.byte {s : ByteArray} {neg : Bool} {ds : List Nat} (h : WholeAt s neg ds) (i : Nat) (hi : i < s.size) : bt s i = 45 ∨ 48 ≤ bt s i ∧ bt s i < 58 := by
  cases neg with
  | false => exact .inr ((h.pos rfl).byte i hi)
  | true =>
    obtain ⟨h1, h2, h3⟩ := h.neg rfl
    cases i with
    | zero => exact .inl h2
    | succ i =>
      have := h3.byte i (by rw [extract_size]; omega)
      rw [bt_extract s i hi] at this
      exact .inr this
/-- What begins with no letter is no word. -/
theorem foldB_digit {s t : ByteArray} (hs : 1 ≤ s.size) (h : bt s 0 < 65) (ht : 65 ≤ bt t 0) : foldB s t = false := by
  simp only [foldB, decide_eq_false_iff_not, not_and, Classical.not_forall]
  refine fun _ => ⟨0, hs, ?_⟩
  unfold low
  rw [if_neg (by omega)]
  omega

/-- The word of a whole number. -/
def fw (neg : Bool) (v : Nat) : Nat := (if neg then 9223372036854775808 else 0) + if v = 0 then 0 else fb v (v.log2 + 1)
theorem fb_lt {v x : Nat} (h : v < 2 ^ x) (hx : x ≤ 50) : fb v x < 9223372036854775808 := by
  have h1 : v * 2 ^ (53 - x) < 2 ^ x * 2 ^ (53 - x) := Nat.mul_lt_mul_of_pos_right h (Nat.two_pow_pos _)
  rw [← Nat.pow_add, show x + (53 - x) = 53 by omega, p53] at h1
  unfold fb
  rw [p52]
  omega
theorem fw_of {neg : Bool} {v x : Nat} (hx : 1 ≤ x) (h1 : 2 ^ (x - 1) ≤ v) (h2 : v < 2 ^ x) : fw neg v = (if neg then 9223372036854775808 else 0) + fb v x := by
  have hv : v ≠ 0 := by have := Nat.two_pow_pos (x - 1); omega
  have : v.log2 = x - 1 := (Nat.log2_eq_iff hv).2 ⟨h1, by rwa [show x - 1 + 1 = x by omega]⟩
  unfold fw
  rw [if_neg hv, this, show x - 1 + 1 = x by omega]
theorem or_zero {b : Nat} (hb : b < 9223372036854775808) : bits .or .u64 0 (b : Int) = (b : Int) := by
  have := bits_or_u64_nat 0 b (by omega) (by omega)
  rw [Nat.zero_or] at this
  exact this
theorem or_sign {b : Nat} (hb : b < 9223372036854775808) : bits .or .u64 9223372036854775808 (b : Int) = ((9223372036854775808 + b : Nat) : Int) := by
  have := bits_or_u64_nat 9223372036854775808 b (by omega) (by omega)
  have e := Nat.two_pow_add_eq_or_of_lt (i := 63) (b := b) (by simpa using hb) 1
  rw [Nat.mul_one, show (2 : Nat) ^ 63 = 9223372036854775808 by decide] at e
  rw [← e] at this
  exact this

set_option maxHeartbeats 1000000 in
set_option maxRecDepth 100000 in
theorem bits_empty (w : World) (D : Nat) (h : w.heap[D]? = some (.cells #[.slice none 0 0, .int .i64 0] 179 (0, 0))) :
    Calls Tryz.prog 95 #[.pointer (some ⟨D, 0, none⟩), .agg #[.int .i64 52, .int .i64 11, .int .i64 (-1023)]] w fun e w' => e = .returned (.tuple #[.int .u64 0, .bool false]) ∧ Below w.heap.size w w' := by
  have hD : D < w.heap.size := (Array.getElem?_eq_some_iff.1 h).1
  have H := aside h
  clear h
  go_enter Tryz.func95, Tryz.ntmps95
  go_wp2
  obtain ⟨w0, hw0⟩ : ∃ w0, w0 = w.alloc (Obj.cells #[.int .i64 52, .int .i64 11, .int .i64 (-1023)] 152) := ⟨_, rfl⟩
  rw [← hw0]
  obtain ⟨F, hF⟩ : ∃ F, F = w.heap.size := ⟨_, rfl⟩
  rw [← hF]
  have hB0 : Below w.heap.size w w0 := by rw [hw0]; exact (Below.refl _ _).alloc (Nat.le_refl _) _
  have hA0 : w0.heap[D]? = some (.cells #[.slice none 0 0, .int .i64 0] 179 (0, 0)) := by rw [hB0.block D hD]; exact H.out
  have hF0 : FormAt w0 F := ⟨by rw [hF, hw0]; exact Array.getElem?_push_size⟩
  obtain ⟨p0, p1, p2⟩ := hF0.c
  have c0 : w0.cell? ⟨D, 0, none⟩ = some (.slice none 0 0) := by rw [cell_of_row w0 D 0 _ _ _ hA0]; rfl
  have HB0 := aside hB0
  clear hw0 hF hB0 hA0 hF0
  go_quiet (fail)
  go_wp2
  go_ret2
  exact ⟨rfl, ⟨HB0.out.os, HB0.out.tape, HB0.out.output, HB0.out.size, HB0.out.block⟩⟩
end Go.Proofs.YteplcmhmjdiimaaGreatDoor
namespace Go.Proofs.YteplcmhmjdiimaaGreatDoor
open Go.RowKit

set_option maxHeartbeats 4000000 in
set_option maxRecDepth 100000 in
theorem pf_whole (w : World) (s : ByteArray) (neg : Bool) (ds : List Nat) (h : WholeAt s neg ds) :
    Calls Tryz.prog 68 #[.string s, .int .i64 64] w fun e w' => e = .returned (.tuple #[.float .f64 (fw neg (Dec.dval ds)), .nilIface]) ∧ Below w.heap.size w w' := by
  have hsz := h.size
  have hone := h.one
  have hmost := h.most
  have hs1 : 1 ≤ s.size := by omega
  have hs16 : s.size ≤ 16 := by cases neg <;> simp at hsz <;> omega
  have hb0 : bt s 0 < 65 := by have := h.byte 0 (by omega); omega
  have HU := aside (underscores_calls (s := s))
  have hund : ∀ i, i < s.size → bt s i ≠ 95 := fun i hi => by have := h.byte i hi; omega
  have HUND := aside hund
  have hv15 : Dec.dval ds < 10 ^ 15 := by
    have hd : ∀ d ∈ ds, d < 10 := by
      cases neg with
      | false => exact (h.pos rfl).dig
      | true => exact (h.neg rfl).2.2.dig
    exact Nat.lt_of_lt_of_le (Dec.dval_lt ds hd) (Nat.pow_le_pow_right (by omega) hmost)
  have HV15 := aside hv15
  have f1 : foldB s ⟨#[110, 97, 110]⟩ = false := foldB_digit hs1 hb0 (by decide)
  have HS : Hid (s.size < 9223372036854775807) := by show _ < _; omega
  have e0 : s.toList.isEmpty = false := by rw [isEmpty_size]; simp only [decide_eq_false_iff_not]; omega
  have HB0 := aside hb0
  have HSZ := aside hsz
  clear hund hv15 hb0 hsz HU
  cases neg with
  | false =>
    have hdg := h.pos rfl
    obtain ⟨c, hc⟩ : ∃ c, c = bt s 0 := ⟨_, rfl⟩
    have hlt : 0 < s.size := by omega
    have e3 : (s[0]'hlt).toNat = c := by rw [bt_in hlt, hc]
    have hl := hdg.byte 0 hlt
    rw [← hc] at hl
    have t0 : ((c : Int) == 43) = false := by simp only [beq_eq_false_iff_ne, ne_eq]; omega
    have t1 : ((c : Int) == 45) = false := by simp only [beq_eq_false_iff_ne, ne_eq]; omega
    have f2 : foldB s ⟨#[105, 110, 102]⟩ = false := foldB_digit hs1 HB0.out (by decide)
    have f3 : foldB s ⟨#[105, 110, 102, 105, 110, 105, 116, 121]⟩ = false := foldB_digit hs1 HB0.out (by decide)
    have H := aside h
    have HDG := aside hdg
    clear hc hl h hdg
    go_enter Tryz.func68, Tryz.ntmps68
    go_wp2_with (first | (go_at_call 87; refine (fold_calls _ s _ HS.out).mono ?_; rintro e w4 ⟨rfl, hw4⟩; rw [hw4]; clear hw4 w4) | (go_at_call 90; refine (formOf_calls _).mono ?_; rintro e w1 ⟨rfl, hB1⟩; refine Hid.out ?_))
    refine Lib.hid ?_
    go_wp2_with (first | (go_at_call 87; refine (fold_calls _ s _ HS.out).mono ?_; rintro e w4 ⟨rfl, hw4⟩; rw [hw4]; clear hw4 w4) | (go_at_call 92; refine (read_digits _ s ds HDG.out hone hmost).mono ?_; rintro e w2 ⟨rfl, hr⟩; refine Hid.out ?_))
    refine Lib.hid ?_
    obtain ⟨hB2, hE2, hD2⟩ := hr
    have hs1 := hB1.size
    have hA := hB1.alloc (by omega) (Obj.cells #[.int .i64 52, .int .i64 11, .int .i64 (-1023)] 152)
    obtain ⟨wa, hwa⟩ : ∃ wa, wa = w1.alloc (Obj.cells #[.int .i64 52, .int .i64 11, .int .i64 (-1023)] 152) := ⟨_, rfl⟩
    rw [← hwa] at hA hB2 hE2 hD2
    have hwas : wa.heap.size = w1.heap.size + 1 := by rw [hwa]; show (w1.heap.push _).size = _; rw [Array.size_push]
    have hFl : w1.heap.size < wa.heap.size := by rw [hwa]; show _ < (w1.heap.push _).size; rw [Array.size_push]; omega
    have hFa : FormAt wa w1.heap.size := ⟨by rw [hwa]; exact Array.getElem?_push_size⟩
    have hF2 : FormAt w2 w1.heap.size := ⟨by rw [hB2.block _ hFl]; exact hFa.blk⟩
    have hB02 := hA.trans (hB2.mono hA.size)
    obtain ⟨D, hD⟩ : ∃ D, D = w1.heap.size + 1 := ⟨_, rfl⟩
    rw [hwas, ← hD] at hE2 hD2
    rw [← hD]
    obtain ⟨F, hF⟩ : ∃ F, F = w1.heap.size := ⟨_, rfl⟩
    rw [← hF] at hF2 hFl ⊢
    have hblk := hF2.blk
    obtain ⟨p0, p1, p2⟩ := hF2.c
    have HBLK := aside hblk
    clear hblk
    have HB02 := aside hB02
    have HF2 := aside hF2
    have HA := aside hA
    have HD := aside hD
    have HDN := aside hD2
    have HB2 := aside hB2
    have HE := aside hE2
    have HFD : Hid (F ≠ D) := by show _ ≠ _; omega
    have HBW : Hid (w.heap.size ≤ D) := by show _ ≤ _; omega
    clear hB02 hF2 hA hwa hFa hD hF hD2 hE2 hB2 hs1 hB1 hwas
    by_cases hv0 : Dec.dval ds = 0
    · have hE := HE.out hv0
      go_wp2_with (first | (go_at_call 93; refine (underscores_calls _ s HS.out HUND.out).mono ?_; rintro e w4 ⟨rfl, hw4⟩; rw [hw4]; clear hw4 w4) | (go_at_call 95; refine (bits_empty _ D hE).mono ?_; rintro e w5 ⟨rfl, hB5⟩; refine Hid.out ?_))
      refine Lib.hid ?_
      have hF5 : FormAt w5 F := ⟨by rw [hB5.block _ (Array.getElem?_eq_some_iff.1 HBLK.out).1]; exact HBLK.out⟩
      obtain ⟨q0, q1, q2⟩ := hF5.c
      have HB5 := aside hB5
      clear hB5 hF5
      obtain ⟨N, hN⟩ : ∃ N, N = fw false (Dec.dval ds) := ⟨_, rfl⟩
      have kb : bits .or .u64 0 0 = (N : Int) := by rw [hN, hv0]; decide
      have HN := aside hN
      clear hN
      go_wp2_with (go_at_call 91; refine (float_calls _ N).mono ?_; rintro e w6 ⟨rfl, hB6⟩; refine Hid.out ?_)
      refine Lib.hid ?_
      go_wp2_with fail
      go_ret2
      have hb02 := HB02.out
      exact ⟨by rw [← HN.out]; rfl, (hb02.trans (HB5.out.mono hb02.size)).trans (hB6.mono (Nat.le_trans hb02.size HB5.out.size))⟩
    · obtain ⟨g, cap, ds', dp', hA3, hS3, hl3⟩ := HDN.out hv0
      go_wp2_with (first | (go_at_call 93; refine (underscores_calls _ s HS.out HUND.out).mono ?_; rintro e w4 ⟨rfl, hw4⟩; rw [hw4]; clear hw4 w4) | (go_at_call 95; refine (bits_calls _ D D g cap (Dec.dval ds) ds' dp' hA3 hS3 (by omega) HV15.out hl3).mono ?_; rintro e w5 ⟨x, hx1, hlo, hhi, hx50, rfl, hg5⟩; refine Hid.out ?_))
      refine Lib.hid ?_
      have hF5 : FormAt w5 F := HF2.out.grown hg5 HFD.out
      obtain ⟨q0, q1, q2⟩ := hF5.c
      obtain ⟨N, hN⟩ : ∃ N, N = fw false (Dec.dval ds) := ⟨_, rfl⟩
      obtain ⟨b, hb⟩ : ∃ b, b = fb (Dec.dval ds) x := ⟨_, rfl⟩
      rw [← hb]
      have hblt : b < 9223372036854775808 := by rw [hb]; exact fb_lt hhi hx50
      have kb : bits .or .u64 0 (b : Int) = (N : Int) := by rw [hN, fw_of hx1 hlo hhi, ← hb]; exact by rw [or_zero hblt]; simp
      have HN := aside hN
      have hb02 := HB02.out
      have hB5 := hb02.trans (grownBy_below hg5 (Nat.le_trans hb02.size (Nat.le_refl _)) HBW.out)
      have HB5 := aside hB5
      clear hN hb hF5 hlo hhi hg5 hblt hB5 hb02
      go_wp2_with (go_at_call 91; refine (float_calls _ N).mono ?_; rintro e w6 ⟨rfl, hB6⟩; refine Hid.out ?_)
      refine Lib.hid ?_
      go_wp2_with fail
      go_ret2
      exact ⟨by rw [← HN.out]; rfl, HB5.out.trans (hB6.mono HB5.out.size)⟩
  | true =>
    obtain ⟨hs1', hb45, hdg⟩ := h.neg rfl
    have hlt : 0 < s.size := by omega
    have e3 : (s[0]'hlt).toNat = 45 := by rw [bt_in hlt, hb45]
    obtain ⟨t, ht⟩ : ∃ t, t = s.extract 1 s.size := ⟨_, rfl⟩
    rw [← ht] at hdg
    have ht1 : 1 ≤ t.size := by rw [hdg.size]; exact hone
    have htb := hdg.byte 0 (by omega)
    have f2 : foldB t ⟨#[105, 110, 102]⟩ = false := foldB_digit ht1 (by omega) (by decide)
    have f3 : foldB t ⟨#[105, 110, 102, 105, 110, 105, 116, 121]⟩ = false := foldB_digit ht1 (by omega) (by decide)
    have H := aside h
    have HDG := aside hdg
    have HT := aside ht
    have HTS : Hid (t.size < 9223372036854775807) := by show _ < _; rw [hdg.size]; omega
    have u1 : (1 : Int) ≤ (s.size : Int) := by omega
    clear hb45 h hdg ht htb ht1
    go_enter Tryz.func68, Tryz.ntmps68
    go_wp2_with (go_at_call 87; refine (fold_calls _ s _ HS.out).mono ?_; rintro e w4 ⟨rfl, hw4⟩; rw [hw4]; clear hw4 w4)
    go_quiet (fail)
    rw [← HT.out]
    obtain ⟨wd, hwd⟩ : ∃ wd, wd = w.drewN nq := ⟨_, rfl⟩
    rw [← hwd]
    have hBw : Below w.heap.size w wd := by rw [hwd]; exact ⟨rfl, rfl, rfl, Nat.le_refl _, fun _ _ => rfl⟩
    have HBW0 := aside hBw
    clear hwd hBw
    go_wp2_with (go_at_call 90; refine (formOf_calls _).mono ?_; rintro e w1 ⟨rfl, hB1⟩; refine Hid.out ?_)
    refine Lib.hid ?_
    go_wp2_with (first | (go_at_call 87; refine (fold_calls _ t _ HTS.out).mono ?_; rintro e w4 ⟨rfl, hw4⟩; rw [hw4]; clear hw4 w4) | (go_at_call 92; refine (read_digits _ t ds HDG.out hone hmost).mono ?_; rintro e w2 ⟨rfl, hr⟩; refine Hid.out ?_))
    refine Lib.hid ?_
    replace hB1 : Below w.heap.size w w1 := HBW0.out.trans (hB1.mono HBW0.out.size)
    obtain ⟨hB2, hE2, hD2⟩ := hr
    have hs1 := hB1.size
    have hA := hB1.alloc (by omega) (Obj.cells #[.int .i64 52, .int .i64 11, .int .i64 (-1023)] 152)
    obtain ⟨wa, hwa⟩ : ∃ wa, wa = w1.alloc (Obj.cells #[.int .i64 52, .int .i64 11, .int .i64 (-1023)] 152) := ⟨_, rfl⟩
    rw [← hwa] at hA hB2 hE2 hD2
    have hwas : wa.heap.size = w1.heap.size + 1 := by rw [hwa]; show (w1.heap.push _).size = _; rw [Array.size_push]
    have hFl : w1.heap.size < wa.heap.size := by rw [hwa]; show _ < (w1.heap.push _).size; rw [Array.size_push]; omega
    have hFa : FormAt wa w1.heap.size := ⟨by rw [hwa]; exact Array.getElem?_push_size⟩
    have hF2 : FormAt w2 w1.heap.size := ⟨by rw [hB2.block _ hFl]; exact hFa.blk⟩
    have hB02 := hA.trans (hB2.mono hA.size)
    obtain ⟨D, hD⟩ : ∃ D, D = w1.heap.size + 1 := ⟨_, rfl⟩
    rw [hwas, ← hD] at hE2 hD2
    rw [← hD]
    obtain ⟨F, hF⟩ : ∃ F, F = w1.heap.size := ⟨_, rfl⟩
    rw [← hF] at hF2 hFl ⊢
    have hblk := hF2.blk
    obtain ⟨p0, p1, p2⟩ := hF2.c
    have HBLK := aside hblk
    clear hblk
    have HB02 := aside hB02
    have HF2 := aside hF2
    have HA := aside hA
    have HD := aside hD
    have HDN := aside hD2
    have HB2 := aside hB2
    have HE := aside hE2
    have HFD : Hid (F ≠ D) := by show _ ≠ _; omega
    have HBW : Hid (w.heap.size ≤ D) := by show _ ≤ _; omega
    clear hB02 hF2 hA hwa hFa hD hF hD2 hE2 hB2 hs1 hB1 hwas
    by_cases hv0 : Dec.dval ds = 0
    · have hE := HE.out hv0
      go_wp2_with (first | (go_at_call 93; refine (underscores_calls _ s HS.out HUND.out).mono ?_; rintro e w4 ⟨rfl, hw4⟩; rw [hw4]; clear hw4 w4) | (go_at_call 95; refine (bits_empty _ D hE).mono ?_; rintro e w5 ⟨rfl, hB5⟩; refine Hid.out ?_))
      refine Lib.hid ?_
      have hF5 : FormAt w5 F := ⟨by rw [hB5.block _ (Array.getElem?_eq_some_iff.1 HBLK.out).1]; exact HBLK.out⟩
      obtain ⟨q0, q1, q2⟩ := hF5.c
      have HB5 := aside hB5
      clear hB5 hF5
      obtain ⟨N, hN⟩ : ∃ N, N = fw true (Dec.dval ds) := ⟨_, rfl⟩
      have kb : bits .or .u64 9223372036854775808 0 = (N : Int) := by rw [hN, hv0]; decide
      have HN := aside hN
      clear hN
      go_wp2_with (go_at_call 91; refine (float_calls _ N).mono ?_; rintro e w6 ⟨rfl, hB6⟩; refine Hid.out ?_)
      refine Lib.hid ?_
      go_wp2_with fail
      go_ret2
      have hb02 := HB02.out
      exact ⟨by rw [← HN.out]; rfl, (hb02.trans (HB5.out.mono hb02.size)).trans (hB6.mono (Nat.le_trans hb02.size HB5.out.size))⟩
    · obtain ⟨g, cap, ds', dp', hA3, hS3, hl3⟩ := HDN.out hv0
      go_wp2_with (first | (go_at_call 93; refine (underscores_calls _ s HS.out HUND.out).mono ?_; rintro e w4 ⟨rfl, hw4⟩; rw [hw4]; clear hw4 w4) | (go_at_call 95; refine (bits_calls _ D D g cap (Dec.dval ds) ds' dp' hA3 hS3 (by omega) HV15.out hl3).mono ?_; rintro e w5 ⟨x, hx1, hlo, hhi, hx50, rfl, hg5⟩; refine Hid.out ?_))
      refine Lib.hid ?_
      have hF5 : FormAt w5 F := HF2.out.grown hg5 HFD.out
      obtain ⟨q0, q1, q2⟩ := hF5.c
      obtain ⟨N, hN⟩ : ∃ N, N = fw true (Dec.dval ds) := ⟨_, rfl⟩
      obtain ⟨b, hb⟩ : ∃ b, b = fb (Dec.dval ds) x := ⟨_, rfl⟩
      rw [← hb]
      have hblt : b < 9223372036854775808 := by rw [hb]; exact fb_lt hhi hx50
      have kb : bits .or .u64 9223372036854775808 (b : Int) = (N : Int) := by rw [hN, fw_of hx1 hlo hhi, ← hb]; exact by rw [or_sign hblt]; simp
      have HN := aside hN
      have hb02 := HB02.out
      have hB5 := hb02.trans (grownBy_below hg5 (Nat.le_trans hb02.size (Nat.le_refl _)) HBW.out)
      have HB5 := aside hB5
      clear hN hb hF5 hlo hhi hg5 hblt hB5 hb02
      go_wp2_with (go_at_call 91; refine (float_calls _ N).mono ?_; rintro e w6 ⟨rfl, hB6⟩; refine Hid.out ?_)
      refine Lib.hid ?_
      go_wp2_with fail
      go_ret2
      exact ⟨by rw [← HN.out]; rfl, HB5.out.trans (hB6.mono HB5.out.size)⟩
end Go.Proofs.YteplcmhmjdiimaaGreatDoor
namespace Go.Proofs.YteplcmhmjdiimaaGreatDoor
open Go.RowKit

/-- A whole number with a sign of its own (a zero may have one). -/
def sg (neg : Bool) (v : Nat) : Int := if neg then -(v : Int) else (v : Int)

theorem nearest_fw (neg : Bool) (v : Nat) (hv : v < 10 ^ 15) : Ieee.double.nearest neg v 0 = fw neg v := by
  unfold Ieee.Format.nearest fw
  by_cases h0 : v = 0
  · rw [if_pos h0, if_pos h0]
    cases neg <;> decide
  · rw [if_neg h0, if_neg h0]
    obtain ⟨e, he⟩ : ∃ e, e = v.log2 := ⟨_, rfl⟩
    have h1 : 2 ^ e ≤ v := by rw [he]; exact Nat.log2_self_le h0
    have h2 : v < 2 ^ (e + 1) := by rw [he]; exact Nat.lt_log2_self
    have he50 : e < 50 := by
      have := Dec.ten15
      exact Dec.pow2_lt (a := e) (b := 50) (by omega)
    rw [← he]
    have hl : max ((0 : Int) + (e : Int) - (Ieee.double.fractionBits : Int)) Ieee.double.leastPlace = (e : Int) - 52 := by
      have a : Ieee.double.leastPlace = -1074 := by decide
      have b : (Ieee.double.fractionBits : Int) = 52 := by decide
      rw [a, b]; omega
    dsimp only
    rw [hl]
    rw [show ((0 : Int) - ((e : Int) - 52)).toNat = 52 - e by omega, show (((e : Int) - 52) - 0).toNat = 0 by omega]
    have hlp : (((e : Int) - 52) - Ieee.double.leastPlace).toNat = e + 1022 := by
      have a : Ieee.double.leastPlace = -1074 := by decide
      rw [a]; omega
    rw [hlp]
    have hcut : ∀ n : Nat, Ieee.Toward.even.cut neg n 0 = n := by
      intro n
      simp [Ieee.Toward.cut, Nat.mod_one]
    rw [hcut, Nat.shiftLeft_eq]
    have hb : Ieee.double.binade = 4503599627370496 := by decide
    have hi : Ieee.double.infRung = 9218868437227405312 := by decide
    rw [hb, hi]
    have hlt : v * 2 ^ (52 - e) < 9007199254740992 := by
      have : v * 2 ^ (52 - e) < 2 ^ (e + 1) * 2 ^ (52 - e) := Nat.mul_lt_mul_of_pos_right h2 (Nat.two_pow_pos _)
      rw [← Nat.pow_add, show e + 1 + (52 - e) = 53 by omega, p53] at this
      exact this
    have hmin : min ((e + 1022) * 4503599627370496 + v * 2 ^ (52 - e)) 9218868437227405312 = (e + 1022) * 4503599627370496 + v * 2 ^ (52 - e) := by omega
    rw [hmin]
    unfold Ieee.Format.word fb
    rw [show 53 - (e + 1) = 52 - e by omega, p52]
    have hs : Ieee.double.signWeight = 9223372036854775808 := by decide
    rw [hs]
    cases neg <;> simp <;> omega

/-- What a whole number's word stands for. -/
theorem read_fw (neg : Bool) (v : Nat) (hv : v < 10 ^ 15) : ∃ t : Nat, Ieee.double.read (fw neg v) = .number neg (v * 2 ^ t) (-(t : Int)) := by
  have hs : Ieee.double.signWeight = 9223372036854775808 := by decide
  have hb : Ieee.double.binade = 4503599627370496 := by decide
  have hi : Ieee.double.infRung = 9218868437227405312 := by decide
  have hlp : Ieee.double.leastPlace = -1074 := by decide
  unfold Ieee.Format.read
  rw [hs, hb, hi, hlp]
  by_cases h0 : v = 0
  · subst h0
    obtain ⟨t, ht⟩ : ∃ t : Nat, t = 1074 := ⟨_, rfl⟩
    refine ⟨t, ?_⟩
    rw [Nat.zero_mul, show -(t : Int) = -1074 by omega]
    cases neg <;> rfl
  · obtain ⟨e, he⟩ : ∃ e, e = v.log2 := ⟨_, rfl⟩
    have h1 : 2 ^ e ≤ v := by rw [he]; exact Nat.log2_self_le h0
    have h2 : v < 2 ^ (e + 1) := by rw [he]; exact Nat.lt_log2_self
    have he50 : e < 50 := by
      have := Dec.ten15
      exact Dec.pow2_lt (a := e) (b := 50) (by omega)
    have hlt : v * 2 ^ (52 - e) < 9007199254740992 := by
      have : v * 2 ^ (52 - e) < 2 ^ (e + 1) * 2 ^ (52 - e) := Nat.mul_lt_mul_of_pos_right h2 (Nat.two_pow_pos _)
      rw [← Nat.pow_add, show e + 1 + (52 - e) = 53 by omega, p53] at this
      exact this
    have hge : 4503599627370496 ≤ v * 2 ^ (52 - e) := by
      have : 2 ^ e * 2 ^ (52 - e) ≤ v * 2 ^ (52 - e) := Nat.mul_le_mul_right _ h1
      rw [← Nat.pow_add, show e + (52 - e) = 52 by omega, p52] at this
      exact this
    obtain ⟨M, hM⟩ : ∃ M, M = v * 2 ^ (52 - e) := ⟨_, rfl⟩
    have hfw : fw neg v = (if neg then 9223372036854775808 else 0) + (M + (e + 1022) * 4503599627370496) := by
      unfold fw fb
      rw [if_neg h0, ← he, show 53 - (e + 1) = 52 - e by omega, p52, ← hM]
    rw [← hM] at hlt hge
    refine ⟨52 - e, ?_⟩
    rw [← hM, hfw]
    have hr : ((if neg then 9223372036854775808 else 0) + (M + (e + 1022) * 4503599627370496)) % 9223372036854775808 = M + (e + 1022) * 4503599627370496 := by
      cases neg <;> simp <;> omega
    have hn : (((if neg then 9223372036854775808 else 0) + (M + (e + 1022) * 4503599627370496)) / 9223372036854775808 % 2 == 1) = neg := by
      cases neg
      · simp only [Bool.false_eq_true, if_false]
        rw [show (0 + (M + (e + 1022) * 4503599627370496)) / 9223372036854775808 % 2 = 0 by omega]; rfl
      · simp only [if_true]
        rw [show (9223372036854775808 + (M + (e + 1022) * 4503599627370496)) / 9223372036854775808 % 2 = 1 by omega]; rfl
    rw [hr, hn]
    dsimp only
    rw [if_neg (by omega), if_pos (by omega)]
    rw [show 4503599627370496 + (M + (e + 1022) * 4503599627370496) % 4503599627370496 = M by omega, show (M + (e + 1022) * 4503599627370496) / 4503599627370496 - 1 = e + 1022 by omega]
    rw [show (-1074 : Int) + ((e + 1022 : Nat) : Int) = -((52 - e : Nat) : Int) by omega]

/-- Words of whole numbers stand as the numbers do. -/
theorem order_fw (a b : Bool) (u v : Nat) (hu : u < 10 ^ 15) (hv : v < 10 ^ 15) : FloatKind.f64.format.order (fw a u) (fw b v) = some (compare (sg a u) (sg b v)) := by
  obtain ⟨t, ht⟩ := read_fw a u hu
  obtain ⟨r, hr⟩ := read_fw b v hv
  show (Ieee.double.read (fw a u)).order (Ieee.double.read (fw b v)) = _
  rw [ht, hr]
  unfold Ieee.Datum.order
  dsimp only
  congr 1
  obtain ⟨k, hk⟩ : ∃ k : Nat, (k : Int) = -(min (-(t : Int)) (-(r : Int))) := ⟨(-(min (-(t : Int)) (-(r : Int)))).toNat, by omega⟩
  rw [show min (-(t : Int)) (-(r : Int)) = -(k : Int) by omega]
  have e : ∀ (c : Bool) (x y : Nat), y ≤ k → Ieee.signed c (x * 2 ^ y) (-(y : Int) - -(k : Int)).toNat = sg c x * 2 ^ k := by
    intro c x y hy
    unfold Ieee.signed sg
    rw [Nat.shiftLeft_eq, Nat.mul_assoc, ← Nat.pow_add, show y + (-(y : Int) - -(k : Int)).toNat = k by omega]
    cases c <;> simp [Int.neg_mul]
  rw [e a u t (by omega), e b v r (by omega)]
  have hp : (0 : Int) < 2 ^ k := Int.pow_pos (by omega)
  generalize sg a u = x
  generalize sg b v = y
  rcases Int.lt_trichotomy x y with hxy | hxy | hxy
  · rw [Int.compare_eq_lt.2 hxy, Int.compare_eq_lt.2 (Int.mul_lt_mul_of_pos_right hxy hp)]
  · subst hxy; rw [Int.compare_eq_eq.2 rfl, Int.compare_eq_eq.2 rfl]
  · rw [Int.compare_eq_gt.2 hxy, Int.compare_eq_gt.2 (Int.mul_lt_mul_of_pos_right hxy hp)]
end Go.Proofs.YteplcmhmjdiimaaGreatDoor
