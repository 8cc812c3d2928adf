/-
  Cased and named: a word that may be read as a number.
-/
import Derived.Test.YteplcmhmjdiimaaGreatDoorcL0
import Derived.Lib.ConvBytes
import Derived.Laws.IdiomStrings
namespace Go.Proofs.YteplcmhmjdiimaaGreatDoor
open Go.RowKit

def lowU (b : UInt8) : UInt8 := if 65 ≤ b.toNat ∧ b.toNat ≤ 90 then UInt8.ofNat (b.toNat + 32) else b
def lowB (s : ByteArray) : ByteArray := ⟨(s.data.toList.map lowU).toArray⟩

theorem lowU_toNat (b : UInt8) : (lowU b).toNat = low b.toNat := by
  unfold lowU low
  split
  · next h => rw [UInt8.toNat_ofNat']; omega
  · rfl

theorem lowB_size (s : ByteArray) : (lowB s).size = s.size := by
  show (s.data.toList.map lowU).toArray.size = s.data.size
  simp

theorem bt_get (s : ByteArray) (j : Nat) (hj : j < s.size) : (s.data.toList.getD j 0).toNat = bt s j := by
  rw [← bt_in hj]
  have hj' : j < s.data.toList.length := by simpa using hj
  rw [List.getD_eq_getElem?_getD, List.getElem?_eq_getElem hj']
  rfl

theorem lowB_bt (s : ByteArray) (j : Nat) (hj : j < s.size) : bt (lowB s) j = low (bt s j) := by
  rw [← bt_get (lowB s) j (by rw [lowB_size]; exact hj), ← bt_get s j hj]
  have hj' : j < s.data.toList.length := by simpa using hj
  unfold lowB
  simp only [List.getD_eq_getElem?_getD, List.getElem?_map, List.getElem?_eq_getElem hj', Option.map_some, Option.getD_some]
  exact lowU_toNat _

theorem bt_ext {s t : ByteArray} (h : s.size = t.size) (hb : ∀ i, i < s.size → bt s i = bt t i) : s = t := by
  apply ByteArray.ext
  apply Array.ext h
  intro i h1 h2
  have e1 : (s[i]'h1).toNat = (t[i]'h2).toNat := by rw [bt_in, bt_in]; exact hb i h1
  exact UInt8.toNat_inj.1 e1

theorem bytes_frozen (W : World) (s : ByteArray) (j : Nat) (hj : j < s.size) : (Lib.bytesWorld W 5 s).frozen? ⟨W.heap.size, j, none⟩ = false := by
  have h : s.size ≤ (Lib.bytesCells W 5 s).size := by
    unfold Lib.bytesCells
    simp only [Array.size_append, Array.size_map]
    show s.data.size ≤ _
    omega
  simp only [World.frozen?, Lib.bytesWorld_at_new]
  simp
  omega

theorem bytes_below (W : World) (s : ByteArray) : Below W.heap.size W (Lib.bytesWorld W 5 s) := by
  refine ⟨?_, ?_, ?_, ?_, fun k hk => Lib.bytesWorld_at_old W 5 s k hk⟩
  · unfold Lib.bytesWorld World.freeze; rw [if_neg (by decide)]; rfl
  · unfold Lib.bytesWorld World.freeze; rw [if_neg (by decide)]; rfl
  · unfold Lib.bytesWorld World.freeze; rw [if_neg (by decide)]; rfl
  · rw [Lib.bytesWorld_size]; omega

/-- The bytes, the first i of them in lower case. -/
def CS (W wr : World) (s : ByteArray) (i : Nat) : Prop :=
  (∀ j, j < s.size → wr.cell? ⟨W.heap.size, j, none⟩ = some (.int .u8 ((if j < i then low (bt s j) else bt s j : Nat) : Int)) ∧ wr.frozen? ⟨W.heap.size, j, none⟩ = false) ∧ Below W.heap.size W wr

theorem CS.start (W : World) (s : ByteArray) : CS W (Lib.bytesWorld W 5 s) s 0 :=
  ⟨fun j hj => ⟨by rw [Lib.bytesWorld_cell W 5 s j hj, bt_get s j hj]; simp, bytes_frozen W s j hj⟩, bytes_below W s⟩

theorem CS.skip {W wr : World} {s : ByteArray} {i : Nat} (h : CS W wr s i) (hl : i < s.size → low (bt s i) = bt s i) : CS W wr s (i + 1) := by
  refine ⟨fun j hj => ⟨?_, (h.1 j hj).2⟩, h.2⟩
  rw [(h.1 j hj).1]
  by_cases e : j = i
  · subst e; rw [if_neg (by omega), if_pos (by omega), hl hj]
  · by_cases e2 : j < i
    · rw [if_pos e2, if_pos (by omega)]
    · rw [if_neg e2, if_neg (by omega)]

theorem CS.put {W wr : World} {s : ByteArray} {i : Nat} (h : CS W wr s i) (hi : i < s.size) : CS W (wr.setCell ⟨W.heap.size, i, none⟩ (.int .u8 (low (bt s i) : Int))) s (i + 1) := by
  refine ⟨fun j hj => ⟨?_, ?_⟩, h.2.setCell (Nat.le_refl _) _⟩
  · by_cases e : j = i
    · subst e
      rw [World.cell?_setCell_same _ _ _ (h.1 j hj).1, if_pos (by omega)]
    · rw [World.cell?_setCell_other _ _ _ _ (by intro e'; exact e (by simpa using (congrArg Addr.off e').symm)), (h.1 j hj).1]
      by_cases e2 : j < i
      · rw [if_pos e2, if_pos (by omega)]
      · rw [if_neg e2, if_neg (by omega)]
  · have := (h.1 j hj).2
    simpa using this

set_option maxHeartbeats 4000000 in
set_option maxRecDepth 100000 in
theorem cased_calls (W : World) (s : ByteArray) (hs : s.size < 2147483648) :
    Calls Tryz.prog 21 #[.string s, .int .i64 1] W fun e w' => e = .returned (.string (lowB s)) ∧ Below W.heap.size W w' := by
  have kc := fun (w : World) => Lib.run_convert_string_bytes (P := Tryz.prog) w 9 78 5 s Tryz.underlying9 Tryz.underlying78 Tryz.underlying5
  go_enter Tryz.func21, Tryz.ntmps21
  go_upto_region 2 with fail
  obtain ⟨w0, hw0⟩ : ∃ w0, w0 = Lib.bytesWorld W 5 s := ⟨_, rfl⟩
  obtain ⟨cap, hcap⟩ : ∃ cap, cap = grownCap W s.size 0 5 := ⟨_, rfl⟩
  rw [← hw0, ← hcap]
  have hC0 : CS W w0 s 0 := by rw [hw0]; exact CS.start W s
  have HC0 := aside hC0
  clear hC0 hw0 hcap kc
  go_wp2_with fail
  go_loopg [6] s.size (fun q s6 wr => ∃ i : Nat, s6 = .int .i64 i ∧ i ≤ s.size ∧ s.size ≤ q + i ∧ Hid (CS W wr s i))
  case atStart => exact ⟨0, rfl, by omega, by omega, HC0.out⟩
  case round =>
    obtain ⟨i, rfl, hi, hq, HC⟩ := hrel
    by_cases hlt : i < s.size
    · have e1 : decide ((i : Int) < (s.size : Int)) = true := by simp; omega
      have e2 : (i : Int) < (s.size : Int) := by omega
      obtain ⟨c, hc⟩ : ∃ c, c = bt s i := ⟨_, rfl⟩
      have r1 : wr.cell? ⟨W.heap.size, i, none⟩ = some (.int .u8 (c : Int)) := by rw [hc, (HC.out.1 i hlt).1, if_neg (by omega)]
      have r2 := (HC.out.1 i hlt).2
      have HCC := aside hc
      clear hc
      by_cases h1 : 65 ≤ c ∧ c ≤ 90
      · have d1 : decide ((c : Int) ≥ 65) = true := by simp; omega
        have d2 : decide ((c : Int) ≤ 90) = true := by simp; omega
        have wr1 : IntKind.u8.wrap ((c : Int) + 32) = (c : Int) + 32 := IntWalk.u8_in _ (by omega)
        have hlow : ((low (bt s i) : Nat) : Int) = (c : Int) + 32 := by rw [← HCC.out]; unfold low; rw [if_pos h1]; simp
        have HLOW := aside hlow
        clear hlow
        go_wp2_with fail
        go_roundg (s.size - (i + 1))
        case measure => omega
        case rel =>
          refine ⟨i + 1, by simp, by omega, by omega, ?_⟩
          have := HC.out.put hlt
          rw [HLOW.out] at this
          exact this
      · have hlow : low c = c := by unfold low; rw [if_neg h1]
        have HLOW := aside hlow
        clear hlow
        by_cases h2 : c < 65
        · have d1 : decide ((c : Int) ≥ 65) = false := by simp; omega
          go_wp2_with fail
          go_roundg (s.size - (i + 1))
          case measure => omega
          case rel => exact ⟨i + 1, by simp, by omega, by omega, HC.out.skip (fun _ => by rw [← HCC.out]; exact HLOW.out)⟩
        · have d1 : decide ((c : Int) ≥ 65) = true := by simp; omega
          have d2 : decide ((c : Int) ≤ 90) = false := by simp; omega
          go_wp2_with fail
          go_roundg (s.size - (i + 1))
          case measure => omega
          case rel => exact ⟨i + 1, by simp, by omega, by omega, HC.out.skip (fun _ => by rw [← HCC.out]; exact HLOW.out)⟩
    · have e1 : decide ((i : Int) < (s.size : Int)) = false := by simp; omega
      have his : i = s.size := by omega
      have hll : (s.data.toList.map lowU).length = s.size := by simp
      have kb := run_convert_bytes_back (P := Tryz.prog) wr 78 9 5 ⟨W.heap.size, 0, none⟩ cap (s.data.toList.map lowU) Tryz.underlying78 Tryz.underlying5 Tryz.underlying9 (fun j hj => by
        have hj' : j < s.size := by rw [← hll]; exact hj
        have := (HC.out.1 j hj').1
        rw [if_pos (by omega)] at this
        have e : ((⟨W.heap.size, 0, none⟩ : Addr).add j) = ⟨W.heap.size, j, none⟩ := by unfold Addr.add; by_cases h0 : j = 0 <;> simp [h0]
        rw [e, this, List.getElem_map, lowU_toNat]
        have e3 : (s.data.toList[j]'(by simpa using hj')).toNat = bt s j := by
          rw [← bt_in hj']; rfl
        rw [e3])
      rw [hll] at kb
      clear hll his
      go_wp2_with fail
      go_ret
      exact ⟨rfl, HC.out.2⟩
end Go.Proofs.YteplcmhmjdiimaaGreatDoor
