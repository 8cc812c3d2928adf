/-
  named: a word that may be read as a number.
-/
import Derived.Test.YteplcmhmjdiimaaGreatDoorcL4
import Derived.Test.YteplcmhmjdiimaaGreatDoorcH0
namespace Go.Proofs.YteplcmhmjdiimaaGreatDoor
open Go.RowKit

theorem be_lowB (s t : ByteArray) : be (lowB s) t = foldB s t := by
  rw [Bool.eq_iff_iff, be_iff]
  simp only [foldB, decide_eq_true_eq]
  constructor
  · intro h
    rw [← h]
    exact ⟨(lowB_size s).symm, fun i hi => (lowB_bt s i hi).symm⟩
  · intro ⟨h1, h2⟩
    exact bt_ext (by rw [lowB_size, h1]) (fun i hi => by rw [lowB_size] at hi; rw [lowB_bt s i hi, h2 i hi])

def namedS (s : ByteArray) : Bool := foldB s sInf || foldB s sInfinity || foldB s sNan

set_option maxHeartbeats 4000000 in
set_option maxRecDepth 100000 in
theorem named_calls (W : World) (s : ByteArray) (hs : s.size < 2147483648) :
    Calls Tryz.prog 17 #[.string s] W fun e w' => e = .returned (.bool (namedS s)) ∧ Below W.heap.size W w' := by
  unfold namedS
  rw [← be_lowB, ← be_lowB, ← be_lowB]
  obtain ⟨t, ht⟩ : ∃ t, t = lowB s := ⟨_, rfl⟩
  rw [← ht]
  unfold be
  have HT := aside ht
  clear ht
  go_enter Tryz.func17, Tryz.ntmps17
  go_wp2_with (go_at_call 21; refine (cased_calls _ s hs).mono ?_; rintro e w1 ⟨rfl, hB⟩; rw [← HT.out]; refine Hid.out ?_)
  refine Lib.hid ?_
  have HB := aside hB
  clear hB
  go_wp2_with fail
  all_goals go_ret
  all_goals refine ⟨?_, HB.out⟩
  all_goals
    have e1 : sInf.toList = [105, 110, 102] := by rw [ByteArray.toList_eq]; rfl
    have e2 : sInfinity.toList = [105, 110, 102, 105, 110, 105, 116, 121] := by rw [ByteArray.toList_eq]; rfl
    have e3 : sNan.toList = [110, 97, 110] := by rw [ByteArray.toList_eq]; rfl
    rw [e1, e2, e3]
  all_goals first | rfl | simp [*]
end Go.Proofs.YteplcmhmjdiimaaGreatDoor
