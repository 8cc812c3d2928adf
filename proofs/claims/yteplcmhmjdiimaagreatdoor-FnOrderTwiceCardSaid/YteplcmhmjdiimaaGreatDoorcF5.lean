/-
  strconv's ParseFloat, the outer functions.
  strconv.ParseFloat: on whole decimals, and on what is no number.
-/
import Derived.Test.YteplcmhmjdiimaaGreatDoorcF2
import Derived.Test.YteplcmhmjdiimaaGreatDoorcF3
import Derived.Test.YteplcmhmjdiimaaGreatDoorcE1
import Derived.Test.YteplcmhmjdiimaaGreatDoorcShelf2
namespace Go.Proofs.YteplcmhmjdiimaaGreatDoor
open Go.RowKit

/-- The library's own variables that its reader of floats looks at. -/
structure Globs (w : World) : Prop where
  size : 7 ≤ w.heap.size
  opt : w.cell? ⟨5, 0, none⟩ = some (.bool true)
  man : w.cell? ⟨6, 0, none⟩ = some (.int .u64 52)
  err : ∃ ev, w.cell? ⟨0, 0, none⟩ = some ev ∧ (ev = .nilIface ∨ ∃ te pe, ev = .iface te pe)
theorem Globs.below {w w' : World} {N : Nat} (h : Globs w) (hb : Below N w w') (hN : 7 ≤ N) : Globs w' := by
  refine ⟨Nat.le_trans h.size hb.size, ?_, ?_, ?_⟩
  · rw [hb.cell (by show 5 < N; omega)]; exact h.opt
  · rw [hb.cell (by show 6 < N; omega)]; exact h.man
  · obtain ⟨ev, h1, h2⟩ := h.err
    exact ⟨ev, by rw [hb.cell (by show 0 < N; omega)]; exact h1, h2⟩

theorem ofInt_fw (m : Nat) (hm : m < 10 ^ 15) : floatOfInt .f64 (m : Int) = fw false m := by
  rw [← nearest_fw false m hm]
  show Ieee.double.nearest (decide ((m : Int) < 0)) (m : Int).natAbs 0 = _
  rw [show decide ((m : Int) < 0) = false by simp, Int.natAbs_natCast]
theorem run_neg_float (w : World) (b : Nat) : (Op.unary .neg (.float .f64 b)).run Tryz.prog w = .ok (.float .f64 (Op.negFloat .f64 b)) w := rfl
theorem neg_fw (m : Nat) (hm : m < 10 ^ 15) (h0 : m ≠ 0) : Op.negFloat .f64 (fw false m) = fw true m := by
  have h2 : m < 2 ^ (m.log2 + 1) := Nat.lt_log2_self
  have hx : m.log2 + 1 ≤ 50 := by
    have h1 : 2 ^ m.log2 ≤ m := Nat.log2_self_le h0
    have := Dec.ten15
    have := Dec.pow2_lt (a := m.log2) (b := 50) (by omega)
    omega
  have hb : fw false m < 2 ^ 63 := by
    unfold fw
    rw [if_neg h0]
    have := fb_lt h2 hx
    simpa using this
  have e : fw true m = 2 ^ 63 * 1 + fw false m := by
    unfold fw
    rw [if_neg h0]
    simp
  rw [e, Nat.two_pow_add_eq_or_of_lt hb 1, Nat.mul_one]
  show fw false m ^^^ 2 ^ 63 = _
  apply Nat.eq_of_testBit_eq
  intro i
  rw [Nat.testBit_xor, Nat.testBit_or, Nat.testBit_two_pow]
  by_cases hi : 63 = i
  · subst hi
    rw [Nat.testBit_lt_two_pow hb]
    rfl
  · simp [hi]

set_option maxHeartbeats 2000000 in
set_option maxRecDepth 100000 in
theorem exact_calls (w : World) (m : Nat) (neg : Bool) (hm : m < 10 ^ 15) (hg : Globs w) (h0 : m ≠ 0) :
    Calls Tryz.prog 127 #[.int .u64 m, .int .i64 0, .bool neg] w fun e w' => e = .returned (.tuple #[.float .f64 (fw neg m), .bool true]) ∧ w' = w := by
  have c6 := hg.man
  have hmm : m < 1000000000000000 := by have : (10 : Nat) ^ 15 = 1000000000000000 := by decide
                                        omega
  have e1 : (!((m : Int) / 4503599627370496 == 0)) = false := by
    have : (m : Int) / 4503599627370496 = 0 := by omega
    rw [this]; rfl
  have e2 : (m : Int) / 4503599627370496 = 0 := by omega
  have HM := aside hm
  have k1 := ofInt_fw m hm
  have k2 := neg_fw m hm h0
  have kn : ∀ w, (Op.unary .neg (.float .f64 (floatOfInt .f64 (m : Int)))).run Tryz.prog w = .ok (.float .f64 (Op.negFloat .f64 (floatOfInt .f64 (m : Int)))) w := fun w => run_neg_float w _
  have K1 := aside k1
  have K2 := aside k2
  clear hm hg h0 k1 k2
  go_enter Tryz.func127, Tryz.ntmps127
  cases neg
  · go_wp2
    go_ret2
    rw [← K1.out]
    exact ⟨rfl, rfl⟩
  · go_wp2
    go_ret2
    rw [← K2.out, ← K1.out]
    exact ⟨rfl, rfl⟩

theorem bool2_calls (w : World) (b : Bool) : Calls Tryz.prog 125 #[.bool b] w fun e w' => e = .returned (.int .u64 (if b then 1 else 0)) ∧ w' = w := by
  go_enter Tryz.func125, Tryz.ntmps125
  cases b
  · go_wp2
    go_ret
    exact ⟨rfl, rfl⟩
  · go_wp2
    go_ret
    exact ⟨rfl, rfl⟩

set_option maxHeartbeats 1000000 in
set_option maxRecDepth 100000 in
theorem atof64_whole (w : World) (s : ByteArray) (neg : Bool) (ds : List Nat) (h : WholeAt s neg ds) (hg : Globs w) :
    Calls Tryz.prog 97 #[.string s] w fun e w' => e = .returned (.tuple #[.float .f64 (fw neg (Dec.dval ds)), .int .i64 (s.size : Int), .nilIface]) ∧ w' = w := by
  have c5 := hg.opt
  have hv15 : Dec.dval ds < 10 ^ 15 := by
    have hd : ∀ d ∈ ds, d < 10 := by
      cases neg with
      | false => exact (h.pos rfl).dig
      | true => exact (h.neg rfl).2.2.dig
    exact Nat.lt_of_lt_of_le (Dec.dval_lt ds hd) (Nat.pow_le_pow_right (by omega) h.most)
  have hrf : ∀ w, Calls Tryz.prog 117 #[.string s] w fun e w' => e = .returned (.tuple #[.int .u64 ((Dec.dval ds : Nat) : Int), .int .i64 0, .bool neg, .bool false, .bool false, .int .i64 (s.size : Int), .bool true]) ∧ w' = w := by
    intro w
    cases neg with
    | false => exact readFloat_pos w s ds (h.pos rfl) h.one h.most
    | true => obtain ⟨a, b, c⟩ := h.neg rfl
              exact readFloat_neg w s ds a b c h.one h.most
  obtain ⟨v, hv⟩ : ∃ v, v = Dec.dval ds := ⟨_, rfl⟩
  rw [← hv] at hv15 hrf ⊢
  have H := aside h
  have HG := aside hg
  have HV := aside hv15
  have HRF := aside hrf
  have kf : ∀ w b, (callFunc 126 #[.int .u64 ((b : Nat) : Int)]).run Tryz.prog w = .ok (.value (.float .f64 b)) w := frombits'
  have kf0 : ∀ w, (callFunc 126 #[.int .u64 0]).run Tryz.prog w = .ok (.value (.float .f64 0)) w := fun w => frombits' w 0
  have kf1 : ∀ w, (callFunc 126 #[.int .u64 9223372036854775808]).run Tryz.prog w = .ok (.value (.float .f64 9223372036854775808)) w := fun w => frombits' w 9223372036854775808
  have o0 : bits .or .u64 0 0 = 0 := by decide
  have o1 : bits .or .u64 9223372036854775808 0 = 9223372036854775808 := by decide
  clear h hg hv15 hrf kf hv
  cases neg
  · go_enter Tryz.func97, Tryz.ntmps97
    go_wp2_with (first | (go_at_call 116; refine (special_whole _ s false ds H.out).mono ?_; rintro e w4 ⟨⟨b, n, rfl⟩, hw4⟩; rw [hw4]; clear hw4 w4; refine Hid.out ?_))
    refine Lib.hid ?_
    by_cases hv0 : v = 0
    · subst hv0
      go_wp2_with (first | (go_at_call 117; refine (HRF.out _).mono ?_; rintro e w4 ⟨rfl, hw4⟩; rw [hw4]; clear hw4 w4) | (go_at_call 125; refine (bool2_calls _ false).mono ?_; rintro e w4 ⟨rfl, hw4⟩; rw [hw4]; clear hw4 w4; refine Hid.out ?_))
      refine Lib.hid ?_
      go_wp2_with fail
      go_ret3
      exact ⟨rfl, rfl⟩
    · have e1 : ((v : Int) == 0) = false := by simp only [beq_eq_false_iff_ne, ne_eq]; omega
      have HV0 := aside hv0
      clear hv0
      go_wp2_with (first | (go_at_call 117; refine (HRF.out _).mono ?_; rintro e w4 ⟨rfl, hw4⟩; rw [hw4]; clear hw4 w4) | (go_at_call 125; refine (bool2_calls _ false).mono ?_; rintro e w4 ⟨rfl, hw4⟩; rw [hw4]; clear hw4 w4; refine Hid.out ?_))
      refine Lib.hid ?_
      go_wp2_with (go_at_call 127; refine (exact_calls _ v false HV.out HG.out HV0.out).mono ?_; rintro e w4 ⟨rfl, hw4⟩; rw [hw4]; clear hw4 w4; refine Hid.out ?_)
      refine Lib.hid ?_
      go_wp2_with fail
      go_ret3
      exact ⟨rfl, rfl⟩
  · go_enter Tryz.func97, Tryz.ntmps97
    go_wp2_with (first | (go_at_call 116; refine (special_whole _ s true ds H.out).mono ?_; rintro e w4 ⟨⟨b, n, rfl⟩, hw4⟩; rw [hw4]; clear hw4 w4; refine Hid.out ?_))
    refine Lib.hid ?_
    by_cases hv0 : v = 0
    · subst hv0
      go_wp2_with (first | (go_at_call 117; refine (HRF.out _).mono ?_; rintro e w4 ⟨rfl, hw4⟩; rw [hw4]; clear hw4 w4) | (go_at_call 125; refine (bool2_calls _ true).mono ?_; rintro e w4 ⟨rfl, hw4⟩; rw [hw4]; clear hw4 w4; refine Hid.out ?_))
      refine Lib.hid ?_
      go_wp2_with fail
      go_ret3
      exact ⟨rfl, rfl⟩
    · have e1 : ((v : Int) == 0) = false := by simp only [beq_eq_false_iff_ne, ne_eq]; omega
      have HV0 := aside hv0
      clear hv0
      go_wp2_with (first | (go_at_call 117; refine (HRF.out _).mono ?_; rintro e w4 ⟨rfl, hw4⟩; rw [hw4]; clear hw4 w4) | (go_at_call 125; refine (bool2_calls _ true).mono ?_; rintro e w4 ⟨rfl, hw4⟩; rw [hw4]; clear hw4 w4; refine Hid.out ?_))
      refine Lib.hid ?_
      go_wp2_with (go_at_call 127; refine (exact_calls _ v true HV.out HG.out HV0.out).mono ?_; rintro e w4 ⟨rfl, hw4⟩; rw [hw4]; clear hw4 w4; refine Hid.out ?_)
      refine Lib.hid ?_
      go_wp2_with fail
      go_ret3
      exact ⟨rfl, rfl⟩
end Go.Proofs.YteplcmhmjdiimaaGreatDoor
namespace Go.Proofs.YteplcmhmjdiimaaGreatDoor
open Go.RowKit

set_option maxHeartbeats 1000000 in
set_option maxRecDepth 100000 in
theorem prefix_whole (w : World) (s : ByteArray) (neg : Bool) (ds : List Nat) (h : WholeAt s neg ds) (hg : Globs w) :
    Calls Tryz.prog 70 #[.string s, .int .i64 64] w fun e w' => e = .returned (.tuple #[.float .f64 (fw neg (Dec.dval ds)), .int .i64 (s.size : Int), .nilIface]) ∧ w' = w := by
  have hc := atof64_whole w s neg ds h hg
  have H := aside hc
  clear hc h hg
  go_enter Tryz.func70, Tryz.ntmps70
  go_wp2_with (go_at_call 97; refine H.out.mono ?_; rintro e w4 ⟨rfl, hw4⟩; rw [hw4]; clear hw4 w4)
  go_ret3
  exact ⟨rfl, rfl⟩

set_option maxHeartbeats 1000000 in
set_option maxRecDepth 100000 in
theorem inner_whole (w : World) (s : ByteArray) (neg : Bool) (ds : List Nat) (h : WholeAt s neg ds) (hg : Globs w) :
    Calls Tryz.prog 41 #[.string s, .int .i64 64] w fun e w' => e = .returned (.tuple #[.float .f64 (fw neg (Dec.dval ds)), .nilIface]) ∧ w' = w := by
  have hc := prefix_whole w s neg ds h hg
  have H := aside hc
  clear hc h hg
  go_enter Tryz.func41, Tryz.ntmps41
  go_wp2_with (go_at_call 70; refine H.out.mono ?_; rintro e w4 ⟨rfl, hw4⟩; rw [hw4]; clear hw4 w4)
  go_ret2
  exact ⟨rfl, rfl⟩

set_option maxHeartbeats 1000000 in
set_option maxRecDepth 100000 in
theorem spf_whole (w : World) (s : ByteArray) (neg : Bool) (ds : List Nat) (h : WholeAt s neg ds) (hg : Globs w) :
    Calls Tryz.prog 31 #[.string s, .int .i64 64] w fun e w' => e = .returned (.tuple #[.float .f64 (fw neg (Dec.dval ds)), .nilIface]) ∧ w' = w := by
  have hc := inner_whole w s neg ds h hg
  have H := aside hc
  clear hc h hg
  go_enter Tryz.func31, Tryz.ntmps31
  go_wp2_with (go_at_call 41; refine H.out.mono ?_; rintro e w4 ⟨rfl, hw4⟩; rw [hw4]; clear hw4 w4)
  go_ret2
  exact ⟨rfl, rfl⟩

/-- A text that names no number: empty, or beginning with a letter, and not inf, infinity, nan. -/
structure WordAt (s : ByteArray) : Prop where
  size : s.size < 2147483648
  let_ : 1 ≤ s.size → isL (bt s 0)
  nan : foldB s sNan = false
  inf : foldB s sInf = false
  infinity : foldB s sInfinity = false

set_option maxHeartbeats 1000000 in
set_option maxRecDepth 100000 in
theorem atof64_word (w : World) (s : ByteArray) (h : WordAt s) :
    Calls Tryz.prog 97 #[.string s] w fun e w' => (∃ (b : Nat) (n : Int) (err : Value), e = .returned (.tuple #[.float .f64 b, .int .i64 n, err]) ∧ (err = .iface 131 (.int .i64 2) ∨ err = .nilIface ∧ n ≠ (s.size : Int))) ∧ w' = w := by
  have H := aside h
  clear h
  go_enter Tryz.func97, Tryz.ntmps97
  go_wp2_with (go_at_call 116; refine (special_word _ s H.out.size H.out.let_ H.out.nan H.out.inf H.out.infinity).mono ?_; rintro e w4 ⟨⟨b, n, ok, rfl, hok⟩, hw4⟩; rw [hw4]; clear hw4 w4; refine Hid.out ?_)
  refine Lib.hid ?_
  have HOK := aside hok
  clear hok
  cases ok
  · go_wp2_with (go_at_call 117; refine (readFloat_word _ s H.out.size H.out.let_).mono ?_; rintro e w4 ⟨⟨m, x, a, b', c, i, rfl⟩, hw4⟩; rw [hw4]; clear hw4 w4; refine Hid.out ?_)
    refine Lib.hid ?_
    go_wp2_with fail
    go_ret3
    exact ⟨⟨_, _, _, rfl, .inl rfl⟩, rfl⟩
  · go_wp2_with fail
    go_ret3
    refine ⟨⟨_, _, _, rfl, .inr ⟨rfl, ?_⟩⟩, rfl⟩
    rcases HOK.out with h | h
    · cases h
    · omega

set_option maxHeartbeats 1000000 in
set_option maxRecDepth 100000 in
theorem prefix_word (w : World) (s : ByteArray) (h : WordAt s) :
    Calls Tryz.prog 70 #[.string s, .int .i64 64] w fun e w' => (∃ (b : Nat) (n : Int) (err : Value), e = .returned (.tuple #[.float .f64 b, .int .i64 n, err]) ∧ (err = .iface 131 (.int .i64 2) ∨ err = .nilIface ∧ n ≠ (s.size : Int))) ∧ w' = w := by
  have H := aside h
  clear h
  go_enter Tryz.func70, Tryz.ntmps70
  go_wp2_with (go_at_call 97; refine (atof64_word _ s H.out).mono ?_; rintro e w4 ⟨⟨b, n, err, rfl, hok⟩, hw4⟩; rw [hw4]; clear hw4 w4; refine Hid.out ?_)
  refine Lib.hid ?_
  have HOK := aside hok
  clear hok
  go_wp2_with fail
  go_ret3
  exact ⟨⟨_, _, _, rfl, HOK.out⟩, rfl⟩

set_option maxHeartbeats 1000000 in
set_option maxRecDepth 100000 in
theorem inner_word (w : World) (s : ByteArray) (h : WordAt s) :
    Calls Tryz.prog 41 #[.string s, .int .i64 64] w fun e w' => (∃ (b : Nat), e = .returned (.tuple #[.float .f64 b, .iface 131 (.int .i64 2)])) ∧ w' = w := by
  have H := aside h
  clear h
  go_enter Tryz.func41, Tryz.ntmps41
  go_wp2_with (go_at_call 70; refine (prefix_word _ s H.out).mono ?_; rintro e w4 ⟨⟨b, n, err, rfl, hok⟩, hw4⟩; rw [hw4]; clear hw4 w4; refine Hid.out ?_)
  refine Lib.hid ?_
  by_cases hn : n = (s.size : Int)
  · have herr : err = .iface 131 (.int .i64 2) := by
      rcases hok with h | ⟨_, h⟩
      · exact h
      · exact absurd hn h
    subst herr
    have e1 : (!(n == (s.size : Int))) = false := by simp [hn]
    clear hok
    go_wp2_with fail
    go_ret2
    exact ⟨⟨_, rfl⟩, rfl⟩
  · have e1 : (!(n == (s.size : Int))) = true := by simp [hn]
    clear hok
    go_wp2_with fail
    go_ret2
    exact ⟨⟨_, rfl⟩, rfl⟩

set_option maxHeartbeats 1000000 in
set_option maxRecDepth 100000 in
theorem spf_word (w : World) (s : ByteArray) (h : WordAt s) (hg : Globs w) :
    Calls Tryz.prog 31 #[.string s, .int .i64 64] w fun e w' => (∃ (b : Nat) (t : TypeId) (v : Value), e = .returned (.tuple #[.float .f64 b, .iface t v])) ∧ Below w.heap.size w w' := by
  have H := aside h
  obtain ⟨ev, hev1, hev2⟩ := hg.err
  have HL : Hid (s.size ≤ 281474976710656) := by show _ ≤ _; have := h.size; omega
  have HE1 := aside hev1
  have HE2 := aside hev2
  clear h hg hev1 hev2
  go_enter Tryz.func31, Tryz.ntmps31
  go_wp2_with (go_at_call 41; refine (inner_word _ s H.out).mono ?_; rintro e w4 ⟨⟨b, rfl⟩, hw4⟩; rw [hw4]; clear hw4 w4; refine Hid.out ?_)
  refine Lib.hid ?_
  go_wp2_with (go_at_call 42; refine (Tryz.strconv_toError_syntax _ s _ _ ev _ HL.out HE1.out HE2.out).mono ?_; rintro e w4 ⟨N, rfl, -, -, hB⟩; refine Hid.out ?_)
  refine Lib.hid ?_
  go_wp2_with fail
  go_ret2
  exact ⟨⟨_, _, _, rfl⟩, hB⟩

set_option maxHeartbeats 1000000 in
set_option maxRecDepth 100000 in
theorem number_whole (w : World) (s : ByteArray) (neg : Bool) (ds : List Nat) (h : WholeAt s neg ds) (hg : Globs w) :
    Calls Tryz.prog 24 #[.string s] w fun e w' => e = .returned (.tuple #[.float .f64 (fw neg (Dec.dval ds)), .bool true]) ∧ Below w.heap.size w w' := by
  have hc := spf_whole w s neg ds h hg
  have H := aside hc
  clear hc h hg
  go_enter Tryz.func24, Tryz.ntmps24
  go_wp2_with (go_at_call 31; refine H.out.mono ?_; rintro e w4 ⟨rfl, hw4⟩; rw [hw4]; clear hw4 w4)
  go_quiet (fail)
  go_wp2_with fail
  go_ret2
  exact ⟨rfl, ⟨rfl, rfl, rfl, Nat.le_refl _, fun _ _ => rfl⟩⟩

set_option maxHeartbeats 1000000 in
set_option maxRecDepth 100000 in
theorem number_word (w : World) (s : ByteArray) (h : WordAt s) (hg : Globs w) :
    Calls Tryz.prog 24 #[.string s] w fun e w' => (∃ b : Nat, e = .returned (.tuple #[.float .f64 b, .bool false])) ∧ Below w.heap.size w w' := by
  have hc := spf_word w s h hg
  have H := aside hc
  clear hc h hg
  go_enter Tryz.func24, Tryz.ntmps24
  go_wp2_with (go_at_call 31; refine H.out.mono ?_; rintro e w4 ⟨⟨b, t, v, rfl⟩, hB⟩; refine Hid.out ?_)
  refine Lib.hid ?_
  go_wp2_with fail
  go_quiet (fail)
  go_wp2_with fail
  go_ret2
  exact ⟨⟨_, rfl⟩, ⟨hB.os, hB.tape, hB.output, hB.size, hB.block⟩⟩
end Go.Proofs.YteplcmhmjdiimaaGreatDoor
