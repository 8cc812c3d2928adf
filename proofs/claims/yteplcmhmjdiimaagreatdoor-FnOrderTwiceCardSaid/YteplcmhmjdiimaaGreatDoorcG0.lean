/-
  How two cells stand, in plain Lean; the spec's own walks of it.
  spec.Before on cells that the laws allow.
  spec.Before where a cell is a word; all cells that may be compared.
  The program's own comparisons: lessNumericVal, lessAlphabetic.
  The program's own comparisons: lessNumeric, lessMixedMode.
  less: the program's comparison of two cells by a rule is the spec's.
-/
import Derived.Test.YteplcmhmjdiimaaGreatDoorcF5
import Derived.Test.YteplcmhmjdiimaaGreatDoorcShelf
import Derived.Test.YteplcmhmjdiimaaGreatDoorcE1
namespace Go.Proofs.YteplcmhmjdiimaaGreatDoor
open Go.RowKit

theorem bl_irrefl (l : List UInt8) : Op.bytesLess l l = false := by
  induction l with
  | nil => rfl
  | cons x r ih => simp [Op.bytesLess, ih]
def lowS (s : ByteArray) : ByteArray := ⟨(Lib.toLowerA s.data.toList).toArray⟩
def bl (a b : ByteArray) : Bool := Op.bytesLess a.toList b.toList
def be (a b : ByteArray) : Bool := a.toList == b.toList
def bg (a b : ByteArray) : Bool := !bl a b && !be a b
/-- As texts. -/
def TXT (falls fold : Bool) (a b : ByteArray) : Bool × Bool :=
  if fold then (be (lowS a) (lowS b), if falls then bg (lowS a) (lowS b) || (be (lowS a) (lowS b) && bg a b) else bl (lowS a) (lowS b) || (be (lowS a) (lowS b) && bl a b))
  else (false, if falls then bg a b else bl a b)
/-- As numbers. -/
def NUM (falls : Bool) (u v : Int) : Bool × Bool := if u = v then (true, false) else (false, if falls then decide (v < u) else decide (u < v))

/-- Bytes below 128. -/
def Asc (s : ByteArray) : Prop := s.size < 2147483648 ∧ ∀ i, i < s.size → bt s i < 128
theorem Asc.list {s : ByteArray} (h : Asc s) : ∀ (j : Nat) (b : UInt8), s.data.toList[j]? = some b → b.toNat < 128 := by
  intro j b hb
  obtain ⟨hj, hb'⟩ := List.getElem?_eq_some_iff.1 hb
  have hj' : j < s.size := by simpa using hj
  have := h.2 j hj'
  rw [← bt_in hj'] at this
  rw [← hb']
  exact this

theorem lower_asc (w : World) (s : ByteArray) (h : Asc s) : Calls Tryz.prog 32 #[.string s] w fun e w' => e = .returned (.string (lowS s)) ∧ Below w.heap.size w w' :=
  Tryz.strings_ToLower_ascii s w (by have := h.1; omega) h.list

set_option maxHeartbeats 2000000 in
set_option maxRecDepth 100000 in
theorem beforeNumbers_calls (w : World) (a b : Bool) (u v : Nat) (hu : u < 10 ^ 15) (hv : v < 10 ^ 15) (falls : Bool) :
    Calls Tryz.prog 26 #[.float .f64 (fw a u), .float .f64 (fw b v), .bool falls] w fun e w' => e = .returned (.tuple #[.bool (NUM falls (sg a u) (sg b v)).1, .bool (NUM falls (sg a u) (sg b v)).2]) ∧ w' = w := by
  have ho := order_fw a b u v hu hv
  obtain ⟨x, hx⟩ : ∃ x, x = fw a u := ⟨_, rfl⟩
  obtain ⟨y, hy⟩ : ∃ y, y = fw b v := ⟨_, rfl⟩
  obtain ⟨p, hp⟩ : ∃ p, p = sg a u := ⟨_, rfl⟩
  obtain ⟨q, hq⟩ : ∃ q, q = sg b v := ⟨_, rfl⟩
  rw [← hx, ← hy, ← hp, ← hq] at ho ⊢
  clear hx hy hp hq hu hv
  go_enter Tryz.func26, Tryz.ntmps26
  rcases Int.lt_trichotomy p q with h | h | h
  · rw [Int.compare_eq_lt.2 h] at ho
    have hn : NUM falls p q = (false, if falls then false else true) := by
      unfold NUM
      rw [if_neg (by omega)]
      congr 1
      cases falls <;> simp <;> omega
    have HN := aside hn
    clear h hn
    cases falls
    all_goals
      go_wp2
      go_ret2
      rw [HN.out]
      exact ⟨rfl, rfl⟩
  · rw [Int.compare_eq_eq.2 h] at ho
    have hn : NUM falls p q = (true, false) := by unfold NUM; rw [if_pos h]
    have HN := aside hn
    clear h hn
    go_wp2
    go_ret2
    rw [HN.out]
    exact ⟨rfl, rfl⟩
  · rw [Int.compare_eq_gt.2 h] at ho
    have hn : NUM falls p q = (false, if falls then true else false) := by
      unfold NUM
      rw [if_neg (by omega)]
      congr 1
      cases falls <;> simp <;> omega
    have HN := aside hn
    clear h hn
    cases falls
    all_goals
      go_wp2
      go_ret2
      rw [HN.out]
      exact ⟨rfl, rfl⟩

set_option maxHeartbeats 2000000 in
set_option maxRecDepth 100000 in
theorem beforeTexts_calls (w : World) (a b : ByteArray) (ha : Asc a) (hb : Asc b) (falls fold : Bool) :
    Calls Tryz.prog 25 #[.string a, .string b, .bool falls, .bool fold] w fun e w' => e = .returned (.tuple #[.bool (TXT falls fold a b).1, .bool (TXT falls fold a b).2]) ∧ Below w.heap.size w w' := by
  have HA := aside ha
  have HB := aside hb
  clear ha hb
  go_enter Tryz.func25, Tryz.ntmps25
  cases fold
  · cases falls
    all_goals
      go_wp2
      go_ret2
      exact ⟨rfl, Below.refl _ _⟩
  · cases falls
    · go_wp2_with (go_at_call 32; refine (lower_asc _ a HA.out).mono ?_; rintro e w1 ⟨rfl, hB1⟩; refine Hid.out ?_)
      refine Lib.hid ?_
      go_wp2_with (go_at_call 32; refine (lower_asc _ b HB.out).mono ?_; rintro e w2 ⟨rfl, hB2⟩; refine Hid.out ?_)
      refine Lib.hid ?_
      have hT := (show TXT false true a b = (be (lowS a) (lowS b), bl (lowS a) (lowS b) || (be (lowS a) (lowS b) && bl a b)) from rfl)
      obtain ⟨x, hx⟩ : ∃ x, x = lowS a := ⟨_, rfl⟩
      obtain ⟨y, hy⟩ : ∃ y, y = lowS b := ⟨_, rfl⟩
      rw [← hx, ← hy] at hT
      rw [← hx, ← hy]
      have HT := aside hT
      have HB12 := aside (hB1.trans (hB2.mono hB1.size))
      clear hx hy hT hB1 hB2
      go_wp2_with fail
      all_goals
        go_ret2
        rw [HT.out]
        refine ⟨?_, HB12.out⟩
        first
          | (simp [be, bl, *]; done)
          | (exfalso; simp_all; done)
          | (simp_all [be, bl, bl_irrefl]; done)
    · go_wp2_with (go_at_call 32; refine (lower_asc _ a HA.out).mono ?_; rintro e w1 ⟨rfl, hB1⟩; refine Hid.out ?_)
      refine Lib.hid ?_
      go_wp2_with (go_at_call 32; refine (lower_asc _ b HB.out).mono ?_; rintro e w2 ⟨rfl, hB2⟩; refine Hid.out ?_)
      refine Lib.hid ?_
      have hT := (show TXT true true a b = (be (lowS a) (lowS b), bg (lowS a) (lowS b) || (be (lowS a) (lowS b) && bg a b)) from rfl)
      obtain ⟨x, hx⟩ : ∃ x, x = lowS a := ⟨_, rfl⟩
      obtain ⟨y, hy⟩ : ∃ y, y = lowS b := ⟨_, rfl⟩
      rw [← hx, ← hy] at hT
      rw [← hx, ← hy]
      have HT := aside hT
      have HB12 := aside (hB1.trans (hB2.mono hB1.size))
      clear hx hy hT hB1 hB2
      go_wp2_with fail
      all_goals
        go_ret2
        rw [HT.out]
        refine ⟨?_, HB12.out⟩
        first
          | (simp [be, bl, bg, *]; done)
          | (exfalso; simp_all; done)
          | (simp_all [be, bl, bg, bl_irrefl]; done)
end Go.Proofs.YteplcmhmjdiimaaGreatDoor
namespace Go.Proofs.YteplcmhmjdiimaaGreatDoor
open Go.RowKit

/-- A cell that may be compared: a whole decimal with its number, or a word with none. -/
inductive CellAt (s : ByteArray) : Option Int → Prop
  | num (neg : Bool) (ds : List Nat) (h : WholeAt s neg ds) : CellAt s (some (sg neg (Dec.dval ds)))
  | word (h : WordAt s) (ha : Asc s) : CellAt s none

theorem WholeAt.asc {s : ByteArray} {neg : Bool} {ds : List Nat} (h : WholeAt s neg ds) : Asc s := by
  have h1 := h.size
  have h2 := h.most
  refine ⟨by cases neg <;> simp at h1 <;> omega, fun i hi => ?_⟩
  have := h.byte i hi
  omega
theorem CellAt.asc {s : ByteArray} {o : Option Int} (h : CellAt s o) : Asc s := by
  cases h with
  | num neg ds h => exact h.asc
  | word _ ha => exact ha
theorem WholeAt.lt {s : ByteArray} {neg : Bool} {ds : List Nat} (h : WholeAt s neg ds) : Dec.dval ds < 10 ^ 15 := by
  have hd : ∀ d ∈ ds, d < 10 := by
    cases neg with
    | false => exact (h.pos rfl).dig
    | true => exact (h.neg rfl).2.2.dig
  exact Nat.lt_of_lt_of_le (Dec.dval_lt ds hd) (Nat.pow_le_pow_right (by omega) h.most)

/-- How two cells stand by a rule, given what number each is. -/
def BEF (mode : Nat) (fold : Bool) (a b : ByteArray) (oa ob : Option Int) : Bool × Bool :=
  if be a b then (true, false)
  else if mode = 0 ∨ mode = 4 then TXT (mode == 4) fold a b
  else if mode = 2 ∨ mode = 6 then (match oa, ob with | some u, some v => NUM (mode == 6) u v | _, _ => (false, false))
  else match oa, ob with
    | none, none => TXT (!(mode == 1) && !(mode == 3)) fold a b
    | none, some _ => (false, mode == 1 || mode == 5)
    | some _, none => (false, !(mode == 1 || mode == 5))
    | some u, some v => NUM (!(mode == 1) && !(mode == 3)) u v

set_option maxHeartbeats 4000000 in
set_option maxRecDepth 100000 in
theorem before_nn (w : World) (a b : ByteArray) (na nb : Bool) (da db : List Nat) (ha : WholeAt a na da) (hb : WholeAt b nb db) (hg : Globs w) (mode : Nat) (hm : mode ≤ 7) (fold : Bool) :
    Calls Tryz.prog 20 #[.string a, .string b, .int .i64 mode, .bool fold] w fun e w' =>
      e = .returned (.tuple #[.bool (BEF mode fold a b (some (sg na (Dec.dval da))) (some (sg nb (Dec.dval db)))).1, .bool (BEF mode fold a b (some (sg na (Dec.dval da))) (some (sg nb (Dec.dval db)))).2]) ∧ Below w.heap.size w w' := by
  have HA := aside ha
  have HB := aside hb
  have HG := aside hg
  clear ha hb hg
  have hmode : mode = 0 ∨ mode = 1 ∨ mode = 2 ∨ mode = 3 ∨ mode = 4 ∨ mode = 5 ∨ mode = 6 ∨ mode = 7 := by omega
  clear hm
  go_enter Tryz.func20, Tryz.ntmps20
  by_cases he : a.toList == b.toList
  · have hB : BEF mode fold a b (some (sg na (Dec.dval da))) (some (sg nb (Dec.dval db))) = (true, false) := by unfold BEF be; rw [if_pos he]
    have HBE := aside hB
    clear hB hmode
    go_wp2
    go_ret2
    rw [HBE.out]
    exact ⟨rfl, Below.refl _ _⟩
  · have he' : (a.toList == b.toList) = false := by simpa using he
    have HE := aside he'
    rcases hmode with rfl | rfl | rfl | rfl | rfl | rfl | rfl | rfl
    all_goals
      go_wp2_with (go_at_call 24; refine (number_whole _ a na da HA.out HG.out).mono ?_; rintro e w1 ⟨rfl, hB1⟩; refine Hid.out ?_)
      refine Lib.hid ?_
      have HG1 := aside (HG.out.below hB1 HG.out.size)
      go_wp2_with (go_at_call 24; refine (number_whole _ b nb db HB.out HG1.out).mono ?_; rintro e w2 ⟨rfl, hB2⟩; refine Hid.out ?_)
      refine Lib.hid ?_
      have HB12 := aside (hB1.trans (hB2.mono hB1.size))
      clear hB1 hB2
      go_wp2_with (first | (go_at_call 25; refine (beforeTexts_calls _ a b HA.out.asc HB.out.asc _ fold).mono ?_; rintro e w3 ⟨rfl, hB3⟩) | (go_at_call 26; refine (beforeNumbers_calls _ na nb _ _ HA.out.lt HB.out.lt _).mono ?_; rintro e w3 ⟨rfl, hw3⟩; rw [hw3]; clear hw3 w3))
      go_ret2
      refine ⟨?_, ?_⟩
      · unfold BEF be
        rw [HE.out]
        rfl
      · first
          | exact HB12.out
          | exact HB12.out.trans (hB3.mono HB12.out.size)
end Go.Proofs.YteplcmhmjdiimaaGreatDoor
namespace Go.Proofs.YteplcmhmjdiimaaGreatDoor
open Go.RowKit

set_option maxHeartbeats 4000000 in
set_option maxRecDepth 100000 in
theorem before_wn (w : World) (a b : ByteArray) (nb : Bool) (db : List Nat) (ha : WordAt a) (haa : Asc a) (hb : WholeAt b nb db) (hg : Globs w) (mode : Nat) (hm : mode ≤ 7) (fold : Bool) :
    Calls Tryz.prog 20 #[.string a, .string b, .int .i64 mode, .bool fold] w fun e w' =>
      e = .returned (.tuple #[.bool (BEF mode fold a b none (some (sg nb (Dec.dval db)))).1, .bool (BEF mode fold a b none (some (sg nb (Dec.dval db)))).2]) ∧ Below w.heap.size w w' := by
  have HA := aside ha
  have HAA := aside haa
  have HB := aside hb
  have HG := aside hg
  clear ha haa hb hg
  have hmode : mode = 0 ∨ mode = 1 ∨ mode = 2 ∨ mode = 3 ∨ mode = 4 ∨ mode = 5 ∨ mode = 6 ∨ mode = 7 := by omega
  clear hm
  go_enter Tryz.func20, Tryz.ntmps20
  by_cases he : a.toList == b.toList
  · have hB : BEF mode fold a b none (some (sg nb (Dec.dval db))) = (true, false) := by unfold BEF be; rw [if_pos he]
    have HBE := aside hB
    clear hB hmode
    go_wp2
    go_ret2
    rw [HBE.out]
    exact ⟨rfl, Below.refl _ _⟩
  · have he' : (a.toList == b.toList) = false := by simpa using he
    have HE := aside he'
    rcases hmode with rfl | rfl | rfl | rfl | rfl | rfl | rfl | rfl
    all_goals
      go_wp2_with (go_at_call 24; refine (number_word _ a HA.out HG.out).mono ?_; rintro e w1 ⟨⟨xa, rfl⟩, hB1⟩; refine Hid.out ?_)
      refine Lib.hid ?_
      have HG1 := aside (HG.out.below hB1 HG.out.size)
      go_wp2_with (go_at_call 24; refine (number_whole _ b nb db HB.out HG1.out).mono ?_; rintro e w2 ⟨rfl, hB2⟩; refine Hid.out ?_)
      refine Lib.hid ?_
      have HB12 := aside (hB1.trans (hB2.mono hB1.size))
      clear hB1 hB2
      go_wp2_with (first | (go_at_call 25; refine (beforeTexts_calls _ a b HAA.out HB.out.asc _ fold).mono ?_; rintro e w3 ⟨rfl, hB3⟩))
      go_ret2
      refine ⟨?_, ?_⟩
      · unfold BEF be
        rw [HE.out]
        rfl
      · first
          | exact HB12.out
          | exact HB12.out.trans (hB3.mono HB12.out.size)
set_option maxHeartbeats 4000000 in
set_option maxRecDepth 100000 in
theorem before_nw (w : World) (a b : ByteArray) (na : Bool) (da : List Nat) (ha : WholeAt a na da) (hb : WordAt b) (hbb : Asc b) (hg : Globs w) (mode : Nat) (hm : mode ≤ 7) (fold : Bool) :
    Calls Tryz.prog 20 #[.string a, .string b, .int .i64 mode, .bool fold] w fun e w' =>
      e = .returned (.tuple #[.bool (BEF mode fold a b (some (sg na (Dec.dval da))) none).1, .bool (BEF mode fold a b (some (sg na (Dec.dval da))) none).2]) ∧ Below w.heap.size w w' := by
  have HA := aside ha
  have HB := aside hb
  have HBB := aside hbb
  have HG := aside hg
  clear ha hb hbb hg
  have hmode : mode = 0 ∨ mode = 1 ∨ mode = 2 ∨ mode = 3 ∨ mode = 4 ∨ mode = 5 ∨ mode = 6 ∨ mode = 7 := by omega
  clear hm
  go_enter Tryz.func20, Tryz.ntmps20
  by_cases he : a.toList == b.toList
  · have hB : BEF mode fold a b (some (sg na (Dec.dval da))) none = (true, false) := by unfold BEF be; rw [if_pos he]
    have HBE := aside hB
    clear hB hmode
    go_wp2
    go_ret2
    rw [HBE.out]
    exact ⟨rfl, Below.refl _ _⟩
  · have he' : (a.toList == b.toList) = false := by simpa using he
    have HE := aside he'
    rcases hmode with rfl | rfl | rfl | rfl | rfl | rfl | rfl | rfl
    all_goals
      go_wp2_with (go_at_call 24; refine (number_whole _ a na da HA.out HG.out).mono ?_; rintro e w1 ⟨rfl, hB1⟩; refine Hid.out ?_)
      refine Lib.hid ?_
      have HG1 := aside (HG.out.below hB1 HG.out.size)
      go_wp2_with (go_at_call 24; refine (number_word _ b HB.out HG1.out).mono ?_; rintro e w2 ⟨⟨xb, rfl⟩, hB2⟩; refine Hid.out ?_)
      refine Lib.hid ?_
      have HB12 := aside (hB1.trans (hB2.mono hB1.size))
      clear hB1 hB2
      go_wp2_with (first | (go_at_call 25; refine (beforeTexts_calls _ a b HA.out.asc HBB.out _ fold).mono ?_; rintro e w3 ⟨rfl, hB3⟩))
      go_ret2
      refine ⟨?_, ?_⟩
      · unfold BEF be
        rw [HE.out]
        rfl
      · first
          | exact HB12.out
          | exact HB12.out.trans (hB3.mono HB12.out.size)
set_option maxHeartbeats 4000000 in
set_option maxRecDepth 100000 in
theorem before_ww (w : World) (a b : ByteArray)  (ha : WordAt a) (haa : Asc a) (hb : WordAt b) (hbb : Asc b) (hg : Globs w) (mode : Nat) (hm : mode ≤ 7) (fold : Bool) :
    Calls Tryz.prog 20 #[.string a, .string b, .int .i64 mode, .bool fold] w fun e w' =>
      e = .returned (.tuple #[.bool (BEF mode fold a b none none).1, .bool (BEF mode fold a b none none).2]) ∧ Below w.heap.size w w' := by
  have HA := aside ha
  have HAA := aside haa
  have HB := aside hb
  have HBB := aside hbb
  have HG := aside hg
  clear ha haa hb hbb hg
  have hmode : mode = 0 ∨ mode = 1 ∨ mode = 2 ∨ mode = 3 ∨ mode = 4 ∨ mode = 5 ∨ mode = 6 ∨ mode = 7 := by omega
  clear hm
  go_enter Tryz.func20, Tryz.ntmps20
  by_cases he : a.toList == b.toList
  · have hB : BEF mode fold a b none none = (true, false) := by unfold BEF be; rw [if_pos he]
    have HBE := aside hB
    clear hB hmode
    go_wp2
    go_ret2
    rw [HBE.out]
    exact ⟨rfl, Below.refl _ _⟩
  · have he' : (a.toList == b.toList) = false := by simpa using he
    have HE := aside he'
    rcases hmode with rfl | rfl | rfl | rfl | rfl | rfl | rfl | rfl
    all_goals
      go_wp2_with (go_at_call 24; refine (number_word _ a HA.out HG.out).mono ?_; rintro e w1 ⟨⟨xa, rfl⟩, hB1⟩; refine Hid.out ?_)
      refine Lib.hid ?_
      have HG1 := aside (HG.out.below hB1 HG.out.size)
      go_wp2_with (go_at_call 24; refine (number_word _ b HB.out HG1.out).mono ?_; rintro e w2 ⟨⟨xb, rfl⟩, hB2⟩; refine Hid.out ?_)
      refine Lib.hid ?_
      have HB12 := aside (hB1.trans (hB2.mono hB1.size))
      clear hB1 hB2
      go_wp2_with (first | (go_at_call 25; refine (beforeTexts_calls _ a b HAA.out HBB.out _ fold).mono ?_; rintro e w3 ⟨rfl, hB3⟩))
      go_ret2
      refine ⟨?_, ?_⟩
      · unfold BEF be
        rw [HE.out]
        rfl
      · first
          | exact HB12.out
          | exact HB12.out.trans (hB3.mono HB12.out.size)

theorem before_calls (w : World) (a b : ByteArray) (oa ob : Option Int) (ha : CellAt a oa) (hb : CellAt b ob) (hg : Globs w) (mode : Nat) (hm : mode ≤ 7) (fold : Bool) :
    Calls Tryz.prog 20 #[.string a, .string b, .int .i64 mode, .bool fold] w fun e w' =>
      e = .returned (.tuple #[.bool (BEF mode fold a b oa ob).1, .bool (BEF mode fold a b oa ob).2]) ∧ Below w.heap.size w w' := by
  cases ha with
  | num na da ha =>
    cases hb with
    | num nb db hb => exact before_nn w a b na nb da db ha hb hg mode hm fold
    | word hb hbb => exact before_nw w a b na da ha hb hbb hg mode hm fold
  | word ha haa =>
    cases hb with
    | num nb db hb => exact before_wn w a b nb db ha haa hb hg mode hm fold
    | word hb hbb => exact before_ww w a b ha haa hb hbb hg mode hm fold
end Go.Proofs.YteplcmhmjdiimaaGreatDoor
namespace Go.Proofs.YteplcmhmjdiimaaGreatDoor
open Go.RowKit

/-- A rule of sorting as the package has it. -/
def SB (nm : ByteArray) (num : Int) (mode : Nat) (fold : Bool) : Value := .agg #[.string nm, .int .i64 num, .int .i64 mode, .bool fold, .nilFunc]
def fallsN (mode : Nat) : Bool := !(mode == 1) && !(mode == 2) && !(mode == 3)
def fallsT (mode : Nat) : Bool := !(mode == 0) && !(mode == 1) && !(mode == 3)

set_option maxHeartbeats 2000000 in
set_option maxRecDepth 100000 in
theorem lessNumericVal_calls (w : World) (a b : Bool) (u v : Nat) (hu : u < 10 ^ 15) (hv : v < 10 ^ 15) (nm : ByteArray) (num : Int) (mode : Nat) (hm : mode ≤ 7) (fold : Bool) :
    Calls Tryz.prog 69 #[.float .f64 (fw a u), .float .f64 (fw b v), SB nm num mode fold] w fun e w' => e = .returned (.tuple #[.bool (NUM (fallsN mode) (sg a u) (sg b v)).1, .bool (NUM (fallsN mode) (sg a u) (sg b v)).2]) ∧ Below w.heap.size w w' := by
  have ho := order_fw a b u v hu hv
  obtain ⟨x, hx⟩ : ∃ x, x = fw a u := ⟨_, rfl⟩
  obtain ⟨y, hy⟩ : ∃ y, y = fw b v := ⟨_, rfl⟩
  obtain ⟨p, hp⟩ : ∃ p, p = sg a u := ⟨_, rfl⟩
  obtain ⟨q, hq⟩ : ∃ q, q = sg b v := ⟨_, rfl⟩
  rw [← hx, ← hy, ← hp, ← hq] at ho ⊢
  clear hx hy hp hq hu hv
  have hmode : mode = 0 ∨ mode = 1 ∨ mode = 2 ∨ mode = 3 ∨ mode = 4 ∨ mode = 5 ∨ mode = 6 ∨ mode = 7 := by omega
  clear hm
  unfold SB
  go_enter Tryz.func69, Tryz.ntmps69
  rcases Int.lt_trichotomy p q with h | h | h
  · rw [Int.compare_eq_lt.2 h] at ho
    have hn : ∀ f, NUM f p q = (false, if f then false else true) := by
      intro f
      unfold NUM
      rw [if_neg (by omega)]
      congr 1
      cases f <;> simp <;> omega
    have HN := aside hn
    clear h hn
    rcases hmode with rfl | rfl | rfl | rfl | rfl | rfl | rfl | rfl
    all_goals
      go_wp2
      go_ret2
      rw [HN.out]
      exact ⟨rfl, (Below.refl _ _).alloc (Nat.le_refl _) _⟩
  · rw [Int.compare_eq_eq.2 h] at ho
    have hn : ∀ f, NUM f p q = (true, false) := by intro f; unfold NUM; rw [if_pos h]
    have HN := aside hn
    clear h hn hmode
    go_wp2
    go_ret2
    rw [HN.out]
    exact ⟨rfl, (Below.refl _ _).alloc (Nat.le_refl _) _⟩
  · rw [Int.compare_eq_gt.2 h] at ho
    have hn : ∀ f, NUM f p q = (false, if f then true else false) := by
      intro f
      unfold NUM
      rw [if_neg (by omega)]
      congr 1
      cases f <;> simp <;> omega
    have HN := aside hn
    clear h hn
    rcases hmode with rfl | rfl | rfl | rfl | rfl | rfl | rfl | rfl
    all_goals
      go_wp2
      go_ret2
      rw [HN.out]
      exact ⟨rfl, (Below.refl _ _).alloc (Nat.le_refl _) _⟩

set_option maxHeartbeats 4000000 in
set_option maxRecDepth 100000 in
theorem lessAlphabetic_plain (w : World) (a b : ByteArray) (nm : ByteArray) (num : Int) (mode : Nat) (hm : mode ≤ 7) :
    Calls Tryz.prog 38 #[.string a, .string b, SB nm num mode false] w fun e w' => e = .returned (.tuple #[.bool (TXT (fallsT mode) false a b).1, .bool (TXT (fallsT mode) false a b).2]) ∧ Below w.heap.size w w' := by
  have hmode : mode = 0 ∨ mode = 1 ∨ mode = 2 ∨ mode = 3 ∨ mode = 4 ∨ mode = 5 ∨ mode = 6 ∨ mode = 7 := by omega
  clear hm
  unfold SB
  go_enter Tryz.func38, Tryz.ntmps38
  rcases hmode with rfl | rfl | rfl | rfl | rfl | rfl | rfl | rfl
  all_goals
    go_wp2
    go_ret2
    exact ⟨rfl, (Below.refl _ _).alloc (Nat.le_refl _) _⟩

set_option maxHeartbeats 8000000 in
set_option maxRecDepth 100000 in
theorem lessAlphabetic_fold (w : World) (a b : ByteArray) (ha : Asc a) (hb : Asc b) (nm : ByteArray) (num : Int) (mode : Nat) (hm : mode ≤ 7) :
    Calls Tryz.prog 38 #[.string a, .string b, SB nm num mode true] w fun e w' => e = .returned (.tuple #[.bool (TXT (fallsT mode) true a b).1, .bool (TXT (fallsT mode) true a b).2]) ∧ Below w.heap.size w w' := by
  have HA := aside ha
  have HB := aside hb
  clear ha hb
  have hmode : mode = 0 ∨ mode = 1 ∨ mode = 2 ∨ mode = 3 ∨ mode = 4 ∨ mode = 5 ∨ mode = 6 ∨ mode = 7 := by omega
  clear hm
  unfold SB
  go_enter Tryz.func38, Tryz.ntmps38
  go_wp2_with (go_at_call 32; refine (lower_asc _ a HA.out).mono ?_; rintro e w1 ⟨rfl, hB1⟩; refine Hid.out ?_)
  refine Lib.hid ?_
  go_wp2_with (go_at_call 32; refine (lower_asc _ b HB.out).mono ?_; rintro e w2 ⟨rfl, hB2⟩; refine Hid.out ?_)
  refine Lib.hid ?_
  have hT : ∀ f, TXT f true a b = (be (lowS a) (lowS b), if f then bg (lowS a) (lowS b) || (be (lowS a) (lowS b) && bg a b) else bl (lowS a) (lowS b) || (be (lowS a) (lowS b) && bl a b)) := fun f => rfl
  obtain ⟨x, hx⟩ : ∃ x, x = lowS a := ⟨_, rfl⟩
  obtain ⟨y, hy⟩ : ∃ y, y = lowS b := ⟨_, rfl⟩
  rw [← hx, ← hy] at hT
  rw [← hx, ← hy]
  have HT := aside hT
  clear hx hy hT
  obtain ⟨wa, hwa⟩ : ∃ wa, wa = w.alloc (Obj.cells #[.string nm, .int .i64 num, .int .i64 mode, .bool true, .nilFunc] 72) := ⟨_, rfl⟩
  rw [← hwa] at hB1
  have hBa : Below w.heap.size w wa := by rw [hwa]; exact (Below.refl _ _).alloc (Nat.le_refl _) _
  have hba : wa.heap[w.heap.size]? = some (.cells #[.string nm, .int .i64 num, .int .i64 mode, .bool true, .nilFunc] 72 (0, 0)) := by rw [hwa]; exact Array.getElem?_push_size
  have hFl : w.heap.size < wa.heap.size := (Array.getElem?_eq_some_iff.1 hba).1
  have hb2 : w2.heap[w.heap.size]? = some (.cells #[.string nm, .int .i64 num, .int .i64 mode, .bool true, .nilFunc] 72 (0, 0)) := by
    rw [hB2.block _ (Nat.lt_of_lt_of_le hFl hB1.size), hB1.block _ hFl]; exact hba
  have hB : Below w.heap.size w w2 := hBa.trans ((hB1.mono hBa.size).trans (hB2.mono (Nat.le_trans hBa.size hB1.size)))
  have c2 : w2.cell? ⟨w.heap.size, 2, none⟩ = some (.int .i64 mode) := by rw [cell_of_row w2 _ 2 _ _ _ hb2]; rfl
  have HBB := aside hB
  obtain ⟨F, hF⟩ : ∃ F, F = w.heap.size := ⟨_, rfl⟩
  rw [← hF] at c2 ⊢
  clear hB hb2 hba hBa hFl hwa hB1 hB2 hF
  rcases hmode with rfl | rfl | rfl | rfl | rfl | rfl | rfl | rfl
  all_goals
    go_wp2_with fail
    all_goals
      go_ret2
      rw [HT.out]
      refine ⟨?_, HBB.out⟩
      first
        | (simp [be, bl, bg, fallsT, *]; done)
        | (exfalso; simp_all; done)
        | (simp_all [be, bl, bg, fallsT, bl_irrefl]; done)
end Go.Proofs.YteplcmhmjdiimaaGreatDoor
namespace Go.Proofs.YteplcmhmjdiimaaGreatDoor
open Go.RowKit

/-- A rule's five cells. -/
structure SBAt (w : World) (F : Nat) (nm : ByteArray) (num : Int) (mode : Nat) (fold : Bool) : Prop where
  blk : w.heap[F]? = some (.cells #[.string nm, .int .i64 num, .int .i64 mode, .bool fold, .nilFunc] 72 (0, 0))
section
variable {w w' : World} {F : Nat} {nm : ByteArray} {num : Int} {mode : Nat} {fold : Bool}
theorem SBAt.c (h : SBAt w F nm num mode fold) : w.cell? ⟨F, 0, none⟩ = some (.string nm) ∧ w.cell? ⟨F, 1, none⟩ = some (.int .i64 num) ∧ w.cell? ⟨F, 2, none⟩ = some (.int .i64 mode) ∧ w.cell? ⟨F, 3, none⟩ = some (.bool fold) ∧ w.cell? ⟨F, 4, none⟩ = some .nilFunc :=
  ⟨by rw [cell_of_row w F 0 _ _ _ h.blk]; rfl, by rw [cell_of_row w F 1 _ _ _ h.blk]; rfl, by rw [cell_of_row w F 2 _ _ _ h.blk]; rfl, by rw [cell_of_row w F 3 _ _ _ h.blk]; rfl, by rw [cell_of_row w F 4 _ _ _ h.blk]; rfl⟩
theorem SBAt.lt (h : SBAt w F nm num mode fold) : F < w.heap.size := (Array.getElem?_eq_some_iff.1 h.blk).1
theorem SBAt.below (h : SBAt w F nm num mode fold) {N : Nat} (hb : Below N w w') (hN : F < N) : SBAt w' F nm num mode fold := ⟨by rw [hb.block F hN]; exact h.blk⟩
theorem SBAt.new (w : World) (nm : ByteArray) (num : Int) (mode : Nat) (fold : Bool) : SBAt (w.alloc (Obj.cells #[.string nm, .int .i64 num, .int .i64 mode, .bool fold, .nilFunc] 72)) w.heap.size nm num mode fold := ⟨Array.getElem?_push_size⟩
end

set_option maxHeartbeats 4000000 in
set_option maxRecDepth 100000 in
theorem lessNumeric_nn (w : World) (a b : ByteArray) (na : Bool) (da : List Nat) (ha : WholeAt a na da) (nb : Bool) (db : List Nat) (hb : WholeAt b nb db) (nm : ByteArray) (num : Int) (mode : Nat) (hm : mode ≤ 7) (hmm : mode = 2 ∨ mode = 6) (fold : Bool) :
    Calls Tryz.prog 39 #[.string a, .string b, SB nm num mode fold] w fun e w' => e = .returned (.tuple #[.bool (NUM (fallsN mode) (sg na (Dec.dval da)) (sg nb (Dec.dval db))).1, .bool (NUM (fallsN mode) (sg na (Dec.dval da)) (sg nb (Dec.dval db))).2]) ∧ Below w.heap.size w w' := by
  have HA := aside ha
  have HB := aside hb
  have hmode : mode = 2 ∨ mode = 6 := by omega
  have HM := aside hm
  clear hm hmm
  unfold SB
  go_enter Tryz.func39, Tryz.ntmps39
  go_wp2_with (go_at_call 68; refine (pf_whole _ a na da HA.out).mono ?_; rintro e w1 ⟨rfl, hB1⟩; refine Hid.out ?_)
  refine Lib.hid ?_
  go_wp2_with (go_at_call 68; refine (pf_whole _ b nb db HB.out).mono ?_; rintro e w2 ⟨rfl, hB2⟩; refine Hid.out ?_)
  refine Lib.hid ?_
  have hSa := SBAt.new w nm num mode fold
  obtain ⟨wa, hwa⟩ : ∃ wa, wa = w.alloc (Obj.cells #[.string nm, .int .i64 num, .int .i64 mode, .bool fold, .nilFunc] 72) := ⟨_, rfl⟩
  rw [← hwa] at hB1 hSa
  have hBa : Below w.heap.size w wa := by rw [hwa]; exact (Below.refl _ _).alloc (Nat.le_refl _) _
  have hFl := hSa.lt
  have hS2 := (hSa.below hB1 hFl).below hB2 (Nat.lt_of_lt_of_le hFl hB1.size)
  have hB : Below w.heap.size w w2 := hBa.trans ((hB1.mono hBa.size).trans (hB2.mono (Nat.le_trans hBa.size hB1.size)))
  have HBB := aside hB
  obtain ⟨F, hF⟩ : ∃ F, F = w.heap.size := ⟨_, rfl⟩
  rw [← hF] at hS2 ⊢
  obtain ⟨c0, c1, c2, c3, c4⟩ := hS2.c
  clear hB hBa hFl hwa hB1 hB2 hF hS2 hSa ha hb
  rcases hmode with rfl | rfl
  all_goals
    go_wp2_with (go_at_call 69; refine (lessNumericVal_calls _ na nb _ _ HA.out.lt HB.out.lt nm num _ HM.out fold).mono ?_; rintro e w3 ⟨rfl, hB3⟩; refine Hid.out ?_)
    refine Lib.hid ?_
    go_wp2_with fail
    go_ret2
    exact ⟨rfl, HBB.out.trans (hB3.mono HBB.out.size)⟩

set_option maxHeartbeats 4000000 in
set_option maxRecDepth 100000 in
theorem mixed_nn (w : World) (a b : ByteArray) (na : Bool) (da : List Nat) (ha : WholeAt a na da) (nb : Bool) (db : List Nat) (hb : WholeAt b nb db) (nm : ByteArray) (num : Int) (mode : Nat) (hm : mode ≤ 7) (hmm : mode = 1 ∨ mode = 3 ∨ mode = 5 ∨ mode = 7) (fold : Bool) :
    Calls Tryz.prog 40 #[.string a, .string b, SB nm num mode fold] w fun e w' => e = .returned (.tuple #[.bool (NUM (fallsN mode) (sg na (Dec.dval da)) (sg nb (Dec.dval db))).1, .bool (NUM (fallsN mode) (sg na (Dec.dval da)) (sg nb (Dec.dval db))).2]) ∧ Below w.heap.size w w' := by
  have HA := aside ha
  have HB := aside hb
  have hmode : mode = 1 ∨ mode = 3 ∨ mode = 5 ∨ mode = 7 := by omega
  have HM := aside hm
  clear hm hmm
  unfold SB
  go_enter Tryz.func40, Tryz.ntmps40
  go_wp2_with (go_at_call 68; refine (pf_whole _ a na da HA.out).mono ?_; rintro e w1 ⟨rfl, hB1⟩; refine Hid.out ?_)
  refine Lib.hid ?_
  go_wp2_with (go_at_call 68; refine (pf_whole _ b nb db HB.out).mono ?_; rintro e w2 ⟨rfl, hB2⟩; refine Hid.out ?_)
  refine Lib.hid ?_
  have hSa := SBAt.new w nm num mode fold
  obtain ⟨wa, hwa⟩ : ∃ wa, wa = w.alloc (Obj.cells #[.string nm, .int .i64 num, .int .i64 mode, .bool fold, .nilFunc] 72) := ⟨_, rfl⟩
  rw [← hwa] at hB1 hSa
  have hBa : Below w.heap.size w wa := by rw [hwa]; exact (Below.refl _ _).alloc (Nat.le_refl _) _
  have hFl := hSa.lt
  have hS2 := (hSa.below hB1 hFl).below hB2 (Nat.lt_of_lt_of_le hFl hB1.size)
  have hB : Below w.heap.size w w2 := hBa.trans ((hB1.mono hBa.size).trans (hB2.mono (Nat.le_trans hBa.size hB1.size)))
  have HBB := aside hB
  obtain ⟨F, hF⟩ : ∃ F, F = w.heap.size := ⟨_, rfl⟩
  rw [← hF] at hS2 ⊢
  obtain ⟨c0, c1, c2, c3, c4⟩ := hS2.c
  clear hB hBa hFl hwa hB1 hB2 hF hS2 hSa ha hb
  rcases hmode with rfl | rfl | rfl | rfl
  all_goals
    go_wp2_with (go_at_call 69; refine (lessNumericVal_calls _ na nb _ _ HA.out.lt HB.out.lt nm num _ HM.out fold).mono ?_; rintro e w3 ⟨rfl, hB3⟩; refine Hid.out ?_)
    refine Lib.hid ?_
    go_wp2_with fail
    go_ret2
    exact ⟨rfl, HBB.out.trans (hB3.mono HBB.out.size)⟩

set_option maxHeartbeats 4000000 in
set_option maxRecDepth 100000 in
theorem mixed_wn (w : World) (a b : ByteArray) (ha : WordAt a) (nb : Bool) (db : List Nat) (hb : WholeAt b nb db) (nm : ByteArray) (num : Int) (mode : Nat) (hm : mode ≤ 7) (hmm : mode = 1 ∨ mode = 3 ∨ mode = 5 ∨ mode = 7) (fold : Bool) :
    Calls Tryz.prog 40 #[.string a, .string b, SB nm num mode fold] w fun e w' => e = .returned (.tuple #[.bool (((false, mode == 1 || mode == 5) : Bool × Bool)).1, .bool (((false, mode == 1 || mode == 5) : Bool × Bool)).2]) ∧ Below w.heap.size w w' := by
  have HA := aside ha
  have HB := aside hb
  have hmode : mode = 1 ∨ mode = 3 ∨ mode = 5 ∨ mode = 7 := by omega
  have HM := aside hm
  clear hm hmm
  unfold SB
  go_enter Tryz.func40, Tryz.ntmps40
  go_wp2_with (go_at_call 68; refine (pf_word _ a (by have := HA.out.size; omega) HA.out.let_ HA.out.nan HA.out.inf HA.out.infinity).mono ?_; rintro e w1 ⟨⟨ta, va, rfl⟩, hB1⟩; refine Hid.out ?_)
  refine Lib.hid ?_
  go_wp2_with (go_at_call 68; refine (pf_whole _ b nb db HB.out).mono ?_; rintro e w2 ⟨rfl, hB2⟩; refine Hid.out ?_)
  refine Lib.hid ?_
  have hSa := SBAt.new w nm num mode fold
  obtain ⟨wa, hwa⟩ : ∃ wa, wa = w.alloc (Obj.cells #[.string nm, .int .i64 num, .int .i64 mode, .bool fold, .nilFunc] 72) := ⟨_, rfl⟩
  rw [← hwa] at hB1 hSa
  have hBa : Below w.heap.size w wa := by rw [hwa]; exact (Below.refl _ _).alloc (Nat.le_refl _) _
  have hFl := hSa.lt
  have hS2 := (hSa.below hB1 hFl).below hB2 (Nat.lt_of_lt_of_le hFl hB1.size)
  have hB : Below w.heap.size w w2 := hBa.trans ((hB1.mono hBa.size).trans (hB2.mono (Nat.le_trans hBa.size hB1.size)))
  have HBB := aside hB
  obtain ⟨F, hF⟩ : ∃ F, F = w.heap.size := ⟨_, rfl⟩
  rw [← hF] at hS2 ⊢
  obtain ⟨c0, c1, c2, c3, c4⟩ := hS2.c
  clear hB hBa hFl hwa hB1 hB2 hF hS2 hSa ha hb
  rcases hmode with rfl | rfl | rfl | rfl
  all_goals
    go_wp2_with fail
    go_ret2
    exact ⟨rfl, HBB.out⟩

set_option maxHeartbeats 4000000 in
set_option maxRecDepth 100000 in
theorem mixed_nw (w : World) (a b : ByteArray) (na : Bool) (da : List Nat) (ha : WholeAt a na da) (hb : WordAt b) (nm : ByteArray) (num : Int) (mode : Nat) (hm : mode ≤ 7) (hmm : mode = 1 ∨ mode = 3 ∨ mode = 5 ∨ mode = 7) (fold : Bool) :
    Calls Tryz.prog 40 #[.string a, .string b, SB nm num mode fold] w fun e w' => e = .returned (.tuple #[.bool (((false, !(mode == 1 || mode == 5)) : Bool × Bool)).1, .bool (((false, !(mode == 1 || mode == 5)) : Bool × Bool)).2]) ∧ Below w.heap.size w w' := by
  have HA := aside ha
  have HB := aside hb
  have hmode : mode = 1 ∨ mode = 3 ∨ mode = 5 ∨ mode = 7 := by omega
  have HM := aside hm
  clear hm hmm
  unfold SB
  go_enter Tryz.func40, Tryz.ntmps40
  go_wp2_with (go_at_call 68; refine (pf_whole _ a na da HA.out).mono ?_; rintro e w1 ⟨rfl, hB1⟩; refine Hid.out ?_)
  refine Lib.hid ?_
  go_wp2_with (go_at_call 68; refine (pf_word _ b (by have := HB.out.size; omega) HB.out.let_ HB.out.nan HB.out.inf HB.out.infinity).mono ?_; rintro e w2 ⟨⟨tb, vb, rfl⟩, hB2⟩; refine Hid.out ?_)
  refine Lib.hid ?_
  have hSa := SBAt.new w nm num mode fold
  obtain ⟨wa, hwa⟩ : ∃ wa, wa = w.alloc (Obj.cells #[.string nm, .int .i64 num, .int .i64 mode, .bool fold, .nilFunc] 72) := ⟨_, rfl⟩
  rw [← hwa] at hB1 hSa
  have hBa : Below w.heap.size w wa := by rw [hwa]; exact (Below.refl _ _).alloc (Nat.le_refl _) _
  have hFl := hSa.lt
  have hS2 := (hSa.below hB1 hFl).below hB2 (Nat.lt_of_lt_of_le hFl hB1.size)
  have hB : Below w.heap.size w w2 := hBa.trans ((hB1.mono hBa.size).trans (hB2.mono (Nat.le_trans hBa.size hB1.size)))
  have HBB := aside hB
  obtain ⟨F, hF⟩ : ∃ F, F = w.heap.size := ⟨_, rfl⟩
  rw [← hF] at hS2 ⊢
  obtain ⟨c0, c1, c2, c3, c4⟩ := hS2.c
  clear hB hBa hFl hwa hB1 hB2 hF hS2 hSa ha hb
  rcases hmode with rfl | rfl | rfl | rfl
  all_goals
    go_wp2_with fail
    go_ret2
    exact ⟨rfl, HBB.out⟩

set_option maxHeartbeats 4000000 in
set_option maxRecDepth 100000 in
theorem mixed_ww (w : World) (a b : ByteArray) (ha : WordAt a) (hb : WordAt b) (haa : Asc a) (hbb : Asc b) (nm : ByteArray) (num : Int) (mode : Nat) (hm : mode ≤ 7) (hmm : mode = 1 ∨ mode = 3 ∨ mode = 5 ∨ mode = 7) (fold : Bool) :
    Calls Tryz.prog 40 #[.string a, .string b, SB nm num mode fold] w fun e w' => e = .returned (.tuple #[.bool (TXT (fallsT mode) fold a b).1, .bool (TXT (fallsT mode) fold a b).2]) ∧ Below w.heap.size w w' := by
  have HA := aside ha
  have HB := aside hb
  have hmode : mode = 1 ∨ mode = 3 ∨ mode = 5 ∨ mode = 7 := by omega
  have HM := aside hm
  clear hm hmm
  unfold SB
  go_enter Tryz.func40, Tryz.ntmps40
  go_wp2_with (go_at_call 68; refine (pf_word _ a (by have := HA.out.size; omega) HA.out.let_ HA.out.nan HA.out.inf HA.out.infinity).mono ?_; rintro e w1 ⟨⟨ta, va, rfl⟩, hB1⟩; refine Hid.out ?_)
  refine Lib.hid ?_
  go_wp2_with (go_at_call 68; refine (pf_word _ b (by have := HB.out.size; omega) HB.out.let_ HB.out.nan HB.out.inf HB.out.infinity).mono ?_; rintro e w2 ⟨⟨tb, vb, rfl⟩, hB2⟩; refine Hid.out ?_)
  refine Lib.hid ?_
  have hSa := SBAt.new w nm num mode fold
  obtain ⟨wa, hwa⟩ : ∃ wa, wa = w.alloc (Obj.cells #[.string nm, .int .i64 num, .int .i64 mode, .bool fold, .nilFunc] 72) := ⟨_, rfl⟩
  rw [← hwa] at hB1 hSa
  have hBa : Below w.heap.size w wa := by rw [hwa]; exact (Below.refl _ _).alloc (Nat.le_refl _) _
  have hFl := hSa.lt
  have hS2 := (hSa.below hB1 hFl).below hB2 (Nat.lt_of_lt_of_le hFl hB1.size)
  have hB : Below w.heap.size w w2 := hBa.trans ((hB1.mono hBa.size).trans (hB2.mono (Nat.le_trans hBa.size hB1.size)))
  have HBB := aside hB
  obtain ⟨F, hF⟩ : ∃ F, F = w.heap.size := ⟨_, rfl⟩
  rw [← hF] at hS2 ⊢
  obtain ⟨c0, c1, c2, c3, c4⟩ := hS2.c
  clear hB hBa hFl hwa hB1 hB2 hF hS2 hSa ha hb
  rcases hmode with rfl | rfl | rfl | rfl
  all_goals
    cases fold
    · go_wp2_with (go_at_call 38; refine (lessAlphabetic_plain _ a b nm num _ HM.out).mono ?_; rintro e w3 ⟨rfl, hB3⟩; refine Hid.out ?_)
      refine Lib.hid ?_
      go_wp2_with fail
      go_ret2
      exact ⟨rfl, HBB.out.trans (hB3.mono HBB.out.size)⟩
    · go_wp2_with (go_at_call 38; refine (lessAlphabetic_fold _ a b haa hbb nm num _ HM.out).mono ?_; rintro e w3 ⟨rfl, hB3⟩; refine Hid.out ?_)
      refine Lib.hid ?_
      go_wp2_with fail
      go_ret2
      exact ⟨rfl, HBB.out.trans (hB3.mono HBB.out.size)⟩

end Go.Proofs.YteplcmhmjdiimaaGreatDoor
namespace Go.Proofs.YteplcmhmjdiimaaGreatDoor
open Go.RowKit

theorem neq_nilFunc (w : World) : (binOp .neq 70 Value.nilFunc Value.nilFunc).run Tryz.prog w = .ok (.bool false) w := by kernel_rfl

set_option maxHeartbeats 2000000 in
set_option maxRecDepth 100000 in
/-- Equal texts are equal by every rule, whatever they are. -/
theorem less_same (w : World) (a b : ByteArray) (h : be a b = true) (nm : ByteArray) (num : Int) (mode : Nat) (fold : Bool) :
    Calls Tryz.prog 30 #[.string a, .string b, SB nm num mode fold] w fun e w' => e = .returned (.tuple #[.bool true, .bool false]) ∧ Below w.heap.size w w' := by
  unfold be at h
  unfold SB
  have hnf := neq_nilFunc
  go_enter Tryz.func30, Tryz.ntmps30
  go_wp2
  go_ret2
  exact ⟨rfl, (Below.refl _ _).alloc (Nat.le_refl _) _⟩

set_option maxHeartbeats 4000000 in
set_option maxRecDepth 100000 in
theorem less_plain (w : World) (a b : ByteArray) (hne : be a b = false) (nm : ByteArray) (num : Int) (mode : Nat) (hm : mode ≤ 7) (hmm : mode = 0 ∨ mode = 4) :
    Calls Tryz.prog 30 #[.string a, .string b, SB nm num mode false] w fun e w' => e = .returned (.tuple #[.bool (TXT (fallsT mode) false a b).1, .bool (TXT (fallsT mode) false a b).2]) ∧ Below w.heap.size w w' := by
  unfold be at hne
  have hmode : mode = 0 ∨ mode = 4 := hmm
  have HM := aside hm
  have hSa := SBAt.new w nm num mode false
  have hBa : Below w.heap.size w (w.alloc (Obj.cells #[.string nm, .int .i64 num, .int .i64 mode, .bool false, .nilFunc] 72)) := (Below.refl _ _).alloc (Nat.le_refl _) _
  have HBB := aside hBa
  obtain ⟨c0, c1, c2, c3, c4⟩ := hSa.c
  clear hm hmm hBa hSa
  unfold SB
  have hnf := neq_nilFunc
  go_enter Tryz.func30, Tryz.ntmps30
  rcases hmode with rfl | rfl
  all_goals
    go_wp2_with (go_at_call 38; refine (lessAlphabetic_plain _ a b nm num _ HM.out).mono ?_; rintro e w3 ⟨rfl, hB3⟩; refine Hid.out ?_)
    refine Lib.hid ?_
    go_wp2_with fail
    go_ret2
    exact ⟨rfl, HBB.out.trans (hB3.mono HBB.out.size)⟩

set_option maxHeartbeats 4000000 in
set_option maxRecDepth 100000 in
theorem less_fold (w : World) (a b : ByteArray) (hne : be a b = false) (ha : Asc a) (hb : Asc b) (nm : ByteArray) (num : Int) (mode : Nat) (hm : mode ≤ 7) (hmm : mode = 0 ∨ mode = 4) :
    Calls Tryz.prog 30 #[.string a, .string b, SB nm num mode true] w fun e w' => e = .returned (.tuple #[.bool (TXT (fallsT mode) true a b).1, .bool (TXT (fallsT mode) true a b).2]) ∧ Below w.heap.size w w' := by
  unfold be at hne
  have hmode : mode = 0 ∨ mode = 4 := hmm
  have HM := aside hm
  have HA := aside ha
  have HB := aside hb
  have hSa := SBAt.new w nm num mode true
  have hBa : Below w.heap.size w (w.alloc (Obj.cells #[.string nm, .int .i64 num, .int .i64 mode, .bool true, .nilFunc] 72)) := (Below.refl _ _).alloc (Nat.le_refl _) _
  have HBB := aside hBa
  obtain ⟨c0, c1, c2, c3, c4⟩ := hSa.c
  clear hm hmm hBa hSa ha hb
  unfold SB
  have hnf := neq_nilFunc
  go_enter Tryz.func30, Tryz.ntmps30
  rcases hmode with rfl | rfl
  all_goals
    go_wp2_with (go_at_call 38; refine (lessAlphabetic_fold _ a b HA.out HB.out nm num _ HM.out).mono ?_; rintro e w3 ⟨rfl, hB3⟩; refine Hid.out ?_)
    refine Lib.hid ?_
    go_wp2_with fail
    go_ret2
    exact ⟨rfl, HBB.out.trans (hB3.mono HBB.out.size)⟩

set_option maxHeartbeats 4000000 in
set_option maxRecDepth 100000 in
theorem less_num (w : World) (a b : ByteArray) (hne : be a b = false) (na : Bool) (da : List Nat) (ha : WholeAt a na da) (nb : Bool) (db : List Nat) (hb : WholeAt b nb db) (nm : ByteArray) (num : Int) (mode : Nat) (hm : mode ≤ 7) (hmm : mode = 2 ∨ mode = 6) (fold : Bool) :
    Calls Tryz.prog 30 #[.string a, .string b, SB nm num mode fold] w fun e w' => e = .returned (.tuple #[.bool (NUM (fallsN mode) (sg na (Dec.dval da)) (sg nb (Dec.dval db))).1, .bool (NUM (fallsN mode) (sg na (Dec.dval da)) (sg nb (Dec.dval db))).2]) ∧ Below w.heap.size w w' := by
  unfold be at hne
  have hmode : mode = 2 ∨ mode = 6 := hmm
  have HM := aside hm
  have HA := aside ha
  have HB := aside hb
  have hSa := SBAt.new w nm num mode fold
  have hBa : Below w.heap.size w (w.alloc (Obj.cells #[.string nm, .int .i64 num, .int .i64 mode, .bool fold, .nilFunc] 72)) := (Below.refl _ _).alloc (Nat.le_refl _) _
  have HBB := aside hBa
  obtain ⟨c0, c1, c2, c3, c4⟩ := hSa.c
  clear hm hmm hBa hSa ha hb
  unfold SB
  have hnf := neq_nilFunc
  go_enter Tryz.func30, Tryz.ntmps30
  rcases hmode with rfl | rfl
  all_goals
    go_wp2_with (go_at_call 39; refine (lessNumeric_nn _ a b na da HA.out nb db HB.out nm num _ HM.out (by omega) fold).mono ?_; rintro e w3 ⟨rfl, hB3⟩; refine Hid.out ?_)
    refine Lib.hid ?_
    go_wp2_with fail
    go_ret2
    exact ⟨rfl, HBB.out.trans (hB3.mono HBB.out.size)⟩

set_option maxHeartbeats 4000000 in
set_option maxRecDepth 100000 in
theorem less_nn (w : World) (a b : ByteArray) (hne : be a b = false) (na : Bool) (da : List Nat) (ha : WholeAt a na da) (nb : Bool) (db : List Nat) (hb : WholeAt b nb db) (nm : ByteArray) (num : Int) (mode : Nat) (hm : mode ≤ 7) (hmm : mode = 1 ∨ mode = 3 ∨ mode = 5 ∨ mode = 7) (fold : Bool) :
    Calls Tryz.prog 30 #[.string a, .string b, SB nm num mode fold] w fun e w' => e = .returned (.tuple #[.bool (NUM (fallsN mode) (sg na (Dec.dval da)) (sg nb (Dec.dval db))).1, .bool (NUM (fallsN mode) (sg na (Dec.dval da)) (sg nb (Dec.dval db))).2]) ∧ Below w.heap.size w w' := by
  unfold be at hne
  have hmode : mode = 1 ∨ mode = 3 ∨ mode = 5 ∨ mode = 7 := hmm
  have HM := aside hm
  have HA := aside ha
  have HB := aside hb
  have hSa := SBAt.new w nm num mode fold
  have hBa : Below w.heap.size w (w.alloc (Obj.cells #[.string nm, .int .i64 num, .int .i64 mode, .bool fold, .nilFunc] 72)) := (Below.refl _ _).alloc (Nat.le_refl _) _
  have HBB := aside hBa
  obtain ⟨c0, c1, c2, c3, c4⟩ := hSa.c
  clear hm hmm hBa hSa ha hb
  unfold SB
  have hnf := neq_nilFunc
  go_enter Tryz.func30, Tryz.ntmps30
  rcases hmode with rfl | rfl | rfl | rfl
  all_goals
    go_wp2_with (go_at_call 40; refine (mixed_nn _ a b na da HA.out nb db HB.out nm num _ HM.out (by omega) fold).mono ?_; rintro e w3 ⟨rfl, hB3⟩; refine Hid.out ?_)
    refine Lib.hid ?_
    go_wp2_with fail
    go_ret2
    exact ⟨rfl, HBB.out.trans (hB3.mono HBB.out.size)⟩

set_option maxHeartbeats 4000000 in
set_option maxRecDepth 100000 in
theorem less_wn (w : World) (a b : ByteArray) (hne : be a b = false) (ha : WordAt a) (nb : Bool) (db : List Nat) (hb : WholeAt b nb db) (nm : ByteArray) (num : Int) (mode : Nat) (hm : mode ≤ 7) (hmm : mode = 1 ∨ mode = 3 ∨ mode = 5 ∨ mode = 7) (fold : Bool) :
    Calls Tryz.prog 30 #[.string a, .string b, SB nm num mode fold] w fun e w' => e = .returned (.tuple #[.bool (((false, mode == 1 || mode == 5) : Bool × Bool)).1, .bool (((false, mode == 1 || mode == 5) : Bool × Bool)).2]) ∧ Below w.heap.size w w' := by
  unfold be at hne
  have hmode : mode = 1 ∨ mode = 3 ∨ mode = 5 ∨ mode = 7 := hmm
  have HM := aside hm
  have HA := aside ha
  have HB := aside hb
  have hSa := SBAt.new w nm num mode fold
  have hBa : Below w.heap.size w (w.alloc (Obj.cells #[.string nm, .int .i64 num, .int .i64 mode, .bool fold, .nilFunc] 72)) := (Below.refl _ _).alloc (Nat.le_refl _) _
  have HBB := aside hBa
  obtain ⟨c0, c1, c2, c3, c4⟩ := hSa.c
  clear hm hmm hBa hSa ha hb
  unfold SB
  have hnf := neq_nilFunc
  go_enter Tryz.func30, Tryz.ntmps30
  rcases hmode with rfl | rfl | rfl | rfl
  all_goals
    go_wp2_with (go_at_call 40; refine (mixed_wn _ a b HA.out nb db HB.out nm num _ HM.out (by omega) fold).mono ?_; rintro e w3 ⟨rfl, hB3⟩; refine Hid.out ?_)
    refine Lib.hid ?_
    go_wp2_with fail
    go_ret2
    exact ⟨rfl, HBB.out.trans (hB3.mono HBB.out.size)⟩

set_option maxHeartbeats 4000000 in
set_option maxRecDepth 100000 in
theorem less_nw (w : World) (a b : ByteArray) (hne : be a b = false) (na : Bool) (da : List Nat) (ha : WholeAt a na da) (hb : WordAt b) (nm : ByteArray) (num : Int) (mode : Nat) (hm : mode ≤ 7) (hmm : mode = 1 ∨ mode = 3 ∨ mode = 5 ∨ mode = 7) (fold : Bool) :
    Calls Tryz.prog 30 #[.string a, .string b, SB nm num mode fold] w fun e w' => e = .returned (.tuple #[.bool (((false, !(mode == 1 || mode == 5)) : Bool × Bool)).1, .bool (((false, !(mode == 1 || mode == 5)) : Bool × Bool)).2]) ∧ Below w.heap.size w w' := by
  unfold be at hne
  have hmode : mode = 1 ∨ mode = 3 ∨ mode = 5 ∨ mode = 7 := hmm
  have HM := aside hm
  have HA := aside ha
  have HB := aside hb
  have hSa := SBAt.new w nm num mode fold
  have hBa : Below w.heap.size w (w.alloc (Obj.cells #[.string nm, .int .i64 num, .int .i64 mode, .bool fold, .nilFunc] 72)) := (Below.refl _ _).alloc (Nat.le_refl _) _
  have HBB := aside hBa
  obtain ⟨c0, c1, c2, c3, c4⟩ := hSa.c
  clear hm hmm hBa hSa ha hb
  unfold SB
  have hnf := neq_nilFunc
  go_enter Tryz.func30, Tryz.ntmps30
  rcases hmode with rfl | rfl | rfl | rfl
  all_goals
    go_wp2_with (go_at_call 40; refine (mixed_nw _ a b na da HA.out HB.out nm num _ HM.out (by omega) fold).mono ?_; rintro e w3 ⟨rfl, hB3⟩; refine Hid.out ?_)
    refine Lib.hid ?_
    go_wp2_with fail
    go_ret2
    exact ⟨rfl, HBB.out.trans (hB3.mono HBB.out.size)⟩

set_option maxHeartbeats 4000000 in
set_option maxRecDepth 100000 in
theorem less_ww (w : World) (a b : ByteArray) (hne : be a b = false) (ha : WordAt a) (hb : WordAt b) (haa : Asc a) (hbb : Asc b) (nm : ByteArray) (num : Int) (mode : Nat) (hm : mode ≤ 7) (hmm : mode = 1 ∨ mode = 3 ∨ mode = 5 ∨ mode = 7) (fold : Bool) :
    Calls Tryz.prog 30 #[.string a, .string b, SB nm num mode fold] w fun e w' => e = .returned (.tuple #[.bool (TXT (fallsT mode) fold a b).1, .bool (TXT (fallsT mode) fold a b).2]) ∧ Below w.heap.size w w' := by
  unfold be at hne
  have hmode : mode = 1 ∨ mode = 3 ∨ mode = 5 ∨ mode = 7 := hmm
  have HM := aside hm
  have HA := aside ha
  have HB := aside hb
  have HAA := aside haa
  have HBBB := aside hbb
  have hSa := SBAt.new w nm num mode fold
  have hBa : Below w.heap.size w (w.alloc (Obj.cells #[.string nm, .int .i64 num, .int .i64 mode, .bool fold, .nilFunc] 72)) := (Below.refl _ _).alloc (Nat.le_refl _) _
  have HBB := aside hBa
  obtain ⟨c0, c1, c2, c3, c4⟩ := hSa.c
  clear hm hmm hBa hSa ha hb haa hbb
  unfold SB
  have hnf := neq_nilFunc
  go_enter Tryz.func30, Tryz.ntmps30
  rcases hmode with rfl | rfl | rfl | rfl
  all_goals
    go_wp2_with (go_at_call 40; refine (mixed_ww _ a b HA.out HB.out HAA.out HBBB.out nm num _ HM.out (by omega) fold).mono ?_; rintro e w3 ⟨rfl, hB3⟩; refine Hid.out ?_)
    refine Lib.hid ?_
    go_wp2_with fail
    go_ret2
    exact ⟨rfl, HBB.out.trans (hB3.mono HBB.out.size)⟩

/-- less answers as BEF says. -/
theorem less_calls (w : World) (a b : ByteArray) (oa ob : Option Int) (ha : CellAt a oa) (hb : CellAt b ob) (nm : ByteArray) (num : Int) (mode : Nat) (hm : mode ≤ 7) (hn : mode = 2 ∨ mode = 6 → oa ≠ none ∧ ob ≠ none) (fold : Bool) :
    Calls Tryz.prog 30 #[.string a, .string b, SB nm num mode fold] w fun e w' => e = .returned (.tuple #[.bool (BEF mode fold a b oa ob).1, .bool (BEF mode fold a b oa ob).2]) ∧ Below w.heap.size w w' := by
  cases he : be a b with
  | true =>
    have : BEF mode fold a b oa ob = (true, false) := by unfold BEF; rw [if_pos he]
    rw [this]
    exact less_same w a b he nm num mode fold
  | false =>
    unfold BEF
    rw [if_neg (show ¬ be a b = true by simp [he])]
    by_cases h04 : mode = 0 ∨ mode = 4
    · rw [if_pos h04]
      have hf : (mode == 4) = fallsT mode := by rcases h04 with rfl | rfl <;> rfl
      rw [hf]
      cases fold
      · exact less_plain w a b he nm num mode hm h04
      · exact less_fold w a b he ha.asc hb.asc nm num mode hm h04
    · rw [if_neg h04]
      by_cases h26 : mode = 2 ∨ mode = 6
      · rw [if_pos h26]
        have hf : (mode == 6) = fallsN mode := by rcases h26 with rfl | rfl <;> rfl
        rw [hf]
        obtain ⟨h1, h2⟩ := hn h26
        cases ha with
        | word _ _ => exact absurd rfl h1
        | num na da ha =>
          cases hb with
          | word _ _ => exact absurd rfl h2
          | num nb db hb => exact less_num w a b he na da ha nb db hb nm num mode hm h26 fold
      · rw [if_neg h26]
        have h1357 : mode = 1 ∨ mode = 3 ∨ mode = 5 ∨ mode = 7 := by omega
        have hf1 : (!(mode == 1) && !(mode == 3)) = fallsN mode := by rcases h1357 with rfl | rfl | rfl | rfl <;> rfl
        have hf2 : (!(mode == 1) && !(mode == 3)) = fallsT mode := by rcases h1357 with rfl | rfl | rfl | rfl <;> rfl
        cases ha with
        | num na da ha =>
          cases hb with
          | num nb db hb => dsimp only; rw [hf1]; exact less_nn w a b he na da ha nb db hb nm num mode hm h1357 fold
          | word hb _ => exact less_nw w a b he na da ha hb nm num mode hm h1357 fold
        | word ha haa =>
          cases hb with
          | num nb db hb => exact less_wn w a b he ha nb db hb nm num mode hm h1357 fold
          | word hb hbb => dsimp only; rw [hf2]; exact less_ww w a b he ha hb haa hbb nm num mode hm h1357 fold
end Go.Proofs.YteplcmhmjdiimaaGreatDoor
