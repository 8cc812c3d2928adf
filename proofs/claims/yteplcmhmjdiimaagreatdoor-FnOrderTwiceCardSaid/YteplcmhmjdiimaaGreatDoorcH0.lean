/-
  Plain Lean: strict weak orders made of one another.
  Plain Lean: a rule's comparison as orders; rules one behind the other.
  Plain Lean: BEF over cells that a rule may compare is a good comparison.
  Plain Lean: BEF over a family of cells is a good comparison.
-/
import Derived.Test.YteplcmhmjdiimaaGreatDoorcG0
import Derived.Sort.Statements
namespace Go.Proofs.YteplcmhmjdiimaaGreatDoor
open Go.Sort

variable {α β : Type}
theorem swo_comap {lt : β → β → Bool} (h : SWO lt) (f : α → β) : SWO (fun a b => lt (f a) (f b)) :=
  ⟨fun _ => h.irrefl _, fun _ _ _ => h.trans _ _ _, fun _ _ _ => h.ntrans _ _ _⟩
theorem swo_flip {lt : α → α → Bool} (h : SWO lt) : SWO (fun a b => lt b a) :=
  ⟨h.irrefl, fun _ _ _ h1 h2 => h.trans _ _ _ h2 h1, fun _ _ _ h1 h2 => h.ntrans _ _ _ h2 h1⟩
theorem swo_false : SWO (fun _ _ : α => false) := ⟨fun _ => rfl, fun _ _ _ h _ => (by cases h), fun _ _ _ _ _ => rfl⟩
theorem swo_int : SWO (fun a b : Int => decide (a < b)) :=
  ⟨fun x => by simp, fun x y z h1 h2 => by simp at *; omega, fun x y z h1 h2 => by simp at *; omega⟩
theorem swo_asymm {lt : α → α → Bool} (h : SWO lt) {a b : α} (h1 : lt a b = true) : lt b a = false := by
  cases h2 : lt b a with
  | false => rfl
  | true => have := h.trans _ _ _ h1 h2; rw [h.irrefl] at this; cases this
/-- By one order first, by another where that one does not tell. -/
theorem swo_lex {K L : α → α → Bool} (hK : SWO K) (hL : SWO L) : SWO (fun a b => if (!K a b && !K b a) = true then L a b else K a b) := by
  have inc : ∀ a b, ((!K a b && !K b a) = true) ↔ (K a b = false ∧ K b a = false) := fun a b => by simp
  refine ⟨fun x => ?_, fun x y z h1 h2 => ?_, fun x y z h1 h2 => ?_⟩
  · simp [hK.irrefl, hL.irrefl]
  · simp only [inc] at *
    by_cases a1 : K x y = false ∧ K y x = false
    · rw [if_pos a1] at h1
      by_cases a2 : K y z = false ∧ K z y = false
      · rw [if_pos a2] at h2
        rw [if_pos ⟨hK.ntrans _ _ _ a1.1 a2.1, hK.ntrans _ _ _ a2.2 a1.2⟩]
        exact hL.trans _ _ _ h1 h2
      · rw [if_neg a2] at h2
        have hzx : K x z = true := by
          cases h : K x z with
          | true => rfl
          | false => have := hK.ntrans _ _ _ a1.2 h; rw [h2] at this; cases this
        rw [if_neg (by rw [hzx]; simp)]
        exact hzx
    · rw [if_neg a1] at h1
      have hzx : K x z = true := by
        by_cases a2 : K y z = false ∧ K z y = false
        · cases h : K x z with
          | true => rfl
          | false => have := hK.ntrans _ _ _ h a2.2; rw [h1] at this; cases this
        · rw [if_neg a2] at h2
          exact hK.trans _ _ _ h1 h2
      rw [if_neg (by rw [hzx]; simp)]
      exact hzx
  · simp only [inc] at *
    by_cases a1 : K x y = false ∧ K y x = false
    · rw [if_pos a1] at h1
      by_cases a2 : K y z = false ∧ K z y = false
      · rw [if_pos a2] at h2
        rw [if_pos ⟨hK.ntrans _ _ _ a1.1 a2.1, hK.ntrans _ _ _ a2.2 a1.2⟩]
        exact hL.ntrans _ _ _ h1 h2
      · rw [if_neg a2] at h2
        have hzx : K x z = false := hK.ntrans _ _ _ a1.1 h2
        have hne : ¬ (K x z = false ∧ K z x = false) := fun hh => a2 ⟨h2, hK.ntrans _ _ _ hh.2 a1.1⟩
        rw [if_neg hne]
        exact hzx
    · rw [if_neg a1] at h1
      have hyx : K y x = true := by
        cases h : K y x with
        | true => rfl
        | false => exact absurd ⟨h1, h⟩ a1
      have hzx : K z x = true := by
        by_cases a2 : K y z = false ∧ K z y = false
        · cases h : K z x with
          | true => rfl
          | false => have := hK.ntrans _ _ _ a2.1 h; rw [hyx] at this; cases this
        · rw [if_neg a2] at h2
          have hzy : K z y = true := by
            cases h : K z y with
            | true => rfl
            | false => exact absurd ⟨h2, h⟩ a2
          exact hK.trans _ _ _ hzy hyx
      rw [if_neg (by rw [hzx]; simp)]
      exact swo_asymm hK hzx
/-- Two kinds: all of one kind ahead of all of the other one. -/
theorem swo_sum {A B : α → α → Bool} (hA : SWO A) (hB : SWO B) (p : α → Bool) : SWO (fun a b => if p a then (if p b then A a b else true) else (if p b then false else B a b)) := by
  refine ⟨fun x => ?_, fun x y z h1 h2 => ?_, fun x y z h1 h2 => ?_⟩
  · cases p x <;> simp [hA.irrefl, hB.irrefl]
  · revert h1 h2
    cases p x <;> cases p y <;> cases p z <;> simp
    · exact hB.trans _ _ _
    · exact hA.trans _ _ _
  · revert h1 h2
    cases p x <;> cases p y <;> cases p z <;> simp
    · exact hB.ntrans _ _ _
    · exact hA.ntrans _ _ _

theorem bytes_tri : ∀ a b : List UInt8, Op.bytesLess a b = true ∨ a = b ∨ Op.bytesLess b a = true
  | [], [] => .inr (.inl rfl)
  | [], _ :: _ => .inl rfl
  | _ :: _, [] => .inr (.inr rfl)
  | x :: a, y :: b => by
    rcases bytes_tri a b with h | h | h <;> rcases Nat.lt_trichotomy x.toNat y.toNat with g | g | g
    all_goals first
      | (left; simp [Op.bytesLess, UInt8.lt_iff_toNat_lt, g]; done)
      | (right; right; simp [Op.bytesLess, UInt8.lt_iff_toNat_lt, g]; done)
      | (have e := UInt8.toNat_inj.1 g; subst e; first | (left; simp [Op.bytesLess, h]; done) | (right; right; simp [Op.bytesLess, h]; done) | (right; left; rw [h]))
theorem bytes_trans : ∀ a b c : List UInt8, Op.bytesLess a b = true → Op.bytesLess b c = true → Op.bytesLess a c = true
  | _, _, [] => fun _ h => by cases ‹List UInt8› <;> simp [Op.bytesLess] at h
  | _, [], _ :: _ => fun h _ => by cases ‹List UInt8› <;> simp [Op.bytesLess] at h
  | [], _ :: _, _ :: _ => fun _ _ => rfl
  | x :: a, y :: b, z :: c => by
    intro h1 h2
    simp only [Op.bytesLess, Bool.or_eq_true, decide_eq_true_eq, Bool.and_eq_true, beq_iff_eq, UInt8.lt_iff_toNat_lt] at *
    rcases h1 with h1 | ⟨rfl, h1⟩ <;> rcases h2 with h2 | ⟨rfl, h2⟩
    · left; omega
    · left; omega
    · left; omega
    · right; exact ⟨rfl, bytes_trans a b c h1 h2⟩
theorem swo_bytes : SWO Op.bytesLess := by
  refine ⟨bl_irrefl, fun x y z => bytes_trans x y z, fun x y z h1 h2 => ?_⟩
  cases h : Op.bytesLess x z with
  | false => rfl
  | true =>
    rcases bytes_tri x y with g | g | g
    · rw [g] at h1; cases h1
    · subst g; rw [h] at h2; cases h2
    · have := bytes_trans _ _ _ g h; rw [this] at h2; cases h2
end Go.Proofs.YteplcmhmjdiimaaGreatDoor
namespace Go.Proofs.YteplcmhmjdiimaaGreatDoor
open Go.Sort

variable {α : Type}
/-- A comparison (equal, less): equal is what an order K does not tell apart; what is not equal stands by K; and less alone is an order too. -/
structure Good (C : α → α → Bool × Bool) : Prop where
  key : ∃ K : α → α → Bool, SWO K ∧ ∀ a b, (C a b).1 = (!K a b && !K b a) ∧ ((C a b).1 = false → (C a b).2 = K a b)
  less : SWO (fun a b => (C a b).2)

theorem Good.comap {β : Type} {C : β → β → Bool × Bool} (h : Good C) (f : α → β) : Good (fun a b => C (f a) (f b)) := by
  obtain ⟨K, hK, h1⟩ := h.key
  exact ⟨⟨fun a b => K (f a) (f b), swo_comap hK f, fun a b => h1 _ _⟩, swo_comap h.less f⟩

/-- Rules one behind the other, as the program goes through them: the last one's less is the answer where all count as equal. -/
def lexL : List (Bool × Bool) → Bool
  | [] => false
  | [p] => p.2
  | p :: q :: r => if p.1 then lexL (q :: r) else p.2
/-- .. and as the spec does. -/
def lexS : List (Bool × Bool) → Bool
  | [] => false
  | p :: r => if p.1 then lexS r else p.2

theorem swo_lexL (Cs : List (α → α → Bool × Bool)) (h : ∀ C ∈ Cs, Good C) : SWO (fun a b => lexL (Cs.map fun C => C a b)) := by
  induction Cs with
  | nil => exact swo_false
  | cons C r ih =>
    have hC := h C (List.mem_cons_self)
    cases r with
    | nil => exact hC.less
    | cons D r =>
      have ih' := ih (fun E hE => h E (List.mem_cons_of_mem _ hE))
      obtain ⟨K, hK, h1⟩ := hC.key
      have := swo_lex hK ih'
      have e : (fun a b => lexL (List.map (fun C => C a b) (C :: D :: r))) = fun a b => if (!K a b && !K b a) = true then lexL (List.map (fun C => C a b) (D :: r)) else K a b := by
        funext a b
        show (if (C a b).1 then lexL (List.map (fun C => C a b) (D :: r)) else (C a b).2) = _
        rw [(h1 a b).1]
        by_cases hk : (!K a b && !K b a) = true
        · rw [if_pos hk, if_pos hk]
        · rw [if_neg hk, if_neg hk]
          exact (h1 a b).2 (by rw [(h1 a b).1]; simpa using hk)
      rw [e]
      exact this
/-- What the spec counts as ahead, the program does. -/
theorem lexL_of_lexS (l : List (Bool × Bool)) (h : lexS l = true) : lexL l = true := by
  induction l with
  | nil => cases h
  | cons p r ih =>
    cases r with
    | nil =>
      unfold lexS at h
      cases hp : p.1 with
      | true => rw [hp] at h; simp [lexS] at h
      | false => rw [hp] at h; simpa [lexL] using h
    | cons q r =>
      unfold lexS at h
      unfold lexL
      cases hp : p.1 with
      | true => rw [hp] at h; simp at h ⊢; exact ih h
      | false => rw [hp] at h; simpa using h

theorem be_iff (a b : ByteArray) : be a b = true ↔ a = b := by
  unfold be
  rw [ByteArray.toList_eq, ByteArray.toList_eq]
  constructor
  · intro h
    have := eq_of_beq h
    cases a; cases b
    simpa using this
  · intro h; subst h; simp
theorem bl_swo : SWO bl := swo_comap swo_bytes ByteArray.toList
theorem be_bl (a b : ByteArray) : be a b = (!bl a b && !bl b a) := by
  unfold be bl
  rcases bytes_tri a.toList b.toList with h | h | h
  · have h2 : (a.toList == b.toList) = false := by
      rw [beq_eq_false_iff_ne]; intro e; rw [e, bl_irrefl] at h; cases h
    rw [h2, h]; rfl
  · rw [h, bl_irrefl]; simp
  · have h2 : (a.toList == b.toList) = false := by
      rw [beq_eq_false_iff_ne]; intro e; rw [e, bl_irrefl] at h; cases h
    rw [h2, h]; simp
theorem bg_bl (a b : ByteArray) : bg a b = bl b a := by
  unfold bg
  rw [be_bl]
  cases h1 : bl a b <;> cases h2 : bl b a <;> simp
  have := swo_asymm bl_swo h1
  rw [h2] at this; cases this

/-- Texts: the order that tells, and the order of all. -/
def KT (falls fold : Bool) (a b : ByteArray) : Bool :=
  if fold then (if falls then bl (lowS b) (lowS a) else bl (lowS a) (lowS b)) else (if falls then bl b a else bl a b)
theorem KT_swo (falls fold : Bool) : SWO (KT falls fold) := by
  cases fold <;> cases falls
  · exact bl_swo
  · exact swo_flip bl_swo
  · exact swo_comap bl_swo lowS
  · exact swo_flip (swo_comap bl_swo lowS)
/-- TXT, where equal texts are equal. -/
def TXE (falls fold : Bool) (a b : ByteArray) : Bool × Bool := if be a b then (true, false) else TXT falls fold a b
theorem good_TXE (falls fold : Bool) : Good (TXE falls fold) := by
  have key : ∀ a b, (TXE falls fold a b).1 = (!KT falls fold a b && !KT falls fold b a) ∧ ((TXE falls fold a b).1 = false → (TXE falls fold a b).2 = KT falls fold a b) := by
    intro a b
    unfold TXE
    by_cases he : be a b = true
    · rw [if_pos he]
      have hab := (be_iff a b).1 he
      subst hab
      simp [(KT_swo falls fold).irrefl]
    · rw [if_neg he]
      have he' : be a b = false := by simpa using he
      cases fold
      · have h1 : (!bl a b && !bl b a) = false := by rw [← be_bl]; exact he'
        cases falls
        · simp only [TXT, KT, Bool.false_eq_true, if_false]
          exact ⟨h1.symm, fun _ => trivial⟩
        · simp only [TXT, KT, Bool.false_eq_true, if_false, if_true]
          exact ⟨by rw [← h1, Bool.and_comm], fun _ => bg_bl a b⟩
      · cases falls
        · simp only [TXT, KT, Bool.false_eq_true, if_false, if_true]
          refine ⟨be_bl _ _, fun h => ?_⟩
          rw [h]; simp
        · simp only [TXT, KT, if_true]
          refine ⟨by rw [be_bl, Bool.and_comm], fun h => ?_⟩
          rw [h, bg_bl]; simp
  refine ⟨⟨KT falls fold, KT_swo _ _, key⟩, ?_⟩
  have hL : SWO (fun a b => if falls = true then bl b a else bl a b) := by
    cases falls
    · exact bl_swo
    · exact swo_flip bl_swo
  have := swo_lex (KT_swo falls fold) hL
  have e : (fun a b => (TXE falls fold a b).2) = fun a b => if (!KT falls fold a b && !KT falls fold b a) = true then (if falls = true then bl b a else bl a b) else KT falls fold a b := by
    funext a b
    obtain ⟨k1, k2⟩ := key a b
    by_cases hk : (!KT falls fold a b && !KT falls fold b a) = true
    · rw [if_pos hk]
      rw [hk] at k1
      unfold TXE at k1 ⊢
      by_cases he : be a b = true
      · rw [if_pos he]
        have hab := (be_iff a b).1 he
        subst hab
        simp [bl_swo.irrefl]
      · rw [if_neg he] at k1 ⊢
        cases fold
        · simp [TXT] at k1
        · have hlow : be (lowS a) (lowS b) = true := by cases falls <;> simpa [TXT] using k1
          have hll : lowS a = lowS b := (be_iff _ _).1 hlow
          cases falls
          · simp [TXT, hll, bl_swo.irrefl, (be_iff (lowS b) (lowS b)).2 rfl]
          · simp [TXT, hll, bg_bl, bl_swo.irrefl, (be_iff (lowS b) (lowS b)).2 rfl]
    · rw [if_neg hk]
      exact k2 (by rw [k1]; simpa using hk)
  rw [e]
  exact this
end Go.Proofs.YteplcmhmjdiimaaGreatDoor
namespace Go.Proofs.YteplcmhmjdiimaaGreatDoor
open Go.Sort

variable {α : Type}
theorem good_congr {C D : α → α → Bool × Bool} (h : Good D) (e : ∀ a b, C a b = D a b) : Good C := by
  have : C = D := by funext a b; exact e a b
  rw [this]; exact h

/-- Numbers: two that are one number are equal. -/
theorem good_NUM (falls : Bool) : Good (NUM falls) := by
  have hK : SWO (fun a b : Int => if falls = true then decide (b < a) else decide (a < b)) := by
    cases falls
    · exact swo_int
    · exact swo_flip swo_int
  have key : ∀ u v : Int, (NUM falls u v).1 = (!(if falls = true then decide (v < u) else decide (u < v)) && !(if falls = true then decide (u < v) else decide (v < u))) ∧ ((NUM falls u v).1 = false → (NUM falls u v).2 = (if falls = true then decide (v < u) else decide (u < v))) := by
    intro u v
    unfold NUM
    by_cases h : u = v
    · subst h; simp
    · rw [if_neg h]
      refine ⟨?_, fun _ => rfl⟩
      cases falls
      · simp; omega
      · simp; omega
  refine ⟨⟨_, hK, key⟩, ?_⟩
  have e : (fun u v : Int => (NUM falls u v).2) = fun a b : Int => if falls = true then decide (b < a) else decide (a < b) := by
    funext u v
    unfold NUM
    by_cases h : u = v
    · subst h; simp
    · rw [if_neg h]
  rw [e]; exact hK

/-- Two kinds of cells: all of the one ahead of all of the other. -/
theorem good_sum {A B : α → α → Bool × Bool} (hA : Good A) (hB : Good B) (p : α → Bool) :
    Good (fun a b => if p a then (if p b then A a b else (false, true)) else (if p b then (false, false) else B a b)) := by
  obtain ⟨KA, hKA, hA1⟩ := hA.key
  obtain ⟨KB, hKB, hB1⟩ := hB.key
  refine ⟨⟨_, swo_sum hKA hKB p, fun a b => ?_⟩, ?_⟩
  · cases p a <;> cases p b <;> simp
    · have := hB1 a b; simpa using this
    · have := hA1 a b; simpa using this
  · have := swo_sum hA.less hB.less p
    have e : (fun a b => (if p a then (if p b then A a b else (false, true)) else (if p b then (false, false) else B a b)).2) = fun a b => if p a then (if p b then (A a b).2 else true) else (if p b then false else (B a b).2) := by
      funext a b
      cases p a <;> cases p b <;> rfl
    rw [e]; exact this
end Go.Proofs.YteplcmhmjdiimaaGreatDoor
namespace Go.Proofs.YteplcmhmjdiimaaGreatDoor
open Go.Sort

variable {α : Type}
theorem NUM_self (falls : Bool) (u : Int) : NUM falls u u = (true, false) := by unfold NUM; rw [if_pos rfl]

theorem good_BEF (mode : Nat) (hm : mode ≤ 7) (fold : Bool) (cell : α → ByteArray) (o : α → Option Int) (hn : mode = 2 ∨ mode = 6 → ∀ i, o i ≠ none) (hc : ∀ i j, be (cell i) (cell j) = true → o i = o j) :
    Good (fun i j => BEF mode fold (cell i) (cell j) (o i) (o j)) := by
  by_cases h04 : mode = 0 ∨ mode = 4
  · refine good_congr ((good_TXE (mode == 4) fold).comap cell) fun a b => ?_
    unfold BEF TXE
    rw [if_pos h04]
  · by_cases h26 : mode = 2 ∨ mode = 6
    · refine good_congr ((good_NUM (mode == 6)).comap fun i => (o i).getD 0) fun a b => ?_
      have ha := hn h26 a
      have hb := hn h26 b
      have hab := hc a b
      unfold BEF
      rw [if_neg h04, if_pos h26]
      cases hoa : o a with
      | none => exact absurd hoa ha
      | some u =>
        cases hob : o b with
        | none => exact absurd hob hb
        | some v =>
          simp only [Option.getD_some]
          by_cases he : be (cell a) (cell b) = true
          · have h1 := hab he
            rw [hoa, hob] at h1
            have huv : u = v := by simpa using h1
            rw [if_pos he, huv, NUM_self]
          · rw [if_neg he]
    · have h1357 : mode = 1 ∨ mode = 3 ∨ mode = 5 ∨ mode = 7 := by omega
      have gT := (good_TXE (!(mode == 1) && !(mode == 3)) fold).comap cell
      have gN := (good_NUM (!(mode == 1) && !(mode == 3))).comap fun i => (o i).getD 0
      have same : ∀ a b, be (cell a) (cell b) = true → ∀ f g, (o a = none → TXE f fold (cell a) (cell b) = (true, false)) ∧ NUM g ((o a).getD 0) ((o b).getD 0) = (true, false) := by
        intro a b he f g
        refine ⟨fun _ => by unfold TXE; rw [if_pos he], ?_⟩
        rw [hc a b he, NUM_self]
      by_cases h15 : (mode == 1 || mode == 5) = true
      · refine good_congr (good_sum gT gN (fun i => (o i).isNone)) fun a b => ?_
        have hab := hc a b
        unfold BEF
        rw [if_neg h04, if_neg h26]
        by_cases he : be (cell a) (cell b) = true
        · rw [if_pos he]
          have h1 := hab he
          cases hoa : o a with
          | none => rw [hoa] at h1; rw [← h1]; simp [TXE, he]
          | some u => rw [hoa] at h1; rw [← h1]; simp [NUM_self]
        · rw [if_neg he]
          have he' : be (cell a) (cell b) = false := by simpa using he
          cases hoa : o a with
          | none =>
            cases hob : o b with
            | none => simp [TXE, he']
            | some v => simp only [Option.isNone_none, Option.isNone_some, if_true, Bool.false_eq_true, if_false]; rw [h15]
          | some u =>
            cases hob : o b with
            | none => simp only [Option.isNone_none, Option.isNone_some, if_true, Bool.false_eq_true, if_false]; rw [h15]; rfl
            | some v => simp
      · have h15' : (mode == 1 || mode == 5) = false := by simpa using h15
        refine good_congr (good_sum gN gT (fun i => (o i).isSome)) fun a b => ?_
        have hab := hc a b
        unfold BEF
        rw [if_neg h04, if_neg h26]
        by_cases he : be (cell a) (cell b) = true
        · rw [if_pos he]
          have h1 := hab he
          cases hoa : o a with
          | none => rw [hoa] at h1; rw [← h1]; simp [TXE, he]
          | some u => rw [hoa] at h1; rw [← h1]; simp [NUM_self]
        · rw [if_neg he]
          have he' : be (cell a) (cell b) = false := by simpa using he
          cases hoa : o a with
          | none =>
            cases hob : o b with
            | none => simp [TXE, he']
            | some v => simp only [Option.isSome_none, Option.isSome_some, if_true, Bool.false_eq_true, if_false]; rw [h15']
          | some u =>
            cases hob : o b with
            | none => simp only [Option.isSome_none, Option.isSome_some, if_true, Bool.false_eq_true, if_false]; rw [h15']; rfl
            | some v => simp
end Go.Proofs.YteplcmhmjdiimaaGreatDoor
