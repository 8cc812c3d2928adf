/-
  Plain Lean: decimals 0.d1d2d3.. times 10^dp as lists of digits; halving and doubling them by powers of two, as long division and long multiplication do it.
-/
import Derived.Below
namespace Go.Proofs.YteplcmhmjdiimaaGreatDoor.Dec

/-- The number that digits write. -/
def dval (ds : List Nat) : Nat := ds.foldl (fun a d => a * 10 + d) 0

theorem foldl_from (l : List Nat) : ∀ a : Nat, l.foldl (fun a d => a * 10 + d) a = a * 10 ^ l.length + l.foldl (fun a d => a * 10 + d) 0 := by
  induction l with
  | nil => intro a; simp
  | cons x r ih =>
    intro a
    simp only [List.foldl_cons, List.length_cons]
    rw [ih (a * 10 + x), ih (0 * 10 + x), Nat.pow_succ]
    simp only [Nat.zero_mul, Nat.zero_add, Nat.add_mul]
    have : a * 10 * 10 ^ r.length = a * (10 ^ r.length * 10) := by rw [Nat.mul_assoc, Nat.mul_comm 10]
    omega
theorem dval_append (a b : List Nat) : dval (a ++ b) = dval a * 10 ^ b.length + dval b := by
  unfold dval; rw [List.foldl_append, foldl_from]
theorem dval_snoc (a : List Nat) (d : Nat) : dval (a ++ [d]) = dval a * 10 + d := by rw [dval_append]; simp [dval]
theorem dval_cons (d : Nat) (r : List Nat) : dval (d :: r) = d * 10 ^ r.length + dval r := by
  have := dval_append [d] r; simpa [dval] using this
theorem dval_nil : dval [] = 0 := rfl
theorem dval_lt (ds : List Nat) (h : ∀ d ∈ ds, d < 10) : dval ds < 10 ^ ds.length := by
  induction ds with
  | nil => simp [dval]
  | cons d r ih =>
    rw [dval_cons, List.length_cons, Nat.pow_succ]
    have h1 := ih (fun x hx => h x (List.mem_cons_of_mem _ hx))
    have h2 := h d (List.mem_cons_self)
    have h3 : d * 10 ^ r.length ≤ 9 * 10 ^ r.length := Nat.mul_le_mul_right _ (by omega)
    omega

/-- All digits are digits; the first one is not 0. -/
structure Norm (ds : List Nat) : Prop where
  dig : ∀ d ∈ ds, d < 10
  head : ds.getD 0 0 ≠ 0

theorem Norm.len {ds : List Nat} (h : Norm ds) : 0 < ds.length := by
  cases ds with
  | nil => exact absurd rfl h.head
  | cons _ _ => simp
theorem Norm.ge {ds : List Nat} (h : Norm ds) : 10 ^ (ds.length - 1) ≤ dval ds := by
  cases ds with
  | nil => exact absurd rfl h.head
  | cons d r =>
    have := h.head
    simp at this
    rw [dval_cons]
    simp only [List.length_cons, Nat.add_sub_cancel]
    have h3 : 1 * 10 ^ r.length ≤ d * 10 ^ r.length := Nat.mul_le_mul_right _ (by omega)
    omega

/-- The value times 10^250. -/
def V (ds : List Nat) (dp : Int) : Nat := dval ds * 10 ^ (dp + 250 - ds.length).toNat
def Fits (ds : List Nat) (dp : Int) : Prop := (ds.length : Int) ≤ dp + 250

/-- Trailing zeros cut off. -/
def trimZ : List Nat → List Nat
  | [] => []
  | d :: r => if trimZ r = [] ∧ d = 0 then [] else d :: trimZ r

theorem trimZ_snoc_zero (ds : List Nat) : trimZ (ds ++ [0]) = trimZ ds := by
  induction ds with
  | nil => simp [trimZ]
  | cons d r ih => simp only [List.cons_append, trimZ, ih]
theorem trimZ_snoc (ds : List Nat) (d : Nat) (h : d ≠ 0) : trimZ (ds ++ [d]) = ds ++ [d] := by
  induction ds with
  | nil => simp [trimZ, h]
  | cons x r ih => simp only [List.cons_append, trimZ, ih]; simp
theorem trimZ_norm {ds : List Nat} (h : Norm ds) : Norm (trimZ ds) := by
  refine ⟨fun d hd => ?_, ?_⟩
  · have : ∀ l : List Nat, ∀ x ∈ trimZ l, x ∈ l := by
      intro l
      induction l with
      | nil => simp [trimZ]
      | cons y r ih =>
        intro x hx
        simp only [trimZ] at hx
        split at hx
        · simp at hx
        · rcases List.mem_cons.1 hx with rfl | hx
          · simp
          · exact List.mem_cons_of_mem _ (ih x hx)
    exact h.dig d (this ds d hd)
  · cases ds with
    | nil => exact absurd rfl h.head
    | cons d r =>
      have := h.head
      simp at this
      simp only [trimZ]
      rw [if_neg (by simp [this])]
      simpa using this
theorem trimZ_length (ds : List Nat) : (trimZ ds).length ≤ ds.length := by
  induction ds with
  | nil => simp [trimZ]
  | cons d r ih => simp only [trimZ]; split <;> simp <;> omega
theorem trimZ_dval (ds : List Nat) : dval (trimZ ds) * 10 ^ (ds.length - (trimZ ds).length) = dval ds := by
  induction ds with
  | nil => simp [trimZ]
  | cons d r ih =>
    simp only [trimZ]
    have hl := trimZ_length r
    by_cases h : trimZ r = [] ∧ d = 0
    · rw [if_pos h, dval_cons, h.2]
      rw [h.1] at ih
      rw [← ih]; simp [dval]
    · rw [if_neg h, dval_cons, dval_cons]
      simp only [List.length_cons]
      rw [show r.length + 1 - ((trimZ r).length + 1) = r.length - (trimZ r).length by omega, Nat.add_mul, Nat.mul_assoc, ← Nat.pow_add, ih]
      rw [show (trimZ r).length + (r.length - (trimZ r).length) = r.length by omega]
theorem V_trimZ (ds : List Nat) (dp : Int) (hF : Fits ds dp) : V (trimZ ds) dp = V ds dp ∧ Fits (trimZ ds) dp := by
  have hl := trimZ_length ds
  unfold Fits at *
  refine ⟨?_, by omega⟩
  unfold V
  rw [← trimZ_dval ds, Nat.mul_assoc, ← Nat.pow_add]
  congr 2
  omega

/-! ### Halving -/
/-- The number of the first i digits, zeros behind the last one. -/
def P (ds : List Nat) (i : Nat) : Nat := dval (ds.take i) * 10 ^ (i - ds.length)

theorem P_zero (ds : List Nat) : P ds 0 = 0 := by simp [P, dval]
theorem P_succ_in (ds : List Nat) (i : Nat) (h : i < ds.length) : P ds (i + 1) = P ds i * 10 + ds.getD i 0 := by
  unfold P
  rw [show i + 1 - ds.length = 0 by omega, show i - ds.length = 0 by omega, List.take_succ_eq_append_getElem h, dval_snoc]
  simp [List.getD_eq_getElem?_getD, List.getElem?_eq_getElem h]
theorem P_succ_out (ds : List Nat) (i : Nat) (h : ds.length ≤ i) : P ds (i + 1) = P ds i * 10 := by
  unfold P
  rw [List.take_of_length_le h, List.take_of_length_le (by omega), show i + 1 - ds.length = i - ds.length + 1 by omega, Nat.pow_succ, Nat.mul_assoc]
theorem P_end (ds : List Nat) (i : Nat) (h : ds.length ≤ i) : P ds i = dval ds * 10 ^ (i - ds.length) := by
  unfold P; rw [List.take_of_length_le h]
theorem P_ge {ds : List Nat} (h : Norm ds) (i : Nat) : 10 ^ i ≤ P ds (i + 1) := by
  induction i with
  | zero =>
    rw [P_succ_in ds 0 h.len, P_zero]
    have := h.head
    simp at this ⊢
    omega
  | succ i ih =>
    rw [Nat.pow_succ]
    by_cases hi : i + 1 < ds.length
    · rw [P_succ_in ds _ hi]; omega
    · rw [P_succ_out ds _ (by omega)]; omega
theorem P_small {ds : List Nat} (h : Norm ds) {i k : Nat} (hk : k ≤ 59) (hP : P ds i < 2 ^ k) : i ≤ 18 := by
  by_cases hi : i ≤ 18
  · exact hi
  · exfalso
    have h1 := P_ge h (i - 1)
    rw [show i - 1 + 1 = i by omega] at h1
    have h2 : (2 : Nat) ^ k ≤ 2 ^ 59 := Nat.pow_le_pow_right (by omega) hk
    have h3 : (10 : Nat) ^ 18 ≤ 10 ^ (i - 1) := Nat.pow_le_pow_right (by omega) (by omega)
    have h4 : (2 : Nat) ^ 59 < 10 ^ 18 := by decide
    omega

/-- What has been written (O), and what is left (n), at place i of the long division by 2^k that began at place i0. -/
structure Half (ds : List Nat) (k i0 i : Nat) (O : List Nat) (n : Nat) : Prop where
  sum : dval O * 2 ^ k * 10 + n = P ds i
  small : n < 10 * 2 ^ k
  len : O.length = i - i0
  le : i0 ≤ i
  dig : ∀ d ∈ O, d < 10
  head : O = [] → 2 ^ k ≤ n
  first : O ≠ [] → O.getD 0 0 ≠ 0
  div : 2 ^ (i - max i0 ds.length) ∣ n

theorem Half.start {ds : List Nat} {k i0 : Nat} (h1 : 2 ^ k ≤ P ds i0) (h2 : P ds i0 < 10 * 2 ^ k) : Half ds k i0 i0 [] (P ds i0) :=
  ⟨by simp [dval], h2, by simp, Nat.le_refl _, by simp, fun _ => h1, fun h => absurd rfl h, by
    rw [show i0 - max i0 ds.length = 0 by omega]; simp⟩

theorem Half.step {ds : List Nat} (hd : ∀ d ∈ ds, d < 10) {k i0 i : Nat} {O : List Nat} {n : Nat} (h : Half ds k i0 i O n) :
    Half ds k i0 (i + 1) (O ++ [n / 2 ^ k]) (n % 2 ^ k * 10 + if i < ds.length then ds.getD i 0 else 0) := by
  have hp : 0 < 2 ^ k := Nat.two_pow_pos k
  have hm := Nat.mod_lt n hp
  have hdm := Nat.div_add_mod n (2 ^ k)
  have hq : n / 2 ^ k < 10 := by rw [Nat.div_lt_iff_lt_mul hp]; exact h.small
  have hdi : (if i < ds.length then ds.getD i 0 else 0) < 10 := by
    split
    · rename_i hi
      have := hd (ds[i]) (List.getElem_mem hi)
      simpa [List.getD_eq_getElem?_getD, List.getElem?_eq_getElem hi] using this
    · omega
  refine ⟨?_, ?_, ?_, ?_, ?_, ?_, ?_, ?_⟩
  · have e1 : (dval O * 10 + n / 2 ^ k) * 2 ^ k * 10 = (dval O * 2 ^ k * 10 + n / 2 ^ k * 2 ^ k) * 10 := by
      rw [Nat.add_mul]; congr 2; rw [Nat.mul_right_comm]
    have e2 : dval O * 2 ^ k * 10 + n = P ds i := h.sum
    have e3 : n / 2 ^ k * 2 ^ k = n - n % 2 ^ k := by rw [Nat.mul_comm]; omega
    have e4 : n % 2 ^ k ≤ n := Nat.mod_le _ _
    rw [dval_snoc, e1]
    by_cases hi : i < ds.length
    · rw [if_pos hi, P_succ_in ds i hi, e3]; omega
    · rw [if_neg hi, P_succ_out ds i (by omega), e3]; omega
  · omega
  · rw [List.length_append, h.len]; have := h.le; simp; omega
  · have := h.le; omega
  · intro d hd'
    rcases List.mem_append.1 hd' with h' | h'
    · exact h.dig d h'
    · simp at h'; omega
  · intro e; simp at e
  · intro _
    cases hO : O with
    | nil =>
      have h1 := h.head hO
      have : 1 ≤ n / 2 ^ k := (Nat.one_le_div_iff hp).2 h1
      simp; omega
    | cons x r =>
      have h1 := h.first (by rw [hO]; simp)
      rw [hO] at h1
      simpa using h1
  · by_cases hi : i < max i0 ds.length
    · rw [show i + 1 - max i0 ds.length = 0 by omega]; simp
    · have hi' : ds.length ≤ i := by omega
      have hdv := h.div
      rw [if_neg (by omega), show i + 1 - max i0 ds.length = (i - max i0 ds.length) + 1 by omega]
      generalize i - max i0 ds.length = j at hdv ⊢
      by_cases hj : j ≤ k
      · have h1 : 2 ^ j ∣ n % 2 ^ k := (Nat.dvd_mod_iff (Nat.pow_dvd_pow 2 hj)).2 hdv
        obtain ⟨u, hu⟩ := h1
        refine ⟨u * 5, ?_⟩
        rw [hu, Nat.pow_succ]
        have : 2 ^ j * u * 10 = 2 ^ j * 2 * (u * 5) := by
          rw [Nat.mul_assoc, Nat.mul_assoc]; congr 1; omega
        omega
      · have h1 : n % 2 ^ k = 0 := by
          have : 2 ^ k ∣ n := Nat.dvd_trans (Nat.pow_dvd_pow 2 (by omega)) hdv
          exact Nat.mod_eq_zero_of_dvd this
        rw [h1]; simp

/-- How far the division goes. -/
theorem Half.bound {ds : List Nat} {k i0 i : Nat} {O : List Nat} {n : Nat} (h : Half ds k i0 i O n) (hn : 0 < n) : i < max i0 ds.length + k + 4 := by
  have h1 : 2 ^ (i - max i0 ds.length) ≤ n := Nat.le_of_dvd hn h.div
  have h2 := h.small
  have h3 : 10 * 2 ^ k < 2 ^ (k + 4) := by rw [Nat.pow_add]; have := Nat.two_pow_pos k; omega
  have h4 : 2 ^ (i - max i0 ds.length) < 2 ^ (k + 4) := by omega
  have := (Nat.pow_lt_pow_iff_right (by omega : 1 < 2)).1 h4
  omega

/-- What the division comes to. -/
theorem Half.done {ds : List Nat} {k i0 i : Nat} {O : List Nat} (h : Half ds k i0 i O 0) (hi : ds.length ≤ i) (dp : Int) (hF : Fits ds dp) (hF' : (i : Int) ≤ dp + 250) :
    Norm O ∧ 2 ^ k * V O (dp - ((i0 : Int) - 1)) = V ds dp ∧ Fits O (dp - ((i0 : Int) - 1)) := by
  have hle := h.le
  have hne : O ≠ [] := fun e => by have := h.head e; have := Nat.two_pow_pos k; omega
  refine ⟨⟨h.dig, h.first hne⟩, ?_, ?_⟩
  · unfold V
    rw [h.len, show ((dp - ((i0 : Int) - 1)) + 250 - ((i - i0 : Nat) : Int)).toNat = (dp + 250 - i).toNat + 1 by omega, Nat.pow_succ]
    have e := h.sum
    rw [Nat.add_zero, P_end ds i hi] at e
    unfold Fits at hF
    rw [show (dp + 250 - (ds.length : Int)).toNat = (i - ds.length) + (dp + 250 - i).toNat by omega, Nat.pow_add, ← Nat.mul_assoc (dval ds), ← e]
    simp only [Nat.mul_comm, Nat.mul_left_comm]
    simp only [Nat.mul_assoc]
  · unfold Fits; rw [h.len]; omega

/-! ### Doubling -/
/-- The number that digits write, the least one first. -/
def lval : List Nat → Nat
  | [] => 0
  | d :: r => d + 10 * lval r
theorem lval_snoc (O : List Nat) (q : Nat) : lval (O ++ [q]) = lval O + q * 10 ^ O.length := by
  induction O with
  | nil => simp [lval]
  | cons d r ih =>
    simp only [List.cons_append, lval, ih, List.length_cons, Nat.pow_succ]
    have : q * (10 ^ r.length * 10) = 10 * (q * 10 ^ r.length) := by rw [← Nat.mul_assoc, Nat.mul_comm]
    omega
theorem dval_reverse (O : List Nat) : dval O.reverse = lval O := by
  induction O with
  | nil => rfl
  | cons d r ih => rw [List.reverse_cons, dval_snoc, ih]; simp only [lval]; omega

/-- The number of the last j digits. -/
def T (ds : List Nat) (j : Nat) : Nat := dval (ds.drop (ds.length - j))
theorem T_zero (ds : List Nat) : T ds 0 = 0 := by simp [T, dval]
theorem T_succ (ds : List Nat) (j : Nat) (h : j < ds.length) : T ds (j + 1) = ds.getD (ds.length - 1 - j) 0 * 10 ^ j + T ds j := by
  unfold T
  have hi : ds.length - (j + 1) < ds.length := by omega
  rw [List.drop_eq_getElem_cons hi, dval_cons, show ds.length - (j + 1) + 1 = ds.length - j by omega]
  simp only [List.length_drop]
  rw [show ds.length - (ds.length - j) = j by omega, show ds.length - 1 - j = ds.length - (j + 1) by omega]
  simp [List.getD_eq_getElem?_getD, List.getElem?_eq_getElem hi]
theorem T_all (ds : List Nat) (j : Nat) (h : ds.length ≤ j) : T ds j = dval ds := by
  unfold T; rw [show ds.length - j = 0 by omega, List.drop_zero]

/-- What has been written (O, the least digit first), and what is carried (n), behind j rounds. -/
structure Dbl (ds : List Nat) (k j : Nat) (O : List Nat) (n : Nat) : Prop where
  sum : lval O + n * 10 ^ j = T ds j * 2 ^ k
  small : n ≤ 2 ^ k
  len : O.length = j
  dig : ∀ d ∈ O, d < 10
  last : ds.length ≤ j → n = 0 → O.getD (j - 1) 0 ≠ 0

theorem Dbl.start {ds : List Nat} (h : Norm ds) (k : Nat) : Dbl ds k 0 [] 0 :=
  ⟨by simp [lval, T_zero], Nat.zero_le _, rfl, by simp, fun hl => by have := h.len; omega⟩

theorem Dbl.stepIn {ds : List Nat} (hN : Norm ds) {k j : Nat} {O : List Nat} {n : Nat} (h : Dbl ds k j O n) (hj : j < ds.length) :
    Dbl ds k (j + 1) (O ++ [(n + ds.getD (ds.length - 1 - j) 0 * 2 ^ k) % 10]) ((n + ds.getD (ds.length - 1 - j) 0 * 2 ^ k) / 10) := by
  have hd : ds.getD (ds.length - 1 - j) 0 < 10 := by
    have hi : ds.length - 1 - j < ds.length := by omega
    have := hN.dig (ds[ds.length - 1 - j]) (List.getElem_mem hi)
    simpa [List.getD_eq_getElem?_getD, List.getElem?_eq_getElem hi] using this
  have h9 : ds.getD (ds.length - 1 - j) 0 * 2 ^ k ≤ 9 * 2 ^ k := Nat.mul_le_mul_right _ (by omega)
  have hs := h.small
  have hdm := Nat.div_add_mod (n + ds.getD (ds.length - 1 - j) 0 * 2 ^ k) 10
  refine ⟨?_, by omega, by simp [h.len], ?_, ?_⟩
  · have e2 : ds.getD (ds.length - 1 - j) 0 * 10 ^ j * 2 ^ k = ds.getD (ds.length - 1 - j) 0 * 2 ^ k * 10 ^ j := Nat.mul_right_comm _ _ _
    rw [lval_snoc, T_succ ds j hj, h.len, Nat.pow_succ, Nat.add_mul _ _ (2 ^ k), ← h.sum, e2]
    generalize ds.getD (ds.length - 1 - j) 0 * 2 ^ k = m at *
    have e1 : (n + m) % 10 * 10 ^ j + (n + m) / 10 * (10 ^ j * 10) = (n + m) * 10 ^ j := by
      rw [show (n + m) / 10 * (10 ^ j * 10) = 10 * ((n + m) / 10) * 10 ^ j by rw [Nat.mul_comm (10 ^ j) 10, ← Nat.mul_assoc, Nat.mul_comm ((n + m) / 10) 10], ← Nat.add_mul]
      congr 1; omega
    rw [Nat.add_assoc, e1, Nat.add_mul]
    omega
  · intro d hd'
    rcases List.mem_append.1 hd' with h' | h'
    · exact h.dig d h'
    · simp at h'; omega
  · intro hl hn
    have hj' : ds.length - 1 - j = 0 := by omega
    have hh := hN.head
    rw [hj'] at hn hdm ⊢
    have h1 : 1 * 2 ^ k ≤ ds.getD 0 0 * 2 ^ k := Nat.mul_le_mul_right _ (by omega)
    have h2 := Nat.two_pow_pos k
    generalize ds.getD 0 0 * 2 ^ k = m at *
    rw [List.getD_eq_getElem?_getD, List.getElem?_append_right (by rw [h.len]; omega), h.len]
    simp
    omega

theorem Dbl.stepOut {ds : List Nat} {k j : Nat} {O : List Nat} {n : Nat} (h : Dbl ds k j O n) (hj : ds.length ≤ j) (hn : 0 < n) :
    Dbl ds k (j + 1) (O ++ [n % 10]) (n / 10) := by
  have hs := h.small
  have hdm := Nat.div_add_mod n 10
  refine ⟨?_, by omega, by simp [h.len], ?_, ?_⟩
  · rw [lval_snoc, T_all ds _ (by omega), h.len, Nat.pow_succ]
    have e := h.sum
    rw [T_all ds _ hj] at e
    have e1 : n % 10 * 10 ^ j + n / 10 * (10 ^ j * 10) = n * 10 ^ j := by
      rw [show n / 10 * (10 ^ j * 10) = 10 * (n / 10) * 10 ^ j by rw [Nat.mul_comm (10 ^ j) 10, ← Nat.mul_assoc, Nat.mul_comm (n / 10) 10], ← Nat.add_mul]
      congr 1; omega
    rw [Nat.add_assoc, e1, e]
  · intro d hd'
    rcases List.mem_append.1 hd' with h' | h'
    · exact h.dig d h'
    · simp at h'; omega
  · intro _ hn'
    rw [List.getD_eq_getElem?_getD, List.getElem?_append_right (by rw [h.len]; omega), h.len]
    simp
    omega

theorem Dbl.done {ds : List Nat} {k j : Nat} {O : List Nat} (h : Dbl ds k j O 0) (hj : ds.length ≤ j) (hj0 : 0 < j) (dp : Int) (hF : Fits ds dp) :
    Norm O.reverse ∧ V O.reverse (dp + ((j : Int) - ds.length)) = 2 ^ k * V ds dp ∧ Fits O.reverse (dp + ((j : Int) - ds.length)) := by
  have hl := h.last hj rfl
  unfold Fits at *
  refine ⟨⟨fun d hd => h.dig d (by simpa using hd), ?_⟩, ?_, by rw [List.length_reverse, h.len]; omega⟩
  · rw [List.getD_eq_getElem?_getD, List.getElem?_reverse (by rw [h.len]; exact hj0), h.len, ← List.getD_eq_getElem?_getD]
    exact hl
  · unfold V
    have e := h.sum
    rw [Nat.zero_mul, Nat.add_zero, T_all ds _ hj] at e
    rw [dval_reverse, e, List.length_reverse, h.len, show dp + ((j : Int) - ds.length) + 250 - j = dp + 250 - ds.length by omega, Nat.mul_comm (dval ds), Nat.mul_assoc]

/-! ### What the value says of dp and of the first digit -/
theorem V_lt {ds : List Nat} {dp : Int} (h : Norm ds) (hF : Fits ds dp) (h0 : 0 ≤ dp + 250) : V ds dp < 10 ^ (dp + 250).toNat := by
  unfold V Fits at *
  have := dval_lt ds h.dig
  rw [show (dp + 250).toNat = ds.length + (dp + 250 - ds.length).toNat by omega, Nat.pow_add]
  exact Nat.mul_lt_mul_of_pos_right this (Nat.pow_pos (by omega))
theorem V_ge {ds : List Nat} {dp : Int} (h : Norm ds) (hF : Fits ds dp) : 10 ^ (dp + 250 - 1).toNat ≤ V ds dp := by
  unfold V Fits at *
  have h1 := h.ge
  have h2 := h.len
  rw [show (dp + 250 - 1).toNat = (ds.length - 1) + (dp + 250 - ds.length).toNat by omega, Nat.pow_add]
  exact Nat.mul_le_mul_right _ h1
/-- The first digit, for a value from 0.1 up to 1. -/
theorem V_first {ds : List Nat} (h : Norm ds) (hF : Fits ds 0) : ds.getD 0 0 * 10 ^ 249 ≤ V ds 0 ∧ V ds 0 < (ds.getD 0 0 + 1) * 10 ^ 249 := by
  unfold V Fits at *
  cases ds with
  | nil => exact absurd rfl h.head
  | cons d r =>
    simp only [List.length_cons] at hF ⊢
    rw [dval_cons, show ((0 : Int) + 250 - ((r.length + 1 : Nat) : Int)).toNat = 249 - r.length by omega]
    have e : 10 ^ r.length * 10 ^ (249 - r.length) = (10 : Nat) ^ 249 := by rw [← Nat.pow_add]; congr 1; omega
    have h1 := dval_lt r (fun x hx => h.dig x (List.mem_cons_of_mem _ hx))
    rw [Nat.add_mul, Nat.mul_assoc, e]
    have h2 : dval r * 10 ^ (249 - r.length) < 10 ^ r.length * 10 ^ (249 - r.length) := Nat.mul_lt_mul_of_pos_right h1 (Nat.pow_pos (by omega))
    rw [e] at h2
    simp only [List.getD_cons_zero]
    rw [Nat.add_mul, Nat.one_mul]
    omega
end Go.Proofs.YteplcmhmjdiimaaGreatDoor.Dec
