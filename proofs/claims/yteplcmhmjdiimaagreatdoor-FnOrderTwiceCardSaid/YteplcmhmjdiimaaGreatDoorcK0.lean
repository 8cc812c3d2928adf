/-
  The plain law of the order of rows: how two rows stand by rules; sorted lists that are alike.
  Rows and rules that a law is handed, in memory; what stays of them in a later world.
-/
import Derived.Test.YteplcmhmjdiimaaGreatDoorcI1
import Derived.Test.YteplcmhmjdiimaaGreatDoorcH0
import Derived.Deep.Slices
namespace Go.Proofs.YteplcmhmjdiimaaGreatDoor
open Go.RowKit

/-- What number a cell is. -/
noncomputable def numOf (s : ByteArray) : Option Int :=
  open Classical in if h : ∃ v, CellAt s (some v) then some h.choose else none

theorem numOf_at {s : ByteArray} (h : ∃ o, CellAt s o) : CellAt s (numOf s) := by
  unfold numOf
  split
  · next h' => exact h'.choose_spec
  · next h' =>
    obtain ⟨o, ho⟩ := h
    cases o with
    | none => exact ho
    | some v => exact absurd ⟨v, ho⟩ h'

theorem numOf_some {s : ByteArray} {v : Int} (h : CellAt s (some v)) : numOf s ≠ none := by
  unfold numOf
  rw [dif_pos ⟨v, h⟩]
  simp

def toRule (r : Raw) : Rule := ⟨r.num.toNat, r.mode, r.fold⟩

/-- What a rule compares of a row. -/
def cellR (rows : List (List ByteArray)) (r : Raw) (i : Nat) : ByteArray := rcell (rows.getD i []) (toRule r)

/-- How rows i and j stand by a rule. -/
noncomputable def CR (rows : List (List ByteArray)) (r : Raw) (i j : Nat) : Bool × Bool :=
  BEF r.mode r.fold (cellR rows r i) (cellR rows r j) (numOf (cellR rows r i)) (numOf (cellR rows r j))

/-- What a rule compares of a row is of a kind that is spoken of. -/
def OrdR (x : List ByteArray) (r : Raw) : Prop := ∃ o, CellAt (rcell x (toRule r)) o ∧ (r.mode = 2 ∨ r.mode = 6 → o ≠ none)

def OrdP (rows : List (List ByteArray)) (cols : Int) (l : List Raw) : Prop :=
  ∀ r ∈ l, r.mode ≤ 7 ∧ (okRule cols r = true → ∀ x ∈ rows, OrdR x r)

theorem OrdP.at_ {rows : List (List ByteArray)} {cols : Int} {l : List Raw} (h : OrdP rows cols l) {r : Raw} (hr : r ∈ l) (hok : okRule cols r = true) {i : Nat} (hi : i < rows.length) :
    CellAt (cellR rows r i) (numOf (cellR rows r i)) ∧ (r.mode = 2 ∨ r.mode = 6 → numOf (cellR rows r i) ≠ none) := by
  have hx : rows.getD i [] ∈ rows := by
    rw [List.getD_eq_getElem?_getD, List.getElem?_eq_getElem hi]
    exact List.getElem_mem hi
  obtain ⟨o, ho, hm⟩ := (h r hr).2 hok _ hx
  refine ⟨numOf_at ⟨o, ho⟩, fun h26 => ?_⟩
  cases o with
  | none => exact absurd rfl (hm h26)
  | some v => exact numOf_some ho

theorem good_CR {rows : List (List ByteArray)} {cols : Int} {l : List Raw} (h : OrdP rows cols l) {r : Raw} (hr : r ∈ l) (hok : okRule cols r = true) {m : Nat} (hm : m + 1 ≤ rows.length) :
    Good (fun (a b : Fin (m + 1)) => CR rows r a.val b.val) := by
  refine good_BEF r.mode (h r hr).1 r.fold (fun a : Fin (m + 1) => cellR rows r a.val) (fun a => numOf (cellR rows r a.val)) (fun h26 i => ?_) (fun i j he => ?_)
  · exact (h.at_ hr hok (Nat.lt_of_lt_of_le i.isLt hm)).2 h26
  · rw [be_iff] at he
    show numOf _ = numOf _
    rw [he]

/-- The last rule of the second order. -/
def lastC (a b : Nat) : Bool × Bool := (decide (a = b), decide (a < b))
theorem good_lastC {m : Nat} : Good (fun (a b : Fin (m + 1)) => lastC a.val b.val) := by
  have hK : Sort.SWO (fun (a b : Fin (m + 1)) => decide (a.val < b.val)) := ⟨fun x => by simp, fun x y z h1 h2 => by simp at *; omega, fun x y z h1 h2 => by simp at *; omega⟩
  refine ⟨⟨_, hK, fun a b => ⟨?_, fun _ => rfl⟩⟩, hK⟩
  show decide (a.val = b.val) = _
  by_cases h : a.val = b.val
  · simp [h]
  · by_cases h2 : a.val < b.val
    · simp [h, h2]
    · have : b.val < a.val := by omega
      simp [h, this]

theorem swo_CR {rows : List (List ByteArray)} {cols : Int} {l : List Raw} (h : OrdP rows cols l) {m : Nat} (hm : m + 1 ≤ rows.length) :
    Sort.SWO (fun (a b : Fin (m + 1)) => lexL ((l.filter (okRule cols)).map fun r => CR rows r a.val b.val)) := by
  have := swo_lexL ((l.filter (okRule cols)).map fun r => fun (a b : Fin (m + 1)) => CR rows r a.val b.val) (fun C hC => by
    obtain ⟨r, hr, rfl⟩ := List.mem_map.1 hC
    rw [List.mem_filter] at hr
    exact good_CR h hr.1 hr.2 hm)
  simp only [List.map_map] at this
  exact this

theorem swo_CR2 {rows : List (List ByteArray)} {cols : Int} {l : List Raw} (h : OrdP rows cols l) {m : Nat} (hm : m + 1 ≤ rows.length) :
    Sort.SWO (fun (a b : Fin (m + 1)) => lexL (((l.filter (okRule cols)).map fun r => CR rows r a.val b.val) ++ [lastC a.val b.val])) := by
  have := swo_lexL (((l.filter (okRule cols)).map fun r => fun (a b : Fin (m + 1)) => CR rows r a.val b.val) ++ [fun a b => lastC a.val b.val]) (fun C hC => by
    rcases List.mem_append.1 hC with hC | hC
    · obtain ⟨r, hr, rfl⟩ := List.mem_map.1 hC
      rw [List.mem_filter] at hr
      exact good_CR h hr.1 hr.2 hm
    · rw [List.mem_singleton.1 hC]
      exact good_lastC)
  simp only [List.map_append, List.map_map, List.map_cons, List.map_nil] at this
  exact this

theorem lexS_append {l : List (Bool × Bool)} (h : lexS l = true) (x : Bool × Bool) : lexS (l ++ [x]) = true := by
  induction l with
  | nil => cases h
  | cons p r ih =>
    rw [List.cons_append]
    unfold lexS at h ⊢
    split
    · next hp => rw [if_pos hp] at h; exact ih h
    · next hp => rw [if_neg hp] at h; exact h

/-- Two orders of one set, both of which a strict order tells apart, are one. -/
theorem same_order {ds es : List Nat} {n : Nat} (h1 : ds.Perm (List.range n)) (h2 : es.Perm (List.range n)) (R : Nat → Nat → Bool)
    (hasym : ∀ a b, a < n → b < n → R a b = true → R b a = true → False)
    (s1 : ds.Pairwise fun a b => R a b = true) (s2 : es.Pairwise fun a b => R a b = true) : ds = es := by
  refine List.Perm.eq_of_pairwise (le := fun a b => R a b = true) (fun a b ha hb hab hba => ?_) s1 s2 (h1.trans h2.symm)
  have ha' := List.mem_range.1 (h1.mem_iff.1 ha)
  have hb' := List.mem_range.1 (h2.mem_iff.1 hb)
  exact absurd (hasym a b ha' hb' hab hba) id

/-- Sorted by a comparison that tells what R tells: ascending in R. -/
theorem ascending {ds : List Nat} {n : Nat} (h1 : ds.Perm (List.range n)) (R lt : Nat → Nat → Bool) (htot : ∀ a b, a < n → b < n → a ≠ b → R a b = true ∨ R b a = true)
    (hlt : ∀ a b, R a b = true → lt a b = true) (hs : ∀ i j, (hj : j < ds.length) → (hij : i < j) → lt ds[j] ds[i] = false) : ds.Pairwise fun a b => R a b = true := by
  rw [List.pairwise_iff_getElem]
  intro i j hi hj hij
  have hn : ds.Nodup := h1.nodup_iff.2 List.nodup_range
  have hne : ds[i] ≠ ds[j] := by
    have := (List.pairwise_iff_getElem.1 hn) i j hi hj hij
    exact this
  have ha := List.mem_range.1 (h1.mem_iff.1 (List.getElem_mem hi))
  have hb := List.mem_range.1 (h1.mem_iff.1 (List.getElem_mem hj))
  rcases htot _ _ ha hb hne with h | h
  · exact h
  · have := hlt _ _ h
    rw [hs i j hj hij] at this
    cases this

theorem map_range_getD {α β : Type} (l : List α) (d : α) (f : α → β) : (List.range l.length).map (fun k => f (l.getD k d)) = l.map f := (Deep.map_by_index l d f).symm
end Go.Proofs.YteplcmhmjdiimaaGreatDoor
namespace Go.Proofs.YteplcmhmjdiimaaGreatDoor
open Go.RowKit

/-- A row of texts handed in. -/
def TextsAt (W : World) (v : Value) (l : List ByteArray) : Prop :=
  (l = [] ∧ ∃ base c, v = .slice base 0 c ∧ c ≤ maxLen) ∨ ∃ b o c, v = .slice (some ⟨b, o, none⟩) l.length c ∧ b < W.heap.size ∧ l.length ≤ c ∧ c ≤ maxLen ∧
    ∀ j, j < l.length → W.cell? ⟨b, o + j, none⟩ = some (.string (l.getD j ByteArray.empty)) ∧ (l.getD j ByteArray.empty).size ≤ maxLen

theorem TextsAt.below {W w : World} {v : Value} {l : List ByteArray} (h : TextsAt W v l) {N : Nat} (hb : Below N W w) (hN : W.heap.size ≤ N) : TextsAt w v l := by
  rcases h with h | ⟨b, o, c, h1, h2, h3, h4, h5⟩
  · exact .inl h
  · refine .inr ⟨b, o, c, h1, Nat.lt_of_lt_of_le h2 (by have := hb.size; exact this), h3, h4, fun j hj => ⟨?_, (h5 j hj).2⟩⟩
    rw [hb.cell (Nat.lt_of_lt_of_le h2 hN)]
    exact (h5 j hj).1

theorem TextsAt.strRow {W w : World} {v : Value} {l : List ByteArray} (h : TextsAt W v l) {N : Nat} (hb : Below N W w) (hN : W.heap.size ≤ N) {blk : Nat} (hblk : W.heap.size ≤ blk) : StrRow w blk v l := by
  rcases h with ⟨h, base, c, e, -⟩ | ⟨b, o, c, h1, h2, h3, h4, h5⟩
  · exact .inl ⟨h, base, c, e⟩
  · refine .inr ⟨b, o, c, h1, by omega, Nat.lt_of_lt_of_le h2 hb.size, h3, fun j hj => ?_⟩
    rw [hb.cell (Nat.lt_of_lt_of_le h2 hN)]
    exact (h5 j hj).1

theorem TextsAt.shape {W : World} {v : Value} {l : List ByteArray} (h : TextsAt W v l) :
    ∃ base c, v = .slice base l.length c ∧ l.length ≤ c ∧ c ≤ maxLen ∧ ∀ j, j < l.length → ∃ b o, base = some ⟨b, o, none⟩ ∧ b < W.heap.size ∧
      W.cell? ⟨b, o + j, none⟩ = some (.string (l.getD j ByteArray.empty)) ∧ (l.getD j ByteArray.empty).size ≤ maxLen := by
  rcases h with ⟨rfl, base, c, rfl, hm⟩ | ⟨b, o, c, rfl, hb, hc, hm, hcell⟩
  · exact ⟨base, c, rfl, Nat.zero_le _, hm, fun j hj => absurd hj (by simp)⟩
  · exact ⟨_, c, rfl, hc, hm, fun j hj => ⟨b, o, rfl, hb, hcell j hj⟩⟩

/-- Rows of texts handed in. -/
def RowsM (W : World) (v : Value) (rows : List (List ByteArray)) : Prop :=
  ∃ base c, v = .slice base rows.length c ∧ rows.length ≤ c ∧ c ≤ maxLen ∧ ∀ k, k < rows.length → ∃ b o u, base = some ⟨b, o, none⟩ ∧ b < W.heap.size ∧
    W.cell? ⟨b, o + k, none⟩ = some u ∧ TextsAt W u (rows.getD k [])

theorem RowsM.below {W w : World} {v : Value} {rows : List (List ByteArray)} (h : RowsM W v rows) {N : Nat} (hb : Below N W w) (hN : W.heap.size ≤ N) : RowsM w v rows := by
  obtain ⟨base, c, h1, h2, h3, h4⟩ := h
  refine ⟨base, c, h1, h2, h3, fun k hk => ?_⟩
  obtain ⟨b, o, u, e1, e2, e3, e4⟩ := h4 k hk
  refine ⟨b, o, u, e1, Nat.lt_of_lt_of_le e2 hb.size, ?_, e4.below hb hN⟩
  rw [hb.cell (Nat.lt_of_lt_of_le e2 hN)]
  exact e3

/-- Its rows' own values. -/
theorem RowsM.vals {W : World} {v : Value} {rows : List (List ByteArray)} (h : RowsM W v rows) :
    ∃ vs : List Value, vs.length = rows.length ∧ RowsAt W v vs ∧ ∀ k, (hk : k < vs.length) → TextsAt W vs[k] (rows.getD k []) := by
  obtain ⟨base, c, h1, h2, h3, h4⟩ := h
  have each : ∀ k, k < rows.length → ∃ u, TextsAt W u (rows.getD k []) ∧ ∃ b o, base = some ⟨b, o, none⟩ ∧ b < W.heap.size ∧ W.cell? ⟨b, o + k, none⟩ = some u := fun k hk => by
    obtain ⟨b, o, u, e1, e2, e3, e4⟩ := h4 k hk
    exact ⟨u, e4, b, o, e1, e2, e3⟩
  obtain ⟨V, hV⟩ := Deep.choose_lt each
  have hlen : ((List.range rows.length).map V).length = rows.length := by simp
  refine ⟨(List.range rows.length).map V, hlen, ⟨base, c, by rw [hlen]; exact h1, by rw [hlen]; exact h2, fun k hk => ?_⟩, fun k hk => ?_⟩
  · rw [hlen] at hk
    obtain ⟨e4, b, o, e1, e2, e3⟩ := hV k hk
    have eg : ((List.range rows.length).map V)[k] = V k := by simp
    rw [eg]
    obtain ⟨bb, cc, e, -⟩ := e4.shape
    exact ⟨b, o, e1, e2, e3, bb, _, cc, e⟩
  · have hk' := hk
    rw [hlen] at hk'
    simp only [List.getElem_map, List.getElem_range]
    exact (hV k hk').1

/-- A rule as it is handed in. -/
structure RawZ where
  num : Int
  mode : Int
  fold : Bool

def RawZ.raw (r : RawZ) : Raw := ⟨r.num, r.mode.toNat, r.fold⟩

def RulesM (W : World) (v : Value) (l : List RawZ) : Prop :=
  ∃ base c, v = .slice base l.length c ∧ l.length ≤ c ∧ c ≤ maxLen ∧ ∀ k, (h : k < l.length) → ∃ b o, base = some ⟨b, o, none⟩ ∧ b < W.heap.size ∧
    W.cell? ⟨b, o + k * 3, none⟩ = some (.int .i64 l[k].num) ∧ W.cell? ⟨b, o + k * 3 + 1, none⟩ = some (.int .i64 l[k].mode) ∧ W.cell? ⟨b, o + k * 3 + 2, none⟩ = some (.bool l[k].fold)

theorem RulesM.below {W w : World} {v : Value} {l : List RawZ} (h : RulesM W v l) {N : Nat} (hb : Below N W w) (hN : W.heap.size ≤ N) : RulesM w v l := by
  obtain ⟨base, c, h1, h2, h3, h4⟩ := h
  refine ⟨base, c, h1, h2, h3, fun k hk => ?_⟩
  obtain ⟨b, o, e1, e2, e3, e4, e5⟩ := h4 k hk
  have hlt := Nat.lt_of_lt_of_le e2 hN
  refine ⟨b, o, e1, Nat.lt_of_lt_of_le e2 hb.size, ?_, ?_, ?_⟩
  · rw [hb.cell hlt]; exact e3
  · rw [hb.cell hlt]; exact e4
  · rw [hb.cell hlt]; exact e5

theorem RulesM.rawAt {W : World} {v : Value} {l : List RawZ} (h : RulesM W v l) (h0 : ∀ r ∈ l, 0 ≤ r.mode) : RawAt W v (l.map RawZ.raw) := by
  obtain ⟨base, c, h1, h2, h3, h4⟩ := h
  refine ⟨base, c, by rw [List.length_map]; exact h1, by rw [List.length_map]; exact h2, fun k hk => ?_⟩
  rw [List.length_map] at hk
  obtain ⟨b, o, e1, e2, e3, e4, e5⟩ := h4 k hk
  refine ⟨b, o, e1, e2, by simpa [RawZ.raw] using e3, ?_, by simpa [RawZ.raw] using e5⟩
  rw [e4]
  have := h0 _ (List.getElem_mem hk)
  simp only [List.getElem_map, RawZ.raw]
  rw [Int.toNat_of_nonneg this]

/-- Places in memory. -/
def IntsAt (W : World) (v : Value) (ds : List Nat) : Prop :=
  ∃ base c, v = .slice base ds.length c ∧ ds.length ≤ c ∧ ∀ k, (h : k < ds.length) → ∃ b o, base = some ⟨b, o, none⟩ ∧ b < W.heap.size ∧ W.cell? ⟨b, o + k, none⟩ = some (.int .i64 (ds[k] : Int))

theorem IntsAt.below {W w : World} {v : Value} {ds : List Nat} (h : IntsAt W v ds) {N : Nat} (hb : Below N W w) (hN : W.heap.size ≤ N) : IntsAt w v ds := by
  obtain ⟨base, c, h1, h2, h4⟩ := h
  refine ⟨base, c, h1, h2, fun k hk => ?_⟩
  obtain ⟨b, o, e1, e2, e3⟩ := h4 k hk
  refine ⟨b, o, e1, Nat.lt_of_lt_of_le e2 hb.size, ?_⟩
  rw [hb.cell (Nat.lt_of_lt_of_le e2 hN)]
  exact e3
end Go.Proofs.YteplcmhmjdiimaaGreatDoor
