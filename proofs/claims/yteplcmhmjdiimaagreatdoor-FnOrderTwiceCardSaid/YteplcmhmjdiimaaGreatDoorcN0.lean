/-
  What less answers for the rules that are left, and for one rule more.
  Permuted and SameInts at what the orders hand back.
-/
import Derived.Test.YteplcmhmjdiimaaGreatDoorcJ2
import Derived.Test.YteplcmhmjdiimaaGreatDoorcM0
namespace Go.Proofs.YteplcmhmjdiimaaGreatDoor
open Go.RowKit

def noRule : Raw := ⟨0, 0, false⟩
noncomputable def C1 (rows : List (List ByteArray)) (fl : List Raw) (k a b : Nat) : Bool × Bool := CR rows (fl.getD k noRule) a b
noncomputable def C2 (rows : List (List ByteArray)) (fl : List Raw) (k a b : Nat) : Bool × Bool := if k < fl.length then CR rows (fl.getD k noRule) a b else lastC a b

theorem getD_in {α : Type} (l : List α) (d : α) {k : Nat} (h : k < l.length) : l.getD k d = l[k] := by
  rw [List.getD_eq_getElem?_getD, List.getElem?_eq_getElem h]; rfl

theorem C1_map (rows : List (List ByteArray)) (fl : List Raw) (a b : Nat) : (List.range fl.length).map (fun k => C1 rows fl k a b) = fl.map fun r => CR rows r a b :=
  map_range_getD fl noRule (fun r => CR rows r a b)
theorem C2_map (rows : List (List ByteArray)) (fl : List Raw) (x : Raw) (a b : Nat) : (List.range (fl ++ [x]).length).map (fun k => C2 rows fl k a b) = (fl.map fun r => CR rows r a b) ++ [lastC a b] := by
  rw [List.length_append, List.length_singleton, List.range_succ, List.map_append]
  congr 1
  · rw [← map_range_getD fl noRule (fun r => CR rows r a b)]
    refine List.map_congr_left fun k hk => ?_
    unfold C2
    rw [if_pos (List.mem_range.1 hk)]
  · simp [C2]

theorem less_CR {rows : List (List ByteArray)} {cols : Int} {l : List Raw} (h : OrdP rows cols l) {r : Raw} (hr : r ∈ l) (hok : okRule cols r = true) {a b : Nat} (ha : a < rows.length) (hb : b < rows.length) (w : World) :
    Calls Tryz.prog 30 #[.string (cellR rows r a), .string (cellR rows r b), SB ⟨#[]⟩ (toRule r).num (toRule r).mode (toRule r).fold] w fun e w' =>
      e = .returned (.tuple #[.bool (CR rows r a b).1, .bool (CR rows r a b).2]) ∧ Below w.heap.size w w' := by
  have h1 := h.at_ hr hok ha
  have h2 := h.at_ hr hok hb
  exact less_calls w _ _ _ _ h1.1 h2.1 ⟨#[]⟩ _ r.mode (h r hr).1 (fun h26 => ⟨h1.2 h26, h2.2 h26⟩) r.fold

theorem ok_nums {cols : Int} (hc20 : cols ≤ 20) {r : Raw} (h : okRule cols r = true) : 1 ≤ r.num ∧ r.num ≤ 1000 := by
  unfold okRule at h
  simp only [Bool.and_eq_true, decide_eq_true_eq] at h
  omega

theorem sorts_one {rows : List (List ByteArray)} {cols : Int} {l : List Raw} (h : OrdP rows cols l) (hc20 : cols ≤ 20) :
    Sorts rows (l.filter (okRule cols)) rows.length (C1 rows (l.filter (okRule cols))) := by
  refine ⟨fun r hr => ok_nums hc20 (List.mem_filter.1 hr).2, fun a b ha hb k hk _ w => ?_, fun m hm => ?_⟩
  · have hmem := List.mem_filter.1 (List.getElem_mem hk)
    unfold C1
    rw [getD_in _ _ hk]
    exact less_CR h hmem.1 hmem.2 ha hb w
  · simp only [C1_map]
    exact swo_CR h (by omega)

/-- Rows that are told apart. -/
def Apart (rows : List (List ByteArray)) (cols : Int) (l : List Raw) : Prop :=
  ∀ i k, i < rows.length → k < i → aheadS (rows.getD i []) (rows.getD k []) cols l = true ∨ aheadS (rows.getD k []) (rows.getD i []) cols l = true

theorem aheadS_CR (rows : List (List ByteArray)) (cols : Int) (l : List Raw) (a b : Nat) : aheadS (rows.getD a []) (rows.getD b []) cols l = lexS ((l.filter (okRule cols)).map fun r => CR rows r a b) := rfl

theorem lexS_alike {l : List (Bool × Bool)} (h : ∀ p ∈ l, p.1 = true) : lexS l = false := by
  induction l with
  | nil => rfl
  | cons p r ih =>
    unfold lexS
    rw [if_pos (h p (List.mem_cons_self ..))]
    exact ih fun q hq => h q (List.mem_cons_of_mem _ hq)

theorem CR_turn {rows : List (List ByteArray)} {cols : Int} {l : List Raw} (h : OrdP rows cols l) {r : Raw} (hr : r ∈ l) (hok : okRule cols r = true) {a b : Nat} (ha : a < rows.length) (hb : b < rows.length)
    (he : (CR rows r a b).1 = true) : (CR rows r b a).1 = true := by
  obtain ⟨m, hm⟩ : ∃ m, m + 1 = rows.length := ⟨rows.length - 1, by omega⟩
  obtain ⟨K, -, hK⟩ := (good_CR h hr hok (m := m) (by omega)).key
  have h1 := (hK ⟨a, by omega⟩ ⟨b, by omega⟩).1
  have h2 := (hK ⟨b, by omega⟩ ⟨a, by omega⟩).1
  simp only at h1 h2
  rw [h1] at he
  rw [h2, Bool.and_comm]
  exact he

theorem apart_eq {rows : List (List ByteArray)} {cols : Int} {l : List Raw} (h : OrdP rows cols l) (hA : Apart rows cols l) {a b : Nat} (ha : a < rows.length) (hb : b < rows.length)
    (he : ∀ r ∈ l.filter (okRule cols), (CR rows r a b).1 = true) : a = b := by
  have e1 : aheadS (rows.getD a []) (rows.getD b []) cols l = false := by
    rw [aheadS_CR]
    refine lexS_alike fun p hp => ?_
    obtain ⟨r, hr, rfl⟩ := List.mem_map.1 hp
    exact he r hr
  have e2 : aheadS (rows.getD b []) (rows.getD a []) cols l = false := by
    rw [aheadS_CR]
    refine lexS_alike fun p hp => ?_
    obtain ⟨r, hr, rfl⟩ := List.mem_map.1 hp
    have hm := List.mem_filter.1 hr
    exact CR_turn h hm.1 hm.2 ha hb (he r hr)
  rcases Nat.lt_trichotomy a b with hlt | rfl | hlt
  · rcases hA b a hb hlt with h1 | h1
    · rw [e2] at h1; cases h1
    · rw [e1] at h1; cases h1
  · rfl
  · rcases hA a b ha hlt with h1 | h1
    · rw [e1] at h1; cases h1
    · rw [e2] at h1; cases h1

theorem filter_more {cols : Int} {l : List Raw} {x : Raw} (hx : okRule cols x = true) : (l ++ [x]).filter (okRule cols) = l.filter (okRule cols) ++ [x] := by
  rw [List.filter_append, List.filter_cons, if_pos hx, List.filter_nil]

theorem sorts_two {rows : List (List ByteArray)} {cols : Int} {l : List Raw} (h : OrdP rows cols l) (hc20 : cols ≤ 20) (hA : Apart rows cols l) {x : Raw} (hx : okRule cols x = true) :
    Sorts rows ((l ++ [x]).filter (okRule cols)) rows.length (C2 rows (l.filter (okRule cols))) := by
  rw [filter_more hx]
  refine ⟨fun r hr => ?_, fun a b ha hb k hk heq w => ?_, fun m hm => ?_⟩
  · rcases List.mem_append.1 hr with hr | hr
    · exact ok_nums hc20 (List.mem_filter.1 hr).2
    · rw [List.mem_singleton.1 hr]; exact ok_nums hc20 hx
  · by_cases hk2 : k < (l.filter (okRule cols)).length
    · have hmem := List.mem_filter.1 (List.getElem_mem hk2)
      rw [List.getElem_append_left hk2]
      unfold C2
      rw [if_pos hk2, getD_in _ _ hk2]
      exact less_CR h hmem.1 hmem.2 ha hb w
    · have hke : k = (l.filter (okRule cols)).length := by
        rw [List.length_append, List.length_singleton] at hk
        omega
      have hab : a = b := apart_eq h hA ha hb fun r hr => by
        obtain ⟨k', hk', rfl⟩ := List.getElem_of_mem hr
        have := heq k' (by omega)
        unfold C2 at this
        rw [if_pos hk', getD_in _ _ hk'] at this
        exact this
      subst hab
      have hc : C2 rows (l.filter (okRule cols)) k a a = (true, false) := by
        unfold C2
        rw [if_neg hk2]
        unfold lastC
        simp
      rw [hc]
      exact less_same w _ _ (by rw [be_iff]) ⟨#[]⟩ _ _ _
  · simp only [C2_map]
    exact swo_CR2 h (by omega)

/-- None comes ahead of one that stands before it. -/
theorem law_once {rows : List (List ByteArray)} {cols : Int} {l : List Raw} {ds : List Nat}
    (hs : ∀ i j, (hj : j < ds.length) → (hij : i < j) → lexL ((List.range (l.filter (okRule cols)).length).map fun k => C1 rows (l.filter (okRule cols)) k ds[j] ds[i]) = false)
    {i k : Nat} (hi : i < ds.length) (hk : k < i) : aheadS (rows.getD ds[i] []) (rows.getD ds[k] []) cols l = false := by
  have h := hs k i hi hk
  rw [C1_map] at h
  rw [aheadS_CR]
  cases hx : lexS ((l.filter (okRule cols)).map fun r => CR rows r ds[i] ds[k]) with
  | false => rfl
  | true =>
    have := lexL_of_lexS _ hx
    rw [h] at this
    cases this

/-- One rule more turns nothing. -/
theorem law_twice {rows : List (List ByteArray)} {cols : Int} {l : List Raw} (h : OrdP rows cols l) (hA : Apart rows cols l) {x : Raw} (hx : okRule cols x = true) {ds es : List Nat}
    (h1 : ds.Perm (List.range rows.length)) (h2 : es.Perm (List.range rows.length))
    (hs1 : ∀ i j, (hj : j < ds.length) → (hij : i < j) → lexL ((List.range (l.filter (okRule cols)).length).map fun k => C1 rows (l.filter (okRule cols)) k ds[j] ds[i]) = false)
    (hs2 : ∀ i j, (hj : j < es.length) → (hij : i < j) → lexL ((List.range ((l ++ [x]).filter (okRule cols)).length).map fun k => C2 rows (l.filter (okRule cols)) k es[j] es[i]) = false) : ds = es := by
  rw [filter_more hx] at hs2
  have tot : ∀ a b, a < rows.length → b < rows.length → a ≠ b → aheadS (rows.getD a []) (rows.getD b []) cols l = true ∨ aheadS (rows.getD b []) (rows.getD a []) cols l = true := fun a b ha hb hne => by
    rcases Nat.lt_or_gt_of_ne hne with hlt | hlt
    · exact (hA b a hb hlt).symm
    · exact hA a b ha hlt
  refine same_order h1 h2 (fun a b => aheadS (rows.getD a []) (rows.getD b []) cols l) (fun a b ha hb hab hba => ?_) ?_ ?_
  · obtain ⟨m, hm⟩ : ∃ m, m + 1 = rows.length := ⟨rows.length - 1, by omega⟩
    have hO := swo_CR h (m := m) (by omega)
    have e1 := lexL_of_lexS _ hab
    have e2 := lexL_of_lexS _ hba
    have := hO.trans ⟨a, by omega⟩ ⟨b, by omega⟩ ⟨a, by omega⟩ e1 e2
    rw [hO.irrefl] at this
    cases this
  · refine ascending h1 _ (fun a b => lexL ((l.filter (okRule cols)).map fun r => CR rows r a b)) tot (fun a b hab => lexL_of_lexS _ hab) fun i j hj hij => ?_
    have := hs1 i j hj hij
    rw [C1_map] at this
    exact this
  · refine ascending h2 _ (fun a b => lexL (((l.filter (okRule cols)).map fun r => CR rows r a b) ++ [lastC a b])) tot (fun a b hab => lexL_of_lexS _ (lexS_append hab _)) fun i j hj hij => ?_
    have := hs2 i j hj hij
    rw [C2_map] at this
    exact this
end Go.Proofs.YteplcmhmjdiimaaGreatDoor
namespace Go.Proofs.YteplcmhmjdiimaaGreatDoor
open Go.RowKit

theorem bool_info : (Tryz.prog.info? 4).map (fun i => (i.zero, i.size, i.bytes)) = some (some (.bool false), 1, 1) := by kernel_rfl

/-- The places that have been met. -/
def Met (w : World) (B n : Nat) (l : List Nat) : Prop :=
  B < w.heap.size ∧ ∀ j, j < n → w.cell? ⟨B, j, none⟩ = some (.bool (decide (j ∈ l))) ∧ w.frozen? ⟨B, j, none⟩ = false

theorem Met.start {w : World} {base n B : Nat} (h : w.ownsRow base 4 1 (.slice (some ⟨B, 0, none⟩) n n) n (madeCells #[Value.bool false] n).toList) : Met w B n [] := by
  rcases h.2 with ⟨h0, -⟩ | ⟨g, cap, cur, hv, hb, hg, hn, hm, hs, htake⟩
  · cases h0
  · simp only [Value.slice.injEq, Option.some.injEq, Addr.mk.injEq] at hv
    obtain ⟨⟨rfl, -, -⟩, -, rfl⟩ := hv
    refine ⟨(Array.getElem?_eq_some_iff.1 hg).1, fun j hj => ⟨?_, ?_⟩⟩
    · rw [h.cellAt j (by omega)]
      have e : (madeCells #[Value.bool false] n).toList = List.replicate n (.bool false) := by
        apply List.ext_getElem
        · simp [madeCells]
        · intro i h1 h2
          simp [madeCells, Nat.mod_one]
      rw [e]
      simp [hj]
    · simp only [World.frozen?, hg]
      simp

theorem Met.put {w : World} {B n d : Nat} {l : List Nat} (h : Met w B n l) : Met (w.setCell ⟨B, d, none⟩ (.bool true)) B n (l ++ [d]) := by
  refine ⟨by simp [World.setCell]; exact h.1, fun j hj => ⟨?_, ?_⟩⟩
  · by_cases e : j = d
    · subst e
      rw [World.cell?_setCell_same _ _ _ (h.2 j hj).1]
      simp
    · rw [World.cell?_setCell_other _ _ _ _ (by intro e'; exact e (by simpa using (congrArg Addr.off e').symm)), (h.2 j hj).1]
      simp [e]
  · have := (h.2 j hj).2
    simpa using this

set_option maxHeartbeats 4000000 in
set_option maxRecDepth 100000 in
theorem permuted_calls (W : World) (v : Value) (ds : List Nat) (n : Nat) (hI : IntsAt W v ds) (hp : ds.Perm (List.range n)) (hn : n ≤ 60) :
    Calls Tryz.prog 8 #[v, .int .i64 n] W fun e w' => e = .returned (.bool true) ∧ Below W.heap.size W w' := by
  have hlen : ds.length = n := by have := hp.length_eq; simpa using this
  obtain ⟨base, c, rfl, hc, hcell⟩ := hI
  rw [hlen]
  obtain ⟨i4, hi4, hz4, hs4, hb4⟩ := info_parts bool_info
  have HCELL := aside hcell
  have HP := aside hp
  have HLEN := aside hlen
  clear hcell hp hlen hc
  go_enter Tryz.func8, Tryz.ntmps8
  go_wp2_with (refine wpList_make_full _ rfl _ _ 41 rfl W.heap.size 4 i4 (.bool false) 1 Tryz.underlying41 hi4 hz4 hs4 .i64 .i64 n n n rfl rfl rfl rfl (by rw [hb4]; omega) (by unfold maxLen; omega) (by omega) ?_)
  intro w1 hown hgrow
  have hM := Met.start hown
  have hB1 : Below W.heap.size W w1 := (Below.refl _ _).grown hgrow (Nat.le_refl _) (fun k h => by cases h)
  obtain ⟨B, hBe⟩ : ∃ B, B = W.heap.size := ⟨_, rfl⟩
  rw [← hBe] at hM ⊢
  have HM := aside hM
  have HB1 := aside hB1
  have HBE := aside hBe
  clear hown hgrow hM hB1 hBe
  go_wp2_with fail
  go_loopg [6] n (fun q s6 wr => ∃ i : Nat, s6 = .int .i64 i ∧ i ≤ n ∧ n ≤ q + i ∧ Hid (Met wr B n (ds.take i)) ∧ Hid (Below W.heap.size W wr))
  case atStart => exact ⟨0, rfl, by omega, by omega, HM.out, HB1.out⟩
  case round =>
    obtain ⟨i, rfl, hi, hq, HMI, HB⟩ := hrel
    by_cases hlt : i < n
    · have e1 : decide ((i : Int) < (n : Int)) = true := by simp; omega
      have e2 : (i : Int) < (n : Int) := by omega
      have hil : i < ds.length := by rw [HLEN.out]; exact hlt
      obtain ⟨b, o, rfl, hb, m1⟩ := HCELL.out i hil
      have hdn : ds[i] < n := List.mem_range.1 (HP.out.mem_iff.1 (List.getElem_mem hil))
      have hnot : ds[i] ∉ ds.take i := by
        have hnd : ds.Nodup := HP.out.nodup_iff.2 List.nodup_range
        intro hmem
        obtain ⟨j, hj, he⟩ := List.getElem_of_mem hmem
        rw [List.length_take] at hj
        rw [List.getElem_take] at he
        exact (List.pairwise_iff_getElem.1 hnd) j i (by omega) hil (by omega) he
      have htake : ds.take (i + 1) = ds.take i ++ [ds[i]] := List.take_succ_eq_append_getElem hil
      obtain ⟨d, hd⟩ : ∃ d, d = ds[i] := ⟨_, rfl⟩
      rw [← hd] at m1 hdn hnot htake
      have r1 : wr.cell? ⟨b, o + i, none⟩ = some (.int .i64 (d : Int)) := by rw [HB.out.cell hb]; exact m1
      have r2 := (HMI.out.2 d hdn).1
      have r3 := (HMI.out.2 d hdn).2
      rw [decide_eq_false hnot] at r2
      have f1 : decide ((d : Int) < 0) = false := by simp
      have f2 : decide ((d : Int) ≥ (n : Int)) = false := by simp; omega
      have f3 : (d : Int) < (n : Int) := by omega
      have HT := aside htake
      clear hd m1 hnot htake hil hb
      go_wp2_with fail
      go_roundg (n - (i + 1))
      case measure => omega
      case rel =>
        refine ⟨i + 1, by simp, by omega, by omega, ?_, HB.out.setCell (by rw [HBE.out]; exact Nat.le_refl _) _⟩
        rw [HT.out]
        exact HMI.out.put
    · have e1 : decide ((i : Int) < (n : Int)) = false := by simp; omega
      go_wp2_with fail
      go_ret
      exact ⟨rfl, HB.out⟩

set_option maxHeartbeats 4000000 in
set_option maxRecDepth 100000 in
theorem sameInts_calls (W : World) (v u : Value) (ds : List Nat) (hv : IntsAt W v ds) (hu : IntsAt W u ds) (hn : ds.length ≤ 60) :
    Calls Tryz.prog 11 #[v, u] W fun e w' => e = .returned (.bool true) ∧ Below W.heap.size W w' := by
  obtain ⟨base, c, rfl, hc, hcell⟩ := hv
  obtain ⟨base', c', rfl, hc', hcell'⟩ := hu
  have HC1 := aside hcell
  have HC2 := aside hcell'
  clear hcell hcell'
  go_enter Tryz.func11, Tryz.ntmps11
  go_wp2_with fail
  go_loopg [5] ds.length (fun q s5 wr => ∃ i : Nat, s5 = .int .i64 i ∧ i ≤ ds.length ∧ ds.length ≤ q + i ∧ Hid (Below W.heap.size W wr))
  case atStart => exact ⟨0, rfl, by omega, by omega, Below.refl _ _⟩
  case round =>
    obtain ⟨i, rfl, hi, hq, HB⟩ := hrel
    by_cases hlt : i < ds.length
    · have e1 : decide ((i : Int) < (ds.length : Int)) = true := by simp; omega
      have e2 : (i : Int) < (ds.length : Int) := by omega
      obtain ⟨b, o, rfl, hb, m1⟩ := HC1.out i hlt
      obtain ⟨b', o', rfl, hb', m2⟩ := HC2.out i hlt
      have r1 : wr.cell? ⟨b, o + i, none⟩ = some (.int .i64 (ds[i] : Int)) := by rw [HB.out.cell hb]; exact m1
      have r2 : wr.cell? ⟨b', o' + i, none⟩ = some (.int .i64 (ds[i] : Int)) := by rw [HB.out.cell hb']; exact m2
      obtain ⟨d, hd⟩ : ∃ d, d = ds[i] := ⟨_, rfl⟩
      rw [← hd] at r1 r2
      clear m1 m2 hd
      go_upto_region 6 with fail
      go_quiet (fail)
      go_wp2_with fail
      go_roundg (ds.length - (i + 1))
      case measure => omega
      case rel => exact ⟨i + 1, by simp, by omega, by omega, ⟨HB.out.os, HB.out.tape, HB.out.output, HB.out.size, HB.out.block⟩⟩
    · have e1 : decide ((i : Int) < (ds.length : Int)) = false := by simp; omega
      go_wp2_with fail
      go_ret
      exact ⟨rfl, HB.out⟩
end Go.Proofs.YteplcmhmjdiimaaGreatDoor
