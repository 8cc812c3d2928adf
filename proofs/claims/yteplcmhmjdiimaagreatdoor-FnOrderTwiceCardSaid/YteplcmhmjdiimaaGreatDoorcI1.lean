/-
  The closure, as sort.Slice asks for it.
  sorts: the rules as the package has them.
  zzRows: the rows as the package has them.
  parseSortBy: the rules of columns that are there.
-/
import Derived.Test.YteplcmhmjdiimaaGreatDoorcI0
import Derived.Test.YteplcmhmjdiimaaGreatDoorcSa
namespace Go.Proofs.YteplcmhmjdiimaaGreatDoor
open Go.RowKit

def encF (m : Nat) (x : Fin (m + 1)) : Value := .int .i64 (x.val : Int)

theorem StrRow.to {m : Nat} {W W1 : World} {blk : Nat} {dk : Array (Fin (m + 1))} {v : Value} {l : List ByteArray} (h : StrRow W blk v l) (t : To (encF m) blk 0 dk W W1) : StrRow W1 blk v l := by
  rcases h with h | ⟨b, o, c, h1, h2, h3, h4, h5⟩
  · exact .inl h
  · exact .inr ⟨b, o, c, h1, h2, Nat.lt_of_lt_of_le h3 t.size, h4, fun j hj => by rw [t.cell (p := ⟨b, o + j, none⟩) h3 h2]; exact h5 j hj⟩

theorem Ctx.to {m : Nat} {W W1 : World} {blk n bi bp bt T P R ro : Nat} {rows : Nat → List ByteArray} {rs : List Rule} {dk : Array (Fin (m + 1))}
    (h : Ctx W blk n bi bp bt T P R ro rows rs) (t : To (encF m) blk 0 dk W W1) : Ctx W1 blk n bi bp bt T P R ro rows rs := by
  have hs := t.size
  have c : ∀ {b o : Nat}, b < W.heap.size → b ≠ blk → W1.cell? ⟨b, o, none⟩ = W.cell? ⟨b, o, none⟩ := fun {b o} h1 h2 => t.cell (p := ⟨b, o, none⟩) h1 h2
  refine ⟨Nat.lt_of_lt_of_le h.biLt hs, Nat.lt_of_lt_of_le h.bpLt hs, Nat.lt_of_lt_of_le h.btLt hs, Nat.lt_of_lt_of_le h.tLt hs, Nat.lt_of_lt_of_le h.pLt hs, Nat.lt_of_lt_of_le h.rLt hs,
    h.biNe, h.bpNe, h.btNe, h.tNe, h.pNe, h.rNe, ?_, ?_, ?_, ?_, ?_, ?_, h.num1⟩
  · rw [c h.biLt h.biNe]; exact h.idx
  · rw [c h.bpLt h.bpNe]; exact h.rul
  · rw [c h.btLt h.btNe]; exact h.tab
  · rw [c h.tLt h.tNe]; exact h.row
  · intro i hi
    obtain ⟨v, h1, h2⟩ := h.rowAt i hi
    exact ⟨v, by rw [c h.rLt h.rNe]; exact h1, h2.to t⟩
  · intro k hk
    rw [c h.pLt h.pNe, c h.pLt h.pNe, c h.pLt h.pNe, c h.pLt h.pNe, c h.pLt h.pNe]
    exact h.rulAt k hk

/-- The comparison that sort.Slice is handed tells lexL of the two rows. -/
theorem closure_lessB (m : Nat) (W : World) (blk bi bp bt T P R ro : Nat) (rows : Nat → List ByteArray) (rs : List Rule) (hc : Ctx W blk (m + 1) bi bp bt T P R ro rows rs) (hrs : rs.length ≤ 100) (hblk : blk < W.heap.size)
    (d0 : Array (Fin (m + 1))) (hH : Sort.Holds (encF m) W blk 0 d0) (hd0 : d0.size = m + 1)
    (C : Nat → Fin (m + 1) → Fin (m + 1) → Bool × Bool)
    (hless : ∀ (a b : Fin (m + 1)) k, (h : k < rs.length) → (∀ k', k' < k → (C k' a b).1 = true) → ∀ w, W.heap.size ≤ w.heap.size → (∀ i, i < W.heap.size → i ≠ blk → w.heap[i]? = W.heap[i]?) →
      Calls Tryz.prog 30 #[.string (rcell (rows a.val) rs[k]), .string (rcell (rows b.val) rs[k]), SB ⟨#[]⟩ rs[k].num rs[k].mode rs[k].fold] w fun e w' =>
      e = .returned (.tuple #[.bool (C k a b).1, .bool (C k a b).2]) ∧ Below w.heap.size w w') :
    LessB Tryz.prog 29 #[.pointer (some ⟨bi, 0, none⟩), .pointer (some ⟨bp, 0, none⟩), .pointer (some ⟨bt, 0, none⟩)] (encF m) (fun a b => lexL ((List.range rs.length).map fun k => C k a b)) blk 0 (m + 1) W := by
  intro W1 dk t hsz i j hi hj
  have hold := t.holds hblk hH (by omega)
  have ci := (hold i (by omega)).1
  have cj := (hold j (by omega)).1
  rw [Nat.zero_add] at ci cj
  refine closure_calls W1 blk (m + 1) bi bp bt T P R ro rows rs (hc.to t) (dk[i]!).val (dk[j]!).val i j hi hj (dk[i]!).isLt (dk[j]!).isLt ci cj hrs (fun k => C k dk[i]! dk[j]!) ?_
  intro k hk heq w hb
  refine hless dk[i]! dk[j]! k hk heq w (Nat.le_trans t.size hb.size) ?_
  intro b hb1 hb2
  rw [hb.block b (Nat.lt_of_lt_of_le hb1 t.size)]
  exact t.heap hb1 hb2
end Go.Proofs.YteplcmhmjdiimaaGreatDoor
namespace Go.Proofs.YteplcmhmjdiimaaGreatDoor
open Go.RowKit

/-- A rule as the law hands it in. -/
structure Raw where
  num : Int
  mode : Nat
  fold : Bool

/-- Rules handed in: three cells each. -/
def RawAt (W : World) (v : Value) (l : List Raw) : Prop :=
  ∃ base c, v = .slice base l.length c ∧ l.length ≤ c ∧ ∀ k, (h : k < l.length) → ∃ b o, base = some ⟨b, o, none⟩ ∧ b < W.heap.size ∧
    W.cell? ⟨b, o + k * 3, none⟩ = some (.int .i64 l[k].num) ∧ W.cell? ⟨b, o + k * 3 + 1, none⟩ = some (.int .i64 (l[k].mode : Int)) ∧ W.cell? ⟨b, o + k * 3 + 2, none⟩ = some (.bool l[k].fold)

/-- A rule's five cells in the package's own form. -/
def rcells (r : Raw) : List Value := [.string ⟨#[]⟩, .int .i64 r.num, .int .i64 (r.mode : Int), .bool r.fold, .nilFunc]
def allCells (l : List Raw) : List Value := l.flatMap rcells

theorem sort_info : (Tryz.prog.info? 72).map (fun i => (i.zero, i.size, i.bytes)) = some (some (.agg #[.string ⟨#[]⟩, .int .i64 0, .int .i64 0, .bool false, .nilFunc]), 5, 48) := by kernel_rfl

set_option maxHeartbeats 4000000 in
set_option maxRecDepth 100000 in
theorem sorts_calls (W : World) (v : Value) (l : List Raw) (hl : RawAt W v l) (hlen : l.length ≤ 100) :
    Calls Tryz.prog 19 #[v] W fun e w' => ∃ v', e = .returned v' ∧ w'.ownsRow W.heap.size 72 5 v' l.length (allCells l) ∧ Below W.heap.size W w' := by
  obtain ⟨base, c, rfl, hc, hcell⟩ := hl
  have HC := aside hcell
  have hsf : ∀ (w : World) (a : Addr) (m : Mode), (store a .nilFunc m).run Tryz.prog w = stored Tryz.prog w a .nilFunc m := fun w a m => run_store Tryz.prog w a .nilFunc m rfl
  obtain ⟨i72, hi, hz, hs, hb⟩ := info_parts sort_info
  clear hcell
  go_enter Tryz.func19, Tryz.ntmps19
  go_wp2_with fail
  go_loopg [3, 8] l.length (fun q s3 s8 wr => ∃ k : Nat, s8 = .int .i64 k ∧ k ≤ l.length ∧ l.length ≤ q + k ∧ Hid (wr.ownsRow W.heap.size 72 5 s3 k (allCells (l.take k))) ∧ Hid (Below W.heap.size W wr))
  case atStart => exact ⟨0, rfl, by omega, by omega, World.ownsRow_nil _ _ _ _, Below.refl _ _⟩
  case round =>
    obtain ⟨k, rfl, hk, hq, HO, HB⟩ := hrel
    by_cases hlt : k < l.length
    · have e1 : decide ((k : Int) < (l.length : Int)) = true := by simp; omega
      have e2 : (k : Int) < (l.length : Int) := by omega
      obtain ⟨b, o, rfl, hbl, m1, m2, m3⟩ := HC.out k hlt
      have r1 : wr.cell? ⟨b, o + k * 3, none⟩ = some (.int .i64 l[k].num) := by rw [HB.out.cell hbl]; exact m1
      have r2 : wr.cell? ⟨b, o + k * 3 + 1, none⟩ = some (.int .i64 (l[k].mode : Int)) := by rw [HB.out.cell hbl]; exact m2
      have r3 : wr.cell? ⟨b, o + k * 3 + 2, none⟩ = some (.bool l[k].fold) := by rw [HB.out.cell hbl]; exact m3
      obtain ⟨num, hnum⟩ : ∃ num, num = l[k].num := ⟨_, rfl⟩
      obtain ⟨mode, hmode⟩ : ∃ mode, mode = l[k].mode := ⟨_, rfl⟩
      obtain ⟨fold, hfold⟩ : ∃ fold, fold = l[k].fold := ⟨_, rfl⟩
      rw [← hnum] at r1
      rw [← hmode] at r2
      rw [← hfold] at r3
      have HN := aside hnum
      have HM := aside hmode
      have HF := aside hfold
      clear m1 m2 m3 hnum hmode hfold
      have hBs := HB.out.size
      go_wp2_with (at_builtin; refine wpList_append_own _ rfl _ _ 39 rfl W.heap.size 72 i72 _ 5 48 Tryz.underlying39 hi hz hs hb rfl (by decide) _ k _ rfl ((HO.out.alloc _).alloc _) ⟨wr.heap.size + 1, 0, none⟩ 1 1 (rcells ⟨num, mode, fold⟩) rfl rfl (by intro j u' hj; match j, hj with | 0, hj => (simp [rcells] at hj; subst hj; simp [Addr.add]) | 1, hj => (simp [rcells] at hj; subst hj; simp [Addr.add]) | 2, hj => (simp [rcells] at hj; subst hj; simp [Addr.add]) | 3, hj => (simp [rcells] at hj; subst hj; simp [Addr.add]) | 4, hj => (simp [rcells] at hj; subst hj; simp [Addr.add]) | j + 5, hj => simp [rcells] at hj) (by intro u' hu'; simp [rcells] at hu'; rcases hu' with rfl | rfl | rfl | rfl | rfl <;> rfl) (by unfold maxLen; omega) (by omega) (by simp; omega) ?_)
      intro v2 w2 hown2 hgrow _
      have hB2 : Below W.heap.size W w2 := ((HB.out.alloc (by omega) _).alloc (by simp; omega) _).grown hgrow (by simp; omega) (fun k' hk' => (HO.out.lt k' hk').1)
      have HB2 := aside hB2
      have HOWN := aside hown2
      clear hB2 hown2 hgrow
      go_wp2_with fail
      go_roundg (l.length - (k + 1))
      case measure => omega
      case rel =>
        refine ⟨k + 1, by simp, by omega, by omega, ?_, HB2.out⟩
        show World.ownsRow _ _ _ _ _ _ _
        have e : allCells (l.take (k + 1)) = allCells (l.take k) ++ rcells ⟨num, mode, fold⟩ := by
          unfold allCells
          rw [List.take_succ_eq_append_getElem hlt, List.flatMap_append, HN.out, HM.out, HF.out]
          simp only [List.flatMap_cons, List.flatMap_nil, List.append_nil]
        rw [e]; exact HOWN.out
    · have e1 : decide ((k : Int) < (l.length : Int)) = false := by simp; omega
      have hkl : k = l.length := by omega
      subst hkl
      go_wp2_with fail
      go_ret
      have := HO.out
      rw [List.take_length] at this
      exact ⟨_, rfl, this, HB.out⟩
end Go.Proofs.YteplcmhmjdiimaaGreatDoor
namespace Go.Proofs.YteplcmhmjdiimaaGreatDoor
open Go.RowKit

/-- Rows handed in: a slice of slices. -/
def RowsAt (W : World) (v : Value) (vs : List Value) : Prop :=
  ∃ base c, v = .slice base vs.length c ∧ vs.length ≤ c ∧ ∀ k, (h : k < vs.length) → ∃ b o, base = some ⟨b, o, none⟩ ∧ b < W.heap.size ∧
    W.cell? ⟨b, o + k, none⟩ = some vs[k] ∧ ∃ x y z, vs[k] = .slice x y z

theorem rowStr_info : (Tryz.prog.info? 79).map (fun i => (i.zero, i.size, i.bytes)) = some (some (.slice none 0 0), 1, 24) := by kernel_rfl

set_option maxHeartbeats 4000000 in
set_option maxRecDepth 100000 in
theorem zzRows_calls (W : World) (v : Value) (vs : List Value) (hl : RowsAt W v vs) (hlen : vs.length ≤ 100) :
    Calls Tryz.prog 22 #[v] W fun e w' => ∃ v', e = .returned v' ∧ w'.ownsRow W.heap.size 79 1 v' vs.length vs ∧ Below W.heap.size W w' := by
  obtain ⟨base, c, rfl, hc, hcell⟩ := hl
  have HC := aside hcell
  obtain ⟨i79, hi, hz, hs, hb⟩ := info_parts rowStr_info
  clear hcell
  go_enter Tryz.func22, Tryz.ntmps22
  go_wp2_with fail
  go_loopg [3, 8] vs.length (fun q s3 s8 wr => ∃ k : Nat, s8 = .int .i64 k ∧ k ≤ vs.length ∧ vs.length ≤ q + k ∧ Hid (wr.ownsRow W.heap.size 79 1 s3 k (vs.take k)) ∧ Hid (Below W.heap.size W wr))
  case atStart => exact ⟨0, rfl, by omega, by omega, World.ownsRow_nil _ _ _ _, Below.refl _ _⟩
  case round =>
    obtain ⟨k, rfl, hk, hq, HO, HB⟩ := hrel
    by_cases hlt : k < vs.length
    · have e1 : decide ((k : Int) < (vs.length : Int)) = true := by simp; omega
      have e2 : (k : Int) < (vs.length : Int) := by omega
      obtain ⟨b, o, rfl, hbl, m1, x, y, z, hxyz⟩ := HC.out k hlt
      have r1 : wr.cell? ⟨b, o + k, none⟩ = some (.slice x y z) := by rw [HB.out.cell hbl, m1, hxyz]
      have HX := aside hxyz
      have hBs := HB.out.size
      clear m1 hxyz
      go_wp2_with (at_builtin; refine wpList_append_own _ rfl _ _ 46 rfl W.heap.size 79 i79 _ 1 24 Tryz.underlying46 hi hz hs hb rfl (by decide) _ k _ rfl (HO.out.alloc _) ⟨wr.heap.size, 0, none⟩ 1 1 [.slice x y z] rfl rfl (by intro j u' hj; match j, hj with | 0, hj => (simp at hj; subst hj; simp [Addr.add])) (by intro u' hu'; simp at hu'; subst hu'; rfl) (by unfold maxLen; omega) (by omega) (by simp; omega) ?_)
      intro v2 w2 hown2 hgrow _
      have hB2 : Below W.heap.size W w2 := (HB.out.alloc (by omega) _).grown hgrow (by simp; omega) (fun k' hk' => (HO.out.lt k' hk').1)
      have HB2 := aside hB2
      have HOWN := aside hown2
      clear hB2 hown2 hgrow
      go_wp2_with fail
      go_roundg (vs.length - (k + 1))
      case measure => omega
      case rel =>
        refine ⟨k + 1, by simp, by omega, by omega, ?_, HB2.out⟩
        show World.ownsRow _ _ _ _ _ _ _
        rw [List.take_succ_eq_append_getElem hlt, HX.out]
        exact HOWN.out
    · have e1 : decide ((k : Int) < (vs.length : Int)) = false := by simp; omega
      have hkl : k = vs.length := by omega
      subst hkl
      go_wp2_with fail
      go_ret
      have := HO.out
      rw [List.take_length] at this
      exact ⟨_, rfl, this, HB.out⟩
end Go.Proofs.YteplcmhmjdiimaaGreatDoor
namespace Go.Proofs.YteplcmhmjdiimaaGreatDoor
open Go.RowKit

/-- The package's rules in memory: five cells each. -/
def RulesAt (W : World) (v : Value) (l : List Raw) : Prop :=
  ∃ base c, v = .slice base l.length c ∧ l.length ≤ c ∧ ∀ k, (h : k < l.length) → ∃ b, base = some ⟨b, 0, none⟩ ∧ b < W.heap.size ∧
    W.cell? ⟨b, k * 5, none⟩ = some (.string ⟨#[]⟩) ∧ W.cell? ⟨b, k * 5 + 1, none⟩ = some (.int .i64 l[k].num) ∧ W.cell? ⟨b, k * 5 + 2, none⟩ = some (.int .i64 (l[k].mode : Int)) ∧ W.cell? ⟨b, k * 5 + 3, none⟩ = some (.bool l[k].fold) ∧ W.cell? ⟨b, k * 5 + 4, none⟩ = some .nilFunc

def okRule (cols : Int) (r : Raw) : Bool := decide (0 < r.num) && decide (r.num ≤ cols)

set_option maxHeartbeats 4000000 in
set_option maxRecDepth 100000 in
theorem parse_calls (W : World) (T : Nat) (cols : Int) (v : Value) (l : List Raw) (hl : RulesAt W v l) (hlen : l.length ≤ 100) (hT : T < W.heap.size) (hcol : W.cell? ⟨T, 14, none⟩ = some (.int .i64 cols)) :
    Calls Tryz.prog 27 #[.pointer (some ⟨T, 0, none⟩), v] W fun e w' => ∃ v', e = .returned v' ∧ w'.ownsRow W.heap.size 72 5 v' (l.filter (okRule cols)).length (allCells (l.filter (okRule cols))) ∧ Below W.heap.size W w' := by
  obtain ⟨base, c, rfl, hc, hcell⟩ := hl
  have HC := aside hcell
  have HCOL := aside hcol
  have hsf : ∀ (w : World) (a : Addr) (m : Mode), (store a .nilFunc m).run Tryz.prog w = stored Tryz.prog w a .nilFunc m := fun w a m => run_store Tryz.prog w a .nilFunc m rfl
  obtain ⟨i72, hi, hz, hs, hb⟩ := info_parts sort_info
  clear hcell hcol
  go_enter Tryz.func27, Tryz.ntmps27
  go_wp2_with fail
  go_loopg [5, 13] l.length (fun q s5 s13 wr => ∃ k : Nat, s13 = .int .i64 k ∧ k ≤ l.length ∧ l.length ≤ q + k ∧ Hid (wr.ownsRow W.heap.size 72 5 s5 ((l.take k).filter (okRule cols)).length (allCells ((l.take k).filter (okRule cols)))) ∧ Hid (Below W.heap.size W wr))
  case atStart => exact ⟨0, rfl, by omega, by omega, World.ownsRow_nil _ _ _ _, Below.refl _ _⟩
  case round =>
    obtain ⟨k, rfl, hk, hq, HO, HB⟩ := hrel
    by_cases hlt : k < l.length
    · have e1 : decide ((k : Int) < (l.length : Int)) = true := by simp; omega
      have e2 : (k : Int) < (l.length : Int) := by omega
      obtain ⟨b, rfl, hbl, m0, m1, m2, m3, m4⟩ := HC.out k hlt
      have r0 : wr.cell? ⟨b, k * 5, none⟩ = some (.string ⟨#[]⟩) := by rw [HB.out.cell hbl]; exact m0
      have r1 : wr.cell? ⟨b, k * 5 + 1, none⟩ = some (.int .i64 l[k].num) := by rw [HB.out.cell hbl]; exact m1
      have r2 : wr.cell? ⟨b, k * 5 + 2, none⟩ = some (.int .i64 (l[k].mode : Int)) := by rw [HB.out.cell hbl]; exact m2
      have r3 : wr.cell? ⟨b, k * 5 + 3, none⟩ = some (.bool l[k].fold) := by rw [HB.out.cell hbl]; exact m3
      have r4 : wr.cell? ⟨b, k * 5 + 4, none⟩ = some .nilFunc := by rw [HB.out.cell hbl]; exact m4
      have tc : wr.cell? ⟨T, 14, none⟩ = some (.int .i64 cols) := by rw [HB.out.cell hT]; exact HCOL.out
      obtain ⟨num, hnum⟩ : ∃ num, num = l[k].num := ⟨_, rfl⟩
      obtain ⟨mode, hmode⟩ : ∃ mode, mode = l[k].mode := ⟨_, rfl⟩
      obtain ⟨fold, hfold⟩ : ∃ fold, fold = l[k].fold := ⟨_, rfl⟩
      rw [← hnum] at r1
      rw [← hmode] at r2
      rw [← hfold] at r3
      have HN := aside hnum
      have HM := aside hmode
      have HF := aside hfold
      clear m0 m1 m2 m3 m4 hnum hmode hfold
      go_upto_region 6 with fail
      have hSa := SBAt.new wr ⟨#[]⟩ num mode fold
      obtain ⟨wa, hwa⟩ : ∃ wa, wa = wr.alloc (Obj.cells #[.string ⟨#[]⟩, .int .i64 num, .int .i64 mode, .bool fold, .nilFunc] 72) := ⟨_, rfl⟩
      rw [← hwa] at hSa ⊢
      have hBa : Below W.heap.size W wa := by rw [hwa]; exact HB.out.alloc HB.out.size _
      have tca : wa.cell? ⟨T, 14, none⟩ = some (.int .i64 cols) := by rw [hBa.cell hT]; exact HCOL.out
      have hOa : wa.ownsRow W.heap.size 72 5 u5 ((l.take k).filter (okRule cols)).length (allCells ((l.take k).filter (okRule cols))) := by rw [hwa]; exact HO.out.alloc _
      obtain ⟨F, hF⟩ : ∃ F, F = wr.heap.size := ⟨_, rfl⟩
      rw [← hF] at hSa ⊢
      obtain ⟨c0, c1, c2, c3, c4⟩ := hSa.c
      have HSA := aside hSa
      have HBA := aside hBa
      have HOA := aside hOa
      clear r0 r1 r2 r3 r4 tc hSa hBa hOa hwa hF
      by_cases hpos : 0 < num
      · have p1 : decide (num > 0) = true := by simpa using hpos
        by_cases hle : num ≤ cols
        · have p2 : decide (num ≤ cols) = true := by simpa using hle
          go_quiet (fail)
          obtain ⟨w1, hw1⟩ : ∃ w1, w1 = wa.drewN nq := ⟨_, rfl⟩
          rw [← hw1]
          have hS1 : SBAt w1 F ⟨#[]⟩ num mode fold := by rw [hw1]; exact ⟨HSA.out.blk⟩
          have hB1 : Below W.heap.size W w1 := by rw [hw1]; exact ⟨HBA.out.os, HBA.out.tape, HBA.out.output, HBA.out.size, HBA.out.block⟩
          have hO1 : w1.ownsRow W.heap.size 72 5 u5 ((l.take k).filter (okRule cols)).length (allCells ((l.take k).filter (okRule cols))) := by rw [hw1]; exact HOA.out
          obtain ⟨d0, d1, d2, d3, d4⟩ := hS1.c
          have HB1 := aside hB1
          have HO1 := aside hO1
          have hBs := hB1.size
          clear hw1 hS1 hB1 hO1 c0 c1 c2 c3 c4 tca
          have hfl : ((l.take k).filter (okRule cols)).length ≤ 100 := by have h1 := List.length_filter_le (okRule cols) (l.take k); simp at h1; omega
          go_wp2_with (at_builtin; refine wpList_append_own _ rfl _ _ 39 rfl W.heap.size 72 i72 _ 5 48 Tryz.underlying39 hi hz hs hb rfl (by decide) _ _ _ rfl (HO1.out.alloc _) ⟨w1.heap.size, 0, none⟩ 1 1 (rcells ⟨num, mode, fold⟩) rfl rfl (by intro j u' hj; match j, hj with | 0, hj => (simp [rcells] at hj; subst hj; simp [Addr.add]) | 1, hj => (simp [rcells] at hj; subst hj; simp [Addr.add]) | 2, hj => (simp [rcells] at hj; subst hj; simp [Addr.add]) | 3, hj => (simp [rcells] at hj; subst hj; simp [Addr.add]) | 4, hj => (simp [rcells] at hj; subst hj; simp [Addr.add]) | j + 5, hj => simp [rcells] at hj) (by intro u' hu'; simp [rcells] at hu'; rcases hu' with rfl | rfl | rfl | rfl | rfl <;> rfl) (by unfold maxLen; omega) (by omega) (by simp; omega) ?_)
          intro v2 w2 hown2 hgrow _
          have hB2 : Below W.heap.size W w2 := (HB1.out.alloc (by omega) _).grown hgrow (by simp; omega) (fun k' hk' => (HO1.out.lt k' hk').1)
          have HB2 := aside hB2
          have HOWN := aside hown2
          clear hB2 hown2 hgrow
          go_wp2_with fail
          go_roundg (l.length - (k + 1))
          case measure => omega
          case rel =>
            refine ⟨k + 1, by simp, by omega, by omega, ?_, HB2.out⟩
            show World.ownsRow _ _ _ _ _ _ _
            have e : (l.take (k + 1)).filter (okRule cols) = (l.take k).filter (okRule cols) ++ [⟨num, mode, fold⟩] := by
              rw [List.take_succ_eq_append_getElem hlt, List.filter_append]
              have : okRule cols l[k] = true := by unfold okRule; rw [← HN.out]; simp; omega
              rw [List.filter_cons_of_pos this, HN.out, HM.out, HF.out]
              rfl
            have e2 : allCells ((l.take k).filter (okRule cols) ++ [⟨num, mode, fold⟩]) = allCells ((l.take k).filter (okRule cols)) ++ rcells ⟨num, mode, fold⟩ := by
              unfold allCells; rw [List.flatMap_append]; simp only [List.flatMap_cons, List.flatMap_nil, List.append_nil]
            rw [e, e2, List.length_append]; exact HOWN.out
        · have p2 : decide (num ≤ cols) = false := by simpa using hle
          go_quiet (fail)
          obtain ⟨w1, hw1⟩ : ∃ w1, w1 = wa.drewN nq := ⟨_, rfl⟩
          rw [← hw1]
          have hS1 : SBAt w1 F ⟨#[]⟩ num mode fold := by rw [hw1]; exact ⟨HSA.out.blk⟩
          have hB1 : Below W.heap.size W w1 := by rw [hw1]; exact ⟨HBA.out.os, HBA.out.tape, HBA.out.output, HBA.out.size, HBA.out.block⟩
          have hO1 : w1.ownsRow W.heap.size 72 5 u5 ((l.take k).filter (okRule cols)).length (allCells ((l.take k).filter (okRule cols))) := by rw [hw1]; exact HOA.out
          obtain ⟨d0, d1, d2, d3, d4⟩ := hS1.c
          have HB1 := aside hB1
          have HO1 := aside hO1
          have hBs := hB1.size
          clear hw1 hS1 hB1 hO1 c0 c1 c2 c3 c4 tca
          go_wp2_with fail
          go_roundg (l.length - (k + 1))
          case measure => omega
          case rel =>
            refine ⟨k + 1, by simp, by omega, by omega, ?_, HB1.out⟩
            show World.ownsRow _ _ _ _ _ _ _
            have e : (l.take (k + 1)).filter (okRule cols) = (l.take k).filter (okRule cols) := by
              rw [List.take_succ_eq_append_getElem hlt, List.filter_append]
              have : okRule cols l[k] = false := by unfold okRule; rw [← HN.out]; simp; omega
              simp [this]
            rw [e]; exact HO1.out
      · have p1 : decide (num > 0) = false := by simpa using hpos
        go_quiet (fail)
        obtain ⟨w1, hw1⟩ : ∃ w1, w1 = wa.drewN nq := ⟨_, rfl⟩
        rw [← hw1]
        have hS1 : SBAt w1 F ⟨#[]⟩ num mode fold := by rw [hw1]; exact ⟨HSA.out.blk⟩
        have hB1 : Below W.heap.size W w1 := by rw [hw1]; exact ⟨HBA.out.os, HBA.out.tape, HBA.out.output, HBA.out.size, HBA.out.block⟩
        have hO1 : w1.ownsRow W.heap.size 72 5 u5 ((l.take k).filter (okRule cols)).length (allCells ((l.take k).filter (okRule cols))) := by rw [hw1]; exact HOA.out
        obtain ⟨d0, d1, d2, d3, d4⟩ := hS1.c
        have HB1 := aside hB1
        have HO1 := aside hO1
        have hBs := hB1.size
        clear hw1 hS1 hB1 hO1 c0 c1 c2 c3 c4 tca
        go_wp2_with fail
        go_roundg (l.length - (k + 1))
        case measure => omega
        case rel =>
          refine ⟨k + 1, by simp, by omega, by omega, ?_, HB1.out⟩
          show World.ownsRow _ _ _ _ _ _ _
          have e : (l.take (k + 1)).filter (okRule cols) = (l.take k).filter (okRule cols) := by
            rw [List.take_succ_eq_append_getElem hlt, List.filter_append]
            have : okRule cols l[k] = false := by unfold okRule; rw [← HN.out]; simp; omega
            simp [this]
          rw [e]; exact HO1.out
    · have e1 : decide ((k : Int) < (l.length : Int)) = false := by simp; omega
      have hkl : k = l.length := by omega
      subst hkl
      go_wp2_with fail
      go_ret
      have := HO.out
      rw [List.take_length] at this
      exact ⟨_, rfl, this, HB.out⟩
end Go.Proofs.YteplcmhmjdiimaaGreatDoor
