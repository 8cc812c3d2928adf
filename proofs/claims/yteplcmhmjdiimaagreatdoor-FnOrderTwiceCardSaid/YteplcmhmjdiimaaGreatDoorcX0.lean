/-
  What the rows' reading gives the walks: the arguments in memory, the library's variables.
-/
import Derived.Test.YteplcmhmjdiimaaGreatDoorcK0
import Derived.Deep.Strs
import Derived.Lib.LaidU8
import Derived.OpenShut
namespace Go.Proofs.YteplcmhmjdiimaaGreatDoor
open Go.RowKit Go.ChangeShapes

theorem cells30 : Tryz.prog.cellsOf 30 = 1 := by kernel_rfl
theorem cells9 : Tryz.prog.cellsOf 9 = 1 := by kernel_rfl
theorem cells32 : Tryz.prog.cellsOf 32 = 3 := by kernel_rfl
theorem cells3 : Tryz.prog.cellsOf 3 = 1 := by kernel_rfl
theorem cells4 : Tryz.prog.cellsOf 4 = 1 := by kernel_rfl
theorem laidOut : laidOutB Tryz.prog = true := by kernel_rfl

theorem add_at (b o j : Nat) : (⟨b, o, none⟩ : Addr).add j = ⟨b, o + j, none⟩ := by
  unfold Addr.add
  by_cases h : j = 0 <;> simp [h]

section
variable {H : Type} {enc : TypeId × Value → H} {W : World} {hd : Bool}

theorem texts_open {fuel : Nat} {cs : List Value} {x : DataW H × List MemPlace} (h : DataW.trod enc Tryz.prog W 0 (fun _ => true) hd fuel 30 cs = some x) : ∃ v l, cs = [v] ∧ TextsAt W v l := by
  rcases Deep.open_strs Tryz.underlying30 Tryz.underlying9 cells9 h with ⟨hcs, -⟩ | ⟨a, len, cap, m, Sx, hcs, hb, hl, hm, hmm, hx, hcell⟩
  · exact ⟨_, [], hcs, .inl ⟨rfl, none, 0, rfl, Nat.zero_le _⟩⟩
  · simp only [if_true] at hmm
    subst hmm
    by_cases h0 : len = 0
    · subst h0
      exact ⟨_, [], hcs, .inl ⟨rfl, _, _, rfl, hm⟩⟩
    · obtain ⟨b, o, sp⟩ := a
      have hc0 := (hcell 0 (by omega)).1
      have hsp : sp = none := by simpa [Addr.add] using World.cell?_spot hc0
      subst hsp
      have hlen : ((List.range len).map Sx).length = len := by simp
      have hblk := World.block_lt_of_cell? W _ hc0
      rw [add_at] at hblk
      refine ⟨_, (List.range len).map Sx, hcs, .inr ⟨b, o, m, by rw [hlen], hblk, by rw [hlen]; exact hl, hm, fun j hj => ?_⟩⟩
      rw [hlen] at hj
      have h1 := hcell j (by omega)
      rw [add_at] at h1
      have e : ((List.range len).map Sx).getD j ByteArray.empty = Sx j := by simp [hj]
      rw [e]
      exact h1

theorem rows_open {fuel : Nat} {v : Value} {x : DataW H × List MemPlace} (h : DataW.trod enc Tryz.prog W 0 (fun _ => true) hd fuel 22 [v] = some x) : ∃ rows, RowsM W v rows := by
  rcases Deep.open_slice1 Tryz.underlying22 cells30 h with ⟨hcs, -⟩ | ⟨a, len, cap, m, n, V, D, Pl, hcs, hb, hl, hm, hmm, hx, hel⟩
  · obtain rfl : v = .slice none 0 0 := by simpa using hcs
    exact ⟨[], none, 0, rfl, Nat.le_refl _, Nat.zero_le _, fun k hk => absurd hk (by simp)⟩
  · obtain rfl : v = .slice (some a) len cap := by simpa using hcs
    simp only [if_true] at hmm
    subst hmm
    have each : ∀ i, i < len → ∃ l, TextsAt W (V i) l := fun i hi => by
      obtain ⟨u, l, e, ht⟩ := texts_open (hel i (by omega)).2
      obtain rfl : V i = u := by simpa using e
      exact ⟨l, ht⟩
    obtain ⟨L, hL⟩ := Deep.choose_lt each
    have hlen : ((List.range len).map L).length = len := by simp
    refine ⟨(List.range len).map L, some a, m, by rw [hlen], by rw [hlen]; exact hl, hm, fun k hk => ?_⟩
    rw [hlen] at hk
    obtain ⟨b, o, sp⟩ := a
    have hc0 := (hel k (by omega)).1
    have hc00 := (hel 0 (by omega)).1
    have hsp : sp = none := by simpa [Addr.add] using World.cell?_spot hc00
    subst hsp
    have hblk := World.block_lt_of_cell? W _ hc0
    rw [add_at] at hc0 hblk
    have e : ((List.range len).map L).getD k [] = L k := by simp [hk]
    exact ⟨b, o, V k, rfl, hblk, hc0, by rw [e]; exact hL k hk⟩

set_option maxRecDepth 100000 in
theorem rules_open {fuel : Nat} {v : Value} {x : DataW H × List MemPlace} (h : DataW.trod enc Tryz.prog W 0 (fun _ => true) hd fuel 23 [v] = some x) : ∃ l, RulesM W v l := by
  rcases Deep.open_slice Tryz.underlying23 h with ⟨hcs, -⟩ | ⟨a, len, cap, m, n, D, Pl, hcs, hb, hl, hm, hmm, hx, hel⟩
  · obtain rfl : v = .slice none 0 0 := by simpa using hcs
    exact ⟨[], none, 0, rfl, Nat.le_refl _, Nat.zero_le _, fun k hk => absurd hk (by simp)⟩
  · obtain rfl : v = .slice (some a) len cap := by simpa using hcs
    simp only [if_true] at hmm
    subst hmm
    rw [cells32] at hel
    have each : ∀ i, i < len → ∃ r : RawZ, W.cell? (a.add (i * 3)) = some (.int .i64 r.num) ∧ W.cell? (a.add (i * 3 + 1)) = some (.int .i64 r.mode) ∧ W.cell? (a.add (i * 3 + 2)) = some (.bool r.fold) := fun i hi => by
      obtain ⟨cs', h1, h2⟩ := hel i (by omega)
      obtain ⟨_, hlen, hcell⟩ := World.cells?_some h1
      obtain ⟨y0, y1, y2, n', -, -, g0, g1, g2⟩ := Deep.trod_struct3 Tryz.underlying32 h2
      match cs', hlen with
      | [c0, c1, c2], _ =>
        have e0 := hcell 0 (by omega)
        have e1 := hcell 1 (by omega)
        have e2 := hcell 2 (by omega)
        rw [Deep.add_add] at e0 e1 e2
        simp only [cells3, cells4, List.drop_zero, List.take_succ_cons, List.take_zero, List.drop_succ_cons] at g0 g1 g2
        obtain ⟨k0, h0, -⟩ := DataW.trod_int Tryz.underlying3 g0
        obtain ⟨k1, h1', -⟩ := DataW.trod_int Tryz.underlying3 g1
        obtain ⟨k2, h2', -⟩ := DataW.trod_bool Tryz.underlying4 g2
        refine ⟨⟨k0, k1, k2⟩, ?_, ?_, ?_⟩
        · have : c0 = .int .i64 k0 := by simpa using h0
          subst this; simpa using e0
        · have : c1 = .int .i64 k1 := by simpa using h1'
          subst this; simpa using e1
        · have : c2 = .bool k2 := by simpa using h2'
          subst this; simpa using e2
    have each' : ∀ i, i < len → ∃ r : Int × Int × Bool, W.cell? (a.add (i * 3)) = some (.int .i64 r.1) ∧ W.cell? (a.add (i * 3 + 1)) = some (.int .i64 r.2.1) ∧ W.cell? (a.add (i * 3 + 2)) = some (.bool r.2.2) := fun i hi => by
      obtain ⟨r, h⟩ := each i hi
      exact ⟨(r.num, r.mode, r.fold), h⟩
    obtain ⟨R, hR⟩ := Deep.choose_lt each'
    have hlen : ((List.range len).map fun i => RawZ.mk (R i).1 (R i).2.1 (R i).2.2).length = len := by simp
    refine ⟨(List.range len).map fun i => RawZ.mk (R i).1 (R i).2.1 (R i).2.2, some a, m, by rw [hlen], by rw [hlen]; exact hl, hm, fun k hk => ?_⟩
    rw [hlen] at hk
    obtain ⟨b, o, sp⟩ := a
    obtain ⟨q0, q1, q2⟩ := hR k hk
    have hc00 := (hR 0 (by omega)).1
    have hsp : sp = none := by simpa [Addr.add] using World.cell?_spot hc00
    subst hsp
    have hblk := World.block_lt_of_cell? W _ q0
    rw [add_at] at q0 q1 q2 hblk
    simp only [List.getElem_map, List.getElem_range]
    exact ⟨b, o, rfl, hblk, q0, q1, q2⟩
end
end Go.Proofs.YteplcmhmjdiimaaGreatDoor
