/-
  The comparison where no rule is left; the sort of the places.
-/
import Derived.Test.YteplcmhmjdiimaaGreatDoorcK2
namespace Go.Proofs.YteplcmhmjdiimaaGreatDoor
open Go.RowKit

set_option maxHeartbeats 4000000 in
set_option maxRecDepth 100000 in
theorem closure_nil (W : World) (blk n bi bp bt : Nat) (pb : Option Addr) (pc : Nat) (a b i j : Nat) (hi : i < n) (hj : j < n) (g1 : ∃ c, W.cell? ⟨bi, 0, none⟩ = some (.slice (some ⟨blk, 0, none⟩) n c)) (g2 : W.cell? ⟨bp, 0, none⟩ = some (.slice pb 0 pc))
    (h1 : W.cell? ⟨blk, i, none⟩ = some (.int .i64 a)) (h2 : W.cell? ⟨blk, j, none⟩ = some (.int .i64 b)) :
    Calls Tryz.prog 29 #[.int .i64 i, .int .i64 j, .pointer (some ⟨bi, 0, none⟩), .pointer (some ⟨bp, 0, none⟩), .pointer (some ⟨bt, 0, none⟩)] W fun e w' =>
      e = .returned (.bool false) ∧ Below W.heap.size W w' := by
  obtain ⟨cc, g1⟩ := g1
  have q1 : (i : Int) < (n : Int) := by omega
  have q2 : (j : Int) < (n : Int) := by omega
  go_enter Tryz.func29, Tryz.ntmps29
  go_wp2_with fail
  go_quiet (fail)
  go_wp2_with fail
  obtain ⟨w0, hw0⟩ : ∃ w0, w0 = W.drewN nq := ⟨_, rfl⟩
  rw [← hw0]
  have hB0 : Below W.heap.size W w0 := by rw [hw0]; exact ⟨rfl, rfl, rfl, Nat.le_refl _, fun _ _ => rfl⟩
  have HB0 := aside hB0
  clear hw0 hB0 g1 g2 h1 h2 q1 q2
  go_loopg [8, 9, 29] 0 (fun q s8 s9 s29 wr => s29 = .int .i64 0 ∧ s8 = .bool false ∧ s9 = .bool false ∧ Hid (Below W.heap.size W wr))
  case atStart => exact ⟨rfl, rfl, rfl, HB0.out⟩
  case round =>
    obtain ⟨rfl, rfl, rfl, HB⟩ := hrel
    go_wp2_with fail
    go_ret
    exact ⟨rfl, HB.out⟩

theorem closure_enter (args : Array Value) (w : World) : (callFunc 29 args).run Tryz.prog w = .ok (.enter 29 args) w := by
  have hn : (Tryz.f29.name == "runtime.NumGoroutine") = false := by kernel_rfl
  obtain ⟨c, hc⟩ : ∃ c, Tryz.f29.body = some c := ⟨_, rfl⟩
  have h1 : Tryz.f29.name ≠ "runtime.NumGoroutine" := by simpa using hn
  simp [callFunc, Tryz.func29, h1, hc]

/-- All places of a row of m + 1. -/
def places (m : Nat) : Array (Fin (m + 1)) := Array.ofFn id
theorem places_size (m : Nat) : (places m).size = m + 1 := by simp [places]
theorem places_get (m j : Nat) (h : j < m + 1) : (places m)[j]! = ⟨j, h⟩ := by
  rw [getElem!_pos _ j (by rw [places_size]; exact h)]
  simp [places]

theorem places_perm {m : Nat} {d' : Array (Fin (m + 1))} (h : Sort.PermIn 0 (m + 1) (places m) d') : (d'.toList.map Fin.val).Perm (List.range (m + 1)) := by
  obtain ⟨h1, -, h3⟩ := h
  have hsz := places_size m
  have e1 : d'.extract 0 (m + 1) = d' := Array.extract_eq_self_of_le (by omega)
  have e2 : (places m).extract 0 (m + 1) = places m := Array.extract_eq_self_of_le (by omega)
  rw [e1, e2] at h3
  have h4 := h3.map Fin.val
  have e3 : (places m).toList.map Fin.val = List.range (m + 1) := by
    unfold places
    apply List.ext_getElem
    · simp
    · intro i h1 h2
      rw [List.getElem_map, Array.getElem_toList, Array.getElem_ofFn, List.getElem_range]
      rfl
  rw [e3] at h4
  exact h4

theorem below_of_to {α : Type} [Inhabited α] {enc : α → Value} {blk off N : Nat} {d : Array α} {W w w' : World} (h : To enc blk off d w w') (hb : Below N W w) (hN : N ≤ w.heap.size) (hblk : N ≤ blk) : Below N W w' := by
  refine ⟨?_, ?_, ?_, Nat.le_trans hb.size h.size, fun k hk => ?_⟩
  · exact (Below.os h).trans hb.os
  · exact (Below.tape h).trans hb.tape
  · exact (Below.output h).trans hb.output
  · rw [h.heap (Nat.lt_of_lt_of_le hk hN) (by omega)]; exact hb.block k hk

theorem places_holds {m blk : Nat} {w : World} (h : ∀ j, j < m + 1 → w.cell? ⟨blk, j, none⟩ = some (.int .i64 (j : Int)) ∧ w.frozen? ⟨blk, j, none⟩ = false) : Sort.Holds (encF m) w blk 0 (places m) := fun j hj => by
  rw [places_size] at hj
  rw [places_get m j hj, Nat.zero_add]
  exact h j hj
end Go.Proofs.YteplcmhmjdiimaaGreatDoor
