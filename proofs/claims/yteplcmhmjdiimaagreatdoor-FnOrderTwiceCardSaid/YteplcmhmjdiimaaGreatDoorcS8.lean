/-
  sort.reverseRange_func and breakPatterns_func, which compare nothing: the library's contracts in the words of this proof.
-/
import Derived.Test.YteplcmhmjdiimaaGreatDoorcS0
import Derived.Test.YteplcmhmjdiimaaGreatDoorcShelf
namespace Go.Proofs.YteplcmhmjdiimaaGreatDoor
open Go.RowKit
variable {α : Type} [Inhabited α]

theorem To.of_sortWorld {enc : α → Value} {W W1 : World} {blk off : Nat} {dk : Array α} (h : ∃ n os, W1 = sortWorld enc W blk off n dk os) : To enc blk off dk W W1 := by
  obtain ⟨n, os, rfl⟩ := h
  refine ⟨rfl, rfl, rfl, ?_, fun k hk => ?_⟩
  · unfold sortWorld; rw [Sort.size_grow, Sort.size_putRow, Sort.size_putRow]; show W.heap.size ≤ W.heap.size + _; omega
  · unfold sortWorld; rw [Sort.heap_grow_old _ _ (by rw [Sort.size_putRow]; exact hk)]; rfl

theorem reverseRange_calls (enc : α → Value) (lf : Fn) (la lb : Array Value) (sf : Nat) (sb : Array Value) (blk off a b : Nat) (d : Array α) (w : World)
    (hswap : SwapSwaps Tryz.prog sf sb enc blk off d.size) (hH : Sort.Holds enc w blk off d) (hblk : blk < w.heap.size) (hab : a ≤ b) (hb : b ≤ d.size) (hsz : d.size < 4611686018427387904) :
    Calls Tryz.prog 64 #[.agg #[.func lf la lb, .func (.func sf) #[] sb], .int .i64 a, .int .i64 b] w fun e w' => e = .returned (.tuple #[]) ∧ To enc blk off (Sort.reverseRange d a b) w w' :=
  (Any.reverseRange_func_w Tryz.laysGg30 enc lf la lb sf sb blk off a b d w hswap hH hblk hab hb hsz).mono fun _ _ ⟨he, h⟩ => ⟨he, To.of_sortWorld h⟩

theorem breakPatterns_calls (enc : α → Value) (lf : Fn) (la lb : Array Value) (sf : Nat) (sb : Array Value) (blk off a b : Nat) (d : Array α) (w : World)
    (hswap : SwapSwaps Tryz.prog sf sb enc blk off d.size) (hH : Sort.Holds enc w blk off d) (hblk : blk < w.heap.size) (hab : a ≤ b) (hb : b ≤ d.size) (hsz : d.size < 4611686018427387904) :
    Calls Tryz.prog 62 #[.agg #[.func lf la lb, .func (.func sf) #[] sb], .int .i64 a, .int .i64 b] w fun e w' => e = .returned (.tuple #[]) ∧ To enc blk off (Sort.breakPatterns d a b) w w' :=
  (Any.breakPatterns_func_w Tryz.laysGg28 enc lf la lb sf sb blk off a b d w hswap hH hblk hab hb hsz).mono fun _ _ ⟨he, h⟩ => ⟨he, To.of_sortWorld h⟩
end Go.Proofs.YteplcmhmjdiimaaGreatDoor
