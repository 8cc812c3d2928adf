/-
  The words for sort.Slice over a comparison that makes memory: 'To' (the world is as it was but that the sorted row holds dk, and that there are new blocks), what is asked of the comparison ('LessB') and of the swap.
  sort.insertionSort_func over a comparison that makes memory: the row holds Sort.insertionSort behind it.
-/
import Derived.Test.YteplcmhmjdiimaaGreatDoorProg
import Derived.WalkKit
import Derived.Sort.WalkA
import Derived.Sort.Grow
import Derived.Deep.LoopGhost
import Derived.Shelf.GgSortFunc.Compose
namespace Go.Proofs.YteplcmhmjdiimaaGreatDoor
open Go.RowKit
variable {α : Type} [Inhabited α]

/-- A fact put aside: the walk does not look behind the name. -/
theorem hid {p : Prop} (h : p) : Hid p := h

theorem below_setCell2 {B : Nat} {X Y : World} (h : Below B X Y) (p : Addr) (v : Value) : Below B (X.setCell p v) (Y.setCell p v) :=
  ⟨h.os, h.tape, h.output, by simp only [World.setCell, Array.size_modify]; exact h.size, fun k hk => by
    simp only [World.setCell, Array.getElem?_modify, h.block k hk]⟩

theorem below_putRow {B : Nat} {X Y : World} (h : Below B X Y) (enc : α → Value) (blk off : Nat) (d : Array α) : Below B (Sort.putRow enc X blk off d) (Sort.putRow enc Y blk off d) :=
  ⟨h.os, h.tape, h.output, by rw [Sort.size_putRow, Sort.size_putRow]; exact h.size, fun k hk => by
    simp only [Sort.putRow, Sort.mapBlock, Array.getElem?_modify, h.block k hk]⟩

/-- W' is W, but that the row at (blk, off) holds dk; and new blocks, and draws. -/
def To (enc : α → Value) (blk off : Nat) (dk : Array α) (W W' : World) : Prop := Below W.heap.size (Sort.putRow enc W blk off dk) W'

section
variable {enc : α → Value} {blk off : Nat} {dk d0 : Array α} {W W1 W2 : World}

theorem To.start (h : Sort.Holds enc W blk off dk) : To enc blk off dk W W := by
  unfold To; rw [Sort.putRow_self enc W blk off dk h]; exact Below.refl _ _
theorem To.size (h : To enc blk off dk W W1) : W.heap.size ≤ W1.heap.size := by
  have := Below.size h; rwa [Sort.size_putRow] at this
theorem To.below (h : To enc blk off dk W W1) (hb : Below W1.heap.size W1 W2) : To enc blk off dk W W2 :=
  Below.trans h (hb.mono h.size)
theorem To.alloc (h : To enc blk off dk W W1) (o : Obj) : To enc blk off dk W (W1.alloc o) := Below.alloc h h.size o
theorem To.setNew (h : To enc blk off dk W W1) {p : Addr} (hp : W.heap.size ≤ p.block) (v : Value) : To enc blk off dk W (W1.setCell p v) := Below.setCell h hp v
theorem To.drewN (h : To enc blk off dk W W1) (n : Nat) : To enc blk off dk W (W1.drewN n) := ⟨h.os, h.tape, h.output, h.size', h.block⟩
  where h.size' := Below.size h
theorem To.trans {dk' : Array α} (h : To enc blk off dk W W1) (k : To enc blk off dk' W1 W2) (hs : dk'.size = dk.size) : To enc blk off dk' W W2 := by
  have a := below_putRow h enc blk off dk'
  rw [Sort.putRow_putRow enc W blk off dk dk' hs] at a
  exact a.trans (Below.mono k h.size)
theorem To.swap (h : To enc blk off dk W W1) (i j : Nat) (hi : i < dk.size) (hj : j < dk.size) :
    To enc blk off (Sort.swp dk i j) W ((W1.setCell ⟨blk, off + i, none⟩ (enc dk[j]!)).setCell ⟨blk, off + j, none⟩ (enc dk[i]!)) := by
  have a := below_setCell2 (below_setCell2 h ⟨blk, off + i, none⟩ (enc dk[j]!)) ⟨blk, off + j, none⟩ (enc dk[i]!)
  rw [Sort.putRow_swp enc W blk off dk i j hi hj] at a
  exact a
theorem To.cell (h : To enc blk off dk W W1) {p : Addr} (hp : p.block < W.heap.size) (hne : p.block ≠ blk) : W1.cell? p = W.cell? p := by
  rw [Below.cell h hp, Sort.cell?_putRow_other enc W blk off dk p (Or.inl hne)]
theorem To.frozen (h : To enc blk off dk W W1) {p : Addr} (hp : p.block < W.heap.size) : W1.frozen? p = W.frozen? p := by
  rw [Below.frozen h hp, Sort.frozen?_putRow]
theorem To.heap (h : To enc blk off dk W W1) {k : Nat} (hk : k < W.heap.size) (hne : k ≠ blk) : W1.heap[k]? = W.heap[k]? := by
  rw [Below.block h k hk]; simp only [Sort.putRow, Sort.mapBlock, Array.getElem?_modify]; rw [if_neg (Ne.symm hne)]
theorem To.holds (h : To enc blk off dk W W1) (hblk : blk < W.heap.size) (h0 : Sort.Holds enc W blk off d0) (hs : dk.size = d0.size) : Sort.Holds enc W1 blk off dk := fun j hj => by
  have a := Sort.holds_putRow enc W blk off d0 dk h0 hs j hj
  exact ⟨by rw [Below.cell h hblk]; exact a.1, by rw [Below.frozen h hblk]; exact a.2⟩
theorem To.lt (h : To enc blk off dk W W1) (hblk : blk < W.heap.size) : blk < W1.heap.size := Nat.lt_of_lt_of_le hblk h.size

/-- What is asked of the comparison g, bound to lb: in every world that the sort comes to from W it tells lt of the two elements; it may make memory of its own. -/
def LessB (P : Program) (g : Nat) (lb : Array Value) (enc : α → Value) (lt : α → α → Bool) (blk off size : Nat) (W : World) : Prop :=
  ∀ (W1 : World) (dk : Array α), To enc blk off dk W W1 → dk.size = size → ∀ i j : Nat, i < size → j < size →
    Calls P g (#[.int .i64 i, .int .i64 j] ++ lb) W1 fun e w' => e = .returned (.bool (lt dk[i]! dk[j]!)) ∧ Below W1.heap.size W1 w'

theorem LessB.on {P : Program} {g : Nat} {lb : Array Value} {lt : α → α → Bool} {size : Nat} (h : LessB P g lb enc lt blk off size W) (t : To enc blk off dk W W1) (hs : dk.size = size) : LessB P g lb enc lt blk off size W1 :=
  fun W2 dk' t2 hs' i j hi hj => h W2 dk' (t.trans t2 (hs'.trans hs.symm)) hs' i j hi hj

/-- A function's own box of two function values. -/
def Box (B : Nat) (x y : Value) (W : World) : Prop := W.cell? ⟨B, 0, none⟩ = some x ∧ W.cell? ⟨B, 1, none⟩ = some y ∧ B < W.heap.size
theorem Box.to {B : Nat} {x y : Value} (b : Box B x y W) (t : To enc blk off dk W W1) (hne : B ≠ blk) : Box B x y W1 :=
  ⟨(t.cell (p := ⟨B, 0, none⟩) b.2.2 hne).trans b.1, (t.cell (p := ⟨B, 1, none⟩) b.2.2 hne).trans b.2.1, Nat.lt_of_lt_of_le b.2.2 t.size⟩
theorem Box.below {B : Nat} {x y : Value} (b : Box B x y W) (t : Below W.heap.size W W1) : Box B x y W1 :=
  ⟨(t.cell (p := ⟨B, 0, none⟩) b.2.2).trans b.1, (t.cell (p := ⟨B, 1, none⟩) b.2.2).trans b.2.1, Nat.lt_of_lt_of_le b.2.2 t.size⟩
theorem Box.new (W : World) (x y : Value) (t : TypeId) : Box W.heap.size x y (W.alloc (.cells #[x, y] t)) := ⟨by simp, by simp, by simp⟩

/-- The comparison at a place of a walk: its answer, the box, the swap that may follow. -/
theorem LessB.here {P : Program} {g : Nat} {lb : Array Value} {lt : α → α → Bool} {size : Nat} (h : LessB P g lb enc lt blk off size W) {wr : World} (t : To enc blk off dk W wr) (hs : dk.size = size) {B : Nat} {x y : Value} (b : Box B x y wr)
    (i j : Nat) (hi : i < size) (hj : j < size) {v : Bool} (hv : lt dk[i]! dk[j]! = v) :
    Calls P g (#[.int .i64 i, .int .i64 j] ++ lb) wr fun e w' => e = .returned (.bool v) ∧ To enc blk off dk W w' ∧ w'.cell? ⟨B, 0, none⟩ = some x ∧ w'.cell? ⟨B, 1, none⟩ = some y ∧ B < w'.heap.size :=
  (h wr dk t hs i j hi hj).mono fun _ _ ⟨he, hb⟩ => ⟨by rw [he, hv], t.below hb, b.below hb⟩
/-- What stands behind a call of the comparison in a walk: the answer v, the row untouched, the function's own box. -/
def Aft (enc : α → Value) (blk off : Nat) (dk : Array α) (W : World) (B : Nat) (x y : Value) (v : Bool) (e : Ending) (w' : World) : Prop :=
  e = .returned (.bool v) ∧ To enc blk off dk W w' ∧ w'.cell? ⟨B, 0, none⟩ = some x ∧ w'.cell? ⟨B, 1, none⟩ = some y ∧ B < w'.heap.size

/-- The same, and what the swap of places i and j does there. -/
def AftS (P : Program) (enc : α → Value) (blk off : Nat) (dk : Array α) (W : World) (B : Nat) (x y : Value) (v : Bool) (sf : Nat) (sb : Array Value) (i j : Nat) (I J : Int) (e : Ending) (w' : World) : Prop :=
  e = .returned (.bool v) ∧ To enc blk off dk W w' ∧ w'.cell? ⟨B, 0, none⟩ = some x ∧ w'.cell? ⟨B, 1, none⟩ = some y ∧ B < w'.heap.size ∧
    (callFunc sf (#[.int .i64 I, .int .i64 J] ++ sb)).run P w' = .ok (.value (.tuple #[])) ((w'.setCell ⟨blk, off + i, none⟩ (enc dk[j]!)).setCell ⟨blk, off + j, none⟩ (enc dk[i]!))

theorem LessB.at {P : Program} {g : Nat} {lb : Array Value} {lt : α → α → Bool} {size : Nat} (h : LessB P g lb enc lt blk off size W) {wr : World} (t : To enc blk off dk W wr) (hs : dk.size = size) {B : Nat} {x y : Value} (b : Box B x y wr)
    (i j : Nat) (I J : Int) (hI : I = i) (hJ : J = j) (hi : i < size) (hj : j < size) {v : Bool} (hv : lt dk[i]! dk[j]! = v) :
    Calls P g (#[.int .i64 I, .int .i64 J] ++ lb) wr (Aft enc blk off dk W B x y v) := by
  subst hI; subst hJ; exact h.here t hs b i j hi hj hv

theorem LessB.swap {P : Program} {g : Nat} {lb : Array Value} {lt : α → α → Bool} {size : Nat} (h : LessB P g lb enc lt blk off size W) {wr : World} (t : To enc blk off dk W wr) (hs : dk.size = size) {B : Nat} {x y : Value} (b : Box B x y wr)
    (i j : Nat) (I J : Int) (hI : I = i) (hJ : J = j) (hi : i < size) (hj : j < size) {v : Bool} (hv : lt dk[i]! dk[j]! = v)
    {sf : Nat} {sb : Array Value} (hswap : SwapSwaps P sf sb enc blk off size) {dz : Array α} (hz : Sort.Holds enc W blk off dz) (hzs : dk.size = dz.size) (hblk : blk < W.heap.size)
    (p q : Nat) (I' J' : Int) (hI' : I' = p) (hJ' : J' = q) (hp : p < size) (hq : q < size) :
    Calls P g (#[.int .i64 I, .int .i64 J] ++ lb) wr (AftS P enc blk off dk W B x y v sf sb p q I' J') := by
  subst hI'; subst hJ'
  exact (h.at t hs b i j I J hI hJ hi hj hv).mono fun _ w' ⟨he, t', c0, c1, c2⟩ => ⟨he, t', c0, c1, c2, hswap w' dk (t'.holds hblk hz hzs) hs p q hp hq⟩

/-- The box over the two stores of a swap. -/
theorem Box.swapped {B : Nat} {x y : Value} {w1 : World} (b : Box B x y w1) (hne : B ≠ blk) (i j : Nat) (u v : Value) : Box B x y ((w1.setCell ⟨blk, i, none⟩ u).setCell ⟨blk, j, none⟩ v) := by
  have n1 : ∀ k l, (⟨blk, k, none⟩ : Addr) ≠ ⟨B, l, none⟩ := fun k l h => hne (by injection h with h; exact h.symm)
  refine ⟨?_, ?_, ?_⟩
  · rw [World.cell?_setCell_other _ _ _ _ (n1 _ _), World.cell?_setCell_other _ _ _ _ (n1 _ _)]; exact b.1
  · rw [World.cell?_setCell_other _ _ _ _ (n1 _ _), World.cell?_setCell_other _ _ _ _ (n1 _ _)]; exact b.2.1
  · simp only [World.setCell, Array.size_modify]; exact b.2.2

/-- A counter in a cell of its own: a store into it. -/
theorem To.count {cb co : Nat} {s : Int} (h : To (Value.int .i64) cb co #[s] W W1) (t : Int) : To (Value.int .i64) cb co #[t] W (W1.setCell ⟨cb, co, none⟩ (.int .i64 t)) := by
  have a := below_setCell2 h ⟨cb, co, none⟩ (.int .i64 t)
  have e := Sort.putRow_set (Value.int .i64) W cb co #[s] 0 t (by simp)
  rw [Nat.add_zero] at e
  rw [e] at a
  exact a
/-- What is above w0's blocks may change: the row is as it was. -/
theorem To.over {cb co : Nat} {s : Int} {w0 : World} (h : To enc blk off dk w0 W) (hcb : w0.heap.size ≤ cb) (k : To (Value.int .i64) cb co #[s] W W1) : To enc blk off dk w0 W1 :=
  ⟨k.os.trans h.os, k.tape.trans h.tape, k.output.trans h.output, by rw [Sort.size_putRow]; exact Nat.le_trans h.size k.size, fun b hb => by
    rw [k.heap (Nat.lt_of_lt_of_le hb h.size) (by omega)]; exact Below.block h b hb⟩
theorem Box.over {cb co : Nat} {s : Int} {B : Nat} {x y : Value} (b : Box B x y W) (k : To (Value.int .i64) cb co #[s] W W1) (hne : B ≠ cb) : Box B x y W1 := b.to k hne
theorem holds_one {cb co : Nat} {s : Int} (hc : W.cell? ⟨cb, co, none⟩ = some (.int .i64 s)) (hf : W.frozen? ⟨cb, co, none⟩ = false) : Sort.Holds (Value.int .i64) W cb co #[s] := fun j hj => by
  have : j = 0 := by simp at hj; omega
  subst this; exact ⟨hc, hf⟩
theorem one_cells {cb co : Nat} {s : Int} (h : Sort.Holds (Value.int .i64) W cb co #[s]) : W.cell? ⟨cb, co, none⟩ = some (.int .i64 s) ∧ W.frozen? ⟨cb, co, none⟩ = false := h 0 (by simp)
end
end Go.Proofs.YteplcmhmjdiimaaGreatDoor
namespace Go.Proofs.YteplcmhmjdiimaaGreatDoor
open Go.RowKit
variable {α : Type} [Inhabited α]

set_option maxHeartbeats 1000000 in
set_option maxRecDepth 100000 in
theorem insertionSort_calls (enc : α → Value) (lt : α → α → Bool) (g : Nat) (lb : Array Value) (sf : Nat) (sb : Array Value) (blk off a b : Nat) (d : Array α) (w : World)
    (eg : ∀ args w, (callFunc g args).run Tryz.prog w = .ok (.enter g args) w) (hless : LessB Tryz.prog g lb enc lt blk off d.size w) (hswap : SwapSwaps Tryz.prog sf sb enc blk off d.size)
    (hH : Sort.Holds enc w blk off d) (hblk : blk < w.heap.size) (hab : a ≤ b) (hb : b ≤ d.size) (hsz : d.size < 4611686018427387904) :
    Calls Tryz.prog 60 #[.agg #[.func (.func g) #[] lb, .func (.func sf) #[] sb], .int .i64 a, .int .i64 b] w fun e w' =>
      e = .returned (.tuple #[]) ∧ To enc blk off (Sort.insertionSort lt d a b) w w' := by
  have hne : w.heap.size ≠ blk := by omega
  go_enter Tryz.func60, Tryz.ntmps60
  go_wp2
  go_loopw [6] (fun vi wr => ∃ (i : Nat) (dk : Array α), vi = .int .i64 i ∧ a < i ∧ i ≤ b + 1 ∧ dk.size = d.size ∧ To enc blk off dk w wr ∧ Box w.heap.size (.func (.func g) #[] lb) (.func (.func sf) #[] sb) wr ∧
      Hid (Sort.insOuter lt a b i dk = Sort.insOuter lt a b (a + 1) d)) (fun vi _ => b + 1 - (intOf vi).toNat)
  case atStart => exact ⟨a + 1, d, by go_num, by omega, by omega, rfl, (To.start hH).alloc _, Box.new _ _ _ _, rfl⟩
  case round =>
    obtain ⟨i, dk, rfl, hai, hib, hsk, hT, hB, HO⟩ := hrel
    go_wp2
    · have hlt : i < b := by assumption
      go_loopw [7] (fun vj wr2 => ∃ (j : Nat) (dj : Array α), vj = .int .i64 j ∧ a ≤ j ∧ j ≤ i ∧ dj.size = d.size ∧ To enc blk off dj w wr2 ∧ Box w.heap.size (.func (.func g) #[] lb) (.func (.func sf) #[] sb) wr2 ∧
          Hid (Sort.insInner lt a j dj = Sort.insInner lt a i dk)) (fun vj _ => (intOf vj).toNat)
      case atStart => exact ⟨i, dk, rfl, by omega, Nat.le_refl _, hsk, hT, hB, rfl⟩
      case round =>
        clear hT hB hsk
        obtain ⟨j, dj, rfl, haj, hji, hsj, hT, hB, HI⟩ := hrel
        by_cases hja : a < j
        · have e1 : ((j - 1 : Nat) : Int) = (j : Int) - 1 := by omega
          cases hlv : lt dj[j]! dj[j - 1]! with
          | true =>
            have hl : Calls Tryz.prog g (#[.int .i64 j, .int .i64 ((j : Int) - 1)] ++ lb) wr fun e w' => e = .returned (.bool true) ∧ To enc blk off dj w w' ∧ w'.cell? ⟨w.heap.size, 0, none⟩ = some (.func (.func g) #[] lb) ∧ w'.cell? ⟨w.heap.size, 1, none⟩ = some (.func (.func sf) #[] sb) ∧ w.heap.size < w'.heap.size ∧
                (callFunc sf (#[.int .i64 j, .int .i64 ((j : Int) - 1)] ++ sb)).run Tryz.prog w' = .ok (.value (.tuple #[])) ((w'.setCell ⟨blk, off + j, none⟩ (enc dj[j - 1]!)).setCell ⟨blk, off + (j - 1), none⟩ (enc dj[j]!)) := by
              rw [← e1]
              exact (hless.here hT hsj hB j (j - 1) (by omega) (by omega) hlv).mono fun _ w' ⟨he, t, c⟩ => ⟨he, t, c.1, c.2.1, c.2.2, hswap w' dj (t.holds hblk hH hsj) hsj j (j - 1) (by omega) (by omega)⟩
            obtain ⟨c0, c1, c2⟩ := hB
            clear e1 hT
            go_wp2_with (go_at_fn g; refine hl.mono ?_; rintro e w1 ⟨rfl, t1, d0, d1, d2, hs⟩)
            go_roundw
            case rel =>
              (repeat apply Exists.intro)
              refine ⟨⟨j - 1, Sort.swp dj j (j - 1), by (first | (congr 1; done) | (congr 1; omega)), by omega, by omega, by rw [Sort.size_swp]; exact hsj, t1.swap j (j - 1) (by omega) (by omega), ?_, (insInner_go lt a j dj hja hlv).symm.trans HI.out⟩, by rw [decide_eq_true hlt, show ((j - 1 : Nat) : Int) = (j : Int) - 1 by omega]⟩
              exact Box.to (enc := enc) (blk := blk) (off := off) (W := w1) ⟨d0, d1, d2⟩ ((To.start (t1.holds hblk hH hsj)).swap j (j - 1) (by omega) (by omega)) hne
            case measure => simp [intOf]; omega
          | false =>
            have hl : Calls Tryz.prog g (#[.int .i64 j, .int .i64 ((j : Int) - 1)] ++ lb) wr fun e w' => e = .returned (.bool false) ∧ To enc blk off dj w w' ∧ w'.cell? ⟨w.heap.size, 0, none⟩ = some (.func (.func g) #[] lb) ∧ w'.cell? ⟨w.heap.size, 1, none⟩ = some (.func (.func sf) #[] sb) ∧ w.heap.size < w'.heap.size := by
              rw [← e1]
              exact hless.here hT hsj hB j (j - 1) (by omega) (by omega) hlv
            obtain ⟨c0, c1, c2⟩ := hB
            clear e1 hT
            go_wp2_with (go_at_fn g; refine hl.mono ?_; rintro e w1 ⟨rfl, t1, d0, d1, d2⟩)
            go_roundw
            case rel => exact ⟨i + 1, dj, by go_num, by omega, by omega, hsj, t1, ⟨d0, d1, d2⟩, by show _ = _; rw [← HO.out, insOuter_go _ _ _ _ _ hlt, ← HI.out, insInner_stop _ _ _ _ (Or.inr hlv)]⟩
            case measure => simp [intOf]; omega
        · obtain ⟨c0, c1, c2⟩ := hB
          go_wp2
          go_roundw
          case rel => exact ⟨i + 1, dj, by go_num, by omega, by omega, hsj, hT, ⟨c0, c1, c2⟩, by show _ = _; rw [← HO.out, insOuter_go _ _ _ _ _ hlt, ← HI.out, insInner_stop _ _ _ _ (Or.inl (by omega))]⟩
          case measure => simp [intOf]; omega
    · have hge : ¬ i < b := by assumption
      go_end0
      exact ⟨rfl, by unfold Sort.insertionSort; rw [← HO.out, insOuter_stop _ _ _ _ _ hge]; exact hT⟩
end Go.Proofs.YteplcmhmjdiimaaGreatDoor
