/-
  sort.Slice over a slice of ints and a comparison that makes memory and tells a strict weak order: the row then holds its elements sorted. Two elements or more; and none or one.
-/
import Derived.Test.YteplcmhmjdiimaaGreatDoorcS9
namespace Go.Proofs.YteplcmhmjdiimaaGreatDoor
open Go.RowKit
variable {α : Type} [Inhabited α]

noncomputable def siT : TypeInfo := (Tryz.prog.info? 26).get (by kernel_rfl)
noncomputable def siE : TypeInfo := (Tryz.prog.info? 3).get (by kernel_rfl)
theorem siK (n : Nat) (h2 : 2 ≤ n) : Lib.swapperK n siE 2 = 5 := by
  have a : siE.hasPointers = false := by kernel_rfl
  have b : siE.bytes = 8 := by kernel_rfl
  have c : (n == 0) = false := by simp; omega
  have d : (n == 1) = false := by simp; omega
  simp [Lib.swapperK, a, b, c, d]

set_option maxRecDepth 100000 in
theorem sortSlice_calls (enc : α → Value) (h1 : ∀ x, (enc x).oneCell' = true) (lt : α → α → Bool) (hO : Sort.SWO lt) (g : Nat) (lb : Array Value) (eg : ∀ args w, (callFunc g args).run Tryz.prog w = .ok (.enter g args) w)
    (blk off c : Nat) (d : Array α) (h2 : 2 ≤ d.size) (hsz : d.size < 4611686018427387904) (w : World) (hless : LessB Tryz.prog g lb enc lt blk off d.size w) (hH : Sort.Holds enc w blk off d) (hblk : blk < w.heap.size) :
    Calls Tryz.prog 28 #[.iface 26 (.slice (some ⟨blk, off, none⟩) d.size c), .func (.func g) #[] lb] w fun e w' =>
      e = .returned (.tuple #[]) ∧ ∃ d', Sort.PermIn 0 d.size d d' ∧ Sort.SortedIn lt 0 d.size d' ∧ To enc blk off d' w w' := by
  refine Any.sort_Slice_of_pdq Tryz.laysGg6 26 3 siT siE (by kernel_rfl) (by kernel_rfl) (by kernel_rfl) (by kernel_rfl) 2 (fun _ => by kernel_rfl) _ d.size c hsz 53 (by rw [siK _ h2]; kernel_rfl) (.func g) #[] lb w _ ?_
  have hB : sliceBound Tryz.prog 3 siE 2 (some ⟨blk, off, none⟩) d.size c = #[.slice (some ⟨blk, off, none⟩) d.size c, typeHandle Tryz.prog 3] := by
    unfold sliceBound; rw [if_neg (swapperK_gt _ _ _ h2)]
  rw [hB]
  have hT : To enc blk off d w (sliceWorld Tryz.prog Tryz.laysGg6_ren 26 (some ⟨blk, off, none⟩) d.size c w) := ((To.start hH).alloc _).alloc _
  have hlim : Lib.bitLen d.size < 4611686018427387904 := Nat.lt_of_le_of_lt (Lib.bitLen_le d.size 62 (by omega) (by omega)) (by omega)
  have hsw := swapSwaps_of_literal (P := Tryz.prog) true 53 (fun args W => run_callFunc_extern Tryz.func53 (by kernel_rfl) (by kernel_rfl) (by kernel_rfl) (e := Extern.ReflectliteSwapper.swap true) (by kernel_rfl) args W) 3 siE (by kernel_rfl) (by kernel_rfl) (fun _ => by kernel_rfl) enc h1 blk off d.size c
  have hp := pdqsort_calls enc lt hO g lb 53 _ eg (d.size + 1) blk off 0 d.size (Lib.bitLen d.size) d _ (by omega) (hless.on hT rfl) hsw (hT.holds hblk hH rfl) (hT.lt hblk) (Nat.zero_le _) (Nat.le_refl _) hsz hlim (Or.inl rfl)
  have h := Sort.pdq_sorts lt hO d 0 d.size (Lib.bitLen d.size) true true (Nat.zero_le _) (Nat.le_refl _) (Or.inl rfl)
  refine hp.mono ?_
  rintro e w' ⟨rfl, t⟩
  exact ⟨rfl, _, h.1, h.2, hT.trans t h.1.1⟩

set_option maxRecDepth 100000 in
theorem sortSlice_tiny (p : Option Addr) (n c : Nat) (h1 : n ≤ 1) (lf : Fn) (la lb : Array Value) (w : World) :
    Calls Tryz.prog 28 #[.iface 26 (.slice p n c), .func lf la lb] w fun e w' => e = .returned (.tuple #[]) ∧ Below w.heap.size w w' := by
  have hK : Lib.swapperK n siE 2 = n + 1 := by
    rcases Nat.eq_zero_or_pos n with h | h
    · subst h; simp [Lib.swapperK]
    · obtain rfl : n = 1 := by omega
      simp [Lib.swapperK]
  refine (Any.sort_Slice_tiny Tryz.laysGg6 26 3 siT siE (by kernel_rfl) (by kernel_rfl) (by kernel_rfl) (by kernel_rfl) 2 (fun _ => by kernel_rfl) p n c h1 (49 + n) (by
    rw [hK]
    rcases Nat.eq_zero_or_pos n with h | h
    · subst h; kernel_rfl
    · obtain rfl : n = 1 := by omega
      kernel_rfl) lf la lb w).mono ?_
  rintro e w' ⟨rfl, os, rfl⟩
  exact ⟨rfl, ⟨rfl, rfl, rfl, by rw [Sort.size_grow]; omega, fun k hk => Sort.heap_grow_old _ _ hk⟩⟩
end Go.Proofs.YteplcmhmjdiimaaGreatDoor
