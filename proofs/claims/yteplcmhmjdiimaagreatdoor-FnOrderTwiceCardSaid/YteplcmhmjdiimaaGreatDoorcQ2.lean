/-
  Rules of three cells each in a row of the law's own.
-/
import Derived.Test.YteplcmhmjdiimaaGreatDoorcN0
import Derived.Test.YteplcmhmjdiimaaGreatDoorcL3
namespace Go.Proofs.YteplcmhmjdiimaaGreatDoor
open Go.RowKit

def zcells (r : RawZ) : List Value := [.int .i64 r.num, .int .i64 r.mode, .bool r.fold]
def zAll (l : List RawZ) : List Value := l.flatMap zcells

theorem zAll_length (l : List RawZ) : (zAll l).length = l.length * 3 := by
  induction l with
  | nil => rfl
  | cons r t ih =>
    have e : zAll (r :: t) = zcells r ++ zAll t := rfl
    rw [e, List.length_append, ih]
    simp [zcells]
    omega

theorem zAll_get (l : List RawZ) : ∀ k, (h : k < l.length) → ∀ j, j < 3 → (zAll l)[k * 3 + j]? = (zcells l[k])[j]? := by
  induction l with
  | nil => intro k h; exact absurd h (by simp)
  | cons r t ih =>
    intro k h j hj
    have e : zAll (r :: t) = zcells r ++ zAll t := rfl
    have hlen : (zcells r).length = 3 := rfl
    rw [e]
    cases k with
    | zero =>
      rw [List.getElem?_append_left (by omega)]
      simp
    | succ k =>
      rw [List.getElem?_append_right (by omega), hlen, show (k + 1) * 3 + j - 3 = k * 3 + j by omega]
      rw [ih k (by simpa using h) j hj]
      rfl

theorem zAll_one (l : List RawZ) : ∀ u ∈ zAll l, u.oneCell' = true := by
  intro u hu
  obtain ⟨r, -, hr⟩ := List.mem_flatMap.1 hu
  simp [zcells] at hr
  rcases hr with rfl | rfl | rfl <;> rfl

theorem rules_cells {W : World} {b o c : Nat} {l : List RawZ} (h : RulesM W (.slice (some ⟨b, o, none⟩) l.length c) l) : ∀ j u, (zAll l)[j]? = some u → W.cell? ((⟨b, o, none⟩ : Addr).add j) = some u := by
  obtain ⟨base, c', e, -, -, hcell⟩ := h
  simp only [Value.slice.injEq, true_and] at e
  obtain ⟨rfl, rfl⟩ := e
  intro j u hu
  have hj : j < (zAll l).length := (List.getElem?_eq_some_iff.1 hu).1
  rw [zAll_length] at hj
  have hk : j / 3 < l.length := by omega
  have hr : j % 3 < 3 := by omega
  have hjk : j = j / 3 * 3 + j % 3 := by omega
  have hget := zAll_get l (j / 3) hk (j % 3) hr
  rw [← hjk, hu] at hget
  obtain ⟨b', o', e', -, q0, q1, q2⟩ := hcell (j / 3) hk
  simp only [Option.some.injEq, Addr.mk.injEq, and_true] at e'
  obtain ⟨rfl, rfl⟩ := e'
  have hadd : (⟨b, o, none⟩ : Addr).add j = ⟨b, o + j, none⟩ := by unfold Addr.add; by_cases h0 : j = 0 <;> simp [h0]
  rw [hadd]
  rcases (by omega : j % 3 = 0 ∨ j % 3 = 1 ∨ j % 3 = 2) with e0 | e0 | e0
  · rw [e0] at hget
    rw [show o + j = o + j / 3 * 3 by omega, q0]
    exact hget.symm
  · rw [e0] at hget
    rw [show o + j = o + j / 3 * 3 + 1 by omega, q1]
    exact hget.symm
  · rw [e0] at hget
    rw [show o + j = o + j / 3 * 3 + 2 by omega, q2]
    exact hget.symm

theorem rawAt_of_zown {W' : World} {N : Nat} {v' : Value} {n : Nat} {l : List RawZ} (h : W'.ownsRow N 32 3 v' n (zAll l)) (hn : n = l.length) (h0 : ∀ r ∈ l, 0 ≤ r.mode) : RawAt W' v' (l.map RawZ.raw) := by
  subst hn
  rcases h.2 with ⟨rfl, e0⟩ | ⟨g, cap, cur, rfl, hb, hg, hn, hm, hs, htake⟩
  · exact ⟨none, 0, by rw [List.length_map, e0], by rw [List.length_map]; omega, fun k hk => absurd hk (by rw [List.length_map]; omega)⟩
  · refine ⟨some ⟨g, 0, none⟩, cap, by rw [List.length_map], by rw [List.length_map]; exact hn, fun k hk => ?_⟩
    rw [List.length_map] at hk
    have h0k := h0 _ (List.getElem_mem hk)
    simp only [List.getElem_map]
    refine ⟨g, 0, rfl, (Array.getElem?_eq_some_iff.1 hg).1, ?_, ?_, ?_⟩
    · rw [Nat.zero_add, h.cellAt (k * 3) (by omega)]
      exact zAll_get l k hk 0 (by omega)
    · rw [Nat.zero_add, h.cellAt (k * 3 + 1) (by omega), zAll_get l k hk 1 (by omega)]
      show some (Value.int .i64 l[k].mode) = some (.int .i64 ((l[k].mode.toNat : Nat) : Int))
      rw [Int.toNat_of_nonneg h0k]
    · rw [Nat.zero_add, h.cellAt (k * 3 + 2) (by omega)]
      exact zAll_get l k hk 2 (by omega)

theorem zcells_one (r : RawZ) : ∀ u ∈ zcells r, u.oneCell' = true := by
  intro u hu
  simp [zcells] at hu
  rcases hu with rfl | rfl | rfl <;> rfl

theorem add_of (b j : Nat) : (⟨b, 0, none⟩ : Addr).add j = ⟨b, j, none⟩ := by
  unfold Addr.add
  by_cases h : j = 0 <;> simp [h]

theorem new_cells (w : World) (r : RawZ) : ∀ j u, (zcells r)[j]? = some u → (w.alloc (.cells (zcells r).toArray 32)).cell? ((⟨w.heap.size, 0, none⟩ : Addr).add j) = some u := by
  intro j u hu
  rw [add_of]
  simpa using hu

theorem kept_two {w w' : World} {r : RawZ} {x : Array Value} (hg : ((w.alloc (.cells x 32)).alloc (.cells (zcells r).toArray 32)).grownBy w' (Value.slice (some ⟨w.heap.size, 0, none⟩) 0 0).ownBlock) :
    ∀ j u, (zcells r)[j]? = some u → w'.cell? ((⟨w.heap.size + 1, 0, none⟩ : Addr).add j) = some u := by
  intro j u hu
  have h := new_cells (w.alloc (.cells x 32)) r j u hu
  rw [show (w.alloc (.cells x 32)).heap.size = w.heap.size + 1 by simp] at h
  refine hg.cell h ?_
  rw [add_of]
  simp [Value.ownBlock]

theorem kept_three {w w' : World} {r : RawZ} {x : Array Value} (hg : ((w.alloc (.cells (zcells r).toArray 32)).alloc (.cells x 32)).grownBy w' (Value.slice (some ⟨w.heap.size + 1, 0, none⟩) 0 0).ownBlock) :
    ∀ j u, (zcells r)[j]? = some u → w'.cell? ((⟨w.heap.size, 0, none⟩ : Addr).add j) = some u := by
  intro j u hu
  have h := new_cells w r j u hu
  have h2 : ((w.alloc (.cells (zcells r).toArray 32)).alloc (.cells x 32)).cell? ((⟨w.heap.size, 0, none⟩ : Addr).add j) = some u := by
    rw [((Below.refl _ (w.alloc (.cells (zcells r).toArray 32))).alloc (Nat.le_refl _) (.cells x 32)).cell (by rw [add_of]; simp)]
    exact h
  refine hg.cell h2 ?_
  rw [add_of]
  simp [Value.ownBlock]

theorem made_three {w : World} {C : Obj} {base : Nat} (h : base ≤ w.heap.size) : ((w.alloc C).alloc (.cells #[] 32)).ownsRow base 32 3 (.slice (some ⟨w.heap.size + 1, 0, none⟩) 0 0) 0 [] := by
  have h1 := World.ownsRow_made (e := 32) (size := 3) (w.alloc C) #[] 0 (base := base) (by simp; omega) (Nat.zero_le _) rfl
  rw [show (w.alloc C).heap.size = w.heap.size + 1 by simp] at h1
  exact h1

theorem impl_info : (Tryz.prog.info? 32).map (fun i => (i.zero, i.size, i.bytes)) = some (some (.agg #[.int .i64 0, .int .i64 0, .bool false]), 3, 24) := by kernel_rfl
end Go.Proofs.YteplcmhmjdiimaaGreatDoor
