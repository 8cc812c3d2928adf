/-
  What the package's own rows hold, as later steps want it.
-/
import Derived.Test.YteplcmhmjdiimaaGreatDoorcK0
import Derived.Laws.OwnMore
namespace Go.Proofs.YteplcmhmjdiimaaGreatDoor
open Go.RowKit

theorem rowsM_of_own {W' : World} {N : Nat} {v' : Value} {vs : List Value} {rows : List (List ByteArray)} (h : W'.ownsRow N 79 1 v' vs.length vs) (hl : vs.length = rows.length)
    (ht : ∀ k, (hk : k < vs.length) → TextsAt W' vs[k] (rows.getD k [])) : RowsM W' v' rows := by
  rcases h.2 with ⟨rfl, h0⟩ | ⟨g, cap, cur, rfl, hb, hg, hn, hm, hs, htake⟩
  · exact ⟨none, 0, by rw [← hl, h0], by omega, Nat.zero_le _, fun k hk => absurd hk (by omega)⟩
  · refine ⟨some ⟨g, 0, none⟩, cap, by rw [hl], by omega, hm, fun k hk => ?_⟩
    have hc := h.cellAt k (by omega)
    have hk' : k < vs.length := by omega
    rw [List.getElem?_eq_getElem hk'] at hc
    exact ⟨g, 0, vs[k], rfl, (Array.getElem?_eq_some_iff.1 hg).1, by rw [Nat.zero_add]; exact hc, ht k hk'⟩

theorem allCells_get (l : List Raw) : ∀ k, (h : k < l.length) → ∀ j, j < 5 → (allCells l)[k * 5 + j]? = (rcells l[k])[j]? := by
  induction l with
  | nil => intro k h; exact absurd h (by simp)
  | cons r t ih =>
    intro k h j hj
    have e : allCells (r :: t) = rcells r ++ allCells t := rfl
    have hlen : (rcells r).length = 5 := rfl
    rw [e]
    cases k with
    | zero =>
      rw [List.getElem?_append_left (by omega)]
      simp
    | succ k =>
      rw [List.getElem?_append_right (by omega), hlen, show (k + 1) * 5 + j - 5 = k * 5 + j by omega]
      rw [ih k (by simpa using h) j hj]
      rfl

theorem rulesAt_of_own {W' : World} {N : Nat} {v' : Value} {l : List Raw} (h : W'.ownsRow N 72 5 v' l.length (allCells l)) : RulesAt W' v' l := by
  rcases h.2 with ⟨rfl, h0⟩ | ⟨g, cap, cur, rfl, hb, hg, hn, hm, hs, htake⟩
  · exact ⟨none, 0, by rw [h0], by omega, fun k hk => absurd hk (by omega)⟩
  · refine ⟨some ⟨g, 0, none⟩, cap, rfl, hn, fun k hk => ⟨g, rfl, (Array.getElem?_eq_some_iff.1 hg).1, ?_, ?_, ?_, ?_, ?_⟩⟩
    · have := h.cellAt (k * 5) (by omega)
      rw [this]
      exact allCells_get l k hk 0 (by omega)
    · rw [h.cellAt (k * 5 + 1) (by omega)]; exact allCells_get l k hk 1 (by omega)
    · rw [h.cellAt (k * 5 + 2) (by omega)]; exact allCells_get l k hk 2 (by omega)
    · rw [h.cellAt (k * 5 + 3) (by omega)]; exact allCells_get l k hk 3 (by omega)
    · rw [h.cellAt (k * 5 + 4) (by omega)]; exact allCells_get l k hk 4 (by omega)

theorem RulesAt.below {W w : World} {v : Value} {l : List Raw} (h : RulesAt W v l) {N : Nat} (hb : Below N W w) (hN : W.heap.size ≤ N) : RulesAt w v l := by
  obtain ⟨base, c, h1, h2, h4⟩ := h
  refine ⟨base, c, h1, h2, fun k hk => ?_⟩
  obtain ⟨b, e1, e2, e3, e4, e5, e6, e7⟩ := h4 k hk
  have hlt := Nat.lt_of_lt_of_le e2 hN
  refine ⟨b, e1, Nat.lt_of_lt_of_le e2 hb.size, ?_, ?_, ?_, ?_, ?_⟩
  · rw [hb.cell hlt]; exact e3
  · rw [hb.cell hlt]; exact e4
  · rw [hb.cell hlt]; exact e5
  · rw [hb.cell hlt]; exact e6
  · rw [hb.cell hlt]; exact e7
end Go.Proofs.YteplcmhmjdiimaaGreatDoor
