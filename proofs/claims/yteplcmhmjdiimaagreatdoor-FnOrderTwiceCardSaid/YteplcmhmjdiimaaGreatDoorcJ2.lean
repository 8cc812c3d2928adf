/-
  getSortedRowIndices: what lies in its boxes; the sort of the places.
  getSortedRowIndices: the places of the rows, sorted.
  ZzOrder and impl.Order.
-/
import Derived.Test.YteplcmhmjdiimaaGreatDoorcJ1
import Derived.Deep.RegionHeld3
namespace Go.Proofs.YteplcmhmjdiimaaGreatDoor
open Go.RowKit

theorem int_info : (Tryz.prog.info? 3).map (fun i => (i.zero, i.size, i.bytes)) = some (some (.int .i64 0), 1, 8) := by kernel_rfl

/-- The places in the row blk, the first k of them filled in. -/
def Fill (w : World) (blk n k : Nat) : Prop :=
  blk < w.heap.size ∧ ∀ j, j < n → w.cell? ⟨blk, j, none⟩ = some (.int .i64 ((if j < k then j else 0 : Nat) : Int)) ∧ w.frozen? ⟨blk, j, none⟩ = false

theorem Fill.start {w : World} {base n : Nat} {blk : Nat} (h : w.ownsRow base 3 1 (.slice (some ⟨blk, 0, none⟩) n n) n (madeCells #[Value.int .i64 0] n).toList) : Fill w blk n 0 := by
  rcases h.2 with ⟨h0, -⟩ | ⟨g, cap, cur, hv, hb, hg, hn, hm, hs, htake⟩
  · cases h0
  · simp only [Value.slice.injEq, Option.some.injEq, Addr.mk.injEq] at hv
    obtain ⟨⟨rfl, -, -⟩, -, rfl⟩ := hv
    refine ⟨(Array.getElem?_eq_some_iff.1 hg).1, fun j hj => ⟨?_, ?_⟩⟩
    · rw [h.cellAt j (by omega)]
      rw [if_neg (by omega)]
      have e : (madeCells #[Value.int .i64 0] n).toList = List.replicate n (.int .i64 0) := by
        apply List.ext_getElem
        · simp [madeCells]
        · intro i h1 h2
          simp [madeCells, Nat.mod_one]
      rw [e]
      simp [hj]
    · simp only [World.frozen?, hg]
      simp

theorem Fill.put {w : World} {blk n k : Nat} (h : Fill w blk n k) (hk : k < n) : Fill (w.setCell ⟨blk, k, none⟩ (.int .i64 (k : Int))) blk n (k + 1) := by
  refine ⟨by simp [World.setCell]; exact h.1, fun j hj => ⟨?_, ?_⟩⟩
  · by_cases e : j = k
    · subst e
      rw [World.cell?_setCell_same _ _ _ (h.2 j hj).1, if_pos (by omega)]
    · rw [World.cell?_setCell_other _ _ _ _ (by intro e'; exact e (by simpa using (congrArg Addr.off e').symm)), (h.2 j hj).1]
      by_cases e2 : j < k
      · rw [if_pos e2, if_pos (by omega)]
      · rw [if_neg e2, if_neg (by omega)]
  · have := (h.2 j hj).2
    simpa using this

theorem Fill.kept {w w' : World} {blk n k : Nat} (h : Fill w blk n k) (hb : Below w.heap.size w w') : Fill w' blk n k :=
  ⟨Nat.lt_of_lt_of_le h.1 hb.size, fun j hj => ⟨by rw [hb.cell h.1]; exact (h.2 j hj).1, by rw [hb.frozen h.1]; exact (h.2 j hj).2⟩⟩

/-- What stands behind each step of getSortedRowIndices. -/
structure St (W w : World) (T bt blk b3 n k : Nat) : Prop where
  below : Below W.heap.size W w
  fill : Fill w blk n k
  c3 : w.cell? ⟨b3, 0, none⟩ = some (.slice (some ⟨blk, 0, none⟩) n n)
  ct : w.cell? ⟨bt, 0, none⟩ = some (.pointer (some ⟨T, 0, none⟩))
  lt : bt < w.heap.size ∧ b3 < w.heap.size ∧ W.heap.size ≤ bt ∧ W.heap.size ≤ blk ∧ W.heap.size ≤ b3 ∧ bt ≠ blk ∧ b3 ≠ blk

theorem St.put {W w : World} {T bt blk b3 n k : Nat} (h : St W w T bt blk b3 n k) (hk : k < n) : St W (w.setCell ⟨blk, k, none⟩ (.int .i64 (k : Int))) T bt blk b3 n (k + 1) := by
  obtain ⟨l1, l2, l3, l4, l5, l6, l7⟩ := h.lt
  refine ⟨h.below.setCell l4 _, h.fill.put hk, ?_, ?_, ?_⟩
  · rw [World.cell?_setCell_other _ _ _ _ (by intro e; exact l7 (by simpa using (congrArg Addr.block e).symm))]; exact h.c3
  · rw [World.cell?_setCell_other _ _ _ _ (by intro e; exact l6 (by simpa using (congrArg Addr.block e).symm))]; exact h.ct
  · simp only [World.setCell, Array.size_modify]; exact h.lt

theorem St.kept {W w w' : World} {T bt blk b3 n k : Nat} (h : St W w T bt blk b3 n k) (hb : Below w.heap.size w w') : St W w' T bt blk b3 n k := by
  obtain ⟨l1, l2, l3, l4, l5, l6, l7⟩ := h.lt
  have hs := hb.size
  refine ⟨h.below.trans (hb.mono h.below.size), h.fill.kept hb, ?_, ?_, by omega, by omega, l3, l4, l5, l6, l7⟩
  · rw [hb.cell l2]; exact h.c3
  · rw [hb.cell l1]; exact h.ct

theorem St.ints {W w : World} {T bt blk b3 n : Nat} (h : St W w T bt blk b3 n n) : IntsAt w (.slice (some ⟨blk, 0, none⟩) n n) (List.range n) := by
  refine ⟨some ⟨blk, 0, none⟩, n, by simp, by simp, fun k hk => ?_⟩
  have hk' : k < n := by simpa using hk
  refine ⟨blk, 0, rfl, h.fill.1, ?_⟩
  rw [Nat.zero_add, (h.fill.2 k hk').1, if_pos hk']
  simp

/-- What getSortedRowIndices hands back: all places, each once, and none comes behind one that it is less than. -/
def IndPost (W : World) (n m : Nat) (C : Nat → Nat → Nat → Bool × Bool) (e : Ending) (w' : World) : Prop :=
  ∃ v ds, e = .returned v ∧ IntsAt w' v ds ∧ ds.Perm (List.range n) ∧ (∀ i j, (hj : j < ds.length) → (hij : i < j) → lexL ((List.range m).map fun k => C k ds[j] ds[i]) = false) ∧ Below W.heap.size W w'

/-- Rules whose row lies from N on. -/
def RulesN (w : World) (N : Nat) (v : Value) (l : List Raw) : Prop := RulesAt w v l ∧ ∀ g o n c, v = .slice (some ⟨g, o, none⟩) n c → N ≤ g

theorem RulesN.kept {w w' : World} {N : Nat} {v : Value} {l : List Raw} (h : RulesN w N v l) (hb : Below w.heap.size w w') : RulesN w' N v l := ⟨h.1.below hb (Nat.le_refl _), h.2⟩
theorem RulesN.mono {w : World} {N M : Nat} {v : Value} {l : List Raw} (h : RulesN w N v l) (hM : M ≤ N) : RulesN w M v l := ⟨h.1, fun g o n c e => Nat.le_trans hM (h.2 g o n c e)⟩

theorem RulesN.set {w : World} {N b : Nat} {v : Value} {l : List Raw} (h : RulesN w N v l) (hb : b < N) (u : Value) : RulesN (w.setCell ⟨b, 0, none⟩ u) N v l := by
  obtain ⟨⟨base, c, rfl, h2, h4⟩, h3⟩ := h
  refine ⟨⟨base, c, rfl, h2, fun k hk => ?_⟩, h3⟩
  obtain ⟨g, rfl, e2, e3, e4, e5, e6, e7⟩ := h4 k hk
  have hg := h3 g 0 _ _ rfl
  have c0 : ∀ o : Nat, (w.setCell ⟨b, 0, none⟩ u).cell? ⟨g, o, none⟩ = w.cell? ⟨g, o, none⟩ := fun o =>
    World.cell?_setCell_other _ _ _ _ (by intro e; have := congrArg Addr.block e; simp only at this; omega)
  refine ⟨g, rfl, by simp only [World.setCell, Array.size_modify]; exact e2, ?_, ?_, ?_, ?_, ?_⟩
  · rw [c0]; exact e3
  · rw [c0]; exact e4
  · rw [c0]; exact e5
  · rw [c0]; exact e6
  · rw [c0]; exact e7

theorem rulesN_of_own {W' : World} {N : Nat} {v' : Value} {l : List Raw} (h : W'.ownsRow N 72 5 v' l.length (allCells l)) : RulesN W' N v' l := by
  refine ⟨rulesAt_of_own h, fun g o n c hv => ?_⟩
  subst hv
  exact (h.lt g rfl).1

theorem St.set {W w w2 : World} {T bt blk b3 n k : Nat} (h : St W w T bt blk b3 n k) (h2 : St W w2 T bt blk b3 n k) {o : Nat} (v : Value) : St W (w2.setCell ⟨w.heap.size, o, none⟩ v) T bt blk b3 n k := by
  obtain ⟨l1, l2, l3, l4, l5, l6, l7⟩ := h.lt
  have hf := h.fill.1
  have hs := h.below.size
  refine ⟨h2.below.setCell (by show W.heap.size ≤ w.heap.size; omega) _, ⟨by simp only [World.setCell, Array.size_modify]; exact h2.fill.1, fun j hj => ⟨?_, ?_⟩⟩, ?_, ?_, ?_⟩
  · rw [World.cell?_setCell_other _ _ _ _ (by intro e; have := congrArg Addr.block e; simp only at this; omega)]; exact (h2.fill.2 j hj).1
  · have := (h2.fill.2 j hj).2; simpa using this
  · rw [World.cell?_setCell_other _ _ _ _ (by intro e; have := congrArg Addr.block e; simp only at this; omega)]; exact h2.c3
  · rw [World.cell?_setCell_other _ _ _ _ (by intro e; have := congrArg Addr.block e; simp only at this; omega)]; exact h2.ct
  · simp only [World.setCell, Array.size_modify]; exact h2.lt

/-- What less answers for each rule, and that it is an order. -/
structure Sorts (rows : List (List ByteArray)) (fl : List Raw) (n : Nat) (C : Nat → Nat → Nat → Bool × Bool) : Prop where
  nums : ∀ r ∈ fl, 1 ≤ r.num ∧ r.num ≤ 1000
  less : ∀ a b, a < n → b < n → ∀ k, (h : k < fl.length) → (∀ k', k' < k → (C k' a b).1 = true) → ∀ w, Calls Tryz.prog 30 #[.string (cellR rows fl[k] a), .string (cellR rows fl[k] b), SB ⟨#[]⟩ (toRule fl[k]).num (toRule fl[k]).mode (toRule fl[k]).fold] w fun e w' =>
    e = .returned (.tuple #[.bool (C k a b).1, .bool (C k a b).2]) ∧ Below w.heap.size w w'
  swo : ∀ m, m + 1 = n → Sort.SWO (fun (a b : Fin (m + 1)) => lexL ((List.range fl.length).map fun k => C k a.val b.val))

theorem places_less (W wc : World) (T bt blk b3 b5 m : Nat) (rbase : Option Addr) (rc : Nat) (rows : List (List ByteArray)) (fl : List Raw) (pb' : Option Addr) (pc' : Nat)
    (hW : RowsM W (.slice rbase (m + 1) rc) rows) (hlen : rows.length = m + 1) (hrow : wc.cell? ⟨T, 20, none⟩ = some (.slice rbase (m + 1) rc)) (hT : T < W.heap.size)
    (hS : St W wc T bt blk b3 (m + 1) (m + 1)) (h5 : wc.cell? ⟨b5, 0, none⟩ = some (.slice pb' fl.length pc')) (hb5 : b5 ≠ blk ∧ b5 < wc.heap.size) (hR : RulesN wc (blk + 1) (.slice pb' fl.length pc') fl)
    (hfl : fl.length ≤ 100) (C : Nat → Nat → Nat → Bool × Bool) (hC : Sorts rows fl (m + 1) C) :
    LessB Tryz.prog 29 #[.pointer (some ⟨b3, 0, none⟩), .pointer (some ⟨b5, 0, none⟩), .pointer (some ⟨bt, 0, none⟩)] (encF m) (fun a b => lexL ((List.range fl.length).map fun k => C k a.val b.val)) blk 0 (m + 1) wc := by
  obtain ⟨l1, l2, l3, l4, l5, l6, l7⟩ := hS.lt
  have hH := places_holds (m := m) (blk := blk) (w := wc) (fun j hj => by
    have := hS.fill.2 j hj
    rw [if_pos hj] at this
    exact this)
  have hbs := hS.below.size
  cases fl with
  | nil =>
    intro W1 dk t hsz i j hi hj
    have hold := t.holds hS.fill.1 hH (by rw [hsz, places_size])
    have ci := (hold i (by omega)).1
    have cj := (hold j (by omega)).1
    rw [Nat.zero_add] at ci cj
    exact closure_nil W1 blk (m + 1) b3 b5 bt pb' pc' (dk[i]!).val (dk[j]!).val i j hi hj ⟨_, by rw [t.cell l2 l7]; exact hS.c3⟩ (by rw [t.cell hb5.2 hb5.1]; exact h5) ci cj
  | cons r0 fl0 =>
    obtain ⟨fl, hfle⟩ : ∃ fl, fl = r0 :: fl0 := ⟨_, rfl⟩
    rw [← hfle] at h5 hR hfl hC ⊢
    have hpos : 0 < fl.length := by rw [hfle]; simp
    obtain ⟨⟨base, c, e, h2, hp⟩, hR2⟩ := hR
    obtain ⟨rfl, rfl⟩ : pb' = base ∧ pc' = c := by simp only [Value.slice.injEq] at e; exact ⟨e.1, e.2.2⟩
    obtain ⟨P, rfl, hP, -⟩ := hp 0 hpos
    have hPn := hR2 P 0 _ _ rfl
    obtain ⟨rb, rc', e', hrl, hrm, hrc⟩ := hW
    obtain ⟨rfl, rfl⟩ : rbase = rb ∧ rc = rc' := by simp only [Value.slice.injEq] at e'; exact ⟨e'.1, e'.2.2⟩
    obtain ⟨R, ro, u0, rfl, hR0, -, -⟩ := hrc 0 (by omega)
    have hctx : Ctx wc blk (m + 1) b3 b5 bt T P R ro (fun i => rows.getD i []) (fl.map toRule) := by
      refine ⟨l2, hb5.2, l1, by omega, hP, by omega, l7, hb5.1, l6, by omega, by omega, by omega, ⟨_, hS.c3⟩, ⟨pc', by rw [List.length_map]; exact h5⟩, hS.ct, ⟨rc, hrow⟩, fun i hi => ?_, fun k hk => ?_, fun k hk => ?_⟩
      · obtain ⟨R', ro', u, e1, e2, e3, e4⟩ := hrc i (by omega)
        simp only [Option.some.injEq, Addr.mk.injEq] at e1
        obtain ⟨rfl, rfl, -⟩ := e1
        exact ⟨u, by rw [hS.below.cell e2]; exact e3, e4.strRow hS.below (Nat.le_refl _) l4⟩
      · rw [List.length_map] at hk
        obtain ⟨P', e1, e2, e3, e4, e5, e6, e7⟩ := hp k hk
        simp only [Option.some.injEq, Addr.mk.injEq, and_true] at e1
        subst e1
        have hn := hC.nums _ (List.getElem_mem hk)
        have hcast : (((toRule fl[k]).num : Nat) : Int) = fl[k].num := by
          show ((fl[k].num.toNat : Nat) : Int) = fl[k].num
          omega
        simp only [List.getElem_map]
        refine ⟨e3, by rw [hcast]; exact e4, e5, e6, e7⟩
      · rw [List.length_map] at hk
        have hn := hC.nums _ (List.getElem_mem hk)
        simp only [List.getElem_map]
        show 1 ≤ fl[k].num.toNat ∧ fl[k].num.toNat ≤ 1000
        omega
    have h := closure_lessB m wc blk b3 b5 bt T P R ro (fun i => rows.getD i []) (fl.map toRule) hctx (by rw [List.length_map]; exact hfl) hS.fill.1 (places m) hH (places_size m) (fun k a b => C k a.val b.val) (fun a b k hk heq w _ _ => by
      have hk' := hk
      rw [List.length_map] at hk'
      have := hC.less a.val b.val a.isLt b.isLt k hk' heq w
      simp only [List.getElem_map]
      exact this)
    rw [List.length_map] at h
    exact h

/-- What the sort hands back. -/
def SortPost (W : World) (b3 blk n m : Nat) (C : Nat → Nat → Nat → Bool × Bool) (e : Ending) (w' : World) : Prop :=
  e = .returned (.tuple #[]) ∧ ∃ ds : List Nat, IntsAt w' (.slice (some ⟨blk, 0, none⟩) n n) ds ∧ ds.Perm (List.range n) ∧ (∀ i j, (hj : j < ds.length) → (hij : i < j) → lexL ((List.range m).map fun k => C k ds[j] ds[i]) = false) ∧
    w'.cell? ⟨b3, 0, none⟩ = some (.slice (some ⟨blk, 0, none⟩) n n) ∧ Below W.heap.size W w'

theorem places_sort (W wc : World) (T bt blk b3 b5 n : Nat) (rbase : Option Addr) (rc : Nat) (rows : List (List ByteArray)) (fl : List Raw) (pb' : Option Addr) (pc' : Nat)
    (hW : RowsM W (.slice rbase n rc) rows) (hlen : rows.length = n) (hn : n ≤ 60) (hrow : wc.cell? ⟨T, 20, none⟩ = some (.slice rbase n rc)) (hT : T < W.heap.size)
    (hS : St W wc T bt blk b3 n n) (h5 : wc.cell? ⟨b5, 0, none⟩ = some (.slice pb' fl.length pc')) (hb5 : b5 ≠ blk ∧ b5 < wc.heap.size) (hR : RulesN wc (blk + 1) (.slice pb' fl.length pc') fl)
    (hfl : fl.length ≤ 100) (C : Nat → Nat → Nat → Bool × Bool) (hC : Sorts rows fl n C) :
    Calls Tryz.prog 28 #[.iface 26 (.slice (some ⟨blk, 0, none⟩) n n), .func (.func 29) #[] #[.pointer (some ⟨b3, 0, none⟩), .pointer (some ⟨b5, 0, none⟩), .pointer (some ⟨bt, 0, none⟩)]] wc (SortPost W b3 blk n fl.length C) := by
  obtain ⟨l1, l2, l3, l4, l5, l6, l7⟩ := hS.lt
  by_cases h2 : n ≤ 1
  · refine (sortSlice_tiny _ n n h2 _ _ _ wc).mono ?_
    rintro e w' ⟨rfl, hB⟩
    refine ⟨rfl, List.range n, (hS.kept hB).ints, List.Perm.refl _, fun i j hj hij => ?_, (hS.kept hB).c3, hS.below.trans (hB.mono hS.below.size)⟩
    have : j < n := by simpa using hj
    omega
  · obtain ⟨m, rfl⟩ : ∃ m, n = m + 1 := ⟨n - 1, by omega⟩
    have hH := places_holds (m := m) (blk := blk) (w := wc) (fun j hj => by
      have := hS.fill.2 j hj
      rw [if_pos hj] at this
      exact this)
    have hless := places_less W wc T bt blk b3 b5 m rbase rc rows fl pb' pc' hW hlen hrow hT hS h5 hb5 hR hfl C hC
    have hsz := places_size m
    have h := sortSlice_calls (encF m) (fun _ => rfl) _ (hC.swo m rfl) 29 #[.pointer (some ⟨b3, 0, none⟩), .pointer (some ⟨b5, 0, none⟩), .pointer (some ⟨bt, 0, none⟩)] closure_enter blk 0 (m + 1) (places m)
      (by rw [hsz]; omega) (by rw [hsz]; omega) wc (by rw [hsz]; exact hless) hH hS.fill.1
    rw [hsz] at h
    refine h.mono ?_
    rintro e w' ⟨rfl, d', hp, hs, t⟩
    have hd' : d'.size = m + 1 := hp.1.trans hsz
    have hold := t.holds hS.fill.1 hH (by rw [hd', hsz])
    have hlt := t.lt hS.fill.1
    have hperm := places_perm hp
    have hl : (d'.toList.map Fin.val).length = m + 1 := by simp [hd']
    have hget : ∀ j, (hj : j < (d'.toList.map Fin.val).length) → (d'.toList.map Fin.val)[j] = (d'[j]!).val := fun j hj => by
      have hj' : j < d'.size := by simpa using hj
      rw [List.getElem_map, Array.getElem_toList, getElem!_pos d' j hj']
    refine ⟨rfl, d'.toList.map Fin.val, ⟨some ⟨blk, 0, none⟩, m + 1, by rw [hl], by omega, fun k hk => ⟨blk, 0, rfl, hlt, ?_⟩⟩, hperm, fun i j hj hij => ?_, by rw [t.cell l2 l7]; exact hS.c3, below_of_to t hS.below hS.below.size l4⟩
    · rw [hget k hk]
      exact (hold k (by rw [hl] at hk; omega)).1
    · have := hs i j (Nat.zero_le _) hij (by rw [hl] at hj; exact hj)
      rw [hget j hj, hget i (by omega)]
      exact this
end Go.Proofs.YteplcmhmjdiimaaGreatDoor
namespace Go.Proofs.YteplcmhmjdiimaaGreatDoor
open Go.RowKit

set_option maxHeartbeats 4000000 in
set_option maxRecDepth 100000 in
theorem indices_calls (W : World) (T n : Nat) (cols : Int) (rv pv : Value) (l : List Raw) (rows : List (List ByteArray)) (hT : T < W.heap.size) (hrow : W.cell? ⟨T, 20, none⟩ = some rv) (hr : RowsM W rv rows) (hn : rows.length = n) (h60 : n ≤ 60)
    (hcol : W.cell? ⟨T, 14, none⟩ = some (.int .i64 cols)) (hsort : W.cell? ⟨T, 36, none⟩ = some pv) (hl : RulesAt W pv l) (hlen : l.length ≤ 100)
    (C : Nat → Nat → Nat → Bool × Bool) (hC : Sorts rows (l.filter (okRule cols)) n C) :
    Calls Tryz.prog 23 #[.pointer (some ⟨T, 0, none⟩)] W (IndPost W n (l.filter (okRule cols)).length C) := by
  have hrm := hr
  obtain ⟨rbase, rc, rfl, -, -, -⟩ := hr
  rw [hn] at hrow hrm
  have HRM := aside hrm
  have HLEN := aside hn
  have HCC := aside hC
  clear hrm hC
  obtain ⟨pbase, pc, rfl, hpc, hpcell⟩ := hl
  obtain ⟨i3, hi3, hz3, hs3, hb3⟩ := info_parts int_info
  have HROW := aside hrow
  have HSORT := aside hsort
  have HCOL := aside hcol
  have HPC := aside hpcell
  clear hrow hsort hcol hpcell hn
  go_enter Tryz.func23, Tryz.ntmps23
  go_upto_region 1 with fail
  obtain ⟨w0, hw0⟩ : ∃ w0, w0 = W.alloc (Obj.cells #[.pointer (some ⟨T, 0, none⟩)] 45) := ⟨_, rfl⟩
  rw [← hw0]
  have hB0 : Below W.heap.size W w0 := by rw [hw0]; exact (Below.refl _ _).alloc (Nat.le_refl _) _
  have k1 : w0.cell? ⟨T, 20, none⟩ = some (.slice rbase n rc) := by rw [hB0.cell hT]; exact HROW.out
  have k2 : w0.cell? ⟨W.heap.size, 0, none⟩ = some (.pointer (some ⟨T, 0, none⟩)) := by rw [hw0]; simp
  have k3 : w0.heap.size = W.heap.size + 1 := by rw [hw0]; simp
  have HK2 := aside k2
  have HK3 := aside k3
  have HB0 := aside hB0
  have hB0s := hB0.size
  clear hw0 k3 hB0
  go_wp2_with (refine wpList_make_full _ rfl _ _ 26 rfl W.heap.size 3 i3 (.int .i64 0) 1 Tryz.underlying26 hi3 hz3 hs3 .i64 .i64 n n n rfl rfl rfl rfl (by rw [hb3]; omega) (by unfold maxLen; omega) (by omega) ?_)
  intro w1 hown hgrow
  have hF1 := Fill.start hown
  have hB1 : Below w0.heap.size w0 w1 := (Below.refl _ _).grown hgrow (Nat.le_refl _) (fun k h => by cases h)
  obtain ⟨blk, hblk⟩ : ∃ blk, blk = w0.heap.size := ⟨_, rfl⟩
  rw [← hblk] at hF1 ⊢
  have HF1 := aside hF1
  have HB1 := aside hB1
  have HBLK := aside hblk
  clear hown hgrow hF1 hB1 hblk
  go_upto_region 2 with fail
  obtain ⟨w2, hw2⟩ : ∃ w2, w2 = w1.alloc (Obj.cells #[.slice (some ⟨blk, 0, none⟩) n n] 26) := ⟨_, rfl⟩
  rw [← hw2]
  have hst : St W w2 T W.heap.size blk w1.heap.size n 0 := by
    have hb1 : Below W.heap.size W w1 := HB0.out.trans (HB1.out.mono hB0s)
    have h3 : w0.heap.size ≤ w1.heap.size := HB1.out.size
    have h4 := HK3.out
    have h5 := HBLK.out
    have h6 := HF1.out.1
    have hb2 : Below w1.heap.size w1 w2 := by rw [hw2]; exact (Below.refl _ _).alloc (Nat.le_refl _) _
    have h7 : w2.heap.size = w1.heap.size + 1 := by rw [hw2]; simp
    refine ⟨hb1.trans (hb2.mono hb1.size), HF1.out.kept hb2, by rw [hw2]; simp, ?_, by omega, by omega, by omega, by omega, by omega, by omega, by omega⟩
    rw [hb2.cell (by show W.heap.size < w1.heap.size; omega), HB1.out.cell (by show W.heap.size < w0.heap.size; omega)]
    exact HK2.out
  obtain ⟨bt, hbt⟩ : ∃ bt, bt = W.heap.size := ⟨_, rfl⟩
  obtain ⟨b3, hb3'⟩ : ∃ b3, b3 = w1.heap.size := ⟨_, rfl⟩
  have hst' : St W w2 T bt blk b3 n 0 := by rw [hbt, hb3']; exact hst
  have HST := aside hst'
  have k4 : w2.cell? ⟨T, 20, none⟩ = some (.slice rbase n rc) := by rw [hst'.below.cell hT]; exact HROW.out
  have k5 := hst'.ct
  rw [← hbt, ← hb3']
  clear hst hst' hbt hb3' hw2 k1 k2 hB0s
  go_wp2_with fail
  go_loopg [17] n (fun q s17 wr => ∃ k : Nat, s17 = .int .i64 k ∧ k ≤ n ∧ n ≤ q + k ∧ Hid (St W wr T bt blk b3 n k))
  case atStart => exact ⟨0, rfl, by omega, by omega, HST.out⟩
  case round =>
    obtain ⟨k, rfl, hk, hq, HS⟩ := hrel
    by_cases hlt : k < n
    · have e1 : decide ((k : Int) < (n : Int)) = true := by simp; omega
      have e2 : (k : Int) < (n : Int) := by omega
      have r1 := HS.out.c3
      have r2 := (HS.out.fill.2 k hlt).1
      have r3 := (HS.out.fill.2 k hlt).2
      rw [if_neg (Nat.lt_irrefl k)] at r2
      go_wp2_with fail
      go_roundg (n - (k + 1))
      case measure => omega
      case rel => exact ⟨k + 1, by simp, by omega, by omega, HS.out.put hlt⟩
    · have e1 : decide ((k : Int) < (n : Int)) = false := by simp; omega
      have hkn : k = n := by omega
      have r1 := HS.out.c3
      have r2 := HS.out.ct
      have r3 : wr.cell? ⟨T, 36, none⟩ = some (.slice pbase l.length pc) := by rw [HS.out.below.cell hT]; exact HSORT.out
      subst hkn
      by_cases h0 : l.length = 0
      · have e2 : decide (0 < l.length) = false := by rw [h0]; decide
        have hfl : (l.filter (okRule cols)).length = 0 := by have := List.length_filter_le (okRule cols) l; omega
        have HFL := aside hfl
        clear hfl
        go_wp2_with fail
        go_ret
        refine ⟨_, _, rfl, HS.out.ints, List.Perm.refl _, fun i j hj hij => ?_, HS.out.below⟩
        rw [HFL.out]
        rfl
      · have e2 : decide (0 < l.length) = true := decide_eq_true (by omega)
        obtain ⟨fl, hfl⟩ : ∃ fl, fl = l.filter (okRule cols) := ⟨_, rfl⟩
        have HFL := aside hfl
        have hkT : ∀ w, St W w T bt blk b3 k k → T < w.heap.size ∧ T ≠ bt := fun w h => ⟨Nat.lt_of_lt_of_le hT h.below.size, by have := h.lt.2.2.1; omega⟩
        have keep : ∀ w w', (Hid (St W w T bt blk b3 k k) ∧ w.cell? ⟨bt, 0, none⟩ = some (.pointer (some ⟨T, 0, none⟩)) ∧ w.cell? ⟨T, 36, none⟩ = some (.slice pbase l.length pc)) → Below w.heap.size w w' → (Hid (St W w' T bt blk b3 k k) ∧ w'.cell? ⟨bt, 0, none⟩ = some (.pointer (some ⟨T, 0, none⟩)) ∧ w'.cell? ⟨T, 36, none⟩ = some (.slice pbase l.length pc)) := fun w w' hS hB => by
          have h1 := hkT w hS.1.out
          have h2 := hS.1.out.lt.1
          exact ⟨hS.1.out.kept hB, by rw [hB.cell h2]; exact hS.2.1, by rw [hB.cell h1.1]; exact hS.2.2⟩
        have c27 : ∀ w, (Hid (St W w T bt blk b3 k k) ∧ w.cell? ⟨bt, 0, none⟩ = some (.pointer (some ⟨T, 0, none⟩)) ∧ w.cell? ⟨T, 36, none⟩ = some (.slice pbase l.length pc)) → Calls Tryz.prog 27 #[.pointer (some ⟨T, 0, none⟩), .slice pbase l.length pc] w fun e w' => ∃ pb' pc', e = .returned (.slice pb' fl.length pc') ∧ (Hid (St W w' T bt blk b3 k k) ∧ w'.cell? ⟨bt, 0, none⟩ = some (.pointer (some ⟨T, 0, none⟩)) ∧ w'.cell? ⟨T, 36, none⟩ = some (.slice pbase l.length pc)) ∧ Hid (RulesN w' w.heap.size (.slice pb' fl.length pc') fl) ∧ Hid (Below w.heap.size w w') := fun w hS => by
          have hb := hS.1.out.below
          have hcl : w.cell? ⟨T, 14, none⟩ = some (.int .i64 cols) := by rw [hb.cell hT]; exact HCOL.out
          have hra : RulesAt W (.slice pbase l.length pc) l := ⟨pbase, pc, rfl, hpc, HPC.out⟩
          refine (parse_calls w T cols _ l (hra.below hb (Nat.le_refl _)) hlen (hkT w hS.1.out).1 hcl).mono ?_
          rintro e w' ⟨v', rfl, hO, hB⟩
          rw [← HFL.out] at hO
          have hN := rulesN_of_own hO
          obtain ⟨⟨pb', pc', rfl, h2⟩, h3⟩ := hN
          exact ⟨pb', pc', rfl, keep w w' hS hB, ⟨⟨pb', pc', rfl, h2⟩, h3⟩, hB⟩
        have c27a : ∀ (w : World) (o : Value), (Hid (St W (w.alloc (.cells #[o] 39)).drew T bt blk b3 k k) ∧ (w.alloc (.cells #[o] 39)).drew.cell? ⟨bt, 0, none⟩ = some (.pointer (some ⟨T, 0, none⟩)) ∧ (w.alloc (.cells #[o] 39)).drew.cell? ⟨T, 36, none⟩ = some (.slice pbase l.length pc)) → Calls Tryz.prog 27 #[.pointer (some ⟨T, 0, none⟩), .slice pbase l.length pc] (w.alloc (.cells #[o] 39)).drew fun e w' => ∃ pb' pc', e = .returned (.slice pb' fl.length pc') ∧ (Hid (St W w' T bt blk b3 k k) ∧ w'.cell? ⟨bt, 0, none⟩ = some (.pointer (some ⟨T, 0, none⟩)) ∧ w'.cell? ⟨T, 36, none⟩ = some (.slice pbase l.length pc)) ∧ Hid (RulesN w' (w.heap.size + 1) (.slice pb' fl.length pc') fl) ∧
            w'.cell? ⟨w.heap.size, 0, none⟩ = some o ∧ w'.frozen? ⟨w.heap.size, 0, none⟩ = false ∧ Hid (w.heap.size < w'.heap.size) := fun w o hS => by
          refine (c27 (w.alloc (.cells #[o] 39)).drew hS).mono ?_
          rintro e w' ⟨pb', pc', rfl, hS', hO, hB⟩
          have hlt : w.heap.size < (w.alloc (.cells #[o] 39)).drew.heap.size := by simp
          refine ⟨pb', pc', rfl, hS', hO.out.mono (by simp), ?_, ?_, Nat.lt_of_lt_of_le hlt hB.out.size⟩
          · rw [hB.out.cell hlt]; simp
          · rw [hB.out.frozen hlt]; simp
        have kd : ∀ w, (Hid (St W w T bt blk b3 k k) ∧ w.cell? ⟨bt, 0, none⟩ = some (.pointer (some ⟨T, 0, none⟩)) ∧ w.cell? ⟨T, 36, none⟩ = some (.slice pbase l.length pc)) → (Hid (St W w.drew T bt blk b3 k k) ∧ w.drew.cell? ⟨bt, 0, none⟩ = some (.pointer (some ⟨T, 0, none⟩)) ∧ w.drew.cell? ⟨T, 36, none⟩ = some (.slice pbase l.length pc)) := fun w hS => keep w _ hS (Below.refl _ _).drew
        have ka : ∀ (w : World) (o : Obj), (Hid (St W w T bt blk b3 k k) ∧ w.cell? ⟨bt, 0, none⟩ = some (.pointer (some ⟨T, 0, none⟩)) ∧ w.cell? ⟨T, 36, none⟩ = some (.slice pbase l.length pc)) → (Hid (St W (w.alloc o) T bt blk b3 k k) ∧ (w.alloc o).cell? ⟨bt, 0, none⟩ = some (.pointer (some ⟨T, 0, none⟩)) ∧ (w.alloc o).cell? ⟨T, 36, none⟩ = some (.slice pbase l.length pc)) := fun w o hS => keep w _ hS ((Below.refl _ _).alloc (Nat.le_refl _) o)
        have ks : ∀ w w2 v, (Hid (St W w T bt blk b3 k k) ∧ w.cell? ⟨bt, 0, none⟩ = some (.pointer (some ⟨T, 0, none⟩)) ∧ w.cell? ⟨T, 36, none⟩ = some (.slice pbase l.length pc)) → (Hid (St W w2 T bt blk b3 k k) ∧ w2.cell? ⟨bt, 0, none⟩ = some (.pointer (some ⟨T, 0, none⟩)) ∧ w2.cell? ⟨T, 36, none⟩ = some (.slice pbase l.length pc)) → (Hid (St W (w2.setCell ⟨w.heap.size, 0, none⟩ v) T bt blk b3 k k) ∧ (w2.setCell ⟨w.heap.size, 0, none⟩ v).cell? ⟨bt, 0, none⟩ = some (.pointer (some ⟨T, 0, none⟩)) ∧ (w2.setCell ⟨w.heap.size, 0, none⟩ v).cell? ⟨T, 36, none⟩ = some (.slice pbase l.length pc)) := fun w w2 v hS hS2 => by
          have h1 := hkT w hS.1.out
          have h2 := hS.1.out.lt.1
          refine ⟨hS.1.out.set hS2.1.out v, ?_, ?_⟩
          · rw [World.cell?_setCell_other _ _ _ _ (by intro e; have := congrArg Addr.block e; simp only at this; omega)]; exact hS2.2.1
          · rw [World.cell?_setCell_other _ _ _ _ (by intro e; have := congrArg Addr.block e; simp only at this; omega)]; exact hS2.2.2
        have hS0 : (Hid (St W wr T bt blk b3 k k) ∧ wr.cell? ⟨bt, 0, none⟩ = some (.pointer (some ⟨T, 0, none⟩)) ∧ wr.cell? ⟨T, 36, none⟩ = some (.slice pbase l.length pc)) := ⟨HS, r2, r3⟩
        have ksr : ∀ (w2 : World) (v : Value), (Hid (St W w2 T bt blk b3 k k) ∧ w2.cell? ⟨bt, 0, none⟩ = some (.pointer (some ⟨T, 0, none⟩)) ∧ w2.cell? ⟨T, 36, none⟩ = some (.slice pbase l.length pc)) → (Hid (St W (w2.setCell ⟨wr.heap.size, 0, none⟩ v) T bt blk b3 k k) ∧ (w2.setCell ⟨wr.heap.size, 0, none⟩ v).cell? ⟨bt, 0, none⟩ = some (.pointer (some ⟨T, 0, none⟩)) ∧ (w2.setCell ⟨wr.heap.size, 0, none⟩ v).cell? ⟨T, 36, none⟩ = some (.slice pbase l.length pc)) := fun w2 v hS2 => ks wr w2 v hS0 hS2
        have KSR := aside ksr
        clear ksr
        have C27 := aside c27
        have C27A := aside c27a
        have KD := aside kd
        have KA := aside ka
        have KS := aside ks
        clear c27 c27a kd ka ks keep hkT hfl
        go_upto_region 8 with fail
        go_cut [5] (fun s5 wx => ∃ b5 pb' pc', s5 = .pointer (some ⟨b5, 0, none⟩) ∧ wx.cell? ⟨b5, 0, none⟩ = some (.slice pb' fl.length pc') ∧ Hid (St W wx T bt blk b3 k k) ∧ Hid (b5 ≠ blk ∧ b5 < wx.heap.size) ∧ Hid (RulesN wx (blk + 1) (.slice pb' fl.length pc') fl))
        case first =>
          go_region_held3 (fun w' => Hid (St W w' T bt blk b3 k k) ∧ w'.cell? ⟨bt, 0, none⟩ = some (.pointer (some ⟨T, 0, none⟩)) ∧ w'.cell? ⟨T, 36, none⟩ = some (.slice pbase l.length pc))
            (first
              | assumption
              | exact KD.out _ (by assumption)
              | exact KA.out _ _ (by assumption)
              | exact KSR.out _ _ (by assumption)
              | exact KS.out _ _ _ (by assumption) (by assumption))
            (first
              | (go_at_call 27; refine (C27A.out _ _ (by assumption)).mono ?_; rintro e w' ⟨pb', pc', rfl, hS, hO, hc, hf, hz⟩; have hc2 : w'.cell? ⟨wr.heap.size, 0, none⟩ = some (.slice none 0 0) := hc; have hf2 : w'.frozen? ⟨wr.heap.size, 0, none⟩ = false := hf; have hz2 : Hid (wr.heap.size < w'.heap.size) := hz; clear hc hf hz)
              | (go_at_call 27; refine (C27.out _ (by assumption)).mono ?_; rintro e w' ⟨pb', pc', rfl, hS, hO, hB⟩))
          · go_wp2_with fail
            go_meet
            refine ⟨w'.heap.size, pb', pc', rfl, by simp, hS.1.out.kept ((Below.refl _ _).alloc (Nat.le_refl _) _), ?_, ?_⟩
            · have h1 := hS.1.out.fill.1
              exact ⟨by omega, by simp⟩
            · have h1 := HS.out.fill.1
              exact (hO.out.kept ((Below.refl _ _).alloc (Nat.le_refl _) _)).mono h1
          · go_wp2_with fail
            go_meet
            have h1 := HS.out.fill.1
            refine ⟨wr.heap.size, pb', pc', rfl, World.cell?_setCell_same _ _ _ hc2, HS.out.set hS.1.out _, ⟨by omega, by simp only [World.setCell, Array.size_modify]; exact hz2.out⟩, ?_⟩
            exact (hO.out.set (Nat.lt_succ_self _) _).mono (by show blk + 1 ≤ wr.heap.size + 1; omega)
        case rest =>
          obtain ⟨b5, pb', pc', rfl, k5, HS5, HB5, HR5⟩ := hcut
          have k3 := HS5.out.c3
          have hfl100 : fl.length ≤ 100 := by rw [HFL.out]; have := List.length_filter_le (okRule cols) l; omega
          have hCfl : Sorts rows fl k C := by rw [HFL.out]; exact HCC.out
          have c28 := places_sort W wc T bt blk b3 b5 k rbase rc rows fl pb' pc' HRM.out HLEN.out h60 (by rw [HS5.out.below.cell hT]; exact HROW.out) hT HS5.out k5 HB5.out HR5.out hfl100 C hCfl
          have C28 := aside c28
          clear c28 hfl100 hCfl k5
          go_wp2_with (go_at_call 28; refine C28.out.mono ?_; rintro e w6 ⟨rfl, ds, hI, hP, hs, hc3, hB⟩; refine Hid.out ?_)
          refine Lib.hid ?_
          have HRES := aside (And.intro hI (And.intro hP (And.intro hs hB)))
          clear hI hP hs hB k3
          go_wp2_with fail
          go_ret
          exact ⟨_, ds, rfl, HRES.out.1, HRES.out.2.1, by rw [← HFL.out]; exact HRES.out.2.2.1, HRES.out.2.2.2⟩
end Go.Proofs.YteplcmhmjdiimaaGreatDoor
namespace Go.Proofs.YteplcmhmjdiimaaGreatDoor
open Go.RowKit

set_option maxHeartbeats 4000000 in
set_option maxRecDepth 100000 in
theorem zzOrder_calls (W : World) (vr pv : Value) (rows : List (List ByteArray)) (l : List Raw) (cols : Int) (hr : RowsM W vr rows) (hl : RulesAt W pv l) (h60 : rows.length ≤ 60) (hlen : l.length ≤ 100)
    (C : Nat → Nat → Nat → Bool × Bool) (hC : Sorts rows (l.filter (okRule cols)) rows.length C) :
    Calls Tryz.prog 18 #[vr, .int .i64 cols, pv] W (IndPost W rows.length (l.filter (okRule cols)).length C) := by
  obtain ⟨vs, hvl, hra, htx⟩ := hr.vals
  have c22 : Calls Tryz.prog 22 #[vr] W fun e w' => ∃ b c, e = .returned (.slice b rows.length c) ∧ Hid (RowsM w' (.slice b rows.length c) rows) ∧ Hid (Below W.heap.size W w') := by
    refine (zzRows_calls W vr vs hra (by omega)).mono ?_
    rintro e w' ⟨v', rfl, hO, hB⟩
    have h := rowsM_of_own hO hvl (fun k hk => (htx k hk).below hB (Nat.le_refl _))
    obtain ⟨b, c, rfl, h2⟩ := h
    exact ⟨b, c, rfl, ⟨b, c, rfl, h2⟩, hB⟩
  have C22 := aside c22
  have HL := aside hl
  have HC := aside hC
  obtain ⟨pb, pc, rfl, -, -⟩ := hl
  clear hr hra htx c22 hC hvl
  go_enter Tryz.func18, Tryz.ntmps18
  go_wp2_with (go_at_call 22; refine C22.out.mono ?_; rintro e w1 ⟨b, c, rfl, HR1, HB1⟩; refine Hid.out ?_)
  refine Lib.hid ?_
  go_wp2_with (refine wpList_build rfl 67 _ rfl (by kernel_rfl) ?_; refine Hid.out ?_)
  obtain ⟨cs, hcs⟩ : ∃ cs, cs = (Tryz.prog.built 67 [(14, .int .i64 cols), (18, .slice b rows.length c), (34, .slice pb l.length pc)]).getD #[] := ⟨_, rfl⟩
  have e14 : cs[14]? = some (.int .i64 cols) := by rw [hcs]; kernel_rfl
  have e20 : cs[20]? = some (.slice b rows.length c) := by rw [hcs]; kernel_rfl
  have e36 : cs[36]? = some (.slice pb l.length pc) := by rw [hcs]; kernel_rfl
  refine Lib.hid ?_
  rw [← hcs]
  have E14 := aside e14
  have E20 := aside e20
  have E36 := aside e36
  clear hcs e14 e20 e36
  go_upto_region 2 with fail
  obtain ⟨w2, hw2⟩ : ∃ w2, w2 = w1.alloc (Obj.cells cs 67) := ⟨_, rfl⟩
  rw [← hw2]
  obtain ⟨T, hTe⟩ : ∃ T, T = w1.heap.size := ⟨_, rfl⟩
  rw [← hTe]
  have hB2 : Below w1.heap.size w1 w2 := by rw [hw2]; exact (Below.refl _ _).alloc (Nat.le_refl _) _
  have hBW : Below W.heap.size W w2 := HB1.out.trans (hB2.mono HB1.out.size)
  have hT : T < w2.heap.size := by rw [hw2, hTe]; simp
  have cells : ∀ i v, cs[i]? = some v → w2.cell? ⟨T, i, none⟩ = some v := fun i v h => by
    rw [hw2, hTe]
    simpa using h
  have c23 := indices_calls w2 T rows.length cols _ _ l rows hT (cells 20 _ E20.out) (HR1.out.below hB2 (Nat.le_refl _)) rfl h60 (cells 14 _ E14.out) (cells 36 _ E36.out) (HL.out.below hBW (Nat.le_refl _)) hlen C HC.out
  have C23 := aside c23
  have HBW := aside hBW
  clear c23 cells hB2 hBW hT hw2 hTe
  go_wp2_with (go_at_call 23; refine C23.out.mono ?_; rintro e w3 ⟨v, ds, rfl, hI, hP, hs, hB⟩; refine Hid.out ?_)
  refine Lib.hid ?_
  have HRES := aside (And.intro hI (And.intro hP (And.intro hs (HBW.out.trans (hB.mono HBW.out.size)))))
  clear hI hP hs hB
  go_wp2_with fail
  go_ret
  exact ⟨_, ds, rfl, HRES.out.1, HRES.out.2.1, HRES.out.2.2.1, HRES.out.2.2.2⟩

set_option maxHeartbeats 4000000 in
set_option maxRecDepth 100000 in
theorem order_calls (W : World) (vr vl : Value) (rows : List (List ByteArray)) (l : List Raw) (cols : Int) (hr : RowsM W vr rows) (hl : RawAt W vl l) (h60 : rows.length ≤ 60) (hlen : l.length ≤ 100)
    (C : Nat → Nat → Nat → Bool × Bool) (hC : Sorts rows (l.filter (okRule cols)) rows.length C) :
    Calls Tryz.prog 7 #[vr, .int .i64 cols, vl] W (IndPost W rows.length (l.filter (okRule cols)).length C) := by
  have c19 : Calls Tryz.prog 19 #[vl] W fun e w' => ∃ v', e = .returned v' ∧ Hid (RulesAt w' v' l) ∧ Hid (Below W.heap.size W w') := by
    refine (sorts_calls W vl l hl hlen).mono ?_
    rintro e w' ⟨v', rfl, hO, hB⟩
    exact ⟨v', rfl, rulesAt_of_own hO, hB⟩
  have C19 := aside c19
  have HR := aside hr
  have HC := aside hC
  clear hr hl c19 hC
  go_enter Tryz.func7, Tryz.ntmps7
  go_wp2_with (go_at_call 19; refine C19.out.mono ?_; rintro e w1 ⟨v', rfl, HL1, HB1⟩; refine Hid.out ?_)
  refine Lib.hid ?_
  have c18 := zzOrder_calls w1 vr v' rows l cols (HR.out.below HB1.out (Nat.le_refl _)) HL1.out h60 hlen C HC.out
  have C18 := aside c18
  clear c18
  go_wp2_with (go_at_call 18; refine C18.out.mono ?_; rintro e w3 ⟨v, ds, rfl, hI, hP, hs, hB⟩; refine Hid.out ?_)
  refine Lib.hid ?_
  have HRES := aside (And.intro hI (And.intro hP (And.intro hs (HB1.out.trans (hB.mono HB1.out.size)))))
  clear hI hP hs hB
  go_wp2_with fail
  go_ret
  exact ⟨_, ds, rfl, HRES.out.1, HRES.out.2.1, HRES.out.2.2.1, HRES.out.2.2.2⟩
end Go.Proofs.YteplcmhmjdiimaaGreatDoor
