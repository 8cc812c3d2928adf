/-
  FnOrder: the walk of the law.
-/
import Derived.Test.YteplcmhmjdiimaaGreatDoorcN0
import Derived.Test.YteplcmhmjdiimaaGreatDoorcL3
import Derived.Deep.RegionHeld3
namespace Go.Proofs.YteplcmhmjdiimaaGreatDoor
open Go.RowKit

theorem fits_rows {rows : List (List ByteArray)} (h : ∀ k, k < rows.length → Fits (rows.getD k [])) : ∀ k, k < rows.length → Fits (rows.getD k []) := h

theorem ordZ_of {rows : List (List ByteArray)} {cols : Int} {l : List RawZ} (h : ∀ j, (h : j < l.length) → RuleOK rows cols l[j]) : OrdZ rows cols l := by
  intro r hr
  obtain ⟨j, hj, rfl⟩ := List.getElem_of_mem hr
  exact h j hj

/-- What the law hands back. -/
def TruePost (W : World) (e : Ending) (w' : World) : Prop := e = .returned (.bool true) ∧ Below W.heap.size W w'

theorem rowOK_of {rows : List (List ByteArray)} {cols : Int} {l : List Raw} (h : OrdP rows cols l) {i : Nat} (hi : i < rows.length) : RowOK (rows.getD i []) cols l := fun _ hr hok => (h.at_ hr hok hi).1

theorem keep4_drew {W w : World} {N : Nat} {p q r t : Addr} {x y z u : Value} (h : Hid (Below N W w)) (h1 : w.cell? p = some x) (h2 : w.cell? q = some y) (h3 : w.cell? r = some z) (h4 : w.cell? t = some u) :
    Hid (Below N W w.drew) ∧ w.drew.cell? p = some x ∧ w.drew.cell? q = some y ∧ w.drew.cell? r = some z ∧ w.drew.cell? t = some u := ⟨h.out.drew, h1, h2, h3, h4⟩
theorem keep4_below {W w w' : World} {N : Nat} {p q r t : Addr} {x y z u : Value} (hN : N ≤ W.heap.size) (h : Hid (Below N W w)) (hb : Below w.heap.size w w') (h1 : w.cell? p = some x) (h2 : w.cell? q = some y) (h3 : w.cell? r = some z) (h4 : w.cell? t = some u) :
    Hid (Below N W w') ∧ w'.cell? p = some x ∧ w'.cell? q = some y ∧ w'.cell? r = some z ∧ w'.cell? t = some u := by
  have c : ∀ {a : Addr} {v : Value}, w.cell? a = some v → w'.cell? a = some v := fun {a v} ha => by
    rw [hb.cell (World.block_lt_of_cell? w a ha)]; exact ha
  exact ⟨h.out.trans (hb.mono (Nat.le_trans hN h.out.size)), c h1, c h2, c h3, c h4⟩

theorem IntsAt.shape {W : World} {v : Value} {ds : List Nat} (h : IntsAt W v ds) : ∃ ob oc, v = .slice ob ds.length oc ∧ IntsAt W (.slice ob ds.length oc) ds := by
  obtain ⟨ob, oc, rfl, r⟩ := h
  exact ⟨ob, oc, rfl, ob, oc, rfl, r⟩

set_option maxHeartbeats 8000000 in
set_option maxRecDepth 100000 in
theorem fnOrder_calls (W : World) (vr vl : Value) (rows : List (List ByteArray)) (cols : Int) (l : List RawZ) (hr : RowsM W vr rows) (hl : RulesM W vl l) (hg : Globs W) :
    Calls Tryz.prog 3 #[vr, .int .i64 cols, vl] W (TruePost W) := by
  have c5 := fits19_calls W vr rows hr
  have C5 := aside c5
  have HR := aside hr
  have HL := aside hl
  have HG := aside hg
  obtain ⟨lb, lc, rfl, hlc, hlm, -⟩ := hl
  obtain ⟨rb, rc, rfl, hrc, hrm, -⟩ := hr
  clear c5 hg
  go_enter Tryz.func3, Tryz.ntmps3
  go_wp2_with (go_at_call 5; refine C5.out.mono ?_; rintro e w4 ⟨x, rfl, hx, hw4⟩; rw [hw4]; clear hw4 w4; refine Hid.out ?_)
  refine Lib.hid ?_
  have HX := aside hx
  clear hx
  cases x with
  | false =>
    go_wp2_with fail
    go_ret
    exact ⟨rfl, Below.refl _ _⟩
  | true =>
    by_cases g0 : 2147483647 < l.length
    · have d0 : decide ((l.length : Int) > 2147483647) = true := by simp; omega
      go_wp2_with fail
      go_ret
      exact ⟨rfl, Below.refl _ _⟩
    · have d0 : decide ((l.length : Int) > 2147483647) = false := by simp; omega
      by_cases g1 : 60 < rows.length
      · have d1 : decide ((rows.length : Int) > 60) = true := by simp; omega
        go_wp2_with fail
        go_ret
        exact ⟨rfl, Below.refl _ _⟩
      · have d1 : decide ((rows.length : Int) > 60) = false := by simp; omega
        by_cases g2 : 8 < l.length
        · have d2 : decide ((l.length : Int) > 8) = true := by simp; omega
          go_wp2_with fail
          go_ret
          exact ⟨rfl, Below.refl _ _⟩
        · have d2 : decide ((l.length : Int) > 8) = false := by simp; omega
          by_cases g3 : cols < 0
          · have d3 : decide (cols < 0) = true := by simpa using g3
            go_wp2_with fail
            go_ret
            exact ⟨rfl, Below.refl _ _⟩
          · have d3 : decide (cols < 0) = false := by simpa using g3
            by_cases g4 : 20 < cols
            · have d4 : decide (cols > 20) = true := by simpa using g4
              go_wp2_with fail
              go_ret
              exact ⟨rfl, Below.refl _ _⟩
            · have d4 : decide (cols > 20) = false := by simpa using g4
              have c6 := ordered_calls W _ _ rows cols l HR.out HL.out (by omega) (by omega) (by omega) (by omega) (HX.out (by first | exact rfl | exact trivial)).2
              have C6 := aside c6
              clear c6
              go_wp2_with (go_at_call 6; refine C6.out.mono ?_; rintro e w4 ⟨y, rfl, hy, hB4⟩; refine Hid.out ?_)
              refine Lib.hid ?_
              have HY := aside hy
              have HB4 := aside hB4
              clear hy hB4
              cases y with
              | false =>
                go_wp2_with fail
                go_ret
                exact ⟨rfl, HB4.out⟩
              | true =>
                have hO : OrdP rows cols (l.map RawZ.raw) := (ordZ_of (HY.out (by first | exact rfl | exact trivial))).ordP (HX.out (by first | exact rfl | exact trivial)).2
                have hz := ordZ_of (HY.out (by first | exact rfl | exact trivial))
                have c7 := order_calls w4 _ _ rows (l.map RawZ.raw) cols (HR.out.below HB4.out (Nat.le_refl _)) ((HL.out.below HB4.out (Nat.le_refl _)).rawAt (fun r hr => (hz r hr).1)) (by omega) (by rw [List.length_map]; omega) _ (sorts_one hO (by omega))
                have C7 := aside c7
                have HO := aside hO
                have HZ := aside hz
                clear c7 hO hz
                go_wp2_with (go_at_call 7; refine C7.out.mono ?_; rintro e w5 ⟨v, ds, rfl, hI, hP, hs, hB5⟩; obtain ⟨ob, oc, rfl, hI⟩ := hI.shape; refine Hid.out ?_)
                refine Lib.hid ?_
                have hn60 : rows.length ≤ 60 := by omega
                have c8 := permuted_calls w5 _ ds rows.length hI hP hn60
                have C8 := aside c8
                have HI := aside hI
                have HP := aside hP
                have HS := aside hs
                have hB5W : Below W.heap.size W w5 := HB4.out.trans (hB5.mono HB4.out.size)
                have HB5 := aside hB5W
                clear c8 hI hP hs hB5 hB5W
                go_wp2_with (go_at_call 8; refine C8.out.mono ?_; rintro e w6 ⟨rfl, hB6⟩; refine Hid.out ?_)
                refine Lib.hid ?_
                have hd60 : ds.length ≤ 60 := by have h := HP.out.length_eq; rw [List.length_range] at h; omega
                have hB6W : Below W.heap.size W w6 := HB5.out.trans (hB6.mono HB5.out.size)
                have hI6 := HI.out.below hB6 (Nat.le_refl _)
                have HB6 := aside hB6W
                have HI6 := aside hI6
                clear hB6 hB6W hI6
                go_wp2_with fail
                go_loopg [8] ds.length (fun q s8 wr => ∃ i : Nat, s8 = .int .i64 i ∧ i ≤ ds.length ∧ ds.length ≤ q + i ∧ Hid (Below w6.heap.size w6 wr))
                case atStart => exact ⟨0, rfl, by omega, by omega, Below.refl _ _⟩
                case round =>
                  obtain ⟨i, rfl, hi, hq, HBI⟩ := hrel
                  by_cases hlt : i < ds.length
                  · have e1 : decide ((i : Int) < (ds.length : Int)) = true := by simp; omega
                    have e2 : (i : Int) < (ds.length : Int) := by omega
                    go_wp2_with fail
                    go_loopg [9] i (fun q2 s9 wr => ∃ k : Nat, s9 = .int .i64 k ∧ k ≤ i ∧ i ≤ q2 + k ∧ Hid (Below w6.heap.size w6 wr))
                    case atStart => exact ⟨0, rfl, by omega, by omega, HBI.out⟩
                    case round =>
                      obtain ⟨k, rfl, hk, hq2, HBK⟩ := hrel
                      by_cases hlt2 : k < i
                      · have f1 : decide ((k : Int) < (i : Int)) = true := by simp; omega
                        have f2 : (k : Int) < (ds.length : Int) := by omega
                        have hkl : k < ds.length := by omega
                        have hin : ∀ j, (hj : j < ds.length) → ds[j] < rows.length := fun j hj => List.mem_range.1 (HP.out.mem_iff.1 (List.getElem_mem hj))
                        have haf := law_once HS.out hlt hlt2
                        have hdi := hin i hlt
                        have hdk := hin k hkl
                        obtain ⟨_, _, e0, -, hoc⟩ := HI6.out
                        simp only [Value.slice.injEq, true_and] at e0
                        obtain ⟨rfl, rfl⟩ := e0
                        obtain ⟨OB, oo, rfl, hob, m1⟩ := hoc i hlt
                        obtain ⟨OB', oo', e', hob', m2⟩ := hoc k hkl
                        simp only [Option.some.injEq, Addr.mk.injEq, and_true] at e'
                        obtain ⟨rfl, rfl⟩ := e'
                        obtain ⟨_, _, e0, -, -, hrc⟩ := HR.out
                        simp only [Value.slice.injEq, true_and] at e0
                        obtain ⟨rfl, rfl⟩ := e0
                        obtain ⟨di, hdie⟩ : ∃ di, di = ds[i] := ⟨_, rfl⟩
                        obtain ⟨dk, hdke⟩ : ∃ dk, dk = ds[k] := ⟨_, rfl⟩
                        rw [← hdie] at m1 hdi haf
                        rw [← hdke] at m2 hdk haf
                        obtain ⟨RB, ro, ui, rfl, hrb, n1, ti⟩ := hrc di hdi
                        obtain ⟨RB', ro', uk, e', hrb', n2, tk⟩ := hrc dk hdk
                        simp only [Option.some.injEq, Addr.mk.injEq, and_true] at e'
                        obtain ⟨rfl, rfl⟩ := e'
                        have hBW : Below W.heap.size W wr := HB6.out.trans (HBK.out.mono HB6.out.size)
                        have r1 : wr.cell? ⟨OB, oo + i, none⟩ = some (.int .i64 (di : Int)) := by rw [HBK.out.cell hob]; exact m1
                        have r2 : wr.cell? ⟨OB, oo + k, none⟩ = some (.int .i64 (dk : Int)) := by rw [HBK.out.cell hob]; exact m2
                        have r3 : wr.cell? ⟨RB, ro + di, none⟩ = some ui := by rw [hBW.cell hrb]; exact n1
                        have r4 : wr.cell? ⟨RB, ro + dk, none⟩ = some uk := by rw [hBW.cell hrb]; exact n2
                        have x1 : (di : Int) < (rows.length : Int) := by omega
                        have x2 : (dk : Int) < (rows.length : Int) := by omega
                        have hl8 : l.length ≤ 8 := by omega
                        have hc0 : 0 ≤ cols := by omega
                        have hc20 : cols ≤ 20 := by omega
                        have c9 : ∀ w, (Hid (Below W.heap.size W w) ∧ w.cell? ⟨OB, oo + i, none⟩ = some (.int .i64 (di : Int)) ∧ w.cell? ⟨OB, oo + k, none⟩ = some (.int .i64 (dk : Int)) ∧ w.cell? ⟨RB, ro + di, none⟩ = some ui ∧ w.cell? ⟨RB, ro + dk, none⟩ = some uk) ∧ Hid (Below w6.heap.size w6 w) → Calls Tryz.prog 9 #[ui, uk, .int .i64 cols, .slice lb l.length lc] w fun e w' => e = .returned (.bool false) ∧ (Hid (Below W.heap.size W w') ∧ w'.cell? ⟨OB, oo + i, none⟩ = some (.int .i64 (di : Int)) ∧ w'.cell? ⟨OB, oo + k, none⟩ = some (.int .i64 (dk : Int)) ∧ w'.cell? ⟨RB, ro + di, none⟩ = some ui ∧ w'.cell? ⟨RB, ro + dk, none⟩ = some uk) ∧ Hid (Below w6.heap.size w6 w') := fun w hS => by
                          have hb := hS.1.1.out
                          have h9 := rowAhead_calls w ui uk (.slice lb l.length lc) _ _ cols l (ti.below hb (Nat.le_refl _)) (tk.below hb (Nat.le_refl _)) (HL.out.below hb (Nat.le_refl _)) hl8 hc0 hc20 (fun r hr => ⟨(HZ.out r hr).1, (HZ.out r hr).2.1⟩) (rowOK_of HO.out hdi) (rowOK_of HO.out hdk) (HG.out.below hb HG.out.size)
                          rw [haf] at h9
                          refine h9.mono ?_
                          rintro e w' ⟨rfl, hB⟩
                          exact ⟨rfl, keep4_below (Nat.le_refl _) hS.1.1 hB hS.1.2.1 hS.1.2.2.1 hS.1.2.2.2.1 hS.1.2.2.2.2, hS.2.out.trans (hB.mono hS.2.out.size)⟩
                        have kd : ∀ w, (Hid (Below W.heap.size W w) ∧ w.cell? ⟨OB, oo + i, none⟩ = some (.int .i64 (di : Int)) ∧ w.cell? ⟨OB, oo + k, none⟩ = some (.int .i64 (dk : Int)) ∧ w.cell? ⟨RB, ro + di, none⟩ = some ui ∧ w.cell? ⟨RB, ro + dk, none⟩ = some uk) ∧ Hid (Below w6.heap.size w6 w) → (Hid (Below W.heap.size W w.drew) ∧ w.drew.cell? ⟨OB, oo + i, none⟩ = some (.int .i64 (di : Int)) ∧ w.drew.cell? ⟨OB, oo + k, none⟩ = some (.int .i64 (dk : Int)) ∧ w.drew.cell? ⟨RB, ro + di, none⟩ = some ui ∧ w.drew.cell? ⟨RB, ro + dk, none⟩ = some uk) ∧ Hid (Below w6.heap.size w6 w.drew) := fun w hS => ⟨keep4_drew hS.1.1 hS.1.2.1 hS.1.2.2.1 hS.1.2.2.2.1 hS.1.2.2.2.2, hS.2.out.drew⟩
                        have kb : ∀ w, (Hid (Below W.heap.size W w) ∧ w.cell? ⟨OB, oo + i, none⟩ = some (.int .i64 (di : Int)) ∧ w.cell? ⟨OB, oo + k, none⟩ = some (.int .i64 (dk : Int)) ∧ w.cell? ⟨RB, ro + di, none⟩ = some ui ∧ w.cell? ⟨RB, ro + dk, none⟩ = some uk) ∧ Hid (Below w6.heap.size w6 w) → Hid (Below w6.heap.size w6 w) := fun w hS => hS.2
                        have hS0 : (Hid (Below W.heap.size W wr) ∧ wr.cell? ⟨OB, oo + i, none⟩ = some (.int .i64 (di : Int)) ∧ wr.cell? ⟨OB, oo + k, none⟩ = some (.int .i64 (dk : Int)) ∧ wr.cell? ⟨RB, ro + di, none⟩ = some ui ∧ wr.cell? ⟨RB, ro + dk, none⟩ = some uk) ∧ Hid (Below w6.heap.size w6 wr) := ⟨⟨hBW, r1, r2, r3, r4⟩, HBK⟩
                        have C9 := aside c9
                        have KD := aside kd
                        have KB := aside kb
                        clear c9 kd kb hin haf hdi hdk hoc hob hob' m1 m2 hrc hdie hdke hrb hrb' n1 n2 ti tk hBW hl8 hc0 hc20
                        go_upto_region 14 with fail
                        go_region_held3 (fun w' => (Hid (Below W.heap.size W w') ∧ w'.cell? ⟨OB, oo + i, none⟩ = some (.int .i64 (di : Int)) ∧ w'.cell? ⟨OB, oo + k, none⟩ = some (.int .i64 (dk : Int)) ∧ w'.cell? ⟨RB, ro + di, none⟩ = some ui ∧ w'.cell? ⟨RB, ro + dk, none⟩ = some uk) ∧ Hid (Below w6.heap.size w6 w'))
                          (first
                            | assumption
                            | exact KD.out _ (by assumption))
                          (first
                            | (go_at_call 9; refine (C9.out _ (by assumption)).mono ?_; rintro e w' ⟨rfl, hS⟩))
                        go_wp2_with fail
                        go_roundg (i - (k + 1))
                        case measure => omega
                        case rel => exact ⟨k + 1, by simp, by omega, by omega, KB.out _ (by assumption)⟩
                      · have f1 : decide ((k : Int) < (i : Int)) = false := by simp; omega
                        go_wp2_with fail
                        go_roundg (ds.length - (i + 1))
                        case measure => omega
                        case rel => exact ⟨i + 1, by simp, by omega, by omega, HBK.out⟩
                  · have e1 : decide ((i : Int) < (ds.length : Int)) = false := by simp; omega
                    have hBW : Below W.heap.size W wr := HB6.out.trans (HBI.out.mono HB6.out.size)
                    have HBW := aside hBW
                    clear hBW
                    go_wp2_with fail
                    go_ret
                    exact ⟨rfl, HBW.out⟩
end Go.Proofs.YteplcmhmjdiimaaGreatDoor
