/-
  FnOrderTwice: the walk of the law.
-/
import Derived.Test.YteplcmhmjdiimaaGreatDoorcQ2
import Derived.Test.YteplcmhmjdiimaaGreatDoorcQ0
import Derived.Test.YteplcmhmjdiimaaGreatDoorcP1
import Derived.Deep.RegionHeld3
import Derived.Deep.AppendLies
namespace Go.Proofs.YteplcmhmjdiimaaGreatDoor
open Go.RowKit

set_option maxHeartbeats 8000000 in
set_option maxRecDepth 100000 in
theorem fnOrderTwice_calls (W : World) (vr vl : Value) (rows : List (List ByteArray)) (cols : Int) (l : List RawZ) (xn xm : Int) (xf : Bool) (hr : RowsM W vr rows) (hl : RulesM W vl l) (hg : Globs W) :
    Calls Tryz.prog 4 #[vr, .int .i64 cols, vl, .agg #[.int .i64 xn, .int .i64 xm, .bool xf]] W (TruePost W) := by
  have HRW := aside hr
  have HLW := aside hl
  have HGW := aside hg
  obtain ⟨lb, lc, rfl, hlc, hlm, hlcell⟩ := hl
  obtain ⟨rb, rc, rfl, hrc, hrm, -⟩ := hr
  have HLC := aside hlcell
  clear hg hlcell
  go_enter Tryz.func4, Tryz.ntmps4
  go_upto_region 1 with fail
  obtain ⟨w0, hw0⟩ : ∃ w0, w0 = W.alloc (Obj.cells #[.int .i64 xn, .int .i64 xm, .bool xf] 32) := ⟨_, rfl⟩
  rw [← hw0]
  obtain ⟨bx, hbx⟩ : ∃ bx, bx = W.heap.size := ⟨_, rfl⟩
  rw [← hbx]
  have hB0 : Below W.heap.size W w0 := by rw [hw0]; exact (Below.refl _ _).alloc (Nat.le_refl _) _
  have b0 : w0.cell? ⟨bx, 0, none⟩ = some (.int .i64 xn) := by rw [hw0, hbx]; simp
  have b1 : w0.cell? ⟨bx, 1, none⟩ = some (.int .i64 xm) := by rw [hw0, hbx]; simp
  have b2 : w0.cell? ⟨bx, 2, none⟩ = some (.bool xf) := by rw [hw0, hbx]; simp
  have bf : w0.frozen? ⟨bx, 0, none⟩ = false := by rw [hw0, hbx]; simp
  have hbx0 : bx < w0.heap.size := by rw [hw0, hbx]; simp
  have hbxW : W.heap.size ≤ bx := by rw [hbx]; exact Nat.le_refl _
  have HB0 := aside hB0
  have BX := aside (And.intro b0 (And.intro b1 (And.intro b2 (And.intro bf (And.intro hbx0 hbxW)))))
  have HR := aside (HRW.out.below hB0 (Nat.le_refl _))
  have HL := aside (HLW.out.below hB0 (Nat.le_refl _))
  have HG := aside (HGW.out.below hB0 HGW.out.size)
  clear hw0 hbx hB0 b0 b1 b2 bf hbx0 hbxW
  have c5 := fits19_calls w0 _ rows HR.out
  have C5 := aside c5
  clear c5
  go_wp2_with (go_at_call 5; refine C5.out.mono ?_; rintro e w4 ⟨x, rfl, hx, hw4⟩; rw [hw4]; clear hw4 w4; refine Hid.out ?_)
  refine Lib.hid ?_
  have HX := aside hx
  clear hx
  cases x with
  | false =>
    go_wp2_with fail
    go_ret
    exact ⟨rfl, HB0.out⟩
  | true =>
    by_cases g0 : 2147483647 < l.length
    · have d0 : decide ((l.length : Int) > 2147483647) = true := by simp; omega
      go_wp2_with fail
      go_ret
      exact ⟨rfl, HB0.out⟩
    · have d0 : decide ((l.length : Int) > 2147483647) = false := by simp; omega
      by_cases g1 : 60 < rows.length
      · have d1 : decide ((rows.length : Int) > 60) = true := by simp; omega
        go_wp2_with fail
        go_ret
        exact ⟨rfl, HB0.out⟩
      · have d1 : decide ((rows.length : Int) > 60) = false := by simp; omega
        by_cases g5 : l.length = 0
        · have d5 : ((l.length : Int) == 0) = true := by rw [g5]; rfl
          go_wp2_with fail
          go_ret
          exact ⟨rfl, HB0.out⟩
        · have d5 : ((l.length : Int) == 0) = false := by simp only [beq_eq_false_iff_ne, ne_eq]; omega
          by_cases g2 : 8 < l.length
          · have d2 : decide ((l.length : Int) > 8) = true := by simp; omega
            go_wp2_with fail
            go_ret
            exact ⟨rfl, HB0.out⟩
          · have d2 : decide ((l.length : Int) > 8) = false := by simp; omega
            by_cases g3 : cols < 0
            · have d3 : decide (cols < 0) = true := by simpa using g3
              go_wp2_with fail
              go_ret
              exact ⟨rfl, HB0.out⟩
            · have d3 : decide (cols < 0) = false := by simpa using g3
              by_cases g4 : 20 < cols
              · have d4 : decide (cols > 20) = true := by simpa using g4
                go_wp2_with fail
                go_ret
                exact ⟨rfl, HB0.out⟩
              · have d4 : decide (cols > 20) = false := by simpa using g4
                have hfit := (HX.out (by first | exact rfl | exact trivial)).2
                have c6 := ordered_calls w0 _ _ rows cols l HR.out HL.out (by omega) (by omega) (by omega) (by omega) hfit
                have C6 := aside c6
                have HFIT := aside hfit
                clear c6 hfit
                have hpos : 0 < l.length := by omega
                obtain ⟨LB, lo, rfl, hLB, q0, -, -⟩ := HLC.out 0 hpos
                obtain ⟨n0, hn0⟩ : ∃ n0, n0 = l[0].num := ⟨_, rfl⟩
                rw [← hn0] at q0
                rw [Nat.zero_mul, Nat.add_zero] at q0
                have Q0 := aside q0
                have HN0 := aside hn0
                have HLB := aside hLB
                clear q0 hn0 hLB
                have hl1 : (0 : Int) < (l.length : Int) := by omega
                go_wp2_with (go_at_call 6; refine C6.out.mono ?_; rintro e w4 ⟨y, rfl, hy, hB4⟩; have b1 : w4.cell? ⟨bx, 1, none⟩ = some (.int .i64 xm) := (by rw [hB4.cell BX.out.2.2.2.2.1]; exact BX.out.2.1); have q0 : w4.cell? ⟨LB, lo, none⟩ = some (.int .i64 n0) := (by rw [(HB0.out.trans (hB4.mono HB0.out.size)).cell HLB.out]; exact Q0.out); refine Hid.out ?_)
                refine Lib.hid ?_
                have HY := aside hy
                have HB4 := aside hB4
                have HB4W := aside (HB0.out.trans (hB4.mono HB0.out.size))
                clear hy hB4
                cases y with
                | false =>
                  go_wp2_with fail
                  go_ret
                  exact ⟨rfl, HB4W.out⟩
                | true =>
                  by_cases g6 : xm < 0
                  · have d6 : decide (xm < 0) = true := by simpa using g6
                    go_wp2_with fail
                    go_ret
                    exact ⟨rfl, HB4W.out⟩
                  · have d6 : decide (xm < 0) = false := by simpa using g6
                    by_cases g7 : 7 < xm
                    · have d7 : decide (xm > 7) = true := by simpa using g7
                      go_wp2_with fail
                      go_ret
                      exact ⟨rfl, HB4W.out⟩
                    · have d7 : decide (xm > 7) = false := by simpa using g7
                      by_cases g8 : n0 < 1
                      · have d8 : decide (n0 < 1) = true := by simpa using g8
                        go_wp2_with fail
                        go_ret
                        exact ⟨rfl, HB4W.out⟩
                      · have d8 : decide (n0 < 1) = false := by simpa using g8
                        by_cases g9 : cols < n0
                        · have d9 : decide (n0 > cols) = true := by simpa using g9
                          go_wp2_with fail
                          go_ret
                          exact ⟨rfl, HB4W.out⟩
                        · have d9 : decide (n0 > cols) = false := by simpa using g9
                          have hz := ordZ_of (HY.out (by first | exact rfl | exact trivial))
                          have hO : OrdP rows cols (l.map RawZ.raw) := hz.ordP HFIT.out
                          have c10 := apiece_calls w4 _ _ rows cols l (HR.out.below HB4.out (Nat.le_refl _)) (HL.out.below HB4.out (Nat.le_refl _)) (by omega) (by omega) (by omega) (by omega) (fun r hr => ⟨(hz r hr).1, (hz r hr).2.1⟩) hO (HG.out.below HB4.out HG.out.size)
                          have C10 := aside c10
                          have HO := aside hO
                          have HZ := aside hz
                          clear c10 hO hz
                          go_wp2_with (go_at_call 10; refine C10.out.mono ?_; rintro e w5 ⟨z, rfl, hA, hB5⟩; refine Hid.out ?_)
                          refine Lib.hid ?_
                          have hB5' : Below w0.heap.size w0 w5 := HB4.out.trans (hB5.mono HB4.out.size)
                          have HB5 := aside hB5'
                          have HB5W := aside (HB0.out.trans (hB5'.mono HB0.out.size))
                          have HA := aside hA
                          clear hB5 hB5' hA b1 q0
                          cases z with
                          | false =>
                            go_wp2_with fail
                            go_ret
                            exact ⟨rfl, HB5W.out⟩
                          | true =>
                            have hA := HA.out (by first | exact rfl | exact trivial)
                            have HAP := aside hA
                            clear hA
                            have r0 : w5.cell? ⟨bx, 0, none⟩ = some (.int .i64 xn) := by rw [HB5.out.cell BX.out.2.2.2.2.1]; exact BX.out.1
                            have rf : w5.frozen? ⟨bx, 0, none⟩ = false := by rw [HB5.out.frozen BX.out.2.2.2.2.1]; exact BX.out.2.2.2.1
                            have q0 : w5.cell? ⟨LB, lo, none⟩ = some (.int .i64 n0) := by rw [HB5W.out.cell HLB.out]; exact Q0.out
                            go_upto_region 6 with fail
                            obtain ⟨w6, hw6⟩ : ∃ w6, w6 = w5.setCell ⟨bx, 0, none⟩ (.int .i64 n0) := ⟨_, rfl⟩
                            rw [← hw6]
                            have s0 : w6.cell? ⟨bx, 0, none⟩ = some (.int .i64 n0) := by rw [hw6]; exact World.cell?_setCell_same _ _ _ r0
                            have s1 : w6.cell? ⟨bx, 1, none⟩ = some (.int .i64 xm) := by rw [hw6, World.cell?_setCell_other _ _ _ _ (by simp), HB5.out.cell BX.out.2.2.2.2.1]; exact BX.out.2.1
                            have s2 : w6.cell? ⟨bx, 2, none⟩ = some (.bool xf) := by rw [hw6, World.cell?_setCell_other _ _ _ _ (by simp), HB5.out.cell BX.out.2.2.2.2.1]; exact BX.out.2.2.1
                            have hB6W : Below W.heap.size W w6 := by rw [hw6]; exact HB5W.out.setCell BX.out.2.2.2.2.2 _
                            have hz0 : ∀ r ∈ l, 0 ≤ r.mode := fun r hr => (HZ.out r hr).1
                            have hn60 : rows.length ≤ 60 := by omega
                            have hl8 : l.length ≤ 8 := by omega
                            have hc20 : cols ≤ 20 := by omega
                            have c7 := order_calls w6 _ _ rows (l.map RawZ.raw) cols (HRW.out.below hB6W (Nat.le_refl _)) ((HLW.out.below hB6W (Nat.le_refl _)).rawAt hz0) hn60 (by rw [List.length_map]; omega) _ (sorts_one HO.out hc20)
                            have C7 := aside c7
                            have HB6W := aside hB6W
                            have S6 := aside (And.intro s0 (And.intro s1 s2))
                            clear c7 hB6W s0 s1 s2 hw6 r0 rf q0
                            go_wp2_with (go_at_call 7; refine C7.out.mono ?_; rintro e w7 ⟨v, ds, rfl, hI, hP, hs, hB7⟩; obtain ⟨ob, oc, rfl, hI⟩ := hI.shape; refine Hid.out ?_)
                            refine Lib.hid ?_
                            have cc : ∀ {a : Addr} {v : Value}, w6.cell? a = some v → w7.cell? a = some v := fun {a v} ha => by rw [hB7.cell (World.block_lt_of_cell? w6 a ha)]; exact ha
                            have t0 := cc S6.out.1
                            have t1 := cc S6.out.2.1
                            have t2 := cc S6.out.2.2
                            have hB7W : Below W.heap.size W w7 := HB6W.out.trans (hB7.mono HB6W.out.size)
                            have hxok : okRule cols (RawZ.mk n0 xm xf).raw = true := by unfold okRule RawZ.raw; simp; omega
                            have hmem : ∀ r ∈ l ++ [RawZ.mk n0 xm xf], 0 ≤ r.mode := fun r hr => by
                              rcases List.mem_append.1 hr with h | h
                              · exact hz0 r h
                              · rw [List.mem_singleton.1 h]; show 0 ≤ xm; omega
                            have HMEM := aside hmem
                            have HB7W := aside hB7W
                            have HI := aside hI
                            have HP := aside hP
                            have HS := aside hs
                            have HXOK := aside hxok
                            have HZ0 := aside hz0
                            clear hB7 hI hP hs cc hB7W hxok hz0 hmem
                            have kg : ∀ w w', (Hid (Below w7.heap.size w7 w) ∧ w.cell? ⟨bx, 0, none⟩ = some (.int .i64 n0) ∧ w.cell? ⟨bx, 1, none⟩ = some (.int .i64 xm) ∧ w.cell? ⟨bx, 2, none⟩ = some (.bool xf)) → Below w7.heap.size w w' → (Hid (Below w7.heap.size w7 w') ∧ w'.cell? ⟨bx, 0, none⟩ = some (.int .i64 n0) ∧ w'.cell? ⟨bx, 1, none⟩ = some (.int .i64 xm) ∧ w'.cell? ⟨bx, 2, none⟩ = some (.bool xf)) := fun w w' hS hB => by
                              have hc : ∀ {o : Nat} {v : Value}, w.cell? ⟨bx, o, none⟩ = some v → w'.cell? ⟨bx, o, none⟩ = some v := fun {o v} ha => by
                                have hlt : bx < w7.heap.size := World.block_lt_of_cell? w7 _ t0
                                rw [hB.cell (p := ⟨bx, o, none⟩) hlt]; exact ha
                              exact ⟨hS.1.out.trans hB, hc hS.2.1, hc hS.2.2.1, hc hS.2.2.2⟩
                            have c8 : ∀ w, (Hid (Below w7.heap.size w7 w) ∧ w.cell? ⟨bx, 0, none⟩ = some (.int .i64 n0) ∧ w.cell? ⟨bx, 1, none⟩ = some (.int .i64 xm) ∧ w.cell? ⟨bx, 2, none⟩ = some (.bool xf)) → Calls Tryz.prog 8 #[.slice ob ds.length oc, .int .i64 (rows.length : Nat)] w fun e w' => e = .returned (.bool true) ∧ (Hid (Below w7.heap.size w7 w') ∧ w'.cell? ⟨bx, 0, none⟩ = some (.int .i64 n0) ∧ w'.cell? ⟨bx, 1, none⟩ = some (.int .i64 xm) ∧ w'.cell? ⟨bx, 2, none⟩ = some (.bool xf)) := fun w hS => by
                              refine (permuted_calls w _ ds rows.length (HI.out.below hS.1.out (Nat.le_refl _)) HP.out hn60).mono ?_
                              rintro e w' ⟨rfl, hB⟩
                              exact ⟨rfl, kg w w' hS (hB.mono hS.1.out.size)⟩
                            have c7b : ∀ w g cap, (Hid (Below w7.heap.size w7 w) ∧ w.cell? ⟨bx, 0, none⟩ = some (.int .i64 n0) ∧ w.cell? ⟨bx, 1, none⟩ = some (.int .i64 xm) ∧ w.cell? ⟨bx, 2, none⟩ = some (.bool xf)) → w.ownsRow w7.heap.size 32 3 (.slice (some ⟨g, 0, none⟩) (l.length + 1) cap) (l.length + 1) (zAll l ++ zcells ⟨n0, xm, xf⟩) →
                                Calls Tryz.prog 7 #[.slice rb rows.length rc, .int .i64 cols, .slice (some ⟨g, 0, none⟩) (l.length + 1) cap] w fun e w' => ∃ ob' oc', e = .returned (.slice ob' ds.length oc') ∧ (Hid (Below w7.heap.size w7 w') ∧ w'.cell? ⟨bx, 0, none⟩ = some (.int .i64 n0) ∧ w'.cell? ⟨bx, 1, none⟩ = some (.int .i64 xm) ∧ w'.cell? ⟨bx, 2, none⟩ = some (.bool xf)) ∧ Hid (IntsAt w' (.slice ob' ds.length oc') ds) := fun w g cap hS hown => by
                              have e1 : zAll l ++ zcells ⟨n0, xm, xf⟩ = zAll (l ++ [⟨n0, xm, xf⟩]) := by unfold zAll; rw [List.flatMap_append]; simp
                              rw [e1] at hown
                              have hraw := rawAt_of_zown hown (by simp) HMEM.out
                              have e2 : (l ++ [RawZ.mk n0 xm xf]).map RawZ.raw = l.map RawZ.raw ++ [(RawZ.mk n0 xm xf).raw] := by simp
                              rw [e2] at hraw
                              have hbW : Below W.heap.size W w := HB7W.out.trans (hS.1.out.mono HB7W.out.size)
                              refine (order_calls w _ _ rows _ cols (HRW.out.below hbW (Nat.le_refl _)) hraw hn60 (by simp; omega) _ (sorts_two HO.out hc20 HAP.out HXOK.out)).mono ?_
                              rintro e w' ⟨v', es, rfl, hI', hP', hs', hB'⟩
                              have heq : ds = es := law_twice HO.out HAP.out HXOK.out HP.out hP' HS.out hs'
                              subst heq
                              obtain ⟨ob', oc', rfl, hI'⟩ := hI'.shape
                              exact ⟨ob', oc', rfl, kg w w' hS (hB'.mono hS.1.out.size), hI'⟩
                            have c11 : ∀ w ob' oc', (Hid (Below w7.heap.size w7 w) ∧ w.cell? ⟨bx, 0, none⟩ = some (.int .i64 n0) ∧ w.cell? ⟨bx, 1, none⟩ = some (.int .i64 xm) ∧ w.cell? ⟨bx, 2, none⟩ = some (.bool xf)) → Hid (IntsAt w (.slice ob' ds.length oc') ds) → Calls Tryz.prog 11 #[.slice ob ds.length oc, .slice ob' ds.length oc'] w fun e w' => e = .returned (.bool true) ∧ (Hid (Below w7.heap.size w7 w') ∧ w'.cell? ⟨bx, 0, none⟩ = some (.int .i64 n0) ∧ w'.cell? ⟨bx, 1, none⟩ = some (.int .i64 xm) ∧ w'.cell? ⟨bx, 2, none⟩ = some (.bool xf)) := fun w ob' oc' hS hI' => by
                              have hd60 : ds.length ≤ 60 := by have h := HP.out.length_eq; rw [List.length_range] at h; omega
                              refine (sameInts_calls w _ _ ds (HI.out.below hS.1.out (Nat.le_refl _)) hI'.out hd60).mono ?_
                              rintro e w' ⟨rfl, hB⟩
                              exact ⟨rfl, kg w w' hS (hB.mono hS.1.out.size)⟩
                            have news : ∀ w, (Hid (Below w7.heap.size w7 w) ∧ w.cell? ⟨bx, 0, none⟩ = some (.int .i64 n0) ∧ w.cell? ⟨bx, 1, none⟩ = some (.int .i64 xm) ∧ w.cell? ⟨bx, 2, none⟩ = some (.bool xf)) → ∀ j u, (zAll l)[j]? = some u → w.cell? ((⟨LB, lo, none⟩ : Addr).add j) = some u := fun w hS => by
                              have hbW : Below W.heap.size W w := HB7W.out.trans (hS.1.out.mono HB7W.out.size)
                              exact rules_cells (HLW.out.below hbW (Nat.le_refl _))
                            have grow : ∀ w w' row, (Hid (Below w7.heap.size w7 w) ∧ w.cell? ⟨bx, 0, none⟩ = some (.int .i64 n0) ∧ w.cell? ⟨bx, 1, none⟩ = some (.int .i64 xm) ∧ w.cell? ⟨bx, 2, none⟩ = some (.bool xf)) → w.grownBy w' row → (∀ k, row = some k → w7.heap.size ≤ k) → (Hid (Below w7.heap.size w7 w') ∧ w'.cell? ⟨bx, 0, none⟩ = some (.int .i64 n0) ∧ w'.cell? ⟨bx, 1, none⟩ = some (.int .i64 xm) ∧ w'.cell? ⟨bx, 2, none⟩ = some (.bool xf)) := fun w w' row hS hgr hrow => kg w w' hS ((Below.refl _ _).grown hgr hS.1.out.size hrow)
                            have kd : ∀ w, (Hid (Below w7.heap.size w7 w) ∧ w.cell? ⟨bx, 0, none⟩ = some (.int .i64 n0) ∧ w.cell? ⟨bx, 1, none⟩ = some (.int .i64 xm) ∧ w.cell? ⟨bx, 2, none⟩ = some (.bool xf)) → (Hid (Below w7.heap.size w7 w.drew) ∧ w.drew.cell? ⟨bx, 0, none⟩ = some (.int .i64 n0) ∧ w.drew.cell? ⟨bx, 1, none⟩ = some (.int .i64 xm) ∧ w.drew.cell? ⟨bx, 2, none⟩ = some (.bool xf)) := fun w hS => kg w _ hS (Below.refl _ _).drew
                            have ka : ∀ (w : World) (o : Obj), (Hid (Below w7.heap.size w7 w) ∧ w.cell? ⟨bx, 0, none⟩ = some (.int .i64 n0) ∧ w.cell? ⟨bx, 1, none⟩ = some (.int .i64 xm) ∧ w.cell? ⟨bx, 2, none⟩ = some (.bool xf)) → (Hid (Below w7.heap.size w7 (w.alloc o)) ∧ (w.alloc o).cell? ⟨bx, 0, none⟩ = some (.int .i64 n0) ∧ (w.alloc o).cell? ⟨bx, 1, none⟩ = some (.int .i64 xm) ∧ (w.alloc o).cell? ⟨bx, 2, none⟩ = some (.bool xf)) := fun w o hS => kg w _ hS ((Below.refl _ _).alloc hS.1.out.size o)
                            have size : ∀ w, (Hid (Below w7.heap.size w7 w) ∧ w.cell? ⟨bx, 0, none⟩ = some (.int .i64 n0) ∧ w.cell? ⟨bx, 1, none⟩ = some (.int .i64 xm) ∧ w.cell? ⟨bx, 2, none⟩ = some (.bool xf)) → w7.heap.size ≤ w.heap.size := fun w hS => hS.1.out.size
                            have kw : ∀ w, (Hid (Below w7.heap.size w7 w) ∧ w.cell? ⟨bx, 0, none⟩ = some (.int .i64 n0) ∧ w.cell? ⟨bx, 1, none⟩ = some (.int .i64 xm) ∧ w.cell? ⟨bx, 2, none⟩ = some (.bool xf)) → Below W.heap.size W w := fun w hS => HB7W.out.trans (hS.1.out.mono HB7W.out.size)
                            have hS0 : (Hid (Below w7.heap.size w7 w7) ∧ w7.cell? ⟨bx, 0, none⟩ = some (.int .i64 n0) ∧ w7.cell? ⟨bx, 1, none⟩ = some (.int .i64 xm) ∧ w7.cell? ⟨bx, 2, none⟩ = some (.bool xf)) := ⟨Below.refl _ _, t0, t1, t2⟩
                            have C8 := aside c8
                            have C7B := aside c7b
                            have C11 := aside c11
                            have NEWS := aside news
                            have GROW := aside grow
                            have KD := aside kd
                            have KA := aside ka
                            have SIZE := aside size
                            have KW := aside kw
                            clear c8 c7b c11 news grow kd ka size kw kg
                            obtain ⟨i32, hi32, hz32, hs32, hb32⟩ := info_parts impl_info
                            have I32 := aside (And.intro hi32 (And.intro hz32 (And.intro hs32 hb32)))
                            clear hi32 hz32 hs32 hb32
                            go_upto_region 7 with fail
                            go_region_held3 (fun w' => Hid (Below w7.heap.size w7 w') ∧ w'.cell? ⟨bx, 0, none⟩ = some (.int .i64 n0) ∧ w'.cell? ⟨bx, 1, none⟩ = some (.int .i64 xm) ∧ w'.cell? ⟨bx, 2, none⟩ = some (.bool xf))
                              (first
                                | assumption
                                | exact KD.out _ (by assumption)
                                | exact KA.out _ _ (by assumption))
                              (first
                                | (go_at_call 8; refine (C8.out _ (by assumption)).mono ?_; rintro e w8 ⟨rfl, hS8⟩)
                                | (rw [if_pos (by rfl)]
                                   refine wp_append_lies _ (.tmp 97) (.tmp 99) 23 rfl w7.heap.size 32 i32 (.agg #[.int .i64 0, .int .i64 0, .bool false]) 3 24 Tryz.underlying23 I32.out.1 I32.out.2.1 I32.out.2.2.1 I32.out.2.2.2 rfl (by decide) _ l.length (zAll l) rfl
                                     (by first
                                          | exact hown9
                                          | exact hown9.alloc _)
                                     _ 1 1 (zcells ⟨n0, xm, xf⟩) rfl rfl (by first | exact new_cells _ _ | exact h99) (zcells_one _) (by decide) (by unfold maxLen; omega) (by omega) (SIZE.out _ (by assumption)) _ rfl ?_
                                   intro g10 cap10 w10 hown10 hgr10 hor10 hlt10
                                   have hS10 := GROW.out _ w10 _ (by assumption) hgr10 (by intro k hk; have := hown9.lt k hk; exact this.1)
                                   clear hor10 hlt10)
                                | (go_at_call 7; refine (C7B.out _ _ _ (by assumption) hown10).mono ?_; rintro e w11 ⟨ob', oc', rfl, hS11, hI11⟩)
                                | (go_at_call 11; refine (C11.out _ _ _ (by assumption) hI11).mono ?_; rintro e w12 ⟨rfl, hS12⟩)
                                | (rw [if_pos (by rfl)]
                                   refine wp_append_lies _ (.tmp 95) (.tmp 96) 23 rfl w7.heap.size 32 i32 (.agg #[.int .i64 0, .int .i64 0, .bool false]) 3 24 Tryz.underlying23 I32.out.1 I32.out.2.1 I32.out.2.2.1 I32.out.2.2.2 rfl (by decide) _ 0 [] rfl
                                     (by first
                                          | exact made_three (SIZE.out w8 hS8)
                                          | exact World.ownsRow_made _ #[] 0 (by have := SIZE.out w8 hS8; first | omega | (simp; omega)) (by unfold maxLen; omega) (show (#[] : Array Value).size = 0 * 3 from rfl)
                                          | exact (World.ownsRow_made _ #[] 0 (by have := SIZE.out w8 hS8; first | omega | (simp; omega)) (by unfold maxLen; omega) (show (#[] : Array Value).size = 0 * 3 from rfl)).alloc _)
                                     ⟨LB, lo, none⟩ l.length lc (zAll l) rfl (zAll_length l) (NEWS.out _ (by assumption)) (zAll_one l) hpos (by unfold maxLen; omega) (by omega) (SIZE.out _ (by assumption)) _ rfl ?_
                                   intro g9 cap9 w9 hown9 hgr9 hor9 hlt9
                                   have hS9 := GROW.out _ w9 _ (by assumption) hgr9 (by intro k hk; have := SIZE.out w8 hS8; first | (have e : some w8.heap.size = some k := hk; injection e with e; omega) | (have e : some (w8.heap.size + 1) = some k := hk; injection e with e; omega))
                                   rw [Nat.zero_add, List.nil_append] at hown9
                                   rw [Nat.zero_add]
                                   first
                                     | have h99 : ∀ j u, (zcells ⟨n0, xm, xf⟩)[j]? = some u → w9.cell? ((⟨w8.heap.size + 1, 0, none⟩ : Addr).add j) = some u := fun j u hu => kept_two hgr9 j u hu
                                     | have h99 : ∀ j u, (zcells ⟨n0, xm, xf⟩)[j]? = some u → w9.cell? ((⟨w8.heap.size, 0, none⟩ : Addr).add j) = some u := fun j u hu => kept_three hgr9 j u hu
                                     | skip
                                   clear hor9 hlt9))
                            all_goals go_wp2_with fail
                            all_goals go_ret
                            all_goals exact ⟨rfl, KW.out _ (by assumption)⟩
                            end Go.Proofs.YteplcmhmjdiimaaGreatDoor
