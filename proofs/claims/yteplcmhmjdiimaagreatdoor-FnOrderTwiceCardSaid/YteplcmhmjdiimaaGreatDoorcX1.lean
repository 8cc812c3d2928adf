/-
  The library's variables, as the rows list them, are what the reader of floats looks at.
-/
import Derived.Test.YteplcmhmjdiimaaGreatDoorcX0
import Derived.Test.YteplcmhmjdiimaaGreatDoorcF5
import Derived.Test.YteplcmhmjdiimaaGreatDoorRows
namespace Go.Proofs.YteplcmhmjdiimaaGreatDoor
open Go.RowKit Go.ChangeShapes

theorem globs_of_reads {W : World} (h1 : Lib.VarReads Tryz.prog W "internal/strconv.optimize" Rows.laid_internal_strconv_optimize) (h2 : Lib.VarReads Tryz.prog W "internal/strconv.float64info" Rows.laid_internal_strconv_float64info)
    (h3 : Lib.VarReads Tryz.prog W "strconv.ErrSyntax" Rows.laid_strconv_ErrSyntax) : Globs W := by
  obtain ⟨g1, t1, cs1, f1, p1, a1, b1, c1, d1⟩ := h1
  obtain rfl := Option.some.inj ((show Tryz.prog.globalNamed "internal/strconv.optimize" = some 5 by kernel_rfl).symm.trans a1)
  obtain rfl := Option.some.inj ((show (Tryz.prog.globals[5]?).map (·.type) = some 4 by kernel_rfl).symm.trans b1)
  obtain ⟨b, e1, e2⟩ := DataW.trod_bool Tryz.underlying4 d1
  have hb : b = true := by
    have : (Rows.laid_internal_strconv_optimize : DataW Unit) = .lit (.bool b) := (Prod.mk.inj e2).1
    simpa [Rows.laid_internal_strconv_optimize] using this.symm
  subst hb
  have k5 : W.cell? ⟨5, 0, none⟩ = some (.bool true) := by
    rw [World.var?_cell a1 c1 0, show cs1 = #[.bool true] by cases cs1; simp_all]; rfl
  obtain ⟨g2, t2, cs2, f2, p2, a2, b2, c2, d2⟩ := h2
  obtain rfl := Option.some.inj ((show Tryz.prog.globalNamed "internal/strconv.float64info" = some 6 by kernel_rfl).symm.trans a2)
  obtain rfl := Option.some.inj ((show (Tryz.prog.globals[6]?).map (·.type) = some 192 by kernel_rfl).symm.trans b2)
  obtain ⟨y0, y1, y2, n', ey, -, q0, -, -⟩ := Deep.trod_struct3 Tryz.underlying192 d2
  have k6 : W.cell? ⟨6, 0, none⟩ = some (.int .u64 52) := by
    obtain ⟨z, ez, ev, -⟩ := DataW.trod_int Tryz.underlying98 q0
    have e1 := (Prod.mk.inj ey).1
    simp only [Rows.laid_internal_strconv_float64info, DataW.agg.injEq, List.cons.injEq, and_true] at e1
    have e2 := e1.1
    rw [ev] at e2
    have hz : z = 52 := by simpa using e2.symm
    subst hz
    simp only [List.drop_zero] at ez
    rw [World.var?_cell a2 c2 0]
    rw [show (Tryz.prog.cellsOf 98) = 1 from by kernel_rfl] at ez
    have e3 := congrArg (·[0]?) ez
    simpa [List.getElem?_take] using e3
  obtain ⟨g3, t3, cs3, f3, p3, a3, b3, c3, d3⟩ := h3
  obtain rfl := Option.some.inj ((show Tryz.prog.globalNamed "strconv.ErrSyntax" = some 0 by kernel_rfl).symm.trans a3)
  obtain rfl := Option.some.inj ((show (Tryz.prog.globals[0]?).map (·.type) = some 85 by kernel_rfl).symm.trans b3)
  obtain ⟨f', u, v, e3, -, -⟩ := iface_of_trod Tryz.underlying85 d3
  have k0 : W.cell? ⟨0, 0, none⟩ = some (.iface u v) := by
    rw [World.var?_cell a3 c3 0, show cs3 = #[.iface u v] by cases cs3; simp_all]; rfl
  exact ⟨World.block_lt_of_cell? W _ k6, k5, k6, _, k0, .inr ⟨u, v, rfl⟩⟩
end Go.Proofs.YteplcmhmjdiimaaGreatDoor
