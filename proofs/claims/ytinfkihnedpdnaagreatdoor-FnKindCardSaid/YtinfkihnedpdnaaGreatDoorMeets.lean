/- What the row's condition gives the walk: what io.EOF, errors.errorType and ieeeTable hold; and that the program's own variable run meets it. No condition but the row's. -/
import Derived.Test.YtinfkihnedpdnaaGreatDoorRows
import Derived.Test.YtinfkihnedpdnaaGreatDoorLaw
import Derived.LaidHandle
import Derived.LaidLaws
import Derived.Stop.LaidErr
import Derived.Lib.LaidTab
namespace Go.Proofs.YtinfkihnedpdnaaGreatDoor
open Go.ChangeShapes Go.WideShapes Go.RowKit

theorem gHandle : Tryz.prog.globalNamed "errors.errorType" = some 2 := by kernel_rfl
theorem gEof : Tryz.prog.globalNamed "io.EOF" = some 0 := by kernel_rfl
theorem gTable : Tryz.prog.globalNamed "loop.example/pub-g03440/pub/png.ieeeTable" = some 3 := by kernel_rfl
theorem tEof : (Tryz.prog.globals[0]?).map (·.type) = some 42 := by kernel_rfl
theorem tTable : (Tryz.prog.globals[3]?).map (·.type) = some 107 := by kernel_rfl
theorem rtypeCut : (Tryz.prog.cutTypes.find? (·.1 == "internal/reflectlite.rtype")).map (·.2) = some 111 := by kernel_rfl
theorem errorRow : ((List.range 307).filter fun t => Tryz.prog.rowNamed t [101, 114, 114, 111, 114]) = [42] := by kernel_rfl
theorem typesSize : Tryz.prog.types.size = 307 := by kernel_rfl
theorem handle42 : typeHandle Tryz.prog 42 = .pointer (some ⟨16, 42, none⟩) := by kernel_rfl
theorem starName : "*" ++ "errors.errorString" = "*errors.errorString" := by decide
theorem row253 (u : TypeId) (h : Tryz.prog.typeName? 3 u = some "*errors.errorString") : u = 253 :=
  typeName_ptr_named (nm := "errors.errorString") (by rw [starName]; kernel_rfl) (by kernel_rfl) (by decide) u (by rw [starName]; exact h)
theorem cells292 : Tryz.prog.cellsOf 292 = 1 := by kernel_rfl
theorem cells9' : Tryz.prog.cellsOf 9 = 1 := by kernel_rfl
theorem cells27' : Tryz.prog.cellsOf 27 = 1 := by kernel_rfl
theorem cells107' : Tryz.prog.cellsOf 107 = 256 := by kernel_rfl

/-- The numbers of the table, off the datum. -/
def tableNums : List Int := match (Rows.laid_loop_example_pub_g03440_pub_png_ieeeTable : DataW Unit) with
  | .agg xs => xs.map fun | .lit (.int _ z) => z | _ => 0
  | _ => []
theorem table_is : (Rows.laid_loop_example_pub_g03440_pub_png_ieeeTable : DataW Unit) = Lib.tabData .u32 tableNums := by kernel_rfl
theorem table_len : tableNums.length = 256 := by kernel_rfl
theorem table_range : (tableNums.all fun z => decide (0 ≤ z) && decide (z < 4294967296)) = true := by kernel_rfl

/-- The listed variables but the handle. -/
def plainLaid : List (String × DataW Unit) := Rows.fnKindRow.laid.tail

theorem parts_of_laid {W : World} (h : laidMetH Tryz.prog Rows.fnKindRow.laid W) : laidMet Tryz.prog plainLaid W ∧ handlesMet Tryz.prog [("errors.errorType", Rows.laid_errors_errorType)] W := h

theorem handle_of_laid {W : World} (h : laidMetH Tryz.prog Rows.fnKindRow.laid W) : Handle W := by
  obtain ⟨name, u, ty, e1, e2, e3, e4, e5⟩ := (parts_of_laid h).2 _ (List.mem_singleton.2 rfl)
  have en : name = [101, 114, 114, 111, 114] := (Option.some.inj e1).symm
  subst en
  obtain rfl := Option.some.inj (rtypeCut.symm.trans e2)
  have hm : ty ∈ (List.range 307).filter fun t => Tryz.prog.rowNamed t [101, 114, 114, 111, 114] := List.mem_filter.2 ⟨List.mem_range.2 (by rw [← typesSize]; exact e3), e4⟩
  rw [errorRow] at hm
  obtain rfl := List.mem_singleton.1 hm
  rw [handle42] at e5
  have := World.var?_cell gHandle e5 0
  simpa [Handle] using this

theorem eof_of_laid {W : World} (h : laidMetH Tryz.prog Rows.fnKindRow.laid W) : Eof W := by
  have h1 := laidMet.tail (parts_of_laid h).1
  obtain ⟨a, s, hv, _⟩ := laid_sentinel h1 gEof tEof Tryz.underlying42 row253 Tryz.underlying253 Tryz.underlying292 rfl rfl Tryz.underlying9 cells292 cells9'
  have := World.var?_cell gEof hv 0
  exact ⟨a, by simpa using this⟩

theorem tab_of_laid {W : World} (h : laidMetH Tryz.prog Rows.fnKindRow.laid W) : Tab W := by
  have h1 := laidMet.tail (laidMet.tail (laidMet.tail (laidMet.tail (laidMet.tail (laidMet.tail (laidMet.tail (laidMet.tail (parts_of_laid h).1)))))))
  rw [table_is] at h1
  have hT := Lib.tabIs_of_head gTable tTable Tryz.underlying107 Tryz.underlying27 cells27' cells107' h1
  intro k hk
  have hc := hT.cell gTable k (by rw [table_len]; exact hk)
  refine ⟨tableNums.getD k 0, hc, ?_⟩
  have hkl : k < tableNums.length := by rw [table_len]; exact hk
  have hm : tableNums.getD k 0 ∈ tableNums := by
    rw [List.getD_eq_getElem?_getD, List.getElem?_eq_getElem hkl]
    exact List.getElem_mem hkl
  have := List.all_eq_true.1 table_range _ hm
  simpa using this

theorem vars_of_laid {W : World} (h : laidMetH Tryz.prog Rows.fnKindRow.laid W) : Vars W :=
  ⟨tab_of_laid h, eof_of_laid h, handle_of_laid h⟩

end Go.Proofs.YtinfkihnedpdnaaGreatDoor
