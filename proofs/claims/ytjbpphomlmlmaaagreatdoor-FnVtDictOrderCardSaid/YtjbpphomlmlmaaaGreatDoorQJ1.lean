/- What the listed variables give: the tables that the walks read. -/
import Derived.Test.YtjbpphomlmlmaaaGreatDoorQG1
import Derived.Test.YtjbpphomlmlmaaaGreatDoorRows
import Derived.Lib.LaidPrint
import Derived.Lib.LaidU8
namespace Go.Proofs.YtjbpphomlmlmaaaGreatDoor
open Go.RowKit Go.Lib
set_option linter.unusedVariables false
theorem gNames : Tryz.prog.globalNamed "unicode/utf8.first" = some 2 ∧ Tryz.prog.globalNamed "unicode/utf8.acceptRanges" = some 3 ∧ Tryz.prog.globalNamed "internal/strconv.uint64pow10" = some 4 ∧ Tryz.prog.globalNamed "math/bits.deBruijn64tab" = some 8 ∧ Tryz.prog.globalNamed "internal/strconv.pow10Tab" = some 9 := ⟨by kernel_rfl, by kernel_rfl, by kernel_rfl, by kernel_rfl, by kernel_rfl⟩
theorem u8x : U8Extra Tryz.prog Tryz.lays260_ren where
  n3 := by kernel_rfl
  n4 := by kernel_rfl
  y3 := by kernel_rfl
  y4 := by kernel_rfl
  c5 := by kernel_rfl
  c119 := by kernel_rfl
  c138 := by kernel_rfl
theorem prx : PrintExtra Tryz.prog Tryz.lays339_ren where
  n20 := by kernel_rfl
  n21 := by kernel_rfl
  n22 := by kernel_rfl
  n23 := by kernel_rfl
  y20 := by kernel_rfl
  y21 := by kernel_rfl
  y22 := by kernel_rfl
  y23 := by kernel_rfl
  c49 := by kernel_rfl
  c51 := by kernel_rfl
/-- A listed array of integers. -/
theorem tabIs_of_reads {P : Program} {W : World} {name : String} {k : IntKind} {zs : List Int} {g : Nat} {t e : TypeId} {n : Nat}
    (hg : P.globalNamed name = some g) (hty : (P.globals[g]?).map (·.type) = some t) (ht : P.underlying t = some (.array n e)) (he : P.underlying e = some (.int k)) (hce : P.cellsOf e = 1) (hct : P.cellsOf t = n)
    (h : VarReads P W name (tabData k zs)) : TabIs P W name k zs := by
  obtain ⟨g', t', cs, fuel, p, hg', ht', hvar, hd⟩ := h
  obtain rfl := Option.some.inj (hg.symm.trans hg')
  obtain rfl := Option.some.inj (hty.symm.trans ht')
  unfold TabIs
  rw [hvar, ← cells_of_tab ht he hce hct hd]
theorem laid_plain {W : World} (h : laidMetH Tryz.prog Rows.fnVtPrefixRow.laid W) : laidMet Tryz.prog Rows.fnVtPrefixRow.laid W := by
  unfold laidMetH at h
  rw [show (Rows.fnVtPrefixRow.laid.filter fun x => x.2.handleName?.isSome) = [] by kernel_rfl] at h
  exact h
theorem laidIn (n : String) (d : DataW Unit) (hm : (n, d) ∈ Rows.fnVtPrefixRow.laid) {W : World} (h : laidMetH Tryz.prog Rows.fnVtPrefixRow.laid W) : VarReads Tryz.prog W n d := laidMet.reads (laid_plain h) hm
set_option maxRecDepth 100000 in
theorem utf8_of {W : World} (h : laidMetH Tryz.prog Rows.fnVtPrefixRow.laid W) : Lib.Utf8Tabs 2 3 W :=
  utf8Tabs_of_reads Tryz.lays260 u8x
    (by have h1 := laidIn "unicode/utf8.first" Rows.laid_unicode_utf8_first (by simp [Rows.fnVtPrefixRow]) h; rwa [show Rows.laid_unicode_utf8_first = firstData by kernel_rfl] at h1)
    (by have h1 := laidIn "unicode/utf8.acceptRanges" Rows.laid_unicode_utf8_acceptRanges (by simp [Rows.fnVtPrefixRow]) h; rwa [show (Rows.laid_unicode_utf8_acceptRanges : DataW Unit) = acceptData by kernel_rfl] at h1)
set_option maxRecDepth 100000 in
theorem print_of {W : World} (h : laidMetH Tryz.prog Rows.fnVtPrefixRow.laid W) : Lib.PrintTabsAt 11 12 13 14 goPrintTabs W :=
  printTabs_of_reads Tryz.lays339 prx
    (by have h1 := laidIn "strconv.isPrint16" Rows.laid_strconv_isPrint16 (by simp [Rows.fnVtPrefixRow]) h; rwa [show Rows.laid_strconv_isPrint16 = sliceData .u16 goPrintTabs.p16 by kernel_rfl] at h1)
    (by have h1 := laidIn "strconv.isNotPrint16" Rows.laid_strconv_isNotPrint16 (by simp [Rows.fnVtPrefixRow]) h; rwa [show Rows.laid_strconv_isNotPrint16 = sliceData .u16 goPrintTabs.n16 by kernel_rfl] at h1)
    (by have h1 := laidIn "strconv.isPrint32" Rows.laid_strconv_isPrint32 (by simp [Rows.fnVtPrefixRow]) h; rwa [show Rows.laid_strconv_isPrint32 = sliceData .u32 goPrintTabs.p32 by kernel_rfl] at h1)
    (by have h1 := laidIn "strconv.isNotPrint32" Rows.laid_strconv_isNotPrint32 (by simp [Rows.fnVtPrefixRow]) h; rwa [show Rows.laid_strconv_isNotPrint32 = sliceData .u16 goPrintTabs.n32 by kernel_rfl] at h1)
theorem pow_of {W : World} (h : laidMetH Tryz.prog Rows.fnVtPrefixRow.laid W) : Lib.TabIs Tryz.prog W "internal/strconv.uint64pow10" .u64 Lib.pow10Tab :=
  tabIs_of_reads (g := 4) (t := 181) (e := 22) (n := 20) gNames.2.2.1 (by kernel_rfl) Tryz.underlying181 Tryz.underlying22 (by kernel_rfl) (by kernel_rfl)
    (by have h1 := laidIn "internal/strconv.uint64pow10" Rows.laid_internal_strconv_uint64pow10 (by simp [Rows.fnVtPrefixRow]) h; rwa [show (Rows.laid_internal_strconv_uint64pow10 : DataW Unit) = tabData .u64 Lib.pow10Tab by kernel_rfl] at h1)
/-- What the table of 64 numbers holds. -/
def litOf : DataW Unit → Int
  | .lit (.int _ z) => z
  | _ => 0
def partsOf : DataW Unit → List (DataW Unit)
  | .agg l => l
  | _ => []
def bruijn : List Int := (partsOf Rows.laid_math_bits_deBruijn64tab).map litOf
theorem db_of {W : World} (h : laidMetH Tryz.prog Rows.fnVtPrefixRow.laid W) : W.cell? ⟨8, 15, none⟩ = some (.int .u8 4) := by
  have h1 := laidIn "math/bits.deBruijn64tab" Rows.laid_math_bits_deBruijn64tab (by simp [Rows.fnVtPrefixRow]) h
  rw [show (Rows.laid_math_bits_deBruijn64tab : DataW Unit) = tabData .u8 bruijn by kernel_rfl] at h1
  have h2 := tabIs_of_reads (g := 8) (t := 230) (e := 5) (n := 64) gNames.2.2.2.1 (by kernel_rfl) Tryz.underlying230 Tryz.underlying5 (by kernel_rfl) (by kernel_rfl) h1
  have h3 := h2.cell gNames.2.2.2.1 15 (by rw [show bruijn.length = 64 by kernel_rfl]; omega)
  rw [h3, show bruijn.getD 15 0 = 4 by kernel_rfl]
theorem ten_of {W : World} (h : laidMetH Tryz.prog Rows.fnVtPrefixRow.laid W) : Tab10 W := by
  intro i hi
  obtain ⟨g, t, cs, fuel, p, hg, hty, hvar, hd⟩ := laidIn "internal/strconv.pow10Tab" Rows.laid_internal_strconv_pow10Tab (by simp [Rows.fnVtPrefixRow]) h
  obtain rfl := Option.some.inj (gNames.2.2.2.2.symm.trans hg)
  obtain rfl := Option.some.inj ((show (Tryz.prog.globals[9]?).map (·.type) = some 233 by kernel_rfl).symm.trans hty)
  rw [show Rows.laid_internal_strconv_pow10Tab = .agg (Go.Pinned.pow10Rows.map fun x => .agg [.lit (.int .u64 x.1), .lit (.int .u64 x.2)]) from rfl] at hd
  obtain ⟨fuel', d, q, hdi, he⟩ := array_elem Tryz.underlying233 hd i hi
  have hlen : Go.Pinned.pow10Rows.length = 696 := by kernel_rfl
  rw [List.getElem?_map, List.getElem?_eq_getElem (by omega), Option.map_some, Option.some.injEq] at hdi
  have hp : p10 i = Go.Pinned.pow10Rows[i]'(by omega) := by
    unfold p10
    rw [List.getElem?_eq_getElem (by omega)]; rfl
  rw [← hp] at hdi
  subst hdi
  have c232 : Tryz.prog.cellsOf 232 = 2 := by kernel_rfl
  have c22 : Tryz.prog.cellsOf 22 = 1 := by kernel_rfl
  rw [c232] at he
  have hcs := ints_of_struct (k := .u64) (zs := [((p10 i).1 : Int), ((p10 i).2 : Int)]) Tryz.underlying232 (fun j f hj => by
    match j, hj with
    | 0, hj => simp at hj; subst hj; exact ⟨Tryz.underlying22, rfl, c22⟩
    | 1, hj => simp at hj; subst hj; exact ⟨Tryz.underlying22, rfl, c22⟩
    | j + 2, hj => simp at hj) (by rw [c232]; rfl) he
  have e0 := congrArg (·[0]?) hcs
  have e1 := congrArg (·[1]?) hcs
  simp only [List.getElem?_take, List.getElem?_drop] at e0 e1
  constructor
  · rw [World.var?_cell hg hvar (i * 2), ← Array.getElem?_toList]
    simpa [Nat.mul_comm] using e0
  · rw [World.var?_cell hg hvar (i * 2 + 1), ← Array.getElem?_toList]
    simpa [Nat.mul_comm] using e1
theorem base2_of {W : World} (h : laidMetH Tryz.prog Rows.fnVtPrefixRow.laid W) : Base2 W := ⟨⟨utf8_of h, print_of h, pow_of h⟩, ten_of h, db_of h⟩
end Go.Proofs.YtjbpphomlmlmaaaGreatDoor
