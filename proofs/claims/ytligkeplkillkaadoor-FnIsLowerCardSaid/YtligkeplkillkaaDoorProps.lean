/-
  THE LISTED TABLE OPENED: where the row's condition on unicode.properties holds, its cell at r is the r-th number of propsZ; and, plain, that each of the 256 numbers bears the bits that the category asks. Condition: r < 256.
-/
import Derived.Test.YtligkeplkillkaaDoorRows
import Derived.Test.YtligkeplkillkaaDoorPlain
import Derived.ProofKit
import Derived.OpenShut
import Derived.LaidMore
import Derived.Lay
namespace Go.Proofs.YtligkeplkillkaaDoor
open Go.ChangeShapes Go.WideShapes Go.ChangeAt Go.RowKit
def propsZ : List Int := [1, 1, 1, 1, 1, 1, 1, 1, 1, 1, 1, 1, 1, 1, 1, 1, 1, 1, 1, 1, 1, 1, 1, 1, 1, 1, 1, 1, 1, 1, 1, 1, 144, 130, 130, 130, 136, 130, 130, 130, 130, 130, 130, 136, 130, 130, 130, 130, 132, 132, 132, 132, 132, 132, 132, 132, 132, 132, 130, 130, 136, 136, 136, 130, 130, 160, 160, 160, 160, 160, 160, 160, 160, 160, 160, 160, 160, 160, 160, 160, 160, 160, 160, 160, 160, 160, 160, 160, 160, 160, 160, 130, 130, 130, 136, 130, 136, 192, 192, 192, 192, 192, 192, 192, 192, 192, 192, 192, 192, 192, 192, 192, 192, 192, 192, 192, 192, 192, 192, 192, 192, 192, 192, 130, 136, 130, 136, 1, 1, 1, 1, 1, 1, 1, 1, 1, 1, 1, 1, 1, 1, 1, 1, 1, 1, 1, 1, 1, 1, 1, 1, 1, 1, 1, 1, 1, 1, 1, 1, 1, 16, 130, 136, 136, 136, 136, 136, 130, 136, 136, 224, 130, 136, 0, 136, 136, 136, 136, 132, 132, 136, 192, 130, 130, 136, 132, 224, 130, 132, 132, 132, 130, 160, 160, 160, 160, 160, 160, 160, 160, 160, 160, 160, 160, 160, 160, 160, 160, 160, 160, 160, 160, 160, 160, 160, 136, 160, 160, 160, 160, 160, 160, 160, 192, 192, 192, 192, 192, 192, 192, 192, 192, 192, 192, 192, 192, 192, 192, 192, 192, 192, 192, 192, 192, 192, 192, 192, 136, 192, 192, 192, 192, 192, 192, 192, 192]
def laidP : List (String × DataW Unit) := [("unicode.properties", Rows.laid_unicode_properties)]
theorem props_is : (Rows.laid_unicode_properties : DataW Unit) = .agg (propsZ.map fun n => .lit (.int .u8 n)) := by kernel_rfl
theorem own : ownKnob Tryd.prog.godebug = none := by kernel_rfl
theorem prop_cell {W : World} (h : laidMetH Tryd.prog laidP W) (r : Nat) (hr : r < 256) : W.cell? ⟨0, r, none⟩ = some (.int .u8 (propsZ.getD r 0)) := by
  rw [MakeChecks.laidMetH_plain _ _ _ (by kernel_rfl)] at h
  obtain ⟨ps, ⟨g, t, cs, fuel, p, q, hg, ht, hv, hd, _, _⟩, _, _⟩ := h
  obtain rfl := Option.some.inj ((show Tryd.prog.globalNamed "unicode.properties" = some 0 by kernel_rfl).symm.trans hg)
  obtain rfl := Option.some.inj ((show (Tryd.prog.globals[0]?).map (·.type) = some 30 by kernel_rfl).symm.trans ht)
  rw [props_is] at hd
  obtain ⟨xs, m, _, ex, _, hl, hel⟩ := DataW.trod_array Tryd.underlying30 hd
  have c5 : Tryd.prog.cellsOf 5 = 1 := by kernel_rfl
  have hE := hel r hr
  rw [c5, Nat.mul_one, List.getElem?_eq_getElem (by omega)] at hE
  obtain ⟨z, e1, e2, _⟩ := DataW.trod_int Tryd.underlying5 hE
  have hlen : propsZ.length = 256 := by kernel_rfl
  have e3 : (xs.map (·.1)) = propsZ.map fun n => .lit (.int .u8 n) := (DataW.agg.inj (Prod.mk.inj ex).1).symm
  have e4 : (xs.map (·.1))[r]? = (propsZ.map fun n => (DataW.lit (.int .u8 n) : DataW Unit))[r]? := by rw [e3]
  rw [List.getElem?_map, List.getElem?_map, List.getElem?_eq_getElem (by omega : r < xs.length), List.getElem?_eq_getElem (by omega : r < propsZ.length), e2] at e4
  have hz : z = propsZ.getD r 0 := by
    simp only [Option.map_some, Option.some.injEq, DataW.lit.injEq, Lit.int.injEq, true_and] at e4
    rw [e4, List.getD, List.getElem?_eq_getElem (by omega : r < propsZ.length)]; rfl
  rw [World.var?_cell hg hv r, ← hz]
  have : cs.toList[r]? = some (.int .u8 z) := by
    have h0 : ((cs.toList.drop r).take 1)[0]? = some (.int .u8 z) := by rw [e1]; rfl
    simpa using h0
  simpa using this

/- THE PLAIN LAW, over the 256 code points: the bits against the category. -/
theorem all_at {f : Nat → Bool} (h : (List.range 256).all f = true) (r : Nat) (hr : r < 256) : f r = true := List.all_eq_true.1 h r (List.mem_range.2 hr)
theorem number_all : ((List.range 256).all fun r => (bits .and .u8 (propsZ.getD r 0) 4 != 0) == (cat r == 13 || cat r == 14 || cat r == 15)) = true := by kernel_rfl
theorem symbol_all : ((List.range 256).all fun r => (bits .and .u8 (propsZ.getD r 0) 8 != 0) == (decide (23 ≤ cat r) && decide (cat r ≤ 26))) = true := by kernel_rfl
theorem lower_all : ((List.range 256).all fun r => (bits .and .u8 (propsZ.getD r 0) 96 == 64) == (cat r == 5)) = true := by kernel_rfl
theorem graphic_all : ((List.range 256).all fun r => (bits .and .u8 (propsZ.getD r 0) 144 != 0) == ((decide (5 ≤ cat r) && decide (cat r ≤ 26)) || cat r == 29)) = true := by kernel_rfl
end Go.Proofs.YtligkeplkillkaaDoor
