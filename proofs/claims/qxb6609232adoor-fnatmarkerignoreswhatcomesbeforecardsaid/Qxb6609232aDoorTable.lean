/-
  THE LISTED TABLE, opened: what the row's condition gives the walk.
-/
import Derived.Test.Qxb6609232aDoorMark
import Derived.Test.Qxb6609232aDoorRows
import Derived.Below
import Derived.ProofKit
import Derived.OpenShut
import Derived.ChangeOld
import Derived.ChangeVars
import Derived.LaidMore
import Derived.Stop.Joined
import Derived.Stop.LaidErr
namespace Go.Proofs.Qxb6609232aDoor
open Go.ChangeShapes Go.WideShapes Go.ChangeAt Go.RowKit

/-- The variable's name, off the given row. -/
def nm : String := (Rows.fnAtMarkerIsMarkerLineRow.named).headD "x"
/-- What is listed. -/
def laid1 : List (String × DataW Unit) := [(nm, Rows.laid_example_com_kindcheck_kindcheck_internal_document_mayBeginBreak)]

theorem own : ownKnob Tryd.prog.godebug = none := by kernel_rfl
theorem laidOut : laidOutB Tryd.prog = true := by kernel_rfl
theorem cells49 : Tryd.prog.cellsOf 49 = 256 := by kernel_rfl
theorem cells4 : Tryd.prog.cellsOf 4 = 1 := by kernel_rfl
theorem gB : Tryd.prog.globalNamed nm = some 0 := by kernel_rfl
theorem tB : (Tryd.prog.globals[0]?).map (·.type) = some 49 := by kernel_rfl

theorem bool_of_trod {H : Type} {enc : TypeId × Value → H} {P : Program} {w : World} {base : Nat} {sp : Nat → Bool} {held : Bool} {fuel : Nat} {t : TypeId} {c : Value} {y : DataW H × List MemPlace}
    (ht : P.underlying t = some .bool) (h : DataW.trod enc P w base sp held fuel t [c] = some y) : ∃ n, c = .bool n ∧ y = (.lit (.bool n), []) := by
  cases fuel with
  | zero => simp [DataW.trod] at h
  | succ fuel =>
    cases c <;> simp [DataW.trod, ht] at h
    rename_i n
    exact ⟨n, rfl, h.symm⟩

/-- The table's cells. -/
def cells256 : Array Value := ((List.range 256).map fun c => Value.bool (tab c)).toArray

/-- The table, as a datum. -/
def tableH {H : Type} : DataW H := .agg ((List.range 256).map fun c => .lit (.bool (tab c)))

theorem laid_is : (Rows.laid_example_com_kindcheck_kindcheck_internal_document_mayBeginBreak : DataW Unit) = tableH := by kernel_rfl

theorem cells_of_laid {W : World} (h : laidMetH Tryd.prog laid1 W) : W.var? Tryd.prog nm = some cells256 := by
  rw [MakeChecks.laidMetH_plain _ _ _ (by kernel_rfl)] at h
  obtain ⟨ps, ⟨g, t, cs, fuel, p, q, hg, ht, hvar, hd, _, _⟩, _⟩ := h
  obtain rfl := Option.some.inj (gB.symm.trans hg)
  obtain rfl := Option.some.inj (tB.symm.trans ht)
  rw [hvar]
  congr 1
  rw [laid_is] at hd
  obtain ⟨xs, m, _, hx, hlen, hxl, hall⟩ := DataW.trod_array Tryd.underlying49 hd
  rw [cells49] at hlen
  have hx1 : (List.range 256).map (fun c => (DataW.lit (.bool (tab c)) : DataW Unit)) = xs.map (·.1) := by
    have := congrArg Prod.fst hx
    unfold tableH at this
    exact DataW.agg.inj this
  apply Array.toList_inj.1
  apply List.ext_getElem?
  intro i
  by_cases hi : i < 256
  · have h1 := hall i hi
    rw [cells4, Nat.mul_one, List.getElem?_eq_getElem (by omega)] at h1
    have e1 : (cs.toList.drop i).take 1 = [cs.toList[i]] := by
      rw [List.drop_eq_getElem_cons (by omega)]
      rfl
    rw [e1] at h1
    obtain ⟨n, hn, hy⟩ := bool_of_trod Tryd.underlying4 h1
    have h2 := congrArg (·[i]?) hx1
    simp only [List.getElem?_map, List.getElem?_range hi, List.getElem?_eq_getElem (show i < xs.length by omega), Option.map_some, hy] at h2
    simp at h2
    rw [List.getElem?_eq_getElem (by omega), hn]
    unfold cells256
    simp [List.getElem?_range hi, h2]
  · rw [List.getElem?_eq_none (by omega), List.getElem?_eq_none (by unfold cells256; simp; omega)]

theorem table_cells {W : World} (h : laidMetH Tryd.prog laid1 W) (c : Nat) (hc : c < 256) : W.cell? ⟨0, c, none⟩ = some (.bool (tab c)) := by
  rw [World.var?_cell gB (cells_of_laid h) c]
  unfold cells256
  simp [hc]

theorem reads_table {H : Type} (enc : TypeId × Value → H) (W : World) (sp : Nat → Bool) : DataW.trod enc Tryd.prog W 0 sp true 3 49 cells256.toList = some (tableH, []) := by kernel_rfl

theorem var?_below {P : Program} {B g : Nat} {W W' : World} {n : String} {cs : Array Value} (h : Below B W W') (hg : P.globalNamed n = some g) (hgB : g < B) (hv : W.var? P n = some cs) : W'.var? P n = some cs := by
  unfold World.var? at hv ⊢
  simp only [hg, Option.bind_some] at hv ⊢
  rw [h.block g hgB]
  exact hv

/-- The door's own heap meets the condition. -/
theorem door_met (os : Os) (args : Array Value) : laidMetH Tryd.prog laid1 ((World.doorLaid Tryd.prog 14 os).forCall (fun _ _ => 0) ⟨#[], args, []⟩).memory :=
  laidMetH_of_parts3 (fuel := 8) (laidMet_of_run' 8 (by kernel_rfl) (by kernel_rfl)) (by kernel_rfl) (by kernel_rfl)

end Go.Proofs.Qxb6609232aDoor
