/-
  FROM THE ROW's CELL 'laid' TO WHAT THE WALKS ASK: strconv.ErrRange is a sentinel; and a start that fits: the door's own heap.
-/
import Derived.Test.Qxb6603870aDoorRows
import Derived.ProofKit
import Derived.LaidMore
import Derived.OpenShut
import Derived.Stop.Joined
import Derived.Stop.LaidErr
import Derived.WalkSmall
namespace Go.Proofs.Qxb6603870aDoor
open Go.ChangeShapes Go.WideShapes Go.ChangeAt Go.RowKit

theorem own : ownKnob Tryd.prog.godebug = none := by kernel_rfl
theorem gER : Tryd.prog.globalNamed "strconv.ErrRange" = some 3 := by kernel_rfl
theorem gERType : (Tryd.prog.globals[3]?).map (·.type) = some 51 := by kernel_rfl
/-- The name of the sentinel's type, as the given datum has it. -/
def errName : String := match Rows.laid_strconv_ErrRange (H := Unit) with
  | .iface n _ => n
  | _ => ""

def laid5 : List (String × DataW Unit) := Rows.fnIntColumnMatchesGrammarModelRow.laid

/-- The door's own heap meets the condition. -/
theorem door_met (os : Os) (args : Array Value) : laidMetH Tryd.prog laid5 ((World.doorLaid Tryd.prog 400 os).forCall (fun _ _ => 0) ⟨#[], args, []⟩).memory :=
  laidMetH_of_parts3 (fuel := 8) (laidMet_of_run' 8 (by kernel_rfl) (by kernel_rfl)) (by kernel_rfl) (by kernel_rfl)

theorem cells92 : Tryd.prog.cellsOf 92 = 1 := by kernel_rfl
theorem cells9 : Tryd.prog.cellsOf 9 = 1 := by kernel_rfl
theorem row90 (u : TypeId) (h : Tryd.prog.typeName? 3 u = some errName) : u = 90 :=
  typeName_ptr_named (P := Tryd.prog) (nm := "errors.errorString") (by kernel_rfl) (by kernel_rfl) (by decide) u (h.trans (by decide))

theorem block_of_cell {W : World} {b o : Nat} {v : Value} (h : W.cell? ⟨b, o, none⟩ = some v) : b < W.heap.size := by
  by_cases hb : b < W.heap.size
  · exact hb
  · exfalso
    unfold World.cell? at h
    have e : W.heap[b]? = none := by simp; omega
    simp [e] at h

/-- WHAT THE CONDITION GIVES: strconv.ErrRange holds an error. -/
theorem range_var {W : World} (h : laidMetH Tryd.prog laid5 W) : ∃ a : Addr, W.var? Tryd.prog "strconv.ErrRange" = some #[.iface 90 (.pointer (some a))] ∧ 3 < W.heap.size := by
  rw [MakeChecks.laidMetH_plain _ _ _ (by kernel_rfl)] at h
  obtain ⟨a, s, hv, -, -, -⟩ := laid_sentinel h.tail.tail.tail gER gERType Tryd.underlying51 row90 Tryd.underlying90 Tryd.underlying92 rfl rfl Tryd.underlying9 cells92 cells9
  have hc := World.var?_cell gER hv 0
  exact ⟨a, hv, block_of_cell (v := .iface 90 (.pointer (some a))) (by simpa using hc)⟩

end Go.Proofs.Qxb6603870aDoor
