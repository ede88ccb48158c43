/-
  THE ARGUMENT 'a slice of strings', OPENED.
-/
import Derived.Test.Qxb6604019aStrs
import Derived.ProofKit
import Derived.OpenShut
import Derived.ShutString
import Derived.ChangeOld
import Derived.Below
import Derived.SliceStrings
namespace Go.Proofs.Qxb6604019a
open Go.ChangeShapes Go.WideShapes Go.ChangeAt Go.RowKit
set_option linter.unusedVariables false

theorem own : ownKnob Try.prog.godebug = none := by kernel_rfl
theorem laidOut : laidOutB Try.prog = true := by kernel_rfl
theorem cells9 : Try.prog.cellsOf 9 = 1 := by kernel_rfl

theorem block_of_cell {W : World} {b o : Nat} {v : Value} (h : W.cell? ⟨b, o, none⟩ = some v) : b < W.heap.size := by
  by_cases hb : b < W.heap.size
  · exact hb
  · exfalso
    unfold World.cell? at h
    have e : W.heap[b]? = none := by simp; omega
    simp [e] at h

section
variable {H : Type} {enc : TypeId × Value → H} {w : World} {base : Nat} {spare : Nat → Bool} {held : Bool}
theorem open_strs {n : Nat} {a : Option Addr} {len cap : Nat} {x : DataW H × List MemPlace} (h : DataW.trod enc Try.prog w base spare held n 22 [.slice a len cap] = some x) (hsp : ∀ b, spare b = true) :
    ∃ ss : Nat → ByteArray, len ≤ 9223372036854775807 ∧ (∀ i, i < len → (ss i).size ≤ 9223372036854775807) ∧ Strs w a len ss := by
  rcases open_strings Try.underlying22 Try.underlying9 cells9 h with ⟨hcs, _⟩ | ⟨y, l, c, ss, hcs, _, hl, hm, hz, _, hcell, hws⟩
  · injection hcs with e _
    injection e with e1 e2 e3
    subst e2
    exact ⟨fun _ => ByteArray.empty, Nat.zero_le _, fun i hi => by omega, .inl rfl⟩
  · injection hcs with e _
    injection e with e1 e2 e3
    subst e1 e2 e3
    rw [hsp, if_pos rfl] at hz
    refine ⟨fun i => ss.getD i ByteArray.empty, Nat.le_trans hl hm, fun i hi => ?_, ?_⟩
    · have hi' : i < ss.length := by omega
      have e : ss.getD i ByteArray.empty = ss[i] := by simp [List.getD, hi']
      show (ss.getD i ByteArray.empty).size ≤ maxLen
      rw [e]
      exact hws _ (List.getElem_mem hi')
    · by_cases h0 : len = 0
      · exact .inl h0
      · obtain ⟨b, off, spot⟩ := y
        have hspot : spot = none := by simpa [Addr.add] using World.cell?_spot (hcell 0 (by omega))
        subst hspot
        have hat : ∀ i, i < len → w.cell? ⟨b, off + i, none⟩ = some (.string (ss.getD i ByteArray.empty)) := by
          intro i hi
          have g0 := hcell i (by omega)
          rw [Go.WideShapes.add_plain] at g0
          exact g0
        exact .inr ⟨b, off, rfl, block_of_cell (hat 0 (by omega)), hat⟩
end

end Go.Proofs.Qxb6604019a
