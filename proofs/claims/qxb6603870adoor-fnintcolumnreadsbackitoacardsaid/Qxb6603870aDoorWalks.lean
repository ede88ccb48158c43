/-
  THE WALKS: strings.HasPrefix, (*jsonScanner).take, (*jsonScanner).intColumn, ZZintColumn.
-/
import Derived.Test.Qxb6603870aDoorRows
import Derived.Test.Qxb6603870aDoorPlain
import Derived.Test.Qxb6603870aDoorShelf
import Derived.WalkKit
import Derived.WalkSpells
import Derived.WalkLawsBesides
import Derived.Lib.Hide
import Derived.Lib.Strings
import Derived.Outline
namespace Go.Proofs.Qxb6603870aDoor
open Go.RowKit
set_option linter.unusedVariables false

set_option maxHeartbeats 400000 in
theorem lite_any (s p : ByteArray) (w : World) (hs : s.size ≤ 9223372036854775807) (hp : p.size ≤ 9223372036854775807) :
    Calls Tryd.prog 33 #[.string s, .string p] w fun e w' => e = .returned (.bool (pre s p)) ∧ w' = w := by
  by_cases h1 : p.size ≤ s.size
  · cases h2 : ((s.extract 0 p.size).toList == p.toList)
    · have e : pre s p = false := by simp [pre, h1, h2]
      rw [e]
      clear e
      go_enter Tryd.func33, Tryd.ntmps33
      go_wp2
      go_ret
      exact ⟨rfl, rfl⟩
    · have e : pre s p = true := by simp [pre, h1, h2]
      rw [e]
      clear e
      go_enter Tryd.func33, Tryd.ntmps33
      go_wp2
      go_ret
      exact ⟨rfl, rfl⟩
  · have e : pre s p = false := by simp [pre, h1]
    rw [e]
    clear e
    have h1' : decide ((p.size : Int) ≤ s.size) = false := by simp; omega
    go_enter Tryd.func33, Tryd.ntmps33
    go_wp2
    go_ret
    exact ⟨rfl, rfl⟩

set_option maxHeartbeats 400000 in
theorem hasPrefix_any (s p : ByteArray) (w : World) (hs : s.size ≤ 9223372036854775807) (hp : p.size ≤ 9223372036854775807) :
    Calls Tryd.prog 28 #[.string s, .string p] w fun e w' => e = .returned (.bool (pre s p)) ∧ w' = w := by
  go_enter Tryd.func28, Tryd.ntmps28
  go_wp2_with (go_at_call 33; refine (lite_any _ _ _ hs hp).mono ?_; rintro e w' ⟨rfl, rfl⟩)
  go_ret
  exact ⟨rfl, rfl⟩

theorem hasPrefix_yes (s p : ByteArray) (w : World) (hs : s.size ≤ 9223372036854775807) (hp : p.size ≤ 9223372036854775807) (h : pre s p = true) :
    Calls Tryd.prog 28 #[.string s, .string p] w fun e w' => e = .returned (.bool true) ∧ w' = w := by
  have := hasPrefix_any s p w hs hp
  rw [h] at this
  exact this
theorem hasPrefix_no (s p : ByteArray) (w : World) (hs : s.size ≤ 9223372036854775807) (hp : p.size ≤ 9223372036854775807) (h : pre s p = false) :
    Calls Tryd.prog 28 #[.string s, .string p] w fun e w' => e = .returned (.bool false) ∧ w' = w := by
  have := hasPrefix_any s p w hs hp
  rw [h] at this
  exact this
theorem pre_le {s p : ByteArray} (h : pre s p = true) : p.size ≤ s.size := by
  unfold pre at h
  simp only [Bool.and_eq_true, decide_eq_true_eq] at h
  exact h.1

set_option maxHeartbeats 400000 in
theorem take_yes (b : Nat) (s p : ByteArray) (w : World) (hs : s.size ≤ 9223372036854775807) (hp : p.size ≤ 9223372036854775807) (h : Hid (pre s p = true)) (hc : w.cell? ⟨b, 0, none⟩ = some (.string s)) (hf : w.frozen? ⟨b, 0, none⟩ = false) :
    Calls Tryd.prog 27 #[.pointer (some ⟨b, 0, none⟩), .string p] w fun e w' => e = .returned (.bool true) ∧ w' = w.setCell ⟨b, 0, none⟩ (.string (s.extract p.size s.size)) := by
  have hle := pre_le h.out
  go_enter Tryd.func27, Tryd.ntmps27
  go_wp2_with (go_at_call 28; refine (hasPrefix_yes _ _ _ hs hp h.out).mono ?_; rintro e w' ⟨rfl, rfl⟩)
  go_ret
  exact ⟨rfl, rfl⟩
set_option maxHeartbeats 400000 in
theorem take_no (b : Nat) (s p : ByteArray) (w : World) (hs : s.size ≤ 9223372036854775807) (hp : p.size ≤ 9223372036854775807) (h : Hid (pre s p = false)) (hc : w.cell? ⟨b, 0, none⟩ = some (.string s)) :
    Calls Tryd.prog 27 #[.pointer (some ⟨b, 0, none⟩), .string p] w fun e w' => e = .returned (.bool false) ∧ w' = w := by
  go_enter Tryd.func27, Tryd.ntmps27
  go_wp2_with (go_at_call 28; refine (hasPrefix_no _ _ _ hs hp h.out).mono ?_; rintro e w' ⟨rfl, rfl⟩)
  go_ret
  exact ⟨rfl, rfl⟩

end Go.Proofs.Qxb6603870aDoor
