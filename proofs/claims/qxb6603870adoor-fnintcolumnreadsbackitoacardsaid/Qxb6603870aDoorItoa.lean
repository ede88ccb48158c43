/-
  THE WALK OF itoaIntB1: the canonical decimal of an int.
-/
import Derived.Test.Qxb6603870aDoorDigits
namespace Go.Proofs.Qxb6603870aDoor
open Go.RowKit
set_option linter.unusedVariables false

theorem conv_of {W : World} {C : Nat} {l : List UInt8} (h : ∀ j (h : j < l.length), W.cell? ⟨C, j, none⟩ = some (.int .u8 (l[j].toNat : Int))) :
    (convert 22 9 (.slice (some ⟨C, 0, none⟩) l.length l.length)).run Tryd.prog W = .ok (.string ⟨l.toArray⟩) W :=
  run_convert_bytes_back (P := Tryd.prog) W 22 9 5 ⟨C, 0, none⟩ l.length l Tryd.underlying22 Tryd.underlying5 Tryd.underlying9 (fun j hj => by rw [Addr.add_lit, Nat.zero_add]; exact h j hj)

set_option maxHeartbeats 1000000 in
theorem itoa_pos (x : Int) (h0 : 0 ≤ x) (h1 : x ≤ 9223372036854775807) (w : World) :
    Calls Tryd.prog 20 #[.int .i64 x] w fun e w' => ∃ l : List UInt8, e = .returned (.string ⟨l.toArray⟩) ∧ IsDec x.natAbs l ∧ Below w.heap.size w w' := by
  have hd : decide (x < 0) = false := by simp; omega
  go_enter Tryd.func20, Tryd.ntmps20
  go_wp2_with fail
  refine (digits_any x.natAbs (by omega) _ x (Lib.hid (by omega)) h0).mono ?_
  rintro e w1 ⟨C, l, rfl, hc, hD, hb⟩
  have hcv := conv_of hc
  have HD := Lib.hid hD
  clear hD hc
  go_wp2
  go_ret
  exact ⟨l, rfl, HD.out, hb⟩

set_option maxHeartbeats 1000000 in
theorem itoa_neg (x : Int) (h0 : x < 0) (h1 : -9223372036854775808 ≤ x) (w : World) :
    Calls Tryd.prog 20 #[.int .i64 x] w fun e w' => ∃ l : List UInt8, e = .returned (.string (⟨#[45]⟩ ++ ⟨l.toArray⟩)) ∧ IsDec x.natAbs l ∧ Below w.heap.size w w' := by
  have hd : decide (x < 0) = true := by simp; omega
  go_enter Tryd.func20, Tryd.ntmps20
  go_wp2_with fail
  refine (digits_any x.natAbs (by omega) _ _ (Lib.hid (by omega)) (by omega)).mono ?_
  rintro e w1 ⟨C, l, rfl, hc, hD, hb⟩
  have hcv := conv_of hc
  have hsz : (⟨l.toArray⟩ : ByteArray).size ≤ 20 := by show l.toArray.size ≤ 20; simpa using hD.1
  obtain ⟨S, hS⟩ : ∃ S : ByteArray, S = ⟨l.toArray⟩ := ⟨_, rfl⟩
  rw [← hS] at hcv hsz
  have HD := Lib.hid (And.intro hD hS)
  clear hD hc hS
  have hadd : ∀ w : World, (Op.stringOp .add ⟨#[45]⟩ S).run Tryd.prog w = .ok (.string (⟨#[45]⟩ ++ S)) w := fun w => run_string_add_sum _ _ _ (by show 1 + S.size ≤ _; omega)
  go_wp2
  go_ret
  exact ⟨l, by rw [← HD.out.2]; rfl, HD.out.1, hb⟩

end Go.Proofs.Qxb6603870aDoor
