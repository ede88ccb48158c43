/-
  THE WALKS OF THE SHARED FUNCTIONS: zzBytes_FnDecimalPositionalSum, digitB1, decimal, ZZdecimal: each computes a plain function.
-/
import Derived.Test.Qxb6603915aRows
import Derived.Test.Qxb6603915aPlain
import Derived.WalkKit
import Derived.WalkSpells
import Derived.Lib.Strings
namespace Go.Proofs.Qxb6603915a
open Go.RowKit

set_option maxHeartbeats 400000 in
theorem zzBytes_yes (s : ByteArray) (w : World) (hs : s.size ≤ 1048576) :
    Calls Try.prog 6 #[.string s] w fun e w' => e = .returned (.bool true) ∧ w' = w := by
  have h : ¬ (1048576 < (s.size : Int)) := by omega
  go_enter Try.func6, Try.ntmps6
  go_wp2
  go_ret
  exact ⟨rfl, rfl⟩
set_option maxHeartbeats 400000 in
theorem zzBytes_no (s : ByteArray) (w : World) (hs : 1048576 < s.size) :
    Calls Try.prog 6 #[.string s] w fun e w' => e = .returned (.bool false) ∧ w' = w := by
  have h : (1048576 < (s.size : Int)) := by omega
  go_enter Try.func6, Try.ntmps6
  go_wp2
  go_ret
  exact ⟨rfl, rfl⟩

set_option maxHeartbeats 400000 in
theorem digit_any (c : UInt8) (w : World) :
    Calls Try.prog 8 #[.int .u8 (c.toNat : Int)] w fun e w' => e = .returned (.tuple #[.int .i64 (dv c), .bool (isDg c)]) ∧ w' = w := by
  have hb : (c.toNat : Int) ≤ 255 := by have := c.toNat_lt; omega
  have h0 : 0 ≤ (c.toNat : Int) := by omega
  by_cases h1 : 48 ≤ (c.toNat : Int)
  · by_cases h2 : (c.toNat : Int) ≤ 57
    · have hd := isDg_yes h1 h2
      have hv : dv c = (c.toNat : Int) - 48 := by unfold dv; rw [if_pos hd]
      rw [hv, hd]
      clear hv hd
      go_enter Try.func8, Try.ntmps8
      go_wp2
      go_ret2
      exact ⟨rfl, rfl⟩
    · have hd := isDg_hi (c := c) (by omega)
      have hv : dv c = 0 := by unfold dv; rw [hd]; rfl
      rw [hv, hd]
      clear hv hd
      go_enter Try.func8, Try.ntmps8
      go_wp2
      go_ret2
      exact ⟨rfl, rfl⟩
  · have hd := isDg_lo (c := c) (by omega)
    have hv : dv c = 0 := by unfold dv; rw [hd]; rfl
    rw [hv, hd]
    clear hv hd
    go_enter Try.func8, Try.ntmps8
    go_wp2
    go_ret2
    exact ⟨rfl, rfl⟩

theorem digit_yes (c : UInt8) (w : World) (h : isDg c = true) :
    Calls Try.prog 8 #[.int .u8 (c.toNat : Int)] w fun e w' => e = .returned (.tuple #[.int .i64 (dv c), .bool true]) ∧ w' = w := by
  have := digit_any c w
  rw [h] at this
  exact this
theorem digit_no (c : UInt8) (w : World) (h : isDg c = false) :
    Calls Try.prog 8 #[.int .u8 (c.toNat : Int)] w fun e w' => e = .returned (.tuple #[.int .i64 (dv c), .bool false]) ∧ w' = w := by
  have := digit_any c w
  rw [h] at this
  exact this

theorem ret_pair {a b : Int} {c d : Bool} (h1 : a = b) (h2 : c = d) : Ending.returned (.tuple #[.int .i64 a, .bool c]) = .returned (.tuple #[.int .i64 b, .bool d]) := by rw [h1, h2]

set_option maxHeartbeats 400000 in
theorem decimal_any (s : ByteArray) (w : World) (hs : s.size ≤ maxLen) :
    Calls Try.prog 12 #[.string s] w fun e w' => e = .returned (.tuple #[.int .i64 (decN s.data.toList), .bool (decOK s.data.toList)]) ∧ w' = w := by
  unfold maxLen at hs
  go_enter Try.func12, Try.ntmps12
  go_wp2
  go_loop [4, 8] (fun n i => ∃ k : Nat, k ≤ s.size ∧ i = .int .i64 k ∧ (s.data.toList.take k).all isDg = true ∧ n = .int .i64 (wrap64 (accD 0 (s.data.toList.take k)))) (fun _ i => s.size - (intOf i).toNat)
  case atStart => exact ⟨0, Nat.zero_le _, rfl, rfl, by rw [List.take_zero]; simp [accD, wrap64]⟩
  case round =>
    obtain ⟨k, hk, rfl, hall, rfl⟩ := hrel
    have HA : Hid ((s.data.toList.take k).all isDg = true) := hall
    clear hall
    by_cases hlt : k < s.size
    · have hb : (s[k].toNat : Int) ≤ 255 := by have := s[k].toNat_lt; omega
      have h0 : 0 ≤ (s[k].toNat : Int) := by omega
      have HB : Hid (isDg s[k] = false → decN s.data.toList = 0 ∧ decOK s.data.toList = false) := by
        intro h
        have ha : s.data.toList.all isDg = false := by
          rw [List.all_eq_false]
          exact ⟨s[k], by rw [← Array.mem_def]; exact Array.getElem_mem hlt, by simp [h]⟩
        exact ⟨by simp [decN, ha], by simp [decOK, ha]⟩
      have HC : Hid (isDg s[k] = true → (s.data.toList.take (k + 1)).all isDg = true) := by
        intro h
        rw [take_snoc s k hlt, List.all_append, HA.out]
        simp [h]
      have HD : Hid (wrap64 (wrap64 (wrap64 (accD 0 (s.data.toList.take k)) * 10) + ((s[k].toNat : Int) - 48)) = wrap64 (accD 0 (s.data.toList.take (k + 1)))) := by
        rw [take_snoc s k hlt]
        exact accD_step _ _
      by_cases c1 : (s[k].toNat : Int) < 48
      · go_wp2
        go_ret2
        have h := HB.out (isDg_lo c1)
        exact ⟨ret_pair h.1.symm h.2.symm, rfl⟩
      · by_cases c2 : 57 < (s[k].toNat : Int)
        · go_wp2
          go_ret2
          have h := HB.out (isDg_hi c2)
          exact ⟨ret_pair h.1.symm h.2.symm, rfl⟩
        · go_wp2
          go_round
          case rel => exact ⟨k + 1, by omega, by go_num, HC.out (isDg_yes (by omega) (by omega)), by rw [← HD.out]⟩
          case measure => simp [intOf]; omega
    · go_wp2
      go_ret2
      have e : s.data.toList.take k = s.data.toList := List.take_of_length_le (by simp; omega)
      have h := HA.out
      rw [e] at h ⊢
      exact ⟨ret_pair (by simp [decN, h]) (by simp [decOK, h, Lib.toList_data]), rfl⟩

set_option maxHeartbeats 400000 in
theorem zzdecimal_any (s : ByteArray) (w : World) (hs : s.size ≤ maxLen) :
    Calls Try.prog 7 #[.string s] w fun e w' => e = .returned (.tuple #[.int .i64 (decN s.data.toList), .bool (decOK s.data.toList)]) ∧ w' = w := by
  go_enter Try.func7, Try.ntmps7
  go_wp2_with (go_at_call 12; refine (decimal_any _ _ hs).mono ?_; rintro e w' ⟨rfl, rfl⟩)
  go_ret2
  exact ⟨rfl, rfl⟩

end Go.Proofs.Qxb6603915a
