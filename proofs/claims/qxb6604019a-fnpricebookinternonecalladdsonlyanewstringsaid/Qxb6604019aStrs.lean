/-
  SLICES OF STRINGS: zzBytes, pbb1Bytes, pbb1Clone, pbb1Earlier, pbb1First.
-/
import Derived.Test.Qxb6604019aRows
import Derived.WalkKit
import Derived.WalkSpells
import Derived.WalkLawsBesides
import Derived.Lib.Hide
import Derived.Lib.Strings
import Derived.Deep.OwnRows
import Derived.RegionTactic
import Derived.ChangeAlike
import Derived.Outline
namespace Go.Proofs.Qxb6604019a
open Go.RowKit Go.Deep
set_option linter.unusedVariables false

/-- n strings at a slice's address. -/
def Strs (w : World) (a : Option Addr) (n : Nat) (ss : Nat → ByteArray) : Prop :=
  n = 0 ∨ ∃ b off, a = some ⟨b, off, none⟩ ∧ b < w.heap.size ∧ ∀ i, i < n → w.cell? ⟨b, off + i, none⟩ = some (.string (ss i))
theorem Strs.old {w w' : World} {a : Option Addr} {n : Nat} {ss : Nat → ByteArray} (h : Strs w a n ss) (hb : Below w.heap.size w w') : Strs w' a n ss := by
  rcases h with h | ⟨b, off, rfl, hlt, hc⟩
  · exact .inl h
  · exact .inr ⟨b, off, rfl, Nat.lt_of_lt_of_le hlt hb.size, fun j hj => by rw [hb.cell (p := ⟨b, off + j, none⟩) hlt]; exact hc j hj⟩
/-- The strings lie below B. -/
theorem Strs.below {B : Nat} {w w' : World} {a : Option Addr} {n : Nat} {ss : Nat → ByteArray} (h : Strs w a n ss) (hB : B = w.heap.size) (hb : Below B w w') : Strs w' a n ss := by
  subst hB
  exact h.old hb

/-- What zzBytes answers. -/
def Zz (n : Nat) (ss : Nat → ByteArray) (e : Ending) : Prop := e = .returned (.bool false) ∨ (e = .returned (.bool true) ∧ n ≤ 1048576 ∧ ∀ i, i < n → (ss i).size ≤ 1048576)
set_option maxHeartbeats 1000000 in
theorem zz18 (a : Option Addr) (n c : Nat) (ss : Nat → ByteArray) (w : World) (hn : n ≤ 9223372036854775807) (hL : Hid (∀ i, i < n → (ss i).size ≤ 9223372036854775807)) (h : Hid (Strs w a n ss)) :
    Calls Try.prog 18 #[.slice a n c] w fun e w' => Zz n ss e ∧ w' = w := by
  by_cases hbig : 1048576 < (n : Int)
  · go_enter Try.func18, Try.ntmps18
    go_wp2
    go_ret
    exact ⟨.inl rfl, rfl⟩
  · go_enter Try.func18, Try.ntmps18
    go_wp2
    go_loop [3, 4] (fun z i => ∃ (k : Nat) (x : Int), k ≤ n ∧ i = .int .i64 k ∧ z = .int .i64 x ∧ 0 ≤ x ∧ x ≤ 1048576 ∧ Hid (∀ j, j < k → (ss j).size ≤ 1048576)) (fun _ i => n - (intOf i).toNat)
    case atStart => exact ⟨0, n, by omega, rfl, rfl, by omega, by omega, Lib.hid (fun j hj => by omega)⟩
    case round =>
      obtain ⟨k, x, hk, rfl, rfl, hx0, hx1, HJ⟩ := hrel
      by_cases hlt : k < n
      · obtain ⟨b, off, rfl, hbs, hcs⟩ := h.out.resolve_left (by omega)
        have q1 := hcs k hlt
        have hLk := hL.out k hlt
        clear hcs
        by_cases s1 : 1048576 < ((ss k).size : Int)
        · go_wp2
          go_ret
          exact ⟨.inl rfl, rfl⟩
        · by_cases s2 : 1048576 < x + ((ss k).size : Int)
          · go_wp2
            go_ret
            exact ⟨.inl rfl, rfl⟩
          · go_wp2
            go_round
            case rel => exact ⟨k + 1, x + (ss k).size, by omega, by go_num, rfl, by omega, by omega, Lib.hid (fun j hj => by
              by_cases e : j = k
              · subst e; omega
              · exact HJ.out j (by omega))⟩
            case measure => simp [intOf]; omega
      · go_wp2
        go_ret
        exact ⟨.inr ⟨rfl, by omega, fun i hi => HJ.out i (by omega)⟩, rfl⟩

def Zz2 (n : Nat) (ss : Nat → ByteArray) (s : ByteArray) (e : Ending) : Prop := e = .returned (.bool false) ∨ (e = .returned (.bool true) ∧ n ≤ 1048576 ∧ s.size ≤ 1048576 ∧ ∀ i, i < n → (ss i).size ≤ 1048576)
set_option maxHeartbeats 1000000 in
theorem zz22 (a : Option Addr) (n c : Nat) (ss : Nat → ByteArray) (s : ByteArray) (w : World) (hn : n ≤ 9223372036854775807) (hs : s.size ≤ 9223372036854775807) (hL : Hid (∀ i, i < n → (ss i).size ≤ 9223372036854775807)) (h : Hid (Strs w a n ss)) :
    Calls Try.prog 22 #[.slice a n c, .string s] w fun e w' => Zz2 n ss s e ∧ w' = w := by
  by_cases hbig : 1048576 < (n : Int)
  · go_enter Try.func22, Try.ntmps22
    go_wp2
    go_ret
    exact ⟨.inl rfl, rfl⟩
  · go_enter Try.func22, Try.ntmps22
    go_wp2
    go_loop [5, 6] (fun z i => ∃ (k : Nat) (x : Int), k ≤ n ∧ i = .int .i64 k ∧ z = .int .i64 x ∧ 0 ≤ x ∧ x ≤ 1048576 ∧ Hid (∀ j, j < k → (ss j).size ≤ 1048576)) (fun _ i => n - (intOf i).toNat)
    case atStart => exact ⟨0, n, by omega, rfl, rfl, by omega, by omega, Lib.hid (fun j hj => by omega)⟩
    case round =>
      obtain ⟨k, x, hk, rfl, rfl, hx0, hx1, HJ⟩ := hrel
      by_cases hlt : k < n
      · obtain ⟨b, off, rfl, hbs, hcs⟩ := h.out.resolve_left (by omega)
        have q1 := hcs k hlt
        have hLk := hL.out k hlt
        clear hcs
        by_cases s1 : 1048576 < ((ss k).size : Int)
        · go_wp2
          go_ret
          exact ⟨.inl rfl, rfl⟩
        · by_cases s2 : 1048576 < x + ((ss k).size : Int)
          · go_wp2
            go_ret
            exact ⟨.inl rfl, rfl⟩
          · go_wp2
            go_round
            case rel => exact ⟨k + 1, x + (ss k).size, by omega, by go_num, rfl, by omega, by omega, Lib.hid (fun j hj => by
              by_cases e : j = k
              · subst e; omega
              · exact HJ.out j (by omega))⟩
            case measure => simp [intOf]; omega
      · by_cases s1 : 1048576 < (s.size : Int)
        · go_wp2
          go_ret
          exact ⟨.inl rfl, rfl⟩
        · by_cases s2 : 1048576 < x + (s.size : Int)
          · go_wp2
            go_ret
            exact ⟨.inl rfl, rfl⟩
          · go_wp2
            go_ret
            exact ⟨.inr ⟨rfl, by omega, by omega, fun i hi => HJ.out i (by omega)⟩, rfl⟩

def IsIntB (e : Ending) : Prop := ∃ x : Int, e = .returned (.int .i64 x) ∧ 0 ≤ x ∧ x ≤ 4194304
set_option maxHeartbeats 1000000 in
theorem bytes9 (a : Option Addr) (n c : Nat) (ss : Nat → ByteArray) (w : World) (hn : n ≤ 1048576) (hL : Hid (∀ i, i < n → (ss i).size ≤ 1048576)) (h : Hid (Strs w a n ss)) :
    Calls Try.prog 9 #[.slice a n c] w fun e w' => IsIntB e ∧ w' = w := by
  go_enter Try.func9, Try.ntmps9
  go_wp2
  go_loop [3, 4] (fun z i => ∃ (k : Nat) (x : Int), k ≤ n ∧ i = .int .i64 k ∧ z = .int .i64 x ∧ 0 ≤ x ∧ x ≤ 1048576) (fun _ i => n - (intOf i).toNat)
  case atStart => exact ⟨0, 0, by omega, rfl, rfl, by omega, by omega⟩
  case round =>
    obtain ⟨k, x, hk, rfl, rfl, hx0, hx1⟩ := hrel
    by_cases hlt : k < n
    · obtain ⟨b, off, rfl, hbs, hcs⟩ := h.out.resolve_left (by omega)
      have q1 := hcs k hlt
      have hLk := hL.out k hlt
      clear hcs
      have s1 : ¬ (1048576 < ((ss k).size : Int)) := by omega
      by_cases s2 : 1048576 < x + (((ss k).size : Int) + 16)
      · go_wp2
        go_ret
        exact ⟨⟨_, rfl, by omega, by omega⟩, rfl⟩
      · go_wp2
        go_round
        case rel => exact ⟨k + 1, x + ((ss k).size + 16), by omega, by go_num, rfl, by omega, by omega⟩
        case measure => simp [intOf]; omega
    · go_wp2
      go_ret
      exact ⟨⟨_, rfl, by omega, by omega⟩, rfl⟩

/-! ### clone -/
theorem info9 : (Try.prog.info? 9).map (fun i => (i.zero, i.size, i.bytes)) = some (some (.string ⟨#[]⟩), 1, 16) := by kernel_rfl
theorem nilTest (w : World) (a : Option Addr) (n c : Nat) : (binOp .eql 22 (.slice a n c) (.slice none 0 0)).run Try.prog w = .ok (.bool a.isNone) w := Lib.run_eql_slice_nil (P := Try.prog) w 22 9 a n c 0 0 Try.underlying22
/-- The first k of the strings, the rest empty. -/
def upTo (ss : Nat → ByteArray) (k : Nat) : Nat → Value := fun j => if j < k then .string (ss j) else .string ⟨#[]⟩
theorem upTo_step {w : World} {b n k : Nat} {ss : Nat → ByteArray} (h : w.rowIs b 9 n (upTo ss k)) : (w.setCell ⟨b, k, none⟩ (.string (ss k))).rowIs b 9 n (upTo ss (k + 1)) := by
  refine (h.set k _).congr fun i hi => ?_
  simp only [upTo]
  by_cases e : i = k
  · subst e; simp
  · rw [if_neg e]
    by_cases e2 : i < k
    · rw [if_pos e2, if_pos (by omega)]
    · rw [if_neg e2, if_neg (by omega)]
theorem upTo_at (ss : Nat → ByteArray) (k : Nat) : upTo ss k k = .string ⟨#[]⟩ := by simp [upTo]

set_option maxHeartbeats 1000000 in
theorem clone_some (b off n cap : Nat) (ss : Nat → ByteArray) (w : World) (hn : n ≤ 1048576) (hb : b < w.heap.size) (hc : Hid (∀ j, j < n → w.cell? ⟨b, off + j, none⟩ = some (.string (ss j)))) :
    Calls Try.prog 10 #[.slice (some ⟨b, off, none⟩) n cap] w fun e w' => e = .returned (.slice (some ⟨w.heap.size, 0, none⟩) n n) ∧ w'.rowIs w.heap.size 9 n (fun j => .string (ss j)) ∧ Below w.heap.size w w' := by
  have hmk := fun w1 => run_make_row' (P := Try.prog) 22 9 (.string ⟨#[]⟩) 16 Try.underlying22 info9 rfl .i64 .i64 n (by omega) (by omega) w1
  have hnil := nilTest
  go_enter Try.func10, Try.ntmps10
  go_wp2
  clear hmk hnil
  have HA := Lib.hid (World.rowIs_made w (.string ⟨#[]⟩) n 9)
  go_loopw [4] (fun i wr => ∃ k : Nat, k ≤ n ∧ i = .int .i64 k ∧ Hid (wr.rowIs w.heap.size 9 n (upTo ss k)) ∧ Below w.heap.size w wr) (fun i _ => n - (intOf i).toNat)
  case atStart => exact ⟨0, by omega, rfl, Lib.hid (HA.out.congr fun i hi => by simp [upTo]), (Below.refl _ _).alloc (Nat.le_refl _) _⟩
  case round =>
    obtain ⟨k, hk, rfl, HR, hbl⟩ := hrel
    by_cases hlt : k < n
    · have c1 : wr.cell? ⟨b, off + k, none⟩ = some (.string (ss k)) := by rw [hbl.cell (p := ⟨b, off + k, none⟩) hb]; exact hc.out k hlt
      have c2 : wr.cell? ⟨w.heap.size, k, none⟩ = some (.string ⟨#[]⟩) := by rw [HR.out.cell hlt, upTo_at]
      have f2 := HR.out.frozen k
      go_wp2
      go_roundw
      case rel => exact ⟨k + 1, by omega, by go_num, Lib.hid (upTo_step HR.out), hbl.setCell (Nat.le_refl _) _⟩
      case measure => simp [intOf]; omega
    · obtain rfl : n = k := by omega
      go_wp2
      go_ret
      exact ⟨rfl, HR.out.congr fun i hi => by simp [upTo, hi], hbl⟩
set_option maxHeartbeats 1000000 in
theorem clone_none (a : Option Addr) (cap : Nat) (w : World) :
    Calls Try.prog 10 #[.slice a 0 cap] w fun e w' => ∃ a' : Option Addr, e = .returned (.slice a' 0 0) ∧ Below w.heap.size w w' := by
  have hmk := fun w1 => run_make_row' (P := Try.prog) 22 9 (.string ⟨#[]⟩) 16 Try.underlying22 info9 rfl .i64 .i64 0 (by omega) (by omega) w1
  have e0 : ((0 : Nat) : Int) = 0 := rfl
  rw [e0] at hmk
  have hnil := nilTest
  cases a with
  | none =>
    go_enter Try.func10, Try.ntmps10
    go_wp2
    go_ret
    exact ⟨none, rfl, Below.refl _ _⟩
  | some x =>
    go_enter Try.func10, Try.ntmps10
    go_wp2
    clear hmk hnil
    go_loopw [4] (fun i wr => i = .int .i64 0 ∧ Below w.heap.size w wr) (fun i _ => 0)
    case atStart => exact ⟨rfl, (Below.refl _ _).alloc (Nat.le_refl _) _⟩
    case round =>
      obtain ⟨rfl, hbl⟩ := hrel
      go_wp2
      go_ret
      exact ⟨_, rfl, hbl⟩
theorem clone_any (a : Option Addr) (n cap : Nat) (ss : Nat → ByteArray) (w : World) (hn : n ≤ 1048576) (h : Strs w a n ss) :
    Calls Try.prog 10 #[.slice a n cap] w fun e w' => ∃ a' : Option Addr, e = .returned (.slice a' n n) ∧ Strs w' a' n ss ∧ Below w.heap.size w w' := by
  rcases h with rfl | ⟨b, off, rfl, hb, hc⟩
  · refine (clone_none a cap w).mono ?_
    rintro e w' ⟨a', he, hbl⟩
    exact ⟨a', he, .inl rfl, hbl⟩
  · refine (clone_some b off n cap ss w hn hb (Lib.hid hc)).mono ?_
    rintro e w' ⟨he, hr, hbl⟩
    exact ⟨_, he, .inr ⟨w.heap.size, 0, rfl, hr.lt, fun j hj => by rw [Nat.zero_add]; exact hr.cell hj⟩, hbl⟩

/-! ### pbb1Earlier, pbb1First -/
set_option maxHeartbeats 1000000 in
theorem earlier_no (a : Option Addr) (n c k : Nat) (ss : Nat → ByteArray) (w : World) (hn : n ≤ 1048576) (hk : k < n) (h : Hid (Strs w a n ss)) (hno : Hid (∀ j, j < k → ((ss j).toList == (ss k).toList) = false)) :
    Calls Try.prog 12 #[.slice a n c, .int .i64 k] w fun e w' => e = .returned (.bool false) ∧ Below w.heap.size w w' := by
  obtain ⟨b, off, rfl, hbs, hcs0⟩ := h.out.resolve_left (by omega)
  have hcs := Lib.hid hcs0
  clear hcs0 h
  go_enter Try.func12, Try.ntmps12
  go_wp2
  go_loopw [5] (fun i wr => ∃ j : Nat, j ≤ k ∧ i = .int .i64 j ∧ Below w.heap.size w wr) (fun i _ => k - (intOf i).toNat)
  case atStart => exact ⟨0, by omega, rfl, Below.refl _ _⟩
  case round =>
    obtain ⟨j, hj, rfl, hbl⟩ := hrel
    by_cases hlt : j < k
    · have q1 : wr.cell? ⟨b, off + j, none⟩ = some (.string (ss j)) := by rw [hbl.cell (p := ⟨b, _, none⟩) hbs]; exact hcs.out j (by omega)
      have q2 : wr.cell? ⟨b, off + k, none⟩ = some (.string (ss k)) := by rw [hbl.cell (p := ⟨b, _, none⟩) hbs]; exact hcs.out k (by omega)
      have e2 := hno.out j hlt
      go_wp2
      go_region
      all_goals
        go_wp2
        go_roundw
        case rel => exact ⟨j + 1, by omega, by go_num, hbl.drew⟩
        case measure => simp [intOf]; omega
    · go_wp2
      go_ret
      exact ⟨rfl, hbl⟩
set_option maxHeartbeats 1000000 in
theorem earlier_yes (a : Option Addr) (n c k i0 : Nat) (ss : Nat → ByteArray) (w : World) (hn : n ≤ 1048576) (hk : k < n) (h : Hid (Strs w a n ss)) (hi0 : i0 < k) (hyes : Hid (((ss i0).toList == (ss k).toList) = true)) :
    Calls Try.prog 12 #[.slice a n c, .int .i64 k] w fun e w' => e = .returned (.bool true) ∧ Below w.heap.size w w' := by
  obtain ⟨b, off, rfl, hbs, hcs0⟩ := h.out.resolve_left (by omega)
  have hcs := Lib.hid hcs0
  clear hcs0 h
  go_enter Try.func12, Try.ntmps12
  go_wp2
  go_loopw [5] (fun i wr => ∃ j : Nat, j ≤ i0 ∧ i = .int .i64 j ∧ Below w.heap.size w wr) (fun i _ => k - (intOf i).toNat)
  case atStart => exact ⟨0, by omega, rfl, Below.refl _ _⟩
  case round =>
    obtain ⟨j, hj, rfl, hbl⟩ := hrel
    have hlt : j < k := by omega
    have q1 : wr.cell? ⟨b, off + j, none⟩ = some (.string (ss j)) := by rw [hbl.cell (p := ⟨b, _, none⟩) hbs]; exact hcs.out j (by omega)
    have q2 : wr.cell? ⟨b, off + k, none⟩ = some (.string (ss k)) := by rw [hbl.cell (p := ⟨b, _, none⟩) hbs]; exact hcs.out k (by omega)
    cases e2 : ((ss j).toList == (ss k).toList)
    · have hne : j ≠ i0 := by rintro rfl; rw [hyes.out] at e2; cases e2
      go_wp2
      go_region
      all_goals
        go_wp2
        go_roundw
        case rel => exact ⟨j + 1, by omega, by go_num, hbl.drew⟩
        case measure => simp [intOf]; omega
    · go_wp2
      go_region
      all_goals
        go_wp2
        go_ret
        exact ⟨rfl, hbl.drew⟩

def NonNeg (e : Ending) : Prop := ∃ x : Nat, e = .returned (.int .i64 x) ∧ x ≤ 1048576
set_option maxHeartbeats 1000000 in
theorem first_no (a : Option Addr) (n c : Nat) (ss : Nat → ByteArray) (s : ByteArray) (w : World) (hn : n ≤ 1048576) (h : Hid (Strs w a n ss)) (hno : Hid (∀ j, j < n → ((ss j).toList == s.toList) = false)) :
    Calls Try.prog 13 #[.slice a n c, .string s] w fun e w' => e = .returned (.int .i64 (-1)) ∧ w' = w := by
  go_enter Try.func13, Try.ntmps13
  go_wp2
  go_loop [5] (fun i => ∃ j : Nat, j ≤ n ∧ i = .int .i64 j) (fun i => n - (intOf i).toNat)
  case atStart => exact ⟨0, by omega, rfl⟩
  case round =>
    obtain ⟨j, hj, rfl⟩ := hrel
    by_cases hlt : j < n
    · obtain ⟨b, off, rfl, hbs, hcs⟩ := h.out.resolve_left (by omega)
      have q1 := hcs j hlt
      clear hcs
      have e2 := hno.out j hlt
      go_wp2
      go_round
      case rel => exact ⟨j + 1, by omega, by go_num⟩
      case measure => simp [intOf]; omega
    · go_wp2
      go_ret
      exact ⟨rfl, rfl⟩
set_option maxHeartbeats 1000000 in
theorem first_yes (a : Option Addr) (n c i0 : Nat) (ss : Nat → ByteArray) (s : ByteArray) (w : World) (hn : n ≤ 1048576) (h : Hid (Strs w a n ss)) (hi0 : i0 < n) (hyes : Hid (((ss i0).toList == s.toList) = true)) :
    Calls Try.prog 13 #[.slice a n c, .string s] w fun e w' => NonNeg e ∧ w' = w := by
  obtain ⟨b, off, rfl, hbs, hcs0⟩ := h.out.resolve_left (by omega)
  have hcs := Lib.hid hcs0
  clear hcs0 h
  go_enter Try.func13, Try.ntmps13
  go_wp2
  go_loop [5] (fun i => ∃ j : Nat, j ≤ i0 ∧ i = .int .i64 j) (fun i => n - (intOf i).toNat)
  case atStart => exact ⟨0, by omega, rfl⟩
  case round =>
    obtain ⟨j, hj, rfl⟩ := hrel
    have hlt : j < n := by omega
    have q1 := hcs.out j hlt
    cases e2 : ((ss j).toList == s.toList)
    · have hne : j ≠ i0 := by rintro rfl; rw [hyes.out] at e2; cases e2
      go_wp2
      go_round
      case rel => exact ⟨j + 1, by omega, by go_num⟩
      case measure => simp [intOf]; omega
    · go_wp2
      go_ret
      exact ⟨⟨j, rfl, by omega⟩, rfl⟩

end Go.Proofs.Qxb6604019a
