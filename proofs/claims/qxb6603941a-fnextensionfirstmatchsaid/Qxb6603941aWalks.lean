/-
  THE WALKS OF THE SMALL FUNCTIONS: cloneBytes, bytesEqual, sameWindow, the reader.
-/
import Derived.Test.Qxb6603941aRows
import Derived.WalkKit
import Derived.WalkSpells
import Derived.WalkLawsBesides
import Derived.Lib.Hide
import Derived.Deep.OwnRows
import Derived.RegionTactic
import Derived.ChangeAlike
import Derived.Outline
namespace Go.Proofs.Qxb6603941a
open Go.RowKit Go.Deep
set_option linter.unusedVariables false

/-- n bytes f at a slice's address. -/
def Bytes (w : World) (a : Option Addr) (n : Nat) (f : Nat → Int) : Prop :=
  n = 0 ∨ ∃ b off, a = some ⟨b, off, none⟩ ∧ b < w.heap.size ∧ ∀ j, j < n → w.cell? ⟨b, off + j, none⟩ = some (.int .u8 (f j))

theorem Bytes.old {w w' : World} {a : Option Addr} {n : Nat} {f : Nat → Int} (h : Bytes w a n f) (hb : Below w.heap.size w w') : Bytes w' a n f := by
  rcases h with h | ⟨b, off, rfl, hlt, hc⟩
  · exact .inl h
  · exact .inr ⟨b, off, rfl, Nat.lt_of_lt_of_le hlt hb.size, fun j hj => by rw [hb.cell (p := ⟨b, off + j, none⟩) hlt]; exact hc j hj⟩

theorem info5 : (Try.prog.info? 5).map (fun i => (i.zero, i.size, i.bytes)) = some (some (.int .u8 0), 1, 1) := by kernel_rfl

theorem nilTest (w : World) (a : Option Addr) (n c : Nat) : (binOp .eql 27 (.slice a n c) (.slice none 0 0)).run Try.prog w = .ok (.bool a.isNone) w := Lib.run_eql_slice_nil (P := Try.prog) w 27 5 a n c 0 0 Try.underlying27
theorem notNilTest (w : World) (a : Option Addr) (n c : Nat) : (binOp .neq 27 (.slice a n c) (.slice none 0 0)).run Try.prog w = .ok (.bool (!a.isNone)) w := run_neq_slice_nil_any (P := Try.prog) w 27 5 a n c 0 0 Try.underlying27

/-- The first k of n bytes f, the rest 0. -/
def upTo (f : Nat → Int) (k : Nat) : Nat → Value := fun j => if j < k then .int .u8 (f j) else .int .u8 0
theorem upTo_step {w : World} {b n k : Nat} {f : Nat → Int} (h : w.rowIs b 5 n (upTo f k)) : (w.setCell ⟨b, k, none⟩ (.int .u8 (f k))).rowIs b 5 n (upTo f (k + 1)) := by
  refine (h.set k _).congr fun i hi => ?_
  simp only [upTo]
  by_cases e : i = k
  · subst e; simp
  · rw [if_neg e]
    by_cases e2 : i < k
    · rw [if_pos e2, if_pos (by omega)]
    · rw [if_neg e2, if_neg (by omega)]
theorem upTo_at (f : Nat → Int) (k : Nat) : upTo f k k = .int .u8 0 := by simp [upTo]

set_option maxHeartbeats 1000000 in
theorem clone_some (b off n cap : Nat) (f : Nat → Int) (w : World) (hn : n ≤ 1048576) (hb : b < w.heap.size) (hc : Hid (∀ j, j < n → w.cell? ⟨b, off + j, none⟩ = some (.int .u8 (f j)))) :
    Calls Try.prog 13 #[.slice (some ⟨b, off, none⟩) n cap] w fun e w' => e = .returned (.slice (some ⟨w.heap.size, 0, none⟩) n n) ∧ w'.rowIs w.heap.size 5 n (fun j => .int .u8 (f j)) ∧ Below w.heap.size w w' := by
  have hmk := fun w1 => run_make_row' (P := Try.prog) 27 5 (.int .u8 0) 1 Try.underlying27 info5 rfl .i64 .i64 n (by omega) (by omega) w1
  have hnil := nilTest
  go_enter Try.func13, Try.ntmps13
  go_wp2
  clear hmk hnil
  have HA := Lib.hid (World.rowIs_made w (.int .u8 0) n 5)
  go_loopw [4] (fun i wr => ∃ k : Nat, k ≤ n ∧ i = .int .i64 k ∧ Hid (wr.rowIs w.heap.size 5 n (upTo f k)) ∧ Below w.heap.size w wr) (fun i _ => n - (intOf i).toNat)
  case atStart => exact ⟨0, by omega, rfl, Lib.hid (HA.out.congr fun i hi => by simp [upTo]), (Below.refl _ _).alloc (Nat.le_refl _) _⟩
  case round =>
    obtain ⟨k, hk, rfl, HR, hbl⟩ := hrel
    by_cases hlt : k < n
    · have c1 : wr.cell? ⟨b, off + k, none⟩ = some (.int .u8 (f k)) := by rw [hbl.cell (p := ⟨b, off + k, none⟩) hb]; exact hc.out k hlt
      have c2 : wr.cell? ⟨w.heap.size, k, none⟩ = some (.int .u8 0) := by rw [HR.out.cell hlt, upTo_at]
      have f2 := HR.out.frozen k
      go_wp2
      go_roundw
      case rel => exact ⟨k + 1, by omega, by go_num, Lib.hid (upTo_step HR.out), hbl.setCell (Nat.le_refl _) _⟩
      case measure => simp [intOf]; omega
    · obtain rfl : n = k := by omega
      go_wp2
      go_ret
      exact ⟨rfl, HR.out.congr fun i hi => by simp [upTo, hi], hbl⟩

set_option maxHeartbeats 1000000 in
/-- Nothing to copy: nil stays nil, an empty one is made anew. -/
theorem clone_none (a : Option Addr) (cap : Nat) (w : World) :
    Calls Try.prog 13 #[.slice a 0 cap] w fun e w' => ∃ a' : Option Addr, e = .returned (.slice a' 0 0) ∧ a'.isNone = a.isNone ∧ Below w.heap.size w w' := by
  have hmk := fun w1 => run_make_row' (P := Try.prog) 27 5 (.int .u8 0) 1 Try.underlying27 info5 rfl .i64 .i64 0 (by omega) (by omega) w1
  have hnil := nilTest
  cases a with
  | none =>
    go_enter Try.func13, Try.ntmps13
    go_wp2
    go_ret
    exact ⟨none, rfl, rfl, Below.refl _ _⟩
  | some x =>
    have e0 : ((0 : Nat) : Int) = 0 := rfl
    rw [e0] at hmk
    go_enter Try.func13, Try.ntmps13
    go_wp2
    clear hmk hnil
    go_loopw [4] (fun i wr => i = .int .i64 0 ∧ Below w.heap.size w wr) (fun i _ => 0)
    case atStart => exact ⟨rfl, (Below.refl _ _).alloc (Nat.le_refl _) _⟩
    case round =>
      obtain ⟨rfl, hbl⟩ := hrel
      go_wp2
      go_ret
      exact ⟨_, rfl, rfl, hbl⟩

/-- cloneBytes, WHOLE. -/
theorem clone_any (a : Option Addr) (n cap : Nat) (f : Nat → Int) (w : World) (hn : n ≤ 1048576) (h : Bytes w a n f) :
    Calls Try.prog 13 #[.slice a n cap] w fun e w' => ∃ a' : Option Addr, e = .returned (.slice a' n n) ∧ (n = 0 ∨ (a' = some ⟨w.heap.size, 0, none⟩ ∧ w'.rowIs w.heap.size 5 n (fun j => .int .u8 (f j)))) ∧ Below w.heap.size w w' := by
  rcases h with rfl | ⟨b, off, rfl, hb, hc⟩
  · refine (clone_none a cap w).mono ?_
    rintro e w' ⟨a', he, _, hbl⟩
    exact ⟨a', he, .inl rfl, hbl⟩
  · refine (clone_some b off n cap f w hn hb (Lib.hid hc)).mono ?_
    rintro e w' ⟨he, hr, hbl⟩
    exact ⟨_, he, .inr ⟨rfl, hr⟩, hbl⟩

set_option maxHeartbeats 1000000 in
/-- bytesEqual at two slices that hold the same bytes. -/
theorem bytesEq_same (a a2 : Option Addr) (n cap cap2 : Nat) (f : Nat → Int) (w : World) (hn : n ≤ 1048576) (h1 : Hid (Bytes w a n f)) (h2 : Hid (Bytes w a2 n f)) :
    Calls Try.prog 15 #[.slice a n cap, .slice a2 n cap2] w fun e w' => e = .returned (.bool true) ∧ Below w.heap.size w w' := by
  go_enter Try.func15, Try.ntmps15
  go_wp2
  go_loopw [5] (fun i wr => ∃ k : Nat, k ≤ n ∧ i = .int .i64 k ∧ Below w.heap.size w wr) (fun i _ => n - (intOf i).toNat)
  case atStart => exact ⟨0, by omega, rfl, Below.refl _ _⟩
  case round =>
    obtain ⟨k, hk, rfl, hbl⟩ := hrel
    by_cases hlt : k < n
    · obtain ⟨b, off, rfl, hb, hc⟩ := h1.out.resolve_left (by omega)
      obtain ⟨b2, off2, rfl, hb2, hc2⟩ := h2.out.resolve_left (by omega)
      have c1 : wr.cell? ⟨b, off + k, none⟩ = some (.int .u8 (f k)) := by rw [hbl.cell (p := ⟨b, off + k, none⟩) hb]; exact hc k hlt
      have c2 : wr.cell? ⟨b2, off2 + k, none⟩ = some (.int .u8 (f k)) := by rw [hbl.cell (p := ⟨b2, off2 + k, none⟩) hb2]; exact hc2 k hlt
      clear hc hc2
      go_wp2
      go_region
      all_goals
        go_wp2
        go_roundw
        case rel => exact ⟨k + 1, by omega, by go_num, hbl.drew⟩
        case measure => simp [intOf]; omega
    · obtain rfl : n = k := by omega
      go_wp2
      go_ret
      exact ⟨rfl, hbl⟩

end Go.Proofs.Qxb6603941a
