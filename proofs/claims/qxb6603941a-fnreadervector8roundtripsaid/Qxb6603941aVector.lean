/-
  FnReaderVector8RoundTrip: THE LAW's WALK.
-/
import Derived.Test.Qxb6603941aReader
namespace Go.Proofs.Qxb6603941a
open Go.RowKit Go.Deep
set_option linter.unusedVariables false

/-- What the message holds: the length, the first k1 bytes of v, the first k2 of the tail. -/
def mc (n1 : Nat) (f g : Nat → Int) (k1 k2 : Nat) : Nat → Value := fun j =>
  if j = 0 then .int .u8 n1 else if j - 1 < k1 then .int .u8 (f (j - 1)) else if n1 ≤ j - 1 ∧ j - 1 - n1 < k2 then .int .u8 (g (j - 1 - n1)) else .int .u8 0
theorem mc_start {w : World} {M T n1 : Nat} {f g : Nat → Int} (h : w.rowIs M 5 T (fun _ => .int .u8 0)) : (w.setCell ⟨M, 0, none⟩ (.int .u8 n1)).rowIs M 5 T (mc n1 f g 0 0) := by
  refine (h.set 0 _).congr fun i hi => ?_
  simp only [mc]
  by_cases e : i = 0
  · simp [e]
  · simp [e]
theorem mc_step1 {w : World} {M T n1 k : Nat} {f g : Nat → Int} (h : w.rowIs M 5 T (mc n1 f g k 0)) (hk : k < n1) : (w.setCell ⟨M, 1 + k, none⟩ (.int .u8 (f k))).rowIs M 5 T (mc n1 f g (k + 1) 0) := by
  refine (h.set (1 + k) _).congr fun i hi => ?_
  simp only [mc]
  by_cases e : i = 1 + k
  · subst e
    rw [if_pos rfl, if_neg (by omega), if_pos (by omega)]
    congr 2
    omega
  · rw [if_neg e]
    by_cases e0 : i = 0
    · rw [if_pos e0, if_pos e0]
    · rw [if_neg e0, if_neg e0]
      by_cases e1 : i - 1 < k
      · rw [if_pos e1, if_pos (by omega)]
      · rw [if_neg e1, if_neg (by omega), if_neg (by omega)]
theorem mc_step2 {w : World} {M T n1 k : Nat} {f g : Nat → Int} (h : w.rowIs M 5 T (mc n1 f g n1 k)) : (w.setCell ⟨M, 1 + n1 + k, none⟩ (.int .u8 (g k))).rowIs M 5 T (mc n1 f g n1 (k + 1)) := by
  refine (h.set (1 + n1 + k) _).congr fun i hi => ?_
  simp only [mc]
  by_cases e : i = 1 + n1 + k
  · subst e
    rw [if_pos rfl, if_neg (by omega), if_neg (by omega), if_pos (by omega)]
    congr 2
    omega
  · rw [if_neg e]
    by_cases e0 : i = 0
    · rw [if_pos e0, if_pos e0]
    · rw [if_neg e0, if_neg e0]
      by_cases e1 : i - 1 < n1
      · rw [if_pos e1, if_pos e1]
      · rw [if_neg e1, if_neg e1]
        by_cases e2 : n1 ≤ i - 1 ∧ i - 1 - n1 < k
        · rw [if_pos e2, if_pos (by omega)]
        · rw [if_neg e2, if_neg (by omega)]
theorem mc_exists {w : World} {M T n1 k1 k2 : Nat} {f g : Nat → Int} (h : w.rowIs M 5 T (mc n1 f g k1 k2)) {j : Nat} (hj : j < T) : ∃ x : Int, w.cell? ⟨M, j, none⟩ = some (.int .u8 x) := by
  have hc := h.cell hj
  simp only [mc] at hc
  split at hc
  · exact ⟨_, hc⟩
  · split at hc
    · exact ⟨_, hc⟩
    · split at hc
      · exact ⟨_, hc⟩
      · exact ⟨_, hc⟩
theorem mc_bytes1 {w : World} {M n1 n2 o1 : Nat} {f g : Nat → Int} (h : w.rowIs M 5 (1 + n1 + n2) (mc n1 f g n1 n2)) (ho : n1 = 0 ∨ o1 = 1) : Bytes w (some ⟨M, o1, none⟩) n1 f := by
  rcases ho with rfl | rfl
  · exact .inl rfl
  · refine .inr ⟨M, 1, rfl, h.lt, fun j hj => ?_⟩
    rw [h.cell (by omega)]
    simp only [mc]
    rw [if_neg (by omega), if_pos (by omega)]
    congr 3
    omega
theorem mc_bytes2 {w : World} {M n1 n2 o2 : Nat} {f g : Nat → Int} (h : w.rowIs M 5 (1 + n1 + n2) (mc n1 f g n1 n2)) (ho : n2 = 0 ∨ o2 = 1 + n1) : Bytes w (some ⟨M, o2, none⟩) n2 g := by
  rcases ho with rfl | rfl
  · exact .inl rfl
  · refine .inr ⟨M, 1 + n1, rfl, h.lt, fun j hj => ?_⟩
    rw [h.cell (by omega)]
    simp only [mc]
    rw [if_neg (by omega), if_neg (by omega), if_pos (by omega)]
    congr 3
    omega
theorem bytes_row {w w' : World} {a' : Option Addr} {n : Nat} {f : Nat → Int} (hb : Below w.heap.size w w') (h : n = 0 ∨ (a' = some ⟨w.heap.size, 0, none⟩ ∧ w'.rowIs w.heap.size 5 n (fun j => .int .u8 (f j)))) : Bytes w' a' n f := by
  rcases h with h | ⟨rfl, h⟩
  · exact .inl h
  · exact .inr ⟨w.heap.size, 0, rfl, h.lt, fun j hj => by rw [Nat.zero_add]; exact h.cell hj⟩

set_option maxHeartbeats 400000 in
theorem zzB_yes (a a2 : Option Addr) (n c n2 c2 : Nat) (limit : Int) (w : World) (h : n + n2 ≤ 1048576) :
    Calls Try.prog 12 #[.slice a n c, .slice a2 n2 c2, .int .i64 limit] w fun e w' => e = .returned (.bool true) ∧ w' = w := by
  have h1 : ¬ (1048576 < (n : Int)) := by omega
  have h2 : ¬ (1048576 < (n2 : Int)) := by omega
  have h3 : ¬ (1048576 < (n : Int) + n2) := by omega
  go_enter Try.func12, Try.ntmps12
  go_wp2
  go_ret
  exact ⟨rfl, rfl⟩
set_option maxHeartbeats 400000 in
theorem zzB_no (a a2 : Option Addr) (n c n2 c2 : Nat) (limit : Int) (w : World) (hn : n ≤ 9223372036854775807) (hn2 : n2 ≤ 9223372036854775807) (h : 1048576 < n + n2) :
    Calls Try.prog 12 #[.slice a n c, .slice a2 n2 c2, .int .i64 limit] w fun e w' => e = .returned (.bool false) ∧ w' = w := by
  by_cases h1 : 1048576 < (n : Int)
  · go_enter Try.func12, Try.ntmps12
    go_wp2
    go_ret
    exact ⟨rfl, rfl⟩
  · by_cases h2 : 1048576 < (n2 : Int)
    · go_enter Try.func12, Try.ntmps12
      go_wp2
      go_ret
      exact ⟨rfl, rfl⟩
    · have h3 : 1048576 < (n : Int) + n2 := by omega
      go_enter Try.func12, Try.ntmps12
      go_wp2
      go_ret
      exact ⟨rfl, rfl⟩

set_option maxHeartbeats 2000000 in
theorem law_main (a0 a1 : Option Addr) (n1 c1 n2 c2 : Nat) (f g : Nat → Int) (limit : Int) (w : World) (hsum : n1 + n2 ≤ 1048576) (h255 : n1 ≤ 255) (h1 : Hid (Bytes w a0 n1 f)) (h2 : Hid (Bytes w a1 n2 g)) :
    Calls Try.prog 4 #[.slice a0 n1 c1, .slice a1 n2 c2, .int .i64 limit] w fun e w' => e = .returned (.bool true) ∧ Below w.heap.size w w' := by
  have t1 : ¬ (1048576 < (n1 : Int)) := by omega
  have t2 : decide (1048576 < (n2 : Int)) = false := by simp; omega
  have t3 : decide (1048576 < (n1 : Int) + n2) = false := by simp; omega
  have t4 : ¬ (255 < (n1 : Int)) := by omega
  have hmk := fun w1 => run_make_row' (P := Try.prog) 27 5 (.int .u8 0) 1 Try.underlying27 info5 rfl .i64 .i64 (1 + n1 + n2) (by omega) (by omega) w1
  have ec : ((1 + n1 + n2 : Nat) : Int) = 1 + (n1 : Int) + n2 := by omega
  rw [ec] at hmk
  clear ec
  go_enter Try.func4, Try.ntmps4
  go_wp2_with fail
  refine (zzB_yes _ _ _ _ _ _ _ _ hsum).mono ?_
  rintro e w' ⟨rfl, rfl⟩
  go_wp2_with fail
  refine (clone_any a0 n1 c1 f _ (by omega) h1.out).mono ?_
  rintro e w1 ⟨a0', rfl, hr1, hb1⟩
  have B1 := Lib.hid (bytes_row hb1 hr1)
  clear hr1
  go_wp2_with fail
  refine (clone_any a1 n2 c2 g _ (by omega) (h2.out.old hb1)).mono ?_
  rintro e w2 ⟨a1', rfl, hr2, hb2⟩
  have B2 := Lib.hid (bytes_row hb2 hr2)
  have B1' := Lib.hid (B1.out.old hb2)
  clear hr2 B1 h1 h2
  have hb12 := hb1.trans (hb2.mono hb1.size)
  clear hb1 hb2
  have HM := Lib.hid (World.rowIs_made w2 (.int .u8 0) (1 + n1 + n2) 5)
  have m0 : (w2.alloc (.cells (madeCells #[.int .u8 0] (1 + n1 + n2)) 5)).cell? ⟨w2.heap.size, 0, none⟩ = some (.int .u8 0) := HM.out.cell (by omega)
  have f0 : (w2.alloc (.cells (madeCells #[.int .u8 0] (1 + n1 + n2)) 5)).frozen? ⟨w2.heap.size, 0, none⟩ = false := HM.out.frozen 0
  have hbM : Below w2.heap.size w2 (w2.alloc (.cells (madeCells #[.int .u8 0] (1 + n1 + n2)) 5)) := (Below.refl _ _).alloc (Nat.le_refl _) _
  have HS := Lib.hid (mc_start (n1 := n1) (f := f) (g := g) HM.out)
  rw [World.setCell_alloc_at _ _ _ _ _ rfl] at HS
  clear hbM
  go_wp2
  clear hmk m0 f0 HM
  go_loopw [8] (fun i wr => ∃ k : Nat, k ≤ n1 ∧ i = .int .i64 k ∧ Hid (wr.rowIs w2.heap.size 5 (1 + n1 + n2) (mc n1 f g k 0)) ∧ Below w2.heap.size w2 wr) (fun i _ => n1 - (intOf i).toNat)
  case atStart => exact ⟨0, by omega, rfl, HS, (Below.refl _ _).alloc (Nat.le_refl _) _⟩
  case round =>
    obtain ⟨k, hk, rfl, HR, hbl⟩ := hrel
    by_cases hlt : k < n1
    · obtain ⟨b, off, rfl, hbs, hcs⟩ := B1'.out.resolve_left (by omega)
      have q1 : wr.cell? ⟨b, off + k, none⟩ = some (.int .u8 (f k)) := by rw [hbl.cell (p := ⟨b, off + k, none⟩) hbs]; exact hcs k hlt
      obtain ⟨x, q2⟩ := mc_exists HR.out (show 1 + k < 1 + n1 + n2 by omega)
      have q3 := HR.out.frozen (1 + k)
      clear hcs
      go_wp2
      go_roundw
      case rel => exact ⟨k + 1, by omega, by go_num, Lib.hid (mc_step1 HR.out hlt), hbl.setCell (Nat.le_refl _) _⟩
      case measure => simp [intOf]; omega
    · obtain rfl : n1 = k := by omega
      obtain ⟨wo, hwo⟩ : ∃ wo, wo = wr := ⟨_, rfl⟩
      subst hwo
      clear HS
      go_wp2
      go_loopw [9] (fun i wr => ∃ k : Nat, k ≤ n2 ∧ i = .int .i64 k ∧ Hid (wr.rowIs w2.heap.size 5 (1 + n1 + n2) (mc n1 f g n1 k)) ∧ Below w2.heap.size w2 wr) (fun i _ => n2 - (intOf i).toNat)
      case atStart => exact ⟨0, by omega, rfl, HR, hbl⟩
      case round =>
        clear HR hbl hlt hk
        obtain ⟨k, hk, rfl, HR, hbl⟩ := hrel
        by_cases hlt : k < n2
        · obtain ⟨b, off, rfl, hbs, hcs⟩ := B2.out.resolve_left (by omega)
          have q1 : wr.cell? ⟨b, off + k, none⟩ = some (.int .u8 (g k)) := by rw [hbl.cell (p := ⟨b, off + k, none⟩) hbs]; exact hcs k hlt
          obtain ⟨x, q2⟩ := mc_exists HR.out (show 1 + n1 + k < 1 + n1 + n2 by omega)
          have q3 := HR.out.frozen (1 + n1 + k)
          clear hcs
          go_wp2
          go_roundw
          case rel => exact ⟨k + 1, by omega, by go_num, Lib.hid (mc_step2 HR.out), hbl.setCell (Nat.le_refl _) _⟩
          case measure => simp [intOf]; omega
        · obtain rfl : n2 = k := by omega
          obtain ⟨w3, hw3⟩ : ∃ w3, w3 = wr := ⟨_, rfl⟩
          subst hw3
          have m0 : w3.cell? ⟨w2.heap.size, 0, none⟩ = some (.int .u8 n1) := by rw [HR.out.cell (by omega)]; simp [mc]
          by_cases hl : limit < n1
          · go_wp2_with fail
            refine (zz_bad w2.heap.size (1 + n1 + n2) n1 limit w3 (by omega) (by omega) h255 hl HR.out.lt m0).mono ?_
            rintro e w4 ⟨o2, rfl, ho2, hb4⟩
            have hnil := nilTest
            have hend := hb12.trans ((hbl.trans (hb4.mono (Nat.le_of_lt HR.out.lt))).mono hb12.size)
            have eT : 1 + n1 + n2 - 1 = n1 + n2 := by omega
            rw [eT] at ho2 ⊢
            by_cases hz : n1 + n2 = 0
            · obtain rfl : n1 = 0 := by omega
              obtain rfl : n2 = 0 := by omega
              go_wp2_with fail
              refine (same_some _ _ 0 _ _ w4 (by omega) (.inl rfl)).mono ?_
              rintro e w5 ⟨rfl, hb5⟩
              go_wp2
              go_ret
              exact ⟨rfl, hend.trans (hb5.mono hend.size)⟩
            · have hz2 : ¬ (1 + n1 + n2 - 1 = 0) := by omega
              obtain rfl : o2 = 1 := by omega
              go_wp2_with fail
              refine (same_some _ _ (n1 + n2) _ _ w4 (by omega) (.inr ⟨_, _, rfl, rfl⟩)).mono ?_
              rintro e w5 ⟨rfl, hb5⟩
              go_wp2
              go_ret
              exact ⟨rfl, hend.trans (hb5.mono hend.size)⟩
          · have hl2 : ¬ (limit < (n1 : Int)) := hl
            go_wp2_with fail
            refine (zz_ok w2.heap.size n1 n2 limit w3 (by omega) h255 (by omega) HR.out.lt m0).mono ?_
            rintro e w4 ⟨o1, o2, rfl, ho1, ho2, hb4⟩
            have hnn := notNilTest
            have hb24 := hbl.trans (hb4.mono (Nat.le_of_lt HR.out.lt))
            have e1 := Lib.hid ((mc_bytes1 HR.out ho1).old hb4)
            have e2 := Lib.hid ((mc_bytes2 HR.out ho2).old hb4)
            have e3 := Lib.hid (B1'.out.old hb24)
            have e4 := Lib.hid (B2.out.old hb24)
            go_wp2_with fail
            refine (bytesEq_same _ _ n1 _ _ f w4 (by omega) e1 e3).mono ?_
            rintro e w5 ⟨rfl, hb5⟩
            go_wp2_with fail
            refine (bytesEq_same _ _ n2 _ _ g w5 (by omega) (Lib.hid (e2.out.old hb5)) (Lib.hid (e4.out.old hb5))).mono ?_
            rintro e w6 ⟨rfl, hb6⟩
            go_wp2
            go_ret
            exact ⟨rfl, hb12.trans ((hb24.trans ((hb5.trans (hb6.mono hb5.size)).mono hb24.size)).mono hb12.size)⟩

set_option maxHeartbeats 1000000 in
theorem law (a0 a1 : Option Addr) (n1 c1 n2 c2 : Nat) (f g : Nat → Int) (limit : Int) (w : World) (hn1 : n1 ≤ 9223372036854775807) (hn2 : n2 ≤ 9223372036854775807) (h1 : Hid (Bytes w a0 n1 f)) (h2 : Hid (Bytes w a1 n2 g)) :
    Calls Try.prog 4 #[.slice a0 n1 c1, .slice a1 n2 c2, .int .i64 limit] w fun e w' => e = .returned (.bool true) ∧ Below w.heap.size w w' := by
  by_cases hbig : 1048576 < n1 + n2
  · go_enter Try.func4, Try.ntmps4
    go_wp2_with (go_at_call 12; refine (zzB_no _ _ _ _ _ _ _ _ hn1 hn2 hbig).mono ?_; rintro e w' ⟨rfl, rfl⟩)
    go_ret
    exact ⟨rfl, Below.refl _ _⟩
  · by_cases h255 : n1 ≤ 255
    · exact law_main a0 a1 n1 c1 n2 c2 f g limit w (by omega) h255 h1 h2
    · have t1 : ¬ (1048576 < (n1 : Int)) := by omega
      have t2 : decide (1048576 < (n2 : Int)) = false := by simp; omega
      have t3 : decide (1048576 < (n1 : Int) + n2) = false := by simp; omega
      have t4 : (255 < (n1 : Int)) := by omega
      go_enter Try.func4, Try.ntmps4
      go_wp2_with (go_at_call 12; refine (zzB_yes _ _ _ _ _ _ _ _ (by omega)).mono ?_; rintro e w' ⟨rfl, rfl⟩)
      go_ret
      exact ⟨rfl, Below.refl _ _⟩

end Go.Proofs.Qxb6603941a
