/-
  THE WALK OF intColumnModelB1, way by way.
-/
import Derived.Test.Qxb6603870aDoorWalks
import Derived.RegionTactic
import Derived.ChangeAlike
namespace Go.Proofs.Qxb6603870aDoor
open Go.RowKit
set_option linter.unusedVariables false

theorem isDg_bounds {c : UInt8} (h : isDg c = true) : 48 ≤ (c.toNat : Int) ∧ (c.toNat : Int) ≤ 57 := by
  simp [isDg] at h
  omega
theorem isDg_bounds_no {c : UInt8} (h : isDg c = false) : (c.toNat : Int) < 48 ∨ 57 < (c.toNat : Int) := by
  simp [isDg] at h
  omega

set_option maxHeartbeats 400000 in
theorem isDigit_yes (c : UInt8) (w : World) (h : isDg c = true) :
    Calls Tryd.prog 19 #[.int .u8 (c.toNat : Int)] w fun e w' => e = .returned (.bool true) ∧ w' = w := by
  obtain ⟨h1, h2⟩ := isDg_bounds h
  clear h
  go_enter Tryd.func19, Tryd.ntmps19
  go_wp2
  go_ret
  exact ⟨rfl, rfl⟩
set_option maxHeartbeats 400000 in
theorem isDigit_no (c : UInt8) (w : World) (h : isDg c = false) :
    Calls Tryd.prog 19 #[.int .u8 (c.toNat : Int)] w fun e w' => e = .returned (.bool false) ∧ w' = w := by
  rcases isDg_bounds_no h with h1 | h1
  · have h2 : decide (48 ≤ (c.toNat : Int)) = false := by simp; omega
    clear h
    go_enter Tryd.func19, Tryd.ntmps19
    go_wp2
    go_ret
    exact ⟨rfl, rfl⟩
  · have h2 : 48 ≤ (c.toNat : Int) := by omega
    have h3 : decide ((c.toNat : Int) ≤ 57) = false := by simp; omega
    clear h
    go_enter Tryd.func19, Tryd.ntmps19
    go_wp2
    go_ret
    exact ⟨rfl, rfl⟩

theorem ret3 {b : Bool} {s : ByteArray} {x y : Int} (h : x = y) : Ending.returned (.tuple #[.bool b, .string s, .int .i64 x]) = .returned (.tuple #[.bool b, .string s, .int .i64 y]) := by rw [h]

set_option maxHeartbeats 1000000 in
theorem md_none0 (s p r : ByteArray) (n : Int) (w : World) (E : Nat) (hs : s.size ≤ 1048576) (hp : p.size ≤ s.size) (hpe : ((s.extract 0 p.size).toList == p.toList) = true) (hr : s.extract p.size s.size = r) (hmax : r.size ≤ 1048576)
    (hsg : Hid (∀ h : 0 < r.size, ((r[0].toNat : Int) == 45) = false)) (hE0 : 0 ≤ E) (hE : E ≤ r.size)
    (hstep : Hid (∀ k, 0 ≤ k → k < E → ∃ h : k < r.size, isDg r[k] = true))
    (hend : Hid (∀ h : E < r.size, isDg r[E] = false))
    (hcat : E ≤ 0) : Calls Tryd.prog 17 #[.string s, .string p, .int .i64 n] w fun e w' => e = .returned (.tuple #[.bool false, .string r, .int .i64 n]) ∧ Below w.heap.size w w' := by
  by_cases hz : 0 < r.size
  · have h45 := hsg.out hz
    have hne : ¬ (r = ByteArray.empty) := by rintro rfl; simp at hz
    have hD := Lib.hid (hend.out (by omega))
    have e0 : E = 0 := by omega
    subst e0
    clear hsg
    go_enter Tryd.func17, Tryd.ntmps17
    go_wp2_with (go_at_call 19; refine (isDigit_no _ _ hD.out).mono ?_; rintro e w' ⟨rfl, rfl⟩)
    go_ret3
    exact ⟨rfl, Below.refl _ _⟩
  · clear hsg
    obtain rfl : r = ByteArray.empty := ByteArray.size_eq_zero_iff.1 (by omega)
    go_enter Tryd.func17, Tryd.ntmps17
    go_wp2
    go_ret3
    exact ⟨rfl, Below.refl _ _⟩

set_option maxHeartbeats 1000000 in
theorem md_none1 (s p r : ByteArray) (n : Int) (w : World) (E : Nat) (hs : s.size ≤ 1048576) (hp : p.size ≤ s.size) (hpe : ((s.extract 0 p.size).toList == p.toList) = true) (hr : s.extract p.size s.size = r) (hmax : r.size ≤ 1048576)
    (hr0 : 0 < r.size) (hsg : ((r[0].toNat : Int) == 45) = true) (hE0 : 1 ≤ E) (hE : E ≤ r.size)
    (hstep : Hid (∀ k, 1 ≤ k → k < E → ∃ h : k < r.size, isDg r[k] = true))
    (hend : Hid (∀ h : E < r.size, isDg r[E] = false))
    (hcat : E ≤ 1) : Calls Tryd.prog 17 #[.string s, .string p, .int .i64 n] w fun e w' => e = .returned (.tuple #[.bool false, .string r, .int .i64 n]) ∧ Below w.heap.size w w' := by
  have e0 : E = 1 := by omega
  subst e0
  by_cases hz : 1 < r.size
  · have hD := Lib.hid (hend.out hz)
    go_enter Tryd.func17, Tryd.ntmps17
    go_wp2_with (go_at_call 19; refine (isDigit_no _ _ hD.out).mono ?_; rintro e w' ⟨rfl, rfl⟩)
    go_ret3
    exact ⟨rfl, Below.refl _ _⟩
  · have hz2 : ¬ (1 : Int) < r.size := by omega
    go_enter Tryd.func17, Tryd.ntmps17
    go_wp2
    go_ret3
    exact ⟨rfl, Below.refl _ _⟩

set_option maxHeartbeats 1000000 in
theorem md_zero0 (s p r : ByteArray) (n : Int) (w : World) (E : Nat) (hs : s.size ≤ 1048576) (hp : p.size ≤ s.size) (hpe : ((s.extract 0 p.size).toList == p.toList) = true) (hr : s.extract p.size s.size = r) (hmax : r.size ≤ 1048576)
    (hsg : Hid (∀ h : 0 < r.size, ((r[0].toNat : Int) == 45) = false)) (hE0 : 0 ≤ E) (hE : E ≤ r.size)
    (hstep : Hid (∀ k, 0 ≤ k → k < E → ∃ h : k < r.size, isDg r[k] = true))
    (hend : Hid (∀ h : E < r.size, isDg r[E] = false))
    (hcat : 1 < E) (h0 : ∀ h : 0 < r.size, ((r[0].toNat : Int) == 48) = true) : Calls Tryd.prog 17 #[.string s, .string p, .int .i64 n] w fun e w' => e = .returned (.tuple #[.bool false, .string r, .int .i64 n]) ∧ Below w.heap.size w w' := by
  have hz : 0 < r.size := by omega
  have hne : ¬ (r = ByteArray.empty) := by rintro rfl; simp at hz
  have h45 := hsg.out (by omega)
  clear hsg
  have hD := Lib.hid (hstep.out 0 (by omega) (by omega))
  have h00 := h0 hz
  clear h0
  have hz2 : 1 < r.size := by omega
  have hD2 := Lib.hid (hstep.out 1 (by omega) (by omega))
  go_enter Tryd.func17, Tryd.ntmps17
  go_wp2_with fail
  refine (isDigit_yes _ _ hD.out.2).mono ?_
  rintro e w' ⟨rfl, rfl⟩
  go_wp2_with fail
  refine (isDigit_yes _ _ hD2.out.2).mono ?_
  rintro e w' ⟨rfl, rfl⟩
  go_wp2
  go_ret3
  exact ⟨rfl, Below.refl _ _⟩

set_option maxHeartbeats 2000000 in
theorem md_okL0 (s p r : ByteArray) (n : Int) (w : World) (E : Nat) (hs : s.size ≤ 1048576) (hp : p.size ≤ s.size) (hpe : ((s.extract 0 p.size).toList == p.toList) = true) (hr : s.extract p.size s.size = r) (hmax : r.size ≤ 1048576)
    (hsg : Hid (∀ h : 0 < r.size, ((r[0].toNat : Int) == 45) = false)) (hE0 : 0 ≤ E) (hE : E ≤ r.size)
    (hstep : Hid (∀ k, 0 ≤ k → k < E → ∃ h : k < r.size, isDg r[k] = true))
    (hend : Hid (∀ h : E < r.size, isDg r[E] = false))
    (hcat : 0 < E) (mg : Nat → Int) (hm0 : Hid (mg 0 = 0)) (hmS : Hid (∀ k, 0 ≤ k → k < E → ∀ h : k < r.size, mg (k + 1) = mg k * 10 + ((r[k].toNat : Int) - 48)))
    (hlimit : Hid (∀ k, 0 ≤ k → k ≤ E → 0 ≤ mg k ∧ mg k ≤ 9223372036854775807))
    (h0 : ∀ h : 0 < r.size, ((r[0].toNat : Int) == 48) = false) : Calls Tryd.prog 17 #[.string s, .string p, .int .i64 n] w fun e w' => e = .returned (.tuple #[.bool true, .string (r.extract E r.size), .int .i64 (mg E)]) ∧ Below w.heap.size w w' := by
  have hz : 0 < r.size := by omega
  have hne : ¬ (r = ByteArray.empty) := by rintro rfl; simp at hz
  have h45 := hsg.out (by omega)
  clear hsg
  have hD := Lib.hid (hstep.out 0 (by omega) (by omega))
  have h00 := h0 hz
  clear h0
  go_enter Tryd.func17, Tryd.ntmps17
  go_wp2_with fail
  refine (isDigit_yes _ _ hD.out.2).mono ?_
  rintro e w' ⟨rfl, rfl⟩
  go_wp2
  go_loop [12] (fun t => ∃ k : Nat, 0 ≤ k ∧ k ≤ E ∧ t = .int .i64 k) (fun t => E - (intOf t).toNat)
  case atStart => exact ⟨0, by omega, by omega, rfl⟩
  case round =>
    obtain ⟨k, hk1, hk2, rfl⟩ := hrel
    by_cases hlt : k < E
    · obtain ⟨hsz, hdk⟩ := hstep.out k hk1 hlt
      have HK := Lib.hid hdk
      clear hdk
      go_wp2_with (go_at_call 19; refine (isDigit_yes _ _ HK.out).mono ?_; rintro e w' ⟨rfl, rfl⟩)
      go_round
      case rel => exact ⟨k + 1, by omega, by omega, by go_num⟩
      case measure => simp [intOf]; omega
    · obtain rfl : E = k := by omega
      clear hk1 hk2 hlt
      by_cases hsz : E < r.size
      · have HK := Lib.hid (hend.out hsz)
        go_wp2_with (go_at_call 19; refine (isDigit_no _ _ HK.out).mono ?_; rintro e w' ⟨rfl, rfl⟩)
        go_loop [14, 15] (fun m j => ∃ k : Nat, 0 ≤ k ∧ k ≤ E ∧ j = .int .i64 k ∧ m = .int .u64 (mg k)) (fun _ j => E - (intOf j).toNat)
        case atStart => exact ⟨0, by omega, by omega, rfl, by rw [hm0.out]⟩
        case round =>
          obtain ⟨k, hk1, hk2, rfl, rfl⟩ := hrel
          by_cases hlt : k < E
          · obtain ⟨hsz, hdk⟩ := hstep.out k hk1 hlt
            obtain ⟨d1, d2⟩ := isDg_bounds hdk
            clear hdk
            obtain ⟨g0, g1⟩ := hlimit.out k hk1 (by omega)
            have hS := hmS.out k hk1 hlt hsz
            obtain ⟨g2, g3⟩ := hlimit.out (k + 1) (by omega) (by omega)
            have HS := Lib.hid hS
            have g4 : mg k * 10 + ((r[k].toNat : Int) - 48) ≤ 9223372036854775807 := by omega
            have g5 : ¬ ((9223372036854775807 - ((r[k].toNat : Int) - 48)) / 10 < mg k) := by omega
            have g6 : mg k ≤ 922337203685477580 := by omega
            clear hS g2 g3
            go_wp2
            go_round
            case rel => exact ⟨k + 1, by omega, by omega, by go_num, by rw [HS.out]⟩
            case measure => simp [intOf]; omega
          · obtain rfl : E = k := by omega
            have g4 := hlimit.out E (by omega) (by omega)
            obtain ⟨g4, g5⟩ := g4
            go_wp2
            go_region
            all_goals
              go_wp2
              go_ret3
              exact ⟨rfl, (Below.refl _ _).drew⟩
      · go_wp2
        go_loop [14, 15] (fun m j => ∃ k : Nat, 0 ≤ k ∧ k ≤ E ∧ j = .int .i64 k ∧ m = .int .u64 (mg k)) (fun _ j => E - (intOf j).toNat)
        case atStart => exact ⟨0, by omega, by omega, rfl, by rw [hm0.out]⟩
        case round =>
          obtain ⟨k, hk1, hk2, rfl, rfl⟩ := hrel
          by_cases hlt : k < E
          · obtain ⟨hsz, hdk⟩ := hstep.out k hk1 hlt
            obtain ⟨d1, d2⟩ := isDg_bounds hdk
            clear hdk
            obtain ⟨g0, g1⟩ := hlimit.out k hk1 (by omega)
            have hS := hmS.out k hk1 hlt hsz
            obtain ⟨g2, g3⟩ := hlimit.out (k + 1) (by omega) (by omega)
            have HS := Lib.hid hS
            have g4 : mg k * 10 + ((r[k].toNat : Int) - 48) ≤ 9223372036854775807 := by omega
            have g5 : ¬ ((9223372036854775807 - ((r[k].toNat : Int) - 48)) / 10 < mg k) := by omega
            have g6 : mg k ≤ 922337203685477580 := by omega
            clear hS g2 g3
            go_wp2
            go_round
            case rel => exact ⟨k + 1, by omega, by omega, by go_num, by rw [HS.out]⟩
            case measure => simp [intOf]; omega
          · obtain rfl : E = k := by omega
            have g4 := hlimit.out E (by omega) (by omega)
            obtain ⟨g4, g5⟩ := g4
            go_wp2
            go_region
            all_goals
              go_wp2
              go_ret3
              exact ⟨rfl, (Below.refl _ _).drew⟩

set_option maxHeartbeats 2000000 in
theorem md_okZ0 (s p r : ByteArray) (n : Int) (w : World) (E : Nat) (hs : s.size ≤ 1048576) (hp : p.size ≤ s.size) (hpe : ((s.extract 0 p.size).toList == p.toList) = true) (hr : s.extract p.size s.size = r) (hmax : r.size ≤ 1048576)
    (hsg : Hid (∀ h : 0 < r.size, ((r[0].toNat : Int) == 45) = false)) (hE0 : 0 ≤ E) (hE : E ≤ r.size)
    (hstep : Hid (∀ k, 0 ≤ k → k < E → ∃ h : k < r.size, isDg r[k] = true))
    (hend : Hid (∀ h : E < r.size, isDg r[E] = false))
    (hcat : 0 < E) (mg : Nat → Int) (hm0 : Hid (mg 0 = 0)) (hmS : Hid (∀ k, 0 ≤ k → k < E → ∀ h : k < r.size, mg (k + 1) = mg k * 10 + ((r[k].toNat : Int) - 48)))
    (hlimit : Hid (∀ k, 0 ≤ k → k ≤ E → 0 ≤ mg k ∧ mg k ≤ 9223372036854775807))
    (hcat2 : E ≤ 1) (h0 : ∀ h : 0 < r.size, ((r[0].toNat : Int) == 48) = true) : Calls Tryd.prog 17 #[.string s, .string p, .int .i64 n] w fun e w' => e = .returned (.tuple #[.bool true, .string (r.extract E r.size), .int .i64 (mg E)]) ∧ Below w.heap.size w w' := by
  have hz : 0 < r.size := by omega
  have hne : ¬ (r = ByteArray.empty) := by rintro rfl; simp at hz
  have h45 := hsg.out (by omega)
  clear hsg
  have hD := Lib.hid (hstep.out 0 (by omega) (by omega))
  have h00 := h0 hz
  clear h0
  obtain rfl : E = 1 := by omega
  by_cases hsz : 1 < r.size
  · have HK := Lib.hid (hend.out hsz)
    go_enter Tryd.func17, Tryd.ntmps17
    go_wp2_with fail
    refine (isDigit_yes _ _ hD.out.2).mono ?_
    rintro e w' ⟨rfl, rfl⟩
    go_wp2_with fail
    refine (isDigit_no _ _ HK.out).mono ?_
    rintro e w' ⟨rfl, rfl⟩
    go_wp2
    go_loop [14, 15] (fun m j => ∃ k : Nat, 0 ≤ k ∧ k ≤ 1 ∧ j = .int .i64 k ∧ m = .int .u64 (mg k)) (fun _ j => 1 - (intOf j).toNat)
    case atStart => exact ⟨0, by omega, by omega, rfl, by rw [hm0.out]⟩
    case round =>
      obtain ⟨k, hk1, hk2, rfl, rfl⟩ := hrel
      by_cases hlt : k < 1
      · obtain ⟨hsz, hdk⟩ := hstep.out k hk1 hlt
        obtain ⟨d1, d2⟩ := isDg_bounds hdk
        clear hdk
        obtain ⟨g0, g1⟩ := hlimit.out k hk1 (by omega)
        have hS := hmS.out k hk1 hlt hsz
        obtain ⟨g2, g3⟩ := hlimit.out (k + 1) (by omega) (by omega)
        have HS := Lib.hid hS
        have g4 : mg k * 10 + ((r[k].toNat : Int) - 48) ≤ 9223372036854775807 := by omega
        have g5 : ¬ ((9223372036854775807 - ((r[k].toNat : Int) - 48)) / 10 < mg k) := by omega
        have g6 : mg k ≤ 922337203685477580 := by omega
        clear hS g2 g3
        go_wp2
        go_round
        case rel => exact ⟨k + 1, by omega, by omega, by go_num, by rw [HS.out]⟩
        case measure => simp [intOf]; omega
      · obtain rfl : 1 = k := by omega
        have g4 := hlimit.out 1 (by omega) (by omega)
        obtain ⟨g4, g5⟩ := g4
        go_wp2
        go_region
        all_goals
          go_wp2
          go_ret3
          exact ⟨rfl, (Below.refl _ _).drew⟩
  · have hsz2 : ¬ (1 : Int) < r.size := by omega
    go_enter Tryd.func17, Tryd.ntmps17
    go_wp2_with fail
    refine (isDigit_yes _ _ hD.out.2).mono ?_
    rintro e w' ⟨rfl, rfl⟩
    go_wp2
    go_loop [14, 15] (fun m j => ∃ k : Nat, 0 ≤ k ∧ k ≤ 1 ∧ j = .int .i64 k ∧ m = .int .u64 (mg k)) (fun _ j => 1 - (intOf j).toNat)
    case atStart => exact ⟨0, by omega, by omega, rfl, by rw [hm0.out]⟩
    case round =>
      obtain ⟨k, hk1, hk2, rfl, rfl⟩ := hrel
      by_cases hlt : k < 1
      · obtain ⟨hsz, hdk⟩ := hstep.out k hk1 hlt
        obtain ⟨d1, d2⟩ := isDg_bounds hdk
        clear hdk
        obtain ⟨g0, g1⟩ := hlimit.out k hk1 (by omega)
        have hS := hmS.out k hk1 hlt hsz
        obtain ⟨g2, g3⟩ := hlimit.out (k + 1) (by omega) (by omega)
        have HS := Lib.hid hS
        have g4 : mg k * 10 + ((r[k].toNat : Int) - 48) ≤ 9223372036854775807 := by omega
        have g5 : ¬ ((9223372036854775807 - ((r[k].toNat : Int) - 48)) / 10 < mg k) := by omega
        have g6 : mg k ≤ 922337203685477580 := by omega
        clear hS g2 g3
        go_wp2
        go_round
        case rel => exact ⟨k + 1, by omega, by omega, by go_num, by rw [HS.out]⟩
        case measure => simp [intOf]; omega
      · obtain rfl : 1 = k := by omega
        have g4 := hlimit.out 1 (by omega) (by omega)
        obtain ⟨g4, g5⟩ := g4
        go_wp2
        go_region
        all_goals
          go_wp2
          go_ret3
          exact ⟨rfl, (Below.refl _ _).drew⟩

set_option maxHeartbeats 2000000 in
theorem md_rgL0 (s p r : ByteArray) (n : Int) (w : World) (E : Nat) (hs : s.size ≤ 1048576) (hp : p.size ≤ s.size) (hpe : ((s.extract 0 p.size).toList == p.toList) = true) (hr : s.extract p.size s.size = r) (hmax : r.size ≤ 1048576)
    (hsg : Hid (∀ h : 0 < r.size, ((r[0].toNat : Int) == 45) = false)) (hE0 : 0 ≤ E) (hE : E ≤ r.size)
    (hstep : Hid (∀ k, 0 ≤ k → k < E → ∃ h : k < r.size, isDg r[k] = true))
    (hend : Hid (∀ h : E < r.size, isDg r[E] = false))
    (hcat : 0 < E) (mg : Nat → Int) (hm0 : Hid (mg 0 = 0)) (hmS : Hid (∀ k, 0 ≤ k → k < E → ∀ h : k < r.size, mg (k + 1) = mg k * 10 + ((r[k].toNat : Int) - 48)))
    (hpos : Hid (∀ k, 0 ≤ k → k ≤ E → 0 ≤ mg k)) (hover : Hid (9223372036854775807 < mg E))
    (h0 : ∀ h : 0 < r.size, ((r[0].toNat : Int) == 48) = false) : Calls Tryd.prog 17 #[.string s, .string p, .int .i64 n] w fun e w' => e = .returned (.tuple #[.bool false, .string r, .int .i64 n]) ∧ Below w.heap.size w w' := by
  have hz : 0 < r.size := by omega
  have hne : ¬ (r = ByteArray.empty) := by rintro rfl; simp at hz
  have h45 := hsg.out (by omega)
  clear hsg
  have hD := Lib.hid (hstep.out 0 (by omega) (by omega))
  have h00 := h0 hz
  clear h0
  go_enter Tryd.func17, Tryd.ntmps17
  go_wp2_with fail
  refine (isDigit_yes _ _ hD.out.2).mono ?_
  rintro e w' ⟨rfl, rfl⟩
  go_wp2
  go_loop [12] (fun t => ∃ k : Nat, 0 ≤ k ∧ k ≤ E ∧ t = .int .i64 k) (fun t => E - (intOf t).toNat)
  case atStart => exact ⟨0, by omega, by omega, rfl⟩
  case round =>
    obtain ⟨k, hk1, hk2, rfl⟩ := hrel
    by_cases hlt : k < E
    · obtain ⟨hsz, hdk⟩ := hstep.out k hk1 hlt
      have HK := Lib.hid hdk
      clear hdk
      go_wp2_with (go_at_call 19; refine (isDigit_yes _ _ HK.out).mono ?_; rintro e w' ⟨rfl, rfl⟩)
      go_round
      case rel => exact ⟨k + 1, by omega, by omega, by go_num⟩
      case measure => simp [intOf]; omega
    · obtain rfl : E = k := by omega
      clear hk1 hk2 hlt
      by_cases hsz : E < r.size
      · have HK := Lib.hid (hend.out hsz)
        go_wp2_with (go_at_call 19; refine (isDigit_no _ _ HK.out).mono ?_; rintro e w' ⟨rfl, rfl⟩)
        go_loop [14, 15] (fun m j => ∃ k : Nat, 0 ≤ k ∧ k ≤ E ∧ j = .int .i64 k ∧ m = .int .u64 (mg k) ∧ mg k ≤ 9223372036854775807) (fun _ j => E - (intOf j).toNat)
        case atStart => exact ⟨0, by omega, by omega, rfl, by rw [hm0.out], by rw [hm0.out]; omega⟩
        case round =>
          obtain ⟨k, hk1, hk2, rfl, rfl, hkl⟩ := hrel
          have hlt : k < E := by
            by_cases e : k = E
            · subst e
              have := hover.out
              omega
            · omega
          obtain ⟨hsz, hdk⟩ := hstep.out k hk1 hlt
          obtain ⟨d1, d2⟩ := isDg_bounds hdk
          clear hdk
          have g0 := hpos.out k hk1 (by omega)
          have hS := hmS.out k hk1 hlt hsz
          have HS := Lib.hid hS
          by_cases g4 : mg k * 10 + ((r[k].toNat : Int) - 48) ≤ 9223372036854775807
          · have g5 : ¬ ((9223372036854775807 - ((r[k].toNat : Int) - 48)) / 10 < mg k) := by omega
            have g6 : mg k ≤ 922337203685477580 := by omega
            clear hS hkl
            go_wp2
            go_round
            case rel => exact ⟨k + 1, by omega, by omega, by go_num, by rw [HS.out], by rw [HS.out]; exact g4⟩
            case measure => simp [intOf]; omega
          · have g5 : ((9223372036854775807 - ((r[k].toNat : Int) - 48)) / 10 < mg k) := by omega
            clear hS g4
            go_wp2
            go_ret3
            exact ⟨rfl, Below.refl _ _⟩
      · go_wp2
        go_loop [14, 15] (fun m j => ∃ k : Nat, 0 ≤ k ∧ k ≤ E ∧ j = .int .i64 k ∧ m = .int .u64 (mg k) ∧ mg k ≤ 9223372036854775807) (fun _ j => E - (intOf j).toNat)
        case atStart => exact ⟨0, by omega, by omega, rfl, by rw [hm0.out], by rw [hm0.out]; omega⟩
        case round =>
          obtain ⟨k, hk1, hk2, rfl, rfl, hkl⟩ := hrel
          have hlt : k < E := by
            by_cases e : k = E
            · subst e
              have := hover.out
              omega
            · omega
          obtain ⟨hsz, hdk⟩ := hstep.out k hk1 hlt
          obtain ⟨d1, d2⟩ := isDg_bounds hdk
          clear hdk
          have g0 := hpos.out k hk1 (by omega)
          have hS := hmS.out k hk1 hlt hsz
          have HS := Lib.hid hS
          by_cases g4 : mg k * 10 + ((r[k].toNat : Int) - 48) ≤ 9223372036854775807
          · have g5 : ¬ ((9223372036854775807 - ((r[k].toNat : Int) - 48)) / 10 < mg k) := by omega
            have g6 : mg k ≤ 922337203685477580 := by omega
            clear hS hkl
            go_wp2
            go_round
            case rel => exact ⟨k + 1, by omega, by omega, by go_num, by rw [HS.out], by rw [HS.out]; exact g4⟩
            case measure => simp [intOf]; omega
          · have g5 : ((9223372036854775807 - ((r[k].toNat : Int) - 48)) / 10 < mg k) := by omega
            clear hS g4
            go_wp2
            go_ret3
            exact ⟨rfl, Below.refl _ _⟩

set_option maxHeartbeats 1000000 in
theorem md_zero1 (s p r : ByteArray) (n : Int) (w : World) (E : Nat) (hs : s.size ≤ 1048576) (hp : p.size ≤ s.size) (hpe : ((s.extract 0 p.size).toList == p.toList) = true) (hr : s.extract p.size s.size = r) (hmax : r.size ≤ 1048576)
    (hr0 : 0 < r.size) (hsg : ((r[0].toNat : Int) == 45) = true) (hE0 : 1 ≤ E) (hE : E ≤ r.size)
    (hstep : Hid (∀ k, 1 ≤ k → k < E → ∃ h : k < r.size, isDg r[k] = true))
    (hend : Hid (∀ h : E < r.size, isDg r[E] = false))
    (hcat : 2 < E) (h0 : ∀ h : 1 < r.size, ((r[1].toNat : Int) == 48) = true) : Calls Tryd.prog 17 #[.string s, .string p, .int .i64 n] w fun e w' => e = .returned (.tuple #[.bool false, .string r, .int .i64 n]) ∧ Below w.heap.size w w' := by
  have hz : 1 < r.size := by omega
  have hne : ¬ (r = ByteArray.empty) := by rintro rfl; simp at hz

  have hD := Lib.hid (hstep.out 1 (by omega) (by omega))
  have h00 := h0 hz
  clear h0
  have hz2 : 2 < r.size := by omega
  have hD2 := Lib.hid (hstep.out 2 (by omega) (by omega))
  go_enter Tryd.func17, Tryd.ntmps17
  go_wp2_with fail
  refine (isDigit_yes _ _ hD.out.2).mono ?_
  rintro e w' ⟨rfl, rfl⟩
  go_wp2_with fail
  refine (isDigit_yes _ _ hD2.out.2).mono ?_
  rintro e w' ⟨rfl, rfl⟩
  go_wp2
  go_ret3
  exact ⟨rfl, Below.refl _ _⟩

set_option maxHeartbeats 2000000 in
theorem md_okL1 (s p r : ByteArray) (n : Int) (w : World) (E : Nat) (hs : s.size ≤ 1048576) (hp : p.size ≤ s.size) (hpe : ((s.extract 0 p.size).toList == p.toList) = true) (hr : s.extract p.size s.size = r) (hmax : r.size ≤ 1048576)
    (hr0 : 0 < r.size) (hsg : ((r[0].toNat : Int) == 45) = true) (hE0 : 1 ≤ E) (hE : E ≤ r.size)
    (hstep : Hid (∀ k, 1 ≤ k → k < E → ∃ h : k < r.size, isDg r[k] = true))
    (hend : Hid (∀ h : E < r.size, isDg r[E] = false))
    (hcat : 1 < E) (mg : Nat → Int) (hm0 : Hid (mg 1 = 0)) (hmS : Hid (∀ k, 1 ≤ k → k < E → ∀ h : k < r.size, mg (k + 1) = mg k * 10 + ((r[k].toNat : Int) - 48)))
    (hlimit : Hid (∀ k, 1 ≤ k → k ≤ E → 0 ≤ mg k ∧ mg k ≤ 9223372036854775808))
    (h0 : ∀ h : 1 < r.size, ((r[1].toNat : Int) == 48) = false) : Calls Tryd.prog 17 #[.string s, .string p, .int .i64 n] w fun e w' => e = .returned (.tuple #[.bool true, .string (r.extract E r.size), .int .i64 (-(mg E))]) ∧ Below w.heap.size w w' := by
  have hz : 1 < r.size := by omega
  have hne : ¬ (r = ByteArray.empty) := by rintro rfl; simp at hz

  have hD := Lib.hid (hstep.out 1 (by omega) (by omega))
  have h00 := h0 hz
  clear h0
  go_enter Tryd.func17, Tryd.ntmps17
  go_wp2_with fail
  refine (isDigit_yes _ _ hD.out.2).mono ?_
  rintro e w' ⟨rfl, rfl⟩
  go_wp2
  go_loop [12] (fun t => ∃ k : Nat, 1 ≤ k ∧ k ≤ E ∧ t = .int .i64 k) (fun t => E - (intOf t).toNat)
  case atStart => exact ⟨1, by omega, by omega, rfl⟩
  case round =>
    obtain ⟨k, hk1, hk2, rfl⟩ := hrel
    by_cases hlt : k < E
    · obtain ⟨hsz, hdk⟩ := hstep.out k hk1 hlt
      have HK := Lib.hid hdk
      clear hdk
      go_wp2_with (go_at_call 19; refine (isDigit_yes _ _ HK.out).mono ?_; rintro e w' ⟨rfl, rfl⟩)
      go_round
      case rel => exact ⟨k + 1, by omega, by omega, by go_num⟩
      case measure => simp [intOf]; omega
    · obtain rfl : E = k := by omega
      clear hk1 hk2 hlt
      by_cases hsz : E < r.size
      · have HK := Lib.hid (hend.out hsz)
        go_wp2_with (go_at_call 19; refine (isDigit_no _ _ HK.out).mono ?_; rintro e w' ⟨rfl, rfl⟩)
        go_loop [14, 15] (fun m j => ∃ k : Nat, 1 ≤ k ∧ k ≤ E ∧ j = .int .i64 k ∧ m = .int .u64 (mg k)) (fun _ j => E - (intOf j).toNat)
        case atStart => exact ⟨1, by omega, by omega, rfl, by rw [hm0.out]⟩
        case round =>
          obtain ⟨k, hk1, hk2, rfl, rfl⟩ := hrel
          by_cases hlt : k < E
          · obtain ⟨hsz, hdk⟩ := hstep.out k hk1 hlt
            obtain ⟨d1, d2⟩ := isDg_bounds hdk
            clear hdk
            obtain ⟨g0, g1⟩ := hlimit.out k hk1 (by omega)
            have hS := hmS.out k hk1 hlt hsz
            obtain ⟨g2, g3⟩ := hlimit.out (k + 1) (by omega) (by omega)
            have HS := Lib.hid hS
            have g4 : mg k * 10 + ((r[k].toNat : Int) - 48) ≤ 9223372036854775808 := by omega
            have g5 : ¬ ((9223372036854775808 - ((r[k].toNat : Int) - 48)) / 10 < mg k) := by omega
            have g6 : mg k ≤ 922337203685477580 := by omega
            clear hS g2 g3
            go_wp2
            go_round
            case rel => exact ⟨k + 1, by omega, by omega, by go_num, by rw [HS.out]⟩
            case measure => simp [intOf]; omega
          · obtain rfl : E = k := by omega
            have g4 := hlimit.out E (by omega) (by omega)
            obtain ⟨g4, g5⟩ := g4
            by_cases g6 : 0 < mg E
            · go_wp2
              go_region
              all_goals
                go_wp2
                go_ret3
                exact ⟨ret3 (by omega), (Below.refl _ _).drew⟩
            · go_wp2
              go_region
              all_goals
                go_wp2
                go_ret3
                exact ⟨ret3 (by omega), (Below.refl _ _).drew⟩
      · go_wp2
        go_loop [14, 15] (fun m j => ∃ k : Nat, 1 ≤ k ∧ k ≤ E ∧ j = .int .i64 k ∧ m = .int .u64 (mg k)) (fun _ j => E - (intOf j).toNat)
        case atStart => exact ⟨1, by omega, by omega, rfl, by rw [hm0.out]⟩
        case round =>
          obtain ⟨k, hk1, hk2, rfl, rfl⟩ := hrel
          by_cases hlt : k < E
          · obtain ⟨hsz, hdk⟩ := hstep.out k hk1 hlt
            obtain ⟨d1, d2⟩ := isDg_bounds hdk
            clear hdk
            obtain ⟨g0, g1⟩ := hlimit.out k hk1 (by omega)
            have hS := hmS.out k hk1 hlt hsz
            obtain ⟨g2, g3⟩ := hlimit.out (k + 1) (by omega) (by omega)
            have HS := Lib.hid hS
            have g4 : mg k * 10 + ((r[k].toNat : Int) - 48) ≤ 9223372036854775808 := by omega
            have g5 : ¬ ((9223372036854775808 - ((r[k].toNat : Int) - 48)) / 10 < mg k) := by omega
            have g6 : mg k ≤ 922337203685477580 := by omega
            clear hS g2 g3
            go_wp2
            go_round
            case rel => exact ⟨k + 1, by omega, by omega, by go_num, by rw [HS.out]⟩
            case measure => simp [intOf]; omega
          · obtain rfl : E = k := by omega
            have g4 := hlimit.out E (by omega) (by omega)
            obtain ⟨g4, g5⟩ := g4
            by_cases g6 : 0 < mg E
            · go_wp2
              go_region
              all_goals
                go_wp2
                go_ret3
                exact ⟨ret3 (by omega), (Below.refl _ _).drew⟩
            · go_wp2
              go_region
              all_goals
                go_wp2
                go_ret3
                exact ⟨ret3 (by omega), (Below.refl _ _).drew⟩

set_option maxHeartbeats 2000000 in
theorem md_okZ1 (s p r : ByteArray) (n : Int) (w : World) (E : Nat) (hs : s.size ≤ 1048576) (hp : p.size ≤ s.size) (hpe : ((s.extract 0 p.size).toList == p.toList) = true) (hr : s.extract p.size s.size = r) (hmax : r.size ≤ 1048576)
    (hr0 : 0 < r.size) (hsg : ((r[0].toNat : Int) == 45) = true) (hE0 : 1 ≤ E) (hE : E ≤ r.size)
    (hstep : Hid (∀ k, 1 ≤ k → k < E → ∃ h : k < r.size, isDg r[k] = true))
    (hend : Hid (∀ h : E < r.size, isDg r[E] = false))
    (hcat : 1 < E) (mg : Nat → Int) (hm0 : Hid (mg 1 = 0)) (hmS : Hid (∀ k, 1 ≤ k → k < E → ∀ h : k < r.size, mg (k + 1) = mg k * 10 + ((r[k].toNat : Int) - 48)))
    (hlimit : Hid (∀ k, 1 ≤ k → k ≤ E → 0 ≤ mg k ∧ mg k ≤ 9223372036854775808))
    (hcat2 : E ≤ 2) (h0 : ∀ h : 1 < r.size, ((r[1].toNat : Int) == 48) = true) : Calls Tryd.prog 17 #[.string s, .string p, .int .i64 n] w fun e w' => e = .returned (.tuple #[.bool true, .string (r.extract E r.size), .int .i64 (-(mg E))]) ∧ Below w.heap.size w w' := by
  have hz : 1 < r.size := by omega
  have hne : ¬ (r = ByteArray.empty) := by rintro rfl; simp at hz

  have hD := Lib.hid (hstep.out 1 (by omega) (by omega))
  have h00 := h0 hz
  clear h0
  obtain rfl : E = 2 := by omega
  by_cases hsz : 2 < r.size
  · have HK := Lib.hid (hend.out hsz)
    go_enter Tryd.func17, Tryd.ntmps17
    go_wp2_with fail
    refine (isDigit_yes _ _ hD.out.2).mono ?_
    rintro e w' ⟨rfl, rfl⟩
    go_wp2_with fail
    refine (isDigit_no _ _ HK.out).mono ?_
    rintro e w' ⟨rfl, rfl⟩
    go_wp2
    go_loop [14, 15] (fun m j => ∃ k : Nat, 1 ≤ k ∧ k ≤ 2 ∧ j = .int .i64 k ∧ m = .int .u64 (mg k)) (fun _ j => 2 - (intOf j).toNat)
    case atStart => exact ⟨1, by omega, by omega, rfl, by rw [hm0.out]⟩
    case round =>
      obtain ⟨k, hk1, hk2, rfl, rfl⟩ := hrel
      by_cases hlt : k < 2
      · obtain ⟨hsz, hdk⟩ := hstep.out k hk1 hlt
        obtain ⟨d1, d2⟩ := isDg_bounds hdk
        clear hdk
        obtain ⟨g0, g1⟩ := hlimit.out k hk1 (by omega)
        have hS := hmS.out k hk1 hlt hsz
        obtain ⟨g2, g3⟩ := hlimit.out (k + 1) (by omega) (by omega)
        have HS := Lib.hid hS
        have g4 : mg k * 10 + ((r[k].toNat : Int) - 48) ≤ 9223372036854775808 := by omega
        have g5 : ¬ ((9223372036854775808 - ((r[k].toNat : Int) - 48)) / 10 < mg k) := by omega
        have g6 : mg k ≤ 922337203685477580 := by omega
        clear hS g2 g3
        go_wp2
        go_round
        case rel => exact ⟨k + 1, by omega, by omega, by go_num, by rw [HS.out]⟩
        case measure => simp [intOf]; omega
      · obtain rfl : 2 = k := by omega
        have g4 := hlimit.out 2 (by omega) (by omega)
        obtain ⟨g4, g5⟩ := g4
        by_cases g6 : 0 < mg 2
        · go_wp2
          go_region
          all_goals
            go_wp2
            go_ret3
            exact ⟨ret3 (by omega), (Below.refl _ _).drew⟩
        · go_wp2
          go_region
          all_goals
            go_wp2
            go_ret3
            exact ⟨ret3 (by omega), (Below.refl _ _).drew⟩
  · have hsz2 : ¬ (2 : Int) < r.size := by omega
    go_enter Tryd.func17, Tryd.ntmps17
    go_wp2_with fail
    refine (isDigit_yes _ _ hD.out.2).mono ?_
    rintro e w' ⟨rfl, rfl⟩
    go_wp2
    go_loop [14, 15] (fun m j => ∃ k : Nat, 1 ≤ k ∧ k ≤ 2 ∧ j = .int .i64 k ∧ m = .int .u64 (mg k)) (fun _ j => 2 - (intOf j).toNat)
    case atStart => exact ⟨1, by omega, by omega, rfl, by rw [hm0.out]⟩
    case round =>
      obtain ⟨k, hk1, hk2, rfl, rfl⟩ := hrel
      by_cases hlt : k < 2
      · obtain ⟨hsz, hdk⟩ := hstep.out k hk1 hlt
        obtain ⟨d1, d2⟩ := isDg_bounds hdk
        clear hdk
        obtain ⟨g0, g1⟩ := hlimit.out k hk1 (by omega)
        have hS := hmS.out k hk1 hlt hsz
        obtain ⟨g2, g3⟩ := hlimit.out (k + 1) (by omega) (by omega)
        have HS := Lib.hid hS
        have g4 : mg k * 10 + ((r[k].toNat : Int) - 48) ≤ 9223372036854775808 := by omega
        have g5 : ¬ ((9223372036854775808 - ((r[k].toNat : Int) - 48)) / 10 < mg k) := by omega
        have g6 : mg k ≤ 922337203685477580 := by omega
        clear hS g2 g3
        go_wp2
        go_round
        case rel => exact ⟨k + 1, by omega, by omega, by go_num, by rw [HS.out]⟩
        case measure => simp [intOf]; omega
      · obtain rfl : 2 = k := by omega
        have g4 := hlimit.out 2 (by omega) (by omega)
        obtain ⟨g4, g5⟩ := g4
        by_cases g6 : 0 < mg 2
        · go_wp2
          go_region
          all_goals
            go_wp2
            go_ret3
            exact ⟨ret3 (by omega), (Below.refl _ _).drew⟩
        · go_wp2
          go_region
          all_goals
            go_wp2
            go_ret3
            exact ⟨ret3 (by omega), (Below.refl _ _).drew⟩

set_option maxHeartbeats 2000000 in
theorem md_rgL1 (s p r : ByteArray) (n : Int) (w : World) (E : Nat) (hs : s.size ≤ 1048576) (hp : p.size ≤ s.size) (hpe : ((s.extract 0 p.size).toList == p.toList) = true) (hr : s.extract p.size s.size = r) (hmax : r.size ≤ 1048576)
    (hr0 : 0 < r.size) (hsg : ((r[0].toNat : Int) == 45) = true) (hE0 : 1 ≤ E) (hE : E ≤ r.size)
    (hstep : Hid (∀ k, 1 ≤ k → k < E → ∃ h : k < r.size, isDg r[k] = true))
    (hend : Hid (∀ h : E < r.size, isDg r[E] = false))
    (hcat : 1 < E) (mg : Nat → Int) (hm0 : Hid (mg 1 = 0)) (hmS : Hid (∀ k, 1 ≤ k → k < E → ∀ h : k < r.size, mg (k + 1) = mg k * 10 + ((r[k].toNat : Int) - 48)))
    (hpos : Hid (∀ k, 1 ≤ k → k ≤ E → 0 ≤ mg k)) (hover : Hid (9223372036854775808 < mg E))
    (h0 : ∀ h : 1 < r.size, ((r[1].toNat : Int) == 48) = false) : Calls Tryd.prog 17 #[.string s, .string p, .int .i64 n] w fun e w' => e = .returned (.tuple #[.bool false, .string r, .int .i64 n]) ∧ Below w.heap.size w w' := by
  have hz : 1 < r.size := by omega
  have hne : ¬ (r = ByteArray.empty) := by rintro rfl; simp at hz

  have hD := Lib.hid (hstep.out 1 (by omega) (by omega))
  have h00 := h0 hz
  clear h0
  go_enter Tryd.func17, Tryd.ntmps17
  go_wp2_with fail
  refine (isDigit_yes _ _ hD.out.2).mono ?_
  rintro e w' ⟨rfl, rfl⟩
  go_wp2
  go_loop [12] (fun t => ∃ k : Nat, 1 ≤ k ∧ k ≤ E ∧ t = .int .i64 k) (fun t => E - (intOf t).toNat)
  case atStart => exact ⟨1, by omega, by omega, rfl⟩
  case round =>
    obtain ⟨k, hk1, hk2, rfl⟩ := hrel
    by_cases hlt : k < E
    · obtain ⟨hsz, hdk⟩ := hstep.out k hk1 hlt
      have HK := Lib.hid hdk
      clear hdk
      go_wp2_with (go_at_call 19; refine (isDigit_yes _ _ HK.out).mono ?_; rintro e w' ⟨rfl, rfl⟩)
      go_round
      case rel => exact ⟨k + 1, by omega, by omega, by go_num⟩
      case measure => simp [intOf]; omega
    · obtain rfl : E = k := by omega
      clear hk1 hk2 hlt
      by_cases hsz : E < r.size
      · have HK := Lib.hid (hend.out hsz)
        go_wp2_with (go_at_call 19; refine (isDigit_no _ _ HK.out).mono ?_; rintro e w' ⟨rfl, rfl⟩)
        go_loop [14, 15] (fun m j => ∃ k : Nat, 1 ≤ k ∧ k ≤ E ∧ j = .int .i64 k ∧ m = .int .u64 (mg k) ∧ mg k ≤ 9223372036854775808) (fun _ j => E - (intOf j).toNat)
        case atStart => exact ⟨1, by omega, by omega, rfl, by rw [hm0.out], by rw [hm0.out]; omega⟩
        case round =>
          obtain ⟨k, hk1, hk2, rfl, rfl, hkl⟩ := hrel
          have hlt : k < E := by
            by_cases e : k = E
            · subst e
              have := hover.out
              omega
            · omega
          obtain ⟨hsz, hdk⟩ := hstep.out k hk1 hlt
          obtain ⟨d1, d2⟩ := isDg_bounds hdk
          clear hdk
          have g0 := hpos.out k hk1 (by omega)
          have hS := hmS.out k hk1 hlt hsz
          have HS := Lib.hid hS
          by_cases g4 : mg k * 10 + ((r[k].toNat : Int) - 48) ≤ 9223372036854775808
          · have g5 : ¬ ((9223372036854775808 - ((r[k].toNat : Int) - 48)) / 10 < mg k) := by omega
            have g6 : mg k ≤ 922337203685477580 := by omega
            clear hS hkl
            go_wp2
            go_round
            case rel => exact ⟨k + 1, by omega, by omega, by go_num, by rw [HS.out], by rw [HS.out]; exact g4⟩
            case measure => simp [intOf]; omega
          · have g5 : ((9223372036854775808 - ((r[k].toNat : Int) - 48)) / 10 < mg k) := by omega
            clear hS g4
            go_wp2
            go_ret3
            exact ⟨rfl, Below.refl _ _⟩
      · go_wp2
        go_loop [14, 15] (fun m j => ∃ k : Nat, 1 ≤ k ∧ k ≤ E ∧ j = .int .i64 k ∧ m = .int .u64 (mg k) ∧ mg k ≤ 9223372036854775808) (fun _ j => E - (intOf j).toNat)
        case atStart => exact ⟨1, by omega, by omega, rfl, by rw [hm0.out], by rw [hm0.out]; omega⟩
        case round =>
          obtain ⟨k, hk1, hk2, rfl, rfl, hkl⟩ := hrel
          have hlt : k < E := by
            by_cases e : k = E
            · subst e
              have := hover.out
              omega
            · omega
          obtain ⟨hsz, hdk⟩ := hstep.out k hk1 hlt
          obtain ⟨d1, d2⟩ := isDg_bounds hdk
          clear hdk
          have g0 := hpos.out k hk1 (by omega)
          have hS := hmS.out k hk1 hlt hsz
          have HS := Lib.hid hS
          by_cases g4 : mg k * 10 + ((r[k].toNat : Int) - 48) ≤ 9223372036854775808
          · have g5 : ¬ ((9223372036854775808 - ((r[k].toNat : Int) - 48)) / 10 < mg k) := by omega
            have g6 : mg k ≤ 922337203685477580 := by omega
            clear hS hkl
            go_wp2
            go_round
            case rel => exact ⟨k + 1, by omega, by omega, by go_num, by rw [HS.out], by rw [HS.out]; exact g4⟩
            case measure => simp [intOf]; omega
          · have g5 : ((9223372036854775808 - ((r[k].toNat : Int) - 48)) / 10 < mg k) := by omega
            clear hS g4
            go_wp2
            go_ret3
            exact ⟨rfl, Below.refl _ _⟩

set_option maxHeartbeats 1000000 in
theorem md_no (s p : ByteArray) (n : Int) (w : World) (hs : s.size ≤ 1048576) (hp1 : p.size ≤ 1048576) (hpre : pre s p = false) :
    Calls Tryd.prog 17 #[.string s, .string p, .int .i64 n] w fun e w' => e = .returned (.tuple #[.bool false, .string s, .int .i64 n]) ∧ Below w.heap.size w w' := by
  by_cases hp : p.size ≤ s.size
  · have hpe : ((s.extract 0 p.size).toList == p.toList) = false := by simpa [pre, hp] using hpre
    clear hpre
    go_enter Tryd.func17, Tryd.ntmps17
    go_wp2
    go_ret3
    exact ⟨rfl, Below.refl _ _⟩
  · have hp2 : (s.size : Int) < p.size := by omega
    clear hpre
    go_enter Tryd.func17, Tryd.ntmps17
    go_wp2
    go_ret3
    exact ⟨rfl, Below.refl _ _⟩


end Go.Proofs.Qxb6603870aDoor
