/-
  THE WALK OF (*jsonScanner).intColumn, way by way.
-/
import Derived.Test.Qxb6603870aDoorWalks
import Derived.RegionTactic
import Derived.ChangeAlike
import Derived.Lib.AtoiErrMem
namespace Go.Proofs.Qxb6603870aDoor
open Go.RowKit
set_option linter.unusedVariables false

theorem facts_ok {W W1 : World} {b c : Nat} {s : ByteArray} {n : Int} (hw : W1 = W ∨ ∃ t, W1 = Lib.bytesWorld W 5 t) (hbs : b < W.heap.size) (hcs : c < W.heap.size)
    (hc : W.cell? ⟨b, 0, none⟩ = some (.string s)) (hcn : W.cell? ⟨c, 0, none⟩ = some (.int .i64 n)) (hfb : W.frozen? ⟨b, 0, none⟩ = false) (hfc : W.frozen? ⟨c, 0, none⟩ = false) :
    Below W.heap.size W W1 ∧ W1.cell? ⟨b, 0, none⟩ = some (.string s) ∧ W1.cell? ⟨c, 0, none⟩ = some (.int .i64 n) ∧ W1.frozen? ⟨b, 0, none⟩ = false ∧ W1.frozen? ⟨c, 0, none⟩ = false ∧ W.heap.size ≤ W1.heap.size := by
  have hB : Below W.heap.size W W1 := by
    rcases hw with rfl | ⟨t, rfl⟩
    · exact Below.refl _ _
    · exact Lib.bytesWorld_below _ _ _
  exact ⟨hB, by rw [hB.cell hbs]; exact hc, by rw [hB.cell hcs]; exact hcn, by rw [hB.frozen hbs]; exact hfb, by rw [hB.frozen hcs]; exact hfc, hB.size⟩
theorem ends_ok {W W1 : World} {b c B : Nat} {s s1 : ByteArray} {n v : Int} (hBb : B ≤ b) (hBc : B ≤ c) (hBs : B ≤ W.heap.size) (hbc : b ≠ c) (hB : Below W.heap.size W W1)
    (gb : W1.cell? ⟨b, 0, none⟩ = some (.string s)) (gc : W1.cell? ⟨c, 0, none⟩ = some (.int .i64 n)) :
    ((W1.setCell ⟨c, 0, none⟩ (.int .i64 v)).setCell ⟨b, 0, none⟩ (.string s1)).drew.cell? ⟨b, 0, none⟩ = some (.string s1) ∧
    ((W1.setCell ⟨c, 0, none⟩ (.int .i64 v)).setCell ⟨b, 0, none⟩ (.string s1)).drew.cell? ⟨c, 0, none⟩ = some (.int .i64 v) ∧
    Below B W ((W1.setCell ⟨c, 0, none⟩ (.int .i64 v)).setCell ⟨b, 0, none⟩ (.string s1)).drew := by
  have n1 : (⟨b, 0, none⟩ : Addr) ≠ ⟨c, 0, none⟩ := by intro e; injection e with e1; exact hbc e1
  refine ⟨?_, ?_, (((hB.mono hBs).setCell hBc _).setCell hBb _).drew⟩
  · exact World.cell?_setCell_same _ _ _ (u := .string s) (by rw [World.cell?_setCell_other _ _ _ _ (fun e => n1 e.symm)]; exact gb)
  · show World.cell? (World.setCell _ _ _) _ = _
    rw [World.cell?_setCell_other _ _ _ _ n1]
    exact World.cell?_setCell_same _ _ _ gc

set_option maxHeartbeats 1000000 in
theorem ic_none0 (b : Nat) (p r : ByteArray) (n : Int) (w W : World) (c : Nat) (E : Nat) (hmax : r.size ≤ 4194304)
    (htake : Calls Tryd.prog 27 #[.pointer (some ⟨b, 0, none⟩), .string p] w fun e w' => e = .returned (.bool true) ∧ w' = W)
    (hsgn : ∀ w : World, Calls Tryd.prog 28 #[.string r, .string ⟨#[45]⟩] w fun e w' => e = .returned (.bool false) ∧ w' = w)
    (hc : W.cell? ⟨b, 0, none⟩ = some (.string r)) (hE0 : 0 ≤ E) (hE : E ≤ r.size)
    (hstep : Hid (∀ k, 0 ≤ k → k < E → ∃ h : k < r.size, 48 ≤ (r[k].toNat : Int) ∧ (r[k].toNat : Int) ≤ 57))
    (hend : Hid (∀ h : E < r.size, (r[E].toNat : Int) < 48 ∨ 57 < (r[E].toNat : Int)))
    (hcat : E ≤ 0) :
    Calls Tryd.prog 24 #[.pointer (some ⟨b, 0, none⟩), .string p, .pointer (some ⟨c, 0, none⟩)] w fun e w' => e = .returned (.bool false) ∧ w' = W := by
  have hq : ((E : Int) == 0) = true := by simp; omega
  go_enter Tryd.func24, Tryd.ntmps24
  go_wp2_with fail
  refine htake.mono ?_
  rintro e w' ⟨rfl, rfl⟩
  clear htake
  go_wp2_with fail
  refine (hsgn _).mono ?_
  rintro e w' ⟨rfl, rfl⟩
  clear hsgn
  go_wp2
  go_loop [7] (fun t => ∃ k : Nat, 0 ≤ k ∧ k ≤ E ∧ t = .int .i64 k) (fun t => E - (intOf t).toNat)
  case atStart => exact ⟨0, by omega, by omega, rfl⟩
  case round =>
    obtain ⟨k, hk1, hk2, rfl⟩ := hrel
    by_cases hlt : k < E
    · omega
    · obtain rfl : k = E := by omega
      by_cases hsz : k < r.size
      · rcases hend.out hsz with d1 | d2
        · go_wp2
          go_ret
          exact ⟨rfl, rfl⟩
        · go_wp2
          go_ret
          exact ⟨rfl, rfl⟩
      · go_wp2
        go_ret
        exact ⟨rfl, rfl⟩

set_option maxHeartbeats 1000000 in
theorem ic_zero0 (b : Nat) (p r : ByteArray) (n : Int) (w W : World) (c : Nat) (E : Nat) (hmax : r.size ≤ 4194304)
    (htake : Calls Tryd.prog 27 #[.pointer (some ⟨b, 0, none⟩), .string p] w fun e w' => e = .returned (.bool true) ∧ w' = W)
    (hsgn : ∀ w : World, Calls Tryd.prog 28 #[.string r, .string ⟨#[45]⟩] w fun e w' => e = .returned (.bool false) ∧ w' = w)
    (hc : W.cell? ⟨b, 0, none⟩ = some (.string r)) (hE0 : 0 ≤ E) (hE : E ≤ r.size)
    (hstep : Hid (∀ k, 0 ≤ k → k < E → ∃ h : k < r.size, 48 ≤ (r[k].toNat : Int) ∧ (r[k].toNat : Int) ≤ 57))
    (hend : Hid (∀ h : E < r.size, (r[E].toNat : Int) < 48 ∨ 57 < (r[E].toNat : Int)))
    (hcat : 0 + 1 < E) (hz : 0 < r.size) (h0 : (r[0].toNat : Int) = 48) :
    Calls Tryd.prog 24 #[.pointer (some ⟨b, 0, none⟩), .string p, .pointer (some ⟨c, 0, none⟩)] w fun e w' => e = .returned (.bool false) ∧ w' = W := by
  have hq : ((E : Int) == 0) = false := by simp; omega
  go_enter Tryd.func24, Tryd.ntmps24
  go_wp2_with fail
  refine htake.mono ?_
  rintro e w' ⟨rfl, rfl⟩
  clear htake
  go_wp2_with fail
  refine (hsgn _).mono ?_
  rintro e w' ⟨rfl, rfl⟩
  clear hsgn
  go_wp2
  go_loop [7] (fun t => ∃ k : Nat, 0 ≤ k ∧ k ≤ E ∧ t = .int .i64 k) (fun t => E - (intOf t).toNat)
  case atStart => exact ⟨0, by omega, by omega, rfl⟩
  case round =>
    obtain ⟨k, hk1, hk2, rfl⟩ := hrel
    by_cases hlt : k < E
    · obtain ⟨hsz, d1, d2⟩ := hstep.out k hk1 hlt
      go_wp2
      go_round
      case rel => exact ⟨k + 1, by omega, by omega, by go_num⟩
      case measure => simp [intOf]; omega
    · obtain rfl : k = E := by omega
      by_cases hsz : k < r.size
      · rcases hend.out hsz with d1 | d2
        · go_wp2
          go_ret
          exact ⟨rfl, rfl⟩
        · go_wp2
          go_ret
          exact ⟨rfl, rfl⟩
      · go_wp2
        go_ret
        exact ⟨rfl, rfl⟩

set_option maxHeartbeats 2000000 in
theorem ic_range0 (b : Nat) (p r : ByteArray) (n : Int) (w W : World) (c : Nat) (E : Nat) (hmax : r.size ≤ 4194304)
    (htake : Calls Tryd.prog 27 #[.pointer (some ⟨b, 0, none⟩), .string p] w fun e w' => e = .returned (.bool true) ∧ w' = W)
    (hsgn : ∀ w : World, Calls Tryd.prog 28 #[.string r, .string ⟨#[45]⟩] w fun e w' => e = .returned (.bool false) ∧ w' = w)
    (hc : W.cell? ⟨b, 0, none⟩ = some (.string r)) (hE0 : 0 ≤ E) (hE : E ≤ r.size)
    (hstep : Hid (∀ k, 0 ≤ k → k < E → ∃ h : k < r.size, 48 ≤ (r[k].toNat : Int) ∧ (r[k].toNat : Int) ≤ 57))
    (hend : Hid (∀ h : E < r.size, (r[E].toNat : Int) < 48 ∨ 57 < (r[E].toNat : Int)))
    (hE1 : 0 < E) (hz : 0 < r.size) (hcat : Hid (((r[0].toNat : Int) == 48) = false ∨ (((r[0].toNat : Int) == 48) = true ∧ decide (1 < (E : Int)) = false ∧ E ≤ 1)))
    (tp : TypeId) (pv : Value) (hvar : W.var? Tryd.prog "strconv.ErrRange" = some #[.iface tp pv]) (hat : Hid (Lib.atoiAll (r.extract 0 E).data.toList = .range)) :
    Calls Tryd.prog 24 #[.pointer (some ⟨b, 0, none⟩), .string p, .pointer (some ⟨c, 0, none⟩)] w fun e w' => e = .returned (.bool false) ∧ Below W.heap.size W w' := by
  have hq : ((E : Int) == 0) = false := by simp; omega
  go_enter Tryd.func24, Tryd.ntmps24
  go_wp2_with fail
  refine htake.mono ?_
  rintro e w' ⟨rfl, rfl⟩
  clear htake
  go_wp2_with fail
  refine (hsgn _).mono ?_
  rintro e w' ⟨rfl, rfl⟩
  clear hsgn
  go_wp2
  go_loop [7] (fun t => ∃ k : Nat, 0 ≤ k ∧ k ≤ E ∧ t = .int .i64 k) (fun t => E - (intOf t).toNat)
  case atStart => exact ⟨0, by omega, by omega, rfl⟩
  case round =>
    obtain ⟨k, hk1, hk2, rfl⟩ := hrel
    by_cases hlt : k < E
    · obtain ⟨hsz, d1, d2⟩ := hstep.out k hk1 hlt
      go_wp2
      go_round
      case rel => exact ⟨k + 1, by omega, by omega, by go_num⟩
      case measure => simp [intOf]; omega
    · obtain rfl : k = E := by omega
      by_cases hsz : k < r.size
      · rcases hend.out hsz with d1 | d2
        · rcases hcat.out with h0 | h0
          · go_wp2_with fail
            refine (Tryd.strconv_Atoi_range_var _ (by rw [ByteArray.size_extract]; omega) hat.out tp pv _ hvar).mono ?_
            rintro e W1 ⟨N, rfl, -, -, hb⟩
            go_wp2
            go_ret
            exact ⟨rfl, hb⟩
          · obtain ⟨h0, h1, h2⟩ := h0
            go_wp2_with fail
            refine (Tryd.strconv_Atoi_range_var _ (by rw [ByteArray.size_extract]; omega) hat.out tp pv _ hvar).mono ?_
            rintro e W1 ⟨N, rfl, -, -, hb⟩
            go_wp2
            go_ret
            exact ⟨rfl, hb⟩
        · rcases hcat.out with h0 | h0
          · go_wp2_with fail
            refine (Tryd.strconv_Atoi_range_var _ (by rw [ByteArray.size_extract]; omega) hat.out tp pv _ hvar).mono ?_
            rintro e W1 ⟨N, rfl, -, -, hb⟩
            go_wp2
            go_ret
            exact ⟨rfl, hb⟩
          · obtain ⟨h0, h1, h2⟩ := h0
            go_wp2_with fail
            refine (Tryd.strconv_Atoi_range_var _ (by rw [ByteArray.size_extract]; omega) hat.out tp pv _ hvar).mono ?_
            rintro e W1 ⟨N, rfl, -, -, hb⟩
            go_wp2
            go_ret
            exact ⟨rfl, hb⟩
      · rcases hcat.out with h0 | h0
        · go_wp2_with fail
          refine (Tryd.strconv_Atoi_range_var _ (by rw [ByteArray.size_extract]; omega) hat.out tp pv _ hvar).mono ?_
          rintro e W1 ⟨N, rfl, -, -, hb⟩
          go_wp2
          go_ret
          exact ⟨rfl, hb⟩
        · obtain ⟨h0, h1, h2⟩ := h0
          go_wp2_with fail
          refine (Tryd.strconv_Atoi_range_var _ (by rw [ByteArray.size_extract]; omega) hat.out tp pv _ hvar).mono ?_
          rintro e W1 ⟨N, rfl, -, -, hb⟩
          go_wp2
          go_ret
          exact ⟨rfl, hb⟩

set_option maxHeartbeats 2000000 in
theorem ic_ok0 (b : Nat) (p r : ByteArray) (n : Int) (w W : World) (c : Nat) (E : Nat) (hmax : r.size ≤ 4194304)
    (htake : Calls Tryd.prog 27 #[.pointer (some ⟨b, 0, none⟩), .string p] w fun e w' => e = .returned (.bool true) ∧ w' = W)
    (hsgn : ∀ w : World, Calls Tryd.prog 28 #[.string r, .string ⟨#[45]⟩] w fun e w' => e = .returned (.bool false) ∧ w' = w)
    (hc : W.cell? ⟨b, 0, none⟩ = some (.string r)) (hE0 : 0 ≤ E) (hE : E ≤ r.size)
    (hstep : Hid (∀ k, 0 ≤ k → k < E → ∃ h : k < r.size, 48 ≤ (r[k].toNat : Int) ∧ (r[k].toNat : Int) ≤ 57))
    (hend : Hid (∀ h : E < r.size, (r[E].toNat : Int) < 48 ∨ 57 < (r[E].toNat : Int)))
    (hE1 : 0 < E) (hz : 0 < r.size) (hcat : Hid (((r[0].toNat : Int) == 48) = false ∨ (((r[0].toNat : Int) == 48) = true ∧ decide (1 < (E : Int)) = false ∧ E ≤ 1)))
    (v : Int) (hat : Hid (Lib.atoiAll (r.extract 0 E).data.toList = .ok v)) (B : Nat) (hBb : B ≤ b) (hBc : B ≤ c) (hBs : B ≤ W.heap.size) (hbs : b < W.heap.size) (hcs : c < W.heap.size) (hbc : b ≠ c)
    (hcn : W.cell? ⟨c, 0, none⟩ = some (.int .i64 n)) (hfb : W.frozen? ⟨b, 0, none⟩ = false) (hfc : W.frozen? ⟨c, 0, none⟩ = false) :
    Calls Tryd.prog 24 #[.pointer (some ⟨b, 0, none⟩), .string p, .pointer (some ⟨c, 0, none⟩)] w fun e w' => e = .returned (.bool true) ∧ w'.cell? ⟨b, 0, none⟩ = some (.string (r.extract E r.size)) ∧ w'.cell? ⟨c, 0, none⟩ = some (.int .i64 v) ∧ Below B W w' := by
  have hq : ((E : Int) == 0) = false := by simp; omega
  go_enter Tryd.func24, Tryd.ntmps24
  go_wp2_with fail
  refine htake.mono ?_
  rintro e w' ⟨rfl, rfl⟩
  clear htake
  go_wp2_with fail
  refine (hsgn _).mono ?_
  rintro e w' ⟨rfl, rfl⟩
  clear hsgn
  go_wp2
  go_loop [7] (fun t => ∃ k : Nat, 0 ≤ k ∧ k ≤ E ∧ t = .int .i64 k) (fun t => E - (intOf t).toNat)
  case atStart => exact ⟨0, by omega, by omega, rfl⟩
  case round =>
    obtain ⟨k, hk1, hk2, rfl⟩ := hrel
    by_cases hlt : k < E
    · obtain ⟨hsz, d1, d2⟩ := hstep.out k hk1 hlt
      go_wp2
      go_round
      case rel => exact ⟨k + 1, by omega, by omega, by go_num⟩
      case measure => simp [intOf]; omega
    · obtain rfl : k = E := by omega
      by_cases hsz : k < r.size
      · rcases hend.out hsz with d1 | d2
        · rcases hcat.out with h0 | h0
          · go_wp2_with fail
            refine (Tryd.strconv_Atoi_ok _ (by rw [ByteArray.size_extract]; omega) v hat.out _).mono ?_
            rintro e W1 ⟨rfl, hw⟩
            obtain ⟨hB, gb, gc, fb, fc, hz1⟩ := facts_ok hw hbs hcs hc hcn hfb hfc
            clear hw
            go_wp2
            go_region
            all_goals
              go_wp2
              go_ret
              exact ⟨rfl, ends_ok hBb hBc hBs hbc hB gb gc⟩
          · obtain ⟨h0, h1, h2⟩ := h0
            go_wp2_with fail
            refine (Tryd.strconv_Atoi_ok _ (by rw [ByteArray.size_extract]; omega) v hat.out _).mono ?_
            rintro e W1 ⟨rfl, hw⟩
            obtain ⟨hB, gb, gc, fb, fc, hz1⟩ := facts_ok hw hbs hcs hc hcn hfb hfc
            clear hw
            go_wp2
            go_region
            all_goals
              go_wp2
              go_ret
              exact ⟨rfl, ends_ok hBb hBc hBs hbc hB gb gc⟩
        · rcases hcat.out with h0 | h0
          · go_wp2_with fail
            refine (Tryd.strconv_Atoi_ok _ (by rw [ByteArray.size_extract]; omega) v hat.out _).mono ?_
            rintro e W1 ⟨rfl, hw⟩
            obtain ⟨hB, gb, gc, fb, fc, hz1⟩ := facts_ok hw hbs hcs hc hcn hfb hfc
            clear hw
            go_wp2
            go_region
            all_goals
              go_wp2
              go_ret
              exact ⟨rfl, ends_ok hBb hBc hBs hbc hB gb gc⟩
          · obtain ⟨h0, h1, h2⟩ := h0
            go_wp2_with fail
            refine (Tryd.strconv_Atoi_ok _ (by rw [ByteArray.size_extract]; omega) v hat.out _).mono ?_
            rintro e W1 ⟨rfl, hw⟩
            obtain ⟨hB, gb, gc, fb, fc, hz1⟩ := facts_ok hw hbs hcs hc hcn hfb hfc
            clear hw
            go_wp2
            go_region
            all_goals
              go_wp2
              go_ret
              exact ⟨rfl, ends_ok hBb hBc hBs hbc hB gb gc⟩
      · rcases hcat.out with h0 | h0
        · go_wp2_with fail
          refine (Tryd.strconv_Atoi_ok _ (by rw [ByteArray.size_extract]; omega) v hat.out _).mono ?_
          rintro e W1 ⟨rfl, hw⟩
          obtain ⟨hB, gb, gc, fb, fc, hz1⟩ := facts_ok hw hbs hcs hc hcn hfb hfc
          clear hw
          go_wp2
          go_region
          all_goals
            go_wp2
            go_ret
            exact ⟨rfl, ends_ok hBb hBc hBs hbc hB gb gc⟩
        · obtain ⟨h0, h1, h2⟩ := h0
          go_wp2_with fail
          refine (Tryd.strconv_Atoi_ok _ (by rw [ByteArray.size_extract]; omega) v hat.out _).mono ?_
          rintro e W1 ⟨rfl, hw⟩
          obtain ⟨hB, gb, gc, fb, fc, hz1⟩ := facts_ok hw hbs hcs hc hcn hfb hfc
          clear hw
          go_wp2
          go_region
          all_goals
            go_wp2
            go_ret
            exact ⟨rfl, ends_ok hBb hBc hBs hbc hB gb gc⟩

set_option maxHeartbeats 1000000 in
theorem ic_none1 (b : Nat) (p r : ByteArray) (n : Int) (w W : World) (c : Nat) (E : Nat) (hmax : r.size ≤ 4194304)
    (htake : Calls Tryd.prog 27 #[.pointer (some ⟨b, 0, none⟩), .string p] w fun e w' => e = .returned (.bool true) ∧ w' = W)
    (hsgn : ∀ w : World, Calls Tryd.prog 28 #[.string r, .string ⟨#[45]⟩] w fun e w' => e = .returned (.bool true) ∧ w' = w)
    (hc : W.cell? ⟨b, 0, none⟩ = some (.string r)) (hE0 : 1 ≤ E) (hE : E ≤ r.size)
    (hstep : Hid (∀ k, 1 ≤ k → k < E → ∃ h : k < r.size, 48 ≤ (r[k].toNat : Int) ∧ (r[k].toNat : Int) ≤ 57))
    (hend : Hid (∀ h : E < r.size, (r[E].toNat : Int) < 48 ∨ 57 < (r[E].toNat : Int)))
    (hcat : E ≤ 1) :
    Calls Tryd.prog 24 #[.pointer (some ⟨b, 0, none⟩), .string p, .pointer (some ⟨c, 0, none⟩)] w fun e w' => e = .returned (.bool false) ∧ w' = W := by
  have hq : ((E : Int) == 1) = true := by simp; omega
  go_enter Tryd.func24, Tryd.ntmps24
  go_wp2_with fail
  refine htake.mono ?_
  rintro e w' ⟨rfl, rfl⟩
  clear htake
  go_wp2_with fail
  refine (hsgn _).mono ?_
  rintro e w' ⟨rfl, rfl⟩
  clear hsgn
  go_wp2
  go_loop [7] (fun t => ∃ k : Nat, 1 ≤ k ∧ k ≤ E ∧ t = .int .i64 k) (fun t => E - (intOf t).toNat)
  case atStart => exact ⟨1, by omega, by omega, rfl⟩
  case round =>
    obtain ⟨k, hk1, hk2, rfl⟩ := hrel
    by_cases hlt : k < E
    · omega
    · obtain rfl : k = E := by omega
      by_cases hsz : k < r.size
      · rcases hend.out hsz with d1 | d2
        · go_wp2
          go_ret
          exact ⟨rfl, rfl⟩
        · go_wp2
          go_ret
          exact ⟨rfl, rfl⟩
      · go_wp2
        go_ret
        exact ⟨rfl, rfl⟩

set_option maxHeartbeats 1000000 in
theorem ic_zero1 (b : Nat) (p r : ByteArray) (n : Int) (w W : World) (c : Nat) (E : Nat) (hmax : r.size ≤ 4194304)
    (htake : Calls Tryd.prog 27 #[.pointer (some ⟨b, 0, none⟩), .string p] w fun e w' => e = .returned (.bool true) ∧ w' = W)
    (hsgn : ∀ w : World, Calls Tryd.prog 28 #[.string r, .string ⟨#[45]⟩] w fun e w' => e = .returned (.bool true) ∧ w' = w)
    (hc : W.cell? ⟨b, 0, none⟩ = some (.string r)) (hE0 : 1 ≤ E) (hE : E ≤ r.size)
    (hstep : Hid (∀ k, 1 ≤ k → k < E → ∃ h : k < r.size, 48 ≤ (r[k].toNat : Int) ∧ (r[k].toNat : Int) ≤ 57))
    (hend : Hid (∀ h : E < r.size, (r[E].toNat : Int) < 48 ∨ 57 < (r[E].toNat : Int)))
    (hcat : 1 + 1 < E) (hz : 1 < r.size) (h0 : (r[1].toNat : Int) = 48) :
    Calls Tryd.prog 24 #[.pointer (some ⟨b, 0, none⟩), .string p, .pointer (some ⟨c, 0, none⟩)] w fun e w' => e = .returned (.bool false) ∧ w' = W := by
  have hq : ((E : Int) == 1) = false := by simp; omega
  go_enter Tryd.func24, Tryd.ntmps24
  go_wp2_with fail
  refine htake.mono ?_
  rintro e w' ⟨rfl, rfl⟩
  clear htake
  go_wp2_with fail
  refine (hsgn _).mono ?_
  rintro e w' ⟨rfl, rfl⟩
  clear hsgn
  go_wp2
  go_loop [7] (fun t => ∃ k : Nat, 1 ≤ k ∧ k ≤ E ∧ t = .int .i64 k) (fun t => E - (intOf t).toNat)
  case atStart => exact ⟨1, by omega, by omega, rfl⟩
  case round =>
    obtain ⟨k, hk1, hk2, rfl⟩ := hrel
    by_cases hlt : k < E
    · obtain ⟨hsz, d1, d2⟩ := hstep.out k hk1 hlt
      go_wp2
      go_round
      case rel => exact ⟨k + 1, by omega, by omega, by go_num⟩
      case measure => simp [intOf]; omega
    · obtain rfl : k = E := by omega
      by_cases hsz : k < r.size
      · rcases hend.out hsz with d1 | d2
        · go_wp2
          go_ret
          exact ⟨rfl, rfl⟩
        · go_wp2
          go_ret
          exact ⟨rfl, rfl⟩
      · go_wp2
        go_ret
        exact ⟨rfl, rfl⟩

set_option maxHeartbeats 2000000 in
theorem ic_range1 (b : Nat) (p r : ByteArray) (n : Int) (w W : World) (c : Nat) (E : Nat) (hmax : r.size ≤ 4194304)
    (htake : Calls Tryd.prog 27 #[.pointer (some ⟨b, 0, none⟩), .string p] w fun e w' => e = .returned (.bool true) ∧ w' = W)
    (hsgn : ∀ w : World, Calls Tryd.prog 28 #[.string r, .string ⟨#[45]⟩] w fun e w' => e = .returned (.bool true) ∧ w' = w)
    (hc : W.cell? ⟨b, 0, none⟩ = some (.string r)) (hE0 : 1 ≤ E) (hE : E ≤ r.size)
    (hstep : Hid (∀ k, 1 ≤ k → k < E → ∃ h : k < r.size, 48 ≤ (r[k].toNat : Int) ∧ (r[k].toNat : Int) ≤ 57))
    (hend : Hid (∀ h : E < r.size, (r[E].toNat : Int) < 48 ∨ 57 < (r[E].toNat : Int)))
    (hE1 : 1 < E) (hz : 1 < r.size) (hcat : Hid (((r[1].toNat : Int) == 48) = false ∨ (((r[1].toNat : Int) == 48) = true ∧ decide (2 < (E : Int)) = false ∧ E ≤ 2)))
    (tp : TypeId) (pv : Value) (hvar : W.var? Tryd.prog "strconv.ErrRange" = some #[.iface tp pv]) (hat : Hid (Lib.atoiAll (r.extract 0 E).data.toList = .range)) :
    Calls Tryd.prog 24 #[.pointer (some ⟨b, 0, none⟩), .string p, .pointer (some ⟨c, 0, none⟩)] w fun e w' => e = .returned (.bool false) ∧ Below W.heap.size W w' := by
  have hq : ((E : Int) == 1) = false := by simp; omega
  go_enter Tryd.func24, Tryd.ntmps24
  go_wp2_with fail
  refine htake.mono ?_
  rintro e w' ⟨rfl, rfl⟩
  clear htake
  go_wp2_with fail
  refine (hsgn _).mono ?_
  rintro e w' ⟨rfl, rfl⟩
  clear hsgn
  go_wp2
  go_loop [7] (fun t => ∃ k : Nat, 1 ≤ k ∧ k ≤ E ∧ t = .int .i64 k) (fun t => E - (intOf t).toNat)
  case atStart => exact ⟨1, by omega, by omega, rfl⟩
  case round =>
    obtain ⟨k, hk1, hk2, rfl⟩ := hrel
    by_cases hlt : k < E
    · obtain ⟨hsz, d1, d2⟩ := hstep.out k hk1 hlt
      go_wp2
      go_round
      case rel => exact ⟨k + 1, by omega, by omega, by go_num⟩
      case measure => simp [intOf]; omega
    · obtain rfl : k = E := by omega
      by_cases hsz : k < r.size
      · rcases hend.out hsz with d1 | d2
        · rcases hcat.out with h0 | h0
          · go_wp2_with fail
            refine (Tryd.strconv_Atoi_range_var _ (by rw [ByteArray.size_extract]; omega) hat.out tp pv _ hvar).mono ?_
            rintro e W1 ⟨N, rfl, -, -, hb⟩
            go_wp2
            go_ret
            exact ⟨rfl, hb⟩
          · obtain ⟨h0, h1, h2⟩ := h0
            go_wp2_with fail
            refine (Tryd.strconv_Atoi_range_var _ (by rw [ByteArray.size_extract]; omega) hat.out tp pv _ hvar).mono ?_
            rintro e W1 ⟨N, rfl, -, -, hb⟩
            go_wp2
            go_ret
            exact ⟨rfl, hb⟩
        · rcases hcat.out with h0 | h0
          · go_wp2_with fail
            refine (Tryd.strconv_Atoi_range_var _ (by rw [ByteArray.size_extract]; omega) hat.out tp pv _ hvar).mono ?_
            rintro e W1 ⟨N, rfl, -, -, hb⟩
            go_wp2
            go_ret
            exact ⟨rfl, hb⟩
          · obtain ⟨h0, h1, h2⟩ := h0
            go_wp2_with fail
            refine (Tryd.strconv_Atoi_range_var _ (by rw [ByteArray.size_extract]; omega) hat.out tp pv _ hvar).mono ?_
            rintro e W1 ⟨N, rfl, -, -, hb⟩
            go_wp2
            go_ret
            exact ⟨rfl, hb⟩
      · rcases hcat.out with h0 | h0
        · go_wp2_with fail
          refine (Tryd.strconv_Atoi_range_var _ (by rw [ByteArray.size_extract]; omega) hat.out tp pv _ hvar).mono ?_
          rintro e W1 ⟨N, rfl, -, -, hb⟩
          go_wp2
          go_ret
          exact ⟨rfl, hb⟩
        · obtain ⟨h0, h1, h2⟩ := h0
          go_wp2_with fail
          refine (Tryd.strconv_Atoi_range_var _ (by rw [ByteArray.size_extract]; omega) hat.out tp pv _ hvar).mono ?_
          rintro e W1 ⟨N, rfl, -, -, hb⟩
          go_wp2
          go_ret
          exact ⟨rfl, hb⟩

set_option maxHeartbeats 2000000 in
theorem ic_ok1 (b : Nat) (p r : ByteArray) (n : Int) (w W : World) (c : Nat) (E : Nat) (hmax : r.size ≤ 4194304)
    (htake : Calls Tryd.prog 27 #[.pointer (some ⟨b, 0, none⟩), .string p] w fun e w' => e = .returned (.bool true) ∧ w' = W)
    (hsgn : ∀ w : World, Calls Tryd.prog 28 #[.string r, .string ⟨#[45]⟩] w fun e w' => e = .returned (.bool true) ∧ w' = w)
    (hc : W.cell? ⟨b, 0, none⟩ = some (.string r)) (hE0 : 1 ≤ E) (hE : E ≤ r.size)
    (hstep : Hid (∀ k, 1 ≤ k → k < E → ∃ h : k < r.size, 48 ≤ (r[k].toNat : Int) ∧ (r[k].toNat : Int) ≤ 57))
    (hend : Hid (∀ h : E < r.size, (r[E].toNat : Int) < 48 ∨ 57 < (r[E].toNat : Int)))
    (hE1 : 1 < E) (hz : 1 < r.size) (hcat : Hid (((r[1].toNat : Int) == 48) = false ∨ (((r[1].toNat : Int) == 48) = true ∧ decide (2 < (E : Int)) = false ∧ E ≤ 2)))
    (v : Int) (hat : Hid (Lib.atoiAll (r.extract 0 E).data.toList = .ok v)) (B : Nat) (hBb : B ≤ b) (hBc : B ≤ c) (hBs : B ≤ W.heap.size) (hbs : b < W.heap.size) (hcs : c < W.heap.size) (hbc : b ≠ c)
    (hcn : W.cell? ⟨c, 0, none⟩ = some (.int .i64 n)) (hfb : W.frozen? ⟨b, 0, none⟩ = false) (hfc : W.frozen? ⟨c, 0, none⟩ = false) :
    Calls Tryd.prog 24 #[.pointer (some ⟨b, 0, none⟩), .string p, .pointer (some ⟨c, 0, none⟩)] w fun e w' => e = .returned (.bool true) ∧ w'.cell? ⟨b, 0, none⟩ = some (.string (r.extract E r.size)) ∧ w'.cell? ⟨c, 0, none⟩ = some (.int .i64 v) ∧ Below B W w' := by
  have hq : ((E : Int) == 1) = false := by simp; omega
  go_enter Tryd.func24, Tryd.ntmps24
  go_wp2_with fail
  refine htake.mono ?_
  rintro e w' ⟨rfl, rfl⟩
  clear htake
  go_wp2_with fail
  refine (hsgn _).mono ?_
  rintro e w' ⟨rfl, rfl⟩
  clear hsgn
  go_wp2
  go_loop [7] (fun t => ∃ k : Nat, 1 ≤ k ∧ k ≤ E ∧ t = .int .i64 k) (fun t => E - (intOf t).toNat)
  case atStart => exact ⟨1, by omega, by omega, rfl⟩
  case round =>
    obtain ⟨k, hk1, hk2, rfl⟩ := hrel
    by_cases hlt : k < E
    · obtain ⟨hsz, d1, d2⟩ := hstep.out k hk1 hlt
      go_wp2
      go_round
      case rel => exact ⟨k + 1, by omega, by omega, by go_num⟩
      case measure => simp [intOf]; omega
    · obtain rfl : k = E := by omega
      by_cases hsz : k < r.size
      · rcases hend.out hsz with d1 | d2
        · rcases hcat.out with h0 | h0
          · go_wp2_with fail
            refine (Tryd.strconv_Atoi_ok _ (by rw [ByteArray.size_extract]; omega) v hat.out _).mono ?_
            rintro e W1 ⟨rfl, hw⟩
            obtain ⟨hB, gb, gc, fb, fc, hz1⟩ := facts_ok hw hbs hcs hc hcn hfb hfc
            clear hw
            go_wp2
            go_region
            all_goals
              go_wp2
              go_ret
              exact ⟨rfl, ends_ok hBb hBc hBs hbc hB gb gc⟩
          · obtain ⟨h0, h1, h2⟩ := h0
            go_wp2_with fail
            refine (Tryd.strconv_Atoi_ok _ (by rw [ByteArray.size_extract]; omega) v hat.out _).mono ?_
            rintro e W1 ⟨rfl, hw⟩
            obtain ⟨hB, gb, gc, fb, fc, hz1⟩ := facts_ok hw hbs hcs hc hcn hfb hfc
            clear hw
            go_wp2
            go_region
            all_goals
              go_wp2
              go_ret
              exact ⟨rfl, ends_ok hBb hBc hBs hbc hB gb gc⟩
        · rcases hcat.out with h0 | h0
          · go_wp2_with fail
            refine (Tryd.strconv_Atoi_ok _ (by rw [ByteArray.size_extract]; omega) v hat.out _).mono ?_
            rintro e W1 ⟨rfl, hw⟩
            obtain ⟨hB, gb, gc, fb, fc, hz1⟩ := facts_ok hw hbs hcs hc hcn hfb hfc
            clear hw
            go_wp2
            go_region
            all_goals
              go_wp2
              go_ret
              exact ⟨rfl, ends_ok hBb hBc hBs hbc hB gb gc⟩
          · obtain ⟨h0, h1, h2⟩ := h0
            go_wp2_with fail
            refine (Tryd.strconv_Atoi_ok _ (by rw [ByteArray.size_extract]; omega) v hat.out _).mono ?_
            rintro e W1 ⟨rfl, hw⟩
            obtain ⟨hB, gb, gc, fb, fc, hz1⟩ := facts_ok hw hbs hcs hc hcn hfb hfc
            clear hw
            go_wp2
            go_region
            all_goals
              go_wp2
              go_ret
              exact ⟨rfl, ends_ok hBb hBc hBs hbc hB gb gc⟩
      · rcases hcat.out with h0 | h0
        · go_wp2_with fail
          refine (Tryd.strconv_Atoi_ok _ (by rw [ByteArray.size_extract]; omega) v hat.out _).mono ?_
          rintro e W1 ⟨rfl, hw⟩
          obtain ⟨hB, gb, gc, fb, fc, hz1⟩ := facts_ok hw hbs hcs hc hcn hfb hfc
          clear hw
          go_wp2
          go_region
          all_goals
            go_wp2
            go_ret
            exact ⟨rfl, ends_ok hBb hBc hBs hbc hB gb gc⟩
        · obtain ⟨h0, h1, h2⟩ := h0
          go_wp2_with fail
          refine (Tryd.strconv_Atoi_ok _ (by rw [ByteArray.size_extract]; omega) v hat.out _).mono ?_
          rintro e W1 ⟨rfl, hw⟩
          obtain ⟨hB, gb, gc, fb, fc, hz1⟩ := facts_ok hw hbs hcs hc hcn hfb hfc
          clear hw
          go_wp2
          go_region
          all_goals
            go_wp2
            go_ret
            exact ⟨rfl, ends_ok hBb hBc hBs hbc hB gb gc⟩


end Go.Proofs.Qxb6603870aDoor
