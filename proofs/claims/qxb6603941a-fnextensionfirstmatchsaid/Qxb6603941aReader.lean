/-
  THE READER: bytes, vector8, ZZReaderVector8B1; sameWindow.
-/
import Derived.Test.Qxb6603941aWalks
import Derived.Deep.QuietTactic
import Derived.BigQuiet
import Derived.Lib.Builder
namespace Go.Proofs.Qxb6603941a
open Go.RowKit Go.Deep
set_option linter.unusedVariables false

set_option maxHeartbeats 1000000 in
theorem bytes_lt (R M o L n : Nat) (w : World) (hL : L ≤ 2097152) (hn : n < L)
    (h0 : w.cell? ⟨R, 0, none⟩ = some (.slice (some ⟨M, o, none⟩) L L)) (h1 : w.cell? ⟨R, 1, none⟩ = some (.bool false)) (f0 : w.frozen? ⟨R, 0, none⟩ = false) :
    Calls Try.prog 19 #[.pointer (some ⟨R, 0, none⟩), .int .i64 n] w fun e w' => e = .returned (.slice (some ⟨M, o, none⟩) n n) ∧ w' = w.setCell ⟨R, 0, none⟩ (.slice (some ⟨M, o + n, none⟩) (L - n) (L - n)) := by
  have h2 : ¬ (L - n = 0) := by omega
  go_enter Try.func19, Try.ntmps19
  go_wp2
  go_ret
  exact ⟨rfl, rfl⟩
set_option maxHeartbeats 1000000 in
/-- The whole of what is left: what stays is empty, at the same place. -/
theorem bytes_all (R M o n : Nat) (w : World) (hL : n ≤ 2097152)
    (h0 : w.cell? ⟨R, 0, none⟩ = some (.slice (some ⟨M, o, none⟩) n n)) (h1 : w.cell? ⟨R, 1, none⟩ = some (.bool false)) (f0 : w.frozen? ⟨R, 0, none⟩ = false) :
    Calls Try.prog 19 #[.pointer (some ⟨R, 0, none⟩), .int .i64 n] w fun e w' => e = .returned (.slice (some ⟨M, o, none⟩) n n) ∧ w' = w.setCell ⟨R, 0, none⟩ (.slice (some ⟨M, o, none⟩) 0 0) := by
  go_enter Try.func19, Try.ntmps19
  go_wp2
  go_ret
  exact ⟨rfl, rfl⟩

/-- A reader in block R over the row M. -/
structure Rd (w : World) (R M : Nat) (a : Option Addr) (L : Nat) (bad : Bool) : Prop where
  c0 : w.cell? ⟨R, 0, none⟩ = some (.slice a L L)
  c1 : w.cell? ⟨R, 1, none⟩ = some (.bool bad)
  f0 : w.frozen? ⟨R, 0, none⟩ = false
  f1 : w.frozen? ⟨R, 1, none⟩ = false
  ne : R ≠ M

theorem Rd.set0 {w : World} {R M : Nat} {a : Option Addr} {L : Nat} {bad : Bool} (h : Rd w R M a L bad) (a2 : Option Addr) (L2 : Nat) : Rd (w.setCell ⟨R, 0, none⟩ (.slice a2 L2 L2)) R M a2 L2 bad where
  c0 := World.cell?_setCell_same _ _ _ h.c0
  c1 := by rw [World.cell?_setCell_other _ _ _ _ (by intro e; injection e with _ e2; cases e2)]; exact h.c1
  f0 := by simpa using h.f0
  f1 := by simpa using h.f1
  ne := h.ne
theorem Rd.set1 {w : World} {R M : Nat} {a : Option Addr} {L : Nat} {bad : Bool} (h : Rd w R M a L bad) (b2 : Bool) : Rd (w.setCell ⟨R, 1, none⟩ (.bool b2)) R M a L b2 where
  c1 := World.cell?_setCell_same _ _ _ h.c1
  c0 := by rw [World.cell?_setCell_other _ _ _ _ (by intro e; injection e with _ e2; cases e2)]; exact h.c0
  f0 := by simpa using h.f0
  f1 := by simpa using h.f1
  ne := h.ne

/-- bytes(n), n within what is left. -/
theorem bytes_any (R M o L n B : Nat) (w : World) (hL : L ≤ 2097152) (hn : n ≤ L) (hB : B ≤ R) (h : Rd w R M (some ⟨M, o, none⟩) L false) :
    Calls Try.prog 19 #[.pointer (some ⟨R, 0, none⟩), .int .i64 n] w fun e w' => e = .returned (.slice (some ⟨M, o, none⟩) n n) ∧ ∃ o2, Rd w' R M (some ⟨M, o2, none⟩) (L - n) false ∧ (L - n = 0 ∨ o2 = o + n) ∧ (∀ k, w'.cell? ⟨M, k, none⟩ = w.cell? ⟨M, k, none⟩) ∧ Below B w w' := by
  have hM : ∀ (x : Value) (k : Nat), (w.setCell ⟨R, 0, none⟩ x).cell? ⟨M, k, none⟩ = w.cell? ⟨M, k, none⟩ := fun x k => World.cell?_setCell_other _ _ _ _ (by intro e; injection e with e2; exact h.ne e2)
  by_cases hlt : n < L
  · refine (bytes_lt R M o L n w hL hlt h.c0 h.c1 h.f0).mono ?_
    rintro e w' ⟨rfl, rfl⟩
    exact ⟨rfl, o + n, h.set0 _ _, .inr rfl, hM _, (Below.refl _ _).setCell hB _⟩
  · obtain rfl : L = n := by omega
    refine (bytes_all R M o L w hL h.c0 h.c1 h.f0).mono ?_
    rintro e w' ⟨rfl, rfl⟩
    refine ⟨rfl, o, ?_, .inl (by omega), hM _, (Below.refl _ _).setCell hB _⟩
    rw [Nat.sub_self]
    exact h.set0 _ _

set_option maxHeartbeats 1000000 in
theorem v8_bad (R M T n1 B : Nat) (limit : Int) (w : World) (hT : T ≤ 2097152) (hT1 : 1 ≤ T) (hn1 : n1 ≤ 255) (hB : B ≤ R) (hlim : limit < n1) (h : Hid (Rd w R M (some ⟨M, 0, none⟩) T false)) (hm : w.cell? ⟨M, 0, none⟩ = some (.int .u8 n1)) :
    Calls Try.prog 18 #[.pointer (some ⟨R, 0, none⟩), .int .i64 limit] w fun e w' => e = .returned (.slice none 0 0) ∧ ∃ o2, Rd w' R M (some ⟨M, o2, none⟩) (T - 1) true ∧ (T - 1 = 0 ∨ o2 = 1) ∧ (∀ k, w'.cell? ⟨M, k, none⟩ = w.cell? ⟨M, k, none⟩) ∧ Below B w w' := by
  have hnil := nilTest
  have hby := bytes_any R M 0 T 1 B w hT hT1 hB h.out
  have e1 : ((1 : Nat) : Int) = 1 := rfl
  rw [e1] at hby
  clear e1
  go_enter Try.func18, Try.ntmps18
  go_wp2_with fail
  refine hby.mono ?_
  rintro e w1 ⟨rfl, o2, hr, ho, hk, hbl⟩
  clear hby
  have hm1 : w1.cell? ⟨M, 0, none⟩ = some (.int .u8 n1) := by rw [hk]; exact hm
  have HH := Lib.hid (And.intro hr (And.intro ho (And.intro hk hbl)))
  have c1 := hr.c1
  have f1 := hr.f1
  clear hr ho hk hbl
  go_wp2
  go_ret
  obtain ⟨hr, ho, hk, hbl⟩ := HH.out
  exact ⟨rfl, o2, hr.set1 _, by rcases ho with ho | ho; exact .inl ho; exact .inr (by omega), fun k => by rw [World.cell?_setCell_other _ _ _ _ (by intro e; injection e with e2; exact hr.ne e2)]; exact hk k, hbl.setCell hB _⟩

set_option maxHeartbeats 1000000 in
theorem v8_ok (R M n1 n2 B : Nat) (limit : Int) (w : World) (hT : n1 + n2 ≤ 1048576) (hn1 : n1 ≤ 255) (hB : B ≤ R) (hlim : (n1 : Int) ≤ limit) (h : Hid (Rd w R M (some ⟨M, 0, none⟩) (1 + n1 + n2) false)) (hm : w.cell? ⟨M, 0, none⟩ = some (.int .u8 n1)) :
    Calls Try.prog 18 #[.pointer (some ⟨R, 0, none⟩), .int .i64 limit] w fun e w' => ∃ o1 o2, e = .returned (.slice (some ⟨M, o1, none⟩) n1 n1) ∧ Rd w' R M (some ⟨M, o2, none⟩) n2 false ∧ (n1 = 0 ∨ o1 = 1) ∧ (n2 = 0 ∨ o2 = 1 + n1) ∧ (∀ k, w'.cell? ⟨M, k, none⟩ = w.cell? ⟨M, k, none⟩) ∧ Below B w w' := by
  have hnil := nilTest
  have hby := bytes_any R M 0 (1 + n1 + n2) 1 B w (by omega) (by omega) hB h.out
  have e1 : ((1 : Nat) : Int) = 1 := rfl
  rw [e1] at hby
  clear e1
  go_enter Try.func18, Try.ntmps18
  go_wp2_with fail
  refine hby.mono ?_
  rintro e w1 ⟨rfl, o2, hr, ho, hk, hbl⟩
  clear hby
  have hm1 : w1.cell? ⟨M, 0, none⟩ = some (.int .u8 n1) := by rw [hk]; exact hm
  have e2 : 1 + n1 + n2 - 1 = n1 + n2 := by omega
  rw [e2] at hr ho
  clear e2
  have hby2 := bytes_any R M o2 (n1 + n2) n1 B w1 (by omega) (by omega) hB hr
  have HH := Lib.hid (And.intro hr (And.intro ho (And.intro hk hbl)))
  clear hr ho hk hbl
  have hlim2 : ¬ (limit < (n1 : Int)) := by omega
  go_wp2_with fail
  refine hby2.mono ?_
  rintro e w2 ⟨rfl, o3, hr3, ho3, hk3, hbl3⟩
  clear hby2
  go_wp2
  go_ret
  obtain ⟨hr, ho, hk, hbl⟩ := HH.out
  have e3 : n1 + n2 - n1 = n2 := by omega
  rw [e3] at hr3 ho3
  exact ⟨o2, o3, rfl, hr3, by omega, by omega, fun k => by rw [hk3, hk], hbl.trans hbl3⟩

/-- A row's cells behind a world that keeps them. -/
theorem keep_cells {w w' : World} {M : Nat} (h : ∀ k, w'.cell? ⟨M, k, none⟩ = w.cell? ⟨M, k, none⟩) {v : Value} {k : Nat} (hc : w.cell? ⟨M, k, none⟩ = some v) : w'.cell? ⟨M, k, none⟩ = some v := by rw [h]; exact hc

set_option maxHeartbeats 1000000 in
theorem zz_bad (M T n1 : Nat) (limit : Int) (w : World) (hT : T ≤ 2097152) (hT1 : 1 ≤ T) (hn1 : n1 ≤ 255) (hlim : limit < n1) (hM : M < w.heap.size) (hm : w.cell? ⟨M, 0, none⟩ = some (.int .u8 n1)) :
    Calls Try.prog 14 #[.slice (some ⟨M, 0, none⟩) T T, .bool false, .int .i64 limit] w fun e w' => ∃ o2, e = .returned (.tuple #[.slice none 0 0, .slice (some ⟨M, o2, none⟩) (T - 1) (T - 1), .bool true]) ∧ (T - 1 = 0 ∨ o2 = 1) ∧ Below w.heap.size w w' := by
  have hrd : Rd (w.alloc (.cells #[.slice (some ⟨M, 0, none⟩) T T, .bool false] 48)) w.heap.size M (some ⟨M, 0, none⟩) T false := ⟨by simp [go_sem], by simp [go_sem], by simp [go_sem], by simp [go_sem], by omega⟩
  have hb0 : Below w.heap.size w (w.alloc (.cells #[.slice (some ⟨M, 0, none⟩) T T, .bool false] 48)) := (Below.refl _ _).alloc (Nat.le_refl _) _
  have hv := v8_bad w.heap.size M T n1 w.heap.size limit (w.alloc (.cells #[.slice (some ⟨M, 0, none⟩) T T, .bool false] 48)) hT hT1 hn1 (Nat.le_refl _) hlim (Lib.hid hrd) (by rw [hb0.cell (p := ⟨M, 0, none⟩) hM]; exact hm)
  clear hrd
  go_enter Try.func14, Try.ntmps14
  go_wp2_with fail
  refine hv.mono ?_
  rintro e w1 ⟨rfl, o2, hr, ho, hk, hbl⟩
  clear hv hk
  have c0 := hr.c0
  have c1 := hr.c1
  clear hr
  go_wp2
  go_region
  all_goals
    go_wp2
    go_ret3
    exact ⟨o2, rfl, ho, (hb0.trans hbl).drew⟩

set_option maxHeartbeats 1000000 in
theorem zz_ok (M n1 n2 : Nat) (limit : Int) (w : World) (hT : n1 + n2 ≤ 1048576) (hn1 : n1 ≤ 255) (hlim : (n1 : Int) ≤ limit) (hM : M < w.heap.size) (hm : w.cell? ⟨M, 0, none⟩ = some (.int .u8 n1)) :
    Calls Try.prog 14 #[.slice (some ⟨M, 0, none⟩) (1 + n1 + n2) (1 + n1 + n2), .bool false, .int .i64 limit] w fun e w' => ∃ o1 o2, e = .returned (.tuple #[.slice (some ⟨M, o1, none⟩) n1 n1, .slice (some ⟨M, o2, none⟩) n2 n2, .bool false]) ∧ (n1 = 0 ∨ o1 = 1) ∧ (n2 = 0 ∨ o2 = 1 + n1) ∧ Below w.heap.size w w' := by
  have hrd : Rd (w.alloc (.cells #[.slice (some ⟨M, 0, none⟩) (1 + n1 + n2) (1 + n1 + n2), .bool false] 48)) w.heap.size M (some ⟨M, 0, none⟩) (1 + n1 + n2) false := ⟨by simp [go_sem], by simp [go_sem], by simp [go_sem], by simp [go_sem], by omega⟩
  have hb0 : Below w.heap.size w (w.alloc (.cells #[.slice (some ⟨M, 0, none⟩) (1 + n1 + n2) (1 + n1 + n2), .bool false] 48)) := (Below.refl _ _).alloc (Nat.le_refl _) _
  have hv := v8_ok w.heap.size M n1 n2 w.heap.size limit (w.alloc (.cells #[.slice (some ⟨M, 0, none⟩) (1 + n1 + n2) (1 + n1 + n2), .bool false] 48)) hT hn1 (Nat.le_refl _) hlim (Lib.hid hrd) (by rw [hb0.cell (p := ⟨M, 0, none⟩) hM]; exact hm)
  clear hrd
  go_enter Try.func14, Try.ntmps14
  go_wp2_with fail
  refine hv.mono ?_
  rintro e w1 ⟨o1, o2, rfl, hr, ho1, ho2, hk, hbl⟩
  clear hv hk
  have c0 := hr.c0
  have c1 := hr.c1
  clear hr
  go_wp2
  go_region
  all_goals
    go_wp2
    go_ret3
    exact ⟨o1, o2, rfl, ho1, ho2, (hb0.trans hbl).drew⟩

theorem ptrNe (w : World) (a : Addr) : (binOp .neq 45 (.pointer (some a)) (.pointer (some a))).run Try.prog w = .ok (.bool false) w := by
  obtain ⟨i, hi, _⟩ := Option.map_eq_some_iff.1 info5
  exact Lib.run_neq_ptr_same (P := Try.prog) w a Try.underlying45 hi
set_option maxHeartbeats 1000000 in
/-- sameWindow at one window: both not nil. -/
theorem same_some (x y : Addr) (n c c2 : Nat) (w : World) (hn : n ≤ 2097152) (hxy : n = 0 ∨ ∃ b o, x = ⟨b, o, none⟩ ∧ y = ⟨b, o, none⟩) :
    Calls Try.prog 11 #[.slice (some x) n c, .slice (some y) n c2] w fun e w' => e = .returned (.bool true) ∧ Below w.heap.size w w' := by
  have hnil := nilTest
  by_cases h0 : 0 < n
  · obtain ⟨b, o, rfl, rfl⟩ := hxy.resolve_left (by omega)
    have hd : decide (0 < (n : Int)) = true := by simp; omega
    have hpn := ptrNe
    go_enter Try.func11, Try.ntmps11
    go_wp2
    go_quiet (fail)
    go_wp2
    go_ret
    exact ⟨rfl, below_drewN (Below.refl _ _) _⟩
  · obtain rfl : n = 0 := by omega
    clear hxy
    go_enter Try.func11, Try.ntmps11
    go_wp2
    go_quiet (fail)
    go_wp2
    go_ret
    exact ⟨rfl, below_drewN (Below.refl _ _) _⟩

end Go.Proofs.Qxb6603941a
