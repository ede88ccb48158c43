/-
  extension, ZZExtensionB1, AND THE LAW FnExtensionFirstMatch.
-/
import Derived.Test.Qxb6603941aClone
namespace Go.Proofs.Qxb6603941a
open Go.RowKit Go.Deep
set_option linter.unusedVariables false

set_option maxHeartbeats 2000000 in
theorem ext_none (a : Option Addr) (n c : Nat) (t : Int) (T : Nat → Int) (A : Nat → Option Addr) (L C : Nat → Nat) (w : World) (hn : n ≤ 1048576) (h : Hid (Exts w a n T A L C)) (hno : Hid (NoneAt T t n)) :
    Calls Try.prog 16 #[.slice a n c, .int .u16 t] w fun e w' => e = .returned (.tuple #[.slice none 0 0, .bool false]) ∧ Below w.heap.size w w' := by
  go_enter Try.func16, Try.ntmps16
  go_wp2
  go_loopw [10] (fun i wr => ∃ k : Nat, k ≤ n ∧ i = .int .i64 k ∧ Below w.heap.size w wr) (fun i _ => n - (intOf i).toNat)
  case atStart => exact ⟨0, by omega, rfl, Below.refl _ _⟩
  case round =>
    obtain ⟨k, hk, rfl, hbl⟩ := hrel
    by_cases hlt : k < n
    · obtain ⟨b, off, rfl, hbs, hcs⟩ := h.out.resolve_left (by omega)
      obtain ⟨q1, q2⟩ := hcs k hlt
      have g1 : wr.cell? ⟨b, off + k * 2, none⟩ = some (.int .u16 (T k)) := by rw [hbl.cell (p := ⟨b, _, none⟩) hbs]; exact q1
      have g2 : wr.cell? ⟨b, off + k * 2 + 1, none⟩ = some (.slice (A k) (L k) (C k)) := by rw [hbl.cell (p := ⟨b, _, none⟩) hbs]; exact q2
      have e2 : (T k == t) = false := by simpa using hno.out k hlt
      clear q1 q2 hcs
      go_wp2
      go_roundw
      case rel => exact ⟨k + 1, by omega, by go_num, hbl.alloc hbl.size _⟩
      case measure => simp [intOf]; omega
    · go_wp2
      go_ret2
      exact ⟨rfl, hbl⟩

set_option maxHeartbeats 2000000 in
theorem ext_first (a : Option Addr) (n c : Nat) (t : Int) (T : Nat → Int) (A : Nat → Option Addr) (L C : Nat → Nat) (w : World) (hn : n ≤ 1048576) (h : Hid (Exts w a n T A L C)) (i0 : Nat) (hf : Hid (First T t n i0)) :
    Calls Try.prog 16 #[.slice a n c, .int .u16 t] w fun e w' => e = .returned (.tuple #[.slice (A i0) (L i0) (C i0), .bool true]) ∧ Below w.heap.size w w' := by
  have hi0 := hf.out.1
  obtain ⟨b, off, rfl, hbs, hcs0⟩ := h.out.resolve_left (by omega)
  have hcs := Lib.hid hcs0
  clear hcs0
  go_enter Try.func16, Try.ntmps16
  go_wp2
  go_loopw [10] (fun i wr => ∃ k : Nat, k ≤ i0 ∧ i = .int .i64 k ∧ Below w.heap.size w wr) (fun i _ => n - (intOf i).toNat)
  case atStart => exact ⟨0, by omega, rfl, Below.refl _ _⟩
  case round =>
    obtain ⟨k, hk, rfl, hbl⟩ := hrel
    have hlt : k < n := by omega
    obtain ⟨q1, q2⟩ := hcs.out k hlt
    have g1 : wr.cell? ⟨b, off + k * 2, none⟩ = some (.int .u16 (T k)) := by rw [hbl.cell (p := ⟨b, _, none⟩) hbs]; exact q1
    have g2 : wr.cell? ⟨b, off + k * 2 + 1, none⟩ = some (.slice (A k) (L k) (C k)) := by rw [hbl.cell (p := ⟨b, _, none⟩) hbs]; exact q2
    clear q1 q2
    by_cases he : k = i0
    · subst he
      have e2 : (T k == t) = true := by simpa using hf.out.2.1
      go_wp2
      go_ret2
      exact ⟨rfl, hbl.alloc hbl.size _⟩
    · have e2 : (T k == t) = false := by simpa using hf.out.2.2 k (by omega)
      go_wp2
      go_roundw
      case rel => exact ⟨k + 1, by omega, by go_num, hbl.alloc hbl.size _⟩
      case measure => simp [intOf]; omega

set_option maxHeartbeats 400000 in
theorem zzext_none (a : Option Addr) (n c : Nat) (t : Int) (T : Nat → Int) (A : Nat → Option Addr) (L C : Nat → Nat) (w : World) (hn : n ≤ 1048576) (h : Hid (Exts w a n T A L C)) (hno : Hid (NoneAt T t n)) :
    Calls Try.prog 8 #[.slice a n c, .int .u16 t] w fun e w' => e = .returned (.tuple #[.slice none 0 0, .bool false]) ∧ Below w.heap.size w w' := by
  go_enter Try.func8, Try.ntmps8
  go_wp2_with (go_at_call 16; refine (ext_none _ _ _ _ T A L C _ hn h hno).mono ?_; rintro e w' ⟨rfl, hb⟩)
  go_ret2
  exact ⟨rfl, hb⟩
set_option maxHeartbeats 400000 in
theorem zzext_first (a : Option Addr) (n c : Nat) (t : Int) (T : Nat → Int) (A : Nat → Option Addr) (L C : Nat → Nat) (w : World) (hn : n ≤ 1048576) (h : Hid (Exts w a n T A L C)) (i0 : Nat) (hf : Hid (First T t n i0)) :
    Calls Try.prog 8 #[.slice a n c, .int .u16 t] w fun e w' => e = .returned (.tuple #[.slice (A i0) (L i0) (C i0), .bool true]) ∧ Below w.heap.size w w' := by
  go_enter Try.func8, Try.ntmps8
  go_wp2_with (go_at_call 16; refine (ext_first _ _ _ _ T A L C _ hn h i0 hf).mono ?_; rintro e w' ⟨rfl, hb⟩)
  go_ret2
  exact ⟨rfl, hb⟩

set_option maxHeartbeats 1000000 in
/-- sameWindow at one and the same slice. -/
theorem same_any (a : Option Addr) (n c : Nat) (w : World) (hn : n ≤ 2097152) (h : Plain a n) :
    Calls Try.prog 11 #[.slice a n c, .slice a n c] w fun e w' => e = .returned (.bool true) ∧ Below w.heap.size w w' := by
  cases a with
  | some x =>
    refine same_some x x n c c w hn ?_
    rcases h with h | ⟨b, o, e⟩
    · exact .inl h
    · injection e with e
      exact .inr ⟨b, o, e, e⟩
  | none =>
    obtain rfl : n = 0 := by
      rcases h with h | ⟨b, o, e⟩
      · exact h
      · cases e
    have hnil := nilTest
    go_enter Try.func11, Try.ntmps11
    go_wp2
    go_quiet (fail)
    go_wp2
    go_ret
    exact ⟨rfl, below_drewN (Below.refl _ _) _⟩

set_option maxHeartbeats 2000000 in
theorem law3 (a : Option Addr) (n c : Nat) (t : Int) (T : Nat → Int) (A : Nat → Option Addr) (L C : Nat → Nat) (F : Nat → Nat → Int) (w : World) (hn : n ≤ 9223372036854775807) (hL : ∀ i, i < n → L i ≤ 9223372036854775807)
    (h : Hid (Exts w a n T A L C)) (hF : Hid (∀ i, i < n → Bytes w (A i) (L i) (F i))) :
    Calls Try.prog 3 #[.slice a n c, .int .u16 t] w fun e w' => e = .returned (.bool true) ∧ Below w.heap.size w w' := by
  have hz := zz5 a n c t T A L C w hn hL h
  clear hL
  go_enter Try.func3, Try.ntmps3
  go_wp2_with fail
  refine hz.mono ?_
  rintro e w' ⟨hZ, rfl⟩
  clear hz
  rcases hZ with rfl | ⟨rfl, hn2, hL2⟩
  · go_wp2
    go_ret
    exact ⟨rfl, Below.refl _ _⟩
  · have HL := Lib.hid hL2
    clear hL2
    go_wp2_with fail
    refine (size6 a n c T A L C _ hn2 HL h).mono ?_
    rintro e w' ⟨⟨x, rfl⟩, rfl⟩
    by_cases hx : 1048576 < x
    · go_wp2
      go_ret
      exact ⟨rfl, Below.refl _ _⟩
    · go_wp2_with fail
      refine (cloneExts_any a n c T A L C F _ hn2 HL.out h.out hF.out).mono ?_
      rintro e w1 ⟨a1, A1, rfl, hE1, hP1, hb1⟩
      have E1 := Lib.hid hE1
      have P1 := Lib.hid hP1
      clear hE1 hP1
      go_wp2_with fail
      refine (toHS_any a1 n n T A1 L L _ hn2 E1.out).mono ?_
      rintro e w2 ⟨a2, rfl, hE2, hb2⟩
      have E2 := Lib.hid hE2
      clear hE2
      rcases first_or T t n with hno | ⟨i0, hf⟩
      · have HN := Lib.hid hno
        clear hno
        go_wp2_with fail
        refine (zzext_none a2 n n t T A1 L L _ hn2 E2 HN).mono ?_
        rintro e w3 ⟨rfl, hb3⟩
        have hb13 := hb2.trans (hb3.mono hb2.size)
        go_wp2_with fail
        refine (back10 a1 n n t T A1 L L _ hn2 (Lib.hid (E1.out.old hb13))).mono ?_
        rintro e w4 ⟨y, rfl, hI, rfl⟩
        obtain rfl := hI.none HN.out
        have hnil := nilTest
        go_wp2
        go_ret
        exact ⟨rfl, hb1.trans (hb13.mono hb1.size)⟩
      · have HF0 := Lib.hid hf
        clear hf
        go_wp2_with fail
        refine (zzext_first a2 n n t T A1 L L _ hn2 E2 i0 HF0).mono ?_
        rintro e w3 ⟨rfl, hb3⟩
        have hb13 := hb2.trans (hb3.mono hb2.size)
        have E3 := Lib.hid (E1.out.old hb13)
        go_wp2_with fail
        refine (back10 a1 n n t T A1 L L _ hn2 E3).mono ?_
        rintro e w4 ⟨y, rfl, hI, rfl⟩
        obtain rfl := hI.first HF0.out
        have hi0 := HF0.out.1
        obtain ⟨b, off, rfl, hbs, hcs⟩ := E3.out.resolve_left (by omega)
        obtain ⟨q1, q2⟩ := hcs i0 hi0
        have hPl := P1.out i0 hi0
        have hLl := HL.out i0 hi0
        clear hcs q1
        go_wp2_with fail
        refine (same_any _ _ _ _ (by omega) hPl).mono ?_
        rintro e w5 ⟨rfl, hb5⟩
        go_wp2
        go_ret
        have hb14 := hb1.trans (hb13.mono hb1.size)
        exact ⟨rfl, hb14.trans (hb5.mono hb14.size)⟩

end Go.Proofs.Qxb6603941a
