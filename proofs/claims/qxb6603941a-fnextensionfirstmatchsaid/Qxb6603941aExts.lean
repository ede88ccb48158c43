/-
  A SLICE OF EXTENSIONS: the walks that only read it: zzBytes, extSize, firstIndexFromBack.
-/
import Derived.Test.Qxb6603941aReader
namespace Go.Proofs.Qxb6603941a
open Go.RowKit Go.Deep
set_option linter.unusedVariables false

/-- n extensions at a slice's address: their types T, their data slices A, L, C. -/
def Exts (w : World) (a : Option Addr) (n : Nat) (T : Nat → Int) (A : Nat → Option Addr) (L C : Nat → Nat) : Prop :=
  n = 0 ∨ ∃ b off, a = some ⟨b, off, none⟩ ∧ b < w.heap.size ∧ ∀ i, i < n → w.cell? ⟨b, off + i * 2, none⟩ = some (.int .u16 (T i)) ∧ w.cell? ⟨b, off + i * 2 + 1, none⟩ = some (.slice (A i) (L i) (C i))

theorem Exts.old {w w' : World} {a : Option Addr} {n : Nat} {T : Nat → Int} {A : Nat → Option Addr} {L C : Nat → Nat} (h : Exts w a n T A L C) (hb : Below w.heap.size w w') : Exts w' a n T A L C := by
  rcases h with h | ⟨b, off, rfl, hlt, hc⟩
  · exact .inl h
  · exact .inr ⟨b, off, rfl, Nat.lt_of_lt_of_le hlt hb.size, fun j hj => by rw [hb.cell (p := ⟨b, _, none⟩) hlt, hb.cell (p := ⟨b, _, none⟩) hlt]; exact hc j hj⟩

/-- What zzBytes answers. -/
def Zz (n : Nat) (L : Nat → Nat) (e : Ending) : Prop := e = .returned (.bool false) ∨ (e = .returned (.bool true) ∧ n ≤ 1048576 ∧ ∀ i, i < n → L i ≤ 1048576)
set_option maxHeartbeats 1000000 in
theorem zz5 (a : Option Addr) (n c : Nat) (t : Int) (T : Nat → Int) (A : Nat → Option Addr) (L C : Nat → Nat) (w : World) (hn : n ≤ 9223372036854775807) (hL : ∀ i, i < n → L i ≤ 9223372036854775807) (h : Hid (Exts w a n T A L C)) :
    Calls Try.prog 5 #[.slice a n c, .int .u16 t] w fun e w' => Zz n L e ∧ w' = w := by
  by_cases hbig : 1048576 < (n : Int)
  · go_enter Try.func5, Try.ntmps5
    go_wp2
    go_ret
    exact ⟨.inl rfl, rfl⟩
  · have HL := Lib.hid hL
    clear hL
    go_enter Try.func5, Try.ntmps5
    go_wp2
    go_loop [5, 6] (fun z i => ∃ (k : Nat) (x : Int), k ≤ n ∧ i = .int .i64 k ∧ z = .int .i64 x ∧ 0 ≤ x ∧ x ≤ 1048576 ∧ Hid (∀ j, j < k → L j ≤ 1048576)) (fun _ i => n - (intOf i).toNat)
    case atStart => exact ⟨0, n, by omega, rfl, rfl, by omega, by omega, Lib.hid (fun j hj => by omega)⟩
    case round =>
      obtain ⟨k, x, hk, rfl, rfl, hx0, hx1, HJ⟩ := hrel
      by_cases hlt : k < n
      · obtain ⟨b, off, rfl, hbs, hcs⟩ := h.out.resolve_left (by omega)
        obtain ⟨q1, q2⟩ := hcs k hlt
        have hLk := HL.out k hlt
        clear hcs
        by_cases s1 : 1048576 < (L k : Int)
        · go_wp2
          go_ret
          exact ⟨.inl rfl, rfl⟩
        · by_cases s2 : 1048576 < x + (L k : Int)
          · go_wp2
            go_ret
            exact ⟨.inl rfl, rfl⟩
          · go_wp2
            go_round
            case rel => exact ⟨k + 1, x + L k, by omega, by go_num, rfl, by omega, by omega, Lib.hid (fun j hj => by
              by_cases e : j = k
              · subst e; omega
              · exact HJ.out j (by omega))⟩
            case measure => simp [intOf]; omega
      · go_wp2
        go_ret
        exact ⟨.inr ⟨rfl, by omega, fun i hi => HJ.out i (by omega)⟩, rfl⟩

def IsInt (e : Ending) : Prop := ∃ x : Int, e = .returned (.int .i64 x)
set_option maxHeartbeats 1000000 in
theorem size6 (a : Option Addr) (n c : Nat) (T : Nat → Int) (A : Nat → Option Addr) (L C : Nat → Nat) (w : World) (hn : n ≤ 1048576) (hL : Hid (∀ i, i < n → L i ≤ 1048576)) (h : Hid (Exts w a n T A L C)) :
    Calls Try.prog 6 #[.slice a n c] w fun e w' => IsInt e ∧ w' = w := by
  go_enter Try.func6, Try.ntmps6
  go_wp2
  go_loop [3, 4] (fun z i => ∃ (k : Nat) (x : Int), k ≤ n ∧ i = .int .i64 k ∧ z = .int .i64 x ∧ 0 ≤ x ∧ x ≤ 1048576) (fun _ i => n - (intOf i).toNat)
  case atStart => exact ⟨0, 0, by omega, rfl, rfl, by omega, by omega⟩
  case round =>
    obtain ⟨k, x, hk, rfl, rfl, hx0, hx1⟩ := hrel
    by_cases hlt : k < n
    · obtain ⟨b, off, rfl, hbs, hcs⟩ := h.out.resolve_left (by omega)
      obtain ⟨q1, q2⟩ := hcs k hlt
      have hLk := hL.out k hlt
      clear hcs
      have s1 : ¬ (1048576 < (L k : Int)) := by omega
      by_cases s2 : 1048576 < x + 32 + (L k : Int)
      · go_wp2
        go_ret
        exact ⟨⟨_, rfl⟩, rfl⟩
      · go_wp2
        go_round
        case rel => exact ⟨k + 1, x + 32 + L k, by omega, by go_num, rfl, by omega, by omega⟩
        case measure => simp [intOf]; omega
    · go_wp2
      go_ret
      exact ⟨⟨_, rfl⟩, rfl⟩

/-- 'i is the least index of type t'. -/
def First (T : Nat → Int) (t : Int) (n i : Nat) : Prop := i < n ∧ T i = t ∧ ∀ j, j < i → T j ≠ t
def NoneAt (T : Nat → Int) (t : Int) (n : Nat) : Prop := ∀ j, j < n → T j ≠ t
theorem first_or (T : Nat → Int) (t : Int) : ∀ n, NoneAt T t n ∨ ∃ i, First T t n i
  | 0 => .inl (fun j hj => by omega)
  | n + 1 => by
    rcases first_or T t n with h | ⟨i, h1, h2, h3⟩
    · by_cases e : T n = t
      · exact .inr ⟨n, by omega, e, h⟩
      · exact .inl (fun j hj => by
          by_cases e2 : j = n
          · subst e2; exact e
          · exact h j (by omega))
    · exact .inr ⟨i, by omega, h2, h3⟩

/-- What firstIndexFromBack holds with the elements from k on behind it. -/
def Idx (T : Nat → Int) (t : Int) (n k : Nat) (x : Int) : Prop := (x = -1 ∧ ∀ j, k ≤ j → j < n → T j ≠ t) ∨ ∃ i : Nat, x = i ∧ k ≤ i ∧ i < n ∧ T i = t ∧ ∀ j, k ≤ j → j < i → T j ≠ t
theorem Idx.hit {T : Nat → Int} {t : Int} {n k : Nat} {x : Int} (h : Idx T t n (k + 1) x) (hk : k < n) (e : T k = t) : Idx T t n k k := .inr ⟨k, rfl, Nat.le_refl _, hk, e, fun j h1 h2 => by omega⟩
theorem Idx.miss {T : Nat → Int} {t : Int} {n k : Nat} {x : Int} (h : Idx T t n (k + 1) x) (e : T k ≠ t) : Idx T t n k x := by
  have aux : ∀ j, k ≤ j → (k + 1 ≤ j → T j ≠ t) → T j ≠ t := fun j h1 h2 => by
    by_cases e2 : j = k
    · subst e2; exact e
    · exact h2 (by omega)
  rcases h with ⟨h1, h2⟩ | ⟨i, h1, h2, h3, h4, h5⟩
  · exact .inl ⟨h1, fun j a b => aux j a (fun c => h2 j c b)⟩
  · exact .inr ⟨i, h1, by omega, h3, h4, fun j a b => aux j a (fun c => h5 j c b)⟩
theorem Idx.bounds {T : Nat → Int} {t : Int} {n k : Nat} {x : Int} (h : Idx T t n k x) : -1 ≤ x ∧ x < n + 1 := by
  rcases h with ⟨h1, h2⟩ | ⟨i, h1, h2, h3, h4, h5⟩ <;> omega
theorem Idx.none {T : Nat → Int} {t : Int} {n : Nat} {x : Int} (h : Idx T t n 0 x) (hn : NoneAt T t n) : x = -1 := by
  rcases h with ⟨h1, h2⟩ | ⟨i, h1, h2, h3, h4, h5⟩
  · exact h1
  · exact absurd h4 (hn i h3)
theorem Idx.first {T : Nat → Int} {t : Int} {n : Nat} {x : Int} {i0 : Nat} (h : Idx T t n 0 x) (hf : First T t n i0) : x = i0 := by
  rcases h with ⟨h1, h2⟩ | ⟨i, h1, h2, h3, h4, h5⟩
  · exact absurd hf.2.1 (h2 i0 (by omega) hf.1)
  · have : i = i0 := by
      by_cases a : i < i0
      · exact absurd h4 (hf.2.2 i a)
      · by_cases b : i0 < i
        · exact absurd hf.2.1 (h5 i0 (by omega) b)
        · omega
    omega

set_option maxHeartbeats 1000000 in
theorem back10 (a : Option Addr) (n c : Nat) (t : Int) (T : Nat → Int) (A : Nat → Option Addr) (L C : Nat → Nat) (w : World) (hn : n ≤ 1048576) (h : Hid (Exts w a n T A L C)) :
    Calls Try.prog 10 #[.slice a n c, .int .u16 t] w fun e w' => ∃ x : Int, e = .returned (.int .i64 x) ∧ Idx T t n 0 x ∧ w' = w := by
  go_enter Try.func10, Try.ntmps10
  go_wp2
  go_loop [5, 6] (fun z i => ∃ (k : Nat) (x : Int), k ≤ n ∧ i = .int .i64 ((k : Int) - 1) ∧ z = .int .i64 x ∧ Hid (Idx T t n k x)) (fun _ i => (intOf i + 1).toNat)
  case atStart => exact ⟨n, -1, by omega, rfl, rfl, Lib.hid (.inl ⟨rfl, fun j a b => by omega⟩)⟩
  case round =>
    obtain ⟨k, x, hk, rfl, rfl, HI⟩ := hrel
    rcases k with _ | k
    · go_wp2
      go_ret
      exact ⟨_, rfl, HI.out, rfl⟩
    · have ek : (((k + 1 : Nat) : Int) - 1) = k := by omega
      rw [ek]
      clear ek
      obtain ⟨b, off, rfl, hbs, hcs⟩ := h.out.resolve_left (by omega)
      obtain ⟨q1, q2⟩ := hcs k (by omega)
      clear hcs
      by_cases e : T k = t
      · have HE := Lib.hid (HI.out.hit (by omega) e)
        have e2 : (T k == t) = true := by simp [e]
        clear e
        go_wp2
        go_round
        case rel => exact ⟨k, k, by omega, rfl, rfl, HE⟩
        case measure => simp [intOf]
      · have HE := Lib.hid (HI.out.miss e)
        have e2 : (T k == t) = false := by simp [e]
        clear e
        go_wp2
        go_round
        case rel => exact ⟨k, x, by omega, rfl, rfl, HE⟩
        case measure => simp [intOf]

end Go.Proofs.Qxb6603941a
