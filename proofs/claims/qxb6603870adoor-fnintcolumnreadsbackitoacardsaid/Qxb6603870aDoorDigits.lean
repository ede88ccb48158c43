/-
  THE WALK OF decimalDigitsB1: the decimal digits of a uint64, most significant first, in a new slice.
-/
import Derived.Test.Qxb6603870aDoorProg
import Derived.WalkKit
import Derived.WalkSpells
import Derived.WalkLawsBesides
import Derived.Lib.Hide
import Derived.Deep.OwnRows
import Derived.Outline
namespace Go.Proofs.Qxb6603870aDoor
open Go.RowKit Go.Deep
set_option linter.unusedVariables false

def upd (f : Nat → Int) (i : Nat) (v : Int) : Nat → Int := fun j => if j = i then v else f j
theorem upd_same (f : Nat → Int) (i : Nat) (v : Int) : upd f i v i = v := by simp [upd]
theorem upd_other (f : Nat → Int) (i j : Nat) (v : Int) (h : j ≠ i) : upd f i v j = f j := by simp [upd, h]
/-- A row of n bytes in block b. -/
def Row (w : World) (b n : Nat) (f : Nat → Int) : Prop := ∀ j, j < n → w.cell? ⟨b, j, none⟩ = some (.int .u8 (f j)) ∧ w.frozen? ⟨b, j, none⟩ = false

theorem Row.set {w : World} {b n : Nat} {f : Nat → Int} (h : Row w b n f) (i : Nat) (hi : i < n) (v : Int) : Row (w.setCell ⟨b, i, none⟩ (.int .u8 v)) b n (upd f i v) := by
  intro j hj
  refine ⟨?_, by rw [World.frozen?_setCell]; exact (h j hj).2⟩
  by_cases e : j = i
  · subst e
    rw [World.cell?_setCell_same _ _ _ (h j hj).1, upd_same]
  · rw [World.cell?_setCell_other _ _ _ _ (by intro e2; injection e2 with _ e3; exact e e3.symm), upd_other _ _ _ _ e]
    exact (h j hj).1
theorem Row.setOther {w : World} {b c n i : Nat} {f : Nat → Int} (h : Row w b n f) (hbc : c ≠ b) (v : Value) : Row (w.setCell ⟨c, i, none⟩ v) b n f := by
  intro j hj
  refine ⟨?_, by rw [World.frozen?_setCell]; exact (h j hj).2⟩
  rw [World.cell?_setCell_other _ _ _ _ (by intro e2; injection e2 with e3; exact hbc e3)]
  exact (h j hj).1
theorem Row.old {B : Nat} {w w' : World} {b n : Nat} {f : Nat → Int} (h : Row w b n f) (hB : Below B w w') (hb : b < B) : Row w' b n f := by
  intro j hj
  rw [hB.cell (p := ⟨b, j, none⟩) hb, hB.frozen (p := ⟨b, j, none⟩) hb]
  exact h j hj

theorem info5 : (Tryd.prog.info? 5).map (fun i => (i.zero, i.size, i.bytes)) = some (some (.int .u8 0), 1, 1) := by kernel_rfl

/-- What the first loop has written: the digits of U, least first. -/
def Low (U k : Nat) (x : Int) (f : Nat → Int) : Prop := x = ((U / 10 ^ k : Nat) : Int) ∧ (∀ j, j < k → f j = ((48 + U / 10 ^ j % 10 : Nat) : Int)) ∧ (k = 0 ∨ U / 10 ^ k ≠ 0)
theorem Low.step {U k : Nat} {x : Int} {f : Nat → Int} (h : Low U k x f) : x / 10 = ((U / 10 ^ (k + 1) : Nat) : Int) ∧ (∀ j, j < k + 1 → upd f k (48 + x % 10) j = ((48 + U / 10 ^ j % 10 : Nat) : Int)) := by
  obtain ⟨h1, h2, h3⟩ := h
  refine ⟨?_, fun j hj => ?_⟩
  · rw [h1, Nat.pow_succ, ← Nat.div_div_eq_div_mul]
    omega
  · by_cases e : j = k
    · subst e
      rw [upd_same, h1]
      omega
    · rw [upd_other _ _ _ _ e]
      exact h2 j (by omega)
theorem Low.lt {U k : Nat} {x : Int} {f : Nat → Int} (hU : U < 18446744073709551616) (h : Low U k x f) : k < 20 := by
  obtain ⟨h1, h2, h3⟩ := h
  rcases h3 with h3 | h3
  · omega
  · by_cases hk : k < 20
    · exact hk
    · exfalso
      apply h3
      apply Nat.div_eq_of_lt
      have : 10 ^ 20 ≤ 10 ^ k := Nat.pow_le_pow_right (by omega) (by omega)
      have e : (10 : Nat) ^ 20 = 100000000000000000000 := by decide
      omega

theorem row_start (w : World) : Row (w.alloc (.cells #[.int .u8 0, .int .u8 0, .int .u8 0, .int .u8 0, .int .u8 0, .int .u8 0, .int .u8 0, .int .u8 0, .int .u8 0, .int .u8 0, .int .u8 0, .int .u8 0, .int .u8 0, .int .u8 0, .int .u8 0, .int .u8 0, .int .u8 0, .int .u8 0, .int .u8 0, .int .u8 0] 47)) w.heap.size 20 (fun _ => 0) := by
  intro j hj
  refine ⟨?_, by simp [go_sem]⟩
  have h : j = 0 ∨ j = 1 ∨ j = 2 ∨ j = 3 ∨ j = 4 ∨ j = 5 ∨ j = 6 ∨ j = 7 ∨ j = 8 ∨ j = 9 ∨ j = 10 ∨ j = 11 ∨ j = 12 ∨ j = 13 ∨ j = 14 ∨ j = 15 ∨ j = 16 ∨ j = 17 ∨ j = 18 ∨ j = 19 := by omega
  rcases h with rfl | rfl | rfl | rfl | rfl | rfl | rfl | rfl | rfl | rfl | rfl | rfl | rfl | rfl | rfl | rfl | rfl | rfl | rfl | rfl <;> simp [go_sem]

def dgB (d : Nat) : UInt8 := UInt8.ofNat (48 + d)
theorem dgB_toNat (d : Nat) (h : d < 10) : (dgB d).toNat = 48 + d := by
  unfold dgB
  rw [UInt8.toNat_ofNat']
  omega
/-- l IS THE DECIMAL NUMERAL OF U. -/
def IsDec (U : Nat) (l : List UInt8) : Prop :=
  l.length ≤ 20 ∧ 1 ≤ l.length ∧ U / 10 ^ l.length = 0 ∧ (l.length = 1 ∨ U / 10 ^ (l.length - 1) ≠ 0) ∧ ∀ j (h : j < l.length), l[j] = dgB (U / 10 ^ (l.length - 1 - j) % 10)
def decL (U k : Nat) : List UInt8 := (List.range (k + 1)).map (fun j => dgB (U / 10 ^ (k - j) % 10))
theorem decL_length (U k : Nat) : (decL U k).length = k + 1 := by simp [decL]
theorem decL_get (U k j : Nat) (h : j < (decL U k).length) : (decL U k)[j] = dgB (U / 10 ^ (k - j) % 10) := by simp [decL]
theorem isDec_decL {U k : Nat} (hk : k < 20) (h1 : U / 10 ^ (k + 1) = 0) (h2 : k = 0 ∨ U / 10 ^ k ≠ 0) : IsDec U (decL U k) := by
  have hl := decL_length U k
  refine ⟨by omega, by omega, by rw [hl]; exact h1, by rw [hl]; exact h2.elim (fun h => Or.inl (by omega)) (fun h => Or.inr h), fun j h => ?_⟩
  rw [decL_get, hl]
  rfl

set_option maxHeartbeats 1000000 in
theorem digits_any (U : Nat) (hU : U < 18446744073709551616) (w : World) (x0 : Int) (hx0 : Hid (x0 = U)) (hx1 : 0 ≤ x0) :
    Calls Tryd.prog 22 #[.int .u64 x0] w fun e w' => ∃ (C : Nat) (l : List UInt8), e = .returned (.slice (some ⟨C, 0, none⟩) l.length l.length) ∧ (∀ j (h : j < l.length), w'.cell? ⟨C, j, none⟩ = some (.int .u8 (l[j].toNat : Int))) ∧ IsDec U l ∧ Below w.heap.size w w' := by
  have HU := Lib.hid hU
  clear hU
  go_enter Tryd.func22, Tryd.ntmps22
  go_wp2
  go_loopw [0, 4] (fun u n wr => ∃ (k : Nat) (x : Int) (f : Nat → Int), n = .int .i64 k ∧ u = .int .u64 x ∧ 0 ≤ x ∧ Hid (Low U k x f) ∧ Hid (Row wr w.heap.size 20 f) ∧ Below w.heap.size w wr ∧ w.heap.size < wr.heap.size) (fun _ n _ => 20 - (intOf n).toNat)
  case atStart => exact ⟨0, x0, fun _ => 0, rfl, rfl, hx1, Lib.hid ⟨by rw [hx0.out]; simp, fun j hj => by omega, Or.inl rfl⟩, Lib.hid (row_start w), (Below.refl _ _).alloc (Nat.le_refl _) _, by simp⟩
  case round =>
    obtain ⟨wo, hwo⟩ : ∃ wo, wo = wr := ⟨_, rfl⟩
    subst hwo
    obtain ⟨k, x, f, rfl, rfl, hx, HL, HR, hb, hz⟩ := hrel
    have hk := HL.out.lt HU.out
    obtain ⟨hc, hf⟩ := HR.out k hk
    have hxu : x ≤ 18446744073709551615 := by
      have h1 := HL.out.1
      have h2 := Nat.div_le_self U (10 ^ k)
      have h3 := HU.out
      omega
    by_cases hx10 : x < 10
    · have hq : (x / 10 == 0) = true := by simp; omega
      have ec : ((k + 1 : Nat) : Int) = (k : Int) + 1 := by omega
      have hmk := fun w1 => run_make_row' (P := Tryd.prog) 22 5 (.int .u8 0) 1 Tryd.underlying22 info5 rfl .i64 .i64 (k + 1) (by omega) (by omega) w1
      rw [ec] at hmk
      clear ec
      go_wp2
      have HF := Lib.hid (HL.out.step)
      have HRS := Lib.hid (HR.out.set k hk (48 + x % 10))
      have HK0 := Lib.hid HL.out.2.2
      generalize upd f k (48 + x % 10) = F at HF HRS
      clear HR HL hc hf hmk
      have hbs : Below w.heap.size w ((wo.setCell ⟨w.heap.size, k, none⟩ (.int .u8 (48 + x % 10))).alloc (.cells (madeCells #[.int .u8 0] (k + 1)) 5)) := (hb.setCell (Nat.le_refl _) _).alloc (by simp; omega) _
      have hR1 : Row ((wo.setCell ⟨w.heap.size, k, none⟩ (.int .u8 (48 + x % 10))).alloc (.cells (madeCells #[.int .u8 0] (k + 1)) 5)) w.heap.size 20 F := HRS.out.old (Below.alloc (Below.refl _ _) (Nat.le_refl _) _) (by simpa using hz)
      have hR2 : Row ((wo.setCell ⟨w.heap.size, k, none⟩ (.int .u8 (48 + x % 10))).alloc (.cells (madeCells #[.int .u8 0] (k + 1)) 5)) wo.heap.size (k + 1) (fun _ => 0) := by
        have h := World.rowIs_made (wo.setCell ⟨w.heap.size, k, none⟩ (.int .u8 (48 + x % 10))) (.int .u8 0) (k + 1) 5
        rw [World.size_setCell] at h
        exact fun j hj => ⟨h.cell hj, h.frozen j⟩
      have hz2 : wo.heap.size < ((wo.setCell ⟨w.heap.size, k, none⟩ (.int .u8 (48 + x % 10))).alloc (.cells (madeCells #[.int .u8 0] (k + 1)) 5)).heap.size := by simp
      have HA := Lib.hid (And.intro hbs (And.intro hR1 (And.intro hR2 hz2)))
      clear hbs hR1 hR2 hz2 HRS
      go_loopw [6] (fun i w2 => ∃ (m : Nat) (g : Nat → Int), m ≤ k + 1 ∧ i = .int .i64 m ∧ Hid (Row w2 w.heap.size 20 F) ∧ Hid (Row w2 wo.heap.size (k + 1) g) ∧ Hid (∀ j, j < m → g j = F (k - j)) ∧ Below w.heap.size w w2 ∧ wo.heap.size < w2.heap.size) (fun i _ => k + 1 - (intOf i).toNat)
      case atStart => exact ⟨0, fun _ => 0, by omega, rfl, Lib.hid HA.out.2.1, Lib.hid HA.out.2.2.1, Lib.hid (fun j hj => by omega), HA.out.1, HA.out.2.2.2⟩
      case round =>
        obtain ⟨m, g, hm, rfl, H1, H2, H3, hb2, hz2⟩ := hrel
        by_cases hlt : m < k + 1
        · obtain ⟨c1, f1⟩ := H1.out (k - m) (by omega)
          obtain ⟨c2, f2⟩ := H2.out m hlt
          clear HA
          go_wp2
          go_roundw
          case rel =>
            refine ⟨m + 1, upd g m (F (k - m)), by omega, by go_num, Lib.hid (H1.out.setOther (by omega) _), Lib.hid (H2.out.set m hlt _), Lib.hid (fun j hj => ?_), hb2.setCell (show w.heap.size ≤ wo.heap.size by omega) _, by simpa using hz2⟩
            by_cases e : j = m
            · subst e
              rw [upd_same]
            · rw [upd_other _ _ _ _ e]
              exact H3.out j (by omega)
          case measure => simp [intOf]; omega
        · clear HA
          obtain rfl : k + 1 = m := by omega
          go_wp2
          go_ret
          have hx0' : U / 10 ^ (k + 1) = 0 := by have := HF.out.1; omega
          have hl := decL_length U k
          refine ⟨wo.heap.size, decL U k, by rw [hl]; rfl, fun j hj => ?_, isDec_decL hk hx0' HK0.out, hb2⟩
          rw [hl] at hj
          have h1 := (H2.out j hj).1
          have h2 := H3.out j hj
          have h3 := HF.out.2 (k - j) (by omega)
          rw [h1, h2, h3, decL_get, dgB_toNat _ (by omega)]
    · have hq : (x / 10 == 0) = false := by simp; omega
      go_wp2
      go_roundw
      case rel => exact ⟨k + 1, x / 10, _, by go_num, rfl, by omega, Lib.hid ⟨HL.out.step.1, HL.out.step.2, Or.inr (by have := HL.out.step.1; omega)⟩, Lib.hid (HR.out.set k hk _), hb.setCell (Nat.le_refl _) _, by simpa using hz⟩
      case measure => simp [intOf]; omega

end Go.Proofs.Qxb6603870aDoor
