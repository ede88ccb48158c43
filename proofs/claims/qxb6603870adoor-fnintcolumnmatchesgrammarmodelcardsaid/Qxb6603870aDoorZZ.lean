/-
  (*jsonScanner).intColumn AND ZZintColumn, WHOLE.
-/
import Derived.Test.Qxb6603870aDoorBoth
namespace Go.Proofs.Qxb6603870aDoor
open Go.RowKit
set_option linter.unusedVariables false

set_option maxHeartbeats 400000 in
theorem ic_no (b c : Nat) (s p : ByteArray) (w : World) (hs : s.size ≤ 4194304) (hp : p.size ≤ 4194304) (h : pre s p = false) (hc : w.cell? ⟨b, 0, none⟩ = some (.string s)) :
    Calls Tryd.prog 24 #[.pointer (some ⟨b, 0, none⟩), .string p, .pointer (some ⟨c, 0, none⟩)] w fun e w' => e = .returned (.bool false) ∧ w' = w := by
  have H := Lib.hid h
  clear h
  go_enter Tryd.func24, Tryd.ntmps24
  go_wp2_with (go_at_call 27; refine (take_no _ s _ _ (by omega) (by omega) H hc).mono ?_; rintro e w' ⟨rfl, rfl⟩)
  go_ret
  exact ⟨rfl, rfl⟩

theorem tail_le2 {s p : ByteArray} (hs : s.size ≤ 4194304) : (s.extract p.size s.size).size ≤ 4194304 := by
  rw [ByteArray.size_extract]
  omega
theorem gRange : Tryd.prog.globalNamed "strconv.ErrRange" = some 3 := by kernel_rfl

theorem column_any (b c B : Nat) (s p : ByteArray) (n : Int) (w : World) (hs : s.size ≤ 4194304) (hp : p.size ≤ 4194304) (hc : w.cell? ⟨b, 0, none⟩ = some (.string s)) (hcn : w.cell? ⟨c, 0, none⟩ = some (.int .i64 n))
    (hfb : w.frozen? ⟨b, 0, none⟩ = false) (hfc : w.frozen? ⟨c, 0, none⟩ = false) (hBb : B ≤ b) (hBc : B ≤ c) (hBs : B ≤ w.heap.size) (hbs : b < w.heap.size) (hcs : c < w.heap.size) (hbc : b ≠ c) (hgB : 3 < B)
    (tp : TypeId) (pv : Value) (hvar : w.var? Tryd.prog "strconv.ErrRange" = some #[.iface tp pv]) :
    Calls Tryd.prog 24 #[.pointer (some ⟨b, 0, none⟩), .string p, .pointer (some ⟨c, 0, none⟩)] w fun e w' => e = .returned (.bool (fullOk s p)) ∧ w'.cell? ⟨b, 0, none⟩ = some (.string (fullRest s p)) ∧ w'.cell? ⟨c, 0, none⟩ = some (.int .i64 (fullNum s p n)) ∧ Below B w w' := by
  unfold fullOk fullRest fullNum
  cases h : pre s p
  · exact (ic_no b c s p w hs hp h hc).mono fun e w' ⟨he, hw⟩ => by subst hw; exact ⟨he, hc, hcn, Below.refl _ _⟩
  · have hb : Below B w (w.setCell ⟨b, 0, none⟩ (.string (s.extract p.size s.size))) := (Below.refl _ _).setCell hBb _
    have n1 : (⟨b, 0, none⟩ : Addr) ≠ ⟨c, 0, none⟩ := by intro e; injection e with e1; exact hbc e1
    refine (column_col b p (s.extract p.size s.size) n w (w.setCell ⟨b, 0, none⟩ (.string (s.extract p.size s.size))) c (tail_le2 hs) (take_yes b s p w (by omega) (by omega) (Lib.hid h) hc hfb)
      (World.cell?_setCell_same _ _ _ hc) tp pv (var?_below hb gRange hgB hvar) B hBb hBc (by simpa using hBs) (by simpa using hbs) (by simpa using hcs) hbc
      (by rw [World.cell?_setCell_other _ _ _ _ n1]; exact hcn) (by simpa using hfb) (by simpa using hfc)).mono fun e w' ⟨he, h1, h2, h3⟩ => ?_
    exact ⟨by simpa using he, by simpa using h1, by simpa using h2, hb.trans h3⟩

set_option maxHeartbeats 1000000 in
/-- ZZintColumn, WHOLE. -/
theorem zz_any (s p : ByteArray) (n : Int) (w : World) (hs : s.size ≤ 4194304) (hp : p.size ≤ 4194304) (hg : 3 < w.heap.size)
    (tp : TypeId) (pv : Value) (hvar : w.var? Tryd.prog "strconv.ErrRange" = some #[.iface tp pv]) :
    Calls Tryd.prog 16 #[.string s, .string p, .int .i64 n] w fun e w' => e = fullTri s p n ∧ Below w.heap.size w w' := by
  have hB0 : Below w.heap.size w ((w.alloc (.cells #[.int .i64 n] 3)).alloc (.cells #[.string s] 42)) := ((Below.refl _ _).alloc (Nat.le_refl _) _).alloc (by simp) _
  have hvar2 := var?_below hB0 gRange hg hvar
  have hcall := column_any (w.heap.size + 1) w.heap.size w.heap.size s p n ((w.alloc (.cells #[.int .i64 n] 3)).alloc (.cells #[.string s] 42)) hs hp (by simp [go_sem]) (by simp [go_sem]) (by simp [go_sem]) (by simp [go_sem]) (by omega) (by omega) (by simp; omega) (by simp) (by simp; omega) (by omega) hg tp pv hvar2
  go_enter Tryd.func16, Tryd.ntmps16
  go_wp2_with fail
  refine hcall.mono ?_
  rintro e w1 ⟨rfl, h1, h2, h3⟩
  clear hcall hvar2
  go_wp2
  go_region
  all_goals
    go_wp2
    go_ret3
    exact ⟨rfl, (hB0.trans h3).drew⟩

set_option maxHeartbeats 400000 in
theorem zzBytes_yes (s p : ByteArray) (n : Int) (w : World) (h : s.size + p.size ≤ 1048576) :
    Calls Tryd.prog 15 #[.string s, .string p, .int .i64 n] w fun e w' => e = .returned (.bool true) ∧ w' = w := by
  have h1 : ¬ (1048576 < (s.size : Int)) := by omega
  have h2 : ¬ (1048576 < (p.size : Int)) := by omega
  have h3 : ¬ (1048576 < (s.size : Int) + p.size) := by omega
  go_enter Tryd.func15, Tryd.ntmps15
  go_wp2
  go_ret
  exact ⟨rfl, rfl⟩
set_option maxHeartbeats 400000 in
theorem zzBytes_no (s p : ByteArray) (n : Int) (w : World) (hs : s.size ≤ 9223372036854775807) (hp : p.size ≤ 9223372036854775807) (h : 1048576 < s.size + p.size) :
    Calls Tryd.prog 15 #[.string s, .string p, .int .i64 n] w fun e w' => e = .returned (.bool false) ∧ w' = w := by
  by_cases h1 : 1048576 < (s.size : Int)
  · go_enter Tryd.func15, Tryd.ntmps15
    go_wp2
    go_ret
    exact ⟨rfl, rfl⟩
  · by_cases h2 : 1048576 < (p.size : Int)
    · go_enter Tryd.func15, Tryd.ntmps15
      go_wp2
      go_ret
      exact ⟨rfl, rfl⟩
    · have h3 : 1048576 < (s.size : Int) + p.size := by omega
      go_enter Tryd.func15, Tryd.ntmps15
      go_wp2
      go_ret
      exact ⟨rfl, rfl⟩

end Go.Proofs.Qxb6603870aDoor
