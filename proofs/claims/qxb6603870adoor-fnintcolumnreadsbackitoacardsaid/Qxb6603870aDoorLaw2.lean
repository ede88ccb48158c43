/-
  FnIntColumnReadsBackItoa: THE LAW's WALK.
-/
import Derived.Test.Qxb6603870aDoorZZ
import Derived.Test.Qxb6603870aDoorItoa
import Derived.Test.Qxb6603870aDoorBack
namespace Go.Proofs.Qxb6603870aDoor
open Go.RowKit
set_option linter.unusedVariables false

set_option maxHeartbeats 400000 in
theorem zzBytes2_yes (s p : ByteArray) (x n : Int) (w : World) (h : s.size + p.size ≤ 1048576) :
    Calls Tryd.prog 18 #[.string s, .int .i64 x, .string p, .int .i64 n] w fun e w' => e = .returned (.bool true) ∧ w' = w := by
  have h1 : ¬ (1048576 < (s.size : Int)) := by omega
  have h2 : ¬ (1048576 < (p.size : Int)) := by omega
  have h3 : ¬ (1048576 < (s.size : Int) + p.size) := by omega
  go_enter Tryd.func18, Tryd.ntmps18
  go_wp2
  go_ret
  exact ⟨rfl, rfl⟩
set_option maxHeartbeats 400000 in
theorem zzBytes2_no (s p : ByteArray) (x n : Int) (w : World) (hs : s.size ≤ 9223372036854775807) (hp : p.size ≤ 9223372036854775807) (h : 1048576 < s.size + p.size) :
    Calls Tryd.prog 18 #[.string s, .int .i64 x, .string p, .int .i64 n] w fun e w' => e = .returned (.bool false) ∧ w' = w := by
  by_cases h1 : 1048576 < (s.size : Int)
  · go_enter Tryd.func18, Tryd.ntmps18
    go_wp2
    go_ret
    exact ⟨rfl, rfl⟩
  · by_cases h2 : 1048576 < (p.size : Int)
    · go_enter Tryd.func18, Tryd.ntmps18
      go_wp2
      go_ret
      exact ⟨rfl, rfl⟩
    · have h3 : 1048576 < (s.size : Int) + p.size := by omega
      go_enter Tryd.func18, Tryd.ntmps18
      go_wp2
      go_ret
      exact ⟨rfl, rfl⟩

/-- itoaIntB1, WHOLE. -/
theorem itoa_any (x : Int) (h0 : -9223372036854775808 ≤ x) (h1 : x ≤ 9223372036854775807) (w : World) :
    Calls Tryd.prog 20 #[.int .i64 x] w fun e w' => ∃ (S : ByteArray) (l : List UInt8), e = .returned (.string S) ∧ S.size ≤ 21 ∧ S.data.toList = (if x < 0 then 45 :: l else l) ∧ IsDec x.natAbs l ∧ Below w.heap.size w w' := by
  by_cases hx : x < 0
  · refine (itoa_neg x hx h0 w).mono ?_
    rintro e w' ⟨l, rfl, hD, hb⟩
    refine ⟨_, l, rfl, ?_, ?_, hD, hb⟩
    · have e1 : (⟨l.toArray⟩ : ByteArray).size = l.length := by show l.toArray.size = _; simp
      rw [ByteArray.size_append, e1]
      have := hD.1
      show 1 + l.length ≤ 21
      omega
    · rw [if_pos hx]
      simp
  · refine (itoa_pos x (by omega) h1 w).mono ?_
    rintro e w' ⟨l, rfl, hD, hb⟩
    refine ⟨_, l, rfl, ?_, ?_, hD, hb⟩
    · have e1 : (⟨l.toArray⟩ : ByteArray).size = l.length := by show l.toArray.size = _; simp
      rw [e1]
      have := hD.1
      omega
    · rw [if_neg hx]

theorem zz_back (name S tail : ByteArray) (x n : Int) (l : List UInt8) (hS : S.data.toList = if x < 0 then 45 :: l else l) (hD : IsDec x.natAbs l) (h0 : -9223372036854775808 ≤ x) (h1 : x ≤ 9223372036854775807)
    (ht : ∀ h : 0 < tail.size, isDg tail[0] = false) (w : World) (hs : (name ++ S ++ tail).size ≤ 4194304) (hp : name.size ≤ 4194304) (hg : 3 < w.heap.size)
    (tp : TypeId) (pv : Value) (hvar : w.var? Tryd.prog "strconv.ErrRange" = some #[.iface tp pv]) :
    Calls Tryd.prog 16 #[.string (name ++ S ++ tail), .string name, .int .i64 n] w fun e w' => e = .returned (.tuple #[.bool true, .string tail, .int .i64 x]) ∧ Below w.heap.size w w' := by
  have hb := back_full name S tail x n l hS hD h0 h1 ht
  have hz := zz_any (name ++ S ++ tail) name n w hs hp hg tp pv hvar
  unfold fullTri tri at hz
  rw [hb.1, hb.2.1, hb.2.2] at hz
  exact hz

set_option maxHeartbeats 1000000 in
theorem law2 (name : ByteArray) (x : Int) (tail : ByteArray) (n : Int) (w : World) (hs : name.size ≤ 9223372036854775807) (hp : tail.size ≤ 9223372036854775807) (h0 : -9223372036854775808 ≤ x) (h1 : x ≤ 9223372036854775807) (hg : 3 < w.heap.size)
    (tp : TypeId) (pv : Value) (hvar : w.var? Tryd.prog "strconv.ErrRange" = some #[.iface tp pv]) :
    Calls Tryd.prog 6 #[.string name, .int .i64 x, .string tail, .int .i64 n] w fun e w' => e = .returned (.bool true) ∧ Below w.heap.size w w' := by
  by_cases hbig : 1048576 < name.size + tail.size
  · clear hvar
    go_enter Tryd.func6, Tryd.ntmps6
    go_wp2_with (go_at_call 18; refine (zzBytes2_no _ _ _ _ _ hs hp hbig).mono ?_; rintro e w' ⟨rfl, rfl⟩)
    go_ret
    exact ⟨rfl, Below.refl _ _⟩
  · have h2 : ¬ (1048576 < (name.size : Int)) := by omega
    have h3 : ¬ (1048576 < (tail.size : Int)) := by omega
    have HV := Lib.hid hvar
    clear hvar
    by_cases hz : 0 < tail.size
    · have hne : ¬ (tail = ByteArray.empty) := by rintro rfl; simp at hz
      cases hd : isDg tail[0]
      · have HD := Lib.hid hd
        clear hd
        go_enter Tryd.func6, Tryd.ntmps6
        go_wp2_with fail
        refine (zzBytes2_yes _ _ _ _ _ (by omega)).mono ?_
        rintro e w' ⟨rfl, rfl⟩
        go_wp2_with fail
        refine (isDigit_no _ _ HD.out).mono ?_
        rintro e w' ⟨rfl, rfl⟩
        go_wp2_with fail
        refine (itoa_any x h0 h1 _).mono ?_
        rintro e w1 ⟨S, l, rfl, hSz, hS, hl, hb1⟩
        have HS := Lib.hid (And.intro hS hl)
        clear hS hl
        have ad1 : ∀ w : World, (Op.stringOp .add name S).run Tryd.prog w = .ok (.string (name ++ S)) w := fun w => run_string_add_sum _ _ _ (by omega)
        have ad2 : ∀ w : World, (Op.stringOp .add (name ++ S) tail).run Tryd.prog w = .ok (.string (name ++ S ++ tail)) w := fun w => run_string_add_sum _ _ _ (by rw [ByteArray.size_append]; omega)
        go_wp2_with fail
        refine (zz_back name S tail x n l HS.out.1 HS.out.2 h0 h1 (fun _ => HD.out) _ (by rw [ByteArray.size_append, ByteArray.size_append]; omega) (by omega) (by have := hb1.size; omega) tp pv (var?_below hb1 gRange hg HV.out)).mono ?_
        rintro e w2 ⟨rfl, hb2⟩
        go_wp2
        go_ret
        exact ⟨rfl, hb1.trans (hb2.mono hb1.size)⟩
      · have HD := Lib.hid hd
        clear hd
        go_enter Tryd.func6, Tryd.ntmps6
        go_wp2_with fail
        refine (zzBytes2_yes _ _ _ _ _ (by omega)).mono ?_
        rintro e w' ⟨rfl, rfl⟩
        go_wp2_with fail
        refine (isDigit_yes _ _ HD.out).mono ?_
        rintro e w' ⟨rfl, rfl⟩
        go_wp2
        go_ret
        exact ⟨rfl, Below.refl _ _⟩
    · obtain rfl : tail = ByteArray.empty := ByteArray.size_eq_zero_iff.1 (by omega)
      go_enter Tryd.func6, Tryd.ntmps6
      go_wp2_with fail
      refine (zzBytes2_yes _ _ _ _ _ (by omega)).mono ?_
      rintro e w' ⟨rfl, rfl⟩
      go_wp2_with fail
      refine (itoa_any x h0 h1 _).mono ?_
      rintro e w1 ⟨S, l, rfl, hSz, hS, hl, hb1⟩
      have HS := Lib.hid (And.intro hS hl)
      clear hS hl
      have ad1 : ∀ w : World, (Op.stringOp .add name S).run Tryd.prog w = .ok (.string (name ++ S)) w := fun w => run_string_add_sum _ _ _ (by omega)
      have ad2 : ∀ w : World, (Op.stringOp .add (name ++ S) ByteArray.empty).run Tryd.prog w = .ok (.string (name ++ S ++ ByteArray.empty)) w := fun w => run_string_add_sum _ _ _ (by rw [ByteArray.size_append]; simp; omega)
      have hzb := zz_back name S ByteArray.empty x n l HS.out.1 HS.out.2 h0 h1 (fun h => by simp at h) w1 (by rw [ByteArray.size_append, ByteArray.size_append]; simp; omega) (by omega) (by have := hb1.size; omega) tp pv (var?_below hb1 gRange hg HV.out)
      rw [ByteArray.append_empty] at hzb
      go_wp2_with fail
      refine hzb.mono ?_
      rintro e w2 ⟨rfl, hb2⟩
      clear hzb
      go_wp2
      go_ret
      exact ⟨rfl, hb1.trans (hb2.mono hb1.size)⟩

end Go.Proofs.Qxb6603870aDoor
