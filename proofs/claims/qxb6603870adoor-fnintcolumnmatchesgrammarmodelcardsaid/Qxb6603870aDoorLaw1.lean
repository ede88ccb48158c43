/-
  FnIntColumnMatchesGrammarModel: THE LAW's WALK.
-/
import Derived.Test.Qxb6603870aDoorZZ
namespace Go.Proofs.Qxb6603870aDoor
open Go.RowKit
set_option linter.unusedVariables false

theorem zz_tuple (s p : ByteArray) (n : Int) (w : World) (hs : s.size ≤ 1048576) (hp : p.size ≤ 1048576) (hg : 3 < w.heap.size)
    (tp : TypeId) (pv : Value) (hvar : w.var? Tryd.prog "strconv.ErrRange" = some #[.iface tp pv]) :
    Calls Tryd.prog 16 #[.string s, .string p, .int .i64 n] w fun e w' => e = .returned (.tuple #[.bool (fullOk s p), .string (fullRest s p), .int .i64 (fullNum s p n)]) ∧ Below w.heap.size w w' :=
  zz_any s p n w (by omega) (by omega) hg tp pv hvar
theorem model_tuple (s p : ByteArray) (n : Int) (w : World) (hs : s.size ≤ 1048576) (hp : p.size ≤ 1048576) :
    Calls Tryd.prog 17 #[.string s, .string p, .int .i64 n] w fun e w' => e = .returned (.tuple #[.bool (fullOk s p), .string (fullRest s p), .int .i64 (fullNum s p n)]) ∧ Below w.heap.size w w' :=
  model_any s p n w hs hp

set_option maxHeartbeats 1000000 in
theorem law1 (s p : ByteArray) (n : Int) (w : World) (hs : s.size ≤ 9223372036854775807) (hp : p.size ≤ 9223372036854775807) (hg : 3 < w.heap.size)
    (tp : TypeId) (pv : Value) (hvar : w.var? Tryd.prog "strconv.ErrRange" = some #[.iface tp pv]) :
    Calls Tryd.prog 5 #[.string s, .string p, .int .i64 n] w fun e w' => e = .returned (.bool true) ∧ Below w.heap.size w w' := by
  by_cases hbig : 1048576 < s.size + p.size
  · clear hvar
    go_enter Tryd.func5, Tryd.ntmps5
    go_wp2_with (go_at_call 15; refine (zzBytes_no _ _ _ _ hs hp hbig).mono ?_; rintro e w' ⟨rfl, rfl⟩)
    go_ret
    exact ⟨rfl, Below.refl _ _⟩
  · have h1 : ¬ (1048576 < (s.size : Int)) := by omega
    have h2 : ¬ (1048576 < (p.size : Int)) := by omega
    have c1 := zz_tuple s p n w (by omega) (by omega) hg tp pv hvar
    clear hvar
    go_enter Tryd.func5, Tryd.ntmps5
    go_wp2_with fail
    refine (zzBytes_yes _ _ _ _ (by omega)).mono ?_
    rintro e w' ⟨rfl, rfl⟩
    go_wp2_with fail
    refine c1.mono ?_
    rintro e w1 ⟨rfl, hb1⟩
    clear c1
    go_wp2_with fail
    refine (model_tuple _ _ _ _ (by omega) (by omega)).mono ?_
    rintro e w2 ⟨rfl, hb2⟩
    go_wp2
    go_ret
    exact ⟨rfl, hb1.trans (hb2.mono hb1.size)⟩

end Go.Proofs.Qxb6603870aDoor
