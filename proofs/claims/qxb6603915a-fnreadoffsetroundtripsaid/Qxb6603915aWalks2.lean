/-
  THE WALKS OF renderOffsetB1, readOffset, ZZreadOffset.
-/
import Derived.Test.Qxb6603915aWalks
import Derived.WalkLawsBesides
import Derived.Lib.Hide
namespace Go.Proofs.Qxb6603915a
open Go.RowKit

def dg (x : Nat) : UInt8 := UInt8.ofNat (48 + x)
theorem dg_toNat (x : Nat) (h : x < 10) : (dg x).toNat = 48 + x := by
  unfold dg
  rw [UInt8.toNat_ofNat']
  omega
/-- The offset's canonical text. -/
def txt (c : UInt8) (h m : Nat) : List UInt8 := [c, dg (h / 10), dg (h % 10), 58, dg (m / 10), dg (m % 10)]

theorem conv_txt (c : UInt8) (h m : Nat) (hh : h ≤ 23) (hm : m ≤ 59) (w : World) :
    (convert 29 9 (.slice (some ⟨w.heap.size, 0, none⟩) 6 6)).run Try.prog (w.alloc (.cells #[.int .u8 (c.toNat : Int), .int .u8 (48 + (h : Int) / 10), .int .u8 (48 + (h : Int) % 10), .int .u8 58, .int .u8 (48 + (m : Int) / 10), .int .u8 (48 + (m : Int) % 10)] 28)) =
      .ok (.string ⟨(txt c h m).toArray⟩) (w.alloc (.cells #[.int .u8 (c.toNat : Int), .int .u8 (48 + (h : Int) / 10), .int .u8 (48 + (h : Int) % 10), .int .u8 58, .int .u8 (48 + (m : Int) / 10), .int .u8 (48 + (m : Int) % 10)] 28)) := by
  refine run_convert_bytes_back (P := Try.prog) _ 29 9 5 ⟨w.heap.size, 0, none⟩ 6 (txt c h m) Try.underlying29 Try.underlying5 Try.underlying9 (fun j hj => ?_)
  have e1 : ((dg (h / 10)).toNat : Int) = 48 + (h : Int) / 10 := by rw [dg_toNat _ (by omega)]; omega
  have e2 : ((dg (h % 10)).toNat : Int) = 48 + (h : Int) % 10 := by rw [dg_toNat _ (by omega)]; omega
  have e3 : ((dg (m / 10)).toNat : Int) = 48 + (m : Int) / 10 := by rw [dg_toNat _ (by omega)]; omega
  have e4 : ((dg (m % 10)).toNat : Int) = 48 + (m : Int) % 10 := by rw [dg_toNat _ (by omega)]; omega
  have hj6 : j < 6 := hj
  rcases j with _ | _ | _ | _ | _ | _ | j
  · simp [Addr.add_lit, txt, go_sem]
  · simp [Addr.add_lit, txt, go_sem, e1]
  · simp [Addr.add_lit, txt, go_sem, e2]
  · simp [Addr.add_lit, txt, go_sem]
  · simp [Addr.add_lit, txt, go_sem, e3]
  · simp [Addr.add_lit, txt, go_sem, e4]
  · omega

set_option maxHeartbeats 400000 in
theorem render_plus (h m : Nat) (hh : h ≤ 23) (hm : m ≤ 59) (w : World) :
    Calls Try.prog 11 #[.bool false, .int .i64 h, .int .i64 m] w fun e w' => e = .returned (.string ⟨(txt 43 h m).toArray⟩) ∧ Grown w w' := by
  have hcv := conv_txt 43 h m hh hm w
  have e43 : ((43 : UInt8).toNat : Int) = 43 := rfl
  rw [e43] at hcv
  clear e43
  go_enter Try.func11, Try.ntmps11
  go_wp2
  go_ret
  exact ⟨rfl, (Grown.refl _).alloc _ _⟩
set_option maxHeartbeats 400000 in
theorem render_minus (h m : Nat) (hh : h ≤ 23) (hm : m ≤ 59) (w : World) :
    Calls Try.prog 11 #[.bool true, .int .i64 h, .int .i64 m] w fun e w' => e = .returned (.string ⟨(txt 45 h m).toArray⟩) ∧ Grown w w' := by
  have hcv := conv_txt 45 h m hh hm w
  have e45 : ((45 : UInt8).toNat : Int) = 45 := rfl
  rw [e45] at hcv
  clear e45
  go_enter Try.func11, Try.ntmps11
  go_wp2
  go_ret
  exact ⟨rfl, (Grown.refl _).alloc _ _⟩

/-! ### Two digits read back -/
theorem two_ok (a b : Nat) (ha : a < 10) (hb : b < 10) : decOK [dg a, dg b] = true ∧ decN [dg a, dg b] = (10 * a + b : Nat) := by
  have e1 : ((dg a).toNat : Int) = 48 + a := by rw [dg_toNat _ ha]; omega
  have e2 : ((dg b).toNat : Int) = 48 + b := by rw [dg_toNat _ hb]; omega
  have d1 : isDg (dg a) = true := isDg_yes (by omega) (by omega)
  have d2 : isDg (dg b) = true := isDg_yes (by omega) (by omega)
  refine ⟨by simp [decOK, d1, d2], ?_⟩
  have hall : [dg a, dg b].all isDg = true := by simp [d1, d2]
  unfold decN
  rw [if_pos hall]
  simp only [accD]
  rw [e1, e2]
  unfold wrap64
  omega

theorem decimal_as (s : ByteArray) (n : Int) (w : World) (hs : s.size ≤ maxLen) (hk : decOK s.data.toList = true) (hn : decN s.data.toList = n) :
    Calls Try.prog 12 #[.string s] w fun e w' => e = .returned (.tuple #[.int .i64 n, .bool true]) ∧ w' = w := by
  have h := decimal_any s w hs
  rw [hk, hn] at h
  exact h

/-- What the two-digit parts of a text read as. -/
def Reads (s : ByteArray) (h m : Int) : Prop :=
  (s.extract 1 3).size ≤ maxLen ∧ (s.extract 4 s.size).size ≤ maxLen ∧ decOK (s.extract 1 3).data.toList = true ∧ decOK (s.extract 4 s.size).data.toList = true ∧ decN (s.extract 1 3).data.toList = h ∧ decN (s.extract 4 s.size).data.toList = m

set_option maxHeartbeats 400000 in
theorem readOffset_plus (s : ByteArray) (h m : Int) (w : World) (hz1 : 6 ≤ s.size) (hz2 : s.size ≤ 6)
    (a0 : 43 ≤ (s[0].toNat : Int)) (b0 : (s[0].toNat : Int) ≤ 43) (a3 : 58 ≤ (s[3].toNat : Int)) (b3 : (s[3].toNat : Int) ≤ 58)
    (R : Hid (Reads s h m)) (hh0 : 0 ≤ h) (hh : h ≤ 23) (hm0 : 0 ≤ m) (hm : m ≤ 59) :
    Calls Try.prog 13 #[.string s] w fun e w' => e = .returned (.tuple #[.int .i64 (h * 3600 + m * 60), .bool true]) ∧ w' = w := by
  go_enter Try.func13, Try.ntmps13
  go_wp2_with fail
  refine (decimal_as (s.extract 1 3) h _ R.out.1 R.out.2.2.1 R.out.2.2.2.2.1).mono ?_
  rintro e w' ⟨rfl, rfl⟩
  go_wp2_with fail
  refine (decimal_as (s.extract 4 s.size) m _ R.out.2.1 R.out.2.2.2.1 R.out.2.2.2.2.2).mono ?_
  rintro e w' ⟨rfl, rfl⟩
  go_wp2
  go_ret2
  exact ⟨rfl, rfl⟩

set_option maxHeartbeats 400000 in
theorem readOffset_minus (s : ByteArray) (h m : Int) (w : World) (hz1 : 6 ≤ s.size) (hz2 : s.size ≤ 6)
    (a0 : 45 ≤ (s[0].toNat : Int)) (b0 : (s[0].toNat : Int) ≤ 45) (a3 : 58 ≤ (s[3].toNat : Int)) (b3 : (s[3].toNat : Int) ≤ 58)
    (R : Hid (Reads s h m)) (hh0 : 0 ≤ h) (hh : h ≤ 23) (hm0 : 0 ≤ m) (hm : m ≤ 59) :
    Calls Try.prog 13 #[.string s] w fun e w' => e = .returned (.tuple #[.int .i64 (-(h * 3600 + m * 60)), .bool true]) ∧ w' = w := by
  go_enter Try.func13, Try.ntmps13
  go_wp2_with fail
  refine (decimal_as (s.extract 1 3) h _ R.out.1 R.out.2.2.1 R.out.2.2.2.2.1).mono ?_
  rintro e w' ⟨rfl, rfl⟩
  go_wp2_with fail
  refine (decimal_as (s.extract 4 s.size) m _ R.out.2.1 R.out.2.2.2.1 R.out.2.2.2.2.2).mono ?_
  rintro e w' ⟨rfl, rfl⟩
  go_wp2
  go_ret2
  exact ⟨rfl, rfl⟩

/-! ### At the canonical text -/
theorem txt_extract1 (c : UInt8) (h m : Nat) : ((⟨(txt c h m).toArray⟩ : ByteArray).extract 1 3).data.toList = [dg (h / 10), dg (h % 10)] := by
  rw [Lib.extract_data]; rfl
theorem txt_extract4 (c : UInt8) (h m : Nat) : ((⟨(txt c h m).toArray⟩ : ByteArray).extract 4 (⟨(txt c h m).toArray⟩ : ByteArray).size).data.toList = [dg (m / 10), dg (m % 10)] := by
  rw [Lib.extract_data]; rfl
theorem reads_txt (c : UInt8) (h m : Nat) (hh : h ≤ 23) (hm : m ≤ 59) : Reads ⟨(txt c h m).toArray⟩ h m := by
  have e1 := txt_extract1 c h m
  have e4 := txt_extract4 c h m
  have t1 := two_ok (h / 10) (h % 10) (by omega) (by omega)
  have t2 := two_ok (m / 10) (m % 10) (by omega) (by omega)
  refine ⟨?_, ?_, by rw [e1]; exact t1.1, by rw [e4]; exact t2.1, by rw [e1, t1.2]; congr 1; omega, by rw [e4, t2.2]; congr 1; omega⟩
  · rw [Lib.size_eq, e1]; unfold maxLen; simp
  · rw [Lib.size_eq, e4]; unfold maxLen; simp

set_option maxHeartbeats 400000 in
theorem zzread_plus (h m : Nat) (hh : h ≤ 23) (hm : m ≤ 59) (w : World) :
    Calls Try.prog 10 #[.string ⟨(txt 43 h m).toArray⟩] w fun e w' => e = .returned (.tuple #[.int .i64 ((h : Int) * 3600 + m * 60), .bool true]) ∧ w' = w := by
  have hr := readOffset_plus ⟨(txt 43 h m).toArray⟩ h m w (Nat.le_refl _) (Nat.le_refl _) (show (43 : Int) ≤ 43 by omega) (show (43 : Int) ≤ 43 by omega) (show (58 : Int) ≤ 58 by omega) (show (58 : Int) ≤ 58 by omega) (Lib.hid (reads_txt 43 h m hh hm)) (by omega) (by omega) (by omega) (by omega)
  generalize (⟨(txt 43 h m).toArray⟩ : ByteArray) = s at hr ⊢
  go_enter Try.func10, Try.ntmps10
  go_wp2_with (go_at_call 13; refine hr.mono ?_; rintro e w' ⟨rfl, rfl⟩)
  go_ret2
  exact ⟨rfl, rfl⟩
set_option maxHeartbeats 400000 in
theorem zzread_minus (h m : Nat) (hh : h ≤ 23) (hm : m ≤ 59) (w : World) :
    Calls Try.prog 10 #[.string ⟨(txt 45 h m).toArray⟩] w fun e w' => e = .returned (.tuple #[.int .i64 (-((h : Int) * 3600 + m * 60)), .bool true]) ∧ w' = w := by
  have hr := readOffset_minus ⟨(txt 45 h m).toArray⟩ h m w (Nat.le_refl _) (Nat.le_refl _) (show (45 : Int) ≤ 45 by omega) (show (45 : Int) ≤ 45 by omega) (show (58 : Int) ≤ 58 by omega) (show (58 : Int) ≤ 58 by omega) (Lib.hid (reads_txt 45 h m hh hm)) (by omega) (by omega) (by omega) (by omega)
  generalize (⟨(txt 45 h m).toArray⟩ : ByteArray) = s at hr ⊢
  go_enter Try.func10, Try.ntmps10
  go_wp2_with (go_at_call 13; refine hr.mono ?_; rintro e w' ⟨rfl, rfl⟩)
  go_ret2
  exact ⟨rfl, rfl⟩

end Go.Proofs.Qxb6603915a
