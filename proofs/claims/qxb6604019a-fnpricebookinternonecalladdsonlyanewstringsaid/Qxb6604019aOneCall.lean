/-
  FnPricebookInternOneCallAddsOnlyANewString: THE LAW's WALK.
-/
import Derived.Test.Qxb6604019aScript
namespace Go.Proofs.Qxb6604019a
open Go.RowKit Go.Maps
set_option linter.unusedVariables false

theorem dc_yes {l : List (List UInt8)} {x : List UInt8} (h : l.contains x = true) : dc (x :: l) = dc l := by
  show (if l.contains x then dc l else dc l + 1) = _
  rw [if_pos h]
theorem dc_no {l : List (List UInt8)} {x : List UInt8} (h : l.contains x = false) : dc (x :: l) = dc l + 1 := by
  show (if l.contains x then dc l else dc l + 1) = _
  rw [h]
  rfl
theorem head_in (x : List UInt8) (l : List (List UInt8)) : (x :: l).contains x = true := by simp
theorem tail_in {x y : List UInt8} {l : List (List UInt8)} (h : l.contains y = true) : (x :: l).contains y = true := by
  rw [List.contains_cons, h, Bool.or_true]

set_option maxHeartbeats 4000000 in
theorem law7 (a : Option Addr) (n c : Nat) (ss : Nat → ByteArray) (s : ByteArray) (w : World) (hn : n ≤ 9223372036854775807) (hs : s.size ≤ 9223372036854775807) (hL : Hid (∀ i, i < n → (ss i).size ≤ 9223372036854775807)) (h : Hid (Strs w a n ss)) :
    Calls Try.prog 7 #[.slice a n c, .string s] w fun e w' => e = .returned (.bool true) ∧ Below w.heap.size w w' := by
  have hz := zz22 a n c ss s w hn hs hL h
  clear hL
  go_enter Try.func7, Try.ntmps7
  go_wp2_with fail
  refine hz.mono ?_
  rintro e w' ⟨hZ, rfl⟩
  clear hz
  rcases hZ with rfl | ⟨rfl, hn2, hs2, hL2⟩
  · go_wp2
    go_ret
    exact ⟨rfl, Below.refl _ _⟩
  · have HL := Lib.hid hL2
    clear hL2
    have hs3 : decide (1048576 < (s.size : Int)) = false := by simp; omega
    by_cases hbig : 4096 < (n : Int)
    · have hb3 : decide (4096 < (n : Int)) = true := by simpa using hbig
      go_wp2
      go_ret
      exact ⟨rfl, Below.refl _ _⟩
    · have hb3 : decide (4096 < (n : Int)) = false := by simpa using hbig
      go_wp2_with fail
      refine (bytes9 a n c ss _ hn2 HL h).mono ?_
      rintro e w' ⟨⟨x, rfl, hx0, hx1⟩, rfl⟩
      by_cases hx : 1048576 < x + (s.size : Int)
      · go_wp2
        go_ret
        exact ⟨rfl, Below.refl _ _⟩
      · go_wp2_with fail
        refine (clone_any a n c ss _ hn2 h.out).mono ?_
        rintro e w1 ⟨a1, rfl, hS1, hb1⟩
        have S1 := Lib.hid hS1
        clear hS1
        go_wp2_with fail
        refine (new19 _).mono ?_
        rintro e w2 ⟨rfl, rfl⟩
        have hst0 := Lib.hid (st_new w1)
        have hb2 : Below w1.heap.size w1 (w1.alloc (.cells #[.map none, .pointer none] 49)) := (Below.refl _ _).alloc (Nat.le_refl _) _
        generalize (w1.alloc (.cells #[.map none, .pointer none] 49)) = w2 at hst0 hb2 ⊢
        go_wp2
        go_loopw [6] (fun i wr => ∃ k : Nat, k ≤ n ∧ i = .int .i64 k ∧ Hid (St wr w1.heap.size (sn ss k) k) ∧ Below w1.heap.size w1 wr) (fun i _ => n - (intOf i).toNat)
        case atStart => exact ⟨0, by omega, rfl, hst0, hb2⟩
        case round =>
          clear hst0 hb2
          obtain ⟨k, hk, rfl, HS, hbl⟩ := hrel
          by_cases hlt : k < n
          · obtain ⟨b, off, rfl, hbs, hcs⟩ := S1.out.resolve_left (by omega)
            have hck := hcs k hlt
            clear hcs
            have hLk := HL.out k hlt
            have q1 : wr.cell? ⟨b, off + k, none⟩ = some (.string (ss k)) := by rw [hbl.cell (p := ⟨b, _, none⟩) hbs]; exact hck
            go_wp2_with fail
            refine (zz20 w1.heap.size k (sn ss k) (ss k) wr HS hLk (by omega)).mono ?_
            rintro e w' ⟨rfl, hst, hb⟩
            have HS3 : Hid (St w' w1.heap.size (sn ss (k + 1)) (k + 1)) := Lib.hid hst
            have hb3 : Below w1.heap.size w1 w' := hbl.trans hb
            clear hst hb hbl HS q1
            go_wp2
            go_roundw
            case rel => exact ⟨k + 1, by omega, by go_num, HS3, hb3⟩
            case measure => simp [intOf]; omega
          · obtain rfl : n = k := by omega
            have hd := dc_sn_le ss n
            obtain ⟨mv, bv, D, hC, hG, hM, hBl⟩ := HS.out
            have c0 := hC.c0
            have hlen := fun ty => len_seen hG hM ty
            clear hBl
            have S3 : Hid (Strs wr a1 n ss) := Lib.hid (S1.out.below rfl hbl)
            go_wp2_with fail
            refine (seen21 _ mv _ c0).mono ?_
            rintro e w' ⟨rfl, rfl⟩
            clear c0 hC
            cases hcon : (sn ss n).contains s.data.toList
            · have hfirst := first_no a1 n n ss s w' hn2 S3 (Lib.hid fun j hj => by
                rw [sameList]
                cases hq : ((ss j).data.toList == s.data.toList)
                · rfl
                · have := (mem_sn ss s.data.toList n).2 ⟨j, hj, by simpa using hq⟩
                  rw [this] at hcon; cases hcon)
              have hdc := dc_no (l := sn ss n) (x := s.data.toList) hcon
              have hin : ∀ j, j < n → (s.data.toList :: sn ss n).contains (ss j).data.toList = true := fun j hj => tail_in (in_sn ss hj)
              have Hin := Lib.hid hin
              clear hin
              go_wp2_with fail
              refine hfirst.mono ?_
              rintro e w' ⟨rfl, rfl⟩
              clear hfirst hG hM hlen hcon
              generalize sn ss n = SN at HS hdc hd Hin ⊢
              go_wp2_with fail
              refine (zz20 w1.heap.size n SN s _ HS hs2 (by omega)).mono ?_
              rintro e w5 ⟨rfl, hst5, hb5⟩
              have hbl5 : Below w1.heap.size w1 w5 := hbl.trans hb5
              have HS5 := Lib.hid hst5
              clear hst5 hb5 HS S3
              obtain ⟨mv5, bv5, D5, hC5, hG5, hM5, hB5⟩ := HS5.out
              have c0 := hC5.c0
              clear hB5
              go_wp2_with fail
              refine (seen21 _ mv5 _ c0).mono ?_
              rintro e w' ⟨rfl, rfl⟩
              have hlen5 : ∀ ty, (Builtin.len_ #[40] ty #[mv5]).run Try.prog w' = .ok (.int .i64 ((dc SN : Int) + 1)) w' := fun ty => by rw [len_seen hG5 hM5 ty, hdc]; rfl
              obtain ⟨v, hlk, hv⟩ := look hG5 hM5 s hs2
              rw [head_in, hv (head_in _ _)] at hlk
              clear c0 hC5 hv
              generalize hdd : dc SN = d at hdc hd hlen5 ⊢
              go_wp2
              clear hlk
              go_loop [12, 13, 14] (fun _ _ i => ∃ k : Nat, k ≤ n ∧ i = .int .i64 k) (fun _ _ i => n - (intOf i).toNat)
              case atStart => exact ⟨0, by omega, rfl⟩
              case round =>
                obtain ⟨k, hk, rfl⟩ := hrel
                by_cases hlt : k < n
                · obtain ⟨b, off, rfl, hbs, hcs⟩ := S1.out.resolve_left (by omega)
                  have q1 : w'.cell? ⟨b, off + k, none⟩ = some (.string (ss k)) := by rw [hbl5.cell (p := ⟨b, _, none⟩) hbs]; exact hcs k hlt
                  obtain ⟨v5, hlk, hv⟩ := look hG5 hM5 (ss k) (HL.out k hlt)
                  rw [Hin.out k hlt] at hlk
                  obtain rfl := hv (Hin.out k hlt)
                  clear hcs hv
                  go_wp2
                  go_round
                  case rel => exact ⟨k + 1, by omega, by go_num⟩
                  case measure => simp [intOf]; omega
                · obtain rfl : n = k := by omega
                  clear hG5 hM5 hlen5
                  go_wp2_with fail
                  refine (zz20 w1.heap.size (n + 1) (s.data.toList :: SN) s _ HS5 hs2 (by omega)).mono ?_
                  rintro e w6 ⟨rfl, hst6, hb6⟩
                  have hbl6 : Below w1.heap.size w1 w6 := hbl5.trans hb6
                  obtain ⟨mv6, bv6, D6, hC6, hG6, hM6, hB6⟩ := hst6
                  have c0 := hC6.c0
                  have hlen6 : ∀ ty, (Builtin.len_ #[40] ty #[mv6]).run Try.prog w6 = .ok (.int .i64 ((d : Int) + 1)) w6 := fun ty => by rw [len_seen hG6 hM6 ty, dc_yes (head_in _ _), hdc]; rfl
                  clear hB6 HS5 hbl5 hb6
                  go_wp2_with (go_at_call 21; refine (seen21 _ mv6 _ c0).mono ?_; rintro e w' ⟨rfl, rfl⟩)
                  go_ret
                  exact ⟨rfl, hb1.trans (hbl6.mono hb1.size)⟩
            · obtain ⟨j, hj, hjq⟩ := (mem_sn ss s.data.toList n).1 hcon
              have hfirst := first_yes a1 n n j ss s w' hn2 S3 hj (Lib.hid (by rw [sameList, hjq]; simp))
              have hdc := dc_yes (l := sn ss n) (x := s.data.toList) hcon
              have hin : ∀ j, j < n → (s.data.toList :: sn ss n).contains (ss j).data.toList = true := fun j hj => tail_in (in_sn ss hj)
              have Hin := Lib.hid hin
              clear hin
              go_wp2_with fail
              refine hfirst.mono ?_
              rintro e w' ⟨⟨x0, rfl, hx00⟩, rfl⟩
              clear hfirst hG hM hlen hcon
              generalize sn ss n = SN at HS hdc hd Hin ⊢
              go_wp2_with fail
              refine (zz20 w1.heap.size n SN s _ HS hs2 (by omega)).mono ?_
              rintro e w5 ⟨rfl, hst5, hb5⟩
              have hbl5 : Below w1.heap.size w1 w5 := hbl.trans hb5
              have HS5 := Lib.hid hst5
              clear hst5 hb5 HS S3
              obtain ⟨mv5, bv5, D5, hC5, hG5, hM5, hB5⟩ := HS5.out
              have c0 := hC5.c0
              clear hB5
              go_wp2_with fail
              refine (seen21 _ mv5 _ c0).mono ?_
              rintro e w' ⟨rfl, rfl⟩
              have hlen5 : ∀ ty, (Builtin.len_ #[40] ty #[mv5]).run Try.prog w' = .ok (.int .i64 (dc SN : Int)) w' := fun ty => by rw [len_seen hG5 hM5 ty, hdc]
              obtain ⟨v, hlk, hv⟩ := look hG5 hM5 s hs2
              rw [head_in, hv (head_in _ _)] at hlk
              clear c0 hC5 hv
              generalize hdd : dc SN = d at hdc hd hlen5 ⊢
              go_wp2
              clear hlk
              go_loop [12, 13, 14] (fun _ _ i => ∃ k : Nat, k ≤ n ∧ i = .int .i64 k) (fun _ _ i => n - (intOf i).toNat)
              case atStart => exact ⟨0, by omega, rfl⟩
              case round =>
                obtain ⟨k, hk, rfl⟩ := hrel
                by_cases hlt : k < n
                · obtain ⟨b, off, rfl, hbs, hcs⟩ := S1.out.resolve_left (by omega)
                  have q1 : w'.cell? ⟨b, off + k, none⟩ = some (.string (ss k)) := by rw [hbl5.cell (p := ⟨b, _, none⟩) hbs]; exact hcs k hlt
                  obtain ⟨v5, hlk, hv⟩ := look hG5 hM5 (ss k) (HL.out k hlt)
                  rw [Hin.out k hlt] at hlk
                  obtain rfl := hv (Hin.out k hlt)
                  clear hcs hv
                  go_wp2
                  go_round
                  case rel => exact ⟨k + 1, by omega, by go_num⟩
                  case measure => simp [intOf]; omega
                · obtain rfl : n = k := by omega
                  clear hG5 hM5 hlen5
                  go_wp2_with fail
                  refine (zz20 w1.heap.size (n + 1) (s.data.toList :: SN) s _ HS5 hs2 (by omega)).mono ?_
                  rintro e w6 ⟨rfl, hst6, hb6⟩
                  have hbl6 : Below w1.heap.size w1 w6 := hbl5.trans hb6
                  obtain ⟨mv6, bv6, D6, hC6, hG6, hM6, hB6⟩ := hst6
                  have c0 := hC6.c0
                  have hlen6 : ∀ ty, (Builtin.len_ #[40] ty #[mv6]).run Try.prog w6 = .ok (.int .i64 (d : Int)) w6 := fun ty => by rw [len_seen hG6 hM6 ty, dc_yes (head_in _ _), hdc]
                  clear hB6 HS5 hbl5 hb6
                  go_wp2_with (go_at_call 21; refine (seen21 _ mv6 _ c0).mono ?_; rintro e w' ⟨rfl, rfl⟩)
                  go_ret
                  exact ⟨rfl, hb1.trans (hbl6.mono hb1.size)⟩

end Go.Proofs.Qxb6604019a
