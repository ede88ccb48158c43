/-
  FnPricebookInternScriptKeepsEachDistinctStringOnce: THE LAW's WALK.
-/
import Derived.Test.Qxb6604019aIntern
namespace Go.Proofs.Qxb6604019a
open Go.RowKit Go.Maps
set_option linter.unusedVariables false

set_option maxHeartbeats 400000 in
theorem new19 (w : World) : Calls Try.prog 19 #[] w fun e w' => e = .returned (.pointer (some ⟨w.heap.size, 0, none⟩)) ∧ w' = w.alloc (.cells #[.map none, .pointer none] 49) := by
  go_enter Try.func19, Try.ntmps19
  go_wp2
  go_ret
  exact ⟨rfl, rfl⟩
theorem st_new (w : World) : St (w.alloc (.cells #[.map none, .pointer none] 49)) w.heap.size [] 0 := by
  refine ⟨_, _, _, ?_, Good.empty, .inl ⟨rfl, rfl⟩, .inl rfl⟩
  exact Go.Deep.blk_alloc_new _ _

set_option maxHeartbeats 400000 in
theorem zz20 (I k : Nat) (Sn : List (List UInt8)) (s : ByteArray) (w : World) (h : Hid (St w I Sn k)) (hs : s.size ≤ 1048576) (hk : k ≤ 8192) :
    Calls Try.prog 20 #[.pointer (some ⟨I, 0, none⟩), .string s] w fun e w' => e = .returned (.string s) ∧ St w' I (s.data.toList :: Sn) (k + 1) ∧ Below I w w' := by
  go_enter Try.func20, Try.ntmps20
  go_wp2_with (go_at_call 24; refine (intern_any I k Sn s _ h.out hs hk).mono ?_; rintro e w' ⟨rfl, hst, hb⟩)
  go_ret
  exact ⟨rfl, hst, hb⟩
set_option maxHeartbeats 400000 in
theorem seen21 (I : Nat) (mv : Value) (w : World) (c0 : w.cell? ⟨I, 0, none⟩ = some mv) :
    Calls Try.prog 21 #[.pointer (some ⟨I, 0, none⟩)] w fun e w' => e = .returned mv ∧ w' = w := by
  go_enter Try.func21, Try.ntmps21
  go_wp2
  go_ret
  exact ⟨rfl, rfl⟩

/-- The strings interned behind k rounds, the last one first. -/
def sn (ss : Nat → ByteArray) : Nat → List (List UInt8)
  | 0 => []
  | k + 1 => (ss k).data.toList :: sn ss k
theorem mem_sn (ss : Nat → ByteArray) (l : List UInt8) : ∀ k, (sn ss k).contains l = true ↔ ∃ j, j < k ∧ (ss j).data.toList = l
  | 0 => by simp [sn]
  | k + 1 => by
    rw [sn, List.contains_cons, Bool.or_eq_true, mem_sn ss l k, beq_iff_eq]
    constructor
    · rintro (h | ⟨j, h1, h2⟩)
      · exact ⟨k, by omega, h.symm⟩
      · exact ⟨j, by omega, h2⟩
    · rintro ⟨j, h1, h2⟩
      by_cases e : j = k
      · subst e; exact .inl h2.symm
      · exact .inr ⟨j, by omega, h2⟩
theorem in_sn (ss : Nat → ByteArray) {j k : Nat} (h : j < k) : (sn ss k).contains (ss j).data.toList = true := (mem_sn ss _ k).2 ⟨j, h, rfl⟩
theorem dc_sn_le (ss : Nat → ByteArray) (k : Nat) : dc (sn ss k) ≤ k := by
  have h := dc_le (sn ss k)
  have e : ∀ k, (sn ss k).length = k := by
    intro k
    induction k with
    | zero => rfl
    | succ k ih => simp [sn, ih]
  rw [e] at h
  exact h
theorem dc_step_yes (ss : Nat → ByteArray) (k : Nat) (h : (sn ss k).contains (ss k).data.toList = true) : dc (sn ss (k + 1)) = dc (sn ss k) := by
  show (if (sn ss k).contains (ss k).data.toList then dc (sn ss k) else dc (sn ss k) + 1) = _
  rw [if_pos h]
theorem dc_step_no (ss : Nat → ByteArray) (k : Nat) (h : (sn ss k).contains (ss k).data.toList = false) : dc (sn ss (k + 1)) = dc (sn ss k) + 1 := by
  show (if (sn ss k).contains (ss k).data.toList then dc (sn ss k) else dc (sn ss k) + 1) = _
  rw [h]
  rfl
theorem sameList {a b : ByteArray} : (a.toList == b.toList) = (a.data.toList == b.data.toList) := by rw [Lib.toList_data, Lib.toList_data]

theorem map_below {B w w' I k mv D} (h : MapPart w I mv k D) (hb : Below B w w') (hB : B = w.heap.size) : MapPart w' I mv k D := by
  subst hB
  refine h.elim .inl ?_
  rintro ⟨m, e, hlt, ho⟩
  exact .inr ⟨m, e, hlt, owns_of ho (hb.block m ho.lt)⟩

set_option maxHeartbeats 2000000 in
theorem law6 (a : Option Addr) (n c : Nat) (ss : Nat → ByteArray) (w : World) (hn : n ≤ 9223372036854775807) (hL : Hid (∀ i, i < n → (ss i).size ≤ 9223372036854775807)) (h : Hid (Strs w a n ss)) :
    Calls Try.prog 6 #[.slice a n c] w fun e w' => e = .returned (.bool true) ∧ Below w.heap.size w w' := by
  have hz := zz18 a n c ss w hn hL h
  clear hL
  go_enter Try.func6, Try.ntmps6
  go_wp2_with fail
  refine hz.mono ?_
  rintro e w' ⟨hZ, rfl⟩
  clear hz
  rcases hZ with rfl | ⟨rfl, hn2, hL2⟩
  · go_wp2
    go_ret
    exact ⟨rfl, Below.refl _ _⟩
  · have HL := Lib.hid hL2
    clear hL2
    by_cases hbig : 4096 < (n : Int)
    · go_wp2
      go_ret
      exact ⟨rfl, Below.refl _ _⟩
    · go_wp2_with fail
      refine (bytes9 a n c ss _ hn2 HL h).mono ?_
      rintro e w' ⟨⟨x, rfl, hx0, hx1⟩, rfl⟩
      by_cases hx : 1048576 < x
      · go_wp2
        go_ret
        exact ⟨rfl, Below.refl _ _⟩
      · go_wp2_with fail
        refine (clone_any a n c ss _ hn2 h.out).mono ?_
        rintro e w1 ⟨a1, rfl, hS1, hb1⟩
        have S1 := Lib.hid hS1
        clear hS1
        go_wp2_with fail
        refine (new19 _).mono ?_
        rintro e w2 ⟨rfl, rfl⟩
        have hst0 := Lib.hid (st_new w1)
        have hb2 : Below w1.heap.size w1 (w1.alloc (.cells #[.map none, .pointer none] 49)) := (Below.refl _ _).alloc (Nat.le_refl _) _
        generalize (w1.alloc (.cells #[.map none, .pointer none] 49)) = w2 at hst0 hb2 ⊢
        go_wp2
        go_loopw [4] (fun i wr => ∃ k : Nat, k ≤ n ∧ i = .int .i64 k ∧ Hid (St wr w1.heap.size (sn ss k) k) ∧ Below w1.heap.size w1 wr) (fun i _ => n - (intOf i).toNat)
        case atStart => exact ⟨0, by omega, rfl, hst0, hb2⟩
        case round =>
          clear hst0 hb2
          obtain ⟨k, hk, rfl, HS, hbl⟩ := hrel
          by_cases hlt : k < n
          · obtain ⟨b, off, rfl, hbs, hcs⟩ := S1.out.resolve_left (by omega)
            have hck := hcs k hlt
            clear hcs
            have hLk := HL.out k hlt
            have q1 : wr.cell? ⟨b, off + k, none⟩ = some (.string (ss k)) := by rw [hbl.cell (p := ⟨b, _, none⟩) hbs]; exact hck
            have hcall : Calls Try.prog 20 #[.pointer (some ⟨w1.heap.size, 0, none⟩), .string (ss k)] wr.drew fun e w' => e = .returned (.string (ss k)) ∧ w'.cell? ⟨b, off + k, none⟩ = some (.string (ss k)) ∧ Hid (St w' w1.heap.size (sn ss (k + 1)) (k + 1)) ∧ Below w1.heap.size w1 w' := by
              refine (zz20 w1.heap.size k (sn ss k) (ss k) wr.drew HS hLk (by omega)).mono ?_
              rintro e w' ⟨rfl, hst, hb⟩
              have hb' : Below w1.heap.size w1 w' := hbl.trans ⟨hb.os, hb.tape, hb.output, hb.size, hb.block⟩
              exact ⟨rfl, by rw [hb'.cell (p := ⟨b, _, none⟩) hbs]; exact hck, Lib.hid hst, hb'⟩
            go_wp2
            go_region_with (go_at_call 20; refine hcall.mono ?_; rintro e w3 ⟨rfl, q2, HS3, hb3⟩)
            all_goals
              go_wp2
              go_roundw
              case rel => exact ⟨k + 1, by omega, by go_num, HS3, hb3⟩
              case measure => simp [intOf]; omega
          · obtain rfl : n = k := by omega
            obtain ⟨w3, hw3⟩ : ∃ w3, w3 = wr := ⟨_, rfl⟩
            subst hw3
            obtain ⟨mv, bv, D, hC, hG, hM, hBl⟩ := HS.out
            have c0 := hC.c0
            clear hBl HS
            go_wp2_with fail
            refine (seen21 _ mv _ c0).mono ?_
            rintro e w' ⟨rfl, rfl⟩
            clear c0
            go_wp2
            go_loopw [6, 7] (fun d i wr => ∃ k : Nat, k ≤ n ∧ i = .int .i64 k ∧ d = .int .i64 (dc (sn ss k)) ∧ Below w'.heap.size w' wr) (fun _ i _ => n - (intOf i).toNat)
            case atStart => exact ⟨0, by omega, rfl, rfl, Below.refl _ _⟩
            case round =>
              obtain ⟨k, hk, rfl, rfl, hbr⟩ := hrel
              have hdk := dc_sn_le ss k
              by_cases hlt : k < n
              · have S3 : Hid (Strs wr a1 n ss) := Lib.hid ((S1.out.below rfl hbl).below rfl hbr)
                have hM' := map_below hM hbr rfl
                have hLk := HL.out k hlt
                cases hcon : (sn ss k).contains (ss k).data.toList
                · have he := earlier_no a1 n n k ss wr hn2 hlt S3 (Lib.hid fun j hj => by
                    rw [sameList]
                    cases hq : ((ss j).data.toList == (ss k).data.toList)
                    · rfl
                    · have := (mem_sn ss (ss k).data.toList k).2 ⟨j, hj, by simpa using hq⟩
                      rw [this] at hcon; cases hcon)
                  obtain ⟨b, off, rfl, hbs, hcs⟩ := S1.out.resolve_left (by omega)
                  go_wp2_with fail
                  refine he.mono ?_
                  rintro e w5 ⟨rfl, hb5⟩
                  have hbr5 : Below w'.heap.size w' w5 := hbr.trans (hb5.mono hbr.size)
                  have q1 : w5.cell? ⟨b, off + k, none⟩ = some (.string (ss k)) := by rw [hbr5.cell (p := ⟨b, _, none⟩) (Nat.lt_of_lt_of_le hbs hbl.size), hbl.cell (p := ⟨b, _, none⟩) hbs]; exact hcs k hlt
                  obtain ⟨v, hlk, hv⟩ := look hG (map_below hM hbr5 rfl) (ss k) hLk
                  rw [in_sn ss hlt] at hlk
                  obtain rfl := hv (in_sn ss hlt)
                  clear hcs S3 hM' he hv hb5 hbr
                  go_wp2
                  go_roundw
                  case rel => exact ⟨k + 1, by omega, by go_num, by rw [dc_step_no ss k hcon]; go_num, hbr5⟩
                  case measure => simp [intOf]; omega
                · obtain ⟨j, hj, hjq⟩ := (mem_sn ss (ss k).data.toList k).1 hcon
                  have he := earlier_yes a1 n n k j ss wr hn2 hlt S3 hj (Lib.hid (by rw [sameList, hjq]; simp))
                  obtain ⟨b, off, rfl, hbs, hcs⟩ := S1.out.resolve_left (by omega)
                  go_wp2_with fail
                  refine he.mono ?_
                  rintro e w5 ⟨rfl, hb5⟩
                  have hbr5 : Below w'.heap.size w' w5 := hbr.trans (hb5.mono hbr.size)
                  have q1 : w5.cell? ⟨b, off + k, none⟩ = some (.string (ss k)) := by rw [hbr5.cell (p := ⟨b, _, none⟩) (Nat.lt_of_lt_of_le hbs hbl.size), hbl.cell (p := ⟨b, _, none⟩) hbs]; exact hcs k hlt
                  obtain ⟨v, hlk, hv⟩ := look hG (map_below hM hbr5 rfl) (ss k) hLk
                  rw [in_sn ss hlt] at hlk
                  obtain rfl := hv (in_sn ss hlt)
                  clear hcs S3 hM' he hv hb5 hbr
                  go_wp2
                  go_roundw
                  case rel => exact ⟨k + 1, by omega, by go_num, by rw [dc_step_yes ss k hcon], hbr5⟩
                  case measure => simp [intOf]; omega
              · obtain rfl : n = k := by omega
                have hlen := fun ty => len_seen hG (map_below hM hbr rfl) ty
                go_wp2
                go_ret
                exact ⟨rfl, hb1.trans ((hbl.trans (hbr.mono hbl.size)).mono hb1.size)⟩

end Go.Proofs.Qxb6604019a
