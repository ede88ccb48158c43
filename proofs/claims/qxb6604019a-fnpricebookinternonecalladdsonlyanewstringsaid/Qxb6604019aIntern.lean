/-
  (*interner).intern, WHOLE.
-/
import Derived.Test.Qxb6604019aState
import Derived.Deep.QuietTactic
import Derived.BigQuiet
import Derived.Deep.RegionWith
namespace Go.Proofs.Qxb6604019a
open Go.RowKit Go.Maps
set_option linter.unusedVariables false

set_option maxHeartbeats 400000 in
theorem len27 (b n cap : Nat) (ao : Option Addr) (w : World) (h : w.cell? ⟨b, 1, none⟩ = some (.slice ao n cap)) :
    Calls Try.prog 27 #[.pointer (some ⟨b, 0, none⟩)] w fun e w' => e = .returned (.int .i64 n) ∧ w' = w := by
  go_enter Try.func27, Try.ntmps27
  go_wp2
  go_ret
  exact ⟨rfl, rfl⟩
set_option maxHeartbeats 400000 in
theorem cap28 (b n cap : Nat) (ao : Option Addr) (w : World) (h : w.cell? ⟨b, 1, none⟩ = some (.slice ao n cap)) :
    Calls Try.prog 28 #[.pointer (some ⟨b, 0, none⟩)] w fun e w' => e = .returned (.int .i64 cap) ∧ w' = w := by
  go_enter Try.func28, Try.ntmps28
  go_wp2
  go_ret
  exact ⟨rfl, rfl⟩

theorem bld_cell {w : World} {I b : Nat} {l : List UInt8} (h : Lib.IsBuilderF 54 5 I b (Lib.byteCells l) w) : ∃ ao cap, w.cell? ⟨b, 1, none⟩ = some (.slice ao l.length cap) ∧ cap ≤ 9223372036854775807 := by
  obtain ⟨p, hB, v, hbk, hown, hne⟩ : ∃ p, Lib.BuilderAtF 54 5 I b p (Lib.byteCells l) w := by
    rcases h with h | h
    · exact ⟨_, h⟩
    · exact ⟨_, h⟩
  rw [Lib.byteCells_length] at hown
  have c1 : w.cell? ⟨b, 1, none⟩ = some v := by simp [World.cell?, hbk]
  rcases hown.2 with ⟨hv, h0⟩ | ⟨g, cap, cur, fz, hv, _, _, _, _, hm, _⟩
  · exact ⟨none, 0, by rw [c1, hv, h0], by omega⟩
  · exact ⟨_, cap, by rw [c1, hv], hm⟩

set_option maxHeartbeats 1000000 in
theorem intern_found (I k : Nat) (Sn : List (List UInt8)) (s : ByteArray) (w : World) (h : St w I Sn k) (hs : s.size ≤ 1048576) (hf : Sn.contains s.data.toList = true) :
    Calls Try.prog 24 #[.pointer (some ⟨I, 0, none⟩), .string s] w fun e w' => e = .returned (.string s) ∧ St w' I (s.data.toList :: Sn) (k + 1) ∧ Below I w w' := by
  have hst : St w I (s.data.toList :: Sn) (k + 1) := by
    obtain ⟨mv, bv, D, h1, h2, h3, h4⟩ := h.mono
    exact ⟨mv, bv, D, h1, h2.again hf, h3, h4⟩
  have HS := Lib.hid hst
  obtain ⟨mv, bv, D, h1, h2, h3, h4⟩ := h
  obtain ⟨v, hl, hv⟩ := look h2 h3 s hs
  obtain rfl := hv hf
  rw [hf] at hl
  have c0 := h1.c0
  clear hst h1 h2 h3 h4 hf
  go_enter Try.func24, Try.ntmps24
  go_wp2
  go_ret
  exact ⟨rfl, HS.out, Below.refl _ _⟩

theorem heapN (w : World) (n : Nat) : (w.drewN n).heap = w.heap := rfl
theorem cellsN {w : World} {I : Nat} {mv bv : Value} (n : Nat) (h : Cells w I mv bv) : Cells (w.drewN n) I mv bv := h
theorem mapN {w : World} {I k : Nat} {mv : Value} {D : DataW Unit} (n : Nat) (h : MapPart w I mv k D) : MapPart (w.drewN n) I mv k D := h
theorem bldN {w : World} {I b : Nat} {bs : List Value} (n : Nat) (h : Lib.IsBuilderF 54 5 I b bs w) : Lib.IsBuilderF 54 5 I b bs (w.drewN n) := h

theorem baseF {w : World} {B I b : Nat} {p : Value} {bs : List Value} (h : Lib.BuilderAtF 54 5 B b p bs w) (hI : I ≤ B) : Lib.BuilderAtF 54 5 I b p bs w := by
  obtain ⟨h1, v, h2, h3, h4⟩ := h
  refine ⟨Nat.le_trans hI h1, v, h2, ⟨h3.1, ?_⟩, h4⟩
  rcases h3.2 with h5 | ⟨g, cap, cur, fz, e1, e2, e3⟩
  · exact .inl h5
  · exact .inr ⟨g, cap, cur, fz, e1, Nat.le_trans hI e2, e3⟩

/-- 'in.block = new(strings.Builder); in.block.Grow(..)'. -/
theorem grow_step (I k : Nat) (W0 : World) (mv bv : Value) (s : ByteArray) (D : DataW Unit) (hs : s.size ≤ 1048576) (g1 : Cells W0 I mv bv) (g3 : MapPart W0 I mv k D) :
    Calls Try.prog 29 #[.pointer (some ⟨W0.heap.size, 0, none⟩), .int .i64 (max 65536 (s.size : Int))] ((W0.setCell ⟨I, 1, none⟩ (.pointer (some ⟨W0.heap.size, 0, none⟩))).alloc (.cells #[.pointer none, .slice none 0 0] 54))
      fun e W1 => e = .returned (.tuple #[]) ∧ Cells W1 I mv (.pointer (some ⟨W0.heap.size, 0, none⟩)) ∧ MapPart W1 I mv k D ∧ Lib.IsBuilderF 54 5 I W0.heap.size (Lib.byteCells []) W1 ∧ Below I W0 W1 := by
  have hI := g1.lt
  have hc : ((max 65536 s.size : Nat) : Int) = max 65536 (s.size : Int) := by omega
  have hsz : (W0.setCell ⟨I, 1, none⟩ (.pointer (some ⟨W0.heap.size, 0, none⟩))).heap.size = W0.heap.size := World.size_setCell _ _ _
  have hbk : ((W0.setCell ⟨I, 1, none⟩ (.pointer (some ⟨W0.heap.size, 0, none⟩))).alloc (.cells #[.pointer none, .slice none 0 0] 54)).heap[W0.heap.size]? = some (.cells #[.pointer none, .slice none 0 0] 54 (0, 0)) := by
    have h := Go.Deep.blk_alloc_new (W0.setCell ⟨I, 1, none⟩ (.pointer (some ⟨W0.heap.size, 0, none⟩))) (.cells #[.pointer none, .slice none 0 0] 54)
    rw [hsz] at h
    exact h
  have hgr := Try.Builder_Grow_fresh W0.heap.size W0.heap.size (max 65536 s.size) _ (Nat.le_refl _) hbk (by simp) (by omega)
  rw [hc] at hgr
  refine hgr.mono ?_
  rintro e W1 ⟨rfl, ⟨hB, hb⟩, _⟩
  have k1 : Cells ((W0.setCell ⟨I, 1, none⟩ (.pointer (some ⟨W0.heap.size, 0, none⟩))).alloc (.cells #[.pointer none, .slice none 0 0] 54)) I mv (.pointer (some ⟨W0.heap.size, 0, none⟩)) := (g1.set1 _).alloc _
  have kb : Below I W0 ((W0.setCell ⟨I, 1, none⟩ (.pointer (some ⟨W0.heap.size, 0, none⟩))).alloc (.cells #[.pointer none, .slice none 0 0] 54)) := ((Below.refl I W0).setCell (p := ⟨I, 1, none⟩) (Nat.le_refl _) _).alloc (by rw [World.size_setCell]; omega) _
  refine ⟨rfl, ?_, ?_, .inr (baseF (Lib.BuilderAtF.of hB) (by omega)), kb.trans (hb.mono (by omega))⟩
  · unfold Cells at *
    rw [hb.block I hI]
    exact k1
  · refine g3.elim .inl ?_
    rintro ⟨m, e, hlt, ho⟩
    have hm := ho.lt
    refine .inr ⟨m, e, hlt, owns_of ho ?_⟩
    rw [hb.block m hm, Below.heap_alloc _ _ _ (by rw [hsz]; exact hm), Below.heap_setCell _ _ _ _ (by show m ≠ I; omega)]

/-- What stands behind String(): the text, and its tail from the old length on. -/
theorem tail_of (l : List UInt8) (s : ByteArray) : l.length ≤ (⟨(l ++ s.data.toList).toArray⟩ : ByteArray).size ∧ (⟨(l ++ s.data.toList).toArray⟩ : ByteArray).extract l.length (⟨(l ++ s.data.toList).toArray⟩ : ByteArray).size = s := by
  have hsz : (⟨(l ++ s.data.toList).toArray⟩ : ByteArray).size = l.length + s.data.toList.length := by show (l ++ s.data.toList).toArray.size = _; simp
  refine ⟨by omega, ext_list ?_⟩
  rw [Lib.extract_data, hsz]
  show ((l ++ s.data.toList).drop l.length).take _ = _
  rw [List.drop_left]
  apply List.take_of_length_le
  omega
theorem written {w : World} {I b : Nat} {l : List UInt8} {s : ByteArray} (h : Lib.BuilderAtF 54 5 I b (.pointer (some ⟨b, 0, none⟩)) (Lib.byteCells l ++ Lib.strCells s) w) : Lib.IsBuilderF 54 5 I b (Lib.byteCells (l ++ s.data.toList)) w := by
  rw [Lib.strCells_eq, ← Lib.byteCells_append] at h
  exact .inr h
theorem map_others {w w' : World} {I k b : Nat} {mv : Value} {D : DataW Unit} {l : List UInt8} (h : MapPart w I mv k D) (hb : Lib.IsBuilderF 54 5 I b (Lib.byteCells l) w) (ho : Lib.OthersKept 5 (some b) w w') : MapPart w' I mv k D := by
  refine h.elim .inl ?_
  rintro ⟨m, e, hlt, hw⟩
  refine .inr ⟨m, e, hlt, owns_others hw ?_ ho⟩
  rintro rfl
  obtain ⟨es, c, hm, _⟩ := hw
  have hcell : ∃ cs, w.heap[m]? = some (.cells cs 54 (0, 0)) := by
    rcases hb with ⟨_, v, h2, _⟩ | ⟨_, v, h2, _⟩
    · exact ⟨_, h2⟩
    · exact ⟨_, h2⟩
  obtain ⟨cs, h2⟩ := hcell
  rw [hm] at h2
  injection h2 with h2
  cases h2

theorem mapEq (w : World) (r : Option Nat) : (binOp .eql 40 (.map r) (.map none)).run Try.prog w = .ok (.bool r.isNone) w := run_eql_map_nil (P := Try.prog) w 40 9 9 r Try.underlying40

/-- 'in.seen[kept] = kept' on a map that is there. -/
theorem store_old {w : World} {I k m b : Nat} {D : DataW Unit} {Sn : List (List UInt8)} {l : List UInt8} {s : ByteArray} (hC : Cells w I (.map (some m)) (.pointer (some ⟨b, 0, none⟩))) (hg : Good D Sn) (hIm : I < m) (ho : Owns w m k D) (hb : I < b) (hB : Lib.IsBuilderF 54 5 I b (Lib.byteCells l) w) (hl : l.length ≤ (k + 1) * 1048576) (hk : k ≤ 8192) (hs : s.size ≤ 1048576) (hf : Sn.contains s.data.toList = false) :
    ∃ w', (Instr.mapUpdate 40 (.map (some m)) (.string s) (.string s)).run Try.prog w = .ok () w' ∧ St w' I (s.data.toList :: Sn) (k + 1) ∧ Below I w w' := by
  have hkey : keyOf Try.prog 9 (.string s) = some (.string s.data.toList) := WideMaps.keyOf_string_mk Try.underlying9 (by unfold maxLen; omega)
  obtain ⟨w', hrun, ho', ht⟩ := ho.store law Try.underlying40 (by unfold maxLen; omega) hkey (plainElem_string Try.underlying9 (s := s) (by unfold maxLen; omega))
  refine ⟨w', hrun, ⟨_, _, _, cells_turned hC ht (by omega), hg.new hf, .inr ⟨m, rfl, hIm, ho'⟩, .inr ⟨b, l, rfl, hb, bld_keep hC hB hb (rows_turned ht), hl⟩⟩, ?_⟩
  exact (Below.refl I w).grown ht.grown (Nat.le_of_lt hC.lt) (by intro j e; injection e with e; omega)
/-- .. on one that has just been made. -/
theorem store_new {w : World} {I k b : Nat} {l : List UInt8} {s : ByteArray} (hC : Cells w I (.map none) (.pointer (some ⟨b, 0, none⟩))) (hb : I < b) (hB : Lib.IsBuilderF 54 5 I b (Lib.byteCells l) w) (hl : l.length ≤ (k + 1) * 1048576) (hk : k ≤ 8192) (hs : s.size ≤ 1048576) :
    ∃ w', (Instr.mapUpdate 40 (.map (some w.heap.size)) (.string s) (.string s)).run Try.prog ((w.setCell ⟨I, 0, none⟩ (.map (some w.heap.size))).alloc (.map #[] 0)) = .ok () w' ∧ St w' I [s.data.toList] (k + 1) ∧ Below I w w' := by
  have hkey : keyOf Try.prog 9 (.string s) = some (.string s.data.toList) := WideMaps.keyOf_string_mk Try.underlying9 (by unfold maxLen; omega)
  have hI := hC.lt
  have ho : Owns ((w.setCell ⟨I, 0, none⟩ (.map (some w.heap.size))).alloc (.map #[] 0)) w.heap.size 0 (.map []) := by
    have h := World.ownsMap_made (H := Unit) (w.setCell ⟨I, 0, none⟩ (.map (some w.heap.size))) Try.prog 9 (plainElem Try.prog 9)
    rw [World.size_setCell] at h
    exact h
  have hC2 : Cells ((w.setCell ⟨I, 0, none⟩ (.map (some w.heap.size))).alloc (.map #[] 0)) I (.map (some w.heap.size)) (.pointer (some ⟨b, 0, none⟩)) := (hC.set0 _).alloc _
  have hB2 : Lib.IsBuilderF 54 5 I b (Lib.byteCells l) ((w.setCell ⟨I, 0, none⟩ (.map (some w.heap.size))).alloc (.map #[] 0)) := bld_keep hC hB hb (rows_trans (rows_set 0 _) (rows_alloc _))
  obtain ⟨w', hrun, hst, hbl⟩ := store_old (s := s) (k := k) hC2 Good.empty hI (ho.mono (Nat.zero_le k)) hb hB2 hl hk hs rfl
  exact ⟨w', hrun, hst, (((Below.refl I w).setCell (p := ⟨I, 0, none⟩) (Nat.le_refl _) _).alloc (by rw [World.size_setCell]; omega) _).trans hbl⟩

set_option maxHeartbeats 2000000 in
theorem intern_new1 (I k : Nat) (Sn : List (List UInt8)) (s : ByteArray) (w : World) (mv : Value) (D : DataW Unit) (h1 : Cells w I mv (.pointer none)) (h2 : Good D Sn) (h3 : MapPart w I mv k D) (hs : s.size ≤ 1048576) (hk : k ≤ 8192) (hf : Sn.contains s.data.toList = false) :
    Calls Try.prog 24 #[.pointer (some ⟨I, 0, none⟩), .string s] w fun e w' => e = .returned (.string s) ∧ St w' I (s.data.toList :: Sn) (k + 1) ∧ Below I w w' := by
  obtain ⟨v, hl, _⟩ := look h2 h3 s hs
  rw [hf] at hl
  have c0 := h1.c0
  have c1 := h1.c1
  have f1 := h1.fz 1
  go_enter Try.func24, Try.ntmps24
  go_wp2
  go_quiet (fail)
  have g1 := cellsN nq h1
  have g3 := mapN nq h3
  have gb : Below I w (w.drewN nq) := below_drewN (Below.refl _ _) _
  clear h1 h3 c0 c1 f1 hl
  generalize w.drewN nq = W0 at g1 g3 gb ⊢
  have c0 := g1.c0
  have c1 := g1.c1
  have f1 := g1.fz 1
  have hI := g1.lt
  go_wp2_with fail
  refine (grow_step I k W0 mv _ s D hs g1 g3).mono ?_
  rintro e W1 ⟨rfl, hC, hM, hB, hbG⟩
  have hbw := gb.trans hbG
  have hIb : I < W0.heap.size := hI
  clear g1 g3 gb hbG c0 c1 f1 hI
  generalize W0.heap.size = b at hC hB hIb ⊢
  obtain ⟨l, hl0, hlb, hl4⟩ : ∃ l : List UInt8, l = [] ∧ l.length ≤ 8193 * 1048576 ∧ (l ++ s.data.toList).length ≤ (k + 1) * 1048576 := ⟨[], rfl, by simp, by have e := Lib.size_eq s; simp at e ⊢; omega⟩
  rw [← hl0] at hB
  clear hl0
  have c1 := hC.c1
  have hI := hC.lt
  obtain ⟨ao, cap, d1, hcap⟩ := bld_cell hB
  go_wp2_with fail
  refine (len27 b l.length cap ao _ d1).mono ?_
  rintro e w' ⟨rfl, rfl⟩
  clear d1
  go_wp2_with fail
  refine (Try.Builder_WriteString I b _ s _ hB (by rw [Lib.byteCells_length]; omega) (Nat.le_of_lt hI)).mono ?_
  rintro e W3 ⟨rfl, hB3, hb3, ho3⟩
  have hM3 := map_others hM hB ho3
  have hC3 := cells_others hC (by omega) ho3
  have hB3' := written hB3
  clear hC hM hB hB3 ho3 c1 hI
  have c1 := hC3.c1
  have hI := hC3.lt
  go_wp2_with fail
  refine (Try.Builder_String I b _ _ hB3' (Nat.le_of_lt hI)).mono ?_
  rintro e W4 ⟨rfl, hB4, hb4, ho4⟩
  have hM4 := map_others hM3 hB3' ho4
  have hC4 := cells_others hC3 (by omega) ho4
  clear hC3 hM3 hB3' ho4 c1 hI
  have c0 := hC4.c0
  have f0 := hC4.fz 0
  have hI := hC4.lt
  obtain ⟨hT1, hT2⟩ := tail_of l s
  generalize (⟨(l ++ s.data.toList).toArray⟩ : ByteArray) = T at hT1 hT2 ⊢
  have hmq := mapEq
  have hb34 := hbw.trans (hb3.trans hb4)
  rcases hM4 with ⟨rfl, rfl⟩ | ⟨m, rfl, hIm, hO⟩
  · obtain rfl := h2.nil
    have hmm := @run_makeMap Try.prog
    obtain ⟨W5, hrun, hst, hb5⟩ := store_new (k := k) (s := s) hC4 hIb hB4 hl4 hk hs
    have HS := Lib.hid (And.intro hst hb5)
    clear hst hb5
    go_wp2
    go_ret
    exact ⟨rfl, HS.out.1, hb34.trans HS.out.2⟩
  · obtain ⟨W5, hrun, hst, hb5⟩ := store_old (k := k) (s := s) hC4 h2 hIm hO hIb hB4 hl4 hk hs hf
    have HS := Lib.hid (And.intro hst hb5)
    clear hst hb5
    go_wp2
    go_ret
    exact ⟨rfl, HS.out.1, hb34.trans HS.out.2⟩

set_option maxHeartbeats 2000000 in
/-- There is a builder; it has no room. -/
theorem intern_new2 (I k b0 : Nat) (Sn : List (List UInt8)) (s : ByteArray) (w : World) (mv : Value) (D : DataW Unit) (l0 : List UInt8) (h1 : Cells w I mv (.pointer (some ⟨b0, 0, none⟩))) (h2 : Good D Sn) (h3 : MapPart w I mv k D) (hB0 : Lib.IsBuilderF 54 5 I b0 (Lib.byteCells l0) w) (hs : s.size ≤ 1048576) (hk : k ≤ 8192) (hl0 : l0.length ≤ k * 1048576) (hf : Sn.contains s.data.toList = false)
    (ao : Option Addr) (cap : Nat) (hcap : cap ≤ 9223372036854775807) (hcell : w.cell? ⟨b0, 1, none⟩ = some (.slice ao l0.length cap)) (hroom : cap < l0.length + s.size) :
    Calls Try.prog 24 #[.pointer (some ⟨I, 0, none⟩), .string s] w fun e w' => e = .returned (.string s) ∧ St w' I (s.data.toList :: Sn) (k + 1) ∧ Below I w w' := by
  obtain ⟨v, hl, _⟩ := look h2 h3 s hs
  rw [hf] at hl
  have c0 := h1.c0
  have c1 := h1.c1
  have f1 := h1.fz 1
  have hl00 : l0.length ≤ 8589934592 := by omega
  have hroom2 : (cap : Int) < (l0.length : Int) + (s.size : Int) := by omega
  go_enter Try.func24, Try.ntmps24
  go_wp2
  go_quiet (first | (go_at_call 27; exact Calls.quiet_of_same (len27 b0 l0.length cap ao _ hcell)) | (go_at_call 28; exact Calls.quiet_of_same (cap28 b0 l0.length cap ao _ hcell)))
  have g1 := cellsN nq h1
  have g3 := mapN nq h3
  have gb : Below I w (w.drewN nq) := below_drewN (Below.refl _ _) _
  clear h1 h3 c0 c1 f1 hl hB0 hcell
  generalize w.drewN nq = W0 at g1 g3 gb ⊢
  have c0 := g1.c0
  have c1 := g1.c1
  have f1 := g1.fz 1
  have hI := g1.lt
  go_wp2_with fail
  refine (grow_step I k W0 mv _ s D hs g1 g3).mono ?_
  rintro e W1 ⟨rfl, hC, hM, hB, hbG⟩
  have hbw := gb.trans hbG
  have hIb : I < W0.heap.size := hI
  clear g1 g3 gb hbG c0 c1 f1 hI hroom hroom2 hcap hl0 hl00
  generalize W0.heap.size = b at hC hB hIb ⊢
  obtain ⟨l, hl0, hlb, hl4⟩ : ∃ l : List UInt8, l = [] ∧ l.length ≤ 8193 * 1048576 ∧ (l ++ s.data.toList).length ≤ (k + 1) * 1048576 := ⟨[], rfl, by simp, by have e := Lib.size_eq s; simp at e ⊢; omega⟩
  rw [← hl0] at hB
  clear hl0
  have c1 := hC.c1
  have hI := hC.lt
  obtain ⟨ao2, cap2, d1, hcap2⟩ := bld_cell hB
  go_wp2_with fail
  refine (len27 b l.length cap2 ao2 _ d1).mono ?_
  rintro e w' ⟨rfl, rfl⟩
  clear d1
  go_wp2_with fail
  refine (Try.Builder_WriteString I b _ s _ hB (by rw [Lib.byteCells_length]; omega) (Nat.le_of_lt hI)).mono ?_
  rintro e W3 ⟨rfl, hB3, hb3, ho3⟩
  have hM3 := map_others hM hB ho3
  have hC3 := cells_others hC (by omega) ho3
  have hB3' := written hB3
  clear hC hM hB hB3 ho3 c1 hI
  have c1 := hC3.c1
  have hI := hC3.lt
  go_wp2_with fail
  refine (Try.Builder_String I b _ _ hB3' (Nat.le_of_lt hI)).mono ?_
  rintro e W4 ⟨rfl, hB4, hb4, ho4⟩
  have hM4 := map_others hM3 hB3' ho4
  have hC4 := cells_others hC3 (by omega) ho4
  clear hC3 hM3 hB3' ho4 c1 hI
  have c0 := hC4.c0
  have f0 := hC4.fz 0
  have hI := hC4.lt
  obtain ⟨hT1, hT2⟩ := tail_of l s
  generalize (⟨(l ++ s.data.toList).toArray⟩ : ByteArray) = T at hT1 hT2 ⊢
  have hmq := mapEq
  have hb34 := hbw.trans (hb3.trans hb4)
  rcases hM4 with ⟨rfl, rfl⟩ | ⟨m, rfl, hIm, hO⟩
  · obtain rfl := h2.nil
    have hmm := @run_makeMap Try.prog
    obtain ⟨W5, hrun, hst, hb5⟩ := store_new (k := k) (s := s) hC4 hIb hB4 hl4 hk hs
    have HS := Lib.hid (And.intro hst hb5)
    clear hst hb5
    go_wp2
    go_ret
    exact ⟨rfl, HS.out.1, hb34.trans HS.out.2⟩
  · obtain ⟨W5, hrun, hst, hb5⟩ := store_old (k := k) (s := s) hC4 h2 hIm hO hIb hB4 hl4 hk hs hf
    have HS := Lib.hid (And.intro hst hb5)
    clear hst hb5
    go_wp2
    go_ret
    exact ⟨rfl, HS.out.1, hb34.trans HS.out.2⟩

set_option maxHeartbeats 2000000 in
/-- There is a builder with room. -/
theorem intern_new3 (I k b : Nat) (Sn : List (List UInt8)) (s : ByteArray) (w : World) (mv : Value) (D : DataW Unit) (l : List UInt8) (h1 : Cells w I mv (.pointer (some ⟨b, 0, none⟩))) (h2 : Good D Sn) (h3 : MapPart w I mv k D) (hIb : I < b) (hB0 : Lib.IsBuilderF 54 5 I b (Lib.byteCells l) w) (hs : s.size ≤ 1048576) (hk : k ≤ 8192) (hl0 : l.length ≤ k * 1048576) (hf : Sn.contains s.data.toList = false)
    (ao : Option Addr) (cap : Nat) (hcap : cap ≤ 9223372036854775807) (hcell : w.cell? ⟨b, 1, none⟩ = some (.slice ao l.length cap)) (hroom : l.length + s.size ≤ cap) :
    Calls Try.prog 24 #[.pointer (some ⟨I, 0, none⟩), .string s] w fun e w' => e = .returned (.string s) ∧ St w' I (s.data.toList :: Sn) (k + 1) ∧ Below I w w' := by
  obtain ⟨v, hl, _⟩ := look h2 h3 s hs
  rw [hf] at hl
  have c0 := h1.c0
  have c1 := h1.c1
  have f1 := h1.fz 1
  have hlb : l.length ≤ 8193 * 1048576 := Nat.le_trans hl0 (Nat.mul_le_mul_right _ (by omega))
  have hl4 : (l ++ s.data.toList).length ≤ (k + 1) * 1048576 := by have e := Lib.size_eq s; rw [List.length_append]; omega
  have hroom2 : ¬ ((cap : Int) < (l.length : Int) + (s.size : Int)) := by omega
  go_enter Try.func24, Try.ntmps24
  go_wp2
  go_quiet (first | (go_at_call 27; exact Calls.quiet_of_same (len27 b l.length cap ao _ hcell)) | (go_at_call 28; exact Calls.quiet_of_same (cap28 b l.length cap ao _ hcell)))
  have hC := cellsN nq h1
  have hM := mapN nq h3
  have hB := bldN nq hB0
  have hbw : Below I w (w.drewN nq) := below_drewN (Below.refl _ _) _
  clear h1 h3 c0 c1 f1 hl hB0 hcell
  generalize w.drewN nq = W1 at hC hM hB hbw ⊢
  clear hroom hcap
  have c1 := hC.c1
  have hI := hC.lt
  obtain ⟨ao2, cap2, d1, hcap2⟩ := bld_cell hB
  go_wp2_with fail
  refine (len27 b l.length cap2 ao2 _ d1).mono ?_
  rintro e w' ⟨rfl, rfl⟩
  clear d1
  go_wp2_with fail
  refine (Try.Builder_WriteString I b _ s _ hB (by rw [Lib.byteCells_length]; omega) (Nat.le_of_lt hI)).mono ?_
  rintro e W3 ⟨rfl, hB3, hb3, ho3⟩
  have hM3 := map_others hM hB ho3
  have hC3 := cells_others hC (by omega) ho3
  have hB3' := written hB3
  clear hC hM hB hB3 ho3 c1 hI
  have c1 := hC3.c1
  have hI := hC3.lt
  go_wp2_with fail
  refine (Try.Builder_String I b _ _ hB3' (Nat.le_of_lt hI)).mono ?_
  rintro e W4 ⟨rfl, hB4, hb4, ho4⟩
  have hM4 := map_others hM3 hB3' ho4
  have hC4 := cells_others hC3 (by omega) ho4
  clear hC3 hM3 hB3' ho4 c1 hI
  have c0 := hC4.c0
  have f0 := hC4.fz 0
  have hI := hC4.lt
  obtain ⟨hT1, hT2⟩ := tail_of l s
  generalize (⟨(l ++ s.data.toList).toArray⟩ : ByteArray) = T at hT1 hT2 ⊢
  have hmq := mapEq
  have hb34 := hbw.trans (hb3.trans hb4)
  rcases hM4 with ⟨rfl, rfl⟩ | ⟨m, rfl, hIm, hO⟩
  · obtain rfl := h2.nil
    have hmm := @run_makeMap Try.prog
    obtain ⟨W5, hrun, hst, hb5⟩ := store_new (k := k) (s := s) hC4 hIb hB4 hl4 hk hs
    have HS := Lib.hid (And.intro hst hb5)
    clear hst hb5
    go_wp2
    go_ret
    exact ⟨rfl, HS.out.1, hb34.trans HS.out.2⟩
  · obtain ⟨W5, hrun, hst, hb5⟩ := store_old (k := k) (s := s) hC4 h2 hIm hO hIb hB4 hl4 hk hs hf
    have HS := Lib.hid (And.intro hst hb5)
    clear hst hb5
    go_wp2
    go_ret
    exact ⟨rfl, HS.out.1, hb34.trans HS.out.2⟩

/-- intern, WHOLE. -/
theorem intern_any (I k : Nat) (Sn : List (List UInt8)) (s : ByteArray) (w : World) (h : St w I Sn k) (hs : s.size ≤ 1048576) (hk : k ≤ 8192) :
    Calls Try.prog 24 #[.pointer (some ⟨I, 0, none⟩), .string s] w fun e w' => e = .returned (.string s) ∧ St w' I (s.data.toList :: Sn) (k + 1) ∧ Below I w w' := by
  cases hf : Sn.contains s.data.toList
  · obtain ⟨mv, bv, D, h1, h2, h3, h4⟩ := h
    rcases h4 with rfl | ⟨b, l, rfl, hIb, hB, hl⟩
    · exact intern_new1 I k Sn s w mv D h1 h2 h3 hs hk hf
    · obtain ⟨ao, cap, hcell, hcap⟩ := bld_cell hB
      by_cases hroom : cap < l.length + s.size
      · exact intern_new2 I k b Sn s w mv D l h1 h2 h3 hB hs hk hl hf ao cap hcap hcell hroom
      · exact intern_new3 I k b Sn s w mv D l h1 h2 h3 hIb hB hs hk hl hf ao cap hcap hcell (by omega)
  · exact intern_found I k Sn s w h hs hf

end Go.Proofs.Qxb6604019a
