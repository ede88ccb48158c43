/-
  THE SHELF's CONTRACTS ON strings.Builder AT THIS DUMP, in plain words: the layings of Grow and String as the kit's lay-plain.mjs writes them; WriteString's by hand in the same form (the tool left it out); then one application a contract.
-/
import Derived.Shelf.Strings.BuilderK
import Derived.Shelf.Strings.Builder2Cap
import Derived.Test.Qxb6604019aProg
namespace Go.Proofs
open Go.Shelf
def Try.lays165_ren : Go.Shelf.Ren := ⟨fun | 165 => 29 | 240 => 33 | 241 => 34 | 276 => 36 | 277 => 37 | n => n, fun | 70 => 47 | 3 => 3 | 0 => 0 | 4 => 4 | 9 => 9 | 20 => 20 | 72 => 54 | 37 => 52 | 164 => 63 | 5 => 5 | n => n, fun | n => n⟩
theorem Try.lays165 : Go.Proofs.Lays.n165 Try.prog Try.lays165_ren := {
  mixed := by kernel_rfl
  f165 := Try.func29.trans (congrArg some (by kernel_rfl))
  f240 := Try.func33.trans (congrArg some (by kernel_rfl))
  f241 := Try.func34.trans (congrArg some (by kernel_rfl))
  f276 := Try.func36.trans (congrArg some (by kernel_rfl))
  f277 := Try.func37.trans (congrArg some (by kernel_rfl))
  t0 := Try.underlying0
  a0 := Try.isAgg0
  z0 := Try.sizeOf0
  v0 := Try.zeroValue0
  t3 := Try.underlying3
  a3 := Try.isAgg3
  z3 := Try.sizeOf3
  v3 := Try.zeroValue3
  t4 := Try.underlying4
  a4 := Try.isAgg4
  z4 := Try.sizeOf4
  v4 := Try.zeroValue4
  t9 := Try.underlying9
  a9 := Try.isAgg9
  z9 := Try.sizeOf9
  v9 := Try.zeroValue9
  t20 := Try.underlying20
  a20 := Try.isAgg20
  z20 := Try.sizeOf20
  v20 := Try.zeroValue20
  t37 := Try.underlying52
  a37 := Try.isAgg52
  z37 := Try.sizeOf52
  v37 := Try.zeroValue52
  t70 := Try.underlying47
  a70 := Try.isAgg47
  z70 := Try.sizeOf47
  v70 := Try.zeroValue47
  t72 := Try.underlying54
  a72 := Try.isAgg54
  z72 := Try.sizeOf54
  v72 := Try.zeroValue54
  t164 := Try.underlying63
  a164 := Try.isAgg63
  z164 := Try.sizeOf63
  v164 := Try.zeroValue63 }
def Try.lays169_ren : Go.Shelf.Ren := ⟨fun | 169 => 31 | n => n, fun | 70 => 47 | 9 => 9 | 0 => 0 | 72 => 54 | 37 => 52 | 127 => 61 | 3 => 3 | 5 => 5 | n => n, fun | n => n⟩
theorem Try.lays169 : Go.Proofs.Lays.n169 Try.prog Try.lays169_ren := {
  mixed := by kernel_rfl
  f169 := Try.func31.trans (congrArg some (by kernel_rfl))
  t0 := Try.underlying0
  a0 := Try.isAgg0
  z0 := Try.sizeOf0
  v0 := Try.zeroValue0
  t3 := Try.underlying3
  a3 := Try.isAgg3
  z3 := Try.sizeOf3
  v3 := Try.zeroValue3
  t9 := Try.underlying9
  a9 := Try.isAgg9
  z9 := Try.sizeOf9
  v9 := Try.zeroValue9
  t37 := Try.underlying52
  a37 := Try.isAgg52
  z37 := Try.sizeOf52
  v37 := Try.zeroValue52
  t70 := Try.underlying47
  a70 := Try.isAgg47
  z70 := Try.sizeOf47
  v70 := Try.zeroValue47
  t72 := Try.underlying54
  a72 := Try.isAgg54
  z72 := Try.sizeOf54
  v72 := Try.zeroValue54
  t127 := Try.underlying61
  a127 := Try.isAgg61
  z127 := Try.sizeOf61
  v127 := Try.zeroValue61 }
def Try.lays166_ren : Go.Shelf.Ren := ⟨fun | 166 => 30 | 240 => 33 | 276 => 36 | n => n, fun | 70 => 47 | 3 => 3 | 0 => 0 | 4 => 4 | 9 => 9 | 20 => 20 | 72 => 54 | 37 => 52 | 75 => 57 | 80 => 60 | 164 => 63 | 5 => 5 | n => n, fun | n => n⟩
theorem Try.lays166 : Go.Proofs.Lays.n166 Try.prog Try.lays166_ren := {
  mixed := by kernel_rfl
  f166 := Try.func30.trans (congrArg some (by kernel_rfl))
  f240 := Try.func33.trans (congrArg some (by kernel_rfl))
  f276 := Try.func36.trans (congrArg some (by kernel_rfl))
  t0 := Try.underlying0
  a0 := Try.isAgg0
  z0 := Try.sizeOf0
  v0 := Try.zeroValue0
  t3 := Try.underlying3
  a3 := Try.isAgg3
  z3 := Try.sizeOf3
  v3 := Try.zeroValue3
  t4 := Try.underlying4
  a4 := Try.isAgg4
  z4 := Try.sizeOf4
  v4 := Try.zeroValue4
  t9 := Try.underlying9
  a9 := Try.isAgg9
  z9 := Try.sizeOf9
  v9 := Try.zeroValue9
  t20 := Try.underlying20
  a20 := Try.isAgg20
  z20 := Try.sizeOf20
  v20 := Try.zeroValue20
  t37 := Try.underlying52
  a37 := Try.isAgg52
  z37 := Try.sizeOf52
  v37 := Try.zeroValue52
  t70 := Try.underlying47
  a70 := Try.isAgg47
  z70 := Try.sizeOf47
  v70 := Try.zeroValue47
  t72 := Try.underlying54
  a72 := Try.isAgg54
  z72 := Try.sizeOf54
  v72 := Try.zeroValue54
  t75 := Try.underlying57
  a75 := Try.isAgg57
  z75 := Try.sizeOf57
  v75 := Try.zeroValue57
  t164 := Try.underlying63
  a164 := Try.isAgg63
  z164 := Try.sizeOf63
  v164 := Try.zeroValue63 }
theorem Try.Builder_Extra_165 : Builder.Extra Try.prog Try.lays165_ren := {
  sizeBuilder := by kernel_rfl
  liesBuilder := by kernel_rfl
  t5 := Try.underlying5
  a5 := Try.isAgg5
  z5 := Try.sizeOf5
  v5 := Try.zeroValue5
  infoByte := by kernel_rfl
  cellsByte := by kernel_rfl
  sizeByte := by kernel_rfl
  neB5 := by decide }
theorem Try.Builder_Extra_166 : Builder.Extra Try.prog Try.lays166_ren := {
  sizeBuilder := by kernel_rfl
  liesBuilder := by kernel_rfl
  t5 := Try.underlying5
  a5 := Try.isAgg5
  z5 := Try.sizeOf5
  v5 := Try.zeroValue5
  infoByte := by kernel_rfl
  cellsByte := by kernel_rfl
  sizeByte := by kernel_rfl
  neB5 := by decide }
theorem Try.Builder_Extra_169 : Builder.Extra Try.prog Try.lays169_ren := {
  sizeBuilder := by kernel_rfl
  liesBuilder := by kernel_rfl
  t5 := Try.underlying5
  a5 := Try.isAgg5
  z5 := Try.sizeOf5
  v5 := Try.zeroValue5
  infoByte := by kernel_rfl
  cellsByte := by kernel_rfl
  sizeByte := by kernel_rfl
  neB5 := by decide }
open Go.RowKit in
theorem Try.Builder_Grow_fresh (B b n : Nat) (w : World) (hB : B ≤ b) (hbk : w.heap[b]? = some (.cells #[.pointer none, .slice none 0 0] 54 (0, 0))) (hBw : B ≤ w.heap.size) (hn : n ≤ 281474976710656) :
    Calls Try.prog 29 #[.pointer (some ⟨b, 0, none⟩), .int .i64 n] w fun e w' => e = .returned (.tuple #[]) ∧ (Lib.BuilderAt 54 5 B b (.pointer (some ⟨b, 0, none⟩)) [] w' ∧ Below B w w') ∧ ∃ p cap, w'.cell? ⟨b, 1, none⟩ = some (.slice p 0 cap) ∧ n ≤ cap := Any.Builder_Grow_fresh_cap Try.lays165 Try.Builder_Extra_165 B b n w hB hbk hBw hn
open Go.RowKit in
theorem Try.Builder_WriteString (B b : Nat) (bs : List Value) (s : ByteArray) (w : World) (h : Lib.IsBuilderF 54 5 B b bs w) (hlen : bs.length + s.size ≤ 140737488355328) (hBw : B ≤ w.heap.size) :
    Calls Try.prog 30 #[.pointer (some ⟨b, 0, none⟩), .string s] w fun e w' => e = .returned (.tuple #[.int .i64 s.size, .nilIface]) ∧ (Lib.BuilderAtF 54 5 B b (.pointer (some ⟨b, 0, none⟩)) (bs ++ Lib.strCells s) w' ∧ Below B w w' ∧ Lib.OthersKept 5 (some b) w w') := Any.Builder_WriteString_k Try.lays166 Try.Builder_Extra_166 B b bs s w h hlen hBw
open Go.RowKit in
theorem Try.Builder_String (B b : Nat) (l : List UInt8) (w : World) (h : Lib.IsBuilderF 54 5 B b (Lib.byteCells l) w) (hBw : B ≤ w.heap.size) :
    Calls Try.prog 31 #[.pointer (some ⟨b, 0, none⟩)] w fun e w' => e = .returned (.string ⟨l.toArray⟩) ∧ (Lib.IsBuilderF 54 5 B b (Lib.byteCells l) w' ∧ Below B w w' ∧ Lib.OthersKept 5 (some b) w w') := Any.Builder_String_any_k Try.lays169 Try.Builder_Extra_169 B b l w h hBw
end Go.Proofs
