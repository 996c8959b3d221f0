import Derived.Shelf.Strings.Builder1
import Derived.Shelf.Strings.Builder2
import Derived.Shelf.Strings.OnBuilder
import Derived.Test.Qxb6615051aFmtProg
namespace Go.Proofs
open Go.Shelf
def Tryf.lays169_ren : Go.Shelf.Ren := ⟨fun | 169 => 55 | n => n, fun | 70 => 82 | 9 => 9 | 0 => 0 | 72 => 84 | 37 => 34 | 127 => 97 | 3 => 3 | 5 => 5 | n => n, fun | n => n⟩
theorem Tryf.lays169 : Go.Proofs.Lays.n169 Tryf.prog Tryf.lays169_ren := {
  mixed := by kernel_rfl
  f169 := Tryf.func55.trans (congrArg some (by kernel_rfl))
  t0 := Tryf.underlying0
  a0 := Tryf.isAgg0
  z0 := Tryf.sizeOf0
  v0 := Tryf.zeroValue0
  t3 := Tryf.underlying3
  a3 := Tryf.isAgg3
  z3 := Tryf.sizeOf3
  v3 := Tryf.zeroValue3
  t9 := Tryf.underlying9
  a9 := Tryf.isAgg9
  z9 := Tryf.sizeOf9
  v9 := Tryf.zeroValue9
  t37 := Tryf.underlying34
  a37 := Tryf.isAgg34
  z37 := Tryf.sizeOf34
  v37 := Tryf.zeroValue34
  t70 := Tryf.underlying82
  a70 := Tryf.isAgg82
  z70 := Tryf.sizeOf82
  v70 := Tryf.zeroValue82
  t72 := Tryf.underlying84
  a72 := Tryf.isAgg84
  z72 := Tryf.sizeOf84
  v72 := Tryf.zeroValue84
  t127 := Tryf.underlying97
  a127 := Tryf.isAgg97
  z127 := Tryf.sizeOf97
  v127 := Tryf.zeroValue97 }
theorem Tryf.Builder_Extra_169 : Builder.Extra Tryf.prog Tryf.lays169_ren := {
  sizeBuilder := by kernel_rfl
  liesBuilder := by kernel_rfl
  t5 := Tryf.underlying5
  a5 := Tryf.isAgg5
  z5 := Tryf.sizeOf5
  v5 := Tryf.zeroValue5
  infoByte := by kernel_rfl
  cellsByte := by kernel_rfl
  sizeByte := by kernel_rfl
  neB5 := by decide }
open Go.RowKit in
theorem Tryf.Builder_String (B b : Nat) (l : List UInt8) (w : World) (h : Lib.IsBuilder 84 5 B b (Lib.byteCells l) w) (h0 : l ≠ []) :
    Calls Tryf.prog 55 #[.pointer (some ⟨b, 0, none⟩)] w fun e w' => e = .returned (.string ⟨l.toArray⟩) ∧ Below B w w' := Any.Builder_String Tryf.lays169 Tryf.Builder_Extra_169 B b l w h h0
open Go.RowKit in
theorem Tryf.Builder_String_empty (B b : Nat) (w : World) (h : Lib.IsBuilder 84 5 B b [] w) (hBw : B ≤ w.heap.size) :
    Calls Tryf.prog 55 #[.pointer (some ⟨b, 0, none⟩)] w fun e w' => e = .returned (.string ⟨#[]⟩) ∧ Below B w w' := Any.Builder_String_empty Tryf.lays169 Tryf.Builder_Extra_169 B b w h hBw
open Go.RowKit in
theorem Tryf.Builder_String_any (B b : Nat) (l : List UInt8) (w : World) (h : Lib.IsBuilder 84 5 B b (Lib.byteCells l) w) (hBw : B ≤ w.heap.size) :
    Calls Tryf.prog 55 #[.pointer (some ⟨b, 0, none⟩)] w fun e w' => e = .returned (.string ⟨l.toArray⟩) ∧ Below B w w' := Any.Builder_String_any Tryf.lays169 Tryf.Builder_Extra_169 B b l w h hBw
def Tryf.lays241_ren : Go.Shelf.Ren := ⟨fun | 241 => 72 | 277 => 93 | n => n, fun | 70 => 82 | 3 => 3 | 0 => 0 | 72 => 84 | 37 => 34 | 5 => 5 | n => n, fun | n => n⟩
theorem Tryf.lays241 : Go.Proofs.Lays.n241 Tryf.prog Tryf.lays241_ren := {
  mixed := by kernel_rfl
  f241 := Tryf.func72.trans (congrArg some (by kernel_rfl))
  f277 := Tryf.func93.trans (congrArg some (by kernel_rfl))
  t0 := Tryf.underlying0
  a0 := Tryf.isAgg0
  z0 := Tryf.sizeOf0
  v0 := Tryf.zeroValue0
  t3 := Tryf.underlying3
  a3 := Tryf.isAgg3
  z3 := Tryf.sizeOf3
  v3 := Tryf.zeroValue3
  t37 := Tryf.underlying34
  a37 := Tryf.isAgg34
  z37 := Tryf.sizeOf34
  v37 := Tryf.zeroValue34
  t70 := Tryf.underlying82
  a70 := Tryf.isAgg82
  z70 := Tryf.sizeOf82
  v70 := Tryf.zeroValue82
  t72 := Tryf.underlying84
  a72 := Tryf.isAgg84
  z72 := Tryf.sizeOf84
  v72 := Tryf.zeroValue84 }
theorem Tryf.Builder_Extra_241 : Builder.Extra Tryf.prog Tryf.lays241_ren := {
  sizeBuilder := by kernel_rfl
  liesBuilder := by kernel_rfl
  t5 := Tryf.underlying5
  a5 := Tryf.isAgg5
  z5 := Tryf.sizeOf5
  v5 := Tryf.zeroValue5
  infoByte := by kernel_rfl
  cellsByte := by kernel_rfl
  sizeByte := by kernel_rfl
  neB5 := by decide }
open Go.RowKit in
theorem Tryf.Builder_grow_fresh (B b n : Nat) (w : World) (hB : B ≤ b) (hbk : w.heap[b]? = some (.cells #[.pointer (some ⟨b, 0, none⟩), .slice none 0 0] 84 (0, 0))) (hBw : B ≤ w.heap.size) (hn : n ≤ 281474976710656) :
    Calls Tryf.prog 72 #[.pointer (some ⟨b, 0, none⟩), .int .i64 n] w fun e w' => e = .returned (.tuple #[]) ∧ (Lib.BuilderAt 84 5 B b (.pointer (some ⟨b, 0, none⟩)) [] w' ∧ Below B w w') := Any.Builder_grow_fresh Tryf.lays241 Tryf.Builder_Extra_241 B b n w hB hbk hBw hn
def Tryf.lays165_ren : Go.Shelf.Ren := ⟨fun | 165 => 53 | 240 => 71 | 241 => 72 | 276 => 92 | 277 => 93 | n => n, fun | 70 => 82 | 3 => 3 | 0 => 0 | 4 => 4 | 9 => 9 | 20 => 20 | 72 => 84 | 37 => 34 | 164 => 112 | 5 => 5 | n => n, fun | n => n⟩
theorem Tryf.lays165 : Go.Proofs.Lays.n165 Tryf.prog Tryf.lays165_ren := {
  mixed := by kernel_rfl
  f165 := Tryf.func53.trans (congrArg some (by kernel_rfl))
  f240 := Tryf.func71.trans (congrArg some (by kernel_rfl))
  f241 := Tryf.func72.trans (congrArg some (by kernel_rfl))
  f276 := Tryf.func92.trans (congrArg some (by kernel_rfl))
  f277 := Tryf.func93.trans (congrArg some (by kernel_rfl))
  t0 := Tryf.underlying0
  a0 := Tryf.isAgg0
  z0 := Tryf.sizeOf0
  v0 := Tryf.zeroValue0
  t3 := Tryf.underlying3
  a3 := Tryf.isAgg3
  z3 := Tryf.sizeOf3
  v3 := Tryf.zeroValue3
  t4 := Tryf.underlying4
  a4 := Tryf.isAgg4
  z4 := Tryf.sizeOf4
  v4 := Tryf.zeroValue4
  t9 := Tryf.underlying9
  a9 := Tryf.isAgg9
  z9 := Tryf.sizeOf9
  v9 := Tryf.zeroValue9
  t20 := Tryf.underlying20
  a20 := Tryf.isAgg20
  z20 := Tryf.sizeOf20
  v20 := Tryf.zeroValue20
  t37 := Tryf.underlying34
  a37 := Tryf.isAgg34
  z37 := Tryf.sizeOf34
  v37 := Tryf.zeroValue34
  t70 := Tryf.underlying82
  a70 := Tryf.isAgg82
  z70 := Tryf.sizeOf82
  v70 := Tryf.zeroValue82
  t72 := Tryf.underlying84
  a72 := Tryf.isAgg84
  z72 := Tryf.sizeOf84
  v72 := Tryf.zeroValue84
  t164 := Tryf.underlying112
  a164 := Tryf.isAgg112
  z164 := Tryf.sizeOf112
  v164 := Tryf.zeroValue112 }
theorem Tryf.Builder_Extra_165 : Builder.Extra Tryf.prog Tryf.lays165_ren := {
  sizeBuilder := by kernel_rfl
  liesBuilder := by kernel_rfl
  t5 := Tryf.underlying5
  a5 := Tryf.isAgg5
  z5 := Tryf.sizeOf5
  v5 := Tryf.zeroValue5
  infoByte := by kernel_rfl
  cellsByte := by kernel_rfl
  sizeByte := by kernel_rfl
  neB5 := by decide }
open Go.RowKit in
theorem Tryf.Builder_Grow_fresh (B b n : Nat) (w : World) (hB : B ≤ b) (hbk : w.heap[b]? = some (.cells #[.pointer none, .slice none 0 0] 84 (0, 0))) (hBw : B ≤ w.heap.size) (hn : n ≤ 281474976710656) :
    Calls Tryf.prog 53 #[.pointer (some ⟨b, 0, none⟩), .int .i64 n] w fun e w' => e = .returned (.tuple #[]) ∧ (Lib.BuilderAt 84 5 B b (.pointer (some ⟨b, 0, none⟩)) [] w' ∧ Below B w w') := Any.Builder_Grow_fresh Tryf.lays165 Tryf.Builder_Extra_165 B b n w hB hbk hBw hn
def Tryf.lays156_ren : Go.Shelf.Ren := ⟨fun | 156 => 33 | 165 => 53 | 166 => 54 | 169 => 55 | 240 => 71 | 241 => 72 | 276 => 92 | 277 => 93 | n => n, fun | 31 => 22 | 9 => 9 | 3 => 3 | 4 => 4 | 0 => 0 | 20 => 20 | 72 => 84 | 76 => 86 | 70 => 82 | 37 => 34 | 75 => 28 | 127 => 97 | 164 => 112 | 5 => 5 | 80 => 31 | n => n, fun | n => n⟩
theorem Tryf.lays156 : Go.Proofs.Lays.n156 Tryf.prog Tryf.lays156_ren := {
  mixed := by kernel_rfl
  f156 := Tryf.func33.trans (congrArg some (by kernel_rfl))
  f165 := Tryf.func53.trans (congrArg some (by kernel_rfl))
  f166 := Tryf.func54.trans (congrArg some (by kernel_rfl))
  f169 := Tryf.func55.trans (congrArg some (by kernel_rfl))
  f240 := Tryf.func71.trans (congrArg some (by kernel_rfl))
  f241 := Tryf.func72.trans (congrArg some (by kernel_rfl))
  f276 := Tryf.func92.trans (congrArg some (by kernel_rfl))
  f277 := Tryf.func93.trans (congrArg some (by kernel_rfl))
  t0 := Tryf.underlying0
  a0 := Tryf.isAgg0
  z0 := Tryf.sizeOf0
  v0 := Tryf.zeroValue0
  t3 := Tryf.underlying3
  a3 := Tryf.isAgg3
  z3 := Tryf.sizeOf3
  v3 := Tryf.zeroValue3
  t4 := Tryf.underlying4
  a4 := Tryf.isAgg4
  z4 := Tryf.sizeOf4
  v4 := Tryf.zeroValue4
  t9 := Tryf.underlying9
  a9 := Tryf.isAgg9
  z9 := Tryf.sizeOf9
  v9 := Tryf.zeroValue9
  t20 := Tryf.underlying20
  a20 := Tryf.isAgg20
  z20 := Tryf.sizeOf20
  v20 := Tryf.zeroValue20
  t31 := Tryf.underlying22
  a31 := Tryf.isAgg22
  z31 := Tryf.sizeOf22
  v31 := Tryf.zeroValue22
  t37 := Tryf.underlying34
  a37 := Tryf.isAgg34
  z37 := Tryf.sizeOf34
  v37 := Tryf.zeroValue34
  t70 := Tryf.underlying82
  a70 := Tryf.isAgg82
  z70 := Tryf.sizeOf82
  v70 := Tryf.zeroValue82
  t72 := Tryf.underlying84
  a72 := Tryf.isAgg84
  z72 := Tryf.sizeOf84
  v72 := Tryf.zeroValue84
  t75 := Tryf.underlying28
  a75 := Tryf.isAgg28
  z75 := Tryf.sizeOf28
  v75 := Tryf.zeroValue28
  t76 := Tryf.underlying86
  a76 := Tryf.isAgg86
  z76 := Tryf.sizeOf86
  v76 := Tryf.zeroValue86
  t127 := Tryf.underlying97
  a127 := Tryf.isAgg97
  z127 := Tryf.sizeOf97
  v127 := Tryf.zeroValue97
  t164 := Tryf.underlying112
  a164 := Tryf.isAgg112
  z164 := Tryf.sizeOf112
  v164 := Tryf.zeroValue112 }
theorem Tryf.Builder_Extra_156 : Builder.Extra Tryf.prog Tryf.lays156_ren := {
  sizeBuilder := by kernel_rfl
  liesBuilder := by kernel_rfl
  t5 := Tryf.underlying5
  a5 := Tryf.isAgg5
  z5 := Tryf.sizeOf5
  v5 := Tryf.zeroValue5
  infoByte := by kernel_rfl
  cellsByte := by kernel_rfl
  sizeByte := by kernel_rfl
  neB5 := by decide }
open Go.RowKit in
theorem Tryf.strings_Join_none (a : Option Addr) (c : Nat) (sep : ByteArray) (w : World) :
    Calls Tryf.prog 33 #[.slice a 0 c, .string sep] w fun e w' => e = .returned (.string ⟨#[]⟩) ∧ w' = w := Any.strings_Join_none Tryf.lays156 Tryf.Builder_Extra_156 a c sep w
open Go.RowKit in
theorem Tryf.strings_Join (bk o c : Nat) (xs : List ByteArray) (sep : ByteArray) (w : World) (hcells : ∀ (j : Nat) x, xs[j]? = some x → w.cell? ⟨bk, o + j, none⟩ = some (.string x)) (hbk : bk < w.heap.size) (hN : xs.length ≤ 140737488355328) (hcap : xs.length ≤ c) (hlen : (Lib.join (xs.map (·.data.toList)) sep.data.toList).length ≤ 140737488355328) :
    Calls Tryf.prog 33 #[.slice (some ⟨bk, o, none⟩) xs.length c, .string sep] w fun e w' => e = .returned (.string ⟨(Lib.join (xs.map (·.data.toList)) sep.data.toList).toArray⟩) ∧ Below w.heap.size w w' := Any.strings_Join Tryf.lays156 Tryf.Builder_Extra_156 bk o c xs sep w hcells hbk hN hcap hlen
def Tryf.lays167_ren : Go.Shelf.Ren := ⟨fun | 156 => 33 | 165 => 53 | 166 => 54 | 167 => 60 | 169 => 55 | 240 => 71 | 241 => 72 | 276 => 92 | 277 => 93 | n => n, fun | 31 => 22 | 9 => 9 | 3 => 3 | 4 => 4 | 0 => 0 | 20 => 20 | 72 => 84 | 76 => 86 | 70 => 82 | 37 => 34 | 75 => 28 | 127 => 97 | 164 => 112 | 5 => 5 | 80 => 31 | n => n, fun | n => n⟩
theorem Tryf.lays167 : Go.Proofs.Lays.n167 Tryf.prog Tryf.lays167_ren := {
  mixed := by kernel_rfl
  f167 := Tryf.func60.trans (congrArg some (by kernel_rfl))
  f240 := Tryf.func71.trans (congrArg some (by kernel_rfl))
  f276 := Tryf.func92.trans (congrArg some (by kernel_rfl))
  t0 := Tryf.underlying0
  a0 := Tryf.isAgg0
  z0 := Tryf.sizeOf0
  v0 := Tryf.zeroValue0
  t4 := Tryf.underlying4
  a4 := Tryf.isAgg4
  z4 := Tryf.sizeOf4
  v4 := Tryf.zeroValue4
  t5 := Tryf.underlying5
  a5 := Tryf.isAgg5
  z5 := Tryf.sizeOf5
  v5 := Tryf.zeroValue5
  t9 := Tryf.underlying9
  a9 := Tryf.isAgg9
  z9 := Tryf.sizeOf9
  v9 := Tryf.zeroValue9
  t20 := Tryf.underlying20
  a20 := Tryf.isAgg20
  z20 := Tryf.sizeOf20
  v20 := Tryf.zeroValue20
  t37 := Tryf.underlying34
  a37 := Tryf.isAgg34
  z37 := Tryf.sizeOf34
  v37 := Tryf.zeroValue34
  t70 := Tryf.underlying82
  a70 := Tryf.isAgg82
  z70 := Tryf.sizeOf82
  v70 := Tryf.zeroValue82
  t72 := Tryf.underlying84
  a72 := Tryf.isAgg84
  z72 := Tryf.sizeOf84
  v72 := Tryf.zeroValue84
  t75 := Tryf.underlying28
  a75 := Tryf.isAgg28
  z75 := Tryf.sizeOf28
  v75 := Tryf.zeroValue28
  t164 := Tryf.underlying112
  a164 := Tryf.isAgg112
  z164 := Tryf.sizeOf112
  v164 := Tryf.zeroValue112 }
theorem Tryf.Builder_Extra_167 : Builder.Extra Tryf.prog Tryf.lays167_ren := {
  sizeBuilder := by kernel_rfl
  liesBuilder := by kernel_rfl
  t5 := Tryf.underlying5
  a5 := Tryf.isAgg5
  z5 := Tryf.sizeOf5
  v5 := Tryf.zeroValue5
  infoByte := by kernel_rfl
  cellsByte := by kernel_rfl
  sizeByte := by kernel_rfl
  neB5 := by decide }
open Go.RowKit in
theorem Tryf.Builder_WriteByte (B b : Nat) (bs : List Value) (c : Int) (w : World) (h : Lib.IsBuilder 84 5 B b bs w) (hlen : bs.length + 1 ≤ 140737488355328) (hBw : B ≤ w.heap.size) :
    Calls Tryf.prog 60 #[.pointer (some ⟨b, 0, none⟩), .int .u8 c] w fun e w' => e = .returned .nilIface ∧ (Lib.BuilderAt 84 5 B b (.pointer (some ⟨b, 0, none⟩)) (bs ++ [.int .u8 c]) w' ∧ Below B w w') := Any.Builder_WriteByte Tryf.lays167 Tryf.Builder_Extra_167 B b bs c w h hlen hBw
def Tryf.lays166_ren : Go.Shelf.Ren := ⟨fun | 156 => 33 | 165 => 53 | 166 => 54 | 167 => 60 | 169 => 55 | 240 => 71 | 241 => 72 | 276 => 92 | 277 => 93 | n => n, fun | 31 => 22 | 9 => 9 | 3 => 3 | 4 => 4 | 0 => 0 | 20 => 20 | 72 => 84 | 76 => 86 | 70 => 82 | 37 => 34 | 75 => 28 | 127 => 97 | 164 => 112 | 5 => 5 | 80 => 31 | n => n, fun | n => n⟩
theorem Tryf.lays166 : Go.Proofs.Lays.n166 Tryf.prog Tryf.lays166_ren := {
  mixed := by kernel_rfl
  f166 := Tryf.func54.trans (congrArg some (by kernel_rfl))
  f240 := Tryf.func71.trans (congrArg some (by kernel_rfl))
  f276 := Tryf.func92.trans (congrArg some (by kernel_rfl))
  t0 := Tryf.underlying0
  a0 := Tryf.isAgg0
  z0 := Tryf.sizeOf0
  v0 := Tryf.zeroValue0
  t3 := Tryf.underlying3
  a3 := Tryf.isAgg3
  z3 := Tryf.sizeOf3
  v3 := Tryf.zeroValue3
  t4 := Tryf.underlying4
  a4 := Tryf.isAgg4
  z4 := Tryf.sizeOf4
  v4 := Tryf.zeroValue4
  t9 := Tryf.underlying9
  a9 := Tryf.isAgg9
  z9 := Tryf.sizeOf9
  v9 := Tryf.zeroValue9
  t20 := Tryf.underlying20
  a20 := Tryf.isAgg20
  z20 := Tryf.sizeOf20
  v20 := Tryf.zeroValue20
  t37 := Tryf.underlying34
  a37 := Tryf.isAgg34
  z37 := Tryf.sizeOf34
  v37 := Tryf.zeroValue34
  t70 := Tryf.underlying82
  a70 := Tryf.isAgg82
  z70 := Tryf.sizeOf82
  v70 := Tryf.zeroValue82
  t72 := Tryf.underlying84
  a72 := Tryf.isAgg84
  z72 := Tryf.sizeOf84
  v72 := Tryf.zeroValue84
  t75 := Tryf.underlying28
  a75 := Tryf.isAgg28
  z75 := Tryf.sizeOf28
  v75 := Tryf.zeroValue28
  t164 := Tryf.underlying112
  a164 := Tryf.isAgg112
  z164 := Tryf.sizeOf112
  v164 := Tryf.zeroValue112 }
theorem Tryf.Builder_Extra_166 : Builder.Extra Tryf.prog Tryf.lays166_ren := {
  sizeBuilder := by kernel_rfl
  liesBuilder := by kernel_rfl
  t5 := Tryf.underlying5
  a5 := Tryf.isAgg5
  z5 := Tryf.sizeOf5
  v5 := Tryf.zeroValue5
  infoByte := by kernel_rfl
  cellsByte := by kernel_rfl
  sizeByte := by kernel_rfl
  neB5 := by decide }
open Go.RowKit in
theorem Tryf.Builder_WriteString (B b : Nat) (bs : List Value) (s : ByteArray) (w : World) (h : Lib.IsBuilder 84 5 B b bs w) (hlen : bs.length + s.size ≤ 140737488355328) (hBw : B ≤ w.heap.size) :
    Calls Tryf.prog 54 #[.pointer (some ⟨b, 0, none⟩), .string s] w fun e w' => e = .returned (.tuple #[.int .i64 s.size, .nilIface]) ∧ (Lib.BuilderAt 84 5 B b (.pointer (some ⟨b, 0, none⟩)) (bs ++ Lib.strCells s) w' ∧ Below B w w') := Any.Builder_WriteString Tryf.lays166 Tryf.Builder_Extra_166 B b bs s w h hlen hBw
end Go.Proofs
