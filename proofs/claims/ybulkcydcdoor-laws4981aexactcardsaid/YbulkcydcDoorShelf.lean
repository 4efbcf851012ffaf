import Derived.Shelf.Strings.Builder1
import Derived.Shelf.Strings.Builder2
import Derived.Shelf.Strings.OnBuilder
import Derived.Shelf.Strconv.Itoa0
import Derived.Shelf.Strconv.Itoa1
import Derived.Shelf.LaysM
import Derived.Shelf.Strconv.Itoa2
import Derived.Shelf.Strconv.AppendUint10
import Derived.Shelf.Strconv.AppendInt10
import Derived.Shelf.Bytes.SlEqualAll
import Derived.Shelf.Bytes.Small
import Derived.Test.YbulkcydcDoorRows
namespace Go.Proofs
open Go.Shelf
def Ybad.lays169_ren : Go.Shelf.Ren := ⟨fun | 169 => 17 | n => n, fun | 70 => 46 | 9 => 9 | 0 => 0 | 72 => 48 | 37 => 22 | 127 => 54 | 3 => 3 | 5 => 5 | n => n, fun | n => n⟩
theorem Ybad.lays169 : Go.Proofs.Lays.n169 Ybad.prog Ybad.lays169_ren := {
  mixed := by kernel_rfl
  f169 := Ybad.func17.trans (congrArg some (by kernel_rfl))
  t0 := Ybad.underlying0
  a0 := Ybad.isAgg0
  z0 := Ybad.sizeOf0
  v0 := Ybad.zeroValue0
  t3 := Ybad.underlying3
  a3 := Ybad.isAgg3
  z3 := Ybad.sizeOf3
  v3 := Ybad.zeroValue3
  t9 := Ybad.underlying9
  a9 := Ybad.isAgg9
  z9 := Ybad.sizeOf9
  v9 := Ybad.zeroValue9
  t37 := Ybad.underlying22
  a37 := Ybad.isAgg22
  z37 := Ybad.sizeOf22
  v37 := Ybad.zeroValue22
  t70 := Ybad.underlying46
  a70 := Ybad.isAgg46
  z70 := Ybad.sizeOf46
  v70 := Ybad.zeroValue46
  t72 := Ybad.underlying48
  a72 := Ybad.isAgg48
  z72 := Ybad.sizeOf48
  v72 := Ybad.zeroValue48
  t127 := Ybad.underlying54
  a127 := Ybad.isAgg54
  z127 := Ybad.sizeOf54
  v127 := Ybad.zeroValue54 }
theorem Ybad.Builder_Extra_169 : Builder.Extra Ybad.prog Ybad.lays169_ren := {
  sizeBuilder := by kernel_rfl
  liesBuilder := by kernel_rfl
  t5 := Ybad.underlying5
  a5 := Ybad.isAgg5
  z5 := Ybad.sizeOf5
  v5 := Ybad.zeroValue5
  infoByte := by kernel_rfl
  cellsByte := by kernel_rfl
  sizeByte := by kernel_rfl
  neB5 := by decide }
open Go.RowKit in
theorem Ybad.Builder_String (B b : Nat) (l : List UInt8) (w : World) (h : Lib.IsBuilder 48 5 B b (Lib.byteCells l) w) (h0 : l ≠ []) :
    Calls Ybad.prog 17 #[.pointer (some ⟨b, 0, none⟩)] w fun e w' => e = .returned (.string ⟨l.toArray⟩) ∧ Below B w w' := Any.Builder_String Ybad.lays169 Ybad.Builder_Extra_169 B b l w h h0
open Go.RowKit in
theorem Ybad.Builder_String_empty (B b : Nat) (w : World) (h : Lib.IsBuilder 48 5 B b [] w) (hBw : B ≤ w.heap.size) :
    Calls Ybad.prog 17 #[.pointer (some ⟨b, 0, none⟩)] w fun e w' => e = .returned (.string ⟨#[]⟩) ∧ Below B w w' := Any.Builder_String_empty Ybad.lays169 Ybad.Builder_Extra_169 B b w h hBw
open Go.RowKit in
theorem Ybad.Builder_String_any (B b : Nat) (l : List UInt8) (w : World) (h : Lib.IsBuilder 48 5 B b (Lib.byteCells l) w) (hBw : B ≤ w.heap.size) :
    Calls Ybad.prog 17 #[.pointer (some ⟨b, 0, none⟩)] w fun e w' => e = .returned (.string ⟨l.toArray⟩) ∧ Below B w w' := Any.Builder_String_any Ybad.lays169 Ybad.Builder_Extra_169 B b l w h hBw
def Ybad.lays241_ren : Go.Shelf.Ren := ⟨fun | 241 => 20 | 277 => 23 | n => n, fun | 70 => 46 | 3 => 3 | 0 => 0 | 72 => 48 | 37 => 22 | 5 => 5 | n => n, fun | n => n⟩
theorem Ybad.lays241 : Go.Proofs.Lays.n241 Ybad.prog Ybad.lays241_ren := {
  mixed := by kernel_rfl
  f241 := Ybad.func20.trans (congrArg some (by kernel_rfl))
  f277 := Ybad.func23.trans (congrArg some (by kernel_rfl))
  t0 := Ybad.underlying0
  a0 := Ybad.isAgg0
  z0 := Ybad.sizeOf0
  v0 := Ybad.zeroValue0
  t3 := Ybad.underlying3
  a3 := Ybad.isAgg3
  z3 := Ybad.sizeOf3
  v3 := Ybad.zeroValue3
  t37 := Ybad.underlying22
  a37 := Ybad.isAgg22
  z37 := Ybad.sizeOf22
  v37 := Ybad.zeroValue22
  t70 := Ybad.underlying46
  a70 := Ybad.isAgg46
  z70 := Ybad.sizeOf46
  v70 := Ybad.zeroValue46
  t72 := Ybad.underlying48
  a72 := Ybad.isAgg48
  z72 := Ybad.sizeOf48
  v72 := Ybad.zeroValue48 }
theorem Ybad.Builder_Extra_241 : Builder.Extra Ybad.prog Ybad.lays241_ren := {
  sizeBuilder := by kernel_rfl
  liesBuilder := by kernel_rfl
  t5 := Ybad.underlying5
  a5 := Ybad.isAgg5
  z5 := Ybad.sizeOf5
  v5 := Ybad.zeroValue5
  infoByte := by kernel_rfl
  cellsByte := by kernel_rfl
  sizeByte := by kernel_rfl
  neB5 := by decide }
open Go.RowKit in
theorem Ybad.Builder_grow_fresh (B b n : Nat) (w : World) (hB : B ≤ b) (hbk : w.heap[b]? = some (.cells #[.pointer (some ⟨b, 0, none⟩), .slice none 0 0] 48 (0, 0))) (hBw : B ≤ w.heap.size) (hn : n ≤ 281474976710656) :
    Calls Ybad.prog 20 #[.pointer (some ⟨b, 0, none⟩), .int .i64 n] w fun e w' => e = .returned (.tuple #[]) ∧ (Lib.BuilderAt 48 5 B b (.pointer (some ⟨b, 0, none⟩)) [] w' ∧ Below B w w') := Any.Builder_grow_fresh Ybad.lays241 Ybad.Builder_Extra_241 B b n w hB hbk hBw hn
def Ybad.lays165_ren : Go.Shelf.Ren := ⟨fun | 165 => 15 | 240 => 19 | 241 => 20 | 276 => 22 | 277 => 23 | n => n, fun | 70 => 46 | 3 => 3 | 0 => 0 | 4 => 4 | 9 => 9 | 20 => 20 | 72 => 48 | 37 => 22 | 164 => 55 | 5 => 5 | n => n, fun | n => n⟩
theorem Ybad.lays165 : Go.Proofs.Lays.n165 Ybad.prog Ybad.lays165_ren := {
  mixed := by kernel_rfl
  f165 := Ybad.func15.trans (congrArg some (by kernel_rfl))
  f240 := Ybad.func19.trans (congrArg some (by kernel_rfl))
  f241 := Ybad.func20.trans (congrArg some (by kernel_rfl))
  f276 := Ybad.func22.trans (congrArg some (by kernel_rfl))
  f277 := Ybad.func23.trans (congrArg some (by kernel_rfl))
  t0 := Ybad.underlying0
  a0 := Ybad.isAgg0
  z0 := Ybad.sizeOf0
  v0 := Ybad.zeroValue0
  t3 := Ybad.underlying3
  a3 := Ybad.isAgg3
  z3 := Ybad.sizeOf3
  v3 := Ybad.zeroValue3
  t4 := Ybad.underlying4
  a4 := Ybad.isAgg4
  z4 := Ybad.sizeOf4
  v4 := Ybad.zeroValue4
  t9 := Ybad.underlying9
  a9 := Ybad.isAgg9
  z9 := Ybad.sizeOf9
  v9 := Ybad.zeroValue9
  t20 := Ybad.underlying20
  a20 := Ybad.isAgg20
  z20 := Ybad.sizeOf20
  v20 := Ybad.zeroValue20
  t37 := Ybad.underlying22
  a37 := Ybad.isAgg22
  z37 := Ybad.sizeOf22
  v37 := Ybad.zeroValue22
  t70 := Ybad.underlying46
  a70 := Ybad.isAgg46
  z70 := Ybad.sizeOf46
  v70 := Ybad.zeroValue46
  t72 := Ybad.underlying48
  a72 := Ybad.isAgg48
  z72 := Ybad.sizeOf48
  v72 := Ybad.zeroValue48
  t164 := Ybad.underlying55
  a164 := Ybad.isAgg55
  z164 := Ybad.sizeOf55
  v164 := Ybad.zeroValue55 }
theorem Ybad.Builder_Extra_165 : Builder.Extra Ybad.prog Ybad.lays165_ren := {
  sizeBuilder := by kernel_rfl
  liesBuilder := by kernel_rfl
  t5 := Ybad.underlying5
  a5 := Ybad.isAgg5
  z5 := Ybad.sizeOf5
  v5 := Ybad.zeroValue5
  infoByte := by kernel_rfl
  cellsByte := by kernel_rfl
  sizeByte := by kernel_rfl
  neB5 := by decide }
open Go.RowKit in
theorem Ybad.Builder_Grow_fresh (B b n : Nat) (w : World) (hB : B ≤ b) (hbk : w.heap[b]? = some (.cells #[.pointer none, .slice none 0 0] 48 (0, 0))) (hBw : B ≤ w.heap.size) (hn : n ≤ 281474976710656) :
    Calls Ybad.prog 15 #[.pointer (some ⟨b, 0, none⟩), .int .i64 n] w fun e w' => e = .returned (.tuple #[]) ∧ (Lib.BuilderAt 48 5 B b (.pointer (some ⟨b, 0, none⟩)) [] w' ∧ Below B w w') := Any.Builder_Grow_fresh Ybad.lays165 Ybad.Builder_Extra_165 B b n w hB hbk hBw hn
def Ybad.lays156_ren : Go.Shelf.Ren := ⟨fun | 156 => 12 | 165 => 15 | 166 => 16 | 169 => 17 | 240 => 19 | 241 => 20 | 276 => 22 | 277 => 23 | n => n, fun | 31 => 41 | 9 => 9 | 3 => 3 | 4 => 4 | 0 => 0 | 20 => 20 | 72 => 48 | 76 => 52 | 70 => 46 | 37 => 22 | 75 => 51 | 127 => 54 | 164 => 55 | 5 => 5 | 80 => 32 | n => n, fun | n => n⟩
theorem Ybad.lays156 : Go.Proofs.Lays.n156 Ybad.prog Ybad.lays156_ren := {
  mixed := by kernel_rfl
  f156 := Ybad.func12.trans (congrArg some (by kernel_rfl))
  f165 := Ybad.func15.trans (congrArg some (by kernel_rfl))
  f166 := Ybad.func16.trans (congrArg some (by kernel_rfl))
  f169 := Ybad.func17.trans (congrArg some (by kernel_rfl))
  f240 := Ybad.func19.trans (congrArg some (by kernel_rfl))
  f241 := Ybad.func20.trans (congrArg some (by kernel_rfl))
  f276 := Ybad.func22.trans (congrArg some (by kernel_rfl))
  f277 := Ybad.func23.trans (congrArg some (by kernel_rfl))
  t0 := Ybad.underlying0
  a0 := Ybad.isAgg0
  z0 := Ybad.sizeOf0
  v0 := Ybad.zeroValue0
  t3 := Ybad.underlying3
  a3 := Ybad.isAgg3
  z3 := Ybad.sizeOf3
  v3 := Ybad.zeroValue3
  t4 := Ybad.underlying4
  a4 := Ybad.isAgg4
  z4 := Ybad.sizeOf4
  v4 := Ybad.zeroValue4
  t9 := Ybad.underlying9
  a9 := Ybad.isAgg9
  z9 := Ybad.sizeOf9
  v9 := Ybad.zeroValue9
  t20 := Ybad.underlying20
  a20 := Ybad.isAgg20
  z20 := Ybad.sizeOf20
  v20 := Ybad.zeroValue20
  t31 := Ybad.underlying41
  a31 := Ybad.isAgg41
  z31 := Ybad.sizeOf41
  v31 := Ybad.zeroValue41
  t37 := Ybad.underlying22
  a37 := Ybad.isAgg22
  z37 := Ybad.sizeOf22
  v37 := Ybad.zeroValue22
  t70 := Ybad.underlying46
  a70 := Ybad.isAgg46
  z70 := Ybad.sizeOf46
  v70 := Ybad.zeroValue46
  t72 := Ybad.underlying48
  a72 := Ybad.isAgg48
  z72 := Ybad.sizeOf48
  v72 := Ybad.zeroValue48
  t75 := Ybad.underlying51
  a75 := Ybad.isAgg51
  z75 := Ybad.sizeOf51
  v75 := Ybad.zeroValue51
  t76 := Ybad.underlying52
  a76 := Ybad.isAgg52
  z76 := Ybad.sizeOf52
  v76 := Ybad.zeroValue52
  t127 := Ybad.underlying54
  a127 := Ybad.isAgg54
  z127 := Ybad.sizeOf54
  v127 := Ybad.zeroValue54
  t164 := Ybad.underlying55
  a164 := Ybad.isAgg55
  z164 := Ybad.sizeOf55
  v164 := Ybad.zeroValue55 }
theorem Ybad.Builder_Extra_156 : Builder.Extra Ybad.prog Ybad.lays156_ren := {
  sizeBuilder := by kernel_rfl
  liesBuilder := by kernel_rfl
  t5 := Ybad.underlying5
  a5 := Ybad.isAgg5
  z5 := Ybad.sizeOf5
  v5 := Ybad.zeroValue5
  infoByte := by kernel_rfl
  cellsByte := by kernel_rfl
  sizeByte := by kernel_rfl
  neB5 := by decide }
open Go.RowKit in
theorem Ybad.strings_Join_none (a : Option Addr) (c : Nat) (sep : ByteArray) (w : World) :
    Calls Ybad.prog 12 #[.slice a 0 c, .string sep] w fun e w' => e = .returned (.string ⟨#[]⟩) ∧ w' = w := Any.strings_Join_none Ybad.lays156 Ybad.Builder_Extra_156 a c sep w
open Go.RowKit in
theorem Ybad.strings_Join (bk o c : Nat) (xs : List ByteArray) (sep : ByteArray) (w : World) (hcells : ∀ (j : Nat) x, xs[j]? = some x → w.cell? ⟨bk, o + j, none⟩ = some (.string x)) (hbk : bk < w.heap.size) (hN : xs.length ≤ 140737488355328) (hcap : xs.length ≤ c) (hlen : (Lib.join (xs.map (·.data.toList)) sep.data.toList).length ≤ 140737488355328) :
    Calls Ybad.prog 12 #[.slice (some ⟨bk, o, none⟩) xs.length c, .string sep] w fun e w' => e = .returned (.string ⟨(Lib.join (xs.map (·.data.toList)) sep.data.toList).toArray⟩) ∧ Below w.heap.size w w' := Any.strings_Join Ybad.lays156 Ybad.Builder_Extra_156 bk o c xs sep w hcells hbk hN hcap hlen
def Ybad.lays129_ren : Go.Shelf.Ren := ⟨fun | 129 => 29 | n => n, fun | 53 => 24 | 3 => 3 | 4 => 4 | 46 => 68 | 5 => 5 | 9 => 9 | n => n, fun | n => n⟩
theorem Ybad.lays129 : Go.Proofs.Lays.n129 Ybad.prog Ybad.lays129_ren := {
  mixed := by kernel_rfl
  f129 := Ybad.func29.trans (congrArg some (by kernel_rfl))
  t3 := Ybad.underlying3
  a3 := Ybad.isAgg3
  z3 := Ybad.sizeOf3
  v3 := Ybad.zeroValue3
  t4 := Ybad.underlying4
  a4 := Ybad.isAgg4
  z4 := Ybad.sizeOf4
  v4 := Ybad.zeroValue4
  t5 := Ybad.underlying5
  a5 := Ybad.isAgg5
  z5 := Ybad.sizeOf5
  v5 := Ybad.zeroValue5
  t9 := Ybad.underlying9
  a9 := Ybad.isAgg9
  z9 := Ybad.sizeOf9
  v9 := Ybad.zeroValue9
  t46 := Ybad.underlying68
  a46 := Ybad.isAgg68
  z46 := Ybad.sizeOf68
  v46 := Ybad.zeroValue68
  t53 := Ybad.underlying24
  a53 := Ybad.isAgg24
  z53 := Ybad.sizeOf24
  v53 := Ybad.zeroValue24 }
theorem Ybad.bits_Len64 (x : Int) (w : World) (h0 : 0 ≤ x) (h1 : x ≤ 18446744073709551615) :
    Calls Ybad.prog 29 #[.int .u64 x] w fun e w' => e = .returned (.int .i64 (Lib.bitLen x.toNat)) ∧ w' = w := Any.bits_Len64 Ybad.lays129 x w h0 h1
def Ybad.lays317_ren : Go.Shelf.Ren := ⟨fun | 317 => 28 | n => n, fun | 3 => 3 | 46 => 68 | n => n, fun | n => n⟩
theorem Ybad.lays317 : Go.Proofs.Lays.n317 Ybad.prog Ybad.lays317_ren := {
  mixed := by kernel_rfl
  f317 := Ybad.func28.trans (congrArg some (by kernel_rfl))
  t3 := Ybad.underlying3
  a3 := Ybad.isAgg3
  z3 := Ybad.sizeOf3
  v3 := Ybad.zeroValue3
  t46 := Ybad.underlying68
  a46 := Ybad.isAgg68
  z46 := Ybad.sizeOf68
  v46 := Ybad.zeroValue68 }
open Go.Lib in
theorem Ybad.internal_strconv_log10Pow2 (x : Nat) (h : x ≤ 64) (w : World) :
    Calls Ybad.prog 28 #[.int .i64 x] w fun e w' => e = .returned (.int .i64 (Lib.l10 x)) ∧ w' = w := Any.internal_strconv_log10Pow2 Ybad.lays317 x h w
def Ybad.lays318_ren : Go.Shelf.Ren := ⟨fun | 318 => 30 | n => n, fun | 3 => 3 | 4 => 4 | n => n, fun | n => n⟩
theorem Ybad.lays318 : Go.Proofs.Lays.n318 Ybad.prog Ybad.lays318_ren := {
  mixed := by kernel_rfl
  f318 := Ybad.func30.trans (congrArg some (by kernel_rfl))
  t3 := Ybad.underlying3
  a3 := Ybad.isAgg3
  z3 := Ybad.sizeOf3
  v3 := Ybad.zeroValue3
  t4 := Ybad.underlying4
  a4 := Ybad.isAgg4
  z4 := Ybad.sizeOf4
  v4 := Ybad.zeroValue4 }
open Go.Lib in
theorem Ybad.internal_strconv_bool2_int (b : Bool) (w : World) :
    Calls Ybad.prog 30 #[.bool b] w fun e w' => e = .returned (.int .i64 (if b then 1 else 0)) ∧ w' = w := Any.internal_strconv_bool2_int Ybad.lays318 b w
def Ybad.lays283_ren : Go.Shelf.Ren := ⟨fun | 283 => 24 | n => n, fun | 3 => 3 | 9 => 9 | 4 => 4 | n => n, fun | n => n⟩
theorem Ybad.lays283 : Go.Proofs.Lays.n283 Ybad.prog Ybad.lays283_ren := {
  mixed := by kernel_rfl
  f283 := Ybad.func24.trans (congrArg some (by kernel_rfl))
  t3 := Ybad.underlying3
  a3 := Ybad.isAgg3
  z3 := Ybad.sizeOf3
  v3 := Ybad.zeroValue3
  t4 := Ybad.underlying4
  a4 := Ybad.isAgg4
  z4 := Ybad.sizeOf4
  v4 := Ybad.zeroValue4
  t9 := Ybad.underlying9
  a9 := Ybad.isAgg9
  z9 := Ybad.sizeOf9
  v9 := Ybad.zeroValue9 }
open Go.Lib in
theorem Ybad.internal_strconv_small (i : Nat) (h : i < 100) (w : World) :
    Calls Ybad.prog 24 #[.int .i64 i] w fun e w' => e = .returned (.string ⟨(Lib.decDigits i).toArray⟩) ∧ w' = w := Any.internal_strconv_small Ybad.lays283 i h w
def Ybad.laysM284_ren : Go.Shelf.Ren := ⟨fun | 284 => 25 | 129 => 29 | 317 => 28 | 318 => 30 | n => n, fun | 53 => 24 | 3 => 3 | 212 => 65 | 0 => 0 | 4 => 4 | 46 => 68 | 5 => 5 | 9 => 9 | n => n, fun | 17 => 3 | n => n⟩
theorem Ybad.laysM284 : Go.Proofs.LaysM.n284 Ybad.prog Ybad.laysM284_ren := {
  mixed := by kernel_rfl
  f129 := Ybad.func29.trans (congrArg some (by kernel_rfl))
  f284 := Ybad.func25.trans (congrArg some (by kernel_rfl))
  f317 := Ybad.func28.trans (congrArg some (by kernel_rfl))
  f318 := Ybad.func30.trans (congrArg some (by kernel_rfl))
  t0 := Ybad.underlying0
  a0 := Ybad.isAgg0
  z0 := Ybad.sizeOf0
  v0 := Ybad.zeroValue0
  t3 := Ybad.underlying3
  a3 := Ybad.isAgg3
  z3 := Ybad.sizeOf3
  v3 := Ybad.zeroValue3
  t4 := Ybad.underlying4
  a4 := Ybad.isAgg4
  z4 := Ybad.sizeOf4
  v4 := Ybad.zeroValue4
  t5 := Ybad.underlying5
  a5 := Ybad.isAgg5
  z5 := Ybad.sizeOf5
  v5 := Ybad.zeroValue5
  t9 := Ybad.underlying9
  a9 := Ybad.isAgg9
  z9 := Ybad.sizeOf9
  v9 := Ybad.zeroValue9
  t46 := Ybad.underlying68
  a46 := Ybad.isAgg68
  z46 := Ybad.sizeOf68
  v46 := Ybad.zeroValue68
  t53 := Ybad.underlying24
  a53 := Ybad.isAgg24
  z53 := Ybad.sizeOf24
  v53 := Ybad.zeroValue24
  t212 := Ybad.underlying65
  a212 := Ybad.isAgg65
  z212 := Ybad.sizeOf65
  v212 := Ybad.zeroValue65
  g17 := by kernel_rfl
  i0 := by kernel_rfl
  i3 := by kernel_rfl
  i4 := by kernel_rfl
  i5 := by kernel_rfl
  i9 := by kernel_rfl
  i46 := by kernel_rfl
  i53 := by kernel_rfl
  i212 := by kernel_rfl
  m17 := by kernel_rfl }
open Go.Lib in
theorem Ybad.internal_strconv_numDigits (u : Nat) (h1 : 1 ≤ u) (h2 : u < 18446744073709551616) (w : World) (htab : Lib.TabIs Ybad.prog w (YbulkcydcDoor.Rows.lawS4981ASignRow.named.getD 1 "") .u64 Lib.pow10Tab) :
    Calls Ybad.prog 25 #[.int .u64 u] w fun e w' => e = .returned (.int .i64 (Lib.nDigits u)) ∧ w' = w := Any.internal_strconv_numDigits Ybad.laysM284 u h1 h2 w htab
def Ybad.lays285_ren : Go.Shelf.Ren := ⟨fun | 285 => 26 | n => n, fun | 37 => 22 | 53 => 24 | 3 => 3 | 4 => 4 | 51 => 66 | 9 => 9 | 5 => 5 | 0 => 0 | n => n, fun | n => n⟩
theorem Ybad.lays285 : Go.Proofs.Lays.n285 Ybad.prog Ybad.lays285_ren := {
  mixed := by kernel_rfl
  f285 := Ybad.func26.trans (congrArg some (by kernel_rfl))
  t0 := Ybad.underlying0
  a0 := Ybad.isAgg0
  z0 := Ybad.sizeOf0
  v0 := Ybad.zeroValue0
  t3 := Ybad.underlying3
  a3 := Ybad.isAgg3
  z3 := Ybad.sizeOf3
  v3 := Ybad.zeroValue3
  t4 := Ybad.underlying4
  a4 := Ybad.isAgg4
  z4 := Ybad.sizeOf4
  v4 := Ybad.zeroValue4
  t5 := Ybad.underlying5
  a5 := Ybad.isAgg5
  z5 := Ybad.sizeOf5
  v5 := Ybad.zeroValue5
  t9 := Ybad.underlying9
  a9 := Ybad.isAgg9
  z9 := Ybad.sizeOf9
  v9 := Ybad.zeroValue9
  t37 := Ybad.underlying22
  a37 := Ybad.isAgg22
  z37 := Ybad.sizeOf22
  v37 := Ybad.zeroValue22
  t51 := Ybad.underlying66
  a51 := Ybad.isAgg66
  z51 := Ybad.sizeOf66
  v51 := Ybad.zeroValue66
  t53 := Ybad.underlying24
  a53 := Ybad.isAgg24
  z53 := Ybad.sizeOf24
  v53 := Ybad.zeroValue24 }
open Go.RowKit Go.Sort Go.Lib in
theorem Ybad.internal_strconv_formatBase10 (blk off cap : Nat) (u : Nat) (d : Array UInt8) (w : World) (hH : Holds (fun (b : UInt8) => Value.int .u8 (b.toNat : Int)) w blk off d) (hu : u < 10 ^ d.size) (hu64 : u < 18446744073709551616) (hsz : d.size < 4611686018427387904) :
    Calls Ybad.prog 26 #[.slice (some ⟨blk, off, none⟩) d.size cap, .int .u64 u] w fun e w' =>
      e = .returned (.tuple #[]) ∧ ∃ (n v' : Nat) (dk : Array UInt8), w' = (putRow (fun (b : UInt8) => Value.int .u8 (b.toNat : Int)) w blk off dk).drewN n ∧ FmtInv d.size u 0 v' dk := Any.internal_strconv_formatBase10 Ybad.lays285 blk off cap u d w hH hu hu64 hsz
def Ybad.laysM288_ren : Go.Shelf.Ren := ⟨fun | 288 => 21 | 283 => 24 | 284 => 25 | 285 => 26 | 286 => 27 | 129 => 29 | 317 => 28 | 318 => 30 | 319 => 31 | 320 => 32 | 337 => 33 | 338 => 34 | n => n, fun | 37 => 22 | 53 => 24 | 3 => 3 | 4 => 4 | 9 => 9 | 171 => 58 | 0 => 0 | 173 => 61 | 212 => 65 | 51 => 66 | 5 => 5 | 20 => 20 | 213 => 67 | 46 => 68 | 232 => 71 | 233 => 72 | n => n, fun | 17 => 3 | 18 => 4 | 19 => 5 | n => n⟩
theorem Ybad.laysM288 : Go.Proofs.LaysM.n288 Ybad.prog Ybad.laysM288_ren := {
  mixed := by kernel_rfl
  f129 := Ybad.func29.trans (congrArg some (by kernel_rfl))
  f283 := Ybad.func24.trans (congrArg some (by kernel_rfl))
  f284 := Ybad.func25.trans (congrArg some (by kernel_rfl))
  f285 := Ybad.func26.trans (congrArg some (by kernel_rfl))
  f286 := Ybad.func27.trans (congrArg some (by kernel_rfl))
  f288 := Ybad.func21.trans (congrArg some (by kernel_rfl))
  f317 := Ybad.func28.trans (congrArg some (by kernel_rfl))
  f318 := Ybad.func30.trans (congrArg some (by kernel_rfl))
  f319 := Ybad.func31.trans (congrArg some (by kernel_rfl))
  f320 := Ybad.func32.trans (congrArg some (by kernel_rfl))
  f337 := Ybad.func33.trans (congrArg some (by kernel_rfl))
  f338 := Ybad.func34.trans (congrArg some (by kernel_rfl))
  t0 := Ybad.underlying0
  a0 := Ybad.isAgg0
  z0 := Ybad.sizeOf0
  v0 := Ybad.zeroValue0
  t3 := Ybad.underlying3
  a3 := Ybad.isAgg3
  z3 := Ybad.sizeOf3
  v3 := Ybad.zeroValue3
  t4 := Ybad.underlying4
  a4 := Ybad.isAgg4
  z4 := Ybad.sizeOf4
  v4 := Ybad.zeroValue4
  t5 := Ybad.underlying5
  a5 := Ybad.isAgg5
  z5 := Ybad.sizeOf5
  v5 := Ybad.zeroValue5
  t9 := Ybad.underlying9
  a9 := Ybad.isAgg9
  z9 := Ybad.sizeOf9
  v9 := Ybad.zeroValue9
  t20 := Ybad.underlying20
  a20 := Ybad.isAgg20
  z20 := Ybad.sizeOf20
  v20 := Ybad.zeroValue20
  t37 := Ybad.underlying22
  a37 := Ybad.isAgg22
  z37 := Ybad.sizeOf22
  v37 := Ybad.zeroValue22
  t46 := Ybad.underlying68
  a46 := Ybad.isAgg68
  z46 := Ybad.sizeOf68
  v46 := Ybad.zeroValue68
  t51 := Ybad.underlying66
  a51 := Ybad.isAgg66
  z51 := Ybad.sizeOf66
  v51 := Ybad.zeroValue66
  t53 := Ybad.underlying24
  a53 := Ybad.isAgg24
  z53 := Ybad.sizeOf24
  v53 := Ybad.zeroValue24
  t171 := Ybad.underlying58
  a171 := Ybad.isAgg58
  z171 := Ybad.sizeOf58
  v171 := Ybad.zeroValue58
  t173 := Ybad.underlying61
  a173 := Ybad.isAgg61
  z173 := Ybad.sizeOf61
  v173 := Ybad.zeroValue61
  t212 := Ybad.underlying65
  a212 := Ybad.isAgg65
  z212 := Ybad.sizeOf65
  v212 := Ybad.zeroValue65
  t213 := Ybad.underlying67
  a213 := Ybad.isAgg67
  z213 := Ybad.sizeOf67
  t232 := Ybad.underlying71
  a232 := Ybad.isAgg71
  z232 := Ybad.sizeOf71
  v232 := Ybad.zeroValue71
  t233 := Ybad.underlying72
  a233 := Ybad.isAgg72
  z233 := Ybad.sizeOf72
  v233 := Ybad.zeroValue72
  g17 := by kernel_rfl
  g18 := by kernel_rfl
  g19 := by kernel_rfl
  i0 := by kernel_rfl
  i3 := by kernel_rfl
  i4 := by kernel_rfl
  i5 := by kernel_rfl
  i9 := by kernel_rfl
  i20 := by kernel_rfl
  i37 := by kernel_rfl
  i46 := by kernel_rfl
  i51 := by kernel_rfl
  i53 := by kernel_rfl
  i171 := by kernel_rfl
  i173 := by kernel_rfl
  i212 := by kernel_rfl
  i232 := by kernel_rfl
  i233 := by kernel_rfl
  m17 := by kernel_rfl
  m18 := by kernel_rfl
  m19 := by kernel_rfl }
open Go.RowKit Go.Sort Go.Lib in
theorem Ybad.internal_strconv_AppendUint_10_small (B n u : Nat) (hu : u < 100) (sv : Value) (xs : List Value) (w : World) (hown : w.ownsRow B 5 1 sv n xs) (hBw : B ≤ w.heap.size) (hlim : n + 20 ≤ 140737488355328) :
    Calls Ybad.prog 21 #[sv, .int .u64 u, .int .i64 10] w fun e w' => ∃ v', e = .returned v' ∧ w'.ownsRow B 5 1 v' (n + (Lib.decDigits u).length) (xs ++ Lib.byteCells (Lib.decDigits u)) ∧ Below B w w' ∧ Lib.OthersKept 5 none w w' := Any.internal_strconv_AppendUint_10_small Ybad.laysM288 B n u hu sv xs w hown hBw hlim
open Go.RowKit Go.Sort Go.Lib in
theorem Ybad.internal_strconv_AppendUint_10_big (B n u : Nat) (hu : 100 ≤ u) (hu64 : u < 18446744073709551616) (sv : Value) (xs : List Value) (w : World) (hown : w.ownsRow B 5 1 sv n xs) (hBw : B ≤ w.heap.size) (hlim : n + 20 ≤ 140737488355328) (htab : Lib.TabIs Ybad.prog w (YbulkcydcDoor.Rows.lawS4981ASignRow.named.getD 1 "") .u64 Lib.pow10Tab) :
    Calls Ybad.prog 21 #[sv, .int .u64 u, .int .i64 10] w fun e w' => ∃ v', e = .returned v' ∧ w'.ownsRow B 5 1 v' (n + (Lib.decDigits u).length) (xs ++ Lib.byteCells (Lib.decDigits u)) ∧ Below B w w' ∧ Lib.OthersKept 5 none w w' := Any.internal_strconv_AppendUint_10_big Ybad.laysM288 B n u hu hu64 sv xs w hown hBw hlim htab
open Go.RowKit Go.Sort Go.Lib in
theorem Ybad.internal_strconv_AppendUint_10 (B n u : Nat) (hu64 : u < 18446744073709551616) (sv : Value) (xs : List Value) (w : World) (hown : w.ownsRow B 5 1 sv n xs) (hBw : B ≤ w.heap.size) (hlim : n + 20 ≤ 140737488355328) (htab : Lib.TabIs Ybad.prog w (YbulkcydcDoor.Rows.lawS4981ASignRow.named.getD 1 "") .u64 Lib.pow10Tab) :
    Calls Ybad.prog 21 #[sv, .int .u64 u, .int .i64 10] w fun e w' => ∃ v', e = .returned v' ∧ w'.ownsRow B 5 1 v' (n + (Lib.decDigits u).length) (xs ++ Lib.byteCells (Lib.decDigits u)) ∧ Below B w w' ∧ Lib.OthersKept 5 none w w' := Any.internal_strconv_AppendUint_10 Ybad.laysM288 B n u hu64 sv xs w hown hBw hlim htab
def Ybad.laysnb115_ren : Go.Shelf.Ren := ⟨fun | 115 => 8 | n => n, fun | 37 => 22 | 4 => 4 | 9 => 9 | 5 => 5 | n => n, fun | n => n⟩
theorem Ybad.laysnb115 : Go.Proofs.Lays.nb115 Ybad.prog Ybad.laysnb115_ren := {
  mixed := by kernel_rfl
  f115 := Ybad.func8.trans (congrArg some (by kernel_rfl))
  t4 := Ybad.underlying4
  a4 := Ybad.isAgg4
  z4 := Ybad.sizeOf4
  v4 := Ybad.zeroValue4
  t9 := Ybad.underlying9
  a9 := Ybad.isAgg9
  z9 := Ybad.sizeOf9
  v9 := Ybad.zeroValue9
  t37 := Ybad.underlying22
  a37 := Ybad.isAgg22
  z37 := Ybad.sizeOf22
  v37 := Ybad.zeroValue22
  t5 := Ybad.underlying5
  a5 := Ybad.isAgg5
  z5 := Ybad.sizeOf5
  v5 := Ybad.zeroValue5 }
theorem Ybad.bytes_Equal_all (p1 p2 : Option Addr) (n c m d : Nat) (xs ys : List Int) (w : World) (hx : xs.length = n) (hy : ys.length = m) (h1 : Lib.BytesIn w p1 n xs) (h2 : Lib.BytesIn w p2 m ys) :
    Calls Ybad.prog 8 #[.slice p1 n c, .slice p2 m d] w fun e w' => e = .returned (.bool (Lib.bytesOf xs == Lib.bytesOf ys)) ∧ w' = w := Any.bytes_Equal_all Ybad.laysnb115 p1 p2 n c m d xs ys w hx hy h1 h2
def Ybad.lays115_ren : Go.Shelf.Ren := ⟨fun | 115 => 8 | n => n, fun | 37 => 22 | 4 => 4 | 9 => 9 | 5 => 5 | n => n, fun | n => n⟩
theorem Ybad.lays115 : Go.Proofs.Lays.n115 Ybad.prog Ybad.lays115_ren := {
  mixed := by kernel_rfl
  f115 := Ybad.func8.trans (congrArg some (by kernel_rfl))
  t4 := Ybad.underlying4
  a4 := Ybad.isAgg4
  z4 := Ybad.sizeOf4
  v4 := Ybad.zeroValue4
  t9 := Ybad.underlying9
  a9 := Ybad.isAgg9
  z9 := Ybad.sizeOf9
  v9 := Ybad.zeroValue9
  t37 := Ybad.underlying22
  a37 := Ybad.isAgg22
  z37 := Ybad.sizeOf22
  v37 := Ybad.zeroValue22 }
theorem Ybad.bytes_Equal (v1 v2 : Value) (xs ys : List Int) (w : World) (h1 : (convert 22 9 v1).run Ybad.prog w = .ok (.string (strOfNums xs)) w) (h2 : (convert 22 9 v2).run Ybad.prog w = .ok (.string (strOfNums ys)) w) :
    Calls Ybad.prog 8 #[v1, v2] w fun e w' => e = .returned (.bool (Lib.bytesOf xs == Lib.bytesOf ys)) ∧ w' = w := Any.bytes_Equal Ybad.lays115 v1 v2 xs ys w h1 h2
end Go.Proofs
