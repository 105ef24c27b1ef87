/-
  The library's contracts at this program, in plain words (out of what the shelf's tools write for it; two layings by hand).
-/
import Derived.Shelf.Strings.Builder1
import Derived.Shelf.Strings.Builder2
import Derived.Shelf.Strings.BuilderK
import Derived.Shelf.Strconv.Itoa1
import Derived.Shelf.Strconv.Itoa2
import Derived.Shelf.LaysM
import Derived.Test.Qxb6627766aDoorRows
namespace Go.Proofs
open Go.Shelf
/-- The library's table of powers of ten, by its name. -/
abbrev Qxb6627766aDoor.tabN : String := Qxb6627766aDoor.Rows.fnKeyStringFramesBackendAndNameRow.named.headD default
def Tryd.lays165_ren : Go.Shelf.Ren := ⟨fun | 165 => 9 | 240 => 15 | 241 => 16 | 276 => 18 | 277 => 19 | n => n, fun | 70 => 29 | 3 => 3 | 0 => 0 | 4 => 4 | 9 => 9 | 20 => 20 | 72 => 32 | 37 => 30 | 164 => 44 | 5 => 5 | n => n, fun | n => n⟩
theorem Tryd.lays165 : Go.Proofs.Lays.n165 Tryd.prog Tryd.lays165_ren := {
  mixed := by kernel_rfl
  f165 := Tryd.func9.trans (congrArg some (by kernel_rfl))
  f240 := Tryd.func15.trans (congrArg some (by kernel_rfl))
  f241 := Tryd.func16.trans (congrArg some (by kernel_rfl))
  f276 := Tryd.func18.trans (congrArg some (by kernel_rfl))
  f277 := Tryd.func19.trans (congrArg some (by kernel_rfl))
  t0 := Tryd.underlying0
  a0 := Tryd.isAgg0
  z0 := Tryd.sizeOf0
  v0 := Tryd.zeroValue0
  t3 := Tryd.underlying3
  a3 := Tryd.isAgg3
  z3 := Tryd.sizeOf3
  v3 := Tryd.zeroValue3
  t4 := Tryd.underlying4
  a4 := Tryd.isAgg4
  z4 := Tryd.sizeOf4
  v4 := Tryd.zeroValue4
  t9 := Tryd.underlying9
  a9 := Tryd.isAgg9
  z9 := Tryd.sizeOf9
  v9 := Tryd.zeroValue9
  t20 := Tryd.underlying20
  a20 := Tryd.isAgg20
  z20 := Tryd.sizeOf20
  v20 := Tryd.zeroValue20
  t37 := Tryd.underlying30
  a37 := Tryd.isAgg30
  z37 := Tryd.sizeOf30
  v37 := Tryd.zeroValue30
  t70 := Tryd.underlying29
  a70 := Tryd.isAgg29
  z70 := Tryd.sizeOf29
  v70 := Tryd.zeroValue29
  t72 := Tryd.underlying32
  a72 := Tryd.isAgg32
  z72 := Tryd.sizeOf32
  v72 := Tryd.zeroValue32
  t164 := Tryd.underlying44
  a164 := Tryd.isAgg44
  z164 := Tryd.sizeOf44
  v164 := Tryd.zeroValue44 }
theorem Tryd.Builder_Extra_165 : Builder.Extra Tryd.prog Tryd.lays165_ren := {
  sizeBuilder := by kernel_rfl
  liesBuilder := by kernel_rfl
  t5 := Tryd.underlying5
  a5 := Tryd.isAgg5
  z5 := Tryd.sizeOf5
  v5 := Tryd.zeroValue5
  infoByte := by kernel_rfl
  cellsByte := by kernel_rfl
  sizeByte := by kernel_rfl
  neB5 := by decide }
def Tryd.lays169_ren : Go.Shelf.Ren := ⟨fun | 169 => 14 | n => n, fun | 70 => 29 | 9 => 9 | 0 => 0 | 72 => 32 | 37 => 30 | 127 => 43 | 3 => 3 | 5 => 5 | n => n, fun | n => n⟩
theorem Tryd.lays169 : Go.Proofs.Lays.n169 Tryd.prog Tryd.lays169_ren := {
  mixed := by kernel_rfl
  f169 := Tryd.func14.trans (congrArg some (by kernel_rfl))
  t0 := Tryd.underlying0
  a0 := Tryd.isAgg0
  z0 := Tryd.sizeOf0
  v0 := Tryd.zeroValue0
  t3 := Tryd.underlying3
  a3 := Tryd.isAgg3
  z3 := Tryd.sizeOf3
  v3 := Tryd.zeroValue3
  t9 := Tryd.underlying9
  a9 := Tryd.isAgg9
  z9 := Tryd.sizeOf9
  v9 := Tryd.zeroValue9
  t37 := Tryd.underlying30
  a37 := Tryd.isAgg30
  z37 := Tryd.sizeOf30
  v37 := Tryd.zeroValue30
  t70 := Tryd.underlying29
  a70 := Tryd.isAgg29
  z70 := Tryd.sizeOf29
  v70 := Tryd.zeroValue29
  t72 := Tryd.underlying32
  a72 := Tryd.isAgg32
  z72 := Tryd.sizeOf32
  v72 := Tryd.zeroValue32
  t127 := Tryd.underlying43
  a127 := Tryd.isAgg43
  z127 := Tryd.sizeOf43
  v127 := Tryd.zeroValue43 }
theorem Tryd.Builder_Extra_169 : Builder.Extra Tryd.prog Tryd.lays169_ren := {
  sizeBuilder := by kernel_rfl
  liesBuilder := by kernel_rfl
  t5 := Tryd.underlying5
  a5 := Tryd.isAgg5
  z5 := Tryd.sizeOf5
  v5 := Tryd.zeroValue5
  infoByte := by kernel_rfl
  cellsByte := by kernel_rfl
  sizeByte := by kernel_rfl
  neB5 := by decide }
def Tryd.lays240_ren : Go.Shelf.Ren := ⟨fun | 240 => 15 | 276 => 18 | n => n, fun | 70 => 29 | 9 => 9 | 0 => 0 | 4 => 4 | 20 => 20 | 72 => 32 | 37 => 30 | 164 => 44 | 5 => 5 | n => n, fun | n => n⟩
theorem Tryd.lays240 : Go.Proofs.Lays.n240 Tryd.prog Tryd.lays240_ren := {
  mixed := by kernel_rfl
  f240 := Tryd.func15.trans (congrArg some (by kernel_rfl))
  f276 := Tryd.func18.trans (congrArg some (by kernel_rfl))
  t0 := Tryd.underlying0
  a0 := Tryd.isAgg0
  z0 := Tryd.sizeOf0
  v0 := Tryd.zeroValue0
  t4 := Tryd.underlying4
  a4 := Tryd.isAgg4
  z4 := Tryd.sizeOf4
  v4 := Tryd.zeroValue4
  t9 := Tryd.underlying9
  a9 := Tryd.isAgg9
  z9 := Tryd.sizeOf9
  v9 := Tryd.zeroValue9
  t20 := Tryd.underlying20
  a20 := Tryd.isAgg20
  z20 := Tryd.sizeOf20
  v20 := Tryd.zeroValue20
  t70 := Tryd.underlying29
  a70 := Tryd.isAgg29
  z70 := Tryd.sizeOf29
  v70 := Tryd.zeroValue29
  t72 := Tryd.underlying32
  a72 := Tryd.isAgg32
  z72 := Tryd.sizeOf32
  v72 := Tryd.zeroValue32
  t164 := Tryd.underlying44
  a164 := Tryd.isAgg44
  z164 := Tryd.sizeOf44
  v164 := Tryd.zeroValue44 }
def Tryd.lays166_ren : Go.Shelf.Ren := ⟨fun | 166 => 10 | 240 => 15 | 276 => 18 | n => n, fun | 70 => 29 | 9 => 9 | 3 => 3 | 75 => 35 | 80 => 25 | 0 => 0 | 4 => 4 | 20 => 20 | 72 => 32 | 37 => 30 | 164 => 44 | 5 => 5 | n => n, fun | n => n⟩
theorem Tryd.lays166 : Go.Proofs.Lays.n166 Tryd.prog Tryd.lays166_ren := {
  mixed := by kernel_rfl
  f166 := Tryd.func10.trans (congrArg some (by kernel_rfl))
  f240 := Tryd.func15.trans (congrArg some (by kernel_rfl))
  f276 := Tryd.func18.trans (congrArg some (by kernel_rfl))
  t0 := Tryd.underlying0
  a0 := Tryd.isAgg0
  z0 := Tryd.sizeOf0
  v0 := Tryd.zeroValue0
  t3 := Tryd.underlying3
  a3 := Tryd.isAgg3
  z3 := Tryd.sizeOf3
  v3 := Tryd.zeroValue3
  t4 := Tryd.underlying4
  a4 := Tryd.isAgg4
  z4 := Tryd.sizeOf4
  v4 := Tryd.zeroValue4
  t9 := Tryd.underlying9
  a9 := Tryd.isAgg9
  z9 := Tryd.sizeOf9
  v9 := Tryd.zeroValue9
  t20 := Tryd.underlying20
  a20 := Tryd.isAgg20
  z20 := Tryd.sizeOf20
  v20 := Tryd.zeroValue20
  t37 := Tryd.underlying30
  a37 := Tryd.isAgg30
  z37 := Tryd.sizeOf30
  v37 := Tryd.zeroValue30
  t70 := Tryd.underlying29
  a70 := Tryd.isAgg29
  z70 := Tryd.sizeOf29
  v70 := Tryd.zeroValue29
  t72 := Tryd.underlying32
  a72 := Tryd.isAgg32
  z72 := Tryd.sizeOf32
  v72 := Tryd.zeroValue32
  t75 := Tryd.underlying35
  a75 := Tryd.isAgg35
  z75 := Tryd.sizeOf35
  v75 := Tryd.zeroValue35
  t164 := Tryd.underlying44
  a164 := Tryd.isAgg44
  z164 := Tryd.sizeOf44
  v164 := Tryd.zeroValue44 }
theorem Tryd.Builder_Extra_166 : Builder.Extra Tryd.prog Tryd.lays166_ren := {
  sizeBuilder := by kernel_rfl
  liesBuilder := by kernel_rfl
  t5 := Tryd.underlying5
  a5 := Tryd.isAgg5
  z5 := Tryd.sizeOf5
  v5 := Tryd.zeroValue5
  infoByte := by kernel_rfl
  cellsByte := by kernel_rfl
  sizeByte := by kernel_rfl
  neB5 := by decide }
theorem Tryd.Builder_X72_240 : Builder.X72 Tryd.prog Tryd.lays240_ren := {
  sizeBuilder := by kernel_rfl
  liesBuilder := by kernel_rfl }
def Tryd.lays283_ren : Go.Shelf.Ren := ⟨fun | 283 => 21 | n => n, fun | 3 => 3 | 9 => 9 | 4 => 4 | n => n, fun | n => n⟩
theorem Tryd.lays283 : Go.Proofs.Lays.n283 Tryd.prog Tryd.lays283_ren := {
  mixed := by kernel_rfl
  f283 := Tryd.func21.trans (congrArg some (by kernel_rfl))
  t3 := Tryd.underlying3
  a3 := Tryd.isAgg3
  z3 := Tryd.sizeOf3
  v3 := Tryd.zeroValue3
  t4 := Tryd.underlying4
  a4 := Tryd.isAgg4
  z4 := Tryd.sizeOf4
  v4 := Tryd.zeroValue4
  t9 := Tryd.underlying9
  a9 := Tryd.isAgg9
  z9 := Tryd.sizeOf9
  v9 := Tryd.zeroValue9 }
def Tryd.laysM284_ren : Go.Shelf.Ren := ⟨fun | 284 => 22 | 129 => 26 | 317 => 25 | 318 => 27 | n => n, fun | 53 => 42 | 3 => 3 | 212 => 56 | 0 => 0 | 4 => 4 | 46 => 60 | 5 => 5 | 9 => 9 | n => n, fun | 17 => 1 | n => n⟩
theorem Tryd.laysM284 : Go.Proofs.LaysM.n284 Tryd.prog Tryd.laysM284_ren := {
  mixed := by kernel_rfl
  f129 := Tryd.func26.trans (congrArg some (by kernel_rfl))
  f284 := Tryd.func22.trans (congrArg some (by kernel_rfl))
  f317 := Tryd.func25.trans (congrArg some (by kernel_rfl))
  f318 := Tryd.func27.trans (congrArg some (by kernel_rfl))
  t0 := Tryd.underlying0
  a0 := Tryd.isAgg0
  z0 := Tryd.sizeOf0
  v0 := Tryd.zeroValue0
  t3 := Tryd.underlying3
  a3 := Tryd.isAgg3
  z3 := Tryd.sizeOf3
  v3 := Tryd.zeroValue3
  t4 := Tryd.underlying4
  a4 := Tryd.isAgg4
  z4 := Tryd.sizeOf4
  v4 := Tryd.zeroValue4
  t5 := Tryd.underlying5
  a5 := Tryd.isAgg5
  z5 := Tryd.sizeOf5
  v5 := Tryd.zeroValue5
  t9 := Tryd.underlying9
  a9 := Tryd.isAgg9
  z9 := Tryd.sizeOf9
  v9 := Tryd.zeroValue9
  t46 := Tryd.underlying60
  a46 := Tryd.isAgg60
  z46 := Tryd.sizeOf60
  v46 := Tryd.zeroValue60
  t53 := Tryd.underlying42
  a53 := Tryd.isAgg42
  z53 := Tryd.sizeOf42
  v53 := Tryd.zeroValue42
  t212 := Tryd.underlying56
  a212 := Tryd.isAgg56
  z212 := Tryd.sizeOf56
  v212 := Tryd.zeroValue56
  g17 := by kernel_rfl
  i0 := by kernel_rfl
  i3 := by kernel_rfl
  i4 := by kernel_rfl
  i5 := by kernel_rfl
  i9 := by kernel_rfl
  i46 := by kernel_rfl
  i53 := by kernel_rfl
  i212 := by kernel_rfl
  m17 := by kernel_rfl }
def Tryd.lays285_ren : Go.Shelf.Ren := ⟨fun | 285 => 23 | n => n, fun | 37 => 30 | 53 => 42 | 3 => 3 | 4 => 4 | 51 => 57 | 9 => 9 | 5 => 5 | 0 => 0 | n => n, fun | n => n⟩
theorem Tryd.lays285 : Go.Proofs.Lays.n285 Tryd.prog Tryd.lays285_ren := {
  mixed := by kernel_rfl
  f285 := Tryd.func23.trans (congrArg some (by kernel_rfl))
  t0 := Tryd.underlying0
  a0 := Tryd.isAgg0
  z0 := Tryd.sizeOf0
  v0 := Tryd.zeroValue0
  t3 := Tryd.underlying3
  a3 := Tryd.isAgg3
  z3 := Tryd.sizeOf3
  v3 := Tryd.zeroValue3
  t4 := Tryd.underlying4
  a4 := Tryd.isAgg4
  z4 := Tryd.sizeOf4
  v4 := Tryd.zeroValue4
  t5 := Tryd.underlying5
  a5 := Tryd.isAgg5
  z5 := Tryd.sizeOf5
  v5 := Tryd.zeroValue5
  t9 := Tryd.underlying9
  a9 := Tryd.isAgg9
  z9 := Tryd.sizeOf9
  v9 := Tryd.zeroValue9
  t37 := Tryd.underlying30
  a37 := Tryd.isAgg30
  z37 := Tryd.sizeOf30
  v37 := Tryd.zeroValue30
  t51 := Tryd.underlying57
  a51 := Tryd.isAgg57
  z51 := Tryd.sizeOf57
  v51 := Tryd.zeroValue57
  t53 := Tryd.underlying42
  a53 := Tryd.isAgg42
  z53 := Tryd.sizeOf42
  v53 := Tryd.zeroValue42 }
open Go.RowKit in
theorem Tryd.Builder_Grow_fresh (B b n : Nat) (w : World) (hB : B ≤ b) (hbk : w.heap[b]? = some (.cells #[.pointer none, .slice none 0 0] 32 (0, 0))) (hBw : B ≤ w.heap.size) (hn : n ≤ 281474976710656) :
    Calls Tryd.prog 9 #[.pointer (some ⟨b, 0, none⟩), .int .i64 n] w fun e w' => e = .returned (.tuple #[]) ∧ (Lib.BuilderAt 32 5 B b (.pointer (some ⟨b, 0, none⟩)) [] w' ∧ Below B w w') := Any.Builder_Grow_fresh Tryd.lays165 Tryd.Builder_Extra_165 B b n w hB hbk hBw hn
open Go.RowKit in
theorem Tryd.Builder_String_any_k (B b : Nat) (l : List UInt8) (w : World) (h : Lib.IsBuilderF 32 5 B b (Lib.byteCells l) w) (hBw : B ≤ w.heap.size) :
    Calls Tryd.prog 14 #[.pointer (some ⟨b, 0, none⟩)] w fun e w' => e = .returned (.string ⟨l.toArray⟩) ∧ (Lib.IsBuilderF 32 5 B b (Lib.byteCells l) w' ∧ Below B w w' ∧ Lib.OthersKept 5 (some b) w w') := Any.Builder_String_any_k Tryd.lays169 Tryd.Builder_Extra_169 B b l w h hBw
open Go.RowKit in
theorem Tryd.internal_strconv_small (i : Nat) (h : i < 100) (w : World) :
    Calls Tryd.prog 21 #[.int .i64 i] w fun e w' => e = .returned (.string ⟨(Lib.decDigits i).toArray⟩) ∧ w' = w := Any.internal_strconv_small Tryd.lays283 i h w
open Go.RowKit in
theorem Tryd.internal_strconv_numDigits (u : Nat) (h1 : 1 ≤ u) (h2 : u < 18446744073709551616) (w : World) (htab : Lib.TabIs Tryd.prog w Qxb6627766aDoor.tabN .u64 Lib.pow10Tab) :
    Calls Tryd.prog 22 #[.int .u64 u] w fun e w' => e = .returned (.int .i64 (Lib.nDigits u)) ∧ w' = w := Any.internal_strconv_numDigits Tryd.laysM284 u h1 h2 w htab
open Go.RowKit Go.Sort Go.Lib in
theorem Tryd.internal_strconv_formatBase10 (blk off cap : Nat) (u : Nat) (d : Array UInt8) (w : World) (hH : Holds (fun (b : UInt8) => Value.int .u8 (b.toNat : Int)) w blk off d) (hu : u < 10 ^ d.size) (hu64 : u < 18446744073709551616) (hsz : d.size < 4611686018427387904) :
    Calls Tryd.prog 23 #[.slice (some ⟨blk, off, none⟩) d.size cap, .int .u64 u] w fun e w' =>
      e = .returned (.tuple #[]) ∧ ∃ (n v' : Nat) (dk : Array UInt8), w' = (putRow (fun (b : UInt8) => Value.int .u8 (b.toNat : Int)) w blk off dk).drewN n ∧ FmtInv d.size u 0 v' dk := Any.internal_strconv_formatBase10 Tryd.lays285 blk off cap u d w hH hu hu64 hsz
open Go.RowKit in
theorem Tryd.Builder_copyCheck_k (B b : Nat) (bs : List Value) (w : World) (h : Lib.IsBuilderF 32 5 B b bs w) :
    Calls Tryd.prog 15 #[.pointer (some ⟨b, 0, none⟩)] w fun e w' => e = .returned (.tuple #[]) ∧ (Lib.BuilderAtF 32 5 B b (.pointer (some ⟨b, 0, none⟩)) bs w' ∧ Below B w w' ∧ Lib.OthersKept 5 (some b) w w') := Any.Builder_copyCheck_k Tryd.lays240 Tryd.Builder_X72_240 B b bs w h
open Go.RowKit in
theorem Tryd.Builder_WriteString_k (B b : Nat) (bs : List Value) (s : ByteArray) (w : World) (h : Lib.IsBuilderF 32 5 B b bs w) (hlen : bs.length + s.size ≤ 140737488355328) (hBw : B ≤ w.heap.size) :
    Calls Tryd.prog 10 #[.pointer (some ⟨b, 0, none⟩), .string s] w fun e w' => e = .returned (.tuple #[.int .i64 s.size, .nilIface]) ∧ (Lib.BuilderAtF 32 5 B b (.pointer (some ⟨b, 0, none⟩)) (bs ++ Lib.strCells s) w' ∧ Below B w w' ∧ Lib.OthersKept 5 (some b) w w') := Any.Builder_WriteString_k Tryd.lays166 Tryd.Builder_Extra_166 B b bs s w h hlen hBw
end Go.Proofs
