/-
  The library's contracts at this program, in plain words (out of what the shelf's tools write for it; two layings by hand).
-/
import Derived.Shelf.Strings.Builder1
import Derived.Shelf.Strings.BuilderK
import Derived.Shelf.Strconv.Itoa1
import Derived.Shelf.Strconv.Itoa2
import Derived.Shelf.LaysM
import Derived.Test.Qxb6627839aDoorRows
namespace Go.Proofs
open Go.Shelf
/-- The library's table of powers of ten, by its name. -/
abbrev Qxb6627839aDoor.tabN : String := Qxb6627839aDoor.Rows.fnStringSplitsAtEveryCutRow.named.headD default
def Tryd.lays169_ren : Go.Shelf.Ren := ⟨fun | 169 => 14 | n => n, fun | 70 => 31 | 9 => 9 | 0 => 0 | 72 => 34 | 37 => 32 | 127 => 41 | 3 => 3 | 5 => 5 | n => n, fun | n => n⟩
theorem Tryd.lays169 : Go.Proofs.Lays.n169 Tryd.prog Tryd.lays169_ren := {
  mixed := by kernel_rfl
  f169 := Tryd.func14.trans (congrArg some (by kernel_rfl))
  t0 := Tryd.underlying0
  a0 := Tryd.isAgg0
  z0 := Tryd.sizeOf0
  v0 := Tryd.zeroValue0
  t3 := Tryd.underlying3
  a3 := Tryd.isAgg3
  z3 := Tryd.sizeOf3
  v3 := Tryd.zeroValue3
  t9 := Tryd.underlying9
  a9 := Tryd.isAgg9
  z9 := Tryd.sizeOf9
  v9 := Tryd.zeroValue9
  t37 := Tryd.underlying32
  a37 := Tryd.isAgg32
  z37 := Tryd.sizeOf32
  v37 := Tryd.zeroValue32
  t70 := Tryd.underlying31
  a70 := Tryd.isAgg31
  z70 := Tryd.sizeOf31
  v70 := Tryd.zeroValue31
  t72 := Tryd.underlying34
  a72 := Tryd.isAgg34
  z72 := Tryd.sizeOf34
  v72 := Tryd.zeroValue34
  t127 := Tryd.underlying41
  a127 := Tryd.isAgg41
  z127 := Tryd.sizeOf41
  v127 := Tryd.zeroValue41 }
theorem Tryd.Builder_Extra_169 : Builder.Extra Tryd.prog Tryd.lays169_ren := {
  sizeBuilder := by kernel_rfl
  liesBuilder := by kernel_rfl
  t5 := Tryd.underlying5
  a5 := Tryd.isAgg5
  z5 := Tryd.sizeOf5
  v5 := Tryd.zeroValue5
  infoByte := by kernel_rfl
  cellsByte := by kernel_rfl
  sizeByte := by kernel_rfl
  neB5 := by decide }
def Tryd.lays167_ren : Go.Shelf.Ren := ⟨fun | 167 => 11 | 240 => 15 | 276 => 17 | n => n, fun | 70 => 31 | 9 => 9 | 0 => 0 | 3 => 3 | 4 => 4 | 20 => 20 | 72 => 34 | 37 => 32 | 164 => 42 | 5 => 5 | 75 => 36 | 80 => 25 | n => n, fun | n => n⟩
theorem Tryd.lays167 : Go.Proofs.Lays.n167 Tryd.prog Tryd.lays167_ren := {
  mixed := by kernel_rfl
  f167 := Tryd.func11.trans (congrArg some (by kernel_rfl))
  f240 := Tryd.func15.trans (congrArg some (by kernel_rfl))
  f276 := Tryd.func17.trans (congrArg some (by kernel_rfl))
  t0 := Tryd.underlying0
  a0 := Tryd.isAgg0
  z0 := Tryd.sizeOf0
  v0 := Tryd.zeroValue0
  t4 := Tryd.underlying4
  a4 := Tryd.isAgg4
  z4 := Tryd.sizeOf4
  v4 := Tryd.zeroValue4
  t5 := Tryd.underlying5
  a5 := Tryd.isAgg5
  z5 := Tryd.sizeOf5
  v5 := Tryd.zeroValue5
  t9 := Tryd.underlying9
  a9 := Tryd.isAgg9
  z9 := Tryd.sizeOf9
  v9 := Tryd.zeroValue9
  t20 := Tryd.underlying20
  a20 := Tryd.isAgg20
  z20 := Tryd.sizeOf20
  v20 := Tryd.zeroValue20
  t37 := Tryd.underlying32
  a37 := Tryd.isAgg32
  z37 := Tryd.sizeOf32
  v37 := Tryd.zeroValue32
  t70 := Tryd.underlying31
  a70 := Tryd.isAgg31
  z70 := Tryd.sizeOf31
  v70 := Tryd.zeroValue31
  t72 := Tryd.underlying34
  a72 := Tryd.isAgg34
  z72 := Tryd.sizeOf34
  v72 := Tryd.zeroValue34
  t75 := Tryd.underlying36
  a75 := Tryd.isAgg36
  z75 := Tryd.sizeOf36
  v75 := Tryd.zeroValue36
  t164 := Tryd.underlying42
  a164 := Tryd.isAgg42
  z164 := Tryd.sizeOf42
  v164 := Tryd.zeroValue42 }
def Tryd.lays166_ren : Go.Shelf.Ren := ⟨fun | 166 => 12 | 240 => 15 | 276 => 17 | n => n, fun | 70 => 31 | 9 => 9 | 0 => 0 | 3 => 3 | 4 => 4 | 20 => 20 | 72 => 34 | 37 => 32 | 164 => 42 | 5 => 5 | 75 => 36 | 80 => 25 | n => n, fun | n => n⟩
theorem Tryd.lays166 : Go.Proofs.Lays.n166 Tryd.prog Tryd.lays166_ren := {
  mixed := by kernel_rfl
  f166 := Tryd.func12.trans (congrArg some (by kernel_rfl))
  f240 := Tryd.func15.trans (congrArg some (by kernel_rfl))
  f276 := Tryd.func17.trans (congrArg some (by kernel_rfl))
  t0 := Tryd.underlying0
  a0 := Tryd.isAgg0
  z0 := Tryd.sizeOf0
  v0 := Tryd.zeroValue0
  t3 := Tryd.underlying3
  a3 := Tryd.isAgg3
  z3 := Tryd.sizeOf3
  v3 := Tryd.zeroValue3
  t4 := Tryd.underlying4
  a4 := Tryd.isAgg4
  z4 := Tryd.sizeOf4
  v4 := Tryd.zeroValue4
  t9 := Tryd.underlying9
  a9 := Tryd.isAgg9
  z9 := Tryd.sizeOf9
  v9 := Tryd.zeroValue9
  t20 := Tryd.underlying20
  a20 := Tryd.isAgg20
  z20 := Tryd.sizeOf20
  v20 := Tryd.zeroValue20
  t37 := Tryd.underlying32
  a37 := Tryd.isAgg32
  z37 := Tryd.sizeOf32
  v37 := Tryd.zeroValue32
  t70 := Tryd.underlying31
  a70 := Tryd.isAgg31
  z70 := Tryd.sizeOf31
  v70 := Tryd.zeroValue31
  t72 := Tryd.underlying34
  a72 := Tryd.isAgg34
  z72 := Tryd.sizeOf34
  v72 := Tryd.zeroValue34
  t75 := Tryd.underlying36
  a75 := Tryd.isAgg36
  z75 := Tryd.sizeOf36
  v75 := Tryd.zeroValue36
  t164 := Tryd.underlying42
  a164 := Tryd.isAgg42
  z164 := Tryd.sizeOf42
  v164 := Tryd.zeroValue42 }
theorem Tryd.Builder_Extra_166 : Builder.Extra Tryd.prog Tryd.lays166_ren := {
  sizeBuilder := by kernel_rfl
  liesBuilder := by kernel_rfl
  t5 := Tryd.underlying5
  a5 := Tryd.isAgg5
  z5 := Tryd.sizeOf5
  v5 := Tryd.zeroValue5
  infoByte := by kernel_rfl
  cellsByte := by kernel_rfl
  sizeByte := by kernel_rfl
  neB5 := by decide }
theorem Tryd.Builder_Extra_167 : Builder.Extra Tryd.prog Tryd.lays167_ren := {
  sizeBuilder := by kernel_rfl
  liesBuilder := by kernel_rfl
  t5 := Tryd.underlying5
  a5 := Tryd.isAgg5
  z5 := Tryd.sizeOf5
  v5 := Tryd.zeroValue5
  infoByte := by kernel_rfl
  cellsByte := by kernel_rfl
  sizeByte := by kernel_rfl
  neB5 := by decide }
def Tryd.lays283_ren : Go.Shelf.Ren := ⟨fun | 283 => 18 | n => n, fun | 3 => 3 | 9 => 9 | 4 => 4 | n => n, fun | n => n⟩
theorem Tryd.lays283 : Go.Proofs.Lays.n283 Tryd.prog Tryd.lays283_ren := {
  mixed := by kernel_rfl
  f283 := Tryd.func18.trans (congrArg some (by kernel_rfl))
  t3 := Tryd.underlying3
  a3 := Tryd.isAgg3
  z3 := Tryd.sizeOf3
  v3 := Tryd.zeroValue3
  t4 := Tryd.underlying4
  a4 := Tryd.isAgg4
  z4 := Tryd.sizeOf4
  v4 := Tryd.zeroValue4
  t9 := Tryd.underlying9
  a9 := Tryd.isAgg9
  z9 := Tryd.sizeOf9
  v9 := Tryd.zeroValue9 }
def Tryd.laysM284_ren : Go.Shelf.Ren := ⟨fun | 284 => 19 | 129 => 23 | 317 => 22 | 318 => 24 | n => n, fun | 53 => 27 | 3 => 3 | 212 => 51 | 0 => 0 | 4 => 4 | 46 => 55 | 5 => 5 | 9 => 9 | n => n, fun | 17 => 0 | n => n⟩
theorem Tryd.laysM284 : Go.Proofs.LaysM.n284 Tryd.prog Tryd.laysM284_ren := {
  mixed := by kernel_rfl
  f129 := Tryd.func23.trans (congrArg some (by kernel_rfl))
  f284 := Tryd.func19.trans (congrArg some (by kernel_rfl))
  f317 := Tryd.func22.trans (congrArg some (by kernel_rfl))
  f318 := Tryd.func24.trans (congrArg some (by kernel_rfl))
  t0 := Tryd.underlying0
  a0 := Tryd.isAgg0
  z0 := Tryd.sizeOf0
  v0 := Tryd.zeroValue0
  t3 := Tryd.underlying3
  a3 := Tryd.isAgg3
  z3 := Tryd.sizeOf3
  v3 := Tryd.zeroValue3
  t4 := Tryd.underlying4
  a4 := Tryd.isAgg4
  z4 := Tryd.sizeOf4
  v4 := Tryd.zeroValue4
  t5 := Tryd.underlying5
  a5 := Tryd.isAgg5
  z5 := Tryd.sizeOf5
  v5 := Tryd.zeroValue5
  t9 := Tryd.underlying9
  a9 := Tryd.isAgg9
  z9 := Tryd.sizeOf9
  v9 := Tryd.zeroValue9
  t46 := Tryd.underlying55
  a46 := Tryd.isAgg55
  z46 := Tryd.sizeOf55
  v46 := Tryd.zeroValue55
  t53 := Tryd.underlying27
  a53 := Tryd.isAgg27
  z53 := Tryd.sizeOf27
  v53 := Tryd.zeroValue27
  t212 := Tryd.underlying51
  a212 := Tryd.isAgg51
  z212 := Tryd.sizeOf51
  v212 := Tryd.zeroValue51
  g17 := by kernel_rfl
  i0 := by kernel_rfl
  i3 := by kernel_rfl
  i4 := by kernel_rfl
  i5 := by kernel_rfl
  i9 := by kernel_rfl
  i46 := by kernel_rfl
  i53 := by kernel_rfl
  i212 := by kernel_rfl
  m17 := by kernel_rfl }
def Tryd.lays285_ren : Go.Shelf.Ren := ⟨fun | 285 => 20 | n => n, fun | 37 => 32 | 53 => 27 | 3 => 3 | 4 => 4 | 51 => 52 | 9 => 9 | 5 => 5 | 0 => 0 | n => n, fun | n => n⟩
theorem Tryd.lays285 : Go.Proofs.Lays.n285 Tryd.prog Tryd.lays285_ren := {
  mixed := by kernel_rfl
  f285 := Tryd.func20.trans (congrArg some (by kernel_rfl))
  t0 := Tryd.underlying0
  a0 := Tryd.isAgg0
  z0 := Tryd.sizeOf0
  v0 := Tryd.zeroValue0
  t3 := Tryd.underlying3
  a3 := Tryd.isAgg3
  z3 := Tryd.sizeOf3
  v3 := Tryd.zeroValue3
  t4 := Tryd.underlying4
  a4 := Tryd.isAgg4
  z4 := Tryd.sizeOf4
  v4 := Tryd.zeroValue4
  t5 := Tryd.underlying5
  a5 := Tryd.isAgg5
  z5 := Tryd.sizeOf5
  v5 := Tryd.zeroValue5
  t9 := Tryd.underlying9
  a9 := Tryd.isAgg9
  z9 := Tryd.sizeOf9
  v9 := Tryd.zeroValue9
  t37 := Tryd.underlying32
  a37 := Tryd.isAgg32
  z37 := Tryd.sizeOf32
  v37 := Tryd.zeroValue32
  t51 := Tryd.underlying52
  a51 := Tryd.isAgg52
  z51 := Tryd.sizeOf52
  v51 := Tryd.zeroValue52
  t53 := Tryd.underlying27
  a53 := Tryd.isAgg27
  z53 := Tryd.sizeOf27
  v53 := Tryd.zeroValue27 }
open Go.RowKit in
theorem Tryd.Builder_String_any_k (B b : Nat) (l : List UInt8) (w : World) (h : Lib.IsBuilderF 34 5 B b (Lib.byteCells l) w) (hBw : B ≤ w.heap.size) :
    Calls Tryd.prog 14 #[.pointer (some ⟨b, 0, none⟩)] w fun e w' => e = .returned (.string ⟨l.toArray⟩) ∧ (Lib.IsBuilderF 34 5 B b (Lib.byteCells l) w' ∧ Below B w w' ∧ Lib.OthersKept 5 (some b) w w') := Any.Builder_String_any_k Tryd.lays169 Tryd.Builder_Extra_169 B b l w h hBw
open Go.RowKit in
theorem Tryd.internal_strconv_small (i : Nat) (h : i < 100) (w : World) :
    Calls Tryd.prog 18 #[.int .i64 i] w fun e w' => e = .returned (.string ⟨(Lib.decDigits i).toArray⟩) ∧ w' = w := Any.internal_strconv_small Tryd.lays283 i h w
open Go.RowKit in
theorem Tryd.internal_strconv_numDigits (u : Nat) (h1 : 1 ≤ u) (h2 : u < 18446744073709551616) (w : World) (htab : Lib.TabIs Tryd.prog w Qxb6627839aDoor.tabN .u64 Lib.pow10Tab) :
    Calls Tryd.prog 19 #[.int .u64 u] w fun e w' => e = .returned (.int .i64 (Lib.nDigits u)) ∧ w' = w := Any.internal_strconv_numDigits Tryd.laysM284 u h1 h2 w htab
open Go.RowKit Go.Sort Go.Lib in
theorem Tryd.internal_strconv_formatBase10 (blk off cap : Nat) (u : Nat) (d : Array UInt8) (w : World) (hH : Holds (fun (b : UInt8) => Value.int .u8 (b.toNat : Int)) w blk off d) (hu : u < 10 ^ d.size) (hu64 : u < 18446744073709551616) (hsz : d.size < 4611686018427387904) :
    Calls Tryd.prog 20 #[.slice (some ⟨blk, off, none⟩) d.size cap, .int .u64 u] w fun e w' =>
      e = .returned (.tuple #[]) ∧ ∃ (n v' : Nat) (dk : Array UInt8), w' = (putRow (fun (b : UInt8) => Value.int .u8 (b.toNat : Int)) w blk off dk).drewN n ∧ FmtInv d.size u 0 v' dk := Any.internal_strconv_formatBase10 Tryd.lays285 blk off cap u d w hH hu hu64 hsz
open Go.RowKit in
theorem Tryd.Builder_WriteByte_k (B b : Nat) (bs : List Value) (c : Int) (w : World) (h : Lib.IsBuilderF 34 5 B b bs w) (hlen : bs.length + 1 ≤ 140737488355328) (hBw : B ≤ w.heap.size) :
    Calls Tryd.prog 11 #[.pointer (some ⟨b, 0, none⟩), .int .u8 c] w fun e w' => e = .returned .nilIface ∧ (Lib.BuilderAtF 34 5 B b (.pointer (some ⟨b, 0, none⟩)) (bs ++ [.int .u8 c]) w' ∧ Below B w w' ∧ Lib.OthersKept 5 (some b) w w') := Any.Builder_WriteByte_k Tryd.lays167 Tryd.Builder_Extra_167 B b bs c w h hlen hBw
open Go.RowKit in
theorem Tryd.Builder_WriteString_k (B b : Nat) (bs : List Value) (s : ByteArray) (w : World) (h : Lib.IsBuilderF 34 5 B b bs w) (hlen : bs.length + s.size ≤ 140737488355328) (hBw : B ≤ w.heap.size) :
    Calls Tryd.prog 12 #[.pointer (some ⟨b, 0, none⟩), .string s] w fun e w' => e = .returned (.tuple #[.int .i64 s.size, .nilIface]) ∧ (Lib.BuilderAtF 34 5 B b (.pointer (some ⟨b, 0, none⟩)) (bs ++ Lib.strCells s) w' ∧ Below B w w' ∧ Lib.OthersKept 5 (some b) w w') := Any.Builder_WriteString_k Tryd.lays166 Tryd.Builder_Extra_166 B b bs s w h hlen hBw
end Go.Proofs
