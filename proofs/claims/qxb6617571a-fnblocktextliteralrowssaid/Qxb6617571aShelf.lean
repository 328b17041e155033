/-
  THE LIBRARY CONTRACTS THAT THE LAW NEEDS, AT THIS PROGRAM: strings.Repeat, (*strings.Builder).WriteString, WriteByte, String. The numbers and fields of 'Try.lays105' were written by the shelf's own tools (lay-shelf.mjs, lay-plain.mjs) for this program; the tool did not lay WriteString and WriteByte by themselves (their own closures name no 'any'), so they are taken at Repeat's table of numbers, with WriteByte's number (167) added.
-/
import Derived.Shelf.Strings.Builder1
import Derived.Shelf.Strings.Repeat
import Derived.Test.Qxb6617571aProg
namespace Go.Proofs
open Go.Shelf
def Try.lays105_ren : Go.Shelf.Ren := ⟨fun | 105 => 11 | 167 => 14 | 212 => 17 | 99 => 18 | 165 => 19 | 166 => 10 | 170 => 20 | 169 => 15 | 263 => 22 | 264 => 23 | 206 => 24 | 240 => 16 | 241 => 25 | 276 => 21 | 277 => 26 | n => n, fun | 9 => 9 | 3 => 3 | 4 => 4 | 20 => 20 | 0 => 0 | 46 => 46 | 109 => 47 | 5 => 5 | 72 => 36 | 76 => 39 | 51 => 55 | 146 => 56 | 53 => 58 | 148 => 59 | 70 => 34 | 37 => 29 | 75 => 38 | 127 => 52 | 164 => 53 | 80 => 45 | n => n, fun | n => n⟩
theorem Try.lays105 : Go.Proofs.Lays.n105 Try.prog Try.lays105_ren := {
  mixed := by kernel_rfl
  f99 := Try.func18.trans (congrArg some (by kernel_rfl))
  f105 := Try.func11.trans (congrArg some (by kernel_rfl))
  f165 := Try.func19.trans (congrArg some (by kernel_rfl))
  f166 := Try.func10.trans (congrArg some (by kernel_rfl))
  f169 := Try.func15.trans (congrArg some (by kernel_rfl))
  f170 := Try.func20.trans (congrArg some (by kernel_rfl))
  f206 := Try.func24.trans (congrArg some (by kernel_rfl))
  f212 := Try.func17.trans (congrArg some (by kernel_rfl))
  f240 := Try.func16.trans (congrArg some (by kernel_rfl))
  f241 := Try.func25.trans (congrArg some (by kernel_rfl))
  f263 := Try.func22.trans (congrArg some (by kernel_rfl))
  f264 := Try.func23.trans (congrArg some (by kernel_rfl))
  f276 := Try.func21.trans (congrArg some (by kernel_rfl))
  f277 := Try.func26.trans (congrArg some (by kernel_rfl))
  t0 := Try.underlying0
  a0 := Try.isAgg0
  z0 := Try.sizeOf0
  v0 := Try.zeroValue0
  t3 := Try.underlying3
  a3 := Try.isAgg3
  z3 := Try.sizeOf3
  v3 := Try.zeroValue3
  t4 := Try.underlying4
  a4 := Try.isAgg4
  z4 := Try.sizeOf4
  v4 := Try.zeroValue4
  t5 := Try.underlying5
  a5 := Try.isAgg5
  z5 := Try.sizeOf5
  v5 := Try.zeroValue5
  t9 := Try.underlying9
  a9 := Try.isAgg9
  z9 := Try.sizeOf9
  v9 := Try.zeroValue9
  t20 := Try.underlying20
  a20 := Try.isAgg20
  z20 := Try.sizeOf20
  v20 := Try.zeroValue20
  t37 := Try.underlying29
  a37 := Try.isAgg29
  z37 := Try.sizeOf29
  v37 := Try.zeroValue29
  t46 := Try.underlying46
  a46 := Try.isAgg46
  z46 := Try.sizeOf46
  v46 := Try.zeroValue46
  t51 := Try.underlying55
  a51 := Try.isAgg55
  z51 := Try.sizeOf55
  v51 := Try.zeroValue55
  t53 := Try.underlying58
  a53 := Try.isAgg58
  z53 := Try.sizeOf58
  v53 := Try.zeroValue58
  t70 := Try.underlying34
  a70 := Try.isAgg34
  z70 := Try.sizeOf34
  v70 := Try.zeroValue34
  t72 := Try.underlying36
  a72 := Try.isAgg36
  z72 := Try.sizeOf36
  v72 := Try.zeroValue36
  t75 := Try.underlying38
  a75 := Try.isAgg38
  z75 := Try.sizeOf38
  v75 := Try.zeroValue38
  t76 := Try.underlying39
  a76 := Try.isAgg39
  z76 := Try.sizeOf39
  v76 := Try.zeroValue39
  t109 := Try.underlying47
  a109 := Try.isAgg47
  z109 := Try.sizeOf47
  v109 := Try.zeroValue47
  t127 := Try.underlying52
  a127 := Try.isAgg52
  z127 := Try.sizeOf52
  v127 := Try.zeroValue52
  t146 := Try.underlying56
  a146 := Try.isAgg56
  z146 := Try.sizeOf56
  v146 := Try.zeroValue56
  t148 := Try.underlying59
  a148 := Try.isAgg59
  z148 := Try.sizeOf59
  v148 := Try.zeroValue59
  t164 := Try.underlying53
  a164 := Try.isAgg53
  z164 := Try.sizeOf53
  v164 := Try.zeroValue53 }
theorem Try.Builder_Extra_105 : Builder.Extra Try.prog Try.lays105_ren := {
  sizeBuilder := by kernel_rfl
  liesBuilder := by kernel_rfl
  t5 := Try.underlying5
  a5 := Try.isAgg5
  z5 := Try.sizeOf5
  v5 := Try.zeroValue5
  infoByte := by kernel_rfl
  cellsByte := by kernel_rfl
  sizeByte := by kernel_rfl
  neB5 := by decide }
open Go.RowKit Go.Lib in
theorem Try.strings_Repeat (s : ByteArray) (c : Nat) (w : World) (hc : c ≤ 9223372036854775807) (hlen : s.size * c ≤ 140737488355328) :
    Calls Try.prog 11 #[.string s, .int .i64 c] w fun e w' => e = .returned (.string ⟨(Lib.repeatL s.data.toList c).toArray⟩) ∧ Below w.heap.size w w' := Any.strings_Repeat Try.lays105 Try.Builder_Extra_105 s c w hc hlen

theorem Try.lays166 : Lays.n166 Try.prog Try.lays105_ren := { Try.lays105 with }
theorem Try.lays169 : Lays.n169 Try.prog Try.lays105_ren := { Try.lays105 with }
theorem Try.lays167 : Lays.n167 Try.prog Try.lays105_ren := { Try.lays105 with
  f167 := Try.func14.trans (congrArg some (by kernel_rfl)) }

open Go.RowKit in
theorem Try.Builder_WriteString (B b : Nat) (bs : List Value) (s : ByteArray) (w : World) (h : Lib.IsBuilder 36 5 B b bs w) (hlen : bs.length + s.size ≤ 140737488355328) (hBw : B ≤ w.heap.size) :
    Calls Try.prog 10 #[.pointer (some ⟨b, 0, none⟩), .string s] w fun e w' => e = .returned (.tuple #[.int .i64 s.size, .nilIface]) ∧ (Lib.BuilderAt 36 5 B b (.pointer (some ⟨b, 0, none⟩)) (bs ++ Lib.strCells s) w' ∧ Below B w w') :=
  Any.Builder_WriteString Try.lays166 Try.Builder_Extra_105 B b bs s w h hlen hBw
open Go.RowKit in
theorem Try.Builder_WriteByte (B b : Nat) (bs : List Value) (c : Int) (w : World) (h : Lib.IsBuilder 36 5 B b bs w) (hlen : bs.length + 1 ≤ 140737488355328) (hBw : B ≤ w.heap.size) :
    Calls Try.prog 14 #[.pointer (some ⟨b, 0, none⟩), .int .u8 c] w fun e w' => e = .returned .nilIface ∧ (Lib.BuilderAt 36 5 B b (.pointer (some ⟨b, 0, none⟩)) (bs ++ [.int .u8 c]) w' ∧ Below B w w') :=
  Any.Builder_WriteByte Try.lays167 Try.Builder_Extra_105 B b bs c w h hlen hBw
open Go.RowKit in
theorem Try.Builder_String_any (B b : Nat) (l : List UInt8) (w : World) (h : Lib.IsBuilder 36 5 B b (Lib.byteCells l) w) (hBw : B ≤ w.heap.size) :
    Calls Try.prog 15 #[.pointer (some ⟨b, 0, none⟩)] w fun e w' => e = .returned (.string ⟨l.toArray⟩) ∧ Below B w w' :=
  Any.Builder_String_any Try.lays169 Try.Builder_Extra_105 B b l w h hBw
end Go.Proofs
