/-
  Seat b6001221a: strings.Repeat (13): THE SHELF's CONTRACT AT THIS PROGRAM (laid by the kit's own lay-shelf.mjs and lay-plain.mjs, cut to this one function), and what it says at one byte, three times.
-/
import Derived.Shelf.Strings.Repeat
import Derived.Test.Qxb6001221aHas
namespace Go.Proofs
open Go.Shelf
def Try.lays105_ren : Go.Shelf.Ren := ⟨fun | 105 => 13 | 212 => 15 | 99 => 14 | 165 => 16 | 166 => 17 | 170 => 18 | 169 => 19 | 263 => 21 | 264 => 22 | 206 => 20 | 240 => 23 | 241 => 24 | 276 => 25 | 277 => 26 | n => n, fun | 9 => 9 | 3 => 3 | 4 => 4 | 20 => 20 | 0 => 0 | 46 => 31 | 109 => 32 | 5 => 5 | 72 => 36 | 76 => 40 | 51 => 44 | 146 => 45 | 53 => 47 | 148 => 48 | 70 => 34 | 37 => 28 | 75 => 39 | 127 => 50 | 164 => 51 | 80 => 43 | n => n, fun | n => n⟩
theorem Try.lays105 : Go.Proofs.Lays.n105 Try.prog Try.lays105_ren := {
  mixed := by kernel_rfl
  f99 := Try.func14.trans (congrArg some (by kernel_rfl))
  f105 := Try.func13.trans (congrArg some (by kernel_rfl))
  f165 := Try.func16.trans (congrArg some (by kernel_rfl))
  f166 := Try.func17.trans (congrArg some (by kernel_rfl))
  f169 := Try.func19.trans (congrArg some (by kernel_rfl))
  f170 := Try.func18.trans (congrArg some (by kernel_rfl))
  f206 := Try.func20.trans (congrArg some (by kernel_rfl))
  f212 := Try.func15.trans (congrArg some (by kernel_rfl))
  f240 := Try.func23.trans (congrArg some (by kernel_rfl))
  f241 := Try.func24.trans (congrArg some (by kernel_rfl))
  f263 := Try.func21.trans (congrArg some (by kernel_rfl))
  f264 := Try.func22.trans (congrArg some (by kernel_rfl))
  f276 := Try.func25.trans (congrArg some (by kernel_rfl))
  f277 := Try.func26.trans (congrArg some (by kernel_rfl))
  t0 := Try.underlying0
  a0 := Try.isAgg0
  z0 := Try.sizeOf0
  v0 := Try.zeroValue0
  t3 := Try.underlying3
  a3 := Try.isAgg3
  z3 := Try.sizeOf3
  v3 := Try.zeroValue3
  t4 := Try.underlying4
  a4 := Try.isAgg4
  z4 := Try.sizeOf4
  v4 := Try.zeroValue4
  t5 := Try.underlying5
  a5 := Try.isAgg5
  z5 := Try.sizeOf5
  v5 := Try.zeroValue5
  t9 := Try.underlying9
  a9 := Try.isAgg9
  z9 := Try.sizeOf9
  v9 := Try.zeroValue9
  t20 := Try.underlying20
  a20 := Try.isAgg20
  z20 := Try.sizeOf20
  v20 := Try.zeroValue20
  t37 := Try.underlying28
  a37 := Try.isAgg28
  z37 := Try.sizeOf28
  v37 := Try.zeroValue28
  t46 := Try.underlying31
  a46 := Try.isAgg31
  z46 := Try.sizeOf31
  v46 := Try.zeroValue31
  t51 := Try.underlying44
  a51 := Try.isAgg44
  z51 := Try.sizeOf44
  v51 := Try.zeroValue44
  t53 := Try.underlying47
  a53 := Try.isAgg47
  z53 := Try.sizeOf47
  v53 := Try.zeroValue47
  t70 := Try.underlying34
  a70 := Try.isAgg34
  z70 := Try.sizeOf34
  v70 := Try.zeroValue34
  t72 := Try.underlying36
  a72 := Try.isAgg36
  z72 := Try.sizeOf36
  v72 := Try.zeroValue36
  t75 := Try.underlying39
  a75 := Try.isAgg39
  z75 := Try.sizeOf39
  v75 := Try.zeroValue39
  t76 := Try.underlying40
  a76 := Try.isAgg40
  z76 := Try.sizeOf40
  v76 := Try.zeroValue40
  t109 := Try.underlying32
  a109 := Try.isAgg32
  z109 := Try.sizeOf32
  v109 := Try.zeroValue32
  t127 := Try.underlying50
  a127 := Try.isAgg50
  z127 := Try.sizeOf50
  v127 := Try.zeroValue50
  t146 := Try.underlying45
  a146 := Try.isAgg45
  z146 := Try.sizeOf45
  v146 := Try.zeroValue45
  t148 := Try.underlying48
  a148 := Try.isAgg48
  z148 := Try.sizeOf48
  v148 := Try.zeroValue48
  t164 := Try.underlying51
  a164 := Try.isAgg51
  z164 := Try.sizeOf51
  v164 := Try.zeroValue51 }
theorem Try.Builder_Extra_105 : Builder.Extra Try.prog Try.lays105_ren := {
  sizeBuilder := by kernel_rfl
  liesBuilder := by kernel_rfl
  t5 := Try.underlying5
  a5 := Try.isAgg5
  z5 := Try.sizeOf5
  v5 := Try.zeroValue5
  infoByte := by kernel_rfl
  cellsByte := by kernel_rfl
  sizeByte := by kernel_rfl
  neB5 := by decide }

end Go.Proofs
namespace Go.Proofs.Qxb6001221a
open Go.RowKit

theorem repeat_any (s : ByteArray) (c : Nat) (w : World) (hc : c ≤ 9223372036854775807) (hlen : s.size * c ≤ 140737488355328) :
    Calls Try.prog 13 #[.string s, .int .i64 c] w fun e w' => e = .returned (.string ⟨(Lib.repeatL s.data.toList c).toArray⟩) ∧ Below w.heap.size w w' := Any.strings_Repeat Try.lays105 Try.Builder_Extra_105 s c w hc hlen

theorem rep3 (q : UInt8) (w : World) : Calls Try.prog 13 #[.string ⟨#[q]⟩, .int .i64 3] w fun e w' => e = .returned (.string (three q)) ∧ Below w.heap.size w w' :=
  repeat_any ⟨#[q]⟩ 3 w (by omega) (by show 1 * 3 ≤ _; omega)

end Go.Proofs.Qxb6001221a
