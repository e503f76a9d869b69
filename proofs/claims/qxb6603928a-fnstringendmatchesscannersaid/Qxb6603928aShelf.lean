import Derived.Shelf.Strings.Prefix
import Derived.Shelf.Strings.Repeat
import Derived.Test.Qxb6603928aProg
namespace Go.Proofs
open Go.Shelf
def Try.lays99_ren : Go.Shelf.Ren := ⟨fun | 99 => 16 | 206 => 18 | n => n, fun | 9 => 9 | 4 => 4 | 3 => 3 | n => n, fun | n => n⟩
theorem Try.lays99 : Go.Proofs.Lays.n99 Try.prog Try.lays99_ren := {
  mixed := by kernel_rfl
  f99 := Try.func16.trans (congrArg some (by kernel_rfl))
  f206 := Try.func18.trans (congrArg some (by kernel_rfl))
  t3 := Try.underlying3
  a3 := Try.isAgg3
  z3 := Try.sizeOf3
  v3 := Try.zeroValue3
  t4 := Try.underlying4
  a4 := Try.isAgg4
  z4 := Try.sizeOf4
  v4 := Try.zeroValue4
  t9 := Try.underlying9
  a9 := Try.isAgg9
  z9 := Try.sizeOf9
  v9 := Try.zeroValue9 }
open Go.RowKit Go.Lib in
theorem Try.strings_HasPrefix (s p : ByteArray) (w : World) :
    Calls Try.prog 16 #[.string s, .string p] w fun e w' => e = .returned (.bool (Lib.hasPrefix s.data.toList p.data.toList)) ∧ w' = w := Any.strings_HasPrefix Try.lays99 s p w
def Try.lays105_ren : Go.Shelf.Ren := ⟨fun | 105 => 17 | 212 => 19 | 99 => 16 | 165 => 20 | 166 => 21 | 170 => 22 | 169 => 23 | 263 => 24 | 264 => 25 | 206 => 18 | 240 => 26 | 241 => 27 | 276 => 28 | 277 => 29 | n => n, fun | 9 => 9 | 3 => 3 | 4 => 4 | 20 => 20 | 0 => 0 | 46 => 29 | 109 => 30 | 5 => 5 | 72 => 34 | 76 => 38 | 51 => 42 | 146 => 43 | 53 => 45 | 148 => 46 | 70 => 32 | 37 => 28 | 75 => 37 | 127 => 48 | 164 => 49 | 80 => 41 | n => n, fun | n => n⟩
theorem Try.lays105 : Go.Proofs.Lays.n105 Try.prog Try.lays105_ren := {
  mixed := by kernel_rfl
  f99 := Try.func16.trans (congrArg some (by kernel_rfl))
  f105 := Try.func17.trans (congrArg some (by kernel_rfl))
  f165 := Try.func20.trans (congrArg some (by kernel_rfl))
  f166 := Try.func21.trans (congrArg some (by kernel_rfl))
  f169 := Try.func23.trans (congrArg some (by kernel_rfl))
  f170 := Try.func22.trans (congrArg some (by kernel_rfl))
  f206 := Try.func18.trans (congrArg some (by kernel_rfl))
  f212 := Try.func19.trans (congrArg some (by kernel_rfl))
  f240 := Try.func26.trans (congrArg some (by kernel_rfl))
  f241 := Try.func27.trans (congrArg some (by kernel_rfl))
  f263 := Try.func24.trans (congrArg some (by kernel_rfl))
  f264 := Try.func25.trans (congrArg some (by kernel_rfl))
  f276 := Try.func28.trans (congrArg some (by kernel_rfl))
  f277 := Try.func29.trans (congrArg some (by kernel_rfl))
  t0 := Try.underlying0
  a0 := Try.isAgg0
  z0 := Try.sizeOf0
  v0 := Try.zeroValue0
  t3 := Try.underlying3
  a3 := Try.isAgg3
  z3 := Try.sizeOf3
  v3 := Try.zeroValue3
  t4 := Try.underlying4
  a4 := Try.isAgg4
  z4 := Try.sizeOf4
  v4 := Try.zeroValue4
  t5 := Try.underlying5
  a5 := Try.isAgg5
  z5 := Try.sizeOf5
  v5 := Try.zeroValue5
  t9 := Try.underlying9
  a9 := Try.isAgg9
  z9 := Try.sizeOf9
  v9 := Try.zeroValue9
  t20 := Try.underlying20
  a20 := Try.isAgg20
  z20 := Try.sizeOf20
  v20 := Try.zeroValue20
  t37 := Try.underlying28
  a37 := Try.isAgg28
  z37 := Try.sizeOf28
  v37 := Try.zeroValue28
  t46 := Try.underlying29
  a46 := Try.isAgg29
  z46 := Try.sizeOf29
  v46 := Try.zeroValue29
  t51 := Try.underlying42
  a51 := Try.isAgg42
  z51 := Try.sizeOf42
  v51 := Try.zeroValue42
  t53 := Try.underlying45
  a53 := Try.isAgg45
  z53 := Try.sizeOf45
  v53 := Try.zeroValue45
  t70 := Try.underlying32
  a70 := Try.isAgg32
  z70 := Try.sizeOf32
  v70 := Try.zeroValue32
  t72 := Try.underlying34
  a72 := Try.isAgg34
  z72 := Try.sizeOf34
  v72 := Try.zeroValue34
  t75 := Try.underlying37
  a75 := Try.isAgg37
  z75 := Try.sizeOf37
  v75 := Try.zeroValue37
  t76 := Try.underlying38
  a76 := Try.isAgg38
  z76 := Try.sizeOf38
  v76 := Try.zeroValue38
  t109 := Try.underlying30
  a109 := Try.isAgg30
  z109 := Try.sizeOf30
  v109 := Try.zeroValue30
  t127 := Try.underlying48
  a127 := Try.isAgg48
  z127 := Try.sizeOf48
  v127 := Try.zeroValue48
  t146 := Try.underlying43
  a146 := Try.isAgg43
  z146 := Try.sizeOf43
  v146 := Try.zeroValue43
  t148 := Try.underlying46
  a148 := Try.isAgg46
  z148 := Try.sizeOf46
  v148 := Try.zeroValue46
  t164 := Try.underlying49
  a164 := Try.isAgg49
  z164 := Try.sizeOf49
  v164 := Try.zeroValue49 }
theorem Try.Builder_Extra_105 : Builder.Extra Try.prog Try.lays105_ren := {
  sizeBuilder := by kernel_rfl
  liesBuilder := by kernel_rfl
  t5 := Try.underlying5
  a5 := Try.isAgg5
  z5 := Try.sizeOf5
  v5 := Try.zeroValue5
  infoByte := by kernel_rfl
  cellsByte := by kernel_rfl
  sizeByte := by kernel_rfl
  neB5 := by decide }
open Go.RowKit Go.Lib in
theorem Try.strings_Repeat_main (s : ByteArray) (c : Nat) (w : World) (hc2 : 2 ≤ c) (hc : c ≤ 9223372036854775807) (hlen : s.size * c ≤ 140737488355328) (h0 : 0 < s.size) :
    Calls Try.prog 17 #[.string s, .int .i64 c] w fun e w' => e = .returned (.string ⟨(Lib.repeatL s.data.toList c).toArray⟩) ∧ Below w.heap.size w w' := Any.strings_Repeat_main Try.lays105 Try.Builder_Extra_105 s c w hc2 hc hlen h0
end Go.Proofs
