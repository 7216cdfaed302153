/-
  SEAT b6001116a: strings.Repeat's contract at this translation: laid by the shelf's command, in plain words.
-/
import Derived.Shelf.Strings.Repeat
import Derived.Test.Qxb6001116aProg
namespace Go.Proofs.Qxb6001116a.Laid
open Go.Shelf
def lays105_ren : Go.Shelf.Ren := ⟨fun | 105 => 34 | 212 => 37 | 99 => 38 | 165 => 39 | 166 => 27 | 170 => 40 | 169 => 28 | 263 => 42 | 264 => 43 | 206 => 44 | 240 => 33 | 241 => 45 | 276 => 36 | 277 => 50 | n => n, fun | 9 => 9 | 3 => 3 | 4 => 4 | 20 => 20 | 0 => 0 | 46 => 46 | 109 => 47 | 5 => 5 | 72 => 33 | 76 => 37 | 51 => 53 | 146 => 54 | 53 => 56 | 148 => 57 | 70 => 31 | 37 => 30 | 75 => 35 | 127 => 42 | 164 => 44 | 80 => 39 | n => n, fun | n => n⟩
theorem lays105 : Go.Proofs.Lays.n105 Try.prog lays105_ren := {
  mixed := by kernel_rfl
  f99 := Try.func38.trans (congrArg some (by kernel_rfl))
  f105 := Try.func34.trans (congrArg some (by kernel_rfl))
  f165 := Try.func39.trans (congrArg some (by kernel_rfl))
  f166 := Try.func27.trans (congrArg some (by kernel_rfl))
  f169 := Try.func28.trans (congrArg some (by kernel_rfl))
  f170 := Try.func40.trans (congrArg some (by kernel_rfl))
  f206 := Try.func44.trans (congrArg some (by kernel_rfl))
  f212 := Try.func37.trans (congrArg some (by kernel_rfl))
  f240 := Try.func33.trans (congrArg some (by kernel_rfl))
  f241 := Try.func45.trans (congrArg some (by kernel_rfl))
  f263 := Try.func42.trans (congrArg some (by kernel_rfl))
  f264 := Try.func43.trans (congrArg some (by kernel_rfl))
  f276 := Try.func36.trans (congrArg some (by kernel_rfl))
  f277 := Try.func50.trans (congrArg some (by kernel_rfl))
  t0 := Try.underlying0
  a0 := Try.isAgg0
  z0 := Try.sizeOf0
  v0 := Try.zeroValue0
  t3 := Try.underlying3
  a3 := Try.isAgg3
  z3 := Try.sizeOf3
  v3 := Try.zeroValue3
  t4 := Try.underlying4
  a4 := Try.isAgg4
  z4 := Try.sizeOf4
  v4 := Try.zeroValue4
  t5 := Try.underlying5
  a5 := Try.isAgg5
  z5 := Try.sizeOf5
  v5 := Try.zeroValue5
  t9 := Try.underlying9
  a9 := Try.isAgg9
  z9 := Try.sizeOf9
  v9 := Try.zeroValue9
  t20 := Try.underlying20
  a20 := Try.isAgg20
  z20 := Try.sizeOf20
  v20 := Try.zeroValue20
  t37 := Try.underlying30
  a37 := Try.isAgg30
  z37 := Try.sizeOf30
  v37 := Try.zeroValue30
  t46 := Try.underlying46
  a46 := Try.isAgg46
  z46 := Try.sizeOf46
  v46 := Try.zeroValue46
  t51 := Try.underlying53
  a51 := Try.isAgg53
  z51 := Try.sizeOf53
  v51 := Try.zeroValue53
  t53 := Try.underlying56
  a53 := Try.isAgg56
  z53 := Try.sizeOf56
  v53 := Try.zeroValue56
  t70 := Try.underlying31
  a70 := Try.isAgg31
  z70 := Try.sizeOf31
  v70 := Try.zeroValue31
  t72 := Try.underlying33
  a72 := Try.isAgg33
  z72 := Try.sizeOf33
  v72 := Try.zeroValue33
  t75 := Try.underlying35
  a75 := Try.isAgg35
  z75 := Try.sizeOf35
  v75 := Try.zeroValue35
  t76 := Try.underlying37
  a76 := Try.isAgg37
  z76 := Try.sizeOf37
  v76 := Try.zeroValue37
  t109 := Try.underlying47
  a109 := Try.isAgg47
  z109 := Try.sizeOf47
  v109 := Try.zeroValue47
  t127 := Try.underlying42
  a127 := Try.isAgg42
  z127 := Try.sizeOf42
  v127 := Try.zeroValue42
  t146 := Try.underlying54
  a146 := Try.isAgg54
  z146 := Try.sizeOf54
  v146 := Try.zeroValue54
  t148 := Try.underlying57
  a148 := Try.isAgg57
  z148 := Try.sizeOf57
  v148 := Try.zeroValue57
  t164 := Try.underlying44
  a164 := Try.isAgg44
  z164 := Try.sizeOf44
  v164 := Try.zeroValue44 }
theorem builderExtra105 : Builder.Extra Try.prog lays105_ren := {
  sizeBuilder := by kernel_rfl
  liesBuilder := by kernel_rfl
  t5 := Try.underlying5
  a5 := Try.isAgg5
  z5 := Try.sizeOf5
  v5 := Try.zeroValue5
  infoByte := by kernel_rfl
  cellsByte := by kernel_rfl
  sizeByte := by kernel_rfl
  neB5 := by decide }
open Go.RowKit Go.Lib in
/-- **strings.Repeat: count ≥ 0, the result within one allocation: count copies of s.** (LAID: no walk: one application.) -/
theorem strings_Repeat (s : ByteArray) (c : Nat) (w : World) (hc : c ≤ 9223372036854775807) (hlen : s.size * c ≤ 140737488355328) :
    Calls Try.prog 34 #[.string s, .int .i64 c] w fun e w' => e = .returned (.string ⟨(Lib.repeatL s.data.toList c).toArray⟩) ∧ Below w.heap.size w w' := Any.strings_Repeat lays105 builderExtra105 s c w hc hlen
end Go.Proofs.Qxb6001116a.Laid
