/- math/bits.Len at this program: the shelf's contract laid at this dump's numbers (written by the shelf's laying tool; the one laying that the road needs). -/
import Derived.Shelf.Small.Bits
import Derived.Shelf.Strconv.Itoa0
import Derived.Test.YbulkcrkqProg
namespace Go.Proofs
open Go.Shelf
def Yba.lays125_ren : Go.Shelf.Ren := ⟨fun | 125 => 42 | 128 => 44 | 129 => 45 | n => n, fun | 46 => 136 | 3 => 3 | 51 => 54 | 53 => 42 | 4 => 4 | 5 => 5 | 9 => 9 | n => n, fun | n => n⟩
theorem Yba.lays125 : Go.Proofs.Lays.n125 Yba.prog Yba.lays125_ren := {
  mixed := by kernel_rfl
  f125 := Yba.func42.trans (congrArg some (by kernel_rfl))
  f128 := Yba.func44.trans (congrArg some (by kernel_rfl))
  f129 := Yba.func45.trans (congrArg some (by kernel_rfl))
  t3 := Yba.underlying3
  a3 := Yba.isAgg3
  z3 := Yba.sizeOf3
  v3 := Yba.zeroValue3
  t4 := Yba.underlying4
  a4 := Yba.isAgg4
  z4 := Yba.sizeOf4
  v4 := Yba.zeroValue4
  t5 := Yba.underlying5
  a5 := Yba.isAgg5
  z5 := Yba.sizeOf5
  v5 := Yba.zeroValue5
  t9 := Yba.underlying9
  a9 := Yba.isAgg9
  z9 := Yba.sizeOf9
  v9 := Yba.zeroValue9
  t46 := Yba.underlying136
  a46 := Yba.isAgg136
  z46 := Yba.sizeOf136
  v46 := Yba.zeroValue136
  t51 := Yba.underlying54
  a51 := Yba.isAgg54
  z51 := Yba.sizeOf54
  v51 := Yba.zeroValue54
  t53 := Yba.underlying42
  a53 := Yba.isAgg42
  z53 := Yba.sizeOf42
  v53 := Yba.zeroValue42 }
theorem Ybulkcrkq.bits_Len (x : Int) (w : World) (h0 : 0 ≤ x) (h1 : x ≤ 18446744073709551615) :
    Calls Yba.prog 42 #[.int .u64 x] w fun e w' => e = .returned (.int .i64 (Lib.bitLen x.toNat)) ∧ w' = w := Any.bits_Len Yba.lays125 x w h0 h1
end Go.Proofs
