import Derived.Shelf.Small.Bits
import Derived.Shelf.Strconv.Itoa0
import Derived.Shelf.Bytes.SlEqualAll
import Derived.Shelf.Bytes.Small
import Derived.Test.YbulkataaFmtProg
namespace Go.Proofs
open Go.Shelf
def Ybaf.lays128_ren : Go.Shelf.Ren := ⟨fun | 128 => 40 | n => n, fun | 51 => 22 | 3 => 3 | 4 => 4 | 46 => 33 | 5 => 5 | 9 => 9 | n => n, fun | n => n⟩
theorem Ybaf.lays128 : Go.Proofs.Lays.n128 Ybaf.prog Ybaf.lays128_ren := {
  mixed := by kernel_rfl
  f128 := Ybaf.func40.trans (congrArg some (by kernel_rfl))
  t3 := Ybaf.underlying3
  a3 := Ybaf.isAgg3
  z3 := Ybaf.sizeOf3
  v3 := Ybaf.zeroValue3
  t4 := Ybaf.underlying4
  a4 := Ybaf.isAgg4
  z4 := Ybaf.sizeOf4
  v4 := Ybaf.zeroValue4
  t5 := Ybaf.underlying5
  a5 := Ybaf.isAgg5
  z5 := Ybaf.sizeOf5
  v5 := Ybaf.zeroValue5
  t9 := Ybaf.underlying9
  a9 := Ybaf.isAgg9
  z9 := Ybaf.sizeOf9
  v9 := Ybaf.zeroValue9
  t46 := Ybaf.underlying33
  a46 := Ybaf.isAgg33
  z46 := Ybaf.sizeOf33
  v46 := Ybaf.zeroValue33
  t51 := Ybaf.underlying22
  a51 := Ybaf.isAgg22
  z51 := Ybaf.sizeOf22
  v51 := Ybaf.zeroValue22 }
theorem Ybaf.bits_Len32 (x : Int) (w : World) (h0 : 0 ≤ x) (h1 : x ≤ 4294967295) :
    Calls Ybaf.prog 40 #[.int .u32 x] w fun e w' => e = .returned (.int .i64 (Lib.bitLen x.toNat)) ∧ w' = w := Any.bits_Len32 Ybaf.lays128 x w h0 h1
def Ybaf.lays125_ren : Go.Shelf.Ren := ⟨fun | 125 => 38 | 128 => 40 | 129 => 32 | n => n, fun | 46 => 33 | 3 => 3 | 51 => 22 | 53 => 50 | 4 => 4 | 5 => 5 | 9 => 9 | n => n, fun | n => n⟩
theorem Ybaf.lays125 : Go.Proofs.Lays.n125 Ybaf.prog Ybaf.lays125_ren := {
  mixed := by kernel_rfl
  f125 := Ybaf.func38.trans (congrArg some (by kernel_rfl))
  f128 := Ybaf.func40.trans (congrArg some (by kernel_rfl))
  f129 := Ybaf.func32.trans (congrArg some (by kernel_rfl))
  t3 := Ybaf.underlying3
  a3 := Ybaf.isAgg3
  z3 := Ybaf.sizeOf3
  v3 := Ybaf.zeroValue3
  t4 := Ybaf.underlying4
  a4 := Ybaf.isAgg4
  z4 := Ybaf.sizeOf4
  v4 := Ybaf.zeroValue4
  t5 := Ybaf.underlying5
  a5 := Ybaf.isAgg5
  z5 := Ybaf.sizeOf5
  v5 := Ybaf.zeroValue5
  t9 := Ybaf.underlying9
  a9 := Ybaf.isAgg9
  z9 := Ybaf.sizeOf9
  v9 := Ybaf.zeroValue9
  t46 := Ybaf.underlying33
  a46 := Ybaf.isAgg33
  z46 := Ybaf.sizeOf33
  v46 := Ybaf.zeroValue33
  t51 := Ybaf.underlying22
  a51 := Ybaf.isAgg22
  z51 := Ybaf.sizeOf22
  v51 := Ybaf.zeroValue22
  t53 := Ybaf.underlying50
  a53 := Ybaf.isAgg50
  z53 := Ybaf.sizeOf50
  v53 := Ybaf.zeroValue50 }
theorem Ybaf.bits_Len (x : Int) (w : World) (h0 : 0 ≤ x) (h1 : x ≤ 18446744073709551615) :
    Calls Ybaf.prog 38 #[.int .u64 x] w fun e w' => e = .returned (.int .i64 (Lib.bitLen x.toNat)) ∧ w' = w := Any.bits_Len Ybaf.lays125 x w h0 h1
def Ybaf.lays129_ren : Go.Shelf.Ren := ⟨fun | 129 => 32 | n => n, fun | 53 => 50 | 3 => 3 | 4 => 4 | 46 => 33 | 5 => 5 | 9 => 9 | n => n, fun | n => n⟩
theorem Ybaf.lays129 : Go.Proofs.Lays.n129 Ybaf.prog Ybaf.lays129_ren := {
  mixed := by kernel_rfl
  f129 := Ybaf.func32.trans (congrArg some (by kernel_rfl))
  t3 := Ybaf.underlying3
  a3 := Ybaf.isAgg3
  z3 := Ybaf.sizeOf3
  v3 := Ybaf.zeroValue3
  t4 := Ybaf.underlying4
  a4 := Ybaf.isAgg4
  z4 := Ybaf.sizeOf4
  v4 := Ybaf.zeroValue4
  t5 := Ybaf.underlying5
  a5 := Ybaf.isAgg5
  z5 := Ybaf.sizeOf5
  v5 := Ybaf.zeroValue5
  t9 := Ybaf.underlying9
  a9 := Ybaf.isAgg9
  z9 := Ybaf.sizeOf9
  v9 := Ybaf.zeroValue9
  t46 := Ybaf.underlying33
  a46 := Ybaf.isAgg33
  z46 := Ybaf.sizeOf33
  v46 := Ybaf.zeroValue33
  t53 := Ybaf.underlying50
  a53 := Ybaf.isAgg50
  z53 := Ybaf.sizeOf50
  v53 := Ybaf.zeroValue50 }
theorem Ybaf.bits_Len64 (x : Int) (w : World) (h0 : 0 ≤ x) (h1 : x ≤ 18446744073709551615) :
    Calls Ybaf.prog 32 #[.int .u64 x] w fun e w' => e = .returned (.int .i64 (Lib.bitLen x.toNat)) ∧ w' = w := Any.bits_Len64 Ybaf.lays129 x w h0 h1
def Ybaf.laysnb115_ren : Go.Shelf.Ren := ⟨fun | 115 => 8 | n => n, fun | 37 => 23 | 4 => 4 | 9 => 9 | 5 => 5 | n => n, fun | n => n⟩
theorem Ybaf.laysnb115 : Go.Proofs.Lays.nb115 Ybaf.prog Ybaf.laysnb115_ren := {
  mixed := by kernel_rfl
  f115 := Ybaf.func8.trans (congrArg some (by kernel_rfl))
  t4 := Ybaf.underlying4
  a4 := Ybaf.isAgg4
  z4 := Ybaf.sizeOf4
  v4 := Ybaf.zeroValue4
  t9 := Ybaf.underlying9
  a9 := Ybaf.isAgg9
  z9 := Ybaf.sizeOf9
  v9 := Ybaf.zeroValue9
  t37 := Ybaf.underlying23
  a37 := Ybaf.isAgg23
  z37 := Ybaf.sizeOf23
  v37 := Ybaf.zeroValue23
  t5 := Ybaf.underlying5
  a5 := Ybaf.isAgg5
  z5 := Ybaf.sizeOf5
  v5 := Ybaf.zeroValue5 }
theorem Ybaf.bytes_Equal_all (p1 p2 : Option Addr) (n c m d : Nat) (xs ys : List Int) (w : World) (hx : xs.length = n) (hy : ys.length = m) (h1 : Lib.BytesIn w p1 n xs) (h2 : Lib.BytesIn w p2 m ys) :
    Calls Ybaf.prog 8 #[.slice p1 n c, .slice p2 m d] w fun e w' => e = .returned (.bool (Lib.bytesOf xs == Lib.bytesOf ys)) ∧ w' = w := Any.bytes_Equal_all Ybaf.laysnb115 p1 p2 n c m d xs ys w hx hy h1 h2
def Ybaf.lays115_ren : Go.Shelf.Ren := ⟨fun | 115 => 8 | n => n, fun | 37 => 23 | 4 => 4 | 9 => 9 | 5 => 5 | n => n, fun | n => n⟩
theorem Ybaf.lays115 : Go.Proofs.Lays.n115 Ybaf.prog Ybaf.lays115_ren := {
  mixed := by kernel_rfl
  f115 := Ybaf.func8.trans (congrArg some (by kernel_rfl))
  t4 := Ybaf.underlying4
  a4 := Ybaf.isAgg4
  z4 := Ybaf.sizeOf4
  v4 := Ybaf.zeroValue4
  t9 := Ybaf.underlying9
  a9 := Ybaf.isAgg9
  z9 := Ybaf.sizeOf9
  v9 := Ybaf.zeroValue9
  t37 := Ybaf.underlying23
  a37 := Ybaf.isAgg23
  z37 := Ybaf.sizeOf23
  v37 := Ybaf.zeroValue23 }
theorem Ybaf.bytes_Equal (v1 v2 : Value) (xs ys : List Int) (w : World) (h1 : (convert 23 9 v1).run Ybaf.prog w = .ok (.string (strOfNums xs)) w) (h2 : (convert 23 9 v2).run Ybaf.prog w = .ok (.string (strOfNums ys)) w) :
    Calls Ybaf.prog 8 #[v1, v2] w fun e w' => e = .returned (.bool (Lib.bytesOf xs == Lib.bytesOf ys)) ∧ w' = w := Any.bytes_Equal Ybaf.lays115 v1 v2 xs ys w h1 h2
end Go.Proofs
