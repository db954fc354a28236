import Derived.Shelf.Small.Bits
import Derived.Shelf.Small.Strs
import Derived.Shelf.Strconv.Itoa0
import Derived.Shelf.Sort.Plain
import Derived.Shelf.Slices.Clone
import Derived.Shelf.Slices.In.SortNone
import Derived.Shelf.SlicesE.Clone
import Derived.Test.YbulkatbqFmtProg
namespace Go.Proofs
open Go.Shelf
def Ybaf.lays128_ren : Go.Shelf.Ren := ⟨fun | 128 => 29 | n => n, fun | 51 => 82 | 3 => 3 | 4 => 4 | 46 => 67 | 5 => 5 | 9 => 9 | n => n, fun | n => n⟩
theorem Ybaf.lays128 : Go.Proofs.Lays.n128 Ybaf.prog Ybaf.lays128_ren := {
  mixed := by kernel_rfl
  f128 := Ybaf.func29.trans (congrArg some (by kernel_rfl))
  t3 := Ybaf.underlying3
  a3 := Ybaf.isAgg3
  z3 := Ybaf.sizeOf3
  v3 := Ybaf.zeroValue3
  t4 := Ybaf.underlying4
  a4 := Ybaf.isAgg4
  z4 := Ybaf.sizeOf4
  v4 := Ybaf.zeroValue4
  t5 := Ybaf.underlying5
  a5 := Ybaf.isAgg5
  z5 := Ybaf.sizeOf5
  v5 := Ybaf.zeroValue5
  t9 := Ybaf.underlying9
  a9 := Ybaf.isAgg9
  z9 := Ybaf.sizeOf9
  v9 := Ybaf.zeroValue9
  t46 := Ybaf.underlying67
  a46 := Ybaf.isAgg67
  z46 := Ybaf.sizeOf67
  v46 := Ybaf.zeroValue67
  t51 := Ybaf.underlying82
  a51 := Ybaf.isAgg82
  z51 := Ybaf.sizeOf82
  v51 := Ybaf.zeroValue82 }
theorem Ybaf.bits_Len32 (x : Int) (w : World) (h0 : 0 ≤ x) (h1 : x ≤ 4294967295) :
    Calls Ybaf.prog 29 #[.int .u32 x] w fun e w' => e = .returned (.int .i64 (Lib.bitLen x.toNat)) ∧ w' = w := Any.bits_Len32 Ybaf.lays128 x w h0 h1
def Ybaf.lays125_ren : Go.Shelf.Ren := ⟨fun | 125 => 15 | 128 => 29 | 129 => 30 | n => n, fun | 46 => 67 | 3 => 3 | 51 => 82 | 53 => 84 | 4 => 4 | 5 => 5 | 9 => 9 | n => n, fun | n => n⟩
theorem Ybaf.lays125 : Go.Proofs.Lays.n125 Ybaf.prog Ybaf.lays125_ren := {
  mixed := by kernel_rfl
  f125 := Ybaf.func15.trans (congrArg some (by kernel_rfl))
  f128 := Ybaf.func29.trans (congrArg some (by kernel_rfl))
  f129 := Ybaf.func30.trans (congrArg some (by kernel_rfl))
  t3 := Ybaf.underlying3
  a3 := Ybaf.isAgg3
  z3 := Ybaf.sizeOf3
  v3 := Ybaf.zeroValue3
  t4 := Ybaf.underlying4
  a4 := Ybaf.isAgg4
  z4 := Ybaf.sizeOf4
  v4 := Ybaf.zeroValue4
  t5 := Ybaf.underlying5
  a5 := Ybaf.isAgg5
  z5 := Ybaf.sizeOf5
  v5 := Ybaf.zeroValue5
  t9 := Ybaf.underlying9
  a9 := Ybaf.isAgg9
  z9 := Ybaf.sizeOf9
  v9 := Ybaf.zeroValue9
  t46 := Ybaf.underlying67
  a46 := Ybaf.isAgg67
  z46 := Ybaf.sizeOf67
  v46 := Ybaf.zeroValue67
  t51 := Ybaf.underlying82
  a51 := Ybaf.isAgg82
  z51 := Ybaf.sizeOf82
  v51 := Ybaf.zeroValue82
  t53 := Ybaf.underlying84
  a53 := Ybaf.isAgg84
  z53 := Ybaf.sizeOf84
  v53 := Ybaf.zeroValue84 }
theorem Ybaf.bits_Len (x : Int) (w : World) (h0 : 0 ≤ x) (h1 : x ≤ 18446744073709551615) :
    Calls Ybaf.prog 15 #[.int .u64 x] w fun e w' => e = .returned (.int .i64 (Lib.bitLen x.toNat)) ∧ w' = w := Any.bits_Len Ybaf.lays125 x w h0 h1
def Ybaf.lays213_ren : Go.Shelf.Ren := ⟨fun | 213 => 39 | 265 => 49 | n => n, fun | 9 => 9 | 3 => 3 | n => n, fun | n => n⟩
theorem Ybaf.lays213 : Go.Proofs.Lays.n213 Ybaf.prog Ybaf.lays213_ren := {
  mixed := by kernel_rfl
  f213 := Ybaf.func39.trans (congrArg some (by kernel_rfl))
  f265 := Ybaf.func49.trans (congrArg some (by kernel_rfl))
  t3 := Ybaf.underlying3
  a3 := Ybaf.isAgg3
  z3 := Ybaf.sizeOf3
  v3 := Ybaf.zeroValue3
  t9 := Ybaf.underlying9
  a9 := Ybaf.isAgg9
  z9 := Ybaf.sizeOf9
  v9 := Ybaf.zeroValue9 }
open Go.RowKit in
theorem Ybaf.bytealg_CompareString (a b : ByteArray) (w : World) :
    Calls Ybaf.prog 39 #[.string a, .string b] w fun e w' => e = .returned (.int .i64 (Lib.compareBytes a.data.toList b.data.toList)) ∧ w' = w := Any.bytealg_CompareString Ybaf.lays213 a b w
def Ybaf.lays106_ren : Go.Shelf.Ren := ⟨fun | 106 => 19 | 213 => 39 | 265 => 49 | n => n, fun | 9 => 9 | 3 => 3 | n => n, fun | n => n⟩
theorem Ybaf.lays106 : Go.Proofs.Lays.n106 Ybaf.prog Ybaf.lays106_ren := {
  mixed := by kernel_rfl
  f106 := Ybaf.func19.trans (congrArg some (by kernel_rfl))
  f213 := Ybaf.func39.trans (congrArg some (by kernel_rfl))
  f265 := Ybaf.func49.trans (congrArg some (by kernel_rfl))
  t3 := Ybaf.underlying3
  a3 := Ybaf.isAgg3
  z3 := Ybaf.sizeOf3
  v3 := Ybaf.zeroValue3
  t9 := Ybaf.underlying9
  a9 := Ybaf.isAgg9
  z9 := Ybaf.sizeOf9
  v9 := Ybaf.zeroValue9 }
open Go.RowKit in
theorem Ybaf.strings_Compare (a b : ByteArray) (w : World) :
    Calls Ybaf.prog 19 #[.string a, .string b] w fun e w' => e = .returned (.int .i64 (Lib.compareBytes a.data.toList b.data.toList)) ∧ w' = w := Any.strings_Compare Ybaf.lays106 a b w
def Ybaf.lays129_ren : Go.Shelf.Ren := ⟨fun | 129 => 30 | n => n, fun | 53 => 84 | 3 => 3 | 4 => 4 | 46 => 67 | 5 => 5 | 9 => 9 | n => n, fun | n => n⟩
theorem Ybaf.lays129 : Go.Proofs.Lays.n129 Ybaf.prog Ybaf.lays129_ren := {
  mixed := by kernel_rfl
  f129 := Ybaf.func30.trans (congrArg some (by kernel_rfl))
  t3 := Ybaf.underlying3
  a3 := Ybaf.isAgg3
  z3 := Ybaf.sizeOf3
  v3 := Ybaf.zeroValue3
  t4 := Ybaf.underlying4
  a4 := Ybaf.isAgg4
  z4 := Ybaf.sizeOf4
  v4 := Ybaf.zeroValue4
  t5 := Ybaf.underlying5
  a5 := Ybaf.isAgg5
  z5 := Ybaf.sizeOf5
  v5 := Ybaf.zeroValue5
  t9 := Ybaf.underlying9
  a9 := Ybaf.isAgg9
  z9 := Ybaf.sizeOf9
  v9 := Ybaf.zeroValue9
  t46 := Ybaf.underlying67
  a46 := Ybaf.isAgg67
  z46 := Ybaf.sizeOf67
  v46 := Ybaf.zeroValue67
  t53 := Ybaf.underlying84
  a53 := Ybaf.isAgg84
  z53 := Ybaf.sizeOf84
  v53 := Ybaf.zeroValue84 }
theorem Ybaf.bits_Len64 (x : Int) (w : World) (h0 : 0 ≤ x) (h1 : x ≤ 18446744073709551615) :
    Calls Ybaf.prog 30 #[.int .u64 x] w fun e w' => e = .returned (.int .i64 (Lib.bitLen x.toNat)) ∧ w' = w := Any.bits_Len64 Ybaf.lays129 x w h0 h1
def Ybaf.lays190_ren : Go.Shelf.Ren := ⟨fun | 190 => 7 | 125 => 15 | 258 => 14 | 128 => 29 | 129 => 30 | 302 => 20 | 303 => 21 | 304 => 22 | 305 => 23 | 306 => 24 | 307 => 25 | 308 => 26 | 309 => 27 | 310 => 28 | 333 => 40 | 329 => 41 | 330 => 42 | 334 => 43 | 335 => 44 | 336 => 45 | 344 => 50 | n => n, fun | 31 => 25 | 9 => 9 | 3 => 3 | 46 => 67 | 0 => 0 | 51 => 82 | 53 => 84 | 4 => 4 | 183 => 74 | 182 => 73 | 131 => 79 | 5 => 5 | 218 => 93 | 222 => 97 | 228 => 101 | 229 => 102 | n => n, fun | n => n⟩
theorem Ybaf.lays190 : Go.Proofs.Lays.n190 Ybaf.prog Ybaf.lays190_ren := {
  mixed := by kernel_rfl
  f125 := Ybaf.func15.trans (congrArg some (by kernel_rfl))
  f128 := Ybaf.func29.trans (congrArg some (by kernel_rfl))
  f129 := Ybaf.func30.trans (congrArg some (by kernel_rfl))
  f190 := Ybaf.func7.trans (congrArg some (by kernel_rfl))
  f258 := Ybaf.func14.trans (congrArg some (by kernel_rfl))
  f302 := Ybaf.func20.trans (congrArg some (by kernel_rfl))
  f303 := Ybaf.func21.trans (congrArg some (by kernel_rfl))
  f304 := Ybaf.func22.trans (congrArg some (by kernel_rfl))
  f305 := Ybaf.func23.trans (congrArg some (by kernel_rfl))
  f306 := Ybaf.func24.trans (congrArg some (by kernel_rfl))
  f307 := Ybaf.func25.trans (congrArg some (by kernel_rfl))
  f308 := Ybaf.func26.trans (congrArg some (by kernel_rfl))
  f309 := Ybaf.func27.trans (congrArg some (by kernel_rfl))
  f310 := Ybaf.func28.trans (congrArg some (by kernel_rfl))
  f329 := Ybaf.func41.trans (congrArg some (by kernel_rfl))
  f330 := Ybaf.func42.trans (congrArg some (by kernel_rfl))
  f333 := Ybaf.func40.trans (congrArg some (by kernel_rfl))
  f334 := Ybaf.func43.trans (congrArg some (by kernel_rfl))
  f335 := Ybaf.func44.trans (congrArg some (by kernel_rfl))
  f336 := Ybaf.func45.trans (congrArg some (by kernel_rfl))
  f344 := Ybaf.func50.trans (congrArg some (by kernel_rfl))
  t0 := Ybaf.underlying0
  a0 := Ybaf.isAgg0
  z0 := Ybaf.sizeOf0
  v0 := Ybaf.zeroValue0
  t3 := Ybaf.underlying3
  a3 := Ybaf.isAgg3
  z3 := Ybaf.sizeOf3
  v3 := Ybaf.zeroValue3
  t4 := Ybaf.underlying4
  a4 := Ybaf.isAgg4
  z4 := Ybaf.sizeOf4
  v4 := Ybaf.zeroValue4
  t5 := Ybaf.underlying5
  a5 := Ybaf.isAgg5
  z5 := Ybaf.sizeOf5
  v5 := Ybaf.zeroValue5
  t9 := Ybaf.underlying9
  a9 := Ybaf.isAgg9
  z9 := Ybaf.sizeOf9
  v9 := Ybaf.zeroValue9
  t31 := Ybaf.underlying25
  a31 := Ybaf.isAgg25
  z31 := Ybaf.sizeOf25
  v31 := Ybaf.zeroValue25
  t46 := Ybaf.underlying67
  a46 := Ybaf.isAgg67
  z46 := Ybaf.sizeOf67
  v46 := Ybaf.zeroValue67
  t51 := Ybaf.underlying82
  a51 := Ybaf.isAgg82
  z51 := Ybaf.sizeOf82
  v51 := Ybaf.zeroValue82
  t53 := Ybaf.underlying84
  a53 := Ybaf.isAgg84
  z53 := Ybaf.sizeOf84
  v53 := Ybaf.zeroValue84
  t131 := Ybaf.underlying79
  a131 := Ybaf.isAgg79
  z131 := Ybaf.sizeOf79
  v131 := Ybaf.zeroValue79
  t182 := Ybaf.underlying73
  a182 := Ybaf.isAgg73
  z182 := Ybaf.sizeOf73
  v182 := Ybaf.zeroValue73
  t183 := Ybaf.underlying74
  a183 := Ybaf.isAgg74
  z183 := Ybaf.sizeOf74
  v183 := Ybaf.zeroValue74
  t218 := Ybaf.underlying93
  a218 := Ybaf.isAgg93
  z218 := Ybaf.sizeOf93
  v218 := Ybaf.zeroValue93
  t222 := Ybaf.underlying97
  a222 := Ybaf.isAgg97
  z222 := Ybaf.sizeOf97
  v222 := Ybaf.zeroValue97
  t228 := Ybaf.underlying101
  a228 := Ybaf.isAgg101
  z228 := Ybaf.sizeOf101
  v228 := Ybaf.zeroValue101
  t229 := Ybaf.underlying102
  a229 := Ybaf.isAgg102
  z229 := Ybaf.sizeOf102
  v229 := Ybaf.zeroValue102 }
open Go.Sort Go.RowKit in
theorem Ybaf.slices_Sort_string (blk off cap : Nat) (ss : List (List UInt8)) (w : World) (hH : Holds encStr w blk off ss.toArray) (hblk : blk < w.heap.size) (hsz : ss.length < 4611686018427387904) :
    Calls Ybaf.prog 7 #[.slice (some ⟨blk, off, none⟩) ss.length cap] w fun e w' =>
      e = .returned (.tuple #[]) ∧ ∃ n os, w' = grow (putRow encStr (Sort.ahead w n) blk off (ss.mergeSort fun x y => decide (x ≤ y)).toArray) os := Any.slices_Sort_string Ybaf.lays190 blk off cap ss w hH hblk hsz
def Ybaf.laysNm216_ren : Go.Shelf.Ren := ⟨fun | 16 => 6 | n => n, fun | 24 => 25 | 9 => 9 | 4 => 4 | n => n, fun | n => n⟩
theorem Ybaf.laysNm216 : Go.Proofs.Lays2.n16 Ybaf.prog Ybaf.laysNm216_ren := {
  mixed := by kernel_rfl
  f16 := Ybaf.func6.trans (congrArg some (by kernel_rfl))
  t4 := Ybaf.underlying4
  a4 := Ybaf.isAgg4
  z4 := Ybaf.sizeOf4
  v4 := Ybaf.zeroValue4
  t9 := Ybaf.underlying9
  a9 := Ybaf.isAgg9
  z9 := Ybaf.sizeOf9
  v9 := Ybaf.zeroValue9
  t24 := Ybaf.underlying25
  a24 := Ybaf.isAgg25
  z24 := Ybaf.sizeOf25
  v24 := Ybaf.zeroValue25
  i9 := by kernel_rfl }
open Go.RowKit Go.Lib in
theorem Ybaf.slices_Clone_string (b off n c : Nat) (zs : List ByteArray) (w : World) (hz : n ≤ zs.length) (hbig : n * 16 ≤ 140737488355328) (hc : ∀ j, j < zs.length → w.cell? ⟨b, off + j, none⟩ = some (.string (zs.getD j ByteArray.empty))) :
    Calls Ybaf.prog 6 #[.slice (some ⟨b, off, none⟩) n c] w fun e w' => ∃ v', e = .returned v' ∧ w'.ownsRow w.heap.size 9 1 v' n ((zs.take n).map (Value.string)) ∧ v' ≠ .slice none 0 0 ∧ Below w.heap.size w w' := Any.slices_Clone_string Ybaf.laysNm216 b off n c zs w hz hbig hc
open Go.RowKit Go.Lib in
theorem Ybaf.slices_Clone_string_nil (n c : Nat) (w : World) :
    Calls Ybaf.prog 6 #[.slice none n c] w fun e w' => e = .returned (.slice none 0 0) ∧ w' = w := Any.slices_Clone_string_nil Ybaf.laysNm216 n c w
open Go.RowKit Go.Lib in
theorem Ybaf.slices_Clone_string_zero (a : Addr) (c : Nat) (w : World) :
    Calls Ybaf.prog 6 #[.slice (some a) 0 c] w fun e w' => ∃ v', e = .returned v' ∧ w'.ownsRow w.heap.size 9 1 v' 0 [] ∧ v' ≠ .slice none 0 0 ∧ Below w.heap.size w w' := Any.slices_Clone_string_zero Ybaf.laysNm216 a c w
open Go.RowKit Go.Sort in
theorem Ybaf.slices_Sort_string_none (p : Option Addr) (cap : Nat) (w : World) :
    Calls Ybaf.prog 7 #[.slice p 0 cap] w fun e w' => e = .returned (.tuple #[]) ∧ w' = w := Any.slices_Sort_string_none Ybaf.lays190 p cap w
def Ybaf.laysSlE041_f6_ren : Go.Shelf.Ren := ⟨fun | 41 => 6 | n => n, fun | 22 => 25 | 23 => 9 | 4 => 4 | n => n, fun | n => n⟩
theorem Ybaf.laysSlE041_f6 : Go.Proofs.SlLaysE0.n41 Ybaf.prog Ybaf.laysSlE041_f6_ren := {
  mixed := by kernel_rfl
  f41 := ⟨Ybaf.f6.name, by decide, Ybaf.func6.trans (congrArg some (by kernel_rfl))⟩
  t4 := Ybaf.underlying4
  a4 := Ybaf.isAgg4
  z4 := Ybaf.sizeOf4
  v4 := Ybaf.zeroValue4
  t22 := Ybaf.underlying25
  a22 := Ybaf.isAgg25
  z22 := Ybaf.sizeOf25
  v22 := Ybaf.zeroValue25 }
open Go.RowKit Go.Lib in
theorem Ybaf.slices_Clone (i0 : TypeInfo) (z : Value) (size bytes : Nat) (hi : Ybaf.prog.info? 9 = some i0) (hz0 : i0.zero = some z) (hz1 : i0.size = size) (hz2 : i0.bytes = bytes) (hzs : z.cells.size = size) (hsz : 0 < size) (z23 : ∀ w, (Go.sizeOf 9).run Ybaf.prog w = .ok size w) (b off n c : Nat) (news : List Value) (w : World) (hl : news.length = n * size) (hn : n ≤ maxLen) (hbig : n * bytes ≤ 140737488355328) (hc : ∀ j u, news[j]? = some u → w.cell? ⟨b, off + j, none⟩ = some u) (h1 : ∀ u ∈ news, u.oneCell' = true) :
    Calls Ybaf.prog 6 #[.slice (some ⟨b, off, none⟩) n c] w fun e w' => ∃ v', e = .returned v' ∧ w'.ownsRow w.heap.size 9 size v' n news ∧ v' ≠ .slice none 0 0 ∧ Below w.heap.size w w' := AnyE.slices_Clone Ybaf.laysSlE041_f6 i0 z size bytes hi hz0 hz1 hz2 hzs hsz z23 b off n c news w hl hn hbig hc h1
open Go.RowKit Go.Lib in
theorem Ybaf.slices_Clone_nil (n c : Nat) (w : World) :
    Calls Ybaf.prog 6 #[.slice none n c] w fun e w' => e = .returned (.slice none 0 0) ∧ w' = w := AnyE.slices_Clone_nil Ybaf.laysSlE041_f6 n c w
end Go.Proofs
