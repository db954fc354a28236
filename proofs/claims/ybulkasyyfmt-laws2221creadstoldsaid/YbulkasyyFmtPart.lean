import Derived.Test.YbulkasyyFmtPlain
import Derived.Lib.EndianBits
namespace Go.Proofs.YbulkasyyFmt

/-- the bytes below m alone -/
def mk (d : Nat → Nat) (m j : Nat) : Nat := if j < m then d j else 0
theorem mk_lt (d : Nat → Nat) (hd : ∀ j, d j < 256) (m j : Nat) : mk d m j < 256 := by unfold mk; have := hd j; split <;> omega
theorem word_val (d : Nat → Nat) (hd : ∀ j, d j < 256) (off n : Nat) (hn : n ≤ 17) : IntKind.u64.wrap (((word d (off / 8) : Nat) : Int) * 2 ^ (off % 8)) / 2 ^ (64 - n) = ((spell d off n : Nat) : Int) := by
  rw [IntKind.wrap_u64, ← spell_word d hd off n hn]
  simp
theorem mk_hit (d : Nat → Nat) {m j : Nat} (h : j < m) : mk d m j = d j := if_pos h
theorem mk_miss (d : Nat → Nat) {m j : Nat} (h : m ≤ j) : mk d m j = 0 := if_neg (by omega)
theorem orI64 (x y : Int) (hx₀ : 0 ≤ x) (hx : x % 18446744073709551616 = 0) (hx₁ : x < 18446744073709551616) (hy₀ : 0 ≤ y) (hy : y < 18446744073709551616) : bits .or .u64 x y = x + y :=
  bits_join .u64 64 (by decide) wraps_u64 64 x y hx₀ hx hx₁ hy₀ hy (by omega)
theorem orI56 (x y : Int) (hx₀ : 0 ≤ x) (hx : x % 72057594037927936 = 0) (hx₁ : x < 18446744073709551616) (hy₀ : 0 ≤ y) (hy : y < 72057594037927936) : bits .or .u64 x y = x + y :=
  bits_join .u64 64 (by decide) wraps_u64 56 x y hx₀ hx hx₁ hy₀ hy (by omega)
theorem orI48 (x y : Int) (hx₀ : 0 ≤ x) (hx : x % 281474976710656 = 0) (hx₁ : x < 18446744073709551616) (hy₀ : 0 ≤ y) (hy : y < 281474976710656) : bits .or .u64 x y = x + y :=
  bits_join .u64 64 (by decide) wraps_u64 48 x y hx₀ hx hx₁ hy₀ hy (by omega)
theorem orI40 (x y : Int) (hx₀ : 0 ≤ x) (hx : x % 1099511627776 = 0) (hx₁ : x < 18446744073709551616) (hy₀ : 0 ≤ y) (hy : y < 1099511627776) : bits .or .u64 x y = x + y :=
  bits_join .u64 64 (by decide) wraps_u64 40 x y hx₀ hx hx₁ hy₀ hy (by omega)
theorem orI32 (x y : Int) (hx₀ : 0 ≤ x) (hx : x % 4294967296 = 0) (hx₁ : x < 18446744073709551616) (hy₀ : 0 ≤ y) (hy : y < 4294967296) : bits .or .u64 x y = x + y :=
  bits_join .u64 64 (by decide) wraps_u64 32 x y hx₀ hx hx₁ hy₀ hy (by omega)
theorem orI24 (x y : Int) (hx₀ : 0 ≤ x) (hx : x % 16777216 = 0) (hx₁ : x < 18446744073709551616) (hy₀ : 0 ≤ y) (hy : y < 16777216) : bits .or .u64 x y = x + y :=
  bits_join .u64 64 (by decide) wraps_u64 24 x y hx₀ hx hx₁ hy₀ hy (by omega)
theorem orI16 (x y : Int) (hx₀ : 0 ≤ x) (hx : x % 65536 = 0) (hx₁ : x < 18446744073709551616) (hy₀ : 0 ≤ y) (hy : y < 65536) : bits .or .u64 x y = x + y :=
  bits_join .u64 64 (by decide) wraps_u64 16 x y hx₀ hx hx₁ hy₀ hy (by omega)
theorem wmk0 (d : Nat → Nat) (i : Nat) : word (mk d (i + 0)) i = 0 := by
  unfold word
  rw [mk_miss d (show i + 0 ≤ i by omega), mk_miss d (show i + 0 ≤ (i + 1) by omega), mk_miss d (show i + 0 ≤ (i + 2) by omega), mk_miss d (show i + 0 ≤ (i + 3) by omega), mk_miss d (show i + 0 ≤ (i + 4) by omega), mk_miss d (show i + 0 ≤ (i + 5) by omega), mk_miss d (show i + 0 ≤ (i + 6) by omega), mk_miss d (show i + 0 ≤ (i + 7) by omega)]
theorem wmk1 (d : Nat → Nat) (i : Nat) : word (mk d (i + 1)) i = d i * 72057594037927936 := by
  unfold word
  rw [mk_hit d (show i < i + 1 by omega), mk_miss d (show i + 1 ≤ (i + 1) by omega), mk_miss d (show i + 1 ≤ (i + 2) by omega), mk_miss d (show i + 1 ≤ (i + 3) by omega), mk_miss d (show i + 1 ≤ (i + 4) by omega), mk_miss d (show i + 1 ≤ (i + 5) by omega), mk_miss d (show i + 1 ≤ (i + 6) by omega), mk_miss d (show i + 1 ≤ (i + 7) by omega)]
  omega
theorem wmk2 (d : Nat → Nat) (i : Nat) : word (mk d (i + 2)) i = d i * 72057594037927936 + d (i + 1) * 281474976710656 := by
  unfold word
  rw [mk_hit d (show i < i + 2 by omega), mk_hit d (show (i + 1) < i + 2 by omega), mk_miss d (show i + 2 ≤ (i + 2) by omega), mk_miss d (show i + 2 ≤ (i + 3) by omega), mk_miss d (show i + 2 ≤ (i + 4) by omega), mk_miss d (show i + 2 ≤ (i + 5) by omega), mk_miss d (show i + 2 ≤ (i + 6) by omega), mk_miss d (show i + 2 ≤ (i + 7) by omega)]
  omega
theorem wmk3 (d : Nat → Nat) (i : Nat) : word (mk d (i + 3)) i = d i * 72057594037927936 + d (i + 1) * 281474976710656 + d (i + 2) * 1099511627776 := by
  unfold word
  rw [mk_hit d (show i < i + 3 by omega), mk_hit d (show (i + 1) < i + 3 by omega), mk_hit d (show (i + 2) < i + 3 by omega), mk_miss d (show i + 3 ≤ (i + 3) by omega), mk_miss d (show i + 3 ≤ (i + 4) by omega), mk_miss d (show i + 3 ≤ (i + 5) by omega), mk_miss d (show i + 3 ≤ (i + 6) by omega), mk_miss d (show i + 3 ≤ (i + 7) by omega)]
  omega
theorem wmk4 (d : Nat → Nat) (i : Nat) : word (mk d (i + 4)) i = d i * 72057594037927936 + d (i + 1) * 281474976710656 + d (i + 2) * 1099511627776 + d (i + 3) * 4294967296 := by
  unfold word
  rw [mk_hit d (show i < i + 4 by omega), mk_hit d (show (i + 1) < i + 4 by omega), mk_hit d (show (i + 2) < i + 4 by omega), mk_hit d (show (i + 3) < i + 4 by omega), mk_miss d (show i + 4 ≤ (i + 4) by omega), mk_miss d (show i + 4 ≤ (i + 5) by omega), mk_miss d (show i + 4 ≤ (i + 6) by omega), mk_miss d (show i + 4 ≤ (i + 7) by omega)]
  omega
theorem wmk5 (d : Nat → Nat) (i : Nat) : word (mk d (i + 5)) i = d i * 72057594037927936 + d (i + 1) * 281474976710656 + d (i + 2) * 1099511627776 + d (i + 3) * 4294967296 + d (i + 4) * 16777216 := by
  unfold word
  rw [mk_hit d (show i < i + 5 by omega), mk_hit d (show (i + 1) < i + 5 by omega), mk_hit d (show (i + 2) < i + 5 by omega), mk_hit d (show (i + 3) < i + 5 by omega), mk_hit d (show (i + 4) < i + 5 by omega), mk_miss d (show i + 5 ≤ (i + 5) by omega), mk_miss d (show i + 5 ≤ (i + 6) by omega), mk_miss d (show i + 5 ≤ (i + 7) by omega)]
  omega
theorem wmk6 (d : Nat → Nat) (i : Nat) : word (mk d (i + 6)) i = d i * 72057594037927936 + d (i + 1) * 281474976710656 + d (i + 2) * 1099511627776 + d (i + 3) * 4294967296 + d (i + 4) * 16777216 + d (i + 5) * 65536 := by
  unfold word
  rw [mk_hit d (show i < i + 6 by omega), mk_hit d (show (i + 1) < i + 6 by omega), mk_hit d (show (i + 2) < i + 6 by omega), mk_hit d (show (i + 3) < i + 6 by omega), mk_hit d (show (i + 4) < i + 6 by omega), mk_hit d (show (i + 5) < i + 6 by omega), mk_miss d (show i + 6 ≤ (i + 6) by omega), mk_miss d (show i + 6 ≤ (i + 7) by omega)]
  omega
theorem wmk7 (d : Nat → Nat) (i : Nat) : word (mk d (i + 7)) i = d i * 72057594037927936 + d (i + 1) * 281474976710656 + d (i + 2) * 1099511627776 + d (i + 3) * 4294967296 + d (i + 4) * 16777216 + d (i + 5) * 65536 + d (i + 6) * 256 := by
  unfold word
  rw [mk_hit d (show i < i + 7 by omega), mk_hit d (show (i + 1) < i + 7 by omega), mk_hit d (show (i + 2) < i + 7 by omega), mk_hit d (show (i + 3) < i + 7 by omega), mk_hit d (show (i + 4) < i + 7 by omega), mk_hit d (show (i + 5) < i + 7 by omega), mk_hit d (show (i + 6) < i + 7 by omega), mk_miss d (show i + 7 ≤ (i + 7) by omega)]
  omega
theorem part_step0 (d : Nat → Nat) (hd : ∀ j, d j < 256) (i : Nat) :
    bits BinOp.or IntKind.u64 ((word (mk d (i + 0)) i : Nat) : Int) (IntKind.u64.wrap (IntKind.u64.wrap ((d i : Nat) : Int) * 2 ^ (56 - 8 * 0))) = ((word (mk d (i + 1)) i : Nat) : Int) := by
  have h0 := hd i; have h1 := hd (i + 1); have h2 := hd (i + 2); have h3 := hd (i + 3); have h4 := hd (i + 4); have h5 := hd (i + 5); have h6 := hd (i + 6); have hx := hd i
  have e0 : IntKind.u64.wrap ((d i : Nat) : Int) = ((d i : Nat) : Int) := by rw [IntKind.wrap_u64]; omega
  have e1 : (2 : Int) ^ (56 - 8 * 0) = 72057594037927936 := rfl
  rw [wmk0, wmk1, e0, e1, IntKind.wrap_u64]
  rw [orI64 _ _ (by omega) (by omega) (by omega) (by omega) (by omega)]
  omega
theorem part_step1 (d : Nat → Nat) (hd : ∀ j, d j < 256) (i : Nat) :
    bits BinOp.or IntKind.u64 ((word (mk d (i + 1)) i : Nat) : Int) (IntKind.u64.wrap (IntKind.u64.wrap ((d (i + 1) : Nat) : Int) * 2 ^ (56 - 8 * 1))) = ((word (mk d (i + 2)) i : Nat) : Int) := by
  have h0 := hd i; have h1 := hd (i + 1); have h2 := hd (i + 2); have h3 := hd (i + 3); have h4 := hd (i + 4); have h5 := hd (i + 5); have h6 := hd (i + 6); have hx := hd (i + 1)
  have e0 : IntKind.u64.wrap ((d (i + 1) : Nat) : Int) = ((d (i + 1) : Nat) : Int) := by rw [IntKind.wrap_u64]; omega
  have e1 : (2 : Int) ^ (56 - 8 * 1) = 281474976710656 := rfl
  rw [wmk1, wmk2, e0, e1, IntKind.wrap_u64]
  rw [orI56 _ _ (by omega) (by omega) (by omega) (by omega) (by omega)]
  omega
theorem part_step2 (d : Nat → Nat) (hd : ∀ j, d j < 256) (i : Nat) :
    bits BinOp.or IntKind.u64 ((word (mk d (i + 2)) i : Nat) : Int) (IntKind.u64.wrap (IntKind.u64.wrap ((d (i + 2) : Nat) : Int) * 2 ^ (56 - 8 * 2))) = ((word (mk d (i + 3)) i : Nat) : Int) := by
  have h0 := hd i; have h1 := hd (i + 1); have h2 := hd (i + 2); have h3 := hd (i + 3); have h4 := hd (i + 4); have h5 := hd (i + 5); have h6 := hd (i + 6); have hx := hd (i + 2)
  have e0 : IntKind.u64.wrap ((d (i + 2) : Nat) : Int) = ((d (i + 2) : Nat) : Int) := by rw [IntKind.wrap_u64]; omega
  have e1 : (2 : Int) ^ (56 - 8 * 2) = 1099511627776 := rfl
  rw [wmk2, wmk3, e0, e1, IntKind.wrap_u64]
  rw [orI48 _ _ (by omega) (by omega) (by omega) (by omega) (by omega)]
  omega
theorem part_step3 (d : Nat → Nat) (hd : ∀ j, d j < 256) (i : Nat) :
    bits BinOp.or IntKind.u64 ((word (mk d (i + 3)) i : Nat) : Int) (IntKind.u64.wrap (IntKind.u64.wrap ((d (i + 3) : Nat) : Int) * 2 ^ (56 - 8 * 3))) = ((word (mk d (i + 4)) i : Nat) : Int) := by
  have h0 := hd i; have h1 := hd (i + 1); have h2 := hd (i + 2); have h3 := hd (i + 3); have h4 := hd (i + 4); have h5 := hd (i + 5); have h6 := hd (i + 6); have hx := hd (i + 3)
  have e0 : IntKind.u64.wrap ((d (i + 3) : Nat) : Int) = ((d (i + 3) : Nat) : Int) := by rw [IntKind.wrap_u64]; omega
  have e1 : (2 : Int) ^ (56 - 8 * 3) = 4294967296 := rfl
  rw [wmk3, wmk4, e0, e1, IntKind.wrap_u64]
  rw [orI40 _ _ (by omega) (by omega) (by omega) (by omega) (by omega)]
  omega
theorem part_step4 (d : Nat → Nat) (hd : ∀ j, d j < 256) (i : Nat) :
    bits BinOp.or IntKind.u64 ((word (mk d (i + 4)) i : Nat) : Int) (IntKind.u64.wrap (IntKind.u64.wrap ((d (i + 4) : Nat) : Int) * 2 ^ (56 - 8 * 4))) = ((word (mk d (i + 5)) i : Nat) : Int) := by
  have h0 := hd i; have h1 := hd (i + 1); have h2 := hd (i + 2); have h3 := hd (i + 3); have h4 := hd (i + 4); have h5 := hd (i + 5); have h6 := hd (i + 6); have hx := hd (i + 4)
  have e0 : IntKind.u64.wrap ((d (i + 4) : Nat) : Int) = ((d (i + 4) : Nat) : Int) := by rw [IntKind.wrap_u64]; omega
  have e1 : (2 : Int) ^ (56 - 8 * 4) = 16777216 := rfl
  rw [wmk4, wmk5, e0, e1, IntKind.wrap_u64]
  rw [orI32 _ _ (by omega) (by omega) (by omega) (by omega) (by omega)]
  omega
theorem part_step5 (d : Nat → Nat) (hd : ∀ j, d j < 256) (i : Nat) :
    bits BinOp.or IntKind.u64 ((word (mk d (i + 5)) i : Nat) : Int) (IntKind.u64.wrap (IntKind.u64.wrap ((d (i + 5) : Nat) : Int) * 2 ^ (56 - 8 * 5))) = ((word (mk d (i + 6)) i : Nat) : Int) := by
  have h0 := hd i; have h1 := hd (i + 1); have h2 := hd (i + 2); have h3 := hd (i + 3); have h4 := hd (i + 4); have h5 := hd (i + 5); have h6 := hd (i + 6); have hx := hd (i + 5)
  have e0 : IntKind.u64.wrap ((d (i + 5) : Nat) : Int) = ((d (i + 5) : Nat) : Int) := by rw [IntKind.wrap_u64]; omega
  have e1 : (2 : Int) ^ (56 - 8 * 5) = 65536 := rfl
  rw [wmk5, wmk6, e0, e1, IntKind.wrap_u64]
  rw [orI24 _ _ (by omega) (by omega) (by omega) (by omega) (by omega)]
  omega
theorem part_step6 (d : Nat → Nat) (hd : ∀ j, d j < 256) (i : Nat) :
    bits BinOp.or IntKind.u64 ((word (mk d (i + 6)) i : Nat) : Int) (IntKind.u64.wrap (IntKind.u64.wrap ((d (i + 6) : Nat) : Int) * 2 ^ (56 - 8 * 6))) = ((word (mk d (i + 7)) i : Nat) : Int) := by
  have h0 := hd i; have h1 := hd (i + 1); have h2 := hd (i + 2); have h3 := hd (i + 3); have h4 := hd (i + 4); have h5 := hd (i + 5); have h6 := hd (i + 6); have hx := hd (i + 6)
  have e0 : IntKind.u64.wrap ((d (i + 6) : Nat) : Int) = ((d (i + 6) : Nat) : Int) := by rw [IntKind.wrap_u64]; omega
  have e1 : (2 : Int) ^ (56 - 8 * 6) = 256 := rfl
  rw [wmk6, wmk7, e0, e1, IntKind.wrap_u64]
  rw [orI16 _ _ (by omega) (by omega) (by omega) (by omega) (by omega)]
  omega
theorem part_step (d : Nat → Nat) (hd : ∀ j, d j < 256) (i k : Nat) (hk : k ≤ 6) :
    bits BinOp.or IntKind.u64 ((word (mk d (i + k)) i : Nat) : Int) (IntKind.u64.wrap (IntKind.u64.wrap ((d (i + k) : Nat) : Int) * 2 ^ (56 - 8 * k))) = ((word (mk d (i + (k + 1))) i : Nat) : Int) := by
  have hk' : k = 0 ∨ k = 1 ∨ k = 2 ∨ k = 3 ∨ k = 4 ∨ k = 5 ∨ k = 6 := by omega
  rcases hk' with rfl | rfl | rfl | rfl | rfl | rfl | rfl
  · exact part_step0 d hd i
  · exact part_step1 d hd i
  · exact part_step2 d hd i
  · exact part_step3 d hd i
  · exact part_step4 d hd i
  · exact part_step5 d hd i
  · exact part_step6 d hd i
theorem word_mk (d : Nat → Nat) (L i : Nat) (hz : ∀ j, L ≤ j → d j = 0) (hi : i ≤ L) : word (mk d (i + (L - i))) i = word d i := by
  have e : mk d (i + (L - i)) = d := by
    funext j
    unfold mk
    split
    · rfl
    · exact (hz j (by omega)).symm
  rw [e]
theorem word_zero (d : Nat → Nat) (i : Nat) : word (mk d (i + 0)) i = 0 := by
  rw [wmk0]

end Go.Proofs.YbulkasyyFmt
