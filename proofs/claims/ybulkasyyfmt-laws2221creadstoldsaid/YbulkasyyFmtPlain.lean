import Derived.Lib.BitFns
namespace Go.Proofs.YbulkasyyFmt

/-- bit p of the bytes d, the most significant bit of the first byte being bit 0 -/
def bitAt (d : Nat → Nat) (p : Nat) : Nat := d (p / 8) / 2 ^ (7 - p % 8) % 2
/-- the number that k bits from s on spell -/
def spell (d : Nat → Nat) (s : Nat) : Nat → Nat
  | 0 => 0
  | k + 1 => 2 * spell d s k + bitAt d (s + k)
/-- the big-endian word of eight bytes from i on -/
def word (d : Nat → Nat) (i : Nat) : Nat := d i * 72057594037927936 + d (i + 1) * 281474976710656 + d (i + 2) * 1099511627776 + d (i + 3) * 4294967296 + d (i + 4) * 16777216 + d (i + 5) * 65536 + d (i + 6) * 256 + d (i + 7)

theorem bitAt_lt (d : Nat → Nat) (p : Nat) : bitAt d p < 2 := Nat.mod_lt _ (by decide)
theorem spell_lt (d : Nat → Nat) (s k : Nat) : spell d s k < 2 ^ k := by
  induction k with
  | zero => simp [spell]
  | succ k ih => have := bitAt_lt d (s + k); rw [spell, Nat.pow_succ]; omega

theorem word_lt (d : Nat → Nat) (hd : ∀ j, d j < 256) (i : Nat) : word d i < 18446744073709551616 := by
  have := hd i; have := hd (i + 1); have := hd (i + 2); have := hd (i + 3); have := hd (i + 4); have := hd (i + 5); have := hd (i + 6); have := hd (i + 7)
  unfold word; omega

theorem word_top (d : Nat → Nat) (hd : ∀ j, d j < 256) (i : Nat) : word d i / 1099511627776 = d i * 65536 + d (i + 1) * 256 + d (i + 2) := by
  have h0 := hd i; have h1 := hd (i + 1); have h2 := hd (i + 2); have h3 := hd (i + 3); have h4 := hd (i + 4); have h5 := hd (i + 5); have h6 := hd (i + 6); have h7 := hd (i + 7)
  unfold word
  omega
theorem word_bit (d : Nat → Nat) (hd : ∀ j, d j < 256) (i q : Nat) (hq : q < 24) : word d i / 2 ^ (63 - q) % 2 = d (i + q / 8) / 2 ^ (7 - q % 8) % 2 := by
  have ht := word_top d hd i
  have hp : 2 ^ (63 - q) = 1099511627776 * 2 ^ (23 - q) := by
    rw [show (1099511627776 : Nat) = 2 ^ 40 from rfl, ← Nat.pow_add]; congr 1; omega
  rw [hp, ← Nat.div_div_eq_div_mul, ht]
  have h0 := hd i; have h1 := hd (i + 1); have h2 := hd (i + 2)
  clear hp ht
  match q, hq with
  | 0, _ => simp; omega
  | 1, _ => simp; omega
  | 2, _ => simp; omega
  | 3, _ => simp; omega
  | 4, _ => simp; omega
  | 5, _ => simp; omega
  | 6, _ => simp; omega
  | 7, _ => simp; omega
  | 8, _ => simp; omega
  | 9, _ => simp; omega
  | 10, _ => simp; omega
  | 11, _ => simp; omega
  | 12, _ => simp; omega
  | 13, _ => simp; omega
  | 14, _ => simp; omega
  | 15, _ => simp; omega
  | 16, _ => simp; omega
  | 17, _ => simp; omega
  | 18, _ => simp; omega
  | 19, _ => simp; omega
  | 20, _ => simp; omega
  | 21, _ => simp; omega
  | 22, _ => simp; omega
  | 23, _ => simp; omega
  | m + 24, h => exact absurd h (by omega)

theorem shifted_bit (X skip w : Nat) (hs : skip + w ≤ 63) : X * 2 ^ skip % 2 ^ 64 / 2 ^ (63 - w) % 2 = X / 2 ^ (63 - (skip + w)) % 2 := by
  have h1 := Nat.testBit_mod_two_pow (X * 2 ^ skip) 64 (63 - w)
  have h2 := Nat.testBit_mul_two_pow X (63 - w) skip
  rw [h2] at h1
  have e1 : decide (63 - w < 64) = true := by simp; omega
  have e2 : decide (skip ≤ 63 - w) = true := by simp; omega
  simp only [e1, e2, Bool.true_and] at h1
  have e3 : 63 - w - skip = 63 - (skip + w) := by omega
  rw [e3] at h1
  simp only [Nat.testBit_eq_decide_div_mod_eq] at h1
  have h3 := decide_eq_decide.1 h1
  have l1 := Nat.mod_lt (X * 2 ^ skip % 2 ^ 64 / 2 ^ (63 - w)) (show 0 < 2 by decide)
  have l2 := Nat.mod_lt (X / 2 ^ (63 - (skip + w))) (show 0 < 2 by decide)
  omega

theorem spell_word (d : Nat → Nat) (hd : ∀ j, d j < 256) (s w : Nat) (hw : w ≤ 17) : word d (s / 8) * 2 ^ (s % 8) % 2 ^ 64 / 2 ^ (64 - w) = spell d s w := by
  induction w with
  | zero => simp only [spell]; exact Nat.div_eq_of_lt (Nat.mod_lt _ (by decide))
  | succ w ih =>
    have h1 := ih (by omega)
    rw [spell, ← h1]
    have hp : 2 ^ (64 - w) = 2 ^ (63 - w) * 2 := by rw [← Nat.pow_succ]; congr 1; omega
    rw [hp, ← Nat.div_div_eq_div_mul, show 64 - (w + 1) = 63 - w by omega]
    have hb := shifted_bit (word d (s / 8)) (s % 8) w (by omega)
    rw [word_bit d hd (s / 8) (s % 8 + w) (by omega)] at hb
    have e1 : s / 8 + (s % 8 + w) / 8 = (s + w) / 8 := by omega
    have e2 : (s % 8 + w) % 8 = (s + w) % 8 := by omega
    rw [e1, e2] at hb
    have hb' : word d (s / 8) * 2 ^ (s % 8) % 2 ^ 64 / 2 ^ (63 - w) % 2 = bitAt d (s + w) := hb
    omega

/-! the width -/
theorem bitLen_spec (x : Nat) (hx : x < 2 ^ 64) : x < 2 ^ Lib.bitLen x ∧ ∀ k, k < Lib.bitLen x → 2 ^ k ≤ x := by
  induction x using Nat.strongRecOn with
  | _ x ih =>
    by_cases h0 : x = 0
    · subst h0; exact ⟨by decide, fun k hk => by simp [Lib.bitLen, Lib.bitLenAux] at hk⟩
    · rw [Lib.bitLen_half x h0 hx]
      obtain ⟨i1, i2⟩ := ih (x / 2) (by omega) (by omega)
      refine ⟨by rw [Nat.add_comm, Nat.pow_succ]; omega, fun k hk => ?_⟩
      cases k with
      | zero => simp; omega
      | succ k => have := i2 k (by omega); rw [Nat.pow_succ]; omega
theorem bitLen_le (x : Nat) (hx : x < 131072) : Lib.bitLen x ≤ 17 := by
  have h := (bitLen_spec x (by omega)).2
  rcases Nat.lt_or_ge 17 (Lib.bitLen x) with h1 | h1
  · have := h 17 h1; omega
  · exact h1

end Go.Proofs.YbulkasyyFmt
