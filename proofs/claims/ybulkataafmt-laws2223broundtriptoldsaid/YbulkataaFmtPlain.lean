import Derived.Test.YbulkataaFmtPut
import Derived.Lib.ItoaNum
namespace Go.Proofs.YbulkataaFmt

/-- the n low octets of x, the most significant first -/
def be (x : Nat) : Nat → List Nat
  | 0 => []
  | n + 1 => x / 2 ^ (8 * n) % 256 :: be x n
theorem be_len (x n : Nat) : (be x n).length = n := by
  induction n with
  | zero => rfl
  | succ n ih => simp [be, ih]
theorem be_lt (x : Nat) : ∀ n z, z ∈ be x n → z < 256
  | 0, z, h => by simp [be] at h
  | n + 1, z, h => by
    simp only [be, List.mem_cons] at h
    rcases h with rfl | h
    · exact Nat.mod_lt _ (by decide)
    · exact be_lt x n z h

theorem bit_first (x i L : Nat) (bs : List Nat) : bit1 x i (bs, 8 * L) = (bs ++ [if x / 2 ^ i % 2 = 1 then 128 else 0], 8 * L + 1) := by
  have h : 8 * L % 8 = 0 := by omega
  simp only [bit1, h, if_true]
  by_cases hb : x / 2 ^ i % 2 = 1
  · simp [hb]
  · simp [hb]
theorem bit_next (x i L j c : Nat) (hj : 1 ≤ j) (hj7 : j ≤ 7) (bs : List Nat) : bit1 x i (bs ++ [c], 8 * L + j) = (bs ++ [if x / 2 ^ i % 2 = 1 then c ||| 128 / 2 ^ j else c], 8 * L + (j + 1)) := by
  have h : (8 * L + j) % 8 = j := by omega
  have h0 : ¬ j = 0 := by omega
  simp only [bit1, h, h0, if_false]
  by_cases hb : x / 2 ^ i % 2 = 1
  · simp [hb]; omega
  · simp [hb]; omega

theorem chain (y : Nat) : ∀ z : Fin 256, z.val = y % 256 → (let c0 := if y / 128 % 2 = 1 then 128 else 0
    let c1 := if y / 64 % 2 = 1 then c0 ||| 64 else c0
    let c2 := if y / 32 % 2 = 1 then c1 ||| 32 else c1
    let c3 := if y / 16 % 2 = 1 then c2 ||| 16 else c2
    let c4 := if y / 8 % 2 = 1 then c3 ||| 8 else c3
    let c5 := if y / 4 % 2 = 1 then c4 ||| 4 else c4
    let c6 := if y / 2 % 2 = 1 then c5 ||| 2 else c5
    if y % 2 = 1 then c6 ||| 1 else c6) = z.val := by
  intro z hz
  have h7 : y / 128 % 2 = z.val / 128 % 2 := by omega
  have h6 : y / 64 % 2 = z.val / 64 % 2 := by omega
  have h5 : y / 32 % 2 = z.val / 32 % 2 := by omega
  have h4 : y / 16 % 2 = z.val / 16 % 2 := by omega
  have h3 : y / 8 % 2 = z.val / 8 % 2 := by omega
  have h2 : y / 4 % 2 = z.val / 4 % 2 := by omega
  have h1 : y / 2 % 2 = z.val / 2 % 2 := by omega
  have h0 : y % 2 = z.val % 2 := by omega
  simp only [h7, h6, h5, h4, h3, h2, h1, h0]
  clear hz h7 h6 h5 h4 h3 h2 h1 h0
  revert z
  decide +kernel

theorem put8 (x m L : Nat) (bs : List Nat) : putP x (m + 8) (bs, 8 * L) = putP x m (bs ++ [x / 2 ^ m % 256], 8 * L + 8) := by
  have hd : ∀ k, x / 2 ^ (m + k) = x / 2 ^ m / 2 ^ k := fun k => by rw [Nat.pow_add, Nat.div_div_eq_div_mul]
  show putP x m (bit1 x m (bit1 x (m + 1) (bit1 x (m + 2) (bit1 x (m + 3) (bit1 x (m + 4) (bit1 x (m + 5) (bit1 x (m + 6) (bit1 x (m + 7) (bs, 8 * L))))))))) = _
  rw [bit_first, bit_next _ _ _ 1 _ (by decide) (by decide), bit_next _ _ _ 2 _ (by decide) (by decide), bit_next _ _ _ 3 _ (by decide) (by decide), bit_next _ _ _ 4 _ (by decide) (by decide), bit_next _ _ _ 5 _ (by decide) (by decide), bit_next _ _ _ 6 _ (by decide) (by decide), bit_next _ _ _ 7 _ (by decide) (by decide)]
  simp only [hd]
  have h := chain (x / 2 ^ m) ⟨x / 2 ^ m % 256, Nat.mod_lt _ (by decide)⟩ rfl
  simp only at h
  rw [show (2 : Nat) ^ 7 = 128 from rfl, show (2 : Nat) ^ 6 = 64 from rfl, show (2 : Nat) ^ 5 = 32 from rfl, show (2 : Nat) ^ 4 = 16 from rfl, show (2 : Nat) ^ 3 = 8 from rfl, show (2 : Nat) ^ 2 = 4 from rfl, show (2 : Nat) ^ 1 = 2 from rfl]
  rw [show (128 : Nat) / 2 = 64 from rfl, show (128 : Nat) / 4 = 32 from rfl, show (128 : Nat) / 8 = 16 from rfl, show (128 : Nat) / 16 = 8 from rfl, show (128 : Nat) / 32 = 4 from rfl, show (128 : Nat) / 64 = 2 from rfl, show (128 : Nat) / 128 = 1 from rfl]
  rw [h]

theorem put_be (x : Nat) : ∀ (n L : Nat) (bs : List Nat), putP x (8 * n) (bs, 8 * L) = (bs ++ be x n, 8 * (L + n))
  | 0, L, bs => by simp [putP, be]
  | n + 1, L, bs => by
    rw [show 8 * (n + 1) = 8 * n + 8 by omega, put8, show 8 * L + 8 = 8 * (L + 1) by omega, put_be x n (L + 1)]
    simp [be]; omega

theorem put2 (q L : Nat) (hq : q ≤ 3) (bs : List Nat) : putP q 2 (bs, 8 * L) = (bs ++ [64 * q], 8 * L + 2) := by
  show bit1 q 0 (bit1 q 1 (bs, 8 * L)) = _
  rw [bit_first, bit_next _ _ _ 1 _ (by decide) (by decide)]
  match q, hq with
  | 0, _ => rfl
  | 1, _ => rfl
  | 2, _ => rfl
  | 3, _ => rfl
theorem put2_head (q : Nat) (hq : q ≤ 3) : putP q 2 ([0], 4) = ([4 * q], 6) := by
  match q, hq with
  | 0, _ => rfl
  | 1, _ => rfl
  | 2, _ => rfl
  | 3, _ => rfl
theorem put4 : putP 0 1 (putP 0 1 (putP 0 1 (putP 0 1 ([], 0)))) = ([0], 4) := rfl

theorem off_head (x : Nat) (hx : x < 4294967296) : offP x ([0], 4) = (4 * (octs x - 1) :: be x (octs x), 8 * (1 + octs x)) := by
  have h := octs_le x hx
  simp only [offP]
  rw [put2_head _ (by omega)]
  show putP x (8 * octs x) ([4 * (octs x - 1)], 8 * 1) = _
  rw [put_be]
  rfl
theorem off_next (x : Nat) (hx : x < 4294967296) (bs : List Nat) : offP x (bs, 8 * bs.length) = (bs ++ [64 * (octs x - 1)] ++ be x (octs x), 8 * (bs.length + 1 + octs x)) := by
  have h := octs_le x hx
  simp only [offP]
  rw [put2 _ _ (by omega)]
  simp only [List.length_append, List.length_cons, List.length_nil, Nat.zero_add]
  rw [put_be]

theorem octs_lt (x : Nat) (hx : x < 4294967296) : x < 2 ^ (8 * octs x) := by
  by_cases h0 : x = 0
  · subst h0; exact Nat.two_pow_pos _
  · obtain ⟨h1, h2, h3⟩ := Lib.bitLenAux_bounds 64 x (by omega) h0
    have hb : Lib.bitLenAux 64 x = Lib.bitLen x := rfl
    rw [hb] at h1 h2 h3
    exact Nat.lt_of_lt_of_le h3 (Nat.pow_le_pow_right (by decide) (by unfold octs; omega))
theorem octs_ge (x n : Nat) (hx : x < 4294967296) (h1 : 1 ≤ n) (hn : n < octs x) : 2 ^ (8 * n) ≤ x := by
  by_cases h0 : x = 0
  · subst h0
    have : octs 0 = 1 := by decide
    omega
  · obtain ⟨g1, g2, g3⟩ := Lib.bitLenAux_bounds 64 x (by omega) h0
    have hb : Lib.bitLenAux 64 x = Lib.bitLen x := rfl
    rw [hb] at g1 g2 g3
    exact Nat.le_trans (Nat.pow_le_pow_right (by decide) (by unfold octs at hn; omega)) g2
theorem octs_le3 (x : Nat) (hx : x < 16777216) : octs x ≤ 3 := by
  have := Lib.bitLen_le x 24 (by omega) hx
  unfold octs; omega
end Go.Proofs.YbulkataaFmt
