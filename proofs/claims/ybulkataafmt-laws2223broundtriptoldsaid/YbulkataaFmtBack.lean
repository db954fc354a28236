import Derived.Test.YbulkataaFmtRt
namespace Go.Proofs.YbulkataaFmt

theorem spell8 (bs : List Nat) (s k m : Nat) (h : s + k = 8 * m) (hb : bs.getD m 0 < 256) : spell bs s (k + 8) = 256 * spell bs s k + bs.getD m 0 := by
  have hd : ∀ j, j < 8 → bitAt bs (s + (k + j)) = bs.getD m 0 / 2 ^ (7 - j) % 2 := fun j hj => by
    unfold bitAt
    rw [show (s + (k + j)) / 8 = m by omega, show (s + (k + j)) % 8 = j by omega]
  show 2 * (2 * (2 * (2 * (2 * (2 * (2 * (2 * spell bs s k + bitAt bs (s + (k + 0))) + bitAt bs (s + (k + 1))) + bitAt bs (s + (k + 2))) + bitAt bs (s + (k + 3))) + bitAt bs (s + (k + 4))) + bitAt bs (s + (k + 5))) + bitAt bs (s + (k + 6))) + bitAt bs (s + (k + 7)) = _
  rw [hd 0 (by decide), hd 1 (by decide), hd 2 (by decide), hd 3 (by decide), hd 4 (by decide), hd 5 (by decide), hd 6 (by decide), hd 7 (by decide)]
  generalize bs.getD m 0 = c at hb
  rw [show (2 : Nat) ^ (7 - 0) = 128 from rfl, show (2 : Nat) ^ (7 - 1) = 64 from rfl, show (2 : Nat) ^ (7 - 2) = 32 from rfl, show (2 : Nat) ^ (7 - 3) = 16 from rfl, show (2 : Nat) ^ (7 - 4) = 8 from rfl, show (2 : Nat) ^ (7 - 5) = 4 from rfl, show (2 : Nat) ^ (7 - 6) = 2 from rfl, show (2 : Nat) ^ (7 - 7) = 1 from rfl]
  omega

theorem be_get (x : Nat) : ∀ n k, k < n → (be x n).getD k 0 = x / 2 ^ (8 * (n - 1 - k)) % 256
  | n + 1, 0, _ => by simp [be]
  | n + 1, k + 1, h => by
    have := be_get x n k (by omega)
    simp only [be, List.getD_cons_succ]
    rw [this, show n + 1 - 1 - (k + 1) = n - 1 - k by omega]

theorem spell_be (bs : List Nat) (i n x : Nat) (hg : ∀ j, j < n → bs.getD (i + j) 0 = (be x n).getD j 0) (hx : x < 2 ^ (8 * n)) : ∀ k, k ≤ n → spell bs (8 * i) (8 * k) = x / 2 ^ (8 * (n - k))
  | 0, _ => by simp [spell, Nat.div_eq_of_lt hx]
  | k + 1, h => by
    have ih := spell_be bs i n x hg hx k (by omega)
    have e := (hg k (by omega)).trans (be_get x n k (by omega))
    have hc : bs.getD (i + k) 0 < 256 := by rw [e]; exact Nat.mod_lt _ (by decide)
    rw [show 8 * (k + 1) = 8 * k + 8 by omega, spell8 bs (8 * i) (8 * k) (i + k) (by omega) hc, ih, e]
    rw [show n - (k + 1) = n - 1 - k by omega, show 8 * (n - k) = 8 * (n - 1 - k) + 8 by omega, Nat.pow_add, ← Nat.div_div_eq_div_mul]
    generalize x / 2 ^ (8 * (n - 1 - k)) = y
    rw [show (2 : Nat) ^ 8 = 256 from rfl]
    omega
theorem spell_all (bs : List Nat) (i n x : Nat) (hg : ∀ j, j < n → bs.getD (i + j) 0 = (be x n).getD j 0) (hx : x < 2 ^ (8 * n)) : spell bs (8 * i) (8 * n) = x := by
  rw [spell_be bs i n x hg hx n (Nat.le_refl _)]; simp

theorem get_mid (A M C : List Nat) (j : Nat) (hj : j < M.length) : (A ++ M ++ C).getD (A.length + j) 0 = M.getD j 0 := by
  simp only [List.getD_eq_getElem?_getD]
  rw [List.getElem?_append_left (by simp; omega), List.getElem?_append_right (by omega)]
  simp

theorem pair_pair (x y : Nat) (hx : x < 4294967296) (hy : y < 16777216) : Pair (pairP x y) (octs x - 1) x (octs y - 1) y := by
  have o1 := octs_pos x
  have o4 := octs_le x hx
  have p1 := octs_pos y
  have p3 := octs_le3 y hy
  have lx := octs_lt x hx
  have ly := octs_lt y (by omega)
  have hlen : (pairP x y).length = 2 + octs x + octs y := by simp [pairP, mmeP, be_len]; omega
  have hb0 : (pairP x y).getD 0 0 = 4 * (octs x - 1) := rfl
  have hbx : ∀ j, j < octs x → (pairP x y).getD (1 + j) 0 = (be x (octs x)).getD j 0 := fun j hj => by
    have := get_mid [4 * (octs x - 1)] (be x (octs x)) ([64 * (octs y - 1)] ++ be y (octs y)) j (by rw [be_len]; exact hj)
    have e : pairP x y = [4 * (octs x - 1)] ++ be x (octs x) ++ ([64 * (octs y - 1)] ++ be y (octs y)) := by simp [pairP, mmeP]
    rw [e]; exact this
  have hbm : (pairP x y).getD (octs x + 1) 0 = 64 * (octs y - 1) := by
    have := get_mid (mmeP x) [64 * (octs y - 1)] (be y (octs y)) 0 (by simp)
    rw [mmeP_len, show 1 + octs x + 0 = octs x + 1 by omega] at this
    exact this
  have hby : ∀ j, j < octs y → (pairP x y).getD (octs x + 2 + j) 0 = (be y (octs y)).getD j 0 := fun j hj => by
    have := get_mid (mmeP x ++ [64 * (octs y - 1)]) (be y (octs y)) [] j (by rw [be_len]; exact hj)
    rw [List.append_nil] at this
    rw [show (mmeP x ++ [64 * (octs y - 1)]).length = octs x + 2 by simp [mmeP_len]; omega] at this
    exact this
  obtain ⟨q, hq⟩ : ∃ q, octs x = q + 1 := ⟨octs x - 1, by omega⟩
  obtain ⟨r, hr⟩ : ∃ r, octs y = r + 1 := ⟨octs y - 1, by omega⟩
  generalize pairP x y = bs at hlen hb0 hbx hbm hby ⊢
  rw [hq] at o4 lx hlen hb0 hbx hbm hby ⊢
  rw [hr] at p3 ly hlen hbm hby ⊢
  simp only [Nat.add_sub_cancel] at hb0 hbm ⊢
  have e1 : nextPos 4 q = 8 * (q + 1 + 1) := by unfold nextPos; omega
  refine ⟨?_, ?_, ?_, ?_, ⟨?_, ?_, by omega⟩, ⟨?_, ?_, by rw [e1]; omega⟩, by omega, by omega, hx, hy, by omega⟩
  · unfold bitAt; simp only [Nat.zero_div, hb0]; rw [show (2 : Nat) ^ (7 - 0 % 8) = 128 from rfl]; omega
  · unfold bitAt; rw [show 1 / 8 = 0 from rfl, hb0, show (2 : Nat) ^ (7 - 1 % 8) = 64 from rfl]; omega
  · unfold bitAt; rw [show 2 / 8 = 0 from rfl, hb0, show (2 : Nat) ^ (7 - 2 % 8) = 32 from rfl]; omega
  · unfold bitAt; rw [show 3 / 8 = 0 from rfl, hb0, show (2 : Nat) ^ (7 - 3 % 8) = 16 from rfl]; omega
  · show 2 * (2 * 0 + bitAt bs 4) + bitAt bs 5 = q
    unfold bitAt; rw [show 4 / 8 = 0 from rfl, hb0, show (2 : Nat) ^ (7 - 4 % 8) = 8 from rfl, show (2 : Nat) ^ (7 - 5 % 8) = 4 from rfl]; omega
  · exact spell_all bs 1 (q + 1) x hbx lx
  · rw [e1]
    show 2 * (2 * 0 + bitAt bs (8 * (q + 1 + 1) + 0)) + bitAt bs (8 * (q + 1 + 1) + 1) = r
    unfold bitAt
    rw [show (8 * (q + 1 + 1) + 0) / 8 = q + 1 + 1 by omega, show (8 * (q + 1 + 1) + 1) / 8 = q + 1 + 1 by omega, hbm, show (8 * (q + 1 + 1) + 0) % 8 = 0 by omega, show (8 * (q + 1 + 1) + 1) % 8 = 1 by omega, show (2 : Nat) ^ (7 - 0) = 128 from rfl, show (2 : Nat) ^ (7 - 1) = 64 from rfl]; omega
  · rw [e1, show (8 * (q + 1 + 1) + 2 + 7) / 8 * 8 = 8 * (q + 1 + 2) by omega]
    exact spell_all bs (q + 1 + 2) (r + 1) y hby ly
end Go.Proofs.YbulkataaFmt
