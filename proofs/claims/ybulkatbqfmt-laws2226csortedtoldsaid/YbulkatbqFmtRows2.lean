import Derived.Test.YbulkatbqFmtCmp
namespace Go.Proofs.YbulkatbqFmt
open Go.RowKit Go.Sort

/-- the entries of n good tools -/
def dOf (G : Given) (n : Nat) : Array (Nat × ByteArray) := ((List.range n).map fun i => (G.p i, G.D i)).toArray
def namesOf (G : Given) (n : Nat) : List ByteArray := (List.range n).map G.D
theorem dOf_size (G : Given) (n : Nat) : (dOf G n).size = n := by simp [dOf]
theorem dOf_get (G : Given) (n i : Nat) (h : i < n) : (dOf G n)[i]! = (G.p i, G.D i) := by
  rw [getElem!_pos _ i (by rw [dOf_size]; exact h)]
  simp [dOf]
theorem ents_get (G : Given) : ∀ k j, j < k * 7 → (ents G k)[j]? = some ((encE (G.p (j / 7), G.D (j / 7)))[j % 7]!)
  | 0, j, h => absurd h (by omega)
  | k + 1, j, h => by
    rw [ents_succ]
    by_cases h1 : j < k * 7
    · rw [List.getElem?_append_left (by rw [ents_len]; exact h1)]
      exact ents_get G k j h1
    · rw [List.getElem?_append_right (by rw [ents_len]; omega), ents_len]
      have e1 : j / 7 = k := by omega
      have e2 : j % 7 = j - k * 7 := by omega
      rw [e1, e2]
      have hl : j - k * 7 < (encE (G.p k, G.D k)).length := by show _ < 7; omega
      rw [List.getElem?_eq_getElem hl, getElem!_pos (encE (G.p k, G.D k)) _ hl]
theorem holds_row {w : World} {eB n : Nat} {G : Given} (h : Row w eB n n (ents G n)) : HoldsK encE 7 w eB 0 (dOf G n) := by
  obtain ⟨cur, h1, h2, h3⟩ := h
  intro j hj
  rw [size_flatK, dOf_size] at hj
  refine ⟨?_, free_of h1 _⟩
  rw [cell_of h1, get_flatK _ _ _ _ (by rw [dOf_size]; exact hj), dOf_get _ _ _ (by omega)]
  have h4 := ents_get G n j hj
  rw [← h3, List.getElem?_take_of_lt hj] at h4
  simpa using h4

theorem sortWorld_but (w : World) (blk m : Nat) (d : Array (Nat × ByteArray)) (os : Array Obj) : But blk w.heap.size w (sortWorldK encE 7 w blk 0 m d os) := by
  refine ⟨rfl, rfl, rfl, ?_, fun k hk hb => ?_⟩
  · simp [sortWorldK, grow, putRowK, putRow, mapBlock, Sort.ahead]
  · show ((w.heap.modify blk _) ++ os)[k]? = _
    rw [Array.getElem?_append_left (by simpa using hk), Array.getElem?_modify, if_neg (fun e => hb e.symm)]

theorem perm_of {d d2 : Array (Nat × ByteArray)} (h : PermIn 0 d.size d d2) : d2.size = d.size ∧ d2.toList.Perm d.toList := by
  obtain ⟨h1, _, h3⟩ := h
  refine ⟨h1, ?_⟩
  have e1 : d2.extract 0 d.size = d2 := by rw [← h1]; exact Array.extract_size
  have e2 : d.extract 0 d.size = d := Array.extract_size
  rwa [e1, e2] at h3

theorem names_perm {G : Given} {n : Nat} {d : Array (Nat × ByteArray)} (h : d.toList.Perm (dOf G n).toList) : (d.toList.map (·.2)).Perm (namesOf G n) := by
  have := h.map (fun x => x.2)
  simp only [dOf, List.map_map] at this
  exact this
theorem twin {G : Given} {n : Nat} {d : Array (Nat × ByteArray)} (hs : d.size = n) (h : d.toList.Perm (dOf G n).toList) (i j : Nat) (hij : i < j) (hj : j < n) (he : d[j]!.2 = d[i]!.2) : ¬ (namesOf G n).Nodup := by
  intro hN
  rw [← (names_perm h).nodup_iff] at hN
  have := List.pairwise_iff_getElem.1 hN i j (by simp; omega) (by simp; omega) hij
  rw [getElem!_pos d j (by omega), getElem!_pos d i (by omega)] at he
  exact this (by simpa using he.symm)
theorem no_twin {G : Given} {n : Nat} {d : Array (Nat × ByteArray)} (hs : d.size = n) (h : d.toList.Perm (dOf G n).toList) (hS : SortedIn (ltOf cf) 0 n d) (ha : ∀ i, 1 ≤ i → i < n → d[i]!.2 ≠ d[i - 1]!.2) : (namesOf G n).Nodup := by
  rw [← (names_perm h).nodup_iff]
  refine List.pairwise_iff_getElem.2 fun i j hi hj hij => ?_
  simp at hi hj
  simp only [List.getElem_map, Array.getElem_toList]
  intro he
  have hS' : ∀ i j, i < j → j < n → ¬ nameOf d[j]! < nameOf d[i]! := fun i j h1 h2 => by
    have := hS i j (Nat.zero_le _) h1 h2
    rw [lt_cf] at this
    simpa [ltStr] using this
  have e1 : d[i]!.2 = d[j]!.2 := by rw [getElem!_pos d j hj, getElem!_pos d i hi]; exact he
  have h1 : d[i + 1]!.2 ≠ d[i]!.2 := ha (i + 1) (by omega) (by omega)
  apply h1
  have le1 := List.not_lt.1 (hS' i (i + 1) (by omega) (by omega))
  have le2 : nameOf d[i + 1]! ≤ nameOf d[i]! := by
    have : nameOf d[i]! = nameOf d[j]! := by unfold nameOf; rw [e1]
    rw [this]
    by_cases hij' : i + 1 = j
    · subst hij'; exact List.le_refl _
    · exact List.not_lt.1 (hS' (i + 1) j (by omega) (by omega))
  have e := List.le_antisymm le2 le1
  have e2 : ∀ a b : ByteArray, a.data.toList = b.data.toList → a = b := by
    rintro ⟨⟨x⟩⟩ ⟨⟨y⟩⟩ h
    have : x = y := h
    rw [this]
  exact e2 _ _ e
end Go.Proofs.YbulkatbqFmt
