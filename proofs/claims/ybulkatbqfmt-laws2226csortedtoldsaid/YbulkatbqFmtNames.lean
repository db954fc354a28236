import Derived.Test.YbulkatbqFmtRef
namespace Go.Proofs.YbulkatbqFmt
open Go.RowKit Go.Sort

/-- the name the law makes of a key -/
def nm (x : Nat) : ByteArray := ⟨#[UInt8.ofNat (97 + x % 260 % 26), UInt8.ofNat (48 + x % 260 / 26)]⟩
theorem nm_valid (x : Nat) : Valid (nm x) := by
  refine ⟨by show 1 ≤ 2; omega, by show 2 ≤ 64; omega, fun j h => ?_⟩
  have h2 : j < 2 := h
  have h0 : x % 260 % 26 < 26 := Nat.mod_lt _ (by omega)
  have h1 : x % 260 / 26 < 10 := by have := Nat.mod_lt x (show 260 > 0 by omega); omega
  rcases (show j = 0 ∨ j = 1 by omega) with rfl | rfl
  · show OkB (UInt8.ofNat (97 + x % 260 % 26)).toNat
    rw [UInt8.toNat_ofNat', Nat.mod_eq_of_lt (by omega)]
    exact Or.inl ⟨by omega, by omega⟩
  · show OkB (UInt8.ofNat (48 + x % 260 / 26)).toNat
    rw [UInt8.toNat_ofNat', Nat.mod_eq_of_lt (by omega)]
    exact Or.inr (Or.inr (Or.inl ⟨by omega, by omega⟩))
theorem sorted_names {G : Given} {n : Nat} {d : Array (Nat × ByteArray)} (hs : d.size = n) (hp : d.toList.Perm (dOf G n).toList) (hS : SortedIn (ltOf cf) 0 n d) :
    d.toList.map nameOf = ((namesOf G n).map (·.data.toList)).mergeSort (fun x y => decide (x ≤ y)) := by
  have hp2 : (d.toList.map nameOf).Perm ((namesOf G n).map (·.data.toList)) := by
    have := (names_perm hp).map (fun s : ByteArray => s.data.toList)
    rw [List.map_map] at this
    exact this
  have hl : (namesOf G n).length = n := by simp [namesOf]
  have hP : PermIn 0 ((namesOf G n).map (·.data.toList)).toArray.size ((namesOf G n).map (·.data.toList)).toArray (d.toList.map nameOf).toArray := by
    refine ⟨by simp [hs, hl], fun i hi => ?_, ?_⟩
    · have : n ≤ i := by simpa [hl] using hi
      rw [getElem!_neg _ i (by simp [hs]; omega), getElem!_neg _ i (by simp [hl]; omega)]
    · have e1 : (d.toList.map nameOf).toArray.extract 0 ((namesOf G n).map (·.data.toList)).toArray.size = (d.toList.map nameOf).toArray := by
        have : ((namesOf G n).map (·.data.toList)).toArray.size = (d.toList.map nameOf).toArray.size := by simp [hs, hl]
        rw [this]; exact Array.extract_size
      have e2 : ((namesOf G n).map (·.data.toList)).toArray.extract 0 ((namesOf G n).map (·.data.toList)).toArray.size = ((namesOf G n).map (·.data.toList)).toArray := Array.extract_size
      rw [e1, e2]
      exact hp2
  have hSo : SortedIn ltStr 0 ((namesOf G n).map (·.data.toList)).toArray.size (d.toList.map nameOf).toArray := by
    intro i j h0 hij hj
    have hj' : j < n := by simpa [hl] using hj
    have := hS i j h0 hij hj'
    rw [lt_cf] at this
    rw [getElem!_pos _ j (by simp [hs]; omega), getElem!_pos _ i (by simp [hs]; omega)]
    rw [getElem!_pos d j (by omega), getElem!_pos d i (by omega)] at this
    simpa using this
  have h := sorted_unique_holds swo_ltStr (fun x y h1 h2 => by simp only [ltStr, decide_eq_false_iff_not, List.not_lt] at h1 h2; exact List.le_antisymm h2 h1) _ _ hP hSo
  simp only at h
  rw [h]
  congr 1
  funext x y
  show (!decide (y < x)) = decide (x ≤ y)
  by_cases h : x ≤ y
  · have h' : ¬ y < x := List.not_lt.2 h
    simp [h, h']
  · have h' : y < x := List.not_le.1 h
    simp [h, h']
end Go.Proofs.YbulkatbqFmt
