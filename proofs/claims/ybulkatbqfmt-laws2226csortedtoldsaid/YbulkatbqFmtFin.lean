import Derived.Test.YbulkatbqFmtNames
namespace Go.Proofs.YbulkatbqFmt
open Go.RowKit Go.Sort

theorem str_back (x : ByteArray) : encStr x.data.toList = .string x := by
  obtain ⟨⟨l⟩⟩ := x
  rfl
theorem clone_row {W : World} {B n : Nat} {v : Value} {zs : List ByteArray} (hz : zs.length = n) (h : W.ownsRow B 9 1 v n ((zs.take n).map Value.string)) (hv : v ≠ .slice none 0 0) :
    ∃ g cap, v = .slice (some ⟨g, 0, .none⟩) n cap ∧ B ≤ g ∧ g < W.heap.size ∧ Holds encStr W g 0 (zs.map (·.data.toList)).toArray := by
  obtain ⟨_, ⟨h, _⟩ | ⟨g, cap, cur, hv, hg', hh, h1, h2, h3, h4⟩⟩ := h
  · exact absurd h hv
  refine ⟨g, cap, hv, hg', lt_of_heap hh, fun j hj => ?_⟩
  have hj' : j < n := by simpa [hz] using hj
  refine ⟨?_, free_of hh _⟩
  rw [cell_of hh, Nat.zero_add, ← Array.getElem?_toList]
  have e : cur.toList[j]? = (cur.toList.take (n * 1))[j]? := by rw [List.getElem?_take_of_lt (by omega)]
  rw [e, h4, List.take_of_length_le (by omega), getElem!_pos _ j hj]
  simp only [List.getElem?_map, List.getElem_toArray, List.getElem_map]
  rw [str_back, List.getElem?_eq_getElem (by omega)]
  rfl
theorem sort_world {W2 W3 : World} {g m : Nat} {A B : Array (List UInt8)} {os : Array Obj} (hb : Below W2.heap.size W2 W3) (hg : W2.heap.size ≤ g) (hlt : g < W3.heap.size) (hH : Holds encStr W3 g 0 A) (hs : B.size = A.size) :
    Below W2.heap.size W2 (grow (putRow encStr (Sort.ahead W3 m) g 0 B) os) ∧ Holds encStr (grow (putRow encStr (Sort.ahead W3 m) g 0 B) os) g 0 B := by
  refine ⟨⟨hb.os, hb.tape, hb.output, ?_, fun k hk => ?_⟩, ?_⟩
  · have := hb.size
    simp [grow, putRow, mapBlock, Sort.ahead]; omega
  · have hs := hb.size
    show ((W3.heap.modify g _) ++ os)[k]? = _
    rw [Array.getElem?_append_left (by simp; omega), Array.getElem?_modify, if_neg (by omega)]
    exact hb.block k hk
  · exact holds_grow encStr _ os g 0 B (by simpa [putRow, mapBlock, Sort.ahead] using hlt) (holds_putRow encStr (Sort.ahead W3 m) g 0 A B hH hs)
/-- all that the law's last loop reads -/
structure Fin (w W : World) (n eB rB g : Nat) (K p : Nat → Nat) (d : Array (Nat × ByteArray)) : Prop where
  bel : Below w.heap.size w W
  reg : W.cell? ⟨rB, 0, .none⟩ = some (.slice (some ⟨eB, 0, .none⟩) n n)
  row : HoldsK encE 7 W eB 0 d
  tool : ∀ i, i < n → W.heap[p i]? = some (.cells (toolCells (nm (K i)) (nm (K i)) 1 1) 36 (0, 0))
  srt : ∀ i, i < n → W.cell? ⟨g, i, .none⟩ = some (.string d[i]!.2)
theorem cell_later {W W2 : World} (hb : Below W.heap.size W W2) {a : Addr} {v : Value} (h : W.cell? a = some v) : W2.cell? a = some v :=
  (hb.cell (World.block_lt_of_cell? W _ h)).trans h
theorem holdsK_later {W W2 : World} (hb : Below W.heap.size W W2) {eB : Nat} {d : Array (Nat × ByteArray)} (h : HoldsK encE 7 W eB 0 d) : HoldsK encE 7 W2 eB 0 d := by
  intro j hj
  have h1 := h j hj
  exact ⟨cell_later hb h1.1, (hb.frozen (World.block_lt_of_cell? W _ h1.1)).trans h1.2⟩
theorem Fin.later {w W W2 : World} {n eB rB g : Nat} {K p : Nat → Nat} {d : Array (Nat × ByteArray)} (h : Fin w W n eB rB g K p d) (hb : Below W.heap.size W W2) : Fin w W2 n eB rB g K p d :=
  ⟨h.bel.trans (hb.mono h.bel.size), cell_later hb h.reg, holdsK_later hb h.row, fun i hi => (hb.block _ (lt_of_heap (h.tool i hi))).trans (h.tool i hi), fun i hi => cell_later hb (h.srt i hi)⟩
/-- entry i, cell by cell -/
theorem Fin.ent {w W : World} {n eB rB g : Nat} {K p : Nat → Nat} {d : Array (Nat × ByteArray)} (h : Fin w W n eB rB g K p d) (i c : Nat) (hi : i < d.size) (hc : c < 7) : W.cell? ⟨eB, i * 7 + c, .none⟩ = some ((encE d[i]!)[c]!) := by
  have := (h.row.cell (i := i) (c := c) hi hc).1
  rwa [Nat.zero_add] at this
end Go.Proofs.YbulkatbqFmt
