import Derived.Test.YbulkatbqFmtCheck
namespace Go.Proofs.YbulkatbqFmt
open Go.RowKit

abbrev noStr : ByteArray := ⟨#[]⟩
/-- a tool's cells -/
abbrev toolCells (nm df : ByteArray) (a b : Int) : Array Value := #[.string nm, .int .i64 0, .string noStr, .string df, .string noStr, .pointer none, .int .i64 a, .int .i64 b]

/-- below block B the world w' is as w was, but for block b -/
structure But (b B : Nat) (w w' : World) : Prop where
  os : w'.os = w.os
  tape : w'.tape = w.tape
  output : w'.output = w.output
  size : w.heap.size ≤ w'.heap.size
  block : ∀ k, k < B → k ≠ b → w'.heap[k]? = w.heap[k]?
theorem But.refl (b B : Nat) (w : World) : But b B w w := ⟨rfl, rfl, rfl, Nat.le_refl _, fun _ _ _ => rfl⟩
theorem But.trans {b B : Nat} {w1 w2 w3 : World} (h : But b B w1 w2) (k : But b B w2 w3) : But b B w1 w3 :=
  ⟨k.os.trans h.os, k.tape.trans h.tape, k.output.trans h.output, Nat.le_trans h.size k.size, fun i hi hb => (k.block i hi hb).trans (h.block i hi hb)⟩
theorem But.of_below {b B B2 : Nat} {w w2 : World} (h : Below B w w2) (hB : B2 ≤ B) : But b B2 w w2 :=
  ⟨h.os, h.tape, h.output, h.size, fun k hk _ => h.block k (Nat.lt_of_lt_of_le hk hB)⟩

theorem But.set {b B : Nat} {w1 w : World} (h : But b B w1 w) (j : Nat) (u : Value) : But b B w1 (w.setCell ⟨b, j, .none⟩ u) :=
  h.trans ⟨rfl, rfl, rfl, by simp [World.setCell], fun k _ hb => Below.heap_setCell _ _ _ _ hb⟩
theorem But.setFar {b B : Nat} {w1 w : World} (h : But b B w1 w) {p : Addr} (hp : B ≤ p.block) (u : Value) : But b B w1 (w.setCell p u) :=
  h.trans ⟨rfl, rfl, rfl, by simp [World.setCell], fun k hk _ => Below.heap_setCell _ _ _ _ (by omega)⟩
theorem But.alloc {b B : Nat} {w1 w : World} (h : But b B w1 w) (hB : B ≤ w.heap.size) (o : Obj) : But b B w1 (w.alloc o) :=
  h.trans ⟨rfl, rfl, rfl, by simp, fun k hk _ => Below.heap_alloc _ _ _ (by omega)⟩

theorem cell_of {w : World} {p : Nat} {c : Array Value} {t : TypeId} {f : Nat × Nat} (h : w.heap[p]? = some (.cells c t f)) (j : Nat) : w.cell? ⟨p, j, .none⟩ = c[j]? := by
  simp only [World.cell?, h]; rfl
theorem free_of {w : World} {p : Nat} {c : Array Value} {t : TypeId} (h : w.heap[p]? = some (.cells c t (0, 0))) (j : Nat) : w.frozen? ⟨p, j, .none⟩ = false := by
  simp [World.frozen?, h]
theorem lt_of_heap {w : World} {p : Nat} {o : Obj} (h : w.heap[p]? = some o) : p < w.heap.size := by
  rcases Nat.lt_or_ge p w.heap.size with h1 | h1
  · exact h1
  · rw [Array.getElem?_eq_none h1] at h; cases h
theorem heap_alloc_old {w : World} {p : Nat} {o : Obj} (h : w.heap[p]? = some o) (o2 : Obj) : (w.alloc o2).heap[p]? = some o := by
  rw [Below.heap_alloc _ _ _ (lt_of_heap h)]; exact h
theorem heap_set {w : World} {p : Nat} {c : Array Value} {t : TypeId} {f : Nat × Nat} (h : w.heap[p]? = some (.cells c t f)) (j : Nat) (u : Value) : (w.setCell ⟨p, j, .none⟩ u).heap[p]? = some (.cells (c.setIfInBounds j u) t f) := by
  have hl := lt_of_heap h
  have he := (Array.getElem?_eq_some_iff.1 h).2
  simp only [World.setCell]
  rw [Array.getElem?_eq_getElem (by simpa using hl)]
  simp [Array.getElem_modify, he]
theorem heap_set_other {w : World} {p q : Nat} {o : Option Obj} (h : w.heap[p]? = o) (hq : p ≠ q) (j : Nat) (u : Value) : (w.setCell ⟨q, j, .none⟩ u).heap[p]? = o :=
  (Below.heap_setCell _ _ _ _ hq).trans h

theorem heap_alloc_new {w : World} {n : Nat} (h : n = w.heap.size) (o : Obj) : (w.alloc o).heap[n]? = some o := by
  subst h
  show (w.heap.push o)[w.heap.size]? = _
  simp

set_option maxHeartbeats 1000000 in
theorem info_any (p : Nat) (nm df : ByteArray) (w : World) (hp : w.heap[p]? = some (.cells (toolCells nm df 0 0) 36 (0, 0))) :
    Calls Ybaf.prog 69 #[.pointer (some ⟨p, 0, .none⟩)] w fun e w' => e = .returned (.agg #[.string nm, .int .i64 0, .string noStr]) ∧ w'.heap[p]? = some (.cells (toolCells nm df 1 0) 36 (0, 0)) ∧ But p w.heap.size w w' := by
  have c6 : ∀ o, (w.alloc o).cell? ⟨p, 6, .none⟩ = some (.int .i64 0) := fun o => (cell_of (heap_alloc_old hp o) 6).trans rfl
  have f6 : ∀ o, (w.alloc o).frozen? ⟨p, 6, .none⟩ = false := fun o => free_of (heap_alloc_old hp o) 6
  have hlt := lt_of_heap hp
  have hne : w.heap.size ≠ p := by omega
  have hne' : p ≠ w.heap.size := by omega
  have HP : Hid (w.heap[p]? = some (.cells (toolCells nm df 0 0) 36 (0, 0))) := hp
  clear hp
  go_enter Ybaf.func69, Ybaf.ntmps69
  go_upto_region 2 with fail
  refine wp_gen (fun W => W.heap[p]? = some (.cells (toolCells nm df 1 0) 36 (0, 0)) ∧ (∃ c0 c1 c2, W.heap[w.heap.size]? = some (.cells #[c0, c1, c2] 31 (0, 0))) ∧ But p w.heap.size w W) ?_ ?_
  · refine ⟨heap_alloc_old (heap_set HP.out 6 _) _, ⟨_, _, _, heap_alloc_new (by simp [World.setCell]) _⟩, But.alloc ((But.refl _ _ _).set 6 _) (by simp [World.setCell]) _⟩
  clear c6 f6 HP
  rintro W ⟨hp, ⟨r0, r1, r2, hr⟩, hB⟩
  have c0 := (cell_of hp 0).trans rfl
  have c1 := (cell_of hp 1).trans rfl
  have c2 := (cell_of hp 2).trans rfl
  have d0 := (cell_of hr 0).trans rfl
  have d1 := (cell_of hr 1).trans rfl
  have d2 := (cell_of hr 2).trans rfl
  have g0 := free_of hr 0
  have g1 := free_of hr 1
  have g2 := free_of hr 2
  have HP : Hid (W.heap[p]? = some (.cells (toolCells nm df 1 0) 36 (0, 0))) := hp
  have HR : Hid (W.heap[w.heap.size]? = some (.cells #[r0, r1, r2] 31 (0, 0))) := hr
  have HB : Hid (But p w.heap.size w W) := hB
  clear hp hr hB
  go_wp2_with fail
  have hz := heap_set (heap_set (heap_set HR.out 0 (.string nm)) 1 (.int .i64 0)) 2 (.string noStr)
  have e0 := (cell_of hz 0).trans rfl
  have e1 := (cell_of hz 1).trans rfl
  have e2 := (cell_of hz 2).trans rfl
  exact bodyPost_ret (v := .agg #[.string nm, .int .i64 0, .string noStr]) (by simp [results, Ybaf.results69, go_sem, e0, e1, e2]) rfl ⟨rfl, heap_set_other (heap_set_other (heap_set_other HP.out hne' _ _) hne' _ _) hne' _ _, ((HB.out.setFar (Nat.le_refl _) _).setFar (Nat.le_refl _) _).setFar (Nat.le_refl _) _⟩
set_option maxHeartbeats 1000000 in
theorem def_any (p : Nat) (nm df : ByteArray) (w : World) (hp : w.heap[p]? = some (.cells (toolCells nm df 1 0) 36 (0, 0))) :
    Calls Ybaf.prog 68 #[.pointer (some ⟨p, 0, .none⟩)] w fun e w' => e = .returned (.agg #[.string df, .string noStr, .pointer none]) ∧ w'.heap[p]? = some (.cells (toolCells nm df 1 1) 36 (0, 0)) ∧ But p w.heap.size w w' := by
  have c6 : ∀ o, (w.alloc o).cell? ⟨p, 7, .none⟩ = some (.int .i64 0) := fun o => (cell_of (heap_alloc_old hp o) 7).trans rfl
  have f6 : ∀ o, (w.alloc o).frozen? ⟨p, 7, .none⟩ = false := fun o => free_of (heap_alloc_old hp o) 7
  have hlt := lt_of_heap hp
  have hne : w.heap.size ≠ p := by omega
  have hne' : p ≠ w.heap.size := by omega
  have HP : Hid (w.heap[p]? = some (.cells (toolCells nm df 1 0) 36 (0, 0))) := hp
  clear hp
  go_enter Ybaf.func68, Ybaf.ntmps68
  go_upto_region 2 with fail
  refine wp_gen (fun W => W.heap[p]? = some (.cells (toolCells nm df 1 1) 36 (0, 0)) ∧ (∃ c0 c1 c2, W.heap[w.heap.size]? = some (.cells #[c0, c1, c2] 34 (0, 0))) ∧ But p w.heap.size w W) ?_ ?_
  · refine ⟨heap_alloc_old (heap_set HP.out 7 _) _, ⟨_, _, _, heap_alloc_new (by simp [World.setCell]) _⟩, But.alloc ((But.refl _ _ _).set 7 _) (by simp [World.setCell]) _⟩
  clear c6 f6 HP
  rintro W ⟨hp, ⟨r0, r1, r2, hr⟩, hB⟩
  have c0 := (cell_of hp 3).trans rfl
  have c1 := (cell_of hp 4).trans rfl
  have c2 := (cell_of hp 5).trans rfl
  have d0 := (cell_of hr 0).trans rfl
  have d1 := (cell_of hr 1).trans rfl
  have d2 := (cell_of hr 2).trans rfl
  have g0 := free_of hr 0
  have g1 := free_of hr 1
  have g2 := free_of hr 2
  have HP : Hid (W.heap[p]? = some (.cells (toolCells nm df 1 1) 36 (0, 0))) := hp
  have HR : Hid (W.heap[w.heap.size]? = some (.cells #[r0, r1, r2] 34 (0, 0))) := hr
  have HB : Hid (But p w.heap.size w W) := hB
  clear hp hr hB
  go_wp2_with fail
  have hz := heap_set (heap_set (heap_set HR.out 0 (.string df)) 1 (.string noStr)) 2 (.pointer none)
  have e0 := (cell_of hz 0).trans rfl
  have e1 := (cell_of hz 1).trans rfl
  have e2 := (cell_of hz 2).trans rfl
  exact bodyPost_ret (v := .agg #[.string df, .string noStr, .pointer none]) (by simp [results, Ybaf.results68, go_sem, e0, e1, e2]) rfl ⟨rfl, heap_set_other (heap_set_other (heap_set_other HP.out hne' _ _) hne' _ _) hne' _ _, ((HB.out.setFar (Nat.le_refl _) _).setFar (Nat.le_refl _) _).setFar (Nat.le_refl _) _⟩
end Go.Proofs.YbulkatbqFmt
