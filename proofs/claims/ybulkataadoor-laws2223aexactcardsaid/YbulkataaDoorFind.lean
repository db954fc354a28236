import Derived.Test.YbulkataaDoorWalks
namespace Go.Proofs.YbulkataaDoor
open Go.RowKit

/-- the two handles, and that they are two -/
structure Han (w : World) (a4 a6 : Addr) : Prop where
  g0 : w.cell? ⟨0, 0, .none⟩ = some (.pointer (some a4))
  g1 : w.cell? ⟨1, 0, .none⟩ = some (.pointer (some a6))
  ne : a6 ≠ a4
  h4 : ∃ c t, w.heap[a4.block]? = some (.cells c t (0, 0))
  h6 : ∃ c t, w.heap[a6.block]? = some (.cells c t (0, 0))
  sz : 1 < w.heap.size

theorem Han.later {w w' : World} {a4 a6 : Addr} (h : Han w a4 a6) (hb : Below w.heap.size w w') : Han w' a4 a6 := by
  obtain ⟨c4, t4, e4⟩ := h.h4
  obtain ⟨c6, t6, e6⟩ := h.h6
  have hs := hb.size
  have h1 := h.sz
  exact ⟨(hb.cell (by simp; omega)).trans h.g0, (hb.cell (by simp; omega)).trans h.g1, h.ne, ⟨c4, t4, (hb.block _ (lt_of_block e4)).trans e4⟩, ⟨c6, t6, (hb.block _ (lt_of_block e6)).trans e6⟩, by omega⟩

/-- what a handle's pointer may be: nil, z4's, z6noz's -/
def hptr (a4 a6 : Addr) (k : Int) : Option Addr := if k = 1 then some a4 else if k = 2 then some a6 else .none

theorem info67 : ∃ j, Ybad.prog.info? 67 = some j ∧ j.size ≠ 0 := by
  have h : (Ybad.prog.info? 67).map (·.size) = some 2 := by kernel_rfl
  cases hq : Ybad.prog.info? 67 with
  | none => simp [hq] at h
  | some i => exact ⟨i, rfl, by simp [hq] at h; omega⟩

theorem eq28_same (d : Nat) (a : Addr) (W : World) : (Op.equalIn (d + 1) 28 (.pointer (some a)) (.pointer (some a))).run Ybad.prog W = .ok true W := by
  obtain ⟨j, hj, hjs⟩ := info67
  simp [Op.equalIn, run_underlying Ybad.underlying28, sizeOf, typeInfo, hj, run_sameAddr_same]
theorem eq28_nils (d : Nat) (W : World) : (Op.equalIn (d + 1) 28 (.pointer .none) (.pointer .none)).run Ybad.prog W = .ok true W := by
  simp [Op.equalIn, run_underlying Ybad.underlying28, samePointer]
theorem eq28_nil (d : Nat) (a : Addr) (W : World) : (Op.equalIn (d + 1) 28 (.pointer .none) (.pointer (some a))).run Ybad.prog W = .ok false W := by
  simp [Op.equalIn, run_underlying Ybad.underlying28, samePointer]
theorem eq28_other (d : Nat) (a4 a6 : Addr) (W : World) (h : Han W a4 a6) : (Op.equalIn (d + 1) 28 (.pointer (some a6)) (.pointer (some a4))).run Ybad.prog W = .ok false W := by
  obtain ⟨j, hj, hjs⟩ := info67
  obtain ⟨c4, t4, e4⟩ := h.h4
  obtain ⟨c6, t6, e6⟩ := h.h6
  simp [Op.equalIn, run_underlying Ybad.underlying28, sizeOf, typeInfo, hj, hjs, run_sameAddr_other W h.ne e6 e4]

theorem is4_any (h l k : Int) (a4 a6 : Addr) (w : World) (hH : Han w a4 a6) :
    Calls Ybad.prog 7 #[.agg #[.int .u64 h, .int .u64 l, .pointer (hptr a4 a6 k)]] w fun e w' => e = .returned (.bool (decide (k = 1))) ∧ Below w.heap.size w w' := by
  have g0 := hH.g0
  have hsz : 0 < w.heap.size := by have := hH.sz; omega
  by_cases h1 : k = 1
  · have e1 : hptr a4 a6 k = some a4 := if_pos h1
    have ed : decide (k = 1) = true := by simp [h1]
    rw [e1, ed]
    have hs := fun (W : World) => eq28_same 9998 a4 W
    clear h1 e1 ed
    go_enter Ybad.func7, Ybad.ntmps7
    go_wp2
    go_ret
    exact ⟨rfl, (Below.refl _ _).alloc (Nat.le_refl _) _⟩
  · have ed : decide (k = 1) = false := by simp [h1]
    by_cases h2 : k = 2
    · have e1 : hptr a4 a6 k = some a6 := by unfold hptr; rw [if_neg h1, if_pos h2]
      rw [e1, ed]
      have hs := fun (o : Obj) => eq28_other 9998 a4 a6 (w.alloc o) (hH.later ((Below.refl _ _).alloc (Nat.le_refl _) o))
      clear h1 h2 e1 ed
      go_enter Ybad.func7, Ybad.ntmps7
      go_wp2
      go_ret
      exact ⟨rfl, (Below.refl _ _).alloc (Nat.le_refl _) _⟩
    · have e1 : hptr a4 a6 k = .none := by unfold hptr; rw [if_neg h1, if_neg h2]
      rw [e1, ed]
      have hs := fun (W : World) => eq28_nil 9998 a4 W
      clear h1 h2 e1 ed
      go_enter Ybad.func7, Ybad.ntmps7
      go_wp2
      go_ret
      exact ⟨rfl, (Below.refl _ _).alloc (Nat.le_refl _) _⟩

/-- the closure: is it the E-RAB of that ID? -/
theorem clo_any (x h l t id : Int) (p : Option Addr) (iB : Nat) (w : World) (hi : w.cell? ⟨iB, 0, .none⟩ = some (.int .u8 id)) (hlt : iB < w.heap.size) :
    Calls Ybad.prog 11 #[.agg #[.int .u8 x, .int .u64 h, .int .u64 l, .pointer p, .int .u32 t], .pointer (some ⟨iB, 0, .none⟩)] w fun e w' => e = .returned (.bool (x == id)) ∧ Below w.heap.size w w' := by
  go_enter Ybad.func11, Ybad.ntmps11
  go_wp2
  go_ret
  exact ⟨rfl, (Below.refl _ _).alloc (Nat.le_refl _) _⟩

/-- one E-RAB as it lies in memory -/
structure Er where
  id : Int
  h : Int
  l : Int
  k : Int
  t : Int

/-- n E-RABs from the head of a block on -/
def Erabs (w : World) (oB n : Nat) (a4 a6 : Addr) (R : Nat → Er) : Prop := ∀ j, j < n →
  w.cell? ⟨oB, j * 5, .none⟩ = some (.int .u8 (R j).id) ∧ w.cell? ⟨oB, j * 5 + 1, .none⟩ = some (.int .u64 (R j).h) ∧ w.cell? ⟨oB, j * 5 + 2, .none⟩ = some (.int .u64 (R j).l) ∧
  w.cell? ⟨oB, j * 5 + 3, .none⟩ = some (.pointer (hptr a4 a6 (R j).k)) ∧ w.cell? ⟨oB, j * 5 + 4, .none⟩ = some (.int .u32 (R j).t)

/-- the first index from i on whose ID is id, counted up to n; -1 where there is none -/
def firstAt (R : Nat → Er) (id : Int) (n : Nat) : Nat → Nat → Int
  | 0, _ => -1
  | f + 1, i => if i < n then (if (R i).id = id then (i : Int) else firstAt R id n f (i + 1)) else -1

theorem Erabs.later {w w' : World} {oB n : Nat} {a4 a6 : Addr} {R : Nat → Er} (h : Erabs w oB n a4 a6 R) (hlt : oB < w.heap.size) (hb : Below w.heap.size w w') : Erabs w' oB n a4 a6 R := fun j hj =>
  ⟨(hb.cell hlt).trans (h j hj).1, (hb.cell hlt).trans (h j hj).2.1, (hb.cell hlt).trans (h j hj).2.2.1, (hb.cell hlt).trans (h j hj).2.2.2.1, (hb.cell hlt).trans (h j hj).2.2.2.2⟩

end Go.Proofs.YbulkataaDoor
