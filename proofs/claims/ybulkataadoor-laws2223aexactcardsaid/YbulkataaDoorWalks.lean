import Derived.Test.YbulkataaDoorRows
import Derived.WalkKit
import Derived.WalkSpells
import Derived.WalkLawsBesides
import Derived.Deep.MidRow
import Derived.Deep.WholeRow
import Derived.Deep.QuietTactic
import Derived.BigQuiet
import Derived.Deep.RegionHeld3
import Derived.LaidEqlPtr
namespace Go.Proofs.YbulkataaDoor
open Go.RowKit

/-- BEUint64 of eight bytes: some uint64 -/
theorem be_any (b o c : Nat) (w : World) (hc : ∀ j, j < 8 → ∃ z : Int, w.cell? ⟨b, o + j, .none⟩ = some (.int .u8 z)) :
    Calls Ybad.prog 12 #[.slice (some ⟨b, o, .none⟩) 8 c] w fun e w' => (∃ v, e = .returned (.int .u64 v)) ∧ ∃ k, w' = w.drewN k := by
  obtain ⟨z0, c0⟩ := hc 0 (by omega)
  obtain ⟨z1, c1⟩ := hc 1 (by omega)
  obtain ⟨z2, c2⟩ := hc 2 (by omega)
  obtain ⟨z3, c3⟩ := hc 3 (by omega)
  obtain ⟨z4, c4⟩ := hc 4 (by omega)
  obtain ⟨z5, c5⟩ := hc 5 (by omega)
  obtain ⟨z6, c6⟩ := hc 6 (by omega)
  obtain ⟨z7, c7⟩ := hc 7 (by omega)
  simp only [Nat.add_zero] at c0
  clear hc
  go_enter Ybad.func12, Ybad.ntmps12
  go_wp2
  go_quiet (fail)
  go_wp2
  go_ret
  exact ⟨⟨_, rfl⟩, _, rfl⟩

theorem from4_any (x0 x1 x2 x3 : Int) (a4 : Addr) (w : World) (hg : w.cell? ⟨0, 0, .none⟩ = some (.pointer (some a4))) (h0 : 0 < w.heap.size) :
    Calls Ybad.prog 8 #[.agg #[.int .u8 x0, .int .u8 x1, .int .u8 x2, .int .u8 x3]] w fun e w' => (∃ h l, e = .returned (.agg #[.int .u64 h, .int .u64 l, .pointer (some a4)])) ∧ Below w.heap.size w w' := by
  go_enter Ybad.func8, Ybad.ntmps8
  go_wp2
  exact bodyPost_ret (v := .agg #[.int .u64 0, .int .u64 (bits BinOp.or IntKind.u64 (bits BinOp.or IntKind.u64 (bits BinOp.or IntKind.u64 (bits BinOp.or IntKind.u64 281470681743360 (IntKind.u64.wrap (IntKind.u64.wrap x0 * 16777216))) (IntKind.u64.wrap (IntKind.u64.wrap x1 * 65536))) (IntKind.u64.wrap (IntKind.u64.wrap x2 * 256))) (IntKind.u64.wrap x3)), .pointer (some a4)]) (by simp [results, Ybad.results8, go_sem]) rfl ⟨⟨_, _, rfl⟩, ((Below.refl _ _).alloc (Nat.le_refl _) _).alloc (by simp) _⟩

/-- sixteen bytes at the head of a block -/
def Row16 (z : Nat → Int) (b : Nat) (w : World) : Prop := ∀ j, j < 16 → w.cell? ⟨b, j, .none⟩ = some (.int .u8 (z j))
theorem row_set {z : Nat → Int} {b : Nat} {w : World} (h : Row16 z b w) {a : Addr} (ha : a.block ≠ b) (v : Value) : Row16 z b (w.setCell a v) := fun j hj => by
  rw [World.cell?_setCell_other _ _ _ _ (fun e => ha (by rw [e]))]; exact h j hj
theorem row_drew {z : Nat → Int} {b : Nat} {w : World} (h : Row16 z b w) : Row16 z b w.drew := h
theorem row_drewN {z : Nat → Int} {b : Nat} {w : World} (h : Row16 z b w) (k : Nat) : Row16 z b (w.drewN k) := h
theorem row_ex {z : Nat → Int} {b : Nat} {w : World} (h : Row16 z b w) (o : Nat) (ho : o ≤ 8) : ∀ j, j < 8 → ∃ x : Int, w.cell? ⟨b, o + j, .none⟩ = some (.int .u8 x) := fun j hj => ⟨_, h (o + j) (by omega)⟩
def cells16 (z : Nat → Int) : Array Value := #[.int .u8 (z 0), .int .u8 (z 1), .int .u8 (z 2), .int .u8 (z 3), .int .u8 (z 4), .int .u8 (z 5), .int .u8 (z 6), .int .u8 (z 7), .int .u8 (z 8), .int .u8 (z 9), .int .u8 (z 10), .int .u8 (z 11), .int .u8 (z 12), .int .u8 (z 13), .int .u8 (z 14), .int .u8 (z 15)]
theorem row_new (z : Nat → Int) (w : World) (o : Obj) : Row16 z w.heap.size ((w.alloc (.cells (cells16 z) 38)).alloc o) := fun j hj => by
  have h := heap_alloc2_old w (.cells (cells16 z) 38) o
  rw [cell_of_row _ _ _ _ _ _ h]
  have hj' : j = 0 ∨ j = 1 ∨ j = 2 ∨ j = 3 ∨ j = 4 ∨ j = 5 ∨ j = 6 ∨ j = 7 ∨ j = 8 ∨ j = 9 ∨ j = 10 ∨ j = 11 ∨ j = 12 ∨ j = 13 ∨ j = 14 ∨ j = 15 := by omega
  rcases hj' with rfl | rfl | rfl | rfl | rfl | rfl | rfl | rfl | rfl | rfl | rfl | rfl | rfl | rfl | rfl | rfl <;> rfl

set_option maxHeartbeats 400000 in
theorem from16_any (z : Nat → Int) (a6 : Addr) (w : World) (hg : w.cell? ⟨1, 0, .none⟩ = some (.pointer (some a6))) (h0 : 1 < w.heap.size) :
    Calls Ybad.prog 9 #[.agg (cells16 z)] w fun e w' => (∃ h l, e = .returned (.agg #[.int .u64 h, .int .u64 l, .pointer (some a6)])) ∧ Below w.heap.size w w' := by
  unfold cells16
  have n1 : w.heap.size ≠ 1 := by omega
  have n2 : ¬ w.heap.size = 0 := by omega
  have HR : Hid (∀ o, Row16 z w.heap.size ((w.alloc (.cells (cells16 z) 38)).alloc o)) := row_new z w
  go_enter Ybad.func9, Ybad.ntmps9
  go_wp2
  go_region_held3 (fun w' => w'.cell? ⟨1, 0, .none⟩ = some (.pointer (some a6))) (go_keep)
    ((go_at_call 12; refine (be_any _ _ _ _ ?_).mono ?_; (first | exact row_ex (row_drew (HR.out _)) _ (by omega) | exact row_ex (row_drewN (HR.out _) _) _ (by omega)); rintro e w' ⟨⟨v, rfl⟩, k, rfl⟩))
  go_wp2
  exact bodyPost_ret (v := .agg #[.int .u64 _, .int .u64 _, .pointer (some a6)]) (by simp [results, Ybad.results9, go_sem]; exact ⟨rfl, rfl⟩) rfl ⟨⟨_, _, rfl⟩, (((below_drewN (((Below.refl _ _).alloc (Nat.le_refl _) _).alloc (by simp) _) _).setCell (p := ⟨w.heap.size + 1, 0, .none⟩) (by simp) _).setCell (p := ⟨w.heap.size + 1, 1, .none⟩) (by simp) _).setCell (p := ⟨w.heap.size + 1, 2, .none⟩) (by simp) _⟩

end Go.Proofs.YbulkataaDoor
