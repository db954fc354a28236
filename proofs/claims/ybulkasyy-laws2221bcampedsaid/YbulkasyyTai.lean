import Derived.Test.YbulkasyyWalks
namespace Go.Proofs.Ybulkasyy
open Go.RowKit Go.Maps

/-- what Cell.tai asks of the world: the PLMN's slice, the selected PLMN, and that trackingArea answers v in every later world -/
def AreaOk (w : World) (cB s : Nat) (v : Int) : Prop :=
  ∀ w', Below w.heap.size w w' → Calls Yba.prog 6 #[.pointer (some ⟨cB, 0, .none⟩), .int .i64 s] w' fun e w'' => e = .returned (.int .i64 v) ∧ ∃ k, w'' = w'.drewN k

set_option maxHeartbeats 400000 in
theorem tai_cell (cB pB n s : Nat) (a b : ByteArray) (v : Int) (w : World) (hs : s < n) (hcl : cB < w.heap.size) (hpl : pB < w.heap.size) (h1 : w.cell? ⟨cB, 1, .none⟩ = some (.slice (some ⟨pB, 0, .none⟩) n n)) 
    (ha : w.cell? ⟨pB, s * 2, .none⟩ = some (.string a)) (hb : w.cell? ⟨pB, s * 2 + 1, .none⟩ = some (.string b)) (hA : AreaOk w cB s v) :
    Calls Yba.prog 5 #[.pointer (some ⟨cB, 0, .none⟩), .int .i64 s] w fun e w' => e = .returned (.agg #[.string a, .string b, .int .i64 v]) ∧ Below w.heap.size w w' := by
  have hs' : (s : Int) < (n : Int) := by omega
  have n1 : w.heap.size ≠ cB := by omega
  have n2 : w.heap.size ≠ pB := by omega
  have n3 : cB ≠ w.heap.size := by omega
  have n4 : pB ≠ w.heap.size := by omega
  go_enter Yba.func5, Yba.ntmps5
  go_wp2
  go_region_held3 (fun w' => w'.cell? ⟨cB, 1, .none⟩ = some (.slice (some ⟨pB, 0, .none⟩) n n) ∧ w'.cell? ⟨pB, s * 2, .none⟩ = some (.string a) ∧ w'.cell? ⟨pB, s * 2 + 1, .none⟩ = some (.string b)) (go_keep)
    ((go_at_call 6; refine (hA _ ?_).mono ?_; exact ((Below.refl _ _).alloc (Nat.le_refl _) _).drew; rintro e w' ⟨rfl, k, rfl⟩))
  go_wp2
  exact bodyPost_ret (v := .agg #[.string a, .string b, .int .i64 v]) (by simp [results, Yba.results5, go_sem]) rfl ⟨rfl, (((below_drewN ((Below.refl _ _).alloc (Nat.le_refl _) _) _).setCell (Nat.le_refl _) _).setCell (Nat.le_refl _) _).setCell (Nat.le_refl _) _⟩

set_option maxHeartbeats 400000 in
theorem tai_none (rB : Nat) (w : World) (h3 : w.cell? ⟨rB, 3, .none⟩ = some (.pointer .none)) (hrl : rB < w.heap.size) :
    Calls Yba.prog 4 #[.pointer (some ⟨rB, 0, .none⟩)] w fun e w' => e = .returned (.agg #[.string ByteArray.empty, .string ByteArray.empty, .int .i64 0]) ∧ Below w.heap.size w w' := by
  go_enter Yba.func4, Yba.ntmps4
  go_wp2
  exact bodyPost_ret (v := .agg #[.string ByteArray.empty, .string ByteArray.empty, .int .i64 0]) (by simp [results, Yba.results4, go_sem]; rfl) rfl ⟨rfl, (Below.refl _ _).alloc (Nat.le_refl _) _⟩

set_option maxHeartbeats 400000 in
theorem tai_some (rB cB pB n s : Nat) (a b : ByteArray) (v : Int) (w : World) (hs : s < n) (hrl : rB < w.heap.size) (hcl : cB < w.heap.size) (hpl : pB < w.heap.size)
    (h3 : w.cell? ⟨rB, 3, .none⟩ = some (.pointer (some ⟨cB, 0, .none⟩))) (h4 : w.cell? ⟨rB, 4, .none⟩ = some (.int .i64 s)) (h1 : w.cell? ⟨cB, 1, .none⟩ = some (.slice (some ⟨pB, 0, .none⟩) n n)) 
    (ha : w.cell? ⟨pB, s * 2, .none⟩ = some (.string a)) (hb : w.cell? ⟨pB, s * 2 + 1, .none⟩ = some (.string b)) (hA : AreaOk w cB s v) :
    Calls Yba.prog 4 #[.pointer (some ⟨rB, 0, .none⟩)] w fun e w' => e = .returned (.agg #[.string a, .string b, .int .i64 v]) ∧ Below w.heap.size w w' := by
  have n1 : w.heap.size ≠ rB := by omega
  have n3 : rB ≠ w.heap.size := by omega
  have hsub : ∀ O : Obj, Calls Yba.prog 5 #[.pointer (some ⟨cB, 0, .none⟩), .int .i64 s] (w.alloc O).drew fun e w' => e = .returned (.agg #[.string a, .string b, .int .i64 v]) ∧ Below (w.heap.size + 1) (w.alloc O).drew w' := by
    intro O
    have hbl : Below w.heap.size w (w.alloc O).drew := ((Below.refl _ _).alloc (Nat.le_refl _) _).drew
    refine (tai_cell cB pB n s a b v (w.alloc O).drew hs (by simp; omega) (by simp; omega) ((hbl.cell hcl).trans h1) ((hbl.cell hpl).trans ha) ((hbl.cell hpl).trans hb) (fun w' hw' => hA w' (hbl.trans (hw'.mono (by simp))))).mono ?_
    rintro e w' ⟨rfl, h⟩
    exact ⟨rfl, by simpa using h⟩
  have HS : Hid (∀ O : Obj, Calls Yba.prog 5 #[.pointer (some ⟨cB, 0, .none⟩), .int .i64 s] (w.alloc O).drew fun e w' => e = .returned (.agg #[.string a, .string b, .int .i64 v]) ∧ Below (w.heap.size + 1) (w.alloc O).drew w') := hsub
  clear hsub h1 ha hb hA
  go_enter Yba.func4, Yba.ntmps4
  go_wp2
  go_region_held3 (fun w' => w'.cell? ⟨rB, 3, .none⟩ = some (.pointer (some ⟨cB, 0, .none⟩)) ∧ w'.cell? ⟨rB, 4, .none⟩ = some (.int .i64 s)) (go_keep)
    ((go_at_call 5; refine (HS.out _).mono ?_; rintro e w' ⟨rfl, hbw⟩; have hc1 := hbw.cell (p := ⟨w.heap.size, 0, .none⟩) (Nat.lt_succ_self _); have hc2 := hbw.cell (p := ⟨w.heap.size, 1, .none⟩) (Nat.lt_succ_self _); have hc3 := hbw.cell (p := ⟨w.heap.size, 2, .none⟩) (Nat.lt_succ_self _); have hf1 := hbw.frozen (p := ⟨w.heap.size, 0, .none⟩) (Nat.lt_succ_self _); have hf2 := hbw.frozen (p := ⟨w.heap.size, 1, .none⟩) (Nat.lt_succ_self _); have hf3 := hbw.frozen (p := ⟨w.heap.size, 2, .none⟩) (Nat.lt_succ_self _); have hr3 := hbw.cell (p := ⟨rB, 3, .none⟩) (Nat.lt_succ_of_lt hrl); have hr4 := hbw.cell (p := ⟨rB, 4, .none⟩) (Nat.lt_succ_of_lt hrl)))
  go_wp2
  simp at hc1 hc2 hc3
  have x1 : ((w'.setCell ⟨w.heap.size, 0, .none⟩ (Value.string a)).cell? ⟨w.heap.size, 1, .none⟩) = some (.string ByteArray.empty) := by rw [World.cell?_setCell_other _ _ _ _ (by simp), hc2]; rfl
  have x2 : (((w'.setCell ⟨w.heap.size, 0, .none⟩ (Value.string a)).setCell ⟨w.heap.size, 1, .none⟩ (Value.string b)).cell? ⟨w.heap.size, 2, .none⟩) = some (.int .i64 0) := by rw [World.cell?_setCell_other _ _ _ _ (by simp), World.cell?_setCell_other _ _ _ _ (by simp), hc3]
  have y0 : ((((w'.setCell ⟨w.heap.size, 0, .none⟩ (Value.string a)).setCell ⟨w.heap.size, 1, .none⟩ (Value.string b)).setCell ⟨w.heap.size, 2, .none⟩ (Value.int .i64 v)).cell? ⟨w.heap.size, 0, .none⟩) = some (.string a) := by
    rw [World.cell?_setCell_other _ _ _ _ (by simp), World.cell?_setCell_other _ _ _ _ (by simp)]; exact World.cell?_setCell_same _ _ _ hc1
  have y1 : ((((w'.setCell ⟨w.heap.size, 0, .none⟩ (Value.string a)).setCell ⟨w.heap.size, 1, .none⟩ (Value.string b)).setCell ⟨w.heap.size, 2, .none⟩ (Value.int .i64 v)).cell? ⟨w.heap.size, 1, .none⟩) = some (.string b) := by
    rw [World.cell?_setCell_other _ _ _ _ (by simp)]; exact World.cell?_setCell_same _ _ _ x1
  have y2 : ((((w'.setCell ⟨w.heap.size, 0, .none⟩ (Value.string a)).setCell ⟨w.heap.size, 1, .none⟩ (Value.string b)).setCell ⟨w.heap.size, 2, .none⟩ (Value.int .i64 v)).cell? ⟨w.heap.size, 2, .none⟩) = some (.int .i64 v) := World.cell?_setCell_same _ _ _ x2
  have hfin : Below w.heap.size w w' := (((Below.refl _ _).alloc (Nat.le_refl _) _).drew).trans (hbw.mono (Nat.le_succ _))
  exact bodyPost_ret (v := .agg #[.string a, .string b, .int .i64 v]) (by simp [results, Yba.results4, go_sem, y0, y1, y2]) rfl ⟨rfl, ((hfin.setCell (Nat.le_refl _) _).setCell (Nat.le_refl _) _).setCell (Nat.le_refl _) _⟩

end Go.Proofs.Ybulkasyy
