import Derived.Test.YbulkasyyTai
namespace Go.Proofs.Ybulkasyy
open Go.RowKit Go.Maps

def zs53 : List Value := [.pointer .none, .pointer .none, .int .i64 0, .pointer .none, .int .i64 0, .int .i64 0, .int .i64 0, .bool false, .bool false, .int .u64 0, .string ByteArray.empty, .string ByteArray.empty, .slice .none 0 0, .pointer .none, .bool false, .bool false, .pointer .none, .slice .none 0 0, .bool false, .int .i64 0] ++
  (List.replicate 66 [Value.bool false, .int .i64 0, .bool false]).flatten ++ [.slice .none 0 0, .bool false, .int .i64 0, .int .i64 0, .int .i64 0, .int .i64 0, .int .i64 0, .bool false, .int .i64 0, .bool false, .int .i64 0, .bool false, .int .i64 0, .bool false, .int .i64 0, .bool false, .int .i64 0, .slice .none 0 0]
def z53 : Array Value := zs53.toArray
theorem inf53 : (Yba.prog.info? 53).map (fun i => (i.zero, i.size)) = some (some (.agg z53), 236) := by kernel_rfl
theorem z53_size : z53.size = 236 := by kernel_rfl
theorem get_of {A : Array Value} {j : Nat} {u : Value} (h : A[j]? = some u) (hj : j < A.size) : A[j] = u := Option.some.inj ((Array.getElem?_eq_getElem hj).symm.trans h)
theorem z53_3 (h : 3 < z53.size) : z53[3] = .pointer .none := get_of (by kernel_rfl) h
theorem z53_4 (h : 4 < z53.size) : z53[4] = .int .i64 0 := get_of (by kernel_rfl) h

set_option maxRecDepth 100000 in
theorem law_big (ao : Option Addr) (n cap : Nat) (sel whole : Int) (uw cp : Bool) (hn : 1024 < n) (w : World) :
    Calls Yba.prog 3 #[.slice ao n cap, .int .u8 sel, .int .i32 whole, .bool uw, .bool cp] w fun e w' => e = .returned (.bool true) ∧ Below w.heap.size w w' := by
  have hn' : (1024 : Int) < (n : Int) := by omega
  go_enter Yba.func3, Yba.ntmps3
  go_wp2
  go_ret
  exact ⟨rfl, Below.refl _ _⟩

set_option maxHeartbeats 400000 in
set_option maxRecDepth 100000 in
theorem law_none (ao : Option Addr) (n cap : Nat) (sel whole : Int) (uw cp : Bool) (hn : n ≤ 1024) (hc : cp = false ∨ (cp = true ∧ n = 0)) (hs0 : 0 ≤ sel) (hs1 : sel ≤ 255) (w : World) :
    Calls Yba.prog 3 #[.slice ao n cap, .int .u8 sel, .int .i32 whole, .bool uw, .bool cp] w fun e w' => e = .returned (.bool true) ∧ Below w.heap.size w w' := by
  have hn' : ¬ (1024 : Int) < (n : Int) := by omega
  have hz := (zero_of_info inf53).1
  have hzs := z53_size
  have q3 := z53_3
  have q4 := z53_4
  have g3 : ∀ v : Value, (w.alloc (Obj.cells (z53.setIfInBounds 4 v) 53)).cell? ⟨w.heap.size, 3, .none⟩ = some (.pointer .none) := by
    intro v; rw [cell_of_row _ _ _ _ _ _ (heap_alloc_new _ _)]; simp [z53_size, z53_3]
  have g4 : ∀ v : Value, (w.alloc (Obj.cells (z53.setIfInBounds 4 v) 53)).cell? ⟨w.heap.size, 4, .none⟩ = some v := by
    intro v; rw [cell_of_row _ _ _ _ _ _ (heap_alloc_new _ _)]; simp [z53_size]
  have hsz : ∀ v : Value, (w.alloc (Obj.cells (z53.setIfInBounds 4 v) 53)).heap.size = w.heap.size + 1 := by intro v; simp
  rcases hc with rfl | ⟨rfl, rfl⟩
  all_goals
    go_enter Yba.func3, Yba.ntmps3
    go_wp2_with fail
    refine (tai_none w.heap.size _ (g3 _) (by simp)).mono ?_
    rintro e w1 ⟨rfl, hb1⟩
    rw [hsz] at hb1
    have k3 := (hb1.cell (p := ⟨w.heap.size, 3, .none⟩) (Nat.lt_succ_self _)).trans (g3 _)
    have k4 := (hb1.cell (p := ⟨w.heap.size, 4, .none⟩) (Nat.lt_succ_self _)).trans (g4 _)
    have hs1 := hb1.size
    simp only [hsz] at hs1
    have hbf : Below w.heap.size w w1 := ((Below.refl _ _).alloc (Nat.le_refl _) _).trans (hb1.mono (Nat.le_succ _))
    have hlt : w.heap.size < w1.heap.size := by omega
    clear g3 g4 hsz hb1
    go_wp2_with fail
    go_ret
    exact ⟨rfl, hbf.alloc (by omega) _⟩

end Go.Proofs.Ybulkasyy
