import Derived.Test.YbulkatceRows
import Derived.WalkKit
import Derived.WalkSpells
import Derived.WalkLawsBesides
import Derived.Deep.MidRow
import Derived.Deep.WholeRow
namespace Go.Proofs.Ybulkatce
open Go.RowKit

def zs36 : List Value := [.string ByteArray.empty, .int .i64 0] ++ List.replicate 16 (.int .u8 0) ++ [.int .u64 0, .int .u64 0] ++ List.replicate 32 (.int .u8 0) ++ [.int .i64 0, .int .u64 0, .int .u64 0] ++ List.replicate 32 (.int .u8 0)
def z36 : Array Value := zs36.toArray
def z45 : Array Value := (zs36 ++ [Value.slice .none 0 0]).toArray

theorem inf36 : (Yba.prog.info? 36).map (fun i => (i.zero, i.size)) = some (some (.agg z36), 87) := by kernel_rfl
theorem inf45 : (Yba.prog.info? 45).map (fun i => (i.zero, i.size, i.bytes)) = some (some (.agg z45), 88, 168) := by kernel_rfl
theorem inf45' : (Yba.prog.info? 45).map (fun i => (i.zero, i.size)) = some (some (.agg z45), 88) := by kernel_rfl
theorem z45_1 : z45[1]? = some (.int .i64 0) := by kernel_rfl
theorem z45_18 : z45[18]? = some (.int .u64 0) := by kernel_rfl
theorem z45_19 : z45[19]? = some (.int .u64 0) := by kernel_rfl
theorem z45_52 : z45[52]? = some (.int .i64 0) := by kernel_rfl
theorem z45_size : z45.size = 88 := by kernel_rfl
theorem z36_size : z36.size = 87 := by kernel_rfl


theorem i36 : (Yba.prog.info? 36).map (·.size) = some 87 := by kernel_rfl

theorem st36 (W : World) (X : Obj) (c' : Array Value) (hs : c'.size = 87) (h1 : c'.all (·.oneCell') = true) :
    (storeCells ⟨W.heap.size + 1, 0, .none⟩ c'.toList).run Yba.prog ((W.alloc X).alloc (.cells z36 36)) = .ok () ((W.alloc X).alloc (.cells c' 36)) := by
  have := run_storeCells_new (P := Yba.prog) (W.alloc X) 36 z36 c' (by rw [hs]; exact i36) (by rw [hs]; exact z36_size) h1
  simpa using this

theorem z36_one : z36.all (·.oneCell') = true := by kernel_rfl

theorem res36 (tmps : Array Value) (W : World) (X : Obj) (c : Array Value) (hs : c.size = 87) (hp : tmps.getD 2 undef = .pointer (some ⟨W.heap.size + 1, 0, .none⟩)) :
    (results Yba.f6 tmps).run Yba.prog ((W.alloc X).alloc (.cells c 36)) = .ok (.agg c) ((W.alloc X).alloc (.cells c 36)) :=
  results_cell_row Yba.results6 tmps _ (W.heap.size + 1) 36 c (0, 0) _ hp (heap_alloc2_new W X _) Yba.underlying36 rfl (by rw [hs]; exact i36)

set_option maxHeartbeats 400000 in
theorem first_none (ao : Option Addr) (cap : Nat) (w : World) :
    Calls Yba.prog 6 #[.agg #[.slice ao 0 cap]] w fun e w' => e = .returned (.agg z36) ∧ Below w.heap.size w w' := by
  have hz := (zero_of_info inf36).1
  have hzs := z36_size
  have hst := st36 w (.cells #[.slice ao 0 cap] 25) z36 z36_size z36_one
  go_enter Yba.func6, Yba.ntmps6
  go_wp2
  exact bodyPost_ret (v := .agg z36) (res36 _ w _ z36 z36_size rfl) rfl ⟨rfl, ((Below.refl _ _).alloc (Nat.le_refl _) _).alloc (by simp) _⟩

set_option maxHeartbeats 400000 in
theorem first_some (g n cap : Nat) (cs : List Value) (hn : 0 < n) (w : World) (hl : cs.length = 87) (h1 : cs.toArray.all (·.oneCell') = true) (hc : w.rangeAt g 0 cs) :
    Calls Yba.prog 6 #[.agg #[.slice (some ⟨g, 0, .none⟩) n cap]] w fun e w' => e = .returned (.agg cs.toArray) ∧ Below w.heap.size w w' := by
  have hz := (zero_of_info inf36).1
  have hzs := z36_size
  have hst := st36 w (.cells #[.slice (some ⟨g, 0, .none⟩) n cap] 25) cs.toArray (by simpa using hl) h1
  have hn0 : ((n : Int) == 0) = false := by rw [beq_eq_false_iff_ne]; omega
  have hn1 : (0 : Int) < (n : Int) := by omega
  go_enter Yba.func6, Yba.ntmps6
  go_wp2_with (refine wpList_load_mid rfl 36 (.tmp 11) rfl g 0 rfl cs _ ((World.rangeAt_alloc (World.rangeAt_alloc hc _) _)) Yba.underlying36 rfl (by rw [hl]; exact i36) ?_)
  exact bodyPost_ret (v := .agg cs.toArray) (res36 _ w _ cs.toArray (by simpa using hl) rfl) rfl ⟨rfl, ((Below.refl _ _).alloc (Nat.le_refl _) _).alloc (by simp) _⟩

end Go.Proofs.Ybulkatce
