import Derived.Test.YbulkasyyRows
import Derived.WalkKit
import Derived.WalkSpells
import Derived.WalkLawsBesides
import Derived.Deep.MidRow
import Derived.Deep.WholeRow
import Derived.Deep.QuietTactic
import Derived.BigQuiet
import Derived.Deep.RegionHeld3
import Derived.Maps.OwnSet
import Derived.DeepKeys4
namespace Go.Proofs.Ybulkasyy
open Go.RowKit Go.Maps

theorem own : ownKnob Yba.prog.godebug = .none := by kernel_rfl
theorem laidOut : laidOutB Yba.prog = true := by kernel_rfl
theorem law34 : Keyed Yba.prog 34 := Keyed.of_law (deep_law_laid laidOut (m := 2) (by omega) (of_decide_eq_true (by kernel_rfl)) (by kernel_rfl) (by kernel_rfl))
theorem zero54 (w : World) : (zeroValue 54).run Yba.prog w = .ok (.int .i64 0) w := by kernel_rfl

/-- the key of a PLMN -/
def KL (a b : ByteArray) : Lit := .string (keyBytes [.string a.data.toList, .string b.data.toList])
theorem key34 (a b : ByteArray) (ha : a.size ≤ maxLen) (hb : b.size ≤ maxLen) : keyOf Yba.prog 34 (.agg #[.string a, .string b]) = some (KL a b) := by
  have hk : Yba.prog.keyType 34 = true := by kernel_rfl
  have hs : ∃ n, Yba.prog.types.size + 1 = n + 2 := ⟨182, by kernel_rfl⟩
  obtain ⟨n, hn⟩ := hs
  have hc : Yba.prog.cellsOf 34 = 2 := by kernel_rfl
  have hc9 : Yba.prog.cellsOf 9 = 1 := by kernel_rfl
  have hf : Value.formed Yba.prog 34 (.agg #[.string a, .string b]) = true := by
    simp [Value.formed, Yba.underlying34, hc]
  unfold keyOf
  simp only [Yba.underlying34, hk, hf, hn]
  simp [Program.keyLits, Yba.underlying34, Yba.underlying9, Value.cells, hc, hc9, ha, hb, KL]

set_option maxHeartbeats 400000 in
theorem area_whole (cB tb : Nat) (v : Int) (sel : Int) (w : World) (h2 : w.cell? ⟨cB, 2, .none⟩ = some (.pointer (some ⟨tb, 0, .none⟩))) (hv : w.cell? ⟨tb, 0, .none⟩ = some (.int .i64 v)) :
    Calls Yba.prog 6 #[.pointer (some ⟨cB, 0, .none⟩), .int .i64 sel] w fun e w' => e = .returned (.int .i64 v) ∧ w' = w := by
  go_enter Yba.func6, Yba.ntmps6
  go_wp2
  go_ret
  exact ⟨rfl, rfl⟩

set_option maxHeartbeats 400000 in
theorem area_map (cB pB mB n s : Nat) (a b : ByteArray) (c : Int) (ok : Bool) (w : World) (hs : s < n) (h1 : w.cell? ⟨cB, 1, .none⟩ = some (.slice (some ⟨pB, 0, .none⟩) n n)) (h2 : w.cell? ⟨cB, 2, .none⟩ = some (.pointer .none))
    (h3 : w.cell? ⟨cB, 3, .none⟩ = some (.map (some mB))) (ha : w.cell? ⟨pB, s * 2, .none⟩ = some (.string a)) (hb : w.cell? ⟨pB, s * 2 + 1, .none⟩ = some (.string b))
    (hl : ∀ k, (Instr.lookup 59 (.map (some mB)) (.agg #[.string a, .string b]) true).run Yba.prog (w.drewN k) = .ok (.tuple #[.int .i64 c, .bool ok]) (w.drewN k)) :
    Calls Yba.prog 6 #[.pointer (some ⟨cB, 0, .none⟩), .int .i64 s] w fun e w' => e = .returned (.int .i64 (if ok then c else -1)) ∧ ∃ k, w' = w.drewN k := by
  have hs' : (s : Int) < (n : Int) := by omega
  cases ok
  · go_enter Yba.func6, Yba.ntmps6
    go_wp2
    go_quiet (fail)
    go_wp2
    go_ret
    exact ⟨rfl, _, rfl⟩
  · go_enter Yba.func6, Yba.ntmps6
    go_wp2
    go_quiet (fail)
    go_wp2
    go_ret
    exact ⟨rfl, _, rfl⟩

end Go.Proofs.Ybulkasyy
