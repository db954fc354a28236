import Derived.Test.YbulkatbqFmtTool
import Derived.OwnWalk
import Derived.Deep.MidRow
namespace Go.Proofs.YbulkatbqFmt
open Go.RowKit Go.Extern.Stop Go.Stop Go.Extern

/-- an entry's cells -/
def encE (x : Nat × ByteArray) : List Value := [.iface 28 (.pointer (some ⟨x.1, 0, .none⟩)), .string x.2, .int .i64 0, .string noStr, .string x.2, .string noStr, .pointer none]
/-- what the tools are: names, definitions' names, which are nil, where they lie -/
structure Given where
  D : Nat → ByteArray
  E : Nat → ByteArray
  Z : Nat → Bool
  p : Nat → Nat
def Given.tv (G : Given) (i : Nat) : Value := if G.Z i then .nilIface else .iface 28 (.pointer (some ⟨G.p i, 0, .none⟩))
def Given.Good (G : Given) (i : Nat) : Prop := G.Z i = false ∧ G.E i = G.D i ∧ Valid (G.D i)
/-- the row of tools and the tools, as the caller lays them -/
structure Tools (w : World) (tB n : Nat) (G : Given) : Prop where
  cell : ∀ i, i < n → w.cell? ⟨tB, i, .none⟩ = some (G.tv i)
  tool : ∀ i, i < n → G.Z i = false → w.heap[G.p i]? = some (.cells (toolCells (G.D i) (G.E i) 0 0) 36 (0, 0))
  inj : ∀ i j, i < n → j < n → G.Z i = false → G.Z j = false → G.p i = G.p j → i = j
  tne : ∀ i, i < n → G.Z i = false → tB ≠ G.p i
  tlt : tB < w.heap.size
/-- the first k tools have been asked once -/
structure St (w W : World) (G : Given) (k : Nat) : Prop where
  os : W.os = w.os
  tape : W.tape = w.tape
  output : W.output = w.output
  size : w.heap.size ≤ W.heap.size
  keep : ∀ b, b < w.heap.size → (∀ i, i < k → G.Z i = false → b ≠ G.p i) → W.heap[b]? = w.heap[b]?
  asked : ∀ i, i < k → G.Z i = false → W.heap[G.p i]? = some (.cells (toolCells (G.D i) (G.E i) 1 1) 36 (0, 0))
/-- the first k entries -/
def ents (G : Given) (k : Nat) : List Value := ((List.range k).map fun i => encE (G.p i, G.D i)).flatten
theorem ents_succ (G : Given) (k : Nat) : ents G (k + 1) = ents G k ++ encE (G.p k, G.D k) := by
  simp [ents, List.range_succ]
theorem ents_len (G : Given) : ∀ k, (ents G k).length = k * 7
  | 0 => rfl
  | k + 1 => by rw [ents_succ, List.length_append, ents_len G k]; simp [encE]; omega
/-- the entries' row, k of n -/
def Row (W : World) (eB n k : Nat) (xs : List Value) : Prop := ∃ cur, W.heap[eB]? = some (.cells cur 50 (0, 0)) ∧ cur.size = n * 7 ∧ cur.toList.take (k * 7) = xs
theorem Row.own {W : World} {eB n k : Nat} {xs : List Value} (h : Row W eB n k xs) (hk : k ≤ n) (hn : n ≤ 1024) (hx : xs.length = k * 7) : W.ownsRow eB 50 7 (.slice (some ⟨eB, 0, .none⟩) k n) k xs := by
  obtain ⟨cur, h1, h2, h3⟩ := h
  exact ⟨hx, Or.inr ⟨eB, n, cur, rfl, Nat.le_refl _, h1, hk, by unfold maxLen; omega, h2, h3⟩⟩
theorem Row.of_own {W : World} {eB n k : Nat} {xs : List Value} (h : W.ownsRow eB 50 7 (.slice (some ⟨eB, 0, .none⟩) k n) k xs) : Row W eB n k xs := by
  obtain ⟨hlen, h | ⟨g, cap, cur, hv, hg, hh, h1, h2, h3, h4⟩⟩ := h
  · simp at h
  · simp at hv
    obtain ⟨rfl, rfl⟩ := hv
    exact ⟨cur, hh, h3, h4⟩
theorem Row.keep {W W2 : World} {eB n k : Nat} {xs : List Value} (h : Row W eB n k xs) (hb : W2.heap[eB]? = W.heap[eB]?) : Row W2 eB n k xs := by
  obtain ⟨cur, h1, h2, h3⟩ := h
  exact ⟨cur, hb.trans h1, h2, h3⟩
theorem Row.lt {W : World} {eB n k : Nat} {xs : List Value} (h : Row W eB n k xs) : eB < W.heap.size := by
  obtain ⟨cur, h1, h2, h3⟩ := h
  exact lt_of_heap h1
theorem St.zero (w : World) (G : Given) : St w w G 0 := ⟨rfl, rfl, rfl, Nat.le_refl _, fun _ _ _ => rfl, fun _ h => absurd h (by omega)⟩
/-- a later world that keeps all that w had -/
theorem St.later {w W W2 : World} {G : Given} {k : Nat} (h : St w W G k) (hb : Below W.heap.size W W2) (hp : ∀ i, i < k → G.Z i = false → G.p i < w.heap.size) : St w W2 G k :=
  ⟨hb.os.trans h.os, hb.tape.trans h.tape, hb.output.trans h.output, Nat.le_trans h.size hb.size,
   fun b hbw hne => (hb.block b (Nat.lt_of_lt_of_le hbw h.size)).trans (h.keep b hbw hne),
   fun i hi hz => (hb.block _ (Nat.lt_of_lt_of_le (hp i hi hz) h.size)).trans (h.asked i hi hz)⟩
theorem St.later2 {w W W2 : World} {G : Given} {k : Nat} (h : St w W G k) (hb : Below w.heap.size W W2) (hp : ∀ i, i < k → G.Z i = false → G.p i < w.heap.size) : St w W2 G k :=
  ⟨hb.os.trans h.os, hb.tape.trans h.tape, hb.output.trans h.output, Nat.le_trans h.size hb.size,
   fun b hbw hne => (hb.block b hbw).trans (h.keep b hbw hne), fun i hi hz => (hb.block _ (hp i hi hz)).trans (h.asked i hi hz)⟩
theorem cells_new (W : World) (S : Array Value) : ∀ j u, S.toList[j]? = some u → (W.alloc (.cells S 50)).cell? ((⟨W.heap.size, 0, .none⟩ : Addr).add j) = some u := by
  intro j u hu
  have h := heap_alloc_new (w := W) rfl (.cells S 50)
  rw [Addr.add_mid, Nat.zero_add, cell_of h]
  simpa using hu
theorem encE_one (x : Nat × ByteArray) : ∀ u ∈ encE x, u.oneCell' = true := by
  intro u hu
  simp [encE] at hu
  rcases hu with rfl | rfl | rfl | rfl | rfl | rfl | rfl <;> rfl
theorem Tools.plt {w : World} {tB n : Nat} {G : Given} (hT : Tools w tB n G) (i : Nat) (hi : i < n) (hz : G.Z i = false) : G.p i < w.heap.size := lt_of_heap (hT.tool i hi hz)
/-- tool k has been asked -/
theorem St.step {w W W2 : World} {tB n : Nat} {G : Given} {k : Nat} (hT : Tools w tB n G) (h : St w W G k) (hk : k < n) (hz : G.Z k = false) (hb : But (G.p k) W.heap.size W W2)
    (hp : W2.heap[G.p k]? = some (.cells (toolCells (G.D k) (G.E k) 1 1) 36 (0, 0))) : St w W2 G (k + 1) := by
  refine ⟨hb.os.trans h.os, hb.tape.trans h.tape, hb.output.trans h.output, Nat.le_trans h.size hb.size, fun b hbw hne => ?_, fun i hi hzi => ?_⟩
  · rw [hb.block b (Nat.lt_of_lt_of_le hbw h.size) (hne k (by omega) hz)]
    exact h.keep b hbw fun i hi hzi => hne i (by omega) hzi
  · by_cases hik : i = k
    · subst hik; exact hp
    · rw [hb.block _ (Nat.lt_of_lt_of_le (hT.plt i (by omega) hzi) h.size) (fun e => hik (hT.inj i k (by omega) hk hzi hz e))]
      exact h.asked i (by omega) hzi
theorem St.skip {w W : World} {G : Given} {k : Nat} (h : St w W G k) (hz : G.Z k = true) : St w W G (k + 1) :=
  ⟨h.os, h.tape, h.output, h.size, fun b hbw hne => h.keep b hbw fun i hi hzi => hne i (by omega) hzi, fun i hi hzi => h.asked i (by
    rcases Nat.lt_or_eq_of_le (Nat.le_of_lt_succ hi) with h' | rfl
    · exact h'
    · rw [hz] at hzi; cases hzi) hzi⟩
theorem St.cell {w W : World} {tB n : Nat} {G : Given} {k : Nat} (hT : Tools w tB n G) (h : St w W G k) (hk : k ≤ n) (i : Nat) (hi : i < n) : W.cell? ⟨tB, i, .none⟩ = some (G.tv i) := by
  rw [World.cell?_of_block (w := w) (h.keep tB hT.tlt fun j hj hz => hT.tne j (by omega) hz)]
  exact hT.cell i hi
/-- tool k has not been asked yet -/
theorem St.fresh {w W : World} {tB n : Nat} {G : Given} {k : Nat} (hT : Tools w tB n G) (h : St w W G k) (i : Nat) (hki : k ≤ i) (hi : i < n) (hz : G.Z i = false) : W.heap[G.p i]? = some (.cells (toolCells (G.D i) (G.E i) 0 0) 36 (0, 0)) := by
  rw [h.keep _ (hT.plt i hi hz) fun j hj hzj e => by have := hT.inj i j hi (by omega) hz hzj e; omega]
  exact hT.tool i hi hz

theorem But.join {b : Nat} {w1 w2 w3 : World} (h : But b w1.heap.size w1 w2) (k : But b w2.heap.size w2 w3) : But b w1.heap.size w1 w3 :=
  h.trans ⟨k.os, k.tape, k.output, k.size, fun i hi hb => k.block i (Nat.lt_of_lt_of_le hi h.size) hb⟩
theorem Err.later {w w2 : World} {v : Value} (h : Err w v) (hb : Below w.heap.size w w2) : Err w2 v := by
  obtain ⟨a, rfl, s, hc⟩ := h
  have hl : a.block < w.heap.size := by
    rcases Nat.lt_or_ge a.block w.heap.size with h1 | h1
    · exact h1
    · rw [World.cell?, Array.getElem?_eq_none h1] at hc; cases hc
  exact ⟨a, rfl, s, (hb.cell hl).trans hc⟩
theorem str_ne {a b : ByteArray} (h : ¬ a = b) : (a.toList == b.toList) = false := by
  rw [ByteArray.toList_eq, ByteArray.toList_eq]
  refine beq_eq_false_iff_ne.2 fun e => h ?_
  obtain ⟨⟨x⟩⟩ := a
  obtain ⟨⟨y⟩⟩ := b
  have e' : x = y := e
  rw [e']
/-- the new entry's cells -/
def entArr (p : Nat) (nm df : ByteArray) : Array Value := #[.iface 28 (.pointer (some ⟨p, 0, .none⟩)), .string nm, .int .i64 0, .string noStr, .string df, .string noStr, .pointer none]
/-- tool k has been asked and its entry lies at block xB -/
structure Mid (w W : World) (G : Given) (n k xB : Nat) : Prop where
  ent : W.heap[xB]? = some (.cells (entArr (G.p k) (G.D k) (G.E k)) 50 (0, 0))
  row : Row W w.heap.size n k (ents G k)
  st : St w W G (k + 1)
theorem Mid.later {w W W2 : World} {G : Given} {tB n k xB : Nat} (hT : Tools w tB n G) (hk : k < n) (h : Mid w W G n k xB) (hb : Below W.heap.size W W2) : Mid w W2 G n k xB :=
  ⟨(hb.block _ (lt_of_heap h.ent)).trans h.ent, h.row.keep (hb.block _ h.row.lt), h.st.later hb fun i hi hz => hT.plt i (by omega) hz⟩
theorem Mid.make {w W W2 : World} {G : Given} {tB n k : Nat} (hT : Tools w tB n G) (hk : k < n) (hz : G.Z k = false) (hR : Row W w.heap.size n k (ents G k)) (hW : St w W G k) (hb : But (G.p k) W.heap.size W W2)
    (hp : W2.heap[G.p k]? = some (.cells (toolCells (G.D k) (G.E k) 1 1) 36 (0, 0))) : Mid w (W2.alloc (.cells (entArr (G.p k) (G.D k) (G.E k)) 50)) G n k W2.heap.size := by
  have hA := (Below.refl W2.heap.size W2).alloc (Nat.le_refl _) (.cells (entArr (G.p k) (G.D k) (G.E k)) 50)
  have hpl := hT.plt k hk hz
  have hS := hW.step hT hk hz hb hp
  have hR2 : Row W2 w.heap.size n k (ents G k) := hR.keep (hb.block _ hR.lt (by omega))
  exact ⟨heap_alloc_new rfl _, hR2.keep (hA.block _ hR2.lt), hS.later hA fun i hi hz => hT.plt i (by omega) hz⟩

theorem size50 : (Ybaf.prog.info? 50).map (fun i => (i.size, i.bytes)) = some (7, 96) := by kernel_rfl
theorem info50 : ∃ i, Ybaf.prog.info? 50 = some i ∧ i.zero = some (.agg #[.nilIface, .string noStr, .int .i64 0, .string noStr, .string noStr, .string noStr, .pointer none]) ∧ i.size = 7 ∧ i.bytes = 96 := ⟨Ybaf.t50, by kernel_rfl, by kernel_rfl, by kernel_rfl, by kernel_rfl⟩

theorem meth_info (v : Value) (w : World) : (method 259 28 v "Info").run Ybaf.prog w = .ok (69, v) w := by kernel_rfl
theorem meth_def (v : Value) (w : World) : (method 259 28 v "Definition").run Ybaf.prog w = .ok (68, v) w := by kernel_rfl

end Go.Proofs.YbulkatbqFmt
