import Derived.Test.YbulkatbqFmtReg
import Derived.Laws.MakeOwn
namespace Go.Proofs.YbulkatbqFmt
open Go.RowKit Go.Sort

/-- block B is a row of n cells, f i in cell i -/
def RowOf (W : World) (B t n : Nat) (f : Nat → Value) : Prop := ∃ c, W.heap[B]? = some (.cells c t (0, 0)) ∧ c.size = n ∧ ∀ i, i < n → c[i]? = some (f i)
theorem RowOf.keep {W W2 : World} {B t n : Nat} {f : Nat → Value} (h : RowOf W B t n f) (hb : W2.heap[B]? = W.heap[B]?) : RowOf W2 B t n f := by
  obtain ⟨c, h1, h2⟩ := h
  exact ⟨c, hb.trans h1, h2⟩
theorem RowOf.lt {W : World} {B t n : Nat} {f : Nat → Value} (h : RowOf W B t n f) : B < W.heap.size := by
  obtain ⟨c, h1, h2⟩ := h
  exact lt_of_heap h1
theorem RowOf.cell {W : World} {B t n : Nat} {f : Nat → Value} (h : RowOf W B t n f) (i : Nat) (hi : i < n) : W.cell? ⟨B, i, .none⟩ = some (f i) := by
  obtain ⟨c, h1, h2, h3⟩ := h
  rw [cell_of h1, h3 i hi]
theorem RowOf.free {W : World} {B t n : Nat} {f : Nat → Value} (h : RowOf W B t n f) (i : Nat) : W.frozen? ⟨B, i, .none⟩ = false := by
  obtain ⟨c, h1, h2, h3⟩ := h
  exact free_of h1 i
theorem RowOf.set {W : World} {B t n : Nat} {f g : Nat → Value} (h : RowOf W B t n f) (k : Nat) (v : Value) (hk : g k = v) (hg : ∀ i, i < n → i ≠ k → g i = f i) : RowOf (W.setCell ⟨B, k, .none⟩ v) B t n g := by
  obtain ⟨c, h1, h2, h3⟩ := h
  refine ⟨_, heap_set h1 k v, by simpa using h2, fun i hi => ?_⟩
  by_cases hik : i = k
  · subst hik
    rw [Array.getElem?_setIfInBounds_self_of_lt (by omega), hk]
  · rw [Array.getElem?_setIfInBounds_ne (Ne.symm hik), h3 i hi, hg i hi hik]
theorem RowOf.congr {W : World} {B t n : Nat} {f g : Nat → Value} (h : RowOf W B t n f) (hg : ∀ i, i < n → g i = f i) : RowOf W B t n g := by
  obtain ⟨c, h1, h2, h3⟩ := h
  exact ⟨c, h1, h2, fun i hi => by rw [h3 i hi, hg i hi]⟩
theorem RowOf.made {W : World} {base B t n : Nat} {z : Value} (h : W.ownsRow base t 1 (.slice (some ⟨B, 0, .none⟩) n n) n (madeCells #[z] (n * 1)).toList) : RowOf W B t n fun _ => z := by
  obtain ⟨_, h | ⟨g, cap, cur, hv, hg', hh, h1, h2, h3, h4⟩⟩ := h
  · simp at h
  simp at hv
  obtain ⟨rfl, rfl⟩ := hv
  refine ⟨cur, hh, by omega, fun i hi => ?_⟩
  have e : cur.toList = (madeCells #[z] (n * 1)).toList := by
    rw [← h4, List.take_of_length_le (by simp; omega)]
  rw [← Array.getElem?_toList, e]
  have : i < n := hi
  simp [madeCells, this, Nat.mod_one]

def pv (G : Given) (k i : Nat) : Value := if i < k ∧ G.Z i = false then .pointer (some ⟨G.p i, 0, .none⟩) else .pointer none
def tvk (G : Given) (k i : Nat) : Value := if i < k ∧ G.Z i = false then .iface 28 (.pointer (some ⟨G.p i, 0, .none⟩)) else .nilIface
/-- the law's rows: k of n tools laid -/
structure Bld (w W : World) (tB m n k : Nat) (G : Given) : Prop where
  bel : Below w.heap.size w W
  ptrs : RowOf W w.heap.size 28 n (pv G k)
  lo : w.heap.size < tB
  hi : tB < m
  tls : RowOf W tB 38 n (tvk G k)
  tool : ∀ i, i < k → G.Z i = false → W.heap[G.p i]? = some (.cells (toolCells (G.D i) (G.E i) 0 0) 36 (0, 0))
  inj : ∀ i j, i < k → j < k → G.Z i = false → G.Z j = false → G.p i = G.p j → i = j
  pge : ∀ i, i < k → G.Z i = false → m ≤ G.p i
theorem Bld.later {w W W2 : World} {tB m n k : Nat} {G : Given} (h : Bld w W tB m n k G) (hb : Below W.heap.size W W2) : Bld w W2 tB m n k G :=
  ⟨h.bel.trans (hb.mono h.bel.size), h.ptrs.keep (hb.block _ h.ptrs.lt), h.lo, h.hi, h.tls.keep (hb.block _ h.tls.lt), fun i hi hz => (hb.block _ (lt_of_heap (h.tool i hi hz))).trans (h.tool i hi hz), h.inj, h.pge⟩
theorem Bld.skip {w W : World} {tB m n k : Nat} {G : Given} (h : Bld w W tB m n k G) (hz : G.Z k = true) : Bld w W tB m n (k + 1) G := by
  have hl : ∀ i, i < k + 1 → G.Z i = false → i < k := fun i hi hzi => by
    rcases Nat.lt_or_eq_of_le (Nat.le_of_lt_succ hi) with h' | rfl
    · exact h'
    · rw [hz] at hzi; cases hzi
  have hif : ∀ i, (i < k + 1 ∧ G.Z i = false) ↔ (i < k ∧ G.Z i = false) := fun i => ⟨fun ⟨a, b⟩ => ⟨hl i a b, b⟩, fun ⟨a, b⟩ => ⟨by omega, b⟩⟩
  refine ⟨h.bel, h.ptrs.congr fun i _ => ?_, h.lo, h.hi, h.tls.congr fun i _ => ?_, fun i hi hzi => h.tool i (hl i hi hzi) hzi, fun i j hi hj hzi hzj => h.inj i j (hl i hi hzi) (hl j hj hzj) hzi hzj, fun i hi hzi => h.pge i (hl i hi hzi) hzi⟩
  · unfold pv; simp only [hif i]
  · unfold tvk; simp only [hif i]
/-- tool k is put at block q -/
def Given.put (G : Given) (k q : Nat) : Given := ⟨G.D, G.E, G.Z, fun i => if i = k then q else G.p i⟩
theorem Bld.add {w W : World} {tB m n k q : Nat} {G : Given} (h : Bld w W tB m n k G) (hk : k < n) (hz : G.Z k = false) (hq : m ≤ q) (hne : ∀ i, i < k → G.Z i = false → G.p i ≠ q)
    (ht : W.heap[q]? = some (.cells (toolCells (G.D k) (G.E k) 0 0) 36 (0, 0))) :
    Bld w ((W.setCell ⟨w.heap.size, k, .none⟩ (.pointer (some ⟨q, 0, .none⟩))).setCell ⟨tB, k, .none⟩ (.iface 28 (.pointer (some ⟨q, 0, .none⟩)))) tB m n (k + 1) (G.put k q) := by
  have hp : ∀ i, i < k + 1 → i ≠ k → (G.put k q).p i = G.p i := fun i _ h => by simp [Given.put, h]
  have hpk : (G.put k q).p k = q := by simp [Given.put]
  have hlo := h.lo
  have hhi := h.hi
  have far : ∀ b, m ≤ b → ((W.setCell ⟨w.heap.size, k, .none⟩ (.pointer (some ⟨q, 0, .none⟩))).setCell ⟨tB, k, .none⟩ (.iface 28 (.pointer (some ⟨q, 0, .none⟩)))).heap[b]? = W.heap[b]? := fun b hb => heap_set_other (heap_set_other rfl (by omega) _ _) (by omega) _ _
  refine ⟨(h.bel.setCell (by simp) _).setCell (Nat.le_of_lt hlo) _, ?_, hlo, hhi, ?_, fun i hi hzi => ?_, fun i j hi hj hzi hzj e => ?_, fun i hi hzi => ?_⟩
  · refine RowOf.keep (h.ptrs.set k _ ?_ fun i hi hik => ?_) (heap_set_other rfl (by omega) _ _)
    · simp [pv, Given.put, hz]
    · unfold pv
      by_cases hi' : i < k
      · simp [Given.put, hik, hi', show i < k + 1 by omega]
      · simp [Given.put, hi', show ¬ i < k + 1 by omega]
  · refine RowOf.set (f := tvk G k) (RowOf.keep h.tls (heap_set_other rfl (by omega) _ _)) k _ ?_ fun i hi hik => ?_
    · simp [tvk, Given.put, hz]
    · unfold tvk
      by_cases hi' : i < k
      · simp [Given.put, hik, hi', show i < k + 1 by omega]
      · simp [Given.put, hi', show ¬ i < k + 1 by omega]
  · by_cases hik : i = k
    · subst hik
      rw [hpk, far q (by omega)]; exact ht
    · rw [hp i hi hik, far _ (h.pge i (by omega) hzi)]
      exact h.tool i (by omega) hzi
  · by_cases hik : i = k
    · by_cases hjk : j = k
      · omega
      · subst hik
        rw [hpk, hp j hj hjk] at e
        exact absurd e.symm (hne j (by omega) hzj)
    · by_cases hjk : j = k
      · subst hjk
        rw [hpk, hp i hi hik] at e
        exact absurd e (hne i (by omega) hzi)
      · rw [hp i hi hik, hp j hj hjk] at e
        exact h.inj i j (by omega) (by omega) hzi hzj e
  · by_cases hik : i = k
    · subst hik
      rw [hpk]; exact hq
    · rw [hp i hi hik]; exact h.pge i (by omega) hzi
theorem Bld.tools {w W : World} {tB m n : Nat} {G : Given} (h : Bld w W tB m n n G) : Tools W (tB) n G := by
  refine ⟨fun i hi => ?_, h.tool, h.inj, fun i hi hz => ?_, h.tls.lt⟩
  · rw [h.tls.cell i hi]
    unfold tvk Given.tv
    cases hz : G.Z i <;> simp [hi]
  · have := h.pge i hi hz; have := h.hi; omega
/-- the first bad one among the first k -/
def FB (G : Given) (k : Nat) (f : Int) : Prop := (f = -1 ∧ ∀ i, i < k → G.Good i) ∨ ∃ j : Nat, j < k ∧ f = j ∧ (∀ i, i < j → G.Good i) ∧ ¬ G.Good j
theorem Good_put (G : Given) (k q i : Nat) : (G.put k q).Good i ↔ G.Good i := Iff.rfl
theorem FB.good {G : Given} {k : Nat} {f : Int} (h : FB G k f) (hg : G.Good k) : FB G (k + 1) f := by
  rcases h with ⟨h1, h2⟩ | ⟨j, h1, h2⟩
  · refine Or.inl ⟨h1, fun i hi => ?_⟩
    rcases Nat.lt_or_eq_of_le (Nat.le_of_lt_succ hi) with h' | rfl
    · exact h2 i h'
    · exact hg
  · exact Or.inr ⟨j, by omega, h2⟩
/-- what W' keeps of the law's rows once the tools have been asked -/
theorem St.bel {w W W2 : World} {tB m n k : Nat} {G : Given} (h : Bld w W tB m n n G) (hS : St W W2 G k) (hk : k ≤ n) : Below w.heap.size w W2 :=
  ⟨hS.os.trans h.bel.os, hS.tape.trans h.bel.tape, hS.output.trans h.bel.output, Nat.le_trans h.bel.size hS.size, fun b hb => (hS.keep b (Nat.lt_of_lt_of_le hb h.bel.size) fun i hi hz => by have := h.pge i (by omega) hz; have := h.lo; have := h.hi; omega).trans (h.bel.block b hb)⟩
theorem St.ptr {w W W2 : World} {tB m n k : Nat} {G : Given} (h : Bld w W tB m n n G) (hS : St W W2 G k) (hk : k ≤ n) (i : Nat) (hi : i < n) : W2.cell? ⟨w.heap.size, i, .none⟩ = some (pv G n i) :=
  (h.ptrs.keep (hS.keep _ h.ptrs.lt fun i hi hz => by have := h.pge i (by omega) hz; have := h.lo; have := h.hi; omega)).cell i hi
theorem Bld.start {w w1 w2 : World} {n : Nat} {G : Given} (hb1 : Below w.heap.size w w1) (hr1 : RowOf w1 w.heap.size 28 n fun _ => .pointer none) (hb2 : Below w1.heap.size w1 w2) (hr2 : RowOf w2 w1.heap.size 38 n fun _ => .nilIface) : Bld w w2 w1.heap.size w2.heap.size n 0 G :=
  ⟨hb1.trans (hb2.mono hb1.size), (hr1.keep (hb2.block _ hr1.lt)).congr fun i _ => by simp [pv], hr1.lt, hr2.lt, hr2.congr fun i _ => by simp [tvk], fun i hi => absurd hi (by omega), fun i j hi => absurd hi (by omega), fun i hi => absurd hi (by omega)⟩
end Go.Proofs.YbulkatbqFmt
