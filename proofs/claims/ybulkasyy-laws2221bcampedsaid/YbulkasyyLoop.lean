import Derived.Test.YbulkasyyMap
import Derived.Test.YbulkasyyNone
import Derived.Deep.CutBlock
import Derived.LaidEqlPtr
namespace Go.Proofs.Ybulkasyy
open Go.RowKit Go.Maps

theorem wp_gen {P : Program} {c : Code} {Q : Exit → Act → World → Prop} {a : Act} {X : World} (R : World → Prop) (hX : R X) (h : ∀ W, R W → Code.wp P c Q a W) : Code.wp P c Q a X := h X hX

def ECells (w : World) (b off n : Nat) (E : Nat → Ent) : Prop :=
  (∀ i, i < n → w.cell? ⟨b, off + i * 4, .none⟩ = some (.string (E i).m)) ∧ (∀ i, i < n → w.cell? ⟨b, off + i * 4 + 1, .none⟩ = some (.string (E i).n)) ∧
  (∀ i, i < n → w.cell? ⟨b, off + i * 4 + 2, .none⟩ = some (.int .i32 (E i).c)) ∧ (∀ i, i < n → w.cell? ⟨b, off + i * 4 + 3, .none⟩ = some (.bool (E i).h))

/-- what the call has made when k entries have been written to the slice and m to the map -/
structure Inv (w wr : World) (mB n k m : Nat) (E : Nat → Ent) : Prop where
  rep : wr.heap[w.heap.size]? = some (.cells z53 53 (0, 0))
  row : ∃ cur, wr.heap[w.heap.size + 1]? = some (.cells cur 34 (0, 0)) ∧ cur.size = n * 2 ∧ ∀ j, j < k → cur[j * 2]? = some (.string (E j).m) ∧ cur[j * 2 + 1]? = some (.string (E j).n)
  map : wr.ownsMap Yba.prog 34 (plainElem (H := Unit) Yba.prog 54) mB m (Dm E m)
  bel : Below w.heap.size w wr
  mlt : w.heap.size + 1 < mB

theorem Inv.start {w w1 : World} {n : Nat} {E : Nat → Ent} {z : Value} (hg : (w.alloc (.cells z53 53)).grownBy w1 .none) (hown : w1.ownsRow (w.heap.size + 1) 34 2 (.slice (some ⟨w.heap.size + 1, 0, .none⟩) n n) n (madeCells z.cells (n * 2)).toList) :
    Inv w (w1.alloc (.map #[] 0)) w1.heap.size n 0 0 E := by
  obtain ⟨_, h | ⟨g, cap, cur, hv, hg', hh, h1, h2, h3, h4⟩⟩ := hown
  · simp at h
  simp at hv
  obtain ⟨rfl, rfl⟩ := hv
  have hlt : w.heap.size + 1 < w1.heap.size := lt_of_block hh
  have hr : w1.heap[w.heap.size]? = some (.cells z53 53 (0, 0)) := by
    rw [hg.block _ (by simp) (by simp)]; exact heap_alloc_new _ _
  refine ⟨?_, ⟨cur, ?_, h3, fun j hj => absurd hj (Nat.not_lt_zero _)⟩, World.ownsMap_made _ _ _ _, ?_, hlt⟩
  · rw [Below.heap_alloc _ _ _ (by omega)]; exact hr
  · rw [Below.heap_alloc _ _ _ (by omega)]; exact hh
  · exact (((Below.refl _ _).alloc (Nat.le_refl _) _).grown hg (by simp) (by intro k hk; cases hk)).alloc (by omega) _

theorem Inv.alloc {w wr : World} {mB n k m : Nat} {E : Nat → Ent} (h : Inv w wr mB n k m E) (o : Obj) : Inv w (wr.alloc o) mB n k m E := by
  obtain ⟨cur, h1, h2, h3⟩ := h.row
  refine ⟨?_, ⟨cur, ?_, h2, h3⟩, h.map.alloc _, h.bel.alloc h.bel.size _, h.mlt⟩
  · rw [Below.heap_alloc _ _ _ (lt_of_block h.rep)]; exact h.rep
  · rw [Below.heap_alloc _ _ _ (lt_of_block h1)]; exact h1
theorem Inv.drew {w wr : World} {mB n k m : Nat} {E : Nat → Ent} (h : Inv w wr mB n k m E) : Inv w wr.drew mB n k m E := ⟨h.rep, h.row, h.map.drew, h.bel.drew, h.mlt⟩
theorem Inv.cellAt {w wr : World} {mB n k m : Nat} {E : Nat → Ent} (h : Inv w wr mB n k m E) {j : Nat} (hj : j < n * 2) : ∃ u, wr.cell? ⟨w.heap.size + 1, j, .none⟩ = some u := by
  obtain ⟨cur, h1, h2, h3⟩ := h.row
  exact ⟨cur[j], by rw [cell_of_row _ _ _ _ _ _ h1]; simp⟩
theorem Inv.free {w wr : World} {mB n k m : Nat} {E : Nat → Ent} (h : Inv w wr mB n k m E) (j : Nat) : wr.frozen? ⟨w.heap.size + 1, j, .none⟩ = false := by
  obtain ⟨cur, h1, h2, h3⟩ := h.row
  exact frozen_of_row _ _ _ _ _ h1
theorem Inv.store {w wr : World} {mB n k m : Nat} {E : Nat → Ent} (h : Inv w wr mB n k m E) (hk : k < n) :
    Inv w ((wr.setCell ⟨w.heap.size + 1, k * 2, .none⟩ (.string (E k).m)).setCell ⟨w.heap.size + 1, k * 2 + 1, .none⟩ (.string (E k).n)) mB n (k + 1) m E := by
  obtain ⟨cur, h1, h2, h3⟩ := h.row
  have hmlt := h.mlt
  have e1 := heap_setCell_same wr (w.heap.size + 1) (k * 2) cur 34 (.string (E k).m) h1
  have e2 := heap_setCell_same _ (w.heap.size + 1) (k * 2 + 1) _ 34 (.string (E k).n) e1
  refine ⟨?_, ⟨_, e2, by simpa using h2, fun j hj => ?_⟩, (h.map.setCell (by simp; omega) _).setCell (by simp; omega) _, (h.bel.setCell (by simp) _).setCell (by simp) _, h.mlt⟩
  · rw [heap_setCell_other _ _ _ _ (by simp), heap_setCell_other _ _ _ _ (by simp)]; exact h.rep
  · by_cases hjk : j = k
    · subst hjk
      refine ⟨?_, ?_⟩
      · rw [Array.getElem?_setIfInBounds_ne (by omega), Array.getElem?_setIfInBounds_self_of_lt (by omega)]
      · rw [Array.getElem?_setIfInBounds_self_of_lt (by simp; omega)]
    · have := h3 j (by omega)
      refine ⟨?_, ?_⟩
      · rw [Array.getElem?_setIfInBounds_ne (by omega), Array.getElem?_setIfInBounds_ne (by omega)]; exact this.1
      · rw [Array.getElem?_setIfInBounds_ne (by omega), Array.getElem?_setIfInBounds_ne (by omega)]; exact this.2
theorem Inv.skip {w wr : World} {mB n k m : Nat} {E : Nat → Ent} (h : Inv w wr mB n k m E) (hh : (E m).h = false) : Inv w wr mB n k (m + 1) E := by
  refine ⟨h.rep, h.row, ?_, h.bel, h.mlt⟩
  have : Dm E (m + 1) = Dm E m := by simp [Dm, hh]
  rw [this]
  exact h.map.mono (Nat.le_succ _)
theorem Inv.upd {w wr : World} {mB n k m : Nat} {E : Nat → Ent} (h : Inv w wr mB n k m E) (hE : EntOk (E m)) (hh : (E m).h = true) (hm : m < 1024) :
    ∃ w', (Instr.mapUpdate 59 (.map (some mB)) (.agg #[.string (E m).m, .string (E m).n]) (.int .i64 (E m).c)).run Yba.prog wr = .ok () w' ∧ Inv w w' mB n k (m + 1) E ∧ ∀ (x : Addr) (u : Value), x.block ≠ mB → wr.cell? x = some u → w'.cell? x = some u := by
  obtain ⟨w', hrun, hown, hg⟩ := h.map.update law34 Yba.underlying59 (by unfold maxLen; omega) (key34 _ _ hE.1 hE.2.1) (plainElem_int (H := Unit) (q := .i64) (a := (E m).c) Yba.underlying54 (WalkArith.wf_i64 (by have := hE.2.2; omega)))
  obtain ⟨cur, h1, h2, h3⟩ := h.row
  have hmlt := h.mlt
  refine ⟨w', hrun, ⟨?_, ⟨cur, ?_, h2, h3⟩, ?_, h.bel.grown hg h.bel.size (by intro j hj; cases hj; omega), h.mlt⟩, fun x u hx hu => by rw [World.cell?_of_block (hg.block x.block (World.block_lt_of_cell? wr _ hu) (by simp; omega))]; exact hu⟩
  · rw [hg.block _ (lt_of_block h.rep) (by simp; omega)]; exact h.rep
  · rw [hg.block _ (lt_of_block h1) (by simp; omega)]; exact h1
  · have : Dm E (m + 1) = (Dm E m).put (KL (E m).m (E m).n) (.lit (.int .i64 (E m).c)) := by simp [Dm, hh]
    rw [this]
    exact hown

structure Ready (w W : World) (cB n s : Nat) (a b : ByteArray) (v : Int) : Prop where
  r3 : W.cell? ⟨w.heap.size, 3, .none⟩ = some (.pointer (some ⟨cB, 0, .none⟩))
  r4 : W.cell? ⟨w.heap.size, 4, .none⟩ = some (.int .i64 s)
  c1 : W.cell? ⟨cB, 1, .none⟩ = some (.slice (some ⟨w.heap.size + 1, 0, .none⟩) n n)
  pa : W.cell? ⟨w.heap.size + 1, s * 2, .none⟩ = some (.string a)
  pb : W.cell? ⟨w.heap.size + 1, s * 2 + 1, .none⟩ = some (.string b)
  area : AreaOk W cB s v
  bel : Below w.heap.size w W

/-- the replay's two stores -/
def X0 (w wr : World) (s : Nat) : World := (wr.setCell ⟨w.heap.size, 3, .none⟩ (.pointer (some ⟨wr.heap.size, 0, .none⟩))).setCell ⟨w.heap.size, 4, .none⟩ (.int .i64 s)

theorem x0_size (w wr : World) (s : Nat) : (X0 w wr s).heap.size = wr.heap.size := by simp [X0, World.setCell]
theorem x0_cells {w wr : World} {mB n : Nat} {E : Nat → Ent} (h : Inv w wr mB n n n E) (s : Nat) (hs : s < n) :
    (X0 w wr s).cell? ⟨w.heap.size, 3, .none⟩ = some (.pointer (some ⟨wr.heap.size, 0, .none⟩)) ∧ (X0 w wr s).cell? ⟨w.heap.size, 4, .none⟩ = some (.int .i64 s) ∧
    (X0 w wr s).cell? ⟨w.heap.size + 1, s * 2, .none⟩ = some (.string (E s).m) ∧ (X0 w wr s).cell? ⟨w.heap.size + 1, s * 2 + 1, .none⟩ = some (.string (E s).n) ∧
    (X0 w wr s).ownsMap Yba.prog 34 (plainElem (H := Unit) Yba.prog 54) mB n (Dm E n) ∧ Below w.heap.size w (X0 w wr s) := by
  have r3 : wr.cell? ⟨w.heap.size, 3, .none⟩ = some (.pointer .none) := by rw [cell_of_row _ _ _ _ _ _ h.rep]; simp [z53_size, z53_3]
  have r4 : wr.cell? ⟨w.heap.size, 4, .none⟩ = some (.int .i64 0) := by rw [cell_of_row _ _ _ _ _ _ h.rep]; simp [z53_size, z53_4]
  obtain ⟨cur, h1, h2, h3⟩ := h.row
  have hm := h.mlt
  unfold X0
  refine ⟨?_, ?_, ?_, ?_, (h.map.setCell (by simp; omega) _).setCell (by simp; omega) _, (h.bel.setCell (Nat.le_refl _) _).setCell (Nat.le_refl _) _⟩
  · rw [World.cell?_setCell_other _ _ _ _ (by simp)]; exact World.cell?_setCell_same _ _ _ r3
  · exact World.cell?_setCell_same _ _ _ (by rw [World.cell?_setCell_other _ _ _ _ (by simp)]; exact r4)
  · rw [World.cell?_setCell_other _ _ _ _ (by simp), World.cell?_setCell_other _ _ _ _ (by simp), cell_of_row _ _ _ _ _ _ h1]; exact (h3 s hs).1
  · rw [World.cell?_setCell_other _ _ _ _ (by simp), World.cell?_setCell_other _ _ _ _ (by simp), cell_of_row _ _ _ _ _ _ h1]; exact (h3 s hs).2

def cellRow (B mB n : Nat) (p : Value) : Array Value := #[.int .i64 0, .slice (some ⟨B + 1, 0, .none⟩) n n, p, .map (some mB), .pointer .none, .pointer .none, .bool false, .bool false, .bool false, .bool false, .pointer .none, .slice .none 0 0]

theorem ready_map {w wr : World} {mB n : Nat} {E : Nat → Ent} (hE : ∀ i, EntOk (E i)) (h : Inv w wr mB n n n E) (s : Nat) (hs : s < n) :
    Ready w ((X0 w wr s).alloc (.cells (cellRow w.heap.size mB n (.pointer .none)) 76)) wr.heap.size n s (E s).m (E s).n ((want E (E s).m (E s).n n).getD (-1)) := by
  obtain ⟨g3, g4, ga, gb, gm, gbel⟩ := x0_cells h s hs
  have hN : ∀ (x : Addr) (u : Value), (X0 w wr s).cell? x = some u → ((X0 w wr s).alloc (.cells (cellRow w.heap.size mB n (.pointer .none)) 76)).cell? x = some u := fun x u hx => by
    rw [World.cell?_alloc_lt _ _ _ (World.block_lt_of_cell? _ _ hx)]; exact hx
  have hC : ∀ j, ((X0 w wr s).alloc (.cells (cellRow w.heap.size mB n (.pointer .none)) 76)).cell? ⟨wr.heap.size, j, .none⟩ = (cellRow w.heap.size mB n (.pointer .none))[j]? := fun j => by
    have hb := heap_alloc_new (X0 w wr s) (.cells (cellRow w.heap.size mB n (.pointer .none)) 76)
    rw [x0_size] at hb
    rw [cell_of_row _ _ _ _ _ _ hb]
  refine ⟨hN _ _ g3, hN _ _ g4, hC 1, hN _ _ ga, hN _ _ gb, ?_, gbel.alloc (by rw [x0_size]; exact h.bel.size) _⟩
  exact area_ok_map E hE wr.heap.size (w.heap.size + 1) mB n s (E s).m (E s).n (hE s).1 (hE s).2.1 _ hs (hC 1) (hC 2) (hC 3) (hN _ _ ga) (hN _ _ gb) (gm.alloc _)

theorem ready_whole {w wr : World} {mB n : Nat} {E : Nat → Ent} (h : Inv w wr mB n n n E) (s : Nat) (hs : s < n) (whole : Int) :
    Ready w (((X0 w wr s).alloc (.cells (cellRow w.heap.size mB n (.pointer (some ⟨wr.heap.size + 1, 0, .none⟩))) 76)).alloc (.cells #[.int .i64 whole] 54)) wr.heap.size n s (E s).m (E s).n whole := by
  obtain ⟨g3, g4, ga, gb, gm, gbel⟩ := x0_cells h s hs
  generalize hR : cellRow w.heap.size mB n (.pointer (some ⟨wr.heap.size + 1, 0, .none⟩)) = R
  have hN : ∀ (x : Addr) (u : Value), (X0 w wr s).cell? x = some u → (((X0 w wr s).alloc (.cells R 76)).alloc (.cells #[.int .i64 whole] 54)).cell? x = some u := fun x u hx => by
    have hb := World.block_lt_of_cell? _ _ hx
    rw [World.cell?_alloc_lt _ _ _ (by simp; omega), World.cell?_alloc_lt _ _ _ hb]; exact hx
  have hC : ∀ j, (((X0 w wr s).alloc (.cells R 76)).alloc (.cells #[.int .i64 whole] 54)).cell? ⟨wr.heap.size, j, .none⟩ = R[j]? := fun j => by
    have hb := heap_alloc2_old (X0 w wr s) (.cells R 76) (.cells #[.int .i64 whole] 54)
    rw [x0_size] at hb
    rw [cell_of_row _ _ _ _ _ _ hb]
  have hT : (((X0 w wr s).alloc (.cells R 76)).alloc (.cells #[.int .i64 whole] 54)).cell? ⟨wr.heap.size + 1, 0, .none⟩ = some (.int .i64 whole) := by
    have hb := heap_alloc2_new (X0 w wr s) (.cells R 76) (.cells #[.int .i64 whole] 54)
    rw [x0_size] at hb
    rw [cell_of_row _ _ _ _ _ _ hb]; rfl
  subst hR
  have hsz := h.bel.size
  exact ⟨hN _ _ g3, hN _ _ g4, hC 1, hN _ _ ga, hN _ _ gb, area_ok_whole _ _ s whole _ (hC 2) hT, (gbel.alloc (by rw [x0_size]; exact hsz) _).alloc (by simp [x0_size]; omega) _⟩

/-- what is asked of the world at the end -/
structure Fin (w W : World) (cB s gB qB : Nat) (a b : ByteArray) (v : Int) : Prop where
  r3 : W.cell? ⟨w.heap.size, 3, .none⟩ = some (.pointer (some ⟨cB, 0, .none⟩))
  r4 : W.cell? ⟨w.heap.size, 4, .none⟩ = some (.int .i64 s)
  g0 : W.cell? ⟨gB, 0, .none⟩ = some (.string a)
  g1 : W.cell? ⟨gB, 1, .none⟩ = some (.string b)
  g2 : W.cell? ⟨gB, 2, .none⟩ = some (.int .i64 v)
  q0 : W.cell? ⟨qB, 0, .none⟩ = some (.string a)
  q1 : W.cell? ⟨qB, 1, .none⟩ = some (.string b)
  bel : Below w.heap.size w W

theorem fin_of {w W w2 : World} {cB n s : Nat} {a b : ByteArray} {v : Int} (hR : Ready w W cB n s a b v) (hb : Below W.heap.size W w2) :
    Fin w (((w2.alloc (.cells #[.string a, .string b, .int .i64 v] 56)).alloc (.cells #[.string a, .string b] 34)).drew) cB s w2.heap.size (w2.heap.size + 1) a b v := by
  have hN : ∀ (x : Addr) (u : Value), W.cell? x = some u → (((w2.alloc (.cells #[.string a, .string b, .int .i64 v] 56)).alloc (.cells #[.string a, .string b] 34)).drew).cell? x = some u := fun x u hx => by
    have h1 := World.block_lt_of_cell? _ _ hx
    have h2 := (hb.cell h1).trans hx
    have h3 := World.block_lt_of_cell? _ _ h2
    rw [World.cell?_drew, World.cell?_alloc_lt _ _ _ (by simp; omega), World.cell?_alloc_lt _ _ _ h3]; exact h2
  have e1 := heap_alloc2_old w2 (.cells #[.string a, .string b, .int .i64 v] 56) (.cells #[.string a, .string b] 34)
  have e2 := heap_alloc2_new w2 (.cells #[.string a, .string b, .int .i64 v] 56) (.cells #[.string a, .string b] 34)
  have hs := hR.bel.size
  have hs2 := hb.size
  refine ⟨hN _ _ hR.r3, hN _ _ hR.r4, ?_, ?_, ?_, ?_, ?_, (((hR.bel.trans (hb.mono hs)).alloc (by omega) _).alloc (by simp; omega) _).drew⟩
  · rw [World.cell?_drew, cell_of_row _ _ _ _ _ _ e1]; rfl
  · rw [World.cell?_drew, cell_of_row _ _ _ _ _ _ e1]; rfl
  · rw [World.cell?_drew, cell_of_row _ _ _ _ _ _ e1]; rfl
  · rw [World.cell?_drew, cell_of_row _ _ _ _ _ _ e2]; rfl
  · rw [World.cell?_drew, cell_of_row _ _ _ _ _ _ e2]; rfl

theorem eql27 (W : World) (a : Addr) : (binOp .eql 27 (.pointer (some a)) (.pointer (some a))).run Yba.prog W = .ok (.bool true) W := by
  obtain ⟨j, hj⟩ : ∃ j, Yba.prog.info? 76 = some j := by
    have : (Yba.prog.info? 76).isSome = true := by kernel_rfl
    exact Option.isSome_iff_exists.1 this
  exact run_eql_ptr_same W a Yba.underlying27 hj

theorem str_ne {a b : ByteArray} (h : a ≠ b) : (a.toList == b.toList) = false :=
  beq_eq_false_iff_ne.2 (fun e => h (ByteArray.ext (Array.toList_inj.1 (by simpa [ByteArray.toList_eq] using e))))

theorem i34 : (Yba.prog.info? 34).map (fun i => (i.zero, i.size, i.bytes)) = some (some (.agg #[.string ByteArray.empty, .string ByteArray.empty]), 2, 32) := by kernel_rfl

set_option maxHeartbeats 2000000 in
set_option maxRecDepth 100000 in
theorem law_camped (b off n cap : Nat) (E : Nat → Ent) (sel whole : Int) (uw : Bool) (hn : n ≤ 1024) (hn0 : 0 < n) (hs0 : 0 ≤ sel) (hs1 : sel ≤ 255) (hw0 : -2147483648 ≤ whole) (hw1 : whole ≤ 2147483647) (hE : ∀ i, EntOk (E i)) (w : World) (hb : b < w.heap.size) (hc : ECells w b off n E) :
    Calls Yba.prog 3 #[.slice (some ⟨b, off, .none⟩) n cap, .int .u8 sel, .int .i32 whole, .bool uw, .bool true] w fun e w' => e = .returned (.bool true) ∧ Below w.heap.size w w' := by
  have hn' : ¬ (1024 : Int) < (n : Int) := by omega
  have hne : ((n : Int) == 0) = false := by rw [beq_eq_false_iff_ne]; omega
  have hz := (zero_of_info inf53).1
  have hzs := z53_size
  obtain ⟨i0, hi, hq0, hq1, hq2⟩ := info_parts i34
  have hmm := @run_makeMap Yba.prog
  go_enter Yba.func3, Yba.ntmps3
  go_wp2_with (at_make; refine wpList_make_full _ rfl _ _ 58 rfl (w.heap.size + 1) 34 i0 _ 2 Yba.underlying58 hi hq0 hq1 .i64 .i64 _ _ n rfl rfl rfl rfl (by rw [hq2]; omega) (by unfold maxLen; omega) (by simp) ?_; intro w1 hown1 hg1)
  have hsz : (w.alloc (Obj.cells z53 53)).heap.size = w.heap.size + 1 := by simp
  rw [hsz] at hown1
  have hst := Inv.start (E := E) hg1 hown1
  clear hown1 hg1
  generalize hmB : w1.heap.size = mB at *
  have HMB : Hid (w1.heap.size = mB) := hmB
  clear hmB
  go_loopw [15] (fun i wr => ∃ k : Nat, k ≤ n ∧ i = .int .i64 k ∧ Inv w wr mB n k k E) (fun i _ => n - (intOf i).toNat)
  case atStart => exact ⟨0, Nat.zero_le _, rfl, hst⟩
  case round =>
    clear hst HMB
    obtain ⟨k, hk, rfl, hinv⟩ := hrel
    have hbs := hinv.bel.size
    by_cases hlt : k < n
    · have c0 := (hinv.bel.cell (p := ⟨b, off + k * 4, .none⟩) hb).trans (hc.1 k hlt)
      have c1 := (hinv.bel.cell (p := ⟨b, off + k * 4 + 1, .none⟩) hb).trans (hc.2.1 k hlt)
      have c2 := (hinv.bel.cell (p := ⟨b, off + k * 4 + 2, .none⟩) hb).trans (hc.2.2.1 k hlt)
      have c3 := (hinv.bel.cell (p := ⟨b, off + k * 4 + 3, .none⟩) hb).trans (hc.2.2.2 k hlt)
      have hlt' : (k : Int) < (n : Int) := by omega
      have nb : wr.heap.size ≠ b := by omega
      go_wp2
      go_region_held3 (fun w' => w'.cell? ⟨b, off + k * 4, .none⟩ = some (.string (E k).m) ∧ w'.cell? ⟨b, off + k * 4 + 1, .none⟩ = some (.string (E k).n)) (go_keep) (fail)
      go_upto_region 14 with fail
      refine wp_gen (fun W => Inv w W mB n k k E ∧ W.heap[wr.heap.size]? = some (.cells #[.string (E k).m, .string (E k).n] 34 (0, 0))) ⟨(hinv.alloc _).drew, heap_alloc_new _ _⟩ ?_
      rintro W ⟨hI, hp⟩
      obtain ⟨u0, k0⟩ := hI.cellAt (j := k * 2) (by omega)
      obtain ⟨u1, k1⟩ := hI.cellAt (j := k * 2 + 1) (by omega)
      have f0 := hI.free (k * 2)
      have f1 := hI.free (k * 2 + 1)
      have p0 : W.cell? ⟨wr.heap.size, 0, .none⟩ = some (.string (E k).m) := by rw [cell_of_row _ _ _ _ _ _ hp]; rfl
      have p1 : W.cell? ⟨wr.heap.size, 1, .none⟩ = some (.string (E k).n) := by rw [cell_of_row _ _ _ _ _ _ hp]; rfl
      have HP : Hid (W.heap[wr.heap.size]? = some (.cells #[.string (E k).m, .string (E k).n] 34 (0, 0))) := hp
      clear hp
      go_upto_region 15 with fail
      have hmlt := hI.mlt
      have hml : mB < wr.heap.size := hinv.map.lt
      refine wp_gen (fun W2 => Inv w W2 mB n (k + 1) k E ∧ W2.heap[wr.heap.size]? = some (.cells #[.string (E k).m, .string (E k).n] 34 (0, 0))) ⟨hI.store hlt, by rw [heap_setCell_other _ _ _ _ (by simp; omega), heap_setCell_other _ _ _ _ (by simp; omega)]; exact HP.out⟩ ?_
      clear c0 c1 c2 c3 hI k0 k1 f0 f1 p0 p1 HP
      rintro W2 ⟨hI, hp⟩
      have c2 := (hI.bel.cell (p := ⟨b, off + k * 4 + 2, .none⟩) hb).trans (hc.2.2.1 k hlt)
      have c3 := (hI.bel.cell (p := ⟨b, off + k * 4 + 3, .none⟩) hb).trans (hc.2.2.2 k hlt)
      have p0 : W2.cell? ⟨wr.heap.size, 0, .none⟩ = some (.string (E k).m) := by rw [cell_of_row _ _ _ _ _ _ hp]; rfl
      have p1 : W2.cell? ⟨wr.heap.size, 1, .none⟩ = some (.string (E k).n) := by rw [cell_of_row _ _ _ _ _ _ hp]; rfl
      clear hp
      have hb1 := (hE k).2.2.1
      have hb2 := (hE k).2.2.2
      cases hh : (E k).h
      · rw [hh] at c3
        have hI2 := hI.skip hh
        clear hh hI
        go_wp2_with fail
        go_roundw
        case rel => exact ⟨k + 1, by omega, by go_num, hI2⟩
        case measure => simp [intOf]; omega
      · rw [hh] at c3
        have hwr : IntKind.i64.wrap (E k).c = (E k).c := by simp [IntKind.wrap, IntKind.signed, IntKind.bits]; omega
        obtain ⟨w3, hrun, hI2, hkeep⟩ := hI.drew.upd (hE k) hh (by omega)
        have e0 := hkeep ⟨wr.heap.size, 0, .none⟩ _ (by simp; omega) (by simpa using p0)
        have e1 := hkeep ⟨wr.heap.size, 1, .none⟩ _ (by simp; omega) (by simpa using p1)
        have e2 := hkeep ⟨b, off + k * 4 + 2, .none⟩ _ (by simp; omega) (by simpa using c2)
        clear hh hI hkeep
        go_wp2_with fail
        go_region_held3 (fun w' => w'.cell? ⟨wr.heap.size, 0, .none⟩ = some (.string (E k).m) ∧ w'.cell? ⟨wr.heap.size, 1, .none⟩ = some (.string (E k).n) ∧ w'.cell? ⟨b, off + k * 4 + 2, .none⟩ = some (.int .i32 (E k).c)) (go_keep) (fail)
        go_wp2_with fail
        go_roundw
        case rel => exact ⟨k + 1, by omega, by go_num, hI2⟩
        case measure => simp [intOf]; omega
    · have hkn : k = n := by omega
      subst hkn
      have r3 : wr.cell? ⟨w.heap.size, 3, .none⟩ = some (.pointer .none) := by rw [cell_of_row _ _ _ _ _ _ hinv.rep]; simp [z53_size, z53_3]
      have r4 : wr.cell? ⟨w.heap.size, 4, .none⟩ = some (.int .i64 0) := by rw [cell_of_row _ _ _ _ _ _ hinv.rep]; simp [z53_size, z53_4]
      have rf3 := frozen_of_row _ _ 3 _ _ hinv.rep
      have rf4 := frozen_of_row _ _ 4 _ _ hinv.rep
      have hrlt := lt_of_block hinv.rep
      have hnpos : (k : Int) ≠ 0 := by omega
      obtain ⟨s, hse, hsk⟩ : ∃ s : Nat, sel % (k : Int) = (s : Int) ∧ s < k := ⟨(sel % (k : Int)).toNat, by have := Int.emod_nonneg sel hnpos; omega, by have := Int.emod_lt_of_pos sel (show (0 : Int) < (k : Int) by omega); have := Int.emod_nonneg sel hnpos; omega⟩
      cases uw
      · have hR := ready_map hE hinv s hsk
        unfold X0 cellRow at hR
        go_upto_region 24 with fail
        refine wp_gen (fun W => Ready w W wr.heap.size k s (E s).m (E s).n ((want E (E s).m (E s).n k).getD (-1))) hR ?_
        clear hR r3 r4 rf3 rf4
        rintro W hR
        have hbl := hR.bel.size
        have d0 := (hR.bel.cell (p := ⟨b, off + s * 4, .none⟩) hb).trans (hc.1 s hsk)
        have d1 := (hR.bel.cell (p := ⟨b, off + s * 4 + 1, .none⟩) hb).trans (hc.2.1 s hsk)
        go_wp2_with fail
        refine (tai_some w.heap.size wr.heap.size (w.heap.size + 1) k s (E s).m (E s).n _ W hsk (World.block_lt_of_cell? _ _ hR.r3) (World.block_lt_of_cell? _ _ hR.c1) (World.block_lt_of_cell? _ _ hR.pa) hR.r3 hR.r4 hR.c1 hR.pa hR.pb hR.area).mono ?_
        rintro e w2 ⟨rfl, hb2⟩
        have hbl2 := hb2.size
        have d0 := (hb2.cell (p := ⟨b, off + s * 4, .none⟩) (by simp; omega)).trans d0
        have d1 := (hb2.cell (p := ⟨b, off + s * 4 + 1, .none⟩) (by simp; omega)).trans d1
        have n1 : w2.heap.size ≠ b := by omega
        have n2 : w2.heap.size + 1 ≠ b := by omega
        have hsk' : (s : Int) < (k : Int) := by omega
        generalize hv : (want E (E s).m (E s).n k).getD (-1) = v at *
        have HV : Hid ((want E (E s).m (E s).n k).getD (-1) = v) := hv
        clear hv
        go_wp2_with fail
        go_region_held3 (fun w' => w'.cell? ⟨b, off + s * 4, .none⟩ = some (.string (E s).m) ∧ w'.cell? ⟨b, off + s * 4 + 1, .none⟩ = some (.string (E s).n)) (go_keep) (fail)
        go_upto_region 26 with fail
        refine wp_gen (fun W => Fin w W wr.heap.size s w2.heap.size (w2.heap.size + 1) (E s).m (E s).n v) (fin_of hR hb2) ?_
        clear hR hb2 d0 d1 hinv
        rintro W3 hF
        go_wp2_with fail
        go_loopw [22, 23] (fun cd jj wq => ∃ q : Nat, q ≤ k ∧ jj = .int .i64 q ∧ cd = .int .i64 ((want E (E s).m (E s).n q).getD (-1)) ∧ Fin w wq wr.heap.size s w2.heap.size (w2.heap.size + 1) (E s).m (E s).n v) (fun _ jj _ => k - (intOf jj).toNat)
        case atStart => exact ⟨0, Nat.zero_le _, rfl, rfl, hF⟩
        case round =>
          rename World => wq
          clear hF
          obtain ⟨q, hq, rfl, rfl, hF⟩ := hrel
          by_cases hqk : q < k
          · have c0 := (hF.bel.cell (p := ⟨b, off + q * 4, .none⟩) hb).trans (hc.1 q hqk)
            have c1 := (hF.bel.cell (p := ⟨b, off + q * 4 + 1, .none⟩) hb).trans (hc.2.1 q hqk)
            have c2 := (hF.bel.cell (p := ⟨b, off + q * 4 + 2, .none⟩) hb).trans (hc.2.2.1 q hqk)
            have c3 := (hF.bel.cell (p := ⟨b, off + q * 4 + 3, .none⟩) hb).trans (hc.2.2.2 q hqk)
            have z6 := hF.q0
            have z7 := hF.q1
            have hqk' : (q : Int) < (k : Int) := by omega
            have hb1 := (hE q).2.2.1
            have hb2 := (hE q).2.2.2
            have hF2 : ∀ nn, Fin w (wq.drewN nn) wr.heap.size s w2.heap.size (w2.heap.size + 1) (E s).m (E s).n v := fun nn => ⟨hF.r3, hF.r4, hF.g0, hF.g1, hF.g2, hF.q0, hF.q1, below_drewN hF.bel nn⟩
            have HF : Hid (∀ nn, Fin w (wq.drewN nn) wr.heap.size s w2.heap.size (w2.heap.size + 1) (E s).m (E s).n v) := hF2
            clear hF2 hF
            cases hh : (E q).h
            · rw [hh] at c3
              have hst : want E (E s).m (E s).n (q + 1) = want E (E s).m (E s).n q := by simp [want, hh]
              have HST : Hid (want E (E s).m (E s).n (q + 1) = want E (E s).m (E s).n q) := hst
              clear hst hh
              go_wp2_with fail
              go_quiet (fail)
              go_wp2_with fail
              go_roundw
              case rel => exact ⟨q + 1, by omega, by go_num, by rw [HST.out], HF.out _⟩
              case measure => simp [intOf]; omega
            · rw [hh] at c3
              by_cases hm : (E q).m = (E s).m
              · by_cases hnn : (E q).n = (E s).n
                · rw [hm] at c0
                  rw [hnn] at c1
                  have hst : want E (E s).m (E s).n (q + 1) = some (E q).c := by simp [want, hm, hnn, hh]
                  have HST : Hid (want E (E s).m (E s).n (q + 1) = some (E q).c) := hst
                  clear hst hh hm hnn
                  go_wp2_with fail
                  go_quiet (fail)
                  go_wp2_with fail
                  go_roundw
                  case rel => exact ⟨q + 1, by omega, by go_num, by rw [HST.out]; rfl, HF.out _⟩
                  case measure => simp [intOf]; omega
                · rw [hm] at c0
                  have hm2 := str_ne hnn
                  have hst : want E (E s).m (E s).n (q + 1) = want E (E s).m (E s).n q := by simp [want, hnn]
                  have HST : Hid (want E (E s).m (E s).n (q + 1) = want E (E s).m (E s).n q) := hst
                  clear hst hh hm hnn
                  go_wp2_with fail
                  go_quiet (fail)
                  go_wp2_with fail
                  go_roundw
                  case rel => exact ⟨q + 1, by omega, by go_num, by rw [HST.out], HF.out _⟩
                  case measure => simp [intOf]; omega
              · have hm2 := str_ne hm
                have hst : want E (E s).m (E s).n (q + 1) = want E (E s).m (E s).n q := by simp [want, hm]
                have HST : Hid (want E (E s).m (E s).n (q + 1) = want E (E s).m (E s).n q) := hst
                clear hst hh hm
                go_wp2_with fail
                go_quiet (fail)
                go_wp2_with fail
                go_roundw
                case rel => exact ⟨q + 1, by omega, by go_num, by rw [HST.out], HF.out _⟩
                case measure => simp [intOf]; omega
          · have hqe : q = k := by omega
            subst hqe
            have z1 := hF.r3
            have z2 := hF.r4
            have z3 := hF.g0
            have z4 := hF.g1
            have z5 := hF.g2
            have z6 := hF.q0
            have z7 := hF.q1
            rw [HV.out]
            have hpe := eql27
            go_wp2_with fail
            go_ret
            exact ⟨rfl, hF.bel⟩
      · have hR := ready_whole hinv s hsk whole
        unfold X0 cellRow at hR
        go_upto_region 24 with fail
        refine wp_gen (fun W => Ready w W wr.heap.size k s (E s).m (E s).n whole) hR ?_
        clear hR r3 r4 rf3 rf4
        rintro W hR
        have hbl := hR.bel.size
        have d0 := (hR.bel.cell (p := ⟨b, off + s * 4, .none⟩) hb).trans (hc.1 s hsk)
        have d1 := (hR.bel.cell (p := ⟨b, off + s * 4 + 1, .none⟩) hb).trans (hc.2.1 s hsk)
        go_wp2_with fail
        refine (tai_some w.heap.size wr.heap.size (w.heap.size + 1) k s (E s).m (E s).n whole W hsk (World.block_lt_of_cell? _ _ hR.r3) (World.block_lt_of_cell? _ _ hR.c1) (World.block_lt_of_cell? _ _ hR.pa) hR.r3 hR.r4 hR.c1 hR.pa hR.pb hR.area).mono ?_
        rintro e w2 ⟨rfl, hb2⟩
        have hbl2 := hb2.size
        have d0 := (hb2.cell (p := ⟨b, off + s * 4, .none⟩) (by simp; omega)).trans d0
        have d1 := (hb2.cell (p := ⟨b, off + s * 4 + 1, .none⟩) (by simp; omega)).trans d1
        have n1 : w2.heap.size ≠ b := by omega
        have n2 : w2.heap.size + 1 ≠ b := by omega
        have hsk' : (s : Int) < (k : Int) := by omega
        go_wp2_with fail
        go_region_held3 (fun w' => w'.cell? ⟨b, off + s * 4, .none⟩ = some (.string (E s).m) ∧ w'.cell? ⟨b, off + s * 4 + 1, .none⟩ = some (.string (E s).n)) (go_keep) (fail)
        go_upto_region 26 with fail
        refine wp_gen (fun W => Fin w W wr.heap.size s w2.heap.size (w2.heap.size + 1) (E s).m (E s).n whole) (fin_of hR hb2) ?_
        clear hR hb2 d0 d1
        rintro W3 hF
        have z1 := hF.r3
        have z2 := hF.r4
        have z3 := hF.g0
        have z4 := hF.g1
        have z5 := hF.g2
        have z6 := hF.q0
        have z7 := hF.q1
        have hpe := eql27
        go_wp2_with fail
        go_ret
        exact ⟨rfl, hF.bel⟩

end Go.Proofs.Ybulkasyy
