import Derived.Test.YbulkataaDoorDef
import Derived.Deep.CutBlock
namespace Go.Proofs.YbulkataaDoor
open Go.RowKit

theorem wp_gen {P : Program} {c : Code} {Q : Exit → Act → World → Prop} {a : Act} {X : World} (R : World → Prop) (hX : R X) (h : ∀ W, R W → Code.wp P c Q a W) : Code.wp P c Q a X := h X hX

/-- one element that came in -/
structure Inp where
  id : Int
  kind : Int
  z : Nat → Int
  t : Int
def InpOk (x : Inp) : Prop := 0 ≤ x.id ∧ x.id ≤ 255 ∧ 0 ≤ x.kind ∧ x.kind ≤ 255
def inArr (x : Inp) : Array Value := #[.int .u8 x.id, .int .u8 x.kind, .int .u8 (x.z 0), .int .u8 (x.z 1), .int .u8 (x.z 2), .int .u8 (x.z 3), .int .u8 (x.z 4), .int .u8 (x.z 5), .int .u8 (x.z 6), .int .u8 (x.z 7), .int .u8 (x.z 8), .int .u8 (x.z 9), .int .u8 (x.z 10), .int .u8 (x.z 11), .int .u8 (x.z 12), .int .u8 (x.z 13), .int .u8 (x.z 14), .int .u8 (x.z 15), .int .u32 x.t]
/-- the elements that came in -/
def InCells (w : World) (b off n : Nat) (I : Nat → Inp) : Prop := ∀ j, j < n → w.rangeAt b (off + j * 19) (inArr (I j)).toList

theorem i40 : (Ybad.prog.info? 40).map (·.size) = some 19 := by kernel_rfl
theorem i38 : (Ybad.prog.info? 38).map (·.size) = some 16 := by kernel_rfl
theorem inArr_size (x : Inp) : (inArr x).size = 19 := rfl
theorem inArr_0 (x : Inp) (h : 0 < (inArr x).size) : (inArr x)[0] = .int .u8 x.id := rfl
theorem inArr_1 (x : Inp) (h : 1 < (inArr x).size) : (inArr x)[1] = .int .u8 x.kind := rfl
theorem inArr_2 (x : Inp) (h : 2 < (inArr x).size) : (inArr x)[2] = .int .u8 (x.z 0) := rfl
theorem inArr_3 (x : Inp) (h : 3 < (inArr x).size) : (inArr x)[3] = .int .u8 (x.z 1) := rfl
theorem inArr_4 (x : Inp) (h : 4 < (inArr x).size) : (inArr x)[4] = .int .u8 (x.z 2) := rfl
theorem inArr_5 (x : Inp) (h : 5 < (inArr x).size) : (inArr x)[5] = .int .u8 (x.z 3) := rfl
theorem inArr_18 (x : Inp) (h : 18 < (inArr x).size) : (inArr x)[18] = .int .u32 x.t := rfl
theorem inArr_len (x : Inp) : (Ybad.prog.info? 40).map (·.size) = some (inArr x).toList.length := by rw [Array.length_toList, inArr_size]; exact i40
theorem cells16_len (z : Nat → Int) : (Ybad.prog.info? 38).map (·.size) = some (cells16 z).toList.length := i38
theorem arr_range (x : Inp) (wr : World) (o2 : Obj) : ((wr.alloc (.cells (inArr x) 40)).alloc o2).rangeAt wr.heap.size 2 (cells16 x.z).toList := fun j v hv => by
  rw [cell_of_row _ _ _ _ _ _ (heap_alloc2_old _ _ _)]
  have hj : j < 16 := (List.getElem?_eq_some_iff.1 hv).1
  have hj' : j = 0 ∨ j = 1 ∨ j = 2 ∨ j = 3 ∨ j = 4 ∨ j = 5 ∨ j = 6 ∨ j = 7 ∨ j = 8 ∨ j = 9 ∨ j = 10 ∨ j = 11 ∨ j = 12 ∨ j = 13 ∨ j = 14 ∨ j = 15 := by omega
  rw [← hv]
  rcases hj' with rfl | rfl | rfl | rfl | rfl | rfl | rfl | rfl | rfl | rfl | rfl | rfl | rfl | rfl | rfl | rfl <;> rfl
theorem inArr_one (x : Inp) : (inArr x).all (·.oneCell') = true := by simp [inArr, Value.oneCell']
def z40 : Array Value := ((List.replicate 18 (Value.int .u8 0)) ++ [Value.int .u32 0]).toArray
theorem inf40 : (Ybad.prog.info? 40).map (fun i => (i.zero, i.size)) = some (some (.agg z40), 19) := by kernel_rfl
theorem z40_size : z40.size = 19 := by kernel_rfl
theorem st40 (x : Inp) (W : World) : (storeCells ⟨W.heap.size, 0, .none⟩ (inArr x).toList).run Ybad.prog (W.alloc (.cells z40 40)) = .ok () (W.alloc (.cells (inArr x) 40)) :=
  run_storeCells_new (P := Ybad.prog) W 40 z40 (inArr x) (by rw [inArr_size]; exact i40) (by rw [inArr_size]; exact z40_size) (inArr_one x)

theorem i35 : (Ybad.prog.info? 35).map (fun i => (i.zero, i.size, i.bytes)) = some (some (.agg #[.int .u8 0, .int .u64 0, .int .u64 0, .pointer .none, .int .u32 0]), 5, 40) := by kernel_rfl

/-- what the call has made when k E-RABs have been written -/
structure Inv (w wr : World) (n k : Nat) (a4 a6 : Addr) (I : Nat → Inp) : Prop where
  row : ∃ cur, wr.heap[w.heap.size]? = some (.cells cur 35 (0, 0)) ∧ cur.size = n * 5 ∧ ∀ j, j < k → ∃ h l, cur[j * 5]? = some (.int .u8 (I j).id) ∧ cur[j * 5 + 1]? = some (.int .u64 h) ∧ cur[j * 5 + 2]? = some (.int .u64 l) ∧
    cur[j * 5 + 3]? = some (.pointer (hptr a4 a6 ((I j).kind % 3))) ∧ cur[j * 5 + 4]? = some (.int .u32 (I j).t)
  bel : Below w.heap.size w wr

theorem Inv.later {w wr w' : World} {n k : Nat} {a4 a6 : Addr} {I : Nat → Inp} (h : Inv w wr n k a4 a6 I) (hb : Below wr.heap.size wr w') : Inv w w' n k a4 a6 I := by
  obtain ⟨cur, h1, h2, h3⟩ := h.row
  exact ⟨⟨cur, (hb.block _ (lt_of_block h1)).trans h1, h2, h3⟩, h.bel.trans (hb.mono h.bel.size)⟩
theorem Inv.setFar {w W : World} {n k : Nat} {a4 a6 : Addr} {I : Nat → Inp} (h : Inv w W n k a4 a6 I) {a : Addr} (ha : w.heap.size < a.block) (v : Value) : Inv w (W.setCell a v) n k a4 a6 I := by
  obtain ⟨cur, h1, h2, h3⟩ := h.row
  exact ⟨⟨cur, by rw [heap_setCell_other _ _ _ _ (by omega)]; exact h1, h2, h3⟩, h.bel.setCell (by omega) v⟩

/-- the world at the store of one E-RAB -/
structure Mid (w W : World) (nB n k : Nat) (a4 a6 : Addr) (I : Nat → Inp) (x : Inp) (h l : Int) : Prop where
  m0 : W.cell? ⟨nB, 0, .none⟩ = some (.int .u8 x.id)
  m18 : W.cell? ⟨nB, 18, .none⟩ = some (.int .u32 x.t)
  a0 : W.cell? ⟨nB + 1, 0, .none⟩ = some (.int .u64 h)
  a1 : W.cell? ⟨nB + 1, 1, .none⟩ = some (.int .u64 l)
  a2 : W.cell? ⟨nB + 1, 2, .none⟩ = some (.pointer (hptr a4 a6 (x.kind % 3)))
  inv : Inv w W n k a4 a6 I

def S3 (W : World) (B : Nat) (v0 v1 v2 : Value) : World := ((W.setCell ⟨B, 0, .none⟩ v0).setCell ⟨B, 1, .none⟩ v1).setCell ⟨B, 2, .none⟩ v2
theorem arr_cell (x : Inp) (wr : World) (o2 : Obj) (j : Nat) : ((wr.alloc (.cells (inArr x) 40)).alloc o2).cell? ⟨wr.heap.size, j, .none⟩ = (inArr x)[j]? := by
  rw [cell_of_row _ _ _ _ _ _ (heap_alloc2_old _ _ _)]
theorem mid_call {w wr w2 : World} {n k : Nat} {a4 a6 : Addr} {I : Nat → Inp} {x : Inp} {o2 : Array Value} (ho : o2.size = 3) (hinv : Inv w wr n k a4 a6 I) (hlt : w.heap.size < wr.heap.size)
    (hb : Below ((wr.alloc (.cells (inArr x) 40)).alloc (.cells o2 32)).heap.size ((wr.alloc (.cells (inArr x) 40)).alloc (.cells o2 32)) w2) (h l : Int) (p : Option Addr) (hp : p = hptr a4 a6 (x.kind % 3)) :
    Mid w (S3 w2 (wr.heap.size + 1) (.int .u64 h) (.int .u64 l) (.pointer p)) wr.heap.size n k a4 a6 I x h l := by
  have ne : ∀ (X : World) (i j : Nat) (v : Value), i ≠ j → (X.setCell ⟨wr.heap.size + 1, i, .none⟩ v).cell? ⟨wr.heap.size + 1, j, .none⟩ = X.cell? ⟨wr.heap.size + 1, j, .none⟩ := fun X i j v h => World.cell?_setCell_other _ _ _ _ (fun e => h (congrArg Addr.off e))
  have far : ∀ (X : World) (i j : Nat) (v : Value), (X.setCell ⟨wr.heap.size + 1, i, .none⟩ v).cell? ⟨wr.heap.size, j, .none⟩ = X.cell? ⟨wr.heap.size, j, .none⟩ := fun X i j v => World.cell?_setCell_other _ _ _ _ (fun e => by have := congrArg Addr.block e; simp at this)
  have old : ∀ j, j < 3 → ∃ u, w2.cell? ⟨wr.heap.size + 1, j, .none⟩ = some u := fun j hj => ⟨o2[j], by
    rw [hb.cell (by simp), cell_of_row _ _ _ _ _ _ (heap_alloc2_new _ _ _)]; simp [ho, hj]⟩
  have arr : ∀ j, w2.cell? ⟨wr.heap.size, j, .none⟩ = (inArr x)[j]? := fun j => (hb.cell (by simp; omega)).trans (arr_cell x wr _ j)
  obtain ⟨u0, e0⟩ := old 0 (by omega)
  obtain ⟨u1, e1⟩ := old 1 (by omega)
  obtain ⟨u2, e2⟩ := old 2 (by omega)
  have hi2 : Inv w w2 n k a4 a6 I := (hinv.later (((Below.refl _ _).alloc (Nat.le_refl _) _).alloc (by simp) _)).later hb
  subst hp
  unfold S3
  refine ⟨?_, ?_, ?_, ?_, ?_, ((hi2.setFar (by simp; omega) _).setFar (by simp; omega) _).setFar (by simp; omega) _⟩
  · rw [far, far, far, arr]; rfl
  · rw [far, far, far, arr]; rfl
  · rw [ne _ 2 0 _ (by decide), ne _ 1 0 _ (by decide)]; exact World.cell?_setCell_same _ _ _ e0
  · rw [ne _ 2 1 _ (by decide)]; exact World.cell?_setCell_same _ _ _ ((ne _ 0 1 _ (by decide)).trans e1)
  · exact World.cell?_setCell_same _ _ _ ((ne _ 1 2 _ (by decide)).trans ((ne _ 0 2 _ (by decide)).trans e2))
theorem mid_plain {w wr : World} {n k : Nat} {a4 a6 : Addr} {I : Nat → Inp} {x : Inp} (hinv : Inv w wr n k a4 a6 I) (hp : hptr a4 a6 (x.kind % 3) = .none) :
    Mid w ((wr.alloc (.cells (inArr x) 40)).alloc (.cells #[.int .u64 0, .int .u64 0, .pointer .none] 32)) wr.heap.size n k a4 a6 I x 0 0 := by
  have hN := heap_alloc2_new wr (.cells (inArr x) 40) (.cells #[.int .u64 0, .int .u64 0, .pointer .none] 32)
  refine ⟨?_, ?_, ?_, ?_, ?_, hinv.later (((Below.refl _ _).alloc (Nat.le_refl _) _).alloc (by simp) _)⟩
  · rw [arr_cell]; rfl
  · rw [arr_cell]; rfl
  · rw [cell_of_row _ _ _ _ _ _ hN]; rfl
  · rw [cell_of_row _ _ _ _ _ _ hN]; rfl
  · rw [cell_of_row _ _ _ _ _ _ hN, hp]; rfl

theorem Inv.cellAt {w W : World} {n k : Nat} {a4 a6 : Addr} {I : Nat → Inp} (h : Inv w W n k a4 a6 I) {j : Nat} (hj : j < n * 5) : ∃ u, W.cell? ⟨w.heap.size, j, .none⟩ = some u := by
  obtain ⟨cur, h1, h2, h3⟩ := h.row
  exact ⟨cur[j], by rw [cell_of_row _ _ _ _ _ _ h1]; simp⟩
theorem Inv.free {w W : World} {n k : Nat} {a4 a6 : Addr} {I : Nat → Inp} (h : Inv w W n k a4 a6 I) (j : Nat) : W.frozen? ⟨w.heap.size, j, .none⟩ = false := by
  obtain ⟨cur, h1, h2, h3⟩ := h.row
  exact frozen_of_row _ _ _ _ _ h1
theorem Inv.step {w W : World} {n k : Nat} {a4 a6 : Addr} {I : Nat → Inp} (hv : Inv w W n k a4 a6 I) (hk : k < n) {x : Inp} (hx : x = I k) (h l : Int) :
    Inv w (((((W.setCell ⟨w.heap.size, k * 5, .none⟩ (.int .u8 x.id)).setCell ⟨w.heap.size, k * 5 + 1, .none⟩ (.int .u64 h)).setCell ⟨w.heap.size, k * 5 + 2, .none⟩ (.int .u64 l)).setCell ⟨w.heap.size, k * 5 + 3, .none⟩ (.pointer (hptr a4 a6 (x.kind % 3)))).setCell ⟨w.heap.size, k * 5 + 4, .none⟩ (.int .u32 x.t)) n (k + 1) a4 a6 I := by
  obtain ⟨cur, h1, h2, h3⟩ := hv.row
  have e1 := heap_setCell_same W w.heap.size (k * 5) cur 35 (.int .u8 x.id) h1
  have e2 := heap_setCell_same _ w.heap.size (k * 5 + 1) _ 35 (.int .u64 h) e1
  have e3 := heap_setCell_same _ w.heap.size (k * 5 + 2) _ 35 (.int .u64 l) e2
  have e4 := heap_setCell_same _ w.heap.size (k * 5 + 3) _ 35 (.pointer (hptr a4 a6 (x.kind % 3))) e3
  have e5 := heap_setCell_same _ w.heap.size (k * 5 + 4) _ 35 (.int .u32 x.t) e4
  refine ⟨⟨_, e5, by simpa using h2, fun j hj => ?_⟩, ((((hv.bel.setCell (p := ⟨w.heap.size, k * 5, .none⟩) (Nat.le_refl _) _).setCell (p := ⟨w.heap.size, k * 5 + 1, .none⟩) (Nat.le_refl _) _).setCell (p := ⟨w.heap.size, k * 5 + 2, .none⟩) (Nat.le_refl _) _).setCell (p := ⟨w.heap.size, k * 5 + 3, .none⟩) (Nat.le_refl _) _).setCell (p := ⟨w.heap.size, k * 5 + 4, .none⟩) (Nat.le_refl _) _⟩
  subst hx
  by_cases hjk : j = k
  · subst hjk
    refine ⟨h, l, ?_, ?_, ?_, ?_, ?_⟩
    · rw [Array.getElem?_setIfInBounds_ne (by omega), Array.getElem?_setIfInBounds_ne (by omega), Array.getElem?_setIfInBounds_ne (by omega), Array.getElem?_setIfInBounds_ne (by omega), Array.getElem?_setIfInBounds_self_of_lt (by omega)]
    · rw [Array.getElem?_setIfInBounds_ne (by omega), Array.getElem?_setIfInBounds_ne (by omega), Array.getElem?_setIfInBounds_ne (by omega), Array.getElem?_setIfInBounds_self_of_lt (by simp; omega)]
    · rw [Array.getElem?_setIfInBounds_ne (by omega), Array.getElem?_setIfInBounds_ne (by omega), Array.getElem?_setIfInBounds_self_of_lt (by simp; omega)]
    · rw [Array.getElem?_setIfInBounds_ne (by omega), Array.getElem?_setIfInBounds_self_of_lt (by simp; omega)]
    · rw [Array.getElem?_setIfInBounds_self_of_lt (by simp; omega)]
  · obtain ⟨h', l', g0, g1, g2, g3, g4⟩ := h3 j (by omega)
    have ne : ∀ q, q < 5 → ∀ r, r < 5 → k * 5 + q ≠ j * 5 + r := fun q hq r hr => by omega
    refine ⟨h', l', ?_, ?_, ?_, ?_, ?_⟩
    · rw [Array.getElem?_setIfInBounds_ne (by omega), Array.getElem?_setIfInBounds_ne (by omega), Array.getElem?_setIfInBounds_ne (by omega), Array.getElem?_setIfInBounds_ne (by omega), Array.getElem?_setIfInBounds_ne (by omega)]; exact g0
    · rw [Array.getElem?_setIfInBounds_ne (by omega), Array.getElem?_setIfInBounds_ne (by omega), Array.getElem?_setIfInBounds_ne (by omega), Array.getElem?_setIfInBounds_ne (by omega), Array.getElem?_setIfInBounds_ne (by omega)]; exact g1
    · rw [Array.getElem?_setIfInBounds_ne (by omega), Array.getElem?_setIfInBounds_ne (by omega), Array.getElem?_setIfInBounds_ne (by omega), Array.getElem?_setIfInBounds_ne (by omega), Array.getElem?_setIfInBounds_ne (by omega)]; exact g2
    · rw [Array.getElem?_setIfInBounds_ne (by omega), Array.getElem?_setIfInBounds_ne (by omega), Array.getElem?_setIfInBounds_ne (by omega), Array.getElem?_setIfInBounds_ne (by omega), Array.getElem?_setIfInBounds_ne (by omega)]; exact g3
    · rw [Array.getElem?_setIfInBounds_ne (by omega), Array.getElem?_setIfInBounds_ne (by omega), Array.getElem?_setIfInBounds_ne (by omega), Array.getElem?_setIfInBounds_ne (by omega), Array.getElem?_setIfInBounds_ne (by omega)]; exact g4

set_option maxHeartbeats 1000000 in
theorem build_any (b off n cap : Nat) (a4 a6 : Addr) (I : Nat → Inp) (hI : ∀ j, InpOk (I j)) (hn : n ≤ 1024) (w : World) (hb : b < w.heap.size) (hc : InCells w b off n I) (hH : Han w a4 a6) :
    Calls Ybad.prog 5 #[.slice (some ⟨b, off, .none⟩) n cap] w fun e w' => e = .returned (.slice (some ⟨w.heap.size, 0, .none⟩) n n) ∧ Inv w w' n n a4 a6 I := by
  have hz40 := (zero_of_info inf40).1
  have hz40s := z40_size
  obtain ⟨i0, hi, hq0, hq1, hq2⟩ := info_parts i35
  go_enter Ybad.func5, Ybad.ntmps5
  go_wp2_with (at_make; refine wpList_make_full _ rfl _ _ 23 rfl w.heap.size 35 i0 _ 5 Ybad.underlying23 hi hq0 hq1 .i64 .i64 _ _ n rfl rfl rfl rfl (by rw [hq2]; omega) (by unfold maxLen; omega) (Nat.le_refl _) ?_; intro w1 hown1 hg1)
  have hst : Inv w w1 n 0 a4 a6 I := by
    obtain ⟨_, h | ⟨g, cap, cur, hv, hg', hh, h1, h2, h3, h4⟩⟩ := hown1
    · simp at h
    simp at hv
    obtain ⟨rfl, rfl⟩ := hv
    exact ⟨⟨cur, hh, h3, fun j hj => absurd hj (Nat.not_lt_zero _)⟩, (Below.refl _ _).grown hg1 (Nat.le_refl _) (by intro k hk; cases hk)⟩
  clear hown1 hg1
  go_loopw [4] (fun i wr => ∃ k : Nat, k ≤ n ∧ i = .int .i64 k ∧ Inv w wr n k a4 a6 I) (fun i _ => n - (intOf i).toNat)
  case atStart => exact ⟨0, Nat.zero_le _, rfl, hst⟩
  case round =>
    clear hst
    obtain ⟨k, hk, rfl, hinv⟩ := hrel
    have hbs := hinv.bel.size
    by_cases hlt : k < n
    · have hlt' : (k : Int) < (n : Int) := by omega
      obtain ⟨x, hx⟩ : ∃ x, x = I k := ⟨_, rfl⟩
      have hr : wr.rangeAt b (off + k * 19) (inArr x).toList := fun j v hv => (hinv.bel.cell (by simpa using hb)).trans (hc k hlt j v (by rw [← hx]; exact hv))
      have HR : Hid (wr.rangeAt b (off + k * 19) (inArr x).toList) := hr
      have HX : Hid (x = I k) := hx
      have hst := st40 x
      have hxs := inArr_size x
      clear hr hx
      go_upto_region 6 with (refine wpList_load_mid rfl 40 (.tmp 18) rfl b (off + k * 19) rfl (inArr x).toList _ HR.out Ybad.underlying40 rfl (inArr_len x) ?_; rw [Array.toArray_toList])
      have hwl : w.heap.size < wr.heap.size := by obtain ⟨cur, h1, _⟩ := hinv.row; exact lt_of_block h1
      have hxb := hI k
      rw [← HX.out] at hxb
      have hk0 := hxb.2.2.1
      have hk1 := hxb.2.2.2
      have q0 := fun h => inArr_0 x h
      have q1 := fun h => inArr_1 x h
      have q2 := fun h => inArr_2 x h
      have q3 := fun h => inArr_3 x h
      have q4 := fun h => inArr_4 x h
      have q5 := fun h => inArr_5 x h
      have q18 := fun h => inArr_18 x h
      have hH1 : ∀ o1 o2 : Obj, Han ((wr.alloc o1).alloc o2) a4 a6 := fun o1 o2 => hH.later ((hinv.bel.alloc hbs _).alloc (by simp; omega) _)
      have HH1 : Hid (∀ o1 o2 : Obj, Han ((wr.alloc o1).alloc o2) a4 a6) := hH1
      clear hH1 hxb
      rcases (show x.kind % 3 = 1 ∨ x.kind % 3 = 2 ∨ x.kind % 3 = 0 by omega) with hm | hm | hm
      · have t1 : (x.kind % 3 == 1) = true := by rw [hm]; rfl
        have HM : Hid (x.kind % 3 = 1) := hm
        clear hm
        go_wp2_with fail
        refine (from4_any _ _ _ _ a4 _ (HH1.out _ _).g0 (by simp)).mono ?_
        rintro e w2 ⟨⟨h, l, rfl⟩, hb2⟩
        have y0 := hb2.cell (p := ⟨wr.heap.size + 1, 0, .none⟩) (by simp)
        have y1 := hb2.cell (p := ⟨wr.heap.size + 1, 1, .none⟩) (by simp)
        have y2 := hb2.cell (p := ⟨wr.heap.size + 1, 2, .none⟩) (by simp)
        have f0 := hb2.frozen (p := ⟨wr.heap.size + 1, 0, .none⟩) (by simp)
        have f1 := hb2.frozen (p := ⟨wr.heap.size + 1, 1, .none⟩) (by simp)
        have f2 := hb2.frozen (p := ⟨wr.heap.size + 1, 2, .none⟩) (by simp)
        simp at y0 y1 y2 f0 f1 f2
        go_upto_region 12 with fail
        refine wp_gen (fun W => ∃ h l, Mid w W wr.heap.size n k a4 a6 I x h l) ⟨h, l, mid_call rfl hinv hwl hb2 h l _ (by rw [HM.out]; rfl)⟩ ?_
        clear y0 y1 y2 f0 f1 f2 hb2 hinv HR hst q0 q1 q2 q3 q4 q5 q18
        rintro W ⟨h, l, hM⟩
        have m0 := hM.m0
        have m18 := hM.m18
        have a0 := hM.a0
        have a1 := hM.a1
        have a2 := hM.a2
        obtain ⟨u0, k0⟩ := hM.inv.cellAt (j := k * 5) (by omega)
        obtain ⟨u1, k1⟩ := hM.inv.cellAt (j := k * 5 + 1) (by omega)
        obtain ⟨u2, k2⟩ := hM.inv.cellAt (j := k * 5 + 2) (by omega)
        obtain ⟨u3, k3⟩ := hM.inv.cellAt (j := k * 5 + 3) (by omega)
        obtain ⟨u4, k4⟩ := hM.inv.cellAt (j := k * 5 + 4) (by omega)
        have f0 := hM.inv.free (k * 5)
        have f1 := hM.inv.free (k * 5 + 1)
        have f2 := hM.inv.free (k * 5 + 2)
        have f3 := hM.inv.free (k * 5 + 3)
        have f4 := hM.inv.free (k * 5 + 4)
        have hfin := hM.inv.step hlt HX.out h l
        have HF : Hid _ := hfin
        clear hfin hM
        go_wp2_with fail
        go_roundw
        case rel => exact ⟨k + 1, by omega, by go_num, HF.out⟩
        case measure => simp [intOf]; omega
      · have t1 : (x.kind % 3 == 1) = false := by rw [hm]; rfl
        have t2 : (x.kind % 3 == 2) = true := by rw [hm]; rfl
        have HM : Hid (x.kind % 3 = 2) := hm
        clear hm
        go_wp2_with (refine wpList_load_mid rfl 38 (.tmp 41) rfl wr.heap.size 2 rfl (cells16 x.z).toList _ (arr_range x wr _) Ybad.underlying38 rfl (cells16_len x.z) ?_; rw [Array.toArray_toList])
        refine (from16_any x.z a6 _ (HH1.out _ _).g1 (by simp)).mono ?_
        rintro e w2 ⟨⟨h, l, rfl⟩, hb2⟩
        have y0 := hb2.cell (p := ⟨wr.heap.size + 1, 0, .none⟩) (by simp)
        have y1 := hb2.cell (p := ⟨wr.heap.size + 1, 1, .none⟩) (by simp)
        have y2 := hb2.cell (p := ⟨wr.heap.size + 1, 2, .none⟩) (by simp)
        have f0 := hb2.frozen (p := ⟨wr.heap.size + 1, 0, .none⟩) (by simp)
        have f1 := hb2.frozen (p := ⟨wr.heap.size + 1, 1, .none⟩) (by simp)
        have f2 := hb2.frozen (p := ⟨wr.heap.size + 1, 2, .none⟩) (by simp)
        simp at y0 y1 y2 f0 f1 f2
        go_upto_region 12 with fail
        refine wp_gen (fun W => ∃ h l, Mid w W wr.heap.size n k a4 a6 I x h l) ⟨h, l, mid_call rfl hinv hwl hb2 h l _ (by rw [HM.out]; rfl)⟩ ?_
        clear y0 y1 y2 f0 f1 f2 hb2 hinv HR hst q0 q1 q2 q3 q4 q5 q18
        rintro W ⟨h, l, hM⟩
        have m0 := hM.m0
        have m18 := hM.m18
        have a0 := hM.a0
        have a1 := hM.a1
        have a2 := hM.a2
        obtain ⟨u0, k0⟩ := hM.inv.cellAt (j := k * 5) (by omega)
        obtain ⟨u1, k1⟩ := hM.inv.cellAt (j := k * 5 + 1) (by omega)
        obtain ⟨u2, k2⟩ := hM.inv.cellAt (j := k * 5 + 2) (by omega)
        obtain ⟨u3, k3⟩ := hM.inv.cellAt (j := k * 5 + 3) (by omega)
        obtain ⟨u4, k4⟩ := hM.inv.cellAt (j := k * 5 + 4) (by omega)
        have f0 := hM.inv.free (k * 5)
        have f1 := hM.inv.free (k * 5 + 1)
        have f2 := hM.inv.free (k * 5 + 2)
        have f3 := hM.inv.free (k * 5 + 3)
        have f4 := hM.inv.free (k * 5 + 4)
        have hfin := hM.inv.step hlt HX.out h l
        have HF : Hid _ := hfin
        clear hfin hM
        go_wp2_with fail
        go_roundw
        case rel => exact ⟨k + 1, by omega, by go_num, HF.out⟩
        case measure => simp [intOf]; omega
      · have t1 : (x.kind % 3 == 1) = false := by rw [hm]; rfl
        have t2 : (x.kind % 3 == 2) = false := by rw [hm]; rfl
        have HM : Hid (x.kind % 3 = 0) := hm
        clear hm
        go_upto_region 12 with fail
        refine wp_gen (fun W => ∃ h l, Mid w W wr.heap.size n k a4 a6 I x h l) ⟨0, 0, mid_plain hinv (by rw [HM.out]; rfl)⟩ ?_
        clear hinv HR hst q0 q1 q2 q3 q4 q5 q18
        rintro W ⟨h, l, hM⟩
        have m0 := hM.m0
        have m18 := hM.m18
        have a0 := hM.a0
        have a1 := hM.a1
        have a2 := hM.a2
        obtain ⟨u0, k0⟩ := hM.inv.cellAt (j := k * 5) (by omega)
        obtain ⟨u1, k1⟩ := hM.inv.cellAt (j := k * 5 + 1) (by omega)
        obtain ⟨u2, k2⟩ := hM.inv.cellAt (j := k * 5 + 2) (by omega)
        obtain ⟨u3, k3⟩ := hM.inv.cellAt (j := k * 5 + 3) (by omega)
        obtain ⟨u4, k4⟩ := hM.inv.cellAt (j := k * 5 + 4) (by omega)
        have f0 := hM.inv.free (k * 5)
        have f1 := hM.inv.free (k * 5 + 1)
        have f2 := hM.inv.free (k * 5 + 2)
        have f3 := hM.inv.free (k * 5 + 3)
        have f4 := hM.inv.free (k * 5 + 4)
        have hfin := hM.inv.step hlt HX.out h l
        have HF : Hid _ := hfin
        clear hfin hM
        go_wp2_with fail
        go_roundw
        case rel => exact ⟨k + 1, by omega, by go_num, HF.out⟩
        case measure => simp [intOf]; omega
    · have hkn : k = n := by omega
      subst hkn
      go_wp2_with fail
      go_ret
      exact ⟨rfl, hinv⟩

end Go.Proofs.YbulkataaDoor
