import Derived.Test.YbulkatbqFmtFin
namespace Go.Proofs.YbulkatbqFmt
open Go.RowKit Go.Extern.Stop Go.Stop Go.Extern Go.Sort

theorem info9 : ∃ i, Ybaf.prog.info? 9 = some i ∧ i.zero = some (.string noStr) ∧ i.size = 1 ∧ i.bytes = 16 := ⟨Ybaf.t9, by kernel_rfl, by kernel_rfl, by kernel_rfl, by kernel_rfl⟩
/-- the tools that the law makes of the keys K -/
def GK (K p : Nat → Nat) : Given := ⟨fun i => nm (K i), fun i => nm (K i), fun _ => false, p⟩
theorem GK_good (K p : Nat → Nat) (i : Nat) : (GK K p).Good i := ⟨rfl, rfl, nm_valid _⟩
def nv (K : Nat → Nat) (k i : Nat) : Value := if i < k then .string (nm (K i)) else .string noStr
structure B3 (w W : World) (tB nB m n k : Nat) (K p : Nat → Nat) : Prop where
  bld : Bld w W tB m n k (GK K p)
  nms : RowOf W nB 9 n (nv K k)
  lo : tB < nB
  hi : nB < m
  sz : m ≤ W.heap.size
theorem B3.later {w W W2 : World} {tB nB m n k : Nat} {K p : Nat → Nat} (h : B3 w W tB nB m n k K p) (hb : Below W.heap.size W W2) : B3 w W2 tB nB m n k K p :=
  ⟨h.bld.later hb, h.nms.keep (hb.block _ h.nms.lt), h.lo, h.hi, Nat.le_trans h.sz hb.size⟩
theorem Bld.zero_m {w W : World} {tB m m2 n : Nat} {G : Given} (h : Bld w W tB m n 0 G) (hm : tB < m2) : Bld w W tB m2 n 0 G :=
  ⟨h.bel, h.ptrs, h.lo, hm, h.tls, h.tool, h.inj, fun i hi => absurd hi (by omega)⟩

theorem name_conv (W : World) (x : Nat) :
    (convert 27 9 (.slice (some ⟨W.heap.size, 0, .none⟩) 2 2)).run Ybaf.prog (W.alloc (.cells #[.int .u8 (97 + (x : Int) % 26), .int .u8 (48 + (x : Int) % 260 / 26)] 5)) = .ok (.string (nm x)) (W.alloc (.cells #[.int .u8 (97 + (x : Int) % 26), .int .u8 (48 + (x : Int) % 260 / 26)] 5)) := by
  have h0 : x % 260 % 26 < 26 := Nat.mod_lt _ (by omega)
  have h1 : x % 260 / 26 < 10 := by have := Nat.mod_lt x (show 260 > 0 by omega); omega
  have hh := heap_alloc_new (w := W) rfl (.cells #[.int .u8 (97 + (x : Int) % 26), .int .u8 (48 + (x : Int) % 260 / 26)] 5)
  refine run_convert_bytes_back (P := Ybaf.prog) _ 27 9 5 ⟨W.heap.size, 0, .none⟩ 2 [UInt8.ofNat (97 + x % 260 % 26), UInt8.ofNat (48 + x % 260 / 26)] (by kernel_rfl) (by kernel_rfl) (by kernel_rfl) fun j hj => ?_
  have h2 : j < 2 := hj
  rw [Addr.add_mid, Nat.zero_add, cell_of hh]
  rcases (show j = 0 ∨ j = 1 by omega) with rfl | rfl
  · show some (Value.int .u8 (97 + (x : Int) % 26)) = some (.int .u8 ((UInt8.ofNat (97 + x % 260 % 26)).toNat : Nat))
    rw [UInt8.toNat_ofNat', Nat.mod_eq_of_lt (by omega)]
    congr 2
    omega
  · show some (Value.int .u8 (48 + (x : Int) % 260 / 26)) = some (.int .u8 ((UInt8.ofNat (48 + x % 260 / 26)).toNat : Nat))
    rw [UInt8.toNat_ofNat', Nat.mod_eq_of_lt (by omega)]
    congr 2
theorem B3.name {w W : World} {tB nB m n k : Nat} {K p : Nat → Nat} (h : B3 w W tB nB m n k K p) :
    RowOf (W.setCell ⟨nB, k, .none⟩ (.string (nm (K k)))) nB 9 n (nv K (k + 1)) ∧ Bld w (W.setCell ⟨nB, k, .none⟩ (.string (nm (K k)))) tB m n k (GK K p) ∧ m ≤ (W.setCell ⟨nB, k, .none⟩ (.string (nm (K k)))).heap.size := by
  have h1 := h.lo
  have h2 := h.hi
  have h3 := h.bld.lo
  have h4 := h.bld.hi
  refine ⟨h.nms.set k _ (by simp [nv]) fun i hi hik => ?_, ⟨h.bld.bel.setCell (by show _ ≤ nB; omega) _, h.bld.ptrs.keep (heap_set_other rfl (by omega) _ _), h3, h4, h.bld.tls.keep (heap_set_other rfl (by omega) _ _), fun i hi hz => heap_set_other (h.bld.tool i hi hz) (by have := h.bld.pge i hi hz; omega) _ _, h.bld.inj, h.bld.pge⟩, by simpa [World.setCell] using h.sz⟩
  unfold nv
  by_cases hi' : i < k
  · simp [hi', show i < k + 1 by omega]
  · simp [hi', show ¬ i < k + 1 by omega]
theorem GK_put (K p : Nat → Nat) (k q : Nat) : (GK K p).put k q = GK K (fun i => if i = k then q else p i) := rfl
theorem B3.next {w W : World} {tB nB m n k q : Nat} {K p : Nat → Nat} (hn : RowOf W nB 9 n (nv K (k + 1))) (hb : Bld w W tB m n k (GK K p)) (lo : tB < nB) (hi : nB < m) (hk : k < n) (sz : m ≤ W.heap.size) (hq : m ≤ q) (hne : ∀ i, i < k → p i ≠ q)
    (ht : W.heap[q]? = some (.cells (toolCells (nm (K k)) (nm (K k)) 0 0) 36 (0, 0))) :
    B3 w ((W.setCell ⟨w.heap.size, k, .none⟩ (.pointer (some ⟨q, 0, .none⟩))).setCell ⟨tB, k, .none⟩ (.iface 28 (.pointer (some ⟨q, 0, .none⟩)))) tB nB m n (k + 1) K (fun i => if i = k then q else p i) := by
  have h3 := hb.lo
  exact ⟨hb.add hk rfl hq (fun i hi _ => hne i hi) ht, hn.keep (heap_set_other (heap_set_other rfl (by omega) _ _) (by omega) _ _), lo, hi, by simpa [World.setCell] using sz⟩
/-- the new tool lies at block q -/
structure Bx (w W : World) (tB nB m n k q : Nat) (K p : Nat → Nat) : Prop where
  nms : RowOf W nB 9 n (nv K (k + 1))
  bld : Bld w W tB m n k (GK K p)
  sz : m ≤ W.heap.size
  qm : m ≤ q
  qn : ∀ i, i < k → p i ≠ q
  tool : W.heap[q]? = some (.cells (toolCells (nm (K k)) (nm (K k)) 0 0) 36 (0, 0))
theorem Bx.make {w W : World} {tB nB m n k : Nat} {K p : Nat → Nat} (hn : RowOf W nB 9 n (nv K (k + 1))) (hb : Bld w W tB m n k (GK K p)) (sz : m ≤ W.heap.size) : Bx w (W.alloc (.cells (toolCells (nm (K k)) (nm (K k)) 0 0) 36)) tB nB m n k W.heap.size K p := by
  have hA := (Below.refl W.heap.size W).alloc (Nat.le_refl _) (.cells (toolCells (nm (K k)) (nm (K k)) 0 0) 36)
  refine ⟨hn.keep (hA.block _ hn.lt), hb.later hA, Nat.le_trans sz hA.size, sz, fun i hi e => ?_, heap_alloc_new rfl _⟩
  have := lt_of_heap (hb.tool i hi rfl)
  have e' : (GK K p).p i = W.heap.size := e
  omega

theorem Bld.same {w W W2 : World} {tB m n k : Nat} {G : Given} (h : Bld w W tB m n k G) (hs : Same W W2) : Bld w W2 tB m n k G :=
  ⟨⟨hs.os.trans h.bel.os, hs.tape.trans h.bel.tape, hs.output.trans h.bel.output, by rw [hs.heap]; exact h.bel.size, by rw [hs.heap]; exact h.bel.block⟩, h.ptrs.keep (by rw [hs.heap]), h.lo, h.hi, h.tls.keep (by rw [hs.heap]), by rw [hs.heap]; exact h.tool, h.inj, h.pge⟩
theorem B3.same {w W W2 : World} {tB nB m n k : Nat} {K p : Nat → Nat} (h : B3 w W tB nB m n k K p) (hs : Same W W2) : B3 w W2 tB nB m n k K p :=
  ⟨h.bld.same hs, h.nms.keep (by rw [hs.heap]), h.lo, h.hi, by rw [hs.heap]; exact h.sz⟩

theorem names_cells {w W W2 : World} {tB nB m n : Nat} {K p : Nat → Nat} (h : B3 w W tB nB m n n K p) (hS : St W W2 (GK K p) n) : ∀ j, j < (namesOf (GK K p) n).length → W2.cell? ⟨nB, 0 + j, .none⟩ = some (.string ((namesOf (GK K p) n).getD j ByteArray.empty)) := by
  intro j hj
  have hj' : j < n := by simpa [namesOf] using hj
  have h1 := h.hi
  rw [Nat.zero_add, (h.nms.keep (hS.keep _ h.nms.lt fun i hi hz => by have := h.bld.pge i hi hz; omega)).cell j hj']
  simp [nv, namesOf, hj', GK]
theorem names_len (K p : Nat → Nat) (n : Nat) : (namesOf (GK K p) n).length = n := by simp [namesOf]
theorem Fin.make {w W W2 W4 : World} {tB nB m n rB g : Nat} {K p : Nat → Nat} {d : Array (Nat × ByteArray)} (h : B3 w W tB nB m n n K p) (hS : St W W2 (GK K p) n) (hH : Held (GK K p) n W.heap.size rB d W2) (hb : Below W2.heap.size W2 W4)
    (hs : Holds encStr W4 g 0 (((namesOf (GK K p) n).map (·.data.toList)).mergeSort fun x y => decide (x ≤ y)).toArray) : Fin w W4 n W.heap.size rB g K p d := by
  obtain ⟨h1, h2, h3, h4, h5⟩ := hH
  have hw := hS.bel h.bld (Nat.le_refl _)
  refine ⟨hw.trans (hb.mono hw.size), cell_later hb h1, holdsK_later hb h5, fun i hi => ?_, fun i hi => ?_⟩
  · have := hS.asked i hi rfl
    exact (hb.block _ (lt_of_heap this)).trans this
  · rw [← sorted_names h2 h3 h4] at hs
    have hi' : i < (d.toList.map nameOf).toArray.size := by simp; omega
    have := (hs i hi').1
    rw [Nat.zero_add, getElem!_pos _ i hi'] at this
    rw [this, getElem!_pos d i (by omega)]
    simp only [List.getElem_toArray, List.getElem_map, Array.getElem_toList]
    rw [nameOf, str_back]
/-- each entry is one of the tools -/
theorem ent_tool {K p : Nat → Nat} {n : Nat} {d : Array (Nat × ByteArray)} (hs : d.size = n) (hp : d.toList.Perm (dOf (GK K p) n).toList) (i : Nat) (hi : i < n) : ∃ j, j < n ∧ d[i]! = (p j, nm (K j)) := by
  have hm : d[i]! ∈ d.toList := by
    rw [getElem!_pos d i (by omega)]
    exact Array.getElem_mem_toList (by omega)
  have := hp.mem_iff.1 hm
  simp only [dOf, List.mem_map, List.mem_range] at this
  obtain ⟨j, hj, e⟩ := this
  exact ⟨j, hj, e.symm⟩

end Go.Proofs.YbulkatbqFmt
