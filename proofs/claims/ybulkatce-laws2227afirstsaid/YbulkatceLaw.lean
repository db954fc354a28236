import Derived.Test.YbulkatceBuild
namespace Go.Proofs.Ybulkatce
open Go.RowKit

set_option maxHeartbeats 400000 in
theorem build_zero (a : Addr) (cap : Nat) (w : World) :
    Calls Yba.prog 5 #[.slice (some a) 0 cap] w fun e w' => e = .returned (.agg #[.slice (some ⟨w.heap.size + 1, 0, .none⟩) 0 0]) ∧ Below w.heap.size w w' := by
  have hnil : ∀ (w : World) (a : Option Addr) (n c : Nat), (binOp .eql 22 (.slice a n c) (.slice .none 0 0)).run Yba.prog w = .ok (.bool a.isNone) w := fun w a n c => Lib.run_eql_slice_nil w 22 39 a n c 0 0 Yba.underlying22
  obtain ⟨i0, hi, hq0, hq1, hq2⟩ := info_parts inf45
  go_enter Yba.func5, Yba.ntmps5
  go_wp2_with (at_make; refine wpList_make_own _ rfl _ _ 23 rfl (w.heap.size + 1) 45 i0 (.agg z45) 88 Yba.underlying23 hi hq0 hq1 .i64 .i64 _ 0 rfl rfl rfl (by rw [hq2]; omega) (by unfold maxLen; omega) (by simp) ?_; intro w1 hown1 hg1)
  have hsz : (w.alloc (Obj.cells #[Value.slice .none 0 0] 25)).heap.size = w.heap.size + 1 := by simp
  rw [hsz] at hown1
  have hB1 : w1.heap[w.heap.size]? = some (.cells #[.slice .none 0 0] 25 (0, 0)) := by
    rw [hg1.block _ (by simp) (by simp)]; exact heap_alloc_new _ _
  have hbel : Below w.heap.size w w1 := ((Below.refl _ _).alloc (Nat.le_refl _) _).grown hg1 (by simp) (by intro k hk; cases hk)
  clear hg1
  have d1 := cell_of_one hB1
  have d2 := free_of_one hB1
  clear hown1 hB1
  refine wp_loop_rounds 1 ?_
  rw [rounds_succ]
  go_wp2
  exact bodyPost_ret (v := .agg #[.slice (some ⟨w.heap.size + 1, 0, .none⟩) 0 0]) (by simp [results, Yba.results5, go_sem, World.cell?_setCell_same _ _ _ d1]) rfl ⟨rfl, hbel.setCell (Nat.le_refl _) _⟩

theorem st36' (c' : Array Value) (hs : c'.size = 87) (h1 : c'.all (·.oneCell') = true) (W : World) :
    (storeCells ⟨W.heap.size, 0, .none⟩ c'.toList).run Yba.prog (W.alloc (.cells z36 36)) = .ok () (W.alloc (.cells c' 36)) :=
  run_storeCells_new (P := Yba.prog) W 36 z36 c' (by rw [hs]; exact i36) (by rw [hs]; exact z36_size) h1

theorem z36_1 (h : 1 < z36.size) : z36[1] = .int .i64 0 := Option.some.inj ((Array.getElem?_eq_getElem h).symm.trans (by kernel_rfl))
theorem z36_18 (h : 18 < z36.size) : z36[18] = .int .u64 0 := Option.some.inj ((Array.getElem?_eq_getElem h).symm.trans (by kernel_rfl))
theorem z36_19 (h : 19 < z36.size) : z36[19] = .int .u64 0 := Option.some.inj ((Array.getElem?_eq_getElem h).symm.trans (by kernel_rfl))
theorem z36_52 (h : 52 < z36.size) : z36[52] = .int .i64 0 := Option.some.inj ((Array.getElem?_eq_getElem h).symm.trans (by kernel_rfl))

/-- no votes -/
theorem law_none (ao : Option Addr) (cap : Nat) (w : World) (go : Option Addr) (gc : Nat)
    (hbuild : Calls Yba.prog 5 #[.slice ao 0 cap] w fun e w' => e = .returned (.agg #[.slice go 0 gc]) ∧ Below w.heap.size w w') :
    Calls Yba.prog 3 #[.slice ao 0 cap] w fun e w' => e = .returned (.bool true) ∧ Below w.heap.size w w' := by
  have hz := (zero_of_info inf36).1
  have hzs := z36_size
  have hst := st36' z36 z36_size z36_one
  have q1 := z36_1
  have q2 := z36_18
  have q3 := z36_19
  have q4 := z36_52
  have HBu : Hid (Calls Yba.prog 5 #[.slice ao 0 cap] w fun e w' => e = .returned (.agg #[.slice go 0 gc]) ∧ Below w.heap.size w w') := hbuild
  clear hbuild
  go_enter Yba.func3, Yba.ntmps3
  go_wp2_with (first
    | (go_at_call 5; refine Calls.mono HBu.out ?_; rintro e w1 ⟨rfl, hb1⟩)
    | (go_at_call 6; refine (first_none _ _ _).mono ?_; rintro e w2 ⟨rfl, hb2⟩))
  go_ret
  exact ⟨rfl, ((((hb1.alloc hb1.size _).trans (hb2.mono (by have := hb1.size; simp; omega)))).alloc (by have := hb1.size; have := hb2.size; simp at this; omega) _)⟩

theorem law_zero (a : Addr) (cap : Nat) (w : World) : Calls Yba.prog 3 #[.slice (some a) 0 cap] w fun e w' => e = .returned (.bool true) ∧ Below w.heap.size w w' :=
  law_none (some a) cap w (some ⟨w.heap.size + 1, 0, .none⟩) 0 (build_zero a cap w)

theorem law_big (ao : Option Addr) (n cap : Nat) (hn : 1024 < n) (w : World) :
    Calls Yba.prog 3 #[.slice ao n cap] w fun e w' => e = .returned (.bool true) ∧ Below w.heap.size w w' := by
  have hn' : (1024 : Int) < (n : Int) := by omega
  go_enter Yba.func3, Yba.ntmps3
  go_wp2
  go_ret
  exact ⟨rfl, Below.refl _ _⟩

def st (v : Int × Int × Int × Int) : Array Value := ((stc v).take 87).toArray
theorem st_size (v : Int × Int × Int × Int) : (st v).size = 87 := by simp [st, stc_len]
theorem st_one (v : Int × Int × Int × Int) : (st v).all (·.oneCell') = true :=
  all_oneCell_toArray (fun u hu => stcA_one v.1 v.2.1 v.2.2.1 v.2.2.2 u (List.mem_of_mem_take hu))
theorem st_get (v : Int × Int × Int × Int) (j : Nat) (hj : j < 87) : (st v)[j]? = (stcA v.1 v.2.1 v.2.2.1 v.2.2.2)[j]? := by
  simp [st, stc, List.getElem?_take_of_lt hj]
theorem get_of {A : Array Value} {j : Nat} {u : Value} (h : A[j]? = some u) (hj : j < A.size) : A[j] = u := Option.some.inj ((Array.getElem?_eq_getElem hj).symm.trans h)
theorem st_1 (v : Int × Int × Int × Int) : (st v)[1]? = some (.int .i64 v.1) := by rw [st_get v 1 (by omega)]; simp [stcA, z45_size]
theorem st_18 (v : Int × Int × Int × Int) : (st v)[18]? = some (.int .u64 v.2.1) := by rw [st_get v 18 (by omega)]; simp [stcA, z45_size]
theorem st_19 (v : Int × Int × Int × Int) : (st v)[19]? = some (.int .u64 v.2.2.1) := by rw [st_get v 19 (by omega)]; simp [stcA, z45_size]
theorem st_52 (v : Int × Int × Int × Int) : (st v)[52]? = some (.int .i64 v.2.2.2) := by rw [st_get v 52 (by omega)]; simp [stcA, z45_size]
theorem range_take {w : World} {b o : Nat} {cs : List Value} (h : w.rangeAt b o cs) (n : Nat) : w.rangeAt b o (cs.take n) := fun j v hj => by
  have hl := (List.getElem?_eq_some_iff.1 hj).1
  rw [List.getElem?_take_of_lt (by simp at hl; omega)] at hj
  exact h j v hj

def VCells (w : World) (b off n : Nat) (V : Nat → Int × Int × Int × Int) : Prop :=
  (∀ i, i < n → w.cell? ⟨b, off + i * 4, .none⟩ = some (.int .i64 (V i).1)) ∧ (∀ i, i < n → w.cell? ⟨b, off + i * 4 + 1, .none⟩ = some (.int .u64 (V i).2.1)) ∧
  (∀ i, i < n → w.cell? ⟨b, off + i * 4 + 2, .none⟩ = some (.int .u64 (V i).2.2.1)) ∧ (∀ i, i < n → w.cell? ⟨b, off + i * 4 + 3, .none⟩ = some (.int .i64 (V i).2.2.2))
theorem build_cells (b off n cap : Nat) (V : Nat → Int × Int × Int × Int) (hn : n ≤ 1024) (w : World) (hb : b < w.heap.size) (hV : VCells w b off n V) :
    Calls Yba.prog 5 #[.slice (some ⟨b, off, .none⟩) n cap] w fun e w' => e = .returned (.agg #[.slice (some ⟨w.heap.size + 1, 0, .none⟩) n n]) ∧ Below w.heap.size w w' ∧ (0 < n → w'.rangeAt (w.heap.size + 1) 0 (stc (V 0))) :=
  build_any b off n cap V hn w hb hV.1 hV.2.1 hV.2.2.1 hV.2.2.2

set_option maxHeartbeats 400000 in
theorem law_some (b off n cap : Nat) (V : Nat → Int × Int × Int × Int) (hn : n ≤ 1024) (hn0 : 0 < n) (w : World) (hb : b < w.heap.size) (hV : VCells w b off n V) :
    Calls Yba.prog 3 #[.slice (some ⟨b, off, .none⟩) n cap] w fun e w' => e = .returned (.bool true) ∧ Below w.heap.size w w' := by
  have hz := (zero_of_info inf36).1
  have hzs := z36_size
  have g0 := hV.1 0 hn0
  have g1 := hV.2.1 0 hn0
  have g2 := hV.2.2.1 0 hn0
  have g3 := hV.2.2.2 0 hn0
  simp only [Nat.zero_mul, Nat.add_zero] at g0 g1 g2 g3
  have hnn : ¬ (1024 : Int) < (n : Int) := by omega
  have hne : ((n : Int) == 0) = false := by rw [beq_eq_false_iff_ne]; omega
  have hnp : (0 : Int) < (n : Int) := by omega
  obtain ⟨S, hS⟩ : ∃ S, S = st (V 0) := ⟨_, rfl⟩
  have hss : S.size = 87 := by rw [hS]; exact st_size _
  have hst := st36' S hss (by rw [hS]; exact st_one _)
  have q1 := fun h => get_of (A := S) (j := 1) (by rw [hS]; exact st_1 _) h
  have q2 := fun h => get_of (A := S) (j := 18) (by rw [hS]; exact st_18 _) h
  have q3 := fun h => get_of (A := S) (j := 19) (by rw [hS]; exact st_19 _) h
  have q4 := fun h => get_of (A := S) (j := 52) (by rw [hS]; exact st_52 _) h
  have HS : Hid (S = st (V 0)) := hS
  clear hS
  go_enter Yba.func3, Yba.ntmps3
  go_wp2_with fail
  refine (build_cells b off n cap V hn w hb hV).mono ?_
  rintro e w1 ⟨rfl, hb1, hr⟩
  have hr0 := hr hn0
  have HR : Hid (w1.rangeAt (w.heap.size + 1) 0 (stc (V 0))) := hr0
  clear hr hr0
  go_wp2_with fail
  refine (first_some (w.heap.size + 1) n n ((stc (V 0)).take 87) hn0 _ (by rw [List.length_take, stc_len]; rfl) (st_one _) (World.rangeAt_alloc (range_take HR.out 87) _)).mono ?_
  rintro e w2 ⟨rfl, hb2⟩
  rw [show ((stc (V 0)).take 87).toArray = S from HS.out.symm]
  have hbs := hb1.size
  have hb2' : Below w.heap.size w w2 := (hb1.alloc hb1.size _).trans (hb2.mono (by simp; omega))
  clear hb2
  have hbs2 := hb2'.size
  have k0 := (hb2'.cell (p := ⟨b, off, .none⟩) hb).trans g0
  have k1 := (hb2'.cell (p := ⟨b, off + 1, .none⟩) hb).trans g1
  have k2 := (hb2'.cell (p := ⟨b, off + 2, .none⟩) hb).trans g2
  have k3 := (hb2'.cell (p := ⟨b, off + 3, .none⟩) hb).trans g3
  have hb2s : b < w2.heap.size := by omega
  go_wp2_with fail
  go_ret
  exact ⟨rfl, (hb2'.alloc hbs2 _).alloc (by simp; omega) _⟩

end Go.Proofs.Ybulkatce
