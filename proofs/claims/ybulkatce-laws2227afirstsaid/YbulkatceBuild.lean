import Derived.Test.YbulkatceWalks
import Derived.Great.BuildSlice
namespace Go.Proofs.Ybulkatce
open Go.RowKit

def stcA (a b c d : Int) : Array Value := (((z45.setIfInBounds 1 (.int .i64 a)).setIfInBounds 18 (.int .u64 b)).setIfInBounds 19 (.int .u64 c)).setIfInBounds 52 (.int .i64 d)
theorem stcA_fold (a b c d : Int) : (((z45.setIfInBounds 1 (.int .i64 a)).setIfInBounds 18 (.int .u64 b)).setIfInBounds 19 (.int .u64 c)).setIfInBounds 52 (.int .i64 d) = stcA a b c d := rfl
def stc (v : Int × Int × Int × Int) : List Value := (stcA v.1 v.2.1 v.2.2.1 v.2.2.2).toList
theorem stcA_size (a b c d : Int) : (stcA a b c d).size = 88 := by simp [stcA, z45_size]
theorem fill_one (S : Array Value) (n : Nat) (hn : 0 < n) (hS : S.size = n) (base : Array Value) (hb : base.size = n) : Instr.fill (fun i => some (i * n, n)) base [(0, .agg S)] = some S := by
  have := Great.fill_whole (s := n) hn [Value.agg S] base (by intro v hv; simp at hv; subst hv; simpa [Value.cells] using hS) (by simp [hb])
  simpa [Value.cells] using this
theorem wpList_buildOne {P : Program} {ops : Array Oper} {rest : List Oper} {o : Oper} {a : Act} {w : World} {Q : Exit → Act → World → Prop} (hg : o.guard = none) (t e : TypeId) (x : Operand) (ho : o.op = .buildSlice t 1 #[(0, x)])
    (S : Array Value) (ie : TypeInfo) (z : Value) (hu : P.underlying t = some (.slice e)) (hie : P.info? e = some ie) (hz : ie.zero = some z) (n : Nat) (hs : ie.size = n) (hn : 0 < n) (hb : n ≤ 16777216) (hS : S.size = n)
    (hev : a.eval x = .agg S) (N : Nat) (hN : w.heap.size = N)
    (h : wpList P ops Q rest (a.put o.dst (.slice (some ⟨N, 0, none⟩) 1 1)) (w.alloc (.cells S e))) : wpList P ops Q (o :: rest) a w := by
  subst hN
  refine wpList_buildSlice hg t e 1 _ ho S ie z hu hie hz (by rw [hs]; omega) (by rw [hs]; omega) ?_ h
  rw [hs]
  have e1 : (#[(0, x)].map fun ((i : Nat), x) => (i, a.eval x)).toList = [(0, .agg S)] := by simp [hev]
  rw [e1]
  exact fill_one S n hn hS _ (by simp)
theorem z45_one : z45.all (·.oneCell') = true := by kernel_rfl
theorem stcA_one (a b c d : Int) : ∀ u ∈ (stcA a b c d).toList, u.oneCell' = true := by
  intro u hu
  have h := Array.all_eq_true_iff_forall_mem.1 z45_one
  have hu' : u ∈ stcA a b c d := by simpa using hu
  unfold stcA at hu'
  rcases Array.mem_or_eq_of_mem_setIfInBounds hu' with hu' | rfl
  · rcases Array.mem_or_eq_of_mem_setIfInBounds hu' with hu' | rfl
    · rcases Array.mem_or_eq_of_mem_setIfInBounds hu' with hu' | rfl
      · rcases Array.mem_or_eq_of_mem_setIfInBounds hu' with hu' | rfl
        · exact h u hu'
        · rfl
      · rfl
    · rfl
  · rfl
theorem cells_alloc3 (W : World) (X Y : Obj) (S : Array Value) : ∀ j u, S.toList[j]? = some u → (((W.alloc X).alloc Y).alloc (.cells S 45)).cell? ((⟨W.heap.size + 1 + 1, 0, .none⟩ : Addr).add j) = some u := by
  intro j u hu
  have h := heap_alloc_new ((W.alloc X).alloc Y) (.cells S 45)
  have e : ((W.alloc X).alloc Y).heap.size = W.heap.size + 1 + 1 := by simp
  rw [e] at h
  rw [Addr.add_mid, cell_of_row _ _ _ _ _ _ h]
  simpa using hu
theorem stc_len (v : Int × Int × Int × Int) : (stc v).length = 88 := by simp [stc, stcA_size]
theorem i45 : (Yba.prog.info? 45).map (·.size) = some 88 := by kernel_rfl

set_option maxHeartbeats 400000 in
theorem build_nil (w : World) :
    Calls Yba.prog 5 #[.slice .none 0 0] w fun e w' => e = .returned (.agg #[.slice .none 0 0]) ∧ Below w.heap.size w w' := by
  have hnil : ∀ (w : World) (a : Option Addr) (n c : Nat), (binOp .eql 22 (.slice a n c) (.slice .none 0 0)).run Yba.prog w = .ok (.bool a.isNone) w := fun w a n c => Lib.run_eql_slice_nil w 22 39 a n c 0 0 Yba.underlying22
  go_enter Yba.func5, Yba.ntmps5
  go_wp2
  exact bodyPost_ret (v := .agg #[.slice .none 0 0]) (by simp [results, Yba.results5, go_sem]) rfl ⟨rfl, (Below.refl _ _).alloc (Nat.le_refl _) _⟩

theorem block_step {wr w2 : World} {B : Nat} {o : Obj} {X Y Z : Obj} (hB : wr.heap[B]? = some o) (hlt : B < wr.heap.size) (hg : (((wr.alloc X).alloc Y).alloc Z).grownBy w2 (some (B + 1))) : w2.heap[B]? = some o := by
  rw [hg.block B (by simp; omega) (by simp), Below.heap_alloc _ _ _ (by simp; omega), Below.heap_alloc _ _ _ (by simp; omega), Below.heap_alloc _ _ _ hlt]
  exact hB
theorem below_step {w wr w2 : World} {X Y Z : Obj} (hb : Below w.heap.size w wr) (hg : (((wr.alloc X).alloc Y).alloc Z).grownBy w2 (some (w.heap.size + 1))) : Below w.heap.size w w2 := by
  have hs := hb.size
  exact (((hb.alloc hs _).alloc (by simp; omega) _).alloc (by simp; omega) _).grown hg (by simp; omega) (by intro k hk; cases hk; omega)
theorem first_step (V : Nat → Int × Int × Int × Int) (k : Nat) (xs : List Value) (hl : xs.length = k * 88) (h : 0 < k → xs.take 88 = stc (V 0)) :
    (xs ++ (stcA (V k).1 (V k).2.1 (V k).2.2.1 (V k).2.2.2).toList).take 88 = stc (V 0) := by
  by_cases hk : k = 0
  · subst hk
    have : xs = [] := List.length_eq_zero_iff.1 (by simpa using hl)
    subst this
    have hs := stcA_size (V 0).1 (V 0).2.1 (V 0).2.2.1 (V 0).2.2.2
    rw [List.nil_append, List.take_of_length_le (by simp [hs])]
    rfl
  · rw [List.take_append_of_le_length (by omega)]
    exact h (by omega)
theorem first_range {w : World} {B n : Nat} {xs : List Value} {L : List Value} (hn : 0 < n) (hown : w.ownsRow (B + 1) 45 88 (.slice (some ⟨B + 1, 0, .none⟩) n n) n xs) (hx : xs.take 88 = L) : w.rangeAt (B + 1) 0 L := by
  obtain ⟨hlen, h | ⟨g, cap, cur, hv, hg, hh, h1, h2, h3, h4⟩⟩ := hown
  · simp at h
  · simp at hv
    obtain ⟨rfl, rfl⟩ := hv
    intro j v hj
    rw [Nat.zero_add, cell_of_row _ _ _ _ _ _ hh]
    rw [← hx, ← h4] at hj
    have hj88 : j < 88 := by
      have := (List.getElem?_eq_some_iff.1 hj).1
      simp at this; omega
    rw [List.getElem?_take_of_lt hj88, List.getElem?_take_of_lt (by omega)] at hj
    simpa using hj

set_option maxHeartbeats 400000 in
theorem build_any (b off n cap : Nat) (V : Nat → Int × Int × Int × Int) (hn : n ≤ 1024) (w : World) (hb : b < w.heap.size)
    (h0 : ∀ i, i < n → w.cell? ⟨b, off + i * 4, .none⟩ = some (.int .i64 (V i).1))
    (h1 : ∀ i, i < n → w.cell? ⟨b, off + i * 4 + 1, .none⟩ = some (.int .u64 (V i).2.1))
    (h2 : ∀ i, i < n → w.cell? ⟨b, off + i * 4 + 2, .none⟩ = some (.int .u64 (V i).2.2.1))
    (h3 : ∀ i, i < n → w.cell? ⟨b, off + i * 4 + 3, .none⟩ = some (.int .i64 (V i).2.2.2)) :
    Calls Yba.prog 5 #[.slice (some ⟨b, off, .none⟩) n cap] w fun e w' => e = .returned (.agg #[.slice (some ⟨w.heap.size + 1, 0, .none⟩) n n]) ∧ Below w.heap.size w w' ∧ (0 < n → w'.rangeAt (w.heap.size + 1) 0 (stc (V 0))) := by
  have hnil : ∀ (w : World) (a : Option Addr) (n c : Nat), (binOp .eql 22 (.slice a n c) (.slice .none 0 0)).run Yba.prog w = .ok (.bool a.isNone) w := fun w a n c => Lib.run_eql_slice_nil w 22 39 a n c 0 0 Yba.underlying22
  have hz45 := (zero_of_info inf45').1
  obtain ⟨i0, hi, hq0, hq1, hq2⟩ := info_parts inf45
  go_enter Yba.func5, Yba.ntmps5
  go_wp2_with (at_make; refine wpList_make_own _ rfl _ _ 23 rfl (w.heap.size + 1) 45 i0 (.agg z45) 88 Yba.underlying23 hi hq0 hq1 .i64 .i64 _ n rfl rfl rfl (by rw [hq2]; omega) (by unfold maxLen; omega) (by simp) ?_; intro w1 hown1 hg1)
  have hsz : (w.alloc (Obj.cells #[Value.slice .none 0 0] 25)).heap.size = w.heap.size + 1 := by simp
  rw [hsz] at hown1
  have hB1 : w1.heap[w.heap.size]? = some (.cells #[.slice .none 0 0] 25 (0, 0)) := by
    rw [hg1.block _ (by simp) (by simp)]; exact heap_alloc_new _ _
  have hbel : Below w.heap.size w w1 := ((Below.refl _ _).alloc (Nat.le_refl _) _).grown hg1 (by simp) (by intro k hk; cases hk)
  clear hg1
  go_loopw [3, 4] (fun o i wr => ∃ (k : Nat) (xs : List Value), k ≤ n ∧ i = .int .i64 k ∧ o = .slice (some ⟨w.heap.size + 1, 0, .none⟩) k n ∧ wr.ownsRow (w.heap.size + 1) 45 88 (.slice (some ⟨w.heap.size + 1, 0, .none⟩) k n) k xs ∧
      wr.heap[w.heap.size]? = some (.cells #[.slice .none 0 0] 25 (0, 0)) ∧ Below w.heap.size w wr ∧ (0 < k → xs.take 88 = stc (V 0))) (fun _ i _ => n - (intOf i).toNat)
  case atStart => exact ⟨0, [], Nat.zero_le _, rfl, by simp, hown1, hB1, hbel, by simp⟩
  case round =>
    clear hown1 hB1 hbel
    obtain ⟨k, xs, hk, rfl, rfl, hown, hB, hbel, hfst⟩ := hrel
    have hbs := hbel.size
    by_cases hlt : k < n
    · have c0 := (hbel.cell (p := ⟨b, off + k * 4, .none⟩) hb).trans (h0 k hlt)
      have c1 := (hbel.cell (p := ⟨b, off + k * 4 + 1, .none⟩) hb).trans (h1 k hlt)
      have c2 := (hbel.cell (p := ⟨b, off + k * 4 + 2, .none⟩) hb).trans (h2 k hlt)
      have c3 := (hbel.cell (p := ⟨b, off + k * 4 + 3, .none⟩) hb).trans (h3 k hlt)
      have Hh : Hid (0 < k → xs.take 88 = stc (V 0)) := hfst
      have HB : Hid (wr.heap[w.heap.size]? = some (.cells #[.slice .none 0 0] 25 (0, 0))) := hB
      clear hfst hB h0 h1 h2 h3
      have q1 := z45_1
      have q2 := z45_18
      have q3 := z45_19
      have q4 := z45_52
      have q5 := z45_size
      have hS := stcA_size (V k).1 (V k).2.1 (V k).2.2.1 (V k).2.2.2
      have hone := stcA_one (V k).1 (V k).2.1 (V k).2.2.1 (V k).2.2.2
      go_wp2_with (first
        | (refine wpList_load_row rfl 45 (.tmp 6) rfl (wr.heap.size + 1) rfl 45 _ (0, 0) _ (heap_alloc2_new _ _ _) Yba.underlying45 rfl ?_ ?_; rw [stcA_fold, hS]; exact i45; rw [stcA_fold])
        | (refine wpList_buildOne rfl 23 45 (.tmp 40) rfl (stcA (V k).1 (V k).2.1 (V k).2.2.1 (V k).2.2.2) i0 (.agg z45) Yba.underlying23 hi hq0 88 hq1 (by omega) (by omega) hS rfl (wr.heap.size + 1 + 1) (by simp) ?_)
        | (at_builtin; go_must (refine wpList_append_fits _ rfl (.tmp 39) (.tmp 41) 23 rfl (w.heap.size + 1) 45 i0 88 Yba.underlying23 hi hq1 (w.heap.size + 1) k n xs rfl (((hown.alloc _).alloc _).alloc _) ⟨wr.heap.size + 1 + 1, 0, .none⟩ 1 1 (stcA (V k).1 (V k).2.1 (V k).2.2.1 (V k).2.2.2).toList rfl (by simpa using hS) (cells_alloc3 _ _ _ _) hone (by omega) ?_); intro w2 hown2 hg2; have HG : Hid _ := hg2; clear hg2))
      go_roundw
      case rel =>
        have hlB : w.heap.size < wr.heap.size := lt_of_block HB.out
        exact ⟨k + 1, _, by omega, by go_num, rfl, hown2, block_step HB.out hlB HG.out, below_step hbel HG.out, fun _ => first_step V k xs hown.1 Hh.out⟩
      case measure => simp [intOf]; omega
    · have hkn : k = n := by omega
      subst hkn
      have d1 := cell_of_one hB
      have d2 := free_of_one hB
      go_wp2
      refine bodyPost_ret (v := .agg #[.slice (some ⟨w.heap.size + 1, 0, .none⟩) k k]) (by simp [results, Yba.results5, go_sem, World.cell?_setCell_same _ _ _ d1]) rfl ⟨rfl, hbel.setCell (Nat.le_refl _) _, fun hk0 => ?_⟩
      have hr := first_range hk0 hown (hfst hk0)
      intro j v hj
      rw [World.cell?_setCell_other _ _ _ _ (by simp)]
      exact hr j v hj

end Go.Proofs.Ybulkatce
