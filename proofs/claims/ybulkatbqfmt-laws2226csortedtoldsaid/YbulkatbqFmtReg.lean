import Derived.Test.YbulkatbqFmtSortE
namespace Go.Proofs.YbulkatbqFmt
open Go.RowKit Go.Extern.Stop Go.Stop Go.Extern Go.Sort

/-- a registry over sorted entries -/
def Held (G : Given) (n eB rB : Nat) (d : Array (Nat × ByteArray)) (w' : World) : Prop :=
  w'.cell? ⟨rB, 0, .none⟩ = some (.slice (some ⟨eB, 0, .none⟩) n n) ∧ d.size = n ∧ d.toList.Perm (dOf G n).toList ∧ SortedIn (ltOf cf) 0 n d ∧ HoldsK encE 7 w' eB 0 d
/-- the entries lie sorted in the world W -/
structure Lie (w W : World) (G : Given) (k : Nat) (d : Array (Nat × ByteArray)) : Prop where
  st : St w W G k
  row : HoldsK encE 7 W w.heap.size 0 d
  lt : w.heap.size < W.heap.size
theorem Lie.drew {w W : World} {G : Given} {k : Nat} {d : Array (Nat × ByteArray)} (h : Lie w W G k d) (nq : Nat) : Lie w (W.drewN nq) G k d :=
  ⟨⟨h.st.os, h.st.tape, h.st.output, h.st.size, h.st.keep, h.st.asked⟩, h.row, h.lt⟩
theorem Lie.name {w W : World} {G : Given} {k : Nat} {d : Array (Nat × ByteArray)} (h : Lie w W G k d) (i : Nat) (hi : i < d.size) : W.cell? ⟨w.heap.size, i * 7 + 1, .none⟩ = some (.string d[i]!.2) := by
  have := (h.row.cell (i := i) (c := 1) hi (by omega)).1
  rw [Nat.zero_add] at this
  exact this
/-- what NewRegistry answers -/
def Answers (G : Given) (n : Nat) (w w' : World) (e : Ending) : Prop :=
  (∃ j, j < n ∧ (∀ i, i < j → G.Good i) ∧ ¬ G.Good j ∧ (∃ t q, e = .returned (.tuple #[.pointer none, .iface t q])) ∧ St w w' G (j + 1)) ∨
  ((∀ i, i < n → G.Good i) ∧ St w w' G n ∧
    ((¬ (namesOf G n).Nodup ∧ ∃ t q, e = .returned (.tuple #[.pointer none, .iface t q])) ∨
     ((namesOf G n).Nodup ∧ ∃ rB d, e = .returned (.tuple #[.pointer (some ⟨rB, 0, .none⟩), .nilIface]) ∧ Held G n w.heap.size rB d w')))

set_option maxRecDepth 100000 in
set_option maxHeartbeats 4000000 in
theorem reg_any (F : Interp) (G : Given) (tB n : Nat) (hn : n ≤ 1024) (hsz : ∀ i, i < n → (G.D i).size < 9223372036854775808) (w : World) (hF : F.answers w.tape) (hT : Tools w tB n G) :
    Calls Ybaf.prog 5 #[.slice (some ⟨tB, 0, .none⟩) n n] w fun e w' => Answers G n w w' e := by
  obtain ⟨i0, hi, hq0, hq1, hq2⟩ := info50
  have HT : Hid (Tools w tB n G) := hT
  have HF : Hid (F.answers w.tape) := hF
  have HS : Hid (∀ i, i < n → (G.D i).size < 9223372036854775808) := hsz
  clear hT hF hsz
  go_enter Ybaf.func5, Ybaf.ntmps5
  go_wp2_with (at_make; refine wpList_make_own _ rfl _ _ 44 rfl w.heap.size 50 i0 _ 7 Ybaf.underlying44 hi hq0 hq1 .i64 .i64 _ n rfl rfl rfl (by rw [hq2]; omega) (by unfold maxLen; omega) (Nat.le_refl _) ?_; intro w1 hown1 hg1)
  have hR0 : Row w1 w.heap.size n 0 [] := Row.of_own hown1
  have hS0 : St w w1 G 0 := (St.zero w G).later ((Below.refl _ _).grown hg1 (Nat.le_refl _) (by intro k hk; cases hk)) (fun i hi => absurd hi (by omega))
  clear hg1 hown1
  go_loopw [4, 15] (fun en i W => ∃ k : Nat, k ≤ n ∧ i = .int .i64 k ∧ en = .slice (some ⟨w.heap.size, 0, .none⟩) k n ∧ Row W w.heap.size n k (ents G k) ∧ St w W G k ∧ ∀ i, i < k → G.Good i) (fun _ i _ => n - (intOf i).toNat)
  case atStart => exact ⟨0, Nat.zero_le _, rfl, rfl, hR0, hS0, fun _ h => absurd h (by omega)⟩
  case round =>
    clear hR0 hS0
    rename World => W
    obtain ⟨k, hk, rfl, rfl, hR, hS, hG⟩ := hrel
    have HR : Hid (Row W w.heap.size n k (ents G k)) := hR
    have HW : Hid (St w W G k) := hS
    have HG : Hid (∀ i, i < k → G.Good i) := hG
    clear hR hS hG
    by_cases hlt : k < n
    · have hlt' : (k : Int) < (n : Int) := by omega
      have hc := HW.out.cell HT.out (by omega) k hlt
      cases hz : G.Z k
      case true =>
        have hc' : W.cell? ⟨tB, k, .none⟩ = some .nilIface := by rw [hc]; simp [Given.tv, hz]
        have HZ : Hid (G.Z k = true) := hz
        clear hc hz
        go_wp2_with fail
        refine (errorfNil F ((k : Int) + 1) n W.heap.size _ ?_ ?_ ?_).mono ?_
        · show F.answers W.tape
          rw [HW.out.tape]; exact HF.out
        · simp [go_sem]
        · simp [go_sem]
        rintro e w' ⟨⟨t, q, rfl⟩, hb⟩
        go_wp2_with fail
        refine bodyPost_ret (v := .tuple #[.pointer none, .iface t q]) (by simp [results, Ybaf.results5, go_sem]) rfl (Or.inl ⟨k, hlt, HG.out, fun h => ?_, ⟨t, q, rfl⟩, ?_⟩)
        · have := h.1; rw [HZ.out] at this; cases this
        · exact (HW.out.later (below_errs hb) fun i hi hz => HT.out.plt i (by omega) hz).skip HZ.out
      case false =>
        have hc' : W.cell? ⟨tB, k, .none⟩ = some (.iface 28 (.pointer (some ⟨G.p k, 0, .none⟩))) := by rw [hc]; simp [Given.tv, hz]
        have HZ : Hid (G.Z k = false) := hz
        have hi := info_any (G.p k) (G.D k) (G.E k) W (HW.out.fresh HT.out k (Nat.le_refl _) hlt hz)
        have HI : Hid (Calls Ybaf.prog 69 #[.pointer (some ⟨G.p k, 0, .none⟩)] W fun e w' => e = .returned (.agg #[.string (G.D k), .int .i64 0, .string noStr]) ∧ w'.heap[G.p k]? = some (.cells (toolCells (G.D k) (G.E k) 1 0) 36 (0, 0)) ∧ But (G.p k) W.heap.size W w') := hi
        clear hc hz hi
        have m1 := meth_info
        have m2 := meth_def
        go_upto_region 8 with (first
          | (go_at_call 69; refine HI.out.mono ?_; rintro e W1 ⟨rfl, hp1, hb1⟩; have HP1 : Hid (W1.heap[G.p k]? = some (.cells (toolCells (G.D k) (G.E k) 1 0) 36 (0, 0))) := hp1; have HB1 : Hid (But (G.p k) W.heap.size W W1) := hb1; clear hp1 hb1)
          | (go_at_call 68; refine (def_any (G.p k) (G.D k) (G.E k) _ HP1.out).mono ?_; rintro e W2 ⟨rfl, hp2, hb2⟩; have HP2 : Hid (W2.heap[G.p k]? = some (.cells (toolCells (G.D k) (G.E k) 1 1) 36 (0, 0))) := hp2; have HB2 : Hid (But (G.p k) W1.heap.size W1 W2) := hb2; clear hp2 hb2))
        refine wp_gen (fun W3 => Mid w W3 G n k W2.heap.size) (Mid.make HT.out hlt HZ.out HR.out HW.out (HB1.out.join HB2.out) HP2.out) ?_
        generalize W2.heap.size = xB
        clear HP1 HB1 HP2 HB2 HR HW HI hc' m1 m2
        clear W1 W2
        rintro W3 hM
        have HM : Hid (Mid w W3 G n k xB) := hM
        have x1 : W3.cell? ⟨xB, 1, .none⟩ = some (.string (G.D k)) := (cell_of hM.ent 1).trans rfl
        have x4 : W3.cell? ⟨xB, 4, .none⟩ = some (.string (G.E k)) := (cell_of hM.ent 4).trans rfl
        clear hM
        by_cases hE : G.E k = G.D k
        · rw [hE] at x4
          have HC : Hid (Calls Ybaf.prog 10 #[.string (G.D k)] W3 fun e w' => Checked (G.D k) W3 w' e) := check_any F (G.D k) (HS.out k hlt) W3 (by rw [HM.out.st.tape]; exact HF.out)
          have HE : Hid (G.E k = G.D k) := hE
          clear hE
          go_upto_region 11 with (go_at_call 10; refine HC.out.mono ?_; rintro e W4 ⟨⟨v, rfl, hv1, hv2⟩, hb4⟩)
          have hM4 := HM.out.later HT.out hlt hb4
          clear HC HM x1 x4 hb4
          clear W3
          by_cases hV : Valid (G.D k)
          · obtain rfl := hv1 hV
            clear hv1 hv2
            have x0 : W4.cell? ⟨xB, 0, .none⟩ = some (.iface 28 (.pointer (some ⟨G.p k, 0, .none⟩))) := (cell_of hM4.ent 0).trans rfl
            have x1 : W4.cell? ⟨xB, 1, .none⟩ = some (.string (G.D k)) := (cell_of hM4.ent 1).trans rfl
            have x2 : W4.cell? ⟨xB, 2, .none⟩ = some (.int .i64 0) := (cell_of hM4.ent 2).trans rfl
            have x3 : W4.cell? ⟨xB, 3, .none⟩ = some (.string noStr) := (cell_of hM4.ent 3).trans rfl
            have x4 : W4.cell? ⟨xB, 4, .none⟩ = some (.string (G.D k)) := by rw [← HE.out]; exact (cell_of hM4.ent 4).trans rfl
            have x5 : W4.cell? ⟨xB, 5, .none⟩ = some (.string noStr) := (cell_of hM4.ent 5).trans rfl
            have x6 : W4.cell? ⟨xB, 6, .none⟩ = some (.pointer none) := (cell_of hM4.ent 6).trans rfl
            have HM : Hid (Mid w W4 G n k xB) := hM4
            have HV : Hid (Valid (G.D k)) := hV
            clear hM4 hV
            have hown := HM.out.row.own hk hn (ents_len G k)
            have HO : Hid (W4.ownsRow w.heap.size 50 7 (.slice (some ⟨w.heap.size, 0, .none⟩) k n) k (ents G k)) := hown
            clear hown
            go_upto_region 14 with (at_builtin; go_must (refine wpList_append_fits _ rfl (.tmp 62) (.tmp 64) 44 rfl w.heap.size 50 i0 7 Ybaf.underlying44 hi hq1 w.heap.size k n (ents G k) rfl (HO.out.alloc _) ⟨W4.heap.size, 0, .none⟩ 1 1 (encE (G.p k, G.D k)) rfl rfl (cells_new W4 _) (encE_one _) (by omega) ?_); intro w5 hown5 hg5; have HO5 : Hid (w5.ownsRow w.heap.size 50 7 (.slice (some ⟨w.heap.size, 0, .none⟩) (k + 1) n) (k + 1) (ents G k ++ encE (G.p k, G.D k))) := hown5; have HG5 : Hid _ := hg5; clear hown5 hg5)
            have hS5 : St w w5 G (k + 1) := HM.out.st.later2 (((Below.refl _ W4).alloc HM.out.st.size _).grown HG5.out (Nat.le_trans HM.out.st.size (by simp)) (by intro j hj; cases hj; exact Nat.le_refl _)) fun i hi hz => HT.out.plt i (by omega) hz
            have hR5 : Row w5 w.heap.size n (k + 1) (ents G (k + 1)) := by rw [ents_succ]; exact Row.of_own HO5.out
            clear HG5 HO5 HO x0 x1 x2 x3 x4 x5 x6 HM
            go_wp2_with fail
            go_roundw
            case rel =>
              refine ⟨k + 1, by omega, by go_num, rfl, hR5, hS5, fun i hi => ?_⟩
              rcases Nat.lt_or_eq_of_le (Nat.le_of_lt_succ hi) with h' | rfl
              · exact HG.out i h'
              · exact ⟨HZ.out, HE.out, HV.out⟩
            case measure => simp [intOf]; omega
          · have hEr := hv2 hV
            have HEr : Hid (Err W4 v) := hEr
            have HM : Hid (Mid w W4 G n k xB) := hM4
            have HV : Hid (¬ Valid (G.D k)) := hV
            obtain ⟨a, rfl, -⟩ := hEr
            clear hv1 hv2 hM4 hV
            go_wp2_with fail
            have hA := (Below.refl W4.heap.size W4).alloc (Nat.le_refl _)
            refine (errorfWr F (.iface 85 (.pointer (some a))) W4.heap.size _ ?_ (HEr.out.later (hA _)) ?_).mono ?_
            · show F.answers W4.tape
              rw [HM.out.st.tape]; exact HF.out
            · simp [go_sem]
            rintro e w' ⟨⟨t, q, rfl⟩, hb⟩
            go_wp2_with fail
            exact bodyPost_ret (v := .tuple #[.pointer none, .iface t q]) (by simp [results, Ybaf.results5, go_sem]) rfl (Or.inl ⟨k, hlt, HG.out, fun h => HV.out h.2.2, ⟨t, q, rfl⟩, (HM.out.later HT.out hlt (below_errs hb)).st⟩)
        · have tE := str_ne hE
          have HE : Hid (¬ G.E k = G.D k) := hE
          clear hE
          go_wp2_with fail
          refine (errorfDef F (G.D k) (G.E k) W3.heap.size _ ?_ ?_ ?_).mono ?_
          · show F.answers W3.tape
            rw [HM.out.st.tape]; exact HF.out
          · simp [go_sem]
          · simp [go_sem]
          rintro e w' ⟨⟨t, q, rfl⟩, hb⟩
          go_wp2_with fail
          exact bodyPost_ret (v := .tuple #[.pointer none, .iface t q]) (by simp [results, Ybaf.results5, go_sem]) rfl (Or.inl ⟨k, hlt, HG.out, fun h => HE.out h.2.1, ⟨t, q, rfl⟩, (HM.out.later HT.out hlt (below_errs hb)).st⟩)
    · have hlt' : ¬ (k : Int) < (n : Int) := by omega
      obtain rfl : k = n := by omega
      have hcon := sortE w.heap.size k k (dOf G k) (dOf_size G k) hn W (holds_row HR.out) HR.out.lt
      have HC : Hid (Calls Ybaf.prog 11 #[.slice (some ⟨w.heap.size, 0, .none⟩) k k, .func (.func 12) #[] #[]] W fun e w' => e = .returned (.tuple #[]) ∧ SortedE w.heap.size (dOf G k) W w') := hcon
      clear hcon
      go_upto_region 16 with (go_at_call 11; refine HC.out.mono ?_; rintro e W2 ⟨rfl, d, hd1, hd2, hd3, hd4, hb⟩)
      rw [dOf_size] at hd1 hd3
      have hS2 : St w W2 G k := HW.out.later2 ⟨hb.os, hb.tape, hb.output, hb.size, fun b hbw => hb.block b (Nat.lt_of_lt_of_le hbw HW.out.size) (by omega)⟩ fun i hi hz => HT.out.plt i hi hz
      have HS2 : Hid (St w W2 G k) := hS2
      have H2 : Hid (d.toList.Perm (dOf G k).toList) := hd2
      have H3 : Hid (SortedIn (ltOf cf) 0 k d) := hd3
      have H4 : Hid (HoldsK encE 7 W2 w.heap.size 0 d) := hd4
      have H1 : Hid (d.size = k) := hd1
      have hLW : w.heap.size < W2.heap.size := Nat.lt_of_lt_of_le HR.out.lt hb.size
      clear hS2 hd1 hd2 hd3 hd4 hb HR HW HC hk hlt hlt'
      clear W
      have hL : Lie w W2 G k d := ⟨HS2.out, H4.out, hLW⟩
      clear HS2 H4 hLW
      go_wp2_with fail
      go_loopw [9] (fun i W => ∃ q : Nat, q ≤ k ∧ i = .int .i64 ((q : Int) + 1) ∧ Lie w W G k d ∧ ∀ i, 1 ≤ i → i < q + 1 → i < k → d[i]!.2 ≠ d[i - 1]!.2) (fun i _ => k + 1 - (intOf i).toNat)
      case atStart => exact ⟨0, Nat.zero_le _, rfl, hL, fun i h1 h2 => absurd h2 (by omega)⟩
      case round =>
        clear hL
        rename World => W
        obtain ⟨q, hq, rfl, hL, hne⟩ := hrel
        have HL : Hid (Lie w W G k d) := hL
        have HN : Hid (∀ i, 1 ≤ i → i < q + 1 → i < k → d[i]!.2 ≠ d[i - 1]!.2) := hne
        clear hne
        by_cases hlt : q + 1 < k
        · have hlt' : (q : Int) + 1 < (k : Int) := by omega
          have c1 := hL.name (q + 1) (by rw [H1.out]; omega)
          have c0 := hL.name q (by rw [H1.out]; omega)
          clear hL
          obtain ⟨x, hx⟩ : ∃ x, x = d[q + 1]!.2 := ⟨_, rfl⟩
          obtain ⟨y, hy⟩ : ∃ y, y = d[q]!.2 := ⟨_, rfl⟩
          rw [← hx] at c1
          rw [← hy] at c0
          have HX : Hid (x = d[q + 1]!.2) := hx
          have HY : Hid (y = d[q]!.2) := hy
          clear hx hy
          by_cases hxy : x = y
          · subst hxy
            go_upto_region 19 with fail
            go_quiet (fail)
            go_wp2_with fail
            refine (errorfTwo F x W.heap.size _ ?_ ?_).mono ?_
            · show F.answers W.tape
              rw [HL.out.st.tape]; exact HF.out
            · exact cell_of (heap_alloc_new (w := W.drewN nq) rfl _) 0
            rintro e w' ⟨⟨t, r, rfl⟩, hb⟩
            go_wp2_with fail
            exact bodyPost_ret (v := .tuple #[.pointer none, .iface t r]) (by simp [results, Ybaf.results5, go_sem]) rfl (Or.inr ⟨HG.out, (HL.out.drew nq).st.later (below_errs hb) fun i hi hz => HT.out.plt i hi hz, Or.inl ⟨twin H1.out H2.out q (q + 1) (by omega) hlt (HX.out.symm.trans HY.out), ⟨t, r, rfl⟩⟩⟩)
          · have tE := str_ne hxy
            have HXY : Hid (¬ x = y) := hxy
            clear hxy
            go_upto_region 19 with fail
            go_quiet (fail)
            go_wp2_with fail
            go_roundw
            case rel =>
              refine ⟨q + 1, by omega, by go_num, HL.out.drew _, fun i h1 h2 h3 => ?_⟩
              rcases Nat.lt_or_eq_of_le (Nat.le_of_lt_succ h2) with h' | rfl
              · exact HN.out i h1 h' h3
              · rw [← HX.out]
                exact fun e => HXY.out (e.trans HY.out.symm)
            case measure => simp [intOf]; omega
        · have hlt' : ¬ (q : Int) + 1 < (k : Int) := by omega
          have hnt : (namesOf G k).Nodup := no_twin H1.out H2.out H3.out fun i h1 h2 => HN.out i h1 (by omega) h2
          have HNT : Hid ((namesOf G k).Nodup) := hnt
          clear hL hnt
          go_wp2_with fail
          refine bodyPost_ret (v := .tuple #[.pointer (some ⟨W.heap.size, 0, .none⟩), .nilIface]) (by simp [results, Ybaf.results5, go_sem]) rfl (Or.inr ⟨HG.out, ?_, Or.inr ⟨HNT.out, W.heap.size, d, rfl, ?_, H1.out, H2.out, H3.out, ?_⟩⟩)
          · exact HL.out.st.later ((Below.refl _ W).alloc (Nat.le_refl _) _) fun i hi hz => HT.out.plt i hi hz
          · simp [go_sem]
          · intro j hj
            have hB := (Below.refl W.heap.size W).alloc (Nat.le_refl _)
            rw [(hB _).cell (p := ⟨w.heap.size, 0 + j, .none⟩) HL.out.lt, (hB _).frozen (p := ⟨w.heap.size, 0 + j, .none⟩) HL.out.lt]
            exact HL.out.row j hj
end Go.Proofs.YbulkatbqFmt
