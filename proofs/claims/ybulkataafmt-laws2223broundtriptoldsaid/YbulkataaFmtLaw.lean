import Derived.Test.YbulkataaFmtEnc
namespace Go.Proofs.YbulkataaFmt
open Go.RowKit Go.Extern.Stop Go.Stop Go.Extern

theorem z27 : (Ybaf.prog.info? 27).map (fun i => (i.zero, i.size)) = some (some (.agg #[.slice .none 0 0, .int .i64 0, .nilIface]), 3) := by kernel_rfl
theorem wr_new (w : World) : Wr (w.alloc (.cells #[.slice .none 0 0, .int .i64 0, .nilIface] 27)) w.heap.size (w.heap.size + 1) (.slice .none 0 0) [] 0 .nilIface :=
  ⟨by simp, World.ownsRow_nil _ _ _ _, by simp, by simp, by simp, by simp, by simp, by omega, by simp⟩

theorem heap_alloc_new' (W : World) (o : Obj) : (W.alloc o).heap[W.heap.size]? = some o := by
  show (W.heap.push o)[W.heap.size]? = some o
  simp
theorem own_new (W : World) (x : Nat) : (W.alloc (.cells #[.int .u8 (x : Int)] 5)).ownsRow W.heap.size 5 1 (.slice (some ⟨W.heap.size, 0, .none⟩) 1 1) [x].length (u8s [x]) :=
  ⟨rfl, .inr ⟨W.heap.size, 1, #[.int .u8 (x : Int)], rfl, Nat.le_refl _, heap_alloc_new' W _, Nat.le_refl _, by decide, rfl, rfl⟩⟩
theorem own_form {w : World} {B : Nat} {v : Value} {bs : List Nat} (h : w.ownsRow B 5 1 v bs.length (u8s bs)) (hn : bs ≠ []) : ∃ g cap, v = .slice (some ⟨g, 0, .none⟩) bs.length cap ∧ B ≤ g ∧ g < w.heap.size ∧ ∀ j x, bs[j]? = some x → w.cell? ⟨g, j, .none⟩ = some (.int .u8 (x : Nat)) := by
  rcases h.2 with ⟨_, hv⟩ | ⟨g', cap', cur, hv, hbg, hg, h1, h2, h3, h4⟩
  · exact absurd (List.length_eq_zero_iff.1 hv) hn
  refine ⟨g', cap', hv, hbg, lt_of_block hg, fun j x hx => ?_⟩
  have hj : j < bs.length := (List.getElem?_eq_some_iff.1 hx).1
  rw [cell_of_row _ _ _ _ _ _ hg]
  have : (cur.toList.take (bs.length * 1))[j]? = cur.toList[j]? := by rw [List.getElem?_take, if_pos (by omega)]
  rw [← Array.getElem?_toList, ← this, h4]
  simp [u8s, hx]

theorem eq_rows (g1 g2 n c d : Nat) (bs : List Nat) (hn : n = bs.length) (w : World) (h1 : ∀ j x, bs[j]? = some x → w.cell? ⟨g1, j, .none⟩ = some (.int .u8 (x : Nat))) (h2 : ∀ j x, bs[j]? = some x → w.cell? ⟨g2, j, .none⟩ = some (.int .u8 (x : Nat))) :
    Calls Ybaf.prog 8 #[.slice (some ⟨g1, 0, .none⟩) n c, .slice (some ⟨g2, 0, .none⟩) n d] w fun e w' => e = .returned (.bool true) ∧ w' = w := by
  have hb : ∀ g, (∀ j x, bs[j]? = some x → w.cell? ⟨g, j, .none⟩ = some (.int .u8 (x : Nat))) → Lib.BytesIn w (some ⟨g, 0, .none⟩) n (bs.map fun (x : Nat) => (x : Int)) := fun g h _ => ⟨g, 0, rfl, fun i hi => by
    have hi' : i < bs.length := by omega
    rw [Nat.zero_add, h i bs[i] (List.getElem?_eq_getElem hi')]
    simp [hi']⟩
  refine (Ybaf.bytes_Equal_all (some ⟨g1, 0, .none⟩) (some ⟨g2, 0, .none⟩) n c n d _ _ w (by simp [hn]) (by simp [hn]) (hb g1 h1) (hb g2 h2)).mono ?_
  rintro e w' ⟨rfl, rfl⟩
  exact ⟨by simp, rfl⟩

set_option maxRecDepth 100000 in
set_option maxHeartbeats 1000000 in
theorem law_bad (F : Interp) (mme enb : Nat) (hm : mme < 4294967296) (he : 16777215 < enb) (w : World) (hF : F.answers w.tape) :
    Calls Ybaf.prog 3 #[.int .u32 mme, .int .u32 enb] w fun e w' => e = .returned (.bool true) ∧ Below w.heap.size w w' := by
  have he' : (16777215 : Int) < (enb : Int) := by omega
  have o1 := octs_pos mme
  have o4 := octs_le mme hm
  have HU : Hid (Calls Ybaf.prog 5 #[.pointer (some ⟨w.heap.size, 0, .none⟩), .agg #[.int .u32 mme, .int .u32 enb]] (w.alloc (.cells #[.slice .none 0 0, .int .i64 0, .nilIface] 27)) fun e w' => e = .returned (.tuple #[]) ∧ (∃ v' t p, Wr w' w.heap.size ((w.alloc (.cells #[.slice .none 0 0, .int .i64 0, .nilIface] 27)).heap.size + 1) v' (mmeP mme) (8 * (mmeP mme).length) (.iface t p)) ∧ Below w.heap.size (w.alloc (.cells #[.slice .none 0 0, .int .i64 0, .nilIface] 27)) w') :=
    putUES_bad F mme enb w.heap.size hm he (w.alloc (.cells #[.slice .none 0 0, .int .i64 0, .nilIface] 27)) hF (wr_new w)
  go_enter Ybaf.func3, Ybaf.ntmps3
  go_wp2_with fail
  refine HU.out.mono ?_
  rintro e w1 ⟨rfl, ⟨v1, t, p, hw1⟩, hb1⟩
  have hbel : Below w.heap.size w w1 := ((Below.refl _ _).alloc (Nat.le_refl _) _).trans hb1
  clear hb1 HU
  go_wp2_with fail
  refine (blen_any mme 4 hm o4 (by decide) w1).mono ?_
  rintro e w2 ⟨rfl, rfl⟩
  obtain ⟨q, hq⟩ : ∃ q, octs mme = q + 1 := ⟨octs mme - 1, by omega⟩
  have HQ : Hid (octs mme = q + 1) := hq
  rw [hq]
  have q3 : q ≤ 3 := by omega
  clear hq o1 o4
  go_upto_region 5 with fail
  refine wp_gen (fun W => W.ownsRow w2.heap.size 5 1 (.slice (some ⟨w2.heap.size, 0, .none⟩) 1 1) [q * 4].length (u8s [q * 4]) ∧ Below w2.heap.size w2 W ∧ w2.heap.size ≤ W.heap.size) ⟨by have := own_new w2 (q * 4); push_cast at this; exact this, (Below.refl _ _).alloc (Nat.le_refl _) _, by simp⟩ ?_
  rintro W ⟨hown, hbW, hsW⟩
  have hA := bappend_any mme (q + 1) w2.heap.size hm (by omega) _ [q * 4] (by simp) W hown hsW
  have HA : Hid (Calls Ybaf.prog 7 #[.slice (some ⟨w2.heap.size, 0, .none⟩) 1 1, .int .u32 mme, .int .i64 ((q : Int) + 1)] W fun e w' => (∃ v', e = .returned v' ∧ w'.ownsRow w2.heap.size 5 1 v' ([q * 4] ++ be mme (q + 1)).length (u8s ([q * 4] ++ be mme (q + 1)))) ∧ Below w2.heap.size W w') := by
    have e : (((q + 1 : Nat) : Int)) = (q : Int) + 1 := by omega
    rw [e] at hA
    exact hA
  clear hA hown
  go_upto_region 6 with (go_at_call 7; refine HA.out.mono ?_; rintro e w3 ⟨⟨v3, rfl, hown3⟩, hb3⟩)
  have hb23 : Below w2.heap.size w2 w3 := hbW.trans hb3
  have hwr := hw1.later hb23
  have e0 : [q * 4] ++ be mme (q + 1) = mmeP mme := by unfold mmeP; rw [HQ.out]; simp; omega
  rw [e0] at hown3
  obtain ⟨g3, cap3, rfl, hg3, hl3, hc3⟩ := own_form hown3 (by simp [mmeP])
  obtain ⟨g1, cap1, hv1, hg1, hc1, _⟩ := hwr.form (by simp [mmeP])
  subst hv1
  have c0 := hwr.c0
  have c1 := hwr.c1
  have c2 := hwr.c2
  have hlen := mmeP_len mme
  obtain ⟨n, hn⟩ : ∃ n, n = (mmeP mme).length := ⟨_, rfl⟩
  rw [← hn] at c0 c1 hlen ⊢
  have HEq : Hid (Calls Ybaf.prog 8 #[.slice (some ⟨g1, 0, .none⟩) n cap1, .slice (some ⟨g3, 0, .none⟩) n cap3] w3 fun e w' => e = .returned (.bool true) ∧ w' = w3) := eq_rows g1 g3 n cap1 cap3 (mmeP mme) hn w3 hc1 hc3
  have n9 : n ≤ 5 := by have := octs_le mme hm; omega
  have hfin := hbel.trans (hb23.mono hbel.size)
  clear hwr hc3 hc1 hown3 HA hb3 hb23 hbW hw1 hlen hn e0
  go_wp2_with (go_at_call 8; refine HEq.out.mono ?_; rintro e w4 ⟨rfl, rfl⟩)
  go_ret
  exact ⟨rfl, hfin⟩
set_option maxRecDepth 100000 in
set_option maxHeartbeats 1000000 in
theorem law_ok (mme enb : Nat) (hm : mme < 4294967296) (he : enb < 16777216) (w : World) :
    Calls Ybaf.prog 3 #[.int .u32 mme, .int .u32 enb] w fun e w' => e = .returned (.bool true) ∧ Below w.heap.size w w' := by
  have he' : ¬ (16777215 : Int) < (enb : Int) := by omega
  have o1 := octs_pos mme
  have o4 := octs_le mme hm
  have HU : Hid (Calls Ybaf.prog 5 #[.pointer (some ⟨w.heap.size, 0, .none⟩), .agg #[.int .u32 mme, .int .u32 enb]] (w.alloc (.cells #[.slice .none 0 0, .int .i64 0, .nilIface] 27)) fun e w' => e = .returned (.tuple #[]) ∧ (∃ v', Wr w' w.heap.size ((w.alloc (.cells #[.slice .none 0 0, .int .i64 0, .nilIface] 27)).heap.size + 1) v' (pairP mme enb) (8 * (pairP mme enb).length) .nilIface) ∧ Below w.heap.size (w.alloc (.cells #[.slice .none 0 0, .int .i64 0, .nilIface] 27)) w') :=
    putUES_ok mme enb w.heap.size hm he (w.alloc (.cells #[.slice .none 0 0, .int .i64 0, .nilIface] 27)) (wr_new w)
  go_enter Ybaf.func3, Ybaf.ntmps3
  go_wp2_with fail
  refine HU.out.mono ?_
  rintro e w1 ⟨rfl, ⟨v1, hw1⟩, hb1⟩
  have hbel : Below w.heap.size w w1 := ((Below.refl _ _).alloc (Nat.le_refl _) _).trans hb1
  clear hb1 HU
  go_wp2_with fail
  refine (blen_any mme 4 hm o4 (by decide) w1).mono ?_
  rintro e w2 ⟨rfl, rfl⟩
  obtain ⟨q, hq⟩ : ∃ q, octs mme = q + 1 := ⟨octs mme - 1, by omega⟩
  have HQ : Hid (octs mme = q + 1) := hq
  rw [hq]
  have q3 : q ≤ 3 := by omega
  clear hq o1 o4
  go_upto_region 5 with fail
  refine wp_gen (fun W => W.ownsRow w2.heap.size 5 1 (.slice (some ⟨w2.heap.size, 0, .none⟩) 1 1) [q * 4].length (u8s [q * 4]) ∧ Below w2.heap.size w2 W ∧ w2.heap.size ≤ W.heap.size) ⟨by have := own_new w2 (q * 4); push_cast at this; exact this, (Below.refl _ _).alloc (Nat.le_refl _) _, by simp⟩ ?_
  rintro W ⟨hown, hbW, hsW⟩
  have hA := bappend_any mme (q + 1) w2.heap.size hm (by omega) _ [q * 4] (by simp) W hown hsW
  have HA : Hid (Calls Ybaf.prog 7 #[.slice (some ⟨w2.heap.size, 0, .none⟩) 1 1, .int .u32 mme, .int .i64 ((q : Int) + 1)] W fun e w' => (∃ v', e = .returned v' ∧ w'.ownsRow w2.heap.size 5 1 v' ([q * 4] ++ be mme (q + 1)).length (u8s ([q * 4] ++ be mme (q + 1)))) ∧ Below w2.heap.size W w') := by
    have e : (((q + 1 : Nat) : Int)) = (q : Int) + 1 := by omega
    rw [e] at hA
    exact hA
  clear hA hown
  go_upto_region 6 with (go_at_call 7; refine HA.out.mono ?_; rintro e w3 ⟨⟨v3, rfl, hown3⟩, hb3⟩)
  have hb23 : Below w2.heap.size w2 w3 := hbW.trans hb3
  have hwr := hw1.later hb23
  have e0 : [q * 4] ++ be mme (q + 1) = mmeP mme := by unfold mmeP; rw [HQ.out]; simp; omega
  rw [e0] at hown3
  clear hwr
  have HO3 : Hid (w3.ownsRow w2.heap.size 5 1 v3 (mmeP mme).length (u8s (mmeP mme))) := hown3
  have hs3 := hb23.size
  have hml := mmeP_len mme
  have hm4 := octs_le mme hm
  clear hown3 HA hb3 hbW e0 q3
  have p1 := octs_pos enb
  have p3 := octs_le3 enb he
  go_wp2_with fail
  refine (blen_any enb 3 (by omega) p3 (by decide) w3).mono ?_
  rintro e w4 ⟨rfl, rfl⟩
  obtain ⟨r, hr⟩ : ∃ r, octs enb = r + 1 := ⟨octs enb - 1, by omega⟩
  have HR : Hid (octs enb = r + 1) := hr
  rw [hr]
  have r2 : r ≤ 2 := by omega
  have hml5 : (mmeP mme).length ≤ 5 := by omega
  clear hr p1 p3 hml hm4
  obtain ⟨i0, hi, hz0, hz1, hz2⟩ := info_parts Ybaf.info5
  go_upto_region 10 with (at_builtin; refine wpList_append_own _ rfl _ _ 23 rfl w2.heap.size 5 i0 (.int .u8 0) 1 1 Ybaf.underlying23 hi hz0 hz1 hz2 rfl (by decide) _ _ _ rfl (HO3.out.alloc _) ⟨w4.heap.size, 0, .none⟩ 1 1 [.int .u8 ((r : Int) * 64)] rfl rfl (one_cell_new _ _) (fun u hu => by simp at hu; subst hu; rfl) (by unfold maxLen; omega) (by omega) (by simp; omega) ?_; intro v' w5 hown' hg' _; have HN : Hid (w5.ownsRow w2.heap.size 5 1 v' ((mmeP mme).length + 1) (u8s (mmeP mme) ++ [.int .u8 ((r : Int) * 64)])) := hown'; have HG : Hid ((w4.alloc (.cells #[.int .u8 ((r : Int) * 64)] 5)).grownBy w5 v3.ownBlock) := hg'; clear hown' hg')
  have hown5 : w5.ownsRow w2.heap.size 5 1 v' (mmeP mme ++ [r * 64]).length (u8s (mmeP mme ++ [r * 64])) := by
    have := HN.out
    rw [show ((r : Int) * 64) = ((r * 64 : Nat) : Int) by omega] at this
    exact own_snoc this
  have hb5 : Below w2.heap.size w2 w5 := by
    refine (hb23.alloc (by omega) _).grown HG.out (by simp; omega) (fun k hk => ?_)
    rcases HO3.out.2 with ⟨rfl, _⟩ | ⟨g, cap, cur, rfl, hbg, _⟩
    · simp [Value.ownBlock] at hk
    · simp [Value.ownBlock] at hk; omega
  have hA := bappend_any enb (r + 1) w2.heap.size (by omega) (by omega) _ (mmeP mme ++ [r * 64]) (by simp; omega) w5 hown5 hb5.size
  have HA : Hid (Calls Ybaf.prog 7 #[v', .int .u32 enb, .int .i64 ((r : Int) + 1)] w5 fun e w' => (∃ v', e = .returned v' ∧ w'.ownsRow w2.heap.size 5 1 v' (mmeP mme ++ [r * 64] ++ be enb (r + 1)).length (u8s (mmeP mme ++ [r * 64] ++ be enb (r + 1)))) ∧ Below w2.heap.size w5 w') := by
    have e : (((r + 1 : Nat) : Int)) = (r : Int) + 1 := by omega
    rw [e] at hA
    exact hA
  clear hA hown5 HN HG HO3 hb23
  go_upto_region 11 with (go_at_call 7; refine HA.out.mono ?_; rintro e w6 ⟨⟨v6, rfl, hown6⟩, hb6⟩)
  have hb26 : Below w2.heap.size w2 w6 := hb5.trans hb6
  have hwr := hw1.later hb26
  have e0 : mmeP mme ++ [r * 64] ++ be enb (r + 1) = pairP mme enb := by unfold pairP; rw [HR.out]; simp; omega
  rw [e0] at hown6
  obtain ⟨g3, cap3, rfl, hg3, hl3, hc3⟩ := own_form hown6 (by simp [pairP])
  obtain ⟨g1, cap1, hv1, hg1, hc1, _⟩ := hwr.form (by simp [pairP])
  subst hv1
  have c0 := hwr.c0
  have c1 := hwr.c1
  have c2 := hwr.c2
  have hlen : (pairP mme enb).length ≤ 9 := by
    simp only [pairP, List.length_append, List.length_cons, List.length_nil, be_len]
    have := HR.out
    omega
  obtain ⟨n, hn⟩ : ∃ n, n = (pairP mme enb).length := ⟨_, rfl⟩
  rw [← hn] at c0 c1 hlen ⊢
  have HEq : Hid (Calls Ybaf.prog 8 #[.slice (some ⟨g1, 0, .none⟩) n cap1, .slice (some ⟨g3, 0, .none⟩) n cap3] w6 fun e w' => e = .returned (.bool true) ∧ w' = w6) := eq_rows g1 g3 n cap1 cap3 (pairP mme enb) hn w6 hc1 hc3
  have hfin := hbel.trans (hb26.mono hbel.size)
  clear hwr hc3 hc1 hown6 HA hb5 hb6 hb26 hw1 hn e0
  go_wp2_with (go_at_call 8; refine HEq.out.mono ?_; rintro e w7 ⟨rfl, rfl⟩)
  go_ret
  exact ⟨rfl, hfin⟩
end Go.Proofs.YbulkataaFmt
