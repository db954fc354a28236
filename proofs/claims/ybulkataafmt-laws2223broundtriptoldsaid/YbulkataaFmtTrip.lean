import Derived.Test.YbulkataaFmtBack
namespace Go.Proofs.YbulkataaFmt
open Go.RowKit

theorem and_mask (x : Nat) (hx : x < 4294967296) : bits BinOp.and IntKind.u32 (x : Int) 16777215 = ((x % 16777216 : Nat) : Int) := by
  have h := u32_and_nat x 16777215 hx (by decide)
  have e : x &&& 16777215 = x % 16777216 := Nat.and_two_pow_sub_one_eq_mod x 24
  rw [e] at h
  exact h
theorem pairP_lt (x y : Nat) (hx : x < 4294967296) (hy : y < 16777216) : ∀ z ∈ pairP x y, z < 256 := fun z hz => by
  have := octs_le3 y hy
  simp only [pairP, List.mem_append, List.mem_singleton] at hz
  rcases hz with (h | rfl) | h
  · exact mmeP_lt x hx z h
  · omega
  · exact be_lt y _ z h

set_option maxRecDepth 100000 in
set_option maxHeartbeats 1000000 in
theorem trip_any (mme enb : Nat) (hm : mme < 4294967296) (he : enb < 4294967296) (w : World) :
    Calls Ybaf.prog 4 #[.int .u32 mme, .int .u32 enb] w fun e w' => e = .returned (.bool true) ∧ Below w.heap.size w w' := by
  have hand := and_mask enb he
  have hy : enb % 16777216 < 16777216 := Nat.mod_lt _ (by decide)
  generalize enb % 16777216 = y at hand hy
  have HU : Hid (Calls Ybaf.prog 5 #[.pointer (some ⟨w.heap.size, 0, .none⟩), .agg #[.int .u32 mme, .int .u32 y]] (w.alloc (.cells #[.slice .none 0 0, .int .i64 0, .nilIface] 27)) fun e w' => e = .returned (.tuple #[]) ∧ (∃ v', Wr w' w.heap.size ((w.alloc (.cells #[.slice .none 0 0, .int .i64 0, .nilIface] 27)).heap.size + 1) v' (pairP mme y) (8 * (pairP mme y).length) .nilIface) ∧ Below w.heap.size (w.alloc (.cells #[.slice .none 0 0, .int .i64 0, .nilIface] 27)) w') :=
    putUES_ok mme y w.heap.size hm hy (w.alloc (.cells #[.slice .none 0 0, .int .i64 0, .nilIface] 27)) (wr_new w)
  go_enter Ybaf.func4, Ybaf.ntmps4
  go_wp2_with fail
  refine HU.out.mono ?_
  rintro e w1 ⟨rfl, ⟨v1, hw1⟩, hb1⟩
  have hbel : Below w.heap.size w w1 := ((Below.refl _ _).alloc (Nat.le_refl _) _).trans hb1
  clear hb1 HU hand
  obtain ⟨g, cap, rfl, hg, hc, _⟩ := hw1.form (by simp [pairP])
  have hgz : g < w1.heap.size := World.block_lt_of_cell? w1 _ (hc 0 _ rfl)
  have c0 := hw1.c0
  have c2 := hw1.c2
  have hlt := hw1.lt
  have hszw := hw1.sz
  have HW1 : Hid (Wr w1 w.heap.size ((w.alloc (.cells #[.slice .none 0 0, .int .i64 0, .nilIface] 27)).heap.size + 1) (.slice (some ⟨g, 0, .none⟩) (pairP mme y).length cap) (pairP mme y) (8 * (pairP mme y).length) .nilIface) := hw1
  have HC : Hid (∀ (j x : Nat), (pairP mme y)[j]? = some x → w1.cell? ⟨g, j, .none⟩ = some (.int .u8 (x : Nat))) := hc
  clear hc hw1
  go_upto_region 7 with fail
  refine wp_gen (fun W => Rd W w1.heap.size g cap (pairP mme y) 0 ∧ Below w1.heap.size w1 W) ?_ ?_
  · have hb : Below w1.heap.size w1 (w1.alloc (.cells #[.slice (some ⟨g, 0, .none⟩) (pairP mme y).length cap, .int .i64 0, .nilIface] 38)) := (Below.refl _ _).alloc (Nat.le_refl _) _
    refine ⟨⟨by simp, by simp, by simp, by simp, fun j hj => ?_, by omega, by simp; omega, by simp, pairP_lt mme y hm hy⟩, hb⟩
    rw [hb.cell hgz, HC.out j _ (List.getElem?_eq_getElem hj)]
    simp [hj]
  clear c0 c2 HC HW1
  rintro W ⟨hR, hbW⟩
  have HG : Hid (Calls Ybaf.prog 9 #[.pointer (some ⟨w1.heap.size, 0, .none⟩)] W fun e w' => e = .returned (.agg #[.int .u32 mme, .int .u32 y]) ∧ w'.cell? ⟨w1.heap.size, 2, .none⟩ = some .nilIface ∧ But w1.heap.size W.heap.size W w') := getUES_any _ _ _ _ _ _ _ _ (pair_pair mme y hm hy) W hR
  have hWs := hR.sz
  clear hR
  go_upto_region 8 with (go_at_call 9; refine HG.out.mono ?_; rintro e w2 ⟨rfl, e2, hb2⟩)
  have hs2 := hb2.size
  have hfin : Below w.heap.size w w2 := (hbel.trans (hbW.mono hbel.size)).trans ((hb2.below (by omega)).mono hbel.size)
  have hne : ¬ w2.heap.size = w1.heap.size := by omega
  have hne2 : w1.heap.size < w2.heap.size := by omega
  have e2' : ∀ o, (w2.alloc o).cell? ⟨w1.heap.size, 2, .none⟩ = some .nilIface := fun o => (World.cell?_alloc_lt w2 o ⟨w1.heap.size, 2, .none⟩ hne2).trans e2
  clear e2 HG hb2
  go_wp2_with fail
  go_ret
  exact ⟨rfl, hfin.alloc (by have := hfin.size; omega) _⟩
end Go.Proofs.YbulkataaFmt
