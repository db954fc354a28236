import Derived.Test.YbulkataaFmtUes
import Derived.Test.YbulkataaFmtLaw
namespace Go.Proofs.YbulkataaFmt
open Go.RowKit

/-- what the reader must find -/
structure Pair (bs : List Nat) (q x q2 y : Nat) : Prop where
  z0 : bitAt bs 0 = 0
  z1 : bitAt bs 1 = 0
  z2 : bitAt bs 2 = 0
  z3 : bitAt bs 3 = 0
  a : At bs 4 q x
  b : At bs (nextPos 4 q) q2 y
  q3 : q ≤ 3
  q2' : q2 ≤ 2
  xl : x < 4294967296
  yl : y < 16777216
  len : bs.length ≤ 100

set_option maxHeartbeats 1000000 in
theorem getUES_any (r g cap q x q2 y : Nat) (bs : List Nat) (hP : Pair bs q x q2 y) (w : World) (hR : Rd w r g cap bs 0) :
    Calls Ybaf.prog 9 #[.pointer (some ⟨r, 0, .none⟩)] w fun e w' => e = .returned (.agg #[.int .u32 x, .int .u32 y]) ∧ w'.cell? ⟨r, 2, .none⟩ = some .nilIface ∧ But r w.heap.size w w' := by
  have hr := hR.sz
  have hgz := hR.gz
  have h8 : 4 ≤ 8 * bs.length := by have := hP.a.c; omega
  have B1 : Hid (∀ w, Rd w r g cap bs 0 → Calls Ybaf.prog 14 #[.pointer (some ⟨r, 0, .none⟩)] w fun e w' => e = .returned (.bool false) ∧ Rd w' r g cap bs 1 ∧ But r w.heap.size w w') := bool_any r g cap 0 bs hP.len (by omega) hP.z0
  have B2 : Hid (∀ w, Rd w r g cap bs 1 → Calls Ybaf.prog 15 #[.pointer (some ⟨r, 0, .none⟩), .int .i64 0, .int .i64 1] w fun e w' => e = .returned (.int .i64 0) ∧ Rd w' r g cap bs 2 ∧ But r w.heap.size w w') := cons_01 r g cap 1 bs hP.len (by omega) hP.z1
  have HR : Hid (Rd w r g cap bs 0) := hR
  have HP : Hid (Pair bs q x q2 y) := hP
  clear hR hP
  go_enter Ybaf.func9, Ybaf.ntmps9
  go_upto_region 1 with fail
  refine wp_gen (fun W => Rd W r g cap bs 0 ∧ Below w.heap.size w W ∧ W.heap.size = w.heap.size + 2 ∧ W.cell? ⟨w.heap.size, 0, .none⟩ = some (.pointer (some ⟨r, 0, .none⟩)) ∧ W.cell? ⟨w.heap.size + 1, 0, .none⟩ = some (.int .u32 0) ∧ W.cell? ⟨w.heap.size + 1, 1, .none⟩ = some (.int .u32 0) ∧ ∀ j, W.frozen? ⟨w.heap.size + 1, j, .none⟩ = false) ?_ ?_
  · have hb : Below w.heap.size w ((w.alloc (.cells #[.pointer (some ⟨r, 0, .none⟩)] 40)).alloc (.cells #[.int .u32 0, .int .u32 0] 31)) := ((Below.refl _ _).alloc (Nat.le_refl _) _).alloc (by simp) _
    have hN := heap_alloc2_new w (.cells #[.pointer (some ⟨r, 0, .none⟩)] 40) (.cells #[.int .u32 0, .int .u32 0] 31)
    refine ⟨HR.out.later hb, hb, by simp, ?_, ?_, ?_, fun j => frozen_of_row _ _ _ _ _ hN⟩
    · rw [cell_of_row _ _ _ _ _ _ (heap_alloc2_old _ _ _)]; rfl
    · rw [cell_of_row _ _ _ _ _ _ hN]; rfl
    · rw [cell_of_row _ _ _ _ _ _ hN]; rfl
  rintro W ⟨hR, hbel, hsz, k0, k1, k2, k3⟩
  have HK : Hid (W.cell? ⟨w.heap.size + 1, 0, .none⟩ = some (.int .u32 0) ∧ W.cell? ⟨w.heap.size + 1, 1, .none⟩ = some (.int .u32 0) ∧ (∀ j, W.frozen? ⟨w.heap.size + 1, j, .none⟩ = false) ∧ W.cell? ⟨w.heap.size, 0, .none⟩ = some (.pointer (some ⟨r, 0, .none⟩))) := ⟨k1, k2, k3, k0⟩
  have HZ : Hid (W.heap.size = w.heap.size + 2) := hsz
  have hW2 : w.heap.size + 2 ≤ W.heap.size := by omega
  clear k1 k2 k3 HR hsz
  go_wp2_with fail
  refine (B1.out W hR).mono ?_
  rintro e w1 ⟨rfl, hR1, hb1⟩
  have k01 := (hb1.cell (p := ⟨w.heap.size, 0, .none⟩) (by simp; omega) (by simp; omega)).trans k0
  go_wp2_with fail
  refine (B2.out w1 hR1).mono ?_
  rintro e w2 ⟨rfl, hR2, hb2⟩
  have hb12 := hb1.trans (hb2.down hb1.size)
  clear hb1 hb2 k01 k0 hR1 B1 B2 hR
  have hs2 := hb12.size
  have m0 := (hb12.cell (p := ⟨w.heap.size, 0, .none⟩) (by simp; omega) (by simp; omega)).trans HK.out.2.2.2
  go_upto_region 5 with fail
  refine wp_gen (fun V => Rd V r g cap bs 2 ∧ But r (w.heap.size + 2) W V ∧ w2.heap.size < V.heap.size ∧ V.cell? ⟨w2.heap.size, 0, .none⟩ = some (.int .u32 0) ∧ V.cell? ⟨w2.heap.size, 1, .none⟩ = some (.int .u32 0) ∧ ∀ j, V.frozen? ⟨w2.heap.size, j, .none⟩ = false) ?_ ?_
  · have hN := heap_alloc_new' w2 (.cells #[.int .u32 0, .int .u32 0] 31)
    refine ⟨hR2.later ((Below.refl _ _).alloc (Nat.le_refl _) _), (hb12.down hW2).alloc (by omega) _, by simp, ?_, ?_, fun j => frozen_of_row _ _ _ _ _ hN⟩
    · rw [cell_of_row _ _ _ _ _ _ hN]; rfl
    · rw [cell_of_row _ _ _ _ _ _ hN]; rfl
  rintro V ⟨hR3, hb3, hV, d0, d1, fd⟩
  have HDD : Hid (V.cell? ⟨w2.heap.size, 0, .none⟩ = some (.int .u32 0) ∧ V.cell? ⟨w2.heap.size, 1, .none⟩ = some (.int .u32 0) ∧ ∀ j, V.frozen? ⟨w2.heap.size, j, .none⟩ = false) := ⟨d0, d1, fd⟩
  clear d0 d1 fd hR2 m0
  have m0 := (hb3.cell (p := ⟨w.heap.size, 0, .none⟩) (by simp) (by simp; omega)).trans HK.out.2.2.2
  go_wp2_with fail
  refine (seq_any w.heap.size w2.heap.size r g cap 2 q x q2 y bs HP.out.len (by have := HP.out.a.c; omega) HP.out.z2 HP.out.z3 HP.out.q3 HP.out.xl HP.out.a HP.out.q2' HP.out.yl HP.out.b V hR3 m0 HDD.out.1 HDD.out.2.1 HDD.out.2.2 hr (by omega) (by omega) hV).mono ?_
  rintro e w3 ⟨rfl, hR4, hb4, x0, x1⟩
  have hb34 := hb3.trans (hb4.down (by omega))
  clear hb3 hb4 m0
  have y0 := (hb34.cell (p := ⟨w.heap.size + 1, 0, .none⟩) (by simp) (by simp; omega)).trans HK.out.1
  have y1 := (hb34.cell (p := ⟨w.heap.size + 1, 1, .none⟩) (by simp) (by simp; omega)).trans HK.out.2.1
  have f0 := (hb34.frozen (p := ⟨w.heap.size + 1, 0, .none⟩) (by simp) (by simp; omega)).trans (HK.out.2.2.1 0)
  have f1 := (hb34.frozen (p := ⟨w.heap.size + 1, 1, .none⟩) (by simp) (by simp; omega)).trans (HK.out.2.2.1 1)
  go_wp2_with fail
  refine bodyPost_ret (v := .agg #[.int .u32 x, .int .u32 y]) ?_ rfl ⟨rfl, ?_, ?_⟩
  · have t0 : ((w3.setCell ⟨w.heap.size + 1, 0, .none⟩ (.int .u32 x)).setCell ⟨w.heap.size + 1, 1, .none⟩ (.int .u32 y)).cell? ⟨w.heap.size + 1, 0, .none⟩ = some (.int .u32 x) := by
      rw [World.cell?_setCell_other _ _ _ _ (by simp)]; exact World.cell?_setCell_same _ _ _ y0
    have t1 : ((w3.setCell ⟨w.heap.size + 1, 0, .none⟩ (.int .u32 x)).setCell ⟨w.heap.size + 1, 1, .none⟩ (.int .u32 y)).cell? ⟨w.heap.size + 1, 1, .none⟩ = some (.int .u32 y) :=
      World.cell?_setCell_same _ _ _ ((World.cell?_setCell_other _ _ _ _ (by simp)).trans y1)
    simp [results, Ybaf.results9, go_sem, t0, t1]
  · rw [World.cell?_setCell_other _ _ _ _ (by simp), World.cell?_setCell_other _ _ _ _ (by simp)]; exact hR4.c2
  · exact (((But.of_below hbel (Nat.le_refl _)).trans (hb34.down (by omega))).setFar (p := ⟨w.heap.size + 1, 0, .none⟩) (by simp) _).setFar (p := ⟨w.heap.size + 1, 1, .none⟩) (by simp) _
end Go.Proofs.YbulkataaFmt
