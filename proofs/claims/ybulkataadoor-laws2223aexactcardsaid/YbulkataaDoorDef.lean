import Derived.Test.YbulkataaDoorFind
namespace Go.Proofs.YbulkataaDoor
open Go.RowKit

set_option maxHeartbeats 400000 in
theorem idx_hit (oB n j iB : Nat) (id : Int) (a4 a6 : Addr) (R : Nat → Er) (hn : n ≤ 1024) (hj : j < n) (hhit : (R j).id = id) (hmiss : ∀ q, q < j → (R q).id ≠ id) (w : World) (hE : Erabs w oB n a4 a6 R) (ho : oB < w.heap.size)
    (hi : w.cell? ⟨iB, 0, .none⟩ = some (.int .u8 id)) (hib : iB < w.heap.size) :
    Calls Ybad.prog 10 #[.slice (some ⟨oB, 0, .none⟩) n n, .func (Fn.func 11) #[] #[.pointer (some ⟨iB, 0, .none⟩)]] w fun e w' => e = .returned (.int .i64 j) ∧ Below w.heap.size w w' := by
  have HH : Hid ((R j).id = id ∧ ∀ q, q < j → (R q).id ≠ id) := ⟨hhit, hmiss⟩
  clear hhit hmiss
  go_enter Ybad.func10, Ybad.ntmps10
  go_wp2_with fail
  go_loopw [8] (fun x wr => ∃ k : Nat, k ≤ j ∧ x = .int .i64 k ∧ Below w.heap.size w wr) (fun x _ => n - (intOf x).toNat)
  case atStart => exact ⟨0, Nat.zero_le _, rfl, Below.refl _ _⟩
  case round =>
    obtain ⟨k, hk, rfl, hb⟩ := hrel
    have hE' := hE.later ho hb k (by omega)
    obtain ⟨e0, e1, e2, e3, e4⟩ := hE'
    have hi' := (hb.cell hib).trans hi
    have hbs := hb.size
    have hkn : (k : Int) < (n : Int) := by omega
    by_cases hkj : k < j
    · have ht : ((R k).id == id) = false := beq_eq_false_iff_ne.2 (HH.out.2 k hkj)
      go_wp2_with (go_at_call 11; refine (clo_any _ _ _ _ _ _ iB _ hi' (by omega)).mono ?_; rintro e w2 ⟨rfl, hb2⟩)
      go_roundw
      case rel => exact ⟨k + 1, by omega, by go_num, hb.trans (hb2.mono hbs)⟩
      case measure => simp [intOf]; omega
    · have hke : k = j := by omega
      subst hke
      have ht : ((R k).id == id) = true := by rw [HH.out.1]; simp
      go_wp2_with (go_at_call 11; refine (clo_any _ _ _ _ _ _ iB _ hi' (by omega)).mono ?_; rintro e w2 ⟨rfl, hb2⟩)
      go_ret
      exact ⟨rfl, hb.trans (hb2.mono hbs)⟩

set_option maxHeartbeats 400000 in
theorem idx_miss (oB n iB : Nat) (id : Int) (a4 a6 : Addr) (R : Nat → Er) (hn : n ≤ 1024) (hmiss : ∀ q, q < n → (R q).id ≠ id) (w : World) (hE : Erabs w oB n a4 a6 R) (ho : oB < w.heap.size)
    (hi : w.cell? ⟨iB, 0, .none⟩ = some (.int .u8 id)) (hib : iB < w.heap.size) :
    Calls Ybad.prog 10 #[.slice (some ⟨oB, 0, .none⟩) n n, .func (Fn.func 11) #[] #[.pointer (some ⟨iB, 0, .none⟩)]] w fun e w' => e = .returned (.int .i64 (-1)) ∧ Below w.heap.size w w' := by
  have HH : Hid (∀ q, q < n → (R q).id ≠ id) := hmiss
  clear hmiss
  go_enter Ybad.func10, Ybad.ntmps10
  go_wp2_with fail
  go_loopw [8] (fun x wr => ∃ k : Nat, k ≤ n ∧ x = .int .i64 k ∧ Below w.heap.size w wr) (fun x _ => n - (intOf x).toNat)
  case atStart => exact ⟨0, Nat.zero_le _, rfl, Below.refl _ _⟩
  case round =>
    obtain ⟨k, hk, rfl, hb⟩ := hrel
    have hi' := (hb.cell hib).trans hi
    have hbs := hb.size
    by_cases hkj : k < n
    · have hkn : (k : Int) < (n : Int) := by omega
      have hE' := hE.later ho hb k (by omega)
      obtain ⟨e0, e1, e2, e3, e4⟩ := hE'
      have ht : ((R k).id == id) = false := beq_eq_false_iff_ne.2 (HH.out k hkj)
      go_wp2_with (go_at_call 11; refine (clo_any _ _ _ _ _ _ iB _ hi' (by omega)).mono ?_; rintro e w2 ⟨rfl, hb2⟩)
      go_roundw
      case rel => exact ⟨k + 1, by omega, by go_num, hb.trans (hb2.mono hbs)⟩
      case measure => simp [intOf]; omega
    · have hkn : ¬ (k : Int) < (n : Int) := by omega
      go_wp2_with fail
      go_ret
      exact ⟨rfl, hb⟩

/-- one E-RAB as a value -/
def erv (a4 a6 : Addr) (r : Er) : Value := .agg #[.int .u8 r.id, .int .u64 r.h, .int .u64 r.l, .pointer (hptr a4 a6 r.k), .int .u32 r.t]
def erz : Value := .agg #[.int .u8 0, .int .u64 0, .int .u64 0, .pointer .none, .int .u32 0]

theorem below2 {w w1 : World} {o1 o2 : Obj} (hb : Below ((w.alloc o1).alloc o2).heap.size ((w.alloc o1).alloc o2) w1) : Below w.heap.size w w1 :=
  (((Below.refl _ _).alloc (Nat.le_refl _) _).alloc (by simp) _).trans (hb.mono (by simp; omega))

def S5 (W : World) (B : Nat) (v0 v1 v2 v3 v4 : Value) : World := ((((W.setCell ⟨B, 0, .none⟩ v0).setCell ⟨B, 1, .none⟩ v1).setCell ⟨B, 2, .none⟩ v2).setCell ⟨B, 3, .none⟩ v3).setCell ⟨B, 4, .none⟩ v4
theorem s5_cells {W : World} {B : Nat} {o0 o1 o2 o3 o4 : Value} (h0 : W.cell? ⟨B, 0, .none⟩ = some o0) (h1 : W.cell? ⟨B, 1, .none⟩ = some o1) (h2 : W.cell? ⟨B, 2, .none⟩ = some o2) (h3 : W.cell? ⟨B, 3, .none⟩ = some o3) (h4 : W.cell? ⟨B, 4, .none⟩ = some o4) (v0 v1 v2 v3 v4 : Value) :
    (S5 W B v0 v1 v2 v3 v4).cell? ⟨B, 0, .none⟩ = some v0 ∧ (S5 W B v0 v1 v2 v3 v4).cell? ⟨B, 1, .none⟩ = some v1 ∧ (S5 W B v0 v1 v2 v3 v4).cell? ⟨B, 2, .none⟩ = some v2 ∧ (S5 W B v0 v1 v2 v3 v4).cell? ⟨B, 3, .none⟩ = some v3 ∧ (S5 W B v0 v1 v2 v3 v4).cell? ⟨B, 4, .none⟩ = some v4 := by
  have ne : ∀ (X : World) (i j : Nat) (v : Value), i ≠ j → (X.setCell ⟨B, i, .none⟩ v).cell? ⟨B, j, .none⟩ = X.cell? ⟨B, j, .none⟩ := fun X i j v h => World.cell?_setCell_other _ _ _ _ (fun e => h (congrArg Addr.off e))
  unfold S5
  refine ⟨?_, ?_, ?_, ?_, ?_⟩
  · rw [ne _ 4 0 _ (by decide), ne _ 3 0 _ (by decide), ne _ 2 0 _ (by decide), ne _ 1 0 _ (by decide)]; exact World.cell?_setCell_same _ _ _ h0
  · rw [ne _ 4 1 _ (by decide), ne _ 3 1 _ (by decide), ne _ 2 1 _ (by decide)]; exact World.cell?_setCell_same _ _ _ ((ne _ 0 1 _ (by decide)).trans h1)
  · rw [ne _ 4 2 _ (by decide), ne _ 3 2 _ (by decide)]; exact World.cell?_setCell_same _ _ _ ((ne _ 1 2 _ (by decide)).trans ((ne _ 0 2 _ (by decide)).trans h2))
  · rw [ne _ 4 3 _ (by decide)]; exact World.cell?_setCell_same _ _ _ ((ne _ 2 3 _ (by decide)).trans ((ne _ 1 3 _ (by decide)).trans ((ne _ 0 3 _ (by decide)).trans h3)))
  · exact World.cell?_setCell_same _ _ _ ((ne _ 3 4 _ (by decide)).trans ((ne _ 2 4 _ (by decide)).trans ((ne _ 1 4 _ (by decide)).trans ((ne _ 0 4 _ (by decide)).trans h4))))
theorem s5_below {B0 B : Nat} {w W : World} (hb : Below B0 w W) (hB : B0 ≤ B) (v0 v1 v2 v3 v4 : Value) : Below B0 w (S5 W B v0 v1 v2 v3 v4) :=
  ((((hb.setCell (p := ⟨B, 0, .none⟩) hB _).setCell (p := ⟨B, 1, .none⟩) hB _).setCell (p := ⟨B, 2, .none⟩) hB _).setCell (p := ⟨B, 3, .none⟩) hB _).setCell (p := ⟨B, 4, .none⟩) hB _
theorem res6 {W : World} {B : Nat} {v0 v1 v2 v3 v4 : Value} (tmps : Array Value) (b : Bool) (h4 : tmps[4]? = some (.pointer (some ⟨B, 0, .none⟩))) (h5 : tmps[5]? = some (.bool b))
    (h : W.cell? ⟨B, 0, .none⟩ = some v0 ∧ W.cell? ⟨B, 1, .none⟩ = some v1 ∧ W.cell? ⟨B, 2, .none⟩ = some v2 ∧ W.cell? ⟨B, 3, .none⟩ = some v3 ∧ W.cell? ⟨B, 4, .none⟩ = some v4) :
    (results Ybad.f6 tmps).run Ybad.prog W = .ok (.tuple #[.agg #[v0, v1, v2, v3, v4], .bool b]) W := by
  obtain ⟨g0, g1, g2, g3, g4⟩ := h
  simp [results, Ybad.results6, go_sem, h4, h5, g0, g1, g2, g3, g4]

set_option maxHeartbeats 400000 in
theorem def_none (oB n : Nat) (id : Int) (a4 a6 : Addr) (R : Nat → Er) (hn : n ≤ 1024) (hmiss : ∀ q, q < n → (R q).id ≠ id) (w : World) (hE : Erabs w oB n a4 a6 R) (ho : oB < w.heap.size) :
    Calls Ybad.prog 6 #[.slice (some ⟨oB, 0, .none⟩) n n, .int .u8 id] w fun e w' => e = .returned (.tuple #[erz, .bool false]) ∧ Below w.heap.size w w' := by
  unfold erz
  go_enter Ybad.func6, Ybad.ntmps6
  go_wp2_with fail
  refine (idx_miss oB n w.heap.size id a4 a6 R hn hmiss _ (hE.later ho (((Below.refl _ _).alloc (Nat.le_refl _) _).alloc (by simp) _)) (by simp; omega) (by rw [cell_of_row _ _ _ _ _ _ (heap_alloc2_old _ _ _)]; rfl) (by simp; omega)).mono ?_
  rintro e w1 ⟨rfl, hb1⟩
  have r4 := fun j => hb1.cell (p := ⟨w.heap.size + 1, j, .none⟩) (by simp)
  have f4 := fun j => hb1.frozen (p := ⟨w.heap.size + 1, j, .none⟩) (by simp)
  have y0 := r4 0
  have y1 := r4 1
  have y2 := r4 2
  have y3 := r4 3
  have y4 := r4 4
  have z0 := f4 0
  have z1 := f4 1
  have z2 := f4 2
  have z3 := f4 3
  have z4 := f4 4
  simp at y0 y1 y2 y3 y4 z0 z1 z2 z3 z4
  clear r4 f4
  go_wp2_with fail
  exact bodyPost_ret (res6 _ false rfl rfl (s5_cells y0 y1 y2 y3 y4 _ _ _ _ _)) rfl ⟨rfl, s5_below (below2 hb1) (Nat.le_succ _) _ _ _ _ _⟩

set_option maxHeartbeats 800000 in
theorem def_no4 (oB n j : Nat) (id : Int) (a4 a6 : Addr) (R : Nat → Er) (hn : n ≤ 1024) (hj : j < n) (hhit : (R j).id = id) (hmiss : ∀ q, q < j → (R q).id ≠ id) (hk1 : (R j).k ≠ 1) (w : World) (hE : Erabs w oB n a4 a6 R) (ho : oB < w.heap.size) (hH : Han w a4 a6) :
    Calls Ybad.prog 6 #[.slice (some ⟨oB, 0, .none⟩) n n, .int .u8 id] w fun e w' => e = .returned (.tuple #[erz, .bool false]) ∧ Below w.heap.size w w' := by
  unfold erz
  have hk : decide ((R j).k = 1) = false := by simp [hk1]
  go_enter Ybad.func6, Ybad.ntmps6
  go_wp2_with fail
  refine (idx_hit oB n j w.heap.size id a4 a6 R hn hj hhit hmiss _ (hE.later ho (((Below.refl _ _).alloc (Nat.le_refl _) _).alloc (by simp) _)) (by simp; omega) (by rw [cell_of_row _ _ _ _ _ _ (heap_alloc2_old _ _ _)]; rfl) (by simp; omega)).mono ?_
  rintro e w1 ⟨rfl, hb1⟩
  clear hhit hmiss
  have hbw := below2 hb1
  have r4 := fun j => hb1.cell (p := ⟨w.heap.size + 1, j, .none⟩) (by simp)
  have f4 := fun j => hb1.frozen (p := ⟨w.heap.size + 1, j, .none⟩) (by simp)
  have y0 := r4 0
  have y1 := r4 1
  have y2 := r4 2
  have y3 := r4 3
  have y4 := r4 4
  have z0 := f4 0
  have z1 := f4 1
  have z2 := f4 2
  have z3 := f4 3
  have z4 := f4 4
  simp at y0 y1 y2 y3 y4 z0 z1 z2 z3 z4
  have hs1 := hb1.size
  simp at hs1
  clear r4 f4 hb1
  obtain ⟨e0, e1, e2, e3, e4⟩ := hE.later ho hbw j hj
  have hH1 := hH.later hbw
  have hjn : (j : Int) < (n : Int) := by omega
  have hj0 : ¬ (j : Int) < 0 := by omega
  go_wp2_with fail
  refine (is4_any _ _ _ a4 a6 w1 hH1).mono ?_
  rintro e w2 ⟨rfl, hb2⟩
  rw [hk]
  have hlt : w.heap.size + 1 < w1.heap.size := by omega
  have q0 := (hb2.cell (p := ⟨w.heap.size + 1, 0, .none⟩) hlt).trans y0
  have q1 := (hb2.cell (p := ⟨w.heap.size + 1, 1, .none⟩) hlt).trans y1
  have q2 := (hb2.cell (p := ⟨w.heap.size + 1, 2, .none⟩) hlt).trans y2
  have q3 := (hb2.cell (p := ⟨w.heap.size + 1, 3, .none⟩) hlt).trans y3
  have q4 := (hb2.cell (p := ⟨w.heap.size + 1, 4, .none⟩) hlt).trans y4
  have x0 := (hb2.frozen (p := ⟨w.heap.size + 1, 0, .none⟩) hlt).trans z0
  have x1 := (hb2.frozen (p := ⟨w.heap.size + 1, 1, .none⟩) hlt).trans z1
  have x2 := (hb2.frozen (p := ⟨w.heap.size + 1, 2, .none⟩) hlt).trans z2
  have x3 := (hb2.frozen (p := ⟨w.heap.size + 1, 3, .none⟩) hlt).trans z3
  have x4 := (hb2.frozen (p := ⟨w.heap.size + 1, 4, .none⟩) hlt).trans z4
  have hol : oB < w1.heap.size := by omega
  have e0 := (hb2.cell (p := ⟨oB, j * 5, .none⟩) hol).trans e0
  have e1 := (hb2.cell (p := ⟨oB, j * 5 + 1, .none⟩) hol).trans e1
  have e2 := (hb2.cell (p := ⟨oB, j * 5 + 2, .none⟩) hol).trans e2
  have e3 := (hb2.cell (p := ⟨oB, j * 5 + 3, .none⟩) hol).trans e3
  have e4 := (hb2.cell (p := ⟨oB, j * 5 + 4, .none⟩) hol).trans e4
  have hbf : Below w.heap.size w w2 := hbw.trans (hb2.mono hbw.size)
  clear y0 y1 y2 y3 y4 z0 z1 z2 z3 z4 hb2 hbw
  go_wp2_with fail
  exact bodyPost_ret (res6 _ false rfl rfl (s5_cells q0 q1 q2 q3 q4 _ _ _ _ _)) rfl ⟨rfl, s5_below hbf (Nat.le_succ _) _ _ _ _ _⟩

set_option maxHeartbeats 800000 in
theorem def_yes (oB n j : Nat) (id : Int) (a4 a6 : Addr) (R : Nat → Er) (hn : n ≤ 1024) (hj : j < n) (hhit : (R j).id = id) (hmiss : ∀ q, q < j → (R q).id ≠ id) (hk1 : (R j).k = 1) (w : World) (hE : Erabs w oB n a4 a6 R) (ho : oB < w.heap.size) (hH : Han w a4 a6) :
    Calls Ybad.prog 6 #[.slice (some ⟨oB, 0, .none⟩) n n, .int .u8 id] w fun e w' => e = .returned (.tuple #[erv a4 a6 (R j), .bool true]) ∧ Below w.heap.size w w' := by
  unfold erv
  have hk : decide ((R j).k = 1) = true := by simp [hk1]
  have HK : Hid ((R j).k = 1) := hk1
  clear hk1
  go_enter Ybad.func6, Ybad.ntmps6
  go_wp2_with fail
  refine (idx_hit oB n j w.heap.size id a4 a6 R hn hj hhit hmiss _ (hE.later ho (((Below.refl _ _).alloc (Nat.le_refl _) _).alloc (by simp) _)) (by simp; omega) (by rw [cell_of_row _ _ _ _ _ _ (heap_alloc2_old _ _ _)]; rfl) (by simp; omega)).mono ?_
  rintro e w1 ⟨rfl, hb1⟩
  clear hhit hmiss
  have hbw := below2 hb1
  have r4 := fun j => hb1.cell (p := ⟨w.heap.size + 1, j, .none⟩) (by simp)
  have f4 := fun j => hb1.frozen (p := ⟨w.heap.size + 1, j, .none⟩) (by simp)
  have y0 := r4 0
  have y1 := r4 1
  have y2 := r4 2
  have y3 := r4 3
  have y4 := r4 4
  have z0 := f4 0
  have z1 := f4 1
  have z2 := f4 2
  have z3 := f4 3
  have z4 := f4 4
  simp at y0 y1 y2 y3 y4 z0 z1 z2 z3 z4
  have hs1 := hb1.size
  simp at hs1
  clear r4 f4 hb1
  obtain ⟨e0, e1, e2, e3, e4⟩ := hE.later ho hbw j hj
  have hH1 := hH.later hbw
  have hjn : (j : Int) < (n : Int) := by omega
  have hj0 : ¬ (j : Int) < 0 := by omega
  go_wp2_with fail
  refine (is4_any _ _ _ a4 a6 w1 hH1).mono ?_
  rintro e w2 ⟨rfl, hb2⟩
  rw [hk]
  have hlt : w.heap.size + 1 < w1.heap.size := by omega
  have q0 := (hb2.cell (p := ⟨w.heap.size + 1, 0, .none⟩) hlt).trans y0
  have q1 := (hb2.cell (p := ⟨w.heap.size + 1, 1, .none⟩) hlt).trans y1
  have q2 := (hb2.cell (p := ⟨w.heap.size + 1, 2, .none⟩) hlt).trans y2
  have q3 := (hb2.cell (p := ⟨w.heap.size + 1, 3, .none⟩) hlt).trans y3
  have q4 := (hb2.cell (p := ⟨w.heap.size + 1, 4, .none⟩) hlt).trans y4
  have x0 := (hb2.frozen (p := ⟨w.heap.size + 1, 0, .none⟩) hlt).trans z0
  have x1 := (hb2.frozen (p := ⟨w.heap.size + 1, 1, .none⟩) hlt).trans z1
  have x2 := (hb2.frozen (p := ⟨w.heap.size + 1, 2, .none⟩) hlt).trans z2
  have x3 := (hb2.frozen (p := ⟨w.heap.size + 1, 3, .none⟩) hlt).trans z3
  have x4 := (hb2.frozen (p := ⟨w.heap.size + 1, 4, .none⟩) hlt).trans z4
  have hol : oB < w1.heap.size := by omega
  have e0 := (hb2.cell (p := ⟨oB, j * 5, .none⟩) hol).trans e0
  have e1 := (hb2.cell (p := ⟨oB, j * 5 + 1, .none⟩) hol).trans e1
  have e2 := (hb2.cell (p := ⟨oB, j * 5 + 2, .none⟩) hol).trans e2
  have e3 := (hb2.cell (p := ⟨oB, j * 5 + 3, .none⟩) hol).trans e3
  have e4 := (hb2.cell (p := ⟨oB, j * 5 + 4, .none⟩) hol).trans e4
  have hbf : Below w.heap.size w w2 := hbw.trans (hb2.mono hbw.size)
  clear y0 y1 y2 y3 y4 z0 z1 z2 z3 z4 hb2 hbw
  go_wp2_with fail
  exact bodyPost_ret (res6 _ true rfl rfl (s5_cells q0 q1 q2 q3 q4 _ _ _ _ _)) rfl ⟨rfl, s5_below hbf (Nat.le_succ _) _ _ _ _ _⟩

end Go.Proofs.YbulkataaDoor
