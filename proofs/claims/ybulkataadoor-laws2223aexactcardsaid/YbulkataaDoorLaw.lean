import Derived.Test.YbulkataaDoorBuild
import Derived.BigQuiet
namespace Go.Proofs.YbulkataaDoor
open Go.RowKit

theorem Inv.erabs {w W : World} {n : Nat} {a4 a6 : Addr} {I : Nat → Inp} (hv : Inv w W n n a4 a6 I) : ∃ R : Nat → Er, Erabs W w.heap.size n a4 a6 R ∧ ∀ j, j < n → (R j).id = (I j).id ∧ (R j).k = (I j).kind % 3 := by
  obtain ⟨cur, h1, h2, h3⟩ := hv.row
  have hR : ∀ j, ∃ r : Er, j < n → (cur[j * 5]? = some (.int .u8 r.id) ∧ cur[j * 5 + 1]? = some (.int .u64 r.h) ∧ cur[j * 5 + 2]? = some (.int .u64 r.l) ∧ cur[j * 5 + 3]? = some (.pointer (hptr a4 a6 r.k)) ∧ cur[j * 5 + 4]? = some (.int .u32 r.t)) ∧ r.id = (I j).id ∧ r.k = (I j).kind % 3 := by
    intro j
    by_cases hj : j < n
    · obtain ⟨h, l, e⟩ := h3 j hj
      exact ⟨⟨(I j).id, h, l, (I j).kind % 3, (I j).t⟩, fun _ => ⟨e, rfl, rfl⟩⟩
    · exact ⟨⟨0, 0, 0, 0, 0⟩, fun h => absurd h hj⟩
  refine ⟨fun j => Classical.choose (hR j), fun j hj => ?_, fun j hj => (Classical.choose_spec (hR j) hj).2⟩
  have := (Classical.choose_spec (hR j) hj).1
  simp only [cell_of_row _ _ _ _ _ _ h1]
  exact this

set_option maxHeartbeats 400000 in
theorem build_nil (a0 : Option Addr) (cap0 : Nat) (a4 a6 : Addr) (I : Nat → Inp) (w : World) :
    Calls Ybad.prog 5 #[.slice a0 0 cap0] w fun e w' => e = .returned (.slice (some ⟨w.heap.size, 0, .none⟩) (0 : Nat) (0 : Nat)) ∧ Inv w w' 0 0 a4 a6 I := by
  obtain ⟨i0, hi, hq0, hq1, hq2⟩ := info_parts i35
  go_enter Ybad.func5, Ybad.ntmps5
  go_wp2_with (at_make; refine wpList_make_full _ rfl _ _ 23 rfl w.heap.size 35 i0 _ 5 Ybad.underlying23 hi hq0 hq1 .i64 .i64 _ _ 0 rfl rfl rfl rfl (by rw [hq2]; omega) (by unfold maxLen; omega) (Nat.le_refl _) ?_; intro w1 hown1 hg1)
  have hst : Inv w w1 0 0 a4 a6 I := by
    obtain ⟨_, h | ⟨g, cap, cur, hv, hg', hh, h1, h2, h3, h4⟩⟩ := hown1
    · simp at h
    simp at hv
    obtain ⟨rfl, rfl⟩ := hv
    exact ⟨⟨cur, hh, h3, fun j hj => absurd hj (Nat.not_lt_zero _)⟩, (Below.refl _ _).grown hg1 (Nat.le_refl _) (by intro k hk; cases hk)⟩
  clear hown1 hg1
  go_loopw [4] (fun i wr => i = .int .i64 0 ∧ Inv w wr 0 0 a4 a6 I) (fun i _ => 0)
  case atStart => exact ⟨rfl, hst⟩
  case round =>
    clear hst
    obtain ⟨rfl, hinv⟩ := hrel
    go_wp2_with fail
    go_ret
    exact ⟨rfl, hinv⟩

theorem law_big (b off n cap : Nat) (id : Int) (hn : 1024 < n) (w : World) :
    Calls Ybad.prog 3 #[.slice (some ⟨b, off, .none⟩) n cap, .int .u8 id] w fun e w' => e = .returned (.bool true) ∧ Below w.heap.size w w' := by
  have hn' : (1024 : Int) < (n : Int) := by omega
  go_enter Ybad.func3, Ybad.ntmps3
  go_wp2_with fail
  go_ret
  exact ⟨rfl, Below.refl _ _⟩

set_option maxHeartbeats 400000 in
theorem law_nil (a0 : Option Addr) (cap0 : Nat) (id : Int) (a4 a6 : Addr) (w : World) :
    Calls Ybad.prog 3 #[.slice a0 0 cap0, .int .u8 id] w fun e w' => e = .returned (.bool true) ∧ Below w.heap.size w w' := by
  go_enter Ybad.func3, Ybad.ntmps3
  go_wp2_with fail
  refine (build_nil a0 cap0 a4 a6 (fun _ => ⟨0, 0, fun _ => 0, 0⟩) w).mono ?_
  rintro e w1 ⟨rfl, hv⟩
  obtain ⟨R, hE, hR⟩ := hv.erabs
  have ho : w.heap.size < w1.heap.size := by obtain ⟨cur, h1, _⟩ := hv.row; exact lt_of_block h1
  have hb1 := hv.bel
  clear hv
  go_wp2_with fail
  refine (def_none w.heap.size 0 id a4 a6 R (by omega) (fun q hq => absurd hq (Nat.not_lt_zero _)) w1 hE ho).mono ?_
  rintro e w2 ⟨rfl, hb2⟩
  unfold erz
  go_wp2_with fail
  have hs := fun (d : Nat) (W : World) => eq28_nils d W
  go_loop [8, 9] (fun j i => j = .int .i64 (-1) ∧ i = .int .i64 0) (fun j i => 0)
  case atStart => exact ⟨rfl, rfl⟩
  case round =>
    obtain ⟨rfl, rfl⟩ := hrel
    go_wp2_with fail
    go_ret
    exact ⟨rfl, hb1.trans ((hb2.mono (by omega)).alloc (by have := hb2.size; omega) _)⟩

set_option maxHeartbeats 800000 in
theorem law_miss (b off n cap : Nat) (id : Int) (a4 a6 : Addr) (I : Nat → Inp) (hI : ∀ j, InpOk (I j)) (hn : n ≤ 1024) (hmiss : ∀ q, q < n → (I q).id ≠ id) (w : World) (hb : b < w.heap.size) (hc : InCells w b off n I) (hH : Han w a4 a6) :
    Calls Ybad.prog 3 #[.slice (some ⟨b, off, .none⟩) n cap, .int .u8 id] w fun e w' => e = .returned (.bool true) ∧ Below w.heap.size w w' := by
  have hn' : ¬ (1024 : Int) < (n : Int) := by omega
  have HM : Hid (∀ q, q < n → (I q).id ≠ id) := hmiss
  clear hmiss
  go_enter Ybad.func3, Ybad.ntmps3
  go_wp2_with fail
  refine (build_any b off n cap a4 a6 I hI hn w hb hc hH).mono ?_
  rintro e w1 ⟨rfl, hv⟩
  obtain ⟨R, hE, hR⟩ := hv.erabs
  have ho : w.heap.size < w1.heap.size := by obtain ⟨cur, h1, _⟩ := hv.row; exact lt_of_block h1
  have hb1 := hv.bel
  clear hv
  have HR : Hid (∀ j, j < n → (R j).id = (I j).id ∧ (R j).k = (I j).kind % 3) := hR
  clear hR
  go_wp2_with fail
  refine (def_none w.heap.size n id a4 a6 R hn (fun q hq => by rw [(HR.out q hq).1]; exact HM.out q hq) w1 hE ho).mono ?_
  rintro e w2 ⟨rfl, hb2⟩
  unfold erz
  go_wp2_with fail
  have hs := fun (d : Nat) (W : World) => eq28_nils d W
  have hbw := hb1.trans (hb2.mono (by omega))
  go_loop [8, 9] (fun j i => ∃ k : Nat, k ≤ n ∧ j = .int .i64 (-1) ∧ i = .int .i64 k) (fun _ i => n - (intOf i).toNat)
  case atStart => exact ⟨0, Nat.zero_le _, rfl, rfl⟩
  case round =>
    obtain ⟨k, hk, rfl, rfl⟩ := hrel
    by_cases hlt : k < n
    · have hlt' : (k : Int) < (n : Int) := by omega
      have e0 : ∀ o, (w2.alloc o).cell? ⟨b, off + k * 19, .none⟩ = some (.int .u8 (I k).id) := fun o => ((hbw.alloc hbw.size o).cell (by simpa using hb)).trans (hc k hlt 0 _ rfl)
      have ht : ((I k).id == id) = false := beq_eq_false_iff_ne.2 (HM.out k hlt)
      go_wp2_with fail
      go_round
      case rel => exact ⟨k + 1, by omega, rfl, by go_num⟩
      case measure => simp [intOf]; omega
    · have hlt' : ¬ (k : Int) < (n : Int) := by omega
      go_wp2_with fail
      go_ret
      exact ⟨rfl, hbw.alloc (by have := hbw.size; omega) _⟩

set_option maxHeartbeats 800000 in
theorem law_no4 (b off n cap j : Nat) (id : Int) (a4 a6 : Addr) (I : Nat → Inp) (hI : ∀ j, InpOk (I j)) (hn : n ≤ 1024) (hj : j < n) (hhit : (I j).id = id) (hmiss : ∀ q, q < j → (I q).id ≠ id) (hk1 : (I j).kind % 3 ≠ 1) (w : World) (hb : b < w.heap.size) (hc : InCells w b off n I) (hH : Han w a4 a6) :
    Calls Ybad.prog 3 #[.slice (some ⟨b, off, .none⟩) n cap, .int .u8 id] w fun e w' => e = .returned (.bool true) ∧ Below w.heap.size w w' := by
  have hn' : ¬ (1024 : Int) < (n : Int) := by omega
  have HM : Hid (((I j).id = id ∧ ∀ q, q < j → (I q).id ≠ id) ∧ (I j).kind % 3 ≠ 1) := ⟨⟨hhit, hmiss⟩, hk1⟩
  clear hhit hmiss hk1
  go_enter Ybad.func3, Ybad.ntmps3
  go_wp2_with fail
  refine (build_any b off n cap a4 a6 I hI hn w hb hc hH).mono ?_
  rintro e w1 ⟨rfl, hv⟩
  obtain ⟨R, hE, hR⟩ := hv.erabs
  have ho : w.heap.size < w1.heap.size := by obtain ⟨cur, h1, _⟩ := hv.row; exact lt_of_block h1
  have hb1 := hv.bel
  clear hv
  have HR : Hid (∀ j, j < n → (R j).id = (I j).id ∧ (R j).k = (I j).kind % 3) := hR
  clear hR
  go_wp2_with fail
  refine (def_no4 w.heap.size n j id a4 a6 R hn hj (by rw [(HR.out j hj).1]; exact HM.out.1.1) (fun q hq => by rw [(HR.out q (by omega)).1]; exact HM.out.1.2 q hq) (by rw [(HR.out j hj).2]; exact HM.out.2) w1 hE ho (hH.later hb1)).mono ?_
  rintro e w2 ⟨rfl, hb2⟩
  unfold erz
  go_wp2_with fail
  have hs := fun (d : Nat) (W : World) => eq28_nils d W
  have hbw := hb1.trans (hb2.mono (by omega))
  go_loop [8, 9] (fun q i => ∃ k : Nat, k ≤ j ∧ q = .int .i64 (-1) ∧ i = .int .i64 k) (fun _ i => n - (intOf i).toNat)
  case atStart => exact ⟨0, Nat.zero_le _, rfl, rfl⟩
  case round =>
    obtain ⟨k, hk, rfl, rfl⟩ := hrel
    have hlt' : (k : Int) < (n : Int) := by omega
    have e0 : ∀ o, (w2.alloc o).cell? ⟨b, off + k * 19, .none⟩ = some (.int .u8 (I k).id) := fun o => ((hbw.alloc hbw.size o).cell (by simpa using hb)).trans (hc k (by omega) 0 _ rfl)
    by_cases hlt : k < j
    · have ht : ((I k).id == id) = false := beq_eq_false_iff_ne.2 (HM.out.1.2 k hlt)
      go_wp2_with fail
      go_round
      case rel => exact ⟨k + 1, by omega, rfl, by go_num⟩
      case measure => simp [intOf]; omega
    · have hkj : k = j := by omega
      subst hkj
      have ht : ((I k).id == id) = true := by rw [HM.out.1.1]; simp
      have e1 : ∀ o, (w2.alloc o).cell? ⟨b, off + k * 19 + 1, .none⟩ = some (.int .u8 (I k).kind) := fun o => ((hbw.alloc hbw.size o).cell (by simpa using hb)).trans (hc k (by omega) 1 _ rfl)
      have hk0 := (hI k).2.2.1
      have hk2 := (hI k).2.2.2
      have hk3 : ((I k).kind % 3 == 1) = false := by exact beq_eq_false_iff_ne.2 HM.out.2
      have hk4 : ¬ (k : Int) < 0 := by omega
      go_wp2_with fail
      go_ret
      exact ⟨rfl, hbw.alloc (by have := hbw.size; omega) _⟩

set_option maxHeartbeats 800000 in
theorem law_yes (b off n cap j : Nat) (id : Int) (a4 a6 : Addr) (I : Nat → Inp) (hI : ∀ j, InpOk (I j)) (hn : n ≤ 1024) (hj : j < n) (hhit : (I j).id = id) (hmiss : ∀ q, q < j → (I q).id ≠ id) (hk1 : (I j).kind % 3 = 1) (w : World) (hb : b < w.heap.size) (hc : InCells w b off n I) (hH : Han w a4 a6) :
    Calls Ybad.prog 3 #[.slice (some ⟨b, off, .none⟩) n cap, .int .u8 id] w fun e w' => e = .returned (.bool true) ∧ Below w.heap.size w w' := by
  have hn' : ¬ (1024 : Int) < (n : Int) := by omega
  have HM : Hid (((I j).id = id ∧ ∀ q, q < j → (I q).id ≠ id) ∧ (I j).kind % 3 = 1) := ⟨⟨hhit, hmiss⟩, hk1⟩
  clear hhit hmiss hk1
  go_enter Ybad.func3, Ybad.ntmps3
  go_wp2_with fail
  refine (build_any b off n cap a4 a6 I hI hn w hb hc hH).mono ?_
  rintro e w1 ⟨rfl, hv⟩
  obtain ⟨R, hE, hR⟩ := hv.erabs
  have ho : w.heap.size < w1.heap.size := by obtain ⟨cur, h1, _⟩ := hv.row; exact lt_of_block h1
  have hb1 := hv.bel
  clear hv
  have HR : Hid (∀ j, j < n → (R j).id = (I j).id ∧ (R j).k = (I j).kind % 3) := hR
  clear hR
  go_wp2_with fail
  refine (def_yes w.heap.size n j id a4 a6 R hn hj (by rw [(HR.out j hj).1]; exact HM.out.1.1) (fun q hq => by rw [(HR.out q (by omega)).1]; exact HM.out.1.2 q hq) (by rw [(HR.out j hj).2]; exact HM.out.2) w1 hE ho (hH.later hb1)).mono ?_
  rintro e w2 ⟨rfl, hb2⟩
  unfold erv
  go_wp2_with fail
  have hbw := hb1.trans (hb2.mono (by omega))
  go_loop [8, 9] (fun q i => ∃ k : Nat, k ≤ j ∧ q = .int .i64 (-1) ∧ i = .int .i64 k) (fun _ i => n - (intOf i).toNat)
  case atStart => exact ⟨0, Nat.zero_le _, rfl, rfl⟩
  case round =>
    obtain ⟨k, hk, rfl, rfl⟩ := hrel
    have hlt' : (k : Int) < (n : Int) := by omega
    have e0 : ∀ o, (w2.alloc o).cell? ⟨b, off + k * 19, .none⟩ = some (.int .u8 (I k).id) := fun o => ((hbw.alloc hbw.size o).cell (by simpa using hb)).trans (hc k (by omega) 0 _ rfl)
    by_cases hlt : k < j
    · have ht : ((I k).id == id) = false := beq_eq_false_iff_ne.2 (HM.out.1.2 k hlt)
      go_wp2_with fail
      go_round
      case rel => exact ⟨k + 1, by omega, rfl, by go_num⟩
      case measure => simp [intOf]; omega
    · have hkj : k = j := by omega
      subst hkj
      have ht : ((I k).id == id) = true := by rw [HM.out.1.1]; simp
      have e1 : ∀ o, (w2.alloc o).cell? ⟨b, off + k * 19 + 1, .none⟩ = some (.int .u8 (I k).kind) := fun o => ((hbw.alloc hbw.size o).cell (by simpa using hb)).trans (hc k (by omega) 1 _ rfl)
      have hk0 := (hI k).2.2.1
      have hk2 := (hI k).2.2.2
      have hk3 : ((I k).kind % 3 == 1) = true := by rw [HM.out.2]; rfl
      have hk4 : ¬ (k : Int) < 0 := by omega
      have hs := fun (d : Nat) (W : World) => eq28_same d a4 W
      have hpp : hptr a4 a6 (R k).k = some a4 := by rw [(HR.out k hj).2, HM.out.2]; rfl
      have gg := fun o => (hE.later ho (hb2.alloc hb2.size o)) k hj
      have g0 := fun o => (gg o).1
      have g1 := fun o => (gg o).2.1
      have g2 := fun o => (gg o).2.2.1
      have g3 := fun o => (gg o).2.2.2.1
      have g4 := fun o => (gg o).2.2.2.2
      rw [hpp] at g3 ⊢
      clear hpp gg
      go_upto_region 13 with fail
      go_quiet (fail)
      go_wp2_with fail
      go_ret
      exact ⟨rfl, below_drewN (hbw.alloc (by have := hbw.size; omega) _) _⟩

theorem first_of (p : Nat → Prop) : ∀ n, (∀ q, q < n → ¬ p q) ∨ ∃ j, j < n ∧ p j ∧ ∀ q, q < j → ¬ p q
  | 0 => .inl fun q hq => absurd hq (Nat.not_lt_zero _)
  | n + 1 => by
    rcases first_of p n with h | ⟨j, h1, h2, h3⟩
    · by_cases hp : p n
      · exact .inr ⟨n, Nat.lt_succ_self _, hp, h⟩
      · exact .inl fun q hq => by
          by_cases hqn : q = n
          · subst hqn; exact hp
          · exact h q (by omega)
    · exact .inr ⟨j, by omega, h2, h3⟩

theorem law_any (b off n cap : Nat) (id : Int) (a4 a6 : Addr) (I : Nat → Inp) (hI : ∀ j, InpOk (I j)) (w : World) (hb : b < w.heap.size) (hc : InCells w b off n I) (hH : Han w a4 a6) :
    Calls Ybad.prog 3 #[.slice (some ⟨b, off, .none⟩) n cap, .int .u8 id] w fun e w' => e = .returned (.bool true) ∧ Below w.heap.size w w' := by
  by_cases hn : n ≤ 1024
  · rcases first_of (fun j => (I j).id = id) n with h | ⟨j, h1, h2, h3⟩
    · exact law_miss b off n cap id a4 a6 I hI hn h w hb hc hH
    · by_cases hk : (I j).kind % 3 = 1
      · exact law_yes b off n cap j id a4 a6 I hI hn h1 h2 h3 hk w hb hc hH
      · exact law_no4 b off n cap j id a4 a6 I hI hn h1 h2 h3 hk w hb hc hH
  · exact law_big b off n cap id (by omega) w
end Go.Proofs.YbulkataaDoor
