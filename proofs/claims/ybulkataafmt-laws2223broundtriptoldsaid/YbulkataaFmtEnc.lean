import Derived.Test.YbulkataaFmtPlain
namespace Go.Proofs.YbulkataaFmt
open Go.RowKit Go.Extern.Stop Go.Stop Go.Extern

/-- what the pair's MME half leaves -/
def mmeP (x : Nat) : List Nat := 4 * (octs x - 1) :: be x (octs x)
/-- what the pair leaves -/
def pairP (x y : Nat) : List Nat := mmeP x ++ [64 * (octs y - 1)] ++ be y (octs y)
theorem mmeP_len (x : Nat) : (mmeP x).length = 1 + octs x := by simp [mmeP, be_len]; omega

theorem ok0 : Ok ([], 0) 0 := ⟨by decide, by decide, by decide, fun z h => by cases h⟩
theorem ok_mono {s : List Nat × Nat} {n m : Nat} (h : Ok s n) (hm : n ≤ m) : Ok s m := ⟨Nat.le_trans h.a hm, Nat.le_trans h.b hm, h.c, h.d⟩
theorem mmeP_lt (x : Nat) (hx : x < 4294967296) : ∀ z ∈ mmeP x, z < 256 := fun z hz => by
  simp only [mmeP, List.mem_cons] at hz
  have := octs_le x hx
  rcases hz with rfl | h
  · omega
  · exact be_lt x _ z h

theorem Wr.fresh {w : World} {b : Nat} (h : Wr w b (b + 1) (.slice .none 0 0) [] 0 .nilIface) {w' : World} (hb : Below w.heap.size w w') {B : Nat} (h1 : b < B) (h2 : B ≤ w'.heap.size) : Wr w' b B (.slice .none 0 0) [] 0 .nilIface := by
  have h := h.later hb
  exact ⟨h.c0, World.ownsRow_nil _ _ _ _, h.c1, h.c2, h.f0, h.f1, h.f2, h1, h2⟩

set_option maxHeartbeats 400000 in
theorem putUES_head (mme enb b : Nat) (hm : mme < 4294967296) (w : World) (hW : Wr w b (b + 1) (.slice .none 0 0) [] 0 .nilIface)
    (Q : World → Prop) (hQ : ∀ v' w1, Wr w1 b (w.heap.size + 1) v' (mmeP mme) (8 * (mmeP mme).length) .nilIface → But b (w.heap.size + 1) (w.alloc (.cells #[.int .u32 mme, .int .u32 enb] 31)) w1 →
      Calls Ybaf.prog 13 #[.pointer (some ⟨b, 0, .none⟩), .int .u32 enb] w1 fun e w' => e = .returned (.tuple #[]) ∧ Q w') :
    Calls Ybaf.prog 5 #[.pointer (some ⟨b, 0, .none⟩), .agg #[.int .u32 mme, .int .u32 enb]] w fun e w' => e = .returned (.tuple #[]) ∧ Q w' := by
  have hbs : b < w.heap.size := by have := hW.sz; omega
  have HW1 : Hid (Wr (w.alloc (.cells #[.int .u32 mme, .int .u32 enb] 31)) b (w.heap.size + 1) (.slice .none 0 0) [] 0 .nilIface) := hW.fresh ((Below.refl _ _).alloc (Nat.le_refl _) _) (by omega) (by simp)
  have HQ : Hid (∀ v' w1, Wr w1 b (w.heap.size + 1) v' (mmeP mme) (8 * (mmeP mme).length) .nilIface → But b (w.heap.size + 1) (w.alloc (.cells #[.int .u32 mme, .int .u32 enb] 31)) w1 →
      Calls Ybaf.prog 13 #[.pointer (some ⟨b, 0, .none⟩), .int .u32 enb] w1 fun e w' => e = .returned (.tuple #[]) ∧ Q w') := hQ
  have hid0 : (w.alloc (.cells #[.int .u32 (mme : Int), .int .u32 (enb : Int)] 31)).cell? ⟨w.heap.size, 0, .none⟩ = some (.int .u32 mme) := by simp
  have hid1 : (w.alloc (.cells #[.int .u32 (mme : Int), .int .u32 (enb : Int)] 31)).cell? ⟨w.heap.size, 1, .none⟩ = some (.int .u32 enb) := by simp
  have HI : Hid ((w.alloc (.cells #[.int .u32 (mme : Int), .int .u32 (enb : Int)] 31)).cell? ⟨w.heap.size, 0, .none⟩ = some (.int .u32 mme) ∧ (w.alloc (.cells #[.int .u32 (mme : Int), .int .u32 (enb : Int)] 31)).cell? ⟨w.heap.size, 1, .none⟩ = some (.int .u32 enb)) := ⟨hid0, hid1⟩
  clear hW hQ hid0 hid1
  go_enter Ybaf.func5, Ybaf.ntmps5
  go_wp2_with fail
  refine (putBool_f b (w.heap.size + 1) _ [] 0 (ok_mono ok0 (by decide)) _ HW1.out).mono ?_
  rintro e w1 ⟨rfl, ⟨v1, hw1⟩, hb1⟩
  have hw1 : Wr w1 b (w.heap.size + 1) v1 [0] 1 .nilIface := hw1
  go_wp2_with fail
  refine (putCons_001 b (w.heap.size + 1) v1 [0] 1 ⟨by decide, by decide, by decide, by decide⟩ w1 hw1).mono ?_
  rintro e w2 ⟨rfl, ⟨v2, hw2⟩, hb2⟩
  have hw2 : Wr w2 b (w.heap.size + 1) v2 [0] 2 .nilIface := hw2
  have hb2 := hb1.trans hb2
  clear hb1 hw1
  go_wp2_with fail
  refine (putBool_f b (w.heap.size + 1) v2 [0] 2 ⟨by decide, by decide, by decide, by decide⟩ w2 hw2).mono ?_
  rintro e w3 ⟨rfl, ⟨v3, hw3⟩, hb3⟩
  have hw3 : Wr w3 b (w.heap.size + 1) v3 [0] 3 .nilIface := hw3
  have hb3 := hb2.trans hb3
  clear hb2 hw2
  go_wp2_with fail
  refine (putBool_f b (w.heap.size + 1) v3 [0] 3 ⟨by decide, by decide, by decide, by decide⟩ w3 hw3).mono ?_
  rintro e w4 ⟨rfl, ⟨v4, hw4⟩, hb4⟩
  have hw4 : Wr w4 b (w.heap.size + 1) v4 [0] 4 .nilIface := hw4
  have hb4 := hb3.trans hb4
  clear hb3 hw3
  have d0 := (hb4.cell (p := ⟨w.heap.size, 0, .none⟩) (by simp) (by simp; omega)).trans HI.out.1
  go_wp2_with fail
  refine (putMME_any mme b (w.heap.size + 1) hm v4 [0] 4 ⟨by decide, by decide, by decide, by decide⟩ w4 hw4).mono ?_
  rintro e w5 ⟨rfl, ⟨v5, hw5⟩, hb5⟩
  rw [off_head mme hm] at hw5
  have hw5 : Wr w5 b (w.heap.size + 1) v5 (mmeP mme) (8 * (mmeP mme).length) .nilIface := by rw [mmeP_len]; exact hw5
  have hb5 := hb4.trans hb5
  clear hb4 hw4 d0
  have d1 := (hb5.cell (p := ⟨w.heap.size, 1, .none⟩) (by simp) (by simp; omega)).trans HI.out.2
  go_wp2_with fail
  refine (HQ.out v5 w5 hw5 hb5).mono ?_
  rintro e w6 ⟨rfl, hq6⟩
  go_wp2_with fail
  go_end0
  exact ⟨rfl, hq6⟩

theorem putUES_ok (mme enb b : Nat) (hm : mme < 4294967296) (he : enb < 16777216) (w : World) (hW : Wr w b (b + 1) (.slice .none 0 0) [] 0 .nilIface) :
    Calls Ybaf.prog 5 #[.pointer (some ⟨b, 0, .none⟩), .agg #[.int .u32 mme, .int .u32 enb]] w fun e w' => e = .returned (.tuple #[]) ∧ (∃ v', Wr w' b (w.heap.size + 1) v' (pairP mme enb) (8 * (pairP mme enb).length) .nilIface) ∧ Below b w w' := by
  have hbs : b < w.heap.size := by have := hW.sz; omega
  refine putUES_head mme enb b hm w hW _ fun v1 w1 hw1 hb1 => ?_
  have hl := mmeP_len mme
  have h4 := octs_le mme hm
  refine (putENB_ok enb b _ he v1 (mmeP mme) (8 * (mmeP mme).length) ⟨by simp only; omega, by simp only; omega, by simp only; omega, mmeP_lt mme hm⟩ w1 hw1).mono ?_
  rintro e w2 ⟨rfl, ⟨v2, hw2⟩, hb2⟩
  rw [off_next enb (by omega)] at hw2
  have e1 : 8 * ((mmeP mme).length + 1 + octs enb) = 8 * (pairP mme enb).length := by simp [pairP, be_len]; omega
  refine ⟨rfl, ⟨v2, by rw [← e1]; exact hw2⟩, ?_⟩
  exact ((Below.refl b w).alloc (by omega) _).trans ((hb1.trans hb2).below (by omega))

theorem putUES_bad (F : Interp) (mme enb b : Nat) (hm : mme < 4294967296) (he : 16777215 < enb) (w : World) (hF : F.answers w.tape) (hW : Wr w b (b + 1) (.slice .none 0 0) [] 0 .nilIface) :
    Calls Ybaf.prog 5 #[.pointer (some ⟨b, 0, .none⟩), .agg #[.int .u32 mme, .int .u32 enb]] w fun e w' => e = .returned (.tuple #[]) ∧ (∃ v' t p, Wr w' b (w.heap.size + 1) v' (mmeP mme) (8 * (mmeP mme).length) (.iface t p)) ∧ Below b w w' := by
  have hbs : b < w.heap.size := by have := hW.sz; omega
  refine putUES_head mme enb b hm w hW _ fun v1 w1 hw1 hb1 => ?_
  refine (putENB_bad F enb b _ he v1 _ _ w1 (by rw [hb1.tape]; exact hF) hw1).mono ?_
  rintro e w2 ⟨rfl, ⟨t, p, hw2⟩, hb2⟩
  exact ⟨rfl, ⟨v1, t, p, hw2⟩, ((Below.refl b w).alloc (by omega) _).trans ((hb1.trans hb2).below (by omega))⟩

theorem shr_some {x p : Nat} (h : 2 ^ p ≤ x) : ((x : Int) / 2 ^ p != 0) = true := by
  have e : ((x : Int) / 2 ^ p) = ((x / 2 ^ p : Nat) : Int) := by simp
  have h1 : 0 < x / 2 ^ p := Nat.div_pos h (Nat.two_pow_pos _)
  rw [e]
  generalize x / 2 ^ p = q at h1 ⊢
  simp; omega
theorem shr_none {x p : Nat} (h : x < 2 ^ p) : ((x : Int) / 2 ^ p != 0) = false := by
  have e : ((x : Int) / 2 ^ p) = ((x / 2 ^ p : Nat) : Int) := by simp
  rw [e, Nat.div_eq_of_lt h]
  rfl
set_option maxHeartbeats 400000 in
theorem blen_any (x N : Nat) (hx : x < 4294967296) (hN : octs x ≤ N) (hN4 : N ≤ 4) (w : World) :
    Calls Ybaf.prog 6 #[.int .u32 x, .int .i64 N] w fun e w' => e = .returned (.int .i64 (octs x)) ∧ w' = w := by
  have o1 := octs_pos x
  have HT : Hid ((∀ n, 1 ≤ n → n < octs x → 2 ^ (8 * n) ≤ x) ∧ x < 2 ^ (8 * octs x)) := ⟨fun n h1 h2 => octs_ge x n hx h1 h2, octs_lt x hx⟩
  generalize octs x = m at *
  go_enter Ybaf.func6, Ybaf.ntmps6
  go_wp2_with fail
  go_loop [5] (fun i => ∃ k : Nat, 1 ≤ k ∧ k ≤ m ∧ i = .int .i64 k) (fun i => m - (intOf i).toNat)
  case atStart => exact ⟨1, by omega, by omega, rfl⟩
  case round =>
    obtain ⟨k, hk1, hkm, rfl⟩ := hrel
    by_cases hlt : k < m
    · have t1 : (k : Int) < (N : Int) := by omega
      have t2 : ((x : Int) / 2 ^ (8 * k) != 0) = true := shr_some (HT.out.1 k hk1 hlt)
      go_wp2_with fail
      go_round
      case rel => exact ⟨k + 1, by omega, by omega, by go_num⟩
      case measure => simp [intOf]; omega
    · have hkm' : k = m := by omega
      subst hkm'
      by_cases hN2 : k < N
      · have t1 : (k : Int) < (N : Int) := by omega
        have t2 : ((x : Int) / 2 ^ (8 * k) != 0) = false := shr_none HT.out.2
        go_wp2_with fail
        go_ret
        exact ⟨rfl, rfl⟩
      · have t1 : ¬ (k : Int) < (N : Int) := by omega
        go_wp2_with fail
        go_ret
        exact ⟨rfl, rfl⟩

theorem own_more {w : World} {B : Nat} {v : Value} {bs : List Nat} {n x : Nat} (hn : n = bs.length) (h : w.ownsRow B 5 1 v (n + 1) (u8s bs ++ [.int .u8 x])) : w.ownsRow B 5 1 v (bs ++ [x]).length (u8s (bs ++ [x])) := by
  subst hn; exact own_snoc h

set_option maxHeartbeats 400000 in
theorem bappend_any (x n B : Nat) (_hx : x < 4294967296) (hn : n ≤ 4) (v0 : Value) (bs0 : List Nat) (hl : bs0.length ≤ 100) (w : World) (hown : w.ownsRow B 5 1 v0 bs0.length (u8s bs0)) (hB : B ≤ w.heap.size) :
    Calls Ybaf.prog 7 #[v0, .int .u32 x, .int .i64 n] w fun e w' => (∃ v', e = .returned v' ∧ w'.ownsRow B 5 1 v' (bs0 ++ be x n).length (u8s (bs0 ++ be x n))) ∧ Below B w w' := by
  obtain ⟨i0, hi, hz0, hz1, hz2⟩ := info_parts Ybaf.info5
  go_enter Ybaf.func7, Ybaf.ntmps7
  go_wp2_with fail
  go_loopw [0, 7] (fun v i wr => ∃ (k : Nat) (bs : List Nat), k ≤ n ∧ i = .int .i64 ((k : Int) - 1) ∧ bs ++ be x k = bs0 ++ be x n ∧ wr.ownsRow B 5 1 v bs.length (u8s bs) ∧ Below B w wr ∧ bs.length + k ≤ 104) (fun _ i _ => (intOf i + 1).toNat)
  case atStart => exact ⟨n, bs0, Nat.le_refl _, rfl, rfl, hown, Below.refl _ _, by omega⟩
  case round =>
    obtain ⟨k, bs, hk, rfl, hE, hown, hbel, hlb⟩ := hrel
    have hsz := hbel.size
    have HE : Hid (bs ++ be x k = bs0 ++ be x n) := hE
    have HO : Hid (wr.ownsRow B 5 1 u0 bs.length (u8s bs)) := hown
    clear hE hown
    match k, hk, hlb, HE with
    | 0, hk, hlb, HE =>
      go_wp2_with fail
      go_ret
      have := HE.out
      simp only [be, List.append_nil] at this
      rw [← this]
      exact ⟨⟨_, rfl, HO.out⟩, hbel⟩
    | k + 1, hk, hlb, HE =>
      have hk0 : (0 : Int) ≤ k := by omega
      go_wp2_with (at_builtin; refine wpList_append_own _ rfl _ _ 23 rfl B 5 i0 (.int .u8 0) 1 1 Ybaf.underlying23 hi hz0 hz1 hz2 rfl (by decide) _ _ _ rfl (HO.out.alloc _) ⟨wr.heap.size, 0, .none⟩ 1 1 [.int .u8 ((x : Int) / 2 ^ (8 * k) % 256)] rfl rfl (one_cell_new _ _) (fun u hu => by simp at hu; subst hu; rfl) (by unfold maxLen; omega) (by omega) (by simp; omega) ?_; intro v' w1 hown' hg' _; have HN : Hid (w1.ownsRow B 5 1 v' (bs.length + 1) (u8s bs ++ [.int .u8 ((x : Int) / 2 ^ (8 * k) % 256)])) := hown'; have HG : Hid ((wr.alloc (.cells #[.int .u8 ((x : Int) / 2 ^ (8 * k) % 256)] 5)).grownBy w1 u0.ownBlock) := hg'; clear hown' hg')
      go_roundw
      case rel =>
        refine ⟨k, bs ++ [x / 2 ^ (8 * k) % 256], by omega, rfl, ?_, ?_, ?_, by simp; omega⟩
        · rw [← HE.out]; simp [be]
        · have := HN.out
          rw [show ((x : Int) / 2 ^ (8 * k) % 256) = ((x / 2 ^ (8 * k) % 256 : Nat) : Int) by simp] at this
          exact own_snoc this
        · refine (hbel.alloc (by omega) _).grown HG.out (by simp; omega) (fun q hq => ?_)
          rcases HO.out.2 with ⟨rfl, _⟩ | ⟨g, cap, cur, rfl, hbg, _⟩
          · simp [Value.ownBlock] at hq
          · simp [Value.ownBlock] at hq; omega
      case measure => simp [intOf]
end Go.Proofs.YbulkataaFmt
