import Derived.Test.YbulkasyyFmtWalks
import Derived.Test.YbulkasyyFmtPart
import Derived.Deep.CutBlock
namespace Go.Proofs.YbulkasyyFmt
open Go.RowKit Go.Extern.Stop Go.Stop Go.Extern

/-- the reader at block rB over L bytes d in block bB, at offset off, without an error -/
structure Rd (w : World) (rB bB L off : Nat) (d : Nat → Nat) : Prop where
  c0 : w.cell? ⟨rB, 0, .none⟩ = some (.slice (some ⟨bB, 0, .none⟩) L L)
  c1 : w.cell? ⟨rB, 1, .none⟩ = some (.int .i64 off)
  c2 : w.cell? ⟨rB, 2, .none⟩ = some .nilIface
  f1 : w.frozen? ⟨rB, 1, .none⟩ = false
  f2 : w.frozen? ⟨rB, 2, .none⟩ = false
  by_ : ∀ j, j < L → w.cell? ⟨bB, j, .none⟩ = some (.int .u8 (d j : Nat))
  lt : bB < rB
  sz : rB < w.heap.size

theorem wp_gen {P : Program} {c : Code} {Q : Exit → Act → World → Prop} {a : Act} {X : World} (R : World → Prop) (hX : R X) (h : ∀ W, R W → Code.wp P c Q a W) : Code.wp P c Q a X := h X hX

theorem Rd.moved {w : World} {rB bB L off : Nat} {d : Nat → Nat} (h : Rd w rB bB L off d) (n : Nat) : Rd (w.setCell ⟨rB, 1, .none⟩ (.int .i64 ((off : Int) + (n : Int)))) rB bB L (off + n) d := by
  have hlt := h.lt
  refine ⟨?_, ?_, ?_, ?_, ?_, fun j hj => ?_, h.lt, ?_⟩
  · rw [World.cell?_setCell_other _ _ _ _ (by simp)]; exact h.c0
  · exact World.cell?_setCell_same _ _ _ h.c1
  · rw [World.cell?_setCell_other _ _ _ _ (by simp)]; exact h.c2
  · rw [World.frozen?_setCell]; exact h.f1
  · rw [World.frozen?_setCell]; exact h.f2
  · rw [World.cell?_setCell_other _ _ _ _ (fun e => by have := congrArg Addr.block e; simp at this; omega)]; exact h.by_ j hj
  · simp only [World.setCell, Array.size_modify]; exact h.sz

theorem be_word (d : Nat → Nat) (i m : Nat) (hm : 8 ≤ m) : Lib.beZ (((List.range m).map fun j => ((d (i + j) : Nat) : Int)).take 8) = ((word d i : Nat) : Int) := by
  rw [← List.map_take, List.take_range, show min 8 m = 8 by omega]
  simp [List.range, List.range.loop, Lib.beZ, Lib.beFromZ, word]
  omega

theorem u64_contract (rB bB L off i : Nat) (d : Nat → Nat) (hd : ∀ j, d j < 256) (h8 : i + 8 ≤ L) (W : World) (hR : Rd W rB bB L off d) (W' : World) (hW : Below W.heap.size W W') :
    Calls Ybaf.prog 14 #[.agg #[], .slice (some ⟨bB, i, .none⟩) (L - i) (L - i)] W' fun e w' => e = .returned (.int .u64 (word d i : Nat)) ∧ Below W'.heap.size W' w' := by
  have hlt := hR.lt
  have hsz := hR.sz
  refine (Ybaf.binary_BE_Uint64_z ⟨bB, i, .none⟩ (L - i) (L - i) ((List.range (L - i)).map fun j => ((d (i + j) : Nat) : Int)) W' (by omega) (by simp; omega) ?_ ?_).mono ?_
  · intro j hj
    simp at hj
    rw [Addr.add_mid, (hW.cell (by simp; omega))]
    rw [hR.by_ _ (by omega)]
    simp [hj]
  · intro z hz
    simp at hz
    obtain ⟨j, _, rfl⟩ := hz
    have := hd (i + j)
    exact WalkArith.wf_u8 (by omega)
  · rintro e w' ⟨rfl, hb⟩
    exact ⟨by rw [be_word d i _ (by omega)], hb⟩

theorem ret_u64 {a b : Int} (h : a = b) : Ending.returned (.int .u64 a) = .returned (.int .u64 b) := by rw [h]
theorem rd_later {W w2 : World} {rB bB L off : Nat} {d : Nat → Nat} (h : Rd W rB bB L off d) (hb : Below W.heap.size W w2) : Rd w2 rB bB L off d := by
  have hlt := h.lt
  have hsz := h.sz
  have hb2 := hb.size
  exact ⟨(hb.cell hsz).trans h.c0, (hb.cell hsz).trans h.c1, (hb.cell hsz).trans h.c2, (hb.frozen hsz).trans h.f1, (hb.frozen hsz).trans h.f2, fun j hj => (hb.cell (by simp; omega)).trans (h.by_ j hj), hlt, by omega⟩
set_option maxHeartbeats 400000 in
theorem bits_ok (rB bB L off n : Nat) (d : Nat → Nat) (hd : ∀ j, d j < 256) (hz : ∀ j, L ≤ j → d j = 0) (hL : L ≤ 1024) (hn : n ≤ 17) (hle : off + n ≤ 8 * L) (w : World) (hR : Rd w rB bB L off d) :
    Calls Ybaf.prog 11 #[.pointer (some ⟨rB, 0, .none⟩), .string ⟨#[102]⟩, .int .i64 n] w fun e w' => e = .returned (.int .u64 (spell d off n)) ∧ Below rB w w' ∧ Rd w' rB bB L (off + n) d := by
  have c1 := hR.c1
  obtain ⟨i, hi⟩ : ∃ i, i = off / 8 := ⟨_, rfl⟩
  obtain ⟨sk, hsk⟩ : ∃ sk, sk = off % 8 := ⟨_, rfl⟩
  have hie : (off : Int) / 8 = (i : Int) := by omega
  have hse : (off : Int) % 8 = (sk : Int) := by omega
  have hs8 : sk < 8 := by omega
  have hi8 : i ≤ L := by omega
  have HI : Hid (i = off / 8 ∧ sk = off % 8) := ⟨hi, hsk⟩
  clear hi hsk
  go_enter Ybaf.func11, Ybaf.ntmps11
  go_wp2_with fail
  refine (take_ok rB bB L off n hL (by omega) (by omega) (by omega) w hR.c0 hR.c1 hR.c2 hR.f1).mono ?_
  rintro e w' ⟨rfl, rfl⟩
  go_upto_region 4 with fail
  refine wp_gen (fun W => Rd W rB bB L (off + n) d ∧ Below rB w W) ⟨hR.moved n, (Below.refl rB w).setCell (p := ⟨rB, 1, .none⟩) (Nat.le_refl _) _⟩ ?_
  clear hR c1
  rintro W ⟨hR, hb⟩
  have c0 := hR.c0
  have c1 := hR.c1
  have c2 := hR.c2
  have hsz := hR.sz
  by_cases h8 : i + 8 ≤ L
  · have hU := u64_contract rB bB L _ i d hd h8 W hR
    have HU : Hid (∀ W' : World, Below W.heap.size W W' → Calls Ybaf.prog 14 #[.agg #[], .slice (some ⟨bB, i, .none⟩) (L - i) (L - i)] W' fun e w' => e = .returned (.int .u64 (word d i : Nat)) ∧ Below W'.heap.size W' w') := hU
    clear hU
    have hlt8 : (i : Int) < (L : Int) := by omega
    have hne8 : ¬ L = i := by omega
    go_upto_region 7 with fail
    go_region_held3 (fun w' => w'.cell? ⟨rB, 0, .none⟩ = some (.slice (some ⟨bB, 0, .none⟩) L L)) (go_keep) ((go_at_call 14; go_must (refine (HU.out _ ((Below.refl _ _).drew)).mono ?_); rintro e w2 ⟨rfl, hb2⟩; have e0 := (hb2.cell (p := ⟨rB, 0, .none⟩) (by simp; omega)).trans c0))
    go_wp2_with fail
    go_ret
    obtain ⟨hi, hsk⟩ := HI.out
    subst hi hsk
    exact ⟨ret_u64 (word_val d hd off n hn), hb.trans (((Below.refl _ _).drew).trans (hb2.mono (by simp; omega))), rd_later hR (((Below.refl _ _).drew).trans hb2)⟩
  · by_cases hiL : i = L
    · have hn0 : n = 0 := by have := HI.out; omega
      have hs0 : sk = 0 := by have := HI.out; omega
      subst hn0 hs0
      subst hiL
      go_wp2_with fail
      refine wp_loop_rounds 1 ?_
      rw [rounds_succ]
      go_wp2_with fail
      go_ret
      exact ⟨ret_u64 (by simp [spell]), hb, hR⟩
    · have hne : ¬ L = i := by omega
      go_wp2_with fail
      go_loop [10, 49] (fun x kk => ∃ k : Nat, k ≤ L - i ∧ kk = .int .i64 k ∧ x = .int .u64 ((word (mk d (i + k)) i : Nat) : Int)) (fun _ kk => L - (intOf kk).toNat)
      case atStart => exact ⟨0, Nat.zero_le _, rfl, by rw [word_zero]; rfl⟩
      case round =>
        obtain ⟨k, hk, rfl, rfl⟩ := hrel
        by_cases hlt : k < L - i
        · have cb := hR.by_ (i + k) (by omega)
          have hlt' : (k : Int) < ((L - i : Nat) : Int) := by omega
          have hk7 : k ≤ 7 := by omega
          go_wp2_with fail
          go_round
          case rel => exact ⟨k + 1, by omega, by go_num, by rw [part_step d hd i k (by omega)]⟩
          case measure => simp [intOf]; omega
        · have hkn : k = L - i := by omega
          subst hkn
          rw [word_mk d L i hz hi8]
          go_wp2_with fail
          go_ret
          obtain ⟨hi, hsk⟩ := HI.out
          subst hi hsk
          exact ⟨ret_u64 (word_val d hd off n hn), hb, hR⟩

end Go.Proofs.YbulkasyyFmt
