import Derived.Test.YbulkasyyFmtIndex
import Derived.Laws.CopyOwn
import Derived.Deep.OwnRows
import Derived.Deep.DeepCutAuto
import Derived.Deep.Light
namespace Go.Proofs.YbulkasyyFmt
open Go.RowKit Go.Extern.Stop Go.Stop Go.Extern

theorem ret_i64 {a b : Int} (h : a = b) : Ending.returned (.int .i64 a) = .returned (.int .i64 b) := by rw [h]
theorem wraps_i64 (n : Int) (h₀ : 0 ≤ n) (h₁ : n < 2 ^ 63) : IntKind.i64.wrap n = n := by rw [IntKind.wrap_i64]; omega
theorem bit_val (d : Nat → Nat) (hd : ∀ j, d j < 256) (p : Nat) : bits BinOp.and IntKind.i64 (wrap64 (((d (p / 8) : Nat) : Int) / 2 ^ (7 - p % 8))) 1 = ((bitAt d p : Nat) : Int) := by
  have h1 : d (p / 8) / 2 ^ (7 - p % 8) < 256 := Nat.lt_of_le_of_lt (Nat.div_le_self _ _) (hd _)
  have e1 : (((d (p / 8) : Nat) : Int) / 2 ^ (7 - p % 8)) = ((d (p / 8) / 2 ^ (7 - p % 8) : Nat) : Int) := by simp
  rw [e1]
  unfold bitAt
  generalize d (p / 8) / 2 ^ (7 - p % 8) = y at *
  have e2 : wrap64 ((y : Nat) : Int) = (y : Int) := by unfold wrap64; omega
  rw [e2]
  have := bits_mask .i64 63 (by decide) wraps_i64 1 (by decide) (y : Int) (by omega) (by omega)
  simp at this
  rw [this]
  omega

set_option maxHeartbeats 400000 in
theorem bit_any (bB L p : Nat) (d : Nat → Nat) (hd : ∀ j, d j < 256) (hL : L ≤ 1024) (hp : p < 8 * L) (w : World) (hby : ∀ j, j < L → w.cell? ⟨bB, j, .none⟩ = some (.int .u8 (d j : Nat))) :
    Calls Ybaf.prog 6 #[.slice (some ⟨bB, 0, .none⟩) L L, .int .i64 p] w fun e w' => e = .returned (.int .i64 (bitAt d p)) ∧ w' = w := by
  obtain ⟨i, hi⟩ : ∃ i, i = p / 8 := ⟨_, rfl⟩
  obtain ⟨sk, hsk⟩ : ∃ sk, sk = p % 8 := ⟨_, rfl⟩
  have hie : (p : Int) / 8 = (i : Int) := by omega
  have hse : (p : Int) % 8 = (sk : Int) := by omega
  have hs8 : sk < 8 := by omega
  have hi8 : i < L := by omega
  have hi8' : (i : Int) < (L : Int) := by omega
  have cb := hby i hi8
  have hdi := hd i
  have HI : Hid (i = p / 8 ∧ sk = p % 8) := ⟨hi, hsk⟩
  clear hi hsk hby
  go_enter Ybaf.func6, Ybaf.ntmps6
  go_wp2_with fail
  go_ret
  obtain ⟨hi, hsk⟩ := HI.out
  subst hi hsk
  exact ⟨ret_i64 (bit_val d hd p), rfl⟩

theorem inf5 : (Ybaf.prog.info? 5).map (fun i => (i.zero, i.size, i.bytes)) = some (some (.int .u8 0), 1, 1) := by kernel_rfl
theorem siz5 : (Ybaf.prog.info? 5).map (·.size) = some 1 := by kernel_rfl

def bytesOf (d : Nat → Nat) (L : Nat) : List Value := (List.range L).map fun j => Value.int .u8 (d j : Nat)
theorem bytesOf_len (d : Nat → Nat) (L : Nat) : (bytesOf d L).length = L := by simp [bytesOf]
theorem splice_full (Z : List Value) (d : Nat → Nat) (L : Nat) (hZ : Z.length = L) : splice Z 0 (bytesOf d L) = bytesOf d L := by
  simp [splice, bytesOf_len, hZ]

theorem made_block (w : World) (L : Nat) : (w.alloc (.cells (madeCells #[.int .u8 0] L) 5)).heap[w.heap.size]? = some (.cells (madeCells #[.int .u8 0] L).toList.toArray 5 (0, 0)) := by
  rw [Array.toArray_toList]; exact heap_alloc_new _ _
theorem bytes_min (d : Nat → Nat) (L : Nat) : (bytesOf d L).length = Nat.min L L := by rw [bytesOf_len]; exact (Nat.min_self L).symm
theorem made_len (L : Nat) : (madeCells #[.int .u8 0] L).toList.length = L := by simp [madeCells]
theorem bytes_fit (d : Nat → Nat) (L : Nat) : 0 + (bytesOf d L).length ≤ (madeCells #[.int .u8 0] L).toList.length := by rw [bytesOf_len, made_len]; omega
theorem bytes_one (d : Nat → Nat) (L : Nat) : ∀ v ∈ bytesOf d L, v.oneCell' = true := by
  intro v hv
  obtain ⟨j, _, rfl⟩ := List.mem_map.1 hv
  rfl
/-- the data that came in -/
def Came (w : World) (ao : Option Addr) (L : Nat) (d : Nat → Nat) : Prop := 0 < L → ∃ ad, ao = some ad ∧ ∀ j, j < L → w.cell? (ad.add j) = some (.int .u8 (d j : Nat))

theorem came_pos {w : World} {ao : Option Addr} {L : Nat} {d : Nat → Nat} (h : Came w ao L d) (o : Obj) (dp : Option Addr) (hdp : dp = some ⟨w.heap.size, 0, .none⟩) : 0 < (bytesOf d L).length → dp = some ⟨w.heap.size, 0, .none⟩ ∧ ∃ ad, ao = some ad ∧ ∀ j v, (bytesOf d L)[j]? = some v → (w.alloc o).cell? (ad.add j) = some v := by
  intro hp
  rw [bytesOf_len] at hp
  obtain ⟨ad, rfl, hc⟩ := h hp
  refine ⟨hdp, ad, rfl, fun j v hv => ?_⟩
  have hj : j < L := by have := (List.getElem?_eq_some_iff.1 hv).1; simpa [bytesOf_len] using this
  have := hc j hj
  rw [World.cell?_alloc_lt _ _ _ (World.block_lt_of_cell? w _ this), this]
  simp [bytesOf, hj] at hv
  rw [← hv]

/-- the offset that the law takes -/
def offOf (L skip : Nat) : Nat := if L = 0 then 0 else skip % (8 * L + 1)
theorem offOf_le (L skip : Nat) : offOf L skip ≤ 8 * L := by
  unfold offOf; split
  · omega
  · have := Nat.mod_lt skip (show 0 < 8 * L + 1 by omega); omega

theorem rd_start {w w1 : World} {L s : Nat} {d : Nat → Nat} (hB : w1.heap[w.heap.size]? = some (.cells (splice (madeCells #[.int .u8 0] L).toList 0 (bytesOf d L)).toArray 5 (0, 0))) (hb : Below w.heap.size w w1) :
    Rd (w1.alloc (.cells #[.slice (some ⟨w.heap.size, 0, .none⟩) L L, .int .i64 s, .nilIface] 29)) w1.heap.size w.heap.size L s d := by
  have hlt : w.heap.size < w1.heap.size := lt_of_block hB
  have hN := heap_alloc_new w1 (.cells #[.slice (some ⟨w.heap.size, 0, .none⟩) L L, .int .i64 s, .nilIface] 29)
  have hb := hb.size
  rw [splice_full _ d L (made_len L)] at hB
  refine ⟨?_, ?_, ?_, ?_, ?_, fun j hj => ?_, hlt, by simp⟩
  · rw [cell_of_row _ _ _ _ _ _ hN]; rfl
  · rw [cell_of_row _ _ _ _ _ _ hN]; rfl
  · rw [cell_of_row _ _ _ _ _ _ hN]; rfl
  · exact frozen_of_row _ _ _ _ _ hN
  · exact frozen_of_row _ _ _ _ _ hN
  · rw [World.cell?_alloc_lt _ _ _ hlt, cell_of_row _ _ _ _ _ _ hB]
    simp [bytesOf, hj]
theorem pow_small (k : Nat) (hk : k ≤ 17) : wrap64 ((2 : Int) ^ k) = ((2 ^ k : Nat) : Int) := by
  have h : 2 ^ k ≤ 2 ^ 17 := Nat.pow_le_pow_right (by decide) hk
  have e : ((2 : Int) ^ k) = ((2 ^ k : Nat) : Int) := by simp
  rw [e]
  generalize 2 ^ k = y at *
  unfold wrap64
  omega
theorem shift_lt (k M : Nat) (hk : k ≤ 17) (h : 2 ^ k ≤ M) : wrap64 ((2 : Int) ^ k) < (M : Int) + 1 := by rw [pow_small k hk]; generalize 2 ^ k = y at *; omega
theorem shift_ge (k M : Nat) (hk : k ≤ 17) (h : M < 2 ^ k) : (M : Int) + 1 ≤ wrap64 ((2 : Int) ^ k) := by rw [pow_small k hk]; generalize 2 ^ k = y at *; omega
theorem spell_step (d : Nat → Nat) (s q : Nat) (hq : q ≤ 17) : bits BinOp.or IntKind.i64 (wrap64 (((spell d s q : Nat) : Int) * 2)) ((bitAt d (s + q) : Nat) : Int) = ((spell d s (q + 1) : Nat) : Int) := by
  have h1 := spell_lt d s q
  have h2 := bitAt_lt d (s + q)
  have h3 : 2 ^ q ≤ 2 ^ 17 := Nat.pow_le_pow_right (by decide) hq
  rw [spell]
  generalize spell d s q = x at *
  generalize bitAt d (s + q) = y at *
  rw [show wrap64 ((x : Int) * 2) = (x : Int) * 2 by unfold wrap64; omega]
  rw [bits_join .i64 63 (by decide) wraps_i64 1 _ _ (by omega) (by omega) (by omega) (by omega) (by omega) (by omega)]
  omega
theorem off_pos {L skip s : Nat} (hs : s = offOf L skip) (h : (0 : Int) < (L : Int) * 8) : (skip : Int) % ((L : Int) * 8 + 1) = (s : Int) := by
  subst hs
  rw [offOf, if_neg (by omega), show 8 * L + 1 = L * 8 + 1 by omega]
  simp
theorem off_zero {L skip s : Nat} (hs : s = offOf L skip) (h : (L : Int) * 8 ≤ 0) : (0 : Int) = (s : Int) := by
  subst hs
  rw [offOf, if_pos (by omega)]
  simp

set_option maxHeartbeats 1000000 in
set_option maxRecDepth 100000 in
theorem law_any (F : Interp) (ao : Option Addr) (L cap skip nr : Nat) (d : Nat → Nat) (hL : L ≤ 1024) (hsk : skip ≤ 65535) (hnr : nr ≤ 4294967295) (w : World) (hc : Came w ao L d) (hF : F.answers w.tape)
    (hd : ∀ j, d j < 256) (hz : ∀ j, L ≤ j → d j = 0)
    (hT1 : Lib.bitLen (nr % 70000) = 1 → (textT F 1 [98, 105, 116] (offOf L skip : Nat) (L * 8)).size ≤ 100000) (hT2 : (textT F (Lib.bitLen (nr % 70000) : Nat) [98, 105, 116, 115] (offOf L skip : Nat) (L * 8)).size ≤ 100000)
    (hT3 : (FmtStop.textOf (F "fmt.Sprintf" (readI (spell d (offOf L skip) (Lib.bitLen (nr % 70000)) : Nat) ((nr % 70000 + 1 : Nat) : Int)) 0)).size ≤ 100000) :
    Calls Ybaf.prog 3 #[.slice ao L cap, .int .u16 skip, .int .u32 nr] w fun e w' => e = .returned (.bool true) ∧ Below w.heap.size w w' := by
  have hn' : ¬ (1024 : Int) < (L : Int) := by omega
  have hmk := run_make_row' (P := Ybaf.prog) 22 5 (.int .u8 0) 1 Ybaf.underlying22 inf5 rfl .i64 .i64 L (by omega) (by omega)
  go_enter Ybaf.func3, Ybaf.ntmps3
  go_upto_region 6 with (refine wpList_copy_splice rfl (.tmp 22) (.tmp 23) 22 22 rfl 5 Ybaf.underlying22 siz5 (some ⟨w.heap.size, 0, .none⟩) ao L L L cap rfl rfl w.heap.size 0 (madeCells #[.int .u8 0] L).toList 5 (made_block w L) (bytesOf d L) (bytes_min d L) (came_pos hc _ _ rfl) (bytes_fit d L) (bytes_one d L) w.heap.size w ((Below.refl _ _).alloc (Nat.le_refl _) _) (Nat.le_refl _) ?_; intro w1 HB hb1)
  obtain ⟨s, hs⟩ : ∃ s, s = offOf L skip := ⟨_, rfl⟩
  have HS : Hid (s = offOf L skip) := hs
  obtain ⟨M, hM⟩ : ∃ M, M = nr % 70000 := ⟨_, rfl⟩
  have hMe : (nr : Int) % 70000 = (M : Int) := by omega
  have hM7 : M < 70000 := by omega
  have hw17 := bitLen_le M (by omega)
  have HM : Hid (M = nr % 70000 ∧ M < 2 ^ Lib.bitLen M ∧ ∀ k, k < Lib.bitLen M → 2 ^ k ≤ M) := ⟨hM, (bitLen_spec M (by omega)).1, (bitLen_spec M (by omega)).2⟩
  clear hs hM
  have hs8 : s ≤ 8 * L := by rw [HS.out]; exact offOf_le L skip
  go_upto_if 29 with fail
  go_cut [9] (fun x wc => x = .int .i64 s ∧ wc = w1)
  case first =>
    by_cases hL0 : (0 : Int) < (L : Int) * 8
    · have e := off_pos HS.out hL0
      have HE : Hid ((skip : Int) % ((L : Int) * 8 + 1) = (s : Int)) := e
      clear e
      go_wp2_with fail
      go_meet
      exact ⟨by rw [HE.out], rfl⟩
    · have hL0' : (L : Int) * 8 ≤ 0 := by omega
      have e := off_zero HS.out hL0'
      have HE : Hid ((0 : Int) = (s : Int)) := e
      clear e
      go_wp2_with fail
      go_meet
      exact ⟨by rw [← HE.out], rfl⟩
  case rest =>
    obtain ⟨rfl, rfl⟩ := hcut
    go_upto_region 11 with fail
    refine wp_gen (fun W => Rd W wc.heap.size w.heap.size L s d ∧ Below w.heap.size w W) ⟨rd_start HB.out hb1, hb1.alloc hb1.size _⟩ ?_
    rintro W ⟨hR, hbW⟩
    by_cases hfew : 8 * L < s + Lib.bitLen M
    · have hI := index_few F wc.heap.size w.heap.size L s (M + 1) d hL (by omega) (by omega) (by omega) hfew W hR (by rw [hbW.tape]; exact hF) (by rw [Nat.add_sub_cancel, HM.out.1, HS.out]; exact hT1) (by rw [Nat.add_sub_cancel, HM.out.1, HS.out]; exact hT2)
      have HI : Hid (Calls Ybaf.prog 5 #[.pointer (some ⟨wc.heap.size, 0, .none⟩), .string ⟨#[102]⟩, .int .i64 ((M : Int) + 1)] W fun e w' => e = .returned (.int .i64 0) ∧ Below wc.heap.size W w' ∧ (∃ t v, w'.cell? ⟨wc.heap.size, 2, .none⟩ = some (.iface t v)) ∧ w'.cell? ⟨wc.heap.size, 1, .none⟩ = some (.int .i64 s)) := hI
      clear hI hT1 hT2 hT3 hF
      go_wp2_with fail
      refine Calls.mono HI.out ?_
      rintro e w2 ⟨rfl, hb2, ⟨t, v, he⟩, h1⟩
      have hbw2 : Below w.heap.size w w2 := hbW.trans (hb2.mono hb1.size)
      clear HI hb2 hbW
      go_wp2_with fail
      go_loop [13] (fun x => ∃ k : Nat, k ≤ Lib.bitLen M ∧ x = .int .i64 k) (fun x => Lib.bitLen M - (intOf x).toNat)
      case atStart => exact ⟨0, Nat.zero_le _, rfl⟩
      case round =>
        obtain ⟨k, hk, rfl⟩ := hrel
        by_cases hlt : k < Lib.bitLen M
        · have hk40 : (k : Int) < 40 := by omega
          have hsh := shift_lt k M (by omega) (HM.out.2.2 k hlt)
          go_wp2_with fail
          go_round
          case rel => exact ⟨k + 1, by omega, by go_num⟩
          case measure => simp [intOf]; omega
        · have hkw : k = Lib.bitLen M := by omega
          have hk40 : (k : Int) < 40 := by omega
          have hsh := shift_ge k M (by omega) (by rw [hkw]; exact HM.out.2.1)
          have hover : (L : Int) * 8 < (s : Int) + (k : Int) := by omega
          have HK : Hid (k = Lib.bitLen M) := hkw
          clear hkw
          go_wp2_with fail
          go_ret
          exact ⟨rfl, hbw2⟩
    · by_cases hv : spell d s (Lib.bitLen M) < M + 1
      · have hI := index_ok wc.heap.size w.heap.size L s (M + 1) d hd hz hL (by omega) (by omega) (by rw [Nat.add_sub_cancel]; omega) W hR (by rw [Nat.add_sub_cancel]; exact hv)
        rw [Nat.add_sub_cancel] at hI
        have HI : Hid (Calls Ybaf.prog 5 #[.pointer (some ⟨wc.heap.size, 0, .none⟩), .string ⟨#[102]⟩, .int .i64 ((M : Int) + 1)] W fun e w' => e = .returned (.int .i64 (spell d s (Lib.bitLen M))) ∧ Below wc.heap.size W w' ∧ Rd w' wc.heap.size w.heap.size L (s + Lib.bitLen M) d) := hI
        clear hI hT1 hT2 hT3 hF
        go_wp2_with fail
        refine Calls.mono HI.out ?_
        rintro e w2 ⟨rfl, hb2, hR2⟩
        have h1 := hR2.c1
        have h2 := hR2.c2
        have hby : ∀ j, j < L → w2.cell? ⟨w.heap.size, j, .none⟩ = some (.int .u8 (d j : Nat)) := fun j hj => (hb2.cell hR.lt).trans (hR.by_ j hj)
        have HBY : Hid (∀ j, j < L → w2.cell? ⟨w.heap.size, j, .none⟩ = some (.int .u8 (d j : Nat))) := hby
        have hbw2 : Below w.heap.size w w2 := hbW.trans (hb2.mono hb1.size)
        clear HI hb2 hbW hby hR
        go_wp2_with fail
        go_loop [13] (fun x => ∃ k : Nat, k ≤ Lib.bitLen M ∧ x = .int .i64 k) (fun x => Lib.bitLen M - (intOf x).toNat)
        case atStart => exact ⟨0, Nat.zero_le _, rfl⟩
        case round =>
          obtain ⟨k, hk, rfl⟩ := hrel
          by_cases hlt : k < Lib.bitLen M
          · have hk40 : (k : Int) < 40 := by omega
            have hsh := shift_lt k M (by omega) (HM.out.2.2 k hlt)
            go_wp2_with fail
            go_round
            case rel => exact ⟨k + 1, by omega, by go_num⟩
            case measure => simp [intOf]; omega
          · have hkw : k = Lib.bitLen M := by omega
            have hk40 : (k : Int) < 40 := by omega
            have hsh := shift_ge k M (by omega) (by rw [hkw]; exact HM.out.2.1)
            have hover : (s : Int) + (k : Int) ≤ (L : Int) * 8 := by omega
            rw [← hkw] at hv h1 ⊢
            have HK : Hid (k = Lib.bitLen M) := hkw
            clear hkw hlt
            go_wp2_with fail
            go_loop [14, 15] (fun x y => ∃ q : Nat, q ≤ k ∧ y = .int .i64 q ∧ x = .int .i64 (spell d s q : Nat)) (fun _ y => k - (intOf y).toNat)
            case atStart => exact ⟨0, Nat.zero_le _, rfl, rfl⟩
            case round =>
              obtain ⟨q, hq, rfl, rfl⟩ := hrel
              by_cases hqk : q < k
              · have hqk' : (q : Int) < (k : Int) := by omega
                have hcall := bit_any w.heap.size L (s + q) d hd hL (by omega) w2 HBY.out
                have HC : Hid (Calls Ybaf.prog 6 #[.slice (some ⟨w.heap.size, 0, .none⟩) L L, .int .i64 ((s : Int) + (q : Int))] w2 fun e w' => e = .returned (.int .i64 (bitAt d (s + q) : Nat)) ∧ w' = w2) := hcall
                clear hcall
                go_wp2_with (go_at_call 6; go_must (refine Calls.mono HC.out ?_); rintro e w' ⟨rfl, rfl⟩)
                go_round
                case rel => exact ⟨q + 1, by omega, by go_num, by rw [spell_step d s q (by omega)]⟩
                case measure => simp [intOf]; omega
              · have hqe : q = k := by omega
                subst hqe
                have hvv : ((spell d s q : Nat) : Int) < (M : Int) + 1 := by omega
                go_wp2_with fail
                go_ret
                exact ⟨rfl, hbw2⟩
      · have hI := index_big F wc.heap.size w.heap.size L s (M + 1) d hd hz hL (by omega) (by omega) (by rw [Nat.add_sub_cancel]; omega) W hR (by rw [Nat.add_sub_cancel]; omega) (by rw [hbW.tape]; exact hF) (by rw [Nat.add_sub_cancel, HM.out.1, HS.out]; exact hT3)
        rw [Nat.add_sub_cancel] at hI
        have HI : Hid (Calls Ybaf.prog 5 #[.pointer (some ⟨wc.heap.size, 0, .none⟩), .string ⟨#[102]⟩, .int .i64 ((M : Int) + 1)] W fun e w' => e = .returned (.int .i64 0) ∧ Below wc.heap.size W w' ∧ (∃ t v, w'.cell? ⟨wc.heap.size, 2, .none⟩ = some (.iface t v)) ∧ w'.cell? ⟨wc.heap.size, 1, .none⟩ = some (.int .i64 ((s : Int) + (Lib.bitLen M : Nat)))) := hI
        clear hI hT1 hT2 hT3 hF
        go_wp2_with fail
        refine Calls.mono HI.out ?_
        rintro e w2 ⟨rfl, hb2, ⟨t, v, h2⟩, h1⟩
        have hby : ∀ j, j < L → w2.cell? ⟨w.heap.size, j, .none⟩ = some (.int .u8 (d j : Nat)) := fun j hj => (hb2.cell hR.lt).trans (hR.by_ j hj)
        have HBY : Hid (∀ j, j < L → w2.cell? ⟨w.heap.size, j, .none⟩ = some (.int .u8 (d j : Nat))) := hby
        have hbw2 : Below w.heap.size w w2 := hbW.trans (hb2.mono hb1.size)
        clear HI hb2 hbW hby hR
        go_wp2_with fail
        go_loop [13] (fun x => ∃ k : Nat, k ≤ Lib.bitLen M ∧ x = .int .i64 k) (fun x => Lib.bitLen M - (intOf x).toNat)
        case atStart => exact ⟨0, Nat.zero_le _, rfl⟩
        case round =>
          obtain ⟨k, hk, rfl⟩ := hrel
          by_cases hlt : k < Lib.bitLen M
          · have hk40 : (k : Int) < 40 := by omega
            have hsh := shift_lt k M (by omega) (HM.out.2.2 k hlt)
            go_wp2_with fail
            go_round
            case rel => exact ⟨k + 1, by omega, by go_num⟩
            case measure => simp [intOf]; omega
          · have hkw : k = Lib.bitLen M := by omega
            have hk40 : (k : Int) < 40 := by omega
            have hsh := shift_ge k M (by omega) (by rw [hkw]; exact HM.out.2.1)
            have hover : (s : Int) + (k : Int) ≤ (L : Int) * 8 := by omega
            rw [← hkw] at hv h1
            have HK : Hid (k = Lib.bitLen M) := hkw
            clear hkw hlt
            go_wp2_with fail
            go_loop [14, 15] (fun x y => ∃ q : Nat, q ≤ k ∧ y = .int .i64 q ∧ x = .int .i64 (spell d s q : Nat)) (fun _ y => k - (intOf y).toNat)
            case atStart => exact ⟨0, Nat.zero_le _, rfl, rfl⟩
            case round =>
              obtain ⟨q, hq, rfl, rfl⟩ := hrel
              by_cases hqk : q < k
              · have hqk' : (q : Int) < (k : Int) := by omega
                have hcall := bit_any w.heap.size L (s + q) d hd hL (by omega) w2 HBY.out
                have HC : Hid (Calls Ybaf.prog 6 #[.slice (some ⟨w.heap.size, 0, .none⟩) L L, .int .i64 ((s : Int) + (q : Int))] w2 fun e w' => e = .returned (.int .i64 (bitAt d (s + q) : Nat)) ∧ w' = w2) := hcall
                clear hcall
                go_wp2_with (go_at_call 6; go_must (refine Calls.mono HC.out ?_); rintro e w' ⟨rfl, rfl⟩)
                go_round
                case rel => exact ⟨q + 1, by omega, by go_num, by rw [spell_step d s q (by omega)]⟩
                case measure => simp [intOf]; omega
              · have hqe : q = k := by omega
                subst hqe
                have hvv : (M : Int) + 1 ≤ ((spell d s q : Nat) : Int) := by omega
                go_wp2_with fail
                go_ret
                exact ⟨rfl, hbw2⟩

end Go.Proofs.YbulkasyyFmt
