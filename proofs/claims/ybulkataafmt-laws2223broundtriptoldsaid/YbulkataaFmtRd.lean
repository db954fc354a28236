import Derived.Test.YbulkataaFmtEnc
namespace Go.Proofs.YbulkataaFmt
open Go.RowKit

/-- bit p of the bytes bs, the most significant bit of the first byte being bit 0 -/
def bitAt (bs : List Nat) (p : Nat) : Nat := bs.getD (p / 8) 0 / 2 ^ (7 - p % 8) % 2
/-- the number that k bits from s on spell -/
def spell (bs : List Nat) (s : Nat) : Nat → Nat
  | 0 => 0
  | k + 1 => 2 * spell bs s k + bitAt bs (s + k)
theorem bitAt_lt (bs : List Nat) (p : Nat) : bitAt bs p < 2 := Nat.mod_lt _ (by decide)
theorem spell_lt (bs : List Nat) (s k : Nat) : spell bs s k < 2 ^ k := by
  induction k with
  | zero => simp [spell]
  | succ k ih => have := bitAt_lt bs (s + k); rw [spell, Nat.pow_succ]; omega

/-- the reader at block r over the bytes bs in block g, at bit pos, without an error -/
structure Rd (w : World) (r g cap : Nat) (bs : List Nat) (pos : Nat) : Prop where
  c0 : w.cell? ⟨r, 0, .none⟩ = some (.slice (some ⟨g, 0, .none⟩) bs.length cap)
  c1 : w.cell? ⟨r, 1, .none⟩ = some (.int .i64 pos)
  c2 : w.cell? ⟨r, 2, .none⟩ = some .nilIface
  f1 : w.frozen? ⟨r, 1, .none⟩ = false
  by_ : ∀ j, j < bs.length → w.cell? ⟨g, j, .none⟩ = some (.int .u8 (bs.getD j 0 : Nat))
  ne : g ≠ r
  gz : g < w.heap.size
  sz : r < w.heap.size
  lt : ∀ z ∈ bs, z < 256

theorem Rd.moved {w : World} {r g cap : Nat} {bs : List Nat} {pos : Nat} (h : Rd w r g cap bs pos) (p : Nat) : Rd (w.setCell ⟨r, 1, .none⟩ (.int .i64 (p : Nat))) r g cap bs p :=
  ⟨(World.cell?_setCell_other _ _ _ _ (by simp)).trans h.c0, World.cell?_setCell_same _ _ _ h.c1, (World.cell?_setCell_other _ _ _ _ (by simp)).trans h.c2, (World.frozen?_setCell _ _ _ _).trans h.f1,
    fun j hj => (World.cell?_setCell_other _ _ _ _ (fun e => h.ne (congrArg Addr.block e).symm)).trans (h.by_ j hj), h.ne, by simpa [World.setCell] using h.gz, by simpa [World.setCell] using h.sz, h.lt⟩
theorem Rd.later {w w' : World} {r g cap : Nat} {bs : List Nat} {pos : Nat} (h : Rd w r g cap bs pos) (hb : Below w.heap.size w w') : Rd w' r g cap bs pos :=
  ⟨(hb.cell h.sz).trans h.c0, (hb.cell h.sz).trans h.c1, (hb.cell h.sz).trans h.c2, (hb.frozen h.sz).trans h.f1, fun j hj => (hb.cell h.gz).trans (h.by_ j hj), h.ne, Nat.lt_of_lt_of_le h.gz hb.size, Nat.lt_of_lt_of_le h.sz hb.size, h.lt⟩

theorem or_two (s b : Nat) (hb : b < 2) : 2 * s ||| b = 2 * s + b := by
  have := Nat.shiftLeft_add_eq_or_of_lt (i := 1) (b := b) hb s
  rw [Nat.shiftLeft_eq, Nat.pow_one, Nat.mul_comm] at this
  exact this.symm
theorem val_eq (s p : Nat) (bs : List Nat) (hs : s < 1099511627776) (hp : p / 8 < bs.length) (hb : bs[p / 8] < 256) :
    bits BinOp.or IntKind.u64 ((s : Int) * 2) (IntKind.u64.wrap (bits BinOp.and IntKind.u8 ((bs[p / 8] : Nat) / 2 ^ (7 - p % 8)) 1)) = ((2 * s + bitAt bs p : Nat) : Int) := by
  have e1 : (((bs[p / 8] : Nat) : Int) / 2 ^ (7 - p % 8)) = ((bs[p / 8] / 2 ^ (7 - p % 8) : Nat) : Int) := by simp
  have e2 : bitAt bs p = bs[p / 8] / 2 ^ (7 - p % 8) % 2 := by unfold bitAt; simp [hp]
  have h1 : bs[p / 8] / 2 ^ (7 - p % 8) ≤ bs[p / 8] := Nat.div_le_self _ _
  rw [e1, e2]
  generalize bs[p / 8] / 2 ^ (7 - p % 8) = q at h1
  have e3 : bits BinOp.and IntKind.u8 (q : Int) 1 = ((q % 2 : Nat) : Int) := by
    have := u8_and_nat q 1 (by omega) (by decide)
    rw [Nat.and_one_is_mod] at this
    exact this
  rw [e3]
  have hq : q % 2 < 2 := Nat.mod_lt _ (by decide)
  generalize q % 2 = t at hq
  have e4 : IntKind.u64.wrap ((t : Nat) : Int) = ((t : Nat) : Int) := IntWalk.u64_in _ (by omega)
  rw [e4, show ((s : Int) * 2) = ((2 * s : Nat) : Int) by omega, bits_or_u64_nat _ _ (by omega) (by omega), or_two s t hq]

set_option maxHeartbeats 1000000 in
theorem bits_any (r g cap n pos0 : Nat) (bs : List Nat) (hl : bs.length ≤ 100) (hn : n ≤ 40) (hp : pos0 + n ≤ 8 * bs.length) (w : World) (hR : Rd w r g cap bs pos0) :
    Calls Ybaf.prog 25 #[.pointer (some ⟨r, 0, .none⟩), .int .i64 n] w fun e w' => e = .returned (.int .u64 (spell bs pos0 n)) ∧ Rd w' r g cap bs (pos0 + n) ∧ But r w.heap.size w w' := by
  have c0 := hR.c0
  have c1 := hR.c1
  have c2 := hR.c2
  have hp' : ¬ ((bs.length : Int) * 8 < (pos0 : Int) + (n : Int)) := by omega
  go_enter Ybaf.func25, Ybaf.ntmps25
  go_upto_region 3 with fail
  go_quiet (fail)
  go_wp2_with fail
  refine wp_gen (fun W => Rd W r g cap bs pos0 ∧ But r w.heap.size w W) ⟨hR.later (below_drewN (Below.refl _ _) _), But.of_below (below_drewN (Below.refl _ _) _) (Nat.le_refl _)⟩ ?_
  clear c0 c1 c2 hR
  rintro W0 ⟨hR, hb0⟩
  go_loopw [5, 28] (fun v i wr => ∃ k : Nat, k ≤ n ∧ v = .int .u64 (spell bs pos0 k) ∧ i = .int .i64 k ∧ Rd wr r g cap bs (pos0 + k) ∧ But r w.heap.size w wr) (fun _ i _ => n - (intOf i).toNat)
  case atStart => exact ⟨0, Nat.zero_le _, rfl, rfl, hR, hb0⟩
  case round =>
    clear hR hb0
    obtain ⟨k, hk, rfl, rfl, hR, hb⟩ := hrel
    by_cases hlt : k < n
    · have hlt' : (k : Int) < (n : Int) := by omega
      have c0 := hR.c0
      have c1 := hR.c1
      have f1 := hR.f1
      obtain ⟨p, hpk⟩ : ∃ p, p = pos0 + k := ⟨_, rfl⟩
      have hp8 : p / 8 < bs.length := by omega
      have cb := hR.by_ (p / 8) hp8
      have hS := spell_lt bs pos0 k
      obtain ⟨s, hs⟩ : ∃ s, s = spell bs pos0 k := ⟨_, rfl⟩
      have hs32 : s < 1099511627776 := by rw [hs]; exact Nat.lt_of_lt_of_le hS (Nat.pow_le_pow_right (n := 2) (i := k) (j := 40) (by decide) (by omega))
      rw [← hs]
      rw [← hpk] at c1
      have HR : Hid (Rd wr r g cap bs (pos0 + k)) := hR
      have HP : Hid (p = pos0 + k) := hpk
      have HS : Hid (s = spell bs pos0 k) := hs
      have hp1 : p ≤ 1000 := by omega
      have hp8' : ((p : Int) / 8) < (bs.length : Int) := by omega
      clear hR hpk hs hS
      go_upto_region 9 with fail
      go_region
      go_upto_region 10 with fail
      refine wp_gen (fun W => Rd W r g cap bs (pos0 + k) ∧ But r w.heap.size w W) ⟨HR.out.later ((Below.refl _ _).drew), hb.trans (But.of_below ((Below.refl _ _).drew) hb.size)⟩ ?_
      have HV : Hid (Value.int IntKind.u64 (bits BinOp.or IntKind.u64 ((s : Int) * 2) (IntKind.u64.wrap (bits BinOp.and IntKind.u8 ((bs[p / 8] : Nat) / 2 ^ (7 - p % 8)) 1))) = .int .u64 (spell bs pos0 (k + 1))) := by
        have := val_eq s p bs hs32 hp8 (HR.out.lt _ (List.getElem_mem hp8))
        rw [this, HS.out, HP.out]
        rfl
      clear HR hb c0 c1 f1 cb
      rintro W ⟨hR, hb⟩
      have c1 := hR.c1
      have f1 := hR.f1
      have HR : Hid (Rd W r g cap bs (pos0 + k)) := hR
      rw [← HP.out] at c1
      clear hR
      go_wp2_with fail
      go_roundw
      case rel =>
        refine ⟨k + 1, by omega, HV.out, by go_num, ?_, hb.set _ _⟩
        have := HR.out.moved (p + 1)
        rw [HP.out] at this ⊢
        push_cast at this
        exact this
      case measure => simp [intOf]; omega
    · have hlt' : ¬ (k : Int) < (n : Int) := by omega
      obtain rfl : k = n := by omega
      go_wp2_with fail
      go_ret
      exact ⟨rfl, hR, hb⟩
end Go.Proofs.YbulkataaFmt
