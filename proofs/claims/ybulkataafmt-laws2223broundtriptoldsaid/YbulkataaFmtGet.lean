import Derived.Test.YbulkataaFmtRd
namespace Go.Proofs.YbulkataaFmt
open Go.RowKit

theorem But.down {b B B2 : Nat} {w w2 : World} (h : But b B w w2) (hB : B2 ≤ B) : But b B2 w w2 := ⟨h.os, h.tape, h.output, h.size, fun k hk hb => h.block k (Nat.lt_of_lt_of_le hk hB) hb⟩

theorem bool_any (r g cap pos : Nat) (bs : List Nat) (hl : bs.length ≤ 100) (hp : pos + 1 ≤ 8 * bs.length) (hz : bitAt bs pos = 0) (w : World) (hR : Rd w r g cap bs pos) :
    Calls Ybaf.prog 14 #[.pointer (some ⟨r, 0, .none⟩)] w fun e w' => e = .returned (.bool false) ∧ Rd w' r g cap bs (pos + 1) ∧ But r w.heap.size w w' := by
  have h := bits_any r g cap 1 pos bs hl (by decide) hp w hR
  have e : spell bs pos 1 = 0 := by simp [spell, hz]
  rw [e] at h
  have HB : Hid (Calls Ybaf.prog 25 #[.pointer (some ⟨r, 0, .none⟩), .int .i64 1] w fun e w' => e = .returned (.int .u64 0) ∧ Rd w' r g cap bs (pos + 1) ∧ But r w.heap.size w w') := h
  clear h e
  go_enter Ybaf.func14, Ybaf.ntmps14
  go_wp2_with (go_at_call 25; refine HB.out.mono ?_; rintro e w1 ⟨rfl, hR1, hb1⟩)
  go_ret
  exact ⟨rfl, hR1, hb1⟩

theorem ralign_any (r g cap pos : Nat) (bs : List Nat) (hp : pos ≤ 1000) (w : World) (hR : Rd w r g cap bs pos) :
    Calls Ybaf.prog 33 #[.pointer (some ⟨r, 0, .none⟩)] w fun e w' => e = .returned (.tuple #[]) ∧ Rd w' r g cap bs ((pos + 7) / 8 * 8) ∧ But r w.heap.size w w' := by
  have c1 := hR.c1
  have f1 := hR.f1
  have HM : Hid (Rd (w.setCell ⟨r, 1, .none⟩ (.int .i64 (((pos + 7) / 8 * 8 : Nat) : Int))) r g cap bs ((pos + 7) / 8 * 8)) := hR.moved _
  go_enter Ybaf.func33, Ybaf.ntmps33
  go_wp2_with fail
  go_end0
  refine ⟨rfl, ?_, (But.refl _ _ _).set _ _⟩
  have := HM.out
  push_cast at this
  exact this

theorem check_ok (r x span : Nat) (hx : x ≤ span) (w : World) : Calls Ybaf.prog 34 #[.pointer (some ⟨r, 0, .none⟩), .int .u64 x, .int .u64 span] w fun e w' => e = .returned (.int .u64 x) ∧ w' = w := by
  have hx' : ¬ ((span : Int) < (x : Int)) := by omega
  go_enter Ybaf.func34, Ybaf.ntmps34
  go_wp2_with fail
  go_ret
  exact ⟨rfl, rfl⟩

theorem off_1 (r g cap pos : Nat) (bs : List Nat) (hl : bs.length ≤ 100) (hp : pos + 1 ≤ 8 * bs.length) (hz : bitAt bs pos = 0) (w : World) (hR : Rd w r g cap bs pos) :
    Calls Ybaf.prog 26 #[.pointer (some ⟨r, 0, .none⟩), .int .u64 1] w fun e w' => e = .returned (.int .u64 0) ∧ Rd w' r g cap bs (pos + 1) ∧ But r w.heap.size w w' := by
  have h := bits_any r g cap 1 pos bs hl (by decide) hp w hR
  have e : spell bs pos 1 = 0 := by simp [spell, hz]
  rw [e] at h
  have HB : Hid (Calls Ybaf.prog 25 #[.pointer (some ⟨r, 0, .none⟩), .int .i64 1] w fun e w' => e = .returned (.int .u64 0) ∧ Rd w' r g cap bs (pos + 1) ∧ But r w.heap.size w w') := h
  have HC : Hid (∀ w, Calls Ybaf.prog 34 #[.pointer (some ⟨r, 0, .none⟩), .int .u64 0, .int .u64 1] w fun e w' => e = .returned (.int .u64 0) ∧ w' = w) := check_ok r 0 1 (by decide)
  clear h e hR
  go_enter Ybaf.func26, Ybaf.ntmps26
  go_wp2_with (first | (go_at_call 30; refine (form_1 _).mono ?_; rintro e w0 ⟨rfl, rfl⟩) | (go_at_call 25; refine HB.out.mono ?_; rintro e w1 ⟨rfl, hR1, hb1⟩) | (go_at_call 34; refine (HC.out _).mono ?_; rintro e w2 ⟨rfl, rfl⟩))
  go_ret
  exact ⟨rfl, hR1, hb1⟩

set_option maxHeartbeats 400000 in
theorem off_wide (r g cap pos span M q x : Nat) (bs : List Nat) (hM : ∀ w, Calls Ybaf.prog 30 #[.int .u64 span] w fun e w' => e = .returned (.tuple #[.int .i64 2, .bool false, .int .i64 M]) ∧ w' = w) (hM4 : M ≤ 4) (hq : q + 1 ≤ M) (hx : x ≤ span)
    (hl : bs.length ≤ 100) (hp : (pos + 2 + 7) / 8 * 8 + 8 * (q + 1) ≤ 8 * bs.length) (h2 : spell bs pos 2 = q) (h8 : spell bs ((pos + 2 + 7) / 8 * 8) (8 * (q + 1)) = x) (w : World) (hR : Rd w r g cap bs pos) :
    Calls Ybaf.prog 26 #[.pointer (some ⟨r, 0, .none⟩), .int .u64 span] w fun e w' => e = .returned (.int .u64 x) ∧ Rd w' r g cap bs ((pos + 2 + 7) / 8 * 8 + 8 * (q + 1)) ∧ But r w.heap.size w w' := by
  have h := bits_any r g cap 2 pos bs hl (by decide) (by omega) w hR
  rw [h2] at h
  have HB : Hid (Calls Ybaf.prog 25 #[.pointer (some ⟨r, 0, .none⟩), .int .i64 2] w fun e w' => e = .returned (.int .u64 q) ∧ Rd w' r g cap bs (pos + 2) ∧ But r w.heap.size w w') := h
  have HM : Hid (∀ w, Calls Ybaf.prog 30 #[.int .u64 span] w fun e w' => e = .returned (.tuple #[.int .i64 2, .bool false, .int .i64 M]) ∧ w' = w) := hM
  have HC : Hid (∀ w, Calls Ybaf.prog 34 #[.pointer (some ⟨r, 0, .none⟩), .int .u64 x, .int .u64 span] w fun e w' => e = .returned (.int .u64 x) ∧ w' = w) := check_ok r x span hx
  have H8 : Hid (spell bs ((pos + 2 + 7) / 8 * 8) (8 * (q + 1)) = x) := h8
  have tM : ((M : Int) == 0) = false := beq_eq_false_iff_ne.2 (by omega)
  have tq : ¬ ((M : Int) < (q : Int) + 1) := by omega
  have hp1 : pos + 2 ≤ 1000 := by omega
  have HL : Hid ((pos + 2 + 7) / 8 * 8 + 8 * (q + 1) ≤ 8 * bs.length) := hp
  clear h h2 hR hM hx h8 hp
  go_enter Ybaf.func26, Ybaf.ntmps26
  go_upto_region 10 with (first | (go_at_call 30; refine (HM.out _).mono ?_; rintro e w0 ⟨rfl, rfl⟩) | (go_at_call 25; refine HB.out.mono ?_; rintro e w1 ⟨rfl, hR1, hb1⟩))
  go_upto_region 11 with (go_at_call 33; refine (ralign_any r g cap (pos + 2) bs hp1 _ hR1).mono ?_; rintro e w2 ⟨rfl, hR2, hb2⟩)
  have h := bits_any r g cap (8 * (q + 1)) ((pos + 2 + 7) / 8 * 8) bs hl (by omega) HL.out w2 hR2
  rw [H8.out, show ((8 * (q + 1) : Nat) : Int) = 8 * ((q : Int) + 1) by omega] at h
  have HB2 : Hid (Calls Ybaf.prog 25 #[.pointer (some ⟨r, 0, .none⟩), .int .i64 (8 * ((q : Int) + 1))] w2 fun e w' => e = .returned (.int .u64 x) ∧ Rd w' r g cap bs ((pos + 2 + 7) / 8 * 8 + 8 * (q + 1)) ∧ But r w2.heap.size w2 w') := h
  clear h
  go_wp2_with (first | (go_at_call 25; refine HB2.out.mono ?_; rintro e w3 ⟨rfl, hR3, hb3⟩) | (go_at_call 34; refine (HC.out _).mono ?_; rintro e w4 ⟨rfl, rfl⟩))
  go_ret
  exact ⟨rfl, hR3, (hb1.trans (hb2.down hb1.size)).trans (hb3.down (Nat.le_trans hb1.size hb2.size))⟩
end Go.Proofs.YbulkataaFmt
