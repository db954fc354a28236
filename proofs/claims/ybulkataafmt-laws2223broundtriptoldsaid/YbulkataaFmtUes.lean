import Derived.Test.YbulkataaFmtGet
namespace Go.Proofs.YbulkataaFmt
open Go.RowKit

theorem cons_01 (r g cap pos : Nat) (bs : List Nat) (hl : bs.length ≤ 100) (hp : pos + 1 ≤ 8 * bs.length) (hz : bitAt bs pos = 0) (w : World) (hR : Rd w r g cap bs pos) :
    Calls Ybaf.prog 15 #[.pointer (some ⟨r, 0, .none⟩), .int .i64 0, .int .i64 1] w fun e w' => e = .returned (.int .i64 0) ∧ Rd w' r g cap bs (pos + 1) ∧ But r w.heap.size w w' := by
  have HO : Hid (Calls Ybaf.prog 26 #[.pointer (some ⟨r, 0, .none⟩), .int .u64 1] w fun e w' => e = .returned (.int .u64 0) ∧ Rd w' r g cap bs (pos + 1) ∧ But r w.heap.size w w') := off_1 r g cap pos bs hl hp hz w hR
  go_enter Ybaf.func15, Ybaf.ntmps15
  go_wp2_with (go_at_call 26; refine HO.out.mono ?_; rintro e w1 ⟨rfl, hR1, hb1⟩)
  go_ret
  exact ⟨rfl, hR1, hb1⟩

/-- the bits of one ID: its octets' count at pos, then its octets -/
structure At (bs : List Nat) (pos q x : Nat) : Prop where
  a : spell bs pos 2 = q
  b : spell bs ((pos + 2 + 7) / 8 * 8) (8 * (q + 1)) = x
  c : (pos + 2 + 7) / 8 * 8 + 8 * (q + 1) ≤ 8 * bs.length
def nextPos (pos q : Nat) : Nat := (pos + 2 + 7) / 8 * 8 + 8 * (q + 1)

theorem getMME_any (r g cap pos q x : Nat) (bs : List Nat) (hl : bs.length ≤ 100) (hq : q ≤ 3) (hx : x < 4294967296) (hA : At bs pos q x) (w : World) (hR : Rd w r g cap bs pos) :
    Calls Ybaf.prog 20 #[.pointer (some ⟨r, 0, .none⟩)] w fun e w' => e = .returned (.int .u32 x) ∧ Rd w' r g cap bs (nextPos pos q) ∧ But r w.heap.size w w' := by
  have HO : Hid (Calls Ybaf.prog 26 #[.pointer (some ⟨r, 0, .none⟩), .int .u64 4294967295] w fun e w' => e = .returned (.int .u64 x) ∧ Rd w' r g cap bs (nextPos pos q) ∧ But r w.heap.size w w') :=
    off_wide r g cap pos 4294967295 4 q x bs form_32 (by decide) (by omega) (by omega) hl hA.c hA.a hA.b w hR
  go_enter Ybaf.func20, Ybaf.ntmps20
  go_wp2_with (go_at_call 26; refine HO.out.mono ?_; rintro e w1 ⟨rfl, hR1, hb1⟩)
  go_ret
  exact ⟨by first | rfl | (congr 2; omega), hR1, hb1⟩
theorem getENB_any (r g cap pos q x : Nat) (bs : List Nat) (hl : bs.length ≤ 100) (hq : q ≤ 2) (hx : x < 16777216) (hA : At bs pos q x) (w : World) (hR : Rd w r g cap bs pos) :
    Calls Ybaf.prog 21 #[.pointer (some ⟨r, 0, .none⟩)] w fun e w' => e = .returned (.int .u32 x) ∧ Rd w' r g cap bs (nextPos pos q) ∧ But r w.heap.size w w' := by
  have HO : Hid (Calls Ybaf.prog 26 #[.pointer (some ⟨r, 0, .none⟩), .int .u64 16777215] w fun e w' => e = .returned (.int .u64 x) ∧ Rd w' r g cap bs (nextPos pos q) ∧ But r w.heap.size w w') :=
    off_wide r g cap pos 16777215 3 q x bs form_24 (by decide) (by omega) (by omega) hl hA.c hA.a hA.b w hR
  go_enter Ybaf.func21, Ybaf.ntmps21
  go_wp2_with (go_at_call 26; refine HO.out.mono ?_; rintro e w1 ⟨rfl, hR1, hb1⟩)
  go_ret
  exact ⟨by first | rfl | (congr 2; omega), hR1, hb1⟩

theorem Rd.setFar {w : World} {r g cap : Nat} {bs : List Nat} {pos : Nat} (h : Rd w r g cap bs pos) {d : Nat} (hr : d ≠ r) (hg : d ≠ g) (j : Nat) (u : Value) : Rd (w.setCell ⟨d, j, .none⟩ u) r g cap bs pos := by
  have e : ∀ (b k : Nat), d ≠ b → (w.setCell ⟨d, j, .none⟩ u).cell? ⟨b, k, .none⟩ = w.cell? ⟨b, k, .none⟩ := fun b k hb => World.cell?_setCell_other _ _ _ _ (fun e => hb (congrArg Addr.block e))
  exact ⟨(e r 0 hr).trans h.c0, (e r 1 hr).trans h.c1, (e r 2 hr).trans h.c2, (World.frozen?_setCell _ _ _ _).trans h.f1, fun i hi => (e g i hg).trans (h.by_ i hi), h.ne, by simpa [World.setCell] using h.gz, by simpa [World.setCell] using h.sz, h.lt⟩

set_option maxHeartbeats 1000000 in
theorem clos_any (c d r g cap pos q x q2 y : Nat) (bs : List Nat) (hl : bs.length ≤ 100) (hq : q ≤ 3) (hx : x < 4294967296) (hA : At bs pos q x) (hq2 : q2 ≤ 2) (hy : y < 16777216) (hA2 : At bs (nextPos pos q) q2 y) (w : World) (hR : Rd w r g cap bs pos)
    (hc : w.cell? ⟨c, 0, .none⟩ = some (.pointer (some ⟨r, 0, .none⟩))) (hd0 : w.cell? ⟨d, 0, .none⟩ = some (.int .u32 0)) (hd1 : w.cell? ⟨d, 1, .none⟩ = some (.int .u32 0)) (fd : ∀ j, w.frozen? ⟨d, j, .none⟩ = false) (hrc : r < c) (hcd : c < d) (hgd : g < d) (hdw : d < w.heap.size) :
    Calls Ybaf.prog 19 #[.pointer (some ⟨c, 0, .none⟩), .pointer (some ⟨d, 0, .none⟩)] w fun e w' => e = .returned (.tuple #[]) ∧ Rd w' r g cap bs (nextPos (nextPos pos q) q2) ∧ But r d w w' ∧ w'.cell? ⟨d, 0, .none⟩ = some (.int .u32 x) ∧ w'.cell? ⟨d, 1, .none⟩ = some (.int .u32 y) := by
  have HM : Hid (∀ w, Rd w r g cap bs pos → Calls Ybaf.prog 20 #[.pointer (some ⟨r, 0, .none⟩)] w fun e w' => e = .returned (.int .u32 x) ∧ Rd w' r g cap bs (nextPos pos q) ∧ But r w.heap.size w w') := getMME_any r g cap pos q x bs hl hq hx hA
  have HE : Hid (∀ w, Rd w r g cap bs (nextPos pos q) → Calls Ybaf.prog 21 #[.pointer (some ⟨r, 0, .none⟩)] w fun e w' => e = .returned (.int .u32 y) ∧ Rd w' r g cap bs (nextPos (nextPos pos q) q2) ∧ But r w.heap.size w w') := getENB_any r g cap (nextPos pos q) q2 y bs hl hq2 hy hA2
  have HR : Hid (Rd w r g cap bs pos) := hR
  clear hR hA hA2
  go_enter Ybaf.func19, Ybaf.ntmps19
  have fd0 := fd 0
  have hne : ¬ d = c := by omega
  have fd1 := fd 1
  go_region_held3 (fun w' => w'.cell? ⟨c, 0, .none⟩ = some (.pointer (some ⟨r, 0, .none⟩))) (go_keep) ((first | (go_at_call 20; refine (HM.out _ (HR.out.later (below_drewN (Below.refl _ _) _))).mono ?_; rintro e w1 ⟨rfl, hR1, hb1⟩; have e1 := (hb1.cell (p := ⟨c, 0, .none⟩) (by simp; omega) (by simp; omega)).trans hc; have s1 := hb1.size; (try simp at s1); have x0 := (hb1.cell (p := ⟨d, 0, .none⟩) (by simp; omega) (by simp; omega)).trans hd0; have x1 := (hb1.cell (p := ⟨d, 1, .none⟩) (by simp; omega) (by simp; omega)).trans hd1; have y0 := (hb1.frozen (p := ⟨d, 0, .none⟩) (by simp; omega) (by simp; omega)).trans (fd 0); have y1 := (hb1.frozen (p := ⟨d, 1, .none⟩) (by simp; omega) (by simp; omega)).trans (fd 1)) | (go_at_call 21; refine (HE.out _ (by assumption)).mono ?_; rintro e w2 ⟨rfl, hR2, hb2⟩; have e2 := (hb2.cell (p := ⟨c, 0, .none⟩) (by simp; omega) (by simp; omega)).trans (by assumption); have s2 := hb2.size; (try simp at s2); have z0 : w2.cell? ⟨d, 0, .none⟩ = some (.int .u32 0) := (hb2.cell (p := ⟨d, 0, .none⟩) (by simp; omega) (by simp; omega)).trans (by assumption); have z1 : w2.cell? ⟨d, 1, .none⟩ = some (.int .u32 0) := (hb2.cell (p := ⟨d, 1, .none⟩) (by simp; omega) (by simp; omega)).trans (by assumption); have q0 : w2.frozen? ⟨d, 0, .none⟩ = false := (hb2.frozen (p := ⟨d, 0, .none⟩) (by simp; omega) (by simp; omega)).trans (by assumption); have q1 : w2.frozen? ⟨d, 1, .none⟩ = false := (hb2.frozen (p := ⟨d, 1, .none⟩) (by simp; omega) (by simp; omega)).trans (by assumption))))
  go_end0
  have hsz : w1.heap.size ≤ w2.heap.size := hb2.size
  have hs1 : w.heap.size ≤ w1.heap.size := hb1.size
  refine ⟨rfl, (hR2.setFar (d := d) (by omega) (by omega) 0 _).setFar (d := d) (by omega) (by omega) 1 _, ?_, ?_, ?_⟩
  · have h0 : But r d w (w.drewN 1) := But.of_below (below_drewN (Below.refl w.heap.size w) 1) (Nat.le_of_lt hdw)
    have h1 : But r d (w.drewN 1) w1 := hb1.down (Nat.le_of_lt hdw)
    have h2 : But r d w1 w2 := hb2.down (by omega)
    exact (((h0.trans h1).trans h2).setFar (p := ⟨d, 0, .none⟩) (Nat.le_refl _) _).setFar (p := ⟨d, 1, .none⟩) (Nat.le_refl _) _
  · rw [World.cell?_setCell_other _ _ _ _ (by simp)]; exact World.cell?_setCell_same _ _ _ z0
  · exact World.cell?_setCell_same _ _ _ ((World.cell?_setCell_other _ _ _ _ (by simp)).trans z1)

set_option maxHeartbeats 400000 in
theorem seq_any (c d r g cap pos q x q2 y : Nat) (bs : List Nat) (hl : bs.length ≤ 100) (h2 : pos + 2 ≤ 8 * bs.length) (hz0 : bitAt bs pos = 0) (hz1 : bitAt bs (pos + 1) = 0) (hq : q ≤ 3) (hx : x < 4294967296) (hA : At bs (pos + 2) q x) (hq2 : q2 ≤ 2) (hy : y < 16777216) (hA2 : At bs (nextPos (pos + 2) q) q2 y) (w : World) (hR : Rd w r g cap bs pos)
    (hc : w.cell? ⟨c, 0, .none⟩ = some (.pointer (some ⟨r, 0, .none⟩))) (hd0 : w.cell? ⟨d, 0, .none⟩ = some (.int .u32 0)) (hd1 : w.cell? ⟨d, 1, .none⟩ = some (.int .u32 0)) (fd : ∀ j, w.frozen? ⟨d, j, .none⟩ = false) (hrc : r < c) (hcd : c < d) (hgd : g < d) (hdw : d < w.heap.size) :
    Calls Ybaf.prog 18 #[.pointer (some ⟨r, 0, .none⟩), .func (Fn.func 19) #[] #[.pointer (some ⟨c, 0, .none⟩), .pointer (some ⟨d, 0, .none⟩)]] w fun e w' => e = .returned (.tuple #[]) ∧ Rd w' r g cap bs (nextPos (nextPos (pos + 2) q) q2) ∧ But r d w w' ∧ w'.cell? ⟨d, 0, .none⟩ = some (.int .u32 x) ∧ w'.cell? ⟨d, 1, .none⟩ = some (.int .u32 y) := by
  have B1 : Hid (Calls Ybaf.prog 14 #[.pointer (some ⟨r, 0, .none⟩)] w fun e w' => e = .returned (.bool false) ∧ Rd w' r g cap bs (pos + 1) ∧ But r w.heap.size w w') := bool_any r g cap pos bs hl (by omega) hz0 w hR
  have B2 : Hid (∀ w, Rd w r g cap bs (pos + 1) → Calls Ybaf.prog 14 #[.pointer (some ⟨r, 0, .none⟩)] w fun e w' => e = .returned (.bool false) ∧ Rd w' r g cap bs (pos + 2) ∧ But r w.heap.size w w') := bool_any r g cap (pos + 1) bs hl (by omega) hz1
  have HC : Hid (∀ w, Rd w r g cap bs (pos + 2) → w.cell? ⟨c, 0, .none⟩ = some (.pointer (some ⟨r, 0, .none⟩)) → w.cell? ⟨d, 0, .none⟩ = some (.int .u32 0) → w.cell? ⟨d, 1, .none⟩ = some (.int .u32 0) → (∀ j, w.frozen? ⟨d, j, .none⟩ = false) → d < w.heap.size →
      Calls Ybaf.prog 19 #[.pointer (some ⟨c, 0, .none⟩), .pointer (some ⟨d, 0, .none⟩)] w fun e w' => e = .returned (.tuple #[]) ∧ Rd w' r g cap bs (nextPos (nextPos (pos + 2) q) q2) ∧ But r d w w' ∧ w'.cell? ⟨d, 0, .none⟩ = some (.int .u32 x) ∧ w'.cell? ⟨d, 1, .none⟩ = some (.int .u32 y)) :=
    fun w hR h1 h2 h3 h4 h5 => clos_any c d r g cap (pos + 2) q x q2 y bs hl hq hx hA hq2 hy hA2 w hR h1 h2 h3 h4 hrc hcd hgd h5
  have HD : Hid (w.cell? ⟨c, 0, .none⟩ = some (.pointer (some ⟨r, 0, .none⟩)) ∧ w.cell? ⟨d, 0, .none⟩ = some (.int .u32 0) ∧ w.cell? ⟨d, 1, .none⟩ = some (.int .u32 0) ∧ ∀ j, w.frozen? ⟨d, j, .none⟩ = false) := ⟨hc, hd0, hd1, fd⟩
  clear hR hA hA2 hz0 hz1 hc hd0 hd1 fd
  go_enter Ybaf.func18, Ybaf.ntmps18
  go_wp2_with fail
  refine B1.out.mono ?_
  rintro e w1 ⟨rfl, hR1, hb1⟩
  go_wp2_with fail
  refine (B2.out w1 hR1).mono ?_
  rintro e w2 ⟨rfl, hR2, hb2⟩
  have hb12 := hb1.trans (hb2.down hb1.size)
  have hs := hb12.size
  clear hb1 hb2 hR1 B1 B2
  go_wp2_with fail
  refine (HC.out w2 hR2 ((hb12.cell (by simp; omega) (by simp; omega)).trans HD.out.1) ((hb12.cell (by simp; omega) (by simp; omega)).trans HD.out.2.1) ((hb12.cell (by simp; omega) (by simp; omega)).trans HD.out.2.2.1) (fun j => (hb12.frozen (by simp; omega) (by simp; omega)).trans (HD.out.2.2.2 j)) (by omega)).mono ?_
  rintro e w3 ⟨rfl, hR3, hb3, x0, x1⟩
  have HF : Hid (w3.cell? ⟨d, 0, .none⟩ = some (.int .u32 x) ∧ w3.cell? ⟨d, 1, .none⟩ = some (.int .u32 y)) := ⟨x0, x1⟩
  clear x0 x1
  go_wp2_with fail
  go_end0
  exact ⟨rfl, hR3, (hb12.down (by omega)).trans hb3, HF.out.1, HF.out.2⟩
end Go.Proofs.YbulkataaFmt
