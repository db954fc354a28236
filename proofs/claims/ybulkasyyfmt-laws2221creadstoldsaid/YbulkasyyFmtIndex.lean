import Derived.Test.YbulkasyyFmtBits
namespace Go.Proofs.YbulkasyyFmt
open Go.RowKit Go.Extern.Stop Go.Stop Go.Extern

/-- the texts that the two calls of fmt may give are short -/
def Short (F : Interp) (L off wd N v : Nat) : Prop :=
  (wd = 1 → (textT F 1 [98, 105, 116] off (L * 8)).size ≤ 100000) ∧ (textT F wd [98, 105, 116, 115] off (L * 8)).size ≤ 100000 ∧ (FmtStop.textOf (F "fmt.Sprintf" (readI v N) 0)).size ≤ 100000

theorem bits_fail (F : Interp) (rB bB L off n : Nat) (d : Nat → Nat) (hL : L ≤ 1024) (hoff : off ≤ 8192) (hn : n ≤ 17) (hle : 8 * L < off + n) (w : World) (hR : Rd w rB bB L off d) (hF : F.answers w.tape)
    (hT1 : n = 1 → (textT F 1 [98, 105, 116] off (L * 8)).size ≤ 100000) (hT2 : (textT F n [98, 105, 116, 115] off (L * 8)).size ≤ 100000) :
    Calls Ybaf.prog 11 #[.pointer (some ⟨rB, 0, .none⟩), .string ⟨#[102]⟩, .int .i64 n] w fun e w' => e = .returned (.int .u64 0) ∧ Below rB w w' ∧ (∃ t v, w'.cell? ⟨rB, 2, .none⟩ = some (.iface t v)) ∧ w'.cell? ⟨rB, 1, .none⟩ = some (.int .i64 off) := by
  have c1 := hR.c1
  have HF : Hid (F.answers w.tape) := hF
  have HT : Hid ((n = 1 → (textT F 1 [98, 105, 116] off (L * 8)).size ≤ 100000) ∧ (textT F n [98, 105, 116, 115] off (L * 8)).size ≤ 100000) := ⟨hT1, hT2⟩
  clear hF hT1 hT2
  go_enter Ybaf.func11, Ybaf.ntmps11
  go_wp2_with fail
  refine (take_fail F rB bB L off n hL (by omega) (by omega) (by omega) (by omega) (by omega) w HF.out hR.sz (fun h => HT.out.1 (by omega)) HT.out.2 hR.c0 hR.c1 hR.c2 hR.f2).mono ?_
  rintro e w' ⟨rfl, hb, hE, h1⟩
  go_wp2_with fail
  go_ret
  exact ⟨rfl, hb, hE, h1⟩

theorem con_ok (rB bB L off N : Nat) (d : Nat → Nat) (hd : ∀ j, d j < 256) (hz : ∀ j, L ≤ j → d j = 0) (hL : L ≤ 1024) (hN0 : 1 ≤ N) (hN : N ≤ 70000) (hle : off + Lib.bitLen (N - 1) ≤ 8 * L) (w : World) (hR : Rd w rB bB L off d) :
    Calls Ybaf.prog 8 #[.pointer (some ⟨rB, 0, .none⟩), .string ⟨#[102]⟩, .int .i64 0, .int .i64 ((N : Int) - 1)] w fun e w' => e = .returned (.tuple #[.int .i64 (spell d off (Lib.bitLen (N - 1))), .bool (decide (((spell d off (Lib.bitLen (N - 1)) : Nat) : Int) ≤ (N : Int) - 1))]) ∧ Below rB w w' ∧ Rd w' rB bB L (off + Lib.bitLen (N - 1)) d := by
  have hw := bitLen_le (N - 1) (by omega)
  have hsp := spell_lt d off (Lib.bitLen (N - 1))
  have hp : 2 ^ Lib.bitLen (N - 1) ≤ 2 ^ 17 := Nat.pow_le_pow_right (by decide) hw
  have hsp2 : spell d off (Lib.bitLen (N - 1)) < 131072 := by omega
  clear hsp hp
  have hB := bits_ok rB bB L off (Lib.bitLen (N - 1)) d hd hz hL hw hle w hR
  have htn : ((N : Int) - 1).toNat = N - 1 := by omega
  obtain ⟨wd, hwd⟩ : ∃ wd, wd = Lib.bitLen (N - 1) := ⟨_, rfl⟩
  rw [← hwd] at hB hsp2 hw hle ⊢
  have HW : Hid (wd = Lib.bitLen (N - 1)) := hwd
  have HB : Hid (Calls Ybaf.prog 11 #[.pointer (some ⟨rB, 0, .none⟩), .string ⟨#[102]⟩, .int .i64 wd] w fun e w' => e = .returned (.int .u64 (spell d off wd)) ∧ Below rB w w' ∧ Rd w' rB bB L (off + wd) d) := hB
  clear hwd hB
  generalize spell d off wd = v at *
  go_enter Ybaf.func8, Ybaf.ntmps8
  go_wp2_with fail
  refine (Ybaf.bits_Len _ _ (by omega) (by omega)).mono ?_
  rintro e w' ⟨rfl, rfl⟩
  rw [htn, ← HW.out]
  go_wp2_with fail
  refine Calls.mono HB.out ?_
  rintro e w2 ⟨rfl, hb, hR2⟩
  go_wp2_with fail
  go_ret2
  exact ⟨rfl, hb, hR2⟩

theorem con_fail (F : Interp) (rB bB L off N : Nat) (d : Nat → Nat) (hL : L ≤ 1024) (hoff : off ≤ 8192) (hN0 : 1 ≤ N) (hN : N ≤ 70000) (hle : 8 * L < off + Lib.bitLen (N - 1)) (w : World) (hR : Rd w rB bB L off d) (hF : F.answers w.tape)
    (hT1 : Lib.bitLen (N - 1) = 1 → (textT F 1 [98, 105, 116] off (L * 8)).size ≤ 100000) (hT2 : (textT F (Lib.bitLen (N - 1) : Nat) [98, 105, 116, 115] off (L * 8)).size ≤ 100000) :
    Calls Ybaf.prog 8 #[.pointer (some ⟨rB, 0, .none⟩), .string ⟨#[102]⟩, .int .i64 0, .int .i64 ((N : Int) - 1)] w fun e w' => e = .returned (.tuple #[.int .i64 0, .bool true]) ∧ Below rB w w' ∧ (∃ t v, w'.cell? ⟨rB, 2, .none⟩ = some (.iface t v)) ∧ w'.cell? ⟨rB, 1, .none⟩ = some (.int .i64 off) := by
  have hw := bitLen_le (N - 1) (by omega)
  have hB := bits_fail F rB bB L off (Lib.bitLen (N - 1)) d hL hoff hw hle w hR hF hT1 hT2
  have htn : ((N : Int) - 1).toNat = N - 1 := by omega
  have hpos : (0 : Int) ≤ (N : Int) - 1 := by omega
  obtain ⟨wd, hwd⟩ : ∃ wd, wd = Lib.bitLen (N - 1) := ⟨_, rfl⟩
  rw [← hwd] at hB
  have HW : Hid (wd = Lib.bitLen (N - 1)) := hwd
  have HB : Hid (Calls Ybaf.prog 11 #[.pointer (some ⟨rB, 0, .none⟩), .string ⟨#[102]⟩, .int .i64 wd] w fun e w' => e = .returned (.int .u64 0) ∧ Below rB w w' ∧ (∃ t v, w'.cell? ⟨rB, 2, .none⟩ = some (.iface t v)) ∧ w'.cell? ⟨rB, 1, .none⟩ = some (.int .i64 off)) := hB
  clear hwd hB hF hT1 hT2 hle hw
  go_enter Ybaf.func8, Ybaf.ntmps8
  go_wp2_with fail
  refine (Ybaf.bits_Len _ _ (by omega) (by omega)).mono ?_
  rintro e w' ⟨rfl, rfl⟩
  rw [htn, ← HW.out]
  go_wp2_with fail
  refine Calls.mono HB.out ?_
  rintro e w2 ⟨rfl, hb, hE, h1⟩
  go_wp2_with fail
  go_ret2
  refine ⟨?_, hb, hE, h1⟩
  simp
  omega

/-- Index, the bits are there and spell a number below N -/
theorem index_ok (rB bB L off N : Nat) (d : Nat → Nat) (hd : ∀ j, d j < 256) (hz : ∀ j, L ≤ j → d j = 0) (hL : L ≤ 1024) (hN0 : 1 ≤ N) (hN : N ≤ 70000) (hle : off + Lib.bitLen (N - 1) ≤ 8 * L) (w : World) (hR : Rd w rB bB L off d) (hlt : spell d off (Lib.bitLen (N - 1)) < N) :
    Calls Ybaf.prog 5 #[.pointer (some ⟨rB, 0, .none⟩), .string ⟨#[102]⟩, .int .i64 N] w fun e w' => e = .returned (.int .i64 (spell d off (Lib.bitLen (N - 1)))) ∧ Below rB w w' ∧ Rd w' rB bB L (off + Lib.bitLen (N - 1)) d := by
  have hB := con_ok rB bB L off N d hd hz hL hN0 hN hle w hR
  have ht : decide (((spell d off (Lib.bitLen (N - 1)) : Nat) : Int) ≤ (N : Int) - 1) = true := by simp; omega
  rw [ht] at hB
  generalize spell d off (Lib.bitLen (N - 1)) = v at *
  generalize Lib.bitLen (N - 1) = wd at *
  have HB : Hid (Calls Ybaf.prog 8 #[.pointer (some ⟨rB, 0, .none⟩), .string ⟨#[102]⟩, .int .i64 0, .int .i64 ((N : Int) - 1)] w fun e w' => e = .returned (.tuple #[.int .i64 v, .bool true]) ∧ Below rB w w' ∧ Rd w' rB bB L (off + wd) d) := hB
  clear hB ht
  go_enter Ybaf.func5, Ybaf.ntmps5
  go_wp2_with fail
  refine Calls.mono HB.out ?_
  rintro e w2 ⟨rfl, hb, hR2⟩
  go_wp2_with fail
  go_ret
  exact ⟨rfl, hb, hR2⟩

/-- Index, too few bits -/
theorem index_few (F : Interp) (rB bB L off N : Nat) (d : Nat → Nat) (hL : L ≤ 1024) (hoff : off ≤ 8192) (hN0 : 1 ≤ N) (hN : N ≤ 70000) (hle : 8 * L < off + Lib.bitLen (N - 1)) (w : World) (hR : Rd w rB bB L off d) (hF : F.answers w.tape)
    (hT1 : Lib.bitLen (N - 1) = 1 → (textT F 1 [98, 105, 116] off (L * 8)).size ≤ 100000) (hT2 : (textT F (Lib.bitLen (N - 1) : Nat) [98, 105, 116, 115] off (L * 8)).size ≤ 100000) :
    Calls Ybaf.prog 5 #[.pointer (some ⟨rB, 0, .none⟩), .string ⟨#[102]⟩, .int .i64 N] w fun e w' => e = .returned (.int .i64 0) ∧ Below rB w w' ∧ (∃ t v, w'.cell? ⟨rB, 2, .none⟩ = some (.iface t v)) ∧ w'.cell? ⟨rB, 1, .none⟩ = some (.int .i64 off) := by
  have hB := con_fail F rB bB L off N d hL hoff hN0 hN hle w hR hF hT1 hT2
  have HB : Hid (Calls Ybaf.prog 8 #[.pointer (some ⟨rB, 0, .none⟩), .string ⟨#[102]⟩, .int .i64 0, .int .i64 ((N : Int) - 1)] w fun e w' => e = .returned (.tuple #[.int .i64 0, .bool true]) ∧ Below rB w w' ∧ (∃ t v, w'.cell? ⟨rB, 2, .none⟩ = some (.iface t v)) ∧ w'.cell? ⟨rB, 1, .none⟩ = some (.int .i64 off)) := hB
  clear hB hF hT1 hT2
  go_enter Ybaf.func5, Ybaf.ntmps5
  go_wp2_with fail
  refine Calls.mono HB.out ?_
  rintro e w2 ⟨rfl, hb, hE, h1⟩
  go_wp2_with fail
  go_ret
  exact ⟨rfl, hb, hE, h1⟩

/-- Index, the bits are there and spell a number that is no index -/
theorem index_big (F : Interp) (rB bB L off N : Nat) (d : Nat → Nat) (hd : ∀ j, d j < 256) (hz : ∀ j, L ≤ j → d j = 0) (hL : L ≤ 1024) (hN0 : 1 ≤ N) (hN : N ≤ 70000) (hle : off + Lib.bitLen (N - 1) ≤ 8 * L) (w : World) (hR : Rd w rB bB L off d) (hge : N ≤ spell d off (Lib.bitLen (N - 1))) (hF : F.answers w.tape)
    (hT : (FmtStop.textOf (F "fmt.Sprintf" (readI (spell d off (Lib.bitLen (N - 1)) : Nat) N) 0)).size ≤ 100000) :
    Calls Ybaf.prog 5 #[.pointer (some ⟨rB, 0, .none⟩), .string ⟨#[102]⟩, .int .i64 N] w fun e w' => e = .returned (.int .i64 0) ∧ Below rB w w' ∧ (∃ t v, w'.cell? ⟨rB, 2, .none⟩ = some (.iface t v)) ∧ w'.cell? ⟨rB, 1, .none⟩ = some (.int .i64 ((off : Int) + (Lib.bitLen (N - 1) : Nat))) := by
  have hB := con_ok rB bB L off N d hd hz hL hN0 hN hle w hR
  have ht : decide (((spell d off (Lib.bitLen (N - 1)) : Nat) : Int) ≤ (N : Int) - 1) = false := by simp; omega
  rw [ht] at hB
  generalize spell d off (Lib.bitLen (N - 1)) = v at *
  generalize Lib.bitLen (N - 1) = wd at *
  have HB : Hid (Calls Ybaf.prog 8 #[.pointer (some ⟨rB, 0, .none⟩), .string ⟨#[102]⟩, .int .i64 0, .int .i64 ((N : Int) - 1)] w fun e w' => e = .returned (.tuple #[.int .i64 v, .bool false]) ∧ Below rB w w' ∧ Rd w' rB bB L (off + wd) d) := hB
  have HT : Hid ((FmtStop.textOf (F "fmt.Sprintf" (readI v N) 0)).size ≤ 100000) := hT
  have k1 := call10
  have k2 := guard
  have k3 := fmtI1
  have k4 := fmtI2
  have k5 := op3_100
  clear hB ht hT
  go_enter Ybaf.func5, Ybaf.ntmps5
  go_wp2_with fail
  refine Calls.mono HB.out ?_
  rintro e w2 ⟨rfl, hb, hR2⟩
  have hF2 : F.answers w2.tape := by rw [hb.tape]; exact hF
  have hF' := answers_open hF2
  have hsz := hR2.sz
  have g1 : ∀ o : Obj, (w2.alloc o).drew.cell? ⟨rB, 1, .none⟩ = some (.int .i64 (off + wd : Nat)) := fun o => (World.cell?_alloc_lt w2 o ⟨rB, 1, .none⟩ hsz).trans hR2.c1
  have g2 : ∀ o : Obj, (w2.alloc o).drew.cell? ⟨rB, 2, .none⟩ = some .nilIface := fun o => (World.cell?_alloc_lt w2 o ⟨rB, 2, .none⟩ hsz).trans hR2.c2
  have g3 : ∀ o : Obj, (w2.alloc o).drew.frozen? ⟨rB, 2, .none⟩ = false := fun o => by have := hR2.f2; simp [World.frozen?_alloc_past, hsz, this]
  have G : Hid ((∀ o : Obj, (w2.alloc o).drew.cell? ⟨rB, 1, .none⟩ = some (.int .i64 (off + wd : Nat))) ∧ (∀ o : Obj, (w2.alloc o).drew.cell? ⟨rB, 2, .none⟩ = some .nilIface) ∧ ∀ o : Obj, (w2.alloc o).drew.frozen? ⟨rB, 2, .none⟩ = false) := ⟨g1, g2, g3⟩
  clear g1 g2 g3 hF hF2
  go_wp2_with (go_at_call 9; go_must (refine (fail_any rB (FmtStop.textOf (F "fmt.Sprintf" (readI v N) 0)) HT.out _ (G.out.2.1 _) (G.out.2.2 _) (by simp; omega)).mono ?_); rintro e w' ⟨rfl, hbw, hE, h1c⟩)
  go_ret
  refine ⟨rfl, hb.trans ((((Below.refl _ _).alloc (Nat.le_of_lt hsz) _).drew).trans hbw), hE, ?_⟩
  rw [h1c, G.out.1]
  simp

end Go.Proofs.YbulkasyyFmt
