import Derived.Test.YbulkasyyFmtLaw
import Derived.Test.YbulkasyyFmtText
import Derived.Test.YbulkasyyFmtCards
import Derived.ProofKit
import Derived.OpenShut
import Derived.Stop.JoinedAt
import Derived.SevenToldRow
namespace Go.Proofs.YbulkasyyFmt
open Go.ChangeShapes Go.WideShapes Go.ChangeAt Go.RowKit Go.Kit Go.Extern.Stop Go.Stop Go.Extern

theorem own : ownKnob Ybaf.prog.godebug = .none := by kernel_rfl
theorem laidOut : laidOutB Ybaf.pinned.checked.prog = true := by kernel_rfl
theorem stops : Ybaf.pinned.checked.prog.stops = ["fmt.Sprintf"] := by kernel_rfl
theorem stopKnobs : Ybaf.pinned.checked.prog.stopKnobs = [] := by kernel_rfl
theorem quiet (os : Os) : Stop.quiet Ybaf.pinned.checked.prog os := by
  intro k hk
  rw [stopKnobs] at hk
  cases hk

theorem law_big (ao : Option Addr) (n cap : Nat) (skip nr : Int) (hn : 1024 < n) (w : World) :
    Calls Ybaf.prog 3 #[.slice ao n cap, .int .u16 skip, .int .u32 nr] w fun e w' => e = .returned (.bool true) ∧ Below w.heap.size w w' := by
  have hn' : (1024 : Int) < (n : Int) := by omega
  go_enter Ybaf.func3, Ybaf.ntmps3
  go_wp2
  go_ret
  exact ⟨rfl, Below.refl _ _⟩

theorem law_told (F : Interp) (ao : Option Addr) (L cap skip nr : Nat) (d : Nat → Nat) (hd : ∀ j, d j < 256) (hz : ∀ j, L ≤ j → d j = 0) (hL : L ≤ 1024) (hsk : skip ≤ 65535) (hnr : nr ≤ 4294967295) (w : World) (hc : Came w ao L d) (hF : F.told.answers w.tape) :
    Calls Ybaf.prog 3 #[.slice ao L cap, .int .u16 skip, .int .u32 nr] w fun e w' => e = .returned (.bool true) ∧ Below w.heap.size w w' := by
  have ho := offOf_le L skip
  have hM : nr % 70000 < 70000 := Nat.mod_lt _ (by decide)
  have hw := bitLen_le (nr % 70000) (by omega)
  have hsp := spell_lt d (offOf L skip) (Lib.bitLen (nr % 70000))
  have hp : 2 ^ Lib.bitLen (nr % 70000) ≤ 2 ^ 17 := Nat.pow_le_pow_right (by decide) hw
  exact law_any F.told ao L cap skip nr d hL hsk hnr w hc hF hd hz (fun _ => shortT F 1 (offOf L skip) (L * 8) _ (by omega) (by omega) (by omega) (by decide)) (shortT F _ (offOf L skip) (L * 8) _ (by omega) (by omega) (by omega) (by decide)) (shortI F _ _ (by omega) (by omega))

set_option maxRecDepth 100000 in
theorem lifted (os : Os) (started : os.Started) (H : Type) (enc : TypeId × Value → H) :
    ReturnsInTold .none {} Ybaf.checked os 3 .any Input.okWide ((OpenSpec.ofChange Rows.lawS2221CReadsSpec).preRow enc Ybaf.prog Ybaf.f3 [] false []) (fun F => ((OpenSpec.ofChange Rows.lawS2221CReadsSpec).at F).post enc Ybaf.prog Ybaf.f3 false true false false) (aloneAtReturn Ybaf.prog) nothingAlways := by
  refine returnsInTold_of_row (C := Ybaf.checked) (s := OpenSpec.ofChange Rows.lawS2221CReadsSpec) (by kernel_rfl) own started (by kernel_rfl) Ybaf.func3
    (OpenSpec.witness_stopped (enc := enc) (C := Ybaf.checked) false ⟨#[], #[.slice .none 0 0, .int .u16 0, .int .u32 0], []⟩ 8 (by kernel_rfl) (by kernel_rfl) (by kernel_rfl) (by kernel_rfl)) ?_
  intro F W base args ds gs before _ hF hval0 hW _ _ hsz _ _
  have hval : ∀ (j : Nat) t v, Ybaf.f3.params[j]? = some t → args[j]? = some v → Value.okWide Ybaf.prog W .any base t v := hval0
  have hW' := hW
  obtain ⟨p, q, hA0, hV, rfl, hfz, hnd⟩ := hW
  have hA : DataW.TrodAll enc Ybaf.prog W 0 (fun _ => true) true Ybaf.f3.params.toList args.toList ds p := hA0
  rw [Ybaf.params3] at hA hval
  obtain ⟨v0, vs0, d0, ds0, p0, q0, hargs, rfl, rfl, h0, r0⟩ := trodAll_cons hA
  obtain ⟨v1, vs1, d1, ds1, p1, q1, rfl, rfl, rfl, h1, r1⟩ := trodAll_cons r0
  obtain ⟨v2, vs2, d2, ds2, p2, q2, rfl, rfl, rfl, h2, r2⟩ := trodAll_cons r1
  obtain ⟨rfl, rfl, rfl⟩ := trodAll_nil r2
  obtain rfl : args = #[v0, v1, v2] := by cases args; simp_all
  obtain ⟨rfl, rfl⟩ := trodVars_none hV
  obtain ⟨a0, len0, cap0, rfl⟩ := okWide_slice Ybaf.underlying22 (hval 0 22 v0 rfl rfl)
  obtain ⟨a1, rfl, rfl, rfl, w1⟩ := open_int Ybaf.underlying23 (hval 1 23 v1 rfl rfl) h1
  obtain ⟨a2, rfl, rfl, rfl, w2⟩ := open_int Ybaf.underlying24 (hval 2 24 v2 rfl rfl) h2
  have k0 := h0
  have lt0 : ∀ x ∈ p0, x.block < W.heap.size := by obtain ⟨m, hm⟩ := k0; exact DataW.trod_lt m _ _ _ hm
  clear hA0 hval0
  have b1 := bounds_u16 w1
  have b2 := bounds_u32 w2
  have fin : Calls Ybaf.prog 3 #[.slice a0 len0 cap0, .int .u16 a1, .int .u32 a2] W fun e w' => e = .returned (.bool true) ∧ Below W.heap.size W w' := by
    by_cases hbig : 1024 < len0
    · exact law_big a0 len0 cap0 a1 a2 hbig W
    · obtain ⟨n1, rfl⟩ := Int.eq_ofNat_of_zero_le b1.1
      obtain ⟨n2, rfl⟩ := Int.eq_ofNat_of_zero_le b2.1
      obtain ⟨d, hd, hz, hc⟩ : ∃ d : Nat → Nat, (∀ j, d j < 256) ∧ (∀ j, len0 ≤ j → d j = 0) ∧ Came W a0 len0 d := by
        obtain ⟨fuel, hf⟩ := h0
        rcases open_ints Ybaf.underlying22 Ybaf.underlying5 (by kernel_rfl) hf with ⟨hcs, _⟩ | ⟨x, l, c, zs, hcs, _, hl, hm, hz, _, hcell, hwz⟩
        · simp [Value.cells] at hcs
          obtain ⟨rfl, rfl, rfl⟩ := hcs
          exact ⟨fun _ => 0, fun _ => Nat.zero_lt_succ _, fun _ _ => rfl, fun h => absurd h (Nat.lt_irrefl _)⟩
        · simp [Value.cells] at hcs
          obtain ⟨rfl, rfl, rfl⟩ := hcs
          have hlz : len0 ≤ zs.length := by simp at hz; omega
          have hbz : ∀ j, j < len0 → 0 ≤ zs.getD j 0 ∧ zs.getD j 0 ≤ 255 := fun j hj => by
            have hm : zs.getD j 0 ∈ zs := by
              rw [List.getD_eq_getElem?_getD, List.getElem?_eq_getElem (by omega)]
              simp
            exact bounds_u8 (hwz _ hm)
          refine ⟨fun j => if j < len0 then (zs.getD j 0).toNat else 0, fun j => ?_, fun j hj => if_neg (by omega), fun _ => ⟨x, rfl, fun j hj => ?_⟩⟩
          · show (if j < len0 then (zs.getD j 0).toNat else 0) < 256
            split
            · rename_i hj
              have := hbz j hj
              omega
            · omega
          · have hb := hbz j hj
            have e : (if j < len0 then (zs.getD j 0).toNat else 0) = (zs.getD j 0).toNat := if_pos hj
            show W.cell? (x.add j) = some (.int .u8 ((if j < len0 then (zs.getD j 0).toNat else 0 : Nat) : Int))
            rw [hcell j (by omega), e, Int.toNat_of_nonneg hb.1]
      exact law_told F a0 len0 cap0 n1 n2 d hd hz (by omega) (by omega) (by omega) W hc hF
  refine fin.mono fun e W' ⟨he, bel⟩ => ?_
  subst he
  exact ⟨_, rfl, _, _, _, [], _, [], hW', trodAll_mk1 (shut_bool Ybaf.underlying4 _), (trodAll_cons_mk (Below.trod laidOut (by kernel_rfl) (of_decide_eq_true (by kernel_rfl)) k0 bel lt0) (trodAll_cons_mk (shut_int Ybaf.underlying23 w1) (trodAll_cons_mk (shut_int Ybaf.underlying24 w2) trodAll_mk0))), rfl, bel.frame _, fun h => by cases h⟩

theorem proved : Rows.LawS2221CReadsToldSaid :=
  Claim7.holds_of_told_any 3 Ybaf.f3 "fmt.Sprintf" [] [] _ _ _ (by kernel_rfl) rfl rfl rfl laidOut (by kernel_rfl) rfl ⟨rfl, rfl, rfl, rfl, rfl, rfl, rfl⟩ rfl rfl (by kernel_rfl) (by kernel_rfl) Ybaf.func3 (by kernel_rfl)
    (of_decide_eq_true (by kernel_rfl)) (of_decide_eq_true (by kernel_rfl)) stops.symm rfl stopKnobs.symm (by kernel_rfl)
    (by kernel_rfl) (by kernel_rfl) (by kernel_rfl) (by kernel_rfl) (by kernel_rfl) (by kernel_rfl) (by kernel_rfl) (by kernel_rfl) (by kernel_rfl) rfl (by kernel_rfl) rfl rfl
    rfl rfl
    rfl (by kernel_rfl) (by kernel_rfl) (by kernel_rfl) (by decide) (by kernel_rfl)
    (OpenClaim.moreEntering_of (by kernel_rfl) (by kernel_rfl) (by kernel_rfl) (by kernel_rfl) (by kernel_rfl) (by kernel_rfl) (by kernel_rfl) (by kernel_rfl) (by kernel_rfl) (by kernel_rfl))
    ⟨_, WideRow.started_initial, quiet _⟩
    (fun os started _ H enc _ => lifted os started H enc)

#print axioms proved

end Go.Proofs.YbulkasyyFmt
