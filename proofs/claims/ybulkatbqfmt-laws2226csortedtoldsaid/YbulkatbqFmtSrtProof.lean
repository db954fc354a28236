import Derived.Test.YbulkatbqFmtSrt
import Derived.Test.YbulkatbqFmtCards
import Derived.ProofKit
import Derived.OpenShut
import Derived.Deep.Slices
import Derived.Lib.SmallJoins
import Derived.Stop.JoinedTold
import Derived.Stop.JoinedAt
import Derived.SevenToldRow
namespace Go.Proofs.YbulkatbqFmt
open Go.ChangeShapes Go.WideShapes Go.ChangeAt Go.RowKit Go.Kit Go.Joins Go.Extern.Stop Go.Stop Go.Extern

theorem own : ownKnob Ybaf.prog.godebug = .none := by kernel_rfl
theorem laidOut : laidOutB Ybaf.pinned.checked.prog = true := by kernel_rfl
theorem stops : Ybaf.pinned.checked.prog.stops = ["fmt.errorf"] := by kernel_rfl
theorem stopKnobs : Ybaf.pinned.checked.prog.stopKnobs = [] := by kernel_rfl
theorem quiet (os : Os) : Stop.quiet Ybaf.pinned.checked.prog os := by
  intro k hk
  rw [stopKnobs] at hk
  cases hk
theorem cells26 : Ybaf.prog.cellsOf 26 = 1 := by kernel_rfl

set_option maxRecDepth 100000 in
theorem srt_big (a : Option Addr) (n cap : Nat) (hn : 1024 < n) (w : World) :
    Calls Ybaf.prog 3 #[.slice a n cap] w fun e w' => e = .returned (.bool true) ∧ Below w.heap.size w w' := by
  have t0 : (1024 : Int) < (n : Int) := by omega
  go_enter Ybaf.func3, Ybaf.ntmps3
  go_wp2_with fail
  go_ret
  exact ⟨rfl, Below.refl _ _⟩

theorem u16_wf {x : Int} (h : (Lit.int .u16 x).wf = true) : 0 ≤ x ∧ x ≤ 65535 := by
  simpa [Lit.wf, IntKind.min, IntKind.max, IntKind.signed, IntKind.bits] using h

theorem open_in {H : Type} {enc : TypeId × Value → H} {W : World} {a0 : Option Addr} {len cap fuel : Nat} {x : DataW H × List MemPlace} {sp : Nat → Bool} {held : Bool} (hf : DataW.trod enc Ybaf.prog W 0 sp held fuel 22 [.slice a0 len cap] = some x) :
    ∃ (b off : Nat) (K : Nat → Nat), (0 < len → a0 = some ⟨b, off, .none⟩) ∧ (∀ i, i < len → K i < 65536) ∧ (0 < len → b < W.heap.size) ∧ ∀ i, i < len → W.cell? ⟨b, off + i, .none⟩ = some (.int .u16 (K i : Nat)) := by
  rcases Go.Deep.open_slice Ybaf.underlying22 hf with ⟨hcs, _⟩ | ⟨a, len', cap', m, n, D, Pl, hcs, _, hl, hm, hmm, _, hx⟩
  · simp at hcs
    obtain ⟨rfl, rfl, rfl⟩ := hcs
    exact ⟨0, 0, fun _ => 0, fun h => absurd h (by omega), fun i h => absurd h (by omega), fun h => absurd h (by omega), fun i h => absurd h (by omega)⟩
  · simp at hcs
    obtain ⟨rfl, rfl, rfl⟩ := hcs
    have hml : len ≤ m := by rw [hmm]; split <;> omega
    have one : ∀ i, ∃ v : Nat, i < len → v < 65536 ∧ W.cell? (a.add i) = some (.int .u16 (v : Nat)) := by
      intro i
      by_cases hi : i < len
      · obtain ⟨cs', hc, ht⟩ := hx i (by omega)
        rw [cells26] at hc
        obtain ⟨_, hlen, hcell⟩ := World.cells?_some hc
        obtain ⟨k0, e0, _, w0⟩ := DataW.trod_int Ybaf.underlying26 ht
        have hw := u16_wf w0
        subst e0
        refine ⟨k0.toNat, fun _ => ⟨by omega, ?_⟩⟩
        have g := hcell 0 (by omega)
        simp only [Go.Deep.add_add, Nat.mul_one, Nat.add_zero] at g
        rw [g, Int.toNat_of_nonneg hw.1]
        rfl
      · exact ⟨0, fun h => absurd h hi⟩
    obtain ⟨K, hK⟩ : ∃ K : Nat → Nat, ∀ i, i < len → K i < 65536 ∧ W.cell? (a.add i) = some (.int .u16 (K i : Nat)) := ⟨fun i => Classical.choose (one i), fun i => Classical.choose_spec (one i)⟩
    obtain ⟨b, off, spot⟩ := a
    have hs : 0 < len → spot = .none := fun h0 => by simpa [Addr.add] using World.cell?_spot (hK 0 h0).2
    refine ⟨b, off, K, fun h0 => by rw [hs h0], fun i hi => (hK i hi).1, fun h0 => ?_, fun i hi => ?_⟩
    · have := World.block_lt_of_cell? W _ (hK 0 h0).2
      simpa [Addr.add] using this
    · have := (hK i hi).2
      rw [hs (by omega), Addr.add_mid] at this
      exact this

set_option maxRecDepth 100000 in
theorem lifted (os : Os) (started : os.Started) (H : Type) (enc : TypeId × Value → H) :
    ReturnsInTold .none {} Ybaf.checked os 3 .any Input.okWide ((OpenSpec.ofChange Rows.lawS2226CSortedSpec).preRow enc Ybaf.prog Ybaf.f3 [] false []) (fun F => ((OpenSpec.ofChange Rows.lawS2226CSortedSpec).at F).post enc Ybaf.prog Ybaf.f3 false true false false) (aloneAtReturn Ybaf.prog) nothingAlways := by
  refine returnsInTold_of_row (C := Ybaf.checked) (s := OpenSpec.ofChange Rows.lawS2226CSortedSpec) (by kernel_rfl) own started (by kernel_rfl) Ybaf.func3
    (OpenSpec.witness_stopped (enc := enc) (C := Ybaf.checked) false ⟨#[], #[.slice .none 0 0], []⟩ 8 (by kernel_rfl) (by kernel_rfl) (by kernel_rfl) (by kernel_rfl)) ?_
  intro F W base args ds gs before _ hF hval0 hW _ _ hsz _ _
  have hval : ∀ (j : Nat) t v, Ybaf.f3.params[j]? = some t → args[j]? = some v → Value.okWide Ybaf.prog W .any base t v := hval0
  have hW' := hW
  obtain ⟨p, q, hA0, hV, rfl, hfz, hnd⟩ := hW
  have hA : DataW.TrodAll enc Ybaf.prog W 0 (fun _ => true) true Ybaf.f3.params.toList args.toList ds p := hA0
  rw [Ybaf.params3] at hA hval
  obtain ⟨v0, vs0, d0, ds0, p0, q0, hargs, rfl, rfl, h0, r0⟩ := trodAll_cons hA
  obtain ⟨rfl, rfl, rfl⟩ := trodAll_nil r0
  obtain rfl : args = #[v0] := by cases args; simp_all
  obtain ⟨rfl, rfl⟩ := trodVars_none hV
  obtain ⟨a0, len0, cap0, rfl⟩ := okWide_slice Ybaf.underlying22 (hval 0 22 v0 rfl rfl)
  have k0 := h0
  have lt0 : ∀ x ∈ p0, x.block < W.heap.size := by obtain ⟨m, hm⟩ := k0; exact DataW.trod_lt m _ _ _ hm
  clear hA0 hval0
  have fin : Calls Ybaf.prog 3 #[.slice a0 len0 cap0] W fun e w' => e = .returned (.bool true) ∧ Below W.heap.size W w' := by
    obtain ⟨fuel, hf⟩ := h0
    obtain ⟨b, off, K, ha, hK, hb, hC⟩ := open_in (by simpa [Value.cells] using hf)
    by_cases hn : len0 ≤ 1024
    · exact srt_any F.told a0 b off len0 cap0 K hn ha W hF hK hb hC
    · exact srt_big a0 len0 cap0 (by omega) W
  refine fin.mono fun e W' ⟨he, bel⟩ => ?_
  subst he
  exact ⟨_, rfl, _, _, _, [], _, [], hW', trodAll_mk1 (shut_bool Ybaf.underlying4 _), (trodAll_cons_mk (Below.trod laidOut (by kernel_rfl) (of_decide_eq_true (by kernel_rfl)) k0 bel lt0) trodAll_mk0), rfl, bel.frame _, fun h => by cases h⟩

theorem proved : Rows.LawS2226CSortedToldSaid :=
  Claim7.holds_of_told_any 3 Ybaf.f3 "fmt.errorf" [] [] _ _ _ (by kernel_rfl) rfl rfl rfl laidOut (by kernel_rfl) rfl ⟨rfl, rfl, rfl, rfl, rfl, rfl, rfl⟩ rfl rfl (by kernel_rfl) (by kernel_rfl) Ybaf.func3 (by kernel_rfl)
    (of_decide_eq_true (by kernel_rfl)) (of_decide_eq_true (by kernel_rfl)) stops.symm rfl stopKnobs.symm (by kernel_rfl)
    (by kernel_rfl) (by kernel_rfl) (by kernel_rfl) (by kernel_rfl) (by kernel_rfl) (by kernel_rfl) (by kernel_rfl) (by kernel_rfl) (by kernel_rfl) rfl (by kernel_rfl) rfl rfl
    rfl rfl
    rfl (by kernel_rfl) (by kernel_rfl) (by kernel_rfl) (by decide) (by kernel_rfl)
    (OpenClaim.moreEntering_of (by kernel_rfl) (by kernel_rfl) (by kernel_rfl) (by kernel_rfl) (by kernel_rfl) (by kernel_rfl) (by kernel_rfl) (by kernel_rfl) (by kernel_rfl) (by kernel_rfl))
    ⟨_, WideRow.started_initial, quiet _⟩
    (fun os started _ H enc _ => lifted os started H enc)

#print axioms proved

end Go.Proofs.YbulkatbqFmt
