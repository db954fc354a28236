import Derived.Test.YbulkatbqFmtRef
import Derived.Test.YbulkatbqFmtCards
import Derived.ProofKit
import Derived.OpenShut
import Derived.Deep.Slices
import Derived.Lib.SmallJoins
import Derived.Stop.JoinedTold
import Derived.Stop.JoinedAt
import Derived.SevenToldRow
namespace Go.Proofs.YbulkatbqFmt
open Go.ChangeShapes Go.WideShapes Go.ChangeAt Go.RowKit Go.Kit Go.Joins Go.Extern.Stop Go.Stop Go.Extern

theorem own : ownKnob Ybaf.prog.godebug = .none := by kernel_rfl
theorem laidOut : laidOutB Ybaf.pinned.checked.prog = true := by kernel_rfl
theorem stops : Ybaf.pinned.checked.prog.stops = ["fmt.errorf"] := by kernel_rfl
theorem stopKnobs : Ybaf.pinned.checked.prog.stopKnobs = [] := by kernel_rfl
theorem quiet (os : Os) : Stop.quiet Ybaf.pinned.checked.prog os := by
  intro k hk
  rw [stopKnobs] at hk
  cases hk
theorem cells55 : Ybaf.prog.cellsOf 55 = 4 := by kernel_rfl
theorem cells9 : Ybaf.prog.cellsOf 9 = 1 := by kernel_rfl
theorem cells4 : Ybaf.prog.cellsOf 4 = 1 := by kernel_rfl

set_option maxRecDepth 100000 in
theorem ref_big (a : Option Addr) (n cap : Nat) (hn : 256 < n) (w : World) :
    Calls Ybaf.prog 4 #[.slice a n cap] w fun e w' => e = .returned (.bool true) ∧ Below w.heap.size w w' := by
  have t0 : (256 : Int) < (n : Int) := by omega
  go_enter Ybaf.func4, Ybaf.ntmps4
  go_wp2_with fail
  go_ret
  exact ⟨rfl, Below.refl _ _⟩

set_option maxRecDepth 100000 in
theorem open_in {H : Type} {enc : TypeId × Value → H} {W : World} {a0 : Option Addr} {len cap fuel : Nat} {x : DataW H × List MemPlace} {sp : Nat → Bool} {held : Bool} (hf : DataW.trod enc Ybaf.prog W 0 sp held fuel 53 [.slice a0 len cap] = some x) :
    ∃ (b off : Nat) (G : Given) (X : Nat → ByteArray) (S : Nat → Bool), (0 < len → a0 = some ⟨b, off, .none⟩) ∧ Args W b off len G X S := by
  rcases Go.Deep.open_slice Ybaf.underlying53 hf with ⟨hcs, _⟩ | ⟨a, len', cap', m, n, D, Pl, hcs, _, hl, hm, hmm, _, hx⟩
  · simp at hcs
    obtain ⟨rfl, rfl, rfl⟩ := hcs
    exact ⟨0, 0, ⟨fun _ => noStr, fun _ => noStr, fun _ => false, fun _ => 0⟩, fun _ => noStr, fun _ => false, fun h => absurd h (by omega), fun i h => absurd h (by omega), fun i h => absurd h (by omega), fun i h => absurd h (by omega), fun i h => absurd h (by omega), fun h => absurd h (by omega), fun i h => absurd h (by omega), fun i h => absurd h (by omega)⟩
  · simp at hcs
    obtain ⟨rfl, rfl, rfl⟩ := hcs
    have hml : len ≤ m := by rw [hmm]; split <;> omega
    have one : ∀ i, ∃ v : ByteArray × ByteArray × Bool × Bool, i < len → v.1.size ≤ maxLen ∧ W.cell? (a.add (i * 4)) = some (.string v.1) ∧ W.cell? (a.add (i * 4 + 1)) = some (.string v.2.1) ∧ W.cell? (a.add (i * 4 + 2)) = some (.bool v.2.2.1) ∧ W.cell? (a.add (i * 4 + 3)) = some (.bool v.2.2.2) := by
      intro i
      by_cases hi : i < len
      · obtain ⟨cs', hc, ht⟩ := hx i (by omega)
        rw [cells55] at hc
        obtain ⟨_, hlen, hcell⟩ := World.cells?_some hc
        obtain ⟨y0, y1, y2, y3, n', _, _, t0, t1, t2, t3⟩ := trod_struct4 Ybaf.underlying55 ht
        obtain ⟨k0, e0, _, w0⟩ := DataW.trod_string Ybaf.underlying9 t0
        obtain ⟨k1, e1, _, w1⟩ := DataW.trod_string Ybaf.underlying9 t1
        obtain ⟨k2, e2, _⟩ := DataW.trod_bool Ybaf.underlying4 t2
        obtain ⟨k3, e3, _⟩ := DataW.trod_bool Ybaf.underlying4 t3
        rw [cells9] at e0 e1
        rw [cells4] at e2 e3
        refine ⟨(k0, k1, k2, k3), fun _ => ⟨w0, ?_⟩⟩
        match cs', hlen with
        | [c0, c1, c2, c3], _ =>
          simp at e0 e1 e2 e3
          subst e0 e1 e2 e3
          have g := fun j (hj : j < 4) => hcell j hj
          simp only [Go.Deep.add_add] at g
          exact ⟨g 0 (by omega), g 1 (by omega), g 2 (by omega), g 3 (by omega)⟩
      · exact ⟨(noStr, noStr, false, false), fun h => absurd h hi⟩
    obtain ⟨V, hV⟩ : ∃ V : Nat → ByteArray × ByteArray × Bool × Bool, ∀ i, i < len → (V i).1.size ≤ maxLen ∧ W.cell? (a.add (i * 4)) = some (.string (V i).1) ∧ W.cell? (a.add (i * 4 + 1)) = some (.string (V i).2.1) ∧ W.cell? (a.add (i * 4 + 2)) = some (.bool (V i).2.2.1) ∧ W.cell? (a.add (i * 4 + 3)) = some (.bool (V i).2.2.2) := ⟨fun i => Classical.choose (one i), fun i => Classical.choose_spec (one i)⟩
    obtain ⟨b, off, spot⟩ := a
    have hs : 0 < len → spot = .none := fun h0 => by simpa [Addr.add] using World.cell?_spot (hV 0 h0).2.1
    have hb : 0 < len → b < W.heap.size := fun h0 => by
      have hz := (hV 0 h0).2.1
      have := World.block_lt_of_cell? W _ hz
      simpa [Addr.add] using this
    refine ⟨b, off, ⟨fun i => (V i).1, fun i => if (V i).2.2.1 then (V i).2.1 else (V i).1, fun i => (V i).2.2.2, fun _ => 0⟩, fun i => (V i).2.1, fun i => (V i).2.2.1, fun h0 => by rw [hs h0], ?_, ?_, ?_, ?_, hb, fun i _ => rfl, fun i hi => ?_⟩
    · intro i hi
      have := (hV i hi).2.1
      rw [hs (by omega), Addr.add_mid] at this
      exact this
    · intro i hi
      have := (hV i hi).2.2.1
      rw [hs (by omega), Addr.add_mid, ← Nat.add_assoc] at this
      exact this
    · intro i hi
      have := (hV i hi).2.2.2.1
      rw [hs (by omega), Addr.add_mid, ← Nat.add_assoc] at this
      exact this
    · intro i hi
      have := (hV i hi).2.2.2.2
      rw [hs (by omega), Addr.add_mid, ← Nat.add_assoc] at this
      exact this
    · have := (hV i hi).1
      unfold maxLen at this
      show (V i).1.size < _
      omega

set_option maxRecDepth 100000 in
theorem lifted (os : Os) (started : os.Started) (H : Type) (enc : TypeId × Value → H) :
    ReturnsInTold .none {} Ybaf.checked os 4 .any Input.okWide ((OpenSpec.ofChange Rows.lawS2226CRefuseSpec).preRow enc Ybaf.prog Ybaf.f4 [] false []) (fun F => ((OpenSpec.ofChange Rows.lawS2226CRefuseSpec).at F).post enc Ybaf.prog Ybaf.f4 false true false false) (aloneAtReturn Ybaf.prog) nothingAlways := by
  refine returnsInTold_of_row (C := Ybaf.checked) (s := OpenSpec.ofChange Rows.lawS2226CRefuseSpec) (by kernel_rfl) own started (by kernel_rfl) Ybaf.func4
    (OpenSpec.witness_stopped (enc := enc) (C := Ybaf.checked) false ⟨#[], #[.slice .none 0 0], []⟩ 8 (by kernel_rfl) (by kernel_rfl) (by kernel_rfl) (by kernel_rfl)) ?_
  intro F W base args ds gs before _ hF hval0 hW _ _ hsz _ _
  have hval : ∀ (j : Nat) t v, Ybaf.f4.params[j]? = some t → args[j]? = some v → Value.okWide Ybaf.prog W .any base t v := hval0
  have hW' := hW
  obtain ⟨p, q, hA0, hV, rfl, hfz, hnd⟩ := hW
  have hA : DataW.TrodAll enc Ybaf.prog W 0 (fun _ => true) true Ybaf.f4.params.toList args.toList ds p := hA0
  rw [Ybaf.params4] at hA hval
  obtain ⟨v0, vs0, d0, ds0, p0, q0, hargs, rfl, rfl, h0, r0⟩ := trodAll_cons hA
  obtain ⟨rfl, rfl, rfl⟩ := trodAll_nil r0
  obtain rfl : args = #[v0] := by cases args; simp_all
  obtain ⟨rfl, rfl⟩ := trodVars_none hV
  obtain ⟨a0, len0, cap0, rfl⟩ := okWide_slice Ybaf.underlying53 (hval 0 53 v0 rfl rfl)
  have k0 := h0
  have lt0 : ∀ x ∈ p0, x.block < W.heap.size := by obtain ⟨m, hm⟩ := k0; exact DataW.trod_lt m _ _ _ hm
  clear hA0 hval0
  have fin : Calls Ybaf.prog 4 #[.slice a0 len0 cap0] W fun e w' => e = .returned (.bool true) ∧ Below W.heap.size W w' := by
    obtain ⟨fuel, hf⟩ := h0
    obtain ⟨b, off, G, X, S, ha, hA⟩ := open_in (by simpa [Value.cells] using hf)
    by_cases hn : len0 ≤ 256
    · exact ref_any F.told a0 b off len0 cap0 G X S hn ha W hF hA
    · exact ref_big a0 len0 cap0 (by omega) W
  refine fin.mono fun e W' ⟨he, bel⟩ => ?_
  subst he
  exact ⟨_, rfl, _, _, _, [], _, [], hW', trodAll_mk1 (shut_bool Ybaf.underlying4 _), (trodAll_cons_mk (Below.trod laidOut (by kernel_rfl) (of_decide_eq_true (by kernel_rfl)) k0 bel lt0) trodAll_mk0), rfl, bel.frame _, fun h => by cases h⟩

theorem proved : Rows.LawS2226CRefuseToldSaid :=
  Claim7.holds_of_told_any 4 Ybaf.f4 "fmt.errorf" [] [] _ _ _ (by kernel_rfl) rfl rfl rfl laidOut (by kernel_rfl) rfl ⟨rfl, rfl, rfl, rfl, rfl, rfl, rfl⟩ rfl rfl (by kernel_rfl) (by kernel_rfl) Ybaf.func4 (by kernel_rfl)
    (of_decide_eq_true (by kernel_rfl)) (of_decide_eq_true (by kernel_rfl)) stops.symm rfl stopKnobs.symm (by kernel_rfl)
    (by kernel_rfl) (by kernel_rfl) (by kernel_rfl) (by kernel_rfl) (by kernel_rfl) (by kernel_rfl) (by kernel_rfl) (by kernel_rfl) (by kernel_rfl) rfl (by kernel_rfl) rfl rfl
    rfl rfl
    rfl (by kernel_rfl) (by kernel_rfl) (by kernel_rfl) (by decide) (by kernel_rfl)
    (OpenClaim.moreEntering_of (by kernel_rfl) (by kernel_rfl) (by kernel_rfl) (by kernel_rfl) (by kernel_rfl) (by kernel_rfl) (by kernel_rfl) (by kernel_rfl) (by kernel_rfl) (by kernel_rfl))
    ⟨_, WideRow.started_initial, quiet _⟩
    (fun os started _ H enc _ => lifted os started H enc)

#print axioms proved

end Go.Proofs.YbulkatbqFmt
