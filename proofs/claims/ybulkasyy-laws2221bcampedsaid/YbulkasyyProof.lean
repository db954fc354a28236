import Derived.Test.YbulkasyyLoop
import Derived.ProofKit
import Derived.OpenShut
import Derived.Deep.Slices
import Derived.Lib.SmallJoins
namespace Go.Proofs.Ybulkasyy
open Go.ChangeShapes Go.WideShapes Go.ChangeAt Go.RowKit Go.Joins

theorem cells61 : Yba.prog.cellsOf 61 = 4 := by kernel_rfl
theorem cells9 : Yba.prog.cellsOf 9 = 1 := by kernel_rfl
theorem cells21 : Yba.prog.cellsOf 21 = 1 := by kernel_rfl
theorem cells4 : Yba.prog.cellsOf 4 = 1 := by kernel_rfl

theorem open_entries {H : Type} {enc : TypeId × Value → H} {W : World} {a0 : Option Addr} {len cap fuel : Nat} {x : DataW H × List MemPlace} {sp : Nat → Bool} {held : Bool} (hf : DataW.trod enc Yba.prog W 0 sp held fuel 22 [.slice a0 len cap] = some x) :
    0 < len → ∃ b off E, a0 = some ⟨b, off, .none⟩ ∧ b < W.heap.size ∧ (∀ i, EntOk (E i)) ∧ ECells W b off len E := by
  intro h0
  rcases Go.Deep.open_slice Yba.underlying22 hf with ⟨hcs, _⟩ | ⟨a, len', cap', m, n, D, Pl, hcs, _, hl, hm, hmm, _, hx⟩
  · simp at hcs
    omega
  · simp at hcs
    obtain ⟨rfl, rfl, rfl⟩ := hcs
    have hml : len ≤ m := by rw [hmm]; split <;> omega
    have one : ∀ i, ∃ v : Ent, EntOk v ∧ (i < len → W.cell? (a.add (i * 4)) = some (.string v.m) ∧ W.cell? (a.add (i * 4 + 1)) = some (.string v.n) ∧ W.cell? (a.add (i * 4 + 2)) = some (.int .i32 v.c) ∧ W.cell? (a.add (i * 4 + 3)) = some (.bool v.h)) := by
      intro i
      by_cases hi : i < len
      · obtain ⟨cs', hc, ht⟩ := hx i (by omega)
        rw [cells61] at hc
        obtain ⟨_, hlen, hcell⟩ := World.cells?_some hc
        match cs', hlen with
        | [c0, c1, c2, c3], _ =>
          obtain ⟨y0, y1, y2, y3, n', _, _, t0, t1, t2, t3⟩ := trod_struct4 Yba.underlying61 ht
          obtain ⟨k0, e0, _, w0⟩ := DataW.trod_string Yba.underlying9 t0
          obtain ⟨k1, e1, _, w1⟩ := DataW.trod_string Yba.underlying9 t1
          obtain ⟨k2, e2, _, w2⟩ := DataW.trod_int Yba.underlying21 t2
          obtain ⟨k3, e3, _⟩ := DataW.trod_bool Yba.underlying4 t3
          simp [cells9, cells21, cells4] at e0 e1 e2 e3
          subst e0 e1 e2 e3
          have g := fun j hj => hcell j hj
          simp only [Go.Deep.add_add] at g
          exact ⟨⟨k0, k1, k2, k3⟩, ⟨w0, w1, bounds_i32 w2⟩, fun _ => ⟨by simpa using g 0 (by omega), by simpa using g 1 (by omega), by simpa using g 2 (by omega), by simpa using g 3 (by omega)⟩⟩
      · exact ⟨⟨ByteArray.empty, ByteArray.empty, 0, false⟩, ⟨by decide, by decide, by decide, by decide⟩, fun h => absurd h hi⟩
    have hV := fun i => Classical.choose_spec (one i)
    generalize hE : (fun i => Classical.choose (one i)) = E at *
    have hV' : ∀ i, EntOk (E i) ∧ (i < len → W.cell? (a.add (i * 4)) = some (.string (E i).m) ∧ W.cell? (a.add (i * 4 + 1)) = some (.string (E i).n) ∧ W.cell? (a.add (i * 4 + 2)) = some (.int .i32 (E i).c) ∧ W.cell? (a.add (i * 4 + 3)) = some (.bool (E i).h)) := fun i => by
      have := hV i
      subst hE
      exact this
    obtain ⟨b, off, spot⟩ := a
    have hs : spot = .none := by simpa [Addr.add] using World.cell?_spot ((hV' 0).2 h0).1
    subst hs
    have hb := World.block_lt_of_cell? W _ ((hV' 0).2 h0).1
    simp only [Addr.add_mid] at hV' hb
    refine ⟨b, off, E, rfl, hb, fun i => (hV' i).1, fun i hi => ?_, fun i hi => ?_, fun i hi => ?_, fun i hi => ?_⟩
    · exact ((hV' i).2 hi).1
    · exact ((hV' i).2 hi).2.1
    · exact ((hV' i).2 hi).2.2.1
    · exact ((hV' i).2 hi).2.2.2

set_option maxRecDepth 100000 in
theorem lifted (os : Os) (started : os.Started) (H : Type) (enc : TypeId × Value → H) :
    ReturnsInHanded {} Yba.checked os 3 .any (Rows.lawS2221BCampedSpec.pre6 enc Yba.prog Yba.f3 Rows.lawS2221BCampedRow.domain false) (Rows.lawS2221BCampedSpec.post enc Yba.prog Yba.f3 false true false false) := by
  refine returnsInHanded_of_change (C := Yba.checked) own started (by kernel_rfl) Yba.func3
    (ChangeSpec.witness6 (enc := enc) (C := Yba.checked) false ⟨#[], #[.slice .none 0 0, .int .u8 0, .int .i32 0, .bool false, .bool false], []⟩ 8 (by kernel_rfl) (by kernel_rfl) (by kernel_rfl) (by kernel_rfl)) ?_
  intro W base args ds gs before hval0 hW hcnd _
  have hval : ∀ (j : Nat) t v, Yba.f3.params[j]? = some t → args[j]? = some v → Value.okWide Yba.prog W .any base t v := hval0
  have hW' := hW
  obtain ⟨p, q, hA0, hV, rfl, hfz, hnd⟩ := hW
  have hA : DataW.TrodAll enc Yba.prog W 0 (fun _ => true) true Yba.f3.params.toList args.toList ds p := hA0
  rw [Yba.params3] at hA hval
  obtain ⟨v0, vs0, d0, ds0, p0, q0, hargs, rfl, rfl, h0, r0⟩ := trodAll_cons hA
  obtain ⟨v1, vs1, d1, ds1, p1, q1, rfl, rfl, rfl, h1, r1⟩ := trodAll_cons r0
  obtain ⟨v2, vs2, d2, ds2, p2, q2, rfl, rfl, rfl, h2, r2⟩ := trodAll_cons r1
  obtain ⟨v3, vs3, d3, ds3, p3, q3, rfl, rfl, rfl, h3, r3⟩ := trodAll_cons r2
  obtain ⟨v4, vs4, d4, ds4, p4, q4, rfl, rfl, rfl, h4, r4⟩ := trodAll_cons r3
  obtain ⟨rfl, rfl, rfl⟩ := trodAll_nil r4
  obtain rfl : args = #[v0, v1, v2, v3, v4] := by cases args; simp_all
  obtain ⟨rfl, rfl⟩ := trodVars_none hV
  obtain ⟨a0, len0, cap0, rfl⟩ := okWide_slice Yba.underlying22 (hval 0 22 v0 rfl rfl)
  obtain ⟨a1, rfl, rfl, rfl, w1⟩ := open_int Yba.underlying5 (hval 1 5 v1 rfl rfl) h1
  obtain ⟨a2, rfl, rfl, rfl, w2⟩ := open_int Yba.underlying21 (hval 2 21 v2 rfl rfl) h2
  obtain ⟨a3, rfl, rfl, rfl⟩ := open_bool Yba.underlying4 (hval 3 4 v3 rfl rfl) h3
  obtain ⟨a4, rfl, rfl, rfl⟩ := open_bool Yba.underlying4 (hval 4 4 v4 rfl rfl) h4
  have k0 := h0
  have lt0 : ∀ x ∈ p0, x.block < W.heap.size := by obtain ⟨m, hm⟩ := k0; exact DataW.trod_lt m _ _ _ hm
  clear hA0 hval0
  have b1 := bounds_u8 w1
  have b2 := bounds_i32 w2
  have fin : Calls Yba.prog 3 #[.slice a0 len0 cap0, .int .u8 a1, .int .i32 a2, .bool a3, .bool a4] W fun e w' => e = .returned (.bool true) ∧ Below W.heap.size W w' := by
    obtain ⟨fuel, hf⟩ := h0
    by_cases hbig : 1024 < len0
    · exact law_big a0 len0 cap0 a1 a2 a3 a4 hbig W
    · cases a4
      · exact law_none a0 len0 cap0 a1 a2 a3 false (by omega) (.inl rfl) b1.1 b1.2 W
      · by_cases hl : len0 = 0
        · exact law_none a0 len0 cap0 a1 a2 a3 true (by omega) (.inr ⟨rfl, hl⟩) b1.1 b1.2 W
        · obtain ⟨b, off, E, rfl, hb, hE, hEc⟩ := open_entries (by simpa [Value.cells] using hf) (by omega)
          exact law_camped b off len0 cap0 E a1 a2 a3 (by omega) (by omega) b1.1 b1.2 b2.1 b2.2 hE W hb hEc
  refine fin.mono fun e W' ⟨he, bel⟩ => ?_
  subst he
  exact ⟨_, rfl, _, _, _, [], _, [], hW', trodAll_mk1 (shut_bool Yba.underlying4 _), (trodAll_cons_mk (Below.trod laidOut (by kernel_rfl) (of_decide_eq_true (by kernel_rfl)) k0 bel lt0) (trodAll_cons_mk (shut_int Yba.underlying5 w1) (trodAll_cons_mk (shut_int Yba.underlying21 w2) (trodAll_cons_mk (shut_bool Yba.underlying4 _) (trodAll_cons_mk (shut_bool Yba.underlying4 _) trodAll_mk0))))), rfl, bel.frame _, fun h => by cases h⟩

theorem proved : Rows.LawS2221BCampedSaid :=
  OpenClaim.holds_of_wide 3 Yba.f3 rfl rfl rfl rfl rfl rfl rfl ⟨rfl, rfl, rfl, rfl, rfl⟩ rfl rfl rfl rfl rfl (by kernel_rfl) Yba.func3 (by kernel_rfl)
    (of_decide_eq_true (by kernel_rfl)) (by unfold Func.isWrapper; first | (rw [if_pos (by decide +kernel)]; kernel_rfl) | (rw [if_neg (by decide +kernel)]; exact ⟨rfl, rfl⟩))
    (fun os started H enc _ => lifted os started H enc)
#print axioms proved

end Go.Proofs.Ybulkasyy
