import Derived.Test.YbulkatceLaw
import Derived.ProofKit
import Derived.OpenShut
import Derived.Deep.Slices
import Derived.Lib.SmallJoins
namespace Go.Proofs.Ybulkatce
open Go.ChangeShapes Go.WideShapes Go.ChangeAt Go.RowKit Go.Joins

theorem own : ownKnob Yba.prog.godebug = .none := by kernel_rfl
theorem laidOut : laidOutB Yba.prog = true := by kernel_rfl
theorem Yba.cells39 : Yba.prog.cellsOf 39 = 4 := by kernel_rfl
theorem Yba.cells3 : Yba.prog.cellsOf 3 = 1 := by kernel_rfl
theorem Yba.cells30 : Yba.prog.cellsOf 30 = 1 := by kernel_rfl

theorem open_votes {H : Type} {enc : TypeId × Value → H} {W : World} {a0 : Option Addr} {len cap fuel : Nat} {x : DataW H × List MemPlace} {sp : Nat → Bool} {held : Bool} (hf : DataW.trod enc Yba.prog W 0 sp held fuel 22 [.slice a0 len cap] = some x) :
    (a0 = .none ∧ len = 0 ∧ cap = 0) ∨ ∃ a, a0 = some a ∧ (0 < len → ∃ b off V, a = ⟨b, off, .none⟩ ∧ b < W.heap.size ∧ VCells W b off len V) := by
  rcases Go.Deep.open_slice Yba.underlying22 hf with ⟨hcs, _⟩ | ⟨a, len', cap', m, n, D, Pl, hcs, _, hl, hm, hmm, _, hx⟩
  · simp at hcs
    exact .inl hcs
  · simp at hcs
    obtain ⟨rfl, rfl, rfl⟩ := hcs
    refine .inr ⟨a, rfl, fun h0 => ?_⟩
    have hml : len ≤ m := by rw [hmm]; split <;> omega
    have one : ∀ i, i < len → ∃ v : Int × Int × Int × Int, W.cell? (a.add (i * 4)) = some (.int .i64 v.1) ∧ W.cell? (a.add (i * 4 + 1)) = some (.int .u64 v.2.1) ∧ W.cell? (a.add (i * 4 + 2)) = some (.int .u64 v.2.2.1) ∧ W.cell? (a.add (i * 4 + 3)) = some (.int .i64 v.2.2.2) := by
      intro i hi
      obtain ⟨cs', hc, ht⟩ := hx i (by omega)
      rw [Yba.cells39] at hc
      obtain ⟨_, hlen, hcell⟩ := World.cells?_some hc
      match cs', hlen with
      | [c0, c1, c2, c3], _ =>
        obtain ⟨y0, y1, y2, y3, n', _, _, t0, t1, t2, t3⟩ := trod_struct4 Yba.underlying39 ht
        obtain ⟨k0, e0, _, _⟩ := DataW.trod_int Yba.underlying3 t0
        obtain ⟨k1, e1, _, _⟩ := DataW.trod_int Yba.underlying30 t1
        obtain ⟨k2, e2, _, _⟩ := DataW.trod_int Yba.underlying30 t2
        obtain ⟨k3, e3, _, _⟩ := DataW.trod_int Yba.underlying3 t3
        simp [Yba.cells3, Yba.cells30] at e0 e1 e2 e3
        subst e0 e1 e2 e3
        have g := fun j hj => hcell j hj
        simp only [Go.Deep.add_add] at g
        exact ⟨(k0, k1, k2, k3), by simpa using g 0 (by omega), by simpa using g 1 (by omega), by simpa using g 2 (by omega), by simpa using g 3 (by omega)⟩
    obtain ⟨V, hV⟩ := Go.Deep.choose_lt one
    obtain ⟨b, off, spot⟩ := a
    have hs : spot = .none := by simpa [Addr.add] using World.cell?_spot (hV 0 h0).1
    subst hs
    have hb := World.block_lt_of_cell? W _ (hV 0 h0).1
    simp only [Addr.add_mid] at hV hb
    refine ⟨b, off, V, rfl, hb, fun i hi => ?_, fun i hi => ?_, fun i hi => ?_, fun i hi => ?_⟩
    · exact (hV i hi).1
    · exact (hV i hi).2.1
    · exact (hV i hi).2.2.1
    · exact (hV i hi).2.2.2

set_option maxRecDepth 100000 in
theorem lifted (os : Os) (started : os.Started) (H : Type) (enc : TypeId × Value → H) :
    ReturnsInHanded {} Yba.checked os 3 .any (Rows.lawS2227AFirstSpec.pre6 enc Yba.prog Yba.f3 Rows.lawS2227AFirstRow.domain false) (Rows.lawS2227AFirstSpec.post enc Yba.prog Yba.f3 false true false false) := by
  refine returnsInHanded_of_change (C := Yba.checked) own started (by kernel_rfl) Yba.func3
    (ChangeSpec.witness6 (enc := enc) (C := Yba.checked) false ⟨#[], #[.slice .none 0 0], []⟩ 8 (by kernel_rfl) (by kernel_rfl) (by kernel_rfl) (by kernel_rfl)) ?_
  intro W base args ds gs before hval0 hW hcnd _
  have hval : ∀ (j : Nat) t v, Yba.f3.params[j]? = some t → args[j]? = some v → Value.okWide Yba.prog W .any base t v := hval0
  have hW' := hW
  obtain ⟨p, q, hA0, hV, rfl, hfz, hnd⟩ := hW
  have hA : DataW.TrodAll enc Yba.prog W 0 (fun _ => true) true Yba.f3.params.toList args.toList ds p := hA0
  rw [Yba.params3] at hA hval
  obtain ⟨v0, vs0, d0, ds0, p0, q0, hargs, rfl, rfl, h0, r0⟩ := trodAll_cons hA
  obtain ⟨rfl, rfl, rfl⟩ := trodAll_nil r0
  obtain rfl : args = #[v0] := by cases args; simp_all
  obtain ⟨rfl, rfl⟩ := trodVars_none hV
  obtain ⟨a0, len0, cap0, rfl⟩ := okWide_slice Yba.underlying22 (hval 0 22 v0 rfl rfl)
  have k0 := h0
  have lt0 : ∀ x ∈ p0, x.block < W.heap.size := by obtain ⟨m, hm⟩ := k0; exact DataW.trod_lt m _ _ _ hm
  clear hA0 hval0
  have fin : Calls Yba.prog 3 #[.slice a0 len0 cap0] W fun e w' => e = .returned (.bool true) ∧ Below W.heap.size W w' := by
    obtain ⟨fuel, hf⟩ := h0
    by_cases hbig : 1024 < len0
    · exact law_big a0 len0 cap0 hbig W
    · rcases open_votes (by simpa [Value.cells] using hf) with ⟨rfl, rfl, rfl⟩ | ⟨a, rfl, hv⟩
      · exact law_none .none 0 W .none 0 (build_nil W)
      · by_cases hl : len0 = 0
        · subst hl
          exact law_zero a cap0 W
        · obtain ⟨b, off, V, rfl, hb, hVc⟩ := hv (by omega)
          exact law_some b off len0 cap0 V (by omega) (by omega) W hb hVc
  refine fin.mono fun e W' ⟨he, bel⟩ => ?_
  subst he
  exact ⟨_, rfl, _, _, _, [], _, [], hW', trodAll_mk1 (shut_bool Yba.underlying4 _), (trodAll_cons_mk (Below.trod laidOut (by kernel_rfl) (of_decide_eq_true (by kernel_rfl)) k0 bel lt0) trodAll_mk0), rfl, bel.frame _, fun h => by cases h⟩

theorem proved : Rows.LawS2227AFirstSaid :=
  OpenClaim.holds_of_wide 3 Yba.f3 rfl rfl rfl rfl rfl rfl rfl ⟨rfl, rfl, rfl, rfl, rfl⟩ rfl rfl rfl rfl rfl (by kernel_rfl) Yba.func3 (by kernel_rfl)
    (of_decide_eq_true (by kernel_rfl)) (by unfold Func.isWrapper; first | (rw [if_pos (by decide +kernel)]; kernel_rfl) | (rw [if_neg (by decide +kernel)]; exact ⟨rfl, rfl⟩))
    (fun os started H enc _ => lifted os started H enc)
#print axioms proved

end Go.Proofs.Ybulkatce
