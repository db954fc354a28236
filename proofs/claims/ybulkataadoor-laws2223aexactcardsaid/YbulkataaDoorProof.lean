import Derived.Test.YbulkataaDoorLaw
import Derived.Test.YbulkataaDoorCards
import Derived.Test.YbulkataaDoorTie
import Derived.ProofKit
import Derived.OpenShut
import Derived.Deep.Slices
import Derived.Lib.SmallJoins
import Derived.Lay
import Derived.SevenTiedAt
namespace Go.Proofs.YbulkataaDoor
open Go.ChangeShapes Go.WideShapes Go.ChangeAt Go.RowKit Go.Joins

theorem own : ownKnob Ybad.prog.godebug = .none := by kernel_rfl
theorem laidOut : laidOutB Ybad.prog = true := by kernel_rfl
theorem Ybad.cells40 : Ybad.prog.cellsOf 40 = 19 := by kernel_rfl
theorem Ybad.cells5 : Ybad.prog.cellsOf 5 = 1 := by kernel_rfl
theorem Ybad.cells33 : Ybad.prog.cellsOf 33 = 1 := by kernel_rfl
theorem Ybad.cells38 : Ybad.prog.cellsOf 38 = 16 := by kernel_rfl
theorem Ybad.cells28 : Ybad.prog.cellsOf 28 = 1 := by kernel_rfl
theorem Ybad.cells67 : Ybad.prog.cellsOf 67 = 2 := by kernel_rfl
theorem tz4 : (Ybad.prog.globals[0]?).map (·.type) = some 30 := by kernel_rfl
theorem tz6 : (Ybad.prog.globals[1]?).map (·.type) = some 30 := by kernel_rfl
abbrev laid2 : List (String × DataW Unit) := Rows.lawS2223AExactRow.laid

/-- a laid handle: the pointer in its cell, and the row it points to -/
theorem handle_of_trod {W : World} {fuel : Nat} {cs : List Value} {p : List MemPlace} {d : DataW Unit} (h : DataW.trod (fun _ => ()) Ybad.prog W 0 (fun _ => true) false fuel 30 cs = some (.agg [.ptr d], p)) :
    ∃ a q, cs = [.pointer (some a)] ∧ p = MemPlace.row a 2 ++ q := by
  obtain ⟨y0, m, hx, hl, u0⟩ := trod_struct1 Ybad.underlying30 h
  have hl1 : cs.length = 1 := by rw [hl]; kernel_rfl
  match cs, hl1 with
  | [c], _ =>
    simp [Ybad.cells28] at u0
    rcases DataW.trod_pointer Ybad.underlying28 u0 with ⟨_, rfl⟩ | ⟨a, cs', y, n, _, hc, rfl, _, _⟩
    · simp at hx
    · rw [Ybad.cells67] at hx
      exact ⟨a, y.2, hc, by simpa using congrArg Prod.snd hx⟩

theorem of_laid {W : World} (h : laidMetH Ybad.prog laid2 W) : ∃ a4 a6, Han W a4 a6 := by
  rw [MakeChecks.laidMetH_plain _ _ _ (by kernel_rfl)] at h
  obtain ⟨ps, ⟨g0, t0, cs0, f0, p0, q0, hg0, ht0, hv0, hd0, ⟨g1, t1, cs1, f1, p1, q1, hg1, ht1, hv1, hd1, hq1, e1⟩, e0⟩, hnd, hrows⟩ := h
  obtain rfl := Option.some.inj ((show Ybad.prog.globalNamed _ = some 0 by kernel_rfl).symm.trans hg0)
  obtain rfl := Option.some.inj ((show Ybad.prog.globalNamed _ = some 1 by kernel_rfl).symm.trans hg1)
  obtain rfl := Option.some.inj (tz4.symm.trans ht0)
  obtain rfl := Option.some.inj (tz6.symm.trans ht1)
  have hq1' : q1 = [] := hq1
  subst hq1'
  subst e1
  subst e0
  obtain ⟨l0⟩ := cs0
  obtain ⟨l1⟩ := cs1
  obtain ⟨a, qa, hca, rfl⟩ := handle_of_trod hd0
  obtain ⟨b, qb, hcb, rfl⟩ := handle_of_trod hd1
  simp only at hca hcb
  subst hca hcb
  have c0 : W.cell? ⟨0, 0, .none⟩ = some (.pointer (some a)) := by simpa using World.var?_cell hg0 hv0 0
  have c1 : W.cell? ⟨1, 0, .none⟩ = some (.pointer (some b)) := by simpa using World.var?_cell hg1 hv1 0
  refine ⟨a, b, c0, c1, ?_, (hrows a.block a.off (by simp [MemPlace.row, List.range_succ])).1, (hrows b.block b.off (by simp [MemPlace.row, List.range_succ])).1, World.block_lt_of_cell? W _ c1⟩
  rintro rfl
  simp [MemPlace.row, List.range_succ] at hnd

theorem door_met (os : Os) (args : Array Value) : laidMetH Ybad.prog laid2 ((World.laidAll Ybad.prog os laid2).forCall (fun _ _ => 0) ⟨#[], args, []⟩).memory := by
  rw [MakeChecks.laidMetH_plain _ _ _ (by kernel_rfl)]; exact laidMet_laidAll _ (by kernel_rfl) (by kernel_rfl)

theorem u8_wf {x : Int} (h : (Lit.int .u8 x).wf = true) : 0 ≤ x ∧ x ≤ 255 := by
  simpa [Lit.wf, IntKind.min, IntKind.max, IntKind.signed, IntKind.bits] using h

theorem open_in {H : Type} {enc : TypeId × Value → H} {W : World} {a0 : Option Addr} {len cap fuel : Nat} {x : DataW H × List MemPlace} {sp : Nat → Bool} {held : Bool} (hf : DataW.trod enc Ybad.prog W 0 sp held fuel 22 [.slice a0 len cap] = some x) :
    (a0 = .none ∧ len = 0 ∧ cap = 0) ∨ ∃ a, a0 = some a ∧ (0 < len → ∃ b off I, a = ⟨b, off, .none⟩ ∧ b < W.heap.size ∧ InCells W b off len I ∧ ∀ j, InpOk (I j)) := by
  rcases Go.Deep.open_slice Ybad.underlying22 hf with ⟨hcs, _⟩ | ⟨a, len', cap', m, n, D, Pl, hcs, _, hl, hm, hmm, _, hx⟩
  · simp at hcs
    exact .inl hcs
  · simp at hcs
    obtain ⟨rfl, rfl, rfl⟩ := hcs
    refine .inr ⟨a, rfl, fun h0 => ?_⟩
    have hml : len ≤ m := by rw [hmm]; split <;> omega
    have one : ∀ i, ∃ v : Inp, InpOk v ∧ (i < len → ∀ j u, (inArr v).toList[j]? = some u → W.cell? (a.add (i * 19 + j)) = some u) := by
      intro i
      by_cases hi : i < len
      · obtain ⟨cs', hc, ht⟩ := hx i (by omega)
        rw [Ybad.cells40] at hc
        obtain ⟨_, hlen, hcell⟩ := World.cells?_some hc
        obtain ⟨y0, y1, y2, y3, n', _, _, t0, t1, t2, t3⟩ := trod_struct4 Ybad.underlying40 ht
        obtain ⟨k0, e0, _, w0⟩ := DataW.trod_int Ybad.underlying5 t0
        obtain ⟨k1, e1, _, w1⟩ := DataW.trod_int Ybad.underlying5 t1
        obtain ⟨xs, m2, _, _, _, hxs, hel⟩ := DataW.trod_array Ybad.underlying38 t2
        obtain ⟨k3, e3, _, _⟩ := DataW.trod_int Ybad.underlying33 t3
        have hz : ∀ q, q < 16 → ∃ k : Int, (((cs'.drop 2).take 16).drop q).take 1 = [.int .u8 k] := by
          intro q hq
          have h1 := hel q hq
          rw [Ybad.cells5, Ybad.cells38] at h1
          have h2 : xs[q]? = some (xs[q]'(by omega)) := List.getElem?_eq_getElem _
          rw [h2] at h1
          obtain ⟨k, ek, _, _⟩ := DataW.trod_int Ybad.underlying5 h1
          exact ⟨k, by simpa using ek⟩
        obtain ⟨z, hz'⟩ := Go.Deep.choose_lt hz
        rw [Ybad.cells5] at e0 e1
        rw [Ybad.cells33] at e3
        refine ⟨⟨k0, k1, z, k3⟩, ⟨(u8_wf w0).1, (u8_wf w0).2, (u8_wf w1).1, (u8_wf w1).2⟩, fun _ j u hu => ?_⟩
        match cs', hlen with
        | [c0, c1, d0, d1, d2, d3, d4, d5, d6, d7, d8, d9, d10, d11, d12, d13, d14, d15, c3], _ =>
          have y := fun q hq => hz' q hq
          have y0 := y 0 (by omega)
          have y1 := y 1 (by omega)
          have y2 := y 2 (by omega)
          have y3 := y 3 (by omega)
          have y4 := y 4 (by omega)
          have y5 := y 5 (by omega)
          have y6 := y 6 (by omega)
          have y7 := y 7 (by omega)
          have y8 := y 8 (by omega)
          have y9 := y 9 (by omega)
          have y10 := y 10 (by omega)
          have y11 := y 11 (by omega)
          have y12 := y 12 (by omega)
          have y13 := y 13 (by omega)
          have y14 := y 14 (by omega)
          have y15 := y 15 (by omega)
          simp at e0 e1 e3 y0 y1 y2 y3 y4 y5 y6 y7 y8 y9 y10 y11 y12 y13 y14 y15
          subst e0 e1 e3 y0 y1 y2 y3 y4 y5 y6 y7 y8 y9 y10 y11 y12 y13 y14 y15
          have hj : j < 19 := (List.getElem?_eq_some_iff.1 hu).1
          have g := hcell j hj
          simp only [Go.Deep.add_add] at g
          rw [g]
          exact hu
      · exact ⟨⟨0, 0, fun _ => 0, 0⟩, ⟨by decide, by decide, by decide, by decide⟩, fun h => absurd h hi⟩
    have hI : ∃ I : Nat → Inp, ∀ i, InpOk (I i) ∧ (i < len → ∀ j u, (inArr (I i)).toList[j]? = some u → W.cell? (a.add (i * 19 + j)) = some u) := ⟨fun i => Classical.choose (one i), fun i => Classical.choose_spec (one i)⟩
    obtain ⟨I, hI⟩ := hI
    obtain ⟨b, off, spot⟩ := a
    have hz := (hI 0).2 h0 0 _ rfl
    have hs : spot = .none := by simpa [Addr.add] using World.cell?_spot hz
    subst hs
    have hb := World.block_lt_of_cell? W _ hz
    simp only [Addr.add_mid] at hI hb
    refine ⟨b, off, I, rfl, hb, fun i hi j v hv => ?_, fun i => (hI i).1⟩
    have := (hI i).2 hi j v hv
    rw [Nat.add_assoc]
    exact this

set_option maxRecDepth 100000 in
theorem lifted (os : Os) (started : os.Started) (H : Type) (enc : TypeId × Value → H) :
    ReturnsInHanded {} Ybad.checked os 3 .any (fun w args => (Rows.lawS2223AExactSpec.pre enc Ybad.prog Ybad.f3 [] false w args ∧ laidMetH Ybad.prog laid2 w) ∧ sizedMet enc Ybad.prog Ybad.f3 (OpenSpec.ofChange Rows.lawS2223AExactSpec) false w args)
      (Rows.lawS2223AExactSpec.post enc Ybad.prog Ybad.f3 false true false false) := by
  refine returnsInHanded_of_change_and (C := Ybad.checked) (X := fun w _ => laidMetH Ybad.prog laid2 w) (fun _ _ _ hh h => h.of_heap hh) own started (by kernel_rfl) Ybad.func3
    (ChangeSpec.witness_shaped (enc := enc) (C := Ybad.checked) (os := os) (X := fun w _ => laidMetH Ybad.prog laid2 w) false (World.laidAll Ybad.prog os laid2) #[.slice .none 0 0, .int .u8 0] 8 (World.laidAll_os _ _ _)
      (World.shaped_of_ZipB (by kernel_rfl) (by kernel_rfl)) (by kernel_rfl) (by kernel_rfl) (by kernel_rfl) (door_met os _)) ?_
  intro W base args ds gs before hval0 hW _ _ hL _
  have hval : ∀ (j : Nat) t v, Ybad.f3.params[j]? = some t → args[j]? = some v → Value.okWide Ybad.prog W .any base t v := hval0
  have hW' := hW
  obtain ⟨p, q, hA0, hV, rfl, hfz, hnd⟩ := hW
  have hA : DataW.TrodAll enc Ybad.prog W 0 (fun _ => true) true Ybad.f3.params.toList args.toList ds p := hA0
  rw [Ybad.params3] at hA hval
  obtain ⟨v0, vs0, d0, ds0, p0, q0, hargs, rfl, rfl, h0, r0⟩ := trodAll_cons hA
  obtain ⟨v1, vs1, d1, ds1, p1, q1, rfl, rfl, rfl, h1, r1⟩ := trodAll_cons r0
  obtain ⟨rfl, rfl, rfl⟩ := trodAll_nil r1
  obtain rfl : args = #[v0, v1] := by cases args; simp_all
  obtain ⟨rfl, rfl⟩ := trodVars_none hV
  obtain ⟨a0, len0, cap0, rfl⟩ := okWide_slice Ybad.underlying22 (hval 0 22 v0 rfl rfl)
  obtain ⟨id, rfl, rfl, rfl, wx⟩ := open_int Ybad.underlying5 (hval 1 5 v1 rfl rfl) h1
  have k0 := h0
  have lt0 : ∀ x ∈ p0, x.block < W.heap.size := by obtain ⟨m, hm⟩ := k0; exact DataW.trod_lt m _ _ _ hm
  clear hA0 hval0
  obtain ⟨a4, a6, hH⟩ := of_laid hL
  have fin : Calls Ybad.prog 3 #[.slice a0 len0 cap0, .int .u8 id] W fun e w' => e = .returned (.bool true) ∧ Below W.heap.size W w' := by
    obtain ⟨fuel, hf⟩ := h0
    rcases open_in (by simpa [Value.cells] using hf) with ⟨rfl, rfl, rfl⟩ | ⟨a, rfl, hv⟩
    · exact law_nil .none 0 id a4 a6 W
    · by_cases hl : len0 = 0
      · subst hl
        exact law_nil (some a) cap0 id a4 a6 W
      · obtain ⟨b, off, I, rfl, hb, hIc, hI⟩ := hv (by omega)
        exact law_any b off len0 cap0 id a4 a6 I hI W hb hIc hH
  refine fin.mono fun e W' ⟨he, bel⟩ => ?_
  subst he
  exact ⟨_, rfl, _, _, _, [], _, [], hW', trodAll_mk1 (shut_bool Ybad.underlying4 _), (trodAll_cons_mk (Below.trod laidOut (by kernel_rfl) (of_decide_eq_true (by kernel_rfl)) k0 bel lt0) (trodAll_cons_mk (shut_int Ybad.underlying5 wx) trodAll_mk0)), rfl, bel.frame _, fun h => by cases h⟩

theorem row_holds : Rows.LawS2223AExactSaid :=
  OpenClaim.holds_of_wide 3 Ybad.f3 rfl rfl rfl rfl rfl rfl rfl ⟨rfl, rfl, rfl, rfl, rfl⟩ rfl rfl rfl rfl rfl (by kernel_rfl) Ybad.func3 (by kernel_rfl)
    (of_decide_eq_true (by kernel_rfl)) (by unfold Func.isWrapper; first | (rw [if_pos (by decide +kernel)]; kernel_rfl) | (rw [if_neg (by decide +kernel)]; exact ⟨rfl, rfl⟩))
    (fun os started H enc _ => lifted os started H enc)

theorem proved : Rows.LawS2223AExactCardSaid :=
  Claim7.holds_tied_plain_at .later [] [.called, .called] true (true, "0e56f5c2b90f34b1b135e837f8812e3d2309219276a45a300d9866bf2120a4e2") false row_holds (fun _ h => by cases h) (by kernel_rfl) (fun _ h => by cases h) lawS2223AExact_row_tie rfl ⟨rfl, rfl⟩ (by kernel_rfl) rfl
    (fun f fn hf hfn => by
      obtain rfl : f = 3 := Option.some.inj ((show Ybad.prog.funcNamed Rows.lawS2223AExactRow.func = some 3 by kernel_rfl).symm.trans hf) |>.symm
      obtain rfl : fn = Ybad.f3 := (Option.some.inj (Ybad.func3.symm.trans hfn)).symm
      exact ⟨by kernel_rfl, fun j t ht => by
        rw [Ybad.params3] at ht
        have hm : t ∈ [22, 5] := by simpa using Array.mem_of_getElem? ht
        have hall : ([22, 5].all fun u => !Ybad.prog.wantsStandIn u) = true := by kernel_rfl
        exact (show Ybad.prog.wantsStandIn t = false by simpa using List.all_eq_true.1 hall t hm)⟩)
    (by kernel_rfl)
#print axioms proved
end Go.Proofs.YbulkataaDoor
