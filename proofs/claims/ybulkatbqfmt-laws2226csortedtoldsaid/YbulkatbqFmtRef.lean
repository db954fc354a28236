import Derived.Test.YbulkatbqFmtBld
namespace Go.Proofs.YbulkatbqFmt
open Go.RowKit Go.Extern.Stop Go.Stop Go.Extern Go.Sort

theorem info28 : ∃ i, Ybaf.prog.info? 28 = some i ∧ i.zero = some (.pointer none) ∧ i.size = 1 ∧ i.bytes = 8 := ⟨Ybaf.t28, by kernel_rfl, by kernel_rfl, by kernel_rfl, by kernel_rfl⟩
theorem info38 : ∃ i, Ybaf.prog.info? 38 = some i ∧ i.zero = some .nilIface ∧ i.size = 1 ∧ i.bytes = 16 := ⟨Ybaf.t38, by kernel_rfl, by kernel_rfl, by kernel_rfl, by kernel_rfl⟩
/-- the argument's cells -/
structure Args (w : World) (b off n : Nat) (G : Given) (X : Nat → ByteArray) (S : Nat → Bool) : Prop where
  c0 : ∀ i, i < n → w.cell? ⟨b, off + i * 4, .none⟩ = some (.string (G.D i))
  c1 : ∀ i, i < n → w.cell? ⟨b, off + i * 4 + 1, .none⟩ = some (.string (X i))
  c2 : ∀ i, i < n → w.cell? ⟨b, off + i * 4 + 2, .none⟩ = some (.bool (S i))
  c3 : ∀ i, i < n → w.cell? ⟨b, off + i * 4 + 3, .none⟩ = some (.bool (G.Z i))
  lt : 0 < n → b < w.heap.size
  en : ∀ i, i < n → G.E i = if S i then X i else G.D i
  sz : ∀ i, i < n → (G.D i).size < 9223372036854775808
theorem Args.put {w : World} {b off n : Nat} {G : Given} {X : Nat → ByteArray} {S : Nat → Bool} (h : Args w b off n G X S) (k q : Nat) : Args w b off n (G.put k q) X S := ⟨h.c0, h.c1, h.c2, h.c3, h.lt, h.en, h.sz⟩

/-- NewRegistry's answer, value by value -/
def Ans (G : Given) (n : Nat) (w w' : World) (v1 v2 : Value) : Prop :=
  (∃ j, j < n ∧ (∀ i, i < j → G.Good i) ∧ ¬ G.Good j ∧ v1 = .pointer none ∧ (∃ t q, v2 = .iface t q) ∧ St w w' G (j + 1)) ∨
  ((∀ i, i < n → G.Good i) ∧ St w w' G n ∧
    ((¬ (namesOf G n).Nodup ∧ v1 = .pointer none ∧ ∃ t q, v2 = .iface t q) ∨
     ((namesOf G n).Nodup ∧ v2 = .nilIface ∧ ∃ rB d, v1 = .pointer (some ⟨rB, 0, .none⟩) ∧ Held G n w.heap.size rB d w')))
theorem Answers.ans {G : Given} {n : Nat} {w w' : World} {e : Ending} (h : Answers G n w w' e) : ∃ v1 v2, e = .returned (.tuple #[v1, v2]) ∧ Ans G n w w' v1 v2 := by
  rcases h with ⟨j, h1, h2, h3, ⟨t, q, rfl⟩, h4⟩ | ⟨h1, h2, ⟨h3, t, q, rfl⟩ | ⟨h3, rB, d, rfl, h4⟩⟩
  · exact ⟨_, _, rfl, Or.inl ⟨j, h1, h2, h3, rfl, ⟨t, q, rfl⟩, h4⟩⟩
  · exact ⟨_, _, rfl, Or.inr ⟨h1, h2, Or.inl ⟨h3, rfl, t, q, rfl⟩⟩⟩
  · exact ⟨_, _, rfl, Or.inr ⟨h1, h2, Or.inr ⟨h3, rfl, rB, d, rfl, h4⟩⟩⟩

/-- two worlds apart by draws alone -/
structure Same (w W : World) : Prop where
  heap : W.heap = w.heap
  os : W.os = w.os
  tape : W.tape = w.tape
  output : W.output = w.output
theorem Same.drew {w W : World} (h : Same w W) (c : Nat) : Same w (W.drewN c) := ⟨h.heap, h.os, h.tape, h.output⟩
theorem St.same {w W W2 : World} {G : Given} {k : Nat} (h : St w W G k) (hs : Same W W2) : St w W2 G k :=
  ⟨hs.os.trans h.os, hs.tape.trans h.tape, hs.output.trans h.output, by rw [hs.heap]; exact h.size, by rw [hs.heap]; exact h.keep, by rw [hs.heap]; exact h.asked⟩
theorem Same.cell {w W : World} (h : Same w W) (p : Addr) : W.cell? p = w.cell? p := World.cell?_of_block (w := w) (by rw [h.heap])
theorem nodup_names (G : Given) (k : Nat) : (namesOf G k).Nodup ↔ ∀ x y, x < y → y < k → G.D x ≠ G.D y := by
  have e : ∀ i (h : i < (namesOf G k).length), (namesOf G k)[i] = G.D i := fun i h => by simp [namesOf]
  have hl : (namesOf G k).length = k := by simp [namesOf]
  unfold List.Nodup
  rw [List.pairwise_iff_getElem]
  constructor
  · intro h x y hxy hy
    have := h x y (by omega) (by omega) hxy
    rwa [e, e] at this
  · intro h x y hx hy hxy
    rw [e, e]
    exact h x y hxy (by omega)
/-- the law's own search for twins, at (r, s) -/
def Dup (G : Given) (k r s : Nat) (t : Bool) : Prop := (t = true → ¬ (namesOf G k).Nodup) ∧ (t = false → (∀ x y, x < r → x < y → y < k → G.D x ≠ G.D y) ∧ ∀ y, r < y → y < s → G.D r ≠ G.D y)
theorem Dup.start (G : Given) (k : Nat) : Dup G k 0 0 false := ⟨fun h => (by cases h), fun _ => ⟨fun x y h => absurd h (by omega), fun y _ h => absurd h (by omega)⟩⟩
theorem Dup.inner {G : Given} {k r : Nat} {t : Bool} (h : Dup G k r 0 t) : Dup G k r (r + 1) t := ⟨h.1, fun ht => ⟨(h.2 ht).1, fun y h1 h2 => absurd h2 (by omega)⟩⟩
theorem Dup.outer {G : Given} {k r s : Nat} {t : Bool} (h : Dup G k r s t) (hs : k ≤ s) : Dup G k (r + 1) 0 t := ⟨h.1, fun ht => ⟨fun x y hx hxy hy => by
  rcases Nat.lt_or_eq_of_le (Nat.le_of_lt_succ hx) with h' | rfl
  · exact (h.2 ht).1 x y h' hxy hy
  · exact (h.2 ht).2 y hxy (by omega), fun y _ h2 => absurd h2 (by omega)⟩⟩
theorem Dup.ne {G : Given} {k r s : Nat} {t : Bool} (h : Dup G k r s t) (hne : ¬ G.D r = G.D s) : Dup G k r (s + 1) t := ⟨h.1, fun ht => ⟨(h.2 ht).1, fun y h1 h2 => by
  rcases Nat.lt_or_eq_of_le (Nat.le_of_lt_succ h2) with h' | rfl
  · exact (h.2 ht).2 y h1 h'
  · exact hne⟩⟩
theorem Dup.eq {G : Given} {k r s : Nat} (hrs : r < s) (hs : s < k) (he : G.D r = G.D s) : Dup G k r (s + 1) true := ⟨fun _ hN => (nodup_names G k).1 hN r s hrs hs he, fun h => by cases h⟩
theorem Dup.done {G : Given} {k r : Nat} {t : Bool} (h : Dup G k r 0 t) (hr : k ≤ r) (ht : t = false) : (namesOf G k).Nodup := (nodup_names G k).2 fun x y hxy hy => (h.2 ht).1 x y (by omega) hxy hy

/-- tool k lies at block q, the argument's copy at block aB -/
structure Box (w W : World) (tB m n k aB q : Nat) (G : Given) : Prop where
  bld : Bld w W tB m n k G
  nm : W.cell? ⟨aB, 0, .none⟩ = some (.string (G.D k))
  am : m ≤ aB
  tool : W.heap[q]? = some (.cells (toolCells (G.D k) (G.E k) 0 0) 36 (0, 0))
  qm : m ≤ q
  qn : ∀ i, i < k → G.Z i = false → G.p i ≠ q
  sz : m ≤ W.heap.size
theorem Box.make {w W : World} {tB m n k : Nat} {G : Given} (h : Bld w W tB m n k G) (hm : m ≤ W.heap.size) (x1 x2 x3 : Value) :
    Box w ((W.alloc (.cells #[.string (G.D k), x1, x2, x3] 55)).alloc (.cells (toolCells (G.D k) (G.E k) 0 0) 36)) tB m n k W.heap.size (W.heap.size + 1) G := by
  have hB := ((Below.refl W.heap.size W).alloc (Nat.le_refl _) (.cells #[.string (G.D k), x1, x2, x3] 55))
  have hs : (W.alloc (.cells #[.string (G.D k), x1, x2, x3] 55)).heap.size = W.heap.size + 1 := by simp
  have hB2 := hB.alloc hB.size (.cells (toolCells (G.D k) (G.E k) 0 0) 36)
  refine ⟨h.later hB2, cell_of (heap_alloc_old (heap_alloc_new rfl _) _) 0, hm, heap_alloc_new hs.symm _, by omega, fun i hi hz e => ?_, Nat.le_trans hm hB2.size⟩
  have := lt_of_heap (h.tool i hi hz)
  omega
theorem Box.next {w W : World} {tB m n k aB q : Nat} {G : Given} (h : Box w W tB m n k aB q G) (hk : k < n) (hz : G.Z k = false) :
    Bld w ((W.setCell ⟨w.heap.size, k, .none⟩ (.pointer (some ⟨q, 0, .none⟩))).setCell ⟨tB, k, .none⟩ (.iface 28 (.pointer (some ⟨q, 0, .none⟩)))) tB m n (k + 1) (G.put k q) ∧
    ((W.setCell ⟨w.heap.size, k, .none⟩ (.pointer (some ⟨q, 0, .none⟩))).setCell ⟨tB, k, .none⟩ (.iface 28 (.pointer (some ⟨q, 0, .none⟩)))).cell? ⟨aB, 0, .none⟩ = some (.string (G.D k)) ∧
    m ≤ ((W.setCell ⟨w.heap.size, k, .none⟩ (.pointer (some ⟨q, 0, .none⟩))).setCell ⟨tB, k, .none⟩ (.iface 28 (.pointer (some ⟨q, 0, .none⟩)))).heap.size := by
  have h1 := h.bld.lo
  have h2 := h.bld.hi
  have h3 := h.am
  refine ⟨h.bld.add hk hz h.qm h.qn h.tool, ?_, by simpa [World.setCell] using h.sz⟩
  rw [World.cell?_of_block (w := W) (heap_set_other (heap_set_other rfl (by show aB ≠ _; omega) _ _) (by show aB ≠ _; omega) _ _)]
  exact h.nm

set_option maxRecDepth 100000 in
set_option maxHeartbeats 8000000 in
theorem ref_any (F : Interp) (a : Option Addr) (b off n cap : Nat) (G0 : Given) (X : Nat → ByteArray) (S : Nat → Bool) (hn : n ≤ 256) (ha : 0 < n → a = some ⟨b, off, .none⟩) (w : World) (hF : F.answers w.tape) (hA : Args w b off n G0 X S) :
    Calls Ybaf.prog 4 #[.slice a n cap] w fun e w' => e = .returned (.bool true) ∧ Below w.heap.size w w' := by
  obtain ⟨i8, hi8, hp0, hp1, hp2⟩ := info28
  obtain ⟨i0, hi, hq0, hq1, hq2⟩ := info38
  have HA0 : Hid (Args w b off n G0 X S) := hA
  have HF : Hid (F.answers w.tape) := hF
  have Ha : Hid (0 < n → a = some ⟨b, off, .none⟩) := ha
  have t0 : ¬ (256 : Int) < (n : Int) := by omega
  clear hA hF ha
  go_enter Ybaf.func4, Ybaf.ntmps4
  go_upto_region 5 with (at_make; refine wpList_make_full _ rfl _ _ 23 rfl w.heap.size 28 i8 _ 1 Ybaf.underlying23 hi8 hp0 hp1 .i64 .i64 _ _ n rfl rfl rfl rfl (by rw [hp2]; omega) (by unfold maxLen; omega) (Nat.le_refl _) ?_; intro w1 hown1 hg1)
  have hr1 := RowOf.made hown1
  have hb1 : Below w.heap.size w w1 := (Below.refl _ _).grown hg1 (Nat.le_refl _) (by intro k hk; cases hk)
  clear hown1 hg1
  go_upto_region 7 with (at_make; refine wpList_make_full _ rfl _ _ 24 rfl w1.heap.size 38 i0 _ 1 Ybaf.underlying24 hi hq0 hq1 .i64 .i64 _ _ n rfl rfl rfl rfl (by rw [hq2]; omega) (by unfold maxLen; omega) (Nat.le_refl _) ?_; intro w2 hown2 hg2)
  have hr2 := RowOf.made hown2
  have hb2 : Below w1.heap.size w1 w2 := (Below.refl _ _).grown hg2 (Nat.le_refl _) (by intro k hk; cases hk)
  have hst : Bld w w2 w1.heap.size w2.heap.size n 0 G0 := Bld.start hb1 hr1 hb2 hr2
  obtain ⟨tB, htB⟩ : ∃ tB, tB = w1.heap.size := ⟨_, rfl⟩
  obtain ⟨m, hm⟩ : ∃ m, m = w2.heap.size := ⟨_, rfl⟩
  rw [← htB] at hst ⊢
  rw [← hm] at hst
  have hm' : m ≤ w2.heap.size := Nat.le_of_eq hm
  clear hown2 hg2 hr1 hr2 hb1 hb2 htB hm
  clear w1
  go_wp2_with fail
  go_loopw [7, 6] (fun i fb W => ∃ (k : Nat) (f : Int) (p : Nat → Nat), k ≤ n ∧ i = .int .i64 k ∧ fb = .int .i64 f ∧ Bld w W tB m n k ⟨G0.D, G0.E, G0.Z, p⟩ ∧ FB G0 k f ∧ m ≤ W.heap.size) (fun i _ _ => n - (intOf i).toNat)
  case atStart => exact ⟨0, -1, G0.p, Nat.zero_le _, rfl, rfl, hst, Or.inl ⟨rfl, fun i hi => absurd hi (by omega)⟩, hm'⟩
  case round =>
    clear hst hm'
    clear w2
    rename World => W
    obtain ⟨k, f, p, hk, rfl, rfl, hB, hFB, hmW⟩ := hrel
    have HB : Hid (Bld w W tB m n k ⟨G0.D, G0.E, G0.Z, p⟩) := hB
    have HFB : Hid (FB G0 k f) := hFB
    clear hFB
    by_cases hlt : k < n
    · have hlt' : (k : Int) < (n : Int) := by omega
      obtain rfl := Ha.out (by omega)
      have hbl := HA0.out.lt (by omega)
      have c0 := (hB.bel.cell (p := ⟨b, off + k * 4, .none⟩) hbl).trans (HA0.out.c0 k hlt)
      have c1 := (hB.bel.cell (p := ⟨b, off + k * 4 + 1, .none⟩) hbl).trans (HA0.out.c1 k hlt)
      have c2 := (hB.bel.cell (p := ⟨b, off + k * 4 + 2, .none⟩) hbl).trans (HA0.out.c2 k hlt)
      have c3 := (hB.bel.cell (p := ⟨b, off + k * 4 + 3, .none⟩) hbl).trans (HA0.out.c3 k hlt)
      have hEk := HA0.out.en k hlt
      clear hB
      cases hz : G0.Z k
      case true =>
        rw [hz] at c3
        have HZ : Hid (G0.Z k = true) := hz
        clear hz hEk
        go_upto_region 22 with fail
        refine wp_gen (fun W3 => Bld w W3 tB m n (k + 1) ⟨G0.D, G0.E, G0.Z, p⟩ ∧ m ≤ W3.heap.size) ⟨(HB.out.later ((Below.refl _ W).alloc (Nat.le_refl _) _)).skip HZ.out, Nat.le_trans hmW (by simp)⟩ ?_
        obtain ⟨aB, haB⟩ : ∃ aB, aB = W.heap.size := ⟨_, rfl⟩
        rw [← haB]
        clear c0 c1 c2 c3 HB hmW haB
        clear W
        rintro W3 ⟨hB3, hM3⟩
        have HB3 : Hid (Bld w W3 tB m n (k + 1) ⟨G0.D, G0.E, G0.Z, p⟩) := hB3
        have HM : Hid (m ≤ W3.heap.size) := hM3
        clear hB3 hM3
        have hng : ¬ G0.Good k := fun h => by have := h.1; rw [HZ.out] at this; cases this
        have HNG : Hid (¬ G0.Good k) := hng
        clear hng
        rcases HFB.out with ⟨rfl, hgo⟩ | ⟨j, hj1, rfl, hj2, hj3⟩
        · have HGO : Hid (∀ i, i < k → G0.Good i) := hgo
          clear hgo HFB
          go_wp2_with fail
          go_roundw
          case rel => exact ⟨k + 1, k, p, by omega, by go_num, rfl, HB3.out, Or.inr ⟨k, by omega, rfl, HGO.out, HNG.out⟩, HM.out⟩
          case measure => simp [intOf]; omega
        · have t1 : ¬ (j : Int) < 0 := by omega
          have HJ : Hid ((∀ i, i < j → G0.Good i) ∧ ¬ G0.Good j) := ⟨hj2, hj3⟩
          clear hj2 hj3 HFB
          go_wp2_with fail
          go_roundw
          case rel => exact ⟨k + 1, j, p, by omega, by go_num, rfl, HB3.out, Or.inr ⟨j, by omega, rfl, HJ.out⟩, HM.out⟩
          case measure => simp [intOf]; omega
      case false =>
        rw [hz] at c3
        have HZ : Hid (G0.Z k = false) := hz
        clear hz
        cases hs : S k
        case true =>
          rw [hs] at c2 hEk
          rw [if_pos rfl] at hEk
          rw [← hEk] at c1
          clear hEk hs
          go_upto_region 18 with fail
          refine wp_gen (fun W1 => Box w W1 tB m n k W.heap.size (W.heap.size + 1) ⟨G0.D, G0.E, G0.Z, p⟩) (Box.make HB.out hmW _ _ _) ?_
          obtain ⟨aB, haB⟩ : ∃ aB, aB = W.heap.size := ⟨_, rfl⟩
          obtain ⟨q, hq⟩ : ∃ q, q = W.heap.size + 1 := ⟨_, rfl⟩
          rw [← hq, ← haB]
          clear hq haB c0 c1 c2 c3 HB hmW
          clear W
          rintro W1 hX
          have HX : Hid (Box w W1 tB m n k aB q ⟨G0.D, G0.E, G0.Z, p⟩) := hX
          have y0 := hX.bld.ptrs.cell k hlt
          have y1 := hX.bld.ptrs.free k
          have y2 := hX.bld.tls.cell k hlt
          have y3 := hX.bld.tls.free k
          have y4 : tB ≠ w.heap.size := Nat.ne_of_gt hX.bld.lo
          have y5 : w.heap.size ≠ tB := Nat.ne_of_lt hX.bld.lo
          clear hX
          go_upto_region 20 with fail
          refine wp_gen (fun W3 => Bld w W3 tB m n (k + 1) ((⟨G0.D, G0.E, G0.Z, p⟩ : Given).put k q) ∧ W3.cell? ⟨aB, 0, .none⟩ = some (.string (G0.D k)) ∧ m ≤ W3.heap.size) (HX.out.next hlt HZ.out) ?_
          clear y0 y1 y2 y3 y4 y5 HX
          clear W1
          rintro W3 ⟨hB3, d0, hM3⟩
          have HB3 : Hid (Bld w W3 tB m n (k + 1) ((⟨G0.D, G0.E, G0.Z, p⟩ : Given).put k q)) := hB3
          have HM : Hid (m ≤ W3.heap.size) := hM3
          clear hB3 hM3
          by_cases hE : G0.E k = G0.D k
          · rw [hE]
            have HE : Hid (G0.E k = G0.D k) := hE
            clear hE
            by_cases hV : Valid (G0.D k)
            · have HV : Hid (Valid (G0.D k)) := hV
              clear hV
              go_upto_region 22 with (go_at_call 8; refine (valid_yes _ HV.out _).mono ?_; rintro e w' ⟨rfl, rfl⟩)
              have hgd : G0.Good k := ⟨HZ.out, HE.out, HV.out⟩
              have HGD : Hid (G0.Good k) := hgd
              clear hgd
              go_wp2_with fail
              go_roundw
              case rel => exact ⟨k + 1, f, _, by omega, by go_num, rfl, HB3.out, HFB.out.good HGD.out, HM.out⟩
              case measure => simp [intOf]; omega
            · have HV : Hid (¬ Valid (G0.D k)) := hV
              clear hV
              go_upto_region 22 with (go_at_call 8; refine (valid_no _ HV.out _).mono ?_; rintro e w' ⟨rfl, rfl⟩)
              have hng : ¬ G0.Good k := fun h => HV.out h.2.2
              have HNG : Hid (¬ G0.Good k) := hng
              clear hng
              rcases HFB.out with ⟨rfl, hgo⟩ | ⟨j, hj1, rfl, hj2, hj3⟩
              · have HGO : Hid (∀ i, i < k → G0.Good i) := hgo
                clear hgo HFB
                go_wp2_with fail
                go_roundw
                case rel => exact ⟨k + 1, k, _, by omega, by go_num, rfl, HB3.out, Or.inr ⟨k, by omega, rfl, HGO.out, HNG.out⟩, HM.out⟩
                case measure => simp [intOf]; omega
              · have t1 : ¬ (j : Int) < 0 := by omega
                have HJ : Hid ((∀ i, i < j → G0.Good i) ∧ ¬ G0.Good j) := ⟨hj2, hj3⟩
                clear hj2 hj3 HFB
                go_wp2_with fail
                go_roundw
                case rel => exact ⟨k + 1, j, _, by omega, by go_num, rfl, HB3.out, Or.inr ⟨j, by omega, rfl, HJ.out⟩, HM.out⟩
                case measure => simp [intOf]; omega
          · have HE : Hid (¬ G0.E k = G0.D k) := hE
            have tE := str_ne hE
            clear hE
            go_upto_region 22 with fail
            have hng : ¬ G0.Good k := fun h => HE.out h.2.1
            have HNG : Hid (¬ G0.Good k) := hng
            clear hng
            rcases HFB.out with ⟨rfl, hgo⟩ | ⟨j, hj1, rfl, hj2, hj3⟩
            · have HGO : Hid (∀ i, i < k → G0.Good i) := hgo
              clear hgo HFB
              go_wp2_with fail
              go_roundw
              case rel => exact ⟨k + 1, k, _, by omega, by go_num, rfl, HB3.out, Or.inr ⟨k, by omega, rfl, HGO.out, HNG.out⟩, HM.out⟩
              case measure => simp [intOf]; omega
            · have t1 : ¬ (j : Int) < 0 := by omega
              have HJ : Hid ((∀ i, i < j → G0.Good i) ∧ ¬ G0.Good j) := ⟨hj2, hj3⟩
              clear hj2 hj3 HFB
              go_wp2_with fail
              go_roundw
              case rel => exact ⟨k + 1, j, _, by omega, by go_num, rfl, HB3.out, Or.inr ⟨j, by omega, rfl, HJ.out⟩, HM.out⟩
              case measure => simp [intOf]; omega
        case false =>
          rw [hs] at c2 hEk
          rw [if_neg (by simp)] at hEk
          have HE : Hid (G0.E k = G0.D k) := hEk
          clear hEk hs
          go_upto_region 18 with fail
          refine wp_gen (fun W1 => Box w W1 tB m n k W.heap.size (W.heap.size + 1) ⟨G0.D, G0.E, G0.Z, p⟩) (by have h := Box.make HB.out hmW (.string (X k)) (.bool false) (.bool false); simp only [HE.out] at h; exact h) ?_
          obtain ⟨aB, haB⟩ : ∃ aB, aB = W.heap.size := ⟨_, rfl⟩
          obtain ⟨q, hq⟩ : ∃ q, q = W.heap.size + 1 := ⟨_, rfl⟩
          rw [← hq, ← haB]
          clear hq haB c0 c1 c2 c3 HB hmW
          clear W
          rintro W1 hX
          have HX : Hid (Box w W1 tB m n k aB q ⟨G0.D, G0.E, G0.Z, p⟩) := hX
          have y0 := hX.bld.ptrs.cell k hlt
          have y1 := hX.bld.ptrs.free k
          have y2 := hX.bld.tls.cell k hlt
          have y3 := hX.bld.tls.free k
          have y4 : tB ≠ w.heap.size := Nat.ne_of_gt hX.bld.lo
          have y5 : w.heap.size ≠ tB := Nat.ne_of_lt hX.bld.lo
          clear hX
          go_upto_region 20 with fail
          refine wp_gen (fun W3 => Bld w W3 tB m n (k + 1) ((⟨G0.D, G0.E, G0.Z, p⟩ : Given).put k q) ∧ W3.cell? ⟨aB, 0, .none⟩ = some (.string (G0.D k)) ∧ m ≤ W3.heap.size) (HX.out.next hlt HZ.out) ?_
          clear y0 y1 y2 y3 y4 y5 HX
          clear W1
          rintro W3 ⟨hB3, d0, hM3⟩
          have HB3 : Hid (Bld w W3 tB m n (k + 1) ((⟨G0.D, G0.E, G0.Z, p⟩ : Given).put k q)) := hB3
          have HM : Hid (m ≤ W3.heap.size) := hM3
          clear hB3 hM3
          by_cases hV : Valid (G0.D k)
          · have HV : Hid (Valid (G0.D k)) := hV
            clear hV
            go_upto_region 22 with (go_at_call 8; refine (valid_yes _ HV.out _).mono ?_; rintro e w' ⟨rfl, rfl⟩)
            have hgd : G0.Good k := ⟨HZ.out, HE.out, HV.out⟩
            have HGD : Hid (G0.Good k) := hgd
            clear hgd
            go_wp2_with fail
            go_roundw
            case rel => exact ⟨k + 1, f, _, by omega, by go_num, rfl, HB3.out, HFB.out.good HGD.out, HM.out⟩
            case measure => simp [intOf]; omega
          · have HV : Hid (¬ Valid (G0.D k)) := hV
            clear hV
            go_upto_region 22 with (go_at_call 8; refine (valid_no _ HV.out _).mono ?_; rintro e w' ⟨rfl, rfl⟩)
            have hng : ¬ G0.Good k := fun h => HV.out h.2.2
            have HNG : Hid (¬ G0.Good k) := hng
            clear hng
            rcases HFB.out with ⟨rfl, hgo⟩ | ⟨j, hj1, rfl, hj2, hj3⟩
            · have HGO : Hid (∀ i, i < k → G0.Good i) := hgo
              clear hgo HFB
              go_wp2_with fail
              go_roundw
              case rel => exact ⟨k + 1, k, _, by omega, by go_num, rfl, HB3.out, Or.inr ⟨k, by omega, rfl, HGO.out, HNG.out⟩, HM.out⟩
              case measure => simp [intOf]; omega
            · have t1 : ¬ (j : Int) < 0 := by omega
              have HJ : Hid ((∀ i, i < j → G0.Good i) ∧ ¬ G0.Good j) := ⟨hj2, hj3⟩
              clear hj2 hj3 HFB
              go_wp2_with fail
              go_roundw
              case rel => exact ⟨k + 1, j, _, by omega, by go_num, rfl, HB3.out, Or.inr ⟨j, by omega, rfl, HJ.out⟩, HM.out⟩
              case measure => simp [intOf]; omega
    · have hlt' : ¬ (k : Int) < (n : Int) := by omega
      obtain rfl : k = n := by omega
      have hcon := (reg_any F ⟨G0.D, G0.E, G0.Z, p⟩ tB k (by omega) HA0.out.sz W (by rw [hB.bel.tape]; exact HF.out) hB.tools).mono fun e w' h => h.ans
      have HC : Hid (Calls Ybaf.prog 5 #[.slice (some ⟨tB, 0, .none⟩) k k] W fun e w' => ∃ v1 v2, e = .returned (.tuple #[v1, v2]) ∧ Ans ⟨G0.D, G0.E, G0.Z, p⟩ k W w' v1 v2) := hcon
      clear hcon hB
      go_upto_region 25 with (go_at_call 5; refine HC.out.mono ?_; rintro e W2 ⟨v1, v2, rfl, hAns⟩)
      clear HC hk hlt hlt' hi8 hp0 hp1 hp2 hi hq0 hq1 hq2 t0
      rcases HFB.out with ⟨rfl, hgo⟩ | ⟨j, hj1, rfl, hj2, hj3⟩
      · rcases hAns with ⟨j, h1, h2, h3, h4⟩ | ⟨h1, hS, hres⟩
        · exact absurd (hgo j h1) h3
        · have HS : Hid (St W W2 ⟨G0.D, G0.E, G0.Z, p⟩ k) := hS
          have HGO : Hid (∀ i, i < k → G0.Good i) := hgo
          have HR : Hid ((¬ (namesOf ⟨G0.D, G0.E, G0.Z, p⟩ k).Nodup ∧ v1 = .pointer none ∧ ∃ t q, v2 = .iface t q) ∨ ((namesOf ⟨G0.D, G0.E, G0.Z, p⟩ k).Nodup ∧ v2 = .nilIface ∧ ∃ rB d, v1 = .pointer (some ⟨rB, 0, .none⟩) ∧ Held ⟨G0.D, G0.E, G0.Z, p⟩ k W.heap.size rB d W2)) := hres
          clear hS hgo h1 hres HFB
          go_wp2_with fail
          go_loopw [17, 16] (fun x dv Wd => ∃ (r : Nat) (t : Bool), r ≤ k ∧ x = .int .i64 r ∧ dv = .bool t ∧ Same W2 Wd ∧ Dup ⟨G0.D, G0.E, G0.Z, p⟩ k r 0 t) (fun x _ _ => k - (intOf x).toNat)
          case atStart => exact ⟨0, false, Nat.zero_le _, rfl, rfl, ⟨rfl, rfl, rfl, rfl⟩, Dup.start _ _⟩
          case round =>
            rename World => Wd
            obtain ⟨r, t, hr, rfl, rfl, hsm, hdp⟩ := hrel
            have HSM : Hid (Same W2 Wd) := hsm
            have HDP : Hid (Dup ⟨G0.D, G0.E, G0.Z, p⟩ k r 0 t) := hdp
            have hSd := HS.out.same hsm
            clear hdp hsm
            by_cases hlt : r < k
            · have hlt' : (r : Int) < (k : Int) := by omega
              obtain rfl := Ha.out (by omega)
              have hz : G0.Z r = false := (HGO.out r hlt).1
              have y0 : Wd.cell? ⟨w.heap.size, r, .none⟩ = some (.pointer (some ⟨p r, 0, .none⟩)) := by rw [hSd.ptr HB.out (by omega) r hlt]; simp [pv, hz, hlt]
              have hh := hSd.asked r (by omega) hz
              have y6 : Wd.cell? ⟨p r, 6, .none⟩ = some (.int .i64 1) := (cell_of hh 6).trans rfl
              have y7 : Wd.cell? ⟨p r, 7, .none⟩ = some (.int .i64 1) := (cell_of hh 7).trans rfl
              clear hh hz hSd
              go_wp2_with fail
              clear y0 y6 y7
              go_loopw [18, 16] (fun x dv We => ∃ (s : Nat) (t : Bool), r < s ∧ s ≤ k ∧ x = .int .i64 s ∧ dv = .bool t ∧ Same W2 We ∧ Dup ⟨G0.D, G0.E, G0.Z, p⟩ k r s t) (fun x _ _ => k - (intOf x).toNat)
              case atStart => exact ⟨r + 1, t, by omega, by omega, by go_num, rfl, HSM.out, HDP.out.inner⟩
              case round =>
                rename World => We
                clear HSM HDP
                obtain ⟨s, t, hrs, hs, rfl, rfl, hsm, hdp⟩ := hrel
                have HSM : Hid (Same W2 We) := hsm
                have HDP : Hid (Dup ⟨G0.D, G0.E, G0.Z, p⟩ k r s t) := hdp
                have hbl := (HS.out.same hsm).bel HB.out (Nat.le_refl _)
                clear hdp hsm
                by_cases hlt2 : s < k
                · have hlt2' : (s : Int) < (k : Int) := by omega
                  have c0 := (hbl.cell (p := ⟨b, off + r * 4, .none⟩) (HA0.out.lt (by omega))).trans (HA0.out.c0 r hlt)
                  have c1 := (hbl.cell (p := ⟨b, off + s * 4, .none⟩) (HA0.out.lt (by omega))).trans (HA0.out.c0 s hlt2)
                  obtain ⟨x, hx⟩ : ∃ x, x = G0.D r := ⟨_, rfl⟩
                  obtain ⟨y, hy⟩ : ∃ y, y = G0.D s := ⟨_, rfl⟩
                  rw [← hx] at c0
                  rw [← hy] at c1
                  have HX : Hid (x = G0.D r) := hx
                  have HY : Hid (y = G0.D s) := hy
                  clear hx hy hbl
                  by_cases hxy : x = y
                  · subst hxy
                    go_upto_region 48 with fail
                    go_quiet (fail)
                    go_wp2_with fail
                    go_roundw
                    case rel => exact ⟨s + 1, true, by omega, by omega, by go_num, rfl, HSM.out.drew _, Dup.eq hrs hlt2 (HX.out.symm.trans HY.out)⟩
                    case measure => simp [intOf]; omega
                  · have tE := str_ne hxy
                    have HXY : Hid (¬ x = y) := hxy
                    clear hxy
                    go_upto_region 48 with fail
                    go_quiet (fail)
                    go_wp2_with fail
                    go_roundw
                    case rel => exact ⟨s + 1, t, by omega, by omega, by go_num, rfl, HSM.out.drew _, HDP.out.ne fun e => HXY.out (HX.out.trans (e.trans HY.out.symm))⟩
                    case measure => simp [intOf]; omega
                · have hlt2' : ¬ (s : Int) < (k : Int) := by omega
                  clear hbl
                  go_wp2_with fail
                  go_roundw
                  case rel => exact ⟨r + 1, t, by omega, by go_num, rfl, HSM.out, HDP.out.outer (by omega)⟩
                  case measure => simp [intOf]; omega
            · have hlt' : ¬ (r : Int) < (k : Int) := by omega
              have hbl := hSd.bel HB.out (Nat.le_refl _)
              have HBL : Hid (Below w.heap.size w Wd) := hbl
              clear hSd hbl
              rcases HR.out with ⟨hN, rfl, ty, q, rfl⟩ | ⟨hN, rfl, rB, d, rfl, hH⟩
              · have ht : t = true := by
                  cases t
                  · exact absurd (HDP.out.done (by omega) rfl) hN
                  · rfl
                subst ht
                clear hN HR HDP
                go_wp2_with fail
                go_ret
                exact ⟨rfl, HBL.out⟩
              · have ht : t = false := by
                  cases t
                  · rfl
                  · exact absurd hN (HDP.out.1 rfl)
                subst ht
                have c0 : Wd.cell? ⟨rB, 0, .none⟩ = some (.slice (some ⟨W.heap.size, 0, .none⟩) k k) := (HSM.out.cell _).trans hH.1
                clear hN HR HDP hH
                go_wp2_with fail
                go_ret
                exact ⟨rfl, HBL.out⟩
      · rcases hAns with ⟨i, h1, h2, h3, rfl, ⟨t, q, rfl⟩, hS⟩ | ⟨h1, hS, hres⟩
        · have hij : i = j := by
            rcases Nat.lt_trichotomy i j with h | h | h
            · exact absurd (hj2 i h) h3
            · exact h
            · exact absurd (h2 j h) hj3
          subst hij
          have HS : Hid (St W W2 ⟨G0.D, G0.E, G0.Z, p⟩ (i + 1)) := hS
          have t1 : (0 : Int) ≤ (i : Int) := by omega
          clear hS h2 h3 hj2 hj3 h1 HFB
          go_wp2_with fail
          go_loop [14] (fun x => ∃ r : Nat, r ≤ k ∧ x = .int .i64 r) (fun x => k - (intOf x).toNat)
          case atStart => exact ⟨0, Nat.zero_le _, rfl⟩
          case round =>
            obtain ⟨r, hr, rfl⟩ := hrel
            by_cases hlt : r < k
            · have hlt' : (r : Int) < (k : Int) := by omega
              have hy := HS.out.ptr HB.out (by omega) r hlt
              cases hz : G0.Z r
              case true =>
                have y0 : W2.cell? ⟨w.heap.size, r, .none⟩ = some (.pointer none) := by rw [hy]; simp [pv, hz]
                clear hy hz
                go_wp2_with fail
                go_round
                case rel => exact ⟨r + 1, by omega, by go_num⟩
                case measure => simp [intOf]; omega
              case false =>
                have y0 : W2.cell? ⟨w.heap.size, r, .none⟩ = some (.pointer (some ⟨p r, 0, .none⟩)) := by rw [hy]; simp [pv, hz, hlt]
                by_cases hri : r ≤ i
                · have hri' : (r : Int) ≤ (i : Int) := by omega
                  have hh := HS.out.asked r (by omega) hz
                  have y6 : W2.cell? ⟨p r, 6, .none⟩ = some (.int .i64 1) := (cell_of hh 6).trans rfl
                  have y7 : W2.cell? ⟨p r, 7, .none⟩ = some (.int .i64 1) := (cell_of hh 7).trans rfl
                  clear hy hz hh
                  go_wp2_with fail
                  go_round
                  case rel => exact ⟨r + 1, by omega, by go_num⟩
                  case measure => simp [intOf]; omega
                · have hri' : ¬ (r : Int) ≤ (i : Int) := by omega
                  have hh := HS.out.fresh HB.out.tools r (by omega) hlt hz
                  have y6 : W2.cell? ⟨p r, 6, .none⟩ = some (.int .i64 0) := (cell_of hh 6).trans rfl
                  have y7 : W2.cell? ⟨p r, 7, .none⟩ = some (.int .i64 0) := (cell_of hh 7).trans rfl
                  clear hy hz hh
                  go_wp2_with fail
                  go_round
                  case rel => exact ⟨r + 1, by omega, by go_num⟩
                  case measure => simp [intOf]; omega
            · have hlt' : ¬ (r : Int) < (k : Int) := by omega
              go_wp2_with fail
              go_ret
              exact ⟨rfl, HS.out.bel HB.out (by omega)⟩
        · exact absurd (h1 j hj1) hj3
end Go.Proofs.YbulkatbqFmt
