import Derived.Test.YbulkatbqFmtSrtDef
namespace Go.Proofs.YbulkatbqFmt
open Go.RowKit Go.Extern.Stop Go.Stop Go.Extern Go.Sort

theorem assert28 (v : Value) (w : World) : (Instr.typeAssert (.iface 28 v) 38 28 true).run Ybaf.prog w = .ok (.tuple #[v, .bool true]) w := by kernel_rfl
theorem below_drewN (W : World) (c : Nat) : Below W.heap.size W (W.drewN c) := ⟨rfl, rfl, rfl, Nat.le_refl _, fun _ _ => rfl⟩

set_option maxRecDepth 100000 in
set_option maxHeartbeats 8000000 in
theorem srt_any (F : Interp) (a : Option Addr) (b off n cap : Nat) (K : Nat → Nat) (hn : n ≤ 1024) (ha : 0 < n → a = some ⟨b, off, .none⟩) (w : World) (hF : F.answers w.tape)
    (hK : ∀ i, i < n → K i < 65536) (hb : 0 < n → b < w.heap.size) (hC : ∀ i, i < n → w.cell? ⟨b, off + i, .none⟩ = some (.int .u16 (K i : Nat))) :
    Calls Ybaf.prog 3 #[.slice a n cap] w fun e w' => e = .returned (.bool true) ∧ Below w.heap.size w w' := by
  obtain ⟨i8, hi8, hp0, hp1, hp2⟩ := info28
  obtain ⟨i0, hi, hq0, hq1, hq2⟩ := info38
  obtain ⟨i9, hi9, hs0, hs1, hs2⟩ := info9
  have HK : Hid (∀ i, i < n → K i < 65536) := hK
  have HF : Hid (F.answers w.tape) := hF
  have Ha : Hid (0 < n → a = some ⟨b, off, .none⟩) := ha
  have HBW : Hid (0 < n → b < w.heap.size) := hb
  have HC : Hid (∀ i, i < n → w.cell? ⟨b, off + i, .none⟩ = some (.int .u16 (K i : Nat))) := hC
  have t0 : ¬ (1024 : Int) < (n : Int) := by omega
  clear hK hF ha hb hC
  go_enter Ybaf.func3, Ybaf.ntmps3
  go_upto_region 5 with (at_make; refine wpList_make_full _ rfl _ _ 23 rfl w.heap.size 28 i8 _ 1 Ybaf.underlying23 hi8 hp0 hp1 .i64 .i64 _ _ n rfl rfl rfl rfl (by rw [hp2]; omega) (by unfold maxLen; omega) (Nat.le_refl _) ?_; intro w1 hown1 hg1)
  have hr1 := RowOf.made hown1
  have hb1 : Below w.heap.size w w1 := (Below.refl _ _).grown hg1 (Nat.le_refl _) (by intro k hk; cases hk)
  clear hown1 hg1
  go_upto_region 6 with (at_make; refine wpList_make_full _ rfl _ _ 24 rfl w1.heap.size 38 i0 _ 1 Ybaf.underlying24 hi hq0 hq1 .i64 .i64 _ _ n rfl rfl rfl rfl (by rw [hq2]; omega) (by unfold maxLen; omega) (Nat.le_refl _) ?_; intro w2 hown2 hg2)
  have hr2 := RowOf.made hown2
  have hb2 : Below w1.heap.size w1 w2 := (Below.refl _ _).grown hg2 (Nat.le_refl _) (by intro k hk; cases hk)
  clear hown2 hg2
  go_upto_region 7 with (at_make; refine wpList_make_full _ rfl _ _ 25 rfl w2.heap.size 9 i9 _ 1 Ybaf.underlying25 hi9 hs0 hs1 .i64 .i64 _ _ n rfl rfl rfl rfl (by rw [hs2]; omega) (by unfold maxLen; omega) (Nat.le_refl _) ?_; intro w3 hown3 hg3)
  have hr3 := RowOf.made hown3
  have hb3 : Below w2.heap.size w2 w3 := (Below.refl _ _).grown hg3 (Nat.le_refl _) (by intro k hk; cases hk)
  have hst0 : Bld w w2 w1.heap.size w2.heap.size n 0 (GK K fun _ => 0) := Bld.start hb1 hr1 hb2 hr2
  have hst : B3 w w3 w1.heap.size w2.heap.size w3.heap.size n 0 K (fun _ => 0) :=
    ⟨(hst0.later hb3).zero_m (Nat.lt_of_lt_of_le hst0.hi hb3.size), hr3.congr fun i _ => by simp [nv], hst0.hi, hr3.lt, Nat.le_refl _⟩
  obtain ⟨tB, htB⟩ : ∃ tB, tB = w1.heap.size := ⟨_, rfl⟩
  obtain ⟨nB, hnB⟩ : ∃ nB, nB = w2.heap.size := ⟨_, rfl⟩
  obtain ⟨m, hm⟩ : ∃ m, m = w3.heap.size := ⟨_, rfl⟩
  rw [← htB, ← hnB, ← hm] at hst
  rw [← htB, ← hnB]
  clear hown3 hg3 hr1 hr2 hr3 hb1 hb2 hb3 htB hnB hm hst0
  clear w1 w2
  go_wp2_with fail
  go_loopw [37] (fun i W => ∃ (k : Nat) (p : Nat → Nat), k ≤ n ∧ i = .int .i64 k ∧ B3 w W tB nB m n k K p) (fun i _ => n - (intOf i).toNat)
  case atStart => exact ⟨0, _, Nat.zero_le _, rfl, hst⟩
  case round =>
    clear hst
    clear w3
    rename World => W
    obtain ⟨k, p, hk, rfl, hB⟩ := hrel
    have HB : Hid (B3 w W tB nB m n k K p) := hB
    by_cases hlt : k < n
    · have hlt' : (k : Int) < (n : Int) := by omega
      obtain rfl := Ha.out (by omega)
      have c0 := (hB.bld.bel.cell (p := ⟨b, off + k, .none⟩) (HBW.out (by omega))).trans (HC.out k hlt)
      have hKk := HK.out k hlt
      obtain ⟨x, hx⟩ : ∃ x, x = K k := ⟨_, rfl⟩
      rw [← hx] at c0 hKk
      have HX : Hid (x = K k) := hx
      clear hx hB
      have hconv := name_conv W x
      go_upto_region 12 with fail
      refine wp_gen (fun W1 => B3 w W1 tB nB m n k K p) (HB.out.later ((Below.refl _ W).alloc (Nat.le_refl _) _)) ?_
      obtain ⟨aB, haB⟩ : ∃ aB, aB = W.heap.size := ⟨_, rfl⟩
      rw [← haB]
      clear haB HB c0 hconv hKk
      clear W
      rintro W1 h1
      have H1 : Hid (B3 w W1 tB nB m n k K p) := h1
      have y0 := h1.nms.cell k hlt
      have y1 := h1.nms.free k
      have hlo := h1.lo
      have hhi := h1.hi
      clear h1
      go_upto_region 13 with fail
      refine wp_gen (fun W2 => RowOf W2 nB 9 n (nv K (k + 1)) ∧ Bld w W2 tB m n k (GK K p) ∧ m ≤ W2.heap.size) (by rw [HX.out]; exact H1.out.name) ?_
      clear y0 y1 H1
      clear W1
      rintro W2 ⟨hn2, hb2, hm2⟩
      have HN2 : Hid (RowOf W2 nB 9 n (nv K (k + 1))) := hn2
      have HB2 : Hid (Bld w W2 tB m n k (GK K p)) := hb2
      have HM2 : Hid (m ≤ W2.heap.size) := hm2
      clear hn2 hb2 hm2
      go_upto_region 14 with fail
      refine wp_gen (fun W3 => Bx w W3 tB nB m n k W2.heap.size K p) (by rw [HX.out]; exact Bx.make HN2.out HB2.out HM2.out) ?_
      obtain ⟨q, hq⟩ : ∃ q, q = W2.heap.size := ⟨_, rfl⟩
      rw [← hq]
      clear hq HN2 HB2 HM2
      clear W2
      rintro W3 h3
      have H3 : Hid (Bx w W3 tB nB m n k q K p) := h3
      have y0 := h3.bld.ptrs.cell k hlt
      have y1 := h3.bld.ptrs.free k
      have y2 := h3.bld.tls.cell k hlt
      have y3 := h3.bld.tls.free k
      have y4 : tB ≠ w.heap.size := Nat.ne_of_gt h3.bld.lo
      have y5 : w.heap.size ≠ tB := Nat.ne_of_lt h3.bld.lo
      clear h3
      go_wp2_with fail
      go_roundw
      case rel => exact ⟨k + 1, _, by omega, by go_num, B3.next H3.out.nms H3.out.bld hlo hhi hlt H3.out.sz H3.out.qm H3.out.qn H3.out.tool⟩
      case measure => simp [intOf]; omega
    · have hlt' : ¬ (k : Int) < (n : Int) := by omega
      obtain rfl : k = n := by omega
      clear hB hi8 hp0 hp1 hp2 hi hq0 hq1 hq2 hi9 hs0 hs1 hs2 t0 HBW HC HK hlt hk
      go_wp2_with fail
      clear hlt'
      go_loopw [13, 12] (fun x dv Wd => ∃ (r : Nat) (t : Bool), r ≤ k ∧ x = .int .i64 r ∧ dv = .bool t ∧ Same W Wd ∧ Dup (GK K p) k r 0 t) (fun x _ _ => k - (intOf x).toNat)
      case atStart => exact ⟨0, false, Nat.zero_le _, rfl, rfl, ⟨rfl, rfl, rfl, rfl⟩, Dup.start _ _⟩
      case round =>
        rename World => Wd
        obtain ⟨r, t, hr, rfl, rfl, hsm, hdp⟩ := hrel
        have HSM : Hid (Same W Wd) := hsm
        have HDP : Hid (Dup (GK K p) k r 0 t) := hdp
        clear hdp hsm
        by_cases hlt : r < k
        · have hlt' : (r : Int) < (k : Int) := by omega
          go_wp2_with fail
          go_loopw [14, 12] (fun x dv We => ∃ (s : Nat) (t : Bool), r < s ∧ s ≤ k ∧ x = .int .i64 s ∧ dv = .bool t ∧ Same W We ∧ Dup (GK K p) k r s t) (fun x _ _ => k - (intOf x).toNat)
          case atStart => exact ⟨r + 1, t, by omega, by omega, by go_num, rfl, HSM.out, HDP.out.inner⟩
          case round =>
            rename World => We
            clear HSM HDP
            obtain ⟨s, t, hrs, hs, rfl, rfl, hsm, hdp⟩ := hrel
            have HSM : Hid (Same W We) := hsm
            have HDP : Hid (Dup (GK K p) k r s t) := hdp
            have hnm := (HB.out.same hsm).nms
            clear hdp hsm
            by_cases hlt2 : s < k
            · have hlt2' : (s : Int) < (k : Int) := by omega
              obtain ⟨x, hx⟩ : ∃ x, x = nm (K r) := ⟨_, rfl⟩
              obtain ⟨y, hy⟩ : ∃ y, y = nm (K s) := ⟨_, rfl⟩
              have c0 : We.cell? ⟨nB, r, .none⟩ = some (.string x) := by rw [hnm.cell r hlt, hx]; simp [nv, hlt]
              have c1 : We.cell? ⟨nB, s, .none⟩ = some (.string y) := by rw [hnm.cell s hlt2, hy]; simp [nv, hlt2]
              have HX : Hid (x = nm (K r)) := hx
              have HY : Hid (y = nm (K s)) := hy
              clear hx hy hnm
              by_cases hxy : x = y
              · subst hxy
                go_upto_region 24 with fail
                go_quiet (fail)
                go_wp2_with fail
                go_roundw
                case rel => exact ⟨s + 1, true, by omega, by omega, by go_num, rfl, HSM.out.drew _, Dup.eq hrs hlt2 (HX.out.symm.trans HY.out)⟩
                case measure => simp [intOf]; omega
              · have tE := str_ne hxy
                have HXY : Hid (¬ x = y) := hxy
                clear hxy
                go_upto_region 24 with fail
                go_quiet (fail)
                go_wp2_with fail
                go_roundw
                case rel => exact ⟨s + 1, t, by omega, by omega, by go_num, rfl, HSM.out.drew _, HDP.out.ne fun e => HXY.out (HX.out.trans (e.trans HY.out.symm))⟩
                case measure => simp [intOf]; omega
            · have hlt2' : ¬ (s : Int) < (k : Int) := by omega
              clear hnm
              go_wp2_with fail
              go_roundw
              case rel => exact ⟨r + 1, t, by omega, by go_num, rfl, HSM.out, HDP.out.outer (by omega)⟩
              case measure => simp [intOf]; omega
        · have hlt' : ¬ (r : Int) < (k : Int) := by omega
          have hBd := HB.out.same HSM.out
          have HBd : Hid (B3 w Wd tB nB m k k K p) := hBd
          have hcon := (reg_any F (GK K p) tB k hn (fun i _ => (by show 2 < _; omega)) Wd (by rw [hBd.bld.bel.tape]; exact HF.out) hBd.bld.tools).mono fun e w' h => h.ans
          have HCo : Hid (Calls Ybaf.prog 5 #[.slice (some ⟨tB, 0, .none⟩) k k] Wd fun e w' => ∃ v1 v2, e = .returned (.tuple #[v1, v2]) ∧ Ans (GK K p) k Wd w' v1 v2) := hcon
          have ht1 : t = false → (namesOf (GK K p) k).Nodup := fun h => HDP.out.done (by omega) h
          have HT1 : Hid (t = false → (namesOf (GK K p) k).Nodup) := ht1
          have HT2 : Hid (t = true → ¬ (namesOf (GK K p) k).Nodup) := HDP.out.1
          clear hcon hBd ht1 HDP HSM HB
          go_upto_region 27 with (go_at_call 5; refine HCo.out.mono ?_; rintro e W2 ⟨v1, v2, rfl, hAns⟩)
          clear HCo
          rcases hAns with ⟨j, h1, h2, h3, h4⟩ | ⟨h1, hS, hres⟩
          · exact absurd (GK_good K p j) h3
          · have HS : Hid (St Wd W2 (GK K p) k) := hS
            have HR : Hid ((¬ (namesOf (GK K p) k).Nodup ∧ v1 = .pointer none ∧ ∃ t q, v2 = .iface t q) ∨ ((namesOf (GK K p) k).Nodup ∧ v2 = .nilIface ∧ ∃ rB d, v1 = .pointer (some ⟨rB, 0, .none⟩) ∧ Held (GK K p) k Wd.heap.size rB d W2)) := hres
            clear hS h1 hres
            go_wp2_with fail
            go_loop [103] (fun x => ∃ r : Nat, r ≤ k ∧ x = .int .i64 r) (fun x => k - (intOf x).toNat)
            case atStart => exact ⟨0, Nat.zero_le _, rfl⟩
            case round =>
              obtain ⟨i, hi, rfl⟩ := hrel
              by_cases hik : i < k
              · have hik' : (i : Int) < (k : Int) := by omega
                have y0 : W2.cell? ⟨w.heap.size, i, .none⟩ = some (.pointer (some ⟨p i, 0, .none⟩)) := by rw [HS.out.ptr HBd.out.bld (Nat.le_refl _) i hik]; simp [pv, hik, GK]
                have hh := HS.out.asked i hik rfl
                have y6 : W2.cell? ⟨p i, 6, .none⟩ = some (.int .i64 1) := (cell_of hh 6).trans rfl
                have y7 : W2.cell? ⟨p i, 7, .none⟩ = some (.int .i64 1) := (cell_of hh 7).trans rfl
                clear hh
                go_wp2_with fail
                go_round
                case rel => exact ⟨i + 1, by omega, by go_num⟩
                case measure => simp [intOf]; omega
              · have hik' : ¬ (i : Int) < (k : Int) := by omega
                cases t
                case true =>
                  rcases HR.out with ⟨hN, rfl, ty, q, rfl⟩ | ⟨hN, rfl, rB, d, rfl, hH⟩
                  · clear hN HR
                    go_wp2_with fail
                    go_ret
                    exact ⟨rfl, HS.out.bel HBd.out.bld (Nat.le_refl _)⟩
                  · exact absurd hN (HT2.out rfl)
                case false =>
                  rcases HR.out with ⟨hN, rfl, ty, q, rfl⟩ | ⟨hN, rfl, rB, d, rfl, hH⟩
                  · exact absurd (HT1.out rfl) hN
                  · have HH : Hid (Held (GK K p) k Wd.heap.size rB d W2) := hH
                    have c0 := hH.1
                    clear hN HR hH
                    have hcl := Ybaf.slices_Clone_string nB 0 k k (namesOf (GK K p) k) W2 (by rw [names_len]; exact Nat.le_refl _) (by omega) (names_cells HBd.out HS.out)
                    have HCL : Hid (Calls Ybaf.prog 6 #[.slice (some ⟨nB, 0, .none⟩) k k] W2 fun e w' => ∃ v', e = .returned v' ∧ w'.ownsRow W2.heap.size 9 1 v' k (((namesOf (GK K p) k).take k).map (Value.string)) ∧ v' ≠ .slice none 0 0 ∧ Below W2.heap.size W2 w') := hcl
                    clear hcl
                    go_upto_region 40 with (go_at_call 6; refine HCL.out.mono ?_; rintro e W3 ⟨v, rfl, hv1, hv2, hb3⟩)
                    obtain ⟨g, cp, rfl, hg1, hg2, hg3⟩ := clone_row (names_len K p k) hv1 hv2
                    have hso := Ybaf.slices_Sort_string g 0 cp ((namesOf (GK K p) k).map (·.data.toList)) W3 hg3 hg2 (by simp [names_len]; omega)
                    rw [List.length_map, names_len] at hso
                    have hso2 : Calls Ybaf.prog 7 #[.slice (some ⟨g, 0, .none⟩) k cp] W3 fun e w' => e = .returned (.tuple #[]) ∧ Fin w w' k Wd.heap.size rB g K p d := hso.mono fun e w' h => by
                      obtain ⟨he, m4, os4, rfl⟩ := h
                      have hw := sort_world (m := m4) (os := os4) hb3 hg1 hg2 hg3 (B := (((namesOf (GK K p) k).map (·.data.toList)).mergeSort fun x y => decide (x ≤ y)).toArray) (by simp)
                      exact ⟨he, Fin.make HBd.out HS.out HH.out hw.1 hw.2⟩
                    have HSO : Hid (Calls Ybaf.prog 7 #[.slice (some ⟨g, 0, .none⟩) k cp] W3 fun e w' => e = .returned (.tuple #[]) ∧ Fin w w' k Wd.heap.size rB g K p d) := hso2
                    clear hso hso2 hg3 hg2 hg1 hv1 hv2 hb3 HCL
                    go_upto_region 41 with (go_at_call 7; refine HSO.out.mono ?_; rintro e W4 ⟨rfl, hfn⟩)
                    clear HSO
                    have c4 := hfn.reg
                    clear c0
                    go_wp2_with fail
                    clear c4
                    obtain ⟨eB, heB⟩ : ∃ eB, eB = Wd.heap.size := ⟨_, rfl⟩
                    rw [← heB] at hfn ⊢
                    clear heB
                    go_loopw [149] (fun x We => ∃ r : Nat, r ≤ k ∧ x = .int .i64 r ∧ Fin w We k eB rB g K p d) (fun x _ => k - (intOf x).toNat)
                    case atStart => exact ⟨0, Nat.zero_le _, rfl, hfn⟩
                    case round =>
                      clear hfn
                      rename World => We
                      obtain ⟨r, hr, rfl, hf⟩ := hrel
                      by_cases hrk : r < k
                      · have hrk' : (r : Int) < (k : Int) := by omega
                        obtain ⟨j, hj, hd⟩ := ent_tool HH.out.2.1 HH.out.2.2.1 r hrk
                        have hrd : r < d.size := by rw [HH.out.2.1]; exact hrk
                        obtain ⟨q, hq⟩ : ∃ q, q = p j := ⟨_, rfl⟩
                        obtain ⟨y, hy⟩ : ∃ y, y = nm (K j) := ⟨_, rfl⟩
                        rw [← hq, ← hy] at hd
                        have e0 : We.cell? ⟨eB, r * 7, .none⟩ = some (.iface 28 (.pointer (some ⟨q, 0, .none⟩))) := by have := hf.ent r 0 hrd (by omega); rw [hd] at this; exact this
                        have e1 : We.cell? ⟨eB, r * 7 + 1, .none⟩ = some (.string y) := by have := hf.ent r 1 hrd (by omega); rw [hd] at this; exact this
                        have e2 : We.cell? ⟨eB, r * 7 + 2, .none⟩ = some (.int .i64 0) := by have := hf.ent r 2 hrd (by omega); rw [hd] at this; exact this
                        have e3 : We.cell? ⟨eB, r * 7 + 3, .none⟩ = some (.string noStr) := by have := hf.ent r 3 hrd (by omega); rw [hd] at this; exact this
                        have e4 : We.cell? ⟨eB, r * 7 + 4, .none⟩ = some (.string y) := by have := hf.ent r 4 hrd (by omega); rw [hd] at this; exact this
                        have e5 : We.cell? ⟨eB, r * 7 + 5, .none⟩ = some (.string noStr) := by have := hf.ent r 5 hrd (by omega); rw [hd] at this; exact this
                        have e6 : We.cell? ⟨eB, r * 7 + 6, .none⟩ = some (.pointer none) := by have := hf.ent r 6 hrd (by omega); rw [hd] at this; exact this
                        have s0 : We.cell? ⟨g, r, .none⟩ = some (.string y) := by have := hf.srt r hrk; rw [hd] at this; exact this
                        have z0 : We.cell? ⟨q, 0, .none⟩ = some (.string y) := by have := hf.tool j hj; rw [← hq, ← hy] at this; exact (cell_of this 0).trans rfl
                        have HFi : Hid (Fin w We k eB rB g K p d) := hf
                        have HS0 : Hid (We.cell? ⟨g, r, .none⟩ = some (.string y)) := s0
                        have HZ0 : Hid (We.cell? ⟨q, 0, .none⟩ = some (.string y)) := z0
                        clear hf s0 z0 hd hq hy
                        go_upto_region 44 with fail
                        refine wp_gen (fun W5 => Fin w W5 k eB rB g K p d ∧ W5.heap[We.heap.size]? = some (.cells (entArr q y y) 50 (0, 0)) ∧ W5.cell? ⟨g, r, .none⟩ = some (.string y) ∧ W5.cell? ⟨q, 0, .none⟩ = some (.string y)) ?_ ?_
                        · have hA := fun o => (Below.refl We.heap.size We).alloc (Nat.le_refl _) o
                          exact ⟨HFi.out.later (hA _), heap_alloc_new rfl _, cell_later (hA _) HS0.out, cell_later (hA _) HZ0.out⟩
                        obtain ⟨xB, hxB⟩ : ∃ xB, xB = We.heap.size := ⟨_, rfl⟩
                        rw [← hxB]
                        clear hxB e0 e1 e2 e3 e4 e5 e6 HFi HS0 HZ0
                        clear We
                        rintro W5 ⟨hf, hx, s0, z0⟩
                        have x0 : W5.cell? ⟨xB, 0, .none⟩ = some (.iface 28 (.pointer (some ⟨q, 0, .none⟩))) := (cell_of hx 0).trans rfl
                        have x1 : W5.cell? ⟨xB, 1, .none⟩ = some (.string y) := (cell_of hx 1).trans rfl
                        have x4 : W5.cell? ⟨xB, 4, .none⟩ = some (.string y) := (cell_of hx 4).trans rfl
                        have HFi : Hid (Fin w W5 k eB rB g K p d) := hf
                        clear hf hx
                        go_quiet (fail)
                        go_upto_region 46 with fail
                        refine wp_gen (fun W6 => Fin w W6 k eB rB g K p d ∧ W6.cell? ⟨xB, 0, .none⟩ = some (.iface 28 (.pointer (some ⟨q, 0, .none⟩))) ∧ W6.cell? ⟨g, r, .none⟩ = some (.string y) ∧ W6.cell? ⟨q, 0, .none⟩ = some (.string y)) ⟨HFi.out.later (below_drewN _ _), x0, s0, z0⟩ ?_
                        clear HFi x0 x1 x4 s0 z0
                        clear W5
                        rintro W6 ⟨hf, x0, s0, z0⟩
                        have HFi : Hid (Fin w W6 k eB rB g K p d) := hf
                        clear hf
                        have m1 := assert28
                        go_upto_region 47 with fail
                        go_quiet (fail)
                        go_wp2_with fail
                        go_roundw
                        case rel => exact ⟨r + 1, by omega, by go_num, HFi.out.later (below_drewN _ _)⟩
                        case measure => simp [intOf]; omega
                      · have hrk' : ¬ (r : Int) < (k : Int) := by omega
                        have HBL : Hid (Below w.heap.size w We) := hf.bel
                        clear hf
                        go_wp2_with fail
                        go_ret
                        exact ⟨rfl, HBL.out⟩
end Go.Proofs.YbulkatbqFmt
