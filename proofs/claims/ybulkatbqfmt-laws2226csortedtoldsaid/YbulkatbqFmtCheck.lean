import Derived.Test.YbulkatbqFmtErrs
import Derived.Laws.IdiomStrings
namespace Go.Proofs.YbulkatbqFmt
open Go.RowKit Go.Extern.Stop Go.Stop Go.Extern

theorem wp_gen {P : Program} {c : Code} {Q : Exit → Act → World → Prop} {a : Act} {X : World} (R : World → Prop) (hX : R X) (h : ∀ W, R W → Code.wp P c Q a W) : Code.wp P c Q a X := h X hX

/-- t tells whether the name is of a fit length and its first k bytes are fit -/
def Pre (s : ByteArray) (k : Nat) (t : Bool) : Prop := t = true ↔ (s.size ≤ 64 ∧ ∀ j (h : j < s.size), j < k → OkB s[j].toNat)
theorem Pre.zero (s : ByteArray) : Pre s 0 (decide ((s.size : Int) ≤ 64)) := by
  unfold Pre
  rw [decide_eq_true_iff]
  exact ⟨fun h => ⟨by omega, fun _ _ h => absurd h (by omega)⟩, fun h => by have := h.1; omega⟩
theorem Pre.ok {s : ByteArray} {k : Nat} {t : Bool} (h : Pre s k t) (hk : k < s.size) (ho : OkB s[k].toNat) : Pre s (k + 1) t := by
  refine h.trans ⟨fun h => ⟨h.1, fun j hj hjk => ?_⟩, fun h => ⟨h.1, fun j hj hjk => h.2 j hj (by omega)⟩⟩
  rcases Nat.lt_or_eq_of_le (Nat.le_of_lt_succ hjk) with h' | rfl
  · exact h.2 j hj h'
  · exact ho
theorem Pre.bad {s : ByteArray} {k : Nat} (hk : k < s.size) (ho : ¬ OkB s[k].toNat) : Pre s (k + 1) false :=
  ⟨fun h => (by cases h), fun h => absurd (h.2 k hk (by omega)) ho⟩
theorem Pre.yes {s : ByteArray} {t : Bool} (h : Pre s s.size t) (hv : Valid s) : t = true := h.2 ⟨hv.2.1, fun j h _ => hv.2.2 j h⟩
theorem Pre.no {s : ByteArray} {t : Bool} (h : Pre s s.size t) (h1 : 1 ≤ s.size) (hv : ¬ Valid s) : t = false := by
  cases t
  · rfl
  · exact absurd ⟨h1, (h.1 rfl).1, fun j hj => (h.1 rfl).2 j hj hj⟩ hv

/-- what CheckToolName answers -/
def Checked (s : ByteArray) (w w' : World) (e : Ending) : Prop :=
  (∃ v, e = .returned v ∧ (Valid s → v = .nilIface) ∧ (¬ Valid s → Err w' v)) ∧ Below w.heap.size w w'

theorem bytesRow_cell (s : ByteArray) (cap : Nat) (w : World) (r : Nat × Nat) (e : TypeId) (j : Nat) (h : j < s.size) :
    (w.drew.alloc (.cells (bytesRow s cap) e r)).cell? ⟨w.heap.size, j, .none⟩ = some (.int .u8 (s[j].toNat : Nat)) := by
  have h1 : (w.drew.alloc (.cells (bytesRow s cap) e r)).heap[w.heap.size]? = some (.cells (bytesRow s cap) e r) := by
    show (w.heap.push _)[w.heap.size]? = _
    simp
  have h2 : (bytesRow s cap)[j]? = some (.int .u8 (s[j].toNat : Nat)) := by
    unfold bytesRow
    rw [Array.getElem?_append_left (by simpa using h)]
    simp
    exact ⟨s[j], by rw [Array.getElem?_eq_getElem (by simpa using h)]; rfl, rfl⟩
  unfold World.cell?
  simp only [h1]
  exact h2


theorem check_fresh (s : ByteArray) (w : World) (cap : Nat) (e : TypeId) (r : Nat × Nat) :
    Below w.heap.size w (w.drew.alloc (.cells (bytesRow s cap) e r)) := ((Below.refl w.heap.size w).drew).alloc (Nat.le_refl _) _

theorem below_errs {W w' : World} {o : Obj} (hb : Below (W.alloc o).heap.size (W.alloc o) w') : Below W.heap.size W w' :=
  have hA := (Below.refl W.heap.size W).alloc (Nat.le_refl _) o
  hA.trans (hb.mono hA.size)

set_option maxHeartbeats 4000000 in
theorem check_any (F : Interp) (s : ByteArray) (hsz : s.size < 9223372036854775808) (w : World) (hF : F.answers w.tape) :
    Calls Ybaf.prog 10 #[.string s] w fun e w' => Checked s w w' e := by
  have hconv := fun w => run_bytes_of_string (P := Ybaf.prog) w 9 27 5 s (by kernel_rfl) (by kernel_rfl) (by kernel_rfl)
  have HF : Hid (F.answers w.tape) := hF
  clear hF
  by_cases h0 : s.size = 0
  · have hnv : ¬ Valid s := fun h => by have := h.1; omega
    have HNV : Hid (¬ Valid s) := hnv
    have t0 : s.toList.isEmpty = true := by
      rw [← decide_eq_emptyBytes]
      refine decide_eq_true ?_
      obtain ⟨d⟩ := s
      have : d.size = 0 := h0
      rw [Array.eq_empty_of_size_eq_zero this]; rfl
    have t1 : ¬ ((0 : Int) < (s.size : Int)) := by omega
    clear hnv
    go_enter Ybaf.func10, Ybaf.ntmps10
    go_wp2_with fail
    clear hconv
    go_loopw [17, 3] (fun i b W => i = .int .i64 0 ∧ b = .bool false ∧ Below w.heap.size w W) (fun _ _ _ => 0)
    case atStart => exact ⟨rfl, rfl, check_fresh _ _ _ _ _⟩
    case round =>
      rename World => W
      obtain ⟨rfl, rfl, hB⟩ := hrel
      have HB : Hid (Below w.heap.size w W) := hB
      clear hB
      go_wp2_with fail
      refine (errorfNm F s 64 W.heap.size _ ?_ ?_ ?_).mono ?_
      · show F.answers W.tape
        rw [HB.out.tape]; exact HF.out
      · simp [go_sem]
      · simp [go_sem]
      rintro e w' ⟨⟨v, rfl, hE⟩, hb⟩
      go_wp2_with fail
      go_ret
      exact ⟨⟨v, rfl, fun h => absurd h HNV.out, fun _ => hE⟩, HB.out.trans (below_errs hb |>.mono HB.out.size)⟩
  · have t0 : s.toList.isEmpty = false := by
      rw [← decide_eq_emptyBytes]
      refine decide_eq_false ?_
      rintro rfl
      exact h0 rfl
    go_enter Ybaf.func10, Ybaf.ntmps10
    go_wp2_with fail
    clear hconv
    go_loopw [17, 3] (fun i b W => ∃ (k : Nat) (t : Bool), k ≤ s.size ∧ i = .int .i64 k ∧ b = .bool t ∧ Pre s k t ∧ Below w.heap.size w W ∧ ∀ j (h : j < s.size), W.cell? ⟨w.heap.size, j, .none⟩ = some (.int .u8 (s[j].toNat : Nat))) (fun i _ _ => s.size - (intOf i).toNat)
    case atStart => exact ⟨0, _, Nat.zero_le _, rfl, rfl, Pre.zero s, check_fresh _ _ _ _ _, fun j h => bytesRow_cell s _ w _ _ j h⟩
    case round =>
      rename World => W
      obtain ⟨k, t, hk, rfl, rfl, hP, hB, hC⟩ := hrel
      have HP : Hid (Pre s k t) := hP
      clear hP
      have HB : Hid (Below w.heap.size w W) := hB
      have HC : Hid (∀ j (h : j < s.size), W.cell? ⟨w.heap.size, j, .none⟩ = some (.int .u8 (s[j].toNat : Nat))) := hC
      clear hB hC
      by_cases hlt : k < s.size
      · have hlt' : (k : Int) < (s.size : Int) := by omega
        have hcell := HC.out k hlt
        go_upto_region 5 with fail
        have hs := fun ho => HP.out.ok hlt ho
        have hb := fun ho => Pre.bad hlt ho
        obtain ⟨c, hcc⟩ : ∃ c : Nat, c = s[k].toNat := ⟨_, rfl⟩
        rw [← hcc] at hs hb ⊢
        have HS : Hid (OkB c → Pre s (k + 1) t) := hs
        have HZ : Hid (¬ OkB c → Pre s (k + 1) false) := hb
        clear hcc hs hb hcell
        rcases byteCases c with ⟨a1, a2⟩ | ⟨a1, a2, a3, a4, a5, a6, a7, a8⟩ | ⟨a1, a2, a3⟩ | ⟨a1, a2, a3, a4, a5, a0⟩ | ⟨a1, a2, a3, a4, a5, a6, a7⟩ | ⟨a1, a2, a3, a4⟩ | ⟨a1, a2, a3, a4, a5, a6⟩ | ⟨a1, a2, a3, a0⟩ | ⟨a1, a2, a3, a4, a5⟩
        · have t0 : (97 : Int) ≤ (c : Int) := by omega
          have t1 : (c : Int) ≤ 122 := by omega
          go_wp2_with fail
          go_roundw
          case rel => exact ⟨k + 1, t, by omega, by go_num, rfl, HS.out (Or.inl ⟨by omega, by omega⟩), HB.out, HC.out⟩
          case measure => simp [intOf]; omega
        · have t0 : (97 : Int) ≤ (c : Int) := by omega
          have t1 : ¬ (c : Int) ≤ 122 := by omega
          have t2 : (65 : Int) ≤ (c : Int) := by omega
          have t3 : ¬ (c : Int) ≤ 90 := by omega
          have t4 : (48 : Int) ≤ (c : Int) := by omega
          have t5 : ¬ (c : Int) ≤ 57 := by omega
          have t6 : ((c : Int) == 95) = false := beq_eq_false_iff_ne.2 (by omega)
          have t7 : ((c : Int) == 45) = false := beq_eq_false_iff_ne.2 (by omega)
          have q95 : ((c : Int) != 95) = true := bne_iff_ne.2 (by omega)
          have q45 : ((c : Int) != 45) = true := bne_iff_ne.2 (by omega)
          go_wp2_with fail
          go_roundw
          case rel => exact ⟨k + 1, false, by omega, by go_num, rfl, HZ.out (by unfold OkB; omega), HB.out, HC.out⟩
          case measure => simp [intOf]; omega
        · have t0 : ¬ (97 : Int) ≤ (c : Int) := by omega
          have t1 : (65 : Int) ≤ (c : Int) := by omega
          have t2 : (c : Int) ≤ 90 := by omega
          go_wp2_with fail
          go_roundw
          case rel => exact ⟨k + 1, t, by omega, by go_num, rfl, HS.out (Or.inr (Or.inl ⟨by omega, by omega⟩)), HB.out, HC.out⟩
          case measure => simp [intOf]; omega
        · subst a0
          go_wp2_with fail
          go_roundw
          case rel => exact ⟨k + 1, t, by omega, by go_num, rfl, HS.out (Or.inr (Or.inr (Or.inr (Or.inl rfl)))), HB.out, HC.out⟩
          case measure => simp [intOf]; omega
        · have t0 : ¬ (97 : Int) ≤ (c : Int) := by omega
          have t1 : (65 : Int) ≤ (c : Int) := by omega
          have t2 : ¬ (c : Int) ≤ 90 := by omega
          have t3 : (48 : Int) ≤ (c : Int) := by omega
          have t4 : ¬ (c : Int) ≤ 57 := by omega
          have t5 : ((c : Int) == 95) = false := beq_eq_false_iff_ne.2 (by omega)
          have t6 : ((c : Int) == 45) = false := beq_eq_false_iff_ne.2 (by omega)
          have q95 : ((c : Int) != 95) = true := bne_iff_ne.2 (by omega)
          have q45 : ((c : Int) != 45) = true := bne_iff_ne.2 (by omega)
          go_wp2_with fail
          go_roundw
          case rel => exact ⟨k + 1, false, by omega, by go_num, rfl, HZ.out (by unfold OkB; omega), HB.out, HC.out⟩
          case measure => simp [intOf]; omega
        · have t0 : ¬ (97 : Int) ≤ (c : Int) := by omega
          have t1 : ¬ (65 : Int) ≤ (c : Int) := by omega
          have t2 : (48 : Int) ≤ (c : Int) := by omega
          have t3 : (c : Int) ≤ 57 := by omega
          go_wp2_with fail
          go_roundw
          case rel => exact ⟨k + 1, t, by omega, by go_num, rfl, HS.out (Or.inr (Or.inr (Or.inl ⟨by omega, by omega⟩))), HB.out, HC.out⟩
          case measure => simp [intOf]; omega
        · have t0 : ¬ (97 : Int) ≤ (c : Int) := by omega
          have t1 : ¬ (65 : Int) ≤ (c : Int) := by omega
          have t2 : (48 : Int) ≤ (c : Int) := by omega
          have t3 : ¬ (c : Int) ≤ 57 := by omega
          have t4 : ((c : Int) == 95) = false := beq_eq_false_iff_ne.2 (by omega)
          have t5 : ((c : Int) == 45) = false := beq_eq_false_iff_ne.2 (by omega)
          have q95 : ((c : Int) != 95) = true := bne_iff_ne.2 (by omega)
          have q45 : ((c : Int) != 45) = true := bne_iff_ne.2 (by omega)
          go_wp2_with fail
          go_roundw
          case rel => exact ⟨k + 1, false, by omega, by go_num, rfl, HZ.out (by unfold OkB; omega), HB.out, HC.out⟩
          case measure => simp [intOf]; omega
        · subst a0
          go_wp2_with fail
          go_roundw
          case rel => exact ⟨k + 1, t, by omega, by go_num, rfl, HS.out (Or.inr (Or.inr (Or.inr (Or.inr rfl)))), HB.out, HC.out⟩
          case measure => simp [intOf]; omega
        · have t0 : ¬ (97 : Int) ≤ (c : Int) := by omega
          have t1 : ¬ (65 : Int) ≤ (c : Int) := by omega
          have t2 : ¬ (48 : Int) ≤ (c : Int) := by omega
          have t3 : ((c : Int) == 95) = false := beq_eq_false_iff_ne.2 (by omega)
          have t4 : ((c : Int) == 45) = false := beq_eq_false_iff_ne.2 (by omega)
          have q95 : ((c : Int) != 95) = true := bne_iff_ne.2 (by omega)
          have q45 : ((c : Int) != 45) = true := bne_iff_ne.2 (by omega)
          go_wp2_with fail
          go_roundw
          case rel => exact ⟨k + 1, false, by omega, by go_num, rfl, HZ.out (by unfold OkB; omega), HB.out, HC.out⟩
          case measure => simp [intOf]; omega
      · have hlt' : ¬ (k : Int) < (s.size : Int) := by omega
        obtain rfl : k = s.size := by omega
        by_cases hv : Valid s
        · obtain rfl := HP.out.yes hv
          have HV : Hid (Valid s) := hv
          clear hv
          go_wp2_with fail
          go_ret
          exact ⟨⟨_, rfl, fun _ => rfl, fun h => absurd HV.out h⟩, HB.out⟩
        · obtain rfl := HP.out.no (by omega) hv
          have HNV : Hid (¬ Valid s) := hv
          clear hv
          go_wp2_with fail
          refine (errorfNm F s 64 W.heap.size _ ?_ ?_ ?_).mono ?_
          · show F.answers W.tape
            rw [HB.out.tape]; exact HF.out
          · simp [go_sem]
          · simp [go_sem]
          rintro e w' ⟨⟨v, rfl, hE⟩, hb⟩
          go_wp2_with fail
          go_ret
          exact ⟨⟨v, rfl, fun h => absurd h HNV.out, fun _ => hE⟩, HB.out.trans (below_errs hb |>.mono HB.out.size)⟩
end Go.Proofs.YbulkatbqFmt
