import Derived.Test.YbulkatbqFmtRows
import Derived.WalkKit
import Derived.WalkSpells
import Derived.WalkLawsBesides
import Derived.BigQuiet
import Derived.BigRegion
import Derived.Deep.CutBlock
import Derived.Deep.QuietTactic
namespace Go.Proofs.YbulkatbqFmt
open Go.RowKit

/-- a letter, a digit, an underscore or a hyphen -/
def OkB (c : Nat) : Prop := (97 ≤ c ∧ c ≤ 122) ∨ (65 ≤ c ∧ c ≤ 90) ∨ (48 ≤ c ∧ c ≤ 57) ∨ c = 95 ∨ c = 45
/-- the names that are let through -/
def Valid (s : ByteArray) : Prop := 1 ≤ s.size ∧ s.size ≤ 64 ∧ ∀ j (h : j < s.size), OkB s[j].toNat

set_option maxHeartbeats 1000000 in
theorem valid_yes (s : ByteArray) (hv : Valid s) (w : World) :
    Calls Ybaf.prog 8 #[.string s] w fun e w' => e = .returned (.bool true) ∧ w' = w := by
  have h1 : ¬ ((s.size : Int) < 1) := by have := hv.1; omega
  have h2 : ¬ (64 < (s.size : Int)) := by have := hv.2.1; omega
  have HV : Hid (Valid s) := hv
  clear hv
  go_enter Ybaf.func8, Ybaf.ntmps8
  go_wp2_with fail
  go_loop [3] (fun i => ∃ k : Nat, k ≤ s.size ∧ i = .int .i64 k) (fun i => s.size - (intOf i).toNat)
  case atStart => exact ⟨0, Nat.zero_le _, rfl⟩
  case round =>
    obtain ⟨k, hk, rfl⟩ := hrel
    by_cases hlt : k < s.size
    · have hlt' : (k : Int) < (s.size : Int) := by omega
      go_upto_region 7 with fail
      have hc := HV.out.2.2 k hlt
      obtain ⟨c, hcc⟩ : ∃ c : Nat, c = s[k].toNat := ⟨_, rfl⟩
      rw [← hcc] at hc ⊢
      clear hcc
      rcases hc with ⟨a, b⟩ | ⟨a, b⟩ | ⟨a, b⟩ | a | a
      · have t1 : (97 : Int) ≤ (c : Int) := by omega
        have t2 : (c : Int) ≤ 122 := by omega
        go_wp2_with fail
        go_round
        case rel => exact ⟨k + 1, by omega, by go_num⟩
        case measure => simp [intOf]; omega
      · have t1 : ¬ (97 : Int) ≤ (c : Int) := by omega
        have t2 : (65 : Int) ≤ (c : Int) := by omega
        have t3 : (c : Int) ≤ 90 := by omega
        go_wp2_with fail
        go_round
        case rel => exact ⟨k + 1, by omega, by go_num⟩
        case measure => simp [intOf]; omega
      · have t1 : ¬ (97 : Int) ≤ (c : Int) := by omega
        have t2 : ¬ (65 : Int) ≤ (c : Int) := by omega
        have t3 : (48 : Int) ≤ (c : Int) := by omega
        have t4 : (c : Int) ≤ 57 := by omega
        go_wp2_with fail
        go_round
        case rel => exact ⟨k + 1, by omega, by go_num⟩
        case measure => simp [intOf]; omega
      · subst a
        go_wp2_with fail
        go_round
        case rel => exact ⟨k + 1, by omega, by go_num⟩
        case measure => simp [intOf]; omega
      · subst a
        go_wp2_with fail
        go_round
        case rel => exact ⟨k + 1, by omega, by go_num⟩
        case measure => simp [intOf]; omega
    · have hlt' : ¬ (k : Int) < (s.size : Int) := by omega
      go_wp2_with fail
      go_ret
      exact ⟨rfl, rfl⟩

theorem byteCases (c : Nat) : (97 ≤ c ∧ c ≤ 122) ∨ (97 ≤ c ∧ ¬ c ≤ 122 ∧ 65 ≤ c ∧ ¬ c ≤ 90 ∧ 48 ≤ c ∧ ¬ c ≤ 57 ∧ c ≠ 95 ∧ c ≠ 45) ∨ (¬ 97 ≤ c ∧ 65 ≤ c ∧ c ≤ 90) ∨ (¬ 97 ≤ c ∧ 65 ≤ c ∧ ¬ c ≤ 90 ∧ 48 ≤ c ∧ ¬ c ≤ 57 ∧ c = 95) ∨ (¬ 97 ≤ c ∧ 65 ≤ c ∧ ¬ c ≤ 90 ∧ 48 ≤ c ∧ ¬ c ≤ 57 ∧ c ≠ 95 ∧ c ≠ 45) ∨ (¬ 97 ≤ c ∧ ¬ 65 ≤ c ∧ 48 ≤ c ∧ c ≤ 57) ∨ (¬ 97 ≤ c ∧ ¬ 65 ≤ c ∧ 48 ≤ c ∧ ¬ c ≤ 57 ∧ c ≠ 95 ∧ c ≠ 45) ∨ (¬ 97 ≤ c ∧ ¬ 65 ≤ c ∧ ¬ 48 ≤ c ∧ c = 45) ∨ (¬ 97 ≤ c ∧ ¬ 65 ≤ c ∧ ¬ 48 ≤ c ∧ c ≠ 95 ∧ c ≠ 45) := by omega

set_option maxHeartbeats 2000000 in
theorem valid_no (s : ByteArray) (hv : ¬ Valid s) (w : World) :
    Calls Ybaf.prog 8 #[.string s] w fun e w' => e = .returned (.bool false) ∧ w' = w := by
  have HV : Hid (¬ Valid s) := hv
  clear hv
  by_cases h1 : (s.size : Int) < 1
  · go_enter Ybaf.func8, Ybaf.ntmps8
    go_wp2_with fail
    go_ret
    exact ⟨rfl, rfl⟩
  by_cases h2 : 64 < (s.size : Int)
  · go_enter Ybaf.func8, Ybaf.ntmps8
    go_wp2_with fail
    go_ret
    exact ⟨rfl, rfl⟩
  go_enter Ybaf.func8, Ybaf.ntmps8
  go_wp2_with fail
  go_loop [3] (fun i => ∃ k : Nat, (k ≤ s.size ∧ ∀ j (h : j < s.size), j < k → OkB s[j].toNat) ∧ i = .int .i64 k) (fun i => s.size - (intOf i).toNat)
  case atStart => exact ⟨0, ⟨Nat.zero_le _, fun _ _ h => absurd h (by omega)⟩, rfl⟩
  case round =>
    obtain ⟨k, hk, rfl⟩ := hrel
    have HK : Hid (k ≤ s.size ∧ ∀ j (h : j < s.size), j < k → OkB s[j].toNat) := hk
    clear hk
    by_cases hlt : k < s.size
    · have hlt' : (k : Int) < (s.size : Int) := by omega
      go_upto_region 7 with fail
      have hs : OkB s[k].toNat → (k + 1 ≤ s.size ∧ ∀ j (h : j < s.size), j < k + 1 → OkB s[j].toNat) := fun ho => ⟨by omega, fun j h hj => by
        rcases Nat.lt_or_eq_of_le (Nat.le_of_lt_succ hj) with h' | rfl
        · exact HK.out.2 j h h'
        · exact ho⟩
      obtain ⟨c, hcc⟩ : ∃ c : Nat, c = s[k].toNat := ⟨_, rfl⟩
      rw [← hcc] at hs ⊢
      have HS : Hid (OkB c → (k + 1 ≤ s.size ∧ ∀ j (h : j < s.size), j < k + 1 → OkB s[j].toNat)) := hs
      clear hcc hs
      rcases byteCases c with ⟨a1, a2⟩ | ⟨a1, a2, a3, a4, a5, a6, a7, a8⟩ | ⟨a1, a2, a3⟩ | ⟨a1, a2, a3, a4, a5, a0⟩ | ⟨a1, a2, a3, a4, a5, a6, a7⟩ | ⟨a1, a2, a3, a4⟩ | ⟨a1, a2, a3, a4, a5, a6⟩ | ⟨a1, a2, a3, a0⟩ | ⟨a1, a2, a3, a4, a5⟩
      · have t0 : (97 : Int) ≤ (c : Int) := by omega
        have t1 : (c : Int) ≤ 122 := by omega
        go_wp2_with fail
        go_round
        case rel => exact ⟨k + 1, HS.out (Or.inl ⟨by omega, by omega⟩), by go_num⟩
        case measure => simp [intOf]; omega
      · have t0 : (97 : Int) ≤ (c : Int) := by omega
        have t1 : ¬ (c : Int) ≤ 122 := by omega
        have t2 : (65 : Int) ≤ (c : Int) := by omega
        have t3 : ¬ (c : Int) ≤ 90 := by omega
        have t4 : (48 : Int) ≤ (c : Int) := by omega
        have t5 : ¬ (c : Int) ≤ 57 := by omega
        have t6 : ((c : Int) == 95) = false := beq_eq_false_iff_ne.2 (by omega)
        have t7 : ((c : Int) == 45) = false := beq_eq_false_iff_ne.2 (by omega)
        go_wp2_with fail
        go_ret
        exact ⟨rfl, rfl⟩
      · have t0 : ¬ (97 : Int) ≤ (c : Int) := by omega
        have t1 : (65 : Int) ≤ (c : Int) := by omega
        have t2 : (c : Int) ≤ 90 := by omega
        go_wp2_with fail
        go_round
        case rel => exact ⟨k + 1, HS.out (Or.inr (Or.inl ⟨by omega, by omega⟩)), by go_num⟩
        case measure => simp [intOf]; omega
      · subst a0
        go_wp2_with fail
        go_round
        case rel => exact ⟨k + 1, HS.out (Or.inr (Or.inr (Or.inr (Or.inl rfl)))), by go_num⟩
        case measure => simp [intOf]; omega
      · have t0 : ¬ (97 : Int) ≤ (c : Int) := by omega
        have t1 : (65 : Int) ≤ (c : Int) := by omega
        have t2 : ¬ (c : Int) ≤ 90 := by omega
        have t3 : (48 : Int) ≤ (c : Int) := by omega
        have t4 : ¬ (c : Int) ≤ 57 := by omega
        have t5 : ((c : Int) == 95) = false := beq_eq_false_iff_ne.2 (by omega)
        have t6 : ((c : Int) == 45) = false := beq_eq_false_iff_ne.2 (by omega)
        go_wp2_with fail
        go_ret
        exact ⟨rfl, rfl⟩
      · have t0 : ¬ (97 : Int) ≤ (c : Int) := by omega
        have t1 : ¬ (65 : Int) ≤ (c : Int) := by omega
        have t2 : (48 : Int) ≤ (c : Int) := by omega
        have t3 : (c : Int) ≤ 57 := by omega
        go_wp2_with fail
        go_round
        case rel => exact ⟨k + 1, HS.out (Or.inr (Or.inr (Or.inl ⟨by omega, by omega⟩))), by go_num⟩
        case measure => simp [intOf]; omega
      · have t0 : ¬ (97 : Int) ≤ (c : Int) := by omega
        have t1 : ¬ (65 : Int) ≤ (c : Int) := by omega
        have t2 : (48 : Int) ≤ (c : Int) := by omega
        have t3 : ¬ (c : Int) ≤ 57 := by omega
        have t4 : ((c : Int) == 95) = false := beq_eq_false_iff_ne.2 (by omega)
        have t5 : ((c : Int) == 45) = false := beq_eq_false_iff_ne.2 (by omega)
        go_wp2_with fail
        go_ret
        exact ⟨rfl, rfl⟩
      · subst a0
        go_wp2_with fail
        go_round
        case rel => exact ⟨k + 1, HS.out (Or.inr (Or.inr (Or.inr (Or.inr rfl)))), by go_num⟩
        case measure => simp [intOf]; omega
      · have t0 : ¬ (97 : Int) ≤ (c : Int) := by omega
        have t1 : ¬ (65 : Int) ≤ (c : Int) := by omega
        have t2 : ¬ (48 : Int) ≤ (c : Int) := by omega
        have t3 : ((c : Int) == 95) = false := beq_eq_false_iff_ne.2 (by omega)
        have t4 : ((c : Int) == 45) = false := beq_eq_false_iff_ne.2 (by omega)
        go_wp2_with fail
        go_ret
        exact ⟨rfl, rfl⟩
    · exact absurd ⟨by omega, by omega, fun j h => HK.out.2 j h (by omega)⟩ HV.out
end Go.Proofs.YbulkatbqFmt
