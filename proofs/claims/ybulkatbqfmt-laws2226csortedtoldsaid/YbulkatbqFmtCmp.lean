import Derived.Test.YbulkatbqFmtRegDef
import Derived.Test.YbulkatbqFmtShelf
import Derived.Shelf.SlSortCmp.InsertionK
import Derived.Sort.LotA
namespace Go.Proofs.YbulkatbqFmt
open Go.RowKit Go.Sort

/-- an entry's name, byte by byte -/
def nameOf (x : Nat × ByteArray) : List UInt8 := x.2.data.toList
/-- the order of entries -/
def cf (x y : Nat × ByteArray) : Int := Lib.compareBytes (nameOf x) (nameOf y)
theorem cmp_lt : ∀ a b : List UInt8, decide (Lib.compareBytes a b < 0) = ltStr a b
  | [], [] => by simp [Lib.compareBytes, ltStr]
  | [], b :: m => by simp [Lib.compareBytes, ltStr]
  | a :: l, [] => by simp [Lib.compareBytes, ltStr]
  | a :: l, b :: m => by
    have ih : Lib.compareBytes l m < 0 ↔ l < m := decide_eq_decide.1 (cmp_lt l m)
    refine decide_eq_decide.2 ?_
    rw [List.cons_lt_cons_iff]
    simp only [Lib.compareBytes]
    by_cases h1 : a < b
    · simp [h1]
    · rw [if_neg h1]
      by_cases h2 : b < a
      · rw [if_pos h2]
        constructor
        · intro h; omega
        · rintro (h | ⟨h, _⟩)
          · exact absurd h h1
          · subst h; exact absurd h2 h1
      · rw [if_neg h2]
        have e : a = b := UInt8.le_antisymm (UInt8.not_lt.1 h2) (UInt8.not_lt.1 h1)
        subst e
        rw [ih]
        simp [h1]
theorem lt_cf : ltOf cf = fun x y => ltStr (nameOf x) (nameOf y) := by
  funext x y
  exact cmp_lt _ _
theorem swo_cf : SWO (ltOf cf) := by
  rw [lt_cf]
  exact ⟨fun x => swo_ltStr.irrefl _, fun x y z => swo_ltStr.trans _ _ _, fun x y z => swo_ltStr.ntrans _ _ _⟩

set_option maxHeartbeats 1000000 in
theorem name13 (x : Nat × ByteArray) (b : ByteArray) (W : World) : Calls Ybaf.prog 13 #[.agg (encE x).toArray, .string b] W fun e w' => e = .returned (.int .i64 (Lib.compareBytes (nameOf x) b.data.toList)) ∧ ∃ os', w' = grow W os' := by
  have hcon := fun W' => Ybaf.strings_Compare x.2 b W'
  have HC : Hid (∀ W', Calls Ybaf.prog 19 #[.string x.2, .string b] W' fun e w' => e = .returned (.int .i64 (Lib.compareBytes x.2.data.toList b.data.toList)) ∧ w' = W') := hcon
  clear hcon
  unfold encE
  go_enter Ybaf.func13, Ybaf.ntmps13
  go_wp2_with (go_at_call 19; refine (HC.out _).mono ?_; rintro e w' ⟨rfl, rfl⟩)
  go_ret
  exact ⟨rfl, _, alloc_eq_grow _ _⟩
set_option maxHeartbeats 1000000 in
theorem closure12 (x y : Nat × ByteArray) (W : World) : Calls Ybaf.prog 12 #[.agg (encE x).toArray, .agg (encE y).toArray] W fun e w' => e = .returned (.int .i64 (cf x y)) ∧ ∃ q os', w' = grow (W.drewN q) os' := by
  have hcon := fun W' => name13 x y.2 W'
  have HC : Hid (∀ W', Calls Ybaf.prog 13 #[.agg (encE x).toArray, .string y.2] W' fun e w' => e = .returned (.int .i64 (cf x y)) ∧ ∃ os', w' = grow W' os') := hcon
  clear hcon
  unfold encE at *
  go_enter Ybaf.func12, Ybaf.ntmps12
  go_wp2_with (go_at_call 13; refine (HC.out _).mono ?_; rintro e w' ⟨rfl, os', rfl⟩)
  go_ret
  exact ⟨rfl, 0, _, by rw [alloc_eq_grow, alloc_eq_grow, grow_grow, grow_grow]; rfl⟩
end Go.Proofs.YbulkatbqFmt
