import Derived.Test.YbulkasyyFmtRows
import Derived.Test.YbulkasyyFmtShelf
import Derived.Test.YbulkasyyFmtPlain
import Derived.WalkKit
import Derived.WalkSpells
import Derived.WalkLawsBesides
import Derived.Deep.MidRow
import Derived.Deep.QuietTactic
import Derived.BigQuiet
import Derived.Deep.RegionHeld3
import Derived.Stop.CallBack
import Derived.Stop.IfaceNil
import Derived.Stop.Texts
import Derived.Stop.Told
import Derived.Stop.FmtTextKit
import Derived.Stop.FmtTextVerbs
import Derived.Deep.DeepFit
namespace Go.Proofs.YbulkasyyFmt
open Go.RowKit Go.Extern.Stop Go.Stop Go.Extern

theorem call10 (args : Array Value) (w : World) : (callFunc 10 args).run Ybaf.prog w = ((FmtStop.sprintf #[9, 66] #[9] args).run Ybaf.prog w).andThen fun v w' => .ok (.value v) w' :=
  run_callFunc_extern Ybaf.func10 (by kernel_rfl) (by kernel_rfl) (by kernel_rfl) (by kernel_rfl) args w
theorem guard (name : String) (w : World) : (FmtStop.guard name).run Ybaf.prog w = .ok () w := by kernel_rfl
-- "index %d, beyond the last of its %d values", 2 operands
def fmtI : List UInt8 := [105, 110, 100, 101, 120, 32, 37, 100, 44, 32, 98, 101, 121, 111, 110, 100, 32, 116, 104, 101, 32, 108, 97, 115, 116, 32, 111, 102, 32, 105, 116, 115, 32, 37, 100, 32, 118, 97, 108, 117, 101, 115]
theorem fmtI1 : FmtStop.printed? ⟨#[105, 110, 100, 101, 120, 32, 37, 100, 44, 32, 98, 101, 121, 111, 110, 100, 32, 116, 104, 101, 32, 108, 97, 115, 116, 32, 111, 102, 32, 105, 116, 115, 32, 37, 100, 32, 118, 97, 108, 117, 101, 115]⟩ 2 = some [(0, 100, false), (1, 100, false)] := by kernel_rfl
theorem fmtI2 (w : World) : (FmtDoors.printed ⟨#[105, 110, 100, 101, 120, 32, 37, 100, 44, 32, 98, 101, 121, 111, 110, 100, 32, 116, 104, 101, 32, 108, 97, 115, 116, 32, 111, 102, 32, 105, 116, 115, 32, 37, 100, 32, 118, 97, 108, 117, 101, 115]⟩ 2).run Ybaf.prog w = .ok [(0, 100, false), (1, 100, false)] w := by kernel_rfl
-- "%d %s wanted from bit %d; the bytes end at bit %d", 4 operands
def fmtT : List UInt8 := [37, 100, 32, 37, 115, 32, 119, 97, 110, 116, 101, 100, 32, 102, 114, 111, 109, 32, 98, 105, 116, 32, 37, 100, 59, 32, 116, 104, 101, 32, 98, 121, 116, 101, 115, 32, 101, 110, 100, 32, 97, 116, 32, 98, 105, 116, 32, 37, 100]
theorem fmtT1 : FmtStop.printed? ⟨#[37, 100, 32, 37, 115, 32, 119, 97, 110, 116, 101, 100, 32, 102, 114, 111, 109, 32, 98, 105, 116, 32, 37, 100, 59, 32, 116, 104, 101, 32, 98, 121, 116, 101, 115, 32, 101, 110, 100, 32, 97, 116, 32, 98, 105, 116, 32, 37, 100]⟩ 4 = some [(0, 100, false), (1, 115, false), (2, 100, false), (3, 100, false)] := by kernel_rfl
theorem fmtT2 (w : World) : (FmtDoors.printed ⟨#[37, 100, 32, 37, 115, 32, 119, 97, 110, 116, 101, 100, 32, 102, 114, 111, 109, 32, 98, 105, 116, 32, 37, 100, 59, 32, 116, 104, 101, 32, 98, 121, 116, 101, 115, 32, 101, 110, 100, 32, 97, 116, 32, 98, 105, 116, 32, 37, 100]⟩ 4).run Ybaf.prog w = .ok [(0, 100, false), (1, 115, false), (2, 100, false), (3, 100, false)] w := by kernel_rfl
def shape3 : List UInt8 := [5, 3, 0, 0, 0, 0, 0, 0, 0, 105, 110, 116]
def shape9 : List UInt8 := [12, 6, 0, 0, 0, 0, 0, 0, 0, 115, 116, 114, 105, 110, 103]
theorem op3_100 (name : String) (x : Int) (w : World) : (FmtStop.operand name false 100 false (.iface 3 (.int .i64 x))).run Ybaf.prog w = .ok (shape3, Go.Extern.Stop.digits 8 (x % 2 ^ 64).toNat) w := by kernel_rfl
theorem op9_115 (name : String) (x : ByteArray) (w : World) : (FmtStop.operand name false 115 false (.iface 9 (.string x))).run Ybaf.prog w = .ok (shape9, FmtStop.pack x.data.toList) w := by kernel_rfl

/-- what fmt is asked -/
def readI (v n : Int) : List (List UInt8) := [fmtI, shape3, digits 8 (v % 18446744073709551616).toNat, shape3, digits 8 (n % 18446744073709551616).toNat]
def readT (n : Int) (u : List UInt8) (off : Int) (e : Nat) : List (List UInt8) := [fmtT, shape3, digits 8 (n % 18446744073709551616).toNat, shape9, FmtStop.pack u, shape3, digits 8 (off % 18446744073709551616).toNat, shape3, digits 8 (e % 18446744073709551616)]

/-- Fail on a reader without an error: an error is laid -/
theorem fail_any (rB : Nat) (msg : ByteArray) (hm : msg.size ≤ 100000) (w : World) (h2 : w.cell? ⟨rB, 2, .none⟩ = some .nilIface) (f2 : w.frozen? ⟨rB, 2, .none⟩ = false) (hr : rB < w.heap.size) :
    Calls Ybaf.prog 9 #[.pointer (some ⟨rB, 0, .none⟩), .string ⟨#[102]⟩, .string msg] w fun e w' => e = .returned (.tuple #[]) ∧ Below rB w w' ∧ (∃ t v, w'.cell? ⟨rB, 2, .none⟩ = some (.iface t v)) ∧ w'.cell? ⟨rB, 1, .none⟩ = w.cell? ⟨rB, 1, .none⟩ := by
  have hlt : ∀ v, rB < (w.setCell ⟨rB, 2, .none⟩ v).heap.size := fun v => by simp only [World.setCell, Array.size_modify]; exact hr
  go_enter Ybaf.func9, Ybaf.ntmps9
  go_wp2
  go_end0
  refine ⟨rfl, ((Below.refl rB w).setCell (p := ⟨rB, 2, .none⟩) (Nat.le_refl _) _).alloc (Nat.le_of_lt (hlt _)) _, ⟨_, _, (World.cell?_alloc_lt _ _ _ (hlt _)).trans (World.cell?_setCell_same _ _ _ h2)⟩, (World.cell?_alloc_lt _ _ _ (hlt _)).trans (World.cell?_setCell_other _ _ _ _ (by simp))⟩

theorem take_ok (rB bB L : Nat) (off n : Int) (hL : L ≤ 1024) (h0 : 0 ≤ off) (hn : 0 ≤ n) (hle : off + n ≤ 8 * L) (w : World)
    (c0 : w.cell? ⟨rB, 0, .none⟩ = some (.slice (some ⟨bB, 0, .none⟩) L L)) (c1 : w.cell? ⟨rB, 1, .none⟩ = some (.int .i64 off)) (c2 : w.cell? ⟨rB, 2, .none⟩ = some .nilIface) (f1 : w.frozen? ⟨rB, 1, .none⟩ = false) :
    Calls Ybaf.prog 13 #[.pointer (some ⟨rB, 0, .none⟩), .string ⟨#[102]⟩, .int .i64 n] w fun e w' => e = .returned (.bool true) ∧ w' = w.setCell ⟨rB, 1, .none⟩ (.int .i64 (off + n)) := by
  have ht : ¬ (L : Int) * 8 - off < n := by omega
  go_enter Ybaf.func13, Ybaf.ntmps13
  go_wp2
  go_ret
  exact ⟨rfl, rfl⟩

def textT (F : Interp) (n : Int) (u : List UInt8) (off : Int) (e : Nat) : ByteArray := FmtStop.textOf (F "fmt.Sprintf" (readT n u off e) 0)

set_option maxHeartbeats 400000 in
theorem take_fail (F : Interp) (rB bB L : Nat) (off n : Int) (hL : L ≤ 1024) (h0 : 0 ≤ off) (hoff : off ≤ 8192) (hn : 0 ≤ n) (hn17 : n ≤ 17) (hle : 8 * L < off + n) (w : World) (hF : F.answers w.tape) (hr : rB < w.heap.size)
    (hT1 : n = 1 → (textT F 1 [98, 105, 116] off (L * 8)).size ≤ 100000) (hT2 : (textT F n [98, 105, 116, 115] off (L * 8)).size ≤ 100000)
    (c0 : w.cell? ⟨rB, 0, .none⟩ = some (.slice (some ⟨bB, 0, .none⟩) L L)) (c1 : w.cell? ⟨rB, 1, .none⟩ = some (.int .i64 off)) (c2 : w.cell? ⟨rB, 2, .none⟩ = some .nilIface) (f2 : w.frozen? ⟨rB, 2, .none⟩ = false) :
    Calls Ybaf.prog 13 #[.pointer (some ⟨rB, 0, .none⟩), .string ⟨#[102]⟩, .int .i64 n] w fun e w' => e = .returned (.bool false) ∧ Below rB w w' ∧ (∃ t v, w'.cell? ⟨rB, 2, .none⟩ = some (.iface t v)) ∧ w'.cell? ⟨rB, 1, .none⟩ = some (.int .i64 off) := by
  have ht : (L : Int) * 8 - off < n := by omega
  have hF' := answers_open hF
  have k1 := call10
  have k2 := guard
  have k3 := fmtT1
  have k4 := fmtT2
  have k5 := op3_100
  have k6 := op9_115
  have g1 : ∀ o : Obj, (w.alloc o).cell? ⟨rB, 1, .none⟩ = some (.int .i64 off) := fun o => (World.cell?_alloc_lt w o ⟨rB, 1, .none⟩ hr).trans c1
  have g2 : ∀ o : Obj, (w.alloc o).cell? ⟨rB, 2, .none⟩ = some .nilIface := fun o => (World.cell?_alloc_lt w o ⟨rB, 2, .none⟩ hr).trans c2
  have g3 : ∀ o : Obj, (w.alloc o).frozen? ⟨rB, 2, .none⟩ = false := fun o => by simp [World.frozen?_alloc_past, hr, f2]
  have G : Hid ((∀ o : Obj, (w.alloc o).drew.cell? ⟨rB, 1, .none⟩ = some (.int .i64 off)) ∧ (∀ o : Obj, (w.alloc o).drew.cell? ⟨rB, 2, .none⟩ = some .nilIface) ∧ ∀ o : Obj, (w.alloc o).drew.frozen? ⟨rB, 2, .none⟩ = false) := ⟨g1, g2, g3⟩
  clear g1 g2 g3
  have HT1 : Hid (n = 1 → (textT F 1 [98, 105, 116] off (L * 8)).size ≤ 100000) := hT1
  have HT2 : Hid ((textT F n [98, 105, 116, 115] off (L * 8)).size ≤ 100000) := hT2
  clear hT1 hT2
  by_cases h1 : n = 1
  · have HT3 : Hid ((textT F 1 [98, 105, 116] off (L * 8)).size ≤ 100000) := HT1.out h1
    subst h1
    clear HT2
    go_enter Ybaf.func13, Ybaf.ntmps13
    go_wp2_with (go_at_call 9; go_must (refine (fail_any rB (textT F 1 [98, 105, 116] off (L * 8)) HT3.out _ (G.out.2.1 _) (G.out.2.2 _) (by simp; omega)).mono ?_); rintro e w' ⟨rfl, hbw, hE, h1c⟩)
    go_ret
    exact ⟨rfl, ((((Below.refl _ _).alloc (Nat.le_of_lt hr) _).drew).trans hbw), hE, h1c.trans (G.out.1 _)⟩
  · have h1' : (n == 1) = false := by rw [beq_eq_false_iff_ne]; exact h1
    clear HT1
    go_enter Ybaf.func13, Ybaf.ntmps13
    go_wp2_with (go_at_call 9; go_must (refine (fail_any rB (textT F n [98, 105, 116, 115] off (L * 8)) HT2.out _ (G.out.2.1 _) (G.out.2.2 _) (by simp; omega)).mono ?_); rintro e w' ⟨rfl, hbw, hE, h1c⟩)
    go_ret
    exact ⟨rfl, ((((Below.refl _ _).alloc (Nat.le_of_lt hr) _).drew).trans hbw), hE, h1c.trans (G.out.1 _)⟩

end Go.Proofs.YbulkasyyFmt
