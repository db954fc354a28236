import Derived.Test.YbulkatbqFmtRows
import Derived.Test.YbulkatbqFmtValid
import Derived.WalkKit
import Derived.WalkSpells
import Derived.WalkLawsBesides
import Derived.Stop.CallBack
import Derived.Stop.IfaceNil
import Derived.Stop.Texts
import Derived.Stop.Told
namespace Go.Proofs.YbulkatbqFmt
open Go.RowKit Go.Extern.Stop Go.Stop Go.Extern

theorem call16 (args : Array Value) (w : World) : (callFunc 16 args).run Ybaf.prog w = ((FmtStop.errorf #[9, 68] #[41] args).run Ybaf.prog w).andThen fun v w' => .ok (.value v) w' :=
  run_callFunc_extern Ybaf.func16 (by kernel_rfl) (by kernel_rfl) (by kernel_rfl) (by kernel_rfl) args w
theorem guard (name : String) (w : World) : (FmtStop.guard name).run Ybaf.prog w = .ok () w := by kernel_rfl
def shape3 : List UInt8 := [5, 3, 0, 0, 0, 0, 0, 0, 0, 105, 110, 116]
def shape9 : List UInt8 := [12, 6, 0, 0, 0, 0, 0, 0, 0, 115, 116, 114, 105, 110, 103]
theorem op3_100 (name : String) (x : Int) (w : World) : (FmtStop.operand name true 100 false (.iface 3 (.int .i64 x))).run Ybaf.prog w = .ok (shape3, Go.Extern.Stop.digits 8 (x % 2 ^ 64).toNat) w := by kernel_rfl
theorem op9_113 (name : String) (x : ByteArray) (w : World) : (FmtStop.operand name true 113 false (.iface 9 (.string x))).run Ybaf.prog w = .ok (shape9, FmtStop.pack x.data.toList) w := by kernel_rfl
theorem ptr85 (w : World) : (FmtStop.ptrTo "errors.errorString").run Ybaf.prog w = .ok 85 w := by kernel_rfl
theorem elem85 (w : World) : (elemOf 85).run Ybaf.prog w = .ok 87 w := by kernel_rfl
theorem ptr69 (w : World) : (FmtStop.ptrTo "fmt.wrapError").run Ybaf.prog w = .ok 69 w := by kernel_rfl
theorem elem69 (w : World) : (elemOf 69).run Ybaf.prog w = .ok 132 w := by kernel_rfl
theorem isError85 (w : World) : (FmtDoors.textMethod 85 "Error").run Ybaf.prog w = .ok true w := by kernel_rfl
theorem opPlain85 (name : String) (a : Addr) (s : ByteArray) (w : World) (hc : w.cell? a = some (.string s)) :
    (FmtStop.operand name true 119 false (.iface 85 (.pointer (some a)))).run Ybaf.prog w = .ok (14 :: FmtStop.pack Ybaf.t85.str.toUTF8.data.toList, s.data.toList) w := by
  have h1 : (typeStr 85).run Ybaf.prog w = .ok Ybaf.t85.str w := by kernel_rfl
  have d2 : Ybaf.t85.desc = .pointer 87 := rfl
  have d3 : Ybaf.t87.desc = .named "errors.errorString" 86 := rfl
  simp [FmtStop.operand, h1, d2, d3, run_load, hc]
/-- an error that fmt made, with its text in memory -/
def Err (w : World) (v : Value) : Prop := ∃ a, v = .iface 85 (.pointer (some a)) ∧ ∃ s, w.cell? a = some (.string s)
abbrev fmtNil : ByteArray := ⟨#[116, 111, 111, 108, 58, 32, 116, 111, 111, 108, 32, 37, 100, 32, 111, 102, 32, 37, 100, 32, 105, 115, 32, 110, 105, 108]⟩
theorem fNil (w : World) : (FmtDoors.printed fmtNil 2).run Ybaf.prog w = .ok [(0, 100, false), (1, 100, false)] w := by kernel_rfl
abbrev fmtDef : ByteArray := ⟨#[116, 111, 111, 108, 58, 32, 116, 111, 111, 108, 32, 37, 113, 32, 104, 97, 115, 32, 97, 32, 100, 101, 102, 105, 110, 105, 116, 105, 111, 110, 32, 110, 97, 109, 101, 100, 32, 37, 113]⟩
theorem fDef (w : World) : (FmtDoors.printed fmtDef 2).run Ybaf.prog w = .ok [(0, 113, false), (1, 113, false)] w := by kernel_rfl
abbrev fmtNm : ByteArray := ⟨#[116, 111, 111, 108, 32, 110, 97, 109, 101, 32, 37, 113, 32, 105, 115, 32, 110, 111, 116, 32, 49, 32, 116, 111, 32, 37, 100, 32, 65, 83, 67, 73, 73, 32, 108, 101, 116, 116, 101, 114, 115, 44, 32, 100, 105, 103, 105, 116, 115, 44, 32, 117, 110, 100, 101, 114, 115, 99, 111, 114, 101, 115, 32, 97, 110, 100, 32, 104, 121, 112, 104, 101, 110, 115]⟩
theorem fNm (w : World) : (FmtDoors.printed fmtNm 2).run Ybaf.prog w = .ok [(0, 113, false), (1, 100, false)] w := by kernel_rfl
abbrev fmtTwo : ByteArray := ⟨#[116, 111, 111, 108, 58, 32, 116, 119, 111, 32, 116, 111, 111, 108, 115, 32, 97, 114, 101, 32, 110, 97, 109, 101, 100, 32, 37, 113]⟩
theorem fTwo (w : World) : (FmtDoors.printed fmtTwo 1).run Ybaf.prog w = .ok [(0, 113, false)] w := by kernel_rfl
abbrev fmtWr : ByteArray := ⟨#[116, 111, 111, 108, 58, 32, 37, 119]⟩
theorem fWr (w : World) : (FmtDoors.printed fmtWr 1).run Ybaf.prog w = .ok [(0, 119, false)] w := by kernel_rfl

theorem errorfNil (F : Interp) (x y : Int) (sB : Nat) (w : World) (hF : F.answers w.tape) (h0 : w.cell? ⟨sB, 0, .none⟩ = some (.iface 3 (.int .i64 x))) (h1 : w.cell? ⟨sB, 1, .none⟩ = some (.iface 3 (.int .i64 y))) :
    Calls Ybaf.prog 9 #[.string fmtNil, .slice (some ⟨sB, 0, .none⟩) 2 2] w fun e w' => (∃ t p, e = .returned (.iface t p)) ∧ Below w.heap.size w w' := by
  have hF' := answers_open hF
  have k1 := call16
  have k2 := guard
  have k4 := fNil
  have k5 := op3_100
  have k6 := ptr85
  have k7 := elem85
  go_enter Ybaf.func9, Ybaf.ntmps9
  go_wp2_with fail
  go_ret
  exact ⟨⟨_, _, rfl⟩, ((Below.refl w.heap.size w).drew).alloc (Nat.le_refl _) _⟩

theorem errorfDef (F : Interp) (x y : ByteArray) (sB : Nat) (w : World) (hF : F.answers w.tape) (h0 : w.cell? ⟨sB, 0, .none⟩ = some (.iface 9 (.string x))) (h1 : w.cell? ⟨sB, 1, .none⟩ = some (.iface 9 (.string y))) :
    Calls Ybaf.prog 9 #[.string fmtDef, .slice (some ⟨sB, 0, .none⟩) 2 2] w fun e w' => (∃ t p, e = .returned (.iface t p)) ∧ Below w.heap.size w w' := by
  have hF' := answers_open hF
  have k1 := call16
  have k2 := guard
  have k4 := fDef
  have k5 := op9_113
  have k6 := ptr85
  have k7 := elem85
  go_enter Ybaf.func9, Ybaf.ntmps9
  go_wp2_with fail
  go_ret
  exact ⟨⟨_, _, rfl⟩, ((Below.refl w.heap.size w).drew).alloc (Nat.le_refl _) _⟩

theorem errorfTwo (F : Interp) (x : ByteArray) (sB : Nat) (w : World) (hF : F.answers w.tape) (h0 : w.cell? ⟨sB, 0, .none⟩ = some (.iface 9 (.string x))) :
    Calls Ybaf.prog 9 #[.string fmtTwo, .slice (some ⟨sB, 0, .none⟩) 1 1] w fun e w' => (∃ t p, e = .returned (.iface t p)) ∧ Below w.heap.size w w' := by
  have hF' := answers_open hF
  have k1 := call16
  have k2 := guard
  have k4 := fTwo
  have k5 := op9_113
  have k6 := ptr85
  have k7 := elem85
  go_enter Ybaf.func9, Ybaf.ntmps9
  go_wp2_with fail
  go_ret
  exact ⟨⟨_, _, rfl⟩, ((Below.refl w.heap.size w).drew).alloc (Nat.le_refl _) _⟩

theorem errorfNm (F : Interp) (x : ByteArray) (y : Int) (sB : Nat) (w : World) (hF : F.answers w.tape) (h0 : w.cell? ⟨sB, 0, .none⟩ = some (.iface 9 (.string x))) (h1 : w.cell? ⟨sB, 1, .none⟩ = some (.iface 3 (.int .i64 y))) :
    Calls Ybaf.prog 9 #[.string fmtNm, .slice (some ⟨sB, 0, .none⟩) 2 2] w fun e w' => (∃ v, e = .returned v ∧ Err w' v) ∧ Below w.heap.size w w' := by
  have hF' := answers_open hF
  have k1 := call16
  have k2 := guard
  have k4 := fNm
  have k5 := op9_113
  have k6 := op3_100
  have k7 := ptr85
  have k8 := elem85
  go_enter Ybaf.func9, Ybaf.ntmps9
  go_wp2_with fail
  go_ret
  refine ⟨⟨_, rfl, ⟨w.heap.size, 0, .none⟩, rfl, ?_⟩, ((Below.refl w.heap.size w).drew).alloc (Nat.le_refl _) _⟩
  simp [go_sem]

theorem errorfWr (F : Interp) (v : Value) (sB : Nat) (w : World) (hF : F.answers w.tape) (hE : Err w v) (h0 : w.cell? ⟨sB, 0, .none⟩ = some v) :
    Calls Ybaf.prog 9 #[.string fmtWr, .slice (some ⟨sB, 0, .none⟩) 1 1] w fun e w' => (∃ t p, e = .returned (.iface t p)) ∧ Below w.heap.size w w' := by
  obtain ⟨a, rfl, s, hc⟩ := hE
  have hF' := answers_open hF
  have k1 := call16
  have k2 := guard
  have k4 := fWr
  obtain ⟨l, k5⟩ : ∃ l, (FmtStop.operand "fmt.errorf" true 119 false (.iface 85 (.pointer (some a)))).run Ybaf.prog w = .ok (l, s.data.toList) w := ⟨_, opPlain85 "fmt.errorf" a s w hc⟩
  have k6 := isError85
  have k7 := ptr69
  have k8 := elem69
  go_enter Ybaf.func9, Ybaf.ntmps9
  go_wp2_with fail
  go_ret
  exact ⟨⟨_, _, rfl⟩, ((Below.refl w.heap.size w).drew).alloc (Nat.le_refl _) _⟩
end Go.Proofs.YbulkatbqFmt
