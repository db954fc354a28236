import Derived.Test.YbulkasyyFmtWalks
import Derived.Stop.JoinedTold
import Derived.Stop.FmtTextKit
import Derived.Stop.FmtTextWidths
namespace Go.Proofs.YbulkasyyFmt
open Go.RowKit Go.Extern.Stop Go.Stop Go.Extern Go.Kit

theorem parseI : (FmtText.parse fmtI).map FmtText.glue = some [.lit [105, 110, 100, 101, 120, 32], .verb {} 100, .lit [44, 32, 98, 101, 121, 111, 110, 100, 32, 116, 104, 101, 32, 108, 97, 115, 116, 32, 111, 102, 32, 105, 116, 115, 32], .verb {} 100, .lit [32, 118, 97, 108, 117, 101, 115]] := by rfl
theorem parseT : (FmtText.parse fmtT).map FmtText.glue = some [.verb {} 100, .lit [32], .verb {} 115, .lit [32, 119, 97, 110, 116, 101, 100, 32, 102, 114, 111, 109, 32, 98, 105, 116, 32], .verb {} 100, .lit [59, 32, 116, 104, 101, 32, 98, 121, 116, 101, 115, 32, 101, 110, 100, 32, 97, 116, 32, 98, 105, 116, 32], .verb {} 100] := by rfl

theorem textI_eq (v n : Int) (hv : (Lit.int .i64 v).wf = true) (hn : (Lit.int .i64 n).wf = true) : FmtText.text "fmt.Sprintf" (readI v n) = some ([105, 110, 100, 101, 120, 32] ++ Lib.itoa v ++ [44, 32, 98, 101, 121, 111, 110, 100, 32, 116, 104, 101, 32, 108, 97, 115, 116, 32, 111, 102, 32, 105, 116, 115, 32] ++ Lib.itoa n ++ [32, 118, 97, 108, 117, 101, 115]) := by
  have h1 := FmtText.operand_int_at (sh := shape3) (k := .i64) rfl rfl v hv
  have h2 := FmtText.operand_int_at (sh := shape3) (k := .i64) rfl rfl n hn
  rw [readI, FmtText.text_sprintf_glued parseI (FmtText.operands_cons h1 (FmtText.operands_cons h2 FmtText.operands_nil))]
  simp [FmtText.render, FmtText.printArg_d _ _ hv, FmtText.printArg_d _ _ hn]

theorem textT_eq (n : Int) (u : List UInt8) (off : Int) (e : Nat) (hn : (Lit.int .i64 n).wf = true) (ho : (Lit.int .i64 off).wf = true) (he : (Lit.int .i64 (e : Int)).wf = true) (hu : u.length < 2 ^ 64) :
    FmtText.text "fmt.Sprintf" (readT n u off e) = some (Lib.itoa n ++ [32] ++ u ++ [32, 119, 97, 110, 116, 101, 100, 32, 102, 114, 111, 109, 32, 98, 105, 116, 32] ++ Lib.itoa off ++ [59, 32, 116, 104, 101, 32, 98, 121, 116, 101, 115, 32, 101, 110, 100, 32, 97, 116, 32, 98, 105, 116, 32] ++ Lib.itoa e) := by
  have h1 := FmtText.operand_int_at (sh := shape3) (k := .i64) rfl rfl n hn
  have h2 := FmtText.operand_str_at (sh := shape9) rfl rfl u hu
  have h3 := FmtText.operand_int_at (sh := shape3) (k := .i64) rfl rfl off ho
  have h4 := FmtText.operand_int_at (sh := shape3) (k := .i64) rfl rfl (e : Int) he
  have ee : digits 8 (e % 18446744073709551616) = digits 8 (((e : Int)) % 18446744073709551616).toNat := by
    rw [show ((e : Int) % 18446744073709551616).toNat = e % 18446744073709551616 by omega]
  rw [readT, ee, FmtText.text_sprintf_glued parseT (FmtText.operands_cons h1 (FmtText.operands_cons h2 (FmtText.operands_cons h3 (FmtText.operands_cons h4 FmtText.operands_nil))))]
  simp [FmtText.render, FmtText.printArg_d _ _ hn, FmtText.printArg_d _ _ ho, FmtText.printArg_d _ _ he, FmtText.printArg_s_str]

theorem size_of_list {b : ByteArray} {t : List UInt8} (h : b.data.toList = t) : b.size = t.length := by
  rw [← h, Array.length_toList]; rfl
theorem short_of (F : Interp) {reading : List (List UInt8)} {t : List UInt8} (h : FmtText.text "fmt.Sprintf" reading = some t) (hl : t.length ≤ 100000) : (FmtStop.textOf (F.told "fmt.Sprintf" reading 0)).size ≤ 100000 := by
  have ht := told_string F h (by omega)
  rw [← textOf_list] at ht
  rw [size_of_list ht]
  exact hl

theorem shortI (F : Interp) (v n : Nat) (hv : v ≤ 1000000) (hn : n ≤ 1000000) : (FmtStop.textOf (F.told "fmt.Sprintf" (readI v n) 0)).size ≤ 100000 := by
  have wv : (Lit.int .i64 (v : Int)).wf = true := WalkArith.wf_i64 (by omega)
  have wn : (Lit.int .i64 (n : Int)).wf = true := WalkArith.wf_i64 (by omega)
  have l1 := FmtText.itoa_length_le wv
  have l2 := FmtText.itoa_length_le wn
  exact short_of F (textI_eq v n wv wn) (by simp only [List.length_append, List.length_cons, List.length_nil]; omega)

theorem shortT (F : Interp) (n off e : Nat) (u : List UInt8) (hn : n ≤ 1000000) (ho : off ≤ 1000000) (he : e ≤ 1000000) (hu : u.length ≤ 10) : (textT F.told n u off e).size ≤ 100000 := by
  have wn : (Lit.int .i64 (n : Int)).wf = true := WalkArith.wf_i64 (by omega)
  have wo : (Lit.int .i64 (off : Int)).wf = true := WalkArith.wf_i64 (by omega)
  have we : (Lit.int .i64 (e : Int)).wf = true := WalkArith.wf_i64 (by omega)
  have l1 := FmtText.itoa_length_le wn
  have l2 := FmtText.itoa_length_le wo
  have l3 := FmtText.itoa_length_le we
  exact short_of F (textT_eq n u off e wn wo we (by omega)) (by simp only [List.length_append, List.length_cons, List.length_nil]; omega)

end Go.Proofs.YbulkasyyFmt
