import Derived.Test.YbulkataaFmtWr
import Derived.Stop.CallBack
import Derived.Stop.IfaceNil
import Derived.Stop.Texts
import Derived.Stop.Told
namespace Go.Proofs.YbulkataaFmt
open Go.RowKit Go.Extern.Stop Go.Stop Go.Extern

theorem call37 (args : Array Value) (w : World) : (callFunc 37 args).run Ybaf.prog w = ((FmtStop.errorf #[9, 59] #[25] args).run Ybaf.prog w).andThen fun v w' => .ok (.value v) w' :=
  run_callFunc_extern Ybaf.func37 (by kernel_rfl) (by kernel_rfl) (by kernel_rfl) (by kernel_rfl) args w
theorem guard (name : String) (w : World) : (FmtStop.guard name).run Ybaf.prog w = .ok () w := by kernel_rfl
-- "eNB UE S1AP ID %d is above %d"
theorem fmtE1 : FmtStop.printed? ⟨#[101, 78, 66, 32, 85, 69, 32, 83, 49, 65, 80, 32, 73, 68, 32, 37, 100, 32, 105, 115, 32, 97, 98, 111, 118, 101, 32, 37, 100]⟩ 2 = some [(0, 100, false), (1, 100, false)] := by kernel_rfl
theorem fmtE2 (w : World) : (FmtDoors.printed ⟨#[101, 78, 66, 32, 85, 69, 32, 83, 49, 65, 80, 32, 73, 68, 32, 37, 100, 32, 105, 115, 32, 97, 98, 111, 118, 101, 32, 37, 100]⟩ 2).run Ybaf.prog w = .ok [(0, 100, false), (1, 100, false)] w := by kernel_rfl
def shape3 : List UInt8 := [5, 3, 0, 0, 0, 0, 0, 0, 0, 105, 110, 116]
def shape22 : List UInt8 := [8, 6, 0, 0, 0, 0, 0, 0, 0, 117, 105, 110, 116, 51, 50]
theorem op3_100 (name : String) (x : Int) (w : World) : (FmtStop.operand name true 100 false (.iface 3 (.int .i64 x))).run Ybaf.prog w = .ok (shape3, Go.Extern.Stop.digits 8 (x % 2 ^ 64).toNat) w := by kernel_rfl
theorem op22_100 (name : String) (x : Int) (w : World) : (FmtStop.operand name true 100 false (.iface 22 (.int .u32 x))).run Ybaf.prog w = .ok (shape22, Go.Extern.Stop.digits 8 (x % 2 ^ 64).toNat) w := by kernel_rfl
theorem ptr56 (w : World) : (FmtStop.ptrTo "errors.errorString").run Ybaf.prog w = .ok 56 w := by kernel_rfl
theorem elem56 (w : World) : (elemOf 56).run Ybaf.prog w = .ok 58 w := by kernel_rfl
abbrev fmtE : ByteArray := ⟨#[101, 78, 66, 32, 85, 69, 32, 83, 49, 65, 80, 32, 73, 68, 32, 37, 100, 32, 105, 115, 32, 97, 98, 111, 118, 101, 32, 37, 100]⟩

theorem errorf_enb (F : Interp) (x : Int) (sB : Nat) (w : World) (hF : F.answers w.tape) (h0 : w.cell? ⟨sB, 0, .none⟩ = some (.iface 22 (.int .u32 x))) (h1 : w.cell? ⟨sB, 1, .none⟩ = some (.iface 3 (.int .i64 16777215))) :
    Calls Ybaf.prog 29 #[.string fmtE, .slice (some ⟨sB, 0, .none⟩) 2 2] w fun e w' => (∃ t p, e = .returned (.iface t p)) ∧ Below w.heap.size w w' := by
  have hF' := answers_open hF
  have k1 := call37
  have k2 := guard
  have k3 := fmtE1
  have k4 := fmtE2
  have k5 := op3_100
  have k6 := op22_100
  have k7 := ptr56
  have k8 := elem56
  go_enter Ybaf.func29, Ybaf.ntmps29
  go_wp2_with fail
  go_ret
  exact ⟨⟨_, _, rfl⟩, ((Below.refl w.heap.size w).drew).alloc (Nat.le_refl _) _⟩

theorem fail_enb (F : Interp) (x : Int) (sB b B : Nat) (v : Value) (bs : List Nat) (nb : Nat) (w : World) (hF : F.answers w.tape) (h0 : w.cell? ⟨sB, 0, .none⟩ = some (.iface 22 (.int .u32 x))) (h1 : w.cell? ⟨sB, 1, .none⟩ = some (.iface 3 (.int .i64 16777215)))
    (hW : Wr w b B v bs nb .nilIface) :
    Calls Ybaf.prog 23 #[.pointer (some ⟨b, 0, .none⟩), .string fmtE, .slice (some ⟨sB, 0, .none⟩) 2 2] w fun e w' => e = .returned (.tuple #[]) ∧ (∃ t p, Wr w' b B v bs nb (.iface t p)) ∧ But b B w w' := by
  have c2 := hW.c2
  have hE := errorf_enb F x sB w hF h0 h1
  have HE : Hid (Calls Ybaf.prog 29 #[.string fmtE, .slice (some ⟨sB, 0, .none⟩) 2 2] w fun e w' => (∃ t p, e = .returned (.iface t p)) ∧ Below w.heap.size w w') := hE
  clear hE
  go_enter Ybaf.func23, Ybaf.ntmps23
  go_wp2_with fail
  refine HE.out.mono ?_
  rintro e w1 ⟨⟨t, p, rfl⟩, hb⟩
  have hW1 := hW.later hb
  have c2' := hW1.c2
  have f2' := hW1.f2
  have HW1 : Hid (Wr w1 b B v bs nb .nilIface) := hW1
  clear hW1
  go_wp2_with fail
  go_end0
  exact ⟨rfl, ⟨t, p, HW1.out.set2 _⟩, (But.of_below hb hW.sz).set _ _⟩

theorem align_any (b B : Nat) (v : Value) (bs : List Nat) (nb : Nat) (er : Value) (hl : bs.length ≤ 1000) (w : World) (hW : Wr w b B v bs nb er) :
    Calls Ybaf.prog 31 #[.pointer (some ⟨b, 0, .none⟩)] w fun e w' => e = .returned (.tuple #[]) ∧ Wr w' b B v bs (8 * bs.length) er ∧ But b B w w' := by
  have c0 := hW.c0
  have f1 := hW.f1
  have c1 := hW.c1
  have hs := hW.set1 (8 * bs.length)
  have HS : Hid (Wr (w.setCell ⟨b, 1, .none⟩ (.int .i64 (8 * bs.length : Nat))) b B v bs (8 * bs.length) er) := hs
  clear hs
  obtain ⟨ao, cp, hv⟩ : ∃ ao cp, v = .slice ao bs.length cp := by
    rcases hW.own.2 with ⟨rfl, h⟩ | ⟨g, cap, cur, rfl, _⟩
    · exact ⟨.none, 0, by rw [h]⟩
    · exact ⟨_, _, rfl⟩
  subst hv
  go_enter Ybaf.func31, Ybaf.ntmps31
  go_wp2_with fail
  go_end0
  refine ⟨rfl, ?_, (But.refl _ _ _).set _ _⟩
  have := HS.out
  rwa [show ((8 * bs.length : Nat) : Int) = (bs.length : Int) * 8 by omega] at this

theorem form_1 (w : World) : Calls Ybaf.prog 30 #[.int .u64 1] w fun e w' => e = .returned (.tuple #[.int .i64 1, .bool false, .int .i64 0]) ∧ w' = w := by
  have e1 : Lib.bitLen (Int.toNat 1) = 1 := by decide +kernel
  have l1 := Ybaf.bits_Len64 1 w (by decide) (by decide)
  rw [e1] at l1
  have L1 : Hid (Calls Ybaf.prog 32 #[.int .u64 1] w fun e w' => e = .returned (.int .i64 (1 : Nat)) ∧ w' = w) := l1
  clear l1 e1
  go_enter Ybaf.func30, Ybaf.ntmps30
  go_wp2_with (go_at_call 32; refine L1.out.mono ?_; rintro e w' ⟨rfl, rfl⟩)
  exact bodyPost_ret (v := .tuple #[.int .i64 1, .bool false, .int .i64 0]) (by simp [results, Ybaf.results30, go_sem]) rfl ⟨rfl, rfl⟩
theorem form_32 (w : World) : Calls Ybaf.prog 30 #[.int .u64 4294967295] w fun e w' => e = .returned (.tuple #[.int .i64 2, .bool false, .int .i64 4]) ∧ w' = w := by
  have e1 : Lib.bitLen (Int.toNat 4294967295) = 32 := by decide +kernel
  have e2 : Lib.bitLen (Int.toNat 3) = 2 := by decide +kernel
  have l1 := Ybaf.bits_Len64 4294967295 w (by decide) (by decide)
  have l2 := Ybaf.bits_Len 3 w (by decide) (by decide)
  rw [e1] at l1
  rw [e2] at l2
  have L1 : Hid (Calls Ybaf.prog 32 #[.int .u64 4294967295] w fun e w' => e = .returned (.int .i64 (32 : Nat)) ∧ w' = w) := l1
  have L2 : Hid (Calls Ybaf.prog 38 #[.int .u64 3] w fun e w' => e = .returned (.int .i64 (2 : Nat)) ∧ w' = w) := l2
  clear l1 l2 e1 e2
  go_enter Ybaf.func30, Ybaf.ntmps30
  go_wp2_with (first | (go_at_call 32; refine L1.out.mono ?_; rintro e w' ⟨rfl, rfl⟩) | (go_at_call 38; refine L2.out.mono ?_; rintro e w' ⟨rfl, rfl⟩))
  exact bodyPost_ret (v := .tuple #[.int .i64 2, .bool false, .int .i64 4]) (by simp [results, Ybaf.results30, go_sem]) rfl ⟨rfl, rfl⟩
theorem form_24 (w : World) : Calls Ybaf.prog 30 #[.int .u64 16777215] w fun e w' => e = .returned (.tuple #[.int .i64 2, .bool false, .int .i64 3]) ∧ w' = w := by
  have e1 : Lib.bitLen (Int.toNat 16777215) = 24 := by decide +kernel
  have e2 : Lib.bitLen (Int.toNat 2) = 2 := by decide +kernel
  have l1 := Ybaf.bits_Len64 16777215 w (by decide) (by decide)
  have l2 := Ybaf.bits_Len 2 w (by decide) (by decide)
  rw [e1] at l1
  rw [e2] at l2
  have L1 : Hid (Calls Ybaf.prog 32 #[.int .u64 16777215] w fun e w' => e = .returned (.int .i64 (24 : Nat)) ∧ w' = w) := l1
  have L2 : Hid (Calls Ybaf.prog 38 #[.int .u64 2] w fun e w' => e = .returned (.int .i64 (2 : Nat)) ∧ w' = w) := l2
  clear l1 l2 e1 e2
  go_enter Ybaf.func30, Ybaf.ntmps30
  go_wp2_with (first | (go_at_call 32; refine L1.out.mono ?_; rintro e w' ⟨rfl, rfl⟩) | (go_at_call 38; refine L2.out.mono ?_; rintro e w' ⟨rfl, rfl⟩))
  exact bodyPost_ret (v := .tuple #[.int .i64 2, .bool false, .int .i64 3]) (by simp [results, Ybaf.results30, go_sem]) rfl ⟨rfl, rfl⟩

/-- how many octets hold x -/
def octs (x : Nat) : Nat := max 1 ((Lib.bitLen x + 7) / 8)
/-- the writer's state behind putOffset over a wide range -/
def offP (x : Nat) (s : List Nat × Nat) : List Nat × Nat :=
  let s1 := putP (octs x - 1) 2 s
  putP x (8 * octs x) (s1.1, 8 * s1.1.length)

/-- a state of the writer that holds its bits -/
structure Ok (s : List Nat × Nat) (n : Nat) : Prop where
  a : s.2 ≤ n
  b : s.1.length ≤ n
  c : s.2 % 8 ≠ 0 → s.1 ≠ []
  d : ∀ z ∈ s.1, z < 256

theorem bit1_ok {x i n : Nat} {s : List Nat × Nat} (h : Ok s n) : Ok (bit1 x i s) (n + 1) := by
  obtain ⟨bs, nb⟩ := s
  obtain ⟨h1, h2, h3, h4⟩ := h
  simp only at h1 h2 h3 h4
  obtain ⟨L, y, hE, hl⟩ : ∃ L y, (if nb % 8 = 0 then bs ++ [0] else bs) = L ++ [y] ∧ L.length ≤ n := by
    by_cases h8 : nb % 8 = 0
    · exact ⟨bs, 0, if_pos h8, h2⟩
    · have hne := h3 h8
      refine ⟨bs.dropLast, bs.getLast hne, (if_neg h8).trans (List.dropLast_concat_getLast hne).symm, by simp; omega⟩
  have hz : ∀ z ∈ L ++ [y], z < 256 := fun z hz => by
    rw [← hE] at hz
    split at hz
    · rcases List.mem_append.1 hz with h | h
      · exact h4 z h
      · simp at h; omega
    · exact h4 z hz
  by_cases hb : x / 2 ^ i % 2 = 1
  · have e : bit1 x i (bs, nb) = (L ++ [y ||| 128 / 2 ^ (nb % 8)], nb + 1) := by simp only [bit1]; rw [hE, if_pos hb]; simp
    rw [e]
    exact ⟨by simp; omega, by simp; omega, by simp, (rel_one (x := x) (k := i) hE hz hb).out.2⟩
  · have e : bit1 x i (bs, nb) = (L ++ [y], nb + 1) := by simp only [bit1]; rw [hE, if_neg hb]
    rw [e]
    exact ⟨by simp; omega, by simp; omega, by simp, hz⟩
theorem putP_ok {x : Nat} : ∀ (n m : Nat) (s : List Nat × Nat), Ok s m → Ok (putP x n s) (m + n)
  | 0, _, _, h => h
  | n + 1, m, s, h => by
    have := putP_ok (x := x) n (m + 1) _ (bit1_ok (x := x) (i := n) h)
    rw [show m + (n + 1) = m + 1 + n by omega]
    exact this

theorem octs_le (x : Nat) (h : x < 4294967296) : octs x ≤ 4 := by
  have := Lib.bitLen_le x 32 (by omega) h
  unfold octs; omega
theorem octs_pos (x : Nat) : 1 ≤ octs x := by unfold octs; omega

set_option maxHeartbeats 400000 in
theorem putOff_1 (b B : Nat) (v : Value) (bs : List Nat) (nb : Nat) (hO : Ok (bs, nb) 100) (w : World) (hW : Wr w b B v bs nb .nilIface) :
    Calls Ybaf.prog 24 #[.pointer (some ⟨b, 0, .none⟩), .int .u64 0, .int .u64 1] w fun e w' => e = .returned (.tuple #[]) ∧ (∃ v', Wr w' b B v' (putP 0 1 (bs, nb)).1 (putP 0 1 (bs, nb)).2 .nilIface) ∧ But b B w w' := by
  have hP := putBits_any 0 1 b B (by omega) (by omega) v bs nb (by have := hO.a; simp at this; omega) (by have := hO.b; simp at this; omega) w hW hO.c hO.d
  have HP : Hid (Calls Ybaf.prog 22 #[.pointer (some ⟨b, 0, .none⟩), .int .u64 0, .int .i64 1] w fun e w' => e = .returned (.tuple #[]) ∧ (∃ v', Wr w' b B v' (putP 0 1 (bs, nb)).1 (putP 0 1 (bs, nb)).2 .nilIface) ∧ But b B w w') := hP
  clear hP
  go_enter Ybaf.func24, Ybaf.ntmps24
  go_wp2_with (first | (go_at_call 30; refine (form_1 _).mono ?_; rintro e w' ⟨rfl, rfl⟩) | (go_at_call 22; refine HP.out.mono ?_; rintro e w' ⟨rfl, hw, hbut⟩))
  exact bodyPost_ret (results_none Ybaf.results24 _ _ _) rfl ⟨rfl, hw, hbut⟩

set_option maxHeartbeats 400000 in
theorem putOff_wide (x span b B M : Nat) (hx : x < 4294967296) (hM : ∀ w, Calls Ybaf.prog 30 #[.int .u64 span] w fun e w' => e = .returned (.tuple #[.int .i64 2, .bool false, .int .i64 M]) ∧ w' = w) (hM0 : M ≠ 0) (v : Value) (bs : List Nat) (nb : Nat) (hO : Ok (bs, nb) 100) (w : World) (hW : Wr w b B v bs nb .nilIface) :
    Calls Ybaf.prog 24 #[.pointer (some ⟨b, 0, .none⟩), .int .u64 x, .int .u64 span] w fun e w' => e = .returned (.tuple #[]) ∧ (∃ v', Wr w' b B v' (offP x (bs, nb)).1 (offP x (bs, nb)).2 .nilIface) ∧ But b B w w' := by
  have HM : Hid (∀ w, Calls Ybaf.prog 30 #[.int .u64 span] w fun e w' => e = .returned (.tuple #[.int .i64 2, .bool false, .int .i64 M]) ∧ w' = w) := hM
  have HO : Hid (Ok (bs, nb) 100) := hO
  clear hM hO
  have tM : ((M : Int) == 0) = false := beq_eq_false_iff_ne.2 (by omega)
  have hL := fun w => Ybaf.bits_Len64 (x : Int) w (by omega) (by omega)
  have e1 : ((x : Int)).toNat = x := by omega
  rw [e1] at hL
  have HL : Hid (∀ w, Calls Ybaf.prog 32 #[.int .u64 (x : Int)] w fun e w' => e = .returned (.int .i64 (Lib.bitLen x)) ∧ w' = w) := hL
  clear hL e1
  have hbl := Lib.bitLen_le x 32 (by omega) hx
  go_enter Ybaf.func24, Ybaf.ntmps24
  go_upto_region 6 with (first | (go_at_call 30; refine (HM.out _).mono ?_; rintro e w' ⟨rfl, rfl⟩) | (go_at_call 32; refine (HL.out _).mono ?_; rintro e w' ⟨rfl, rfl⟩))
  have eo : max 1 ((((Lib.bitLen x : Nat) : Int) + 7) / 8) = ((octs x : Nat) : Int) := by unfold octs; omega
  rw [eo]
  have o1 := octs_pos x
  have o4 := octs_le x hx
  obtain ⟨q, hq⟩ : ∃ q, octs x = q + 1 := ⟨octs x - 1, by omega⟩
  have hP := putBits_any q 2 b B (by omega) (by omega) v bs nb (by have := HO.out.a; simp at this; omega) (by have := HO.out.b; simp at this; omega) w' hW HO.out.c HO.out.d
  have HP : Hid (Calls Ybaf.prog 22 #[.pointer (some ⟨b, 0, .none⟩), .int .u64 q, .int .i64 2] w' fun e w1 => e = .returned (.tuple #[]) ∧ (∃ v', Wr w1 b B v' (putP q 2 (bs, nb)).1 (putP q 2 (bs, nb)).2 .nilIface) ∧ But b B w' w1) := hP
  have HQ : Hid (octs x = q + 1) := hq
  have h1 := putP_ok (x := q) 2 100 _ HO.out
  obtain ⟨s1, hs1⟩ : ∃ s1, s1 = putP q 2 (bs, nb) := ⟨_, rfl⟩
  rw [← hs1] at h1
  have H1 : Hid (Ok s1 102) := h1
  have HS1 : Hid (s1 = putP q 2 (bs, nb)) := hs1
  rw [hq]
  have hq3 : q ≤ 3 := by omega
  clear hP hq hs1 h1 eo o1 o4
  go_upto_region 7 with (go_at_call 22; refine HP.out.mono ?_; rintro e w1 ⟨rfl, ⟨v1, hw1⟩, hbut1⟩; rw [← HS1.out] at hw1)
  go_upto_region 8 with (go_at_call 31; refine (align_any b B v1 s1.1 s1.2 .nilIface (by have := H1.out.b; omega) w1 hw1).mono ?_; rintro e w2 ⟨rfl, hw2, hbut2⟩)
  have hP := putBits_any x (8 * (q + 1)) b B (by omega) (by omega) v1 s1.1 (8 * s1.1.length) (by have := H1.out.b; omega) (by have := H1.out.b; omega) w2 hw2 (by omega) H1.out.d
  rw [show ((8 * (q + 1) : Nat) : Int) = 8 * ((q : Int) + 1) by omega] at hP
  have HP2 : Hid (Calls Ybaf.prog 22 #[.pointer (some ⟨b, 0, .none⟩), .int .u64 x, .int .i64 (8 * ((q : Int) + 1))] w2 fun e w1 => e = .returned (.tuple #[]) ∧ (∃ v', Wr w1 b B v' (putP x (8 * (q + 1)) (s1.1, 8 * s1.1.length)).1 (putP x (8 * (q + 1)) (s1.1, 8 * s1.1.length)).2 .nilIface) ∧ But b B w2 w1) := hP
  clear hP
  go_wp2_with (go_at_call 22; refine HP2.out.mono ?_; rintro e w3 ⟨rfl, hw3, hbut3⟩)
  go_end0
  refine ⟨rfl, ?_, (hbut1.trans hbut2).trans hbut3⟩
  have ep : offP x (bs, nb) = putP x (8 * (q + 1)) (s1.1, 8 * s1.1.length) := by unfold offP; rw [HQ.out, HS1.out]; simp
  rw [ep]
  exact hw3

theorem putBool_f (b B : Nat) (v : Value) (bs : List Nat) (nb : Nat) (hO : Ok (bs, nb) 100) (w : World) (hW : Wr w b B v bs nb .nilIface) :
    Calls Ybaf.prog 10 #[.pointer (some ⟨b, 0, .none⟩), .bool false] w fun e w' => e = .returned (.tuple #[]) ∧ (∃ v', Wr w' b B v' (putP 0 1 (bs, nb)).1 (putP 0 1 (bs, nb)).2 .nilIface) ∧ But b B w w' := by
  have hP := putBits_any 0 1 b B (by omega) (by omega) v bs nb (by have := hO.a; simp at this; omega) (by have := hO.b; simp at this; omega) w hW hO.c hO.d
  have HP : Hid (Calls Ybaf.prog 22 #[.pointer (some ⟨b, 0, .none⟩), .int .u64 0, .int .i64 1] w fun e w' => e = .returned (.tuple #[]) ∧ (∃ v', Wr w' b B v' (putP 0 1 (bs, nb)).1 (putP 0 1 (bs, nb)).2 .nilIface) ∧ But b B w w') := hP
  clear hP
  go_enter Ybaf.func10, Ybaf.ntmps10
  go_wp2_with (go_at_call 22; refine HP.out.mono ?_; rintro e w' ⟨rfl, hw, hbut⟩)
  go_end0
  exact ⟨rfl, hw, hbut⟩

theorem putCons_001 (b B : Nat) (v : Value) (bs : List Nat) (nb : Nat) (hO : Ok (bs, nb) 100) (w : World) (hW : Wr w b B v bs nb .nilIface) :
    Calls Ybaf.prog 11 #[.pointer (some ⟨b, 0, .none⟩), .int .i64 0, .int .i64 0, .int .i64 1] w fun e w' => e = .returned (.tuple #[]) ∧ (∃ v', Wr w' b B v' (putP 0 1 (bs, nb)).1 (putP 0 1 (bs, nb)).2 .nilIface) ∧ But b B w w' := by
  have HP : Hid (Calls Ybaf.prog 24 #[.pointer (some ⟨b, 0, .none⟩), .int .u64 0, .int .u64 1] w fun e w' => e = .returned (.tuple #[]) ∧ (∃ v', Wr w' b B v' (putP 0 1 (bs, nb)).1 (putP 0 1 (bs, nb)).2 .nilIface) ∧ But b B w w') := putOff_1 b B v bs nb hO w hW
  go_enter Ybaf.func11, Ybaf.ntmps11
  go_wp2_with (go_at_call 24; refine HP.out.mono ?_; rintro e w' ⟨rfl, hw, hbut⟩)
  go_end0
  exact ⟨rfl, hw, hbut⟩

theorem putMME_any (x b B : Nat) (hx : x < 4294967296) (v : Value) (bs : List Nat) (nb : Nat) (hO : Ok (bs, nb) 100) (w : World) (hW : Wr w b B v bs nb .nilIface) :
    Calls Ybaf.prog 12 #[.pointer (some ⟨b, 0, .none⟩), .int .u32 x] w fun e w' => e = .returned (.tuple #[]) ∧ (∃ v', Wr w' b B v' (offP x (bs, nb)).1 (offP x (bs, nb)).2 .nilIface) ∧ But b B w w' := by
  have HP : Hid (Calls Ybaf.prog 24 #[.pointer (some ⟨b, 0, .none⟩), .int .u64 x, .int .u64 4294967295] w fun e w' => e = .returned (.tuple #[]) ∧ (∃ v', Wr w' b B v' (offP x (bs, nb)).1 (offP x (bs, nb)).2 .nilIface) ∧ But b B w w') :=
    putOff_wide x 4294967295 b B 4 hx form_32 (by decide) v bs nb hO w hW
  go_enter Ybaf.func12, Ybaf.ntmps12
  go_wp2_with (go_at_call 24; refine HP.out.mono ?_; rintro e w' ⟨rfl, hw, hbut⟩)
  go_end0
  exact ⟨rfl, hw, hbut⟩

theorem putENB_ok (x b B : Nat) (hx : x < 16777216) (v : Value) (bs : List Nat) (nb : Nat) (hO : Ok (bs, nb) 100) (w : World) (hW : Wr w b B v bs nb .nilIface) :
    Calls Ybaf.prog 13 #[.pointer (some ⟨b, 0, .none⟩), .int .u32 x] w fun e w' => e = .returned (.tuple #[]) ∧ (∃ v', Wr w' b B v' (offP x (bs, nb)).1 (offP x (bs, nb)).2 .nilIface) ∧ But b B w w' := by
  have HP : Hid (Calls Ybaf.prog 24 #[.pointer (some ⟨b, 0, .none⟩), .int .u64 x, .int .u64 16777215] w fun e w' => e = .returned (.tuple #[]) ∧ (∃ v', Wr w' b B v' (offP x (bs, nb)).1 (offP x (bs, nb)).2 .nilIface) ∧ But b B w w') :=
    putOff_wide x 16777215 b B 3 (by omega) form_24 (by decide) v bs nb hO w hW
  have hx' : ¬ (16777215 : Int) < (x : Int) := by omega
  go_enter Ybaf.func13, Ybaf.ntmps13
  go_wp2_with (go_at_call 24; refine HP.out.mono ?_; rintro e w' ⟨rfl, hw, hbut⟩)
  go_end0
  exact ⟨rfl, hw, hbut⟩

theorem putENB_bad (F : Interp) (x b B : Nat) (hx : 16777215 < x) (v : Value) (bs : List Nat) (nb : Nat) (w : World) (hF : F.answers w.tape) (hW : Wr w b B v bs nb .nilIface) :
    Calls Ybaf.prog 13 #[.pointer (some ⟨b, 0, .none⟩), .int .u32 x] w fun e w' => e = .returned (.tuple #[]) ∧ (∃ t p, Wr w' b B v bs nb (.iface t p)) ∧ But b B w w' := by
  have hx' : (16777215 : Int) < (x : Int) := by omega
  have HW : Hid (Wr w b B v bs nb .nilIface) := hW
  have HF : Hid (F.answers w.tape) := hF
  clear hW hF
  go_enter Ybaf.func13, Ybaf.ntmps13
  go_wp2_with fail
  have hW1 := HW.out.later ((Below.refl _ _).alloc (Nat.le_refl _) (.cells #[.iface 22 (.int .u32 (x : Int)), .iface 3 (.int .i64 16777215)] 20))
  refine (fail_enb F (x : Int) w.heap.size b B v bs nb (w.alloc (.cells #[.iface 22 (.int .u32 (x : Int)), .iface 3 (.int .i64 16777215)] 20)) HF.out (by simp) (by simp) hW1).mono ?_
  rintro e w1 ⟨rfl, hw, hbut⟩
  go_wp2_with fail
  exact bodyPost_ret (results_none Ybaf.results13 _ _ _) rfl ⟨rfl, hw, ((But.refl _ _ _).alloc HW.out.sz _).trans hbut⟩
end Go.Proofs.YbulkataaFmt
