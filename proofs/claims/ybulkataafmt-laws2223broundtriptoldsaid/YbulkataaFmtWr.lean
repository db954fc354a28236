import Derived.Test.YbulkataaFmtRows
import Derived.Test.YbulkataaFmtShelf
import Derived.WalkKit
import Derived.WalkSpells
import Derived.WalkLawsBesides
import Derived.Deep.MidRow
import Derived.Deep.QuietTactic
import Derived.BigQuiet
import Derived.BigRegion
import Derived.Deep.RegionHeld3
import Derived.Deep.CutBlock
import Derived.Maps.OwnSet
import Derived.Laws.BitsAllLaws
import Derived.Lib.Zigzag
namespace Go.Proofs.YbulkataaFmt
open Go.RowKit

theorem wp_gen {P : Program} {c : Code} {Q : Exit → Act → World → Prop} {a : Act} {X : World} (R : World → Prop) (hX : R X) (h : ∀ W, R W → Code.wp P c Q a W) : Code.wp P c Q a X := h X hX

/-- below block B the world w' is as w was, but for block b -/
structure But (b B : Nat) (w w' : World) : Prop where
  os : w'.os = w.os
  tape : w'.tape = w.tape
  output : w'.output = w.output
  size : w.heap.size ≤ w'.heap.size
  block : ∀ k, k < B → k ≠ b → w'.heap[k]? = w.heap[k]?

theorem But.refl (b B : Nat) (w : World) : But b B w w := ⟨rfl, rfl, rfl, Nat.le_refl _, fun _ _ _ => rfl⟩
theorem But.trans {b B : Nat} {x y z : World} (h : But b B x y) (k : But b B y z) : But b B x z :=
  ⟨k.os.trans h.os, k.tape.trans h.tape, k.output.trans h.output, Nat.le_trans h.size k.size, fun i hi hb => (k.block i hi hb).trans (h.block i hi hb)⟩
theorem But.of_below {b B B' : Nat} {w w' : World} (h : Below B' w w') (hB : B ≤ B') : But b B w w' :=
  ⟨h.os, h.tape, h.output, h.size, fun k hk _ => h.block k (Nat.lt_of_lt_of_le hk hB)⟩
theorem But.below {b B : Nat} {w w' : World} (h : But b B w w') (hB : b ≤ B) : Below b w w' :=
  ⟨h.os, h.tape, h.output, h.size, fun k hk => h.block k (by omega) (by omega)⟩
theorem But.set {b B : Nat} {x w : World} (h : But b B x w) (j : Nat) (u : Value) : But b B x (w.setCell ⟨b, j, .none⟩ u) :=
  h.trans ⟨rfl, rfl, rfl, by simp [World.setCell], fun k _ hb => Below.heap_setCell _ _ _ _ hb⟩
theorem But.setFar {b B : Nat} {x w : World} (h : But b B x w) {p : Addr} (hp : B ≤ p.block) (u : Value) : But b B x (w.setCell p u) :=
  h.trans ⟨rfl, rfl, rfl, by simp [World.setCell], fun k hk _ => Below.heap_setCell _ _ _ _ (by omega)⟩
theorem But.alloc {b B : Nat} {x w : World} (h : But b B x w) (hB : B ≤ w.heap.size) (o : Obj) : But b B x (w.alloc o) :=
  h.trans ⟨rfl, rfl, rfl, by simp, fun k hk _ => Below.heap_alloc _ _ _ (by omega)⟩
theorem But.grown {b B : Nat} {x w w' : World} {row : Option Nat} (h : But b B x w) (hg : w.grownBy w' row) (hB : B ≤ w.heap.size) (hr : ∀ k, row = some k → B ≤ k) : But b B x w' :=
  h.trans ⟨hg.os, hg.tape, hg.output, hg.size, fun k hk _ => hg.block k (by omega) (fun e => by have := hr k e.symm; omega)⟩
theorem But.cell {b B : Nat} {w w' : World} (h : But b B w w') {p : Addr} (hp : p.block < B) (hb : p.block ≠ b) : w'.cell? p = w.cell? p := World.cell?_of_block (h.block _ hp hb)
theorem But.frozen {b B : Nat} {w w' : World} (h : But b B w w') {p : Addr} (hp : p.block < B) (hb : p.block ≠ b) : w'.frozen? p = w.frozen? p := World.frozen?_of_block (h.block _ hp hb)

def u8s (bs : List Nat) : List Value := bs.map fun (x : Nat) => .int .u8 (x : Nat)

/-- the writer at block b: its bytes bs in a row of block number B or more, its bits nb, its error er -/
structure Wr (w : World) (b B : Nat) (v : Value) (bs : List Nat) (nb : Nat) (er : Value) : Prop where
  c0 : w.cell? ⟨b, 0, .none⟩ = some v
  own : w.ownsRow B 5 1 v bs.length (u8s bs)
  c1 : w.cell? ⟨b, 1, .none⟩ = some (.int .i64 nb)
  c2 : w.cell? ⟨b, 2, .none⟩ = some er
  f0 : w.frozen? ⟨b, 0, .none⟩ = false
  f1 : w.frozen? ⟨b, 1, .none⟩ = false
  f2 : w.frozen? ⟨b, 2, .none⟩ = false
  lt : b < B
  sz : B ≤ w.heap.size

theorem ownsRow_later {w w' : World} {B : Nat} {v : Value} {n : Nat} {xs : List Value} (h : w.ownsRow B 5 1 v n xs) (hb : Below w.heap.size w w') : w'.ownsRow B 5 1 v n xs := by
  refine ⟨h.1, ?_⟩
  rcases h.2 with hn | ⟨g, cap, cur, hv, hbg, hg, rest⟩
  · exact .inl hn
  · exact .inr ⟨g, cap, cur, hv, hbg, (hb.block _ (lt_of_block hg)).trans hg, rest⟩

theorem Wr.later {w w' : World} {b B : Nat} {v : Value} {bs : List Nat} {nb : Nat} {er : Value} (h : Wr w b B v bs nb er) (hb : Below w.heap.size w w') : Wr w' b B v bs nb er := by
  have hlt := h.lt
  have hsz := h.sz
  have h1 : b < w.heap.size := by omega
  exact ⟨(hb.cell h1).trans h.c0, ownsRow_later h.own hb, (hb.cell h1).trans h.c1, (hb.cell h1).trans h.c2, (hb.frozen h1).trans h.f0, (hb.frozen h1).trans h.f1, (hb.frozen h1).trans h.f2, h.lt, by have := hb.size; omega⟩
theorem Wr.set1 {w : World} {b B : Nat} {v : Value} {bs : List Nat} {nb : Nat} {er : Value} (h : Wr w b B v bs nb er) (nb' : Nat) : Wr (w.setCell ⟨b, 1, .none⟩ (.int .i64 nb')) b B v bs nb' er :=
  ⟨(World.cell?_setCell_other _ _ _ _ (by simp)).trans h.c0, ownsRow_setCell_below h.own h.lt _, World.cell?_setCell_same _ _ _ h.c1, (World.cell?_setCell_other _ _ _ _ (by simp)).trans h.c2, (World.frozen?_setCell _ _ _ _).trans h.f0, (World.frozen?_setCell _ _ _ _).trans h.f1, (World.frozen?_setCell _ _ _ _).trans h.f2, h.lt, by simpa [World.setCell] using h.sz⟩
theorem Wr.set2 {w : World} {b B : Nat} {v : Value} {bs : List Nat} {nb : Nat} {er : Value} (h : Wr w b B v bs nb er) (er' : Value) : Wr (w.setCell ⟨b, 2, .none⟩ er') b B v bs nb er' :=
  ⟨(World.cell?_setCell_other _ _ _ _ (by simp)).trans h.c0, ownsRow_setCell_below h.own h.lt _, (World.cell?_setCell_other _ _ _ _ (by simp)).trans h.c1, World.cell?_setCell_same _ _ _ h.c2, (World.frozen?_setCell _ _ _ _).trans h.f0, (World.frozen?_setCell _ _ _ _).trans h.f1, (World.frozen?_setCell _ _ _ _).trans h.f2, h.lt, by simpa [World.setCell] using h.sz⟩
/-- a grown buffer, stored -/
theorem Wr.grow {w w1 : World} {b B : Nat} {v v' : Value} {bs bs' : List Nat} {nb : Nat} {er : Value} (h : Wr w b B v bs nb er) {o : Obj} (hg : (w.alloc o).grownBy w1 v.ownBlock) (hown : w1.ownsRow B 5 1 v' bs'.length (u8s bs')) : Wr (w1.setCell ⟨b, 0, .none⟩ v') b B v' bs' nb er := by
  have hlt := h.lt
  have hsz := h.sz
  have hne : some b ≠ v.ownBlock := fun e => by
    rcases h.own.2 with ⟨rfl, _⟩ | ⟨g, cap, cur, rfl, hbg, _⟩
    · simp [Value.ownBlock] at e
    · simp [Value.ownBlock] at e; omega
  have hblk : w1.heap[b]? = w.heap[b]? := (hg.block b (by simp; omega) hne).trans (Below.heap_alloc _ _ _ (by omega))
  have ce : ∀ j, w1.cell? ⟨b, j, .none⟩ = w.cell? ⟨b, j, .none⟩ := fun j => World.cell?_of_block hblk
  have fe : ∀ j, w1.frozen? ⟨b, j, .none⟩ = w.frozen? ⟨b, j, .none⟩ := fun j => World.frozen?_of_block hblk
  have hs := hg.size
  simp at hs
  exact ⟨World.cell?_setCell_same _ _ _ ((ce 0).trans h.c0), ownsRow_setCell_below hown h.lt _, ((World.cell?_setCell_other _ _ _ _ (by simp)).trans (ce 1)).trans h.c1, ((World.cell?_setCell_other _ _ _ _ (by simp)).trans (ce 2)).trans h.c2, ((World.frozen?_setCell _ _ _ _).trans (fe 0)).trans h.f0, ((World.frozen?_setCell _ _ _ _).trans (fe 1)).trans h.f1, ((World.frozen?_setCell _ _ _ _).trans (fe 2)).trans h.f2, h.lt, by simp [World.setCell]; omega⟩
theorem Wr.grow_but {w w1 : World} {b B : Nat} {v v' : Value} {bs : List Nat} {nb : Nat} {er : Value} (h : Wr w b B v bs nb er) {o : Obj} (hg : (w.alloc o).grownBy w1 v.ownBlock) : But b B w (w1.setCell ⟨b, 0, .none⟩ v') := by
  have hsz := h.sz
  refine But.set (((But.refl b B w).alloc h.sz o).grown hg (by simp; omega) (fun k hk => ?_)) _ _
  rcases h.own.2 with ⟨rfl, _⟩ | ⟨g, cap, cur, rfl, hbg, _⟩
  · simp [Value.ownBlock] at hk
  · simp [Value.ownBlock] at hk; omega
/-- the last byte, stored -/
theorem Wr.last {w : World} {b B g cap : Nat} {bs : List Nat} {x y : Nat} {nb : Nat} {er : Value} (h : Wr w b B (.slice (some ⟨g, 0, .none⟩) (bs.length + 1 : Nat) cap) (bs ++ [x]) nb er) :
    Wr (w.setCell ⟨g, bs.length, .none⟩ (.int .u8 y)) b B (.slice (some ⟨g, 0, .none⟩) (bs.length + 1 : Nat) cap) (bs ++ [y]) nb er ∧ But b B w (w.setCell ⟨g, bs.length, .none⟩ (.int .u8 y)) := by
  have hlt := h.lt
  rcases h.own.2 with ⟨hv, _⟩ | ⟨g', cap', cur, hv, hbg, hg, h1, h2, h3, h4⟩
  · simp at hv
  simp at hv
  obtain ⟨rfl, rfl⟩ := hv
  have ne : ∀ j, (w.setCell ⟨g, bs.length, .none⟩ (.int .u8 y)).cell? ⟨b, j, .none⟩ = w.cell? ⟨b, j, .none⟩ := fun j => World.cell?_setCell_other _ _ _ _ (fun e => by have := congrArg Addr.block e; simp at this; omega)
  refine ⟨⟨(ne 0).trans h.c0, ⟨by simp [u8s], .inr ⟨g, cap, _, by simp, hbg, heap_setCell_same w g bs.length cur 5 _ hg, by simpa using h1, h2, by simpa using h3, ?_⟩⟩, (ne 1).trans h.c1, (ne 2).trans h.c2, (World.frozen?_setCell _ _ _ _).trans h.f0, (World.frozen?_setCell _ _ _ _).trans h.f1, (World.frozen?_setCell _ _ _ _).trans h.f2, h.lt, by simpa [World.setCell] using h.sz⟩, (But.refl _ _ _).setFar (by simpa using hbg) _⟩
  simp [u8s] at h4 h1 ⊢
  rw [List.take_set, h4]
  simp

theorem Wr.form {w : World} {b B : Nat} {v : Value} {bs : List Nat} {nb : Nat} {er : Value} (h : Wr w b B v bs nb er) (hn : bs ≠ []) : ∃ g cap, v = .slice (some ⟨g, 0, .none⟩) bs.length cap ∧ B ≤ g ∧ (∀ j x, bs[j]? = some x → w.cell? ⟨g, j, .none⟩ = some (.int .u8 (x : Nat))) ∧ ∀ j, w.frozen? ⟨g, j, .none⟩ = false := by
  rcases h.own.2 with ⟨_, hv⟩ | ⟨g', cap', cur, hv, hbg, hg, h1, h2, h3, h4⟩
  · exact absurd (List.length_eq_zero_iff.1 hv) hn
  refine ⟨g', cap', hv, hbg, fun j x hx => ?_, fun j => frozen_of_row _ _ _ _ _ hg⟩
  have hj : j < bs.length := (List.getElem?_eq_some_iff.1 hx).1
  rw [cell_of_row _ _ _ _ _ _ hg]
  have : (cur.toList.take (bs.length * 1))[j]? = cur.toList[j]? := by rw [List.getElem?_take, if_pos (by omega)]
  rw [← Array.getElem?_toList, ← this, h4]
  simp [u8s, hx]

/-- one bit, on the plain side -/
def bit1 (x i : Nat) (s : List Nat × Nat) : List Nat × Nat :=
  let bs := if s.2 % 8 = 0 then s.1 ++ [0] else s.1
  (if x / 2 ^ i % 2 = 1 then bs.dropLast ++ [bs.getLastD 0 ||| 128 / 2 ^ (s.2 % 8)] else bs, s.2 + 1)
/-- the n low bits of x -/
def putP (x : Nat) : Nat → List Nat × Nat → List Nat × Nat
  | 0, s => s
  | n + 1, s => putP x n (bit1 x n s)

theorem Ybaf.info5 : (Ybaf.prog.info? 5).map (fun i => (i.zero, i.size, i.bytes)) = some (some (.int .u8 0), 1, 1) := by kernel_rfl

theorem Wr.grow_facts {w w1 : World} {b B : Nat} {v v' : Value} {bs bs' : List Nat} {nb : Nat} {er : Value} (h : Wr w b B v bs nb er) {o : Obj} (hg : (w.alloc o).grownBy w1 v.ownBlock) (hown : w1.ownsRow B 5 1 v' bs'.length (u8s bs')) (hne : bs' ≠ []) :
    ∃ g cap, v' = .slice (some ⟨g, 0, .none⟩) bs'.length cap ∧ w1.cell? ⟨b, 0, .none⟩ = some v ∧ w1.frozen? ⟨b, 0, .none⟩ = false := by
  have hlt := h.lt
  have hsz := h.sz
  have hneb : some b ≠ v.ownBlock := fun e => by
    rcases h.own.2 with ⟨rfl, _⟩ | ⟨g, cap, cur, rfl, hbg, _⟩
    · simp [Value.ownBlock] at e
    · simp [Value.ownBlock] at e; omega
  have hblk : w1.heap[b]? = w.heap[b]? := (hg.block b (by simp; omega) hneb).trans (Below.heap_alloc _ _ _ (by omega))
  rcases hown.2 with ⟨_, hv⟩ | ⟨g, cap, cur, hv, _⟩
  · exact absurd (List.length_eq_zero_iff.1 hv) hne
  · exact ⟨g, cap, hv, (World.cell?_of_block hblk).trans h.c0, (World.frozen?_of_block hblk).trans h.f0⟩

theorem own_snoc {w : World} {B : Nat} {v : Value} {bs : List Nat} {x : Nat} (h : w.ownsRow B 5 1 v (bs.length + 1) (u8s bs ++ [.int .u8 x])) : w.ownsRow B 5 1 v (bs ++ [x]).length (u8s (bs ++ [x])) := by
  simpa [u8s] using h
theorem Wr.last_facts {w : World} {b B g cap : Nat} {bs : List Nat} {x nb : Nat} {er : Value} (h : Wr w b B (.slice (some ⟨g, 0, .none⟩) (bs.length + 1 : Nat) cap) (bs ++ [x]) nb er) :
    w.cell? ⟨g, bs.length, .none⟩ = some (.int .u8 (x : Nat)) ∧ w.frozen? ⟨g, bs.length, .none⟩ = false ∧ ¬ g = b := by
  obtain ⟨g', cap', hv, hB, hc, hf⟩ := h.form (by simp)
  simp at hv
  obtain ⟨rfl, rfl⟩ := hv
  have := h.lt
  exact ⟨hc _ _ (by simp), hf _, by omega⟩
theorem one_cell_new (wr : World) (x : Int) : ∀ (j : Nat) (u : Value), [Value.int .u8 x][j]? = some u → (wr.alloc (.cells #[.int .u8 x] 5)).cell? (Addr.add ⟨wr.heap.size, 0, .none⟩ j) = some u := fun j u hj => by
  match j, hj with
  | 0, hj => simp at hj; subst hj; simp [Addr.add]

theorem and_bit (x k : Nat) (hx : x < 18446744073709551616) : bits BinOp.and IntKind.u64 ((x : Int) / 2 ^ k) 1 = ((x / 2 ^ k % 2 : Nat) : Int) := by
  have h : ((x : Int) / 2 ^ k) = ((x / 2 ^ k : Nat) : Int) := by simp
  have h1 : x / 2 ^ k ≤ x := Nat.div_le_self _ _
  rw [h]
  generalize x / 2 ^ k = q at h1 ⊢
  rw [Lib.u64_and1 _ (by omega) (by omega)]
  omega
theorem or_bit (y nb : Nat) (hy : y < 256) : bits BinOp.or IntKind.u8 (y : Int) (128 / 2 ^ (nb % 8)) = ((y ||| 128 / 2 ^ (nb % 8) : Nat) : Int) := by
  have h : ((128 : Int) / 2 ^ (nb % 8)) = ((128 / 2 ^ (nb % 8) : Nat) : Int) := by simp
  have h1 : 128 / 2 ^ (nb % 8) ≤ 128 := Nat.div_le_self _ _
  rw [h, u8_or_nat _ _ hy (by omega)]
theorem or_lt (y nb : Nat) (hy : y < 256) : y ||| 128 / 2 ^ (nb % 8) < 256 := by
  have h1 : 128 / 2 ^ (nb % 8) ≤ 128 := Nat.div_le_self _ _
  exact Nat.or_lt_two_pow (n := 8) hy (by omega)
theorem rel_one {x k nb y : Nat} {bs L : List Nat} (hE : (if nb % 8 = 0 then bs ++ [0] else bs) = L ++ [y]) (hZ : ∀ z ∈ L ++ [y], z < 256) (hb : x / 2 ^ k % 2 = 1) :
    Hid (putP x k (L ++ [y ||| 128 / 2 ^ (nb % 8)], nb + 1) = putP x (k + 1) (bs, nb) ∧ ∀ z ∈ L ++ [y ||| 128 / 2 ^ (nb % 8)], z < 256) := by
  refine ⟨?_, fun z hz => ?_⟩
  · simp only [putP, bit1]; rw [hE, if_pos hb]; simp
  · rcases List.mem_append.1 hz with h | h
    · exact hZ z (List.mem_append_left _ h)
    · simp at h; subst h; exact or_lt y nb (hZ y (by simp))
theorem rel_zero {x k nb y : Nat} {bs L : List Nat} (hE : (if nb % 8 = 0 then bs ++ [0] else bs) = L ++ [y]) (hZ : ∀ z ∈ L ++ [y], z < 256) (hb : ¬ x / 2 ^ k % 2 = 1) :
    Hid (putP x k (L ++ [y], nb + 1) = putP x (k + 1) (bs, nb) ∧ ∀ z ∈ L ++ [y], z < 256) := by
  refine ⟨?_, hZ⟩
  simp only [putP, bit1]; rw [hE, if_neg hb]

set_option maxHeartbeats 1000000 in
theorem putBits_any (x n b B : Nat) (hx : x < 18446744073709551616) (hn : n ≤ 64) (v0 : Value) (bs0 : List Nat) (nb0 : Nat) (hnb : nb0 ≤ 1000) (hl : bs0.length ≤ 1000) (w : World) (hW : Wr w b B v0 bs0 nb0 .nilIface) (hok : nb0 % 8 ≠ 0 → bs0 ≠ []) (hby : ∀ z ∈ bs0, z < 256) :
    Calls Ybaf.prog 22 #[.pointer (some ⟨b, 0, .none⟩), .int .u64 x, .int .i64 n] w fun e w' => e = .returned (.tuple #[]) ∧ (∃ v', Wr w' b B v' (putP x n (bs0, nb0)).1 (putP x n (bs0, nb0)).2 .nilIface) ∧ But b B w w' := by
  obtain ⟨i0, hi, hz0, hz1, hz2⟩ := info_parts Ybaf.info5
  have c2 := hW.c2
  go_enter Ybaf.func22, Ybaf.ntmps22
  go_wp2_with fail
  clear c2
  go_loopw [6] (fun i wr => ∃ (k : Nat) (s : List Nat × Nat), k ≤ n ∧ i = .int .i64 ((k : Int) - 1) ∧ putP x k s = putP x n (bs0, nb0) ∧ (∃ v, Wr wr b B v s.1 s.2 .nilIface) ∧ But b B w wr ∧ (s.2 % 8 ≠ 0 → s.1 ≠ []) ∧ s.1.length + k ≤ 1064 ∧ s.2 + k ≤ 1064 ∧ ∀ z ∈ s.1, z < 256) (fun i _ => (intOf i + 1).toNat)
  case atStart => exact ⟨n, (bs0, nb0), Nat.le_refl _, rfl, rfl, ⟨v0, hW⟩, But.refl _ _ _, hok, by simp; omega, by simp; omega, hby⟩
  case round =>
    obtain ⟨k, ⟨bs, nb⟩, hk, rfl, hput, ⟨v, hW⟩, hbut, hok, hl1, hl2, hby⟩ := hrel
    simp only at hW hl1 hl2 hok hby
    have c1 := hW.c1
    have c0 := hW.c0
    have hsz := hW.sz
    have hlt := hW.lt
    match k, hk, hl1, hl2, hput with
    | 0, hk, hl1, hl2, hput =>
      go_wp2_with fail
      simp only [putP] at hput
      rw [← hput]
      go_end0
      exact ⟨rfl, ⟨v, hW⟩, hbut⟩
    | k + 1, hk, hl1, hl2, hput =>
      have hk0 : (0 : Int) ≤ k := by omega
      have HB : Hid (∀ z ∈ bs, z < 256) := hby
      have HP : Hid (putP x (k + 1) (bs, nb) = putP x n (bs0, nb0)) := hput
      clear hby hput
      by_cases h8 : nb % 8 = 0
      · have t8 : ((nb : Int) % 8 == 0) = true := by simp; omega
        have HW : Hid (Wr wr b B v bs nb .nilIface) := hW
        clear hW
        go_upto_region 6 with (at_builtin; refine wpList_append_own _ rfl _ _ 23 rfl B 5 i0 (.int .u8 0) 1 1 Ybaf.underlying23 hi hz0 hz1 hz2 rfl (by decide) _ _ _ rfl (HW.out.own.alloc _) ⟨wr.heap.size, 0, .none⟩ 1 1 [.int .u8 0] rfl rfl (one_cell_new _ _) (fun u hu => by simp at hu; subst hu; rfl) (by unfold maxLen; omega) (by omega) (by simp; omega) ?_; intro v' w1 hown' hg' _; have hown2 := own_snoc hown'; obtain ⟨g', cap', rfl, y0, y1⟩ := HW.out.grow_facts hg' hown2 (by simp); clear hown'; have HG : Hid ((wr.alloc (.cells #[.int .u8 0] 5)).grownBy w1 v.ownBlock) := hg'; have HO : Hid (w1.ownsRow B 5 1 (.slice (some ⟨g', 0, .none⟩) (bs ++ [0]).length cap') (bs ++ [0]).length (u8s (bs ++ [0]))) := hown2; clear hg' hown2)
        obtain ⟨L, y, hLy⟩ : ∃ L y, bs ++ [0] = L ++ [y] := ⟨bs, 0, rfl⟩
        have hLn : bs.length = L.length := by have := congrArg List.length hLy; simpa using this
        refine wp_gen (fun W => Wr W b B (.slice (some ⟨g', 0, .none⟩) (L.length + 1 : Nat) cap') (L ++ [y]) nb .nilIface ∧ But b B w W) ⟨by rw [← hLy, ← hLn]; simpa using HW.out.grow HG.out HO.out, hbut.trans (HW.out.grow_but HG.out)⟩ ?_
        have HE : Hid ((if nb % 8 = 0 then bs ++ [0] else bs) = L ++ [y]) := (if_pos h8).trans hLy
        have HZ : Hid (∀ z ∈ L ++ [y], z < 256) := fun z hz => by
          rw [← hLy] at hz
          rcases List.mem_append.1 hz with h | h
          · exact HB.out z h
          · simp at h; omega
        have hLb : (L.length : Int) ≤ 1064 := by omega
        have HC : Hid (L.length + 1 + k ≤ 1064) := (by omega : L.length + 1 + k ≤ 1064)
        clear HG HO HW hbut y0 y1 c0 c1 t8 hok hLn hLy HB h8
        rintro W ⟨hW, hbut⟩
        have c0 := hW.c0
        have c1 := hW.c1
        have f1 := hW.f1
        have hf := hW.last_facts
        have cg := hf.1
        have fg := hf.2.1
        have hgb := hf.2.2
        clear hf
        have HW : Hid (Wr W b B (.slice (some ⟨g', 0, .none⟩) (L.length + 1 : Nat) cap') (L ++ [y]) nb .nilIface) := hW
        clear hW
        by_cases hbit : x / 2 ^ k % 2 = 1
        · have tb : (bits BinOp.and IntKind.u64 ((x : Int) / 2 ^ k) 1 == 1) = true := by rw [and_bit x k hx, hbit]; rfl
          have hR := rel_one HE.out HZ.out hbit
          clear hbit
          go_upto_region 7 with fail
          have hn1 : (0 : Int) ≤ (L.length : Int) := by omega
          have hn2 : (L.length : Int) < (L.length : Int) + 1 := by omega
          have hn3 : (0 : Int) ≤ (nb : Int) % 8 := by omega
          go_region
          go_upto_region 8 with fail
          refine wp_gen (fun W2 => Wr W2 b B (.slice (some ⟨g', 0, .none⟩) (L.length + 1 : Nat) cap') (L ++ [y ||| 128 / 2 ^ (nb % 8)]) nb .nilIface ∧ But b B w W2) ?_ ?_
          · have hl := HW.out.last (y := y ||| 128 / 2 ^ (nb % 8))
            rw [or_bit y nb (HZ.out y (by simp))]
            exact ⟨hl.1.later ((Below.refl _ _).drew), hbut.trans (hl.2.trans (But.of_below ((Below.refl _ _).drew) (hl.1.sz)))⟩
          clear HW hbut c0 c1 f1 cg fg tb
          rintro W ⟨hW, hbut⟩
          have c1 := hW.c1
          have f1 := hW.f1
          have HW : Hid (Wr W b B (.slice (some ⟨g', 0, .none⟩) (L.length + 1 : Nat) cap') (L ++ [y ||| 128 / 2 ^ (nb % 8)]) nb .nilIface) := hW
          clear hW
          go_wp2_with fail
          go_roundw
          case rel => exact ⟨k, (L ++ [y ||| 128 / 2 ^ (nb % 8)], nb + 1), by omega, rfl, hR.out.1.trans HP.out, ⟨_, by have := HW.out.set1 (nb + 1); push_cast at this; exact this⟩, hbut.set _ _, by simp, by have := HC.out; simp; omega, by simp; omega, hR.out.2⟩
          case measure => simp [intOf]
        · have tb : (bits BinOp.and IntKind.u64 ((x : Int) / 2 ^ k) 1 == 1) = false := by rw [and_bit x k hx]; exact beq_eq_false_iff_ne.2 (fun e => hbit (by omega))
          have hR := rel_zero HE.out HZ.out hbit
          clear hbit
          go_wp2_with fail
          go_roundw
          case rel => exact ⟨k, (L ++ [y], nb + 1), by omega, rfl, hR.out.1.trans HP.out, ⟨_, by have := HW.out.set1 (nb + 1); push_cast at this; exact this⟩, hbut.set _ _, by simp, by have := HC.out; simp; omega, by simp; omega, hR.out.2⟩
          case measure => simp [intOf]
      · have t8 : ((nb : Int) % 8 == 0) = false := by simp; omega
        have hne := hok h8
        obtain ⟨g', cap', rfl, _⟩ := hW.form hne
        obtain ⟨L, y, hLy⟩ : ∃ L y, bs = L ++ [y] := ⟨bs.dropLast, bs.getLast hne, (List.dropLast_concat_getLast hne).symm⟩
        have HW : Hid (Wr wr b B (.slice (some ⟨g', 0, .none⟩) bs.length cap') bs nb .nilIface) := hW
        have hLn : bs.length = L.length + 1 := by rw [hLy]; simp
        have HL : Hid (bs = L ++ [y]) := hLy
        have HN : Hid (bs.length = L.length + 1) := hLn
        clear hW hok hne hLy hLn
        go_upto_region 6 with fail
        refine wp_gen (fun W => Wr W b B (.slice (some ⟨g', 0, .none⟩) (L.length + 1 : Nat) cap') (L ++ [y]) nb .nilIface ∧ But b B w W) ⟨by rw [← HL.out, ← HN.out]; exact HW.out, hbut⟩ ?_
        have HE : Hid ((if nb % 8 = 0 then bs ++ [0] else bs) = L ++ [y]) := (if_neg h8).trans HL.out
        have HZ : Hid (∀ z ∈ L ++ [y], z < 256) := fun z hz => HB.out z (by rw [HL.out]; exact hz)
        have hLb : (L.length : Int) ≤ 1064 := by have := HN.out; omega
        have HC : Hid (L.length + 1 + k ≤ 1064) := (by have := HN.out; omega : L.length + 1 + k ≤ 1064)
        clear HW hbut c0 c1 t8 HL HN HB h8
        rintro W ⟨hW, hbut⟩
        have c0 := hW.c0
        have c1 := hW.c1
        have f1 := hW.f1
        have hf := hW.last_facts
        have cg := hf.1
        have fg := hf.2.1
        have hgb := hf.2.2
        clear hf
        have HW : Hid (Wr W b B (.slice (some ⟨g', 0, .none⟩) (L.length + 1 : Nat) cap') (L ++ [y]) nb .nilIface) := hW
        clear hW
        by_cases hbit : x / 2 ^ k % 2 = 1
        · have tb : (bits BinOp.and IntKind.u64 ((x : Int) / 2 ^ k) 1 == 1) = true := by rw [and_bit x k hx, hbit]; rfl
          have hR := rel_one HE.out HZ.out hbit
          clear hbit
          go_upto_region 7 with fail
          have hn1 : (0 : Int) ≤ (L.length : Int) := by omega
          have hn2 : (L.length : Int) < (L.length : Int) + 1 := by omega
          have hn3 : (0 : Int) ≤ (nb : Int) % 8 := by omega
          go_region
          go_upto_region 8 with fail
          refine wp_gen (fun W2 => Wr W2 b B (.slice (some ⟨g', 0, .none⟩) (L.length + 1 : Nat) cap') (L ++ [y ||| 128 / 2 ^ (nb % 8)]) nb .nilIface ∧ But b B w W2) ?_ ?_
          · have hl := HW.out.last (y := y ||| 128 / 2 ^ (nb % 8))
            rw [or_bit y nb (HZ.out y (by simp))]
            exact ⟨hl.1.later ((Below.refl _ _).drew), hbut.trans (hl.2.trans (But.of_below ((Below.refl _ _).drew) (hl.1.sz)))⟩
          clear HW hbut c0 c1 f1 cg fg tb
          rintro W ⟨hW, hbut⟩
          have c1 := hW.c1
          have f1 := hW.f1
          have HW : Hid (Wr W b B (.slice (some ⟨g', 0, .none⟩) (L.length + 1 : Nat) cap') (L ++ [y ||| 128 / 2 ^ (nb % 8)]) nb .nilIface) := hW
          clear hW
          go_wp2_with fail
          go_roundw
          case rel => exact ⟨k, (L ++ [y ||| 128 / 2 ^ (nb % 8)], nb + 1), by omega, rfl, hR.out.1.trans HP.out, ⟨_, by have := HW.out.set1 (nb + 1); push_cast at this; exact this⟩, hbut.set _ _, by simp, by have := HC.out; simp; omega, by simp; omega, hR.out.2⟩
          case measure => simp [intOf]
        · have tb : (bits BinOp.and IntKind.u64 ((x : Int) / 2 ^ k) 1 == 1) = false := by rw [and_bit x k hx]; exact beq_eq_false_iff_ne.2 (fun e => hbit (by omega))
          have hR := rel_zero HE.out HZ.out hbit
          clear hbit
          go_wp2_with fail
          go_roundw
          case rel => exact ⟨k, (L ++ [y], nb + 1), by omega, rfl, hR.out.1.trans HP.out, ⟨_, by have := HW.out.set1 (nb + 1); push_cast at this; exact this⟩, hbut.set _ _, by simp, by have := HC.out; simp; omega, by simp; omega, hR.out.2⟩
          case measure => simp [intOf]
end Go.Proofs.YbulkataaFmt
