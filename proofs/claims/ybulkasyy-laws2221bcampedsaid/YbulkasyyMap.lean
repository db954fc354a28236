import Derived.Test.YbulkasyyTai
namespace Go.Proofs.Ybulkasyy
open Go.RowKit Go.Maps

/-- one entry: MCC, MNC, the code, has it one -/
structure Ent where
  m : ByteArray
  n : ByteArray
  c : Int
  h : Bool

/-- the strings are strings, the codes are int32 -/
def EntOk (e : Ent) : Prop := e.m.size ≤ maxLen ∧ e.n.size ≤ maxLen ∧ -2147483648 ≤ e.c ∧ e.c ≤ 2147483647

def Dm (E : Nat → Ent) : Nat → DataW Unit
  | 0 => .map []
  | k + 1 => if (E k).h = true then (Dm E k).put (KL (E k).m (E k).n) (.lit (.int .i64 (E k).c)) else Dm E k

def want (E : Nat → Ent) (a b : ByteArray) : Nat → Option Int
  | 0 => .none
  | k + 1 => if (E k).h = true ∧ (E k).m = a ∧ (E k).n = b then some (E k).c else want E a b k

theorem KL_inj {a b a' b' : ByteArray} (ha : a.size ≤ maxLen) (hb : b.size ≤ maxLen) (ha' : a'.size ≤ maxLen) (hb' : b'.size ≤ maxLen) (h : KL a b = KL a' b') : a = a' ∧ b = b' := by
  have h1 := key34 a b ha hb
  have h2 := key34 a' b' ha' hb'
  rw [h] at h1
  have := law34.inj h1 h2
  simpa using this

theorem Dm_map (E : Nat → Ent) (k : Nat) : IsMap (Dm E k) := by
  induction k with
  | zero => exact isMap_empty
  | succ k ih =>
    unfold Dm
    split
    · exact ih.put _ _
    · exact ih

theorem Dm_want (E : Nat → Ent) (hE : ∀ i, EntOk (E i)) (a b : ByteArray) (ha : a.size ≤ maxLen) (hb : b.size ≤ maxLen) (k : Nat) :
    Maps.has (Dm E k) (KL a b) = (want E a b k).isSome ∧ (Dm E k).atKey (KL a b) (.lit (.int .i64 0)) = .lit (.int .i64 ((want E a b k).getD 0)) := by
  induction k with
  | zero => exact ⟨rfl, rfl⟩
  | succ k ih =>
    unfold Dm want
    by_cases hh : (E k).h = true
    · by_cases hm : (E k).m = a ∧ (E k).n = b
      · obtain ⟨rfl, rfl⟩ := hm
        have hk : WideAt.IsKeyLit (KL (E k).m (E k).n) := trivial
        simp only [hh, if_true, and_self]
        exact ⟨has_put_same (Dm_map E k) hk _, by rw [atKey_put_same (Dm_map E k) hk]; rfl⟩
      · have hne : KL a b ≠ KL (E k).m (E k).n := fun e => hm (by
          obtain ⟨h1, h2⟩ := KL_inj ha hb (hE k).1 (hE k).2.1 e
          exact ⟨h1.symm, h2.symm⟩)
        rw [if_pos hh, if_neg (fun h => hm h.2), has_put_other hne, atKey_put_other hne]
        exact ih
    · rw [if_neg hh, if_neg (fun h => hh h.1)]
      exact ih

theorem want_range (E : Nat → Ent) (hE : ∀ i, EntOk (E i)) (a b : ByteArray) (k : Nat) : -2147483648 ≤ (want E a b k).getD (-1) ∧ (want E a b k).getD (-1) ≤ 2147483647 := by
  induction k with
  | zero => simp [want]
  | succ k ih =>
    unfold want
    split
    · exact ⟨(hE k).2.2.1, (hE k).2.2.2⟩
    · exact ih

/-- the map's look-up, in every world in which the block is that map -/
theorem look_want (E : Nat → Ent) (hE : ∀ i, EntOk (E i)) (a b : ByteArray) (ha : a.size ≤ maxLen) (hb : b.size ≤ maxLen) {w : World} {mB k n : Nat} (h : w.ownsMap Yba.prog 34 (plainElem (H := Unit) Yba.prog 54) mB n (Dm E k)) :
    (Instr.lookup 59 (.map (some mB)) (.agg #[.string a, .string b]) true).run Yba.prog w = .ok (.tuple #[.int .i64 ((want E a b k).getD 0), .bool (want E a b k).isSome]) w := by
  obtain ⟨v, ps, hrun, hv⟩ := h.look_ok law34 Yba.underlying59 (zero54 w) (plainElem_int Yba.underlying54 (by decide)) (key34 a b ha hb)
  obtain ⟨c, rfl, hc, _⟩ := plainElem_int_inv Yba.underlying54 hv
  obtain ⟨h1, h2⟩ := Dm_want E hE a b ha hb k
  simp only [Prod.mk.injEq] at hc
  rw [h2] at hc
  have : (want E a b k).getD 0 = c := by simpa using hc.1
  rw [hrun, h1, this]

theorem area_ok_whole (cB tb s : Nat) (v : Int) (w : World) (h2 : w.cell? ⟨cB, 2, .none⟩ = some (.pointer (some ⟨tb, 0, .none⟩))) (hv : w.cell? ⟨tb, 0, .none⟩ = some (.int .i64 v)) : AreaOk w cB s v := by
  intro w' hb
  have e1 := (hb.cell (World.block_lt_of_cell? w _ h2)).trans h2
  have e2 := (hb.cell (World.block_lt_of_cell? w _ hv)).trans hv
  refine (area_whole cB tb v s w' e1 e2).mono ?_
  rintro e w'' ⟨rfl, rfl⟩
  exact ⟨rfl, 0, rfl⟩

theorem area_ok_map (E : Nat → Ent) (hE : ∀ i, EntOk (E i)) (cB pB mB n s : Nat) (a b : ByteArray) (ha' : a.size ≤ maxLen) (hb' : b.size ≤ maxLen) (w : World) (hs : s < n) (h1 : w.cell? ⟨cB, 1, .none⟩ = some (.slice (some ⟨pB, 0, .none⟩) n n)) (h2 : w.cell? ⟨cB, 2, .none⟩ = some (.pointer .none))
    (h3 : w.cell? ⟨cB, 3, .none⟩ = some (.map (some mB))) (ha : w.cell? ⟨pB, s * 2, .none⟩ = some (.string a)) (hb : w.cell? ⟨pB, s * 2 + 1, .none⟩ = some (.string b))
    {m : Nat} (hm : w.ownsMap Yba.prog 34 (plainElem (H := Unit) Yba.prog 54) mB m (Dm E n)) : AreaOk w cB s ((want E a b n).getD (-1)) := by
  intro w' hbw
  have e1 := (hbw.cell (World.block_lt_of_cell? w _ h1)).trans h1
  have e2 := (hbw.cell (World.block_lt_of_cell? w _ h2)).trans h2
  have e3 := (hbw.cell (World.block_lt_of_cell? w _ h3)).trans h3
  have e4 := (hbw.cell (World.block_lt_of_cell? w _ ha)).trans ha
  have e5 := (hbw.cell (World.block_lt_of_cell? w _ hb)).trans hb
  have hm' : w'.ownsMap Yba.prog 34 (plainElem (H := Unit) Yba.prog 54) mB m (Dm E n) := by
    have hlt := hm.lt
    obtain ⟨es, clock, hh, r⟩ := hm
    exact ⟨es, clock, (hbw.block mB hlt).trans hh, r⟩
  refine (area_map cB pB mB n s a b ((want E a b n).getD 0) (want E a b n).isSome w' hs e1 e2 e3 e4 e5 (fun k => look_want E hE a b ha' hb' (w := w'.drewN k) hm')).mono ?_
  rintro e w'' ⟨rfl, k, rfl⟩
  refine ⟨?_, k, rfl⟩
  cases want E a b n <;> rfl

end Go.Proofs.Ybulkasyy
