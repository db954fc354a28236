import Derived.Test.YbulkatbqFmtRows2
import Derived.Test.YbulkatbqFmtSort
import Derived.Shelf.SlSortCmp.WholeK
namespace Go.Proofs.YbulkatbqFmt
open Go.RowKit Go.Sort

/-- what slices.SortFunc leaves of the entries -/
def SortedE (blk : Nat) (d : Array (Nat × ByteArray)) (w w' : World) : Prop :=
  ∃ d2 : Array (Nat × ByteArray), d2.size = d.size ∧ d2.toList.Perm d.toList ∧ SortedIn (ltOf cf) 0 d.size d2 ∧ HoldsK encE 7 w' blk 0 d2 ∧ But blk w.heap.size w w'
theorem sortE (blk n cap : Nat) (d : Array (Nat × ByteArray)) (hs : d.size = n) (hn : n ≤ 1024) (w : World) (hH : HoldsK encE 7 w blk 0 d) (hblk : blk < w.heap.size) :
    Calls Ybaf.prog 11 #[.slice (some ⟨blk, 0, .none⟩) n cap, .func (.func 12) #[] #[]] w fun e w' => e = .returned (.tuple #[]) ∧ SortedE blk d w w' := by
  subst hs
  have eg : ∀ args w, (callFunc 12 args).run Ybaf.prog w = .ok (.enter 12 args) w := enters_of Ybaf.func12 (by kernel_rfl) rfl
  have hcmp : CmpLays Ybaf.prog 12 #[] encE 7 cf blk 0 d.size w := fun _ _ _ _ x y => closure12 x y _
  have hcon := AnyQ.slices_SortFunc Ybaf.sortEnt 7 Ybaf.isAgg50 Ybaf.sizeOf50 encE (fun _ => rfl) encE_one cf swo_cf 12 #[] blk 0 cap d w eg hcmp hH hblk (by omega)
  change Calls Ybaf.prog 11 _ _ _ at hcon
  refine hcon.mono ?_
  rintro e w' ⟨he, d2, m, os, hp, hS, rfl⟩
  obtain ⟨h1, h2⟩ := perm_of hp
  exact ⟨he, d2, h1, h2, hS, holdsK_sortWorldK_c encE 7 w blk 0 d d2 m os hH hblk h1, sortWorld_but w blk m d2 os⟩
end Go.Proofs.YbulkatbqFmt
