import Derived.Test.YbulkcgkeRows
import Derived.WalkKit
import Derived.ProofKit
import Derived.Below
import Derived.Shelf.SlSorted.AreSorted
import Derived.Shelf.SlSorted.Search
import Derived.Shelf.Lay
import Derived.Ground.SlsoProg
namespace Go.Proofs.Ybulkcgke
open Go.Shelf Go.RowKit Go.Lib Go.Sort
shelf_lay SlLaysO.n14 Slso 14 at Yba as Yba.searchInts
shelf_lay_g SlLaysO.n12 Slso 12 at Yba 13 as Yba.intsAre

/-- sort.SearchInts of an ascending row: how many are less than x. -/
theorem search (blk off cap : Nat) (d : Array Int) (x : Int) (w : World) (hc : ∀ i, i < d.size → w.cell? ⟨blk, off + i, none⟩ = some (.int .i64 d[i]!)) (hblk : blk < w.heap.size) (hsz : d.size < 4611686018427387904) (hs : ∀ a b, a ≤ b → b < d.size → d[a]! ≤ d[b]!) :
    Calls Yba.prog 15 #[.slice (some ⟨blk, off, none⟩) d.size cap, .int .i64 x] w fun e w' => e = .returned (.int .i64 (d.toList.countP (fun y => !decide (x ≤ y)) : Nat)) ∧ Below w.heap.size w w' :=
  Any.sort_SearchInts Yba.searchInts blk off cap d x w hc hblk hsz (fun a b hab hb h => by have := hs a b hab hb; simp at h ⊢; omega)

/-- sort.IntsAreSorted. -/
theorem areSorted (blk off cap : Nat) (d : Array Int) (w : World) (hc : ∀ i, i < d.size → w.cell? ⟨blk, off + i, none⟩ = some (.int .i64 d[i]!)) (hsz : d.size < 4611686018427387904) :
    Calls Yba.prog 13 #[.slice (some ⟨blk, off, none⟩) d.size cap] w fun e w' => e = .returned (.bool (Lib.downOK (fun x y => decide (x < y)) d (d.size - 1))) ∧ ∃ q, w' = w.drewN q :=
  Any.sort_IntsAreSorted Yba.intsAre blk off cap d w hc hsz
end Go.Proofs.Ybulkcgke
