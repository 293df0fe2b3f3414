import Derived.Test.YbulkcgjqFmtKit
import Derived.Shelf.SlSortCmp.SmallK
import Derived.Shelf.Small.Bits
import Derived.Shelf.Lay
import Derived.Ground.SlsfProg
import Derived.Ground.NamesProg
namespace Go.Proofs.YbulkcgjqFmt
set_option linter.unusedSimpArgs false
set_option linter.unusedVariables false
open Go.Shelf Go.RowKit Go.Lib Go.Sort
shelf_lay_g SlLaysF0.n6 Slsf 6 at Ybaf 50 as Ybaf.sortEn
shelf_lay Lays.n125 Nm 125 at Ybaf as Ybaf.bitsLen

theorem hlen (n : Nat) (W : World) (h : n ≤ 12) : Calls Ybaf.prog 68 #[.int .u64 n] W fun e w' => (∃ l : Int, e = .returned (.int .i64 l)) ∧ w' = W :=
  (Any.bits_Len Ybaf.bitsLen n W (by omega) (by omega)).mono fun _ _ ⟨he, hw⟩ => ⟨⟨_, he⟩, hw⟩

theorem sort_calls [hI : Inhabited En] (blk off cap : Nat) (d : Array En) (w : World) (hH : HoldsK enc 6 w blk off d) (hblk : blk < w.heap.size) (h12 : d.size ≤ 12) :
    Calls Ybaf.prog 50 #[.slice (some ⟨blk, off, none⟩) d.size cap, .func (.func 51) #[] #[]] w fun e w' => e = .returned (.tuple #[]) ∧ ∃ n os, w' = sortWorldK enc 6 w blk off n (Sort.insertionSort (ltOf cf) d 0 d.size) os := by
  have eg : ∀ args w, (callFunc 51 args).run Ybaf.prog w = .ok (.enter 51 args) w := enters_of Ybaf.func51 (by kernel_rfl) rfl
  exact AnyQ.slices_SortFunc_small Ybaf.sortEn 6 Ybaf.isAgg117 Ybaf.sizeOf117 enc (fun _ => rfl) (fun x v hv => by simp [enc] at hv; rcases hv with rfl | rfl | rfl | rfl | rfl <;> rfl) cf 51 #[] blk off cap d w eg (fun _ _ _ _ x y => entries_calls x y _) hH hblk h12 hlen
end Go.Proofs.YbulkcgjqFmt
