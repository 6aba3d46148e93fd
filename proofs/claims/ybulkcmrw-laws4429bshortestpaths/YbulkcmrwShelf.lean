/-
  The library's contracts that are proved once, laid at this program.
-/
import Derived.Shelf.Lay
import Derived.Shelf.Sort.Plain
import Derived.Shelf.Slices.CompactS
import Derived.Shelf.SlSortCmp.WholeK
import Derived.Ground.SlsfProg
import Derived.Test.YbulkcmrwProg
namespace Go.Proofs
open Go.Shelf
shelf_lay Lays.n190 Nm 190 at Yba as Yba.lays190
open Go.Sort Go.RowKit in
/-- slices.Sort at strings. -/
theorem Yba.slices_Sort_string (blk off cap : Nat) (ss : List (List UInt8)) (w : World) (hH : Holds encStr w blk off ss.toArray) (hblk : blk < w.heap.size) (hsz : ss.length < 4611686018427387904) :
    Calls Yba.prog 18 #[.slice (some ⟨blk, off, none⟩) ss.length cap] w fun e w' =>
      e = .returned (.tuple #[]) ∧ ∃ n os, w' = grow (putRow encStr (Sort.ahead w n) blk off (ss.mergeSort fun x y => decide (x ≤ y)).toArray) os := Any.slices_Sort_string Yba.lays190 blk off cap ss w hH hblk hsz
shelf_lay Lays.n194 Nm 194 at Yba as Yba.lays194
open Go.RowKit Go.Lib Go.Sort in
/-- slices.Compact at strings. -/
theorem Yba.slices_Compact_string (blk off cap : Nat) (zs : List (List UInt8)) (w : World) (hH : Holds encStr w blk off zs.toArray) (hsz : zs.length ≤ 9223372036854775807) (hcap : zs.length ≤ cap) :
    Calls Yba.prog 19 #[.slice (some ⟨blk, off, none⟩) zs.length cap] w fun e w' => e = .returned (.slice (some ⟨blk, off, none⟩) (Lib.compact zs).length cap) ∧ ∃ q, w' = putRow encStr (Sort.ahead w q) blk off (Lib.compact zs ++ List.replicate (zs.length - (Lib.compact zs).length) []).toArray := Any.slices_Compact_string Yba.lays194 blk off cap zs w hH hsz hcap
shelf_lay_g SlLaysF0.n6 Slsf 6 at Yba 14 as Yba.sortDebts
end Go.Proofs
