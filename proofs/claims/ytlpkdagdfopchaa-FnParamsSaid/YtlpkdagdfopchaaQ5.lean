/- sort.Strings at this program: the library's contract, laid. -/
import Derived.Test.YtlpkdagdfopchaaQ4
import Derived.Shelf.Sort.Plain
import Derived.Shelf.Lay
namespace Go.Proofs
open Go.Shelf
shelf_lay Lays.n192 Nm 192 at Try as Try.lays192
end Go.Proofs
namespace Go.Proofs.Ytlpkdagdfopchaa
open Go.RowKit Go.Maps Go.Sort
set_option linter.unusedVariables false

theorem sortStrings_calls (blk cap : Nat) (ss : List (List UInt8)) (w : World) (hH : Holds encStr w blk 0 ss.toArray) (hblk : blk < w.heap.size) (hsz : ss.length < 4611686018427387904) :
    Calls Try.prog 28 #[.slice (some ⟨blk, 0, none⟩) ss.length cap] w fun e w' =>
      e = .returned (.tuple #[]) ∧ ∃ n os, w' = grow (putRow encStr (Sort.ahead w n) blk 0 (ss.mergeSort fun x y => decide (x ≤ y)).toArray) os :=
  Any.sort_Strings Try.lays192 blk 0 cap ss w hH hblk hsz
end Go.Proofs.Ytlpkdagdfopchaa
