/- goutf8's tables, below the heap's end. -/
import Derived.Test.YtmmjfpcmempeeaaDoorTabs
import Derived.Test.YtmmjfpcmempeeaaDoorReadRune
namespace Go.Proofs.YtmmjfpcmempeeaaDoor
open Go.RowKit
theorem TabsB.of {W : World} (T : Tabs W) : TabsB W.heap.size W := ⟨T, World.block_lt_of_cell? W _ (T.1 0 (by omega)), World.block_lt_of_cell? W _ (T.2 0 (by omega)).1⟩
theorem list8 {α : Type} {l : List α} (h : l.length = 8) : ∃ a b c d e f g i, l = [a, b, c, d, e, f, g, i] := by
  match l, h with
  | [a, b, c, d, e, f, g, i], _ => exact ⟨a, b, c, d, e, f, g, i, rfl⟩
end Go.Proofs.YtmmjfpcmempeeaaDoor
