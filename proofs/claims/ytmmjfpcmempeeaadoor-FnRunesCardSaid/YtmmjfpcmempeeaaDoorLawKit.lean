/- What the walks of the laws on readers share. -/
import Derived.Test.YtmmjfpcmempeeaaDoorSpecDo
import Derived.Test.YtmmjfpcmempeeaaDoorSpecNew
import Derived.Test.YtmmjfpcmempeeaaDoorImplPD
namespace Go.Proofs.YtmmjfpcmempeeaaDoor
open Go.RowKit
/-- since the argument was boxed only blocks behind the box turned -/
abbrev BoxUpd (w : World) (cs : Array Value) (w' : World) : Prop := Upd (fun k => w.heap.size < k) (w.alloc (.cells cs 24)) w'
theorem box_upd {w w1 : World} {cs : Array Value} (h : BoxUpd w cs w1) {i : Nat} {v : Value} (hv : cs[i]? = some v) : w1.cell? ⟨w.heap.size, i, none⟩ = some v := by
  rw [World.cell_of_heap (h.heap (heap_alloc_new w _) (fun hh => Nat.lt_irrefl _ hh))]; exact hv
theorem boxAt {w w1 w2 : World} {cs : Array Value} {b : Nat} (h : BoxUpd w cs w1) (u : Upd (fun k => k = b) w1 w2) (hb : w.heap.size < b) : BoxUpd w cs w2 := h.trans u (fun k hk _ => by have hk : k = b := hk; omega)
theorem newSR_at {w1 : World} {s : SR} {g c : Nat} (hg : g < w1.heap.size) (hb : BytesA w1 (some ⟨g, 0, none⟩) c s.all) (hs : s.left = s.all) : SRd (w1.alloc (.cells (srCells g 0 c 0 c s) 44)) w1.heap.size g s := by
  refine ⟨⟨0, c, 0, c, heap_alloc_new _ _, ?_, hb.new ((Upd.refl _ _).alloc _)⟩, by omega, by have := ((Upd.refl (fun _ => False) w1).alloc (.cells (srCells g 0 c 0 c s) 44)).size; omega, [], by simp [hs]⟩
  rw [hs]; exact hb.new ((Upd.refl _ _).alloc _)
theorem newAt {w w1 w2 : World} {b : Nat} (h : New w w1) (u : Upd (fun k => k = b) w1 w2) (hb : w.heap.size ≤ b) : New w w2 := h.trans u (fun k hk hlt => by have hk : k = b := hk; omega)
theorem boxLt {w w1 : World} {cs : Array Value} (h : BoxUpd w cs w1) : w.heap.size < w1.heap.size := Nat.lt_of_lt_of_le (by simp) h.size
end Go.Proofs.YtmmjfpcmempeeaaDoor
