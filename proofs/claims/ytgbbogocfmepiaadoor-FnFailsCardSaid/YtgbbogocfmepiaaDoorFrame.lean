/- A frame written out with its unknown slots as values of one function: so that a loop in a large frame is opened by one name. -/
import Derived.Test.YtgbbogocfmepiaaDoorLaws
import Derived.Deep.LoopGhost
import Derived.Deep.DeepCutAuto
namespace Go.Proofs.YtgbbogocfmepiaaDoor
open Go.RowKit
theorem list_lit (l : List Value) : l = (List.range l.length).map (fun i => l.getD i undef) := by
  apply List.ext_getElem (by simp)
  intro i h1 h2
  simp [List.getD, h1]
theorem frame_lit {n : Nat} (a : Act) (hs : a.tmps.size = n) (hd : a.defers = []) : ∃ T : Nat → Value, a = ⟨((List.range n).map T).toArray, []⟩ ∧ ∀ i p, a.tmps[i]? = some p → T i = p := by
  obtain ⟨⟨l⟩, d⟩ := a
  have hd : d = [] := hd
  subst hd
  have hl : l.length = n := hs
  subst hl
  refine ⟨fun i => l.getD i undef, ?_, fun i p hp => ?_⟩
  · rw [← list_lit l]
  · have hp : l[i]? = some p := by simpa using hp
    simp [List.getD, hp]
end Go.Proofs.YtgbbogocfmepiaaDoor
