/- goutf8's tables: from a row's list to what the walks ask. -/
import Derived.Test.YtgbbogocfmepiaaDoorUtf
import Derived.Test.YtgbbogocfmepiaaDoorOpenA
import Derived.Lib.LaidU8
namespace Go.Proofs.YtgbbogocfmepiaaDoor
open Go.RowKit Go.Lib
theorem tabs_of_laid {W : World} {l : List (String × DataW Unit)} (hp : (l.all fun x => x.2.handleName?.isNone) = true) (m1 : ("loop.example/pub-g03135/pub/goutf8.first", firstData) ∈ l) (m2 : ("loop.example/pub-g03135/pub/goutf8.acceptRanges", acceptData) ∈ l) (h : laidMetH Tryd.prog l W) : Tabs W := by
  rw [MakeChecks.laidMetH_plain _ _ _ hp] at h
  have h3 := laidMet.reads h m1
  have h4 := laidMet.reads h m2
  refine ⟨fun c hc => ?_, fun i hi => ?_⟩
  · obtain ⟨g, t, cs, fuel, p, hg, hty, hvar, hd⟩ := h3
    obtain rfl := Option.some.inj ((show Tryd.prog.globalNamed "loop.example/pub-g03135/pub/goutf8.first" = some 12 by kernel_rfl).symm.trans hg)
    obtain rfl := Option.some.inj ((show (Tryd.prog.globals[12]?).map (·.type) = some 130 by kernel_rfl).symm.trans hty)
    have hcs := cells_of_tab Tryd.underlying130 Tryd.underlying5 (by kernel_rfl) (by kernel_rfl) hd
    have := World.var?_cell hg hvar c
    rw [this, ← Array.getElem?_toList, hcs]
    simp [firstTab, hc]
  · obtain ⟨g, t, cs, fuel, p, hg, hty, hvar, hd⟩ := h4
    obtain rfl := Option.some.inj ((show Tryd.prog.globalNamed "loop.example/pub-g03135/pub/goutf8.acceptRanges" = some 13 by kernel_rfl).symm.trans hg)
    obtain rfl := Option.some.inj ((show (Tryd.prog.globals[13]?).map (·.type) = some 133 by kernel_rfl).symm.trans hty)
    obtain ⟨fuel', d, q, hdi, he⟩ := array_elem Tryd.underlying133 hd i hi
    simp only [List.getElem?_map, List.getElem?_range hi, Option.map_some, Option.some.injEq] at hdi
    subst hdi
    have c2 : Tryd.prog.cellsOf 132 = 2 := by kernel_rfl
    have c1 : Tryd.prog.cellsOf 5 = 1 := by kernel_rfl
    rw [c2] at he
    have hcs := ints_of_struct Tryd.underlying132 (fun j f hj => by
      match j, hj with
      | 0, hj => simp at hj; subst hj; exact ⟨Tryd.underlying5, rfl, c1⟩
      | 1, hj => simp at hj; subst hj; exact ⟨Tryd.underlying5, rfl, c1⟩
      | j + 2, hj => simp at hj) (by rw [c2]; rfl) he
    have e0 := congrArg (·[0]?) hcs
    have e1 := congrArg (·[1]?) hcs
    simp only [List.getElem?_take, List.getElem?_drop] at e0 e1
    constructor
    · rw [World.var?_cell hg hvar (2 * i), ← Array.getElem?_toList]
      simpa [Nat.mul_comm] using e0
    · rw [World.var?_cell hg hvar (2 * i + 1), ← Array.getElem?_toList]
      simpa [Nat.mul_comm] using e1
end Go.Proofs.YtgbbogocfmepiaaDoor
