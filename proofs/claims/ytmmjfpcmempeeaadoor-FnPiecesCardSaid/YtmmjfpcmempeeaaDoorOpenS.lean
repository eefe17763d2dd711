/- What came in, opened: steps. -/
import Derived.Test.YtmmjfpcmempeeaaDoorOpenA
import Derived.Test.YtmmjfpcmempeeaaDoorRunS
namespace Go.Proofs.YtmmjfpcmempeeaaDoor
open Go.ChangeShapes Go.WideShapes Go.ChangeAt Go.RowKit
theorem i64_of_wf {n : Int} (h : (Lit.int .i64 n).wf = true) : -9223372036854775808 ≤ n ∧ n ≤ 9223372036854775807 := by
  simpa [Lit.wf, IntKind.min, IntKind.max, IntKind.signed, IntKind.bits] using h
theorem stepC : Tryd.prog.cellsOf 53 = 3 := by kernel_rfl
theorem intC : Tryd.prog.cellsOf 3 = 1 := by kernel_rfl
theorem u8C : Tryd.prog.cellsOf 5 = 1 := by kernel_rfl
set_option maxRecDepth 100000 in
/-- steps that came in -/
theorem open_steps {W : World} {H : Type} {enc : TypeId × Value → H} {base b : Nat} {hd : Bool} {v : Value} {d : DataW H} {p : List MemPlace} (hval : Value.okWide Tryd.prog W .any base 41 v) (h : DataW.Trod enc Tryd.prog W b (fun _ => true) hd 41 v d p) :
    ∃ a c ss, v = .slice a (List.length (α := Stp) ss) c ∧ StepsA W a c ss ∧ Steps64 ss := by
  obtain ⟨a0, len0, cap0, rfl⟩ := okWide_slice Tryd.underlying41 hval
  obtain ⟨fuel, hf⟩ := h
  rcases Deep.open_slice Tryd.underlying41 hf with ⟨hcs, _⟩ | ⟨a, len, cap, m, n, D, Pl, hcs, _, hl, hm, hmm, _, hx⟩
  · simp [Value.cells] at hcs
    obtain ⟨rfl, rfl, rfl⟩ := hcs
    exact ⟨none, 0, [], rfl, ⟨Nat.le_refl _, Nat.zero_le _, fun _ => rfl, fun p hp => (by cases hp)⟩, fun s hs => (by cases hs)⟩
  · simp [Value.cells] at hcs
    obtain ⟨rfl, rfl, rfl⟩ := hcs
    have hmc : m = cap0 := by simpa using hmm
    subst hmc
    rw [stepC] at hx
    have hb : ∀ i, ∃ s : Stp, i < m → (W.cell? (a.add (i * 3)) = some (.int .i64 s.k) ∧ W.cell? (a.add (i * 3 + 1)) = some (.int .i64 s.n) ∧ W.cell? (a.add (i * 3 + 2)) = some (.int .u8 (s.d.toNat : Int))) ∧
        (-9223372036854775808 ≤ s.k ∧ s.k ≤ 9223372036854775807) ∧ (-9223372036854775808 ≤ s.n ∧ s.n ≤ 9223372036854775807) := fun i => by
      by_cases hi : i < m
      · obtain ⟨cs', h1, h2⟩ := hx i hi
        obtain ⟨_, hlen, hcell⟩ := World.cells?_some h1
        obtain ⟨xs, n', _, _, _, hxl, hfx⟩ := DataW.trod_struct Tryd.underlying53 h2
        match xs, hxl, cs', hlen with
        | [y0, y1, y2], _, [v0, v1, v2], _ =>
          have g0 := hfx 0 _ rfl
          have g1 := hfx 1 _ rfl
          have g2 := hfx 2 _ rfl
          simp [intC, u8C] at g0 g1 g2
          obtain ⟨k, hk, _, wk⟩ := DataW.trod_int Tryd.underlying3 g0
          obtain ⟨n2, hn2, _, wn⟩ := DataW.trod_int Tryd.underlying3 g1
          obtain ⟨d2, hd2, _, wd⟩ := DataW.trod_int Tryd.underlying5 g2
          simp only [List.cons.injEq, and_true] at hk hn2 hd2
          subst hk; subst hn2; subst hd2
          have c0 := hcell 0 (by omega)
          have c1 := hcell 1 (by omega)
          have c2 := hcell 2 (by omega)
          rw [Deep.add_add] at c0 c1 c2
          refine ⟨⟨k, n2, UInt8.ofNat d2.toNat⟩, fun _ => ⟨⟨by simpa using c0, by simpa using c1, ?_⟩, i64_of_wf wk, i64_of_wf wn⟩⟩
          have := u8_of_wf wd
          rw [← this]
          simpa using c2
      · exact ⟨⟨0, 0, 0⟩, fun hh => absurd hh hi⟩
    obtain ⟨B, hB⟩ := Classical.axiomOfChoice hb
    refine ⟨some a, m, (List.range len0).map B, by simp, ⟨by simpa using hl, hm, by simp, fun p hp => ?_⟩, fun s hs => ?_⟩
    · simp only [Option.some.injEq] at hp
      subst hp
      have hspot : 0 < len0 → a.spot = none := fun h0 => by
        have := (hB 0 (by omega)).1.1
        have := spot_of_cell this
        unfold Addr.add at this
        simpa using this
      refine ⟨fun hn => hspot ?_, fun i hi => ?_⟩
      · rcases Nat.eq_zero_or_pos len0 with h | h
        · subst h; simp at hn
        · exact h
      · have hi' : i < len0 := by simpa using hi
        obtain ⟨⟨e0, e1, e2⟩, _⟩ := hB i (by omega)
        have hs := hspot (by omega)
        rw [add_of_spot hs] at e0 e1 e2
        simp only [List.getElem_map, List.getElem_range]
        exact ⟨e0, e1, e2⟩
    · obtain ⟨i, hi, rfl⟩ := List.mem_map.1 hs
      have hi' : i < len0 := List.mem_range.1 hi
      exact (hB i (by omega)).2
end Go.Proofs.YtmmjfpcmempeeaaDoor
