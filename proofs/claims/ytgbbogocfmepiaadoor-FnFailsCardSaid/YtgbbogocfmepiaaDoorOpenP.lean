/- What came in, opened: steps on a writer. -/
import Derived.Test.YtgbbogocfmepiaaDoorOpenA
import Derived.Test.YtgbbogocfmepiaaDoorPuts
namespace Go.Proofs.YtgbbogocfmepiaaDoor
open Go.ChangeShapes Go.WideShapes Go.ChangeAt Go.RowKit
theorem putC : Tryd.prog.cellsOf 46 = 4 := by kernel_rfl
theorem intCp : Tryd.prog.cellsOf 3 = 1 := by kernel_rfl
theorem i32Cp : Tryd.prog.cellsOf 21 = 1 := by kernel_rfl
theorem bsCp : Tryd.prog.cellsOf 29 = 1 := by kernel_rfl
theorem psCp : Tryd.prog.cellsOf 22 = 1 := by kernel_rfl
/-- the numbers of steps are ones of their kinds -/
def Puts64 (xs : List PutS) : Prop := ∀ x ∈ xs, (-9223372036854775808 ≤ x.k ∧ x.k ≤ 9223372036854775807) ∧ -2147483648 ≤ x.r ∧ x.r ≤ 2147483647
set_option maxRecDepth 100000 in
/-- steps that came in -/
theorem open_puts {W : World} {H : Type} {enc : TypeId × Value → H} {base b : Nat} {hd : Bool} {v : Value} {d : DataW H} {p : List MemPlace} (hval : Value.okWide Tryd.prog W .any base 41 v) (h : DataW.Trod enc Tryd.prog W b (fun _ => true) hd 41 v d p) :
    ∃ a c xs, v = .slice a (List.length (α := PutS) xs) c ∧ PutsA W a c xs ∧ Puts64 xs := by
  obtain ⟨a0, len0, cap0, rfl⟩ := okWide_slice Tryd.underlying41 hval
  obtain ⟨fuel, hf⟩ := h
  rcases Deep.open_slice Tryd.underlying41 hf with ⟨hcs, _⟩ | ⟨a, len, cap, m, n, D, Pl, hcs, _, hl, hm, hmm, _, hx⟩
  · simp [Value.cells] at hcs
    obtain ⟨rfl, rfl, rfl⟩ := hcs
    exact ⟨none, 0, [], rfl, ⟨Nat.le_refl _, Nat.zero_le _, fun _ => rfl, fun p hp => (by cases hp)⟩, fun s hs => (by cases hs)⟩
  · simp [Value.cells] at hcs
    obtain ⟨rfl, rfl, rfl⟩ := hcs
    have hmc : m = cap0 := by simpa using hmm
    subst hmc
    rw [putC] at hx
    have hb : ∀ i, ∃ s : PutS, i < m → (∃ v1 v3, W.cell? (a.add (i * 4)) = some (.int .i64 s.k) ∧ W.cell? (a.add (i * 4 + 1)) = some v1 ∧ W.cell? (a.add (i * 4 + 2)) = some (.int .i32 s.r) ∧ W.cell? (a.add (i * 4 + 3)) = some v3 ∧ PutV W v1 v3 s) ∧
        (-9223372036854775808 ≤ s.k ∧ s.k ≤ 9223372036854775807) ∧ (-2147483648 ≤ s.r ∧ s.r ≤ 2147483647) := fun i => by
      by_cases hi : i < m
      · obtain ⟨cs', h1, h2⟩ := hx i hi
        obtain ⟨_, hlen, hcell⟩ := World.cells?_some h1
        obtain ⟨xs, n', _, _, _, hxl, hfx⟩ := DataW.trod_struct Tryd.underlying46 h2
        match xs, hxl, cs', hlen with
        | [y0, y1, y2, y3], _, [v0, v1, v2, v3], _ =>
          have g0 := hfx 0 _ rfl
          have g1 := hfx 1 _ rfl
          have g2 := hfx 2 _ rfl
          have g3 := hfx 3 _ rfl
          simp [intCp, i32Cp, bsCp, psCp] at g0 g1 g2 g3
          obtain ⟨k, hk, _, wk⟩ := DataW.trod_int Tryd.underlying3 g0
          obtain ⟨bs, hbs⟩ := open_bytes1 Tryd.underlying29 Tryd.underlying5 (by kernel_rfl) g1
          obtain ⟨r, hr, _, wr⟩ := DataW.trod_int Tryd.underlying21 g2
          obtain ⟨pa, pc, ps, hps, hpp⟩ := open_pieces Tryd.underlying22 (by kernel_rfl) Tryd.underlying29 Tryd.underlying5 (by kernel_rfl) g3
          simp only [List.cons.injEq, and_true] at hk hr
          subst hk; subst hr
          have c0 := hcell 0 (by omega)
          have c1 := hcell 1 (by omega)
          have c2 := hcell 2 (by omega)
          have c3 := hcell 3 (by omega)
          rw [Deep.add_add] at c0 c1 c2 c3
          have w1 : -9223372036854775808 ≤ k ∧ k ≤ 9223372036854775807 := by simpa [Lit.wf, IntKind.min, IntKind.max, IntKind.signed, IntKind.bits] using wk
          have w2 : -2147483648 ≤ r ∧ r ≤ 2147483647 := by simpa [Lit.wf, IntKind.min, IntKind.max, IntKind.signed, IntKind.bits] using wr
          exact ⟨⟨k, bs, r, ps⟩, fun _ => ⟨⟨v1, v3, by simpa using c0, by simpa using c1, by simpa using c2, by simpa using c3, hbs, pa, pc, hps, hpp⟩, w1, w2⟩⟩
      · exact ⟨⟨0, [], 0, []⟩, fun hh => absurd hh hi⟩
    obtain ⟨B, hB⟩ := Classical.axiomOfChoice hb
    refine ⟨some a, m, (List.range len0).map B, by simp, ⟨by simpa using hl, hm, by simp, fun p hp => ?_⟩, fun s hs => ?_⟩
    · simp only [Option.some.injEq] at hp
      subst hp
      have hspot : 0 < len0 → a.spot = none := fun h0 => by
        obtain ⟨v1, v3, this, _⟩ := (hB 0 (by omega)).1
        have := spot_of_cell this
        unfold Addr.add at this
        simpa using this
      refine ⟨fun hn => hspot ?_, fun i hi => ?_⟩
      · rcases Nat.eq_zero_or_pos len0 with h | h
        · subst h; simp at hn
        · exact h
      · have hi' : i < len0 := by simpa using hi
        obtain ⟨⟨v1, v3, e0, e1, e2, e3, e4⟩, _⟩ := hB i (by omega)
        have hs := hspot (by omega)
        rw [add_of_spot hs] at e0 e1 e2 e3
        simp only [List.getElem_map, List.getElem_range]
        exact ⟨v1, v3, e0, e1, e2, e3, e4⟩
    · obtain ⟨i, hi, rfl⟩ := List.mem_map.1 hs
      have hi' : i < len0 := List.mem_range.1 hi
      exact (hB i (by omega)).2
end Go.Proofs.YtgbbogocfmepiaaDoor
