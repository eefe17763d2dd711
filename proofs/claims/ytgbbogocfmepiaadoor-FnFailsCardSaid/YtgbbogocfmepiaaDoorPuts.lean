/- Steps on a writer, in memory. -/
import Derived.Test.YtgbbogocfmepiaaDoorSpecEnc
import Derived.Test.YtgbbogocfmepiaaDoorArg
namespace Go.Proofs.YtgbbogocfmepiaaDoor
open Go.RowKit
structure PutS where
  k : Int
  bs : List UInt8
  r : Int
  ps : List (List UInt8)
/-- the two slices of one -/
def PutV (w : World) (v1 v3 : Value) (x : PutS) : Prop := (∃ a c, v1 = .slice a x.bs.length c ∧ BytesA w a c x.bs) ∧ ∃ a c, v3 = .slice a x.ps.length c ∧ PiecesA w a c x.ps
def PutS.v (x : PutS) (v1 v3 : Value) : Value := .agg #[.int .i64 x.k, v1, .int .i32 x.r, v3]
/-- steps that can be read -/
def PutsA (w : World) (a : Option Addr) (c : Nat) (xs : List PutS) : Prop :=
  xs.length ≤ c ∧ c ≤ maxLen ∧ (a = none → c = 0) ∧ ∀ p, a = some p → (xs ≠ [] → p.spot = none) ∧ ∀ i, (h : i < xs.length) → ∃ v1 v3,
    w.cell? ⟨p.block, p.off + i * 4, none⟩ = some (.int .i64 xs[i].k) ∧ w.cell? ⟨p.block, p.off + i * 4 + 1, none⟩ = some v1 ∧ w.cell? ⟨p.block, p.off + i * 4 + 2, none⟩ = some (.int .i32 xs[i].r) ∧ w.cell? ⟨p.block, p.off + i * 4 + 3, none⟩ = some v3 ∧ PutV w v1 v3 xs[i]
theorem PutV.new {w w1 : World} {v1 v3 : Value} {x : PutS} (h : PutV w v1 v3 x) (u : New w w1) : PutV w1 v1 v3 x := by
  obtain ⟨⟨a, c, h1, h2⟩, a', c', h3, h4⟩ := h
  exact ⟨⟨a, c, h1, h2.new u⟩, a', c', h3, h4.new u⟩
theorem PutsA.new {w w1 : World} {a : Option Addr} {c : Nat} {xs : List PutS} (h : PutsA w a c xs) (u : New w w1) : PutsA w1 a c xs := by
  refine ⟨h.1, h.2.1, h.2.2.1, fun p hp => ⟨(h.2.2.2 p hp).1, fun i hi => ?_⟩⟩
  obtain ⟨v1, v3, h1, h2, h3, h4, h5⟩ := (h.2.2.2 p hp).2 i hi
  exact ⟨v1, v3, u.cell h1 (fun h => h), u.cell h2 (fun h => h), u.cell h3 (fun h => h), u.cell h4 (fun h => h), h5.new u⟩
/-- the cells of one -/
theorem PutsA.at {w : World} {a : Option Addr} {c : Nat} {xs : List PutS} (h : PutsA w a c xs) {i : Nat} (hi : i < xs.length) : ∃ b o v1 v3, a = some ⟨b, o, none⟩ ∧ b < w.heap.size ∧
    w.cell? ⟨b, o + i * 4, none⟩ = some (.int .i64 xs[i].k) ∧ w.cell? ⟨b, o + i * 4 + 1, none⟩ = some v1 ∧ w.cell? ⟨b, o + i * 4 + 2, none⟩ = some (.int .i32 xs[i].r) ∧ w.cell? ⟨b, o + i * 4 + 3, none⟩ = some v3 ∧ PutV w v1 v3 xs[i] := by
  cases a with
  | none => have := h.1; have := h.2.2.1 rfl; omega
  | some p =>
    obtain ⟨hs, hc⟩ := h.2.2.2 p rfl
    obtain ⟨b, o, s⟩ := p
    have hs : s = none := hs (by rintro rfl; simp at hi)
    subst hs
    obtain ⟨v1, v3, h1, h2, h3, h4, h5⟩ := hc i hi
    exact ⟨b, o, v1, v3, rfl, World.block_lt_of_cell? w _ h1, h1, h2, h3, h4, h5⟩
/-- what a step writes -/
def PutS.out (x : PutS) : List UInt8 := if x.k = 0 ∨ x.k = 3 then x.bs else if x.k = 1 then (if x.bs = [] then [0] else x.bs.take 1) else if x.k = 2 then enc x.r else if x.k = 5 then x.ps.flatten else []
/-- the number that it tells -/
def PutS.num (x : PutS) : Nat := if x.k = 1 then 0 else x.out.length
def allOut (xs : List PutS) : List UInt8 := (xs.map PutS.out).flatten
def PutS.writes (x : PutS) : Bool := decide (0 ≤ x.k) && decide (x.k ≤ 5)
end Go.Proofs.YtgbbogocfmepiaaDoor
