/- impl.reader: where a source stands, and its Read. -/
import Derived.Test.YtgbbogocfmepiaaDoorJoined
import Derived.Test.YtgbbogocfmepiaaDoorGlob
import Derived.Deep.RegionHeld3
namespace Go.Proofs.YtgbbogocfmepiaaDoor
open Go.RowKit
/-- a piece: bytes in a block of its own, within lo .. hi -/
def Piece (w : World) (lo hi : Nat) (v : Value) (bs : List UInt8) : Prop :=
  ∃ g o c cur, v = .slice (some ⟨g, o, none⟩) bs.length c ∧ lo ≤ g ∧ g < hi ∧ w.heap[g]? = some (.cells cur 5 (0, 0)) ∧ bs.length ≤ c ∧ c ≤ maxLen ∧ ∀ i, (h : i < bs.length) → cur[o + i]? = some (bv bs[i])
/-- the pieces' row -/
def PRow (w : World) (lo hi : Nat) (pv : Value) (ps : List (List UInt8)) : Prop :=
  ∃ a c, pv = .slice a ps.length c ∧ ps.length ≤ c ∧ c ≤ maxLen ∧ (a = none → c = 0) ∧ ∀ p, a = some p → p.spot = none ∧ lo ≤ p.block ∧ p.block < hi ∧
    ∃ cur, w.heap[p.block]? = some (.cells cur 29 (0, 0)) ∧ ∀ i, (h : i < ps.length) → ∃ v, cur[p.off + i]? = some v ∧ Piece w lo hi v ps[i]
/-- a reader of a source: what it has left -/
def Src (w : World) (lo hi s : Nat) (ps : List (List UInt8)) (f : Bool) : Prop :=
  lo ≤ s ∧ s < hi ∧ ∃ pv, w.heap[s]? = some (.cells #[pv, .bool f] 99 (0, 0)) ∧ PRow w lo hi pv ps
theorem Piece.upd {M : Nat → Prop} {w w1 : World} {lo hi : Nat} {v : Value} {bs : List UInt8} (h : Piece w lo hi v bs) (u : Upd M w w1) (hm : ∀ k cur, M k → lo ≤ k → k < hi → w.heap[k]? = some (.cells cur 5 (0, 0)) → False) : Piece w1 lo hi v bs := by
  obtain ⟨g, o, c, cur, rfl, h1, h2, h3, h4⟩ := h
  exact ⟨g, o, c, cur, rfl, h1, h2, u.heap h3 (fun hh => hm g cur hh h1 h2 h3), h4⟩
theorem PRow.upd {M : Nat → Prop} {w w1 : World} {lo hi : Nat} {pv : Value} {ps : List (List UInt8)} (h : PRow w lo hi pv ps) (u : Upd M w w1) (hm : ∀ k, M k → lo ≤ k → k < hi → False) : PRow w1 lo hi pv ps := by
  obtain ⟨a, c, rfl, h1, h2, h3, h4⟩ := h
  refine ⟨a, c, rfl, h1, h2, h3, fun p hp => ?_⟩
  obtain ⟨q1, q2, q3, cur, q4, q5⟩ := h4 p hp
  refine ⟨q1, q2, q3, cur, u.heap q4 (fun hh => hm _ hh q2 q3), fun i hi' => ?_⟩
  obtain ⟨v, r1, r2⟩ := q5 i hi'
  exact ⟨v, r1, r2.upd u (fun k _ a b c _ => hm k a b c)⟩
theorem Src.upd {M : Nat → Prop} {w w1 : World} {lo hi s : Nat} {ps : List (List UInt8)} {f : Bool} (h : Src w lo hi s ps f) (u : Upd M w w1) (hm : ∀ k, M k → lo ≤ k → k < hi → False) : Src w1 lo hi s ps f := by
  obtain ⟨h1, h2, pv, h3, h4⟩ := h
  exact ⟨h1, h2, pv, u.heap h3 (fun hh => hm _ hh h1 h2), h4.upd u hm⟩
theorem Src.new {w w1 : World} {lo hi s : Nat} {ps : List (List UInt8)} {f : Bool} (h : Src w lo hi s ps f) (u : New w w1) : Src w1 lo hi s ps f := h.upd u (fun _ hh _ _ => hh)
theorem Piece.mono {w : World} {lo hi hi' : Nat} {v : Value} {bs : List UInt8} (h : Piece w lo hi v bs) (hh : hi ≤ hi') : Piece w lo hi' v bs := by
  obtain ⟨g, o, c, cur, rfl, h1, h2, h3⟩ := h
  exact ⟨g, o, c, cur, rfl, h1, by omega, h3⟩
/-- new bytes are a piece -/
theorem NewB.piece {w w1 : World} {v : Value} {bs : List UInt8} {lo : Nat} (h : NewB w w1 v bs) (hlo : lo ≤ w.heap.size) : Piece w1 lo w1.heap.size v bs := by
  obtain ⟨_, g, c, rfl, ho⟩ := h
  have hl := ho.lt g rfl
  have hb := (BytesA.owned ho).2
  obtain ⟨q0, q⟩ := ho
  rcases q with ⟨hv, _⟩ | ⟨g', cap, cur, hv, hb', hg, hn, hm, hs, ht⟩
  · simp at hv
  · simp only [Value.slice.injEq, Option.some.injEq, Addr.mk.injEq, and_true, true_and] at hv
    obtain ⟨rfl, rfl⟩ := hv
    refine ⟨g, 0, c, cur, rfl, by omega, hl.2, hg, hn, hm, fun i hi => ?_⟩
    have := (hb.2.2.2 _ rfl).2 i hi
    rw [cell_of_row w1 g (0 + i) cur _ _ hg] at this
    exact this
theorem eP : ElemI Tryd.prog 22 29 (.slice none 0 0) 1 24 := ElemI.mk' Tryd.underlying22 (by kernel_rfl) rfl (by omega)
/-- the reader while it is made: a row of its own -/
def RowK (w0 w : World) (pv : Value) (ps : List (List UInt8)) : Prop :=
  ∃ vs, vs.length = ps.length ∧ w.ownsRow w0.heap.size 29 1 pv ps.length vs ∧ ∀ i, (h : i < ps.length) → ∃ v, vs[i]? = some v ∧ Piece w w0.heap.size w.heap.size v ps[i]
theorem RowK.prow {w0 w : World} {pv : Value} {ps : List (List UInt8)} (h : RowK w0 w pv ps) : PRow w w0.heap.size w.heap.size pv ps := by
  obtain ⟨vs, hl, ho, hp⟩ := h
  have ho' := ho
  rcases ho.2 with ⟨rfl, hn⟩ | ⟨g, cap, cur, rfl, hb, hg, hn, hm, hs, ht⟩
  · refine ⟨none, 0, by rw [hn], by omega, Nat.zero_le _, fun _ => rfl, fun p hp => by cases hp⟩
  · refine ⟨_, cap, rfl, hn, hm, by simp, fun p hp' => ?_⟩
    simp only [Option.some.injEq] at hp'; subst hp'
    refine ⟨rfl, hb, (ho'.lt g rfl).2, cur, hg, fun i hi => ?_⟩
    obtain ⟨v, hv, hpc⟩ := hp i hi
    refine ⟨v, ?_, hpc⟩
    rw [← ht, List.getElem?_take_of_lt (by omega)] at hv
    simpa using hv
theorem World.cell_of_heap {w : World} {b : Nat} {cs : Array Value} {t : TypeId} {fr : Nat × Nat} (h : w.heap[b]? = some (.cells cs t fr)) (o : Nat) : w.cell? ⟨b, o, none⟩ = cs[o]? := by
  simp [World.cell?, h]
theorem World.frozen_of_heap {w : World} {b : Nat} {cs : Array Value} {t : TypeId} (h : w.heap[b]? = some (.cells cs t (0, 0))) (o : Nat) : w.frozen? ⟨b, o, none⟩ = false := by
  simp [World.frozen?, h]
theorem World.heap_setCell_self {w : World} {b : Nat} {cs : Array Value} {t : TypeId} {fr : Nat × Nat} (h : w.heap[b]? = some (.cells cs t fr)) (o : Nat) (v : Value) : (w.setCell ⟨b, o, none⟩ v).heap[b]? = some (.cells (cs.setIfInBounds o v) t fr) := by
  simp only [World.setCell, Array.getElem?_modify, if_true, h, Option.map_some]
  rfl
/-- one more piece -/
theorem RowK.grow {w0 w w1 w2 w3 : World} {pv pv' v : Value} {ps : List (List UInt8)} {bs : List UInt8} (h : RowK w0 w pv ps) (hu : New w0 w) (hv : NewB w w1 v bs) (h12 : New w1 w2)
    (ho : w3.ownsRow w0.heap.size 29 1 pv' (ps.length + 1) (h.choose ++ [v])) (hg : w2.grownBy w3 pv.ownBlock) : RowK w0 w3 pv' (ps ++ [bs]) := by
  obtain ⟨hl, ho1, hp⟩ := h.choose_spec
  have hlt := fun k hk => ho1.lt k hk
  -- the row's own block holds slices: no piece lies there
  have hrow : ∀ k cur, some k = pv.ownBlock → w2.heap[k]? = some (.cells cur 5 (0, 0)) → False := by
    intro k cur hk hh
    have hk2 := hlt k hk.symm
    rcases ho1.2 with ⟨rfl, _⟩ | ⟨g, cap, cur', rfl, _, hg', _⟩
    · simp [Value.ownBlock] at hk
    · simp only [Value.ownBlock, Option.some.injEq] at hk
      subst hk
      have e := h12.heap (hv.1.heap hg' (fun h => h)) (fun h => h)
      rw [hh] at e
      simp at e
  have hsz : w.heap.size ≤ w3.heap.size := Nat.le_trans hv.1.size (Nat.le_trans h12.size hg.size)
  have upd : Upd (fun k => pv.ownBlock = some k) w2 w3 := (Upd.refl _ _).grown hg (fun k hk _ => hk)
  refine ⟨h.choose ++ [v], by simp [hl], by simpa using ho, fun i hi => ?_⟩
  by_cases hlast : i < ps.length
  · obtain ⟨u, hu1, hpc⟩ := hp i hlast
    refine ⟨u, by rw [List.getElem?_append_left (by omega)]; exact hu1, ?_⟩
    rw [List.getElem_append_left hlast]
    have q := (hpc.upd hv.1 (fun _ _ h _ _ _ => h)).upd h12 (fun _ _ h _ _ _ => h)
    exact (q.upd upd (fun k cur hk _ _ hh => hrow k cur hk.symm hh)).mono (by omega)
  · have hi' : i = ps.length := by simp at hi; omega
    subst hi'
    refine ⟨v, by rw [List.getElem?_append_right (by omega)]; simp [hl], ?_⟩
    have e : (ps ++ [bs])[ps.length] = bs := by simp
    rw [e]
    have q := (hv.piece (lo := w0.heap.size) hu.size).upd h12 (fun _ _ h _ _ _ => h)
    have hs1 : w1.heap.size ≤ w3.heap.size := Nat.le_trans h12.size hg.size
    exact (q.upd upd (fun k cur hk _ _ hh => hrow k cur hk.symm hh)).mono hs1
end Go.Proofs.YtgbbogocfmepiaaDoor
