/- Memory: what a step may have turned; rows of bytes; the laws on append, copy and make in a form that leaves the world behind a name. -/
import Derived.Test.YtgbbogocfmepiaaDoorSeq
import Derived.Laws.CopyOwn
namespace Go.Proofs.YtgbbogocfmepiaaDoor
open Go.RowKit
variable {M M' : Nat → Prop} {w w1 w2 : World}
theorem Upd.grownBy (h : New w w1) (row : Option Nat) : w.grownBy w1 row := ⟨h.os, h.tape, h.output, h.size, fun k hk _ => h.keep k hk (fun hh => hh)⟩
theorem ownsRow_new {base e size n : Nat} {v : Value} {xs : List Value} (h : w.ownsRow base e size v n xs) (u : New w w1) : w1.ownsRow base e size v n xs :=
  h.kept (u.grownBy none) (by cases hv : v.ownBlock <;> simp)

/-! ### bytes -/
theorem addr_add (b o j : Nat) : (⟨b, o, none⟩ : Addr).add j = ⟨b, o + j, none⟩ := by unfold Addr.add; split <;> simp_all
def bv (b : UInt8) : Value := .int .u8 (b.toNat : Int)
/-- bytes that can be read: a slice of that many at this address, with this capacity -/
def BytesA (w : World) (a : Option Addr) (c : Nat) (bs : List UInt8) : Prop :=
  bs.length ≤ c ∧ c ≤ maxLen ∧ (a = none → c = 0) ∧ ∀ p, a = some p → (bs ≠ [] → p.spot = none) ∧ ∀ i, (h : i < bs.length) → w.cell? ⟨p.block, p.off + i, none⟩ = some (bv bs[i])
def BytesAt (w : World) (v : Value) (bs : List UInt8) : Prop := ∃ a c, v = .slice a bs.length c ∧ BytesA w a c bs
theorem BytesA.upd {a : Option Addr} {c : Nat} {bs : List UInt8} (h : BytesA w a c bs) (u : Upd M w w1) (hm : ∀ p, a = some p → bs ≠ [] → ¬ M p.block) : BytesA w1 a c bs := by
  refine ⟨h.1, h.2.1, h.2.2.1, fun p hp => ⟨(h.2.2.2 p hp).1, fun i hi => u.cell ((h.2.2.2 p hp).2 i hi) (hm p hp ?_)⟩⟩
  rintro rfl; simp at hi
theorem BytesAt.upd {v : Value} {bs : List UInt8} (h : BytesAt w v bs) (u : Upd M w w1) (hm : ∀ k, v.ownBlock = some k → bs ≠ [] → ¬ M k) : BytesAt w1 v bs := by
  obtain ⟨a, c, rfl, hb⟩ := h
  exact ⟨a, c, rfl, hb.upd u (fun p hp hn => hm _ (by subst hp; rfl) hn)⟩
theorem BytesA.new {a : Option Addr} {c : Nat} {bs : List UInt8} (h : BytesA w a c bs) (u : New w w1) : BytesA w1 a c bs := h.upd u (fun _ _ _ h => h)
theorem BytesAt.new {v : Value} {bs : List UInt8} (h : BytesAt w v bs) (u : New w w1) : BytesAt w1 v bs := h.upd u (fun _ _ _ h => h)
theorem BytesA.lt {p : Addr} {c : Nat} {bs : List UInt8} (h : BytesA w (some p) c bs) (hn : bs ≠ []) : p.block < w.heap.size := by
  have hl : 0 < bs.length := List.length_pos_iff.2 hn
  exact World.block_lt_of_cell? w ⟨p.block, p.off + 0, none⟩ ((h.2.2.2 p rfl).2 0 hl)
theorem BytesA.below {a : Option Addr} {c : Nat} {bs : List UInt8} {w0 : World} (h : BytesA w0 a c bs) (u : Below w0.heap.size w0 w1) : BytesA w1 a c bs := by
  refine h.upd (M := fun k => w0.heap.size ≤ k) (Upd.ofBelow u) (fun p hp hn => ?_)
  subst hp
  have := h.lt hn
  omega
/-- the cells as a law on append or copy asks them -/
theorem BytesA.news {p : Addr} {c : Nat} {bs : List UInt8} (h : BytesA w (some p) c bs) : ∀ j u, (bs.map bv)[j]? = some u → w.cell? (p.add j) = some u := by
  intro j u hu
  obtain ⟨hs, hc⟩ := h.2.2.2 p rfl
  rw [List.getElem?_map] at hu
  cases hj : bs[j]? with
  | none => rw [hj] at hu; cases hu
  | some b =>
    rw [hj] at hu
    simp only [Option.map_some, Option.some.injEq] at hu
    obtain ⟨hlt, hb⟩ := List.getElem?_eq_some_iff.1 hj
    have hs := hs (by rintro rfl; simp at hlt)
    have := hc j hlt
    rw [hb, hu] at this
    rw [← this]
    unfold Addr.add
    split
    · rename_i h0; subst h0; cases p; simp_all
    · rfl
theorem oneCell_bytes (bs : List UInt8) : ∀ u ∈ bs.map bv, u.oneCell' = true := by
  intro u hu; obtain ⟨b, _, rfl⟩ := List.mem_map.1 hu; rfl
theorem bv_inj {a b : UInt8} (h : bv a = bv b) : a = b := by
  simp only [bv, Value.int.injEq, true_and] at h
  exact UInt8.toNat_inj.1 (by omega)
/-- an owned row of bytes reads as them -/
theorem BytesA.owned {base e g n c : Nat} {bs : List UInt8} (h : w.ownsRow base e 1 (.slice (some ⟨g, 0, none⟩) n c) n (bs.map bv)) : n = bs.length ∧ BytesA w (some ⟨g, 0, none⟩) c bs := by
  have hl : n = bs.length := by have := h.1; simp at this; omega
  refine ⟨hl, ?_⟩
  obtain ⟨_, hr⟩ := h
  rcases hr with ⟨hr, _⟩ | ⟨g', cap, cur, hv, hb, hg, hn, hm, hs, ht⟩
  · simp at hr
  · simp only [Value.slice.injEq, Option.some.injEq, Addr.mk.injEq, and_true, true_and] at hv
    obtain ⟨rfl, rfl⟩ := hv
    refine ⟨by omega, hm, by simp, fun p hp => ?_⟩
    simp only [Option.some.injEq] at hp; subst hp
    refine ⟨fun _ => rfl, fun i hi => ?_⟩
    rw [cell_of_row w g (0 + i) cur e (0, 0) hg]
    have : (cur.toList.take (n * 1))[i]? = (bs.map bv)[i]? := by rw [ht]
    rw [List.getElem?_take_of_lt (by omega), List.getElem?_map, List.getElem?_eq_getElem hi] at this
    simpa using this
theorem BytesA.take {w : World} {ax : Option Addr} {c : Nat} {bs : List UInt8} (h : BytesA w ax c bs) (n : Nat) : BytesA w ax c (bs.take n) := by
  refine ⟨Nat.le_trans (List.length_take_le' _ _) h.1, h.2.1, h.2.2.1, fun p hp => ⟨fun hn => (h.2.2.2 p hp).1 (by rintro rfl; simp at hn), fun i hi => ?_⟩⟩
  have hi' : i < bs.length := Nat.lt_of_lt_of_le hi (List.length_take_le' _ _)
  rw [(h.2.2.2 p hp).2 i hi', List.getElem_take]
/-- a part of bytes, as Go's slice expression gives it -/
theorem BytesA.sub1 {w : World} {g o c : Nat} {bs : List UInt8} (h : BytesA w (some ⟨g, o, none⟩) c bs) {lo hi : Nat} (h1 : lo ≤ hi) (h2 : hi ≤ bs.length) : BytesA w (some ⟨g, o + lo, none⟩) (c - lo) ((bs.take hi).drop lo) := by
  have hl : ((bs.take hi).drop lo).length = hi - lo := by simp; omega
  have h3 := h.1
  have h4 := h.2.1
  refine ⟨by omega, by omega, fun hh => (by cases hh), fun p hp => ⟨fun _ => (by simp only [Option.some.injEq] at hp; subst hp; rfl), fun i hi' => ?_⟩⟩
  simp only [Option.some.injEq] at hp
  subst hp
  rw [hl] at hi'
  have := (h.2.2.2 _ rfl).2 (lo + i) (by omega)
  simp only [List.getElem_drop, List.getElem_take]
  rw [← this]
  simp only [Nat.add_assoc]
theorem BytesA.sub0 {w : World} {g o c : Nat} {bs : List UInt8} (h : BytesA w (some ⟨g, o, none⟩) c bs) {lo hi : Nat} (h2 : hi ≤ bs.length) (hc : c = lo) : BytesA w (some ⟨g, o, none⟩) 0 ((bs.take hi).drop lo) := by
  have h3 := h.1
  have hl : (bs.take hi).drop lo = [] := List.eq_nil_of_length_eq_zero (by simp; omega)
  rw [hl]
  refine ⟨Nat.le_refl _, Nat.zero_le _, fun hh => (by cases hh), fun p hp => ⟨fun hh => (hh rfl).elim, fun i hi' => (by simp at hi')⟩⟩
/-- likewise, the two ways in one -/
theorem BytesA.sub {w : World} {g o c o' c' : Nat} {bs : List UInt8} (h : BytesA w (some ⟨g, o, none⟩) c bs) {lo hi : Nat} (h1 : lo ≤ hi) (h2 : hi ≤ bs.length) (hor : (c = lo ∧ o' = o ∧ c' = 0) ∨ (c ≠ lo ∧ o' = o + lo ∧ c' = c - lo)) : BytesA w (some ⟨g, o', none⟩) c' ((bs.take hi).drop lo) := by
  rcases hor with ⟨q, rfl, rfl⟩ | ⟨_, rfl, rfl⟩
  · exact h.sub0 h2 q
  · exact h.sub1 h1 h2
end Go.Proofs.YtgbbogocfmepiaaDoor
