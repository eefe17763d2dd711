/- Memory: what a step may have turned; rows of bytes; the laws on append, copy and make in a form that leaves the world behind a name. -/
import Derived.Test.YtkcmieolneeifaaSeq
import Derived.Laws.CopyOwn
namespace Go.Proofs.Ytkcmieolneeifaa
open Go.RowKit
/-! ### what may have turned -/
/-- of what was there only blocks of M may have turned -/
structure Upd (M : Nat → Prop) (w w' : World) : Prop where
  os : w'.os = w.os
  tape : w'.tape = w.tape
  output : w'.output = w.output
  size : w.heap.size ≤ w'.heap.size
  keep : ∀ k, k < w.heap.size → ¬ M k → w'.heap[k]? = w.heap[k]?
variable {M M' : Nat → Prop} {w w1 w2 : World}
theorem Upd.refl (M : Nat → Prop) (w : World) : Upd M w w := ⟨rfl, rfl, rfl, Nat.le_refl _, fun _ _ _ => rfl⟩
theorem Upd.trans (h : Upd M w w1) (h' : Upd M' w1 w2) (hm : ∀ k, M' k → k < w.heap.size → M k) : Upd M w w2 :=
  ⟨h'.os.trans h.os, h'.tape.trans h.tape, h'.output.trans h.output, Nat.le_trans h.size h'.size,
   fun k hk hn => (h'.keep k (Nat.lt_of_lt_of_le hk h.size) (fun hh => hn (hm k hh hk))).trans (h.keep k hk hn)⟩
theorem Upd.mono (h : Upd M' w w1) (hm : ∀ k, M' k → k < w.heap.size → M k) : Upd M w w1 := (Upd.refl M w).trans h hm
theorem Upd.drew (h : Upd M w w1) : Upd M w w1.drew := ⟨h.os, h.tape, h.output, h.size, h.keep⟩
theorem Upd.alloc (h : Upd M w w1) (o : Obj) : Upd M w (w1.alloc o) :=
  h.trans (M' := fun _ => False) ⟨rfl, rfl, rfl, by simp, fun k hk _ => Below.heap_alloc _ _ _ hk⟩ (fun _ hh => hh.elim)
theorem Upd.setCell (h : Upd M w w1) {p : Addr} (hp : p.block < w.heap.size → M p.block) (v : Value) : Upd M w (w1.setCell p v) :=
  h.trans (M' := fun k => k = p.block) ⟨rfl, rfl, rfl, by simp [World.setCell], fun k _ hk => Below.heap_setCell _ _ _ _ hk⟩ (fun k hk hh => by subst hk; exact hp hh)
theorem Upd.setRow (h : Upd M w w1) {g : Nat} (hg : g < w.heap.size → M g) (cs : Array Value) : Upd M w (w1.setRow g cs) :=
  h.trans (M' := fun k => k = g) ⟨rfl, rfl, rfl, by simp [World.setRow], fun k _ hk => setRow_other _ _ _ _ hk⟩ (fun k hk hh => by subst hk; exact hg hh)
theorem Upd.grown (h : Upd M w w1) {row : Option Nat} (hg : w1.grownBy w2 row) (hr : ∀ k, row = some k → k < w.heap.size → M k) : Upd M w w2 :=
  h.trans (M' := fun k => row = some k) ⟨hg.os, hg.tape, hg.output, hg.size, fun k hk hn => hg.block k hk (fun e => hn e.symm)⟩ (fun k hk hh => hr k hk hh)
theorem Upd.heap (h : Upd M w w1) {k : Nat} {o : Obj} (hk : w.heap[k]? = some o) (hm : ¬ M k) : w1.heap[k]? = some o := by
  rw [h.keep k (Array.getElem?_eq_some_iff.1 hk).1 hm]; exact hk
theorem Upd.cell (h : Upd M w w1) {p : Addr} {v : Value} (hk : w.cell? p = some v) (hm : ¬ M p.block) : w1.cell? p = some v :=
  (World.cell?_of_block (h.keep _ (World.block_lt_of_cell? w p hk) hm)).trans hk
theorem Upd.below (h : Upd M w w1) {B : Nat} (hB : ∀ k, M k → B ≤ k) (hs : B ≤ w.heap.size) : Below B w w1 :=
  ⟨h.os, h.tape, h.output, h.size, fun k hk => h.keep k (by omega) (fun hm => by have := hB k hm; omega)⟩
theorem Upd.ofBelow {B : Nat} (h : Below B w w1) : Upd (fun k => B ≤ k) w w1 := ⟨h.os, h.tape, h.output, h.size, fun k _ hn => h.block k (by omega)⟩
abbrev New (w w' : World) : Prop := Upd (fun _ => False) w w'
theorem Upd.new (h : New w w1) : Upd M w w1 := h.mono (fun _ hh => hh.elim)

theorem Upd.andNew (h : Upd M w w1) (h' : New w1 w2) : Upd M w w2 := h.trans h' (fun _ hh _ => False.elim hh)
theorem Upd.below0 (h : New w w1) : Below w.heap.size w w1 := h.below (fun _ hh => False.elim hh) (Nat.le_refl _)

/-! ### bytes -/
def bv (b : UInt8) : Value := .int .u8 (b.toNat : Int)
/-- bytes that can be read: a slice of that many at this address, with this capacity -/
def BytesA (w : World) (a : Option Addr) (c : Nat) (bs : List UInt8) : Prop :=
  bs.length ≤ c ∧ c ≤ maxLen ∧ (a = none → c = 0) ∧ ∀ p, a = some p → (bs ≠ [] → p.spot = none) ∧ ∀ i, (h : i < bs.length) → w.cell? ⟨p.block, p.off + i, none⟩ = some (bv bs[i])
def BytesAt (w : World) (v : Value) (bs : List UInt8) : Prop := ∃ a c, v = .slice a bs.length c ∧ BytesA w a c bs
theorem BytesA.upd {a : Option Addr} {c : Nat} {bs : List UInt8} (h : BytesA w a c bs) (u : Upd M w w1) (hm : ∀ p, a = some p → bs ≠ [] → ¬ M p.block) : BytesA w1 a c bs := by
  refine ⟨h.1, h.2.1, h.2.2.1, fun p hp => ⟨(h.2.2.2 p hp).1, fun i hi => u.cell ((h.2.2.2 p hp).2 i hi) (hm p hp ?_)⟩⟩
  rintro rfl; simp at hi
theorem BytesAt.upd {v : Value} {bs : List UInt8} (h : BytesAt w v bs) (u : Upd M w w1) (hm : ∀ k, v.ownBlock = some k → bs ≠ [] → ¬ M k) : BytesAt w1 v bs := by
  obtain ⟨a, c, rfl, hb⟩ := h
  exact ⟨a, c, rfl, hb.upd u (fun p hp hn => hm _ (by subst hp; rfl) hn)⟩
theorem BytesA.new {a : Option Addr} {c : Nat} {bs : List UInt8} (h : BytesA w a c bs) (u : New w w1) : BytesA w1 a c bs := h.upd u (fun _ _ _ h => h)
theorem BytesAt.new {v : Value} {bs : List UInt8} (h : BytesAt w v bs) (u : New w w1) : BytesAt w1 v bs := h.upd u (fun _ _ _ h => h)
theorem BytesA.lt {p : Addr} {c : Nat} {bs : List UInt8} (h : BytesA w (some p) c bs) (hn : bs ≠ []) : p.block < w.heap.size := by
  have hl : 0 < bs.length := List.length_pos_iff.2 hn
  exact World.block_lt_of_cell? w ⟨p.block, p.off + 0, none⟩ ((h.2.2.2 p rfl).2 0 hl)
theorem BytesA.below {a : Option Addr} {c : Nat} {bs : List UInt8} {w0 : World} (h : BytesA w0 a c bs) (u : Below w0.heap.size w0 w1) : BytesA w1 a c bs := by
  refine h.upd (M := fun k => w0.heap.size ≤ k) (Upd.ofBelow u) (fun p hp hn => ?_)
  subst hp
  have := h.lt hn
  omega
/-- the cells as a law on append or copy asks them -/
theorem BytesA.news {p : Addr} {c : Nat} {bs : List UInt8} (h : BytesA w (some p) c bs) : ∀ j u, (bs.map bv)[j]? = some u → w.cell? (p.add j) = some u := by
  intro j u hu
  obtain ⟨hs, hc⟩ := h.2.2.2 p rfl
  rw [List.getElem?_map] at hu
  cases hj : bs[j]? with
  | none => rw [hj] at hu; cases hu
  | some b =>
    rw [hj] at hu
    simp only [Option.map_some, Option.some.injEq] at hu
    obtain ⟨hlt, hb⟩ := List.getElem?_eq_some_iff.1 hj
    have hs := hs (by rintro rfl; simp at hlt)
    have := hc j hlt
    rw [hb, hu] at this
    rw [← this]
    unfold Addr.add
    split
    · rename_i h0; subst h0; cases p; simp_all
    · rfl
theorem oneCell_bytes (bs : List UInt8) : ∀ u ∈ bs.map bv, u.oneCell' = true := by
  intro u hu; obtain ⟨b, _, rfl⟩ := List.mem_map.1 hu; rfl
theorem bv_inj {a b : UInt8} (h : bv a = bv b) : a = b := by
  simp only [bv, Value.int.injEq, true_and] at h
  exact UInt8.toNat_inj.1 (by omega)
/-- an owned row of bytes reads as them -/
theorem BytesA.owned {base e g n c : Nat} {bs : List UInt8} (h : w.ownsRow base e 1 (.slice (some ⟨g, 0, none⟩) n c) n (bs.map bv)) : n = bs.length ∧ BytesA w (some ⟨g, 0, none⟩) c bs := by
  have hl : n = bs.length := by have := h.1; simp at this; omega
  refine ⟨hl, ?_⟩
  obtain ⟨_, hr⟩ := h
  rcases hr with ⟨hr, _⟩ | ⟨g', cap, cur, hv, hb, hg, hn, hm, hs, ht⟩
  · simp at hr
  · simp only [Value.slice.injEq, Option.some.injEq, Addr.mk.injEq, and_true, true_and] at hv
    obtain ⟨rfl, rfl⟩ := hv
    refine ⟨by omega, hm, by simp, fun p hp => ?_⟩
    simp only [Option.some.injEq] at hp; subst hp
    refine ⟨fun _ => rfl, fun i hi => ?_⟩
    rw [cell_of_row w g (0 + i) cur e (0, 0) hg]
    have : (cur.toList.take (n * 1))[i]? = (bs.map bv)[i]? := by rw [ht]
    rw [List.getElem?_take_of_lt (by omega), List.getElem?_map, List.getElem?_eq_getElem hi] at this
    simpa using this
end Go.Proofs.Ytkcmieolneeifaa
