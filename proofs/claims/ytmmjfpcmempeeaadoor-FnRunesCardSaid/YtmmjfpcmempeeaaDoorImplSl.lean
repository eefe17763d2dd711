/- impl.Slices. -/
import Derived.Test.YtmmjfpcmempeeaaDoorReadSlice
import Derived.Test.YtmmjfpcmempeeaaDoorImplPD
import Derived.Test.YtmmjfpcmempeeaaDoorLists
namespace Go.Proofs.YtmmjfpcmempeeaaDoor
open Go.RowKit
theorem sliceA_left (A : AR) (d : UInt8) : (sliceA A d).1.1.length ≤ A.left.length ∧ (sliceA A d).2.left.length ≤ A.left.length ∧ (sliceA A d).2.f = A.f ∧ (sliceA A d).2.size = A.size := by
  unfold sliceA
  split
  · exact ⟨List.length_take_le' _ _, by unfold AR.read; simp, rfl, rfl⟩
  · split
    · exact ⟨Nat.le_refl _, by unfold AR.read; simp, rfl, rfl⟩
    · exact ⟨List.length_take_le' _ _, by unfold AR.read; simp, rfl, rfl⟩
/-- what ReadSlice tells beside a line -/
theorem sliceA_err (A : AR) (d : UInt8) : (sliceA A d).1.2 = none ∨ (sliceA A d).1.2 = some .full ∨ (sliceA A d).1.2 = some (endErr A.f) := by
  unfold sliceA
  split
  · exact .inl rfl
  · split
    · exact .inr (.inr rfl)
    · exact .inr (.inl rfl)
def runSl (d : UInt8) : Nat → AR → List (List UInt8) × List Nat
  | 0, _ => ([], [])
  | n + 1, A => if (sliceA A d).1.2 = some (endErr A.f) then ([(sliceA A d).1.1], [ecode (sliceA A d).1.2]) else ((sliceA A d).1.1 :: (runSl d n (sliceA A d).2).1, ecode (sliceA A d).1.2 :: (runSl d n (sliceA A d).2).2)
/-- two lists more by one each: lines first, then codes -/
structure Both (base : Nat) (L : Loc) (S : Err → Addr) (w wr : World) (v u : Value) (ls : List (List UInt8)) (cs : List Nat) (st : RS) : Prop where
  rd : Rd S wr L st
  new : New w wr
  ls : OwnL base (fun k => base ≤ k) wr v ls
  cs : OwnI base wr u cs
  hi : base ≤ wr.heap.size
theorem Both.reader {base : Nat} {L : Loc} {S : Err → Addr} {w wr w2 : World} {v u : Value} {ls : List (List UInt8)} {cs : List Nat} {st st2 : RS} (h : Both base L S w wr v u ls cs st) (hlo : w.heap.size ≤ L.lo) (hhi : L.hi ≤ base) (h2 : Rd S w2 L st2) (hu : Upd (In L) wr w2) : Both base L S w w2 v u ls cs st2 where
  rd := h2
  new := Upd.inNew h.new hu hlo
  ls := h.ls.upd hu (fun k _ hk hb _ => by have := hk.2; omega) (fun k _ hk hb _ => by have := hk.2; have hb : base ≤ k := hb; omega)
  cs := h.cs.upd hu (fun k _ hk hb _ => by have := hk.2; omega)
  hi := Nat.le_trans h.hi hu.size
theorem Both.newB {base : Nat} {L : Loc} {S : Err → Addr} {w wr w2 : World} {v u : Value} {ls : List (List UInt8)} {cs : List Nat} {st : RS} (h : Both base L S w wr v u ls cs st) (hu : New wr w2) : Both base L S w w2 v u ls cs st :=
  ⟨h.rd.new hu, h.new.andNew hu, h.ls.new hu, h.cs.new hu, Nat.le_trans h.hi hu.size⟩
theorem Both.above {base : Nat} {L : Loc} {S : Err → Addr} {w w2 w3 : World} {st : RS} {M : Nat → Prop} (hrd : Rd S w2 L st) (hnew : New w w2) (hlo : w.heap.size ≤ L.lo) (hhi : L.hi ≤ base) (hu : Upd M w2 w3) (hM : ∀ k, M k → base ≤ k) : Rd S w3 L st ∧ New w w3 := by
  have := hrd.bhi; have := hrd.blo; have := hrd.lomid
  exact ⟨hrd.upd hu (fun k hk hin => by have := hM k hk; have := hin.2; omega), hnew.trans hu (fun k hk hlt => by have := hM k hk; omega)⟩
theorem Both.line {base : Nat} {L : Loc} {S : Err → Addr} {w w1 w2 w3 : World} {v u v' x : Value} {ls : List (List UInt8)} {cs : List Nat} {st : RS} {bs : List UInt8} {vs : List Value} (h : Both base L S w w1 v u ls cs st) (hlo : w.heap.size ≤ L.lo) (hhi : L.hi ≤ base) (h12 : New w1 w2)
    (hl : vs.length = ls.length) (ho1 : w1.ownsRow base 29 1 v ls.length vs) (hp : ∀ i, (h : i < ls.length) → ∃ u, vs[i]? = some u ∧ ElemB w1 (fun k => base ≤ k) u ls[i]) (hx : ElemB w1 (fun k => base ≤ k) x bs)
    (ho : w3.ownsRow base 29 1 v' (ls.length + 1) (vs ++ [x])) (hg : w2.grownBy w3 v.ownBlock) : Both base L S w w3 v' u (ls ++ [bs]) cs st := by
  obtain ⟨h1, h2⟩ := OwnL.grow hl ho1 hp hx h12 ho hg
  have hn := h.newB h12
  obtain ⟨q1, q2⟩ := Both.above hn.rd hn.new hlo hhi h2 (fun k hk => hk.1)
  exact ⟨q1, q2, h1, hn.cs.upd h2 (fun k cur hm _ hc => by obtain ⟨_, cur', h2⟩ := hm; rw [hc] at h2; simp at h2), Nat.le_trans hn.hi h2.size⟩
theorem Both.code {base : Nat} {L : Loc} {S : Err → Addr} {w w1 w2 w3 : World} {v u u' : Value} {ls : List (List UInt8)} {cs : List Nat} {st : RS} {x : Nat} (h : Both base L S w w1 v u ls cs st) (hlo : w.heap.size ≤ L.lo) (hhi : L.hi ≤ base) (h12 : New w1 w2)
    (ho : w3.ownsRow base 3 1 u' (cs.length + 1) ((cs.map fun (x : Nat) => Value.int .i64 (x : Int)) ++ [.int .i64 (x : Int)])) (hg : w2.grownBy w3 u.ownBlock) : Both base L S w w3 v u' ls (cs ++ [x]) st := by
  obtain ⟨h1, h2⟩ := OwnI.grow h.cs h12 ho hg
  have hn := h.newB h12
  obtain ⟨q1, q2⟩ := Both.above hn.rd hn.new hlo hhi h2 (fun k hk => hk.1)
  exact ⟨q1, q2, hn.ls.upd h2 (fun k cur hm _ hc => by obtain ⟨_, cur', h2⟩ := hm; rw [hc] at h2; simp at h2) (fun k cur hm _ hc => by obtain ⟨_, cur', h2⟩ := hm; rw [hc] at h2; simp at h2), h1, Nat.le_trans hn.hi h2.size⟩
/-- a new box of one cell, as a source of append -/
theorem box_news {w : World} {x : Value} {t : TypeId} : ∀ p, (some ⟨w.heap.size, 0, none⟩ : Option Addr) = some p → ∀ j u, [x][j]? = some u → (w.alloc (.cells #[x] t)).cell? (p.add j) = some u := fun p hp => by
  simp only [Option.some.injEq] at hp; subst hp
  exact World.news_of_block' (cs := #[x]) (t := t) (fr := (0, 0)) (heap_alloc_new w _)
def SlicesPost (w : World) (x : List (List UInt8) × List Nat) (v : Value) (w' : World) : Prop :=
  New w w' ∧ ∃ a b c e, v = .tuple #[.slice a x.1.length c, .slice b x.2.length e] ∧ PiecesA w' a c x.1 ∧ IntsA w' b e x.2
end Go.Proofs.YtmmjfpcmempeeaaDoor
