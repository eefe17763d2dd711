/- Lists of plain values in rows of one's own, of any element type; beside a list of byte slices. -/
import Derived.Test.YtmmjfpcmempeeaaDoorImplSl
namespace Go.Proofs.YtmmjfpcmempeeaaDoor
open Go.RowKit
/-- plain values in a row of one's own -/
def OwnG {α : Type} (e : TypeId) (f : α → Value) (base : Nat) (w : World) (v : Value) (xs : List α) : Prop := w.ownsRow base e 1 v xs.length (xs.map f)
theorem OwnG.nil {α : Type} (e : TypeId) (f : α → Value) (base : Nat) (w : World) : OwnG e f base w (.slice none 0 0) [] := World.ownsRow_nil _ _ _ _
theorem OwnG.upd {α : Type} {e : TypeId} {f : α → Value} {M : Nat → Prop} {base : Nat} {w w1 : World} {v : Value} {xs : List α} (h : OwnG e f base w v xs) (u : Upd M w w1) (h1 : ∀ k cur, M k → base ≤ k → w.heap[k]? = some (.cells cur e (0, 0)) → False) : OwnG e f base w1 v xs := by
  refine ⟨h.1, ?_⟩
  rcases h.2 with h | ⟨g, cap, cur, hv, hb, hg, r⟩
  · exact .inl h
  · exact .inr ⟨g, cap, cur, hv, hb, u.heap hg (fun hh => h1 g cur hh hb hg), r⟩
theorem OwnG.new {α : Type} {e : TypeId} {f : α → Value} {base : Nat} {w w1 : World} {v : Value} {xs : List α} (h : OwnG e f base w v xs) (u : New w w1) : OwnG e f base w1 v xs := h.upd u (fun _ _ hh _ _ => hh)
/-- values that can be read -/
def ReadG {α : Type} (f : α → Value) (w : World) (a : Option Addr) (c : Nat) (xs : List α) : Prop :=
  xs.length ≤ c ∧ c ≤ maxLen ∧ (a = none → c = 0) ∧ ∀ p, a = some p → p.spot = none ∧ ∀ i, (h : i < xs.length) → w.cell? ⟨p.block, p.off + i, none⟩ = some (f xs[i])
theorem ReadG.new {α : Type} {f : α → Value} {w w1 : World} {a : Option Addr} {c : Nat} {xs : List α} (h : ReadG f w a c xs) (u : New w w1) : ReadG f w1 a c xs :=
  ⟨h.1, h.2.1, h.2.2.1, fun p hp => ⟨(h.2.2.2 p hp).1, fun i hi => u.cell ((h.2.2.2 p hp).2 i hi) (fun h => h)⟩⟩
theorem OwnG.read {α : Type} {e : TypeId} {f : α → Value} {base : Nat} {w : World} {v : Value} {xs : List α} (h : OwnG e f base w v xs) : ∃ a c, v = .slice a xs.length c ∧ ReadG f w a c xs := by
  rcases h.2 with ⟨rfl, hn⟩ | ⟨g, cap, cur, rfl, hb, hg, hn, hm, hs, ht⟩
  · exact ⟨none, 0, by rw [hn], by omega, Nat.zero_le _, fun _ => rfl, fun p hp => by cases hp⟩
  · refine ⟨_, cap, rfl, hn, hm, by simp, fun p hp' => ?_⟩
    simp only [Option.some.injEq] at hp'; subst hp'
    refine ⟨rfl, fun i hi => ?_⟩
    rw [World.cell_of_heap hg]
    have : (cur.toList.take (xs.length * 1))[i]? = (xs.map f)[i]? := by rw [ht]
    rw [List.getElem?_take_of_lt (by omega), List.getElem?_map, List.getElem?_eq_getElem hi] at this
    simpa using this
/-- the cell of one -/
theorem ReadG.at {α : Type} {f : α → Value} {w : World} {a : Option Addr} {c : Nat} {xs : List α} (h : ReadG f w a c xs) {k : Nat} (hk : k < xs.length) : ∃ b o, a = some ⟨b, o, none⟩ ∧ w.cell? ⟨b, o + k, none⟩ = some (f xs[k]) := by
  cases a with
  | none => have := h.1; have := h.2.2.1 rfl; omega
  | some p => obtain ⟨hs, hc⟩ := h.2.2.2 p rfl; obtain ⟨b, o, s⟩ := p; subst hs; exact ⟨b, o, rfl, hc k hk⟩
theorem OwnG.grow {α : Type} {e : TypeId} {f : α → Value} {base : Nat} {w w3 : World} {pv pv' : Value} {xs : List α} {x : α} (h : OwnG e f base w pv xs) {w2 : World} (h12 : New w w2)
    (ho : w3.ownsRow base e 1 pv' (xs.length + 1) (xs.map f ++ [f x])) (hg : w2.grownBy w3 pv.ownBlock) : OwnG e f base w3 pv' (xs ++ [x]) ∧ Upd (fun k => base ≤ k ∧ ∃ cur, w2.heap[k]? = some (.cells cur e (0, 0))) w2 w3 := by
  refine ⟨?_, (Upd.refl _ _).grown hg (fun k hk _ => ?_)⟩
  · unfold OwnG; simpa using ho
  · obtain ⟨h1, cur, h2⟩ := ownsRow_block h hk
    exact ⟨h1, cur, h12.heap h2 (fun h => h)⟩
/-- a list of byte slices and a list of plain values, beside a reader -/
structure BothG {α : Type} (e : TypeId) (f : α → Value) (base : Nat) (L : Loc) (S : Err → Addr) (w wr : World) (v u : Value) (ls : List (List UInt8)) (cs : List α) (st : RS) : Prop where
  rd : Rd S wr L st
  new : New w wr
  ls : OwnL base (fun k => base ≤ k) wr v ls
  cs : OwnG e f base wr u cs
  hi : base ≤ wr.heap.size
theorem BothG.reader {α : Type} {e : TypeId} {f : α → Value} {base : Nat} {L : Loc} {S : Err → Addr} {w wr w2 : World} {v u : Value} {ls : List (List UInt8)} {cs : List α} {st st2 : RS} (h : BothG e f base L S w wr v u ls cs st) (hlo : w.heap.size ≤ L.lo) (hhi : L.hi ≤ base) (h2 : Rd S w2 L st2) (hu : Upd (In L) wr w2) : BothG e f base L S w w2 v u ls cs st2 where
  rd := h2
  new := Upd.inNew h.new hu hlo
  ls := h.ls.upd hu (fun k _ hk hb _ => by have := hk.2; omega) (fun k _ hk hb _ => by have := hk.2; have hb : base ≤ k := hb; omega)
  cs := h.cs.upd hu (fun k _ hk hb _ => by have := hk.2; omega)
  hi := Nat.le_trans h.hi hu.size
theorem BothG.newB {α : Type} {e : TypeId} {f : α → Value} {base : Nat} {L : Loc} {S : Err → Addr} {w wr w2 : World} {v u : Value} {ls : List (List UInt8)} {cs : List α} {st : RS} (h : BothG e f base L S w wr v u ls cs st) (hu : New wr w2) : BothG e f base L S w w2 v u ls cs st :=
  ⟨h.rd.new hu, h.new.andNew hu, h.ls.new hu, h.cs.new hu, Nat.le_trans h.hi hu.size⟩
theorem BothG.line {α : Type} {e : TypeId} {f : α → Value} (he : e ≠ 29) {base : Nat} {L : Loc} {S : Err → Addr} {w w1 w2 w3 : World} {v u v' x : Value} {ls : List (List UInt8)} {cs : List α} {st : RS} {bs : List UInt8} {vs : List Value} (h : BothG e f base L S w w1 v u ls cs st) (hlo : w.heap.size ≤ L.lo) (hhi : L.hi ≤ base) (h12 : New w1 w2)
    (hl : vs.length = ls.length) (ho1 : w1.ownsRow base 29 1 v ls.length vs) (hp : ∀ i, (h : i < ls.length) → ∃ u, vs[i]? = some u ∧ ElemB w1 (fun k => base ≤ k) u ls[i]) (hx : ElemB w1 (fun k => base ≤ k) x bs)
    (ho : w3.ownsRow base 29 1 v' (ls.length + 1) (vs ++ [x])) (hg : w2.grownBy w3 v.ownBlock) : BothG e f base L S w w3 v' u (ls ++ [bs]) cs st := by
  obtain ⟨h1, h2⟩ := OwnL.grow hl ho1 hp hx h12 ho hg
  have hn := h.newB h12
  obtain ⟨q1, q2⟩ := Both.above hn.rd hn.new hlo hhi h2 (fun k hk => hk.1)
  exact ⟨q1, q2, h1, hn.cs.upd h2 (fun k cur hm _ hc => by obtain ⟨_, cur', h2⟩ := hm; rw [hc] at h2; simp at h2; exact he h2.2), Nat.le_trans hn.hi h2.size⟩
theorem BothG.code {α : Type} {e : TypeId} {f : α → Value} (he : e ≠ 29) (he2 : e ≠ 5) {base : Nat} {L : Loc} {S : Err → Addr} {w w1 w2 w3 : World} {v u u' : Value} {ls : List (List UInt8)} {cs : List α} {st : RS} {x : α} (h : BothG e f base L S w w1 v u ls cs st) (hlo : w.heap.size ≤ L.lo) (hhi : L.hi ≤ base) (h12 : New w1 w2)
    (ho : w3.ownsRow base e 1 u' (cs.length + 1) (cs.map f ++ [f x])) (hg : w2.grownBy w3 u.ownBlock) : BothG e f base L S w w3 v u' ls (cs ++ [x]) st := by
  obtain ⟨h1, h2⟩ := OwnG.grow h.cs h12 ho hg
  have hn := h.newB h12
  obtain ⟨q1, q2⟩ := Both.above hn.rd hn.new hlo hhi h2 (fun k hk => hk.1)
  exact ⟨q1, q2, hn.ls.upd h2 (fun k cur hm _ hc => by obtain ⟨_, cur', h2⟩ := hm; rw [hc] at h2; simp at h2; exact he h2.2.symm) (fun k cur hm _ hc => by obtain ⟨_, cur', h2⟩ := hm; rw [hc] at h2; simp at h2; exact he2 h2.2.symm), h1, Nat.le_trans hn.hi h2.size⟩
/-- two lists of plain values, beside a reader -/
structure TwoG {α β : Type} (e : TypeId) (f : α → Value) (e' : TypeId) (f' : β → Value) (base : Nat) (L : Loc) (S : Err → Addr) (w wr : World) (v u : Value) (ls : List α) (cs : List β) (st : RS) : Prop where
  rd : Rd S wr L st
  new : New w wr
  ls : OwnG e f base wr v ls
  cs : OwnG e' f' base wr u cs
  hi : base ≤ wr.heap.size
theorem TwoG.reader {α β : Type} {e : TypeId} {f : α → Value} {e' : TypeId} {f' : β → Value} {base : Nat} {L : Loc} {S : Err → Addr} {w wr w2 : World} {v u : Value} {ls : List α} {cs : List β} {st st2 : RS} (h : TwoG e f e' f' base L S w wr v u ls cs st) (hlo : w.heap.size ≤ L.lo) (hhi : L.hi ≤ base) (h2 : Rd S w2 L st2) (hu : Upd (In L) wr w2) : TwoG e f e' f' base L S w w2 v u ls cs st2 where
  rd := h2
  new := Upd.inNew h.new hu hlo
  ls := h.ls.upd hu (fun k _ hk hb _ => by have := hk.2; omega)
  cs := h.cs.upd hu (fun k _ hk hb _ => by have := hk.2; omega)
  hi := Nat.le_trans h.hi hu.size
theorem TwoG.newB {α β : Type} {e : TypeId} {f : α → Value} {e' : TypeId} {f' : β → Value} {base : Nat} {L : Loc} {S : Err → Addr} {w wr w2 : World} {v u : Value} {ls : List α} {cs : List β} {st : RS} (h : TwoG e f e' f' base L S w wr v u ls cs st) (hu : New wr w2) : TwoG e f e' f' base L S w w2 v u ls cs st :=
  ⟨h.rd.new hu, h.new.andNew hu, h.ls.new hu, h.cs.new hu, Nat.le_trans h.hi hu.size⟩
theorem TwoG.one {α β : Type} {e : TypeId} {f : α → Value} {e' : TypeId} {f' : β → Value} (he : e ≠ e') {base : Nat} {L : Loc} {S : Err → Addr} {w w1 w2 w3 : World} {v u v' : Value} {ls : List α} {cs : List β} {st : RS} {x : α} (h : TwoG e f e' f' base L S w w1 v u ls cs st) (hlo : w.heap.size ≤ L.lo) (hhi : L.hi ≤ base) (h12 : New w1 w2)
    (ho : w3.ownsRow base e 1 v' (ls.length + 1) (ls.map f ++ [f x])) (hg : w2.grownBy w3 v.ownBlock) : TwoG e f e' f' base L S w w3 v' u (ls ++ [x]) cs st := by
  obtain ⟨h1, h2⟩ := OwnG.grow h.ls h12 ho hg
  have hn := h.newB h12
  obtain ⟨q1, q2⟩ := Both.above hn.rd hn.new hlo hhi h2 (fun k hk => hk.1)
  exact ⟨q1, q2, h1, hn.cs.upd h2 (fun k cur hm _ hc => by obtain ⟨_, cur', h2⟩ := hm; rw [hc] at h2; simp at h2; exact he h2.2.symm), Nat.le_trans hn.hi h2.size⟩
theorem TwoG.two {α β : Type} {e : TypeId} {f : α → Value} {e' : TypeId} {f' : β → Value} (he : e ≠ e') {base : Nat} {L : Loc} {S : Err → Addr} {w w1 w2 w3 : World} {v u u' : Value} {ls : List α} {cs : List β} {st : RS} {x : β} (h : TwoG e f e' f' base L S w w1 v u ls cs st) (hlo : w.heap.size ≤ L.lo) (hhi : L.hi ≤ base) (h12 : New w1 w2)
    (ho : w3.ownsRow base e' 1 u' (cs.length + 1) (cs.map f' ++ [f' x])) (hg : w2.grownBy w3 u.ownBlock) : TwoG e f e' f' base L S w w3 v u' ls (cs ++ [x]) st := by
  obtain ⟨h1, h2⟩ := OwnG.grow h.cs h12 ho hg
  have hn := h.newB h12
  obtain ⟨q1, q2⟩ := Both.above hn.rd hn.new hlo hhi h2 (fun k hk => hk.1)
  exact ⟨q1, q2, hn.ls.upd h2 (fun k cur hm _ hc => by obtain ⟨_, cur', h2⟩ := hm; rw [hc] at h2; simp at h2; exact he h2.2), h1, Nat.le_trans hn.hi h2.size⟩
def fBool : Bool → Value := fun b => .bool b
def fI64 : Nat → Value := fun n => .int .i64 (n : Int)
def fI32 : Nat → Value := fun n => .int .i32 (n : Int)
end Go.Proofs.YtmmjfpcmempeeaaDoor
