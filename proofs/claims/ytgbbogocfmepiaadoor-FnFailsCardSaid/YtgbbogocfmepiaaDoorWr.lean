/- A buffered writer over a sink, in memory; what it has written. -/
import Derived.Test.YtgbbogocfmepiaaDoorFresh
namespace Go.Proofs.YtgbbogocfmepiaaDoor
open Go.RowKit
/-- a writer's state: the buffer, how much of it is held, whether it failed; the sink's room, what it has, and the value of that -/
structure WS where
  buf : List UInt8
  n : Nat
  err : Bool
  room : Int
  out : List UInt8
  ov : Value
structure WLoc where
  b : Nat
  bb : Nat
  s : Nat
def errW (e : Bool) : Value := if e then .iface 106 (.agg #[]) else .nilIface
def sinkV (L : WLoc) : Value := .iface 82 (.pointer (some ⟨L.s, 0, none⟩))
/-- a sink -/
structure Snk (w : World) (base s : Nat) (room : Int) (ov : Value) (out : List UInt8) : Prop where
  hs : w.heap[s]? = some (.cells #[.int .i64 room, ov] 84 (0, 0))
  own : w.ownsRow base 5 1 ov out.length (out.map bv)
def SM (s : Nat) (ov : Value) (k : Nat) : Prop := k = s ∨ ov.ownBlock = some k
theorem Snk.upd {M : Nat → Prop} {w w1 : World} {base s : Nat} {room : Int} {ov : Value} {out : List UInt8} (h : Snk w base s room ov out) (u : Upd M w w1) (hm : ∀ k, M k → SM s ov k → False) : Snk w1 base s room ov out := by
  refine ⟨u.heap h.hs (fun hh => hm _ hh (.inl rfl)), h.own.1, ?_⟩
  rcases h.own.2 with h1 | ⟨g, cap, cur, hv, hb, hg, r⟩
  · exact .inl h1
  · exact .inr ⟨g, cap, cur, hv, hb, u.heap hg (fun hh => hm _ hh (.inr (by rw [hv]; rfl))), r⟩
theorem Snk.lt {w : World} {base s : Nat} {room : Int} {ov : Value} {out : List UInt8} (h : Snk w base s room ov out) {k : Nat} (hk : ov.ownBlock = some k) : base ≤ k ∧ k < w.heap.size ∧ ∃ cur, w.heap[k]? = some (.cells cur 5 (0, 0)) := by
  have h1 := h.own.lt k hk
  obtain ⟨_, h2⟩ := ownsRow_block h.own hk
  exact ⟨h1.1, h1.2, h2⟩
/-- how many bytes it takes -/
def takes (room : Int) (n : Nat) : Nat := if room < 0 then n else min n room.toNat
def roomOf (room : Int) (n : Nat) : Int := if room < 0 then room else room - (takes room n : Int)
theorem takes_le (room : Int) (n : Nat) : takes room n ≤ n := by unfold takes; split <;> omega
def SinkPost (base s : Nat) (room : Int) (ov : Value) (out bs : List UInt8) (w : World) (v : Value) (w' : World) : Prop :=
  v = .tuple #[.int .i64 (takes room bs.length : Int), errW (decide (takes room bs.length < bs.length))] ∧ ∃ ov', Snk w' base s (roomOf room bs.length) ov' (out ++ bs.take (takes room bs.length)) ∧ Upd (SM s ov) w w' ∧ Stay w ov ov'
/-! ### a writer -/
def wrCells (L : WLoc) (st : WS) : Array Value := #[errW st.err, .slice (some ⟨L.bb, 0, none⟩) st.buf.length st.buf.length, .int .i64 (st.n : Int), sinkV L]
structure Wr (w : World) (base : Nat) (L : WLoc) (st : WS) : Prop where
  hb : w.heap[L.b]? = some (.cells (wrCells L st) 111 (0, 0))
  hbb : w.heap[L.bb]? = some (.cells (st.buf.map bv).toArray 5 (0, 0))
  snk : Snk w base L.s st.room st.ov st.out
  apart : st.ov.ownBlock ≠ some L.bb
  n : st.n ≤ st.buf.length
  pos : 1 ≤ st.buf.length
  hi : st.buf.length ≤ 32767
  rlo : -1 ≤ st.room
  rhi : st.room ≤ 65535
  size : base ≤ w.heap.size
  lo : base ≤ L.b ∧ base ≤ L.bb ∧ base ≤ L.s
def WM (L : WLoc) (ov : Value) (k : Nat) : Prop := k = L.b ∨ k = L.bb ∨ k = L.s ∨ ov.ownBlock = some k
def held (st : WS) : List UInt8 := st.buf.take st.n
theorem Wr.held_length {w : World} {base : Nat} {L : WLoc} {st : WS} (h : Wr w base L st) : (held st).length = st.n := by unfold held; rw [List.length_take]; have := h.n; omega
theorem Wr.ne {w : World} {base : Nat} {L : WLoc} {st : WS} (h : Wr w base L st) : L.bb ≠ L.b ∧ L.s ≠ L.b ∧ L.s ≠ L.bb := by
  refine ⟨fun e => ?_, fun e => ?_, fun e => ?_⟩
  · have h1 := h.hb; have h2 := h.hbb; rw [e, h1] at h2; simp at h2
  · have h1 := h.hb; have h2 := h.snk.hs; rw [e, h1] at h2; simp at h2
  · have h1 := h.hbb; have h2 := h.snk.hs; rw [e, h1] at h2; simp at h2
theorem Wr.ob {w : World} {base : Nat} {L : WLoc} {st : WS} (h : Wr w base L st) : st.ov.ownBlock ≠ some L.b ∧ st.ov.ownBlock ≠ some L.s := by
  refine ⟨fun e => ?_, fun e => ?_⟩
  · obtain ⟨_, _, cur, h2⟩ := h.snk.lt e; have h1 := h.hb; rw [h1] at h2; simp at h2
  · obtain ⟨_, _, cur, h2⟩ := h.snk.lt e; have h1 := h.snk.hs; rw [h1] at h2; simp at h2
theorem Wr.upd {M : Nat → Prop} {w w1 : World} {base : Nat} {L : WLoc} {st : WS} (h : Wr w base L st) (u : Upd M w w1) (hm : ∀ k, M k → WM L st.ov k → False) : Wr w1 base L st :=
  { h with
    hb := u.heap h.hb (fun hh => hm _ hh (.inl rfl))
    hbb := u.heap h.hbb (fun hh => hm _ hh (.inr (.inl rfl)))
    snk := h.snk.upd u (fun k hk hs => hm k hk (by rcases hs with hs | hs; exact .inr (.inr (.inl hs)); exact .inr (.inr (.inr hs))))
    size := Nat.le_trans h.size u.size }
theorem Wr.new {w w1 : World} {base : Nat} {L : WLoc} {st : WS} (h : Wr w base L st) (u : New w w1) : Wr w1 base L st := h.upd u (fun _ hh _ => hh)
/-- the fields, as the walk asks them -/
theorem Wr.cells {w : World} {base : Nat} {L : WLoc} {st : WS} (h : Wr w base L st) :
    w.cell? ⟨L.b, 0, none⟩ = some (errW st.err) ∧ w.cell? ⟨L.b, 1, none⟩ = some (.slice (some ⟨L.bb, 0, none⟩) st.buf.length st.buf.length) ∧ w.cell? ⟨L.b, 2, none⟩ = some (.int .i64 (st.n : Int)) ∧
    w.cell? ⟨L.b, 3, none⟩ = some (.iface 82 (.pointer (some ⟨L.s, 0, none⟩))) ∧ ∀ i, w.frozen? ⟨L.b, i, none⟩ = false := by
  refine ⟨?_, ?_, ?_, ?_, fun i => World.frozen_of_heap h.hb i⟩ <;> (rw [World.cell_of_heap h.hb]; rfl)
/-- one field written -/
theorem Wr.set {w w1 : World} {base : Nat} {L : WLoc} {st : WS} (h : Wr w base L st) (st' : WS) (u : Upd (fun k => k = L.b) w w1) (hb : w1.heap[L.b]? = some (.cells (wrCells L st') 111 (0, 0)))
    (e1 : st'.buf = st.buf) (e2 : st'.room = st.room) (e3 : st'.out = st.out) (e4 : st'.ov = st.ov) (hn : st'.n ≤ st.buf.length) : Wr w1 base L st' where
  hb := hb
  hbb := by rw [e1]; exact u.heap h.hbb (fun hh => h.ne.1 hh)
  snk := by rw [e2, e3, e4]; exact h.snk.upd u (fun k hk hs => by have hk : k = L.b := hk; subst hk; rcases hs with hs | hs; exact h.ne.2.1 hs.symm; exact h.ob.1 hs)
  apart := by rw [e4]; exact h.apart
  n := by rw [e1]; exact hn
  pos := by rw [e1]; exact h.pos
  hi := by rw [e1]; exact h.hi
  rlo := by rw [e2]; exact h.rlo
  rhi := by rw [e2]; exact h.rhi
  size := Nat.le_trans h.size u.size
  lo := h.lo
theorem Wr.setN {w : World} {base : Nat} {L : WLoc} {st : WS} (h : Wr w base L st) (x : Nat) (hx : x ≤ st.buf.length) : Wr (w.setCell ⟨L.b, 2, none⟩ (.int .i64 (x : Int))) base L { st with n := x } :=
  h.set _ ((Upd.refl (fun k => k = L.b) w).setCell (p := ⟨L.b, 2, none⟩) (fun _ => rfl) _) (by rw [World.heap_setCell_self h.hb]; rfl) rfl rfl rfl rfl hx
theorem Wr.setErr {w : World} {base : Nat} {L : WLoc} {st : WS} (h : Wr w base L st) (x : Bool) : Wr (w.setCell ⟨L.b, 0, none⟩ (errW x)) base L { st with err := x } :=
  h.set _ ((Upd.refl (fun k => k = L.b) w).setCell (p := ⟨L.b, 0, none⟩) (fun _ => rfl) _) (by rw [World.heap_setCell_self h.hb]; rfl) rfl rfl rfl rfl h.n
/-- the buffer's bytes written anew -/
theorem Wr.putBuf {w w1 : World} {base : Nat} {L : WLoc} {st : WS} (h : Wr w base L st) (buf' : List UInt8) (u : Upd (fun k => k = L.bb) w w1) (hl : buf'.length = st.buf.length) (hb : w1.heap[L.bb]? = some (.cells (buf'.map bv).toArray 5 (0, 0))) : Wr w1 base L { st with buf := buf' } where
  hb := by rw [u.heap h.hb (fun hh => h.ne.1 hh.symm)]; simp [wrCells, hl]
  hbb := hb
  snk := h.snk.upd u (fun k hk hs => by have hk : k = L.bb := hk; subst hk; rcases hs with hs | hs; exact h.ne.2.2 hs.symm; exact h.apart hs)
  apart := h.apart
  n := by simp only [hl]; exact h.n
  pos := by simp only [hl]; exact h.pos
  hi := by simp only [hl]; exact h.hi
  rlo := h.rlo
  rhi := h.rhi
  size := Nat.le_trans h.size u.size
  lo := h.lo
/-- the sink written to -/
theorem Wr.sunk {w w1 : World} {base : Nat} {L : WLoc} {st : WS} (h : Wr w base L st) {bs : List UInt8} {v : Value} (hp : SinkPost base L.s st.room st.ov st.out bs w v w1) :
    ∃ ov', Wr w1 base L { st with room := roomOf st.room bs.length, out := st.out ++ bs.take (takes st.room bs.length), ov := ov' } ∧ Upd (WM L st.ov) w w1 ∧ Stay w st.ov ov' := by
  obtain ⟨_, ov', hs, hu, hst⟩ := hp
  have hlt : ∀ k cur, w.heap[k]? = some cur → k < w.heap.size := fun k cur hk => (Array.getElem?_eq_some_iff.1 hk).1
  have hb := hu.heap h.hb (fun hh => by rcases hh with hh | hh; exact h.ne.2.1 hh.symm; exact h.ob.1 hh)
  have hbb := hu.heap h.hbb (fun hh => by rcases hh with hh | hh; exact h.ne.2.2 hh.symm; exact h.apart hh)
  refine ⟨ov', ⟨hb, hbb, hs, fun e => ?_, h.n, h.pos, h.hi, ?_, ?_, Nat.le_trans h.size hu.size, h.lo⟩, hu.mono (fun k hk _ => by rcases hk with hk | hk; exact .inr (.inr (.inl hk)); exact .inr (.inr (.inr hk))), hst⟩
  · rcases hst _ e with h1 | h1
    · exact h.apart h1
    · have := hlt _ _ h.hbb; omega
  · have := h.rlo
    show -1 ≤ roomOf st.room bs.length
    unfold roomOf takes
    split <;> omega
  · have := h.rhi
    show roomOf st.room bs.length ≤ 65535
    unfold roomOf takes
    split <;> omega
/-! ### what it has written -/
/-- a writer that was given all this; R: how much the sink takes (none: any) -/
structure Inv (R : Option Nat) (st : WS) (all : List UInt8) : Prop where
  ok : st.err = false → st.out ++ held st = all ∧ (R = none → st.room = -1) ∧ ∀ r, R = some r → st.out.length ≤ r ∧ st.room = (r : Int) - st.out.length
  bad : st.err = true → ∃ r, R = some r ∧ st.out = all.take r ∧ r < all.length
theorem Inv.more {R : Option Nat} {st : WS} {all : List UInt8} (h : Inv R st all) (he : st.err = true) (bs : List UInt8) : Inv R st (all ++ bs) := by
  obtain ⟨r, h1, h2, h3⟩ := h.bad he
  refine ⟨fun hh => (by rw [he] at hh; cases hh), fun _ => ⟨r, h1, ?_, by rw [List.length_append]; omega⟩⟩
  rw [h2, List.take_append_of_le_length (by omega)]
theorem Inv.out_le {R : Option Nat} {st : WS} {all : List UInt8} (h : Inv R st all) : st.out.length ≤ all.length := by
  cases he : st.err with
  | false => rw [← (h.ok he).1, List.length_append]; omega
  | true =>
    obtain ⟨r, _, h2, _⟩ := h.bad he
    rw [h2, List.length_take]; omega
/-- bytes handed to the sink: what is held is among them -/
theorem Inv.sunk {R : Option Nat} {st : WS} {all : List UInt8} (h : Inv R st all) (he : st.err = false) (bs : List UInt8) :
    (takes st.room bs.length = bs.length → ∀ (b : List UInt8) (ov : Value), Inv R { buf := b, n := 0, err := false, room := roomOf st.room bs.length, out := st.out ++ bs.take (takes st.room bs.length), ov := ov } (st.out ++ bs)) ∧
    (takes st.room bs.length < bs.length → ∀ (b : List UInt8) (n : Nat) (ov : Value), Inv R { buf := b, n := n, err := true, room := roomOf st.room bs.length, out := st.out ++ bs.take (takes st.room bs.length), ov := ov } (st.out ++ bs)) := by
  obtain ⟨_, h2, h3⟩ := h.ok he
  refine ⟨fun ht b ov => ⟨fun _ => ⟨?_, fun hR => ?_, fun r hR => ?_⟩, fun hh => (by cases hh)⟩, fun ht b n ov => ⟨fun hh => (by cases hh), fun _ => ?_⟩⟩
  · show (st.out ++ bs.take _) ++ List.take 0 b = _
    rw [ht, List.take_length, List.take_zero, List.append_nil]
  · show roomOf st.room bs.length = -1
    unfold roomOf
    rw [if_pos (by have := h2 hR; omega)]
    exact h2 hR
  · obtain ⟨q1, q2⟩ := h3 r hR
    have hnn : ¬ st.room < 0 := by omega
    show (st.out ++ bs.take _).length ≤ r ∧ roomOf st.room bs.length = (r : Int) - ((st.out ++ bs.take _).length : Nat)
    have hl : (st.out ++ bs.take (takes st.room bs.length)).length = st.out.length + bs.length := by rw [ht, List.take_length, List.length_append]
    rw [hl]
    unfold takes at ht
    rw [if_neg hnn] at ht
    unfold roomOf takes
    rw [if_neg hnn, if_neg hnn]
    omega
  · have hnn : ¬ st.room < 0 := fun hh => by unfold takes at ht; rw [if_pos hh] at ht; omega
    cases hR : R with
    | none => have := h2 hR; unfold takes at ht; rw [if_pos (by omega)] at ht; omega
    | some r =>
      obtain ⟨q1, q2⟩ := h3 r hR
      have hk : takes st.room bs.length = r - st.out.length := by
        unfold takes at ht ⊢
        rw [if_neg hnn] at ht ⊢
        omega
      refine ⟨r, rfl, ?_, by rw [List.length_append]; omega⟩
      show st.out ++ bs.take (takes st.room bs.length) = _
      rw [hk, List.take_append, List.take_of_length_le q1]
/-- what a step on a writer leaves; p: of the answer and the state -/
def WPost (R : Option Nat) (base : Nat) (L : WLoc) (st : WS) (all : List UInt8) (p : Value → WS → Prop) (w : World) (v : Value) (w' : World) : Prop :=
  ∃ st', p v st' ∧ Wr w' base L st' ∧ Inv R st' all ∧ Upd (WM L st.ov) w w' ∧ Stay w st.ov st'.ov ∧ st'.buf.length = st.buf.length
theorem WM.trans {w : World} {base : Nat} {L : WLoc} {st st1 : WS} (_ : Wr w base L st) (h : Stay w st.ov st1.ov) : ∀ k, WM L st1.ov k → k < w.heap.size → WM L st.ov k := fun k hk hl => by
  rcases hk with hk | hk | hk | hk
  · exact .inl hk
  · exact .inr (.inl hk)
  · exact .inr (.inr (.inl hk))
  · rcases h k hk with h1 | h1
    · exact .inr (.inr (.inr h1))
    · omega
end Go.Proofs.YtgbbogocfmepiaaDoor
