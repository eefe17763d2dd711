/- A writer's buffer laid into; what is held and handed on. -/
import Derived.Test.YtgbbogocfmepiaaDoorSink
namespace Go.Proofs.YtgbbogocfmepiaaDoor
open Go.RowKit
/-- bytes laid into a buffer at a place -/
def lay (buf : List UInt8) (n : Nat) (cs : List UInt8) : List UInt8 := buf.take n ++ (cs ++ buf.drop (n + cs.length))
theorem lay_length {buf cs : List UInt8} {n : Nat} (h : n + cs.length ≤ buf.length) : (lay buf n cs).length = buf.length := by
  unfold lay; rw [List.length_append, List.length_append, List.length_take, List.length_drop]; omega
theorem lay_take {buf cs : List UInt8} {n : Nat} (h : n + cs.length ≤ buf.length) : (lay buf n cs).take (n + cs.length) = buf.take n ++ cs := by
  unfold lay
  have hl : (buf.take n).length = n := by rw [List.length_take]; omega
  rw [← List.append_assoc]
  exact List.take_left' (by rw [List.length_append, hl])
theorem lay_map (buf cs : List UInt8) (n : Nat) : splice (buf.map bv) n (cs.map bv) = (lay buf n cs).map bv := by
  unfold splice lay
  rw [List.length_map, List.map_append, List.map_append, List.map_take, List.map_drop]
theorem Wr.laid {w w1 : World} {base : Nat} {L : WLoc} {st : WS} (h : Wr w base L st) {cs : List UInt8} (hfit : st.n + cs.length ≤ st.buf.length) (u : Upd (fun k => k = L.bb) w w1) (hb : w1.heap[L.bb]? = some (.cells (splice (st.buf.map bv).toArray.toList st.n (cs.map bv)).toArray 5 (0, 0))) :
    Wr w1 base L { st with buf := lay st.buf st.n cs } := by
  refine h.putBuf _ u (lay_length hfit) ?_
  rw [hb, show (st.buf.map bv).toArray.toList = st.buf.map bv from rfl, lay_map]
/-- laid, and counted -/
theorem Wr.laidN {w w1 : World} {base : Nat} {L : WLoc} {st : WS} (h : Wr w base L st) {cs : List UInt8} (hfit : st.n + cs.length ≤ st.buf.length) (u : Upd (fun k => k = L.bb) w w1) (hb : w1.heap[L.bb]? = some (.cells (splice (st.buf.map bv).toArray.toList st.n (cs.map bv)).toArray 5 (0, 0))) :
    Wr (w1.setCell ⟨L.b, 2, none⟩ (.int .i64 ((st.n + cs.length : Nat) : Int))) base L { st with buf := lay st.buf st.n cs, n := st.n + cs.length } :=
  (h.laid hfit u hb).setN (st.n + cs.length) (by show st.n + cs.length ≤ (lay st.buf st.n cs).length; rw [lay_length hfit]; exact hfit)
theorem Inv.laid {R : Option Nat} {st : WS} {all : List UInt8} (h : Inv R st all) (he : st.err = false) {cs : List UInt8} (hfit : st.n + cs.length ≤ st.buf.length) : Inv R { st with buf := lay st.buf st.n cs, n := st.n + cs.length } (all ++ cs) := by
  obtain ⟨h1, h2, h3⟩ := h.ok he
  refine ⟨fun _ => ⟨?_, h2, h3⟩, fun hh => ?_⟩
  · show st.out ++ (lay st.buf st.n cs).take (st.n + cs.length) = all ++ cs
    rw [lay_take hfit, ← List.append_assoc, ← h1]
    rfl
  · have hh : st.err = true := hh
    rw [he] at hh; cases hh
theorem Inv.held_le {R : Option Nat} {st : WS} {all : List UInt8} (h : Inv R st all) (he : st.err = false) : st.out.length + (held st).length = all.length := by
  rw [← (h.ok he).1, List.length_append]
theorem WM.cells {L : WLoc} {ov : Value} : WM L ov L.b ∧ WM L ov L.bb ∧ WM L ov L.s := ⟨.inl rfl, .inr (.inl rfl), .inr (.inr (.inl rfl))⟩
/-- the buffer's cell -/
theorem Wr.byte {w : World} {base : Nat} {L : WLoc} {st : WS} (h : Wr w base L st) {i : Nat} (hi : i < st.buf.length) : w.cell? ⟨L.bb, i, none⟩ = some (bv (st.buf[i]'hi)) := by
  rw [World.cell_of_heap h.hbb]; simp [hi]
theorem Wr.whole {w : World} {base : Nat} {L : WLoc} {st : WS} (h : Wr w base L st) : BytesA w (some ⟨L.bb, 0, none⟩) st.buf.length st.buf := by
  have := h.hi
  refine ⟨Nat.le_refl _, by unfold maxLen; omega, fun hh => (by cases hh), fun p hp => ⟨fun _ => (by simp only [Option.some.injEq] at hp; subst hp; rfl), fun i hi => ?_⟩⟩
  simp only [Option.some.injEq] at hp
  subst hp
  rw [World.cell_of_heap h.hbb]; simp [hi]
theorem Wr.heldB {w : World} {base : Nat} {L : WLoc} {st : WS} (h : Wr w base L st) : BytesA w (some ⟨L.bb, 0, none⟩) st.buf.length (held st) := h.whole.take st.n
theorem Wr.drew {w : World} {base : Nat} {L : WLoc} {st : WS} (h : Wr w base L st) : Wr w.drew base L st := h.new (Upd.refl _ _).drew
/-! ### one step behind another -/
theorem WPost.mono {R : Option Nat} {base : Nat} {L : WLoc} {st : WS} {all : List UInt8} {p q : Value → WS → Prop} {w w' : World} {v : Value} (h : WPost R base L st all p w v w') (hq : ∀ st', p v st' → q v st') : WPost R base L st all q w v w' := by
  obtain ⟨st', h1, h2⟩ := h
  exact ⟨st', hq st' h1, h2⟩
/-- what was done before -/
structure WWent (base : Nat) (L : WLoc) (w : World) (st : WS) (w' : World) (st' : WS) : Prop where
  wr : Wr w' base L st'
  upd : Upd (WM L st.ov) w w'
  stay : Stay w st.ov st'.ov
  len : st'.buf.length = st.buf.length
theorem WWent.refl {base : Nat} {L : WLoc} {w : World} {st : WS} (h : Wr w base L st) : WWent base L w st w st := ⟨h, Upd.refl _ _, Stay.refl _ _, rfl⟩
theorem WWent.trans {base : Nat} {L : WLoc} {w w1 w2 : World} {st st1 st2 : WS} (h0 : Wr w base L st) (h : WWent base L w st w1 st1) (h' : WWent base L w1 st1 w2 st2) : WWent base L w st w2 st2 :=
  ⟨h'.wr, h.upd.trans h'.upd (fun k hk hl => WM.trans h0 h.stay k hk hl), h.stay.trans h.upd h'.stay, h'.len.trans h.len⟩
theorem WWent.new {base : Nat} {L : WLoc} {w w1 w2 : World} {st st1 : WS} (h : WWent base L w st w1 st1) (u : New w1 w2) : WWent base L w st w2 st1 := ⟨h.wr.new u, h.upd.andNew u, h.stay, h.len⟩
theorem WWent.post {R : Option Nat} {base : Nat} {L : WLoc} {w w' : World} {st st' : WS} {all : List UInt8} {p : Value → WS → Prop} {v : Value} (h : WWent base L w st w' st') (hI : Inv R st' all) (hp : p v st') : WPost R base L st all p w v w' := ⟨st', hp, h.wr, hI, h.upd, h.stay, h.len⟩
theorem WPost.went {R : Option Nat} {base : Nat} {L : WLoc} {w w' : World} {st : WS} {all : List UInt8} {p : Value → WS → Prop} {v : Value} (h : WPost R base L st all p w v w') : ∃ st', p v st' ∧ WWent base L w st w' st' ∧ Inv R st' all := by
  obtain ⟨st', h1, h2, h3, h4, h5, h6⟩ := h
  exact ⟨st', h1, ⟨h2, h4, h5, h6⟩, h3⟩
/-- laid, as a step -/
theorem WWent.laid {base : Nat} {L : WLoc} {w w1 w2 : World} {st st1 : WS} (h : WWent base L w st w1 st1) {cs : List UInt8} (hfit : st1.n + cs.length ≤ st1.buf.length) (u : Upd (fun k => k = L.bb) w1 w2) (hb : w2.heap[L.bb]? = some (.cells (splice (st1.buf.map bv).toArray.toList st1.n (cs.map bv)).toArray 5 (0, 0))) :
    WWent base L w st (w2.setCell ⟨L.b, 2, none⟩ (.int .i64 ((st1.n + cs.length : Nat) : Int))) { st1 with buf := lay st1.buf st1.n cs, n := st1.n + cs.length } :=
  ⟨h.wr.laidN hfit u hb, (h.upd.trans (u.mono (M := WM L st.ov) (fun k hk _ => by have hk : k = L.bb := hk; rw [hk]; exact WM.cells.2.1)) (fun k hk _ => hk)).setCell (fun _ => WM.cells.1) _, h.stay, (lay_length hfit).trans h.len⟩
theorem WWent.putBuf {base : Nat} {L : WLoc} {w w1 w2 : World} {st st1 : WS} (h : WWent base L w st w1 st1) (buf' : List UInt8) (u : Upd (fun k => k = L.bb) w1 w2) (hl : buf'.length = st1.buf.length) (hb : w2.heap[L.bb]? = some (.cells (buf'.map bv).toArray 5 (0, 0))) : WWent base L w st w2 { st1 with buf := buf' } :=
  ⟨h.wr.putBuf buf' u hl hb, h.upd.trans (u.mono (M := WM L st.ov) (fun k hk _ => by have hk : k = L.bb := hk; rw [hk]; exact WM.cells.2.1)) (fun k hk _ => hk), h.stay, hl.trans h.len⟩
/-- a field written, as a step -/
theorem WWent.cell {base : Nat} {L : WLoc} {w w1 : World} {st st1 st2 : WS} (h : WWent base L w st w1 st1) (i : Nat) (v : Value) (h2 : Wr (w1.setCell ⟨L.b, i, none⟩ v) base L st2) (e : st2.ov = st1.ov) (el : st2.buf.length = st1.buf.length) : WWent base L w st (w1.setCell ⟨L.b, i, none⟩ v) st2 :=
  ⟨h2, h.upd.setCell (fun _ => WM.cells.1) _, by rw [e]; exact h.stay, el.trans h.len⟩
/-- the sink written to, as a step -/
theorem WWent.sunk {base : Nat} {L : WLoc} {w w1 w2 : World} {st st1 : WS} (h0 : Wr w base L st) (h : WWent base L w st w1 st1) {bs : List UInt8} {v : Value} (hp : SinkPost base L.s st1.room st1.ov st1.out bs w1 v w2) :
    ∃ ov', WWent base L w st w2 { st1 with room := roomOf st1.room bs.length, out := st1.out ++ bs.take (takes st1.room bs.length), ov := ov' } := by
  obtain ⟨ov', h1, h2, h3⟩ := h.wr.sunk hp
  exact ⟨ov', ⟨h1, h.upd.trans h2 (fun k hk hl => WM.trans h0 h.stay k hk hl), h.stay.trans h.upd h3, h.len⟩⟩
end Go.Proofs.YtgbbogocfmepiaaDoor
