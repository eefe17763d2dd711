/- A buffered reader in memory: what it holds; its fields, read and written. -/
import Derived.Test.YtmmjfpcmempeeaaDoorSrcRead
namespace Go.Proofs.YtmmjfpcmempeeaaDoor
open Go.RowKit
/-- a reader's state: the buffer's bytes, where reading and writing stand, the error that waits, the last byte, the last rune's size, what the source has left -/
structure RS where
  buf : List UInt8
  r : Nat
  w : Nat
  err : Option Err
  last : Int
  rune : Int
  ps : List (List UInt8)
  f : Bool
/-- where it lies -/
structure Loc where
  b : Nat
  bb : Nat
  s : Nat
  lo : Nat
  sl : Nat
  mid : Nat
  hi : Nat
def rdV (L : Loc) : Value := .iface 82 (.pointer (some ⟨L.s, 0, none⟩))
def rdCells (S : Err → Addr) (L : Loc) (st : RS) : Array Value :=
  #[.slice (some ⟨L.bb, 0, none⟩) st.buf.length st.buf.length, rdV L, .int .i64 (st.r : Int), .int .i64 (st.w : Int), eV S st.err, .int .i64 st.last, .int .i64 st.rune]
structure Rd (S : Err → Addr) (w : World) (L : Loc) (st : RS) : Prop where
  hb : w.heap[L.b]? = some (.cells (rdCells S L st) 104 (0, 0))
  hbb : w.heap[L.bb]? = some (.cells (st.buf.map bv).toArray 5 (0, 0))
  src : Src w L.sl L.mid L.s st.ps st.f
  blo : L.lo ≤ L.b ∧ ¬ (L.sl ≤ L.b ∧ L.b < L.mid)
  bhi : L.b < L.hi
  bblo : L.lo ≤ L.bb ∧ ¬ (L.sl ≤ L.bb ∧ L.bb < L.mid)
  bbhi : L.bb < L.hi
  lomid : L.lo ≤ L.sl ∧ L.mid ≤ L.hi
  rw : st.r ≤ st.w
  wn : st.w ≤ st.buf.length
  nlo : 16 ≤ st.buf.length
  nhi : st.buf.length ≤ 1048576
  empties : nones st.ps ≤ 50
  errok : st.err = none ∨ (st.err = some (endErr st.f) ∧ st.ps = [])
  lastlo : -1 ≤ st.last
  lasthi : st.last ≤ 255
  runelo : -1 ≤ st.rune
  runehi : st.rune ≤ 4
def In (L : Loc) (k : Nat) : Prop := L.lo ≤ k ∧ k < L.hi
theorem Rd.ne {S : Err → Addr} {w : World} {L : Loc} {st : RS} (h : Rd S w L st) : L.bb ≠ L.b := fun e => by
  have h1 := h.hb; have h2 := h.hbb; rw [e, h1] at h2; simp at h2
theorem Rd.sne {S : Err → Addr} {w : World} {L : Loc} {st : RS} (h : Rd S w L st) : L.s ≠ L.b := fun e => by
  have := h.src.1; have := h.src.2.1; have := h.blo; omega
/-- untouched by what turns none of its blocks -/
theorem Rd.upd {S : Err → Addr} {M : Nat → Prop} {w w1 : World} {L : Loc} {st : RS} (h : Rd S w L st) (u : Upd M w w1) (hm : ∀ k, M k → In L k → False) : Rd S w1 L st := by
  have hb := h.lomid; have h1 := h.blo; have h2 := h.bblo
  exact { h with
    hb := u.heap h.hb (fun hh => hm _ hh ⟨by omega, h.bhi⟩)
    hbb := u.heap h.hbb (fun hh => hm _ hh ⟨by omega, h.bbhi⟩)
    src := h.src.upd u (fun k hk q1 q2 => hm k hk ⟨by omega, by omega⟩) }
theorem Rd.new {S : Err → Addr} {w w1 : World} {L : Loc} {st : RS} (h : Rd S w L st) (u : New w w1) : Rd S w1 L st := h.upd u (fun _ hh _ => hh)
theorem Rd.drew {S : Err → Addr} {w : World} {L : Loc} {st : RS} (h : Rd S w L st) : Rd S w.drew L st := h.new (Upd.refl _ _).drew
/-- the fields, as the walk asks them -/
theorem Rd.cells {S : Err → Addr} {w : World} {L : Loc} {st : RS} (h : Rd S w L st) :
    w.cell? ⟨L.b, 0, none⟩ = some (.slice (some ⟨L.bb, 0, none⟩) st.buf.length st.buf.length) ∧ w.cell? ⟨L.b, 1, none⟩ = some (rdV L) ∧ w.cell? ⟨L.b, 2, none⟩ = some (.int .i64 (st.r : Int)) ∧
    w.cell? ⟨L.b, 3, none⟩ = some (.int .i64 (st.w : Int)) ∧ w.cell? ⟨L.b, 4, none⟩ = some (eV S st.err) ∧ w.cell? ⟨L.b, 5, none⟩ = some (.int .i64 st.last) ∧ w.cell? ⟨L.b, 6, none⟩ = some (.int .i64 st.rune) ∧
    ∀ i, w.frozen? ⟨L.b, i, none⟩ = false := by
  refine ⟨?_, ?_, ?_, ?_, ?_, ?_, ?_, fun i => World.frozen_of_heap h.hb i⟩ <;> (rw [World.cell_of_heap h.hb]; rfl)
/-- a byte of the buffer -/
theorem Rd.byte {S : Err → Addr} {w : World} {L : Loc} {st : RS} (h : Rd S w L st) {i : Nat} (hi : i < st.buf.length) : w.cell? ⟨L.bb, i, none⟩ = some (.int .u8 (st.buf[i].toNat : Int)) := by
  rw [World.cell_of_heap h.hbb]; simp [hi, bv]
/-- the struct written anew; nothing else turned -/
theorem Rd.put {S : Err → Addr} {w w1 : World} {L : Loc} {st : RS} (h : Rd S w L st) (st' : RS) (u : Upd (fun k => k = L.b) w w1) (hb : w1.heap[L.b]? = some (.cells (rdCells S L st') 104 (0, 0)))
    (e1 : st'.buf = st.buf) (e2 : st'.ps = st.ps) (e3 : st'.f = st.f) (h1 : st'.r ≤ st'.w) (h2 : st'.w ≤ st'.buf.length) (h3 : st'.err = none ∨ (st'.err = some (endErr st'.f) ∧ st'.ps = [])) (h4 : -1 ≤ st'.last) (h5 : st'.last ≤ 255) (h6 : -1 ≤ st'.rune) (h7 : st'.rune ≤ 4) : Rd S w1 L st' where
  hb := hb
  hbb := by rw [e1]; exact u.heap h.hbb (fun hh => h.ne hh)
  src := by rw [e2, e3]; exact h.src.upd u (fun k hk q1 q2 => by subst hk; have := h.blo; omega)
  blo := h.blo
  bhi := h.bhi
  bblo := h.bblo
  bbhi := h.bbhi
  lomid := h.lomid
  rw := h1
  wn := h2
  nlo := by rw [e1]; exact h.nlo
  nhi := by rw [e1]; exact h.nhi
  empties := by rw [e2]; exact h.empties
  errok := h3
  lastlo := h4
  lasthi := h5
  runelo := h6
  runehi := h7
/-- one field written -/
theorem Rd.set {S : Err → Addr} {w : World} {L : Loc} {st : RS} (h : Rd S w L st) (st' : RS) (i : Nat) (v : Value) (hc : rdCells S L st' = (rdCells S L st).setIfInBounds i v)
    (e1 : st'.buf = st.buf) (e2 : st'.ps = st.ps) (e3 : st'.f = st.f) (h1 : st'.r ≤ st'.w) (h2 : st'.w ≤ st'.buf.length) (h3 : st'.err = none ∨ (st'.err = some (endErr st'.f) ∧ st'.ps = [])) (h4 : -1 ≤ st'.last) (h5 : st'.last ≤ 255) (h6 : -1 ≤ st'.rune) (h7 : st'.rune ≤ 4) : Rd S (w.setCell ⟨L.b, i, none⟩ v) L st' :=
  h.put st' ((Upd.refl (fun k => k = L.b) w).setCell (fun _ => rfl) v) (by rw [World.heap_setCell_self h.hb, hc]) e1 e2 e3 h1 h2 h3 h4 h5 h6 h7
theorem Rd.setR {S : Err → Addr} {w : World} {L : Loc} {st : RS} (h : Rd S w L st) (x : Nat) (hx : x ≤ st.w) : Rd S (w.setCell ⟨L.b, 2, none⟩ (.int .i64 (x : Int))) L { st with r := x } :=
  h.set _ 2 _ rfl rfl rfl rfl hx h.wn h.errok h.lastlo h.lasthi h.runelo h.runehi
theorem Rd.setW {S : Err → Addr} {w : World} {L : Loc} {st : RS} (h : Rd S w L st) (x : Nat) (hx : st.r ≤ x) (hx' : x ≤ st.buf.length) : Rd S (w.setCell ⟨L.b, 3, none⟩ (.int .i64 (x : Int))) L { st with w := x } :=
  h.set _ 3 _ rfl rfl rfl rfl hx hx' h.errok h.lastlo h.lasthi h.runelo h.runehi
theorem Rd.setErr {S : Err → Addr} {w : World} {L : Loc} {st : RS} (h : Rd S w L st) (x : Option Err) (hx : x = none ∨ (x = some (endErr st.f) ∧ st.ps = [])) : Rd S (w.setCell ⟨L.b, 4, none⟩ (eV S x)) L { st with err := x } :=
  h.set _ 4 _ rfl rfl rfl rfl h.rw h.wn hx h.lastlo h.lasthi h.runelo h.runehi
theorem Rd.setLast {S : Err → Addr} {w : World} {L : Loc} {st : RS} (h : Rd S w L st) (x : Int) (h1 : -1 ≤ x) (h2 : x ≤ 255) : Rd S (w.setCell ⟨L.b, 5, none⟩ (.int .i64 x)) L { st with last := x } :=
  h.set _ 5 _ rfl rfl rfl rfl h.rw h.wn h.errok h1 h2 h.runelo h.runehi
theorem Rd.setRune {S : Err → Addr} {w : World} {L : Loc} {st : RS} (h : Rd S w L st) (x : Int) (h1 : -1 ≤ x) (h2 : x ≤ 4) : Rd S (w.setCell ⟨L.b, 6, none⟩ (.int .i64 x)) L { st with rune := x } :=
  h.set _ 6 _ rfl rfl rfl rfl h.rw h.wn h.errok h.lastlo h.lasthi h1 h2
end Go.Proofs.YtmmjfpcmempeeaaDoor
