/- A scanner in memory: what it holds; its fields, read and written. -/
import Derived.Test.YtgbbogocfmepiaaDoorFresh
import Derived.Test.YtgbbogocfmepiaaDoorLong
namespace Go.Proofs.YtgbbogocfmepiaaDoor
open Go.RowKit
/-- a scanner's state: the buffer (and its value), where what is not yet split begins and ends, the error, the empty tokens, the last token, whether Scan was called; what the source has left -/
structure SS where
  buf : List UInt8
  bufv : Value
  st : Nat
  en : Nat
  err : Option Err
  emp : Int
  tok : Value
  called : Bool
  ps : List (List UInt8)
  f : Bool
structure SLoc where
  b : Nat
  s : Nat
  sl : Nat
  mid : Nat
/-- the function of a way of splitting -/
def splF (k : Nat) : Value := .func (.func (if k = 0 then 55 else if k = 1 then 56 else if k = 2 then 57 else 54)) #[] #[]
def scCells (S : Err → Addr) (L : SLoc) (k most : Nat) (st : SS) : Array Value :=
  #[.iface 65 (.pointer (some ⟨L.s, 0, none⟩)), splF k, .int .i64 (most : Int), st.tok, st.bufv, .int .i64 (st.st : Int), .int .i64 (st.en : Int), eV S st.err, .int .i64 st.emp, .bool st.called, .bool false]
/-- the buffer -/
def BufV (w : World) (base : Nat) (L : SLoc) (v : Value) (buf : List UInt8) : Prop :=
  (v = .slice none 0 0 ∧ buf = []) ∨ ∃ bb, v = .slice (some ⟨bb, 0, none⟩) buf.length buf.length ∧ w.heap[bb]? = some (.cells (buf.map bv).toArray 5 (0, 0)) ∧ base ≤ bb ∧ ¬ (L.sl ≤ bb ∧ bb < L.mid)
structure Sc (S : Err → Addr) (w : World) (base : Nat) (L : SLoc) (k most lim : Nat) (st : SS) : Prop where
  hb : w.heap[L.b]? = some (.cells (scCells S L k most st) 97 (0, 0))
  buf : BufV w base L st.bufv st.buf
  src : Src w L.sl L.mid L.s st.ps st.f
  blo : base ≤ L.b ∧ ¬ (L.sl ≤ L.b ∧ L.b < L.mid)
  slo : base ≤ L.sl
  mid : L.mid ≤ w.heap.size
  se : st.st ≤ st.en
  en : st.en ≤ st.buf.length
  cap : st.buf.length = lim ∨ (st.buf.length < most ∧ most = lim)
  most : 1 ≤ most ∧ most ≤ lim
  lim : lim ≤ 65536
  empties : nones st.ps ≤ 50
  errok : st.err = none ∨ (st.err = some (endErr st.f) ∧ st.ps = []) ∨ st.err = some .long
  tks : ∃ a n c, st.tok = .slice a n c
def ScM (L : SLoc) (v : Value) (k : Nat) : Prop := k = L.b ∨ v.ownBlock = some k ∨ (L.sl ≤ k ∧ k < L.mid)
def bufS (st : SS) : List UInt8 := (st.buf.take st.en).drop st.st
def remS (st : SS) : List UInt8 := bufS st ++ st.ps.flatten
theorem bufS_length {st : SS} (h : st.en ≤ st.buf.length) : (bufS st).length = st.en - st.st := by unfold bufS; simp; omega
theorem Sc.cle {S : Err → Addr} {w : World} {base : Nat} {L : SLoc} {k most lim : Nat} {st : SS} (h : Sc S w base L k most lim st) : st.buf.length ≤ lim := by
  have := h.cap; have := h.most; omega
theorem BufV.upd {M : Nat → Prop} {w w1 : World} {base : Nat} {L : SLoc} {v : Value} {buf : List UInt8} (h : BufV w base L v buf) (u : Upd M w w1) (hm : ∀ k, M k → v.ownBlock = some k → False) : BufV w1 base L v buf := by
  rcases h with h | ⟨bb, hv, h2, h3⟩
  · exact .inl h
  · exact .inr ⟨bb, hv, u.heap h2 (fun hh => hm _ hh (by rw [hv]; rfl)), h3⟩
theorem BufV.block {w : World} {base : Nat} {L : SLoc} {v : Value} {buf : List UInt8} (h : BufV w base L v buf) {k : Nat} (hk : v.ownBlock = some k) : v = .slice (some ⟨k, 0, none⟩) buf.length buf.length ∧ w.heap[k]? = some (.cells (buf.map bv).toArray 5 (0, 0)) ∧ base ≤ k ∧ ¬ (L.sl ≤ k ∧ k < L.mid) := by
  rcases h with ⟨h, _⟩ | ⟨bb, hv, h2, h3⟩
  · rw [h] at hk; simp [Value.ownBlock] at hk
  · rw [hv] at hk
    simp only [Value.ownBlock, Option.some.injEq] at hk
    subst hk
    exact ⟨hv, h2, h3⟩
theorem Sc.ne {S : Err → Addr} {w : World} {base : Nat} {L : SLoc} {k most lim : Nat} {st : SS} (h : Sc S w base L k most lim st) : st.bufv.ownBlock ≠ some L.b := fun e => by
  have h1 := (h.buf.block e).2.1
  have hb := h.hb
  rw [h1] at hb
  simp at hb
theorem Sc.upd {S : Err → Addr} {M : Nat → Prop} {w w1 : World} {base : Nat} {L : SLoc} {k most lim : Nat} {st : SS} (h : Sc S w base L k most lim st) (u : Upd M w w1) (hm : ∀ j, M j → ScM L st.bufv j → False) : Sc S w1 base L k most lim st :=
  { h with
    hb := u.heap h.hb (fun hh => hm _ hh (.inl rfl))
    buf := h.buf.upd u (fun j hj hv => hm j hj (.inr (.inl hv)))
    src := h.src.upd u (fun j hj q1 q2 => hm j hj (.inr (.inr ⟨q1, q2⟩)))
    mid := Nat.le_trans h.mid u.size }
theorem Sc.new {S : Err → Addr} {w w1 : World} {base : Nat} {L : SLoc} {k most lim : Nat} {st : SS} (h : Sc S w base L k most lim st) (u : New w w1) : Sc S w1 base L k most lim st := h.upd u (fun _ hh _ => hh)
theorem Sc.drew {S : Err → Addr} {w : World} {base : Nat} {L : SLoc} {k most lim : Nat} {st : SS} (h : Sc S w base L k most lim st) : Sc S w.drew base L k most lim st := h.new (Upd.refl _ _).drew
/-- the fields, as the walk asks them -/
theorem Sc.cells {S : Err → Addr} {w : World} {base : Nat} {L : SLoc} {k most lim : Nat} {st : SS} (h : Sc S w base L k most lim st) :
    w.cell? ⟨L.b, 0, none⟩ = some (.iface 65 (.pointer (some ⟨L.s, 0, none⟩))) ∧ w.cell? ⟨L.b, 1, none⟩ = some (splF k) ∧ w.cell? ⟨L.b, 2, none⟩ = some (.int .i64 (most : Int)) ∧ w.cell? ⟨L.b, 3, none⟩ = some st.tok ∧
    w.cell? ⟨L.b, 4, none⟩ = some st.bufv ∧ w.cell? ⟨L.b, 5, none⟩ = some (.int .i64 (st.st : Int)) ∧ w.cell? ⟨L.b, 6, none⟩ = some (.int .i64 (st.en : Int)) ∧ w.cell? ⟨L.b, 7, none⟩ = some (eV S st.err) ∧
    w.cell? ⟨L.b, 8, none⟩ = some (.int .i64 st.emp) ∧ w.cell? ⟨L.b, 9, none⟩ = some (.bool st.called) ∧ w.cell? ⟨L.b, 10, none⟩ = some (.bool false) ∧ ∀ i, w.frozen? ⟨L.b, i, none⟩ = false := by
  refine ⟨?_, ?_, ?_, ?_, ?_, ?_, ?_, ?_, ?_, ?_, ?_, fun i => World.frozen_of_heap h.hb i⟩ <;> (rw [World.cell_of_heap h.hb]; rfl)
/-- the struct written anew; nothing else turned -/
theorem Sc.put {S : Err → Addr} {w w1 : World} {base : Nat} {L : SLoc} {k most lim : Nat} {st : SS} (h : Sc S w base L k most lim st) (st' : SS) (u : Upd (fun j => j = L.b) w w1) (hb : w1.heap[L.b]? = some (.cells (scCells S L k most st') 97 (0, 0)))
    (e0 : st'.bufv = st.bufv) (e1 : st'.buf = st.buf) (e2 : st'.ps = st.ps) (e3 : st'.f = st.f) (h1 : st'.st ≤ st'.en) (h2 : st'.en ≤ st.buf.length) (h3 : st'.err = none ∨ (st'.err = some (endErr st.f) ∧ st.ps = []) ∨ st'.err = some .long) (h4 : ∃ a n c, st'.tok = .slice a n c) : Sc S w1 base L k most lim st' where
  hb := hb
  buf := by
    rw [e0, e1]
    exact h.buf.upd u (fun j hj hv => h.ne (by have hj : j = L.b := hj; rw [← hj]; exact hv))
  src := by rw [e2, e3]; exact h.src.upd u (fun j hj q1 q2 => by subst hj; exact h.blo.2 ⟨q1, q2⟩)
  blo := h.blo
  slo := h.slo
  mid := Nat.le_trans h.mid u.size
  se := h1
  en := by rw [e1]; exact h2
  cap := by rw [e1]; exact h.cap
  most := h.most
  lim := h.lim
  empties := by rw [e2]; exact h.empties
  errok := by rw [e2, e3]; exact h3
  tks := h4
/-- one field written -/
theorem Sc.set {S : Err → Addr} {w : World} {base : Nat} {L : SLoc} {k most lim : Nat} {st : SS} (h : Sc S w base L k most lim st) (st' : SS) (i : Nat) (v : Value) (hc : scCells S L k most st' = (scCells S L k most st).setIfInBounds i v)
    (e0 : st'.bufv = st.bufv) (e1 : st'.buf = st.buf) (e2 : st'.ps = st.ps) (e3 : st'.f = st.f) (h1 : st'.st ≤ st'.en) (h2 : st'.en ≤ st.buf.length) (h3 : st'.err = none ∨ (st'.err = some (endErr st.f) ∧ st.ps = []) ∨ st'.err = some .long) (h4 : ∃ a n c, st'.tok = .slice a n c) : Sc S (w.setCell ⟨L.b, i, none⟩ v) base L k most lim st' :=
  h.put st' ((Upd.refl (fun j => j = L.b) w).setCell (fun _ => rfl) v) (by rw [World.heap_setCell_self h.hb, hc]) e0 e1 e2 e3 h1 h2 h3 h4
theorem Sc.setSt {S : Err → Addr} {w : World} {base : Nat} {L : SLoc} {k most lim : Nat} {st : SS} (h : Sc S w base L k most lim st) (x : Nat) (hx : x ≤ st.en) : Sc S (w.setCell ⟨L.b, 5, none⟩ (.int .i64 (x : Int))) base L k most lim { st with st := x } := h.set _ 5 _ rfl rfl rfl rfl rfl hx h.en h.errok h.tks
theorem Sc.setEn {S : Err → Addr} {w : World} {base : Nat} {L : SLoc} {k most lim : Nat} {st : SS} (h : Sc S w base L k most lim st) (x : Nat) (hx : st.st ≤ x) (hx' : x ≤ st.buf.length) : Sc S (w.setCell ⟨L.b, 6, none⟩ (.int .i64 (x : Int))) base L k most lim { st with en := x } := h.set _ 6 _ rfl rfl rfl rfl rfl hx hx' h.errok h.tks
theorem Sc.setErr {S : Err → Addr} {w : World} {base : Nat} {L : SLoc} {k most lim : Nat} {st : SS} (h : Sc S w base L k most lim st) (x : Option Err) (hx : x = none ∨ (x = some (endErr st.f) ∧ st.ps = []) ∨ x = some .long) : Sc S (w.setCell ⟨L.b, 7, none⟩ (eV S x)) base L k most lim { st with err := x } := h.set _ 7 _ rfl rfl rfl rfl rfl h.se h.en hx h.tks
theorem Sc.setEmp {S : Err → Addr} {w : World} {base : Nat} {L : SLoc} {k most lim : Nat} {st : SS} (h : Sc S w base L k most lim st) (x : Int) : Sc S (w.setCell ⟨L.b, 8, none⟩ (.int .i64 x)) base L k most lim { st with emp := x } := h.set _ 8 _ rfl rfl rfl rfl rfl h.se h.en h.errok h.tks
theorem Sc.setTok {S : Err → Addr} {w : World} {base : Nat} {L : SLoc} {k most lim : Nat} {st : SS} (h : Sc S w base L k most lim st) (x : Value) (hx : ∃ a n c, x = .slice a n c) : Sc S (w.setCell ⟨L.b, 3, none⟩ x) base L k most lim { st with tok := x } := h.set _ 3 _ rfl rfl rfl rfl rfl h.se h.en h.errok hx
theorem Sc.setCalled {S : Err → Addr} {w : World} {base : Nat} {L : SLoc} {k most lim : Nat} {st : SS} (h : Sc S w base L k most lim st) : Sc S (w.setCell ⟨L.b, 9, none⟩ (.bool true)) base L k most lim { st with called := true } := h.set _ 9 _ rfl rfl rfl rfl rfl h.se h.en h.errok h.tks
/-- readable bytes do not lie among the fields -/
theorem Sc.apart {S : Err → Addr} {w : World} {base : Nat} {L : SLoc} {k most lim : Nat} {st : SS} (h : Sc S w base L k most lim st) {p : Addr} {c : Nat} {t : List UInt8} (hb : BytesA w (some p) c t) (hn : t ≠ []) : p.block ≠ L.b := by
  intro e
  obtain ⟨pb, po, ps⟩ := p
  obtain rfl : ps = none := (hb.2.2.2 _ rfl).1 hn
  have e : pb = L.b := e
  subst e
  have hl := List.length_pos_iff.2 hn
  have hc := (hb.2.2.2 _ rfl).2 0 hl
  rw [World.cell_of_heap h.hb] at hc
  obtain ⟨ta, tn, tcc, htk⟩ := h.tks
  have he : eV S st.err = .nilIface ∨ ∃ et ev, eV S st.err = .iface et ev := by
    cases st.err with
    | none => exact .inl rfl
    | some x => cases x <;> exact .inr ⟨_, _, rfl⟩
  unfold scCells at hc
  rw [htk] at hc
  obtain ⟨d, hd⟩ : ∃ d, po + 0 = d := ⟨_, rfl⟩
  have hc : (#[.iface 65 (.pointer (some ⟨L.s, 0, none⟩)), splF k, .int .i64 (most : Int), .slice ta tn tcc, st.bufv, .int .i64 (st.st : Int), .int .i64 (st.en : Int), eV S st.err, .int .i64 st.emp, .bool st.called, .bool false] : Array Value)[d]? = some (bv (t[0]'hl)) := by rw [← hd]; exact hc
  have hlt := (Array.getElem?_eq_some_iff.1 hc).1
  have hlt : d < 11 := hlt
  have hbuf : ∃ a n c, st.bufv = .slice a n c := by
    rcases h.buf with ⟨h1, _⟩ | ⟨_, h1, _⟩
    · exact ⟨_, _, _, h1⟩
    · exact ⟨_, _, _, h1⟩
  obtain ⟨ba, bn, bc, hbv⟩ := hbuf
  rw [hbv] at hc
  clear hd
  rcases (by omega : d = 0 ∨ d = 1 ∨ d = 2 ∨ d = 3 ∨ d = 4 ∨ d = 5 ∨ d = 6 ∨ d = 7 ∨ d = 8 ∨ d = 9 ∨ d = 10) with rfl | rfl | rfl | rfl | rfl | rfl | rfl | rfl | rfl | rfl | rfl
  all_goals first
    | (rcases he with he | ⟨et, ev, he⟩ <;> (rw [he] at hc; simp [bv] at hc; done))
    | (simp [bv, splF] at hc; done)
theorem BytesA.went {S : Err → Addr} {w w1 : World} {base : Nat} {L : SLoc} {k most lim : Nat} {st : SS} (h : Sc S w base L k most lim st) {b o c : Nat} {t : List UInt8} (hb : BytesA w (some ⟨b, o, none⟩) c t) (u : Upd (fun j => j = L.b) w w1) : BytesA w1 (some ⟨b, o, none⟩) c t :=
  hb.upd u (fun p hp hn hh => by simp only [Option.some.injEq] at hp; subst hp; exact h.apart hb hn hh)
/-- what is buffered, as a slice -/
theorem Sc.sub {S : Err → Addr} {w : World} {base : Nat} {L : SLoc} {k most lim : Nat} {st : SS} (h : Sc S w base L k most lim st) (hn : st.buf ≠ []) : ∃ bb, st.bufv = .slice (some ⟨bb, 0, none⟩) st.buf.length st.buf.length ∧ w.heap[bb]? = some (.cells (st.buf.map bv).toArray 5 (0, 0)) ∧ base ≤ bb ∧ ¬ (L.sl ≤ bb ∧ bb < L.mid) ∧
    ∀ o c, (st.buf.length = st.st ∧ o = 0 ∧ c = 0) ∨ (st.buf.length ≠ st.st ∧ o = st.st ∧ c = st.buf.length - st.st) → BytesA w (some ⟨bb, o, none⟩) c (bufS st) := by
  obtain ⟨bb, hv, h2, h3, h4⟩ := h.buf.resolve_left (fun hh => hn hh.2)
  have hlim := h.lim
  have hcl := h.cle
  have hw : BytesA w (some ⟨bb, 0, none⟩) st.buf.length st.buf := by
    refine ⟨Nat.le_refl _, by unfold maxLen; omega, fun hh => (by cases hh), fun p hp => ⟨fun _ => (by simp only [Option.some.injEq] at hp; subst hp; rfl), fun i hi => ?_⟩⟩
    simp only [Option.some.injEq] at hp
    subst hp
    rw [World.cell_of_heap h2]; simp [hi]
  refine ⟨bb, hv, h2, h3, h4, fun o c hor => ?_⟩
  exact hw.sub h.se h.en (by rcases hor with ⟨q1, q2, q3⟩ | ⟨q1, q2, q3⟩; exact .inl ⟨q1, q2, q3⟩; exact .inr ⟨q1, by omega, q3⟩)
/-- what Scan leaves -/
structure ScWent (S : Err → Addr) (base : Nat) (L : SLoc) (k most lim : Nat) (w : World) (st : SS) (w' : World) (st' : SS) : Prop where
  sc : Sc S w' base L k most lim st'
  upd : Upd (ScM L st.bufv) w w'
  stay : Stay w st.bufv st'.bufv
  f : st'.f = st.f
theorem ScWent.refl {S : Err → Addr} {base : Nat} {L : SLoc} {k most lim : Nat} {w : World} {st : SS} (h : Sc S w base L k most lim st) : ScWent S base L k most lim w st w st := ⟨h, Upd.refl _ _, Stay.refl _ _, rfl⟩
theorem ScWent.trans {S : Err → Addr} {base : Nat} {L : SLoc} {k most lim : Nat} {w w1 w2 : World} {st st1 st2 : SS} (h : ScWent S base L k most lim w st w1 st1) (h' : ScWent S base L k most lim w1 st1 w2 st2) : ScWent S base L k most lim w st w2 st2 :=
  ⟨h'.sc, h.upd.trans h'.upd (fun j hj hl => by
    rcases hj with hj | hj | hj
    · exact .inl hj
    · rcases h.stay j hj with q | q
      · exact .inr (.inl q)
      · omega
    · exact .inr (.inr hj)), h.stay.trans h.upd h'.stay, h'.f.trans h.f⟩
theorem ScWent.new {S : Err → Addr} {base : Nat} {L : SLoc} {k most lim : Nat} {w w1 w2 : World} {st st1 : SS} (h : ScWent S base L k most lim w st w1 st1) (u : New w1 w2) : ScWent S base L k most lim w st w2 st1 := ⟨h.sc.new u, h.upd.andNew u, h.stay, h.f⟩
/-- a field of the scanner written -/
theorem ScWent.cell {S : Err → Addr} {base : Nat} {L : SLoc} {k most lim : Nat} {w w1 : World} {st st1 st2 : SS} (h : ScWent S base L k most lim w st w1 st1) (i : Nat) (v : Value) (h2 : Sc S (w1.setCell ⟨L.b, i, none⟩ v) base L k most lim st2) (e : st2.bufv = st1.bufv) (ef : st2.f = st1.f) : ScWent S base L k most lim w st (w1.setCell ⟨L.b, i, none⟩ v) st2 :=
  ⟨h2, h.upd.setCell (fun _ => .inl rfl) _, by rw [e]; exact h.stay, ef.trans h.f⟩
/-- tokens told so far: none lies in the buffer -/
def TokL (base : Nat) (bv0 : Value) (w : World) (v : Value) (ts : List (List UInt8)) : Prop := OwnL base (fun j => base ≤ j ∧ bv0.ownBlock ≠ some j) w v ts
theorem TokL.went {S : Err → Addr} {base b0 : Nat} {L : SLoc} {k most lim : Nat} {w w1 : World} {st st1 : SS} {v : Value} {ts : List (List UInt8)} (h : TokL base st.bufv w v ts) (hsc : Sc S w b0 L k most lim st) (hg : ScWent S b0 L k most lim w st w1 st1) (hb : L.b < base ∧ L.mid ≤ base) : TokL base st1.bufv w1 v ts := by
  obtain ⟨vs, hl, ho, hp⟩ := h
  refine ⟨vs, hl, ⟨ho.1, ?_⟩, fun i hi => ?_⟩
  · rcases ho.2 with h | ⟨g, cap, cur, hv, hbg, hgg, r⟩
    · exact .inl h
    · refine .inr ⟨g, cap, cur, hv, hbg, hg.upd.heap hgg (fun hh => ?_), r⟩
      rcases hh with hh | hh | hh
      · omega
      · have := (hsc.buf.block hh).2.1
        rw [hgg] at this
        simp at this
      · omega
  · obtain ⟨x, hx, a, c, rfl, hby, hq⟩ := hp i hi
    refine ⟨_, hx, a, c, rfl, hby.upd hg.upd (fun p hp hn hh => ?_), fun p hp hn => ?_⟩
    · obtain ⟨⟨q1, q2⟩, _⟩ := hq p hp hn
      rcases hh with hh | hh | hh
      · omega
      · exact q2 hh
      · omega
    · obtain ⟨⟨q1, q2⟩, cur, q3⟩ := hq p hp hn
      have hlt := (Array.getElem?_eq_some_iff.1 q3).1
      refine ⟨⟨q1, fun e => ?_⟩, cur, hg.upd.heap q3 (fun hh => ?_)⟩
      · rcases hg.stay _ e with h1 | h1
        · exact q2 h1
        · omega
      · rcases hh with hh | hh | hh
        · omega
        · exact q2 hh
        · omega
end Go.Proofs.YtgbbogocfmepiaaDoor
