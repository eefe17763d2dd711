/- A scanner's buffer turned: slid to its beginning, grown, read into. -/
import Derived.Test.YtgbbogocfmepiaaDoorScanL
namespace Go.Proofs.YtgbbogocfmepiaaDoor
open Go.RowKit
variable {S : Err → Addr} {base : Nat} {L : SLoc} {k most lim : Nat}
theorem bufS_of {buf : List UInt8} {bufv tok : Value} {a b : Nat} {err : Option Err} {emp : Int} {called f : Bool} {ps : List (List UInt8)} : bufS ⟨buf, bufv, a, b, err, emp, tok, called, ps, f⟩ = (buf.take b).drop a := rfl
/-- the buffer's bytes written anew -/
theorem Sc.putBuf {w w1 : World} {st : SS} {bb : Nat} (h : Sc S w base L k most lim st) (buf' : List UInt8) (hv : st.bufv = .slice (some ⟨bb, 0, none⟩) st.buf.length st.buf.length) (u : Upd (fun j => j = bb) w w1) (hl : buf'.length = st.buf.length) (hb : w1.heap[bb]? = some (.cells (buf'.map bv).toArray 5 (0, 0))) : Sc S w1 base L k most lim { st with buf := buf' } := by
  have hob : st.bufv.ownBlock = some bb := by rw [hv]; rfl
  obtain ⟨_, hbb, q1, q2⟩ := h.buf.block hob
  have hne : bb ≠ L.b := fun e => h.ne (by rw [hob, e])
  exact { h with
    hb := u.heap h.hb (fun hh => hne hh.symm)
    buf := .inr ⟨bb, by rw [hl]; exact hv, hb, q1, q2⟩
    src := h.src.upd u (fun j hj r1 r2 => by have hj : j = bb := hj; subst hj; exact q2 ⟨r1, r2⟩)
    mid := Nat.le_trans h.mid u.size
    en := by simp only [hl]; exact h.en
    cap := by simp only [hl]; exact h.cap }
theorem ScWent.putBuf {w w1 w2 : World} {st st1 : SS} {bb : Nat} (h : ScWent S base L k most lim w st w1 st1) (buf' : List UInt8) (hv : st1.bufv = .slice (some ⟨bb, 0, none⟩) st1.buf.length st1.buf.length) (u : Upd (fun j => j = bb) w1 w2) (hl : buf'.length = st1.buf.length) (hb : w2.heap[bb]? = some (.cells (buf'.map bv).toArray 5 (0, 0))) : ScWent S base L k most lim w st w2 { st1 with buf := buf' } :=
  ⟨h.sc.putBuf buf' hv u hl hb, h.upd.trans u (fun j hj hl => by
    have hj : j = bb := hj
    subst hj
    rcases h.stay j (by rw [hv]; rfl) with q | q
    · exact .inr (.inl q)
    · omega), h.stay, h.f⟩
/-- the beginning and the end written -/
theorem ScWent.ends {w w1 w2 : World} {st st1 : SS} (h : ScWent S base L k most lim w st w1 st1) (x y : Nat) (hxy : x ≤ y) (hy : y ≤ st1.buf.length) (hw : w2 = (w1.setCell ⟨L.b, 6, none⟩ (.int .i64 (y : Int))).setCell ⟨L.b, 5, none⟩ (.int .i64 (x : Int))) : ScWent S base L k most lim w st w2 { st1 with st := x, en := y } := by
  subst hw
  have u : Upd (fun j => j = L.b) w1 ((w1.setCell ⟨L.b, 6, none⟩ (.int .i64 (y : Int))).setCell ⟨L.b, 5, none⟩ (.int .i64 (x : Int))) := ((Upd.refl (fun j => j = L.b) w1).setCell (p := ⟨L.b, 6, none⟩) (fun _ => rfl) _).setCell (p := ⟨L.b, 5, none⟩) (fun _ => rfl) _
  refine ⟨h.sc.put _ u ?_ rfl rfl rfl rfl hxy hy h.sc.errok h.sc.tks, h.upd.trans u (fun j hj _ => .inl hj), h.stay, h.f⟩
  rw [World.heap_setCell_self (World.heap_setCell_self h.sc.hb _ _)]
  rfl
/-- what is left is the same -/
theorem ScIn.of {w wx wy : World} {st st1 st2 : SS} (h : ScIn S base L k most lim w st wx st1) (hg : ScWent S base L k most lim w st wy st2) (hr : remS st2 = remS st1) (he : st2.err = st1.err) (hb : st1.buf ≠ [] → st2.buf ≠ []) : ScIn S base L k most lim w st wy st2 :=
  ⟨hg, h.same.of hr, by rw [he]; exact h.nl, fun hh => hb (h.bn (by rw [← he]; exact hh))⟩
/-- what is buffered laid at the buffer's beginning -/
theorem slid_len {st : SS} (h : st.en ≤ st.buf.length) : (bufS st ++ st.buf.drop (bufS st).length).length = st.buf.length := by
  rw [List.length_append, List.length_drop, bufS_length h]; omega
theorem ScIn.slid {w wx w2 w3 : World} {st st1 : SS} {bb : Nat} (h : ScIn S base L k most lim w st wx st1) (hv : st1.bufv = .slice (some ⟨bb, 0, none⟩) st1.buf.length st1.buf.length) (u : Upd (fun j => j = bb) wx w2) (hb : w2.heap[bb]? = some (.cells (splice (st1.buf.map bv).toArray.toList 0 ((bufS st1).map bv)).toArray 5 (0, 0)))
    (hw : w3 = (w2.setCell ⟨L.b, 6, none⟩ (.int .i64 ((st1.en - st1.st : Nat) : Int))).setCell ⟨L.b, 5, none⟩ (.int .i64 ((0 : Nat) : Int))) :
    ∃ st2, ScIn S base L k most lim w st w3 st2 ∧ st2.ps = st1.ps ∧ st2.err = st1.err ∧ bufS st2 = bufS st1 ∧ st2.st = 0 := by
  have hen := h.went.sc.en
  have hsp : (splice (st1.buf.map bv).toArray.toList 0 ((bufS st1).map bv)).toArray = ((bufS st1 ++ st1.buf.drop (bufS st1).length).map bv).toArray := by rw [splice_zero]; simp
  rw [hsp] at hb
  have h2 := h.went.putBuf _ hv u (slid_len hen) hb
  have h3 := h2.ends 0 (st1.en - st1.st) (Nat.zero_le _) (by show st1.en - st1.st ≤ (bufS st1 ++ st1.buf.drop (bufS st1).length).length; rw [slid_len hen]; omega) hw
  have hbs : (bufS st1 ++ st1.buf.drop (bufS st1).length).take (st1.en - st1.st) = bufS st1 := List.take_left' (bufS_length hen)
  refine ⟨_, h.of h3 ?_ rfl (fun hh he => hh ?_), rfl, rfl, ?_, rfl⟩
  · show ((bufS st1 ++ st1.buf.drop (bufS st1).length).take (st1.en - st1.st)).drop 0 ++ st1.ps.flatten = _
    rw [hbs]; rfl
  · have he : bufS st1 ++ st1.buf.drop (bufS st1).length = [] := he
    have := congrArg List.length he
    rw [slid_len hen, List.length_nil] at this
    exact List.eq_nil_of_length_eq_zero this
  · show ((bufS st1 ++ st1.buf.drop (bufS st1).length).take (st1.en - st1.st)).drop 0 = _
    rw [hbs]; rfl
/-- a new buffer -/
theorem Sc.grown {w w1 : World} {st : SS} (h : Sc S w base L k most lim st) (buf' : List UInt8) (g : Nat) (y : Nat) (u : Upd (fun j => j = L.b) w w1) (hge : w.heap.size ≤ g) (hg : w1.heap[g]? = some (.cells (buf'.map bv).toArray 5 (0, 0)))
    (hb : w1.heap[L.b]? = some (.cells (scCells S L k most { st with buf := buf', bufv := .slice (some ⟨g, 0, none⟩) buf'.length buf'.length, st := 0, en := y }) 97 (0, 0))) (hy : y ≤ buf'.length) (hcap : buf'.length = lim ∨ (buf'.length < most ∧ most = lim)) :
    Sc S w1 base L k most lim { st with buf := buf', bufv := .slice (some ⟨g, 0, none⟩) buf'.length buf'.length, st := 0, en := y } := by
  have hlt : L.b < w.heap.size := (Array.getElem?_eq_some_iff.1 h.hb).1
  have hmid := h.mid
  have hblo := h.blo
  exact {
    hb := hb
    buf := .inr ⟨g, rfl, hg, by omega, by omega⟩
    src := h.src.upd u (fun j hj q1 q2 => by have hj : j = L.b := hj; subst hj; exact h.blo.2 ⟨q1, q2⟩)
    blo := h.blo
    slo := h.slo
    mid := Nat.le_trans h.mid u.size
    se := Nat.zero_le _
    en := hy
    cap := hcap
    most := h.most
    lim := h.lim
    empties := h.empties
    errok := h.errok
    tks := h.tks }
theorem ScIn.grown {w wx w4 w5 : World} {st st1 : SS} {nn : Nat} (h : ScIn S base L k most lim w st wx st1) (h0 : st1.st = 0) (hfull : st1.en = st1.buf.length) (hnn : st1.buf.length < nn) (hcap : nn = lim ∨ (nn < most ∧ most = lim)) (he : st1.err = none) (hu : Upd (fun _ => False) wx w4)
    (hb : w4.heap[wx.heap.size]? = some (.cells (splice (madeCells (Value.int .u8 0).cells (nn * 1)).toList 0 ((bufS st1).map bv)).toArray 5 (0, 0)))
    (hw : w5 = ((w4.setCell ⟨L.b, 4, none⟩ (.slice (some ⟨wx.heap.size, 0, none⟩) nn nn)).setCell ⟨L.b, 6, none⟩ (.int .i64 ((st1.en - st1.st : Nat) : Int))).setCell ⟨L.b, 5, none⟩ (.int .i64 ((0 : Nat) : Int))) :
    ∃ st2, ScIn S base L k most lim w st w5 st2 ∧ st2.ps = st1.ps ∧ st2.err = none ∧ bufS st2 = bufS st1 ∧ st2.en < st2.buf.length := by
  have hbs : bufS st1 = st1.buf := by unfold bufS; rw [h0, hfull, List.take_length]; rfl
  have hmade : (madeCells (Value.int .u8 0).cells (nn * 1)) = ((List.replicate nn (0 : UInt8)).map bv).toArray := by
    rw [Nat.mul_one]
    apply Array.toList_inj.1
    rw [show (Value.int .u8 0).cells = #[.int .u8 0] from rfl, toList_madeCells_one]
    simp [bv]
  obtain ⟨buf', hbuf'⟩ : ∃ buf', buf' = bufS st1 ++ (List.replicate nn (0 : UInt8)).drop (bufS st1).length := ⟨_, rfl⟩
  have hl : buf'.length = nn := by rw [hbuf', hbs, List.length_append, List.length_drop, List.length_replicate]; omega
  have hsp : (splice (madeCells (Value.int .u8 0).cells (nn * 1)).toList 0 ((bufS st1).map bv)).toArray = (buf'.map bv).toArray := by
    rw [hmade, splice_zero, hbuf']
    simp
  rw [hsp] at hb
  have hblt : L.b < wx.heap.size := (Array.getElem?_eq_some_iff.1 h.went.sc.hb).1
  have u : Upd (fun j => j = L.b) w4 w5 := by rw [hw]; exact (((Upd.refl (fun j => j = L.b) w4).setCell (p := ⟨L.b, 4, none⟩) (fun _ => rfl) _).setCell (p := ⟨L.b, 6, none⟩) (fun _ => rfl) _).setCell (p := ⟨L.b, 5, none⟩) (fun _ => rfl) _
  have u2 : Upd (fun j => j = L.b) wx w5 := (hu.mono (M := fun j => j = L.b) (fun _ hh _ => hh.elim)).trans u (fun _ hh _ => hh)
  have hb4 := hu.heap h.went.sc.hb (fun hh => hh)
  have hsc : Sc S w5 base L k most lim { st1 with buf := buf', bufv := .slice (some ⟨wx.heap.size, 0, none⟩) buf'.length buf'.length, st := 0, en := st1.en - st1.st } := by
    refine h.went.sc.grown buf' wx.heap.size (st1.en - st1.st) u2 (Nat.le_refl _) (u.heap hb (fun hh => by have hh : wx.heap.size = L.b := hh; omega)) ?_ (by rw [hl]; omega) (by rw [hl]; exact hcap)
    rw [hw, World.heap_setCell_self (World.heap_setCell_self (World.heap_setCell_self hb4 _ _) _ _), hl]
    rfl
  have hw5 : ScWent S base L k most lim w st w5 { st1 with buf := buf', bufv := .slice (some ⟨wx.heap.size, 0, none⟩) buf'.length buf'.length, st := 0, en := st1.en - st1.st } :=
    ⟨hsc, h.went.upd.trans u2 (fun j hj _ => .inl hj), fun j hj => by
      simp only [Value.ownBlock, Option.some.injEq] at hj
      subst hj
      exact .inr h.went.upd.size, h.went.f⟩
  have hbs2 : bufS { st1 with buf := buf', bufv := .slice (some ⟨wx.heap.size, 0, none⟩) buf'.length buf'.length, st := 0, en := st1.en - st1.st } = bufS st1 := by
    show (buf'.take (st1.en - st1.st)).drop 0 = _
    rw [List.drop_zero, hbuf']
    exact List.take_left' (bufS_length h.went.sc.en)
  refine ⟨_, h.of hw5 ?_ rfl (fun _ hh => ?_), rfl, he, hbs2, ?_⟩
  · unfold remS; rw [hbs2]
  · have hh : buf' = [] := hh
    rw [hh] at hl; simp at hl; omega
  · show st1.en - st1.st < buf'.length
    rw [hl]; omega
/-- bytes read into the buffer -/
theorem ScIn.read {w wx w1 w2 : World} {st st1 : SS} {bb : Nat} {v : Value} (h : ScIn S base L k most lim w st wx st1) {p0 : List UInt8} {rest : List (List UInt8)} (hps : st1.ps = p0 :: rest) {m : Nat} (hm : m ≤ p0.length) (hfit : st1.en + m ≤ st1.buf.length) (he : st1.err = none)
    (hv : st1.bufv = .slice (some ⟨bb, 0, none⟩) st1.buf.length st1.buf.length) (hp : ReadPost wx L.sl L.mid L.s p0 rest st1.f bb st1.en m (st1.buf.map bv).toArray v w1) (hw : w2 = w1.setCell ⟨L.b, 6, none⟩ (.int .i64 ((st1.en + m : Nat) : Int))) :
    ∃ st2, ScIn S base L k most lim w st w2 st2 ∧ st2.ps = srcLeft m (p0 :: rest) ∧ st2.err = none ∧ st2.buf.length = st1.buf.length ∧ st2.en = st1.en + m ∧ st2.bufv = st1.bufv ∧ st2.st = st1.st ∧ st2.f = st1.f ∧ st2.emp = st1.emp := by
  obtain ⟨_, hg, hsrc, hu, hz⟩ := hp
  have hob : st1.bufv.ownBlock = some bb := by rw [hv]; rfl
  obtain ⟨_, hbb, q1, q2⟩ := h.went.sc.buf.block hob
  have hne : bb ≠ L.b := fun e => h.went.sc.ne (by rw [hob, e])
  have hen := h.went.sc.en
  have hse := h.went.sc.se
  have e : splice (st1.buf.map bv).toArray.toList st1.en ((p0.take m).map bv) = (st1.buf.take st1.en ++ (p0.take m ++ st1.buf.drop (st1.en + m))).map bv := by
    have hl : ((p0.take m).map bv).length = m := by simp; omega
    simp only [splice, hl]
    simp only [List.map_append, List.map_take, List.map_drop]
  rw [e] at hg
  have hlen : (st1.buf.take st1.en ++ (p0.take m ++ st1.buf.drop (st1.en + m))).length = st1.buf.length := by simp; omega
  have hsc1 : Sc S w1 base L k most lim { st1 with buf := st1.buf.take st1.en ++ (p0.take m ++ st1.buf.drop (st1.en + m)), ps := srcLeft m (p0 :: rest) } := by
    exact { h.went.sc with
      hb := hu.heap h.went.sc.hb (fun hh => by
        rcases hh with hh | hh
        · exact hne hh.symm
        · exact h.went.sc.blo.2 hh)
      buf := .inr ⟨bb, by rw [hlen]; exact hv, hg, q1, q2⟩
      src := hsrc
      mid := by rw [hz]; exact h.went.sc.mid
      en := by simp only [hlen]; exact hen
      cap := by simp only [hlen]; exact h.went.sc.cap
      empties := by have := h.went.sc.empties; rw [hps] at this; exact Nat.le_trans (nones_srcLeft m p0 rest hm) this
      errok := .inl he }
  have hu1 : Upd (ScM L st.bufv) w w1 := h.went.upd.trans hu (fun j hj hlt => by
    rcases hj with hj | hj
    · subst hj
      rcases h.went.stay j hob with q | q
      · exact .inr (.inl q)
      · omega
    · exact .inr (.inr hj))
  have hg1 : ScWent S base L k most lim w st w1 { st1 with buf := st1.buf.take st1.en ++ (p0.take m ++ st1.buf.drop (st1.en + m)), ps := srcLeft m (p0 :: rest) } := ⟨hsc1, hu1, h.went.stay, h.went.f⟩
  have hg2 := hg1.cell 6 (.int .i64 ((st1.en + m : Nat) : Int)) (hsc1.setEn (st1.en + m) (by show st1.st ≤ st1.en + m; omega) (by show st1.en + m ≤ (st1.buf.take st1.en ++ (p0.take m ++ st1.buf.drop (st1.en + m))).length; rw [hlen]; exact hfit)) rfl rfl
  rw [← hw] at hg2
  refine ⟨_, h.of hg2 ?_ rfl (fun hh hh2 => hh ?_), rfl, he, hlen, rfl, rfl, rfl, rfl, rfl⟩
  · have hl : (st1.buf.take st1.en).length = st1.en := by rw [List.length_take]; omega
    have hl2 : (p0.take m).length = m := by rw [List.length_take]; omega
    show ((st1.buf.take st1.en ++ (p0.take m ++ st1.buf.drop (st1.en + m))).take (st1.en + m)).drop st1.st ++ (srcLeft m (p0 :: rest)).flatten = (st1.buf.take st1.en).drop st1.st ++ st1.ps.flatten
    rw [← List.append_assoc, List.take_left' (by rw [List.length_append, hl, hl2]), hps, srcLeft_flatten m p0 rest hm, List.drop_append_of_le_length (by rw [hl]; exact hse), List.append_assoc]
  · have := congrArg List.length hh2
    rw [show ({ st1 with buf := st1.buf.take st1.en ++ (p0.take m ++ st1.buf.drop (st1.en + m)), ps := srcLeft m (p0 :: rest), en := st1.en + m } : SS).buf.length = st1.buf.length from hlen, List.length_nil] at this
    exact List.eq_nil_of_length_eq_zero this
theorem spl_nil (k : Nat) : (spl k [] true).2 = none := by
  unfold spl
  split
  · rfl
  · split
    · rfl
    · split
      · rfl
      · rfl
def SplOk (st1 : SS) (fin : Bool) : Prop := bufS st1 ≠ [] ∨ fin = true
def ErrIs (st1 : SS) (fin : Bool) : Prop := decide (st1.err ≠ none) = fin
theorem scan_some {st1 : SS} {fin : Bool} {n : Nat} {t : List UInt8} (hspl : SplOk st1 fin) (hs : spl k (bufS st1) fin = (n, some t)) : bufS st1 ≠ [] ∧ 0 < n := by
  have hbne : bufS st1 ≠ [] := fun hh => by
    rw [hh] at hs
    rcases hspl with h2 | h2
    · exact h2 hh
    · rw [h2] at hs; have h3 := spl_nil k; rw [hs] at h3; cases h3
  exact ⟨hbne, (spl_pos hbne hs).1⟩
/-- the buffer as a slice, whatever it is -/
theorem Sc.bufAny {w : World} {st : SS} (h : Sc S w base L k most lim st) : ∃ a, st.bufv = .slice a st.buf.length st.buf.length ∧ (a = none → st.buf.length = 0) ∧ (∀ p, a = some p → ∃ bb, p = ⟨bb, 0, none⟩) ∧ BytesA w a st.buf.length st.buf := by
  by_cases hb : st.buf = []
  · rcases h.buf with ⟨h1, h2⟩ | ⟨bb, h1, h2, _⟩
    · refine ⟨none, by rw [h1, h2]; rfl, fun _ => (by rw [h2]; rfl), fun p hp => (by cases hp), ?_⟩
      rw [h2]; exact ⟨Nat.le_refl _, Nat.zero_le _, fun _ => rfl, fun p hp => (by cases hp)⟩
    · refine ⟨some ⟨bb, 0, none⟩, h1, fun hh => (by cases hh), fun p hp => ⟨bb, by simpa using hp.symm⟩, ?_⟩
      rw [hb]
      exact ⟨Nat.le_refl _, Nat.zero_le _, fun hh => (by cases hh), fun p hp => ⟨fun hh => absurd rfl hh, fun i hi => by simp at hi⟩⟩
  · obtain ⟨bb, hv, h2, h3, h4⟩ := h.buf.resolve_left (fun hh => hb hh.2)
    have hlim := h.lim
    have hcl := h.cle
    refine ⟨some ⟨bb, 0, none⟩, hv, fun hh => (by cases hh), fun p hp => ⟨bb, by simpa using hp.symm⟩, Nat.le_refl _, by unfold maxLen; omega, fun hh => (by cases hh), fun p hp => ⟨fun _ => (by simp only [Option.some.injEq] at hp; subst hp; rfl), fun i hi => ?_⟩⟩
    simp only [Option.some.injEq] at hp
    subst hp
    rw [World.cell_of_heap h2]; simp [hi]
theorem nones_rep (c : Nat) (ps : List (List UInt8)) : nones (List.replicate c [] ++ ps) = c + nones ps := by
  unfold nones; rw [List.filter_append, List.length_append, List.filter_replicate]; simp
/-- the end told -/
theorem ScIn.ended {w wx w1 w2 : World} {st st1 : SS} (h : ScIn S base L k most lim w st wx st1) (hb : st1.buf ≠ []) (hu : New wx w1) (hg : ScWent S base L k most lim w1 st1 w2 { st1 with err := some (endErr st1.f) }) : ScIn S base L k most lim w st w2 { st1 with err := some (endErr st1.f) } :=
  ⟨(h.went.new hu).trans hg, h.same.of rfl, fun hh => (by cases hf : st1.f <;> (simp [hf, endErr] at hh)), fun _ => hb⟩
/-- what the first test says -/
def TestS (st1 : SS) (b : Bool) : Prop := (b = true → st1.st < st1.en ∨ st1.err ≠ none) ∧ (b = false → st1.st = st1.en ∧ st1.err = none)
/-- no token: what the cut behind it says -/
def CutS (S : Err → Addr) (base : Nat) (L : SLoc) (k most lim : Nat) (w : World) (st st1 : SS) (w3 : World) : Prop :=
  ∃ st2, ScWent S base L k most lim w st w3 st2 ∧ st2.err = st1.err ∧ (st1.err ≠ none → (spl k (bufS st1) true).2 = none) ∧ (st1.err = none → ScIn S base L k most lim w st w3 st2 ∧ st2.ps = st1.ps ∧ (k = 3 → pos 10 (bufS st2) = none))
theorem scan_none {w wx w3 : World} {st st1 : SS} {fin : Bool} {n : Nat} {tok : Value} (h : ScIn S base L k most lim w st wx st1) (hf : ErrIs st1 fin) (hspl : SplOk st1 fin) (hs : spl k (bufS st1) fin = (n, none)) (h3 : ScWent S base L k most lim w st w3 { st1 with st := st1.st + n, tok := tok }) : CutS S base L k most lim w st st1 w3 := by
  have hf : decide (st1.err ≠ none) = fin := hf
  have hspl : bufS st1 ≠ [] ∨ fin = true := hspl
  refine ⟨_, h3, rfl, fun hh => ?_, fun hh => ?_⟩
  · rw [decide_eq_true hh] at hf
    rw [hf, hs]
  · rw [decide_eq_false (fun h => h hh)] at hf
    have hne := hspl.resolve_right (by rw [← hf]; simp)
    rw [← hf] at hs
    obtain ⟨h4, h5⟩ := scan_more h h3 hne hs rfl rfl rfl rfl rfl
    exact ⟨h4, rfl, h5⟩
theorem scan_skip {w wx : World} {st st1 : SS} (h : ScIn S base L k most lim w st wx st1) (h1 : st1.st = st1.en) (h2 : st1.err = none) : CutS S base L k most lim w st st1 wx := by
  have hb0 : bufS st1 = [] := List.eq_nil_of_length_eq_zero (by rw [bufS_length h.went.sc.en]; omega)
  exact ⟨st1, h.went, rfl, fun hh => absurd h2 hh, fun _ => ⟨h, rfl, fun _ => by rw [hb0]; rfl⟩⟩
/-- no room -/
theorem scan_long {w wx w2 : World} {st st1 st2 : SS} (h : ScIn S base L k most lim w st wx st1) (h0 : st1.st = 0) (hfull : st1.en = st1.buf.length) (hbig : most ≤ st1.buf.length) (hp : k = 3 → pos 10 (bufS st1) = none) (hg : ScWent S base L k most lim w st w2 st2) (he : st2.err = some .long) : ScanPost S base L k most lim st w (.bool false) w2 := by
  have hbs : bufS st1 = st1.buf := by unfold bufS; rw [h0, hfull, List.take_length]; rfl
  have hlim : st1.buf.length = lim := by have := h.went.sc.cap; have := h.went.sc.cle; omega
  refine ⟨st2, hg, .inr (.inr ⟨rfl, he, remS st1, h.same.tk, h.same.ln, h.same.le, ?_, fun hk => ⟨?_, ?_⟩⟩)⟩
  · unfold remS; rw [hbs, List.length_append]; omega
  · unfold remS; rw [hbs, List.length_append]; omega
  · unfold remS
    rw [List.take_append_of_le_length (by rw [hbs]; omega), List.take_of_length_le (by rw [hbs]; omega)]
    exact hp hk
end Go.Proofs.YtgbbogocfmepiaaDoor
