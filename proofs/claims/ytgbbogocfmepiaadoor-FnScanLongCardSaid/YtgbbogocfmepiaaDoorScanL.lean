/- (*bufio.Scanner).Scan: what a split tells, what is left. -/
import Derived.Test.YtgbbogocfmepiaaDoorScOps
import Derived.Test.YtgbbogocfmepiaaDoorSplitW
import Derived.Deep.LoopGhost
import Derived.Deep.DeepCutAuto
namespace Go.Proofs.YtgbbogocfmepiaaDoor
open Go.RowKit
def splId (k : Nat) : FuncId := if k = 0 then 55 else if k = 1 then 56 else if k = 2 then 57 else 54
theorem splF_eq (k : Nat) : splF k = .func (.func (splId k)) #[] #[] := rfl
theorem splC {w : World} (hT : Tabs w) {k : Nat} (hk : k < 4) {g o c : Nat} {bs : List UInt8} (h : BytesA w (some ⟨g, o, none⟩) c bs) (fin : Bool) (hne : bs ≠ [] ∨ fin = true) :
    Calls Tryd.prog (splId k) #[.slice (some ⟨g, o, none⟩) bs.length c, .bool fin] w (Ret (SplitPost w (spl k bs fin))) := by
  have : k = 0 ∨ k = 1 ∨ k = 2 ∨ k = 3 := by omega
  rcases this with rfl | rfl | rfl | rfl
  · exact scanBytes h fin hne
  · exact scanRunes hT h fin hne
  · exact scanWords hT h fin
  · exact scanLines h fin
/-- goutf8's tables, below the heap's end -/
structure TabsB (B : Nat) (w : World) : Prop where
  tabs : Tabs w
  b1 : 12 < B
  b2 : 13 < B
theorem TabsB.upd {M : Nat → Prop} {B : Nat} {w w' : World} (h : TabsB B w) (u : Upd M w w') (hm : ∀ k, M k → B ≤ k) : TabsB B w' := ⟨h.tabs.upd u (fun hh => by have := hm _ hh; have := h.b1; omega) (fun hh => by have := hm _ hh; have := h.b2; omega), h.b1, h.b2⟩
theorem TabsB.new {B : Nat} {w w' : World} (h : TabsB B w) (u : New w w') : TabsB B w' := h.upd u (fun _ hh => hh.elim)
theorem TabsB.of {W : World} (T : Tabs W) : TabsB W.heap.size W := ⟨T, World.block_lt_of_cell? W _ (T.1 0 (by omega)), World.block_lt_of_cell? W _ (T.2 0 (by omega)).1⟩
/-- the same tokens are left -/
structure Same (k : Nat) (st st1 : SS) : Prop where
  tk : tokens k (remS st) = tokens k (remS st1)
  ln : k = 3 → remS st = remS st1
  le : (remS st1).length ≤ (remS st).length
theorem Same.refl (k : Nat) (st : SS) : Same k st st := ⟨rfl, fun _ => rfl, Nat.le_refl _⟩
theorem Same.of {k : Nat} {st st1 st2 : SS} (h : Same k st st1) (e : remS st2 = remS st1) : Same k st st2 := ⟨by rw [e]; exact h.tk, by rw [e]; exact h.ln, by rw [e]; exact h.le⟩
/-- what Scan leaves -/
def ScanPost (S : Err → Addr) (base : Nat) (L : SLoc) (k most lim : Nat) (st : SS) (w : World) (v : Value) (w' : World) : Prop :=
  ∃ st', ScWent S base L k most lim w st w' st' ∧ ((v = .bool true ∧ ∃ t, TokV w' st'.tok (some t) ∧ Tok1 k lim (remS st) t (remS st') ∧ (remS st').length ≤ (remS st).length ∧ st'.err ≠ some .long ∧ (st'.err ≠ none → st'.buf ≠ [])) ∨
    (v = .bool false ∧ tokens k (remS st) = [] ∧ st'.err = some (endErr st.f)) ∨
    (v = .bool false ∧ st'.err = some .long ∧ ∃ rem', tokens k (remS st) = tokens k rem' ∧ (k = 3 → remS st = rem') ∧ rem'.length ≤ (remS st).length ∧ lim ≤ rem'.length ∧ (k = 3 → TooBig lim rem')))
/-- how much is still to be read -/
def fuelS (st : SS) : Nat := st.ps.flatten.length + (if st.err = none then 1 else 0)
structure ScIn (S : Err → Addr) (base : Nat) (L : SLoc) (k most lim : Nat) (w : World) (st : SS) (wx : World) (st1 : SS) : Prop where
  went : ScWent S base L k most lim w st wx st1
  same : Same k st st1
  nl : st1.err ≠ some .long
  bn : st1.err ≠ none → st1.buf ≠ []
theorem ScIn.drew {S : Err → Addr} {base : Nat} {L : SLoc} {k most lim : Nat} {w wx : World} {st st1 : SS} (h : ScIn S base L k most lim w st wx st1) : ScIn S base L k most lim w st wx.drew st1 := ⟨h.went.new (Upd.refl _ _).drew, h.same, h.nl, h.bn⟩
theorem remS_drop {st : SS} {n : Nat} (hn : n ≤ (bufS st).length) : remS { st with st := st.st + n } = (remS st).drop n := by
  show (st.buf.take st.en).drop (st.st + n) ++ st.ps.flatten = (bufS st ++ st.ps.flatten).drop n
  rw [List.drop_append_of_le_length hn]
  unfold bufS
  rw [List.drop_drop]
/-- a split told a token -/
theorem scan_token {S : Err → Addr} {base : Nat} {L : SLoc} {k most lim : Nat} {w wx w2 : World} {st st1 st2 : SS} {n : Nat} {t : List UInt8} (h : ScIn S base L k most lim w st wx st1) (hg : ScWent S base L k most lim w st w2 st2) (hb : bufS st1 ≠ [])
    (hs : spl k (bufS st1) (decide (st1.err ≠ none)) = (n, some t)) (e1 : st2.buf = st1.buf) (e2 : st2.st = st1.st + n) (e3 : st2.en = st1.en) (e4 : st2.ps = st1.ps) (e5 : st2.err = st1.err) (ht : TokV w2 st2.tok (some t)) : ScanPost S base L k most lim st w (.bool true) w2 := by
  have hpos := spl_pos hb hs
  have hr : remS st2 = (remS st1).drop n := by
    rw [← remS_drop hpos.2]
    unfold remS bufS
    rw [e1, e2, e3, e4]
  have hall : spl k (remS st1) true = (n, some t) := by
    cases he : st1.err with
    | none =>
      rw [he] at hs
      exact spl_ext hb hs
    | some x =>
      rw [he] at hs
      have hps : st1.ps = [] := by
        rcases h.went.sc.errok with q | ⟨_, q⟩ | q
        · rw [he] at q; cases q
        · exact q
        · exact absurd q h.nl
      have : remS st1 = bufS st1 := by unfold remS; rw [hps]; simp
      rw [this]
      exact hs
  have hne : remS st1 ≠ [] := fun hh => hb (by have := congrArg List.length hh; unfold remS at this; rw [List.length_append, List.length_nil] at this; exact List.eq_nil_of_length_eq_zero (by omega))
  have hlen := bufS_length h.went.sc.en
  have hcl := h.went.sc.cle
  have hen := h.went.sc.en
  refine ⟨st2, hg, .inl ⟨rfl, t, ht, ⟨?_, fun h3 => ?_⟩, ?_, by rw [e5]; exact h.nl, by rw [e5, e1]; exact h.bn⟩⟩
  · rw [h.same.tk, tokens_some hne hall, hr]
  · subst h3
    rw [h.same.ln rfl]
    exact ⟨n, hall, hr, by omega⟩
  · rw [hr, List.length_drop]; have := h.same.le; omega
/-- no token, and the end -/
theorem scan_end {S : Err → Addr} {base : Nat} {L : SLoc} {k most lim : Nat} {w wx w2 : World} {st st1 st2 : SS} (h : ScIn S base L k most lim w st wx st1) (hg : ScWent S base L k most lim w st w2 st2) (he : st1.err ≠ none) (hs : (spl k (bufS st1) true).2 = none) (e5 : st2.err = st1.err) : ScanPost S base L k most lim st w (.bool false) w2 := by
  obtain ⟨he1, hps⟩ : st1.err = some (endErr st1.f) ∧ st1.ps = [] := by
    rcases h.went.sc.errok with q | q | q
    · exact absurd q he
    · exact q
    · exact absurd q h.nl
  refine ⟨st2, hg, .inr (.inl ⟨rfl, ?_, by rw [e5, he1, h.went.f]⟩)⟩
  rw [h.same.tk]
  have : remS st1 = bufS st1 := by unfold remS; rw [hps]; simp
  rw [this]
  obtain ⟨x, hx⟩ : ∃ x, spl k (bufS st1) true = x := ⟨_, rfl⟩
  obtain ⟨n, t⟩ := x
  rw [hx] at hs
  have hs : t = none := hs
  subst hs
  exact tokens_none hx
/-- no token yet: what is gone over is none -/
theorem scan_more {S : Err → Addr} {base : Nat} {L : SLoc} {k most lim : Nat} {w wx w2 : World} {st st1 st2 : SS} {n : Nat} (h : ScIn S base L k most lim w st wx st1) (hg : ScWent S base L k most lim w st w2 st2) (hb : bufS st1 ≠ [])
    (hs : spl k (bufS st1) false = (n, none)) (e1 : st2.buf = st1.buf) (e2 : st2.st = st1.st + n) (e3 : st2.en = st1.en) (e4 : st2.ps = st1.ps) (e5 : st2.err = st1.err) : ScIn S base L k most lim w st w2 st2 ∧ (k = 3 → pos 10 (bufS st2) = none) := by
  have hn : n ≤ (bufS st1).length := by have := spl_le k (bufS st1) false (.inl hb); rw [hs] at this; exact this
  have hr : remS st2 = (remS st1).drop n := by
    rw [← remS_drop hn]
    unfold remS bufS
    rw [e1, e2, e3, e4]
  have hbs : bufS st2 = (bufS st1).drop n := by
    unfold bufS
    rw [e1, e2, e3, List.drop_drop]
  refine ⟨⟨hg, ⟨?_, fun h3 => ?_, ?_⟩, by rw [e5]; exact h.nl, by rw [e5, e1]; exact h.bn⟩, fun h3 => ?_⟩
  · rw [h.same.tk, hr]
    have := spl_skip (q := st1.ps.flatten) hb hs
    unfold remS
    rw [this, List.drop_append_of_le_length hn]
  · subst h3
    obtain ⟨h0, _⟩ := lines_none hb hs
    rw [h.same.ln rfl, hr, h0, List.drop_zero]
  · rw [hr, List.length_drop]; have := h.same.le; omega
  · subst h3
    obtain ⟨h0, h1⟩ := lines_none hb hs
    rw [hbs, h0, List.drop_zero]
    exact h1
end Go.Proofs.YtgbbogocfmepiaaDoor
