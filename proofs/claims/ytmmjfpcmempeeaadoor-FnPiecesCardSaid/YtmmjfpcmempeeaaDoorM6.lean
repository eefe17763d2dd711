/- Texts of one kind, one behind the other. -/
import Derived.Test.YtmmjfpcmempeeaaDoorM2
import Derived.Test.YtmmjfpcmempeeaaDoorM3
/- Lists of byte slices, and of numbers, in rows of one's own. -/
namespace Go.Proofs.YtmmjfpcmempeeaaDoor
open Go.RowKit
/-- a slice of bytes, in a block of which P is said -/
def ElemB (w : World) (P : Nat → Prop) (v : Value) (bs : List UInt8) : Prop :=
  ∃ a c, v = .slice a bs.length c ∧ BytesA w a c bs ∧ ∀ p, a = some p → bs ≠ [] → P p.block ∧ ∃ cur, w.heap[p.block]? = some (.cells cur 5 (0, 0))
theorem ElemB.upd {M P : Nat → Prop} {w w1 : World} {v : Value} {bs : List UInt8} (h : ElemB w P v bs) (u : Upd M w w1) (hm : ∀ k cur, M k → P k → w.heap[k]? = some (.cells cur 5 (0, 0)) → False) : ElemB w1 P v bs := by
  obtain ⟨a, c, rfl, hb, hp⟩ := h
  refine ⟨a, c, rfl, hb.upd u (fun p hq hn hh => ?_), fun p hq hn => ?_⟩
  · obtain ⟨h1, cur, h2⟩ := hp p hq hn
    exact hm _ cur hh h1 h2
  · obtain ⟨h1, cur, h2⟩ := hp p hq hn
    exact ⟨h1, cur, u.heap h2 (fun hh => hm _ cur hh h1 h2)⟩
theorem ElemB.mono {P P' : Nat → Prop} {w : World} {v : Value} {bs : List UInt8} (h : ElemB w P v bs) (hp : ∀ k, P k → P' k) : ElemB w P' v bs := by
  obtain ⟨a, c, rfl, hb, hq⟩ := h
  exact ⟨a, c, rfl, hb, fun p h1 h2 => ⟨hp _ (hq p h1 h2).1, (hq p h1 h2).2⟩⟩
theorem NewB.elem {w w1 : World} {v : Value} {bs : List UInt8} {lo : Nat} (h : NewB w w1 v bs) (hlo : lo ≤ w.heap.size) : ElemB w1 (fun k => lo ≤ k) v bs := by
  obtain ⟨_, g, c, rfl, ho⟩ := h
  have hb := (BytesA.owned ho).2
  refine ⟨_, c, rfl, hb, fun p hp _ => ?_⟩
  simp only [Option.some.injEq] at hp
  subst hp
  have hl := ho.lt g rfl
  refine ⟨by show lo ≤ g; omega, ?_⟩
  rcases ho.2 with ⟨hv, _⟩ | ⟨g', cap, cur, hv, _, hg, _⟩
  · simp at hv
  · simp only [Value.slice.injEq, Option.some.injEq, Addr.mk.injEq, and_true, true_and] at hv
    obtain ⟨rfl, rfl⟩ := hv
    exact ⟨cur, hg⟩
def OwnL (base : Nat) (P : Nat → Prop) (w : World) (v : Value) (ls : List (List UInt8)) : Prop :=
  ∃ vs : List Value, vs.length = ls.length ∧ w.ownsRow base 29 1 v ls.length vs ∧ ∀ i, (h : i < ls.length) → ∃ u, vs[i]? = some u ∧ ElemB w P u ls[i]
/-- rows of other types lie in other blocks -/
theorem ownsRow_apart {w : World} {b b' e e' s s' n n' : Nat} {v v' : Value} {xs xs' : List Value} (h : w.ownsRow b e s v n xs) (h' : w.ownsRow b' e' s' v' n' xs') (he : e ≠ e') : ∀ k, v.ownBlock = some k → v'.ownBlock = some k → False := by
  intro k hk hk'
  rcases h.2 with ⟨rfl, _⟩ | ⟨g, cap, cur, rfl, _, hg, _⟩
  · simp [Value.ownBlock] at hk
  · rcases h'.2 with ⟨rfl, _⟩ | ⟨g', cap', cur', rfl, _, hg', _⟩
    · simp [Value.ownBlock] at hk'
    · simp only [Value.ownBlock, Option.some.injEq] at hk hk'
      subst hk; subst hk'
      rw [hg] at hg'
      simp at hg'
      exact he hg'.2
/-- a row's block holds cells of its type -/
theorem ownsRow_block {w : World} {b e s n : Nat} {v : Value} {xs : List Value} (h : w.ownsRow b e s v n xs) {k : Nat} (hk : v.ownBlock = some k) : b ≤ k ∧ ∃ cur, w.heap[k]? = some (.cells cur e (0, 0)) := by
  rcases h.2 with ⟨rfl, _⟩ | ⟨g, cap, cur, rfl, hb, hg, _⟩
  · simp [Value.ownBlock] at hk
  · simp only [Value.ownBlock, Option.some.injEq] at hk
    subst hk
    exact ⟨hb, cur, hg⟩
theorem OwnL.upd {M P : Nat → Prop} {base : Nat} {w w1 : World} {v : Value} {ls : List (List UInt8)} (h : OwnL base P w v ls) (u : Upd M w w1) (h1 : ∀ k cur, M k → base ≤ k → w.heap[k]? = some (.cells cur 29 (0, 0)) → False) (h2 : ∀ k cur, M k → P k → w.heap[k]? = some (.cells cur 5 (0, 0)) → False) : OwnL base P w1 v ls := by
  obtain ⟨vs, hl, ho, hp⟩ := h
  refine ⟨vs, hl, ⟨ho.1, ?_⟩, fun i hi => ?_⟩
  · rcases ho.2 with h | ⟨g, cap, cur, hv, hb, hg, r⟩
    · exact .inl h
    · exact .inr ⟨g, cap, cur, hv, hb, u.heap hg (fun hh => h1 g cur hh hb hg), r⟩
  · obtain ⟨x, hx, q⟩ := hp i hi
    exact ⟨x, hx, q.upd u h2⟩
theorem OwnL.new {P : Nat → Prop} {base : Nat} {w w1 : World} {v : Value} {ls : List (List UInt8)} (h : OwnL base P w v ls) (u : New w w1) : OwnL base P w1 v ls := h.upd u (fun _ _ hh _ _ => hh) (fun _ _ hh _ _ => hh)
theorem OwnL.nil (base : Nat) (P : Nat → Prop) (w : World) : OwnL base P w (.slice none 0 0) [] := ⟨[], rfl, World.ownsRow_nil _ _ _ _, fun i hi => by simp at hi⟩
/-- one more -/
theorem OwnL.grow {P : Nat → Prop} {base : Nat} {w w2 w3 : World} {pv pv' v : Value} {ls : List (List UInt8)} {bs : List UInt8} {vs : List Value} (hl : vs.length = ls.length) (ho1 : w.ownsRow base 29 1 pv ls.length vs) (hp : ∀ i, (h : i < ls.length) → ∃ u, vs[i]? = some u ∧ ElemB w P u ls[i]) (hv : ElemB w P v bs) (h12 : New w w2)
    (ho : w3.ownsRow base 29 1 pv' (ls.length + 1) (vs ++ [v])) (hg : w2.grownBy w3 pv.ownBlock) : OwnL base P w3 pv' (ls ++ [bs]) ∧ Upd (fun k => base ≤ k ∧ ∃ cur, w2.heap[k]? = some (.cells cur 29 (0, 0))) w2 w3 := by
  have hb : ∀ k, pv.ownBlock = some k → base ≤ k ∧ ∃ cur, w2.heap[k]? = some (.cells cur 29 (0, 0)) := fun k hk => by
    obtain ⟨h1, cur, h2⟩ := ownsRow_block ho1 hk
    exact ⟨h1, cur, h12.heap h2 (fun h => h)⟩
  have upd : Upd (fun k => base ≤ k ∧ ∃ cur, w2.heap[k]? = some (.cells cur 29 (0, 0))) w2 w3 := (Upd.refl _ _).grown hg (fun k hk _ => hb k hk)
  have hel : ∀ u x, ElemB w P u x → ElemB w3 P u x := fun u x hx => (hx.upd h12 (fun _ _ hh _ _ => hh)).upd upd (fun k cur hm _ hc => by
    obtain ⟨_, cur', h2⟩ := hm
    rw [hc] at h2
    simp at h2)
  refine ⟨⟨vs ++ [v], by simp [hl], by simpa using ho, fun i hi => ?_⟩, upd⟩
  by_cases hlast : i < ls.length
  · obtain ⟨u, hu1, hpc⟩ := hp i hlast
    refine ⟨u, by rw [List.getElem?_append_left (by omega)]; exact hu1, ?_⟩
    rw [List.getElem_append_left hlast]
    exact hel _ _ hpc
  · have hi' : i = ls.length := by simp at hi; omega
    subst hi'
    refine ⟨v, by rw [List.getElem?_append_right (by omega)]; simp [hl], ?_⟩
    have e : (ls ++ [bs])[ls.length] = bs := by simp
    rw [e]
    exact hel _ _ hv
/-- as slices of bytes that can be read -/
theorem OwnL.pieces {P : Nat → Prop} {base : Nat} {w : World} {v : Value} {ls : List (List UInt8)} (h : OwnL base P w v ls) : ∃ a c, v = .slice a ls.length c ∧ PiecesA w a c ls := by
  obtain ⟨vs, hl, ho, hp⟩ := h
  rcases ho.2 with ⟨rfl, hn⟩ | ⟨g, cap, cur, rfl, hb, hg, hn, hm, hs, ht⟩
  · exact ⟨none, 0, by rw [hn], by omega, Nat.zero_le _, fun _ => rfl, fun p hp => by cases hp⟩
  · refine ⟨_, cap, rfl, hn, hm, by simp, fun p hp' => ?_⟩
    simp only [Option.some.injEq] at hp'; subst hp'
    refine ⟨fun _ => rfl, fun i hi => ?_⟩
    obtain ⟨u, hu, ai, ci, rfl, hby, _⟩ := hp i hi
    refine ⟨ai, ci, ?_, hby⟩
    rw [World.cell_of_heap hg]
    rw [← ht, List.getElem?_take_of_lt (by omega)] at hu
    simpa using hu
/-- numbers in a row of one's own -/
def OwnI (base : Nat) (w : World) (v : Value) (xs : List Nat) : Prop := w.ownsRow base 3 1 v xs.length (xs.map fun (x : Nat) => .int .i64 (x : Int))
theorem OwnI.nil (base : Nat) (w : World) : OwnI base w (.slice none 0 0) [] := World.ownsRow_nil _ _ _ _
theorem OwnI.upd {M : Nat → Prop} {base : Nat} {w w1 : World} {v : Value} {xs : List Nat} (h : OwnI base w v xs) (u : Upd M w w1) (h1 : ∀ k cur, M k → base ≤ k → w.heap[k]? = some (.cells cur 3 (0, 0)) → False) : OwnI base w1 v xs := by
  refine ⟨h.1, ?_⟩
  rcases h.2 with h | ⟨g, cap, cur, hv, hb, hg, r⟩
  · exact .inl h
  · exact .inr ⟨g, cap, cur, hv, hb, u.heap hg (fun hh => h1 g cur hh hb hg), r⟩
theorem OwnI.new {base : Nat} {w w1 : World} {v : Value} {xs : List Nat} (h : OwnI base w v xs) (u : New w w1) : OwnI base w1 v xs := h.upd u (fun _ _ hh _ _ => hh)
theorem eI : ElemI Tryd.prog 32 3 (.int .i64 0) 1 8 := ElemI.mk' Tryd.underlying32 (by kernel_rfl) rfl (by omega)
/-- numbers that can be read -/
def IntsA (w : World) (a : Option Addr) (c : Nat) (xs : List Nat) : Prop :=
  xs.length ≤ c ∧ c ≤ maxLen ∧ (a = none → c = 0) ∧ ∀ p, a = some p → p.spot = none ∧ ∀ i, (h : i < xs.length) → w.cell? ⟨p.block, p.off + i, none⟩ = some (.int .i64 (xs[i] : Int))
theorem OwnI.ints {base : Nat} {w : World} {v : Value} {xs : List Nat} (h : OwnI base w v xs) : ∃ a c, v = .slice a xs.length c ∧ IntsA w a c xs := by
  rcases h.2 with ⟨rfl, hn⟩ | ⟨g, cap, cur, rfl, hb, hg, hn, hm, hs, ht⟩
  · exact ⟨none, 0, by rw [hn], by omega, Nat.zero_le _, fun _ => rfl, fun p hp => by cases hp⟩
  · refine ⟨_, cap, rfl, hn, hm, by simp, fun p hp' => ?_⟩
    simp only [Option.some.injEq] at hp'; subst hp'
    refine ⟨rfl, fun i hi => ?_⟩
    rw [World.cell_of_heap hg]
    have : (cur.toList.take (xs.length * 1))[i]? = (xs.map fun (x : Nat) => Value.int .i64 (x : Int))[i]? := by rw [ht]
    rw [List.getElem?_take_of_lt (by omega), List.getElem?_map, List.getElem?_eq_getElem hi] at this
    simpa using this
theorem OwnI.grow {base : Nat} {w w3 : World} {pv pv' : Value} {xs : List Nat} {x : Nat} (h : OwnI base w pv xs) {w2 : World} (h12 : New w w2)
    (ho : w3.ownsRow base 3 1 pv' (xs.length + 1) ((xs.map fun (x : Nat) => Value.int .i64 (x : Int)) ++ [.int .i64 (x : Int)])) (hg : w2.grownBy w3 pv.ownBlock) : OwnI base w3 pv' (xs ++ [x]) ∧ Upd (fun k => base ≤ k ∧ ∃ cur, w2.heap[k]? = some (.cells cur 3 (0, 0))) w2 w3 := by
  refine ⟨?_, (Upd.refl _ _).grown hg (fun k hk _ => ?_)⟩
  · unfold OwnI; simpa using ho
  · obtain ⟨h1, cur, h2⟩ := ownsRow_block h hk
    exact ⟨h1, cur, h12.heap h2 (fun h => h)⟩
end Go.Proofs.YtmmjfpcmempeeaaDoor
/- (*bufio.Reader).ReadSlice. -/
namespace Go.Proofs.YtmmjfpcmempeeaaDoor
open Go.RowKit
/-- so many bytes have been read: what can be taken back -/
def AR.read (A : AR) (n : Nat) : AR :=
  { A with left := A.left.drop n, last := ((A.left.take n).getLast?.map fun b => (b.toNat : Int)).getD A.last, rune := if n = 0 then A.rune else -1 }
def sliceA (A : AR) (d : UInt8) : (List UInt8 × Option Err) × AR :=
  match pos d (A.left.take A.size) with
  | some i => ((A.left.take (i + 1), none), A.read (i + 1))
  | none =>
    if A.err || decide (A.left.length < A.size) then ((A.left, some (endErr A.f)), { A.read A.left.length with err := false, back := if A.err then A.back else none })
    else ((A.left.take A.size, some .full), A.read A.size)
def sliceC (d : UInt8) (size : Nat) (l : List UInt8) : Prop := pos d l = none ∧ l.length < size
/-- what ReadSlice leaves at a break: line, error, and where it stands -/
theorem getLast_take {l : List UInt8} {n : Nat} (h0 : 0 < n) (h : n ≤ l.length) : (l.take n).getLast? = l[n - 1]? := by
  rw [List.getLast?_eq_getElem?, List.length_take, Nat.min_eq_left h, List.getElem?_take_of_lt (by omega)]
theorem read_pos {A : AR} {n : Nat} {x : UInt8} (h0 : 0 < n) (h : n ≤ A.left.length) (hx : A.left[n - 1]? = some x) : A.read n = { A with left := A.left.drop n, last := (x.toNat : Int), rune := -1 } := by
  unfold AR.read
  rw [getLast_take h0 h, hx, if_neg (by omega)]
  rfl
theorem abs_read {S : Err → Addr} {C : List UInt8 → Prop} {w : World} {L : Loc} {st st1 : RS} {A : AR} {n : Nat} {x : UInt8} {e : Bool} {b : Option (List UInt8)} (hA : Abs st A) (hF : Fld C st st1) (hR : Rd S w L st1) (h0 : 0 < n) (hn : n ≤ st1.w - st1.r) (hx : st1.buf[st1.r + (n - 1)]? = some x) (st' : RS)
    (hst : st' = { st1 with r := st1.r + n, err := if e then some (endErr A.f) else none, last := (x.toNat : Int), rune := -1 }) : Abs st' { A.read n with err := e, back := b } := by
  subst hst
  have hwn := hR.wn
  have hbl := bufd_length (st := st1) hwn
  have hle := rem_length st1
  have hrem : rem st1 = A.left := hF.rem.trans hA.left
  have hxl : A.left[n - 1]? = some x := by
    rw [← hrem]
    unfold rem
    rw [List.getElem?_append_left (by omega)]
    unfold bufd
    rw [List.getElem?_drop, List.getElem?_take_of_lt (by omega)]
    exact hx
  rw [read_pos h0 (by rw [← hrem]; omega) hxl]
  exact {
    left := by
      show rem { st1 with r := st1.r + n } = _
      rw [rem_drop (by omega), hrem]
    size := hF.n.trans hA.size
    f := hF.f.trans hA.f
    err := rfl
    last := rfl
    rune := rfl
    pos := fun _ => .inl (by show 0 < st1.r + n; omega)
    nz := by show (-1 : Int) ≠ 0; omega
    back := fun h => (by simp at h) }
/-- what ReadSlice tells -/
def RSPost (S : Err → Addr) (w : World) (L : Loc) (x : (List UInt8 × Option Err) × AR) (v : Value) (w' : World) : Prop :=
  ∃ st' ab c, v = .tuple #[.slice ab x.1.1.length c, eV S x.1.2] ∧ BytesA w' ab c x.1.1 ∧ (∀ p, ab = some p → p.block = L.bb) ∧ Rd S w' L st' ∧ Upd (In L) w w' ∧ Abs st' x.2 ∧ (x.1.2 = some .full → st'.r = st'.w ∧ st'.w = st'.buf.length ∧ st'.buf = x.1.1)
theorem sliceA_some {A : AR} {d : UInt8} {j : Nat} (h : pos d (A.left.take A.size) = some j) : sliceA A d = ((A.left.take (j + 1), none), A.read (j + 1)) := by unfold sliceA; rw [h]
theorem sliceA_end {A : AR} {d : UInt8} (h : pos d (A.left.take A.size) = none) (h2 : (A.err || decide (A.left.length < A.size)) = true) : sliceA A d = ((A.left, some (endErr A.f)), { A.read A.left.length with err := false, back := if A.err then A.back else none }) := by
  unfold sliceA; rw [h]; exact if_pos h2
theorem sliceA_full {A : AR} {d : UInt8} (h : pos d (A.left.take A.size) = none) (h2 : (A.err || decide (A.left.length < A.size)) = false) : sliceA A d = ((A.left.take A.size, some .full), A.read A.size) := by
  unfold sliceA; rw [h]; exact if_neg (by rw [h2]; simp)
/-- a full buffer -/
theorem slice_full {S : Err → Addr} {w wr wx : World} {L : Loc} {st st1 : RS} {A : AR} {d x : UInt8} {y : Int} (hA : Abs st A) (hF : Fld (sliceC d A.size) st st1) (hR : Rd S wr L st1) (hU : Upd (In L) w wr) (he : st1.err = none) (hf : st1.buf.length ≤ st1.w - st1.r)
    (hp : pos d (A.left.take A.size) = none) (hx : st1.buf[st1.buf.length - 1]? = some x) (hw : wx = (((wr.setCell ⟨L.b, 2, none⟩ (.int .i64 y)).setCell ⟨L.b, 5, none⟩ (.int .i64 (x.toNat : Int))).setCell ⟨L.b, 6, none⟩ (.int .i64 (-1))).drew.drew.drew) (hy : y = (st1.w : Int)) :
    RSPost S w L (sliceA A d) (.tuple #[.slice (some ⟨L.bb, 0, none⟩) st1.buf.length st1.buf.length, eV S (some .full)]) wx := by
  subst hy
  have hwn := hR.wn
  have hrw := hR.rw
  have hnlo := hR.nlo
  have hbl := bufd_length (st := st1) hwn
  have hle := rem_length st1
  have hrem : rem st1 = A.left := hF.rem.trans hA.left
  have hsz : A.size = st1.buf.length := (hF.n.trans hA.size).symm
  have hst : st.err = none := by
    rcases hF.err with h | ⟨h, _⟩
    · rw [← h]; exact he
    · rw [he] at h; cases h
  have hAe : A.err = false := hA.endIff.1 hst
  have hfalse : (A.err || decide (A.left.length < A.size)) = false := by rw [hAe, decide_eq_false (by rw [← hrem]; omega)]; rfl
  rw [sliceA_full hp hfalse]
  have hU0 : Upd (fun k => k = L.b) wr wx := by
    rw [hw]; exact ((((Upd.refl (fun k => k = L.b) wr).setCell (fun _ => rfl) _).setCell (fun _ => rfl) _).setCell (fun _ => rfl) _).drew.drew.drew
  have hRx : Rd S wx L { st1 with r := st1.w, last := (x.toNat : Int), rune := -1 } := by
    rw [hw]; exact (((hR.setR st1.w (Nat.le_refl _)).setLast _ (u8_last x).1 (u8_last x).2).setRune (-1) (by omega) (by omega)).drew.drew.drew
  have hbd : A.left.take A.size = st1.buf := by
    rw [← hrem, rem_take (by omega), List.take_of_length_le (by omega)]
    unfold bufd
    rw [show st1.r = 0 by omega, show st1.w = st1.buf.length by omega]
    simp
  have hab := abs_read (n := A.size) (e := A.err) (b := A.back) (x := x) hA hF hR (by omega) (by omega) (by rw [show st1.r + (A.size - 1) = st1.buf.length - 1 by omega]; exact hx) { st1 with r := st1.w, last := (x.toNat : Int), rune := -1 } (by rw [hAe, show st1.r + A.size = st1.w by omega, ← he]; rfl)
  refine ⟨_, _, _, by rw [hbd], by rw [hbd]; exact hR.whole.upd hU0 (fun p hp _ hh => by simp only [Option.some.injEq] at hp; subst hp; exact hR.ne hh), fun p hp => (by simp only [Option.some.injEq] at hp; subst hp; rfl), hRx, hU.trans (hU0.mono (M := In L) (fun k hk _ => by have hk : k = L.b := hk; rw [hk]; exact In.b hR)) (fun _ h _ => h), hab, fun _ => ⟨rfl, by show st1.w = st1.buf.length; omega, hbd.symm⟩⟩
/-- the end -/
theorem slice_end {S : Err → Addr} {w wr wx : World} {L : Loc} {st st1 st' : RS} {A : AR} {d : UInt8} {a : Option Addr} {c n : Nat} (hA : Abs st A) (hF : Fld (sliceC d A.size) st st1) (hR : Rd S wr L st1) (hU : Upd (In L) w wr) (he : st1.err ≠ none)
    (hp : pos d (A.left.take A.size) = none) (hs : SubAt L st1 a c) (hn : n = st1.w - st1.r) (hRx : Rd S wx L st') (hU0 : Upd (fun k => k = L.b) wr wx)
    (hab : ∀ b, (b = if A.err then A.back else none) → Abs st' { A.read (st1.w - st1.r) with err := false, back := b }) :
    RSPost S w L (sliceA A d) (.tuple #[.slice a n c, eV S st1.err]) wx := by
  subst hn
  have hwn := hR.wn
  have hrw := hR.rw
  have hbl := bufd_length (st := st1) hwn
  obtain ⟨q1, q2⟩ := hR.ended he
  have hrem : rem st1 = A.left := hF.rem.trans hA.left
  have hr : A.left = bufd st1 := by rw [← hrem]; exact rem_end q1
  have htrue : (A.err || decide (A.left.length < A.size)) = true := by
    rcases hF.err with h | ⟨_, h, _⟩
    · have : A.err = true := by
        cases hAe : A.err with
        | true => rfl
        | false => exact (he (h.trans (hA.endIff.2 hAe))).elim
      rw [this]; rfl
    · rw [decide_eq_true (by rw [← hA.left]; exact h.2), Bool.or_true]
  have hE : st1.err = some (endErr A.f) := by rw [q2, hF.f, hA.f]
  have hl : A.left.length = st1.w - st1.r := by rw [hr]; exact hbl
  rw [sliceA_end hp htrue, hE]
  have hsub := hR.sub (k := st1.w - st1.r) (by omega) hs
  rw [List.take_of_length_le (by omega), ← hr] at hsub
  refine ⟨st', _, _, by rw [hl], hsub.upd hU0 (fun p hp _ hh => hR.ne ((hs.bb p hp).symm.trans hh)), hs.bb, hRx, hU.trans (hU0.mono (M := In L) (fun k hk _ => by have hk : k = L.b := hk; rw [hk]; exact In.b hR)) (fun _ h _ => h), ?_, fun h => ?_⟩
  · rw [hl]; exact hab _ rfl
  · exfalso
    cases hf : A.f <;> (rw [hf] at h; simp [endErr] at h)
theorem slice_end1 {S : Err → Addr} {w wr wx : World} {L : Loc} {st st1 : RS} {A : AR} {d x : UInt8} {a : Option Addr} {c n : Nat} {y : Int} (hA : Abs st A) (hF : Fld (sliceC d A.size) st st1) (hR : Rd S wr L st1) (hU : Upd (In L) w wr) (he : st1.err ≠ none)
    (hp : pos d (A.left.take A.size) = none) (hlt : st1.r < st1.w) (hx : st1.buf[st1.w - 1]? = some x)
    (hw : wx = ((((wr.setCell ⟨L.b, 2, none⟩ (.int .i64 y)).setCell ⟨L.b, 4, none⟩ .nilIface).setCell ⟨L.b, 5, none⟩ (.int .i64 (x.toNat : Int))).setCell ⟨L.b, 6, none⟩ (.int .i64 (-1))).drew.drew) (hy : y = (st1.w : Int)) (hs : SubAt L st1 a c) (hn : n = st1.w - st1.r) :
    RSPost S w L (sliceA A d) (.tuple #[.slice a n c, eV S st1.err]) wx := by
  subst hy
  have hU0 : Upd (fun k => k = L.b) wr wx := by
    rw [hw]; exact (((((Upd.refl (fun k => k = L.b) wr).setCell (fun _ => rfl) _).setCell (fun _ => rfl) _).setCell (fun _ => rfl) _).setCell (fun _ => rfl) _).drew.drew
  have hRx : Rd S wx L { st1 with r := st1.w, err := none, last := (x.toNat : Int), rune := -1 } := by
    rw [hw]; exact ((((hR.setR st1.w (Nat.le_refl _)).setErr none (.inl rfl)).setLast _ (u8_last x).1 (u8_last x).2).setRune (-1) (by omega) (by omega)).drew.drew
  refine slice_end hA hF hR hU he hp hs hn hRx hU0 (fun b _ => ?_)
  exact abs_read (n := st1.w - st1.r) (e := false) (b := b) (x := x) hA hF hR (by omega) (Nat.le_refl _) (by rw [show st1.r + (st1.w - st1.r - 1) = st1.w - 1 by omega]; exact hx) _ (by rw [show st1.r + (st1.w - st1.r) = st1.w by omega]; rfl)
theorem slice_end0 {S : Err → Addr} {w wr wx : World} {L : Loc} {st st1 : RS} {A : AR} {d : UInt8} {a : Option Addr} {c n : Nat} {y : Int} (hA : Abs st A) (hF : Fld (sliceC d A.size) st st1) (hR : Rd S wr L st1) (hU : Upd (In L) w wr) (he : st1.err ≠ none)
    (hp : pos d (A.left.take A.size) = none) (hle : st1.w ≤ st1.r)
    (hw : wx = ((wr.setCell ⟨L.b, 2, none⟩ (.int .i64 y)).setCell ⟨L.b, 4, none⟩ .nilIface).drew.drew) (hy : y = (st1.w : Int)) (hs : SubAt L st1 a c) (hn : n = st1.w - st1.r) :
    RSPost S w L (sliceA A d) (.tuple #[.slice a n c, eV S st1.err]) wx := by
  subst hy
  have hrw := hR.rw
  have hU0 : Upd (fun k => k = L.b) wr wx := by
    rw [hw]; exact (((Upd.refl (fun k => k = L.b) wr).setCell (fun _ => rfl) _).setCell (fun _ => rfl) _).drew.drew
  have hRx : Rd S wx L { st1 with r := st1.w, err := none } := by
    rw [hw]; exact ((hR.setR st1.w (Nat.le_refl _)).setErr none (.inl rfl)).drew.drew
  refine slice_end hA hF hR hU he hp hs hn hRx hU0 (fun b hb => ?_)
  obtain ⟨q1, q2⟩ := hR.ended he
  have hrem : rem st1 = A.left := hF.rem.trans hA.left
  have hl : A.left = [] := by rw [← hrem, rem_end q1]; exact bufd_nil hle
  have hz : st1.w - st1.r = 0 := by omega
  have hr0 : A.read (st1.w - st1.r) = A := by rw [hz]; unfold AR.read; simp
  rw [hr0]
  have hrw' : st1.r = st1.w := by omega
  exact {
    left := by
      rw [hl]
      show bufd { st1 with r := st1.w, err := none } ++ st1.ps.flatten = []
      rw [q1, bufd_nil (Nat.le_refl _)]; rfl
    size := hF.n.trans hA.size
    f := hF.f.trans hA.f
    err := rfl
    last := hF.last.trans hA.last
    rune := hF.rune.trans hA.rune
    pos := fun _ => (by show 0 < st1.w ∨ st1.w = 0; omega)
    nz := by show st1.rune ≠ 0; rw [hF.rune]; exact hA.nz
    back := fun h => by
      have h : 0 ≤ st1.rune := h
      show b = if st1.rune ≤ (st1.w : Int) then some (prev { st1 with r := st1.w, err := none } st1.rune.toNat) else none
      rw [hb]
      cases hAe : A.err with
      | true =>
        have hs : st.err ≠ none := by rw [hA.err, hAe]; simp
        have e := hF.stay hs
        rw [if_pos rfl]
        have := hA.back (by rw [← e]; exact h)
        have ep : prev { st1 with r := st1.w, err := none } st1.rune.toNat = prev st1 st1.rune.toNat := by
          show (st1.buf.take st1.w).drop (st1.w - st1.rune.toNat) = (st1.buf.take st1.r).drop (st1.r - st1.rune.toNat)
          rw [hrw']
        rw [this, ← e, ep, hrw']
      | false =>
        have hs : st.err = none := hA.endIff.2 hAe
        have h0 : st1.r = 0 := by
          rcases hF.pos with e | e
          · rw [e] at he; exact (he hs).elim
          · exact e
        have hnz : st1.rune ≠ 0 := by rw [hF.rune]; exact hA.nz
        rw [if_neg (by simp), if_neg (by omega)] }
set_option maxRecDepth 100000 in
set_option maxHeartbeats 1000000 in
theorem readSlice {S : Err → Addr} {B : Nat} {w : World} {L : Loc} {st : RS} {A : AR} (E : Env S B w) (hB : B ≤ L.lo) (h : Rd S w L st) (hA : Abs st A) (d : UInt8) :
    Calls Tryd.prog 64 #[.pointer (some ⟨L.b, 0, none⟩), .int .u8 (d.toNat : Int)] w (Ret (RSPost S w L (sliceA A d))) := by
  have HE := Lib.hid E
  have HB := Lib.hid hB
  have H := Lib.hid h
  have HA := Lib.hid hA
  have HI := Lib.hid (In.b h)
  clear E hB h hA
  go_enter Tryd.func64, Tryd.ntmps64
  go_wp2
  go_loopg [5, 6] (toFill st) (fun k t5 t6 wx => t5 = .nilIface ∧ ∃ (st1 : RS) (s : Nat), t6 = .int .i64 (s : Int) ∧ s ≤ st1.w - st1.r ∧ pos d ((bufd st1).take s) = none ∧ Rd S wx L st1 ∧ Upd (In L) w wx ∧ Fld (sliceC d A.size) st st1 ∧ toFill st1 ≤ k)
  case atStart => exact ⟨rfl, _, 0, rfl, Nat.zero_le _, rfl, H.out, Upd.refl _ _, Fld.refl _ _, Nat.le_refl _⟩
  case round =>
    obtain ⟨rfl, st1, s, rfl, hs, hpos, h1, u1, wt, hk⟩ := hrel
    have hrw := h1.rw
    have hwn := h1.wn
    have hnhi := h1.nhi
    have hnlo := h1.nlo
    obtain ⟨d0, d1, d2, d3, d4, d5, d6, hf1⟩ := h1.cells
    have gfull1 := ((HE.out.updL HB.out u1).g .full (by decide)).2
    simp only [Err.g, eV] at gfull1
    have H2 := Lib.hid h1
    have HU := Lib.hid u1
    have HW := Lib.hid wt
    have HK := Lib.hid hk
    have HP := Lib.hid hpos
    have hsz : Hid (A.size = st1.buf.length) := (wt.n.trans HA.out.size).symm
    have hbl := Lib.hid (bufd_length (st := st1) h1.wn)
    have KI : Hid (∀ (o c : Nat), (st1.buf.length = st1.r + s ∧ o = 0 ∧ c = 0) ∨ (st1.buf.length ≠ st1.r + s ∧ o = st1.r + s ∧ c = st1.buf.length - (st1.r + s)) → ∀ wx, New wr wx →
        Calls Tryd.prog 75 #[.slice (some ⟨L.bb, o, none⟩) (st1.w - (st1.r + s)) c, .int .u8 (d.toNat : Int)] wx (Ret fun v w' => wx = w' ∧ v = .int .i64 (posI (pos d ((bufd st1).drop s))))) := by
      intro o c hor wx hx
      have hl : ((bufd st1).drop s).length = st1.w - (st1.r + s) := by rw [List.length_drop, hbl.out]; omega
      rw [← hl]
      refine bIndexByte ?_ d
      have e : (bufd st1).drop s = (st1.buf.take st1.w).drop (st1.r + s) := by unfold bufd; rw [List.drop_drop]
      rw [e]
      exact (h1.whole.sub (by omega) h1.wn (by rcases hor with ⟨q1, q2, q3⟩ | ⟨q1, q2, q3⟩; exact .inl ⟨q1, q2, q3⟩; exact .inr ⟨q1, by rw [q2, Nat.zero_add], q3⟩)).new hx
    have hb1 : L.bb ≠ L.b := h1.ne
    have hb2 : L.b ≠ L.bb := fun hh => h1.ne hh.symm
    have HPA : Hid (∀ i, pos d ((bufd st1).drop s) = some i → pos d (bufd st1) = some (s + i)) := fun i hi => by
      have := pos_none_append (m := (bufd st1).drop s) hpos
      rw [List.take_append_drop, hi, List.length_take, hbl.out, Nat.min_eq_left hs] at this
      rw [this]; simp; omega
    have HPN : Hid (pos d ((bufd st1).drop s) = none → pos d (bufd st1) = none) := fun hi => by
      have := pos_none_append (m := (bufd st1).drop s) hpos
      rw [List.take_append_drop, hi] at this
      exact this
    have hdl : Hid (((bufd st1).drop s).length = st1.w - (st1.r + s)) := by rw [Hid, List.length_drop, hbl.out]; omega
    clear h1 u1 wt hk hpos d1
    cases hp : pos d ((bufd st1).drop s) with
    | some i =>
      have hil : i < st1.w - (st1.r + s) := by rw [← hdl.out]; exact pos_lt hp
      have hne : ¬ st1.buf.length = st1.r + s := by omega
      have hner : ¬ st1.buf.length = st1.r := by omega
      have K1 := Lib.hid (KI.out _ _ (.inr ⟨hne, rfl, rfl⟩) wr.drew (Upd.refl _ _).drew)
      rw [hp] at K1
      simp only [posI] at K1
      obtain ⟨j, hj⟩ : ∃ j, j = i + s := ⟨_, rfl⟩
      have hjw : j < st1.w - st1.r := by omega
      have hji : (i : Int) + (s : Int) = (j : Int) := by omega
      have HJ : Hid (pos d (bufd st1) = some j) := by rw [HPA.out i hp, hj]; congr 1; omega
      have hb := H2.out.byte (show st1.r + j < st1.buf.length by omega)
      obtain ⟨x, hx⟩ : ∃ x, x = st1.buf[st1.r + j]'(by omega) := ⟨_, rfl⟩
      rw [← hx] at hb
      have HX : Hid (st1.buf[st1.r + j]? = some x) := by rw [Hid, hx]; exact List.getElem?_eq_getElem _
      have HJJ := Lib.hid hj
      have e1 : st1.r + j + 1 - st1.r = j + 1 := by omega
      have hu64 : wrap64 (x.toNat : Int) = (x.toNat : Int) := by have := u8_last x; unfold wrap64; omega
      have HFIN : Hid (∀ (y : Int) (n c : Nat) wx, wx = (((wr.setCell ⟨L.b, 2, none⟩ (.int .i64 y)).setCell ⟨L.b, 5, none⟩ (.int .i64 (x.toNat : Int))).setCell ⟨L.b, 6, none⟩ (.int .i64 (-1))).drew.drew → n = j + 1 → y = ((st1.r + (j + 1) : Nat) : Int) → c = st1.buf.length - st1.r → RSPost S w L (sliceA A d) (.tuple #[.slice (some ⟨L.bb, st1.r, none⟩) n c, .nilIface]) wx) := by
        intro y n c wx hw hn hy hc
        subst hn; subst hy; subst hc
        have hU0 : Upd (fun k => k = L.b) wr wx := by
          rw [hw]; exact ((((Upd.refl (fun k => k = L.b) wr).setCell (fun _ => rfl) _).setCell (fun _ => rfl) _).setCell (fun _ => rfl) _).drew.drew
        have hb := hbl.out
        have hrem : rem st1 = A.left := HW.out.rem.trans HA.out.left
        have hle := rem_length st1
        have hsz' := hsz.out
        have hposA : pos d (A.left.take A.size) = some j := by
          refine pos_take_of ?_ (by omega)
          rw [← hrem]
          unfold rem
          exact pos_some_append HJ.out
        have e : sliceA A d = ((A.left.take (j + 1), none), A.read (j + 1)) := by unfold sliceA; rw [hposA]
        have hlen : (A.left.take (j + 1)).length = j + 1 := by rw [List.length_take, ← hrem]; omega
        have hnc : ¬ sliceC d A.size (rem st) := fun hc => by
          have h1 := hc.1
          rw [← HW.out.rem] at h1
          have h2 : pos d (rem st1) = some j := by unfold rem; exact pos_some_append HJ.out
          rw [h1] at h2; cases h2
        have herr := HW.out.same hnc
        have hR : Rd S wx L { st1 with r := st1.r + (j + 1), last := (x.toNat : Int), rune := -1 } := by
          rw [hw]; exact (((H2.out.setR (st1.r + (j + 1)) (by omega)).setLast _ (u8_last x).1 (u8_last x).2).setRune (-1) (by omega) (by omega)).drew.drew
        have hsub : BytesA wr (some ⟨L.bb, st1.r, none⟩) (st1.buf.length - st1.r) ((bufd st1).take (j + 1)) := H2.out.sub (by omega) (.inr ⟨hner, rfl, rfl⟩)
        rw [← rem_take (by omega), hrem] at hsub
        rw [e]
        refine ⟨_, _, _, by rw [hlen]; rfl, hsub.upd hU0 (fun p hp _ hh => by simp only [Option.some.injEq] at hp; subst hp; exact hb1 hh), fun p hp => (by simp only [Option.some.injEq] at hp; subst hp; rfl), hR, HU.out.trans (hU0.mono (M := In L) (fun k hk _ => by have hk : k = L.b := hk; rw [hk]; exact HI.out)) (fun _ h _ => h), ?_⟩
        have hab := abs_read (n := j + 1) (e := A.err) (b := A.back) HA.out HW.out H2.out (by omega) (by omega) HX.out { st1 with r := st1.r + (j + 1), last := (x.toNat : Int), rune := -1 } (by rw [← HA.out.err, ← herr])
        exact ⟨hab, fun h => by cases h⟩
      clear d4 gfull1 hp hj hx
      go_wp2_with fail
      refine wp_region_lx {qd := [25]} (by kernel_rfl) (by kernel_rfl) ⟨fun _ _ _ h => h.2, fun _ _ h => h⟩ ?_
      (repeat' (first | (refine wpLx_calm rfl rfl rfl (fun K hK => ?_); go_step <;> (refine hK _ ?_; clear hK K)) | (refine wpLx_skip2 rfl rfl rfl ?_; go_simp) | (refine wpLx_calm2 rfl rfl rfl rfl rfl (fun K hK => ?_); go_step <;> (refine hK _ ?_; clear hK K))))
      refine wpLx_call rfl rfl rfl K1.out (by kernel_rfl) ?_
      (repeat' (first | (refine wpLx_calm rfl rfl rfl (fun K hK => ?_); go_step <;> (refine hK _ ?_; clear hK K)) | (refine wpLx_skip2 rfl rfl rfl ?_; go_simp) | (refine wpLx_calm2 rfl rfl rfl rfl rfl (fun K hK => ?_); go_step <;> (refine hK _ ?_; clear hK K))))
      refine wpLx_nil ?_
      (go_wp2_with fail; (repeat' (refine wp_region_lx {} (by kernel_rfl) (by kernel_rfl) ⟨fun _ _ _ h => h.2, fun _ _ h => h⟩ ?_; (repeat' (first | (refine wpLx_calm rfl rfl rfl (fun K hK => ?_); go_step <;> (refine hK _ ?_; clear hK K)) | (refine wpLx_skip2 rfl rfl rfl ?_; go_simp) | (refine wpLx_calm2 rfl rfl rfl rfl rfl (fun K hK => ?_); go_step <;> (refine hK _ ?_; clear hK K)))); all_goals (refine wpLx_nil ?_; try go_wp2_with fail))))
      go_ret2
      exact HFIN.out _ _ _ _ rfl (by omega) (by omega) rfl
    | none =>
      have HN := Lib.hid (HPN.out hp)
      have K2 : Hid (∀ (o c : Nat), (st1.buf.length = st1.r + s ∧ o = 0 ∧ c = 0) ∨ (st1.buf.length ≠ st1.r + s ∧ o = st1.r + s ∧ c = st1.buf.length - (st1.r + s)) → ∀ wx, New wr wx →
        Calls Tryd.prog 75 #[.slice (some ⟨L.bb, o, none⟩) (st1.w - (st1.r + s)) c, .int .u8 (d.toNat : Int)] wx (Ret fun v w' => wx = w' ∧ v = .int .i64 (-1))) := fun o c h wx hx => by
          have := KI.out o c h wx hx
          rw [hp] at this
          exact this
      have HPOSA : Hid (A.size ≤ st1.w - st1.r ∨ st1.ps = [] → pos d (A.left.take A.size) = none) := fun hor => by
        have hrem : rem st1 = A.left := HW.out.rem.trans HA.out.left
        have hsz' := hsz.out
        have hb := hbl.out
        rcases hor with h | h
        · rw [← hrem, rem_take (by omega), List.take_of_length_le (by omega)]; exact HN.out
        · rw [← hrem, rem_end h, List.take_of_length_le (by omega)]; exact HN.out
      clear hp KI HPA HPN
      cases he : st1.err with
      | none =>
        have HER := Lib.hid he
        rw [he] at d4
        simp only [eV] at d4
        clear he
        by_cases hfull : st1.buf.length ≤ st1.w - st1.r
        · have hw : st1.w = st1.buf.length := by omega
          have hr0 : st1.r = 0 := by omega
          have q1 : decide ((st1.buf.length : Int) ≤ (st1.w : Int) - (st1.r : Int)) = true := decide_eq_true (by omega)
          have hb := H2.out.byte (show st1.buf.length - 1 < st1.buf.length by omega)
          obtain ⟨x, hx⟩ : ∃ x, x = st1.buf[st1.buf.length - 1]'(by omega) := ⟨_, rfl⟩
          rw [← hx] at hb
          have HX : Hid (st1.buf[st1.buf.length - 1]? = some x) := by rw [Hid, hx]; exact List.getElem?_eq_getElem _
          have hu64 : wrap64 (x.toNat : Int) = (x.toNat : Int) := by have := u8_last x; unfold wrap64; omega
          have i1 : (st1.buf.length : Int) - 1 = ((st1.buf.length - 1 : Nat) : Int) := by omega
          have HWW := Lib.hid (And.intro hw hr0)
          clear hw hr0 hx
          go_wp2_with fail
          by_cases hcs : st1.buf.length = st1.r + s
          · refine wp_region_lx {qd := [25]} (by kernel_rfl) (by kernel_rfl) ⟨fun _ _ _ h => h.2, fun _ _ h => h⟩ ?_
            (repeat' (first | (refine wpLx_calm rfl rfl rfl (fun K hK => ?_); go_step <;> (refine hK _ ?_; clear hK K)) | (refine wpLx_skip2 rfl rfl rfl ?_; go_simp) | (refine wpLx_calm2 rfl rfl rfl rfl rfl (fun K hK => ?_); go_step <;> (refine hK _ ?_; clear hK K))))
            refine wpLx_call rfl rfl rfl (K2.out 0 (st1.r + s - (st1.r + s)) (.inl ⟨hcs, rfl, by omega⟩) wr.drew (Upd.refl _ _).drew) (by kernel_rfl) ?_
            clear hcs
            (repeat' (first | (refine wpLx_calm rfl rfl rfl (fun K hK => ?_); go_step <;> (refine hK _ ?_; clear hK K)) | (refine wpLx_skip2 rfl rfl rfl ?_; go_simp) | (refine wpLx_calm2 rfl rfl rfl rfl rfl (fun K hK => ?_); go_step <;> (refine hK _ ?_; clear hK K))))
            refine wpLx_nil ?_
            (go_wp2_with fail; (repeat' (refine wp_region_lx {} (by kernel_rfl) (by kernel_rfl) ⟨fun _ _ _ h => h.2, fun _ _ h => h⟩ ?_; (repeat' (first | (refine wpLx_calm rfl rfl rfl (fun K hK => ?_); go_step <;> (refine hK _ ?_; clear hK K)) | (refine wpLx_skip2 rfl rfl rfl ?_; go_simp) | (refine wpLx_calm2 rfl rfl rfl rfl rfl (fun K hK => ?_); go_step <;> (refine hK _ ?_; clear hK K)))); all_goals (refine wpLx_nil ?_; try go_wp2_with fail))))
            refine wp_region_lx {ld := [88], gd := [84]} (by kernel_rfl) (by kernel_rfl) ⟨fun _ _ _ h => h.2, fun _ _ h => h⟩ ?_
            (repeat' (first | (refine wpLx_calm rfl rfl rfl (fun K hK => ?_); go_step <;> (refine hK _ ?_; clear hK K)) | (refine wpLx_skip2 rfl rfl rfl ?_; go_simp) | (refine wpLx_calm2 rfl rfl rfl rfl rfl (fun K hK => ?_); go_step <;> (refine hK _ ?_; clear hK K))))
            refine wpLx_grow rfl rfl rfl (Upd.refl _ _) (fun K hK => ?_)
            go_step
            refine callRet (buffered H2.out.drew.drew) ?_
            rintro v w1 ⟨rfl, rfl⟩
            refine hK _ _ (Upd.refl _ _).drew ?_
            clear hK K
            (repeat' (first | (refine wpLx_calm rfl rfl rfl (fun K hK => ?_); go_step <;> (refine hK _ ?_; clear hK K)) | (refine wpLx_skip2 rfl rfl rfl ?_; go_simp) | (refine wpLx_calm2 rfl rfl rfl rfl rfl (fun K hK => ?_); go_step <;> (refine hK _ ?_; clear hK K))))
            refine wpLx_load rfl rfl (Upd.refl _ _).drew rfl rfl (by kernel_rfl) (show wr.drew.drew.cell? ⟨L.b, 0, none⟩ = some (.slice (some ⟨L.bb, 0, none⟩) st1.buf.length st1.buf.length) from H2.out.cells.1) ?_
            (repeat' (first | (refine wpLx_calm rfl rfl rfl (fun K hK => ?_); go_step <;> (refine hK _ ?_; clear hK K)) | (refine wpLx_skip2 rfl rfl rfl ?_; go_simp) | (refine wpLx_calm2 rfl rfl rfl rfl rfl (fun K hK => ?_); go_step <;> (refine hK _ ?_; clear hK K))))
            refine wpLx_nil ?_
            (go_wp2_with fail; (repeat' (refine wp_region_lx {} (by kernel_rfl) (by kernel_rfl) ⟨fun _ _ _ h => h.2, fun _ _ h => h⟩ ?_; (repeat' (first | (refine wpLx_calm rfl rfl rfl (fun K hK => ?_); go_step <;> (refine hK _ ?_; clear hK K)) | (refine wpLx_skip2 rfl rfl rfl ?_; go_simp) | (refine wpLx_calm2 rfl rfl rfl rfl rfl (fun K hK => ?_); go_step <;> (refine hK _ ?_; clear hK K)))); all_goals (refine wpLx_nil ?_; try go_wp2_with fail))))
            go_ret2
            exact slice_full HA.out HW.out H2.out HU.out HER.out hfull (HPOSA.out (.inl (by have := hsz.out; omega))) HX.out rfl rfl
          · refine wp_region_lx {qd := [25]} (by kernel_rfl) (by kernel_rfl) ⟨fun _ _ _ h => h.2, fun _ _ h => h⟩ ?_
            (repeat' (first | (refine wpLx_calm rfl rfl rfl (fun K hK => ?_); go_step <;> (refine hK _ ?_; clear hK K)) | (refine wpLx_skip2 rfl rfl rfl ?_; go_simp) | (refine wpLx_calm2 rfl rfl rfl rfl rfl (fun K hK => ?_); go_step <;> (refine hK _ ?_; clear hK K))))
            refine wpLx_call rfl rfl rfl (K2.out _ _ (.inr ⟨hcs, rfl, rfl⟩) wr.drew (Upd.refl _ _).drew) (by kernel_rfl) ?_
            clear hcs
            (repeat' (first | (refine wpLx_calm rfl rfl rfl (fun K hK => ?_); go_step <;> (refine hK _ ?_; clear hK K)) | (refine wpLx_skip2 rfl rfl rfl ?_; go_simp) | (refine wpLx_calm2 rfl rfl rfl rfl rfl (fun K hK => ?_); go_step <;> (refine hK _ ?_; clear hK K))))
            refine wpLx_nil ?_
            (go_wp2_with fail; (repeat' (refine wp_region_lx {} (by kernel_rfl) (by kernel_rfl) ⟨fun _ _ _ h => h.2, fun _ _ h => h⟩ ?_; (repeat' (first | (refine wpLx_calm rfl rfl rfl (fun K hK => ?_); go_step <;> (refine hK _ ?_; clear hK K)) | (refine wpLx_skip2 rfl rfl rfl ?_; go_simp) | (refine wpLx_calm2 rfl rfl rfl rfl rfl (fun K hK => ?_); go_step <;> (refine hK _ ?_; clear hK K)))); all_goals (refine wpLx_nil ?_; try go_wp2_with fail))))
            refine wp_region_lx {ld := [88], gd := [84]} (by kernel_rfl) (by kernel_rfl) ⟨fun _ _ _ h => h.2, fun _ _ h => h⟩ ?_
            (repeat' (first | (refine wpLx_calm rfl rfl rfl (fun K hK => ?_); go_step <;> (refine hK _ ?_; clear hK K)) | (refine wpLx_skip2 rfl rfl rfl ?_; go_simp) | (refine wpLx_calm2 rfl rfl rfl rfl rfl (fun K hK => ?_); go_step <;> (refine hK _ ?_; clear hK K))))
            refine wpLx_grow rfl rfl rfl (Upd.refl _ _) (fun K hK => ?_)
            go_step
            refine callRet (buffered H2.out.drew.drew) ?_
            rintro v w1 ⟨rfl, rfl⟩
            refine hK _ _ (Upd.refl _ _).drew ?_
            clear hK K
            (repeat' (first | (refine wpLx_calm rfl rfl rfl (fun K hK => ?_); go_step <;> (refine hK _ ?_; clear hK K)) | (refine wpLx_skip2 rfl rfl rfl ?_; go_simp) | (refine wpLx_calm2 rfl rfl rfl rfl rfl (fun K hK => ?_); go_step <;> (refine hK _ ?_; clear hK K))))
            refine wpLx_load rfl rfl (Upd.refl _ _).drew rfl rfl (by kernel_rfl) (show wr.drew.drew.cell? ⟨L.b, 0, none⟩ = some (.slice (some ⟨L.bb, 0, none⟩) st1.buf.length st1.buf.length) from H2.out.cells.1) ?_
            (repeat' (first | (refine wpLx_calm rfl rfl rfl (fun K hK => ?_); go_step <;> (refine hK _ ?_; clear hK K)) | (refine wpLx_skip2 rfl rfl rfl ?_; go_simp) | (refine wpLx_calm2 rfl rfl rfl rfl rfl (fun K hK => ?_); go_step <;> (refine hK _ ?_; clear hK K))))
            refine wpLx_nil ?_
            (go_wp2_with fail; (repeat' (refine wp_region_lx {} (by kernel_rfl) (by kernel_rfl) ⟨fun _ _ _ h => h.2, fun _ _ h => h⟩ ?_; (repeat' (first | (refine wpLx_calm rfl rfl rfl (fun K hK => ?_); go_step <;> (refine hK _ ?_; clear hK K)) | (refine wpLx_skip2 rfl rfl rfl ?_; go_simp) | (refine wpLx_calm2 rfl rfl rfl rfl rfl (fun K hK => ?_); go_step <;> (refine hK _ ?_; clear hK K)))); all_goals (refine wpLx_nil ?_; try go_wp2_with fail))))
            go_ret2
            exact slice_full HA.out HW.out H2.out HU.out HER.out hfull (HPOSA.out (.inl (by have := hsz.out; omega))) HX.out rfl rfl
        · have hlt2 : st1.w - st1.r < st1.buf.length := by omega
          have HLT := Lib.hid hlt2
          have q1 : decide ((st1.buf.length : Int) ≤ (st1.w : Int) - (st1.r : Int)) = false := decide_eq_false (by omega)
          clear hlt2
          go_wp2_with fail
          by_cases hcs : st1.buf.length = st1.r + s
          · refine wp_region_lx {qd := [25]} (by kernel_rfl) (by kernel_rfl) ⟨fun _ _ _ h => h.2, fun _ _ h => h⟩ ?_
            (repeat' (first | (refine wpLx_calm rfl rfl rfl (fun K hK => ?_); go_step <;> (refine hK _ ?_; clear hK K)) | (refine wpLx_skip2 rfl rfl rfl ?_; go_simp) | (refine wpLx_calm2 rfl rfl rfl rfl rfl (fun K hK => ?_); go_step <;> (refine hK _ ?_; clear hK K))))
            refine wpLx_call rfl rfl rfl (K2.out 0 (st1.r + s - (st1.r + s)) (.inl ⟨hcs, rfl, by omega⟩) wr.drew (Upd.refl _ _).drew) (by kernel_rfl) ?_
            clear hcs
            (repeat' (first | (refine wpLx_calm rfl rfl rfl (fun K hK => ?_); go_step <;> (refine hK _ ?_; clear hK K)) | (refine wpLx_skip2 rfl rfl rfl ?_; go_simp) | (refine wpLx_calm2 rfl rfl rfl rfl rfl (fun K hK => ?_); go_step <;> (refine hK _ ?_; clear hK K))))
            refine wpLx_nil ?_
            (go_wp2_with fail; (repeat' (refine wp_region_lx {} (by kernel_rfl) (by kernel_rfl) ⟨fun _ _ _ h => h.2, fun _ _ h => h⟩ ?_; (repeat' (first | (refine wpLx_calm rfl rfl rfl (fun K hK => ?_); go_step <;> (refine hK _ ?_; clear hK K)) | (refine wpLx_skip2 rfl rfl rfl ?_; go_simp) | (refine wpLx_calm2 rfl rfl rfl rfl rfl (fun K hK => ?_); go_step <;> (refine hK _ ?_; clear hK K)))); all_goals (refine wpLx_nil ?_; try go_wp2_with fail))))
            refine wp_region_lx {ld := [88], gd := [84]} (by kernel_rfl) (by kernel_rfl) ⟨fun _ _ _ h => h.2, fun _ _ h => h⟩ ?_
            (repeat' (first | (refine wpLx_calm rfl rfl rfl (fun K hK => ?_); go_step <;> (refine hK _ ?_; clear hK K)) | (refine wpLx_skip2 rfl rfl rfl ?_; go_simp) | (refine wpLx_calm2 rfl rfl rfl rfl rfl (fun K hK => ?_); go_step <;> (refine hK _ ?_; clear hK K))))
            refine wpLx_grow rfl rfl rfl (Upd.refl _ _) (fun K hK => ?_)
            go_step
            refine callRet (buffered H2.out.drew.drew) ?_
            rintro v w1 ⟨rfl, rfl⟩
            refine hK _ _ (Upd.refl _ _).drew ?_
            clear hK K
            (repeat' (first | (refine wpLx_calm rfl rfl rfl (fun K hK => ?_); go_step <;> (refine hK _ ?_; clear hK K)) | (refine wpLx_skip2 rfl rfl rfl ?_; go_simp) | (refine wpLx_calm2 rfl rfl rfl rfl rfl (fun K hK => ?_); go_step <;> (refine hK _ ?_; clear hK K))))
            refine wpLx_load rfl rfl (Upd.refl _ _).drew rfl rfl (by kernel_rfl) (show wr.drew.drew.cell? ⟨L.b, 0, none⟩ = some (.slice (some ⟨L.bb, 0, none⟩) st1.buf.length st1.buf.length) from H2.out.cells.1) ?_
            (repeat' (first | (refine wpLx_calm rfl rfl rfl (fun K hK => ?_); go_step <;> (refine hK _ ?_; clear hK K)) | (refine wpLx_skip2 rfl rfl rfl ?_; go_simp) | (refine wpLx_calm2 rfl rfl rfl rfl rfl (fun K hK => ?_); go_step <;> (refine hK _ ?_; clear hK K))))
            refine wpLx_nil ?_
            (go_wp2_with fail; (repeat' (refine wp_region_lx {} (by kernel_rfl) (by kernel_rfl) ⟨fun _ _ _ h => h.2, fun _ _ h => h⟩ ?_; (repeat' (first | (refine wpLx_calm rfl rfl rfl (fun K hK => ?_); go_step <;> (refine hK _ ?_; clear hK K)) | (refine wpLx_skip2 rfl rfl rfl ?_; go_simp) | (refine wpLx_calm2 rfl rfl rfl rfl rfl (fun K hK => ?_); go_step <;> (refine hK _ ?_; clear hK K)))); all_goals (refine wpLx_nil ?_; try go_wp2_with fail))))
            go_at_call 54
            refine callRet (fill ((HE.out.updL HB.out HU.out).new (Upd.refl _ _).drew.drew.drew.drew) HB.out H2.out.drew.drew.drew.drew HLT.out) ?_
            intro v w1 hv
            obtain ⟨st2, ⟨_, chunk, hfill⟩, h2, u2⟩ := hv
            have HFI := Lib.hid hfill
            have HR2 := Lib.hid h2
            have HU2 := Lib.hid u2
            clear hfill h2 u2
            go_wp2
            go_roundg (toFill st2)
            case rel =>
              have hfill := HFI.out
              have hb2 := bufd_length (st := st2) HR2.out.wn
              have hb := hbl.out
              have hbd := hfill.bd
              have hlen := congrArg List.length hbd
              rw [List.length_append] at hlen
              refine ⟨rfl, st2, st1.w - st1.r, congrArg (Value.int .i64) (by omega), by omega, ?_, HR2.out, (HU.out.drew.drew.drew.drew).trans HU2.out (fun _ h _ => h), HW.out.fill hfill HER.out (fun _ => ⟨HN.out, by have := hsz.out; omega⟩), Nat.le_refl _⟩
              rw [hbd, ← hb, List.take_left]
              exact HN.out
            case measure => have := HK.out; have := HFI.out.less HER.out; omega
          · refine wp_region_lx {qd := [25]} (by kernel_rfl) (by kernel_rfl) ⟨fun _ _ _ h => h.2, fun _ _ h => h⟩ ?_
            (repeat' (first | (refine wpLx_calm rfl rfl rfl (fun K hK => ?_); go_step <;> (refine hK _ ?_; clear hK K)) | (refine wpLx_skip2 rfl rfl rfl ?_; go_simp) | (refine wpLx_calm2 rfl rfl rfl rfl rfl (fun K hK => ?_); go_step <;> (refine hK _ ?_; clear hK K))))
            refine wpLx_call rfl rfl rfl (K2.out _ _ (.inr ⟨hcs, rfl, rfl⟩) wr.drew (Upd.refl _ _).drew) (by kernel_rfl) ?_
            clear hcs
            (repeat' (first | (refine wpLx_calm rfl rfl rfl (fun K hK => ?_); go_step <;> (refine hK _ ?_; clear hK K)) | (refine wpLx_skip2 rfl rfl rfl ?_; go_simp) | (refine wpLx_calm2 rfl rfl rfl rfl rfl (fun K hK => ?_); go_step <;> (refine hK _ ?_; clear hK K))))
            refine wpLx_nil ?_
            (go_wp2_with fail; (repeat' (refine wp_region_lx {} (by kernel_rfl) (by kernel_rfl) ⟨fun _ _ _ h => h.2, fun _ _ h => h⟩ ?_; (repeat' (first | (refine wpLx_calm rfl rfl rfl (fun K hK => ?_); go_step <;> (refine hK _ ?_; clear hK K)) | (refine wpLx_skip2 rfl rfl rfl ?_; go_simp) | (refine wpLx_calm2 rfl rfl rfl rfl rfl (fun K hK => ?_); go_step <;> (refine hK _ ?_; clear hK K)))); all_goals (refine wpLx_nil ?_; try go_wp2_with fail))))
            refine wp_region_lx {ld := [88], gd := [84]} (by kernel_rfl) (by kernel_rfl) ⟨fun _ _ _ h => h.2, fun _ _ h => h⟩ ?_
            (repeat' (first | (refine wpLx_calm rfl rfl rfl (fun K hK => ?_); go_step <;> (refine hK _ ?_; clear hK K)) | (refine wpLx_skip2 rfl rfl rfl ?_; go_simp) | (refine wpLx_calm2 rfl rfl rfl rfl rfl (fun K hK => ?_); go_step <;> (refine hK _ ?_; clear hK K))))
            refine wpLx_grow rfl rfl rfl (Upd.refl _ _) (fun K hK => ?_)
            go_step
            refine callRet (buffered H2.out.drew.drew) ?_
            rintro v w1 ⟨rfl, rfl⟩
            refine hK _ _ (Upd.refl _ _).drew ?_
            clear hK K
            (repeat' (first | (refine wpLx_calm rfl rfl rfl (fun K hK => ?_); go_step <;> (refine hK _ ?_; clear hK K)) | (refine wpLx_skip2 rfl rfl rfl ?_; go_simp) | (refine wpLx_calm2 rfl rfl rfl rfl rfl (fun K hK => ?_); go_step <;> (refine hK _ ?_; clear hK K))))
            refine wpLx_load rfl rfl (Upd.refl _ _).drew rfl rfl (by kernel_rfl) (show wr.drew.drew.cell? ⟨L.b, 0, none⟩ = some (.slice (some ⟨L.bb, 0, none⟩) st1.buf.length st1.buf.length) from H2.out.cells.1) ?_
            (repeat' (first | (refine wpLx_calm rfl rfl rfl (fun K hK => ?_); go_step <;> (refine hK _ ?_; clear hK K)) | (refine wpLx_skip2 rfl rfl rfl ?_; go_simp) | (refine wpLx_calm2 rfl rfl rfl rfl rfl (fun K hK => ?_); go_step <;> (refine hK _ ?_; clear hK K))))
            refine wpLx_nil ?_
            (go_wp2_with fail; (repeat' (refine wp_region_lx {} (by kernel_rfl) (by kernel_rfl) ⟨fun _ _ _ h => h.2, fun _ _ h => h⟩ ?_; (repeat' (first | (refine wpLx_calm rfl rfl rfl (fun K hK => ?_); go_step <;> (refine hK _ ?_; clear hK K)) | (refine wpLx_skip2 rfl rfl rfl ?_; go_simp) | (refine wpLx_calm2 rfl rfl rfl rfl rfl (fun K hK => ?_); go_step <;> (refine hK _ ?_; clear hK K)))); all_goals (refine wpLx_nil ?_; try go_wp2_with fail))))
            go_at_call 54
            refine callRet (fill ((HE.out.updL HB.out HU.out).new (Upd.refl _ _).drew.drew.drew.drew) HB.out H2.out.drew.drew.drew.drew HLT.out) ?_
            intro v w1 hv
            obtain ⟨st2, ⟨_, chunk, hfill⟩, h2, u2⟩ := hv
            have HFI := Lib.hid hfill
            have HR2 := Lib.hid h2
            have HU2 := Lib.hid u2
            clear hfill h2 u2
            go_wp2
            go_roundg (toFill st2)
            case rel =>
              have hfill := HFI.out
              have hb2 := bufd_length (st := st2) HR2.out.wn
              have hb := hbl.out
              have hbd := hfill.bd
              have hlen := congrArg List.length hbd
              rw [List.length_append] at hlen
              refine ⟨rfl, st2, st1.w - st1.r, congrArg (Value.int .i64) (by omega), by omega, ?_, HR2.out, (HU.out.drew.drew.drew.drew).trans HU2.out (fun _ h _ => h), HW.out.fill hfill HER.out (fun _ => ⟨HN.out, by have := hsz.out; omega⟩), Nat.le_refl _⟩
              rw [hbd, ← hb, List.take_left]
              exact HN.out
            case measure => have := HK.out; have := HFI.out.less HER.out; omega
      | some e =>
        obtain ⟨et, ev, hev⟩ : ∃ et ev, eV S (some e) = .iface et ev := by cases e <;> exact ⟨_, _, rfl⟩
        have HER := Lib.hid he
        rw [he, hev] at d4
        by_cases hem : st1.w ≤ st1.r
        · have q2 : decide ((0 : Int) ≤ ((st1.w - st1.r : Nat) : Int) - 1) = false := decide_eq_false (by omega)
          have q3 : decide ((1 : Int) ≤ ((st1.w - st1.r : Nat) : Int)) = false := decide_eq_false (by omega)
          have HFIN : Hid (∀ (a : Option Addr) (c n : Nat) (y : Int) wx, wx = ((wr.setCell ⟨L.b, 2, none⟩ (.int .i64 y)).setCell ⟨L.b, 4, none⟩ .nilIface).drew.drew → y = (st1.w : Int) → SubAt L st1 a c → n = st1.w - st1.r → RSPost S w L (sliceA A d) (.tuple #[.slice a n c, .iface et ev]) wx) := by
            intro a c n y wx h1 h2 h3 h4
            rw [← hev, ← he]
            exact slice_end0 HA.out HW.out H2.out HU.out (by rw [he]; simp) (HPOSA.out (.inr (H2.out.ended (by rw [he]; simp)).1)) hem h1 h2 h3 h4
          clear he hev
          go_wp2_with fail
          by_cases hcs : st1.buf.length = st1.r + s
          · refine wp_region_lx {qd := [25]} (by kernel_rfl) (by kernel_rfl) ⟨fun _ _ _ h => h.2, fun _ _ h => h⟩ ?_
            (repeat' (first | (refine wpLx_calm rfl rfl rfl (fun K hK => ?_); go_step <;> (refine hK _ ?_; clear hK K)) | (refine wpLx_skip2 rfl rfl rfl ?_; go_simp) | (refine wpLx_calm2 rfl rfl rfl rfl rfl (fun K hK => ?_); go_step <;> (refine hK _ ?_; clear hK K))))
            refine wpLx_call rfl rfl rfl (K2.out 0 (st1.r + s - (st1.r + s)) (.inl ⟨hcs, rfl, by omega⟩) wr.drew (Upd.refl _ _).drew) (by kernel_rfl) ?_
            clear hcs
            (repeat' (first | (refine wpLx_calm rfl rfl rfl (fun K hK => ?_); go_step <;> (refine hK _ ?_; clear hK K)) | (refine wpLx_skip2 rfl rfl rfl ?_; go_simp) | (refine wpLx_calm2 rfl rfl rfl rfl rfl (fun K hK => ?_); go_step <;> (refine hK _ ?_; clear hK K))))
            refine wpLx_nil ?_
            (go_wp2; (repeat' (refine wp_region_lx {} (by kernel_rfl) (by kernel_rfl) ⟨fun _ _ _ h => h.2, fun _ _ h => h⟩ ?_; (repeat' (first | (refine wpLx_calm rfl rfl rfl (fun K hK => ?_); go_step <;> (refine hK _ ?_; clear hK K)) | (refine wpLx_skip2 rfl rfl rfl ?_; go_simp) | (refine wpLx_calm2 rfl rfl rfl rfl rfl (fun K hK => ?_); go_step <;> (refine hK _ ?_; clear hK K)))); all_goals (refine wpLx_nil ?_; try go_wp2))))
            all_goals
              go_ret2
              first | exact HFIN.out _ _ _ _ _ rfl rfl (.inl ⟨by assumption, rfl, rfl⟩) (by omega) | exact HFIN.out _ _ _ _ _ rfl rfl (.inr ⟨by assumption, rfl, rfl⟩) (by omega)
          · refine wp_region_lx {qd := [25]} (by kernel_rfl) (by kernel_rfl) ⟨fun _ _ _ h => h.2, fun _ _ h => h⟩ ?_
            (repeat' (first | (refine wpLx_calm rfl rfl rfl (fun K hK => ?_); go_step <;> (refine hK _ ?_; clear hK K)) | (refine wpLx_skip2 rfl rfl rfl ?_; go_simp) | (refine wpLx_calm2 rfl rfl rfl rfl rfl (fun K hK => ?_); go_step <;> (refine hK _ ?_; clear hK K))))
            refine wpLx_call rfl rfl rfl (K2.out _ _ (.inr ⟨hcs, rfl, rfl⟩) wr.drew (Upd.refl _ _).drew) (by kernel_rfl) ?_
            clear hcs
            (repeat' (first | (refine wpLx_calm rfl rfl rfl (fun K hK => ?_); go_step <;> (refine hK _ ?_; clear hK K)) | (refine wpLx_skip2 rfl rfl rfl ?_; go_simp) | (refine wpLx_calm2 rfl rfl rfl rfl rfl (fun K hK => ?_); go_step <;> (refine hK _ ?_; clear hK K))))
            refine wpLx_nil ?_
            (go_wp2; (repeat' (refine wp_region_lx {} (by kernel_rfl) (by kernel_rfl) ⟨fun _ _ _ h => h.2, fun _ _ h => h⟩ ?_; (repeat' (first | (refine wpLx_calm rfl rfl rfl (fun K hK => ?_); go_step <;> (refine hK _ ?_; clear hK K)) | (refine wpLx_skip2 rfl rfl rfl ?_; go_simp) | (refine wpLx_calm2 rfl rfl rfl rfl rfl (fun K hK => ?_); go_step <;> (refine hK _ ?_; clear hK K)))); all_goals (refine wpLx_nil ?_; try go_wp2))))
            all_goals
              go_ret2
              first | exact HFIN.out _ _ _ _ _ rfl rfl (.inl ⟨by assumption, rfl, rfl⟩) (by omega) | exact HFIN.out _ _ _ _ _ rfl rfl (.inr ⟨by assumption, rfl, rfl⟩) (by omega)
        · have hner : ¬ st1.buf.length = st1.r := by omega
          have hb := H2.out.byte (show st1.w - 1 < st1.buf.length by omega)
          obtain ⟨x, hx⟩ : ∃ x, x = st1.buf[st1.w - 1]'(by omega) := ⟨_, rfl⟩
          rw [← hx] at hb
          have HX : Hid (st1.buf[st1.w - 1]? = some x) := by rw [Hid, hx]; exact List.getElem?_eq_getElem _
          have hu64 : wrap64 (x.toNat : Int) = (x.toNat : Int) := by have := u8_last x; unfold wrap64; omega
          have i1 : ((st1.w - st1.r : Nat) : Int) - 1 = ((st1.w - st1.r - 1 : Nat) : Int) := by omega
          have i2 : st1.r + (st1.w - st1.r - 1) = st1.w - 1 := by omega
          have HFIN : Hid (∀ (a : Option Addr) (c n : Nat) (y : Int) wx, wx = ((((wr.setCell ⟨L.b, 2, none⟩ (.int .i64 y)).setCell ⟨L.b, 4, none⟩ .nilIface).setCell ⟨L.b, 5, none⟩ (.int .i64 (x.toNat : Int))).setCell ⟨L.b, 6, none⟩ (.int .i64 (-1))).drew.drew → y = (st1.w : Int) → SubAt L st1 a c → n = st1.w - st1.r → RSPost S w L (sliceA A d) (.tuple #[.slice a n c, .iface et ev]) wx) := by
            intro a c n y wx h1 h2 h3 h4
            rw [← hev, ← he]
            exact slice_end1 HA.out HW.out H2.out HU.out (by rw [he]; simp) (HPOSA.out (.inr (H2.out.ended (by rw [he]; simp)).1)) (by omega) HX.out h1 h2 h3 h4
          clear hx he hev
          go_wp2_with fail
          by_cases hcs : st1.buf.length = st1.r + s
          · refine wp_region_lx {qd := [25]} (by kernel_rfl) (by kernel_rfl) ⟨fun _ _ _ h => h.2, fun _ _ h => h⟩ ?_
            (repeat' (first | (refine wpLx_calm rfl rfl rfl (fun K hK => ?_); go_step <;> (refine hK _ ?_; clear hK K)) | (refine wpLx_skip2 rfl rfl rfl ?_; go_simp) | (refine wpLx_calm2 rfl rfl rfl rfl rfl (fun K hK => ?_); go_step <;> (refine hK _ ?_; clear hK K))))
            refine wpLx_call rfl rfl rfl (K2.out 0 (st1.r + s - (st1.r + s)) (.inl ⟨hcs, rfl, by omega⟩) wr.drew (Upd.refl _ _).drew) (by kernel_rfl) ?_
            clear hcs
            (repeat' (first | (refine wpLx_calm rfl rfl rfl (fun K hK => ?_); go_step <;> (refine hK _ ?_; clear hK K)) | (refine wpLx_skip2 rfl rfl rfl ?_; go_simp) | (refine wpLx_calm2 rfl rfl rfl rfl rfl (fun K hK => ?_); go_step <;> (refine hK _ ?_; clear hK K))))
            refine wpLx_nil ?_
            (go_wp2; (repeat' (refine wp_region_lx {} (by kernel_rfl) (by kernel_rfl) ⟨fun _ _ _ h => h.2, fun _ _ h => h⟩ ?_; (repeat' (first | (refine wpLx_calm rfl rfl rfl (fun K hK => ?_); go_step <;> (refine hK _ ?_; clear hK K)) | (refine wpLx_skip2 rfl rfl rfl ?_; go_simp) | (refine wpLx_calm2 rfl rfl rfl rfl rfl (fun K hK => ?_); go_step <;> (refine hK _ ?_; clear hK K)))); all_goals (refine wpLx_nil ?_; try go_wp2))))
            all_goals
              go_ret2
              exact HFIN.out _ _ _ _ _ rfl rfl (.inr ⟨hner, rfl, rfl⟩) (by omega)
          · refine wp_region_lx {qd := [25]} (by kernel_rfl) (by kernel_rfl) ⟨fun _ _ _ h => h.2, fun _ _ h => h⟩ ?_
            (repeat' (first | (refine wpLx_calm rfl rfl rfl (fun K hK => ?_); go_step <;> (refine hK _ ?_; clear hK K)) | (refine wpLx_skip2 rfl rfl rfl ?_; go_simp) | (refine wpLx_calm2 rfl rfl rfl rfl rfl (fun K hK => ?_); go_step <;> (refine hK _ ?_; clear hK K))))
            refine wpLx_call rfl rfl rfl (K2.out _ _ (.inr ⟨hcs, rfl, rfl⟩) wr.drew (Upd.refl _ _).drew) (by kernel_rfl) ?_
            clear hcs
            (repeat' (first | (refine wpLx_calm rfl rfl rfl (fun K hK => ?_); go_step <;> (refine hK _ ?_; clear hK K)) | (refine wpLx_skip2 rfl rfl rfl ?_; go_simp) | (refine wpLx_calm2 rfl rfl rfl rfl rfl (fun K hK => ?_); go_step <;> (refine hK _ ?_; clear hK K))))
            refine wpLx_nil ?_
            (go_wp2; (repeat' (refine wp_region_lx {} (by kernel_rfl) (by kernel_rfl) ⟨fun _ _ _ h => h.2, fun _ _ h => h⟩ ?_; (repeat' (first | (refine wpLx_calm rfl rfl rfl (fun K hK => ?_); go_step <;> (refine hK _ ?_; clear hK K)) | (refine wpLx_skip2 rfl rfl rfl ?_; go_simp) | (refine wpLx_calm2 rfl rfl rfl rfl rfl (fun K hK => ?_); go_step <;> (refine hK _ ?_; clear hK K)))); all_goals (refine wpLx_nil ?_; try go_wp2))))
            all_goals
              go_ret2
              exact HFIN.out _ _ _ _ _ rfl rfl (.inr ⟨hner, rfl, rfl⟩) (by omega)
end Go.Proofs.YtmmjfpcmempeeaaDoor
/- impl.Slices. -/
namespace Go.Proofs.YtmmjfpcmempeeaaDoor
open Go.RowKit
theorem sliceA_left (A : AR) (d : UInt8) : (sliceA A d).1.1.length ≤ A.left.length ∧ (sliceA A d).2.left.length ≤ A.left.length ∧ (sliceA A d).2.f = A.f ∧ (sliceA A d).2.size = A.size := by
  unfold sliceA
  split
  · exact ⟨List.length_take_le' _ _, by unfold AR.read; simp, rfl, rfl⟩
  · split
    · exact ⟨Nat.le_refl _, by unfold AR.read; simp, rfl, rfl⟩
    · exact ⟨List.length_take_le' _ _, by unfold AR.read; simp, rfl, rfl⟩
/-- what ReadSlice tells beside a line -/
theorem sliceA_err (A : AR) (d : UInt8) : (sliceA A d).1.2 = none ∨ (sliceA A d).1.2 = some .full ∨ (sliceA A d).1.2 = some (endErr A.f) := by
  unfold sliceA
  split
  · exact .inl rfl
  · split
    · exact .inr (.inr rfl)
    · exact .inr (.inl rfl)
def runSl (d : UInt8) : Nat → AR → List (List UInt8) × List Nat
  | 0, _ => ([], [])
  | n + 1, A => if (sliceA A d).1.2 = some (endErr A.f) then ([(sliceA A d).1.1], [ecode (sliceA A d).1.2]) else ((sliceA A d).1.1 :: (runSl d n (sliceA A d).2).1, ecode (sliceA A d).1.2 :: (runSl d n (sliceA A d).2).2)
/-- two lists more by one each: lines first, then codes -/
structure Both (base : Nat) (L : Loc) (S : Err → Addr) (w wr : World) (v u : Value) (ls : List (List UInt8)) (cs : List Nat) (st : RS) : Prop where
  rd : Rd S wr L st
  new : New w wr
  ls : OwnL base (fun k => base ≤ k) wr v ls
  cs : OwnI base wr u cs
  hi : base ≤ wr.heap.size
theorem Both.reader {base : Nat} {L : Loc} {S : Err → Addr} {w wr w2 : World} {v u : Value} {ls : List (List UInt8)} {cs : List Nat} {st st2 : RS} (h : Both base L S w wr v u ls cs st) (hlo : w.heap.size ≤ L.lo) (hhi : L.hi ≤ base) (h2 : Rd S w2 L st2) (hu : Upd (In L) wr w2) : Both base L S w w2 v u ls cs st2 where
  rd := h2
  new := Upd.inNew h.new hu hlo
  ls := h.ls.upd hu (fun k _ hk hb _ => by have := hk.2; omega) (fun k _ hk hb _ => by have := hk.2; have hb : base ≤ k := hb; omega)
  cs := h.cs.upd hu (fun k _ hk hb _ => by have := hk.2; omega)
  hi := Nat.le_trans h.hi hu.size
theorem Both.newB {base : Nat} {L : Loc} {S : Err → Addr} {w wr w2 : World} {v u : Value} {ls : List (List UInt8)} {cs : List Nat} {st : RS} (h : Both base L S w wr v u ls cs st) (hu : New wr w2) : Both base L S w w2 v u ls cs st :=
  ⟨h.rd.new hu, h.new.andNew hu, h.ls.new hu, h.cs.new hu, Nat.le_trans h.hi hu.size⟩
theorem Both.above {base : Nat} {L : Loc} {S : Err → Addr} {w w2 w3 : World} {st : RS} {M : Nat → Prop} (hrd : Rd S w2 L st) (hnew : New w w2) (hlo : w.heap.size ≤ L.lo) (hhi : L.hi ≤ base) (hu : Upd M w2 w3) (hM : ∀ k, M k → base ≤ k) : Rd S w3 L st ∧ New w w3 := by
  have := hrd.bhi; have := hrd.blo; have := hrd.lomid
  exact ⟨hrd.upd hu (fun k hk hin => by have := hM k hk; have := hin.2; omega), hnew.trans hu (fun k hk hlt => by have := hM k hk; omega)⟩
theorem Both.line {base : Nat} {L : Loc} {S : Err → Addr} {w w1 w2 w3 : World} {v u v' x : Value} {ls : List (List UInt8)} {cs : List Nat} {st : RS} {bs : List UInt8} {vs : List Value} (h : Both base L S w w1 v u ls cs st) (hlo : w.heap.size ≤ L.lo) (hhi : L.hi ≤ base) (h12 : New w1 w2)
    (hl : vs.length = ls.length) (ho1 : w1.ownsRow base 29 1 v ls.length vs) (hp : ∀ i, (h : i < ls.length) → ∃ u, vs[i]? = some u ∧ ElemB w1 (fun k => base ≤ k) u ls[i]) (hx : ElemB w1 (fun k => base ≤ k) x bs)
    (ho : w3.ownsRow base 29 1 v' (ls.length + 1) (vs ++ [x])) (hg : w2.grownBy w3 v.ownBlock) : Both base L S w w3 v' u (ls ++ [bs]) cs st := by
  obtain ⟨h1, h2⟩ := OwnL.grow hl ho1 hp hx h12 ho hg
  have hn := h.newB h12
  obtain ⟨q1, q2⟩ := Both.above hn.rd hn.new hlo hhi h2 (fun k hk => hk.1)
  exact ⟨q1, q2, h1, hn.cs.upd h2 (fun k cur hm _ hc => by obtain ⟨_, cur', h2⟩ := hm; rw [hc] at h2; simp at h2), Nat.le_trans hn.hi h2.size⟩
theorem Both.code {base : Nat} {L : Loc} {S : Err → Addr} {w w1 w2 w3 : World} {v u u' : Value} {ls : List (List UInt8)} {cs : List Nat} {st : RS} {x : Nat} (h : Both base L S w w1 v u ls cs st) (hlo : w.heap.size ≤ L.lo) (hhi : L.hi ≤ base) (h12 : New w1 w2)
    (ho : w3.ownsRow base 3 1 u' (cs.length + 1) ((cs.map fun (x : Nat) => Value.int .i64 (x : Int)) ++ [.int .i64 (x : Int)])) (hg : w2.grownBy w3 u.ownBlock) : Both base L S w w3 v u' ls (cs ++ [x]) st := by
  obtain ⟨h1, h2⟩ := OwnI.grow h.cs h12 ho hg
  have hn := h.newB h12
  obtain ⟨q1, q2⟩ := Both.above hn.rd hn.new hlo hhi h2 (fun k hk => hk.1)
  exact ⟨q1, q2, hn.ls.upd h2 (fun k cur hm _ hc => by obtain ⟨_, cur', h2⟩ := hm; rw [hc] at h2; simp at h2) (fun k cur hm _ hc => by obtain ⟨_, cur', h2⟩ := hm; rw [hc] at h2; simp at h2), h1, Nat.le_trans hn.hi h2.size⟩
/-- a new box of one cell, as a source of append -/
theorem box_news {w : World} {x : Value} {t : TypeId} : ∀ p, (some ⟨w.heap.size, 0, none⟩ : Option Addr) = some p → ∀ j u, [x][j]? = some u → (w.alloc (.cells #[x] t)).cell? (p.add j) = some u := fun p hp => by
  simp only [Option.some.injEq] at hp; subst hp
  exact World.news_of_block' (cs := #[x]) (t := t) (fr := (0, 0)) (heap_alloc_new w _)
def SlicesPost (w : World) (x : List (List UInt8) × List Nat) (v : Value) (w' : World) : Prop :=
  New w w' ∧ ∃ a b c e, v = .tuple #[.slice a x.1.length c, .slice b x.2.length e] ∧ PiecesA w' a c x.1 ∧ IntsA w' b e x.2
end Go.Proofs.YtmmjfpcmempeeaaDoor
/- Lists of plain values in rows of one's own, of any element type; beside a list of byte slices. -/
namespace Go.Proofs.YtmmjfpcmempeeaaDoor
open Go.RowKit
/-- plain values in a row of one's own -/
def OwnG {α : Type} (e : TypeId) (f : α → Value) (base : Nat) (w : World) (v : Value) (xs : List α) : Prop := w.ownsRow base e 1 v xs.length (xs.map f)
theorem OwnG.nil {α : Type} (e : TypeId) (f : α → Value) (base : Nat) (w : World) : OwnG e f base w (.slice none 0 0) [] := World.ownsRow_nil _ _ _ _
theorem OwnG.upd {α : Type} {e : TypeId} {f : α → Value} {M : Nat → Prop} {base : Nat} {w w1 : World} {v : Value} {xs : List α} (h : OwnG e f base w v xs) (u : Upd M w w1) (h1 : ∀ k cur, M k → base ≤ k → w.heap[k]? = some (.cells cur e (0, 0)) → False) : OwnG e f base w1 v xs := by
  refine ⟨h.1, ?_⟩
  rcases h.2 with h | ⟨g, cap, cur, hv, hb, hg, r⟩
  · exact .inl h
  · exact .inr ⟨g, cap, cur, hv, hb, u.heap hg (fun hh => h1 g cur hh hb hg), r⟩
theorem OwnG.new {α : Type} {e : TypeId} {f : α → Value} {base : Nat} {w w1 : World} {v : Value} {xs : List α} (h : OwnG e f base w v xs) (u : New w w1) : OwnG e f base w1 v xs := h.upd u (fun _ _ hh _ _ => hh)
/-- values that can be read -/
def ReadG {α : Type} (f : α → Value) (w : World) (a : Option Addr) (c : Nat) (xs : List α) : Prop :=
  xs.length ≤ c ∧ c ≤ maxLen ∧ (a = none → c = 0) ∧ ∀ p, a = some p → p.spot = none ∧ ∀ i, (h : i < xs.length) → w.cell? ⟨p.block, p.off + i, none⟩ = some (f xs[i])
theorem ReadG.new {α : Type} {f : α → Value} {w w1 : World} {a : Option Addr} {c : Nat} {xs : List α} (h : ReadG f w a c xs) (u : New w w1) : ReadG f w1 a c xs :=
  ⟨h.1, h.2.1, h.2.2.1, fun p hp => ⟨(h.2.2.2 p hp).1, fun i hi => u.cell ((h.2.2.2 p hp).2 i hi) (fun h => h)⟩⟩
theorem OwnG.read {α : Type} {e : TypeId} {f : α → Value} {base : Nat} {w : World} {v : Value} {xs : List α} (h : OwnG e f base w v xs) : ∃ a c, v = .slice a xs.length c ∧ ReadG f w a c xs := by
  rcases h.2 with ⟨rfl, hn⟩ | ⟨g, cap, cur, rfl, hb, hg, hn, hm, hs, ht⟩
  · exact ⟨none, 0, by rw [hn], by omega, Nat.zero_le _, fun _ => rfl, fun p hp => by cases hp⟩
  · refine ⟨_, cap, rfl, hn, hm, by simp, fun p hp' => ?_⟩
    simp only [Option.some.injEq] at hp'; subst hp'
    refine ⟨rfl, fun i hi => ?_⟩
    rw [World.cell_of_heap hg]
    have : (cur.toList.take (xs.length * 1))[i]? = (xs.map f)[i]? := by rw [ht]
    rw [List.getElem?_take_of_lt (by omega), List.getElem?_map, List.getElem?_eq_getElem hi] at this
    simpa using this
/-- the cell of one -/
theorem ReadG.at {α : Type} {f : α → Value} {w : World} {a : Option Addr} {c : Nat} {xs : List α} (h : ReadG f w a c xs) {k : Nat} (hk : k < xs.length) : ∃ b o, a = some ⟨b, o, none⟩ ∧ w.cell? ⟨b, o + k, none⟩ = some (f xs[k]) := by
  cases a with
  | none => have := h.1; have := h.2.2.1 rfl; omega
  | some p => obtain ⟨hs, hc⟩ := h.2.2.2 p rfl; obtain ⟨b, o, s⟩ := p; subst hs; exact ⟨b, o, rfl, hc k hk⟩
theorem OwnG.grow {α : Type} {e : TypeId} {f : α → Value} {base : Nat} {w w3 : World} {pv pv' : Value} {xs : List α} {x : α} (h : OwnG e f base w pv xs) {w2 : World} (h12 : New w w2)
    (ho : w3.ownsRow base e 1 pv' (xs.length + 1) (xs.map f ++ [f x])) (hg : w2.grownBy w3 pv.ownBlock) : OwnG e f base w3 pv' (xs ++ [x]) ∧ Upd (fun k => base ≤ k ∧ ∃ cur, w2.heap[k]? = some (.cells cur e (0, 0))) w2 w3 := by
  refine ⟨?_, (Upd.refl _ _).grown hg (fun k hk _ => ?_)⟩
  · unfold OwnG; simpa using ho
  · obtain ⟨h1, cur, h2⟩ := ownsRow_block h hk
    exact ⟨h1, cur, h12.heap h2 (fun h => h)⟩
/-- a list of byte slices and a list of plain values, beside a reader -/
structure BothG {α : Type} (e : TypeId) (f : α → Value) (base : Nat) (L : Loc) (S : Err → Addr) (w wr : World) (v u : Value) (ls : List (List UInt8)) (cs : List α) (st : RS) : Prop where
  rd : Rd S wr L st
  new : New w wr
  ls : OwnL base (fun k => base ≤ k) wr v ls
  cs : OwnG e f base wr u cs
  hi : base ≤ wr.heap.size
theorem BothG.reader {α : Type} {e : TypeId} {f : α → Value} {base : Nat} {L : Loc} {S : Err → Addr} {w wr w2 : World} {v u : Value} {ls : List (List UInt8)} {cs : List α} {st st2 : RS} (h : BothG e f base L S w wr v u ls cs st) (hlo : w.heap.size ≤ L.lo) (hhi : L.hi ≤ base) (h2 : Rd S w2 L st2) (hu : Upd (In L) wr w2) : BothG e f base L S w w2 v u ls cs st2 where
  rd := h2
  new := Upd.inNew h.new hu hlo
  ls := h.ls.upd hu (fun k _ hk hb _ => by have := hk.2; omega) (fun k _ hk hb _ => by have := hk.2; have hb : base ≤ k := hb; omega)
  cs := h.cs.upd hu (fun k _ hk hb _ => by have := hk.2; omega)
  hi := Nat.le_trans h.hi hu.size
theorem BothG.newB {α : Type} {e : TypeId} {f : α → Value} {base : Nat} {L : Loc} {S : Err → Addr} {w wr w2 : World} {v u : Value} {ls : List (List UInt8)} {cs : List α} {st : RS} (h : BothG e f base L S w wr v u ls cs st) (hu : New wr w2) : BothG e f base L S w w2 v u ls cs st :=
  ⟨h.rd.new hu, h.new.andNew hu, h.ls.new hu, h.cs.new hu, Nat.le_trans h.hi hu.size⟩
theorem BothG.line {α : Type} {e : TypeId} {f : α → Value} (he : e ≠ 29) {base : Nat} {L : Loc} {S : Err → Addr} {w w1 w2 w3 : World} {v u v' x : Value} {ls : List (List UInt8)} {cs : List α} {st : RS} {bs : List UInt8} {vs : List Value} (h : BothG e f base L S w w1 v u ls cs st) (hlo : w.heap.size ≤ L.lo) (hhi : L.hi ≤ base) (h12 : New w1 w2)
    (hl : vs.length = ls.length) (ho1 : w1.ownsRow base 29 1 v ls.length vs) (hp : ∀ i, (h : i < ls.length) → ∃ u, vs[i]? = some u ∧ ElemB w1 (fun k => base ≤ k) u ls[i]) (hx : ElemB w1 (fun k => base ≤ k) x bs)
    (ho : w3.ownsRow base 29 1 v' (ls.length + 1) (vs ++ [x])) (hg : w2.grownBy w3 v.ownBlock) : BothG e f base L S w w3 v' u (ls ++ [bs]) cs st := by
  obtain ⟨h1, h2⟩ := OwnL.grow hl ho1 hp hx h12 ho hg
  have hn := h.newB h12
  obtain ⟨q1, q2⟩ := Both.above hn.rd hn.new hlo hhi h2 (fun k hk => hk.1)
  exact ⟨q1, q2, h1, hn.cs.upd h2 (fun k cur hm _ hc => by obtain ⟨_, cur', h2⟩ := hm; rw [hc] at h2; simp at h2; exact he h2.2), Nat.le_trans hn.hi h2.size⟩
theorem BothG.code {α : Type} {e : TypeId} {f : α → Value} (he : e ≠ 29) (he2 : e ≠ 5) {base : Nat} {L : Loc} {S : Err → Addr} {w w1 w2 w3 : World} {v u u' : Value} {ls : List (List UInt8)} {cs : List α} {st : RS} {x : α} (h : BothG e f base L S w w1 v u ls cs st) (hlo : w.heap.size ≤ L.lo) (hhi : L.hi ≤ base) (h12 : New w1 w2)
    (ho : w3.ownsRow base e 1 u' (cs.length + 1) (cs.map f ++ [f x])) (hg : w2.grownBy w3 u.ownBlock) : BothG e f base L S w w3 v u' ls (cs ++ [x]) st := by
  obtain ⟨h1, h2⟩ := OwnG.grow h.cs h12 ho hg
  have hn := h.newB h12
  obtain ⟨q1, q2⟩ := Both.above hn.rd hn.new hlo hhi h2 (fun k hk => hk.1)
  exact ⟨q1, q2, hn.ls.upd h2 (fun k cur hm _ hc => by obtain ⟨_, cur', h2⟩ := hm; rw [hc] at h2; simp at h2; exact he h2.2.symm) (fun k cur hm _ hc => by obtain ⟨_, cur', h2⟩ := hm; rw [hc] at h2; simp at h2; exact he2 h2.2.symm), h1, Nat.le_trans hn.hi h2.size⟩
/-- two lists of plain values, beside a reader -/
structure TwoG {α β : Type} (e : TypeId) (f : α → Value) (e' : TypeId) (f' : β → Value) (base : Nat) (L : Loc) (S : Err → Addr) (w wr : World) (v u : Value) (ls : List α) (cs : List β) (st : RS) : Prop where
  rd : Rd S wr L st
  new : New w wr
  ls : OwnG e f base wr v ls
  cs : OwnG e' f' base wr u cs
  hi : base ≤ wr.heap.size
theorem TwoG.reader {α β : Type} {e : TypeId} {f : α → Value} {e' : TypeId} {f' : β → Value} {base : Nat} {L : Loc} {S : Err → Addr} {w wr w2 : World} {v u : Value} {ls : List α} {cs : List β} {st st2 : RS} (h : TwoG e f e' f' base L S w wr v u ls cs st) (hlo : w.heap.size ≤ L.lo) (hhi : L.hi ≤ base) (h2 : Rd S w2 L st2) (hu : Upd (In L) wr w2) : TwoG e f e' f' base L S w w2 v u ls cs st2 where
  rd := h2
  new := Upd.inNew h.new hu hlo
  ls := h.ls.upd hu (fun k _ hk hb _ => by have := hk.2; omega)
  cs := h.cs.upd hu (fun k _ hk hb _ => by have := hk.2; omega)
  hi := Nat.le_trans h.hi hu.size
theorem TwoG.newB {α β : Type} {e : TypeId} {f : α → Value} {e' : TypeId} {f' : β → Value} {base : Nat} {L : Loc} {S : Err → Addr} {w wr w2 : World} {v u : Value} {ls : List α} {cs : List β} {st : RS} (h : TwoG e f e' f' base L S w wr v u ls cs st) (hu : New wr w2) : TwoG e f e' f' base L S w w2 v u ls cs st :=
  ⟨h.rd.new hu, h.new.andNew hu, h.ls.new hu, h.cs.new hu, Nat.le_trans h.hi hu.size⟩
theorem TwoG.one {α β : Type} {e : TypeId} {f : α → Value} {e' : TypeId} {f' : β → Value} (he : e ≠ e') {base : Nat} {L : Loc} {S : Err → Addr} {w w1 w2 w3 : World} {v u v' : Value} {ls : List α} {cs : List β} {st : RS} {x : α} (h : TwoG e f e' f' base L S w w1 v u ls cs st) (hlo : w.heap.size ≤ L.lo) (hhi : L.hi ≤ base) (h12 : New w1 w2)
    (ho : w3.ownsRow base e 1 v' (ls.length + 1) (ls.map f ++ [f x])) (hg : w2.grownBy w3 v.ownBlock) : TwoG e f e' f' base L S w w3 v' u (ls ++ [x]) cs st := by
  obtain ⟨h1, h2⟩ := OwnG.grow h.ls h12 ho hg
  have hn := h.newB h12
  obtain ⟨q1, q2⟩ := Both.above hn.rd hn.new hlo hhi h2 (fun k hk => hk.1)
  exact ⟨q1, q2, h1, hn.cs.upd h2 (fun k cur hm _ hc => by obtain ⟨_, cur', h2⟩ := hm; rw [hc] at h2; simp at h2; exact he h2.2.symm), Nat.le_trans hn.hi h2.size⟩
theorem TwoG.two {α β : Type} {e : TypeId} {f : α → Value} {e' : TypeId} {f' : β → Value} (he : e ≠ e') {base : Nat} {L : Loc} {S : Err → Addr} {w w1 w2 w3 : World} {v u u' : Value} {ls : List α} {cs : List β} {st : RS} {x : β} (h : TwoG e f e' f' base L S w w1 v u ls cs st) (hlo : w.heap.size ≤ L.lo) (hhi : L.hi ≤ base) (h12 : New w1 w2)
    (ho : w3.ownsRow base e' 1 u' (cs.length + 1) (cs.map f' ++ [f' x])) (hg : w2.grownBy w3 u.ownBlock) : TwoG e f e' f' base L S w w3 v u' ls (cs ++ [x]) st := by
  obtain ⟨h1, h2⟩ := OwnG.grow h.cs h12 ho hg
  have hn := h.newB h12
  obtain ⟨q1, q2⟩ := Both.above hn.rd hn.new hlo hhi h2 (fun k hk => hk.1)
  exact ⟨q1, q2, hn.ls.upd h2 (fun k cur hm _ hc => by obtain ⟨_, cur', h2⟩ := hm; rw [hc] at h2; simp at h2; exact he h2.2), h1, Nat.le_trans hn.hi h2.size⟩
def fBool : Bool → Value := fun b => .bool b
def fI64 : Nat → Value := fun n => .int .i64 (n : Int)
def fI32 : Nat → Value := fun n => .int .i32 (n : Int)
end Go.Proofs.YtmmjfpcmempeeaaDoor
