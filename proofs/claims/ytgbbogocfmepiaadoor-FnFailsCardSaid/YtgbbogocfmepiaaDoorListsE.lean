/- Lists of byte slices in rows of one's own (as in XLists, where no reader of bufio is); ends. -/
import Derived.Test.YtgbbogocfmepiaaDoorSrcRead
namespace Go.Proofs.YtgbbogocfmepiaaDoor
open Go.RowKit
theorem splice_zero (L cs : List Value) : splice L 0 cs = cs ++ L.drop cs.length := by simp [splice]
theorem nones_srcLeft (k : Nat) (p0 : List UInt8) (rest : List (List UInt8)) (hk : k ≤ p0.length) : nones (srcLeft k (p0 :: rest)) ≤ nones (p0 :: rest) := by
  simp only [srcLeft]
  split
  · unfold nones; rw [List.filter_cons]; split <;> simp
  · rename_i hne
    have h1 : (p0.drop k).isEmpty = false := by
      cases hd : p0.drop k with
      | nil => have := congrArg List.length hd; simp at this; omega
      | cons a l => rfl
    have h2 : p0.isEmpty = false := by
      cases p0 with
      | nil => simp at hk; subst hk; simp at hne
      | cons a l => rfl
    unfold nones
    simp [h1, h2]
/-- a box's cells, behind what made new blocks alone -/
theorem box_new {w w1 : World} {cs : Array Value} {t : TypeId} (h : New (w.alloc (.cells cs t)) w1) {i : Nat} {v : Value} (hv : cs[i]? = some v) : w1.cell? ⟨w.heap.size, i, none⟩ = some v := by
  rw [World.cell_of_heap (h.heap (heap_alloc_new w _) (fun hh => hh))]; exact hv
theorem spokenB_spec {ps : List (List UInt8)} {size : Int} (h : spokenB ps size = true) : ps.length ≤ 500 ∧ ps.flatten.length ≤ 20000 ∧ nones ps ≤ 50 ∧ ∃ sz : Nat, size = (sz : Int) ∧ sz ≤ 5000 := by
  unfold spokenB srcOk at h
  simp only [Bool.and_eq_true, decide_eq_true_eq] at h
  rw [lensum_flatten]
  exact ⟨h.1.1.1, h.1.1.2.1.1, h.1.1.2.2, size.toNat, by omega, by omega⟩
def endc (f : Bool) : Nat := if f then 2 else 1
theorem ecode_end (f : Bool) : ecode (some (endErr f)) = endc f := by cases f <;> rfl
theorem endV (S : Err → Addr) (f : Bool) : ∃ et ev, eV S (some (endErr f)) = .iface et ev := by cases f <;> exact ⟨_, _, rfl⟩
/-- the end's code told -/
theorem codeEnd {S : Err → Addr} {B : Nat} (f : Bool) {et : TypeId} {ev : Value} (hev : eV S (some (endErr f)) = .iface et ev) (w : World) (E : Env S B w) :
    Calls Tryd.prog 38 #[.iface et ev] w (Ret fun v w' => w = w' ∧ v = .int .i64 (endc f : Int)) := by
  have := codeOf (some (endErr f)) w E
  rw [hev, ecode_end] at this
  exact this
/-- a slice of bytes, in a block of which P is said -/
def ElemB (w : World) (P : Nat → Prop) (v : Value) (bs : List UInt8) : Prop :=
  ∃ a c, v = .slice a bs.length c ∧ BytesA w a c bs ∧ ∀ p, a = some p → bs ≠ [] → P p.block ∧ ∃ cur, w.heap[p.block]? = some (.cells cur 5 (0, 0))
theorem ElemB.upd {M P : Nat → Prop} {w w1 : World} {v : Value} {bs : List UInt8} (h : ElemB w P v bs) (u : Upd M w w1) (hm : ∀ k cur, M k → P k → w.heap[k]? = some (.cells cur 5 (0, 0)) → False) : ElemB w1 P v bs := by
  obtain ⟨a, c, rfl, hb, hp⟩ := h
  refine ⟨a, c, rfl, hb.upd u (fun p hq hn hh => ?_), fun p hq hn => ?_⟩
  · obtain ⟨h1, cur, h2⟩ := hp p hq hn
    exact hm _ cur hh h1 h2
  · obtain ⟨h1, cur, h2⟩ := hp p hq hn
    exact ⟨h1, cur, u.heap h2 (fun hh => hm _ cur hh h1 h2)⟩
theorem ElemB.mono {P P' : Nat → Prop} {w : World} {v : Value} {bs : List UInt8} (h : ElemB w P v bs) (hp : ∀ k, P k → P' k) : ElemB w P' v bs := by
  obtain ⟨a, c, rfl, hb, hq⟩ := h
  exact ⟨a, c, rfl, hb, fun p h1 h2 => ⟨hp _ (hq p h1 h2).1, (hq p h1 h2).2⟩⟩
theorem NewB.elem {w w1 : World} {v : Value} {bs : List UInt8} {lo : Nat} (h : NewB w w1 v bs) (hlo : lo ≤ w.heap.size) : ElemB w1 (fun k => lo ≤ k) v bs := by
  obtain ⟨_, g, c, rfl, ho⟩ := h
  have hb := (BytesA.owned ho).2
  refine ⟨_, c, rfl, hb, fun p hp _ => ?_⟩
  simp only [Option.some.injEq] at hp
  subst hp
  have hl := ho.lt g rfl
  refine ⟨by show lo ≤ g; omega, ?_⟩
  rcases ho.2 with ⟨hv, _⟩ | ⟨g', cap, cur, hv, _, hg, _⟩
  · simp at hv
  · simp only [Value.slice.injEq, Option.some.injEq, Addr.mk.injEq, and_true, true_and] at hv
    obtain ⟨rfl, rfl⟩ := hv
    exact ⟨cur, hg⟩
def OwnL (base : Nat) (P : Nat → Prop) (w : World) (v : Value) (ls : List (List UInt8)) : Prop :=
  ∃ vs : List Value, vs.length = ls.length ∧ w.ownsRow base 29 1 v ls.length vs ∧ ∀ i, (h : i < ls.length) → ∃ u, vs[i]? = some u ∧ ElemB w P u ls[i]
/-- rows of other types lie in other blocks -/
theorem ownsRow_apart {w : World} {b b' e e' s s' n n' : Nat} {v v' : Value} {xs xs' : List Value} (h : w.ownsRow b e s v n xs) (h' : w.ownsRow b' e' s' v' n' xs') (he : e ≠ e') : ∀ k, v.ownBlock = some k → v'.ownBlock = some k → False := by
  intro k hk hk'
  rcases h.2 with ⟨rfl, _⟩ | ⟨g, cap, cur, rfl, _, hg, _⟩
  · simp [Value.ownBlock] at hk
  · rcases h'.2 with ⟨rfl, _⟩ | ⟨g', cap', cur', rfl, _, hg', _⟩
    · simp [Value.ownBlock] at hk'
    · simp only [Value.ownBlock, Option.some.injEq] at hk hk'
      subst hk; subst hk'
      rw [hg] at hg'
      simp at hg'
      exact he hg'.2
/-- a row's block holds cells of its type -/
theorem ownsRow_block {w : World} {b e s n : Nat} {v : Value} {xs : List Value} (h : w.ownsRow b e s v n xs) {k : Nat} (hk : v.ownBlock = some k) : b ≤ k ∧ ∃ cur, w.heap[k]? = some (.cells cur e (0, 0)) := by
  rcases h.2 with ⟨rfl, _⟩ | ⟨g, cap, cur, rfl, hb, hg, _⟩
  · simp [Value.ownBlock] at hk
  · simp only [Value.ownBlock, Option.some.injEq] at hk
    subst hk
    exact ⟨hb, cur, hg⟩
theorem OwnL.upd {M P : Nat → Prop} {base : Nat} {w w1 : World} {v : Value} {ls : List (List UInt8)} (h : OwnL base P w v ls) (u : Upd M w w1) (h1 : ∀ k cur, M k → base ≤ k → w.heap[k]? = some (.cells cur 29 (0, 0)) → False) (h2 : ∀ k cur, M k → P k → w.heap[k]? = some (.cells cur 5 (0, 0)) → False) : OwnL base P w1 v ls := by
  obtain ⟨vs, hl, ho, hp⟩ := h
  refine ⟨vs, hl, ⟨ho.1, ?_⟩, fun i hi => ?_⟩
  · rcases ho.2 with h | ⟨g, cap, cur, hv, hb, hg, r⟩
    · exact .inl h
    · exact .inr ⟨g, cap, cur, hv, hb, u.heap hg (fun hh => h1 g cur hh hb hg), r⟩
  · obtain ⟨x, hx, q⟩ := hp i hi
    exact ⟨x, hx, q.upd u h2⟩
theorem OwnL.new {P : Nat → Prop} {base : Nat} {w w1 : World} {v : Value} {ls : List (List UInt8)} (h : OwnL base P w v ls) (u : New w w1) : OwnL base P w1 v ls := h.upd u (fun _ _ hh _ _ => hh) (fun _ _ hh _ _ => hh)
theorem OwnL.nil (base : Nat) (P : Nat → Prop) (w : World) : OwnL base P w (.slice none 0 0) [] := ⟨[], rfl, World.ownsRow_nil _ _ _ _, fun i hi => by simp at hi⟩
/-- one more -/
theorem OwnL.grow {P : Nat → Prop} {base : Nat} {w w2 w3 : World} {pv pv' v : Value} {ls : List (List UInt8)} {bs : List UInt8} {vs : List Value} (hl : vs.length = ls.length) (ho1 : w.ownsRow base 29 1 pv ls.length vs) (hp : ∀ i, (h : i < ls.length) → ∃ u, vs[i]? = some u ∧ ElemB w P u ls[i]) (hv : ElemB w P v bs) (h12 : New w w2)
    (ho : w3.ownsRow base 29 1 pv' (ls.length + 1) (vs ++ [v])) (hg : w2.grownBy w3 pv.ownBlock) : OwnL base P w3 pv' (ls ++ [bs]) ∧ Upd (fun k => base ≤ k ∧ ∃ cur, w2.heap[k]? = some (.cells cur 29 (0, 0))) w2 w3 := by
  have hb : ∀ k, pv.ownBlock = some k → base ≤ k ∧ ∃ cur, w2.heap[k]? = some (.cells cur 29 (0, 0)) := fun k hk => by
    obtain ⟨h1, cur, h2⟩ := ownsRow_block ho1 hk
    exact ⟨h1, cur, h12.heap h2 (fun h => h)⟩
  have upd : Upd (fun k => base ≤ k ∧ ∃ cur, w2.heap[k]? = some (.cells cur 29 (0, 0))) w2 w3 := (Upd.refl _ _).grown hg (fun k hk _ => hb k hk)
  have hel : ∀ u x, ElemB w P u x → ElemB w3 P u x := fun u x hx => (hx.upd h12 (fun _ _ hh _ _ => hh)).upd upd (fun k cur hm _ hc => by
    obtain ⟨_, cur', h2⟩ := hm
    rw [hc] at h2
    simp at h2)
  refine ⟨⟨vs ++ [v], by simp [hl], by simpa using ho, fun i hi => ?_⟩, upd⟩
  by_cases hlast : i < ls.length
  · obtain ⟨u, hu1, hpc⟩ := hp i hlast
    refine ⟨u, by rw [List.getElem?_append_left (by omega)]; exact hu1, ?_⟩
    rw [List.getElem_append_left hlast]
    exact hel _ _ hpc
  · have hi' : i = ls.length := by simp at hi; omega
    subst hi'
    refine ⟨v, by rw [List.getElem?_append_right (by omega)]; simp [hl], ?_⟩
    have e : (ls ++ [bs])[ls.length] = bs := by simp
    rw [e]
    exact hel _ _ hv
/-- as slices of bytes that can be read -/
theorem OwnL.pieces {P : Nat → Prop} {base : Nat} {w : World} {v : Value} {ls : List (List UInt8)} (h : OwnL base P w v ls) : ∃ a c, v = .slice a ls.length c ∧ PiecesA w a c ls := by
  obtain ⟨vs, hl, ho, hp⟩ := h
  rcases ho.2 with ⟨rfl, hn⟩ | ⟨g, cap, cur, rfl, hb, hg, hn, hm, hs, ht⟩
  · exact ⟨none, 0, by rw [hn], by omega, Nat.zero_le _, fun _ => rfl, fun p hp => by cases hp⟩
  · refine ⟨_, cap, rfl, hn, hm, by simp, fun p hp' => ?_⟩
    simp only [Option.some.injEq] at hp'; subst hp'
    refine ⟨fun _ => rfl, fun i hi => ?_⟩
    obtain ⟨u, hu, ai, ci, rfl, hby, _⟩ := hp i hi
    refine ⟨ai, ci, ?_, hby⟩
    rw [World.cell_of_heap hg]
    rw [← ht, List.getElem?_take_of_lt (by omega)] at hu
    simpa using hu
end Go.Proofs.YtgbbogocfmepiaaDoor
