/- What came in, opened: a source; the sentinels that a row lists. -/
import Derived.Test.YtgbbogocfmepiaaDoorGlob
import Derived.Test.YtgbbogocfmepiaaDoorArg
import Derived.Test.YtgbbogocfmepiaaDoorOpen
import Derived.Test.YtgbbogocfmepiaaDoorRows
import Derived.Lib.SmallJoins
import Derived.Deep.Slices
import Derived.LaidLaws
import Derived.MakeChecks
import Derived.Carry
import Derived.ChangeOld
namespace Go.Proofs.YtgbbogocfmepiaaDoor
open Go.ChangeShapes Go.WideShapes Go.ChangeAt Go.RowKit
theorem spot_of_cell {w : World} {x : Addr} {v : Value} (h : w.cell? x = some v) : x.spot = none := by
  unfold World.cell? at h
  split at h
  · split at h
    · cases h
    · rename_i hs; simpa using hs
  · cases h
theorem add_of_spot {x : Addr} (h : x.spot = none) (i : Nat) : x.add i = ⟨x.block, x.off + i, none⟩ := by
  obtain ⟨xb, xo, xs⟩ := x
  subst h
  exact addr_add _ _ _
section
variable {P : Program} {W : World} {H : Type} {enc : TypeId × Value → H}
/-- a slice of bytes, as a cell holds it -/
theorem open_bytes1 {t e b fuel : Nat} {hd : Bool} {v : Value} {y : DataW H × List MemPlace} (ht : P.underlying t = some (.slice e)) (he : P.underlying e = some (.int .u8)) (hc : P.cellsOf e = 1)
    (hf : DataW.trod enc P W b (fun _ => true) hd fuel t [v] = some y) : ∃ bs, BytesAt W v bs := by
  rcases open_ints ht he hc hf with ⟨hcs, _⟩ | ⟨x, l, c, zs, hcs, _, hl, hm, hz, _, hcell, hwz⟩
  · simp only [List.cons.injEq, and_true] at hcs
    subst hcs
    exact ⟨[], none, 0, rfl, Nat.le_refl _, Nat.zero_le _, fun _ => rfl, fun p hp => by cases hp⟩
  · simp only [List.cons.injEq, and_true] at hcs
    subst hcs
    have hzl : zs.length = c := by simpa using hz
    have hlen : ((zs.take l).map fun n => UInt8.ofNat n.toNat).length = l := by simp; omega
    refine ⟨(zs.take l).map fun n => UInt8.ofNat n.toNat, some x, c, by rw [hlen], by omega, hm, by simp, fun q hq => ?_⟩
    simp only [Option.some.injEq] at hq
    subst hq
    have hsp : l ≠ 0 → x.spot = none := fun h0 => spot_of_cell (hcell 0 (by omega))
    refine ⟨fun hn => hsp (by intro h0; apply hn; apply List.eq_nil_of_length_eq_zero; rw [hlen, h0]), fun i hi => ?_⟩
    rw [hlen] at hi
    have := hcell i (by omega)
    rw [add_of_spot (hsp (by omega)) i] at this
    rw [this]
    have hi' : i < zs.length := by omega
    simp only [List.getElem_map, List.getElem_take, bv, Option.some.injEq, Value.int.injEq, true_and]
    have hw := hwz zs[i] (List.getElem_mem hi')
    rw [List.getD_eq_getElem?_getD, List.getElem?_eq_getElem hi', Option.getD_some]
    exact u8_of_wf hw
/-- slices of bytes -/
theorem open_pieces {t t1 e b fuel : Nat} {hd : Bool} {v : Value} {y : DataW H × List MemPlace} (ht : P.underlying t = some (.slice t1)) (hc1 : P.cellsOf t1 = 1) (ht1 : P.underlying t1 = some (.slice e)) (he : P.underlying e = some (.int .u8)) (hc : P.cellsOf e = 1)
    (hf : DataW.trod enc P W b (fun _ => true) hd fuel t [v] = some y) : ∃ a c ps, v = .slice a (List.length (α := List UInt8) ps) c ∧ PiecesA W a c ps := by
  rcases Deep.open_slice1 ht hc1 hf with ⟨hcs, _⟩ | ⟨a, len, cap, m, n, V, D, Pl, hcs, _, hl, hm, hmm, _, hx⟩
  · simp only [List.cons.injEq, and_true] at hcs
    subst hcs
    exact ⟨none, 0, [], rfl, Nat.le_refl _, Nat.zero_le _, fun _ => rfl, fun p hp => by cases hp⟩
  · simp only [List.cons.injEq, and_true] at hcs
    subst hcs
    have hmc : m = cap := by simpa using hmm
    subst hmc
    have hb : ∀ i, ∃ bs, i < m → BytesAt W (V i) bs := fun i => by
      by_cases hi : i < m
      · obtain ⟨bs, hbs⟩ := open_bytes1 ht1 he hc (hx i hi).2
        exact ⟨bs, fun _ => hbs⟩
      · exact ⟨[], fun hh => absurd hh hi⟩
    obtain ⟨B, hB⟩ := Classical.axiomOfChoice hb
    refine ⟨some a, m, (List.range len).map B, by simp, by simpa using hl, hm, by simp, fun p hp => ?_⟩
    simp only [Option.some.injEq] at hp
    subst hp
    refine ⟨fun hn => ?_, fun i hi => ?_⟩
    · have h0 : 0 < len := by
        rcases Nat.eq_zero_or_pos len with h | h
        · subst h; simp at hn
        · exact h
      exact spot_of_cell (hx 0 (by omega)).1
    · have hi' : i < len := by simpa using hi
      obtain ⟨ai, ci, hv, hby⟩ := hB i (by omega)
      have hcell := (hx i (by omega)).1
      rw [add_of_spot (spot_of_cell (w := W) (x := a) (hx 0 (by omega)).1) i, hv] at hcell
      simp only [List.getElem_map, List.getElem_range]
      exact ⟨ai, ci, hcell, hby⟩
end
set_option maxRecDepth 100000 in
/-- a source that came in -/
theorem open_source {W : World} {H : Type} {enc : TypeId × Value → H} {base b : Nat} {hd : Bool} {v : Value} {d : DataW H} {p : List MemPlace} (hval : Value.okWide Tryd.prog W .any base 24 v) (h : DataW.Trod enc Tryd.prog W b (fun _ => true) hd 24 v d p) :
    ∃ a c ps f, v = .agg #[.slice a (List.length (α := List UInt8) ps) c, .bool f] ∧ PiecesA W a c ps := by
  obtain ⟨v0, v1, y0, y1, n, rfl, _, _, h0, h1⟩ := Joins.open_agg2 Tryd.underlying24 (by kernel_rfl) (by kernel_rfl) hval h
  obtain ⟨a, c, ps, rfl, hp⟩ := open_pieces Tryd.underlying22 (by kernel_rfl) Tryd.underlying29 Tryd.underlying5 (by kernel_rfl) h0
  obtain ⟨f, hf, _⟩ := DataW.trod_bool Tryd.underlying4 h1
  simp only [List.cons.injEq, and_true] at hf
  subst hf
  exact ⟨a, c, ps, f, rfl, hp⟩
/-! ### the sentinels -/
/-- an error of errors.New's make, as a row lists it -/
def errD (text : List UInt8) : DataW Unit := .iface "*errors.errorString" (.ptr (.agg [.lit (.string text)]))
theorem esStar : "*" ++ "errors.errorString" = "*errors.errorString" := by decide
theorem esRow (u : TypeId) (h : Tryd.prog.typeName? 3 u = some "*errors.errorString") : u = 134 :=
  typeName_ptr_named (nm := "errors.errorString") (by rw [esStar]; kernel_rfl) (by kernel_rfl) (by decide) u (by rw [esStar]; exact h)
theorem esCells : Tryd.prog.cellsOf 150 = 1 := by kernel_rfl
theorem strCells : Tryd.prog.cellsOf 9 = 1 := by kernel_rfl
/-- what a listed sentinel gives -/
def SentAt (W : World) (g : Nat) (text : List UInt8) (a : Addr) : Prop :=
  W.cell? ⟨g, 0, none⟩ = some (.iface 134 (.pointer (some a))) ∧ (∃ s : ByteArray, W.cell? a = some (.string s) ∧ s.data.toList = text) ∧ ∃ ca ta, W.heap[a.block]? = some (.cells ca ta (0, 0))
set_option maxRecDepth 100000 in
theorem laid_at {W : World} : ∀ {l : List (String × DataW Unit)} {ps : List MemPlace}, DataW.LaidVars Tryd.prog W l ps →
    (∀ b off, MemPlace.cell b off ∈ ps → (∃ c t, W.heap[b]? = some (.cells c t (0, 0))) ∧ ∀ u v, W.cell? ⟨b, off, none⟩ = some (.iface u v) → Value.okWide Tryd.prog W .any 0 u v) →
    ∀ n text, (n, errD text) ∈ l → ∀ g, Tryd.prog.globalNamed n = some g → (Tryd.prog.globals[g]?).map (·.type) = some 77 → ∃ a, SentAt W g text a
  | [], _, _, _, _, _, hm, _, _, _ => by cases hm
  | (m, d) :: l, ps, ⟨g0, t0, cs0, f0, p0, q0, hg0, ht0, hv0, hd0, hrest, e0⟩, hr, n, text, hm, g, hg, ht => by
    subst e0
    rcases List.mem_cons.1 hm with hm | hm
    · obtain ⟨rfl, rfl⟩ := Prod.mk.inj hm
      obtain rfl := Option.some.inj (hg.symm.trans hg0)
      obtain rfl := Option.some.inj (ht.symm.trans ht0)
      obtain ⟨l0⟩ := cs0
      have hcl : ∀ j : Nat, W.cell? ⟨g, j, none⟩ = l0[j]? := fun j => by simpa using World.var?_cell hg0 hv0 j
      have ok0 : ∀ u v, l0 = [.iface u v] → Value.okWide Tryd.prog W .any 0 u v := fun u v e => by
        subst e
        exact (hr g 0 (by simp [MemPlace.row])).2 u v (by rw [hcl]; rfl)
      obtain ⟨a, s, rfl, hc, hs, hz, rfl⟩ := errorString_of_trod Tryd.underlying77 esRow Tryd.underlying134 Tryd.underlying150 rfl rfl Tryd.underlying9 esCells strCells hd0 ok0
      exact ⟨a, by rw [hcl]; rfl, ⟨s, hc, hs⟩, (hr a.block a.off (by simp [MemPlace.row])).1⟩
    · exact laid_at hrest (fun b off h => hr b off (by simp [h])) n text hm g hg ht
def Err.name : Err → String
  | .eof => "io.EOF"
  | .full => "loop.example/pub-g03135/pub/gobufio.ErrBufferFull"
  | .neg => "loop.example/pub-g03135/pub/gobufio.ErrNegativeCount"
  | .nobyte => "loop.example/pub-g03135/pub/gobufio.ErrInvalidUnreadByte"
  | .norune => "loop.example/pub-g03135/pub/gobufio.ErrInvalidUnreadRune"
  | .noprog => "io.ErrNoProgress"
  | .long => "loop.example/pub-g03135/pub/gobufio.ErrTooLong"
  | .fault => ""
def Err.text : Err → List UInt8
  | .eof => [69, 79, 70]
  | .full => "bufio: buffer full".toUTF8.data.toList
  | .neg => "bufio: negative count".toUTF8.data.toList
  | .nobyte => "bufio: invalid use of UnreadByte".toUTF8.data.toList
  | .norune => "bufio: invalid use of UnreadRune".toUTF8.data.toList
  | .noprog => "multiple Read calls return no data or error".toUTF8.data.toList
  | .long => "bufio.Scanner: token too long".toUTF8.data.toList
  | .fault => []
theorem text_inj (e e' : Err) (h : e.text = e'.text) : e = e' := by
  cases e <;> cases e' <;> first | rfl | (exact absurd h (by decide +kernel))
theorem name_g (e : Err) (he : e ≠ .fault) : Tryd.prog.globalNamed e.name = some e.g := by
  cases e <;> first | exact absurd rfl he | kernel_rfl
theorem name_t (e : Err) (he : e ≠ .fault) : (Tryd.prog.globals[e.g]?).map (·.type) = some 77 := by
  cases e <;> first | exact absurd rfl he | kernel_rfl
/-- WHAT A ROW's LIST GIVES -/
theorem env_of_laid {W : World} {l : List (String × DataW Unit)} (hp : (l.all fun x => x.2.handleName?.isNone) = true) (hin : ∀ e : Err, e ≠ .fault → (e.name, errD e.text) ∈ l) (h : laidMetH Tryd.prog l W) : ∃ S, Env S W.heap.size W := by
  rw [MakeChecks.laidMetH_plain _ _ _ hp] at h
  obtain ⟨ps, hv, hn, hr⟩ := h
  have H : ∀ e : Err, ∃ a, e ≠ .fault → SentAt W e.g e.text a := fun e => by
    by_cases he : e = .fault
    · exact ⟨default, fun hh => absurd he hh⟩
    · obtain ⟨a, ha⟩ := laid_at hv hr e.name e.text (hin e he) e.g (name_g e he) (name_t e he)
      exact ⟨a, fun _ => ha⟩
  obtain ⟨S, hS⟩ := Classical.axiomOfChoice H
  refine ⟨S, Nat.le_refl _, fun e he => ?_, fun e he => ?_, fun e e' he he' hs => ?_⟩
  · have hc := (hS e he).1
    refine ⟨World.block_lt_of_cell? W _ hc, ?_⟩
    rw [hc]
    cases e <;> first | exact absurd rfl he | rfl
  · obtain ⟨ca, ta, hb⟩ := (hS e he).2.2
    refine ⟨?_, ca, ta, hb⟩
    exact (Array.getElem?_eq_some_iff.1 hb).1
  · obtain ⟨s, hc, ht⟩ := (hS e he).2.1
    obtain ⟨s', hc', ht'⟩ := (hS e' he').2.1
    rw [hs, hc'] at hc
    have : s' = s := by simpa using hc
    subst this
    exact text_inj e e' (ht.symm.trans ht')
/-! ### variables that are named, read behind the call as ahead of it -/
theorem trodVars_len {H : Type} {enc : TypeId × Value → H} {P : Program} {W : World} {sp : Nat → Bool} : ∀ {ns : List String} {gs : List (DataW H)} {ps : List MemPlace}, DataW.TrodVars enc P W sp ns gs ps → gs.length = ns.length
  | [], [], _, _ => rfl
  | [], _ :: _, _, h => h.elim
  | _ :: _, [], _, h => h.elim
  | _ :: _, _ :: _, _, ⟨_, _, _, _, _, _, _, _, _, _, hs, _⟩ => by simp [trodVars_len hs]
theorem list6 {α : Type} {l : List α} (h : l.length = 6) : ∃ a b c d e f, l = [a, b, c, d, e, f] := by
  match l, h with
  | [a, b, c, d, e, f], _ => exact ⟨a, b, c, d, e, f, rfl⟩
theorem list7 {α : Type} {l : List α} (h : l.length = 7) : ∃ a b c d e f g, l = [a, b, c, d, e, f, g] := by
  match l, h with
  | [a, b, c, d, e, f, g], _ => exact ⟨a, b, c, d, e, f, g, rfl⟩
theorem laidOut : laidOutB Tryd.prog = true := by kernel_rfl
/-- closed: all these variables can be read -/
noncomputable def varOk (n : String) : Bool := match (Tryd.prog.globalNamed n).bind fun g => (Tryd.prog.globals[g]?).map (·.type) with
  | some t => Tryd.prog.readableRec t && decide (t < Tryd.prog.types.size)
  | none => false
noncomputable def allErrs (ns : List String) : Bool := ns.all varOk
open Go.WideElems in
theorem varsStay {H : Type} {enc : TypeId × Value → H} {W W' : World} (bel : Below W.heap.size W W') : ∀ {ns : List String} {gs : List (DataW H)} {ps : List MemPlace}, allErrs ns = true → DataW.TrodVars enc Tryd.prog W (fun _ => true) ns gs ps →
    DataW.TrodVars enc Tryd.prog W' (fun b => decide (b < W.heap.size)) ns gs ps
  | [], [], _, _, h => h
  | [], _ :: _, _, _, h => h.elim
  | _ :: _, [], _, _, h => h.elim
  | n :: ns, d :: ds, ps, hn, h => by
    have hall := h.lt
    obtain ⟨g, t, cs, fuel, p, q, e1, e2, e3, e4, hrest, rfl⟩ := h
    simp only [allErrs, List.all_cons, Bool.and_eq_true] at hn
    have ht : Tryd.prog.readableRec t = true ∧ t < Tryd.prog.types.size := by
      have h1 := hn.1
      unfold varOk at h1
      rw [e1, Option.bind_some, e2] at h1
      simpa using h1
    have hp : ∀ x ∈ p, x.block < W.heap.size := fun x hx => hall x (by simp [hx])
    have e3' : W'.var? Tryd.prog n = some cs := by
      unfold World.var? at e3 ⊢
      simp only [e1, Option.bind_some] at e3 ⊢
      have hg : g < W.heap.size := by
        rcases Nat.lt_or_ge g W.heap.size with h | h
        · exact h
        · rw [Array.getElem?_eq_none h] at e3; cases e3
      rw [bel.block g hg]
      exact e3
    refine ⟨g, t, cs, fuel, p, q, e1, e2, e3', ?_, varsStay bel (by simpa [allErrs] using hn.2) hrest, rfl⟩
    exact DataW.trod_stays (kids_book laidOut ht.1) (book_sized ht.1) (fun hh => by cases hh) ⟨ht.2, book_self _⟩ e4 (fun x hx => bel.same (hp x hx)) (fun x hx => by simpa using hp x hx)
end Go.Proofs.YtgbbogocfmepiaaDoor
