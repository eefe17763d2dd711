/- What steps on a writer tell, in plain Lean; a region's laws. -/
import Derived.Test.YtgbbogocfmepiaaDoorPutsLaw
namespace Go.Proofs.YtgbbogocfmepiaaDoor
open Go.RowKit
theorem Trace.mono {st0 : WS} {xs : List PutS} {zs : List (Int × Int)} {sts : Nat → WS} (h : Trace st0 xs zs sts) {i : Nat} (hi : i < xs.length) : (sts i).err = true → (sts (i + 1)).err = true := fun he => by
  obtain ⟨hr, _⟩ := h.step i hi (by rw [h.len]; exact hi)
  by_cases hk : xs[i].k ≤ 5
  · exact (hr.wr hk).2.2.1 he
  · rw [(hr.rd (by omega)).2]; exact he
theorem Trace.back {st0 : WS} {xs : List PutS} {zs : List (Int × Int)} {sts : Nat → WS} (h : Trace st0 xs zs sts) (hend : (sts xs.length).err = false) : ∀ j i, i + j = xs.length → (sts i).err = false := by
  intro j
  induction j with
  | zero => intro i hi; rw [show i = xs.length by omega]; exact hend
  | succ j ih =>
    intro i hi
    have h1 := ih (i + 1) (by omega)
    cases he : (sts i).err with
    | false => rfl
    | true => rw [h.mono (by omega) he] at h1; cases h1
theorem Trace.size {st0 : WS} {xs : List PutS} {zs : List (Int × Int)} {sts : Nat → WS} (h : Trace st0 xs zs sts) : ∀ i, i ≤ xs.length → (sts i).buf.length = st0.buf.length := by
  intro i
  induction i with
  | zero => intro _; rw [h.start]
  | succ i ih =>
    intro hi
    rw [(h.step i (by omega) (by rw [h.len]; omega)).2, ih (by omega)]
theorem ask_good {k : Int} (h0 : 0 ≤ k) (h8 : k ≤ 8) : goodP (ask k) = true := by
  unfold goodP okP ask
  simp [h0, h8, srcOk, lensum, nones]
theorem allOut_append (xs ys : List PutS) : allOut (xs ++ ys) = allOut xs ++ allOut ys := by simp [allOut]
theorem goods_append {xs : List PutS} {ks : List Int} (hg : ∀ x ∈ xs, goodP x = true) (hk : ∀ k ∈ ks, 0 ≤ k ∧ k ≤ 8) : ∀ x ∈ xs ++ ks.map ask, goodP x = true := fun x hx => by
  rcases List.mem_append.1 hx with hx | hx
  · exact hg x hx
  · obtain ⟨k, hk', rfl⟩ := List.mem_map.1 hx
    exact ask_good (hk k hk').1 (hk k hk').2
/-- a step's facts, the step being known -/
theorem Trace.at {st0 : WS} {xs : List PutS} {zs : List (Int × Int)} {sts : Nat → WS} (h : Trace st0 xs zs sts) {i : Nat} (hi : i < xs.length) {x : PutS} (hx : xs[i] = x) : ∃ z, zs[i]? = some z ∧ PutR x (sts i) (sts (i + 1)) z.1 z.2 := by
  have hz : i < zs.length := by rw [h.len]; exact hi
  refine ⟨zs[i], List.getElem?_eq_getElem hz, ?_⟩
  rw [← hx]
  exact (h.step i hi hz).1
/-- behind a flush all is there, where the sink takes any number -/
theorem flushed_facts {st0 : WS} {xs : List PutS} {zs : List (Int × Int)} {sts : Nat → WS} (h : Trace st0 (xs ++ [4, 7].map ask) zs sts) (hI : Inv none (sts (xs ++ [4, 7].map ask).length) (allOut (xs ++ [4, 7].map ask))) :
    zs[xs.length]? = some (0, 0) ∧ zs[xs.length + 1]? = some (0, 0) ∧ (sts (xs ++ [4, 7].map ask).length).out = allOut xs := by
  have hl : (xs ++ [4, 7].map ask).length = xs.length + 2 := by simp
  have hend := hI.ok_none
  have hback := h.back hend
  have hi1 : xs.length < (xs ++ [4, 7].map ask).length := by omega
  have hi2 : xs.length + 1 < (xs ++ [4, 7].map ask).length := by omega
  obtain ⟨z1, q1, r1⟩ := h.at hi1 (x := ask 4) (by simp)
  obtain ⟨z2, q2, r2⟩ := h.at hi2 (x := ask 7) (by simp)
  have e1 := hback 1 (xs.length + 1) (by omega)
  have e2 := hback 0 (xs.length + 2) (by omega)
  obtain ⟨c1, n1, _, f1⟩ := r1.wr (by decide)
  have hz1 : z1 = (0, 0) := by
    have a := n1 e1
    rw [e1] at c1
    exact Prod.ext a c1
  have hn0 := f1 rfl e1
  obtain ⟨c2, s2⟩ := r2.rd (by decide)
  have n2 := r2.bf rfl
  have hz2 : z2 = (0, 0) := Prod.ext (by rw [n2, hn0]; rfl) c2
  refine ⟨by rw [q1, hz1], by rw [q2, hz2], ?_⟩
  rw [hl] at hI ⊢
  have s2 : sts (xs.length + 2) = sts (xs.length + 1) := s2
  rw [s2] at hI ⊢
  obtain ⟨a1, _⟩ := hI.ok e1
  unfold held at a1
  rw [hn0, List.take_zero, List.append_nil, allOut_append] at a1
  rw [a1]
  show allOut xs ++ ([] : List UInt8) = _
  rw [List.append_nil]
theorem putsOkB_spec {xs : List PutS} {sz : Int} (h : putsOkB xs sz = true) : ∃ n : Nat, sz = (n : Int) ∧ 1 ≤ n ∧ n ≤ 5000 ∧ xs.length ≤ 40 ∧ ∀ x ∈ xs, goodP x = true := by
  unfold putsOkB at h
  simp only [Bool.and_eq_true, decide_eq_true_eq, Bool.not_eq_true', List.any_eq_false] at h
  obtain ⟨⟨⟨h1, h2⟩, h3⟩, h4⟩ := h
  obtain ⟨n, rfl⟩ := Int.eq_ofNat_of_zero_le (show 0 ≤ sz by omega)
  exact ⟨n, rfl, by omega, by omega, h3, fun x hx => by have := h4 x hx; simpa using this⟩
/-! ### a region -/
variable {P : Program} {p : Par} {w0 : World} {ops : Array Oper} {Q : Exit → Act → World → Prop}
/-- an operation that answers alike wherever new blocks alone came -/
theorem wpLx_ld {a : Act} {w : World} {o : Oper} {rest : List Oper} (hw : Region.wanted o (yielded ops a.tmps) = true) (hl : inD p.ld o = true) (hn : New w0 w) {v : Value} (hr : ∀ w', New w0 w' → (execOp a.eval o).run P w' = .ok (.value v) w')
    (hk : wpLx P p w0 ops Q rest (a.put o.dst v) w) : wpLx P p w0 ops Q (o :: rest) a w := by
  unfold wpLx
  rw [if_pos hw]
  unfold stepP
  rw [if_pos hl]
  exact ⟨v, fun w' hn' => .inl (hr w' hn'), hn, hk⟩
/-- an operation that makes new blocks, behind a guard -/
theorem wpLx_grow' {a : Act} {w : World} {o : Oper} {rest : List Oper} (hw : Region.wanted o (yielded ops a.tmps) = true) (hc : stillO p o = false) (hgd : inD p.gd o = true) (hn : New w0 w)
    (h : ∀ K : Act → World → Prop, (∀ a w', New w w' → wpLx P p w0 ops Q rest a w' → K a w') → o.wp P a w K Q) : wpLx P p w0 ops Q (o :: rest) a w := by
  unfold wpLx
  rw [if_pos hw, stepP_eff hc]
  unfold effP
  rw [if_pos hgd]
  exact ⟨hn, h _ (fun _ _ h1 h2 => ⟨h1, h2⟩)⟩
theorem wpLx_ld2 {a : Act} {w : World} {o : Oper} {rest : List Oper} {j : Nat} {want b : Bool} (hg : o.guard = some (j, want)) (hy : yielded ops a.tmps j = some b) (hb : (b == want) = true) (hl : inD p.ld o = true) (hn : New w0 w) {v : Value} (hr : ∀ w', New w0 w' → (execOp a.eval o).run P w' = .ok (.value v) w')
    (hk : wpLx P p w0 ops Q rest (a.put o.dst v) w) : wpLx P p w0 ops Q (o :: rest) a w := wpLx_ld (by rw [wanted_of hg hy]; exact hb) hl hn hr hk
theorem wpLx_grow2 {a : Act} {w : World} {o : Oper} {rest : List Oper} {j : Nat} {want b : Bool} (hg : o.guard = some (j, want)) (hy : yielded ops a.tmps j = some b) (hb : (b == want) = true) (hc : stillO p o = false) (hgd : inD p.gd o = true) (hn : New w0 w)
    (h : ∀ K : Act → World → Prop, (∀ a w', New w w' → wpLx P p w0 ops Q rest a w' → K a w') → o.wp P a w K Q) : wpLx P p w0 ops Q (o :: rest) a w := wpLx_grow' (by rw [wanted_of hg hy]; exact hb) hc hgd hn h
theorem DnA.ptr {w : World} {a : Option Addr} {c : Nat} {zs : List (Int × Int)} (h : DnA w a c zs) {i : Nat} {z : Int × Int} (hz : zs[i]? = some z) : ∃ b o, a = some ⟨b, o, none⟩ ∧ b < w.heap.size := by
  obtain ⟨hi, _⟩ := List.getElem?_eq_some_iff.1 hz
  obtain ⟨b, o, h1, h2, _⟩ := h.at hi
  exact ⟨b, o, h1, h2⟩
theorem DnA.get {w : World} {b o c : Nat} {zs : List (Int × Int)} (h : DnA w (some ⟨b, o, none⟩) c zs) {i : Nat} {z : Int × Int} (hz : zs[i]? = some z) : w.cell? ⟨b, o + i * 2, none⟩ = some (.int .i64 z.1) ∧ w.cell? ⟨b, o + i * 2 + 1, none⟩ = some (.int .i64 z.2) := by
  obtain ⟨hi, rfl⟩ := List.getElem?_eq_some_iff.1 hz
  obtain ⟨b', o', h1, _, h3, h4⟩ := h.at hi
  simp only [Option.some.injEq, Addr.mk.injEq, and_true] at h1
  obtain ⟨rfl, rfl⟩ := h1
  exact ⟨h3, h4⟩
theorem exec_strL {src dst e : TypeId} (hs : P.underlying src = some (.slice e)) (he : P.underlying e = some (.int .u8)) (hd : P.underlying dst = some .string) {o : Oper} {ev : Operand → Value} {x : Operand} (ho : o.op = .convert src dst x) {ax : Option Addr} {m c : Nat} {bs : List UInt8} (hl : bs.length = m) (hx : ev x = .slice ax m c) {w : World} (hb : BytesA w ax c bs) : (execOp ev o).run P w = .ok (.value (.string (bstr bs))) w := by
  unfold execOp
  simp only [ho, hx, Sem.run_bind, run_strL hs he hd hl hb, Result.andThen_ok, Sem.run_pure]
end Go.Proofs.YtgbbogocfmepiaaDoor
