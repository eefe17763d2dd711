/- Lists of steps in rows of one's own; slices.Clone of them. -/
import Derived.Test.YtgbbogocfmepiaaDoorOpenP
import Derived.Test.YtgbbogocfmepiaaDoorPut5
import Derived.WalkSpells
namespace Go.Proofs.YtgbbogocfmepiaaDoor
open Go.RowKit
theorem ePut : ElemI Tryd.prog 41 46 (.agg #[.int .i64 0, .slice none 0 0, .int .i32 0, .slice none 0 0]) 4 64 := ElemI.mk' Tryd.underlying41 (by kernel_rfl) rfl (by omega)
theorem eDone : ElemI Tryd.prog 50 54 (.agg #[.int .i64 0, .int .i64 0]) 2 16 := ElemI.mk' Tryd.underlying50 (by kernel_rfl) rfl (by omega)
theorem flatten_atW {α : Type} (m : Nat) : ∀ (vs : List (List α)), (∀ x ∈ vs, x.length = m) → ∀ i j, (hi : i < vs.length) → j < m → vs.flatten[i * m + j]? = (vs[i])[j]?
  | [], _, i, _, hi, _ => by simp at hi
  | x :: vs, h, 0, j, _, hj => by
    have hx := h x (by simp)
    rw [List.flatten_cons, Nat.zero_mul, Nat.zero_add, List.getElem?_append_left (by omega)]
    rfl
  | x :: vs, h, i + 1, j, hi, hj => by
    have hx := h x (by simp)
    rw [List.flatten_cons, List.getElem?_append_right (by rw [hx, Nat.succ_mul]; omega), hx, show (i + 1) * m + j - m = i * m + j by rw [Nat.succ_mul]; omega]
    rw [flatten_atW m vs (fun y hy => h y (by simp [hy])) i j (by simpa using hi) hj]
    rfl
theorem flatten_lenW {α : Type} (m : Nat) : ∀ (vs : List (List α)), (∀ x ∈ vs, x.length = m) → vs.flatten.length = vs.length * m
  | [], _ => by simp
  | x :: vs, h => by
    rw [List.flatten_cons, List.length_append, h x (by simp), flatten_lenW m vs (fun y hy => h y (by simp [hy])), List.length_cons, Nat.succ_mul]; omega
/-- the cells of a step -/
def PutC (w : World) (cs : List Value) (x : PutS) : Prop := ∃ v1 v3, cs = [.int .i64 x.k, v1, .int .i32 x.r, v3] ∧ PutV w v1 v3 x
theorem PutC.len {w : World} {cs : List Value} {x : PutS} (h : PutC w cs x) : cs.length = 4 := by obtain ⟨_, _, rfl, _⟩ := h; rfl
theorem PutC.one {w : World} {cs : List Value} {x : PutS} (h : PutC w cs x) : ∀ u ∈ cs, u.oneCell' = true := by
  obtain ⟨v1, v3, rfl, ⟨a, c, rfl, _⟩, a', c', rfl, _⟩ := h
  simp [Value.oneCell']
/-- the cells of steps, one behind the other -/
def PutCs (w : World) (vs : List (List Value)) (xs : List PutS) : Prop := vs.length = xs.length ∧ ∀ i, (h : i < xs.length) → ∃ cs, vs[i]? = some cs ∧ PutC w cs xs[i]
theorem PutCs.each {w : World} {vs : List (List Value)} {xs : List PutS} (h : PutCs w vs xs) : ∀ c ∈ vs, ∃ x, PutC w c x := fun c hc => by
  obtain ⟨i, hi, rfl⟩ := List.mem_iff_getElem.1 hc
  obtain ⟨cs, q1, q2⟩ := h.2 i (by have := h.1; omega)
  rw [List.getElem?_eq_getElem hi] at q1
  simp only [Option.some.injEq] at q1
  exact ⟨_, q1 ▸ q2⟩
theorem PutCs.len {w : World} {vs : List (List Value)} {xs : List PutS} (h : PutCs w vs xs) : ∀ c ∈ vs, c.length = 4 := fun c hc => by obtain ⟨x, hx⟩ := h.each c hc; exact hx.len
theorem PutCs.tot {w : World} {vs : List (List Value)} {xs : List PutS} (h : PutCs w vs xs) : vs.flatten.length = xs.length * 4 := by rw [flatten_lenW 4 vs h.len, h.1]
theorem PutCs.one {w : World} {vs : List (List Value)} {xs : List PutS} (h : PutCs w vs xs) : ∀ u ∈ vs.flatten, u.oneCell' = true := fun u hu => by
  obtain ⟨c, hc, hu⟩ := List.mem_flatten.1 hu
  obtain ⟨x, hx⟩ := h.each c hc
  exact hx.one u hu
theorem PutCs.append {w : World} {vs us : List (List Value)} {xs ys : List PutS} (h : PutCs w vs xs) (h' : PutCs w us ys) : PutCs w (vs ++ us) (xs ++ ys) := by
  refine ⟨by rw [List.length_append, List.length_append, h.1, h'.1], fun i hi => ?_⟩
  by_cases hl : i < xs.length
  · obtain ⟨cs, q1, q2⟩ := h.2 i hl
    exact ⟨cs, by rw [List.getElem?_append_left (by rw [h.1]; exact hl)]; exact q1, by rw [List.getElem_append_left hl]; exact q2⟩
  · rw [List.length_append] at hi
    obtain ⟨cs, q1, q2⟩ := h'.2 (i - xs.length) (by omega)
    exact ⟨cs, by rw [List.getElem?_append_right (by rw [h.1]; omega), h.1]; exact q1, by rw [List.getElem_append_right (by omega)]; exact q2⟩
/-- the cells that lie there -/
theorem PutsA.cells {w : World} {p : Addr} {c : Nat} {xs : List PutS} (h : PutsA w (some p) c xs) : ∃ vs, PutCs w vs xs ∧ ∀ j u, vs.flatten[j]? = some u → w.cell? (p.add j) = some u := by
  have hb : ∀ i, ∃ cs : List Value, (hi : i < xs.length) → PutC w cs xs[i] ∧ ∀ j u, cs[j]? = some u → w.cell? (p.add (i * 4 + j)) = some u := fun i => by
    by_cases hi : i < xs.length
    · obtain ⟨hs, hc⟩ := h.2.2.2 p rfl
      have hs := hs (by rintro rfl; simp at hi)
      obtain ⟨v1, v3, e0, e1, e2, e3, e4⟩ := hc i hi
      refine ⟨[.int .i64 xs[i].k, v1, .int .i32 xs[i].r, v3], fun _ => ⟨⟨v1, v3, rfl, e4⟩, fun j u hu => ?_⟩⟩
      rw [add_of_spot hs]
      match j, hu with
      | 0, hu => simp only [List.getElem?_cons_zero, Option.some.injEq] at hu; subst hu; exact e0
      | 1, hu => simp only [List.getElem?_cons_succ, List.getElem?_cons_zero, Option.some.injEq] at hu; subst hu; exact e1
      | 2, hu => simp only [List.getElem?_cons_succ, List.getElem?_cons_zero, Option.some.injEq] at hu; subst hu; exact e2
      | 3, hu => simp only [List.getElem?_cons_succ, List.getElem?_cons_zero, Option.some.injEq] at hu; subst hu; exact e3
      | n + 4, hu => simp at hu
    · exact ⟨[], fun hh => absurd hh hi⟩
  obtain ⟨C, hC⟩ := Classical.axiomOfChoice hb
  have hcs : PutCs w ((List.range xs.length).map C) xs := ⟨by simp, fun i hi => ⟨C i, by simp [hi], (hC i hi).1⟩⟩
  refine ⟨_, hcs, fun j u hu => ?_⟩
  have hj : j < xs.length * 4 := by
    rcases Nat.lt_or_ge j (xs.length * 4) with q | q
    · exact q
    · rw [List.getElem?_eq_none (by rw [hcs.tot]; exact q)] at hu; cases hu
  have hi : j / 4 < xs.length := by omega
  have hf := flatten_atW 4 _ hcs.len (j / 4) (j % 4) (by simpa using hi) (by omega)
  rw [show j / 4 * 4 + j % 4 = j by omega, hu] at hf
  have := (hC (j / 4) hi).2 (j % 4) u (by rw [hf]; simp)
  rw [show j / 4 * 4 + j % 4 = j by omega] at this
  exact this
/-- steps in a row of one's own; what they name lay in a world before -/
def OwnP (w0 : World) (base : Nat) (w : World) (v : Value) (xs : List PutS) : Prop := ∃ vs, PutCs w0 vs xs ∧ w.ownsRow base 46 4 v xs.length vs.flatten
theorem OwnP.read {w0 w : World} {base : Nat} {v : Value} {xs : List PutS} (h : OwnP w0 base w v xs) (hn : New w0 w) : ∃ a c, v = .slice a xs.length c ∧ PutsA w a c xs := by
  obtain ⟨vs, hcs, ho⟩ := h
  rcases ho.2 with ⟨rfl, hn0⟩ | ⟨g, cap, cur, rfl, hb, hg, hnc, hm, hs, ht⟩
  · exact ⟨none, 0, by rw [hn0], by omega, Nat.zero_le _, fun _ => rfl, fun p hp => by cases hp⟩
  · refine ⟨_, cap, rfl, hnc, hm, by simp, fun p hp' => ?_⟩
    simp only [Option.some.injEq] at hp'; subst hp'
    refine ⟨fun _ => rfl, fun i hi => ?_⟩
    obtain ⟨cs, q1, v1, v3, rfl, q3⟩ := hcs.2 i hi
    have hvl : i < vs.length := by rw [hcs.1]; exact hi
    rw [List.getElem?_eq_getElem hvl] at q1
    simp only [Option.some.injEq] at q1
    have hcell : ∀ j, j < 4 → w.cell? ⟨g, 0 + i * 4 + j, none⟩ = ([.int .i64 xs[i].k, v1, .int .i32 xs[i].r, v3] : List Value)[j]? := fun j hj => by
      rw [World.cell_of_heap hg]
      have hf := flatten_atW 4 vs hcs.len i j hvl hj
      rw [← ht, List.getElem?_take_of_lt (by omega), q1] at hf
      rw [← hf, Nat.zero_add]
      simp
    exact ⟨v1, v3, hcell 0 (by omega), hcell 1 (by omega), hcell 2 (by omega), hcell 3 (by omega), q3.new hn⟩
/-- steps that only ask, or flush -/
def ask (k : Int) : PutS := ⟨k, [], 0, []⟩
def askC (k : Int) : List Value := [.int .i64 k, .slice none 0 0, .int .i32 0, .slice none 0 0]
theorem bytes_none (w : World) : BytesA w none 0 [] := ⟨Nat.le_refl _, Nat.zero_le _, fun _ => rfl, fun p hp => by cases hp⟩
theorem pieces_none (w : World) : PiecesA w none 0 [] := ⟨Nat.le_refl _, Nat.zero_le _, fun _ => rfl, fun p hp => by cases hp⟩
theorem askP (w : World) (k : Int) : PutC w (askC k) (ask k) := ⟨_, _, rfl, ⟨none, 0, rfl, bytes_none w⟩, none, 0, rfl, pieces_none w⟩
theorem askCs (w : World) (ks : List Int) : PutCs w (ks.map askC) (ks.map ask) := by
  refine ⟨by simp, fun i hi => ?_⟩
  rw [List.length_map] at hi
  refine ⟨askC ks[i], by simp [hi], ?_⟩
  rw [List.getElem_map]
  exact askP w _
/-- more of them -/
theorem OwnP.asks {w0 w w2 w3 : World} {base m : Nat} {v v' : Value} {xs : List PutS} {vs : List (List Value)} (hcs : PutCs w0 vs xs) (ks : List Int) (hm : ks.length = m) (hn : New w w2) (hb : w.ownsRow base 46 4 v xs.length vs.flatten)
    (ho : w3.ownsRow base 46 4 v' (xs.length + m) (vs.flatten ++ (ks.map askC).flatten)) (hg : w2.grownBy w3 v.ownBlock) (hw : New w0 w) (hbase : w0.heap.size ≤ base) : OwnP w0 base w3 v' (xs ++ ks.map ask) ∧ New w0 w3 := by
  refine ⟨⟨vs ++ ks.map askC, hcs.append (askCs _ _), ?_⟩, (hw.andNew hn).grown hg (fun k hk hl => ?_)⟩
  · rw [List.flatten_append, List.length_append, List.length_map, hm]; exact ho
  · obtain ⟨h1, _⟩ := ownsRow_block hb hk; omega
set_option maxRecDepth 100000 in
set_option maxHeartbeats 1000000 in
theorem clonePuts {w : World} {a : Option Addr} {c : Nat} {xs : List PutS} (h : PutsA w a c xs) (hl : xs.length ≤ 100) :
    Calls Tryd.prog 21 #[.slice a xs.length c] w (Ret fun v w' => New w w' ∧ OwnP w w.heap.size w' v xs) := by
  have h1 := h.1
  have h2 := h.2.1
  unfold maxLen at h2
  cases a with
  | none =>
    have hc := h.2.2.1 rfl
    have hx : xs = [] := List.eq_nil_of_length_eq_zero (by omega)
    subst hx
    subst hc
    show Calls _ _ #[.slice none 0 0] _ _
    have qT := fun (w : World) (n c : Nat) => Lib.run_eql_slice_nil (P := Tryd.prog) w 41 46 none n c 0 0 Tryd.underlying41
    clear h h1 h2 hl
    go_enter Tryd.func21, Tryd.ntmps21
    go_wp2_with fail
    go_ret
    exact ⟨Upd.refl _ _, [], ⟨rfl, fun i hi => (by simp at hi)⟩, World.ownsRow_nil _ _ _ _⟩
  | some p =>
    obtain ⟨vs, hcs, hnews⟩ := (h.new ((Upd.refl _ _).alloc (.cells #[] 46))).cells
    obtain ⟨vs0, hcs0, hnews0⟩ := h.cells
    have hnw : ∀ q, (some p : Option Addr) = some q → ∀ j u, vs0.flatten[j]? = some u → (w.alloc (.cells #[] 46)).cell? (q.add j) = some u := fun q hq j u hu => by
      simp only [Option.some.injEq] at hq; subst hq
      exact ((Upd.refl (fun _ => False) w).alloc _).cell (hnews0 j u hu) (fun h => h)
    have hown : (w.alloc (.cells #[] 46)).ownsRow w.heap.size 46 4 (.slice (some ⟨w.heap.size, 0, none⟩) 0 0) 0 [] := World.ownsRow_made w #[] 0 (Nat.le_refl _) (Nat.zero_le _) rfl
    have HCS := Lib.hid hcs0
    have HNW := Lib.hid hnw
    have HO := Lib.hid hown
    have HT := Lib.hid hcs0.tot
    have HONE := Lib.hid hcs0.one
    have qT := fun (w : World) (n c : Nat) => Lib.run_eql_slice_nil (P := Tryd.prog) w 41 46 (some p) n c 0 0 Tryd.underlying41
    clear h hcs hnews hcs0 hnews0 hnw hown
    go_enter Tryd.func21, Tryd.ntmps21
    go_wp2_with (at_builtin; refine wpList_plain rfl (fun K hK => ?_); refine wp_append ePut _ _ rfl w.heap.size _ 0 [] rfl HO.out (some p) xs.length c vs0.flatten rfl HT.out (fun hh => by cases hh) HNW.out HONE.out (by unfold maxLen; omega) (by omega) (by simp) ?_; intro v' w' h1 h2 h3; have H1 := Lib.hid h1; have H2 := Lib.hid h2; clear h1 h2 h3; refine hK _ _ ?_; clear hK K)
    go_ret
    refine ⟨((Upd.refl _ _).alloc _).grown H2.out (fun k hk hl => by
      have hk : some w.heap.size = some k := hk
      simp only [Option.some.injEq] at hk; omega), vs0, HCS.out, ?_⟩
    have := H1.out
    rw [Nat.zero_add, List.nil_append] at this
    exact this
end Go.Proofs.YtgbbogocfmepiaaDoor
