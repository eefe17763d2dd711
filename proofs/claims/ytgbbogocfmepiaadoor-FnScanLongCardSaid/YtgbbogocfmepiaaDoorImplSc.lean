/- bufio.NewScanner, Split, Buffer; impl.Scan. -/
import Derived.Test.YtgbbogocfmepiaaDoorScan
import Derived.Test.YtgbbogocfmepiaaDoorSpecTk
import Derived.Deep.LoopGhost
import Derived.Deep.DeepCutAuto
namespace Go.Proofs.YtgbbogocfmepiaaDoor
open Go.RowKit
def scCells0 (s : Nat) : Array Value := #[.iface 65 (.pointer (some ⟨s, 0, none⟩)), .func (.func 54) #[] #[], .int .i64 65536, .slice none 0 0, .slice none 0 0, .int .i64 0, .int .i64 0, .nilIface, .int .i64 0, .bool false, .bool false]
set_option maxRecDepth 100000 in
theorem scNew (s : Nat) (w : World) : Calls Tryd.prog 30 #[.iface 65 (.pointer (some ⟨s, 0, none⟩))] w (Ret fun v w' => v = .pointer (some ⟨w.heap.size, 0, none⟩) ∧ w' = w.alloc (.cells (scCells0 s) 97)) := by
  have hbuild : ∀ w, (Instr.build 97 #[(0, .iface 65 (.pointer (some ⟨s, 0, none⟩))), (1, .func (.func 54) #[] #[]), (2, .int .i64 65536)]).run Tryd.prog w = .ok (.agg (scCells0 s)) w := fun w => by kernel_rfl
  go_enter Tryd.func30, Tryd.ntmps30
  go_wp2_with fail
  go_ret
  exact ⟨rfl, rfl⟩
set_option maxRecDepth 100000 in
theorem scSplit {w : World} {b : Nat} {cs : Array Value} (hb : w.heap[b]? = some (.cells cs 97 (0, 0))) (h9 : cs[9]? = some (.bool false)) {v1 : Value} (h1 : cs[1]? = some v1) (f : FuncId) :
    Calls Tryd.prog 32 #[.pointer (some ⟨b, 0, none⟩), .func (.func f) #[] #[]] w (Ret fun v w' => v = .tuple #[] ∧ w' = w.setCell ⟨b, 1, none⟩ (.func (.func f) #[] #[])) := by
  have c9 : w.cell? ⟨b, 9, none⟩ = some (.bool false) := by rw [World.cell_of_heap hb]; exact h9
  have c1 : w.cell? ⟨b, 1, none⟩ = some v1 := by rw [World.cell_of_heap hb]; exact h1
  have hf : ∀ i, w.frozen? ⟨b, i, none⟩ = false := fun i => World.frozen_of_heap hb i
  have q1 := fun (wx : World) m => run_store Tryd.prog wx ⟨b, 1, none⟩ (.func (.func f) #[] #[]) m rfl
  clear hb h9 h1
  go_enter Tryd.func32, Tryd.ntmps32
  go_wp2_with fail
  refine bodyPost_ret (results_none rfl _ _ _) rfl ?_
  exact ⟨rfl, rfl⟩
set_option maxRecDepth 100000 in
theorem scBuffer {w : World} {b : Nat} {cs : Array Value} (hb : w.heap[b]? = some (.cells cs 97 (0, 0))) (h9 : cs[9]? = some (.bool false)) {v2 v4 : Value} (h2 : cs[2]? = some v2) (h4 : cs[4]? = some v4) (bb n m : Nat) :
    Calls Tryd.prog 34 #[.pointer (some ⟨b, 0, none⟩), .slice (some ⟨bb, 0, none⟩) 0 n, .int .i64 (m : Int)] w (Ret fun v w' => v = .tuple #[] ∧ w' = (w.setCell ⟨b, 4, none⟩ (.slice (some ⟨bb, 0, none⟩) n n)).setCell ⟨b, 2, none⟩ (.int .i64 (m : Int))) := by
  have c9 : w.cell? ⟨b, 9, none⟩ = some (.bool false) := by rw [World.cell_of_heap hb]; exact h9
  have hf : ∀ i, w.frozen? ⟨b, i, none⟩ = false := fun i => World.frozen_of_heap hb i
  have c2 : w.cell? ⟨b, 2, none⟩ = some v2 := by rw [World.cell_of_heap hb]; exact h2
  have c4 : w.cell? ⟨b, 4, none⟩ = some v4 := by rw [World.cell_of_heap hb]; exact h4
  clear hb h9 h2 h4
  go_enter Tryd.func34, Tryd.ntmps34
  go_wp2_with fail
  refine bodyPost_ret (results_none rfl _ _ _) rfl ?_
  exact ⟨rfl, rfl⟩
def st0 (ps : List (List UInt8)) (f : Bool) : SS := ⟨[], .slice none 0 0, 0, 0, none, 0, .slice none 0 0, false, ps, f⟩
def stN (bb n : Nat) (ps : List (List UInt8)) (f : Bool) : SS := ⟨List.replicate n 0, .slice (some ⟨bb, 0, none⟩) n n, 0, 0, none, 0, .slice none 0 0, false, ps, f⟩
theorem scMade0 {S : Err → Addr} {w1 : World} {base sl s k : Nat} {ps : List (List UInt8)} {f : Bool} (hsrc : Src w1 sl w1.heap.size s ps f) (hsl : base ≤ sl) (hsw : sl ≤ w1.heap.size) (hne : nones ps ≤ 50) :
    Sc S ((w1.alloc (.cells (scCells0 s) 97)).setCell ⟨w1.heap.size, 1, none⟩ (splF k)) base ⟨w1.heap.size, s, sl, w1.heap.size⟩ k 65536 65536 (st0 ps f) where
  hb := by rw [World.heap_setCell_self (heap_alloc_new w1 _)]; rfl
  buf := .inl ⟨rfl, rfl⟩
  src := (hsrc.new ((Upd.refl _ _).alloc _)).upd ((Upd.refl (fun j => j = w1.heap.size) _).setCell (p := ⟨w1.heap.size, 1, none⟩) (fun _ => rfl) _) (fun j hj _ q2 => by have hj : j = w1.heap.size := hj; have q2 : j < w1.heap.size := q2; omega)
  blo := ⟨by show base ≤ w1.heap.size; omega, by show ¬ (sl ≤ w1.heap.size ∧ w1.heap.size < w1.heap.size); omega⟩
  slo := hsl
  mid := by show w1.heap.size ≤ _; simp
  se := Nat.le_refl _
  en := Nat.le_refl _
  cap := .inr ⟨by show 0 < 65536; omega, rfl⟩
  most := ⟨by decide, Nat.le_refl _⟩
  lim := Nat.le_refl _
  empties := hne
  errok := .inl rfl
  tks := ⟨_, _, _, rfl⟩
theorem made_bytes (n : Nat) : (madeCells (Value.int .u8 0).cells (n * 1)) = ((List.replicate n (0 : UInt8)).map bv).toArray := by
  rw [Nat.mul_one]
  apply Array.toList_inj.1
  rw [show (Value.int .u8 0).cells = #[.int .u8 0] from rfl, toList_madeCells_one]
  simp [bv]
theorem scMadeN {S : Err → Addr} {w1 w2 : World} {base sl s k n m : Nat} {ps : List (List UInt8)} {f : Bool} (hsrc : Src w1 sl w1.heap.size s ps f) (hsl : base ≤ sl) (hsw : sl ≤ w1.heap.size) (hne : nones ps ≤ 50) (hm : 1 ≤ m) (hm2 : m ≤ 65535) (hn : n ≤ 65535)
    (h2 : w2 = (w1.alloc (.cells (scCells0 s) 97)).setCell ⟨w1.heap.size, 1, none⟩ (splF k)) :
    Sc S (((w2.alloc (.cells (madeCells (Value.int .u8 0).cells (n * 1)) 5)).setCell ⟨w1.heap.size, 4, none⟩ (.slice (some ⟨w2.heap.size, 0, none⟩) n n)).setCell ⟨w1.heap.size, 2, none⟩ (.int .i64 (m : Int))) base ⟨w1.heap.size, s, sl, w1.heap.size⟩ k m (max n m) (stN w2.heap.size n ps f) := by
  have hz : w2.heap.size = w1.heap.size + 1 := by rw [h2]; simp
  have hb2 : w2.heap[w1.heap.size]? = some (.cells ((scCells0 s).setIfInBounds 1 (splF k)) 97 (0, 0)) := by rw [h2]; exact World.heap_setCell_self (heap_alloc_new w1 _) _ _
  have hb3 : (w2.alloc (.cells (madeCells (Value.int .u8 0).cells (n * 1)) 5)).heap[w1.heap.size]? = some (.cells ((scCells0 s).setIfInBounds 1 (splF k)) 97 (0, 0)) := ((Upd.refl (fun _ => False) w2).alloc _).heap hb2 (fun h => h)
  have hu : Upd (fun j => j = w1.heap.size) w1 (((w2.alloc (.cells (madeCells (Value.int .u8 0).cells (n * 1)) 5)).setCell ⟨w1.heap.size, 4, none⟩ (.slice (some ⟨w2.heap.size, 0, none⟩) n n)).setCell ⟨w1.heap.size, 2, none⟩ (.int .i64 (m : Int))) := by
    rw [h2]
    exact (((((Upd.refl (fun j => j = w1.heap.size) w1).alloc _).setCell (p := ⟨w1.heap.size, 1, none⟩) (fun _ => rfl) _).alloc _).setCell (p := ⟨w1.heap.size, 4, none⟩) (fun _ => rfl) _).setCell (p := ⟨w1.heap.size, 2, none⟩) (fun _ => rfl) _
  exact {
    hb := by
      rw [World.heap_setCell_self (World.heap_setCell_self hb3 _ _)]
      show some (Obj.cells _ _ _) = _
      simp [scCells, stN, scCells0, eV]
    buf := .inr ⟨w2.heap.size, by simp [stN], by
      have h0 : (w2.alloc (.cells (madeCells (Value.int .u8 0).cells (n * 1)) 5)).heap[w2.heap.size]? = some (.cells ((List.replicate n (0 : UInt8)).map bv).toArray 5 (0, 0)) := by rw [made_bytes]; exact heap_alloc_new w2 _
      exact (((Upd.refl (fun j => j = w1.heap.size) _).setCell (p := ⟨w1.heap.size, 4, none⟩) (fun _ => rfl) _).setCell (p := ⟨w1.heap.size, 2, none⟩) (fun _ => rfl) _).heap h0 (fun hh => by have hh : w2.heap.size = w1.heap.size := hh; omega), by omega, by show ¬ (sl ≤ w2.heap.size ∧ w2.heap.size < w1.heap.size); omega⟩
    src := hsrc.upd hu (fun j hj _ q2 => by have hj : j = w1.heap.size := hj; omega)
    blo := ⟨by show base ≤ w1.heap.size; omega, by show ¬ (sl ≤ w1.heap.size ∧ w1.heap.size < w1.heap.size); omega⟩
    slo := hsl
    mid := hu.size
    se := Nat.le_refl _
    en := by simp [stN]
    cap := by
      show (List.replicate n (0 : UInt8)).length = max n m ∨ ((List.replicate n (0 : UInt8)).length < m ∧ m = max n m)
      rw [List.length_replicate]
      omega
    most := ⟨hm, by omega⟩
    lim := by omega
    empties := hne
    errok := .inl rfl
    tks := ⟨_, _, _, rfl⟩ }
/-- tokens gathered beside a scanner -/
structure SIn (S : Err → Addr) (base : Nat) (L : SLoc) (k most lim bo : Nat) (all : List UInt8) (w wr : World) (v : Value) (ts : List (List UInt8)) (st : SS) : Prop where
  sc : Sc S wr base L k most lim st
  nl : st.err ≠ some .long
  bn : st.err ≠ none → st.buf ≠ []
  tw : ScanTo k lim ts all (remS st)
  tl : TokL bo st.bufv wr v ts
  new : New w wr
  le : (remS st).length ≤ all.length
  hbo : bo ≤ wr.heap.size
theorem ScWent.newB {S : Err → Addr} {base : Nat} {L : SLoc} {k most lim : Nat} {w wr w2 : World} {st st2 : SS} (hg : ScWent S base L k most lim wr st w2 st2) (hsc : Sc S wr base L k most lim st) (hn : New w wr) (hb : w.heap.size ≤ base) : New w w2 :=
  hn.trans hg.upd (fun j hj hlt => by
    rcases hj with hj | hj | hj
    · have := hsc.blo; omega
    · have := (hsc.buf.block hj).2.2.1; omega
    · have := hsc.slo; omega)
theorem SIn.next {S : Err → Addr} {base : Nat} {L : SLoc} {k most lim bo : Nat} {all : List UInt8} {w wr w2 w3 w4 : World} {v v3 v4 : Value} {ts : List (List UInt8)} {t : List UInt8} {st st2 : SS} {vs : List Value} (h : SIn S base L k most lim bo all w wr v ts st) (hb : w.heap.size ≤ base) (hbo : L.b < bo ∧ L.mid ≤ bo)
    (hg : ScWent S base L k most lim wr st w2 st2) (ht : Tok1 k lim (remS st) t (remS st2)) (hle : (remS st2).length ≤ (remS st).length) (hnl : st2.err ≠ some .long) (hbn : st2.err ≠ none → st2.buf ≠ []) (hnb : NewB w2 w3 v3 t)
    (hvl : vs.length = ts.length) (ho1 : w3.ownsRow bo 29 1 v ts.length vs) (hpe : ∀ i, (h : i < ts.length) → ∃ u, vs[i]? = some u ∧ ElemB w3 (fun j => bo ≤ j ∧ st2.bufv.ownBlock ≠ some j) u ts[i])
    (h1 : w4.ownsRow bo 29 1 v4 (ts.length + 1) (vs ++ [v3])) (h2 : (w3.alloc (.cells #[v3] 29)).grownBy w4 v.ownBlock) : SIn S base L k most lim bo all w w4 v4 (ts ++ [t]) st2 := by
  have hbo2 : bo ≤ w2.heap.size := Nat.le_trans h.hbo hg.upd.size
  have hel : ElemB w3 (fun j => bo ≤ j ∧ st2.bufv.ownBlock ≠ some j) v3 t := (hnb.elem (Nat.le_refl _)).mono (fun j hj => ⟨by have hj : w2.heap.size ≤ j := hj; omega, fun e => by
    have := (Array.getElem?_eq_some_iff.1 (hg.sc.buf.block e).2.1).1
    have hj : w2.heap.size ≤ j := hj
    omega⟩)
  have h12 : New w3 (w3.alloc (.cells #[v3] 29)) := (Upd.refl _ _).alloc _
  obtain ⟨r1, r2⟩ := OwnL.grow hvl ho1 hpe hel h12 h1 h2
  have hsc3 := (hg.sc.new hnb.1).new h12
  have hn3 := ((hg.newB h.sc h.new hb).andNew hnb.1).andNew h12
  refine ⟨hsc3.upd r2 (fun j hj hs => ?_), hnl, hbn, h.tw.snoc ht, r1, hn3.trans r2 (fun j hj hlt => by have := hj.1; have := hg.upd.size; have := h.new.size; have h9 := h.sc.blo; omega), Nat.le_trans hle h.le, Nat.le_trans hbo2 (Nat.le_trans hnb.1.size (Nat.le_trans h12.size r2.size))⟩
  obtain ⟨q1, cur, q2⟩ := hj
  rcases hs with hs | hs | hs
  · omega
  · have := (hsc3.buf.block hs).2.1
    rw [q2] at this
    simp at this
  · omega
theorem alloc_set (w : World) (cs : Array Value) (ty : TypeId) (i : Nat) (v : Value) : (w.alloc (.cells cs ty)).setCell ⟨w.heap.size, i, none⟩ v = w.alloc (.cells (cs.setIfInBounds i v) ty) := by go_simp
theorem tok_len {k : Nat} {bs t : List UInt8} {n : Nat} {fin : Bool} (h : spl k bs fin = (n, some t)) : t.length ≤ bs.length + 3 := by
  unfold spl at h
  split at h
  · unfold splitBytes at h
    split at h
    · cases h
    · simp only [Prod.mk.injEq, Option.some.injEq] at h
      rw [← h.2, List.length_take]; omega
  · split at h
    · unfold splitRunes at h
      split at h
      · cases h
      · split at h
        · simp only [Prod.mk.injEq, Option.some.injEq] at h
          rw [← h.2, List.length_take]; omega
        · split at h
          · simp only [Prod.mk.injEq, Option.some.injEq] at h
            rw [← h.2, List.length_take]; omega
          · split at h
            · cases h
            · simp only [Prod.mk.injEq, Option.some.injEq] at h
              rw [← h.2]; show 3 ≤ _; omega
    · split at h
      · unfold splitWords at h
        split at h
        · simp only [Prod.mk.injEq, Option.some.injEq] at h
          rw [← h.2, List.length_take, List.length_drop]; omega
        · split at h
          · simp only [Prod.mk.injEq, Option.some.injEq] at h
            rw [← h.2, List.length_drop]; omega
          · cases h
      · unfold splitLines at h
        split at h
        · cases h
        · split at h
          · simp only [Prod.mk.injEq, Option.some.injEq] at h
            rename_i i _
            have := dcr_le (bs.take i)
            rw [List.length_take] at this
            rw [← h.2]; omega
          · split at h
            · simp only [Prod.mk.injEq, Option.some.injEq] at h
              have := dcr_le bs
              rw [← h.2]; omega
            · cases h
theorem Tok1.len {k lim : Nat} {all t mid : List UInt8} (h : Tok1 k lim all t mid) : t.length ≤ all.length + 3 := by
  have h1 := h.1
  by_cases hb : all = []
  · rw [hb, tokens_nil] at h1; cases h1
  · obtain ⟨⟨n, o⟩, hx⟩ : ∃ x, spl k all true = x := ⟨_, rfl⟩
    cases o with
    | none => rw [tokens_none hx] at h1; cases h1
    | some t' =>
      rw [tokens_some hb hx] at h1
      simp only [List.cons.injEq] at h1
      rw [← h1.1]
      exact tok_len hx
theorem SIn.start {S : Err → Addr} {base : Nat} {L : SLoc} {k most lim bo : Nat} {all : List UInt8} {w wr : World} {st : SS} (hsc : Sc S wr base L k most lim st) (he : st.err = none) (hr : remS st = all) (hn : New w wr) (hbo : bo ≤ wr.heap.size) : SIn S base L k most lim bo all w wr (.slice none 0 0) [] st :=
  ⟨hsc, by rw [he]; simp, fun h => absurd he h, ⟨by rw [hr], fun _ => hr.symm⟩, OwnL.nil _ _ _, hn, by rw [hr]; exact Nat.le_refl _, hbo⟩
theorem isplit {k : Nat} (hk : k < 4) (w : World) : Calls Tryd.prog 33 #[.int .i64 (k : Int)] w (Ret fun v w' => w = w' ∧ v = splF k) := by
  have : k = 0 ∨ k = 1 ∨ k = 2 ∨ k = 3 := by omega
  rcases this with rfl | rfl | rfl | rfl
  all_goals (go_enter Tryd.func33, Tryd.ntmps33; go_wp2; go_ret; exact ⟨rfl, rfl⟩)
def scE (e : Option Err) : Option Err := if e = some .eof then none else e
theorem scErrV_eq (S : Err → Addr) (e : Option Err) : scErrV S e = eV S (scE e) := by
  unfold scErrV scE
  split <;> rfl
/-- what impl.Scan answers -/
def ScI (k lim : Nat) (f : Bool) (all : List UInt8) (ts : List (List UInt8)) (code : Nat) : Prop :=
  ∃ rem, ScanTo k lim ts all rem ∧ rem.length ≤ all.length ∧ ((code = (if f then 2 else 0) ∧ tokens k rem = []) ∨ 10000 ≤ ts.length ∨ (code = 8 ∧ lim ≤ rem.length ∧ (k = 3 → TooBig lim rem)))
def ScIPost (k lim : Nat) (f : Bool) (all : List UInt8) (w : World) (v : Value) (w' : World) : Prop :=
  New w w' ∧ ∃ ts code a c, v = .tuple #[.slice a ts.length c, .int .i64 ((code : Nat) : Int)] ∧ PiecesA w' a c ts ∧ ScI k lim f all ts code
/-- Scan told this -/
def ScB (S : Err → Addr) (base : Nat) (L : SLoc) (k most lim : Nat) (st : SS) (w : World) (b : Bool) (w' : World) (st' : SS) : Prop :=
  ScWent S base L k most lim w st w' st' ∧ (b = true → ∃ t, TokV w' st'.tok (some t) ∧ Tok1 k lim (remS st) t (remS st') ∧ (remS st').length ≤ (remS st).length ∧ st'.err ≠ some .long ∧ (st'.err ≠ none → st'.buf ≠ [])) ∧
    (b = false → (tokens k (remS st) = [] ∧ st'.err = some (endErr st.f)) ∨ (st'.err = some .long ∧ ∃ rem', tokens k (remS st) = tokens k rem' ∧ (k = 3 → remS st = rem') ∧ rem'.length ≤ (remS st).length ∧ lim ≤ rem'.length ∧ (k = 3 → TooBig lim rem')))
theorem ScanPost.toB {S : Err → Addr} {base : Nat} {L : SLoc} {k most lim : Nat} {st : SS} {w w' : World} {v : Value} (h : ScanPost S base L k most lim st w v w') : ∃ b st', v = .bool b ∧ ScB S base L k most lim st w b w' st' := by
  obtain ⟨st', hg, ⟨rfl, h1⟩ | ⟨rfl, h1, h2⟩ | ⟨rfl, h1, h2⟩⟩ := h
  · exact ⟨true, st', rfl, hg, fun _ => h1, fun h => (by cases h)⟩
  · exact ⟨false, st', rfl, hg, fun h => (by cases h), fun _ => .inl ⟨h1, h2⟩⟩
  · exact ⟨false, st', rfl, hg, fun h => (by cases h), fun _ => .inr ⟨h1, h2⟩⟩
theorem ScI.ended {S : Err → Addr} {base : Nat} {L : SLoc} {k most lim bo : Nat} {all : List UInt8} {w wr w2 : World} {v : Value} {ts : List (List UInt8)} {st st2 : SS} (h : SIn S base L k most lim bo all w wr v ts st) (h2 : ScB S base L k most lim st wr false w2 st2) : ScI k lim st.f all ts (ecode (scE st2.err)) := by
  rcases h2.2.2 rfl with ⟨h3, h4⟩ | ⟨h3, rem', h4, h5, h6, h7, h8⟩
  · refine ⟨remS st, h.tw, h.le, .inl ⟨?_, h3⟩⟩
    rw [h4]
    cases st.f <;> rfl
  · refine ⟨rem', h.tw.skip h4 h5, Nat.le_trans h6 h.le, .inr (.inr ⟨?_, h7, h8⟩)⟩
    rw [h3]
    rfl
set_option maxRecDepth 100000 in
set_option maxHeartbeats 4000000 in
theorem implScan {S : Err → Addr} {B : Nat} {w : World} {a : Option Addr} {c : Nat} {ps : List (List UInt8)} (f : Bool) (E : Env S B w) (T : TabsB B w) (h : PiecesA w a c ps) (hl : ps.flatten.length ≤ 20000) (hn : ps.length ≤ 500) (hne : nones ps ≤ 50) {k bn m : Nat} (hk : k < 4) (hbn : bn ≤ 65535) (hm : m ≤ 65535) :
    Calls Tryd.prog 12 #[.int .i64 (k : Int), .agg #[.slice a ps.length c, .bool f], .int .i64 (bn : Int), .int .i64 (m : Int)] w (Ret (ScIPost k (if m = 0 then 65536 else max bn m) f ps.flatten w)) := by
  obtain ⟨lim, hlim⟩ : ∃ lim, lim = if m = 0 then 65536 else max bn m := ⟨_, rfl⟩
  obtain ⟨most, hmost⟩ : ∃ most, most = if m = 0 then 65536 else m := ⟨_, rfl⟩
  rw [← hlim]
  have K1 := Lib.hid (readerOf a c ps f _ (h.new ((Upd.refl _ _).alloc (.cells #[.slice a ps.length c, .bool f] 24))) (by omega) (by omega))
  have h2 := h.2.1
  unfold maxLen at h2
  have HE := Lib.hid E
  have HT := Lib.hid T
  have HNE := Lib.hid hne
  obtain ⟨all, hall⟩ : ∃ all, all = ps.flatten := ⟨_, rfl⟩
  rw [← hall]
  have HALL := Lib.hid hall
  have HL : Hid (all.length ≤ 20000) := Lib.hid (by rw [hall]; exact hl)
  have KI := Lib.hid (isplit hk)
  have HLIM := Lib.hid hlim
  have HMOST := Lib.hid hmost
  clear E T h hl hall hne hlim hmost
  go_enter Tryd.func12, Tryd.ntmps12
  go_upto_if 21 with (first
    | (go_at_call 31; refine callRet K1.out ?_; intro v w1 h1; obtain ⟨hu1, s, rfl, hsrc⟩ := h1; have HU1 : Hid (New w w1) := Lib.hid (((Upd.refl _ w).alloc (.cells #[.slice a ps.length c, .bool f] 24)).andNew hu1); have HSZ : Hid (w.heap.size + 1 ≤ w1.heap.size) := Lib.hid (by have := hu1.size; simpa using this); have HSRC : Hid (Src w1 (w.heap.size + 1) w1.heap.size s ps f) := Lib.hid (by simpa using hsrc); clear hu1 hsrc K1)
    | (go_at_call 30; refine callRet (scNew s w1) ?_; rintro v w2 ⟨rfl, rfl⟩)
    | (go_at_call 33; refine callRet (KI.out _) ?_; rintro v w2 ⟨rfl, rfl⟩; rw [splF_eq])
    | (go_at_call 32; refine callRet (scSplit (heap_alloc_new w1 _) rfl rfl _) ?_; rintro v w2 ⟨rfl, rfl⟩))
  go_cut [] (fun wx => ∃ st, SIn S w.heap.size ⟨w1.heap.size, s, w.heap.size + 1, w1.heap.size⟩ k most lim (w1.heap.size + 1) all w wx (.slice none 0 0) [] st ∧ st.f = f)
  case first =>
    have hsl : w.heap.size ≤ w.heap.size + 1 := Nat.le_succ _
    by_cases hm0 : 0 < m
    · have hmax : max 0 (bn : Int) = (bn : Int) := by omega
      have hb3 : ∀ W', New (w1.alloc (.cells ((scCells0 s).setIfInBounds 1 (.func (.func (splId k)) #[] #[])) 97)) W' → W'.heap[w1.heap.size]? = some (.cells ((scCells0 s).setIfInBounds 1 (.func (.func (splId k)) #[] #[])) 97 (0, 0)) := fun W' hW => hW.heap (heap_alloc_new w1 _) (fun h => h)
      have HB3 := Lib.hid hb3
      have hfin : Hid (∀ wx, wx = ((((w1.alloc (.cells (scCells0 s) 97)).setCell ⟨w1.heap.size, 1, none⟩ (splF k)).alloc (.cells (madeCells #[.int .u8 0] bn) 5)).setCell ⟨w1.heap.size, 4, none⟩ (.slice (some ⟨w1.heap.size + 1, 0, none⟩) bn bn)).setCell ⟨w1.heap.size, 2, none⟩ (.int .i64 (m : Int)) → ∃ st, SIn S w.heap.size ⟨w1.heap.size, s, w.heap.size + 1, w1.heap.size⟩ k most lim (w1.heap.size + 1) all w wx (.slice none 0 0) [] st ∧ st.f = f) := by
        intro wx hwx
        have hsc := scMadeN (S := S) (k := k) (n := bn) (m := m) HSRC.out (Nat.le_trans hsl (Nat.le_refl _)) HSZ.out HNE.out (by omega) hm hbn rfl
        rw [Nat.mul_one] at hsc
        have hz : ((w1.alloc (.cells (scCells0 s) 97)).setCell ⟨w1.heap.size, 1, none⟩ (splF k)).heap.size = w1.heap.size + 1 := by simp
        rw [hz] at hsc
        have hmo : most = m := by rw [HMOST.out, if_neg (by omega)]
        have hli : lim = max bn m := by rw [HLIM.out, if_neg (by omega)]
        rw [hwx, hmo, hli]
        refine ⟨_, SIn.start hsc rfl (by rw [HALL.out]; show ((List.replicate bn (0 : UInt8)).take 0).drop 0 ++ ps.flatten = _; simp) ?_ (by simp), rfl⟩
        exact HU1.out.trans (((((Upd.refl (fun j => j = w1.heap.size) w1).alloc _).setCell (p := ⟨w1.heap.size, 1, none⟩) (fun _ => rfl) _).alloc _).setCell (p := ⟨w1.heap.size, 4, none⟩) (fun _ => rfl) _ |>.setCell (p := ⟨w1.heap.size, 2, none⟩) (fun _ => rfl) _) (fun j hj hlt => by have hj : j = w1.heap.size := hj; have := HU1.out.size; omega)
      clear hb3
      go_wp2_with (first
        | (at_make; refine wpList_plain rfl (fun K hK => ?_); refine wp_make eB _ (.tmp 24) rfl .i64 .i64 0 bn rfl rfl (Nat.zero_le _) (by omega) (by unfold maxLen; omega) ?_; refine hK _ _ ?_; clear hK K)
        | (go_at_call 34; refine callRet (scBuffer (HB3.out _ ((Upd.refl _ _).alloc _)) rfl rfl rfl _ _ _) ?_; rintro v w3 ⟨rfl, rfl⟩))
      go_meet
      exact hfin.out _ (by rw [splF_eq]; go_simp)
    · have hm00 : m = 0 := by omega
      have hfin : Hid (∀ wx, wx = (w1.alloc (.cells (scCells0 s) 97)).setCell ⟨w1.heap.size, 1, none⟩ (splF k) → ∃ st, SIn S w.heap.size ⟨w1.heap.size, s, w.heap.size + 1, w1.heap.size⟩ k most lim (w1.heap.size + 1) all w wx (.slice none 0 0) [] st ∧ st.f = f) := by
        intro wx hwx
        have hsc := scMade0 (S := S) (k := k) HSRC.out hsl HSZ.out HNE.out
        have hmo : most = 65536 := by rw [HMOST.out, if_pos hm00]
        have hli : lim = 65536 := by rw [HLIM.out, if_pos hm00]
        rw [hwx, hmo, hli]
        refine ⟨_, SIn.start hsc rfl (by rw [HALL.out]; rfl) ?_ (by simp), rfl⟩
        exact HU1.out.trans (((Upd.refl (fun j => j = w1.heap.size) w1).alloc _).setCell (p := ⟨w1.heap.size, 1, none⟩) (fun _ => rfl) _) (fun j hj hlt => by have hj : j = w1.heap.size := hj; have := HU1.out.size; omega)
      clear hm00
      go_wp2_with fail
      go_meet
      exact hfin.out _ (by rw [alloc_set]; rfl)
  case rest =>
    obtain ⟨st0, hs0, hf0⟩ := hcut
    have HS0 := Lib.hid (And.intro hs0 hf0)
    clear hs0 hf0
    go_wp2_with fail
    go_loopg [11] 10000 (fun n v wx => ∃ ts st, SIn S w.heap.size ⟨w1.heap.size, s, w.heap.size + 1, w1.heap.size⟩ k most lim (w1.heap.size + 1) all w wx v ts st ∧ st.f = f ∧ ts.length + n = 10000)
    case atStart => exact ⟨[], st0, HS0.out.1, HS0.out.2, rfl⟩
    case round =>
      obtain ⟨ts, st, hS, hSf, hcn⟩ := hrel
      have HS := Lib.hid hS
      have HSF := Lib.hid hSf
      obtain ⟨va, vc, rfl, hpc⟩ := hS.tl.pieces
      have hvc1 := hpc.1
      have hvc2 := hpc.2.1
      unfold maxLen at hvc2
      have HPC := Lib.hid hpc
      have hE := HE.out.new hS.new
      have hT := HT.out.new hS.new
      have KS := Lib.hid (scScan hE hT HE.out.size hS.sc hk hS.nl hS.bn)
      have HE1 := Lib.hid hE
      clear hS hSf hpc hE hT
      by_cases hlt : ts.length < 10000
      · go_upto_if 34 with (go_at_call 35; refine callRet KS.out ?_; intro v1 w2 hv; obtain ⟨b, st2, rfl, hsb⟩ := hv.toB; have HSB := Lib.hid hsb; clear hsb hv)
        cases b with
        | true =>
          obtain ⟨t, ⟨tb, tof, tc, htv, hby⟩, ht1, hle, hnl, hbn2⟩ := HSB.out.2.1 rfl
          have hg := HSB.out.1
          have KB := Lib.hid (scBytes hg.sc)
          have htl : t.length ≤ 30003 := by have := ht1.len; have := HS.out.le; have := HL.out; omega
          have HBY := Lib.hid hby
          have HTV := Lib.hid htv
          have htok := HS.out.tl.went HS.out.sc hg ⟨Nat.lt_succ_self _, Nat.le_succ _⟩
          have HTOK := Lib.hid htok
          have HG := Lib.hid hg
          have HTL : Hid (t.length ≤ 30003) := Lib.hid htl
          have HNX := Lib.hid (And.intro ht1 (And.intro hle (And.intro hnl hbn2)))
          clear hby htv ht1 hle hnl hbn2 hg htok htl
          obtain ⟨tn, htn⟩ : ∃ tn, t.length = tn := ⟨_, rfl⟩
          have HTN := Lib.hid htn
          clear htn
          go_wp2_with (first
            | (go_at_call 37; refine callRet KB.out ?_; rintro v3 w3 ⟨rfl, rfl⟩; rw [HTV.out])
            | (go_at_call 36; refine callRet (copied _ _ _ _ HBY.out (by have := HTL.out; omega)) ?_; intro v3 w3 hnb; have HNB := Lib.hid hnb; obtain ⟨_, g3, cp3, hv3, _⟩ := hnb; subst hv3; rw [HTN.out])
            | (at_builtin; refine wpList_plain rfl (fun K hK => ?_); obtain ⟨vs, hvl, ho1, hpe⟩ := HTOK.out.new HNB.out.1; refine wp_append eP (.tmp 35) (.tmp 39) rfl (w1.heap.size + 1) _ _ _ rfl (ownsRow_new ho1 ((Upd.refl _ _).alloc _)) (some ⟨w3.heap.size, 0, none⟩) 1 1 [.slice (some ⟨g3, 0, none⟩) tn cp3] rfl rfl (fun h => by cases h) box_newsL (by simp [Value.oneCell']) (by unfold maxLen; omega) (by omega) (Nat.le_trans HS.out.hbo (Nat.le_trans HG.out.upd.size (Nat.le_trans HNB.out.1.size ((Upd.refl (fun _ => False) _).alloc _).size))) ?_; intro v4 w4 h1 h2 h3; have HN4 := Lib.hid (HS.out.next (Nat.le_refl _) ⟨Nat.lt_succ_self _, Nat.le_succ _⟩ HG.out HNX.out.1 HNX.out.2.1 HNX.out.2.2.1 HNX.out.2.2.2 HNB.out hvl ho1 hpe (by rw [HTN.out]; exact h1) (by rw [HTN.out]; exact h2)); refine hK _ _ ?_; clear hK K h1 h2 h3 hvl ho1 hpe))
          go_roundg (gk - 1)
          case measure => omega
          case rel => exact ⟨ts ++ [t], st2, by simpa [HTN.out] using HN4.out, HG.out.f.trans HSF.out, by rw [List.length_append]; show ts.length + 1 + (gk - 1) = _; omega⟩
        | false =>
          have hsc2 := HSB.out.1.sc
          have hu2 := HSB.out.1.newB HS.out.sc HS.out.new (Nat.le_refl _)
          have hE2 := HE.out.new hu2
          have KE := scErr hE2 hsc2
          rw [scErrV_eq] at KE
          have HKE := Lib.hid KE
          have HI := ScI.ended HS.out HSB.out
          rw [HSF.out] at HI
          have HSI := Lib.hid HI
          obtain ⟨cd, hcd⟩ : ∃ cd, ecode (scE st2.err) = cd := ⟨_, rfl⟩
          have KC := Lib.hid (fun (wx : World) (hx : New w2 wx) => (codeOf (scE st2.err) wx (hE2.new hx)))
          have HP2 : Hid (PiecesA w2 va vc ts) := Lib.hid (by
            obtain ⟨a9, c9, hv9, hp9⟩ := (HS.out.tl.went HS.out.sc HSB.out.1 ⟨Nat.lt_succ_self _, Nat.le_succ _⟩).pieces
            simp only [Value.slice.injEq, true_and] at hv9
            rw [hv9.1, hv9.2]; exact hp9)
          have HU2 := Lib.hid hu2
          clear hsc2 hu2 hE2 KE HI
          rw [hcd] at HSI KC
          obtain ⟨ev, hev⟩ : ∃ ev, eV S (scE st2.err) = ev := ⟨_, rfl⟩
          rw [hev] at HKE KC
          clear hev hcd
          go_wp2_with (first | (go_at_call 39; refine callRet HKE.out ?_; rintro v3 w3 ⟨rfl, hn3⟩; have HN3 := Lib.hid hn3; clear hn3) | (go_at_call 38; refine callRet (KC.out _ HN3.out) ?_; rintro v4 w4 ⟨rfl, rfl⟩))
          go_ret2
          exact ⟨HU2.out.andNew HN3.out, ts, cd, va, vc, rfl, HP2.out.new HN3.out, HSI.out⟩
      · have hsc2 := HS.out.sc
        have KE := scErr HE1.out hsc2
        rw [scErrV_eq] at KE
        have HKE := Lib.hid KE
        obtain ⟨cd, hcd⟩ : ∃ cd, ecode (scE st.err) = cd := ⟨_, rfl⟩
        have KC := Lib.hid (fun (wx : World) (hx : New wr wx) => (codeOf (scE st.err) wx (HE1.out.new hx)))
        have HSI : Hid (ScI k lim f all ts cd) := Lib.hid ⟨remS st, HS.out.tw, HS.out.le, .inr (.inl (by omega))⟩
        clear hsc2 KE
        rw [hcd] at KC
        obtain ⟨ev, hev⟩ : ∃ ev, eV S (scE st.err) = ev := ⟨_, rfl⟩
        rw [hev] at HKE KC
        clear hev hcd
        go_wp2_with (first | (go_at_call 39; refine callRet HKE.out ?_; rintro v3 w3 ⟨rfl, hn3⟩; have HN3 := Lib.hid hn3; clear hn3) | (go_at_call 38; refine callRet (KC.out _ HN3.out) ?_; rintro v4 w4 ⟨rfl, rfl⟩))
        go_ret2
        exact ⟨HS.out.new.andNew HN3.out, ts, cd, va, vc, rfl, HPC.out.new HN3.out, HSI.out⟩
end Go.Proofs.YtgbbogocfmepiaaDoor
