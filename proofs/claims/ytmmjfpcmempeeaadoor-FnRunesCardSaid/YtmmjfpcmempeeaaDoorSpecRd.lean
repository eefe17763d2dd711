/- spec.Reader in memory. -/
import Derived.Test.YtmmjfpcmempeeaaDoorOut
import Derived.Test.YtmmjfpcmempeeaaDoorJoined
import Derived.Handy
namespace Go.Proofs.YtmmjfpcmempeeaaDoor
open Go.RowKit
/-- where the law's own reader stands -/
structure SR where
  left : List UInt8
  all : List UInt8
  size : Nat
  endc : Nat
  last : Bool
  rune : Nat
  op : Bool
/-- what a step answers -/
structure Ans where
  bytes : List UInt8
  n : Int
  rune : Int
  flag : Bool
  code : Nat
def Ans.none : Ans := ⟨[], 0, 0, false, 0⟩
def srCells (g oL cL oA cA : Nat) (s : SR) : Array Value :=
  #[.slice (some ⟨g, oL, .none⟩) s.left.length cL, .int .i64 (s.size : Int), .int .i64 (s.endc : Int), .slice (some ⟨g, oA, .none⟩) s.all.length cA, .bool s.last, .int .i64 (s.rune : Int), .bool s.op]
/-- it lies in block 'rb', its bytes in block 'g' -/
structure SRd (w : World) (rb g : Nat) (s : SR) : Prop where
  lay : ∃ oL cL oA cA, w.heap[rb]? = some (.cells (srCells g oL cL oA cA s) 44 (0, 0)) ∧ BytesA w (some ⟨g, oL, .none⟩) cL s.left ∧ BytesA w (some ⟨g, oA, .none⟩) cA s.all
  ne : rb ≠ g
  glt : g < w.heap.size
  suf : ∃ pre, s.all = pre ++ s.left
theorem SRd.upd {M : Nat → Prop} {w w1 : World} {rb g : Nat} {s : SR} (h : SRd w rb g s) (u : Upd M w w1) (h1 : ¬ M rb) (h2 : ¬ M g) : SRd w1 rb g s := by
  obtain ⟨⟨oL, cL, oA, cA, hb, hl, ha⟩, hne, hg, hs⟩ := h
  exact ⟨⟨oL, cL, oA, cA, u.heap hb h1, hl.upd u (fun p hp _ => by simp only [Option.some.injEq] at hp; subst hp; exact h2), ha.upd u (fun p hp _ => by simp only [Option.some.injEq] at hp; subst hp; exact h2)⟩, hne, by have := u.size; omega, hs⟩
theorem SRd.new {w w1 : World} {rb g : Nat} {s : SR} (h : SRd w rb g s) (u : New w w1) : SRd w1 rb g s := h.upd u (fun h => h) (fun h => h)
theorem SRd.frozen {w : World} {rb g : Nat} {s : SR} (h : SRd w rb g s) (i : Nat) : w.frozen? ⟨rb, i, .none⟩ = false := by
  obtain ⟨⟨oL, cL, oA, cA, hb, _, _⟩, _, _, _⟩ := h
  exact World.frozen_of_heap hb i
/-- an answer's value -/
def AnsV (w : World) (g : Nat) (v : Value) (a : Ans) : Prop :=
  ∃ ab c, v = .agg #[.slice ab a.bytes.length c, .int .i64 a.n, .int .i32 a.rune, .bool a.flag, .int .i64 (a.code : Int)] ∧ BytesA w ab c a.bytes ∧ ∀ p, ab = some p → p.block = g
def Ends (rb g : Nat) (w : World) (s : SR) (w' : World) : Prop := SRd w' rb g s ∧ Upd (fun k => k = rb) w w'
/-- a field written -/
theorem SRd.set {w : World} {rb g : Nat} {s : SR} (h : SRd w rb g s) (s' : SR) (i : Nat) (v : Value) (hc : ∀ oL cL oA cA, srCells g oL cL oA cA s' = (srCells g oL cL oA cA s).setIfInBounds i v) (e1 : s'.left = s.left) (e2 : s'.all = s.all) : SRd (w.setCell ⟨rb, i, none⟩ v) rb g s' := by
  obtain ⟨⟨oL, cL, oA, cA, hb, hl, ha⟩, hne, hg, hs⟩ := h
  have u : Upd (fun k => k = rb) w (w.setCell ⟨rb, i, none⟩ v) := (Upd.refl (fun k => k = rb) w).setCell (fun _ => rfl) v
  refine ⟨⟨oL, cL, oA, cA, by rw [World.heap_setCell_self hb, hc], ?_, ?_⟩, hne, by have := u.size; omega, by rw [e1, e2]; exact hs⟩
  · rw [e1]; exact hl.upd u (fun p hp _ => by simp only [Option.some.injEq] at hp; subst hp; exact fun hh => hne hh.symm)
  · rw [e2]; exact ha.upd u (fun p hp _ => by simp only [Option.some.injEq] at hp; subst hp; exact fun hh => hne hh.symm)
theorem SRd.setLast {w : World} {rb g : Nat} {s : SR} (h : SRd w rb g s) (x : Bool) : SRd (w.setCell ⟨rb, 4, none⟩ (.bool x)) rb g { s with last := x } := h.set _ _ _ (fun _ _ _ _ => rfl) rfl rfl
theorem SRd.setRune {w : World} {rb g : Nat} {s : SR} (h : SRd w rb g s) (x : Nat) : SRd (w.setCell ⟨rb, 5, none⟩ (.int .i64 (x : Int))) rb g { s with rune := x } := h.set _ _ _ (fun _ _ _ _ => rfl) rfl rfl
theorem SRd.setOp {w : World} {rb g : Nat} {s : SR} (h : SRd w rb g s) (x : Bool) : SRd (w.setCell ⟨rb, 6, none⟩ (.bool x)) rb g { s with op := x } := h.set _ _ _ (fun _ _ _ _ => rfl) rfl rfl
theorem size_setCell' (w : World) (p : Addr) (v : Value) : (w.setCell p v).heap.size = w.heap.size := by simp
def SR.peek (s : SR) (n : Int) : Ans × SR :=
  if n < 0 then (⟨[], 0, 0, false, 4⟩, { s with op := true })
  else if (s.size : Int) < n then (⟨s.left.take s.size, 0, 0, false, 3⟩, { s with last := false, rune := 0, op := false })
  else if (s.left.length : Int) < n then (⟨s.left, 0, 0, false, s.endc⟩, { s with last := false, rune := 0, op := false })
  else (⟨s.left.take n.toNat, 0, 0, false, 0⟩, { s with last := false, rune := 0, op := false })
set_option maxRecDepth 100000 in
set_option maxHeartbeats 1000000 in
theorem specPeek {w : World} {rb g : Nat} {s : SR} (h : SRd w rb g s) (n : Int) (hn : n ≤ 65536) :
    Calls Tryd.prog 47 #[.pointer (some ⟨rb, 0, none⟩), .int .i64 n] w (Ret fun v w' => Ends rb g w (s.peek n).2 w' ∧ AnsV w' g v (s.peek n).1) := by
  have H := Lib.hid h
  obtain ⟨⟨oL, cL, oA, cA, hb, hl, ha⟩, hne, hg, hs⟩ := h
  have HB := Lib.hid hb
  have HL := Lib.hid hl
  have HA := Lib.hid ha
  have l1 := hl.1
  have l2 := hl.2.1
  unfold maxLen at l2
  have c0 : w.cell? ⟨rb, 0, none⟩ = some (.slice (some ⟨g, oL, none⟩) s.left.length cL) := by rw [World.cell_of_heap hb]; rfl
  have c1 : w.cell? ⟨rb, 1, none⟩ = some (.int .i64 (s.size : Int)) := by rw [World.cell_of_heap hb]; rfl
  have c2 : w.cell? ⟨rb, 2, none⟩ = some (.int .i64 (s.endc : Int)) := by rw [World.cell_of_heap hb]; rfl
  have c4 : w.cell? ⟨rb, 4, none⟩ = some (.bool s.last) := by rw [World.cell_of_heap hb]; rfl
  have c5 : w.cell? ⟨rb, 5, none⟩ = some (.int .i64 (s.rune : Int)) := by rw [World.cell_of_heap hb]; rfl
  have c6 : w.cell? ⟨rb, 6, none⟩ = some (.bool s.op) := by rw [World.cell_of_heap hb]; rfl
  have hf : ∀ cs : Array Value, ∀ i, (w.alloc (.cells cs 59)).frozen? ⟨rb, i, none⟩ = false := fun cs i => World.frozen_of_heap (((Upd.refl (fun _ => False) w).alloc (.cells cs 59)).heap hb (fun h => h)) i
  have hrb : rb < w.heap.size := (Array.getElem?_eq_some_iff.1 hb).1
  have hrn : rb ≠ w.heap.size := by omega
  have hrn' : w.heap.size ≠ rb := by omega
  clear hb hl ha hs hne hg
  by_cases h0 : n < 0
  · have e : s.peek n = (⟨[], 0, 0, false, 4⟩, { s with op := true }) := if_pos h0
    rw [e]
    go_enter Tryd.func47, Tryd.ntmps47
    go_wp2
    refine bodyPost_ret (results_cell_row rfl _ _ w.heap.size 59 #[.slice none 0 0, .int .i64 0, .int .i32 0, .bool false, .int .i64 4] (0, 0) _ rfl ?_ Tryd.underlying59 rfl (by kernel_rfl)) rfl ?_
    · rw [← size_setCell' w ⟨rb, 6, none⟩ (.bool true)]; exact heap_alloc_new _ _
    · refine ⟨⟨(H.out.setOp true).new ((Upd.refl _ _).alloc _), ((Upd.refl (fun k => k = rb) w).setCell (fun _ => rfl) _).alloc _⟩, none, 0, rfl, ⟨Nat.le_refl _, Nat.zero_le _, fun _ => rfl, fun p hp => by cases hp⟩, fun p hp => by cases hp⟩
  have hf1 : ∀ (cs : Array Value) (x : Bool) (i : Nat), ((w.setCell ⟨rb, 4, none⟩ (.bool x)).alloc (.cells cs 59)).frozen? ⟨rb, i, none⟩ = false := fun cs x i => ((H.out.setLast x).new ((Upd.refl _ _).alloc _)).frozen i
  have hf2 : ∀ (cs : Array Value) (x : Bool) (i : Nat), (((w.setCell ⟨rb, 4, none⟩ (.bool x)).setCell ⟨rb, 5, none⟩ (.int .i64 0)).alloc (.cells cs 59)).frozen? ⟨rb, i, none⟩ = false := fun cs x i => (((H.out.setLast x).setRune 0).new ((Upd.refl _ _).alloc _)).frozen i
  have HFIN : Hid (∀ (k code : Nat) (w' : World), k ≤ s.left.length → New ((((w.setCell ⟨rb, 4, none⟩ (.bool false)).setCell ⟨rb, 5, none⟩ (.int .i64 0)).setCell ⟨rb, 6, none⟩ (.bool false)).alloc (.cells #[.slice (some ⟨g, oL, none⟩) k cL, .int .i64 0, .int .i32 0, .bool false, .int .i64 (code : Int)] 59)) w' →
      w'.heap[w.heap.size]? = some (.cells #[.slice (some ⟨g, oL, none⟩) k cL, .int .i64 0, .int .i32 0, .bool false, .int .i64 (code : Int)] 59 (0, 0)) ∧
      Ends rb g w { s with last := false, rune := 0, op := false } w' ∧ AnsV w' g (.agg #[.slice (some ⟨g, oL, none⟩) k cL, .int .i64 0, .int .i32 0, .bool false, .int .i64 (code : Int)]) ⟨s.left.take k, 0, 0, false, code⟩) := fun k code w' hk hn' => by
    have hu : Upd (fun k => k = rb) w w' := (((((Upd.refl (fun k => k = rb) w).setCell (fun _ => rfl) _).setCell (fun _ => rfl) _).setCell (fun _ => rfl) _).alloc _).andNew hn'
    have hl : (s.left.take k).length = k := by rw [List.length_take]; omega
    refine ⟨?_, ⟨((((H.out.setLast false).setRune 0).setOp false).new ((Upd.refl _ _).alloc _)).new hn', hu⟩, some ⟨g, oL, none⟩, cL, by rw [hl], ?_, fun p hp => by simp only [Option.some.injEq] at hp; subst hp; rfl⟩
    · refine hn'.heap ?_ (fun h => h)
      exact (congrArg (fun i => ((((w.setCell ⟨rb, 4, none⟩ (.bool false)).setCell ⟨rb, 5, none⟩ (.int .i64 0)).setCell ⟨rb, 6, none⟩ (.bool false)).alloc (.cells #[.slice (some ⟨g, oL, none⟩) k cL, .int .i64 0, .int .i32 0, .bool false, .int .i64 (code : Int)] 59)).heap[i]?) (show w.heap.size = (((w.setCell ⟨rb, 4, none⟩ (.bool false)).setCell ⟨rb, 5, none⟩ (.int .i64 0)).setCell ⟨rb, 6, none⟩ (.bool false)).heap.size by simp)).trans (heap_alloc_new _ _)
    · exact (HL.out.take k).upd hu (fun p hp _ => by simp only [Option.some.injEq] at hp; subst hp; exact fun hh => H.out.ne hh.symm)
  by_cases h1 : (s.size : Int) < n
  · by_cases hm : s.left.length < s.size
    · have e : s.peek n = (⟨s.left.take s.left.length, 0, 0, false, 3⟩, { s with last := false, rune := 0, op := false }) := ((if_neg h0).trans (if_pos h1)).trans (by rw [List.take_length, List.take_of_length_le (by omega)])
      rw [e]
      go_enter Tryd.func47, Tryd.ntmps47
      go_wp2
      refine wp_region_lx {} (by kernel_rfl) (by kernel_rfl) ⟨fun _ _ _ h => h.2, fun _ _ h => h⟩ ?_
      repeat (refine wpLx_calm rfl rfl rfl (fun K hK => ?_); go_step; refine hK _ ?_; clear hK K)
      refine wpLx_eff rfl rfl rfl (fun K hK => ?_)
      go_step
      refine hK _ _ ?_
      clear hK K
      refine wpLx_nil ?_
      go_wp2
      have fin := HFIN.out s.left.length 3 _ (by omega) (Upd.refl _ _).drew
      exact bodyPost_ret (results_cell_row rfl _ _ w.heap.size 59 _ (0, 0) _ rfl fin.1 Tryd.underlying59 rfl (by kernel_rfl)) rfl fin.2
    · have e : s.peek n = (⟨s.left.take s.size, 0, 0, false, 3⟩, { s with last := false, rune := 0, op := false }) := (if_neg h0).trans (if_pos h1)
      rw [e]
      go_enter Tryd.func47, Tryd.ntmps47
      go_wp2
      refine wp_region_lx {} (by kernel_rfl) (by kernel_rfl) ⟨fun _ _ _ h => h.2, fun _ _ h => h⟩ ?_
      repeat (refine wpLx_calm rfl rfl rfl (fun K hK => ?_); go_step; refine hK _ ?_; clear hK K)
      refine wpLx_eff rfl rfl rfl (fun K hK => ?_)
      go_step
      refine hK _ _ ?_
      clear hK K
      refine wpLx_nil ?_
      go_wp2
      have fin := HFIN.out s.size 3 _ (by omega) (Upd.refl _ _).drew
      exact bodyPost_ret (results_cell_row rfl _ _ w.heap.size 59 _ (0, 0) _ rfl fin.1 Tryd.underlying59 rfl (by kernel_rfl)) rfl fin.2
  · by_cases h2 : (s.left.length : Int) < n
    · have e : s.peek n = (⟨s.left.take s.left.length, 0, 0, false, s.endc⟩, { s with last := false, rune := 0, op := false }) := ((if_neg h0).trans ((if_neg h1).trans (if_pos h2))).trans (by rw [List.take_length])
      rw [e]
      go_enter Tryd.func47, Tryd.ntmps47
      go_wp2
      refine wp_region_lx {} (by kernel_rfl) (by kernel_rfl) ⟨fun _ _ _ h => h.2, fun _ _ h => h⟩ ?_
      repeat (refine wpLx_calm rfl rfl rfl (fun K hK => ?_); go_step; refine hK _ ?_; clear hK K)
      refine wpLx_eff rfl rfl rfl (fun K hK => ?_)
      go_step
      refine hK _ _ ?_
      clear hK K
      refine wpLx_nil ?_
      go_wp2
      have fin := HFIN.out s.left.length s.endc _ (by omega) (Upd.refl _ _).drew
      exact bodyPost_ret (results_cell_row rfl _ _ w.heap.size 59 _ (0, 0) _ rfl fin.1 Tryd.underlying59 rfl (by kernel_rfl)) rfl fin.2
    · obtain ⟨m, rfl⟩ := Int.eq_ofNat_of_zero_le (show 0 ≤ n by omega)
      have e : s.peek (m : Int) = (⟨s.left.take m, 0, 0, false, 0⟩, { s with last := false, rune := 0, op := false }) := (if_neg h0).trans ((if_neg h1).trans (if_neg h2))
      rw [e]
      go_enter Tryd.func47, Tryd.ntmps47
      go_wp2
      have fin := HFIN.out m 0 _ (by omega) (Upd.refl _ _)
      exact bodyPost_ret (results_cell_row rfl _ _ w.heap.size 59 _ (0, 0) _ rfl fin.1 Tryd.underlying59 rfl (by kernel_rfl)) rfl fin.2
end Go.Proofs.YtmmjfpcmempeeaaDoor
