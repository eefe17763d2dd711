/- Texts of one kind, one behind the other. -/
import Derived.Test.YtmmjfpcmempeeaaDoorM2
import Derived.Test.YtmmjfpcmempeeaaDoorM1
import Derived.Handy
import Derived.Laws.ResultCell
import Derived.Test.YtmmjfpcmempeeaaDoorM3
/- spec.Reader in memory. -/
namespace Go.Proofs.YtmmjfpcmempeeaaDoor
open Go.RowKit
/-- where the law's own reader stands -/
structure SR where
  left : List UInt8
  all : List UInt8
  size : Nat
  endc : Nat
  last : Bool
  rune : Nat
  op : Bool
/-- what a step answers -/
structure Ans where
  bytes : List UInt8
  n : Int
  rune : Int
  flag : Bool
  code : Nat
def Ans.none : Ans := ⟨[], 0, 0, false, 0⟩
def srCells (g oL cL oA cA : Nat) (s : SR) : Array Value :=
  #[.slice (some ⟨g, oL, .none⟩) s.left.length cL, .int .i64 (s.size : Int), .int .i64 (s.endc : Int), .slice (some ⟨g, oA, .none⟩) s.all.length cA, .bool s.last, .int .i64 (s.rune : Int), .bool s.op]
/-- it lies in block 'rb', its bytes in block 'g' -/
structure SRd (w : World) (rb g : Nat) (s : SR) : Prop where
  lay : ∃ oL cL oA cA, w.heap[rb]? = some (.cells (srCells g oL cL oA cA s) 44 (0, 0)) ∧ BytesA w (some ⟨g, oL, .none⟩) cL s.left ∧ BytesA w (some ⟨g, oA, .none⟩) cA s.all
  ne : rb ≠ g
  glt : g < w.heap.size
  suf : ∃ pre, s.all = pre ++ s.left
theorem SRd.upd {M : Nat → Prop} {w w1 : World} {rb g : Nat} {s : SR} (h : SRd w rb g s) (u : Upd M w w1) (h1 : ¬ M rb) (h2 : ¬ M g) : SRd w1 rb g s := by
  obtain ⟨⟨oL, cL, oA, cA, hb, hl, ha⟩, hne, hg, hs⟩ := h
  exact ⟨⟨oL, cL, oA, cA, u.heap hb h1, hl.upd u (fun p hp _ => by simp only [Option.some.injEq] at hp; subst hp; exact h2), ha.upd u (fun p hp _ => by simp only [Option.some.injEq] at hp; subst hp; exact h2)⟩, hne, by have := u.size; omega, hs⟩
theorem SRd.new {w w1 : World} {rb g : Nat} {s : SR} (h : SRd w rb g s) (u : New w w1) : SRd w1 rb g s := h.upd u (fun h => h) (fun h => h)
theorem SRd.frozen {w : World} {rb g : Nat} {s : SR} (h : SRd w rb g s) (i : Nat) : w.frozen? ⟨rb, i, .none⟩ = false := by
  obtain ⟨⟨oL, cL, oA, cA, hb, _, _⟩, _, _, _⟩ := h
  exact World.frozen_of_heap hb i
/-- an answer's value -/
def AnsV (w : World) (g : Nat) (v : Value) (a : Ans) : Prop :=
  ∃ ab c, v = .agg #[.slice ab a.bytes.length c, .int .i64 a.n, .int .i32 a.rune, .bool a.flag, .int .i64 (a.code : Int)] ∧ BytesA w ab c a.bytes ∧ ∀ p, ab = some p → p.block = g
def Ends (rb g : Nat) (w : World) (s : SR) (w' : World) : Prop := SRd w' rb g s ∧ Upd (fun k => k = rb) w w'
/-- a field written -/
theorem SRd.set {w : World} {rb g : Nat} {s : SR} (h : SRd w rb g s) (s' : SR) (i : Nat) (v : Value) (hc : ∀ oL cL oA cA, srCells g oL cL oA cA s' = (srCells g oL cL oA cA s).setIfInBounds i v) (e1 : s'.left = s.left) (e2 : s'.all = s.all) : SRd (w.setCell ⟨rb, i, none⟩ v) rb g s' := by
  obtain ⟨⟨oL, cL, oA, cA, hb, hl, ha⟩, hne, hg, hs⟩ := h
  have u : Upd (fun k => k = rb) w (w.setCell ⟨rb, i, none⟩ v) := (Upd.refl (fun k => k = rb) w).setCell (fun _ => rfl) v
  refine ⟨⟨oL, cL, oA, cA, by rw [World.heap_setCell_self hb, hc], ?_, ?_⟩, hne, by have := u.size; omega, by rw [e1, e2]; exact hs⟩
  · rw [e1]; exact hl.upd u (fun p hp _ => by simp only [Option.some.injEq] at hp; subst hp; exact fun hh => hne hh.symm)
  · rw [e2]; exact ha.upd u (fun p hp _ => by simp only [Option.some.injEq] at hp; subst hp; exact fun hh => hne hh.symm)
theorem SRd.setLast {w : World} {rb g : Nat} {s : SR} (h : SRd w rb g s) (x : Bool) : SRd (w.setCell ⟨rb, 4, none⟩ (.bool x)) rb g { s with last := x } := h.set _ _ _ (fun _ _ _ _ => rfl) rfl rfl
theorem SRd.setRune {w : World} {rb g : Nat} {s : SR} (h : SRd w rb g s) (x : Nat) : SRd (w.setCell ⟨rb, 5, none⟩ (.int .i64 (x : Int))) rb g { s with rune := x } := h.set _ _ _ (fun _ _ _ _ => rfl) rfl rfl
theorem SRd.setOp {w : World} {rb g : Nat} {s : SR} (h : SRd w rb g s) (x : Bool) : SRd (w.setCell ⟨rb, 6, none⟩ (.bool x)) rb g { s with op := x } := h.set _ _ _ (fun _ _ _ _ => rfl) rfl rfl
theorem size_setCell' (w : World) (p : Addr) (v : Value) : (w.setCell p v).heap.size = w.heap.size := by simp
def SR.peek (s : SR) (n : Int) : Ans × SR :=
  if n < 0 then (⟨[], 0, 0, false, 4⟩, { s with op := true })
  else if (s.size : Int) < n then (⟨s.left.take s.size, 0, 0, false, 3⟩, { s with last := false, rune := 0, op := false })
  else if (s.left.length : Int) < n then (⟨s.left, 0, 0, false, s.endc⟩, { s with last := false, rune := 0, op := false })
  else (⟨s.left.take n.toNat, 0, 0, false, 0⟩, { s with last := false, rune := 0, op := false })
set_option maxRecDepth 100000 in
set_option maxHeartbeats 1000000 in
theorem specPeek {w : World} {rb g : Nat} {s : SR} (h : SRd w rb g s) (n : Int) (hn : n ≤ 9223372036854775807) :
    Calls Tryd.prog 47 #[.pointer (some ⟨rb, 0, none⟩), .int .i64 n] w (Ret fun v w' => Ends rb g w (s.peek n).2 w' ∧ AnsV w' g v (s.peek n).1) := by
  have H := Lib.hid h
  obtain ⟨⟨oL, cL, oA, cA, hb, hl, ha⟩, hne, hg, hs⟩ := h
  have HB := Lib.hid hb
  have HL := Lib.hid hl
  have HA := Lib.hid ha
  have l1 := hl.1
  have l2 := hl.2.1
  unfold maxLen at l2
  have c0 : w.cell? ⟨rb, 0, none⟩ = some (.slice (some ⟨g, oL, none⟩) s.left.length cL) := by rw [World.cell_of_heap hb]; rfl
  have c1 : w.cell? ⟨rb, 1, none⟩ = some (.int .i64 (s.size : Int)) := by rw [World.cell_of_heap hb]; rfl
  have c2 : w.cell? ⟨rb, 2, none⟩ = some (.int .i64 (s.endc : Int)) := by rw [World.cell_of_heap hb]; rfl
  have c4 : w.cell? ⟨rb, 4, none⟩ = some (.bool s.last) := by rw [World.cell_of_heap hb]; rfl
  have c5 : w.cell? ⟨rb, 5, none⟩ = some (.int .i64 (s.rune : Int)) := by rw [World.cell_of_heap hb]; rfl
  have c6 : w.cell? ⟨rb, 6, none⟩ = some (.bool s.op) := by rw [World.cell_of_heap hb]; rfl
  have hf : ∀ cs : Array Value, ∀ i, (w.alloc (.cells cs 59)).frozen? ⟨rb, i, none⟩ = false := fun cs i => World.frozen_of_heap (((Upd.refl (fun _ => False) w).alloc (.cells cs 59)).heap hb (fun h => h)) i
  have hrb : rb < w.heap.size := (Array.getElem?_eq_some_iff.1 hb).1
  have hrn : rb ≠ w.heap.size := by omega
  have hrn' : w.heap.size ≠ rb := by omega
  clear hb hl ha hs hne hg
  by_cases h0 : n < 0
  · have e : s.peek n = (⟨[], 0, 0, false, 4⟩, { s with op := true }) := if_pos h0
    rw [e]
    go_enter Tryd.func47, Tryd.ntmps47
    go_wp2
    refine bodyPost_ret (results_cell_row rfl _ _ w.heap.size 59 #[.slice none 0 0, .int .i64 0, .int .i32 0, .bool false, .int .i64 4] (0, 0) _ rfl ?_ Tryd.underlying59 rfl (by kernel_rfl)) rfl ?_
    · rw [← size_setCell' w ⟨rb, 6, none⟩ (.bool true)]; exact heap_alloc_new _ _
    · refine ⟨⟨(H.out.setOp true).new ((Upd.refl _ _).alloc _), ((Upd.refl (fun k => k = rb) w).setCell (fun _ => rfl) _).alloc _⟩, none, 0, rfl, ⟨Nat.le_refl _, Nat.zero_le _, fun _ => rfl, fun p hp => by cases hp⟩, fun p hp => by cases hp⟩
  have hf1 : ∀ (cs : Array Value) (x : Bool) (i : Nat), ((w.setCell ⟨rb, 4, none⟩ (.bool x)).alloc (.cells cs 59)).frozen? ⟨rb, i, none⟩ = false := fun cs x i => ((H.out.setLast x).new ((Upd.refl _ _).alloc _)).frozen i
  have hf2 : ∀ (cs : Array Value) (x : Bool) (i : Nat), (((w.setCell ⟨rb, 4, none⟩ (.bool x)).setCell ⟨rb, 5, none⟩ (.int .i64 0)).alloc (.cells cs 59)).frozen? ⟨rb, i, none⟩ = false := fun cs x i => (((H.out.setLast x).setRune 0).new ((Upd.refl _ _).alloc _)).frozen i
  have HFIN : Hid (∀ (k code : Nat) (w' : World), k ≤ s.left.length → New ((((w.setCell ⟨rb, 4, none⟩ (.bool false)).setCell ⟨rb, 5, none⟩ (.int .i64 0)).setCell ⟨rb, 6, none⟩ (.bool false)).alloc (.cells #[.slice (some ⟨g, oL, none⟩) k cL, .int .i64 0, .int .i32 0, .bool false, .int .i64 (code : Int)] 59)) w' →
      w'.heap[w.heap.size]? = some (.cells #[.slice (some ⟨g, oL, none⟩) k cL, .int .i64 0, .int .i32 0, .bool false, .int .i64 (code : Int)] 59 (0, 0)) ∧
      Ends rb g w { s with last := false, rune := 0, op := false } w' ∧ AnsV w' g (.agg #[.slice (some ⟨g, oL, none⟩) k cL, .int .i64 0, .int .i32 0, .bool false, .int .i64 (code : Int)]) ⟨s.left.take k, 0, 0, false, code⟩) := fun k code w' hk hn' => by
    have hu : Upd (fun k => k = rb) w w' := (((((Upd.refl (fun k => k = rb) w).setCell (fun _ => rfl) _).setCell (fun _ => rfl) _).setCell (fun _ => rfl) _).alloc _).andNew hn'
    have hl : (s.left.take k).length = k := by rw [List.length_take]; omega
    refine ⟨?_, ⟨((((H.out.setLast false).setRune 0).setOp false).new ((Upd.refl _ _).alloc _)).new hn', hu⟩, some ⟨g, oL, none⟩, cL, by rw [hl], ?_, fun p hp => by simp only [Option.some.injEq] at hp; subst hp; rfl⟩
    · refine hn'.heap ?_ (fun h => h)
      exact (congrArg (fun i => ((((w.setCell ⟨rb, 4, none⟩ (.bool false)).setCell ⟨rb, 5, none⟩ (.int .i64 0)).setCell ⟨rb, 6, none⟩ (.bool false)).alloc (.cells #[.slice (some ⟨g, oL, none⟩) k cL, .int .i64 0, .int .i32 0, .bool false, .int .i64 (code : Int)] 59)).heap[i]?) (show w.heap.size = (((w.setCell ⟨rb, 4, none⟩ (.bool false)).setCell ⟨rb, 5, none⟩ (.int .i64 0)).setCell ⟨rb, 6, none⟩ (.bool false)).heap.size by simp)).trans (heap_alloc_new _ _)
    · exact (HL.out.take k).upd hu (fun p hp _ => by simp only [Option.some.injEq] at hp; subst hp; exact fun hh => H.out.ne hh.symm)
  by_cases h1 : (s.size : Int) < n
  · by_cases hm : s.left.length < s.size
    · have e : s.peek n = (⟨s.left.take s.left.length, 0, 0, false, 3⟩, { s with last := false, rune := 0, op := false }) := ((if_neg h0).trans (if_pos h1)).trans (by rw [List.take_length, List.take_of_length_le (by omega)])
      rw [e]
      go_enter Tryd.func47, Tryd.ntmps47
      go_wp2
      refine wp_region_lx {} (by kernel_rfl) (by kernel_rfl) ⟨fun _ _ _ h => h.2, fun _ _ h => h⟩ ?_
      repeat (refine wpLx_calm rfl rfl rfl (fun K hK => ?_); go_step; refine hK _ ?_; clear hK K)
      refine wpLx_eff rfl rfl rfl (fun K hK => ?_)
      go_step
      refine hK _ _ ?_
      clear hK K
      refine wpLx_nil ?_
      go_wp2
      have fin := HFIN.out s.left.length 3 _ (by omega) (Upd.refl _ _).drew
      exact bodyPost_ret (results_cell_row rfl _ _ w.heap.size 59 _ (0, 0) _ rfl fin.1 Tryd.underlying59 rfl (by kernel_rfl)) rfl fin.2
    · have e : s.peek n = (⟨s.left.take s.size, 0, 0, false, 3⟩, { s with last := false, rune := 0, op := false }) := (if_neg h0).trans (if_pos h1)
      rw [e]
      go_enter Tryd.func47, Tryd.ntmps47
      go_wp2
      refine wp_region_lx {} (by kernel_rfl) (by kernel_rfl) ⟨fun _ _ _ h => h.2, fun _ _ h => h⟩ ?_
      repeat (refine wpLx_calm rfl rfl rfl (fun K hK => ?_); go_step; refine hK _ ?_; clear hK K)
      refine wpLx_eff rfl rfl rfl (fun K hK => ?_)
      go_step
      refine hK _ _ ?_
      clear hK K
      refine wpLx_nil ?_
      go_wp2
      have fin := HFIN.out s.size 3 _ (by omega) (Upd.refl _ _).drew
      exact bodyPost_ret (results_cell_row rfl _ _ w.heap.size 59 _ (0, 0) _ rfl fin.1 Tryd.underlying59 rfl (by kernel_rfl)) rfl fin.2
  · by_cases h2 : (s.left.length : Int) < n
    · have e : s.peek n = (⟨s.left.take s.left.length, 0, 0, false, s.endc⟩, { s with last := false, rune := 0, op := false }) := ((if_neg h0).trans ((if_neg h1).trans (if_pos h2))).trans (by rw [List.take_length])
      rw [e]
      go_enter Tryd.func47, Tryd.ntmps47
      go_wp2
      refine wp_region_lx {} (by kernel_rfl) (by kernel_rfl) ⟨fun _ _ _ h => h.2, fun _ _ h => h⟩ ?_
      repeat (refine wpLx_calm rfl rfl rfl (fun K hK => ?_); go_step; refine hK _ ?_; clear hK K)
      refine wpLx_eff rfl rfl rfl (fun K hK => ?_)
      go_step
      refine hK _ _ ?_
      clear hK K
      refine wpLx_nil ?_
      go_wp2
      have fin := HFIN.out s.left.length s.endc _ (by omega) (Upd.refl _ _).drew
      exact bodyPost_ret (results_cell_row rfl _ _ w.heap.size 59 _ (0, 0) _ rfl fin.1 Tryd.underlying59 rfl (by kernel_rfl)) rfl fin.2
    · obtain ⟨m, rfl⟩ := Int.eq_ofNat_of_zero_le (show 0 ≤ n by omega)
      have e : s.peek (m : Int) = (⟨s.left.take m, 0, 0, false, 0⟩, { s with last := false, rune := 0, op := false }) := (if_neg h0).trans ((if_neg h1).trans (if_neg h2))
      rw [e]
      go_enter Tryd.func47, Tryd.ntmps47
      go_wp2
      have fin := HFIN.out m 0 _ (by omega) (Upd.refl _ _)
      exact bodyPost_ret (results_cell_row rfl _ _ w.heap.size 59 _ (0, 0) _ rfl fin.1 Tryd.underlying59 rfl (by kernel_rfl)) rfl fin.2
end Go.Proofs.YtmmjfpcmempeeaaDoor
/- spec.NewReader. -/
namespace Go.Proofs.YtmmjfpcmempeeaaDoor
open Go.RowKit
theorem specEndC (a : Option Addr) (n c : Nat) (f : Bool) (w : World) :
    Calls Tryd.prog 12 #[.agg #[.slice a n c, .bool f]] w (Ret fun v w' => New w w' ∧ v = .int .i64 (endc f : Int)) := by
  refine callRet (specEnd a n c f w) ?_
  rintro v w' ⟨h, rfl⟩
  exact ⟨h, by cases f <;> rfl⟩
theorem specSize (n : Nat) (hn : n ≤ 5000) (w : World) :
    Calls Tryd.prog 37 #[.int .i64 (n : Int)] w (Ret fun v' w' => w = w' ∧ v' = .int .i64 ((max n 16 : Nat) : Int)) := by
  by_cases h : n < 16
  · rw [show max n 16 = 16 by omega]
    go_enter Tryd.func37, Tryd.ntmps37
    go_wp2
    all_goals go_ret
    all_goals first | exact ⟨rfl, rfl⟩ | skip
  · rw [show max n 16 = n by omega]
    go_enter Tryd.func37, Tryd.ntmps37
    go_wp2
    all_goals go_ret
    all_goals first | exact ⟨rfl, rfl⟩ | skip
def startSR (n : Nat) (all : List UInt8) (f : Bool) : SR := ⟨all, all, max n 16, endc f, false, 0, false⟩
/-- a new one's value, and its bytes -/
def NewSR (w : World) (s : SR) (v : Value) (w' : World) : Prop :=
  New w w' ∧ ∃ g c, v = .agg (srCells g 0 c 0 c s) ∧ w.heap.size ≤ g ∧ g < w'.heap.size ∧ BytesA w' (some ⟨g, 0, none⟩) c s.all
set_option maxRecDepth 100000 in
set_option maxHeartbeats 1000000 in
theorem specNewReader {w : World} {a : Option Addr} {c sz : Nat} {ps : List (List UInt8)} (f : Bool) (h : PiecesA w a c ps) (hl : ps.flatten.length ≤ 20000) (hsz : sz ≤ 5000) :
    Calls Tryd.prog 18 #[.agg #[.slice a ps.length c, .bool f], .int .i64 (sz : Int)] w (Ret (NewSR w (startSR sz ps.flatten f))) := by
  have HP := Lib.hid h
  have HL := Lib.hid hl
  obtain ⟨m, hm⟩ : ∃ m, ps.flatten.length = m := ⟨_, rfl⟩
  have HM := Lib.hid hm
  have hw1 : ∀ cs1 cs2 : Array Value, ∀ t1 t2 : TypeId, New w ((w.alloc (.cells cs1 t1)).alloc (.cells cs2 t2)) := fun cs1 cs2 t1 t2 => ((Upd.refl _ _).alloc _).alloc _
  clear h hl hm
  have hkey : ∀ (cs2 : Array Value) (w2 : World), New ((w.alloc (.cells #[.slice a ps.length c, .bool f] 24)).alloc (.cells cs2 44)) w2 →
      w2.cell? ⟨w.heap.size, 0, none⟩ = some (.slice a ps.length c) ∧ w2.cell? ⟨w.heap.size, 1, none⟩ = some (.bool f) ∧ w2.heap[w.heap.size + 1]? = some (.cells cs2 44 (0, 0)) ∧ New w w2 := fun cs2 w2 hn => by
    have hn1 : New (w.alloc (.cells #[.slice a ps.length c, .bool f] 24)) w2 := ((Upd.refl _ _).alloc _).andNew hn
    refine ⟨box_new hn1 (i := 0) rfl, box_new hn1 (i := 1) rfl, hn.heap ?_ (fun h => h), (hw1 _ _ _ _).andNew hn⟩
    have := heap_alloc_new (w.alloc (.cells #[.slice a ps.length c, .bool f] 24)) (.cells cs2 44)
    simpa using this
  go_enter Tryd.func18, Tryd.ntmps18
  go_wp2_with (go_at_call 11; refine callRet (specJoined _ _ _ _ (HP.out.new (hw1 _ _ _ _)) (by have := HL.out; omega)) ?_; intro v w2 hv; obtain ⟨b0, b1, hb2, hn2⟩ := hkey _ _ hv.1; have HB2 := Lib.hid hb2; have HN2 := Lib.hid hn2; obtain ⟨g, cp, rfl, hg1, hg2, hby⟩ := hv.bytes; have HG := Lib.hid (And.intro hg1 hg2); rw [HM.out]; have HBY := Lib.hid hby; clear hv hby hb2 hn2 hg1 hg2 hkey)
  refine wp_region_lx { qd := [12] } (by kernel_rfl) (by kernel_rfl) ⟨fun _ _ _ h => h.2, fun _ _ h => h⟩ ?_
  repeat (refine wpLx_calm rfl rfl rfl (fun K hK => ?_); go_step; refine hK _ ?_; clear hK K)
  refine wpLx_call rfl rfl rfl (specSize sz hsz _) (by kernel_rfl) ?_
  repeat (refine wpLx_calm rfl rfl rfl (fun K hK => ?_); go_step; refine hK _ ?_; clear hK K)
  refine wpLx_eff rfl rfl rfl (fun K hK => ?_)
  go_step
  refine callRet (specEndC _ _ _ _ _) ?_
  rintro v w3 ⟨hn3, rfl⟩
  refine hK _ _ ?_
  clear hK K
  repeat (refine wpLx_calm rfl rfl rfl (fun K hK => ?_); go_step; refine hK _ ?_; clear hK K)
  have hb3 := hn3.heap (show w2.drew.heap[w.heap.size + 1]? = _ from HB2.out) (fun h => h)
  refine wpLx_eff rfl rfl rfl (fun K hK => ?_)
  refine wp_storeAll (n := 7) (by kernel_rfl) (.tmp 4) (.tmp 15) rfl (w.heap.size + 1) rfl #[.slice (some ⟨g, 0, none⟩) m cp, .int .i64 ((max sz 16 : Nat) : Int), .int .i64 (endc f : Int), .slice (some ⟨g, 0, none⟩) m cp, .bool false, .int .i64 0, .bool false] rfl rfl (by simp [Value.oneCell']) _ _ hb3 rfl ?_
  intro w4 h4 u4 z4
  refine hK _ _ ?_
  clear hK K
  refine wpLx_nil ?_
  go_wp2
  refine bodyPost_ret (results_cell_row rfl _ _ (w.heap.size + 1) 44 _ (0, 0) _ rfl h4 Tryd.underlying44 rfl (by kernel_rfl)) rfl ?_
  have hn4 : New w w4 := (HN2.out.drew.andNew hn3).trans u4 (fun k hk hlt => by have hk : k = w.heap.size + 1 := hk; omega)
  have hs3 : w2.heap.size ≤ w3.heap.size := hn3.size
  have hg := HG.out
  have hsz2 : ((w.alloc (.cells #[.slice a ps.length c, .bool f] 24)).alloc (.cells #[.slice none 0 0, .int .i64 0, .int .i64 0, .slice none 0 0, .bool false, .int .i64 0, .bool false] 44)).heap.size = w.heap.size + 2 := by simp
  refine ⟨hn4, g, cp, ?_, ?_, ?_, ?_⟩
  · show Value.agg _ = Value.agg (srCells g 0 cp 0 cp (startSR sz ps.flatten f))
    simp only [srCells, startSR, HM.out]
    rfl
  · have := hg.1; omega
  · have := hg.2; omega
  · exact (HBY.out.new ((Upd.refl _ _).drew.andNew hn3)).upd u4 (fun p hp _ hh => by
      simp only [Option.some.injEq] at hp; subst hp
      have hh : g = w.heap.size + 1 := hh
      have := hg.1; omega)
end Go.Proofs.YtmmjfpcmempeeaaDoor
/- spec.Reader's take, back, undo, discard. -/
namespace Go.Proofs.YtmmjfpcmempeeaaDoor
open Go.RowKit
theorem SRd.setLeft {w : World} {rb g : Nat} {s : SR} (h : SRd w rb g s) {o c : Nat} {bs : List UInt8} (hb : BytesA w (some ⟨g, o, none⟩) c bs) (hs : ∃ pre, s.all = pre ++ bs) : SRd (w.setCell ⟨rb, 0, none⟩ (.slice (some ⟨g, o, none⟩) bs.length c)) rb g { s with left := bs } := by
  obtain ⟨⟨oL, cL, oA, cA, hc, hl, ha⟩, hne, hg, _⟩ := h
  have u : Upd (fun k => k = rb) w (w.setCell ⟨rb, 0, none⟩ (.slice (some ⟨g, o, none⟩) bs.length c)) := (Upd.refl (fun k => k = rb) w).setCell (fun _ => rfl) _
  refine ⟨⟨o, c, oA, cA, by rw [World.heap_setCell_self hc]; rfl, ?_, ?_⟩, hne, by have := u.size; omega, hs⟩
  · exact hb.upd u (fun p hp _ => by simp only [Option.some.injEq] at hp; subst hp; exact fun hh => hne hh.symm)
  · exact ha.upd u (fun p hp _ => by simp only [Option.some.injEq] at hp; subst hp; exact fun hh => hne hh.symm)
def SR.take (s : SR) (n : Nat) (read : Bool) : SR := { s with left := s.left.drop n, last := read && decide (0 < n), rune := 0, op := read && decide (n = 0) }
def SR.back (s : SR) (n : Nat) : SR := { s with left := s.all.drop (s.all.length - s.left.length - n), last := false, rune := 0, op := false }
theorem SRd.cells {w : World} {rb g oL cL oA cA : Nat} {s : SR} (hb : w.heap[rb]? = some (.cells (srCells g oL cL oA cA s) 44 (0, 0))) :
    w.cell? ⟨rb, 0, none⟩ = some (.slice (some ⟨g, oL, none⟩) s.left.length cL) ∧ w.cell? ⟨rb, 1, none⟩ = some (.int .i64 (s.size : Int)) ∧ w.cell? ⟨rb, 2, none⟩ = some (.int .i64 (s.endc : Int)) ∧
    w.cell? ⟨rb, 3, none⟩ = some (.slice (some ⟨g, oA, none⟩) s.all.length cA) ∧ w.cell? ⟨rb, 4, none⟩ = some (.bool s.last) ∧ w.cell? ⟨rb, 5, none⟩ = some (.int .i64 (s.rune : Int)) ∧ w.cell? ⟨rb, 6, none⟩ = some (.bool s.op) ∧ ∀ i, w.frozen? ⟨rb, i, none⟩ = false := by
  refine ⟨?_, ?_, ?_, ?_, ?_, ?_, ?_, fun i => World.frozen_of_heap hb i⟩ <;> (rw [World.cell_of_heap hb]; rfl)
theorem suf_drop {α : Type} {l pre m : List α} (h : l = pre ++ m) (k : Nat) : ∃ pre', l = pre' ++ m.drop k := ⟨pre ++ m.take k, by rw [h, List.append_assoc, List.take_append_drop]⟩
def TakePost (rb g : Nat) (w : World) (s : SR) (n : Nat) (read : Bool) (v : Value) (w' : World) : Prop :=
  Ends rb g w (s.take n read) w' ∧ ∃ o c, v = .slice (some ⟨g, o, none⟩) n c ∧ BytesA w' (some ⟨g, o, none⟩) c (s.left.take n)
set_option maxRecDepth 100000 in
set_option maxHeartbeats 1000000 in
theorem specTake {w : World} {rb g : Nat} {s : SR} (h : SRd w rb g s) (n : Nat) (read : Bool) (hn : n ≤ s.left.length) :
    Calls Tryd.prog 45 #[.pointer (some ⟨rb, 0, none⟩), .int .i64 (n : Int), .bool read] w (Ret (TakePost rb g w s n read)) := by
  have H := Lib.hid h
  obtain ⟨⟨oL, cL, oA, cA, hb, hl, ha⟩, hne, hg, hs⟩ := h
  have HL := Lib.hid hl
  have l1 := hl.1
  have l2 := hl.2.1
  unfold maxLen at l2
  have HS := Lib.hid hs
  obtain ⟨c0, c1, c2, c3, c4, c5, c6, hf⟩ := SRd.cells hb
  have HFIN : Hid (∀ (o c k k2 c2 : Nat) (b1 b2 : Bool) (wx : World), wx = (((w.setCell ⟨rb, 0, none⟩ (.slice (some ⟨g, o, none⟩) k c)).setCell ⟨rb, 4, none⟩ (.bool b1)).setCell ⟨rb, 5, none⟩ (.int .i64 0)).setCell ⟨rb, 6, none⟩ (.bool b2) → (cL = n ∧ o = oL ∧ c = 0) ∨ (cL ≠ n ∧ o = oL + n ∧ c = cL - n) → k = s.left.length - n → k2 = n → c2 = cL → b1 = (read && decide (0 < n)) → b2 = (read && decide (n = 0)) →
      TakePost rb g w s n read (.slice (some ⟨g, oL, none⟩) k2 c2) wx) := by
    intro o c k k2 c2 b1 b2 wx hw hor hk hk2 hc2 hb1 hb2
    subst hb1; subst hb2; rw [hk2, hc2]
    obtain ⟨pre, hpre⟩ := hs
    have hb0 : BytesA w (some ⟨g, o, none⟩) c (s.left.drop n) := by
      have e : s.left.drop n = (s.left.take s.left.length).drop n := by rw [List.take_length]
      rcases hor with ⟨h1, rfl, rfl⟩ | ⟨h1, rfl, rfl⟩
      · rw [e]; exact hl.sub0 (Nat.le_refl _) h1
      · rw [e]; exact hl.sub1 hn (Nat.le_refl _)
    have hk' : k = (s.left.drop n).length := by rw [List.length_drop]; exact hk
    subst hk'
    have hR : SRd wx rb g (s.take n read) := by
      rw [hw]; exact (((H.out.setLeft hb0 (suf_drop hpre n)).setLast _).setRune 0).setOp _
    have hU : Upd (fun k => k = rb) w wx := by
      rw [hw]; exact ((((Upd.refl (fun k => k = rb) w).setCell (fun _ => rfl) _).setCell (fun _ => rfl) _).setCell (fun _ => rfl) _).setCell (fun _ => rfl) _
    refine ⟨⟨hR, hU⟩, oL, cL, rfl, (hl.take n).upd hU (fun p hp _ hh => ?_)⟩
    simp only [Option.some.injEq] at hp; subst hp; exact hne hh.symm
  clear hb hl ha hne hg hs
  rcases Nat.eq_zero_or_pos n with h0 | h0
  · have h1 : n ≤ 0 := by omega
    have q1 : decide ((0 : Int) < (n : Int)) = false := decide_eq_false (by omega)
    have q2 : ((n : Int) == 0) = true := by simp; omega
    clear h0
    cases read
    all_goals
      go_enter Tryd.func45, Tryd.ntmps45
      (go_wp2_with fail; (repeat' (refine wp_region_lx {} (by kernel_rfl) (by kernel_rfl) ⟨fun _ _ _ h => h.2, fun _ _ h => h⟩ ?_; (repeat' (first | (refine wpLx_calm rfl rfl rfl (fun K hK => ?_); go_step <;> (refine hK _ ?_; clear hK K)) | (refine wpLx_skip2 rfl rfl rfl ?_; go_simp) | (refine wpLx_calm2 rfl rfl rfl rfl rfl (fun K hK => ?_); go_step <;> (refine hK _ ?_; clear hK K)))); all_goals (refine wpLx_nil ?_; try go_wp2_with fail))))
      all_goals
        go_ret
        first | exact HFIN.out _ _ _ _ _ _ _ _ rfl (.inl ⟨by omega, rfl, rfl⟩) (by omega) (by omega) (by omega) (by simp <;> omega) (by simp <;> omega) | exact HFIN.out _ _ _ _ _ _ _ _ rfl (.inr ⟨by omega, rfl, rfl⟩) (by omega) (by omega) (by omega) (by simp <;> omega) (by simp <;> omega)
  · have q1 : decide ((0 : Int) < (n : Int)) = true := decide_eq_true (by omega)
    have q2 : ((n : Int) == 0) = false := by simp; omega
    cases read
    all_goals
      go_enter Tryd.func45, Tryd.ntmps45
      (go_wp2_with fail; (repeat' (refine wp_region_lx {} (by kernel_rfl) (by kernel_rfl) ⟨fun _ _ _ h => h.2, fun _ _ h => h⟩ ?_; (repeat' (first | (refine wpLx_calm rfl rfl rfl (fun K hK => ?_); go_step <;> (refine hK _ ?_; clear hK K)) | (refine wpLx_skip2 rfl rfl rfl ?_; go_simp) | (refine wpLx_calm2 rfl rfl rfl rfl rfl (fun K hK => ?_); go_step <;> (refine hK _ ?_; clear hK K)))); all_goals (refine wpLx_nil ?_; try go_wp2_with fail))))
      all_goals
        go_ret
        first | exact HFIN.out _ _ _ _ _ _ _ _ rfl (.inl ⟨by omega, rfl, rfl⟩) (by omega) (by omega) (by omega) (by simp <;> omega) (by simp <;> omega) | exact HFIN.out _ _ _ _ _ _ _ _ rfl (.inr ⟨by omega, rfl, rfl⟩) (by omega) (by omega) (by omega) (by simp <;> omega) (by simp <;> omega)
def BackPost (rb g : Nat) (w : World) (s : SR) (n : Nat) (v : Value) (w' : World) : Prop := v = .tuple #[] ∧ Ends rb g w (s.back n) w'
set_option maxRecDepth 100000 in
set_option maxHeartbeats 1000000 in
theorem specBack {w : World} {rb g : Nat} {s : SR} (h : SRd w rb g s) (n : Nat) (hn : n + s.left.length ≤ s.all.length) :
    Calls Tryd.prog 70 #[.pointer (some ⟨rb, 0, none⟩), .int .i64 (n : Int)] w (Ret (BackPost rb g w s n)) := by
  have H := Lib.hid h
  obtain ⟨⟨oL, cL, oA, cA, hb, hl, ha⟩, hne, hg, hs⟩ := h
  have l1 := ha.1
  have l2 := ha.2.1
  have l3 := hl.1
  unfold maxLen at l2
  obtain ⟨c0, c1, c2, c3, c4, c5, c6, hf⟩ := SRd.cells hb
  obtain ⟨k, hk⟩ : ∃ k, k = s.all.length - s.left.length - n := ⟨_, rfl⟩
  have hk2 : (s.all.length : Int) - (s.left.length : Int) - (n : Int) = (k : Int) := by omega
  have hkA : k ≤ s.all.length := by omega
  have HFIN : Hid (∀ (o c m : Nat) (wx : World), wx = ((((w.setCell ⟨rb, 0, none⟩ (.slice (some ⟨g, o, none⟩) m c)).setCell ⟨rb, 4, none⟩ (.bool false)).setCell ⟨rb, 5, none⟩ (.int .i64 0)).setCell ⟨rb, 6, none⟩ (.bool false)).drew → (cA = k ∧ o = oA ∧ c = 0) ∨ (cA ≠ k ∧ o = oA + k ∧ c = cA - k) → m = s.all.length - k →
      BackPost rb g w s n (.tuple #[]) wx) := by
    intro o c m wx hw hor hm
    obtain ⟨pre, hpre⟩ := hs
    have hb0 : BytesA w (some ⟨g, o, none⟩) c (s.all.drop k) := by
      have e : s.all.drop k = (s.all.take s.all.length).drop k := by rw [List.take_length]
      rcases hor with ⟨h1, rfl, rfl⟩ | ⟨h1, rfl, rfl⟩
      · rw [e]; exact ha.sub0 (Nat.le_refl _) h1
      · rw [e]; exact ha.sub1 hkA (Nat.le_refl _)
    have hk' : m = (s.all.drop k).length := by rw [List.length_drop]; exact hm
    subst hk'
    have hR : SRd wx rb g (s.back n) := by
      rw [hw]
      unfold SR.back
      rw [← hk]
      exact ((((H.out.setLeft hb0 ⟨s.all.take k, (List.take_append_drop _ _).symm⟩).setLast _).setRune 0).setOp _).new (Upd.refl _ _).drew
    have hU : Upd (fun k => k = rb) w wx := by
      rw [hw]; exact (((((Upd.refl (fun k => k = rb) w).setCell (fun _ => rfl) _).setCell (fun _ => rfl) _).setCell (fun _ => rfl) _).setCell (fun _ => rfl) _).drew
    exact ⟨rfl, hR, hU⟩
  have HK := Lib.hid hk
  clear hb hl ha hne hg hs hk
  go_enter Tryd.func70, Tryd.ntmps70
  go_wp2_with fail
  refine wp_region_lx {} (by kernel_rfl) (by kernel_rfl) ⟨fun _ _ _ h => h.2, fun _ _ h => h⟩ ?_
  (repeat' (first | (refine wpLx_calm rfl rfl rfl (fun K hK => ?_); go_step <;> (refine hK _ ?_; clear hK K)) | (refine wpLx_skip2 rfl rfl rfl ?_; go_simp) | (refine wpLx_calm2 rfl rfl rfl rfl rfl (fun K hK => ?_); go_step <;> (refine hK _ ?_; clear hK K))))
  all_goals
    refine wpLx_eff rfl rfl rfl (fun K hK => ?_)
    go_step
    refine hK _ _ ?_
    clear hK K
    refine wpLx_nil ?_
    (go_wp2_with fail; (repeat' (refine wp_region_lx {} (by kernel_rfl) (by kernel_rfl) ⟨fun _ _ _ h => h.2, fun _ _ h => h⟩ ?_; (repeat' (first | (refine wpLx_calm rfl rfl rfl (fun K hK => ?_); go_step <;> (refine hK _ ?_; clear hK K)) | (refine wpLx_skip2 rfl rfl rfl ?_; go_simp) | (refine wpLx_calm2 rfl rfl rfl rfl rfl (fun K hK => ?_); go_step <;> (refine hK _ ?_; clear hK K)))); all_goals (refine wpLx_nil ?_; try go_wp2_with fail))))
  all_goals
    go_end0
    first | exact HFIN.out _ _ _ _ rfl (.inl ⟨by omega, rfl, rfl⟩) (by omega) | exact HFIN.out _ _ _ _ rfl (.inr ⟨by omega, rfl, rfl⟩) (by omega)
theorem results_cell_tmp' {P : Program} {fn : Func} {p u : Tmp} {ty : TypeId} (h : fn.results = #[.cell p ty, .tmp u]) (tmps : Array Value) (w : World) (g : Nat) (t : TypeId) (cs : Array Value) (fr : Nat × Nat) (d : TypeDesc)
    (hp : tmps.getD p undef = .pointer (some ⟨g, 0, none⟩)) (hg : w.heap[g]? = some (.cells cs t fr))
    (hu : P.underlying ty = some d) (hd : (match d with | .struct _ | .array _ _ => true | _ => false) = true) (hi : (P.info? ty).map (·.size) = some cs.size) :
    (results fn tmps).run P w = .ok (.tuple #[.agg cs, tmps.getD u undef]) w := by
  have hp' : tmps[p]?.getD undef = .pointer (some ⟨g, 0, none⟩) := by simpa using hp
  simp [results, h, hp', asAddr, run_loadVar_row w g t ty cs fr d hg hu hd hi]
/-- an answer's cells -/
def ansCells (ab : Option Addr) (n c : Nat) (a : Ans) : Array Value := #[.slice ab n c, .int .i64 a.n, .int .i32 a.rune, .bool a.flag, .int .i64 (a.code : Int)]
def DoPost (rb g : Nat) (w : World) (x : (Ans × Bool) × SR) (v : Value) (w' : World) : Prop :=
  ∃ av, v = .tuple #[av, .bool x.1.2] ∧ Ends rb g w x.2 w' ∧ AnsV w' g av x.1.1
def Ans.tell (c : Nat) : Ans := ⟨[], 0, 0, false, c⟩
theorem AnsV.tell (w : World) (g c : Nat) : AnsV w g (.agg #[.slice none 0 0, .int .i64 0, .int .i32 0, .bool false, .int .i64 (c : Int)]) (Ans.tell c) :=
  ⟨none, 0, rfl, ⟨Nat.le_refl _, Nat.zero_le _, fun _ => rfl, fun p hp => (by cases hp)⟩, fun p hp => (by cases hp)⟩
def SR.undo (s : SR) (kind : Int) : (Ans × Bool) × SR :=
  if s.op then ((Ans.tell 0, false), s)
  else if kind = 2 then (if s.last then ((Ans.tell 0, true), s.back 1) else ((Ans.tell 5, true), s))
  else if 0 < s.rune then ((Ans.tell 0, true), s.back s.rune) else ((Ans.tell 6, true), s)
/-- what was read can be taken back -/
def SOk (s : SR) : Prop := (s.last = true → 1 + s.left.length ≤ s.all.length) ∧ s.rune + s.left.length ≤ s.all.length
theorem undo_fin {w wx : World} {rb g : Nat} {s : SR} {cs : Array Value} {c : Nat} {b : Bool} (h : SRd w rb g s) (hu : New (w.alloc (.cells #[.slice none 0 0, .int .i64 0, .int .i32 0, .bool false, .int .i64 (c : Int)] 59)) wx)
    (hcs : cs = #[.slice none 0 0, .int .i64 0, .int .i32 0, .bool false, .int .i64 (c : Int)]) : wx.heap[w.heap.size]? = some (.cells cs 59 (0, 0)) ∧ DoPost rb g w ((Ans.tell c, b), s) (.tuple #[.agg cs, .bool b]) wx := by
  subst hcs
  exact ⟨hu.heap (heap_alloc_new _ _) (fun h => h), _, rfl, ⟨h.new (((Upd.refl _ _).alloc _).andNew hu), ((Upd.refl _ _).alloc _).andNew hu⟩, AnsV.tell _ _ _⟩
theorem undo_fin2 {w w1 wx : World} {rb g n : Nat} {s : SR} {cs cs0 : Array Value} {v : Value} {c : Nat} (hb : BackPost rb g (w.alloc (.cells cs0 59)) s n v w1) (hu : Upd (fun k => k = w.heap.size) w1 wx) (hrb : rb < w.heap.size) (hg : g < w.heap.size)
    (hh : wx.heap[w.heap.size]? = some (.cells cs 59 (0, 0))) (hcs : cs = #[.slice none 0 0, .int .i64 0, .int .i32 0, .bool false, .int .i64 (c : Int)]) : DoPost rb g w ((Ans.tell c, true), s.back n) (.tuple #[.agg cs, .bool true]) wx := by
  obtain ⟨_, hR, hU⟩ := hb
  subst hcs
  refine ⟨_, rfl, ⟨hR.upd hu (fun h => by omega) (fun h => by omega), ?_⟩, AnsV.tell _ _ _⟩
  exact (((Upd.refl _ _).alloc _).trans hU (fun k hk _ => hk)).trans hu (fun k hk hlt => by have hk : k = w.heap.size := hk; omega)
set_option maxRecDepth 100000 in
set_option maxHeartbeats 1000000 in
theorem specUndo {w : World} {rb g : Nat} {s : SR} (h : SRd w rb g s) (ok : SOk s) (kind : Int) :
    Calls Tryd.prog 46 #[.pointer (some ⟨rb, 0, none⟩), .int .i64 kind] w (Ret (DoPost rb g w (s.undo kind))) := by
  have H := Lib.hid h
  have KB := fun n hn => Lib.hid (specBack (h.new ((Upd.refl _ w).alloc (.cells #[.slice none 0 0, .int .i64 0, .int .i32 0, .bool false, .int .i64 0] 59))) n hn)
  obtain ⟨⟨oL, cL, oA, cA, hb, hl, ha⟩, hne, hg, hs⟩ := h
  have hrb : rb < w.heap.size := (Array.getElem?_eq_some_iff.1 hb).1
  have hrn : rb ≠ w.heap.size := by omega
  have hrn' : w.heap.size ≠ rb := by omega
  have hf2 : ∀ cs : Array Value, ∀ i, (w.alloc (.cells cs 59)).frozen? ⟨rb, i, none⟩ = false := fun cs i => World.frozen_of_heap (((Upd.refl (fun _ => False) w).alloc (.cells cs 59)).heap hb (fun h => h)) i
  obtain ⟨c0, c1, c2, c3, c4, c5, c6, hf⟩ := SRd.cells hb
  clear hb hl ha hne hs hf
  have store : ∀ (w1 : World), Upd (fun k => k = rb) (w.alloc (.cells #[.slice none 0 0, .int .i64 0, .int .i32 0, .bool false, .int .i64 0] 59)) w1 → w1.heap[w.heap.size]? = some (.cells #[.slice none 0 0, .int .i64 0, .int .i32 0, .bool false, .int .i64 0] 59 (0, 0)) := fun w1 u => u.heap (heap_alloc_new _ _) (fun h => by omega)
  have STORE := Lib.hid store
  clear store
  cases hop : s.op with
  | true =>
    have e : s.undo kind = ((Ans.tell 0, false), s) := by unfold SR.undo; rw [if_pos hop]
    rw [hop] at c6
    rw [e]
    clear KB hop e
    go_enter Tryd.func46, Tryd.ntmps46
    (go_wp2_with fail; (repeat' (refine wp_region_lx {} (by kernel_rfl) (by kernel_rfl) ⟨fun _ _ _ h => h.2, fun _ _ h => h⟩ ?_; (repeat' (first | (refine wpLx_calm rfl rfl rfl (fun K hK => ?_); go_step <;> (refine hK _ ?_; clear hK K)) | (refine wpLx_skip2 rfl rfl rfl ?_; go_simp) | (refine wpLx_calm2 rfl rfl rfl rfl rfl (fun K hK => ?_); go_step <;> (refine hK _ ?_; clear hK K)))); all_goals (refine wpLx_nil ?_; try go_wp2_with fail))))
    have fin := undo_fin (b := false) (c := 0) H.out (Upd.refl _ _) rfl
    refine bodyPost_ret (results_cell_tmp' (p := 4) (u := 5) rfl _ _ w.heap.size 59 _ (0, 0) _ rfl fin.1 Tryd.underlying59 rfl (by kernel_rfl)) rfl ?_
    exact fin.2
  | false =>
    rw [hop] at c6
    have HOP := Lib.hid hop
    clear hop
    by_cases hk : kind = 2
    · have q1 : (kind == 2) = true := by simp [hk]
      cases hla : s.last with
      | true =>
        have e : s.undo kind = ((Ans.tell 0, true), s.back 1) := by unfold SR.undo; rw [if_neg (by rw [HOP.out]; simp), if_pos hk, if_pos hla]
        rw [hla] at c4
        rw [e]
        have K1 := Lib.hid (KB 1 (ok.1 hla)).out
        clear hk KB hla e
        go_enter Tryd.func46, Tryd.ntmps46
        go_wp2_with (first | (go_at_call 70; refine callRet K1.out ?_; intro v w1 hv; have HV := Lib.hid hv; clear hv) | (refine wpList_plain rfl (fun K hK => ?_); refine wp_storeAll (n := 5) (by kernel_rfl) (.tmp 4) (.tmp 23) rfl w.heap.size rfl #[.slice none 0 0, .int .i64 0, .int .i32 0, .bool false, .int .i64 0] rfl rfl (by simp [Value.oneCell']) _ 59 (STORE.out _ HV.out.2.2) rfl ?_; intro w2 h2 u2 z2; refine hK _ _ ?_; clear hK K))
        refine bodyPost_ret (results_cell_tmp' (p := 4) (u := 5) rfl _ _ w.heap.size 59 _ (0, 0) _ rfl h2 Tryd.underlying59 rfl (by kernel_rfl)) rfl ?_
        exact undo_fin2 (c := 0) HV.out u2 hrb hg h2 rfl
      | false =>
        have e : s.undo kind = ((Ans.tell 5, true), s) := by unfold SR.undo; rw [if_neg (by rw [HOP.out]; simp), if_pos hk, if_neg (by rw [hla]; simp)]
        rw [hla] at c4
        rw [e]
        clear hk KB hla e
        go_enter Tryd.func46, Tryd.ntmps46
        (go_wp2_with fail; (repeat' (refine wp_region_lx {} (by kernel_rfl) (by kernel_rfl) ⟨fun _ _ _ h => h.2, fun _ _ h => h⟩ ?_; (repeat' (first | (refine wpLx_calm rfl rfl rfl (fun K hK => ?_); go_step <;> (refine hK _ ?_; clear hK K)) | (refine wpLx_skip2 rfl rfl rfl ?_; go_simp) | (refine wpLx_calm2 rfl rfl rfl rfl rfl (fun K hK => ?_); go_step <;> (refine hK _ ?_; clear hK K)))); all_goals (refine wpLx_nil ?_; try go_wp2_with fail))))
        have fin := undo_fin (b := true) (c := 5) H.out (Upd.refl _ _) rfl
        refine bodyPost_ret (results_cell_tmp' (p := 4) (u := 5) rfl _ _ w.heap.size 59 _ (0, 0) _ rfl fin.1 Tryd.underlying59 rfl (by kernel_rfl)) rfl ?_
        exact fin.2
    · have q1 : (kind == 2) = false := by simp [hk]
      by_cases hr : 0 < s.rune
      · have e : s.undo kind = ((Ans.tell 0, true), s.back s.rune) := by unfold SR.undo; rw [if_neg (by rw [HOP.out]; simp), if_neg hk, if_pos hr]
        have q2 : decide ((0 : Int) < (s.rune : Int)) = true := decide_eq_true (by omega)
        rw [e]
        have K1 := Lib.hid (KB s.rune ok.2).out
        clear hk KB e
        go_enter Tryd.func46, Tryd.ntmps46
        go_wp2_with (first | (go_at_call 70; refine callRet K1.out ?_; intro v w1 hv; have HV := Lib.hid hv; clear hv) | (refine wpList_plain rfl (fun K hK => ?_); refine wp_storeAll (n := 5) (by kernel_rfl) (.tmp 4) (.tmp 40) rfl w.heap.size rfl #[.slice none 0 0, .int .i64 0, .int .i32 0, .bool false, .int .i64 0] rfl rfl (by simp [Value.oneCell']) _ 59 (STORE.out _ HV.out.2.2) rfl ?_; intro w2 h2 u2 z2; refine hK _ _ ?_; clear hK K))
        refine bodyPost_ret (results_cell_tmp' (p := 4) (u := 5) rfl _ _ w.heap.size 59 _ (0, 0) _ rfl h2 Tryd.underlying59 rfl (by kernel_rfl)) rfl ?_
        exact undo_fin2 (c := 0) HV.out u2 hrb hg h2 rfl
      · have e : s.undo kind = ((Ans.tell 6, true), s) := by unfold SR.undo; rw [if_neg (by rw [HOP.out]; simp), if_neg hk, if_neg hr]
        have q2 : decide ((0 : Int) < (s.rune : Int)) = false := decide_eq_false (by omega)
        rw [e]
        clear hk KB e
        go_enter Tryd.func46, Tryd.ntmps46
        (go_wp2_with fail; (repeat' (refine wp_region_lx {} (by kernel_rfl) (by kernel_rfl) ⟨fun _ _ _ h => h.2, fun _ _ h => h⟩ ?_; (repeat' (first | (refine wpLx_calm rfl rfl rfl (fun K hK => ?_); go_step <;> (refine hK _ ?_; clear hK K)) | (refine wpLx_skip2 rfl rfl rfl ?_; go_simp) | (refine wpLx_calm2 rfl rfl rfl rfl rfl (fun K hK => ?_); go_step <;> (refine hK _ ?_; clear hK K)))); all_goals (refine wpLx_nil ?_; try go_wp2_with fail))))
        have fin := undo_fin (b := true) (c := 6) H.out (Upd.refl _ _) rfl
        refine bodyPost_ret (results_cell_tmp' (p := 4) (u := 5) rfl _ _ w.heap.size 59 _ (0, 0) _ rfl fin.1 Tryd.underlying59 rfl (by kernel_rfl)) rfl ?_
        exact fin.2
end Go.Proofs.YtmmjfpcmempeeaaDoor
/- spec.Reader's discard; Do at the kinds 5 and 6. -/
namespace Go.Proofs.YtmmjfpcmempeeaaDoor
open Go.RowKit
def SR.discard (s : SR) (n : Int) : Ans × SR :=
  if n < 0 then (Ans.tell 4, { s with op := true })
  else if n = 0 then (Ans.tell 0, { s with op := true })
  else if (s.left.length : Int) < n then (⟨[], (s.left.length : Int), 0, false, s.endc⟩, s.take s.left.length false)
  else (⟨[], n, 0, false, 0⟩, s.take n.toNat false)
def AnsPost (rb g : Nat) (w : World) (x : Ans × SR) (v : Value) (w' : World) : Prop := Ends rb g w x.2 w' ∧ AnsV w' g v x.1
theorem AnsV.num (w : World) (g c : Nat) (n r : Int) (b : Bool) : AnsV w g (.agg #[.slice none 0 0, .int .i64 n, .int .i32 r, .bool b, .int .i64 (c : Int)]) ⟨[], n, r, b, c⟩ :=
  ⟨none, 0, rfl, ⟨Nat.le_refl _, Nat.zero_le _, fun _ => rfl, fun p hp => (by cases hp)⟩, fun p hp => (by cases hp)⟩
/-- an answer with no bytes, stored over the answer's cell -/
def ansN (n r : Int) (b : Bool) (c : Int) : Array Value := #[.slice none 0 0, .int .i64 n, .int .i32 r, .bool b, .int .i64 c]
def ans0 : Array Value := #[.slice none 0 0, .int .i64 0, .int .i32 0, .bool false, .int .i64 0]
theorem take_fin {w w1 w2 : World} {rb g k : Nat} {rd : Bool} {s : SR} {v : Value} {cs0 : Array Value} {n r c : Int} {b : Bool} {code : Nat} (hb : TakePost rb g (w.alloc (.cells cs0 59)) s k rd v w1) (hu : Upd (fun k => k = w.heap.size) w1 w2) (hrb : rb < w.heap.size) (hg : g < w.heap.size) (hc : c = (code : Int)) :
    AnsPost rb g w (⟨[], n, r, b, code⟩, s.take k rd) (.agg (ansN n r b c)) w2 := by
  obtain ⟨⟨hR, hU⟩, _⟩ := hb
  subst hc
  refine ⟨⟨hR.upd hu (fun h => by omega) (fun h => by omega), ?_⟩, AnsV.num _ _ _ _ _ _⟩
  exact (((Upd.refl _ _).alloc _).trans hU (fun k hk _ => hk)).trans hu (fun k hk hlt => by have hk : k = w.heap.size := hk; omega)
set_option maxRecDepth 100000 in
set_option maxHeartbeats 1000000 in
theorem specDiscard {w : World} {rb g : Nat} {s : SR} (h : SRd w rb g s) (n : Int) (hn1 : -9223372036854775808 ≤ n) (hn2 : n ≤ 9223372036854775807) :
    Calls Tryd.prog 48 #[.pointer (some ⟨rb, 0, none⟩), .int .i64 n] w (Ret (AnsPost rb g w (s.discard n))) := by
  have H := Lib.hid h
  have KT := fun k hk => specTake (h.new ((Upd.refl _ w).alloc (.cells #[.slice none 0 0, .int .i64 0, .int .i32 0, .bool false, .int .i64 0] 59))) k false hk
  obtain ⟨⟨oL, cL, oA, cA, hb, hl, ha⟩, hne, hg, hs⟩ := h
  have l1 := hl.1
  have l2 := hl.2.1
  unfold maxLen at l2
  have hrb : rb < w.heap.size := (Array.getElem?_eq_some_iff.1 hb).1
  have hrn : rb ≠ w.heap.size := by omega
  have hrn' : w.heap.size ≠ rb := by omega
  have hf2 : ∀ cs : Array Value, ∀ i, (w.alloc (.cells cs 59)).frozen? ⟨rb, i, none⟩ = false := fun cs i => World.frozen_of_heap (((Upd.refl (fun _ => False) w).alloc (.cells cs 59)).heap hb (fun h => h)) i
  obtain ⟨c0, c1, c2, c3, c4, c5, c6, hf⟩ := SRd.cells hb
  have store : ∀ (w1 : World), Upd (fun k => k = rb) (w.alloc (.cells #[.slice none 0 0, .int .i64 0, .int .i32 0, .bool false, .int .i64 0] 59)) w1 → w1.heap[w.heap.size]? = some (.cells #[.slice none 0 0, .int .i64 0, .int .i32 0, .bool false, .int .i64 0] 59 (0, 0)) := fun w1 u => u.heap (heap_alloc_new _ _) (fun h => by omega)
  have STORE := Lib.hid store
  have HKT := Lib.hid KT
  clear KT store hb hl ha hne hs hf
  have HFIN : Hid (∀ (c : Nat) (x : Int) (wx : World), wx = (w.setCell ⟨rb, 6, none⟩ (.bool true)).alloc (.cells #[.slice none 0 0, .int .i64 0, .int .i32 0, .bool false, .int .i64 x] 59) → x = (c : Int) → wx.heap[w.heap.size]? = some (.cells #[.slice none 0 0, .int .i64 0, .int .i32 0, .bool false, .int .i64 x] 59 (0, 0)) ∧
      AnsPost rb g w (Ans.tell c, { s with op := true }) (.agg #[.slice none 0 0, .int .i64 0, .int .i32 0, .bool false, .int .i64 x]) wx) := by
    intro c x wx hw hx
    subst hw; subst hx
    refine ⟨?_, ⟨(H.out.setOp true).new ((Upd.refl _ _).alloc _), ((Upd.refl (fun k => k = rb) w).setCell (fun _ => rfl) _).alloc _⟩, AnsV.tell _ _ _⟩
    rw [← size_setCell' w ⟨rb, 6, none⟩ (.bool true)]
    exact heap_alloc_new _ _
  by_cases h0 : n ≤ 0
  · by_cases h1 : n < 0
    · have e : s.discard n = (Ans.tell 4, { s with op := true }) := if_pos h1
      rw [e]
      clear HKT
      go_enter Tryd.func48, Tryd.ntmps48
      (go_wp2_with fail; (repeat' (refine wp_region_lx {} (by kernel_rfl) (by kernel_rfl) ⟨fun _ _ _ h => h.2, fun _ _ h => h⟩ ?_; (repeat' (first | (refine wpLx_calm rfl rfl rfl (fun K hK => ?_); go_step <;> (refine hK _ ?_; clear hK K)) | (refine wpLx_skip2 rfl rfl rfl ?_; go_simp) | (refine wpLx_calm2 rfl rfl rfl rfl rfl (fun K hK => ?_); go_step <;> (refine hK _ ?_; clear hK K)))); all_goals (refine wpLx_nil ?_; try go_wp2_with fail))))
      have fin := HFIN.out 4 4 _ rfl rfl
      refine bodyPost_ret (results_cell_row (p := 4) rfl _ _ w.heap.size 59 _ (0, 0) _ rfl fin.1 Tryd.underlying59 rfl (by kernel_rfl)) rfl ?_
      exact fin.2
    · have e : s.discard n = (Ans.tell 0, { s with op := true }) := (if_neg h1).trans (if_pos (by omega))
      rw [e]
      clear HKT
      go_enter Tryd.func48, Tryd.ntmps48
      (go_wp2_with fail; (repeat' (refine wp_region_lx {} (by kernel_rfl) (by kernel_rfl) ⟨fun _ _ _ h => h.2, fun _ _ h => h⟩ ?_; (repeat' (first | (refine wpLx_calm rfl rfl rfl (fun K hK => ?_); go_step <;> (refine hK _ ?_; clear hK K)) | (refine wpLx_skip2 rfl rfl rfl ?_; go_simp) | (refine wpLx_calm2 rfl rfl rfl rfl rfl (fun K hK => ?_); go_step <;> (refine hK _ ?_; clear hK K)))); all_goals (refine wpLx_nil ?_; try go_wp2_with fail))))
      have fin := HFIN.out 0 0 _ rfl rfl
      refine bodyPost_ret (results_cell_row (p := 4) rfl _ _ w.heap.size 59 _ (0, 0) _ rfl fin.1 Tryd.underlying59 rfl (by kernel_rfl)) rfl ?_
      exact fin.2
  · obtain ⟨m, rfl⟩ := Int.eq_ofNat_of_zero_le (show 0 ≤ n by omega)
    by_cases h2 : s.left.length < m
    · have e : s.discard m = (⟨[], (s.left.length : Int), 0, false, s.endc⟩, s.take s.left.length false) := (if_neg (by omega)).trans ((if_neg (by omega)).trans (if_pos (by omega)))
      have K1 := Lib.hid (HKT.out s.left.length (Nat.le_refl _))
      rw [e]
      clear HKT e
      go_enter Tryd.func48, Tryd.ntmps48
      go_wp2_with (first | (go_at_call 45; refine callRet K1.out ?_; intro v w1 hv; have HV := Lib.hid hv; have d2 : w1.cell? ⟨rb, 2, none⟩ = some (.int .i64 (s.endc : Int)) := (SRd.cells hv.1.1.lay.choose_spec.choose_spec.choose_spec.choose_spec.1).2.2.1; clear hv) | (refine wpList_plain rfl (fun K hK => ?_); refine wp_storeAll (n := 5) (by kernel_rfl) (.tmp 4) (.tmp 33) rfl w.heap.size rfl #[.slice none 0 0, .int .i64 (s.left.length : Int), .int .i32 0, .bool false, .int .i64 (s.endc : Int)] rfl rfl (by simp [Value.oneCell']) _ 59 (STORE.out _ HV.out.1.2) rfl ?_; intro w2 h2 u2 z2; refine hK _ _ ?_; clear hK K))
      refine bodyPost_ret (results_cell_row (p := 4) rfl _ _ w.heap.size 59 _ (0, 0) _ rfl h2 Tryd.underlying59 rfl (by kernel_rfl)) rfl ?_
      exact take_fin HV.out u2 hrb hg rfl
    · have e : s.discard m = (⟨[], (m : Int), 0, false, 0⟩, s.take m false) := (if_neg (by omega)).trans ((if_neg (by omega)).trans (if_neg (by omega)))
      have K1 := Lib.hid (HKT.out m (by omega))
      rw [e]
      clear HKT e
      go_enter Tryd.func48, Tryd.ntmps48
      go_wp2_with (first | (go_at_call 45; refine callRet K1.out ?_; intro v w1 hv; have HV := Lib.hid hv; clear hv) | (refine wpList_plain rfl (fun K hK => ?_); refine wp_storeAll (n := 5) (by kernel_rfl) (.tmp 4) (.tmp 35) rfl w.heap.size rfl #[.slice none 0 0, .int .i64 (m : Int), .int .i32 0, .bool false, .int .i64 0] rfl rfl (by simp [Value.oneCell']) _ 59 (STORE.out _ HV.out.1.2) rfl ?_; intro w2 h2 u2 z2; refine hK _ _ ?_; clear hK K))
      refine bodyPost_ret (results_cell_row (p := 4) rfl _ _ w.heap.size 59 _ (0, 0) _ rfl h2 Tryd.underlying59 rfl (by kernel_rfl)) rfl ?_
      exact take_fin (code := 0) HV.out u2 hrb hg rfl
/-- a step, as its value -/
def stepV (k n d : Int) : Value := .agg #[.int .i64 k, .int .i64 n, .int .u8 d]
theorem do_fin {w w1 w2 : World} {rb g : Nat} {x : Ans × SR} {b1 b2 v : Value} {cs0 cs1 : Array Value} {t1 : TypeId} (hb : AnsPost rb g ((w.alloc (.cells cs0 t1)).alloc (.cells cs1 59)) x v w1) (hu : Upd (fun k => k = w.heap.size + 1) w1 w2) (hrb : rb < w.heap.size) (hg : g < w.heap.size) (hb1 : b1 = v) (hb2 : b2 = .bool true) :
    DoPost rb g w ((x.1, true), x.2) (.tuple #[b1, b2]) w2 := by
  obtain ⟨⟨hR, hU⟩, ab, c, hv, hby, hp⟩ := hb
  subst hb1; subst hb2
  refine ⟨b1, rfl, ⟨hR.upd hu (fun h => by omega) (fun h => by omega), ?_⟩, ab, c, hv, hby.upd hu (fun p hp' _ h => by have := hp p hp'; omega), hp⟩
  exact ((((Upd.refl _ _).alloc _).alloc _).trans hU (fun k hk _ => hk)).trans hu (fun k hk hlt => by have hk : k = w.heap.size + 1 := hk; omega)
/-- an answer's value, opened: its five cells -/
theorem AnsV.cells {w : World} {g : Nat} {v : Value} {a : Ans} (h : AnsV w g v a) : ∃ cs : Array Value, v = .agg cs ∧ cs.size = 5 ∧ ∀ u ∈ cs.toList, u.oneCell' = true := by
  obtain ⟨ab, c, rfl, _⟩ := h
  exact ⟨_, rfl, rfl, by simp [Value.oneCell']⟩
set_option maxRecDepth 100000 in
set_option maxHeartbeats 1000000 in
theorem specDo5 {w : World} {rb g : Nat} {s : SR} (h : SRd w rb g s) (n d : Int) (hn : n ≤ 9223372036854775807) :
    Calls Tryd.prog 26 #[.pointer (some ⟨rb, 0, none⟩), .agg #[.int .i64 5, .int .i64 n, .int .u8 d]] w (Ret (DoPost rb g w (((s.peek n).1, true), (s.peek n).2))) := by
  have hrb : rb < w.heap.size := by obtain ⟨⟨oL, cL, oA, cA, hb, _⟩, _⟩ := h; exact (Array.getElem?_eq_some_iff.1 hb).1
  have hg := h.glt
  have K1 := Lib.hid (specPeek ((h.new ((Upd.refl _ w).alloc (.cells #[.int .i64 5, .int .i64 n, .int .u8 d] 53))).new ((Upd.refl _ _).alloc (.cells #[.slice none 0 0, .int .i64 0, .int .i32 0, .bool false, .int .i64 0] 59))) n hn)
  have STORE : Hid (∀ (w1 : World), Upd (fun k => k = rb) ((w.alloc (.cells #[.int .i64 5, .int .i64 n, .int .u8 d] 53)).alloc (.cells #[.slice none 0 0, .int .i64 0, .int .i32 0, .bool false, .int .i64 0] 59)) w1 → w1.heap[w.heap.size + 1]? = some (.cells #[.slice none 0 0, .int .i64 0, .int .i32 0, .bool false, .int .i64 0] 59 (0, 0))) := fun w1 u => u.heap (heap_alloc2_new _ _ _) (fun h => by omega)
  clear h
  go_enter Tryd.func26, Tryd.ntmps26
  go_wp2_with (first | (go_at_call 47; refine callRet K1.out ?_; intro v w1 hv; have HV := Lib.hid hv; clear hv) | (refine wpList_plain rfl (fun K hK => ?_); obtain ⟨cs, hcs, hsz, hone⟩ := HV.out.2.cells; refine wp_storeAll (n := 5) (by kernel_rfl) (.tmp 4) (.tmp 80) rfl (w.heap.size + 1) rfl cs hcs hsz hone _ 59 (STORE.out _ HV.out.1.2) rfl ?_; intro w2 h2 u2 z2; refine hK _ _ ?_; clear hK K))
  refine bodyPost_ret (results_cell_tmp' (p := 4) (u := 5) rfl _ _ (w.heap.size + 1) 59 _ (0, 0) _ rfl h2 Tryd.underlying59 rfl (by rw [hsz]; kernel_rfl)) rfl ?_
  exact do_fin HV.out u2 hrb hg hcs.symm rfl
set_option maxRecDepth 100000 in
set_option maxHeartbeats 1000000 in
theorem specDo6 {w : World} {rb g : Nat} {s : SR} (h : SRd w rb g s) (n d : Int) (hn1 : -9223372036854775808 ≤ n) (hn2 : n ≤ 9223372036854775807) :
    Calls Tryd.prog 26 #[.pointer (some ⟨rb, 0, none⟩), .agg #[.int .i64 6, .int .i64 n, .int .u8 d]] w (Ret (DoPost rb g w (((s.discard n).1, true), (s.discard n).2))) := by
  have hrb : rb < w.heap.size := by obtain ⟨⟨oL, cL, oA, cA, hb, _⟩, _⟩ := h; exact (Array.getElem?_eq_some_iff.1 hb).1
  have hg := h.glt
  have K1 := Lib.hid (specDiscard ((h.new ((Upd.refl _ w).alloc (.cells #[.int .i64 6, .int .i64 n, .int .u8 d] 53))).new ((Upd.refl _ _).alloc (.cells #[.slice none 0 0, .int .i64 0, .int .i32 0, .bool false, .int .i64 0] 59))) n hn1 hn2)
  have STORE : Hid (∀ (w1 : World), Upd (fun k => k = rb) ((w.alloc (.cells #[.int .i64 6, .int .i64 n, .int .u8 d] 53)).alloc (.cells #[.slice none 0 0, .int .i64 0, .int .i32 0, .bool false, .int .i64 0] 59)) w1 → w1.heap[w.heap.size + 1]? = some (.cells #[.slice none 0 0, .int .i64 0, .int .i32 0, .bool false, .int .i64 0] 59 (0, 0))) := fun w1 u => u.heap (heap_alloc2_new _ _ _) (fun h => by omega)
  clear h
  go_enter Tryd.func26, Tryd.ntmps26
  go_wp2_with (first | (go_at_call 48; refine callRet K1.out ?_; intro v w1 hv; have HV := Lib.hid hv; clear hv) | (refine wpList_plain rfl (fun K hK => ?_); obtain ⟨cs, hcs, hsz, hone⟩ := HV.out.2.cells; refine wp_storeAll (n := 5) (by kernel_rfl) (.tmp 4) (.tmp 86) rfl (w.heap.size + 1) rfl cs hcs hsz hone _ 59 (STORE.out _ HV.out.1.2) rfl ?_; intro w2 h2 u2 z2; refine hK _ _ ?_; clear hK K))
  refine bodyPost_ret (results_cell_tmp' (p := 4) (u := 5) rfl _ _ (w.heap.size + 1) 59 _ (0, 0) _ rfl h2 Tryd.underlying59 rfl (by rw [hsz]; kernel_rfl)) rfl ?_
  exact do_fin HV.out u2 hrb hg hcs.symm rfl
end Go.Proofs.YtmmjfpcmempeeaaDoor
/- What the walks of the laws on readers share. -/
namespace Go.Proofs.YtmmjfpcmempeeaaDoor
open Go.RowKit
/-- since the argument was boxed only blocks behind the box turned -/
abbrev BoxUpd (w : World) (cs : Array Value) (w' : World) : Prop := Upd (fun k => w.heap.size < k) (w.alloc (.cells cs 24)) w'
theorem box_upd {w w1 : World} {cs : Array Value} (h : BoxUpd w cs w1) {i : Nat} {v : Value} (hv : cs[i]? = some v) : w1.cell? ⟨w.heap.size, i, none⟩ = some v := by
  rw [World.cell_of_heap (h.heap (heap_alloc_new w _) (fun hh => Nat.lt_irrefl _ hh))]; exact hv
theorem boxAt {w w1 w2 : World} {cs : Array Value} {b : Nat} (h : BoxUpd w cs w1) (u : Upd (fun k => k = b) w1 w2) (hb : w.heap.size < b) : BoxUpd w cs w2 := h.trans u (fun k hk _ => by have hk : k = b := hk; omega)
theorem newSR_at {w1 : World} {s : SR} {g c : Nat} (hg : g < w1.heap.size) (hb : BytesA w1 (some ⟨g, 0, none⟩) c s.all) (hs : s.left = s.all) : SRd (w1.alloc (.cells (srCells g 0 c 0 c s) 44)) w1.heap.size g s := by
  refine ⟨⟨0, c, 0, c, heap_alloc_new _ _, ?_, hb.new ((Upd.refl _ _).alloc _)⟩, by omega, by have := ((Upd.refl (fun _ => False) w1).alloc (.cells (srCells g 0 c 0 c s) 44)).size; omega, [], by simp [hs]⟩
  rw [hs]; exact hb.new ((Upd.refl _ _).alloc _)
theorem newAt {w w1 w2 : World} {b : Nat} (h : New w w1) (u : Upd (fun k => k = b) w1 w2) (hb : w.heap.size ≤ b) : New w w2 := h.trans u (fun k hk hlt => by have hk : k = b := hk; omega)
theorem boxLt {w w1 : World} {cs : Array Value} (h : BoxUpd w cs w1) : w.heap.size < w1.heap.size := Nat.lt_of_lt_of_le (by simp) h.size
end Go.Proofs.YtmmjfpcmempeeaaDoor
