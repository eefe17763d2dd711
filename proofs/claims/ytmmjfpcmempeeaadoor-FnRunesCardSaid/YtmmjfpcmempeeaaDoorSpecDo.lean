/- spec.Reader's discard; Do at the kinds 5 and 6. -/
import Derived.Test.YtmmjfpcmempeeaaDoorSpecOps
namespace Go.Proofs.YtmmjfpcmempeeaaDoor
open Go.RowKit
def SR.discard (s : SR) (n : Int) : Ans × SR :=
  if n < 0 then (Ans.tell 4, { s with op := true })
  else if n = 0 then (Ans.tell 0, { s with op := true })
  else if (s.left.length : Int) < n then (⟨[], (s.left.length : Int), 0, false, s.endc⟩, s.take s.left.length false)
  else (⟨[], n, 0, false, 0⟩, s.take n.toNat false)
def AnsPost (rb g : Nat) (w : World) (x : Ans × SR) (v : Value) (w' : World) : Prop := Ends rb g w x.2 w' ∧ AnsV w' g v x.1
theorem AnsV.num (w : World) (g c : Nat) (n r : Int) (b : Bool) : AnsV w g (.agg #[.slice none 0 0, .int .i64 n, .int .i32 r, .bool b, .int .i64 (c : Int)]) ⟨[], n, r, b, c⟩ :=
  ⟨none, 0, rfl, ⟨Nat.le_refl _, Nat.zero_le _, fun _ => rfl, fun p hp => (by cases hp)⟩, fun p hp => (by cases hp)⟩
/-- an answer with no bytes, stored over the answer's cell -/
def ansN (n r : Int) (b : Bool) (c : Int) : Array Value := #[.slice none 0 0, .int .i64 n, .int .i32 r, .bool b, .int .i64 c]
def ans0 : Array Value := #[.slice none 0 0, .int .i64 0, .int .i32 0, .bool false, .int .i64 0]
theorem take_fin {w w1 w2 : World} {rb g k : Nat} {rd : Bool} {s : SR} {v : Value} {cs0 : Array Value} {n r c : Int} {b : Bool} {code : Nat} (hb : TakePost rb g (w.alloc (.cells cs0 59)) s k rd v w1) (hu : Upd (fun k => k = w.heap.size) w1 w2) (hrb : rb < w.heap.size) (hg : g < w.heap.size) (hc : c = (code : Int)) :
    AnsPost rb g w (⟨[], n, r, b, code⟩, s.take k rd) (.agg (ansN n r b c)) w2 := by
  obtain ⟨⟨hR, hU⟩, _⟩ := hb
  subst hc
  refine ⟨⟨hR.upd hu (fun h => by omega) (fun h => by omega), ?_⟩, AnsV.num _ _ _ _ _ _⟩
  exact (((Upd.refl _ _).alloc _).trans hU (fun k hk _ => hk)).trans hu (fun k hk hlt => by have hk : k = w.heap.size := hk; omega)
set_option maxRecDepth 100000 in
set_option maxHeartbeats 1000000 in
theorem specDiscard {w : World} {rb g : Nat} {s : SR} (h : SRd w rb g s) (n : Int) (hn1 : -9223372036854775808 ≤ n) (hn2 : n ≤ 9223372036854775807) :
    Calls Tryd.prog 48 #[.pointer (some ⟨rb, 0, none⟩), .int .i64 n] w (Ret (AnsPost rb g w (s.discard n))) := by
  have H := Lib.hid h
  have KT := fun k hk => specTake (h.new ((Upd.refl _ w).alloc (.cells #[.slice none 0 0, .int .i64 0, .int .i32 0, .bool false, .int .i64 0] 59))) k false hk
  obtain ⟨⟨oL, cL, oA, cA, hb, hl, ha⟩, hne, hg, hs⟩ := h
  have l1 := hl.1
  have l2 := hl.2.1
  unfold maxLen at l2
  have hrb : rb < w.heap.size := (Array.getElem?_eq_some_iff.1 hb).1
  have hrn : rb ≠ w.heap.size := by omega
  have hrn' : w.heap.size ≠ rb := by omega
  have hf2 : ∀ cs : Array Value, ∀ i, (w.alloc (.cells cs 59)).frozen? ⟨rb, i, none⟩ = false := fun cs i => World.frozen_of_heap (((Upd.refl (fun _ => False) w).alloc (.cells cs 59)).heap hb (fun h => h)) i
  obtain ⟨c0, c1, c2, c3, c4, c5, c6, hf⟩ := SRd.cells hb
  have store : ∀ (w1 : World), Upd (fun k => k = rb) (w.alloc (.cells #[.slice none 0 0, .int .i64 0, .int .i32 0, .bool false, .int .i64 0] 59)) w1 → w1.heap[w.heap.size]? = some (.cells #[.slice none 0 0, .int .i64 0, .int .i32 0, .bool false, .int .i64 0] 59 (0, 0)) := fun w1 u => u.heap (heap_alloc_new _ _) (fun h => by omega)
  have STORE := Lib.hid store
  have HKT := Lib.hid KT
  clear KT store hb hl ha hne hs hf
  have HFIN : Hid (∀ (c : Nat) (x : Int) (wx : World), wx = (w.setCell ⟨rb, 6, none⟩ (.bool true)).alloc (.cells #[.slice none 0 0, .int .i64 0, .int .i32 0, .bool false, .int .i64 x] 59) → x = (c : Int) → wx.heap[w.heap.size]? = some (.cells #[.slice none 0 0, .int .i64 0, .int .i32 0, .bool false, .int .i64 x] 59 (0, 0)) ∧
      AnsPost rb g w (Ans.tell c, { s with op := true }) (.agg #[.slice none 0 0, .int .i64 0, .int .i32 0, .bool false, .int .i64 x]) wx) := by
    intro c x wx hw hx
    subst hw; subst hx
    refine ⟨?_, ⟨(H.out.setOp true).new ((Upd.refl _ _).alloc _), ((Upd.refl (fun k => k = rb) w).setCell (fun _ => rfl) _).alloc _⟩, AnsV.tell _ _ _⟩
    rw [← size_setCell' w ⟨rb, 6, none⟩ (.bool true)]
    exact heap_alloc_new _ _
  by_cases h0 : n ≤ 0
  · by_cases h1 : n < 0
    · have e : s.discard n = (Ans.tell 4, { s with op := true }) := if_pos h1
      rw [e]
      clear HKT
      go_enter Tryd.func48, Tryd.ntmps48
      (go_wp2_with fail; (repeat' (refine wp_region_lx {} (by kernel_rfl) (by kernel_rfl) ⟨fun _ _ _ h => h.2, fun _ _ h => h⟩ ?_; (repeat' (first | (refine wpLx_calm rfl rfl rfl (fun K hK => ?_); go_step <;> (refine hK _ ?_; clear hK K)) | (refine wpLx_skip2 rfl rfl rfl ?_; go_simp) | (refine wpLx_calm2 rfl rfl rfl rfl rfl (fun K hK => ?_); go_step <;> (refine hK _ ?_; clear hK K)))); all_goals (refine wpLx_nil ?_; try go_wp2_with fail))))
      have fin := HFIN.out 4 4 _ rfl rfl
      refine bodyPost_ret (results_cell_row (p := 4) rfl _ _ w.heap.size 59 _ (0, 0) _ rfl fin.1 Tryd.underlying59 rfl (by kernel_rfl)) rfl ?_
      exact fin.2
    · have e : s.discard n = (Ans.tell 0, { s with op := true }) := (if_neg h1).trans (if_pos (by omega))
      rw [e]
      clear HKT
      go_enter Tryd.func48, Tryd.ntmps48
      (go_wp2_with fail; (repeat' (refine wp_region_lx {} (by kernel_rfl) (by kernel_rfl) ⟨fun _ _ _ h => h.2, fun _ _ h => h⟩ ?_; (repeat' (first | (refine wpLx_calm rfl rfl rfl (fun K hK => ?_); go_step <;> (refine hK _ ?_; clear hK K)) | (refine wpLx_skip2 rfl rfl rfl ?_; go_simp) | (refine wpLx_calm2 rfl rfl rfl rfl rfl (fun K hK => ?_); go_step <;> (refine hK _ ?_; clear hK K)))); all_goals (refine wpLx_nil ?_; try go_wp2_with fail))))
      have fin := HFIN.out 0 0 _ rfl rfl
      refine bodyPost_ret (results_cell_row (p := 4) rfl _ _ w.heap.size 59 _ (0, 0) _ rfl fin.1 Tryd.underlying59 rfl (by kernel_rfl)) rfl ?_
      exact fin.2
  · obtain ⟨m, rfl⟩ := Int.eq_ofNat_of_zero_le (show 0 ≤ n by omega)
    by_cases h2 : s.left.length < m
    · have e : s.discard m = (⟨[], (s.left.length : Int), 0, false, s.endc⟩, s.take s.left.length false) := (if_neg (by omega)).trans ((if_neg (by omega)).trans (if_pos (by omega)))
      have K1 := Lib.hid (HKT.out s.left.length (Nat.le_refl _))
      rw [e]
      clear HKT e
      go_enter Tryd.func48, Tryd.ntmps48
      go_wp2_with (first | (go_at_call 45; refine callRet K1.out ?_; intro v w1 hv; have HV := Lib.hid hv; have d2 : w1.cell? ⟨rb, 2, none⟩ = some (.int .i64 (s.endc : Int)) := (SRd.cells hv.1.1.lay.choose_spec.choose_spec.choose_spec.choose_spec.1).2.2.1; clear hv) | (refine wpList_plain rfl (fun K hK => ?_); refine wp_storeAll (n := 5) (by kernel_rfl) (.tmp 4) (.tmp 33) rfl w.heap.size rfl #[.slice none 0 0, .int .i64 (s.left.length : Int), .int .i32 0, .bool false, .int .i64 (s.endc : Int)] rfl rfl (by simp [Value.oneCell']) _ 59 (STORE.out _ HV.out.1.2) rfl ?_; intro w2 h2 u2 z2; refine hK _ _ ?_; clear hK K))
      refine bodyPost_ret (results_cell_row (p := 4) rfl _ _ w.heap.size 59 _ (0, 0) _ rfl h2 Tryd.underlying59 rfl (by kernel_rfl)) rfl ?_
      exact take_fin HV.out u2 hrb hg rfl
    · have e : s.discard m = (⟨[], (m : Int), 0, false, 0⟩, s.take m false) := (if_neg (by omega)).trans ((if_neg (by omega)).trans (if_neg (by omega)))
      have K1 := Lib.hid (HKT.out m (by omega))
      rw [e]
      clear HKT e
      go_enter Tryd.func48, Tryd.ntmps48
      go_wp2_with (first | (go_at_call 45; refine callRet K1.out ?_; intro v w1 hv; have HV := Lib.hid hv; clear hv) | (refine wpList_plain rfl (fun K hK => ?_); refine wp_storeAll (n := 5) (by kernel_rfl) (.tmp 4) (.tmp 35) rfl w.heap.size rfl #[.slice none 0 0, .int .i64 (m : Int), .int .i32 0, .bool false, .int .i64 0] rfl rfl (by simp [Value.oneCell']) _ 59 (STORE.out _ HV.out.1.2) rfl ?_; intro w2 h2 u2 z2; refine hK _ _ ?_; clear hK K))
      refine bodyPost_ret (results_cell_row (p := 4) rfl _ _ w.heap.size 59 _ (0, 0) _ rfl h2 Tryd.underlying59 rfl (by kernel_rfl)) rfl ?_
      exact take_fin (code := 0) HV.out u2 hrb hg rfl
/-- a step, as its value -/
def stepV (k n d : Int) : Value := .agg #[.int .i64 k, .int .i64 n, .int .u8 d]
theorem do_fin {w w1 w2 : World} {rb g : Nat} {x : Ans × SR} {b1 b2 v : Value} {cs0 cs1 : Array Value} {t1 : TypeId} (hb : AnsPost rb g ((w.alloc (.cells cs0 t1)).alloc (.cells cs1 59)) x v w1) (hu : Upd (fun k => k = w.heap.size + 1) w1 w2) (hrb : rb < w.heap.size) (hg : g < w.heap.size) (hb1 : b1 = v) (hb2 : b2 = .bool true) :
    DoPost rb g w ((x.1, true), x.2) (.tuple #[b1, b2]) w2 := by
  obtain ⟨⟨hR, hU⟩, ab, c, hv, hby, hp⟩ := hb
  subst hb1; subst hb2
  refine ⟨b1, rfl, ⟨hR.upd hu (fun h => by omega) (fun h => by omega), ?_⟩, ab, c, hv, hby.upd hu (fun p hp' _ h => by have := hp p hp'; omega), hp⟩
  exact ((((Upd.refl _ _).alloc _).alloc _).trans hU (fun k hk _ => hk)).trans hu (fun k hk hlt => by have hk : k = w.heap.size + 1 := hk; omega)
/-- an answer's value, opened: its five cells -/
theorem AnsV.cells {w : World} {g : Nat} {v : Value} {a : Ans} (h : AnsV w g v a) : ∃ cs : Array Value, v = .agg cs ∧ cs.size = 5 ∧ ∀ u ∈ cs.toList, u.oneCell' = true := by
  obtain ⟨ab, c, rfl, _⟩ := h
  exact ⟨_, rfl, rfl, by simp [Value.oneCell']⟩
set_option maxRecDepth 100000 in
set_option maxHeartbeats 1000000 in
theorem specDo5 {w : World} {rb g : Nat} {s : SR} (h : SRd w rb g s) (n d : Int) (hn : n ≤ 65536) :
    Calls Tryd.prog 26 #[.pointer (some ⟨rb, 0, none⟩), .agg #[.int .i64 5, .int .i64 n, .int .u8 d]] w (Ret (DoPost rb g w (((s.peek n).1, true), (s.peek n).2))) := by
  have hrb : rb < w.heap.size := by obtain ⟨⟨oL, cL, oA, cA, hb, _⟩, _⟩ := h; exact (Array.getElem?_eq_some_iff.1 hb).1
  have hg := h.glt
  have K1 := Lib.hid (specPeek ((h.new ((Upd.refl _ w).alloc (.cells #[.int .i64 5, .int .i64 n, .int .u8 d] 53))).new ((Upd.refl _ _).alloc (.cells #[.slice none 0 0, .int .i64 0, .int .i32 0, .bool false, .int .i64 0] 59))) n hn)
  have STORE : Hid (∀ (w1 : World), Upd (fun k => k = rb) ((w.alloc (.cells #[.int .i64 5, .int .i64 n, .int .u8 d] 53)).alloc (.cells #[.slice none 0 0, .int .i64 0, .int .i32 0, .bool false, .int .i64 0] 59)) w1 → w1.heap[w.heap.size + 1]? = some (.cells #[.slice none 0 0, .int .i64 0, .int .i32 0, .bool false, .int .i64 0] 59 (0, 0))) := fun w1 u => u.heap (heap_alloc2_new _ _ _) (fun h => by omega)
  clear h
  go_enter Tryd.func26, Tryd.ntmps26
  go_wp2_with (first | (go_at_call 47; refine callRet K1.out ?_; intro v w1 hv; have HV := Lib.hid hv; clear hv) | (refine wpList_plain rfl (fun K hK => ?_); obtain ⟨cs, hcs, hsz, hone⟩ := HV.out.2.cells; refine wp_storeAll (n := 5) (by kernel_rfl) (.tmp 4) (.tmp 80) rfl (w.heap.size + 1) rfl cs hcs hsz hone _ 59 (STORE.out _ HV.out.1.2) rfl ?_; intro w2 h2 u2 z2; refine hK _ _ ?_; clear hK K))
  refine bodyPost_ret (results_cell_tmp' (p := 4) (u := 5) rfl _ _ (w.heap.size + 1) 59 _ (0, 0) _ rfl h2 Tryd.underlying59 rfl (by rw [hsz]; kernel_rfl)) rfl ?_
  exact do_fin HV.out u2 hrb hg hcs.symm rfl
set_option maxRecDepth 100000 in
set_option maxHeartbeats 1000000 in
theorem specDo6 {w : World} {rb g : Nat} {s : SR} (h : SRd w rb g s) (n d : Int) (hn1 : -9223372036854775808 ≤ n) (hn2 : n ≤ 9223372036854775807) :
    Calls Tryd.prog 26 #[.pointer (some ⟨rb, 0, none⟩), .agg #[.int .i64 6, .int .i64 n, .int .u8 d]] w (Ret (DoPost rb g w (((s.discard n).1, true), (s.discard n).2))) := by
  have hrb : rb < w.heap.size := by obtain ⟨⟨oL, cL, oA, cA, hb, _⟩, _⟩ := h; exact (Array.getElem?_eq_some_iff.1 hb).1
  have hg := h.glt
  have K1 := Lib.hid (specDiscard ((h.new ((Upd.refl _ w).alloc (.cells #[.int .i64 6, .int .i64 n, .int .u8 d] 53))).new ((Upd.refl _ _).alloc (.cells #[.slice none 0 0, .int .i64 0, .int .i32 0, .bool false, .int .i64 0] 59))) n hn1 hn2)
  have STORE : Hid (∀ (w1 : World), Upd (fun k => k = rb) ((w.alloc (.cells #[.int .i64 6, .int .i64 n, .int .u8 d] 53)).alloc (.cells #[.slice none 0 0, .int .i64 0, .int .i32 0, .bool false, .int .i64 0] 59)) w1 → w1.heap[w.heap.size + 1]? = some (.cells #[.slice none 0 0, .int .i64 0, .int .i32 0, .bool false, .int .i64 0] 59 (0, 0))) := fun w1 u => u.heap (heap_alloc2_new _ _ _) (fun h => by omega)
  clear h
  go_enter Tryd.func26, Tryd.ntmps26
  go_wp2_with (first | (go_at_call 48; refine callRet K1.out ?_; intro v w1 hv; have HV := Lib.hid hv; clear hv) | (refine wpList_plain rfl (fun K hK => ?_); obtain ⟨cs, hcs, hsz, hone⟩ := HV.out.2.cells; refine wp_storeAll (n := 5) (by kernel_rfl) (.tmp 4) (.tmp 86) rfl (w.heap.size + 1) rfl cs hcs hsz hone _ 59 (STORE.out _ HV.out.1.2) rfl ?_; intro w2 h2 u2 z2; refine hK _ _ ?_; clear hK K))
  refine bodyPost_ret (results_cell_tmp' (p := 4) (u := 5) rfl _ _ (w.heap.size + 1) 59 _ (0, 0) _ rfl h2 Tryd.underlying59 rfl (by rw [hsz]; kernel_rfl)) rfl ?_
  exact do_fin HV.out u2 hrb hg hcs.symm rfl
end Go.Proofs.YtmmjfpcmempeeaaDoor
