/- spec.Reader's take, back, undo, discard. -/
import Derived.Test.YtmmjfpcmempeeaaDoorSpecRd
import Derived.Laws.ResultCell
namespace Go.Proofs.YtmmjfpcmempeeaaDoor
open Go.RowKit
theorem SRd.setLeft {w : World} {rb g : Nat} {s : SR} (h : SRd w rb g s) {o c : Nat} {bs : List UInt8} (hb : BytesA w (some ⟨g, o, none⟩) c bs) (hs : ∃ pre, s.all = pre ++ bs) : SRd (w.setCell ⟨rb, 0, none⟩ (.slice (some ⟨g, o, none⟩) bs.length c)) rb g { s with left := bs } := by
  obtain ⟨⟨oL, cL, oA, cA, hc, hl, ha⟩, hne, hg, _⟩ := h
  have u : Upd (fun k => k = rb) w (w.setCell ⟨rb, 0, none⟩ (.slice (some ⟨g, o, none⟩) bs.length c)) := (Upd.refl (fun k => k = rb) w).setCell (fun _ => rfl) _
  refine ⟨⟨o, c, oA, cA, by rw [World.heap_setCell_self hc]; rfl, ?_, ?_⟩, hne, by have := u.size; omega, hs⟩
  · exact hb.upd u (fun p hp _ => by simp only [Option.some.injEq] at hp; subst hp; exact fun hh => hne hh.symm)
  · exact ha.upd u (fun p hp _ => by simp only [Option.some.injEq] at hp; subst hp; exact fun hh => hne hh.symm)
def SR.take (s : SR) (n : Nat) (read : Bool) : SR := { s with left := s.left.drop n, last := read && decide (0 < n), rune := 0, op := read && decide (n = 0) }
def SR.back (s : SR) (n : Nat) : SR := { s with left := s.all.drop (s.all.length - s.left.length - n), last := false, rune := 0, op := false }
theorem SRd.cells {w : World} {rb g oL cL oA cA : Nat} {s : SR} (hb : w.heap[rb]? = some (.cells (srCells g oL cL oA cA s) 44 (0, 0))) :
    w.cell? ⟨rb, 0, none⟩ = some (.slice (some ⟨g, oL, none⟩) s.left.length cL) ∧ w.cell? ⟨rb, 1, none⟩ = some (.int .i64 (s.size : Int)) ∧ w.cell? ⟨rb, 2, none⟩ = some (.int .i64 (s.endc : Int)) ∧
    w.cell? ⟨rb, 3, none⟩ = some (.slice (some ⟨g, oA, none⟩) s.all.length cA) ∧ w.cell? ⟨rb, 4, none⟩ = some (.bool s.last) ∧ w.cell? ⟨rb, 5, none⟩ = some (.int .i64 (s.rune : Int)) ∧ w.cell? ⟨rb, 6, none⟩ = some (.bool s.op) ∧ ∀ i, w.frozen? ⟨rb, i, none⟩ = false := by
  refine ⟨?_, ?_, ?_, ?_, ?_, ?_, ?_, fun i => World.frozen_of_heap hb i⟩ <;> (rw [World.cell_of_heap hb]; rfl)
theorem suf_drop {α : Type} {l pre m : List α} (h : l = pre ++ m) (k : Nat) : ∃ pre', l = pre' ++ m.drop k := ⟨pre ++ m.take k, by rw [h, List.append_assoc, List.take_append_drop]⟩
def TakePost (rb g : Nat) (w : World) (s : SR) (n : Nat) (read : Bool) (v : Value) (w' : World) : Prop :=
  Ends rb g w (s.take n read) w' ∧ ∃ o c, v = .slice (some ⟨g, o, none⟩) n c ∧ BytesA w' (some ⟨g, o, none⟩) c (s.left.take n)
set_option maxRecDepth 100000 in
set_option maxHeartbeats 1000000 in
theorem specTake {w : World} {rb g : Nat} {s : SR} (h : SRd w rb g s) (n : Nat) (read : Bool) (hn : n ≤ s.left.length) :
    Calls Tryd.prog 45 #[.pointer (some ⟨rb, 0, none⟩), .int .i64 (n : Int), .bool read] w (Ret (TakePost rb g w s n read)) := by
  have H := Lib.hid h
  obtain ⟨⟨oL, cL, oA, cA, hb, hl, ha⟩, hne, hg, hs⟩ := h
  have HL := Lib.hid hl
  have l1 := hl.1
  have l2 := hl.2.1
  unfold maxLen at l2
  have HS := Lib.hid hs
  obtain ⟨c0, c1, c2, c3, c4, c5, c6, hf⟩ := SRd.cells hb
  have HFIN : Hid (∀ (o c k k2 c2 : Nat) (b1 b2 : Bool) (wx : World), wx = (((w.setCell ⟨rb, 0, none⟩ (.slice (some ⟨g, o, none⟩) k c)).setCell ⟨rb, 4, none⟩ (.bool b1)).setCell ⟨rb, 5, none⟩ (.int .i64 0)).setCell ⟨rb, 6, none⟩ (.bool b2) → (cL = n ∧ o = oL ∧ c = 0) ∨ (cL ≠ n ∧ o = oL + n ∧ c = cL - n) → k = s.left.length - n → k2 = n → c2 = cL → b1 = (read && decide (0 < n)) → b2 = (read && decide (n = 0)) →
      TakePost rb g w s n read (.slice (some ⟨g, oL, none⟩) k2 c2) wx) := by
    intro o c k k2 c2 b1 b2 wx hw hor hk hk2 hc2 hb1 hb2
    subst hb1; subst hb2; rw [hk2, hc2]
    obtain ⟨pre, hpre⟩ := hs
    have hb0 : BytesA w (some ⟨g, o, none⟩) c (s.left.drop n) := by
      have e : s.left.drop n = (s.left.take s.left.length).drop n := by rw [List.take_length]
      rcases hor with ⟨h1, rfl, rfl⟩ | ⟨h1, rfl, rfl⟩
      · rw [e]; exact hl.sub0 (Nat.le_refl _) h1
      · rw [e]; exact hl.sub1 hn (Nat.le_refl _)
    have hk' : k = (s.left.drop n).length := by rw [List.length_drop]; exact hk
    subst hk'
    have hR : SRd wx rb g (s.take n read) := by
      rw [hw]; exact (((H.out.setLeft hb0 (suf_drop hpre n)).setLast _).setRune 0).setOp _
    have hU : Upd (fun k => k = rb) w wx := by
      rw [hw]; exact ((((Upd.refl (fun k => k = rb) w).setCell (fun _ => rfl) _).setCell (fun _ => rfl) _).setCell (fun _ => rfl) _).setCell (fun _ => rfl) _
    refine ⟨⟨hR, hU⟩, oL, cL, rfl, (hl.take n).upd hU (fun p hp _ hh => ?_)⟩
    simp only [Option.some.injEq] at hp; subst hp; exact hne hh.symm
  clear hb hl ha hne hg hs
  rcases Nat.eq_zero_or_pos n with h0 | h0
  · have h1 : n ≤ 0 := by omega
    have q1 : decide ((0 : Int) < (n : Int)) = false := decide_eq_false (by omega)
    have q2 : ((n : Int) == 0) = true := by simp; omega
    clear h0
    cases read
    all_goals
      go_enter Tryd.func45, Tryd.ntmps45
      (go_wp2_with fail; (repeat' (refine wp_region_lx {} (by kernel_rfl) (by kernel_rfl) ⟨fun _ _ _ h => h.2, fun _ _ h => h⟩ ?_; (repeat' (first | (refine wpLx_calm rfl rfl rfl (fun K hK => ?_); go_step <;> (refine hK _ ?_; clear hK K)) | (refine wpLx_skip2 rfl rfl rfl ?_; go_simp) | (refine wpLx_calm2 rfl rfl rfl rfl rfl (fun K hK => ?_); go_step <;> (refine hK _ ?_; clear hK K)))); all_goals (refine wpLx_nil ?_; try go_wp2_with fail))))
      all_goals
        go_ret
        first | exact HFIN.out _ _ _ _ _ _ _ _ rfl (.inl ⟨by omega, rfl, rfl⟩) (by omega) (by omega) (by omega) (by simp <;> omega) (by simp <;> omega) | exact HFIN.out _ _ _ _ _ _ _ _ rfl (.inr ⟨by omega, rfl, rfl⟩) (by omega) (by omega) (by omega) (by simp <;> omega) (by simp <;> omega)
  · have q1 : decide ((0 : Int) < (n : Int)) = true := decide_eq_true (by omega)
    have q2 : ((n : Int) == 0) = false := by simp; omega
    cases read
    all_goals
      go_enter Tryd.func45, Tryd.ntmps45
      (go_wp2_with fail; (repeat' (refine wp_region_lx {} (by kernel_rfl) (by kernel_rfl) ⟨fun _ _ _ h => h.2, fun _ _ h => h⟩ ?_; (repeat' (first | (refine wpLx_calm rfl rfl rfl (fun K hK => ?_); go_step <;> (refine hK _ ?_; clear hK K)) | (refine wpLx_skip2 rfl rfl rfl ?_; go_simp) | (refine wpLx_calm2 rfl rfl rfl rfl rfl (fun K hK => ?_); go_step <;> (refine hK _ ?_; clear hK K)))); all_goals (refine wpLx_nil ?_; try go_wp2_with fail))))
      all_goals
        go_ret
        first | exact HFIN.out _ _ _ _ _ _ _ _ rfl (.inl ⟨by omega, rfl, rfl⟩) (by omega) (by omega) (by omega) (by simp <;> omega) (by simp <;> omega) | exact HFIN.out _ _ _ _ _ _ _ _ rfl (.inr ⟨by omega, rfl, rfl⟩) (by omega) (by omega) (by omega) (by simp <;> omega) (by simp <;> omega)
def BackPost (rb g : Nat) (w : World) (s : SR) (n : Nat) (v : Value) (w' : World) : Prop := v = .tuple #[] ∧ Ends rb g w (s.back n) w'
set_option maxRecDepth 100000 in
set_option maxHeartbeats 1000000 in
theorem specBack {w : World} {rb g : Nat} {s : SR} (h : SRd w rb g s) (n : Nat) (hn : n + s.left.length ≤ s.all.length) :
    Calls Tryd.prog 70 #[.pointer (some ⟨rb, 0, none⟩), .int .i64 (n : Int)] w (Ret (BackPost rb g w s n)) := by
  have H := Lib.hid h
  obtain ⟨⟨oL, cL, oA, cA, hb, hl, ha⟩, hne, hg, hs⟩ := h
  have l1 := ha.1
  have l2 := ha.2.1
  have l3 := hl.1
  unfold maxLen at l2
  obtain ⟨c0, c1, c2, c3, c4, c5, c6, hf⟩ := SRd.cells hb
  obtain ⟨k, hk⟩ : ∃ k, k = s.all.length - s.left.length - n := ⟨_, rfl⟩
  have hk2 : (s.all.length : Int) - (s.left.length : Int) - (n : Int) = (k : Int) := by omega
  have hkA : k ≤ s.all.length := by omega
  have HFIN : Hid (∀ (o c m : Nat) (wx : World), wx = ((((w.setCell ⟨rb, 0, none⟩ (.slice (some ⟨g, o, none⟩) m c)).setCell ⟨rb, 4, none⟩ (.bool false)).setCell ⟨rb, 5, none⟩ (.int .i64 0)).setCell ⟨rb, 6, none⟩ (.bool false)).drew → (cA = k ∧ o = oA ∧ c = 0) ∨ (cA ≠ k ∧ o = oA + k ∧ c = cA - k) → m = s.all.length - k →
      BackPost rb g w s n (.tuple #[]) wx) := by
    intro o c m wx hw hor hm
    obtain ⟨pre, hpre⟩ := hs
    have hb0 : BytesA w (some ⟨g, o, none⟩) c (s.all.drop k) := by
      have e : s.all.drop k = (s.all.take s.all.length).drop k := by rw [List.take_length]
      rcases hor with ⟨h1, rfl, rfl⟩ | ⟨h1, rfl, rfl⟩
      · rw [e]; exact ha.sub0 (Nat.le_refl _) h1
      · rw [e]; exact ha.sub1 hkA (Nat.le_refl _)
    have hk' : m = (s.all.drop k).length := by rw [List.length_drop]; exact hm
    subst hk'
    have hR : SRd wx rb g (s.back n) := by
      rw [hw]
      unfold SR.back
      rw [← hk]
      exact ((((H.out.setLeft hb0 ⟨s.all.take k, (List.take_append_drop _ _).symm⟩).setLast _).setRune 0).setOp _).new (Upd.refl _ _).drew
    have hU : Upd (fun k => k = rb) w wx := by
      rw [hw]; exact (((((Upd.refl (fun k => k = rb) w).setCell (fun _ => rfl) _).setCell (fun _ => rfl) _).setCell (fun _ => rfl) _).setCell (fun _ => rfl) _).drew
    exact ⟨rfl, hR, hU⟩
  have HK := Lib.hid hk
  clear hb hl ha hne hg hs hk
  go_enter Tryd.func70, Tryd.ntmps70
  go_wp2_with fail
  refine wp_region_lx {} (by kernel_rfl) (by kernel_rfl) ⟨fun _ _ _ h => h.2, fun _ _ h => h⟩ ?_
  (repeat' (first | (refine wpLx_calm rfl rfl rfl (fun K hK => ?_); go_step <;> (refine hK _ ?_; clear hK K)) | (refine wpLx_skip2 rfl rfl rfl ?_; go_simp) | (refine wpLx_calm2 rfl rfl rfl rfl rfl (fun K hK => ?_); go_step <;> (refine hK _ ?_; clear hK K))))
  all_goals
    refine wpLx_eff rfl rfl rfl (fun K hK => ?_)
    go_step
    refine hK _ _ ?_
    clear hK K
    refine wpLx_nil ?_
    (go_wp2_with fail; (repeat' (refine wp_region_lx {} (by kernel_rfl) (by kernel_rfl) ⟨fun _ _ _ h => h.2, fun _ _ h => h⟩ ?_; (repeat' (first | (refine wpLx_calm rfl rfl rfl (fun K hK => ?_); go_step <;> (refine hK _ ?_; clear hK K)) | (refine wpLx_skip2 rfl rfl rfl ?_; go_simp) | (refine wpLx_calm2 rfl rfl rfl rfl rfl (fun K hK => ?_); go_step <;> (refine hK _ ?_; clear hK K)))); all_goals (refine wpLx_nil ?_; try go_wp2_with fail))))
  all_goals
    go_end0
    first | exact HFIN.out _ _ _ _ rfl (.inl ⟨by omega, rfl, rfl⟩) (by omega) | exact HFIN.out _ _ _ _ rfl (.inr ⟨by omega, rfl, rfl⟩) (by omega)
theorem results_cell_tmp' {P : Program} {fn : Func} {p u : Tmp} {ty : TypeId} (h : fn.results = #[.cell p ty, .tmp u]) (tmps : Array Value) (w : World) (g : Nat) (t : TypeId) (cs : Array Value) (fr : Nat × Nat) (d : TypeDesc)
    (hp : tmps.getD p undef = .pointer (some ⟨g, 0, none⟩)) (hg : w.heap[g]? = some (.cells cs t fr))
    (hu : P.underlying ty = some d) (hd : (match d with | .struct _ | .array _ _ => true | _ => false) = true) (hi : (P.info? ty).map (·.size) = some cs.size) :
    (results fn tmps).run P w = .ok (.tuple #[.agg cs, tmps.getD u undef]) w := by
  have hp' : tmps[p]?.getD undef = .pointer (some ⟨g, 0, none⟩) := by simpa using hp
  simp [results, h, hp', asAddr, run_loadVar_row w g t ty cs fr d hg hu hd hi]
/-- an answer's cells -/
def ansCells (ab : Option Addr) (n c : Nat) (a : Ans) : Array Value := #[.slice ab n c, .int .i64 a.n, .int .i32 a.rune, .bool a.flag, .int .i64 (a.code : Int)]
def DoPost (rb g : Nat) (w : World) (x : (Ans × Bool) × SR) (v : Value) (w' : World) : Prop :=
  ∃ av, v = .tuple #[av, .bool x.1.2] ∧ Ends rb g w x.2 w' ∧ AnsV w' g av x.1.1
def Ans.tell (c : Nat) : Ans := ⟨[], 0, 0, false, c⟩
theorem AnsV.tell (w : World) (g c : Nat) : AnsV w g (.agg #[.slice none 0 0, .int .i64 0, .int .i32 0, .bool false, .int .i64 (c : Int)]) (Ans.tell c) :=
  ⟨none, 0, rfl, ⟨Nat.le_refl _, Nat.zero_le _, fun _ => rfl, fun p hp => (by cases hp)⟩, fun p hp => (by cases hp)⟩
def SR.undo (s : SR) (kind : Int) : (Ans × Bool) × SR :=
  if s.op then ((Ans.tell 0, false), s)
  else if kind = 2 then (if s.last then ((Ans.tell 0, true), s.back 1) else ((Ans.tell 5, true), s))
  else if 0 < s.rune then ((Ans.tell 0, true), s.back s.rune) else ((Ans.tell 6, true), s)
/-- what was read can be taken back -/
def SOk (s : SR) : Prop := (s.last = true → 1 + s.left.length ≤ s.all.length) ∧ s.rune + s.left.length ≤ s.all.length
theorem undo_fin {w wx : World} {rb g : Nat} {s : SR} {cs : Array Value} {c : Nat} {b : Bool} (h : SRd w rb g s) (hu : New (w.alloc (.cells #[.slice none 0 0, .int .i64 0, .int .i32 0, .bool false, .int .i64 (c : Int)] 59)) wx)
    (hcs : cs = #[.slice none 0 0, .int .i64 0, .int .i32 0, .bool false, .int .i64 (c : Int)]) : wx.heap[w.heap.size]? = some (.cells cs 59 (0, 0)) ∧ DoPost rb g w ((Ans.tell c, b), s) (.tuple #[.agg cs, .bool b]) wx := by
  subst hcs
  exact ⟨hu.heap (heap_alloc_new _ _) (fun h => h), _, rfl, ⟨h.new (((Upd.refl _ _).alloc _).andNew hu), ((Upd.refl _ _).alloc _).andNew hu⟩, AnsV.tell _ _ _⟩
theorem undo_fin2 {w w1 wx : World} {rb g n : Nat} {s : SR} {cs cs0 : Array Value} {v : Value} {c : Nat} (hb : BackPost rb g (w.alloc (.cells cs0 59)) s n v w1) (hu : Upd (fun k => k = w.heap.size) w1 wx) (hrb : rb < w.heap.size) (hg : g < w.heap.size)
    (hh : wx.heap[w.heap.size]? = some (.cells cs 59 (0, 0))) (hcs : cs = #[.slice none 0 0, .int .i64 0, .int .i32 0, .bool false, .int .i64 (c : Int)]) : DoPost rb g w ((Ans.tell c, true), s.back n) (.tuple #[.agg cs, .bool true]) wx := by
  obtain ⟨_, hR, hU⟩ := hb
  subst hcs
  refine ⟨_, rfl, ⟨hR.upd hu (fun h => by omega) (fun h => by omega), ?_⟩, AnsV.tell _ _ _⟩
  exact (((Upd.refl _ _).alloc _).trans hU (fun k hk _ => hk)).trans hu (fun k hk hlt => by have hk : k = w.heap.size := hk; omega)
set_option maxRecDepth 100000 in
set_option maxHeartbeats 1000000 in
theorem specUndo {w : World} {rb g : Nat} {s : SR} (h : SRd w rb g s) (ok : SOk s) (kind : Int) :
    Calls Tryd.prog 46 #[.pointer (some ⟨rb, 0, none⟩), .int .i64 kind] w (Ret (DoPost rb g w (s.undo kind))) := by
  have H := Lib.hid h
  have KB := fun n hn => Lib.hid (specBack (h.new ((Upd.refl _ w).alloc (.cells #[.slice none 0 0, .int .i64 0, .int .i32 0, .bool false, .int .i64 0] 59))) n hn)
  obtain ⟨⟨oL, cL, oA, cA, hb, hl, ha⟩, hne, hg, hs⟩ := h
  have hrb : rb < w.heap.size := (Array.getElem?_eq_some_iff.1 hb).1
  have hrn : rb ≠ w.heap.size := by omega
  have hrn' : w.heap.size ≠ rb := by omega
  have hf2 : ∀ cs : Array Value, ∀ i, (w.alloc (.cells cs 59)).frozen? ⟨rb, i, none⟩ = false := fun cs i => World.frozen_of_heap (((Upd.refl (fun _ => False) w).alloc (.cells cs 59)).heap hb (fun h => h)) i
  obtain ⟨c0, c1, c2, c3, c4, c5, c6, hf⟩ := SRd.cells hb
  clear hb hl ha hne hs hf
  have store : ∀ (w1 : World), Upd (fun k => k = rb) (w.alloc (.cells #[.slice none 0 0, .int .i64 0, .int .i32 0, .bool false, .int .i64 0] 59)) w1 → w1.heap[w.heap.size]? = some (.cells #[.slice none 0 0, .int .i64 0, .int .i32 0, .bool false, .int .i64 0] 59 (0, 0)) := fun w1 u => u.heap (heap_alloc_new _ _) (fun h => by omega)
  have STORE := Lib.hid store
  clear store
  cases hop : s.op with
  | true =>
    have e : s.undo kind = ((Ans.tell 0, false), s) := by unfold SR.undo; rw [if_pos hop]
    rw [hop] at c6
    rw [e]
    clear KB hop e
    go_enter Tryd.func46, Tryd.ntmps46
    (go_wp2_with fail; (repeat' (refine wp_region_lx {} (by kernel_rfl) (by kernel_rfl) ⟨fun _ _ _ h => h.2, fun _ _ h => h⟩ ?_; (repeat' (first | (refine wpLx_calm rfl rfl rfl (fun K hK => ?_); go_step <;> (refine hK _ ?_; clear hK K)) | (refine wpLx_skip2 rfl rfl rfl ?_; go_simp) | (refine wpLx_calm2 rfl rfl rfl rfl rfl (fun K hK => ?_); go_step <;> (refine hK _ ?_; clear hK K)))); all_goals (refine wpLx_nil ?_; try go_wp2_with fail))))
    have fin := undo_fin (b := false) (c := 0) H.out (Upd.refl _ _) rfl
    refine bodyPost_ret (results_cell_tmp' (p := 4) (u := 5) rfl _ _ w.heap.size 59 _ (0, 0) _ rfl fin.1 Tryd.underlying59 rfl (by kernel_rfl)) rfl ?_
    exact fin.2
  | false =>
    rw [hop] at c6
    have HOP := Lib.hid hop
    clear hop
    by_cases hk : kind = 2
    · have q1 : (kind == 2) = true := by simp [hk]
      cases hla : s.last with
      | true =>
        have e : s.undo kind = ((Ans.tell 0, true), s.back 1) := by unfold SR.undo; rw [if_neg (by rw [HOP.out]; simp), if_pos hk, if_pos hla]
        rw [hla] at c4
        rw [e]
        have K1 := Lib.hid (KB 1 (ok.1 hla)).out
        clear hk KB hla e
        go_enter Tryd.func46, Tryd.ntmps46
        go_wp2_with (first | (go_at_call 70; refine callRet K1.out ?_; intro v w1 hv; have HV := Lib.hid hv; clear hv) | (refine wpList_plain rfl (fun K hK => ?_); refine wp_storeAll (n := 5) (by kernel_rfl) (.tmp 4) (.tmp 23) rfl w.heap.size rfl #[.slice none 0 0, .int .i64 0, .int .i32 0, .bool false, .int .i64 0] rfl rfl (by simp [Value.oneCell']) _ 59 (STORE.out _ HV.out.2.2) rfl ?_; intro w2 h2 u2 z2; refine hK _ _ ?_; clear hK K))
        refine bodyPost_ret (results_cell_tmp' (p := 4) (u := 5) rfl _ _ w.heap.size 59 _ (0, 0) _ rfl h2 Tryd.underlying59 rfl (by kernel_rfl)) rfl ?_
        exact undo_fin2 (c := 0) HV.out u2 hrb hg h2 rfl
      | false =>
        have e : s.undo kind = ((Ans.tell 5, true), s) := by unfold SR.undo; rw [if_neg (by rw [HOP.out]; simp), if_pos hk, if_neg (by rw [hla]; simp)]
        rw [hla] at c4
        rw [e]
        clear hk KB hla e
        go_enter Tryd.func46, Tryd.ntmps46
        (go_wp2_with fail; (repeat' (refine wp_region_lx {} (by kernel_rfl) (by kernel_rfl) ⟨fun _ _ _ h => h.2, fun _ _ h => h⟩ ?_; (repeat' (first | (refine wpLx_calm rfl rfl rfl (fun K hK => ?_); go_step <;> (refine hK _ ?_; clear hK K)) | (refine wpLx_skip2 rfl rfl rfl ?_; go_simp) | (refine wpLx_calm2 rfl rfl rfl rfl rfl (fun K hK => ?_); go_step <;> (refine hK _ ?_; clear hK K)))); all_goals (refine wpLx_nil ?_; try go_wp2_with fail))))
        have fin := undo_fin (b := true) (c := 5) H.out (Upd.refl _ _) rfl
        refine bodyPost_ret (results_cell_tmp' (p := 4) (u := 5) rfl _ _ w.heap.size 59 _ (0, 0) _ rfl fin.1 Tryd.underlying59 rfl (by kernel_rfl)) rfl ?_
        exact fin.2
    · have q1 : (kind == 2) = false := by simp [hk]
      by_cases hr : 0 < s.rune
      · have e : s.undo kind = ((Ans.tell 0, true), s.back s.rune) := by unfold SR.undo; rw [if_neg (by rw [HOP.out]; simp), if_neg hk, if_pos hr]
        have q2 : decide ((0 : Int) < (s.rune : Int)) = true := decide_eq_true (by omega)
        rw [e]
        have K1 := Lib.hid (KB s.rune ok.2).out
        clear hk KB e
        go_enter Tryd.func46, Tryd.ntmps46
        go_wp2_with (first | (go_at_call 70; refine callRet K1.out ?_; intro v w1 hv; have HV := Lib.hid hv; clear hv) | (refine wpList_plain rfl (fun K hK => ?_); refine wp_storeAll (n := 5) (by kernel_rfl) (.tmp 4) (.tmp 40) rfl w.heap.size rfl #[.slice none 0 0, .int .i64 0, .int .i32 0, .bool false, .int .i64 0] rfl rfl (by simp [Value.oneCell']) _ 59 (STORE.out _ HV.out.2.2) rfl ?_; intro w2 h2 u2 z2; refine hK _ _ ?_; clear hK K))
        refine bodyPost_ret (results_cell_tmp' (p := 4) (u := 5) rfl _ _ w.heap.size 59 _ (0, 0) _ rfl h2 Tryd.underlying59 rfl (by kernel_rfl)) rfl ?_
        exact undo_fin2 (c := 0) HV.out u2 hrb hg h2 rfl
      · have e : s.undo kind = ((Ans.tell 6, true), s) := by unfold SR.undo; rw [if_neg (by rw [HOP.out]; simp), if_neg hk, if_neg hr]
        have q2 : decide ((0 : Int) < (s.rune : Int)) = false := decide_eq_false (by omega)
        rw [e]
        clear hk KB e
        go_enter Tryd.func46, Tryd.ntmps46
        (go_wp2_with fail; (repeat' (refine wp_region_lx {} (by kernel_rfl) (by kernel_rfl) ⟨fun _ _ _ h => h.2, fun _ _ h => h⟩ ?_; (repeat' (first | (refine wpLx_calm rfl rfl rfl (fun K hK => ?_); go_step <;> (refine hK _ ?_; clear hK K)) | (refine wpLx_skip2 rfl rfl rfl ?_; go_simp) | (refine wpLx_calm2 rfl rfl rfl rfl rfl (fun K hK => ?_); go_step <;> (refine hK _ ?_; clear hK K)))); all_goals (refine wpLx_nil ?_; try go_wp2_with fail))))
        have fin := undo_fin (b := true) (c := 6) H.out (Upd.refl _ _) rfl
        refine bodyPost_ret (results_cell_tmp' (p := 4) (u := 5) rfl _ _ w.heap.size 59 _ (0, 0) _ rfl fin.1 Tryd.underlying59 rfl (by kernel_rfl)) rfl ?_
        exact fin.2
end Go.Proofs.YtmmjfpcmempeeaaDoor
