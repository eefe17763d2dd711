/- spec.Reader's line; Do at the kinds 7 to 10. -/
import Derived.Test.YtnpalkndocokkaaDoorSpecLine
namespace Go.Proofs.YtnpalkndocokkaaDoor
open Go.RowKit
def SR.line (s : SR) (kind : Nat) (d : UInt8) : Ans × SR :=
  let x := lineS s.left (if 8 < kind then s.left.length + 1 else s.size) (if kind = 8 then 10 else d) s.endc
  let s1 := s.take x.1.length true
  if kind ≠ 8 then (⟨x.1, 0, 0, false, x.2⟩, s1)
  else if x.2 = 3 then
    if x.1[x.1.length - 1]? = some 13 then (⟨x.1.take (x.1.length - 1), 0, 0, true, 0⟩, { s1.back 1 with op := true }) else (⟨x.1, 0, 0, true, 0⟩, { s1 with op := true })
  else (⟨x.1.take (cutN x.1), 0, 0, false, if 0 < x.1.length then 0 else x.2⟩, s1)
theorem lineS_take (b : List UInt8) (size : Nat) (d : UInt8) (e : Nat) : (lineS b size d e).1 = b.take (lineS b size d e).1.length := by
  unfold lineS
  split
  · rw [List.length_take, ← List.take_take, List.take_length]
  · split
    · simp
    · rw [List.length_take, ← List.take_take, List.take_length]
theorem lineS_le (b : List UInt8) (size : Nat) (d : UInt8) (e : Nat) : (lineS b size d e).1.length ≤ b.length := by
  rw [lineS_take]; exact List.length_take_le' _ _
/-- bytes told, as a slice of the reader's block; the reader as it stands -/
theorem ln_fin {w w3 w4 : World} {rb g o c m : Nat} {s' : SR} {bs : List UInt8} {code : Nat} {fl : Bool} {W2 : World} (hW : New w W2) (hR : SRd w3 rb g s') (hU : Upd (fun k => k = rb) W2 w3) (hu : Upd (fun k => k = w.heap.size + 1) w3 w4) (hrb : rb < w.heap.size) (hg : g < w.heap.size) (hm : bs.length = m) (hb : BytesA w3 (some ⟨g, o, none⟩) c bs) :
    AnsPost rb g w (⟨bs, 0, 0, fl, code⟩, s') (.agg #[.slice (some ⟨g, o, none⟩) m c, .int .i64 0, .int .i32 0, .bool fl, .int .i64 (code : Int)]) w4 := by
  subst hm
  refine ⟨⟨hR.upd hu (fun h => by omega) (fun h => by omega), (((hW.mono (M := fun k => k = rb) (fun _ hh _ => hh.elim)).trans hU (fun k hk _ => hk)).trans hu (fun k hk hlt => by have hk : k = w.heap.size + 1 := hk; omega))⟩, some ⟨g, o, none⟩, c, rfl, hb.upd hu (fun p hp _ h => by simp only [Option.some.injEq] at hp; subst hp; have h : g = w.heap.size + 1 := h; omega), fun p hp => by simp only [Option.some.injEq] at hp; subst hp; rfl⟩
set_option maxRecDepth 100000 in
set_option maxHeartbeats 1000000 in
/-- all kinds but 8 -/
theorem specLn {w : World} {rb g : Nat} {s : SR} (h : SRd w rb g s) (k : Nat) (n : Int) (d : UInt8) (hk : k = 7 ∨ k = 9 ∨ k = 10) (hsz : s.size ≤ 70368744177664) (hl0 : s.left.length ≤ 1048576) :
    Calls Tryd.prog 40 #[.pointer (some ⟨rb, 0, none⟩), .agg #[.int .i64 (k : Int), .int .i64 n, .int .u8 (d.toNat : Int)]] w (Ret (AnsPost rb g w (s.line k d))) := by
  obtain ⟨X, hX⟩ : ∃ X, X = lineS s.left (if 8 < k then s.left.length + 1 else s.size) d s.endc := ⟨_, rfl⟩
  have hk8 : k ≠ 8 := by omega
  have e : s.line k d = (⟨X.1, 0, 0, false, X.2⟩, s.take X.1.length true) := by
    unfold SR.line
    simp only [if_neg hk8, hX]
    rw [if_pos hk8]
  have hXt : X.1 = s.left.take X.1.length := by rw [hX]; exact lineS_take _ _ _ _
  have hXl : X.1.length ≤ s.left.length := by rw [hX]; exact lineS_le _ _ _ _
  obtain ⟨m, hm⟩ : ∃ m, X.1.length = m := ⟨_, rfl⟩
  rw [e, hm]
  rw [hm] at hXl hXt
  have hW2 : Hid (New w ((w.alloc (.cells #[.int .i64 (k : Int), .int .i64 n, .int .u8 (d.toNat : Int)] 43)).alloc (.cells #[.slice none 0 0, .int .i64 0, .int .i32 0, .bool false, .int .i64 0] 39))) := ((Upd.refl _ _).alloc _).alloc _
  have H2 := Lib.hid (h.new hW2.out)
  obtain ⟨⟨oL, cL, oA, cA, hb, hl, ha⟩, hne, hg, hs⟩ := h
  have l1 := hl.1
  have l2 := hl.2.1
  unfold maxLen at l2
  have hrb : rb < w.heap.size := (Array.getElem?_eq_some_iff.1 hb).1
  have hb2 := hW2.out.heap hb (fun h => h)
  obtain ⟨c0, c1, c2, c3, c4, c5, c6, hf⟩ := SRd.cells hb
  have r1 : rb ≠ w.heap.size := by omega
  have r2 : w.heap.size ≠ rb := by omega
  have r3 : rb ≠ w.heap.size + 1 := by omega
  have r4 : w.heap.size + 1 ≠ rb := by omega
  have STORE : Hid (∀ (w1 : World), Upd (fun k => k = rb) ((w.alloc (.cells #[.int .i64 (k : Int), .int .i64 n, .int .u8 (d.toNat : Int)] 43)).alloc (.cells #[.slice none 0 0, .int .i64 0, .int .i32 0, .bool false, .int .i64 0] 39)) w1 → w1.heap[w.heap.size + 1]? = some (.cells #[.slice none 0 0, .int .i64 0, .int .i32 0, .bool false, .int .i64 0] 39 (0, 0))) := fun w1 u => u.heap (heap_alloc2_new _ _ _) (fun h => by omega)
  have BOX : Hid (∀ (w1 : World), Upd (fun k => k = rb) ((w.alloc (.cells #[.int .i64 (k : Int), .int .i64 n, .int .u8 (d.toNat : Int)] 43)).alloc (.cells #[.slice none 0 0, .int .i64 0, .int .i32 0, .bool false, .int .i64 0] 39)) w1 → w1.cell? ⟨w.heap.size, 0, none⟩ = some (.int .i64 (k : Int))) := fun w1 u => by
    refine u.cell ?_ (fun h => by have h : w.heap.size = rb := h; omega)
    rw [World.cell_of_heap (((Upd.refl (fun _ => False) _).alloc _).heap (heap_alloc_new w _) (fun h => h))]
    rfl
  have KL := fun wx hx => specLine ((hl.new hW2.out).new (w1 := wx) hx) (if 8 < k then s.left.length + 1 else s.size) (by split <;> omega) d s.endc
  rw [← hX, hm] at KL
  have HT := Lib.hid hXt
  have HL := Lib.hid hl
  have hgr : g ≠ rb := fun hh => hne hh.symm
  have HM := Lib.hid hm
  clear hb hl ha hne hs hb2 hf c3 c4 c5 c6 hX e hXt hm
  by_cases h8 : 8 < k
  · have q1 : ((k : Int) == 8) = false := by simp; omega
    have q2 : decide ((8 : Int) < (k : Int)) = true := decide_eq_true (by omega)
    have q3 : ((k : Int) != 8) = true := by simp; omega
    rw [if_pos h8] at KL
    rw [show ((s.left.length + 1 : Nat) : Int) = (s.left.length : Int) + 1 by omega] at KL
    have HKL := Lib.hid KL
    clear hk hk8 KL
    go_enter Tryd.func40, Tryd.ntmps40
    go_wp2_with fail
    (refine wp_region_lx {} (by kernel_rfl) (by kernel_rfl) ⟨fun _ _ _ h => h.2, fun _ _ h => h⟩ ?_; (repeat' (first | (refine wpLx_calm rfl rfl rfl (fun K hK => ?_); go_step <;> (refine hK _ ?_; clear hK K)) | (refine wpLx_skip2 rfl rfl rfl ?_; go_simp) | (refine wpLx_calm2 rfl rfl rfl rfl rfl (fun K hK => ?_); go_step <;> (refine hK _ ?_; clear hK K)))); all_goals (refine wpLx_nil ?_))
    (go_wp2_with fail; (repeat' (refine wp_region_lx {} (by kernel_rfl) (by kernel_rfl) ⟨fun _ _ _ h => h.2, fun _ _ h => h⟩ ?_; (repeat' (first | (refine wpLx_calm rfl rfl rfl (fun K hK => ?_); go_step <;> (refine hK _ ?_; clear hK K)) | (refine wpLx_skip2 rfl rfl rfl ?_; go_simp) | (refine wpLx_calm2 rfl rfl rfl rfl rfl (fun K hK => ?_); go_step <;> (refine hK _ ?_; clear hK K)))); all_goals (refine wpLx_nil ?_; try go_wp2_with fail))))
    refine wp_region_lx {qd := [38]} (by kernel_rfl) (by kernel_rfl) ⟨fun _ _ _ h => h.2, fun _ _ h => h⟩ ?_
    (repeat' (first | (refine wpLx_calm rfl rfl rfl (fun K hK => ?_); go_step <;> (refine hK _ ?_; clear hK K)) | (refine wpLx_skip2 rfl rfl rfl ?_; go_simp) | (refine wpLx_calm2 rfl rfl rfl rfl rfl (fun K hK => ?_); go_step <;> (refine hK _ ?_; clear hK K))))
    refine wpLx_call rfl rfl rfl (HKL.out _ (Upd.refl _ _).drew.drew) (by kernel_rfl) ?_
    (repeat' (first | (refine wpLx_calm rfl rfl rfl (fun K hK => ?_); go_step <;> (refine hK _ ?_; clear hK K)) | (refine wpLx_skip2 rfl rfl rfl ?_; go_simp) | (refine wpLx_calm2 rfl rfl rfl rfl rfl (fun K hK => ?_); go_step <;> (refine hK _ ?_; clear hK K))))
    refine wpLx_nil ?_
    go_wp2_with (first | (go_at_call 35; refine callRet (specTake (H2.out.new (Upd.refl _ _).drew.drew) m true hXl) ?_; intro v w3 hv; have k0 := BOX.out w3 ((((Upd.refl (fun k => k = rb) _).drew.drew)).trans hv.1.2 (fun _ h _ => h)); have HV := Lib.hid hv; clear hv) | (refine wpList_plain rfl (fun K hK => ?_); refine wp_storeAll (n := 5) (by kernel_rfl) (.tmp 4) (.tmp 50) rfl (w.heap.size + 1) rfl #[.slice (some ⟨g, oL, none⟩) m cL, .int .i64 0, .int .i32 0, .bool false, .int .i64 (X.2 : Int)] rfl rfl (by simp [Value.oneCell']) _ 39 (STORE.out _ ((((Upd.refl (fun k => k = rb) _).drew.drew)).trans HV.out.1.2 (fun _ h _ => h))) rfl ?_; intro w4 h4 u4 z4; refine hK _ _ ?_; clear hK K))
    refine bodyPost_ret (results_cell_row (p := 4) rfl _ _ (w.heap.size + 1) 39 _ (0, 0) _ rfl h4 Tryd.underlying39 rfl (by kernel_rfl)) rfl ?_
    have hbX : BytesA w3 (some ⟨g, oL, none⟩) cL X.1 := by
      rw [HT.out]
      exact ((HL.out.take m).new (hW2.out.andNew (Upd.refl _ _).drew.drew)).upd HV.out.1.2 (fun p hp _ hh => by simp only [Option.some.injEq] at hp; subst hp; exact hgr hh)
    exact ln_fin (hW2.out.andNew (Upd.refl _ _).drew.drew) HV.out.1.1 HV.out.1.2 u4 hrb hg HM.out hbX
  · have q1 : ((k : Int) == 8) = false := by simp; omega
    have q2 : decide ((8 : Int) < (k : Int)) = false := decide_eq_false (by omega)
    have q3 : ((k : Int) != 8) = true := by simp; omega
    rw [if_neg h8] at KL
    have HKL := Lib.hid KL
    clear hk hk8 KL
    go_enter Tryd.func40, Tryd.ntmps40
    go_wp2_with fail
    (refine wp_region_lx {} (by kernel_rfl) (by kernel_rfl) ⟨fun _ _ _ h => h.2, fun _ _ h => h⟩ ?_; (repeat' (first | (refine wpLx_calm rfl rfl rfl (fun K hK => ?_); go_step <;> (refine hK _ ?_; clear hK K)) | (refine wpLx_skip2 rfl rfl rfl ?_; go_simp) | (refine wpLx_calm2 rfl rfl rfl rfl rfl (fun K hK => ?_); go_step <;> (refine hK _ ?_; clear hK K)))); all_goals (refine wpLx_nil ?_))
    (go_wp2_with fail; (repeat' (refine wp_region_lx {} (by kernel_rfl) (by kernel_rfl) ⟨fun _ _ _ h => h.2, fun _ _ h => h⟩ ?_; (repeat' (first | (refine wpLx_calm rfl rfl rfl (fun K hK => ?_); go_step <;> (refine hK _ ?_; clear hK K)) | (refine wpLx_skip2 rfl rfl rfl ?_; go_simp) | (refine wpLx_calm2 rfl rfl rfl rfl rfl (fun K hK => ?_); go_step <;> (refine hK _ ?_; clear hK K)))); all_goals (refine wpLx_nil ?_; try go_wp2_with fail))))
    refine wp_region_lx {qd := [38]} (by kernel_rfl) (by kernel_rfl) ⟨fun _ _ _ h => h.2, fun _ _ h => h⟩ ?_
    (repeat' (first | (refine wpLx_calm rfl rfl rfl (fun K hK => ?_); go_step <;> (refine hK _ ?_; clear hK K)) | (refine wpLx_skip2 rfl rfl rfl ?_; go_simp) | (refine wpLx_calm2 rfl rfl rfl rfl rfl (fun K hK => ?_); go_step <;> (refine hK _ ?_; clear hK K))))
    refine wpLx_call rfl rfl rfl (HKL.out _ (Upd.refl _ _).drew.drew) (by kernel_rfl) ?_
    (repeat' (first | (refine wpLx_calm rfl rfl rfl (fun K hK => ?_); go_step <;> (refine hK _ ?_; clear hK K)) | (refine wpLx_skip2 rfl rfl rfl ?_; go_simp) | (refine wpLx_calm2 rfl rfl rfl rfl rfl (fun K hK => ?_); go_step <;> (refine hK _ ?_; clear hK K))))
    refine wpLx_nil ?_
    go_wp2_with (first | (go_at_call 35; refine callRet (specTake (H2.out.new (Upd.refl _ _).drew.drew) m true hXl) ?_; intro v w3 hv; have k0 := BOX.out w3 ((((Upd.refl (fun k => k = rb) _).drew.drew)).trans hv.1.2 (fun _ h _ => h)); have HV := Lib.hid hv; clear hv) | (refine wpList_plain rfl (fun K hK => ?_); refine wp_storeAll (n := 5) (by kernel_rfl) (.tmp 4) (.tmp 50) rfl (w.heap.size + 1) rfl #[.slice (some ⟨g, oL, none⟩) m cL, .int .i64 0, .int .i32 0, .bool false, .int .i64 (X.2 : Int)] rfl rfl (by simp [Value.oneCell']) _ 39 (STORE.out _ ((((Upd.refl (fun k => k = rb) _).drew.drew)).trans HV.out.1.2 (fun _ h _ => h))) rfl ?_; intro w4 h4 u4 z4; refine hK _ _ ?_; clear hK K))
    refine bodyPost_ret (results_cell_row (p := 4) rfl _ _ (w.heap.size + 1) 39 _ (0, 0) _ rfl h4 Tryd.underlying39 rfl (by kernel_rfl)) rfl ?_
    have hbX : BytesA w3 (some ⟨g, oL, none⟩) cL X.1 := by
      rw [HT.out]
      exact ((HL.out.take m).new (hW2.out.andNew (Upd.refl _ _).drew.drew)).upd HV.out.1.2 (fun p hp _ hh => by simp only [Option.some.injEq] at hp; subst hp; exact hgr hh)
    exact ln_fin (hW2.out.andNew (Upd.refl _ _).drew.drew) HV.out.1.1 HV.out.1.2 u4 hrb hg HM.out hbX
set_option maxRecDepth 100000 in
set_option maxHeartbeats 1000000 in
theorem specDoLn {w : World} {rb g : Nat} {s : SR} (h : SRd w rb g s) (k : Nat) (n : Int) (d : UInt8) (hk : k = 7 ∨ k = 9 ∨ k = 10) (hsz : s.size ≤ 70368744177664) (hl0 : s.left.length ≤ 1048576) :
    Calls Tryd.prog 16 #[.pointer (some ⟨rb, 0, none⟩), .agg #[.int .i64 (k : Int), .int .i64 n, .int .u8 (d.toNat : Int)]] w (Ret (DoPost rb g w (((s.line k d).1, true), (s.line k d).2))) := by
  have hrb : rb < w.heap.size := by obtain ⟨⟨oL, cL, oA, cA, hb, _⟩, _⟩ := h; exact (Array.getElem?_eq_some_iff.1 hb).1
  have hg := h.glt
  have K1 := Lib.hid (specLn ((h.new ((Upd.refl _ w).alloc (.cells #[.int .i64 (k : Int), .int .i64 n, .int .u8 (d.toNat : Int)] 43))).new ((Upd.refl _ _).alloc (.cells #[.slice none 0 0, .int .i64 0, .int .i32 0, .bool false, .int .i64 0] 39))) k n d hk hsz hl0)
  have STORE : Hid (∀ (w1 : World), Upd (fun k => k = rb) ((w.alloc (.cells #[.int .i64 (k : Int), .int .i64 n, .int .u8 (d.toNat : Int)] 43)).alloc (.cells #[.slice none 0 0, .int .i64 0, .int .i32 0, .bool false, .int .i64 0] 39)) w1 → w1.heap[w.heap.size + 1]? = some (.cells #[.slice none 0 0, .int .i64 0, .int .i32 0, .bool false, .int .i64 0] 39 (0, 0))) := fun w1 u => u.heap (heap_alloc2_new _ _ _) (fun h => by omega)
  clear h
  have p1 : ((k : Int) == 1) = false := by simp; omega
  have p2 : ((k : Int) == 2) = false := by simp; omega
  have p3 : ((k : Int) == 3) = false := by simp; omega
  have p4 : ((k : Int) == 4) = false := by simp; omega
  have p5 : ((k : Int) == 5) = false := by simp; omega
  have p6 : ((k : Int) == 6) = false := by simp; omega
  have p8 : ((k : Int) == 8) = false := by simp; omega
  rcases hk with hk | hk | hk
  · have p7 : ((k : Int) == 7) = true := by simp; omega
    clear hk
    go_enter Tryd.func16, Tryd.ntmps16
    go_wp2_with (first | (go_at_call 40; refine callRet K1.out ?_; intro v w1 hv; have HV := Lib.hid hv; clear hv) | (refine wpList_plain rfl (fun K hK => ?_); obtain ⟨cs, hcs, hsz, hone⟩ := HV.out.2.cells; refine wp_storeAll (n := 5) (by kernel_rfl) (.tmp 4) (.tmp 94) rfl (w.heap.size + 1) rfl cs hcs hsz hone _ 39 (STORE.out _ HV.out.1.2) rfl ?_; intro w2 h2 u2 z2; refine hK _ _ ?_; clear hK K))
    refine bodyPost_ret (results_cell_tmp' (p := 4) (u := 5) rfl _ _ (w.heap.size + 1) 39 _ (0, 0) _ rfl h2 Tryd.underlying39 rfl (by rw [hsz]; kernel_rfl)) rfl ?_
    exact do_fin HV.out u2 hrb hg hcs.symm rfl
  · have p7 : ((k : Int) == 7) = false := by simp; omega
    have p9 : ((k : Int) == 9) = true := by simp; omega
    clear hk
    go_enter Tryd.func16, Tryd.ntmps16
    go_wp2_with (first | (go_at_call 40; refine callRet K1.out ?_; intro v w1 hv; have HV := Lib.hid hv; clear hv) | (refine wpList_plain rfl (fun K hK => ?_); obtain ⟨cs, hcs, hsz, hone⟩ := HV.out.2.cells; refine wp_storeAll (n := 5) (by kernel_rfl) (.tmp 4) (.tmp 94) rfl (w.heap.size + 1) rfl cs hcs hsz hone _ 39 (STORE.out _ HV.out.1.2) rfl ?_; intro w2 h2 u2 z2; refine hK _ _ ?_; clear hK K))
    refine bodyPost_ret (results_cell_tmp' (p := 4) (u := 5) rfl _ _ (w.heap.size + 1) 39 _ (0, 0) _ rfl h2 Tryd.underlying39 rfl (by rw [hsz]; kernel_rfl)) rfl ?_
    exact do_fin HV.out u2 hrb hg hcs.symm rfl
  · have p7 : ((k : Int) == 7) = false := by simp; omega
    have p9 : ((k : Int) == 9) = false := by simp; omega
    have p10 : ((k : Int) == 10) = true := by simp; omega
    clear hk
    go_enter Tryd.func16, Tryd.ntmps16
    go_wp2_with (first | (go_at_call 40; refine callRet K1.out ?_; intro v w1 hv; have HV := Lib.hid hv; clear hv) | (refine wpList_plain rfl (fun K hK => ?_); obtain ⟨cs, hcs, hsz, hone⟩ := HV.out.2.cells; refine wp_storeAll (n := 5) (by kernel_rfl) (.tmp 4) (.tmp 94) rfl (w.heap.size + 1) rfl cs hcs hsz hone _ 39 (STORE.out _ HV.out.1.2) rfl ?_; intro w2 h2 u2 z2; refine hK _ _ ?_; clear hK K))
    refine bodyPost_ret (results_cell_tmp' (p := 4) (u := 5) rfl _ _ (w.heap.size + 1) 39 _ (0, 0) _ rfl h2 Tryd.underlying39 rfl (by rw [hsz]; kernel_rfl)) rfl ?_
    exact do_fin HV.out u2 hrb hg hcs.symm rfl
end Go.Proofs.YtnpalkndocokkaaDoor
