/- spec.Reader's line at the kind 8; Do at the kind 8. -/
import Derived.Test.YtnpalkndocokkaaDoorSpecLn
namespace Go.Proofs.YtnpalkndocokkaaDoor
open Go.RowKit
theorem lineS_full {b : List UInt8} {size : Nat} {d : UInt8} {e : Nat} (he : e ≠ 3) (h : (lineS b size d e).2 = 3) : (lineS b size d e).1.length = size := by
  unfold lineS at h ⊢
  split at h
  · cases h
  · split at h
    · exact absurd h he
    · rename_i h1 h2
      rw [if_neg h2, List.length_take]
      omega
theorem BytesA.at1 {w : World} {g o c i : Nat} {bs : List UInt8} {x : UInt8} (h : BytesA w (some ⟨g, o, none⟩) c bs) (hx : bs[i]? = some x) : w.cell? ⟨g, o + i, none⟩ = some (.int .u8 (x.toNat : Int)) := by
  obtain ⟨hlt, hx⟩ := List.getElem?_eq_some_iff.1 hx
  rw [(h.2.2.2 _ rfl).2 i hlt, hx]; rfl
theorem SRd.cells6 {w : World} {rb g : Nat} {s : SR} (h : SRd w rb g s) : w.cell? ⟨rb, 6, none⟩ = some (.bool s.op) ∧ ∀ i, w.frozen? ⟨rb, i, none⟩ = false := by
  obtain ⟨⟨oL, cL, oA, cA, hb, _⟩, _⟩ := h
  obtain ⟨c0, c1, c2, c3, c4, c5, c6, hf⟩ := SRd.cells hb
  exact ⟨c6, hf⟩
set_option maxRecDepth 100000 in
set_option maxHeartbeats 2000000 in
theorem specLn8 {w : World} {rb g : Nat} {s : SR} (h : SRd w rb g s) (n : Int) (d : UInt8) (hsz : s.size ≤ 70368744177664) (h0s : 0 < s.size) (he3 : s.endc ≠ 3) :
    Calls Tryd.prog 40 #[.pointer (some ⟨rb, 0, none⟩), .agg #[.int .i64 8, .int .i64 n, .int .u8 (d.toNat : Int)]] w (Ret (AnsPost rb g w (s.line 8 d))) := by
  obtain ⟨X, hX⟩ : ∃ X, X = lineS s.left s.size 10 s.endc := ⟨_, rfl⟩
  have e : s.line 8 d = if X.2 = 3 then
      if X.1[X.1.length - 1]? = some 13 then (⟨X.1.take (X.1.length - 1), 0, 0, true, 0⟩, { (s.take X.1.length true).back 1 with op := true }) else (⟨X.1, 0, 0, true, 0⟩, { s.take X.1.length true with op := true })
    else (⟨X.1.take (cutN X.1), 0, 0, false, if 0 < X.1.length then 0 else X.2⟩, s.take X.1.length true) := by
    rw [hX]; rfl
  have hXt : X.1 = s.left.take X.1.length := by rw [hX]; exact lineS_take _ _ _ _
  have hXl : X.1.length ≤ s.left.length := by rw [hX]; exact lineS_le _ _ _ _
  have hXf : X.2 = 3 → X.1.length = s.size := by rw [hX]; exact lineS_full he3
  obtain ⟨m, hm⟩ : ∃ m, X.1.length = m := ⟨_, rfl⟩
  rw [e, hm]
  rw [hm] at hXl hXt hXf
  have hW2 : Hid (New w ((w.alloc (.cells #[.int .i64 8, .int .i64 n, .int .u8 (d.toNat : Int)] 43)).alloc (.cells #[.slice none 0 0, .int .i64 0, .int .i32 0, .bool false, .int .i64 0] 39))) := ((Upd.refl _ _).alloc _).alloc _
  have H2 := Lib.hid (h.new hW2.out)
  obtain ⟨⟨oL, cL, oA, cA, hb, hl, ha⟩, hne, hg, hs⟩ := h
  have l1 := hl.1
  have l2 := hl.2.1
  unfold maxLen at l2
  have hrb : rb < w.heap.size := (Array.getElem?_eq_some_iff.1 hb).1
  have hb2 := hW2.out.heap hb (fun h => h)
  obtain ⟨c0, c1, c2, c3, c4, c5, c6, hf⟩ := SRd.cells hb
  have r1 : rb ≠ w.heap.size := by omega
  have r2 : w.heap.size ≠ rb := by omega
  have r3 : rb ≠ w.heap.size + 1 := by omega
  have r4 : w.heap.size + 1 ≠ rb := by omega
  have STORE : Hid (∀ (w1 : World), Upd (fun k => k = rb) ((w.alloc (.cells #[.int .i64 8, .int .i64 n, .int .u8 (d.toNat : Int)] 43)).alloc (.cells #[.slice none 0 0, .int .i64 0, .int .i32 0, .bool false, .int .i64 0] 39)) w1 → w1.heap[w.heap.size + 1]? = some (.cells #[.slice none 0 0, .int .i64 0, .int .i32 0, .bool false, .int .i64 0] 39 (0, 0))) := fun w1 u => u.heap (heap_alloc2_new _ _ _) (fun h => by omega)
  have BOX : Hid (∀ (w1 : World), Upd (fun k => k = rb) ((w.alloc (.cells #[.int .i64 8, .int .i64 n, .int .u8 (d.toNat : Int)] 43)).alloc (.cells #[.slice none 0 0, .int .i64 0, .int .i32 0, .bool false, .int .i64 0] 39)) w1 → w1.cell? ⟨w.heap.size, 0, none⟩ = some (.int .i64 8)) := fun w1 u => by
    refine u.cell ?_ (fun h => by have h : w.heap.size = rb := h; omega)
    rw [World.cell_of_heap (((Upd.refl (fun _ => False) _).alloc _).heap (heap_alloc_new w _) (fun h => h))]
    rfl
  have KL := fun wx hx => specLine ((hl.new hW2.out).new (w1 := wx) hx) s.size (by omega) 10 s.endc
  rw [← hX, hm] at KL
  have HKL : Hid (∀ wx, New _ wx → Calls Tryd.prog 47 #[.slice (some ⟨g, oL, none⟩) s.left.length cL, .int .i64 (s.size : Int), .int .u8 10, .int .i64 (s.endc : Int)] wx (Ret fun v w' => wx = w' ∧ v = .tuple #[.slice (some ⟨g, oL, none⟩) m cL, .int .i64 (X.2 : Int)])) := KL
  have hba : (s.take m true).left.length + 1 ≤ (s.take m true).all.length ∨ m = 0 := by
    obtain ⟨pre, hp⟩ := hs
    show (s.left.drop m).length + 1 ≤ s.all.length ∨ m = 0
    rw [hp, List.length_append, List.length_drop]
    omega
  have HT := Lib.hid hXt
  have HL := Lib.hid hl
  have hgr : g ≠ rb := fun hh => hne hh.symm
  have HM := Lib.hid hm
  have HBA := Lib.hid hba
  have HRX : Hid (∀ w3, Upd (fun k => k = rb) (((w.alloc (.cells #[.int .i64 8, .int .i64 n, .int .u8 (d.toNat : Int)] 43)).alloc (.cells #[.slice none 0 0, .int .i64 0, .int .i32 0, .bool false, .int .i64 0] 39)).drew.drew) w3 → BytesA w3 (some ⟨g, oL, none⟩) cL X.1) := fun w3 u => by
    rw [HT.out]
    exact ((HL.out.take m).new (hW2.out.andNew (Upd.refl _ _).drew.drew)).upd u (fun p hp _ hh => by simp only [Option.some.injEq] at hp; subst hp; exact hgr hh)
  clear hb hl ha hne hs hb2 hf c3 c4 c5 c6 hX e hXt hm KL hba
  by_cases hc3 : X.2 = 3
  · rw [if_pos hc3]
    have h0 : 0 < m := by have := hXf hc3; omega
    have q3 : ((X.2 : Int) == 3) = true := by simp; omega
    obtain ⟨x, hx⟩ : ∃ x, x = X.1[m - 1]'(by rw [HM.out]; omega) := ⟨_, rfl⟩
    have hx1 : X.1[m - 1]? = some x := by rw [hx]; exact List.getElem?_eq_getElem _
    have HX1 := Lib.hid hx1
    have i1 : (m : Int) - 1 = ((m - 1 : Nat) : Int) := by omega
    by_cases h13 : x = 13
    · have q1 : ((x.toNat : Int) == 13) = true := by rw [h13]; rfl
      rw [if_pos (by rw [hx1, h13])]
      clear hc3 hXf hx hx1 h13
      go_enter Tryd.func40, Tryd.ntmps40
      go_wp2_with fail
      (refine wp_region_lx {} (by kernel_rfl) (by kernel_rfl) ⟨fun _ _ _ h => h.2, fun _ _ h => h⟩ ?_; (repeat' (first | (refine wpLx_calm rfl rfl rfl (fun K hK => ?_); go_step <;> (refine hK _ ?_; clear hK K)) | (refine wpLx_skip2 rfl rfl rfl ?_; go_simp) | (refine wpLx_calm2 rfl rfl rfl rfl rfl (fun K hK => ?_); go_step <;> (refine hK _ ?_; clear hK K)))); all_goals (refine wpLx_nil ?_))
      (go_wp2_with fail; (repeat' (refine wp_region_lx {} (by kernel_rfl) (by kernel_rfl) ⟨fun _ _ _ h => h.2, fun _ _ h => h⟩ ?_; (repeat' (first | (refine wpLx_calm rfl rfl rfl (fun K hK => ?_); go_step <;> (refine hK _ ?_; clear hK K)) | (refine wpLx_skip2 rfl rfl rfl ?_; go_simp) | (refine wpLx_calm2 rfl rfl rfl rfl rfl (fun K hK => ?_); go_step <;> (refine hK _ ?_; clear hK K)))); all_goals (refine wpLx_nil ?_; try go_wp2_with fail))))
      refine wp_region_lx {qd := [38]} (by kernel_rfl) (by kernel_rfl) ⟨fun _ _ _ h => h.2, fun _ _ h => h⟩ ?_
      (repeat' (first | (refine wpLx_calm rfl rfl rfl (fun K hK => ?_); go_step <;> (refine hK _ ?_; clear hK K)) | (refine wpLx_skip2 rfl rfl rfl ?_; go_simp) | (refine wpLx_calm2 rfl rfl rfl rfl rfl (fun K hK => ?_); go_step <;> (refine hK _ ?_; clear hK K))))
      refine wpLx_call rfl rfl rfl (HKL.out _ (Upd.refl _ _).drew.drew) (by kernel_rfl) ?_
      (repeat' (first | (refine wpLx_calm rfl rfl rfl (fun K hK => ?_); go_step <;> (refine hK _ ?_; clear hK K)) | (refine wpLx_skip2 rfl rfl rfl ?_; go_simp) | (refine wpLx_calm2 rfl rfl rfl rfl rfl (fun K hK => ?_); go_step <;> (refine hK _ ?_; clear hK K))))
      refine wpLx_nil ?_
      go_wp2_with (first | (go_at_call 35; refine callRet (specTake (H2.out.new (Upd.refl _ _).drew.drew) m true hXl) ?_; intro v w3 hv; have k0 := BOX.out w3 ((((Upd.refl (fun k => k = rb) _).drew.drew)).trans hv.1.2 (fun _ h _ => h)); have HV := Lib.hid hv; have hc := (HRX.out w3 hv.1.2).at1 HX1.out; clear hv) | (go_at_call 55; refine callRet (specBack HV.out.1.1 1 (by have := HBA.out; omega)) ?_; rintro v w4 ⟨rfl, hv⟩; have HV4 := Lib.hid hv; have hc6 := hv.1.cells6; have hq6 := hc6.1; have hf6 := hc6.2; have k1 := BOX.out w4 ((((Upd.refl (fun k => k = rb) _).drew.drew).trans HV.out.1.2 (fun _ h _ => h)).trans hv.2 (fun _ h _ => h)); have HU9 : Hid (Upd (fun k => k = rb) _ (w4.setCell ⟨rb, 6, none⟩ (.bool true))) := (((((Upd.refl (fun k => k = rb) _).drew.drew).trans HV.out.1.2 (fun _ h _ => h)).trans hv.2 (fun _ h _ => h)).setCell (fun _ => rfl) _); clear hv hc6) | (refine wpList_plain rfl (fun K hK => ?_); refine wp_storeAll (n := 5) (by kernel_rfl) (.tmp 4) (.tmp 71) rfl (w.heap.size + 1) rfl #[.slice (some ⟨g, oL, none⟩) (m - 1) cL, .int .i64 0, .int .i32 0, .bool true, .int .i64 0] rfl rfl (by simp [Value.oneCell']) _ 39 (STORE.out _ HU9.out) rfl ?_; intro w9 h9 u9 z9; refine hK _ _ ?_; clear hK K))
      refine bodyPost_ret (results_cell_row (p := 4) rfl _ _ (w.heap.size + 1) 39 _ (0, 0) _ rfl h9 Tryd.underlying39 rfl (by kernel_rfl)) rfl ?_
      have hl : (X.1.take (m - 1)).length = m - 1 := by rw [List.length_take, HM.out]; omega
      have hu4 : Upd (fun k => k = rb) _ (w4.setCell ⟨rb, 6, none⟩ (.bool true)) := (HV.out.1.2.trans HV4.out.2 (fun _ h _ => h)).setCell (fun _ => rfl) _
      exact ln_fin (code := 0) (hW2.out.andNew (Upd.refl _ _).drew.drew) (HV4.out.1.setOp true) hu4 u9 hrb hg hl ((HRX.out _ hu4).take (m - 1))
    · have q1 : ((x.toNat : Int) == 13) = false := u8_ne (c := 13) h13
      rw [if_neg (by rw [hx1]; simpa using h13)]
      clear hc3 hXf hx hx1 h13
      go_enter Tryd.func40, Tryd.ntmps40
      go_wp2_with fail
      (refine wp_region_lx {} (by kernel_rfl) (by kernel_rfl) ⟨fun _ _ _ h => h.2, fun _ _ h => h⟩ ?_; (repeat' (first | (refine wpLx_calm rfl rfl rfl (fun K hK => ?_); go_step <;> (refine hK _ ?_; clear hK K)) | (refine wpLx_skip2 rfl rfl rfl ?_; go_simp) | (refine wpLx_calm2 rfl rfl rfl rfl rfl (fun K hK => ?_); go_step <;> (refine hK _ ?_; clear hK K)))); all_goals (refine wpLx_nil ?_))
      (go_wp2_with fail; (repeat' (refine wp_region_lx {} (by kernel_rfl) (by kernel_rfl) ⟨fun _ _ _ h => h.2, fun _ _ h => h⟩ ?_; (repeat' (first | (refine wpLx_calm rfl rfl rfl (fun K hK => ?_); go_step <;> (refine hK _ ?_; clear hK K)) | (refine wpLx_skip2 rfl rfl rfl ?_; go_simp) | (refine wpLx_calm2 rfl rfl rfl rfl rfl (fun K hK => ?_); go_step <;> (refine hK _ ?_; clear hK K)))); all_goals (refine wpLx_nil ?_; try go_wp2_with fail))))
      refine wp_region_lx {qd := [38]} (by kernel_rfl) (by kernel_rfl) ⟨fun _ _ _ h => h.2, fun _ _ h => h⟩ ?_
      (repeat' (first | (refine wpLx_calm rfl rfl rfl (fun K hK => ?_); go_step <;> (refine hK _ ?_; clear hK K)) | (refine wpLx_skip2 rfl rfl rfl ?_; go_simp) | (refine wpLx_calm2 rfl rfl rfl rfl rfl (fun K hK => ?_); go_step <;> (refine hK _ ?_; clear hK K))))
      refine wpLx_call rfl rfl rfl (HKL.out _ (Upd.refl _ _).drew.drew) (by kernel_rfl) ?_
      (repeat' (first | (refine wpLx_calm rfl rfl rfl (fun K hK => ?_); go_step <;> (refine hK _ ?_; clear hK K)) | (refine wpLx_skip2 rfl rfl rfl ?_; go_simp) | (refine wpLx_calm2 rfl rfl rfl rfl rfl (fun K hK => ?_); go_step <;> (refine hK _ ?_; clear hK K))))
      refine wpLx_nil ?_
      go_wp2_with (first | (go_at_call 35; refine callRet (specTake (H2.out.new (Upd.refl _ _).drew.drew) m true hXl) ?_; intro v w3 hv; have k0 := BOX.out w3 ((((Upd.refl (fun k => k = rb) _).drew.drew)).trans hv.1.2 (fun _ h _ => h)); have HV := Lib.hid hv; have hc := (HRX.out w3 hv.1.2).at1 HX1.out; have hc6 := hv.1.1.cells6; have hq6 := hc6.1; have hf6 := hc6.2; have HU9 : Hid (Upd (fun k => k = rb) _ (w3.setCell ⟨rb, 6, none⟩ (.bool true))) := (((Upd.refl (fun k => k = rb) _).drew.drew).trans hv.1.2 (fun _ h _ => h)).setCell (fun _ => rfl) _; clear hc6; clear hv) | (refine wpList_plain rfl (fun K hK => ?_); refine wp_storeAll (n := 5) (by kernel_rfl) (.tmp 4) (.tmp 71) rfl (w.heap.size + 1) rfl #[.slice (some ⟨g, oL, none⟩) m cL, .int .i64 0, .int .i32 0, .bool true, .int .i64 0] rfl rfl (by simp [Value.oneCell']) _ 39 (STORE.out _ HU9.out) rfl ?_; intro w9 h9 u9 z9; refine hK _ _ ?_; clear hK K))
      refine bodyPost_ret (results_cell_row (p := 4) rfl _ _ (w.heap.size + 1) 39 _ (0, 0) _ rfl h9 Tryd.underlying39 rfl (by kernel_rfl)) rfl ?_
      have hu4 : Upd (fun k => k = rb) _ (w3.setCell ⟨rb, 6, none⟩ (.bool true)) := HV.out.1.2.setCell (fun _ => rfl) _
      exact ln_fin (code := 0) (hW2.out.andNew (Upd.refl _ _).drew.drew) (HV.out.1.1.setOp true) hu4 u9 hrb hg HM.out (HRX.out _ hu4)
  · rw [if_neg hc3]
    have q3 : ((X.2 : Int) == 3) = false := by simp; omega
    have HCT : Hid ((X.1.take (cutN X.1)).length = cutN X.1) := by
      rw [Hid, List.length_take]
      have : cutN X.1 ≤ X.1.length := by unfold cutN; split; split; all_goals omega
      omega
    by_cases h0 : 0 < m
    · rw [if_pos h0]
      clear hc3 hXf
      go_enter Tryd.func40, Tryd.ntmps40
      go_wp2_with fail
      (refine wp_region_lx {} (by kernel_rfl) (by kernel_rfl) ⟨fun _ _ _ h => h.2, fun _ _ h => h⟩ ?_; (repeat' (first | (refine wpLx_calm rfl rfl rfl (fun K hK => ?_); go_step <;> (refine hK _ ?_; clear hK K)) | (refine wpLx_skip2 rfl rfl rfl ?_; go_simp) | (refine wpLx_calm2 rfl rfl rfl rfl rfl (fun K hK => ?_); go_step <;> (refine hK _ ?_; clear hK K)))); all_goals (refine wpLx_nil ?_))
      (go_wp2_with fail; (repeat' (refine wp_region_lx {} (by kernel_rfl) (by kernel_rfl) ⟨fun _ _ _ h => h.2, fun _ _ h => h⟩ ?_; (repeat' (first | (refine wpLx_calm rfl rfl rfl (fun K hK => ?_); go_step <;> (refine hK _ ?_; clear hK K)) | (refine wpLx_skip2 rfl rfl rfl ?_; go_simp) | (refine wpLx_calm2 rfl rfl rfl rfl rfl (fun K hK => ?_); go_step <;> (refine hK _ ?_; clear hK K)))); all_goals (refine wpLx_nil ?_; try go_wp2_with fail))))
      refine wp_region_lx {qd := [38]} (by kernel_rfl) (by kernel_rfl) ⟨fun _ _ _ h => h.2, fun _ _ h => h⟩ ?_
      (repeat' (first | (refine wpLx_calm rfl rfl rfl (fun K hK => ?_); go_step <;> (refine hK _ ?_; clear hK K)) | (refine wpLx_skip2 rfl rfl rfl ?_; go_simp) | (refine wpLx_calm2 rfl rfl rfl rfl rfl (fun K hK => ?_); go_step <;> (refine hK _ ?_; clear hK K))))
      refine wpLx_call rfl rfl rfl (HKL.out _ (Upd.refl _ _).drew.drew) (by kernel_rfl) ?_
      (repeat' (first | (refine wpLx_calm rfl rfl rfl (fun K hK => ?_); go_step <;> (refine hK _ ?_; clear hK K)) | (refine wpLx_skip2 rfl rfl rfl ?_; go_simp) | (refine wpLx_calm2 rfl rfl rfl rfl rfl (fun K hK => ?_); go_step <;> (refine hK _ ?_; clear hK K))))
      refine wpLx_nil ?_
      go_wp2_with (first | (go_at_call 35; refine callRet (specTake (H2.out.new (Upd.refl _ _).drew.drew) m true hXl) ?_; intro v w3 hv; have k0 := BOX.out w3 ((((Upd.refl (fun k => k = rb) _).drew.drew)).trans hv.1.2 (fun _ h _ => h)); have HV := Lib.hid hv; have HU9 : Hid (Upd (fun k => k = rb) _ w3) := ((Upd.refl (fun k => k = rb) _).drew.drew).trans hv.1.2 (fun _ h _ => h); clear hv) | (go_at_call 56; rw [← HM.out]; refine callRet (specCut (HRX.out w3 HV.out.1.2)) ?_; rintro v w4 ⟨rfl, rfl⟩) | (refine wpList_plain rfl (fun K hK => ?_); refine wp_storeAll (n := 5) (by kernel_rfl) (.tmp 4) (.tmp 78) rfl (w.heap.size + 1) rfl #[.slice (some ⟨g, oL, none⟩) (cutN X.1) cL, .int .i64 0, .int .i32 0, .bool false, .int .i64 0] rfl rfl (by simp [Value.oneCell']) _ 39 (STORE.out _ HU9.out) rfl ?_; intro w9 h9 u9 z9; refine hK _ _ ?_; clear hK K))
      refine bodyPost_ret (results_cell_row (p := 4) rfl _ _ (w.heap.size + 1) 39 _ (0, 0) _ rfl h9 Tryd.underlying39 rfl (by kernel_rfl)) rfl ?_
      exact ln_fin (code := 0) (hW2.out.andNew (Upd.refl _ _).drew.drew) HV.out.1.1 HV.out.1.2 u9 hrb hg HCT.out ((HRX.out _ HV.out.1.2).take _)
    · rw [if_neg h0]
      have h0' : m = 0 := by omega
      have H0 := Lib.hid h0'
      clear hc3 hXf h0'
      go_enter Tryd.func40, Tryd.ntmps40
      go_wp2_with fail
      (refine wp_region_lx {} (by kernel_rfl) (by kernel_rfl) ⟨fun _ _ _ h => h.2, fun _ _ h => h⟩ ?_; (repeat' (first | (refine wpLx_calm rfl rfl rfl (fun K hK => ?_); go_step <;> (refine hK _ ?_; clear hK K)) | (refine wpLx_skip2 rfl rfl rfl ?_; go_simp) | (refine wpLx_calm2 rfl rfl rfl rfl rfl (fun K hK => ?_); go_step <;> (refine hK _ ?_; clear hK K)))); all_goals (refine wpLx_nil ?_))
      (go_wp2_with fail; (repeat' (refine wp_region_lx {} (by kernel_rfl) (by kernel_rfl) ⟨fun _ _ _ h => h.2, fun _ _ h => h⟩ ?_; (repeat' (first | (refine wpLx_calm rfl rfl rfl (fun K hK => ?_); go_step <;> (refine hK _ ?_; clear hK K)) | (refine wpLx_skip2 rfl rfl rfl ?_; go_simp) | (refine wpLx_calm2 rfl rfl rfl rfl rfl (fun K hK => ?_); go_step <;> (refine hK _ ?_; clear hK K)))); all_goals (refine wpLx_nil ?_; try go_wp2_with fail))))
      refine wp_region_lx {qd := [38]} (by kernel_rfl) (by kernel_rfl) ⟨fun _ _ _ h => h.2, fun _ _ h => h⟩ ?_
      (repeat' (first | (refine wpLx_calm rfl rfl rfl (fun K hK => ?_); go_step <;> (refine hK _ ?_; clear hK K)) | (refine wpLx_skip2 rfl rfl rfl ?_; go_simp) | (refine wpLx_calm2 rfl rfl rfl rfl rfl (fun K hK => ?_); go_step <;> (refine hK _ ?_; clear hK K))))
      refine wpLx_call rfl rfl rfl (HKL.out _ (Upd.refl _ _).drew.drew) (by kernel_rfl) ?_
      (repeat' (first | (refine wpLx_calm rfl rfl rfl (fun K hK => ?_); go_step <;> (refine hK _ ?_; clear hK K)) | (refine wpLx_skip2 rfl rfl rfl ?_; go_simp) | (refine wpLx_calm2 rfl rfl rfl rfl rfl (fun K hK => ?_); go_step <;> (refine hK _ ?_; clear hK K))))
      refine wpLx_nil ?_
      go_wp2_with (first | (go_at_call 35; refine callRet (specTake (H2.out.new (Upd.refl _ _).drew.drew) m true hXl) ?_; intro v w3 hv; have k0 := BOX.out w3 ((((Upd.refl (fun k => k = rb) _).drew.drew)).trans hv.1.2 (fun _ h _ => h)); have HV := Lib.hid hv; have HU9 : Hid (Upd (fun k => k = rb) _ w3) := ((Upd.refl (fun k => k = rb) _).drew.drew).trans hv.1.2 (fun _ h _ => h); clear hv) | (go_at_call 56; rw [← HM.out]; refine callRet (specCut (HRX.out w3 HV.out.1.2)) ?_; rintro v w4 ⟨rfl, rfl⟩) | (refine wpList_plain rfl (fun K hK => ?_); refine wp_storeAll (n := 5) (by kernel_rfl) (.tmp 4) (.tmp 78) rfl (w.heap.size + 1) rfl #[.slice (some ⟨g, oL, none⟩) (cutN X.1) cL, .int .i64 0, .int .i32 0, .bool false, .int .i64 (X.2 : Int)] rfl rfl (by simp [Value.oneCell']) _ 39 (STORE.out _ HU9.out) rfl ?_; intro w9 h9 u9 z9; refine hK _ _ ?_; clear hK K))
      refine bodyPost_ret (results_cell_row (p := 4) rfl _ _ (w.heap.size + 1) 39 _ (0, 0) _ rfl h9 Tryd.underlying39 rfl (by kernel_rfl)) rfl ?_
      exact ln_fin (hW2.out.andNew (Upd.refl _ _).drew.drew) HV.out.1.1 HV.out.1.2 u9 hrb hg HCT.out ((HRX.out _ HV.out.1.2).take _)
set_option maxRecDepth 100000 in
set_option maxHeartbeats 1000000 in
theorem specDo8 {w : World} {rb g : Nat} {s : SR} (h : SRd w rb g s) (n : Int) (d : UInt8) (hsz : s.size ≤ 70368744177664) (h0s : 0 < s.size) (he3 : s.endc ≠ 3) :
    Calls Tryd.prog 16 #[.pointer (some ⟨rb, 0, none⟩), .agg #[.int .i64 8, .int .i64 n, .int .u8 (d.toNat : Int)]] w (Ret (DoPost rb g w (((s.line 8 d).1, true), (s.line 8 d).2))) := by
  have hrb : rb < w.heap.size := by obtain ⟨⟨oL, cL, oA, cA, hb, _⟩, _⟩ := h; exact (Array.getElem?_eq_some_iff.1 hb).1
  have hg := h.glt
  have K1 := Lib.hid (specLn8 ((h.new ((Upd.refl _ w).alloc (.cells #[.int .i64 8, .int .i64 n, .int .u8 (d.toNat : Int)] 43))).new ((Upd.refl _ _).alloc (.cells #[.slice none 0 0, .int .i64 0, .int .i32 0, .bool false, .int .i64 0] 39))) n d hsz h0s he3)
  have STORE : Hid (∀ (w1 : World), Upd (fun k => k = rb) ((w.alloc (.cells #[.int .i64 8, .int .i64 n, .int .u8 (d.toNat : Int)] 43)).alloc (.cells #[.slice none 0 0, .int .i64 0, .int .i32 0, .bool false, .int .i64 0] 39)) w1 → w1.heap[w.heap.size + 1]? = some (.cells #[.slice none 0 0, .int .i64 0, .int .i32 0, .bool false, .int .i64 0] 39 (0, 0))) := fun w1 u => u.heap (heap_alloc2_new _ _ _) (fun h => by omega)
  clear h
  go_enter Tryd.func16, Tryd.ntmps16
  go_wp2_with (first | (go_at_call 40; refine callRet K1.out ?_; intro v w1 hv; have HV := Lib.hid hv; clear hv) | (refine wpList_plain rfl (fun K hK => ?_); obtain ⟨cs, hcs, hsz, hone⟩ := HV.out.2.cells; refine wp_storeAll (n := 5) (by kernel_rfl) (.tmp 4) (.tmp 94) rfl (w.heap.size + 1) rfl cs hcs hsz hone _ 39 (STORE.out _ HV.out.1.2) rfl ?_; intro w2 h2 u2 z2; refine hK _ _ ?_; clear hK K))
  refine bodyPost_ret (results_cell_tmp' (p := 4) (u := 5) rfl _ _ (w.heap.size + 1) 39 _ (0, 0) _ rfl h2 Tryd.underlying39 rfl (by rw [hsz]; kernel_rfl)) rfl ?_
  exact do_fin HV.out u2 hrb hg hcs.symm rfl
end Go.Proofs.YtnpalkndocokkaaDoor
