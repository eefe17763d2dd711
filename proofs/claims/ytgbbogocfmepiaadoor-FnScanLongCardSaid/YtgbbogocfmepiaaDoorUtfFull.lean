/- goutf8: FullRune. -/
import Derived.Test.YtgbbogocfmepiaaDoorUtf
namespace Go.Proofs.YtgbbogocfmepiaaDoor
open Go.RowKit Go.Lib
set_option maxHeartbeats 4000000 in
set_option maxRecDepth 1000000 in
theorem full_240 {w : World} {g o c n x0 x1 x2 : Nat} (_lc : n ≤ c) (_lm : c ≤ 9223372036854775807) (l0 : x0 < 256) (h0 : 0 < n)
    (hs0 : w.cell? ⟨g, o, none⟩ = some (.int .u8 (x0 : Int))) (_hq1 : 1 < n → w.cell? ⟨g, o + 1, none⟩ = some (.int .u8 (x1 : Int))) (_hq2 : 2 < n → w.cell? ⟨g, o + 2, none⟩ = some (.int .u8 (x2 : Int))) (hc0 : w.cell? ⟨12, x0, none⟩ = some (.int .u8 240)) (hX : firstT x0 = 240) :
    Calls Tryd.prog 75 #[.slice (some ⟨g, o, none⟩) n c] w (Ret fun v w' => New w w' ∧ v = .bool (fullN n x0 x1 x2)) := by
  have e : fullN n x0 x1 x2 = true := by unfold fullN; rw [if_neg (by omega), hX, if_pos (by omega)]
  have hz0 : (0 : Int) < (n : Int) := by omega
  have q0 : ((n : Int) == 0) = false := by simp; omega
  have hge : ((0 : Nat) : Int) ≤ (n : Int) := by omega
  rw [e]
  clear hX e _hq1 _hq2
  go_enter Tryd.func75, Tryd.ntmps75
  (go_wp2_with fail; (repeat' (refine wp_region_lx {} (by kernel_rfl) (by kernel_rfl) ⟨fun _ _ _ h => h.2, fun _ _ h => h⟩ ?_; (repeat' (first | (refine wpLx_calm rfl rfl rfl (fun K hK => ?_); go_step <;> (refine hK _ ?_; clear hK K)) | (refine wpLx_skip2 rfl rfl rfl ?_; go_simp) | (refine wpLx_calm2 rfl rfl rfl rfl rfl (fun K hK => ?_); go_step <;> (refine hK _ ?_; clear hK K)) | (refine wpLx_skip rfl ?_; go_simp))); all_goals (refine wpLx_nil ?_; try go_wp2_with fail))))
  go_ret
  exact ⟨Upd.refl _ _, rfl⟩
set_option maxHeartbeats 4000000 in
set_option maxRecDepth 1000000 in
theorem full_241 {w : World} {g o c n x0 x1 x2 : Nat} (_lc : n ≤ c) (_lm : c ≤ 9223372036854775807) (l0 : x0 < 256) (h0 : 0 < n)
    (hs0 : w.cell? ⟨g, o, none⟩ = some (.int .u8 (x0 : Int))) (_hq1 : 1 < n → w.cell? ⟨g, o + 1, none⟩ = some (.int .u8 (x1 : Int))) (_hq2 : 2 < n → w.cell? ⟨g, o + 2, none⟩ = some (.int .u8 (x2 : Int))) (hc0 : w.cell? ⟨12, x0, none⟩ = some (.int .u8 241)) (hX : firstT x0 = 241) :
    Calls Tryd.prog 75 #[.slice (some ⟨g, o, none⟩) n c] w (Ret fun v w' => New w w' ∧ v = .bool (fullN n x0 x1 x2)) := by
  have e : fullN n x0 x1 x2 = true := by unfold fullN; rw [if_neg (by omega), hX, if_pos (by omega)]
  have hz0 : (0 : Int) < (n : Int) := by omega
  have q0 : ((n : Int) == 0) = false := by simp; omega
  have hge : ((1 : Nat) : Int) ≤ (n : Int) := by omega
  rw [e]
  clear hX e _hq1 _hq2
  go_enter Tryd.func75, Tryd.ntmps75
  (go_wp2_with fail; (repeat' (refine wp_region_lx {} (by kernel_rfl) (by kernel_rfl) ⟨fun _ _ _ h => h.2, fun _ _ h => h⟩ ?_; (repeat' (first | (refine wpLx_calm rfl rfl rfl (fun K hK => ?_); go_step <;> (refine hK _ ?_; clear hK K)) | (refine wpLx_skip2 rfl rfl rfl ?_; go_simp) | (refine wpLx_calm2 rfl rfl rfl rfl rfl (fun K hK => ?_); go_step <;> (refine hK _ ?_; clear hK K)) | (refine wpLx_skip rfl ?_; go_simp))); all_goals (refine wpLx_nil ?_; try go_wp2_with fail))))
  go_ret
  exact ⟨Upd.refl _ _, rfl⟩
set_option maxHeartbeats 4000000 in
set_option maxRecDepth 1000000 in
theorem full_2 {w : World} {g o c n x0 x1 x2 : Nat} (_lc : n ≤ c) (_lm : c ≤ 9223372036854775807) (l0 : x0 < 256) (h0 : 0 < n)
    (hs0 : w.cell? ⟨g, o, none⟩ = some (.int .u8 (x0 : Int))) (_hq1 : 1 < n → w.cell? ⟨g, o + 1, none⟩ = some (.int .u8 (x1 : Int))) (_hq2 : 2 < n → w.cell? ⟨g, o + 2, none⟩ = some (.int .u8 (x2 : Int))) (hc0 : w.cell? ⟨12, x0, none⟩ = some (.int .u8 2)) (hX : firstT x0 = 2)
    (ha0 : w.cell? ⟨13, 0, none⟩ = some (.int .u8 128)) (ha1 : w.cell? ⟨13, 1, none⟩ = some (.int .u8 191)) :
    Calls Tryd.prog 75 #[.slice (some ⟨g, o, none⟩) n c] w (Ret fun v w' => New w w' ∧ v = .bool (fullN n x0 x1 x2)) := by
  have e : fullN n x0 x1 x2 = if 2 ≤ n then true else if 1 < n ∧ (x1 < 128 ∨ 191 < x1) then true else if 2 < n ∧ (x2 < 128 ∨ 191 < x2) then true else false := by
    unfold fullN; rw [if_neg (by omega), hX]; rfl
  have hz0 : (0 : Int) < (n : Int) := by omega
  have q0 : ((n : Int) == 0) = false := by simp; omega
  have hb : g < w.heap.size := World.block_lt_of_cell? w _ hs0
  rw [e]
  clear hX e
  by_cases hn : 2 ≤ n
  · have hge : ((2 : Nat) : Int) ≤ (n : Int) := by omega
    rw [if_pos hn]
    clear _hq1 _hq2 ha0 ha1
    go_enter Tryd.func75, Tryd.ntmps75
    (go_wp2_with fail; (repeat' (refine wp_region_lx {} (by kernel_rfl) (by kernel_rfl) ⟨fun _ _ _ h => h.2, fun _ _ h => h⟩ ?_; (repeat' (first | (refine wpLx_calm rfl rfl rfl (fun K hK => ?_); go_step <;> (refine hK _ ?_; clear hK K)) | (refine wpLx_skip2 rfl rfl rfl ?_; go_simp) | (refine wpLx_calm2 rfl rfl rfl rfl rfl (fun K hK => ?_); go_step <;> (refine hK _ ?_; clear hK K)) | (refine wpLx_skip rfl ?_; go_simp))); all_goals (refine wpLx_nil ?_; try go_wp2_with fail))))
    go_ret
    exact ⟨Upd.refl _ _, rfl⟩
  · have hge : ¬ ((2 : Nat) : Int) ≤ (n : Int) := by omega
    rw [if_neg hn]
    by_cases h1 : 1 < n
    · omega
    · have d1 : decide ((1 : Int) < (n : Int)) = false := decide_eq_false (by omega)
      have d2 : decide ((2 : Int) < (n : Int)) = false := decide_eq_false (by omega)
      rw [if_neg (fun h => h1 h.1), if_neg (fun h => by omega)]
      clear _hq1 _hq2
      go_enter Tryd.func75, Tryd.ntmps75
      (go_wp2_with fail; (repeat' (refine wp_region_lx {} (by kernel_rfl) (by kernel_rfl) ⟨fun _ _ _ h => h.2, fun _ _ h => h⟩ ?_; (repeat' (first | (refine wpLx_calm rfl rfl rfl (fun K hK => ?_); go_step <;> (refine hK _ ?_; clear hK K)) | (refine wpLx_skip2 rfl rfl rfl ?_; go_simp) | (refine wpLx_calm2 rfl rfl rfl rfl rfl (fun K hK => ?_); go_step <;> (refine hK _ ?_; clear hK K)) | (refine wpLx_skip rfl ?_; go_simp))); all_goals (refine wpLx_nil ?_; try go_wp2_with fail))))
      go_ret
      exact ⟨((Upd.refl _ _).alloc _).drew, rfl⟩
set_option maxHeartbeats 4000000 in
set_option maxRecDepth 1000000 in
theorem full_19 {w : World} {g o c n x0 x1 x2 : Nat} (_lc : n ≤ c) (_lm : c ≤ 9223372036854775807) (l0 : x0 < 256) (h0 : 0 < n)
    (hs0 : w.cell? ⟨g, o, none⟩ = some (.int .u8 (x0 : Int))) (_hq1 : 1 < n → w.cell? ⟨g, o + 1, none⟩ = some (.int .u8 (x1 : Int))) (_hq2 : 2 < n → w.cell? ⟨g, o + 2, none⟩ = some (.int .u8 (x2 : Int))) (hc0 : w.cell? ⟨12, x0, none⟩ = some (.int .u8 19)) (hX : firstT x0 = 19)
    (ha0 : w.cell? ⟨13, 2, none⟩ = some (.int .u8 160)) (ha1 : w.cell? ⟨13, 3, none⟩ = some (.int .u8 191)) :
    Calls Tryd.prog 75 #[.slice (some ⟨g, o, none⟩) n c] w (Ret fun v w' => New w w' ∧ v = .bool (fullN n x0 x1 x2)) := by
  have e : fullN n x0 x1 x2 = if 3 ≤ n then true else if 1 < n ∧ (x1 < 160 ∨ 191 < x1) then true else if 2 < n ∧ (x2 < 128 ∨ 191 < x2) then true else false := by
    unfold fullN; rw [if_neg (by omega), hX]; rfl
  have hz0 : (0 : Int) < (n : Int) := by omega
  have q0 : ((n : Int) == 0) = false := by simp; omega
  have hb : g < w.heap.size := World.block_lt_of_cell? w _ hs0
  rw [e]
  clear hX e
  by_cases hn : 3 ≤ n
  · have hge : ((3 : Nat) : Int) ≤ (n : Int) := by omega
    rw [if_pos hn]
    clear _hq1 _hq2 ha0 ha1
    go_enter Tryd.func75, Tryd.ntmps75
    (go_wp2_with fail; (repeat' (refine wp_region_lx {} (by kernel_rfl) (by kernel_rfl) ⟨fun _ _ _ h => h.2, fun _ _ h => h⟩ ?_; (repeat' (first | (refine wpLx_calm rfl rfl rfl (fun K hK => ?_); go_step <;> (refine hK _ ?_; clear hK K)) | (refine wpLx_skip2 rfl rfl rfl ?_; go_simp) | (refine wpLx_calm2 rfl rfl rfl rfl rfl (fun K hK => ?_); go_step <;> (refine hK _ ?_; clear hK K)) | (refine wpLx_skip rfl ?_; go_simp))); all_goals (refine wpLx_nil ?_; try go_wp2_with fail))))
    go_ret
    exact ⟨Upd.refl _ _, rfl⟩
  · have hge : ¬ ((3 : Nat) : Int) ≤ (n : Int) := by omega
    rw [if_neg hn]
    by_cases h1 : 1 < n
    · have d1 : decide ((1 : Int) < (n : Int)) = true := decide_eq_true (by omega)
      have hc1 := _hq1 h1
      by_cases hl : x1 < 160
      · have dl : decide ((x1 : Int) < 160) = true := decide_eq_true (by omega)
        rw [if_pos ⟨h1, .inl hl⟩]
        clear _hq1 _hq2
        go_enter Tryd.func75, Tryd.ntmps75
        (go_wp2_with fail; (repeat' (refine wp_region_lx {} (by kernel_rfl) (by kernel_rfl) ⟨fun _ _ _ h => h.2, fun _ _ h => h⟩ ?_; (repeat' (first | (refine wpLx_calm rfl rfl rfl (fun K hK => ?_); go_step <;> (refine hK _ ?_; clear hK K)) | (refine wpLx_skip2 rfl rfl rfl ?_; go_simp) | (refine wpLx_calm2 rfl rfl rfl rfl rfl (fun K hK => ?_); go_step <;> (refine hK _ ?_; clear hK K)) | (refine wpLx_skip rfl ?_; go_simp))); all_goals (refine wpLx_nil ?_; try go_wp2_with fail))))
        go_ret
        exact ⟨((Upd.refl _ _).alloc _).drew, rfl⟩
      · have dl : decide ((x1 : Int) < 160) = false := decide_eq_false (by omega)
        by_cases hh : 191 < x1
        · have dh : decide ((191 : Int) < (x1 : Int)) = true := decide_eq_true (by omega)
          rw [if_pos ⟨h1, .inr hh⟩]
          clear _hq1 _hq2
          go_enter Tryd.func75, Tryd.ntmps75
          (go_wp2_with fail; (repeat' (refine wp_region_lx {} (by kernel_rfl) (by kernel_rfl) ⟨fun _ _ _ h => h.2, fun _ _ h => h⟩ ?_; (repeat' (first | (refine wpLx_calm rfl rfl rfl (fun K hK => ?_); go_step <;> (refine hK _ ?_; clear hK K)) | (refine wpLx_skip2 rfl rfl rfl ?_; go_simp) | (refine wpLx_calm2 rfl rfl rfl rfl rfl (fun K hK => ?_); go_step <;> (refine hK _ ?_; clear hK K)) | (refine wpLx_skip rfl ?_; go_simp))); all_goals (refine wpLx_nil ?_; try go_wp2_with fail))))
          go_ret
          exact ⟨((Upd.refl _ _).alloc _).drew, rfl⟩
        · have dh : decide ((191 : Int) < (x1 : Int)) = false := decide_eq_false (by omega)
          rw [if_neg (fun h => by rcases h.2 with h | h <;> omega)]
          have d2 : decide ((2 : Int) < (n : Int)) = false := decide_eq_false (by omega)
          rw [if_neg (fun h => by omega)]
          clear _hq1 _hq2
          go_enter Tryd.func75, Tryd.ntmps75
          (go_wp2_with fail; (repeat' (refine wp_region_lx {} (by kernel_rfl) (by kernel_rfl) ⟨fun _ _ _ h => h.2, fun _ _ h => h⟩ ?_; (repeat' (first | (refine wpLx_calm rfl rfl rfl (fun K hK => ?_); go_step <;> (refine hK _ ?_; clear hK K)) | (refine wpLx_skip2 rfl rfl rfl ?_; go_simp) | (refine wpLx_calm2 rfl rfl rfl rfl rfl (fun K hK => ?_); go_step <;> (refine hK _ ?_; clear hK K)) | (refine wpLx_skip rfl ?_; go_simp))); all_goals (refine wpLx_nil ?_; try go_wp2_with fail))))
          go_ret
          exact ⟨((Upd.refl _ _).alloc _).drew, rfl⟩
    · have d1 : decide ((1 : Int) < (n : Int)) = false := decide_eq_false (by omega)
      have d2 : decide ((2 : Int) < (n : Int)) = false := decide_eq_false (by omega)
      rw [if_neg (fun h => h1 h.1), if_neg (fun h => by omega)]
      clear _hq1 _hq2
      go_enter Tryd.func75, Tryd.ntmps75
      (go_wp2_with fail; (repeat' (refine wp_region_lx {} (by kernel_rfl) (by kernel_rfl) ⟨fun _ _ _ h => h.2, fun _ _ h => h⟩ ?_; (repeat' (first | (refine wpLx_calm rfl rfl rfl (fun K hK => ?_); go_step <;> (refine hK _ ?_; clear hK K)) | (refine wpLx_skip2 rfl rfl rfl ?_; go_simp) | (refine wpLx_calm2 rfl rfl rfl rfl rfl (fun K hK => ?_); go_step <;> (refine hK _ ?_; clear hK K)) | (refine wpLx_skip rfl ?_; go_simp))); all_goals (refine wpLx_nil ?_; try go_wp2_with fail))))
      go_ret
      exact ⟨((Upd.refl _ _).alloc _).drew, rfl⟩
set_option maxHeartbeats 4000000 in
set_option maxRecDepth 1000000 in
theorem full_3 {w : World} {g o c n x0 x1 x2 : Nat} (_lc : n ≤ c) (_lm : c ≤ 9223372036854775807) (l0 : x0 < 256) (h0 : 0 < n)
    (hs0 : w.cell? ⟨g, o, none⟩ = some (.int .u8 (x0 : Int))) (_hq1 : 1 < n → w.cell? ⟨g, o + 1, none⟩ = some (.int .u8 (x1 : Int))) (_hq2 : 2 < n → w.cell? ⟨g, o + 2, none⟩ = some (.int .u8 (x2 : Int))) (hc0 : w.cell? ⟨12, x0, none⟩ = some (.int .u8 3)) (hX : firstT x0 = 3)
    (ha0 : w.cell? ⟨13, 0, none⟩ = some (.int .u8 128)) (ha1 : w.cell? ⟨13, 1, none⟩ = some (.int .u8 191)) :
    Calls Tryd.prog 75 #[.slice (some ⟨g, o, none⟩) n c] w (Ret fun v w' => New w w' ∧ v = .bool (fullN n x0 x1 x2)) := by
  have e : fullN n x0 x1 x2 = if 3 ≤ n then true else if 1 < n ∧ (x1 < 128 ∨ 191 < x1) then true else if 2 < n ∧ (x2 < 128 ∨ 191 < x2) then true else false := by
    unfold fullN; rw [if_neg (by omega), hX]; rfl
  have hz0 : (0 : Int) < (n : Int) := by omega
  have q0 : ((n : Int) == 0) = false := by simp; omega
  have hb : g < w.heap.size := World.block_lt_of_cell? w _ hs0
  rw [e]
  clear hX e
  by_cases hn : 3 ≤ n
  · have hge : ((3 : Nat) : Int) ≤ (n : Int) := by omega
    rw [if_pos hn]
    clear _hq1 _hq2 ha0 ha1
    go_enter Tryd.func75, Tryd.ntmps75
    (go_wp2_with fail; (repeat' (refine wp_region_lx {} (by kernel_rfl) (by kernel_rfl) ⟨fun _ _ _ h => h.2, fun _ _ h => h⟩ ?_; (repeat' (first | (refine wpLx_calm rfl rfl rfl (fun K hK => ?_); go_step <;> (refine hK _ ?_; clear hK K)) | (refine wpLx_skip2 rfl rfl rfl ?_; go_simp) | (refine wpLx_calm2 rfl rfl rfl rfl rfl (fun K hK => ?_); go_step <;> (refine hK _ ?_; clear hK K)) | (refine wpLx_skip rfl ?_; go_simp))); all_goals (refine wpLx_nil ?_; try go_wp2_with fail))))
    go_ret
    exact ⟨Upd.refl _ _, rfl⟩
  · have hge : ¬ ((3 : Nat) : Int) ≤ (n : Int) := by omega
    rw [if_neg hn]
    by_cases h1 : 1 < n
    · have d1 : decide ((1 : Int) < (n : Int)) = true := decide_eq_true (by omega)
      have hc1 := _hq1 h1
      by_cases hl : x1 < 128
      · have dl : decide ((x1 : Int) < 128) = true := decide_eq_true (by omega)
        rw [if_pos ⟨h1, .inl hl⟩]
        clear _hq1 _hq2
        go_enter Tryd.func75, Tryd.ntmps75
        (go_wp2_with fail; (repeat' (refine wp_region_lx {} (by kernel_rfl) (by kernel_rfl) ⟨fun _ _ _ h => h.2, fun _ _ h => h⟩ ?_; (repeat' (first | (refine wpLx_calm rfl rfl rfl (fun K hK => ?_); go_step <;> (refine hK _ ?_; clear hK K)) | (refine wpLx_skip2 rfl rfl rfl ?_; go_simp) | (refine wpLx_calm2 rfl rfl rfl rfl rfl (fun K hK => ?_); go_step <;> (refine hK _ ?_; clear hK K)) | (refine wpLx_skip rfl ?_; go_simp))); all_goals (refine wpLx_nil ?_; try go_wp2_with fail))))
        go_ret
        exact ⟨((Upd.refl _ _).alloc _).drew, rfl⟩
      · have dl : decide ((x1 : Int) < 128) = false := decide_eq_false (by omega)
        by_cases hh : 191 < x1
        · have dh : decide ((191 : Int) < (x1 : Int)) = true := decide_eq_true (by omega)
          rw [if_pos ⟨h1, .inr hh⟩]
          clear _hq1 _hq2
          go_enter Tryd.func75, Tryd.ntmps75
          (go_wp2_with fail; (repeat' (refine wp_region_lx {} (by kernel_rfl) (by kernel_rfl) ⟨fun _ _ _ h => h.2, fun _ _ h => h⟩ ?_; (repeat' (first | (refine wpLx_calm rfl rfl rfl (fun K hK => ?_); go_step <;> (refine hK _ ?_; clear hK K)) | (refine wpLx_skip2 rfl rfl rfl ?_; go_simp) | (refine wpLx_calm2 rfl rfl rfl rfl rfl (fun K hK => ?_); go_step <;> (refine hK _ ?_; clear hK K)) | (refine wpLx_skip rfl ?_; go_simp))); all_goals (refine wpLx_nil ?_; try go_wp2_with fail))))
          go_ret
          exact ⟨((Upd.refl _ _).alloc _).drew, rfl⟩
        · have dh : decide ((191 : Int) < (x1 : Int)) = false := decide_eq_false (by omega)
          rw [if_neg (fun h => by rcases h.2 with h | h <;> omega)]
          have d2 : decide ((2 : Int) < (n : Int)) = false := decide_eq_false (by omega)
          rw [if_neg (fun h => by omega)]
          clear _hq1 _hq2
          go_enter Tryd.func75, Tryd.ntmps75
          (go_wp2_with fail; (repeat' (refine wp_region_lx {} (by kernel_rfl) (by kernel_rfl) ⟨fun _ _ _ h => h.2, fun _ _ h => h⟩ ?_; (repeat' (first | (refine wpLx_calm rfl rfl rfl (fun K hK => ?_); go_step <;> (refine hK _ ?_; clear hK K)) | (refine wpLx_skip2 rfl rfl rfl ?_; go_simp) | (refine wpLx_calm2 rfl rfl rfl rfl rfl (fun K hK => ?_); go_step <;> (refine hK _ ?_; clear hK K)) | (refine wpLx_skip rfl ?_; go_simp))); all_goals (refine wpLx_nil ?_; try go_wp2_with fail))))
          go_ret
          exact ⟨((Upd.refl _ _).alloc _).drew, rfl⟩
    · have d1 : decide ((1 : Int) < (n : Int)) = false := decide_eq_false (by omega)
      have d2 : decide ((2 : Int) < (n : Int)) = false := decide_eq_false (by omega)
      rw [if_neg (fun h => h1 h.1), if_neg (fun h => by omega)]
      clear _hq1 _hq2
      go_enter Tryd.func75, Tryd.ntmps75
      (go_wp2_with fail; (repeat' (refine wp_region_lx {} (by kernel_rfl) (by kernel_rfl) ⟨fun _ _ _ h => h.2, fun _ _ h => h⟩ ?_; (repeat' (first | (refine wpLx_calm rfl rfl rfl (fun K hK => ?_); go_step <;> (refine hK _ ?_; clear hK K)) | (refine wpLx_skip2 rfl rfl rfl ?_; go_simp) | (refine wpLx_calm2 rfl rfl rfl rfl rfl (fun K hK => ?_); go_step <;> (refine hK _ ?_; clear hK K)) | (refine wpLx_skip rfl ?_; go_simp))); all_goals (refine wpLx_nil ?_; try go_wp2_with fail))))
      go_ret
      exact ⟨((Upd.refl _ _).alloc _).drew, rfl⟩
set_option maxHeartbeats 4000000 in
set_option maxRecDepth 1000000 in
theorem full_35 {w : World} {g o c n x0 x1 x2 : Nat} (_lc : n ≤ c) (_lm : c ≤ 9223372036854775807) (l0 : x0 < 256) (h0 : 0 < n)
    (hs0 : w.cell? ⟨g, o, none⟩ = some (.int .u8 (x0 : Int))) (_hq1 : 1 < n → w.cell? ⟨g, o + 1, none⟩ = some (.int .u8 (x1 : Int))) (_hq2 : 2 < n → w.cell? ⟨g, o + 2, none⟩ = some (.int .u8 (x2 : Int))) (hc0 : w.cell? ⟨12, x0, none⟩ = some (.int .u8 35)) (hX : firstT x0 = 35)
    (ha0 : w.cell? ⟨13, 4, none⟩ = some (.int .u8 128)) (ha1 : w.cell? ⟨13, 5, none⟩ = some (.int .u8 159)) :
    Calls Tryd.prog 75 #[.slice (some ⟨g, o, none⟩) n c] w (Ret fun v w' => New w w' ∧ v = .bool (fullN n x0 x1 x2)) := by
  have e : fullN n x0 x1 x2 = if 3 ≤ n then true else if 1 < n ∧ (x1 < 128 ∨ 159 < x1) then true else if 2 < n ∧ (x2 < 128 ∨ 191 < x2) then true else false := by
    unfold fullN; rw [if_neg (by omega), hX]; rfl
  have hz0 : (0 : Int) < (n : Int) := by omega
  have q0 : ((n : Int) == 0) = false := by simp; omega
  have hb : g < w.heap.size := World.block_lt_of_cell? w _ hs0
  rw [e]
  clear hX e
  by_cases hn : 3 ≤ n
  · have hge : ((3 : Nat) : Int) ≤ (n : Int) := by omega
    rw [if_pos hn]
    clear _hq1 _hq2 ha0 ha1
    go_enter Tryd.func75, Tryd.ntmps75
    (go_wp2_with fail; (repeat' (refine wp_region_lx {} (by kernel_rfl) (by kernel_rfl) ⟨fun _ _ _ h => h.2, fun _ _ h => h⟩ ?_; (repeat' (first | (refine wpLx_calm rfl rfl rfl (fun K hK => ?_); go_step <;> (refine hK _ ?_; clear hK K)) | (refine wpLx_skip2 rfl rfl rfl ?_; go_simp) | (refine wpLx_calm2 rfl rfl rfl rfl rfl (fun K hK => ?_); go_step <;> (refine hK _ ?_; clear hK K)) | (refine wpLx_skip rfl ?_; go_simp))); all_goals (refine wpLx_nil ?_; try go_wp2_with fail))))
    go_ret
    exact ⟨Upd.refl _ _, rfl⟩
  · have hge : ¬ ((3 : Nat) : Int) ≤ (n : Int) := by omega
    rw [if_neg hn]
    by_cases h1 : 1 < n
    · have d1 : decide ((1 : Int) < (n : Int)) = true := decide_eq_true (by omega)
      have hc1 := _hq1 h1
      by_cases hl : x1 < 128
      · have dl : decide ((x1 : Int) < 128) = true := decide_eq_true (by omega)
        rw [if_pos ⟨h1, .inl hl⟩]
        clear _hq1 _hq2
        go_enter Tryd.func75, Tryd.ntmps75
        (go_wp2_with fail; (repeat' (refine wp_region_lx {} (by kernel_rfl) (by kernel_rfl) ⟨fun _ _ _ h => h.2, fun _ _ h => h⟩ ?_; (repeat' (first | (refine wpLx_calm rfl rfl rfl (fun K hK => ?_); go_step <;> (refine hK _ ?_; clear hK K)) | (refine wpLx_skip2 rfl rfl rfl ?_; go_simp) | (refine wpLx_calm2 rfl rfl rfl rfl rfl (fun K hK => ?_); go_step <;> (refine hK _ ?_; clear hK K)) | (refine wpLx_skip rfl ?_; go_simp))); all_goals (refine wpLx_nil ?_; try go_wp2_with fail))))
        go_ret
        exact ⟨((Upd.refl _ _).alloc _).drew, rfl⟩
      · have dl : decide ((x1 : Int) < 128) = false := decide_eq_false (by omega)
        by_cases hh : 159 < x1
        · have dh : decide ((159 : Int) < (x1 : Int)) = true := decide_eq_true (by omega)
          rw [if_pos ⟨h1, .inr hh⟩]
          clear _hq1 _hq2
          go_enter Tryd.func75, Tryd.ntmps75
          (go_wp2_with fail; (repeat' (refine wp_region_lx {} (by kernel_rfl) (by kernel_rfl) ⟨fun _ _ _ h => h.2, fun _ _ h => h⟩ ?_; (repeat' (first | (refine wpLx_calm rfl rfl rfl (fun K hK => ?_); go_step <;> (refine hK _ ?_; clear hK K)) | (refine wpLx_skip2 rfl rfl rfl ?_; go_simp) | (refine wpLx_calm2 rfl rfl rfl rfl rfl (fun K hK => ?_); go_step <;> (refine hK _ ?_; clear hK K)) | (refine wpLx_skip rfl ?_; go_simp))); all_goals (refine wpLx_nil ?_; try go_wp2_with fail))))
          go_ret
          exact ⟨((Upd.refl _ _).alloc _).drew, rfl⟩
        · have dh : decide ((159 : Int) < (x1 : Int)) = false := decide_eq_false (by omega)
          rw [if_neg (fun h => by rcases h.2 with h | h <;> omega)]
          have d2 : decide ((2 : Int) < (n : Int)) = false := decide_eq_false (by omega)
          rw [if_neg (fun h => by omega)]
          clear _hq1 _hq2
          go_enter Tryd.func75, Tryd.ntmps75
          (go_wp2_with fail; (repeat' (refine wp_region_lx {} (by kernel_rfl) (by kernel_rfl) ⟨fun _ _ _ h => h.2, fun _ _ h => h⟩ ?_; (repeat' (first | (refine wpLx_calm rfl rfl rfl (fun K hK => ?_); go_step <;> (refine hK _ ?_; clear hK K)) | (refine wpLx_skip2 rfl rfl rfl ?_; go_simp) | (refine wpLx_calm2 rfl rfl rfl rfl rfl (fun K hK => ?_); go_step <;> (refine hK _ ?_; clear hK K)) | (refine wpLx_skip rfl ?_; go_simp))); all_goals (refine wpLx_nil ?_; try go_wp2_with fail))))
          go_ret
          exact ⟨((Upd.refl _ _).alloc _).drew, rfl⟩
    · have d1 : decide ((1 : Int) < (n : Int)) = false := decide_eq_false (by omega)
      have d2 : decide ((2 : Int) < (n : Int)) = false := decide_eq_false (by omega)
      rw [if_neg (fun h => h1 h.1), if_neg (fun h => by omega)]
      clear _hq1 _hq2
      go_enter Tryd.func75, Tryd.ntmps75
      (go_wp2_with fail; (repeat' (refine wp_region_lx {} (by kernel_rfl) (by kernel_rfl) ⟨fun _ _ _ h => h.2, fun _ _ h => h⟩ ?_; (repeat' (first | (refine wpLx_calm rfl rfl rfl (fun K hK => ?_); go_step <;> (refine hK _ ?_; clear hK K)) | (refine wpLx_skip2 rfl rfl rfl ?_; go_simp) | (refine wpLx_calm2 rfl rfl rfl rfl rfl (fun K hK => ?_); go_step <;> (refine hK _ ?_; clear hK K)) | (refine wpLx_skip rfl ?_; go_simp))); all_goals (refine wpLx_nil ?_; try go_wp2_with fail))))
      go_ret
      exact ⟨((Upd.refl _ _).alloc _).drew, rfl⟩
set_option maxHeartbeats 4000000 in
set_option maxRecDepth 1000000 in
theorem full_52 {w : World} {g o c n x0 x1 x2 : Nat} (_lc : n ≤ c) (_lm : c ≤ 9223372036854775807) (l0 : x0 < 256) (h0 : 0 < n)
    (hs0 : w.cell? ⟨g, o, none⟩ = some (.int .u8 (x0 : Int))) (_hq1 : 1 < n → w.cell? ⟨g, o + 1, none⟩ = some (.int .u8 (x1 : Int))) (_hq2 : 2 < n → w.cell? ⟨g, o + 2, none⟩ = some (.int .u8 (x2 : Int))) (hc0 : w.cell? ⟨12, x0, none⟩ = some (.int .u8 52)) (hX : firstT x0 = 52)
    (ha0 : w.cell? ⟨13, 6, none⟩ = some (.int .u8 144)) (ha1 : w.cell? ⟨13, 7, none⟩ = some (.int .u8 191)) :
    Calls Tryd.prog 75 #[.slice (some ⟨g, o, none⟩) n c] w (Ret fun v w' => New w w' ∧ v = .bool (fullN n x0 x1 x2)) := by
  have e : fullN n x0 x1 x2 = if 4 ≤ n then true else if 1 < n ∧ (x1 < 144 ∨ 191 < x1) then true else if 2 < n ∧ (x2 < 128 ∨ 191 < x2) then true else false := by
    unfold fullN; rw [if_neg (by omega), hX]; rfl
  have hz0 : (0 : Int) < (n : Int) := by omega
  have q0 : ((n : Int) == 0) = false := by simp; omega
  have hb : g < w.heap.size := World.block_lt_of_cell? w _ hs0
  rw [e]
  clear hX e
  by_cases hn : 4 ≤ n
  · have hge : ((4 : Nat) : Int) ≤ (n : Int) := by omega
    rw [if_pos hn]
    clear _hq1 _hq2 ha0 ha1
    go_enter Tryd.func75, Tryd.ntmps75
    (go_wp2_with fail; (repeat' (refine wp_region_lx {} (by kernel_rfl) (by kernel_rfl) ⟨fun _ _ _ h => h.2, fun _ _ h => h⟩ ?_; (repeat' (first | (refine wpLx_calm rfl rfl rfl (fun K hK => ?_); go_step <;> (refine hK _ ?_; clear hK K)) | (refine wpLx_skip2 rfl rfl rfl ?_; go_simp) | (refine wpLx_calm2 rfl rfl rfl rfl rfl (fun K hK => ?_); go_step <;> (refine hK _ ?_; clear hK K)) | (refine wpLx_skip rfl ?_; go_simp))); all_goals (refine wpLx_nil ?_; try go_wp2_with fail))))
    go_ret
    exact ⟨Upd.refl _ _, rfl⟩
  · have hge : ¬ ((4 : Nat) : Int) ≤ (n : Int) := by omega
    rw [if_neg hn]
    by_cases h1 : 1 < n
    · have d1 : decide ((1 : Int) < (n : Int)) = true := decide_eq_true (by omega)
      have hc1 := _hq1 h1
      by_cases hl : x1 < 144
      · have dl : decide ((x1 : Int) < 144) = true := decide_eq_true (by omega)
        rw [if_pos ⟨h1, .inl hl⟩]
        clear _hq1 _hq2
        go_enter Tryd.func75, Tryd.ntmps75
        (go_wp2_with fail; (repeat' (refine wp_region_lx {} (by kernel_rfl) (by kernel_rfl) ⟨fun _ _ _ h => h.2, fun _ _ h => h⟩ ?_; (repeat' (first | (refine wpLx_calm rfl rfl rfl (fun K hK => ?_); go_step <;> (refine hK _ ?_; clear hK K)) | (refine wpLx_skip2 rfl rfl rfl ?_; go_simp) | (refine wpLx_calm2 rfl rfl rfl rfl rfl (fun K hK => ?_); go_step <;> (refine hK _ ?_; clear hK K)) | (refine wpLx_skip rfl ?_; go_simp))); all_goals (refine wpLx_nil ?_; try go_wp2_with fail))))
        go_ret
        exact ⟨((Upd.refl _ _).alloc _).drew, rfl⟩
      · have dl : decide ((x1 : Int) < 144) = false := decide_eq_false (by omega)
        by_cases hh : 191 < x1
        · have dh : decide ((191 : Int) < (x1 : Int)) = true := decide_eq_true (by omega)
          rw [if_pos ⟨h1, .inr hh⟩]
          clear _hq1 _hq2
          go_enter Tryd.func75, Tryd.ntmps75
          (go_wp2_with fail; (repeat' (refine wp_region_lx {} (by kernel_rfl) (by kernel_rfl) ⟨fun _ _ _ h => h.2, fun _ _ h => h⟩ ?_; (repeat' (first | (refine wpLx_calm rfl rfl rfl (fun K hK => ?_); go_step <;> (refine hK _ ?_; clear hK K)) | (refine wpLx_skip2 rfl rfl rfl ?_; go_simp) | (refine wpLx_calm2 rfl rfl rfl rfl rfl (fun K hK => ?_); go_step <;> (refine hK _ ?_; clear hK K)) | (refine wpLx_skip rfl ?_; go_simp))); all_goals (refine wpLx_nil ?_; try go_wp2_with fail))))
          go_ret
          exact ⟨((Upd.refl _ _).alloc _).drew, rfl⟩
        · have dh : decide ((191 : Int) < (x1 : Int)) = false := decide_eq_false (by omega)
          rw [if_neg (fun h => by rcases h.2 with h | h <;> omega)]
          by_cases h2 : 2 < n
          · have d2 : decide ((2 : Int) < (n : Int)) = true := decide_eq_true (by omega)
            have hc2 := _hq2 h2
            by_cases hl2 : x2 < 128
            · have dl2 : decide ((x2 : Int) < 128) = true := decide_eq_true (by omega)
              rw [if_pos ⟨h2, .inl hl2⟩]
              clear _hq1 _hq2
              go_enter Tryd.func75, Tryd.ntmps75
              (go_wp2_with fail; (repeat' (refine wp_region_lx {} (by kernel_rfl) (by kernel_rfl) ⟨fun _ _ _ h => h.2, fun _ _ h => h⟩ ?_; (repeat' (first | (refine wpLx_calm rfl rfl rfl (fun K hK => ?_); go_step <;> (refine hK _ ?_; clear hK K)) | (refine wpLx_skip2 rfl rfl rfl ?_; go_simp) | (refine wpLx_calm2 rfl rfl rfl rfl rfl (fun K hK => ?_); go_step <;> (refine hK _ ?_; clear hK K)) | (refine wpLx_skip rfl ?_; go_simp))); all_goals (refine wpLx_nil ?_; try go_wp2_with fail))))
              go_ret
              exact ⟨((Upd.refl _ _).alloc _).drew, rfl⟩
            · have dl2 : decide ((x2 : Int) < 128) = false := decide_eq_false (by omega)
              by_cases hh2 : 191 < x2
              · have dh2 : decide ((191 : Int) < (x2 : Int)) = true := decide_eq_true (by omega)
                rw [if_pos ⟨h2, .inr hh2⟩]
                clear _hq1 _hq2
                go_enter Tryd.func75, Tryd.ntmps75
                (go_wp2_with fail; (repeat' (refine wp_region_lx {} (by kernel_rfl) (by kernel_rfl) ⟨fun _ _ _ h => h.2, fun _ _ h => h⟩ ?_; (repeat' (first | (refine wpLx_calm rfl rfl rfl (fun K hK => ?_); go_step <;> (refine hK _ ?_; clear hK K)) | (refine wpLx_skip2 rfl rfl rfl ?_; go_simp) | (refine wpLx_calm2 rfl rfl rfl rfl rfl (fun K hK => ?_); go_step <;> (refine hK _ ?_; clear hK K)) | (refine wpLx_skip rfl ?_; go_simp))); all_goals (refine wpLx_nil ?_; try go_wp2_with fail))))
                go_ret
                exact ⟨((Upd.refl _ _).alloc _).drew, rfl⟩
              · have dh2 : decide ((191 : Int) < (x2 : Int)) = false := decide_eq_false (by omega)
                rw [if_neg (fun h => by rcases h.2 with h | h <;> omega)]
                clear _hq1 _hq2
                go_enter Tryd.func75, Tryd.ntmps75
                (go_wp2_with fail; (repeat' (refine wp_region_lx {} (by kernel_rfl) (by kernel_rfl) ⟨fun _ _ _ h => h.2, fun _ _ h => h⟩ ?_; (repeat' (first | (refine wpLx_calm rfl rfl rfl (fun K hK => ?_); go_step <;> (refine hK _ ?_; clear hK K)) | (refine wpLx_skip2 rfl rfl rfl ?_; go_simp) | (refine wpLx_calm2 rfl rfl rfl rfl rfl (fun K hK => ?_); go_step <;> (refine hK _ ?_; clear hK K)) | (refine wpLx_skip rfl ?_; go_simp))); all_goals (refine wpLx_nil ?_; try go_wp2_with fail))))
                go_ret
                exact ⟨((Upd.refl _ _).alloc _).drew, rfl⟩
          · have d2 : decide ((2 : Int) < (n : Int)) = false := decide_eq_false (by omega)
            rw [if_neg (fun h => h2 h.1)]
            clear _hq1 _hq2
            go_enter Tryd.func75, Tryd.ntmps75
            (go_wp2_with fail; (repeat' (refine wp_region_lx {} (by kernel_rfl) (by kernel_rfl) ⟨fun _ _ _ h => h.2, fun _ _ h => h⟩ ?_; (repeat' (first | (refine wpLx_calm rfl rfl rfl (fun K hK => ?_); go_step <;> (refine hK _ ?_; clear hK K)) | (refine wpLx_skip2 rfl rfl rfl ?_; go_simp) | (refine wpLx_calm2 rfl rfl rfl rfl rfl (fun K hK => ?_); go_step <;> (refine hK _ ?_; clear hK K)) | (refine wpLx_skip rfl ?_; go_simp))); all_goals (refine wpLx_nil ?_; try go_wp2_with fail))))
            go_ret
            exact ⟨((Upd.refl _ _).alloc _).drew, rfl⟩
    · have d1 : decide ((1 : Int) < (n : Int)) = false := decide_eq_false (by omega)
      have d2 : decide ((2 : Int) < (n : Int)) = false := decide_eq_false (by omega)
      rw [if_neg (fun h => h1 h.1), if_neg (fun h => by omega)]
      clear _hq1 _hq2
      go_enter Tryd.func75, Tryd.ntmps75
      (go_wp2_with fail; (repeat' (refine wp_region_lx {} (by kernel_rfl) (by kernel_rfl) ⟨fun _ _ _ h => h.2, fun _ _ h => h⟩ ?_; (repeat' (first | (refine wpLx_calm rfl rfl rfl (fun K hK => ?_); go_step <;> (refine hK _ ?_; clear hK K)) | (refine wpLx_skip2 rfl rfl rfl ?_; go_simp) | (refine wpLx_calm2 rfl rfl rfl rfl rfl (fun K hK => ?_); go_step <;> (refine hK _ ?_; clear hK K)) | (refine wpLx_skip rfl ?_; go_simp))); all_goals (refine wpLx_nil ?_; try go_wp2_with fail))))
      go_ret
      exact ⟨((Upd.refl _ _).alloc _).drew, rfl⟩
set_option maxHeartbeats 4000000 in
set_option maxRecDepth 1000000 in
theorem full_4 {w : World} {g o c n x0 x1 x2 : Nat} (_lc : n ≤ c) (_lm : c ≤ 9223372036854775807) (l0 : x0 < 256) (h0 : 0 < n)
    (hs0 : w.cell? ⟨g, o, none⟩ = some (.int .u8 (x0 : Int))) (_hq1 : 1 < n → w.cell? ⟨g, o + 1, none⟩ = some (.int .u8 (x1 : Int))) (_hq2 : 2 < n → w.cell? ⟨g, o + 2, none⟩ = some (.int .u8 (x2 : Int))) (hc0 : w.cell? ⟨12, x0, none⟩ = some (.int .u8 4)) (hX : firstT x0 = 4)
    (ha0 : w.cell? ⟨13, 0, none⟩ = some (.int .u8 128)) (ha1 : w.cell? ⟨13, 1, none⟩ = some (.int .u8 191)) :
    Calls Tryd.prog 75 #[.slice (some ⟨g, o, none⟩) n c] w (Ret fun v w' => New w w' ∧ v = .bool (fullN n x0 x1 x2)) := by
  have e : fullN n x0 x1 x2 = if 4 ≤ n then true else if 1 < n ∧ (x1 < 128 ∨ 191 < x1) then true else if 2 < n ∧ (x2 < 128 ∨ 191 < x2) then true else false := by
    unfold fullN; rw [if_neg (by omega), hX]; rfl
  have hz0 : (0 : Int) < (n : Int) := by omega
  have q0 : ((n : Int) == 0) = false := by simp; omega
  have hb : g < w.heap.size := World.block_lt_of_cell? w _ hs0
  rw [e]
  clear hX e
  by_cases hn : 4 ≤ n
  · have hge : ((4 : Nat) : Int) ≤ (n : Int) := by omega
    rw [if_pos hn]
    clear _hq1 _hq2 ha0 ha1
    go_enter Tryd.func75, Tryd.ntmps75
    (go_wp2_with fail; (repeat' (refine wp_region_lx {} (by kernel_rfl) (by kernel_rfl) ⟨fun _ _ _ h => h.2, fun _ _ h => h⟩ ?_; (repeat' (first | (refine wpLx_calm rfl rfl rfl (fun K hK => ?_); go_step <;> (refine hK _ ?_; clear hK K)) | (refine wpLx_skip2 rfl rfl rfl ?_; go_simp) | (refine wpLx_calm2 rfl rfl rfl rfl rfl (fun K hK => ?_); go_step <;> (refine hK _ ?_; clear hK K)) | (refine wpLx_skip rfl ?_; go_simp))); all_goals (refine wpLx_nil ?_; try go_wp2_with fail))))
    go_ret
    exact ⟨Upd.refl _ _, rfl⟩
  · have hge : ¬ ((4 : Nat) : Int) ≤ (n : Int) := by omega
    rw [if_neg hn]
    by_cases h1 : 1 < n
    · have d1 : decide ((1 : Int) < (n : Int)) = true := decide_eq_true (by omega)
      have hc1 := _hq1 h1
      by_cases hl : x1 < 128
      · have dl : decide ((x1 : Int) < 128) = true := decide_eq_true (by omega)
        rw [if_pos ⟨h1, .inl hl⟩]
        clear _hq1 _hq2
        go_enter Tryd.func75, Tryd.ntmps75
        (go_wp2_with fail; (repeat' (refine wp_region_lx {} (by kernel_rfl) (by kernel_rfl) ⟨fun _ _ _ h => h.2, fun _ _ h => h⟩ ?_; (repeat' (first | (refine wpLx_calm rfl rfl rfl (fun K hK => ?_); go_step <;> (refine hK _ ?_; clear hK K)) | (refine wpLx_skip2 rfl rfl rfl ?_; go_simp) | (refine wpLx_calm2 rfl rfl rfl rfl rfl (fun K hK => ?_); go_step <;> (refine hK _ ?_; clear hK K)) | (refine wpLx_skip rfl ?_; go_simp))); all_goals (refine wpLx_nil ?_; try go_wp2_with fail))))
        go_ret
        exact ⟨((Upd.refl _ _).alloc _).drew, rfl⟩
      · have dl : decide ((x1 : Int) < 128) = false := decide_eq_false (by omega)
        by_cases hh : 191 < x1
        · have dh : decide ((191 : Int) < (x1 : Int)) = true := decide_eq_true (by omega)
          rw [if_pos ⟨h1, .inr hh⟩]
          clear _hq1 _hq2
          go_enter Tryd.func75, Tryd.ntmps75
          (go_wp2_with fail; (repeat' (refine wp_region_lx {} (by kernel_rfl) (by kernel_rfl) ⟨fun _ _ _ h => h.2, fun _ _ h => h⟩ ?_; (repeat' (first | (refine wpLx_calm rfl rfl rfl (fun K hK => ?_); go_step <;> (refine hK _ ?_; clear hK K)) | (refine wpLx_skip2 rfl rfl rfl ?_; go_simp) | (refine wpLx_calm2 rfl rfl rfl rfl rfl (fun K hK => ?_); go_step <;> (refine hK _ ?_; clear hK K)) | (refine wpLx_skip rfl ?_; go_simp))); all_goals (refine wpLx_nil ?_; try go_wp2_with fail))))
          go_ret
          exact ⟨((Upd.refl _ _).alloc _).drew, rfl⟩
        · have dh : decide ((191 : Int) < (x1 : Int)) = false := decide_eq_false (by omega)
          rw [if_neg (fun h => by rcases h.2 with h | h <;> omega)]
          by_cases h2 : 2 < n
          · have d2 : decide ((2 : Int) < (n : Int)) = true := decide_eq_true (by omega)
            have hc2 := _hq2 h2
            by_cases hl2 : x2 < 128
            · have dl2 : decide ((x2 : Int) < 128) = true := decide_eq_true (by omega)
              rw [if_pos ⟨h2, .inl hl2⟩]
              clear _hq1 _hq2
              go_enter Tryd.func75, Tryd.ntmps75
              (go_wp2_with fail; (repeat' (refine wp_region_lx {} (by kernel_rfl) (by kernel_rfl) ⟨fun _ _ _ h => h.2, fun _ _ h => h⟩ ?_; (repeat' (first | (refine wpLx_calm rfl rfl rfl (fun K hK => ?_); go_step <;> (refine hK _ ?_; clear hK K)) | (refine wpLx_skip2 rfl rfl rfl ?_; go_simp) | (refine wpLx_calm2 rfl rfl rfl rfl rfl (fun K hK => ?_); go_step <;> (refine hK _ ?_; clear hK K)) | (refine wpLx_skip rfl ?_; go_simp))); all_goals (refine wpLx_nil ?_; try go_wp2_with fail))))
              go_ret
              exact ⟨((Upd.refl _ _).alloc _).drew, rfl⟩
            · have dl2 : decide ((x2 : Int) < 128) = false := decide_eq_false (by omega)
              by_cases hh2 : 191 < x2
              · have dh2 : decide ((191 : Int) < (x2 : Int)) = true := decide_eq_true (by omega)
                rw [if_pos ⟨h2, .inr hh2⟩]
                clear _hq1 _hq2
                go_enter Tryd.func75, Tryd.ntmps75
                (go_wp2_with fail; (repeat' (refine wp_region_lx {} (by kernel_rfl) (by kernel_rfl) ⟨fun _ _ _ h => h.2, fun _ _ h => h⟩ ?_; (repeat' (first | (refine wpLx_calm rfl rfl rfl (fun K hK => ?_); go_step <;> (refine hK _ ?_; clear hK K)) | (refine wpLx_skip2 rfl rfl rfl ?_; go_simp) | (refine wpLx_calm2 rfl rfl rfl rfl rfl (fun K hK => ?_); go_step <;> (refine hK _ ?_; clear hK K)) | (refine wpLx_skip rfl ?_; go_simp))); all_goals (refine wpLx_nil ?_; try go_wp2_with fail))))
                go_ret
                exact ⟨((Upd.refl _ _).alloc _).drew, rfl⟩
              · have dh2 : decide ((191 : Int) < (x2 : Int)) = false := decide_eq_false (by omega)
                rw [if_neg (fun h => by rcases h.2 with h | h <;> omega)]
                clear _hq1 _hq2
                go_enter Tryd.func75, Tryd.ntmps75
                (go_wp2_with fail; (repeat' (refine wp_region_lx {} (by kernel_rfl) (by kernel_rfl) ⟨fun _ _ _ h => h.2, fun _ _ h => h⟩ ?_; (repeat' (first | (refine wpLx_calm rfl rfl rfl (fun K hK => ?_); go_step <;> (refine hK _ ?_; clear hK K)) | (refine wpLx_skip2 rfl rfl rfl ?_; go_simp) | (refine wpLx_calm2 rfl rfl rfl rfl rfl (fun K hK => ?_); go_step <;> (refine hK _ ?_; clear hK K)) | (refine wpLx_skip rfl ?_; go_simp))); all_goals (refine wpLx_nil ?_; try go_wp2_with fail))))
                go_ret
                exact ⟨((Upd.refl _ _).alloc _).drew, rfl⟩
          · have d2 : decide ((2 : Int) < (n : Int)) = false := decide_eq_false (by omega)
            rw [if_neg (fun h => h2 h.1)]
            clear _hq1 _hq2
            go_enter Tryd.func75, Tryd.ntmps75
            (go_wp2_with fail; (repeat' (refine wp_region_lx {} (by kernel_rfl) (by kernel_rfl) ⟨fun _ _ _ h => h.2, fun _ _ h => h⟩ ?_; (repeat' (first | (refine wpLx_calm rfl rfl rfl (fun K hK => ?_); go_step <;> (refine hK _ ?_; clear hK K)) | (refine wpLx_skip2 rfl rfl rfl ?_; go_simp) | (refine wpLx_calm2 rfl rfl rfl rfl rfl (fun K hK => ?_); go_step <;> (refine hK _ ?_; clear hK K)) | (refine wpLx_skip rfl ?_; go_simp))); all_goals (refine wpLx_nil ?_; try go_wp2_with fail))))
            go_ret
            exact ⟨((Upd.refl _ _).alloc _).drew, rfl⟩
    · have d1 : decide ((1 : Int) < (n : Int)) = false := decide_eq_false (by omega)
      have d2 : decide ((2 : Int) < (n : Int)) = false := decide_eq_false (by omega)
      rw [if_neg (fun h => h1 h.1), if_neg (fun h => by omega)]
      clear _hq1 _hq2
      go_enter Tryd.func75, Tryd.ntmps75
      (go_wp2_with fail; (repeat' (refine wp_region_lx {} (by kernel_rfl) (by kernel_rfl) ⟨fun _ _ _ h => h.2, fun _ _ h => h⟩ ?_; (repeat' (first | (refine wpLx_calm rfl rfl rfl (fun K hK => ?_); go_step <;> (refine hK _ ?_; clear hK K)) | (refine wpLx_skip2 rfl rfl rfl ?_; go_simp) | (refine wpLx_calm2 rfl rfl rfl rfl rfl (fun K hK => ?_); go_step <;> (refine hK _ ?_; clear hK K)) | (refine wpLx_skip rfl ?_; go_simp))); all_goals (refine wpLx_nil ?_; try go_wp2_with fail))))
      go_ret
      exact ⟨((Upd.refl _ _).alloc _).drew, rfl⟩
set_option maxHeartbeats 4000000 in
set_option maxRecDepth 1000000 in
theorem full_68 {w : World} {g o c n x0 x1 x2 : Nat} (_lc : n ≤ c) (_lm : c ≤ 9223372036854775807) (l0 : x0 < 256) (h0 : 0 < n)
    (hs0 : w.cell? ⟨g, o, none⟩ = some (.int .u8 (x0 : Int))) (_hq1 : 1 < n → w.cell? ⟨g, o + 1, none⟩ = some (.int .u8 (x1 : Int))) (_hq2 : 2 < n → w.cell? ⟨g, o + 2, none⟩ = some (.int .u8 (x2 : Int))) (hc0 : w.cell? ⟨12, x0, none⟩ = some (.int .u8 68)) (hX : firstT x0 = 68)
    (ha0 : w.cell? ⟨13, 8, none⟩ = some (.int .u8 128)) (ha1 : w.cell? ⟨13, 9, none⟩ = some (.int .u8 143)) :
    Calls Tryd.prog 75 #[.slice (some ⟨g, o, none⟩) n c] w (Ret fun v w' => New w w' ∧ v = .bool (fullN n x0 x1 x2)) := by
  have e : fullN n x0 x1 x2 = if 4 ≤ n then true else if 1 < n ∧ (x1 < 128 ∨ 143 < x1) then true else if 2 < n ∧ (x2 < 128 ∨ 191 < x2) then true else false := by
    unfold fullN; rw [if_neg (by omega), hX]; rfl
  have hz0 : (0 : Int) < (n : Int) := by omega
  have q0 : ((n : Int) == 0) = false := by simp; omega
  have hb : g < w.heap.size := World.block_lt_of_cell? w _ hs0
  rw [e]
  clear hX e
  by_cases hn : 4 ≤ n
  · have hge : ((4 : Nat) : Int) ≤ (n : Int) := by omega
    rw [if_pos hn]
    clear _hq1 _hq2 ha0 ha1
    go_enter Tryd.func75, Tryd.ntmps75
    (go_wp2_with fail; (repeat' (refine wp_region_lx {} (by kernel_rfl) (by kernel_rfl) ⟨fun _ _ _ h => h.2, fun _ _ h => h⟩ ?_; (repeat' (first | (refine wpLx_calm rfl rfl rfl (fun K hK => ?_); go_step <;> (refine hK _ ?_; clear hK K)) | (refine wpLx_skip2 rfl rfl rfl ?_; go_simp) | (refine wpLx_calm2 rfl rfl rfl rfl rfl (fun K hK => ?_); go_step <;> (refine hK _ ?_; clear hK K)) | (refine wpLx_skip rfl ?_; go_simp))); all_goals (refine wpLx_nil ?_; try go_wp2_with fail))))
    go_ret
    exact ⟨Upd.refl _ _, rfl⟩
  · have hge : ¬ ((4 : Nat) : Int) ≤ (n : Int) := by omega
    rw [if_neg hn]
    by_cases h1 : 1 < n
    · have d1 : decide ((1 : Int) < (n : Int)) = true := decide_eq_true (by omega)
      have hc1 := _hq1 h1
      by_cases hl : x1 < 128
      · have dl : decide ((x1 : Int) < 128) = true := decide_eq_true (by omega)
        rw [if_pos ⟨h1, .inl hl⟩]
        clear _hq1 _hq2
        go_enter Tryd.func75, Tryd.ntmps75
        (go_wp2_with fail; (repeat' (refine wp_region_lx {} (by kernel_rfl) (by kernel_rfl) ⟨fun _ _ _ h => h.2, fun _ _ h => h⟩ ?_; (repeat' (first | (refine wpLx_calm rfl rfl rfl (fun K hK => ?_); go_step <;> (refine hK _ ?_; clear hK K)) | (refine wpLx_skip2 rfl rfl rfl ?_; go_simp) | (refine wpLx_calm2 rfl rfl rfl rfl rfl (fun K hK => ?_); go_step <;> (refine hK _ ?_; clear hK K)) | (refine wpLx_skip rfl ?_; go_simp))); all_goals (refine wpLx_nil ?_; try go_wp2_with fail))))
        go_ret
        exact ⟨((Upd.refl _ _).alloc _).drew, rfl⟩
      · have dl : decide ((x1 : Int) < 128) = false := decide_eq_false (by omega)
        by_cases hh : 143 < x1
        · have dh : decide ((143 : Int) < (x1 : Int)) = true := decide_eq_true (by omega)
          rw [if_pos ⟨h1, .inr hh⟩]
          clear _hq1 _hq2
          go_enter Tryd.func75, Tryd.ntmps75
          (go_wp2_with fail; (repeat' (refine wp_region_lx {} (by kernel_rfl) (by kernel_rfl) ⟨fun _ _ _ h => h.2, fun _ _ h => h⟩ ?_; (repeat' (first | (refine wpLx_calm rfl rfl rfl (fun K hK => ?_); go_step <;> (refine hK _ ?_; clear hK K)) | (refine wpLx_skip2 rfl rfl rfl ?_; go_simp) | (refine wpLx_calm2 rfl rfl rfl rfl rfl (fun K hK => ?_); go_step <;> (refine hK _ ?_; clear hK K)) | (refine wpLx_skip rfl ?_; go_simp))); all_goals (refine wpLx_nil ?_; try go_wp2_with fail))))
          go_ret
          exact ⟨((Upd.refl _ _).alloc _).drew, rfl⟩
        · have dh : decide ((143 : Int) < (x1 : Int)) = false := decide_eq_false (by omega)
          rw [if_neg (fun h => by rcases h.2 with h | h <;> omega)]
          by_cases h2 : 2 < n
          · have d2 : decide ((2 : Int) < (n : Int)) = true := decide_eq_true (by omega)
            have hc2 := _hq2 h2
            by_cases hl2 : x2 < 128
            · have dl2 : decide ((x2 : Int) < 128) = true := decide_eq_true (by omega)
              rw [if_pos ⟨h2, .inl hl2⟩]
              clear _hq1 _hq2
              go_enter Tryd.func75, Tryd.ntmps75
              (go_wp2_with fail; (repeat' (refine wp_region_lx {} (by kernel_rfl) (by kernel_rfl) ⟨fun _ _ _ h => h.2, fun _ _ h => h⟩ ?_; (repeat' (first | (refine wpLx_calm rfl rfl rfl (fun K hK => ?_); go_step <;> (refine hK _ ?_; clear hK K)) | (refine wpLx_skip2 rfl rfl rfl ?_; go_simp) | (refine wpLx_calm2 rfl rfl rfl rfl rfl (fun K hK => ?_); go_step <;> (refine hK _ ?_; clear hK K)) | (refine wpLx_skip rfl ?_; go_simp))); all_goals (refine wpLx_nil ?_; try go_wp2_with fail))))
              go_ret
              exact ⟨((Upd.refl _ _).alloc _).drew, rfl⟩
            · have dl2 : decide ((x2 : Int) < 128) = false := decide_eq_false (by omega)
              by_cases hh2 : 191 < x2
              · have dh2 : decide ((191 : Int) < (x2 : Int)) = true := decide_eq_true (by omega)
                rw [if_pos ⟨h2, .inr hh2⟩]
                clear _hq1 _hq2
                go_enter Tryd.func75, Tryd.ntmps75
                (go_wp2_with fail; (repeat' (refine wp_region_lx {} (by kernel_rfl) (by kernel_rfl) ⟨fun _ _ _ h => h.2, fun _ _ h => h⟩ ?_; (repeat' (first | (refine wpLx_calm rfl rfl rfl (fun K hK => ?_); go_step <;> (refine hK _ ?_; clear hK K)) | (refine wpLx_skip2 rfl rfl rfl ?_; go_simp) | (refine wpLx_calm2 rfl rfl rfl rfl rfl (fun K hK => ?_); go_step <;> (refine hK _ ?_; clear hK K)) | (refine wpLx_skip rfl ?_; go_simp))); all_goals (refine wpLx_nil ?_; try go_wp2_with fail))))
                go_ret
                exact ⟨((Upd.refl _ _).alloc _).drew, rfl⟩
              · have dh2 : decide ((191 : Int) < (x2 : Int)) = false := decide_eq_false (by omega)
                rw [if_neg (fun h => by rcases h.2 with h | h <;> omega)]
                clear _hq1 _hq2
                go_enter Tryd.func75, Tryd.ntmps75
                (go_wp2_with fail; (repeat' (refine wp_region_lx {} (by kernel_rfl) (by kernel_rfl) ⟨fun _ _ _ h => h.2, fun _ _ h => h⟩ ?_; (repeat' (first | (refine wpLx_calm rfl rfl rfl (fun K hK => ?_); go_step <;> (refine hK _ ?_; clear hK K)) | (refine wpLx_skip2 rfl rfl rfl ?_; go_simp) | (refine wpLx_calm2 rfl rfl rfl rfl rfl (fun K hK => ?_); go_step <;> (refine hK _ ?_; clear hK K)) | (refine wpLx_skip rfl ?_; go_simp))); all_goals (refine wpLx_nil ?_; try go_wp2_with fail))))
                go_ret
                exact ⟨((Upd.refl _ _).alloc _).drew, rfl⟩
          · have d2 : decide ((2 : Int) < (n : Int)) = false := decide_eq_false (by omega)
            rw [if_neg (fun h => h2 h.1)]
            clear _hq1 _hq2
            go_enter Tryd.func75, Tryd.ntmps75
            (go_wp2_with fail; (repeat' (refine wp_region_lx {} (by kernel_rfl) (by kernel_rfl) ⟨fun _ _ _ h => h.2, fun _ _ h => h⟩ ?_; (repeat' (first | (refine wpLx_calm rfl rfl rfl (fun K hK => ?_); go_step <;> (refine hK _ ?_; clear hK K)) | (refine wpLx_skip2 rfl rfl rfl ?_; go_simp) | (refine wpLx_calm2 rfl rfl rfl rfl rfl (fun K hK => ?_); go_step <;> (refine hK _ ?_; clear hK K)) | (refine wpLx_skip rfl ?_; go_simp))); all_goals (refine wpLx_nil ?_; try go_wp2_with fail))))
            go_ret
            exact ⟨((Upd.refl _ _).alloc _).drew, rfl⟩
    · have d1 : decide ((1 : Int) < (n : Int)) = false := decide_eq_false (by omega)
      have d2 : decide ((2 : Int) < (n : Int)) = false := decide_eq_false (by omega)
      rw [if_neg (fun h => h1 h.1), if_neg (fun h => by omega)]
      clear _hq1 _hq2
      go_enter Tryd.func75, Tryd.ntmps75
      (go_wp2_with fail; (repeat' (refine wp_region_lx {} (by kernel_rfl) (by kernel_rfl) ⟨fun _ _ _ h => h.2, fun _ _ h => h⟩ ?_; (repeat' (first | (refine wpLx_calm rfl rfl rfl (fun K hK => ?_); go_step <;> (refine hK _ ?_; clear hK K)) | (refine wpLx_skip2 rfl rfl rfl ?_; go_simp) | (refine wpLx_calm2 rfl rfl rfl rfl rfl (fun K hK => ?_); go_step <;> (refine hK _ ?_; clear hK K)) | (refine wpLx_skip rfl ?_; go_simp))); all_goals (refine wpLx_nil ?_; try go_wp2_with fail))))
      go_ret
      exact ⟨((Upd.refl _ _).alloc _).drew, rfl⟩
set_option maxHeartbeats 1000000 in
set_option maxRecDepth 1000000 in
theorem fullRune {w : World} (hT : Tabs w) {g o c : Nat} {bs : List UInt8} (h : BytesA w (some ⟨g, o, none⟩) c bs) :
    Calls Tryd.prog 75 #[.slice (some ⟨g, o, none⟩) bs.length c] w (Ret fun v w' => New w w' ∧ v = .bool (fullB bs)) := by
  have lc := h.1
  have lm := h.2.1
  unfold maxLen at lm
  unfold fullB
  by_cases h0 : bs.length = 0
  · obtain ⟨n, hn⟩ : ∃ n, bs.length = n := ⟨_, rfl⟩
    have e : fullN bs.length (xb bs 0) (xb bs 1) (xb bs 2) = false := by unfold fullN; rw [if_pos h0]
    rw [e, h0]
    clear h hT e hn lc h0
    go_enter Tryd.func75, Tryd.ntmps75
    (go_wp2_with fail; (repeat' (refine wp_region_lx {} (by kernel_rfl) (by kernel_rfl) ⟨fun _ _ _ h => h.2, fun _ _ h => h⟩ ?_; (repeat' (first | (refine wpLx_calm rfl rfl rfl (fun K hK => ?_); go_step <;> (refine hK _ ?_; clear hK K)) | (refine wpLx_skip2 rfl rfl rfl ?_; go_simp) | (refine wpLx_calm2 rfl rfl rfl rfl rfl (fun K hK => ?_); go_step <;> (refine hK _ ?_; clear hK K)) | (refine wpLx_skip rfl ?_; go_simp))); all_goals (refine wpLx_nil ?_; try go_wp2_with fail))))
    go_ret
    exact ⟨Upd.refl _ _, rfl⟩
  · have hs0 : w.cell? ⟨g, o, none⟩ = some (.int .u8 (xb bs 0 : Int)) := h.xb 0 (by omega)
    have hq1 : 1 < bs.length → w.cell? ⟨g, o + 1, none⟩ = some (.int .u8 (xb bs 1 : Int)) := h.xb 1
    have hq2 : 2 < bs.length → w.cell? ⟨g, o + 2, none⟩ = some (.int .u8 (xb bs 2 : Int)) := h.xb 2
    have l0 := xb_lt bs 0
    have hc0 := hT.1 (xb bs 0) l0
    rcases Lib.firstT_cases (xb bs 0) with hX | hX | hX | hX | hX | hX | hX | hX | hX
    all_goals rw [hX] at hc0
    · exact full_240 lc lm l0 (by omega) hs0 hq1 hq2 hc0 hX
    · exact full_241 lc lm l0 (by omega) hs0 hq1 hq2 hc0 hX
    · exact full_2 lc lm l0 (by omega) hs0 hq1 hq2 hc0 hX (hT.2 0 (by omega)).1 (hT.2 0 (by omega)).2
    · exact full_19 lc lm l0 (by omega) hs0 hq1 hq2 hc0 hX (hT.2 1 (by omega)).1 (hT.2 1 (by omega)).2
    · exact full_3 lc lm l0 (by omega) hs0 hq1 hq2 hc0 hX (hT.2 0 (by omega)).1 (hT.2 0 (by omega)).2
    · exact full_35 lc lm l0 (by omega) hs0 hq1 hq2 hc0 hX (hT.2 2 (by omega)).1 (hT.2 2 (by omega)).2
    · exact full_52 lc lm l0 (by omega) hs0 hq1 hq2 hc0 hX (hT.2 3 (by omega)).1 (hT.2 3 (by omega)).2
    · exact full_4 lc lm l0 (by omega) hs0 hq1 hq2 hc0 hX (hT.2 0 (by omega)).1 (hT.2 0 (by omega)).2
    · exact full_68 lc lm l0 (by omega) hs0 hq1 hq2 hc0 hX (hT.2 4 (by omega)).1 (hT.2 4 (by omega)).2
end Go.Proofs.YtgbbogocfmepiaaDoor
