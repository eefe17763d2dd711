/- slices.Equal over runes and over ints, by their readings. -/
import Derived.Test.YtmmjfpcmempeeaaDoorListsG
namespace Go.Proofs.YtmmjfpcmempeeaaDoor
open Go.RowKit
set_option maxHeartbeats 1000000 in
theorem equalRunes {w : World} {a1 a2 : Option Addr} {c1 c2 : Nat} {xs : List Nat} (h1 : ReadG fI32 w a1 c1 xs) (h2 : ReadG fI32 w a2 c2 xs) :
    Calls Tryd.prog 15 #[.slice a1 xs.length c1, .slice a2 xs.length c2] w (Ret fun v w' => New w w' ∧ v = .bool true) := by
  have l1 := h1.1
  have l2 := h1.2.1
  have l3 := h2.1
  have l4 := h2.2.1
  unfold maxLen at l2 l4
  have H1 := Lib.hid h1
  have H2 := Lib.hid h2
  clear h1 h2
  go_enter Tryd.func15, Tryd.ntmps15
  go_wp2
  go_loopw [13] (fun i wr => New w wr ∧ ∃ k : Nat, k ≤ xs.length ∧ i = .int .i64 (k : Int)) (fun i _ => xs.length - (intOf i).toNat)
  case atStart => exact ⟨Upd.refl _ _, 0, Nat.zero_le _, rfl⟩
  case round =>
    obtain ⟨hn, k, hk, rfl⟩ := hrel
    have HN := Lib.hid hn
    clear hn
    by_cases hlt : k < xs.length
    · obtain ⟨b, o, rfl, hc1⟩ := H1.out.at hlt
      obtain ⟨b', o', rfl, hc2⟩ := H2.out.at hlt
      have hc1 := HN.out.cell hc1 (fun h => h)
      have hc2 := HN.out.cell hc2 (fun h => h)
      simp only [fI32] at hc1 hc2
      obtain ⟨x, hx⟩ : ∃ x, xs[k] = x := ⟨_, rfl⟩
      rw [hx] at hc1 hc2
      clear hx
      (go_wp2_with fail; (repeat' (refine wp_region_lx {} (by kernel_rfl) (by kernel_rfl) ⟨fun _ _ _ h => h.2, fun _ _ h => h⟩ ?_; (repeat' (first | (refine wpLx_calm rfl rfl rfl (fun K hK => ?_); go_step <;> (refine hK _ ?_; clear hK K)) | (refine wpLx_skip2 rfl rfl rfl ?_; go_simp) | (refine wpLx_calm2 rfl rfl rfl rfl rfl (fun K hK => ?_); go_step <;> (refine hK _ ?_; clear hK K)))); all_goals (refine wpLx_nil ?_; try go_wp2_with fail))))
      go_roundw
      case rel => exact ⟨HN.out.drew, k + 1, by omega, by go_num⟩
      case measure => simp [intOf]; omega
    · obtain rfl : k = xs.length := by omega
      go_wp2
      go_ret
      exact ⟨HN.out, rfl⟩
set_option maxHeartbeats 1000000 in
theorem equalIntsG {w : World} {a1 a2 : Option Addr} {c1 c2 : Nat} {xs : List Nat} (h1 : ReadG fI64 w a1 c1 xs) (h2 : ReadG fI64 w a2 c2 xs) :
    Calls Tryd.prog 16 #[.slice a1 xs.length c1, .slice a2 xs.length c2] w (Ret fun v w' => New w w' ∧ v = .bool true) := by
  have l1 := h1.1
  have l2 := h1.2.1
  have l3 := h2.1
  have l4 := h2.2.1
  unfold maxLen at l2 l4
  have H1 := Lib.hid h1
  have H2 := Lib.hid h2
  clear h1 h2
  go_enter Tryd.func16, Tryd.ntmps16
  go_wp2
  go_loopw [13] (fun i wr => New w wr ∧ ∃ k : Nat, k ≤ xs.length ∧ i = .int .i64 (k : Int)) (fun i _ => xs.length - (intOf i).toNat)
  case atStart => exact ⟨Upd.refl _ _, 0, Nat.zero_le _, rfl⟩
  case round =>
    obtain ⟨hn, k, hk, rfl⟩ := hrel
    have HN := Lib.hid hn
    clear hn
    by_cases hlt : k < xs.length
    · obtain ⟨b, o, rfl, hc1⟩ := H1.out.at hlt
      obtain ⟨b', o', rfl, hc2⟩ := H2.out.at hlt
      have hc1 := HN.out.cell hc1 (fun h => h)
      have hc2 := HN.out.cell hc2 (fun h => h)
      simp only [fI64] at hc1 hc2
      obtain ⟨x, hx⟩ : ∃ x, xs[k] = x := ⟨_, rfl⟩
      rw [hx] at hc1 hc2
      clear hx
      (go_wp2_with fail; (repeat' (refine wp_region_lx {} (by kernel_rfl) (by kernel_rfl) ⟨fun _ _ _ h => h.2, fun _ _ h => h⟩ ?_; (repeat' (first | (refine wpLx_calm rfl rfl rfl (fun K hK => ?_); go_step <;> (refine hK _ ?_; clear hK K)) | (refine wpLx_skip2 rfl rfl rfl ?_; go_simp) | (refine wpLx_calm2 rfl rfl rfl rfl rfl (fun K hK => ?_); go_step <;> (refine hK _ ?_; clear hK K)))); all_goals (refine wpLx_nil ?_; try go_wp2_with fail))))
      go_roundw
      case rel => exact ⟨HN.out.drew, k + 1, by omega, by go_num⟩
      case measure => simp [intOf]; omega
    · obtain rfl : k = xs.length := by omega
      go_wp2
      go_ret
      exact ⟨HN.out, rfl⟩
end Go.Proofs.YtmmjfpcmempeeaaDoor
