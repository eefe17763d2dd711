/- impl.Split at the kind 1; the law FnSplitRunes, walked. -/
import Derived.Test.YtgbbogocfmepiaaDoorScanR
import Derived.Test.YtgbbogocfmepiaaDoorSplitLaw
namespace Go.Proofs.YtgbbogocfmepiaaDoor
open Go.RowKit
theorem implSplit1 (w : World) : Calls Tryd.prog 33 #[.int .i64 1] w (Ret fun v w' => w = w' ∧ v = .func (.func 56) #[] #[]) := by
  go_enter Tryd.func33, Tryd.ntmps33
  (go_wp2_with fail; (repeat' (refine wp_region_lx {} (by kernel_rfl) (by kernel_rfl) ⟨fun _ _ _ h => h.2, fun _ _ h => h⟩ ?_; (repeat' (first | (refine wpLx_calm rfl rfl rfl (fun K hK => ?_); go_step <;> (refine hK _ ?_; clear hK K)) | (refine wpLx_skip2 rfl rfl rfl ?_; go_simp) | (refine wpLx_calm2 rfl rfl rfl rfl rfl (fun K hK => ?_); go_step <;> (refine hK _ ?_; clear hK K)))); all_goals (refine wpLx_nil ?_; try go_wp2_with fail))))
  go_ret
  exact ⟨rfl, rfl⟩
theorem splitRunes_le (bs : List UInt8) (fin : Bool) : ((splitRunes bs fin).2.getD []).length ≤ 4 := by
  unfold splitRunes
  split
  · exact Nat.zero_le _
  · rename_i hb
    have hp := dec_pos (List.length_pos_iff.2 hb)
    split
    · show (bs.take 1).length ≤ 4; rw [List.length_take]; omega
    · split
      · show (bs.take _).length ≤ 4; rw [List.length_take]; omega
      · split
        · exact Nat.zero_le _
        · show (3 : Nat) ≤ 4; omega
end Go.Proofs.YtgbbogocfmepiaaDoor
