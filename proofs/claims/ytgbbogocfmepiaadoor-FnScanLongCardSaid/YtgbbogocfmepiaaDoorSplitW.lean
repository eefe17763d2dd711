/- impl.Split at the kind 2; the law FnSplitWords, walked. -/
import Derived.Test.YtgbbogocfmepiaaDoorSpecW
import Derived.Test.YtgbbogocfmepiaaDoorSplitR
namespace Go.Proofs.YtgbbogocfmepiaaDoor
open Go.RowKit
theorem implSplit2 (w : World) : Calls Tryd.prog 33 #[.int .i64 2] w (Ret fun v w' => w = w' ∧ v = .func (.func 57) #[] #[]) := by
  go_enter Tryd.func33, Tryd.ntmps33
  (go_wp2_with fail; (repeat' (refine wp_region_lx {} (by kernel_rfl) (by kernel_rfl) ⟨fun _ _ _ h => h.2, fun _ _ h => h⟩ ?_; (repeat' (first | (refine wpLx_calm rfl rfl rfl (fun K hK => ?_); go_step <;> (refine hK _ ?_; clear hK K)) | (refine wpLx_skip2 rfl rfl rfl ?_; go_simp) | (refine wpLx_calm2 rfl rfl rfl rfl rfl (fun K hK => ?_); go_step <;> (refine hK _ ?_; clear hK K)))); all_goals (refine wpLx_nil ?_; try go_wp2_with fail))))
  go_ret
  exact ⟨rfl, rfl⟩
theorem splitWords_le (bs : List UInt8) (fin : Bool) : ((splitWords bs fin).2.getD []).length ≤ bs.length := by
  unfold splitWords
  split
  · show ((bs.drop _).take _).length ≤ _; rw [List.length_take, List.length_drop]; omega
  · split
    · show (bs.drop _).length ≤ _; rw [List.length_drop]; omega
    · exact Nat.zero_le _
end Go.Proofs.YtgbbogocfmepiaaDoor
