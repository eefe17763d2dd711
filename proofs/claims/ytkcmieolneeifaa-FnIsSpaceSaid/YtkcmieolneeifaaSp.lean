/- isSpace and Space, walked. -/
import Derived.Test.YtkcmieolneeifaaRows
import Derived.WalkKit
namespace Go.Proofs.Ytkcmieolneeifaa.sp
open Go.RowKit
set_option linter.unusedSimpArgs false
def isSp (r : Int) : Bool := decide ((9 ≤ r ∧ r ≤ 13) ∨ r = 32 ∨ r = 133 ∨ r = 160 ∨ r = 5760 ∨ (8192 ≤ r ∧ r ≤ 8202) ∨ r = 8232 ∨ r = 8233 ∨ r = 8239 ∨ r = 8287 ∨ r = 12288)
def RetSp (r : Int) (w : World) (e : Ending) (w' : World) : Prop := e = .returned (.bool (isSp r)) ∧ w = w'
theorem ret_mk {r : Int} {w : World} {b : Bool} (h : isSp r = b) : RetSp r w (.returned (.bool b)) w := ⟨by rw [h], rfl⟩
theorem isSpace (a0 : Int) (w : World) : Calls Try.prog 13 #[.int .i32 a0] w (RetSp a0 w) := by
  go_enter Try.func13, Try.ntmps13
  go_wp2
  all_goals go_ret
  all_goals (refine ret_mk ?_; unfold isSp)
  all_goals (try simp only [beq_iff_eq, beq_eq_false_iff_ne, ne_eq] at *)
  all_goals first | (exact decide_eq_true (by omega)) | (exact decide_eq_false (by omega))
theorem Space (a0 : Int) (w : World) : Calls Try.prog 8 #[.int .i32 a0] w (RetSp a0 w) := by
  go_enter Try.func8, Try.ntmps8
  go_wp2
  all_goals go_ret
  all_goals (refine ret_mk ?_; unfold isSp)
  all_goals (try simp only [beq_iff_eq, beq_eq_false_iff_ne, ne_eq] at *)
  all_goals first | (exact decide_eq_true (by omega)) | (exact decide_eq_false (by omega))
theorem zzIsSpace (a0 : Int) (w : World) : Calls Try.prog 11 #[.int .i32 a0] w (RetSp a0 w) := by
  go_enter Try.func11, Try.ntmps11
  go_wp2_with (go_at_call 13; refine (isSpace _ _).mono ?_; rintro e w' ⟨rfl, rfl⟩)
  go_ret
  exact ret_mk rfl
theorem implIsSpace (a0 : Int) (w : World) : Calls Try.prog 7 #[.int .i32 a0] w (RetSp a0 w) := by
  go_enter Try.func7, Try.ntmps7
  go_wp2_with (go_at_call 11; refine (zzIsSpace _ _).mono ?_; rintro e w' ⟨rfl, rfl⟩)
  go_ret
  exact ret_mk rfl
end Go.Proofs.Ytkcmieolneeifaa.sp
