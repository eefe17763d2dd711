/- laws.putsOk: what is asked of each step. -/
import Derived.Test.YtgbbogocfmepiaaDoorSpecPut
namespace Go.Proofs.YtgbbogocfmepiaaDoor
open Go.RowKit
def goodP (x : PutS) : Bool := decide (0 ≤ x.k) && decide (x.k ≤ 8) && okP x
set_option maxRecDepth 100000 in
set_option maxHeartbeats 2000000 in
theorem putsOk1 {w : World} {x : PutS} {v1 v3 : Value} (h : PutV w v1 v3 x) (hfit : fitsP x = true) : Calls Tryd.prog 44 #[x.v v1 v3] w (Ret fun v w' => New w w' ∧ v = .bool (!goodP x)) := by
  have HU : Hid (New w (w.alloc (.cells #[.int .i64 x.k, v1, .int .i32 x.r, v3] 46))) := (Upd.refl _ _).alloc _
  have K2 := Lib.hid (specPutOk (h.new HU.out) hfit)
  obtain ⟨⟨a, c, rfl, hb⟩, a', c', rfl, hp⟩ := h
  clear hb hp hfit
  unfold goodP
  obtain ⟨ok, hok⟩ : ∃ ok, okP x = ok := ⟨_, rfl⟩
  rw [hok] at K2 ⊢
  clear hok
  obtain ⟨k, bs, r, ps⟩ := x
  change Hid (Calls Tryd.prog 45 #[.agg #[.int .i64 k, .slice a bs.length c, .int .i32 r, .slice a' ps.length c']] _ (Ret fun v w' => New _ w' ∧ v = .bool ok)) at K2
  show Calls Tryd.prog 44 #[.agg #[.int .i64 k, .slice a bs.length c, .int .i32 r, .slice a' ps.length c']] w (Ret fun v w' => New w w' ∧ v = .bool (!(decide (0 ≤ k) && decide (k ≤ 8) && ok)))
  by_cases a1 : 0 ≤ k
  rotate_left
  · rw [decide_eq_false a1]
    simp only [Bool.false_and, Bool.not_false]
    go_enter Tryd.func44, Tryd.ntmps44
    go_wp2_with fail
    go_ret
    exact ⟨HU.out, rfl⟩
  rw [decide_eq_true a1]
  by_cases a2 : k ≤ 8
  rotate_left
  · rw [decide_eq_false a2]
    simp only [Bool.false_and, Bool.and_false, Bool.not_false]
    go_enter Tryd.func44, Tryd.ntmps44
    go_wp2_with fail
    go_ret
    exact ⟨HU.out, rfl⟩
  rw [decide_eq_true a2]
  simp only [Bool.true_and]
  go_enter Tryd.func44, Tryd.ntmps44
  go_wp2_with (go_at_call 45; refine callRet K2.out ?_; rintro v w2 ⟨hn2, rfl⟩; have HN2 : Hid (New w w2) := HU.out.andNew hn2; clear hn2)
  go_ret
  refine ⟨HN2.out, ?_⟩
  show Value.bool (decide (k < 0) || decide (8 < k) || !ok) = _
  rw [decide_eq_false (show ¬ k < 0 by omega), decide_eq_false (show ¬ 8 < k by omega)]
  rfl
end Go.Proofs.YtgbbogocfmepiaaDoor
