/- laws.stepsOk, laws.exact. -/
import Derived.Test.YtmmjfpcmempeeaaDoorRunS
namespace Go.Proofs.YtmmjfpcmempeeaaDoor
open Go.RowKit
def badStep (s : Stp) : Bool := decide (s.k < 0) || decide (12 < s.k) || (decide (s.k = 0) && decide (4096 < s.n))
def stepsOkB (ss : List Stp) : Bool := decide (ss.length ≤ 60) && !ss.any badStep
theorem stepsOkB_spec {ss : List Stp} (h : stepsOkB ss = true) : StepsOk ss := by
  unfold stepsOkB at h
  simp only [Bool.and_eq_true, decide_eq_true_eq, Bool.not_eq_true', List.any_eq_false] at h
  refine ⟨h.1, fun s hs => ?_⟩
  have := h.2 s hs
  unfold badStep at this
  simp only [Bool.or_eq_true, Bool.and_eq_true, decide_eq_true_eq, not_or, not_and] at this
  omega
set_option maxRecDepth 100000 in
set_option maxHeartbeats 1000000 in
theorem bad1 (s : Stp) (w : World) : Calls Tryd.prog 36 #[.agg #[.int .i64 s.k, .int .i64 s.n, .int .u8 (s.d.toNat : Int)]] w (Ret fun v w' => New w w' ∧ v = .bool (badStep s)) := by
  by_cases h1 : s.k < 0
  · have e : badStep s = true := by unfold badStep; simp [h1]
    rw [e]
    have q1 : decide (s.k < 0) = true := decide_eq_true h1
    clear e
    go_enter Tryd.func36, Tryd.ntmps36
    (go_wp2_with fail; (repeat' (refine wp_region_lx {} (by kernel_rfl) (by kernel_rfl) ⟨fun _ _ _ h => h.2, fun _ _ h => h⟩ ?_; (repeat' (first | (refine wpLx_calm rfl rfl rfl (fun K hK => ?_); go_step <;> (refine hK _ ?_; clear hK K)) | (refine wpLx_skip2 rfl rfl rfl ?_; go_simp) | (refine wpLx_calm2 rfl rfl rfl rfl rfl (fun K hK => ?_); go_step <;> (refine hK _ ?_; clear hK K)) | (refine wpLx_skip rfl ?_; go_simp))); all_goals (refine wpLx_nil ?_; try go_wp2_with fail))))
    go_ret
    first | exact ⟨((Upd.refl _ _).alloc _).drew, rfl⟩ | exact ⟨(Upd.refl _ _).alloc _, rfl⟩
  · by_cases h2 : 12 < s.k
    · have e : badStep s = true := by unfold badStep; simp [h2]
      rw [e]
      have q1 : decide (s.k < 0) = false := decide_eq_false h1
      have q2 : decide (12 < s.k) = true := decide_eq_true h2
      clear e h1
      go_enter Tryd.func36, Tryd.ntmps36
      (go_wp2_with fail; (repeat' (refine wp_region_lx {} (by kernel_rfl) (by kernel_rfl) ⟨fun _ _ _ h => h.2, fun _ _ h => h⟩ ?_; (repeat' (first | (refine wpLx_calm rfl rfl rfl (fun K hK => ?_); go_step <;> (refine hK _ ?_; clear hK K)) | (refine wpLx_skip2 rfl rfl rfl ?_; go_simp) | (refine wpLx_calm2 rfl rfl rfl rfl rfl (fun K hK => ?_); go_step <;> (refine hK _ ?_; clear hK K)) | (refine wpLx_skip rfl ?_; go_simp))); all_goals (refine wpLx_nil ?_; try go_wp2_with fail))))
      go_ret
      first | exact ⟨((Upd.refl _ _).alloc _).drew, rfl⟩ | exact ⟨(Upd.refl _ _).alloc _, rfl⟩
    · have q1 : decide (s.k < 0) = false := decide_eq_false h1
      have q2 : decide (12 < s.k) = false := decide_eq_false h2
      by_cases h3 : s.k = 0
      · by_cases h4 : 4096 < s.n
        · have e : badStep s = true := by unfold badStep; simp [h3, h4]
          have q4 : decide (4096 < s.n) = true := decide_eq_true h4
          rw [e, h3]
          clear e h1 h2 q1 q2
          go_enter Tryd.func36, Tryd.ntmps36
          (go_wp2_with fail; (repeat' (refine wp_region_lx {} (by kernel_rfl) (by kernel_rfl) ⟨fun _ _ _ h => h.2, fun _ _ h => h⟩ ?_; (repeat' (first | (refine wpLx_calm rfl rfl rfl (fun K hK => ?_); go_step <;> (refine hK _ ?_; clear hK K)) | (refine wpLx_skip2 rfl rfl rfl ?_; go_simp) | (refine wpLx_calm2 rfl rfl rfl rfl rfl (fun K hK => ?_); go_step <;> (refine hK _ ?_; clear hK K)) | (refine wpLx_skip rfl ?_; go_simp))); all_goals (refine wpLx_nil ?_; try go_wp2_with fail))))
          go_ret
          first | exact ⟨((Upd.refl _ _).alloc _).drew, rfl⟩ | exact ⟨(Upd.refl _ _).alloc _, rfl⟩
        · have e : badStep s = false := by unfold badStep; simp [h3]; omega
          have q4 : decide (4096 < s.n) = false := decide_eq_false h4
          rw [e, h3]
          clear e h1 h2 q1 q2
          go_enter Tryd.func36, Tryd.ntmps36
          (go_wp2_with fail; (repeat' (refine wp_region_lx {} (by kernel_rfl) (by kernel_rfl) ⟨fun _ _ _ h => h.2, fun _ _ h => h⟩ ?_; (repeat' (first | (refine wpLx_calm rfl rfl rfl (fun K hK => ?_); go_step <;> (refine hK _ ?_; clear hK K)) | (refine wpLx_skip2 rfl rfl rfl ?_; go_simp) | (refine wpLx_calm2 rfl rfl rfl rfl rfl (fun K hK => ?_); go_step <;> (refine hK _ ?_; clear hK K)) | (refine wpLx_skip rfl ?_; go_simp))); all_goals (refine wpLx_nil ?_; try go_wp2_with fail))))
          go_ret
          first | exact ⟨((Upd.refl _ _).alloc _).drew, rfl⟩ | exact ⟨(Upd.refl _ _).alloc _, rfl⟩
      · have e : badStep s = false := by unfold badStep; simp [h1, h2, h3]
        have q3 : (s.k == 0) = false := by rw [beq_eq_false_iff_ne]; exact h3
        rw [e]
        clear e
        go_enter Tryd.func36, Tryd.ntmps36
        (go_wp2_with fail; (repeat' (refine wp_region_lx {} (by kernel_rfl) (by kernel_rfl) ⟨fun _ _ _ h => h.2, fun _ _ h => h⟩ ?_; (repeat' (first | (refine wpLx_calm rfl rfl rfl (fun K hK => ?_); go_step <;> (refine hK _ ?_; clear hK K)) | (refine wpLx_skip2 rfl rfl rfl ?_; go_simp) | (refine wpLx_calm2 rfl rfl rfl rfl rfl (fun K hK => ?_); go_step <;> (refine hK _ ?_; clear hK K)) | (refine wpLx_skip rfl ?_; go_simp))); all_goals (refine wpLx_nil ?_; try go_wp2_with fail))))
        go_ret
        first | exact ⟨((Upd.refl _ _).alloc _).drew, rfl⟩ | exact ⟨(Upd.refl _ _).alloc _, rfl⟩
set_option maxRecDepth 100000 in
set_option maxHeartbeats 1000000 in
theorem indexBad {w : World} {sa : Option Addr} {sc : Nat} {ss : List Stp} (hs : StepsA w sa sc ss) :
    Calls Tryd.prog 57 #[.slice sa ss.length sc, .func (.func 36) #[] #[]] w (Ret fun v w' => New w w' ∧ ∃ i : Int, v = .int .i64 i ∧ ss.any badStep = decide (0 ≤ i)) := by
  have HS := Lib.hid hs
  have hs1 := hs.1
  have hs2 := hs.2.1
  unfold maxLen at hs2
  clear hs
  go_enter Tryd.func57, Tryd.ntmps57
  go_wp2_with fail
  go_loopw [8] (fun i wr => New w wr ∧ ∃ k : Nat, k ≤ ss.length ∧ i = .int .i64 (k : Int) ∧ (ss.take k).any badStep = false) (fun i _ => ss.length - (intOf i).toNat)
  case atStart => exact ⟨Upd.refl _ _, 0, Nat.zero_le _, rfl, rfl⟩
  case round =>
    obtain ⟨hn, k, hk, rfl, hany⟩ := hrel
    have HN := Lib.hid hn
    have HANY := Lib.hid hany
    clear hn hany
    by_cases hlt : k < ss.length
    · obtain ⟨b, o, rfl, hbs, e0, e1, e2⟩ := (HS.out.new HN.out).at hlt
      have htk : Hid (ss.take (k + 1) = ss.take k ++ [ss[k]]) := by rw [Hid, List.take_add_one, List.getElem?_eq_getElem hlt]; rfl
      have hmem : Hid (ss[k] ∈ ss) := List.getElem_mem _
      obtain ⟨s, hs⟩ : ∃ s, ss[k] = s := ⟨_, rfl⟩
      rw [hs] at e0 e1 e2 htk hmem
      have K1 := Lib.hid (bad1 s)
      clear hs
      cases hb : badStep s with
      | true =>
        rw [hb] at K1
        have HBS := Lib.hid hb
        clear hb
        go_wp2_with (go_at_call 36; refine callRet (K1.out _) ?_; rintro v w1 ⟨hn1, rfl⟩)
        go_ret
        refine ⟨HN.out.andNew hn1, (k : Int), rfl, ?_⟩
        rw [decide_eq_true (by omega), List.any_eq_true]
        exact ⟨s, hmem.out, HBS.out⟩
      | false =>
        rw [hb] at K1
        have HBS := Lib.hid hb
        clear hb
        go_wp2_with (go_at_call 36; refine callRet (K1.out _) ?_; rintro v w1 ⟨hn1, rfl⟩; have HN1 := Lib.hid hn1; clear hn1)
        go_roundw
        case rel => exact ⟨HN.out.andNew HN1.out, k + 1, by omega, by go_num, by rw [htk.out, List.any_append, HANY.out]; simp [HBS.out]⟩
        case measure => simp [intOf]; omega
    · obtain rfl : k = ss.length := by omega
      go_wp2_with fail
      go_ret
      rw [List.take_length] at HANY
      exact ⟨HN.out, -1, rfl, by rw [HANY.out]; rfl⟩
set_option maxHeartbeats 1000000 in
theorem containsBad {w : World} {sa : Option Addr} {sc : Nat} {ss : List Stp} (hs : StepsA w sa sc ss) :
    Calls Tryd.prog 35 #[.slice sa ss.length sc, .func (.func 36) #[] #[]] w (Ret fun v w' => New w w' ∧ v = .bool (ss.any badStep)) := by
  have K1 := Lib.hid (indexBad hs)
  clear hs
  go_enter Tryd.func35, Tryd.ntmps35
  go_wp2_with (go_at_call 57; refine callRet K1.out ?_; rintro v w1 ⟨hn, i, rfl, hi⟩; have HI := Lib.hid hi; have HN := Lib.hid hn; clear hi hn)
  go_ret
  exact ⟨HN.out, by rw [HI.out]; rfl⟩
set_option maxHeartbeats 1000000 in
theorem stepsOkC {w : World} {sa : Option Addr} {sc : Nat} {ss : List Stp} (hs : StepsA w sa sc ss) :
    Calls Tryd.prog 17 #[.slice sa ss.length sc] w (Ret fun v w' => New w w' ∧ v = .bool (stepsOkB ss)) := by
  have K1 := Lib.hid (containsBad hs)
  have hs1 := hs.1
  have hs2 := hs.2.1
  unfold maxLen at hs2
  clear hs
  by_cases h60 : ss.length ≤ 60
  · obtain ⟨b, hb⟩ : ∃ b, ss.any badStep = b := ⟨_, rfl⟩
    have e : stepsOkB ss = !b := by unfold stepsOkB; rw [hb, decide_eq_true h60]; rfl
    have q1 : decide ((ss.length : Int) ≤ 60) = true := decide_eq_true (by omega)
    rw [hb] at K1
    rw [e]
    clear hb e
    cases b <;>
    · go_enter Tryd.func17, Tryd.ntmps17
      go_wp2_with (go_at_call 35; refine callRet K1.out ?_; rintro v w1 ⟨hn, rfl⟩)
      go_ret
      exact ⟨hn, rfl⟩
  · have e : stepsOkB ss = false := by unfold stepsOkB; rw [decide_eq_false h60]; rfl
    have q1 : decide ((ss.length : Int) ≤ 60) = false := decide_eq_false (by omega)
    rw [e]
    clear e
    go_enter Tryd.func17, Tryd.ntmps17
    go_wp2_with fail
    go_ret
    exact ⟨Upd.refl _ _, rfl⟩
end Go.Proofs.YtmmjfpcmempeeaaDoor
