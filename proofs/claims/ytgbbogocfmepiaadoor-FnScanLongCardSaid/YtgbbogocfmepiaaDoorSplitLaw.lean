/- The laws FnSplitBytes and FnSplitLines, walked. -/
import Derived.Test.YtgbbogocfmepiaaDoorSplit
import Derived.Test.YtgbbogocfmepiaaDoorIndex
namespace Go.Proofs.YtgbbogocfmepiaaDoor
open Go.RowKit
set_option maxRecDepth 100000 in
set_option maxHeartbeats 1000000 in
theorem specSplit_3 {w : World} {a : Option Addr} {c : Nat} {bs : List UInt8} (h : BytesA w a c bs) (fin : Bool) (hne : bs ≠ [] ∨ fin = true) :
    Calls Tryd.prog 29 #[.int .i64 3, .slice a bs.length c, .bool fin] w (Ret (SSplitPost w a (splitLines bs fin))) := by
  have l1 := h.1
  have l2 := h.2.1
  unfold maxLen at l2
  by_cases hb : bs = []
  · subst hb
    obtain rfl : fin = true := hne.resolve_left (fun h => h rfl)
    have e : splitLines [] true = (0, none) := if_pos ⟨rfl, rfl⟩
    rw [e]
    clear h hne e
    go_enter Tryd.func29, Tryd.ntmps29
    (go_wp2_with fail; (repeat' (refine wp_region_lx {} (by kernel_rfl) (by kernel_rfl) ⟨fun _ _ _ h => h.2, fun _ _ h => h⟩ ?_; (repeat' (first | (refine wpLx_calm rfl rfl rfl (fun K hK => ?_); go_step <;> (refine hK _ ?_; clear hK K)) | (refine wpLx_skip2 rfl rfl rfl ?_; go_simp) | (refine wpLx_calm2 rfl rfl rfl rfl rfl (fun K hK => ?_); go_step <;> (refine hK _ ?_; clear hK K)))); all_goals (refine wpLx_nil ?_; try go_wp2_with fail))))
    refine bodyPost_ret (results_tmp3 rfl _ _ _) rfl ?_
    exact ⟨Upd.refl _ _, none, 0, rfl, BytesA.nil0 _, TokAt.nil _ _⟩
  · have hl : 0 < bs.length := List.length_pos_iff.2 hb
    obtain ⟨b, o, rfl⟩ : ∃ b o, a = some ⟨b, o, none⟩ := by
      cases a with
      | none => have := h.2.2.1 rfl; omega
      | some p => obtain ⟨b, o, s⟩ := p; obtain rfl := (h.2.2.2 _ rfl).1 hb; exact ⟨b, o, rfl⟩
    have e0 : splitLines bs fin = (match pos 10 bs with
      | some i => (i + 1, some (dcr (bs.take i)))
      | none => if fin then (bs.length, some (dcr bs)) else (0, none)) := if_neg (fun h => hb h.2)
    have q1 : ((bs.length : Int) == 0) = false := by rw [beq_eq_false_iff_ne]; omega
    have KI := specIndex h 10
    have H := Lib.hid h
    cases hp : pos 10 bs with
    | some i =>
      have hi := pos_lt hp
      have e : splitLines bs fin = (i + 1, some (dcr (bs.take i))) := by rw [e0, hp]
      rw [e]
      rw [hp] at KI
      simp only [posI] at KI
      have HKI := Lib.hid KI
      have hlen : (bs.take i).length = i := by rw [List.length_take]; omega
      have KD := Lib.hid (specDropCR _ _ _ w (H.out.take i))
      rw [hlen] at KD
      clear hb e0 hp e KI hlen h hne
      go_enter Tryd.func29, Tryd.ntmps29
      go_wp2_with (first | (go_at_call 42; refine callRet HKI.out ?_; rintro v w' ⟨rfl, rfl⟩) | (go_at_call 53; refine callRet KD.out ?_; rintro v w' ⟨rfl, rfl⟩))
      refine bodyPost_ret (results_tmp3 rfl _ _ _) rfl ?_
      exact ⟨Upd.refl _ _, some ⟨b, o, none⟩, c, (by simp), (H.out.take i).dcr, TokAt.same _ _ _ _⟩
    | none =>
      rw [hp] at KI
      simp only [posI] at KI
      have HKI := Lib.hid KI
      have KD := Lib.hid (specDropCR _ _ _ w H.out)
      cases fin with
      | true =>
        have e : splitLines bs true = (bs.length, some (dcr bs)) := by rw [e0, hp]; rfl
        rw [e]
        clear hb e0 hp e KI h hne
        go_enter Tryd.func29, Tryd.ntmps29
        go_wp2_with (first | (go_at_call 42; refine callRet HKI.out ?_; rintro v w' ⟨rfl, rfl⟩) | (go_at_call 53; refine callRet KD.out ?_; rintro v w' ⟨rfl, rfl⟩))
        refine bodyPost_ret (results_tmp3 rfl _ _ _) rfl ?_
        exact ⟨Upd.refl _ _, some ⟨b, o, none⟩, c, rfl, H.out.dcr, TokAt.same _ _ _ _⟩
      | false =>
        have e : splitLines bs false = (0, none) := by rw [e0, hp]; rfl
        rw [e]
        clear hb e0 hp e KI h hne
        go_enter Tryd.func29, Tryd.ntmps29
        go_wp2_with (first | (go_at_call 42; refine callRet HKI.out ?_; rintro v w' ⟨rfl, rfl⟩) | (go_at_call 53; refine callRet KD.out ?_; rintro v w' ⟨rfl, rfl⟩))
        refine bodyPost_ret (results_tmp3 rfl _ _ _) rfl ?_
        exact ⟨Upd.refl _ _, none, 0, rfl, BytesA.nil0 _, TokAt.nil _ _⟩
end Go.Proofs.YtgbbogocfmepiaaDoor
