/- The law FnBytes, walked. -/
import Derived.Test.YtnpalkndocokkaaDoorOut
import Derived.Test.YtnpalkndocokkaaDoorJoined
namespace Go.Proofs.YtnpalkndocokkaaDoor.fnBytes
open Go.RowKit
theorem specEndC (a : Option Addr) (n c : Nat) (f : Bool) (w : World) :
    Calls Tryd.prog 14 #[.agg #[.slice a n c, .bool f]] w (Ret fun v w' => New w w' ∧ v = .int .i64 (endc f : Int)) := by
  refine callRet (specEnd a n c f w) ?_
  rintro v w' ⟨h, rfl⟩
  exact ⟨h, by cases f <;> rfl⟩
set_option maxRecDepth 100000 in
set_option maxHeartbeats 2000000 in
theorem walk {S : Err → Addr} {B : Nat} {w : World} (E : Env S B w) (a : Option Addr) (c : Nat) (ps : List (List UInt8)) (f : Bool) (size : Int) (n : Nat) (h : PiecesA w a c ps) (hn : n ≤ 65535) :
    Calls Tryd.prog 3 #[.agg #[.slice a ps.length c, .bool f], .int .i16 size, .int .u16 (n : Int)] w (Ret fun v w' => v = .bool true ∧ New w w') := by
  have HE := Lib.hid E
  have HP := Lib.hid h
  clear E h
  cases hfit : fits2 ps with
  | false =>
    have HF := Lib.hid hfit
    clear hfit
    go_enter Tryd.func3, Tryd.ntmps3
    go_wp2_with (go_at_call 10; refine callRet (zzFits1 _ _ _ _ _ (HP.out.new ((Upd.refl _ _).alloc _))) ?_; rintro v w1 ⟨h1, rfl⟩; have HU1 : Hid (New w w1) := ((Upd.refl _ _).alloc _).andNew h1; have HB1 := Lib.hid h1; have b0 := box_new h1 (i := 0) rfl; have b1 := box_new h1 (i := 1) rfl; clear h1; rw [HF.out])
    go_ret
    exact ⟨rfl, HU1.out⟩
  | true =>
    have HF := Lib.hid hfit
    clear hfit
    cases hsp : spokenB ps size with
    | false =>
      have HS := Lib.hid hsp
      clear hsp
      go_enter Tryd.func3, Tryd.ntmps3
      go_wp2_with (first | (go_at_call 10; refine callRet (zzFits1 _ _ _ _ _ (HP.out.new ((Upd.refl _ _).alloc _))) ?_; rintro v w1 ⟨h1, rfl⟩; have HU1 : Hid (New w w1) := ((Upd.refl _ _).alloc _).andNew h1; have HB1 := Lib.hid h1; have b0 := box_new h1 (i := 0) rfl; have b1 := box_new h1 (i := 1) rfl; clear h1; rw [HF.out]) | (go_at_call 11; refine callRet (spoken _ _ _ _ _ _ (HP.out.new HU1.out) HF.out) ?_; rintro v w2 ⟨h1, rfl⟩; have HU2 : Hid (New w w2) := HU1.out.andNew h1; clear h1; rw [HS.out]))
      go_ret
      exact ⟨rfl, HU2.out⟩
    | true =>
      obtain ⟨hn1, hn2, hn3, sz, rfl, hsz⟩ := spokenB_spec hsp
      have HS := Lib.hid hsp
      have HN2 := Lib.hid hn2
      have HN3 := Lib.hid hn3
      obtain ⟨m, hm⟩ : ∃ m, ps.flatten.length = m := ⟨_, rfl⟩
      have HM := Lib.hid hm
      have hm20 : m ≤ 20000 := by omega
      clear hsp hn2 hn3 hm
      by_cases hnm : n ≤ m
      · have HC : Hid ((if n ≤ ps.flatten.length then 0 else endc f) = 0) := if_pos (by rw [HM.out]; exact hnm)
        have HXL : Hid ((ps.flatten.take n).length = n) := by unfold Hid; rw [List.length_take, HM.out]; omega
        go_enter Tryd.func3, Tryd.ntmps3
        go_wp2_with (first | (go_at_call 10; refine callRet (zzFits1 _ _ _ _ _ (HP.out.new ((Upd.refl _ _).alloc _))) ?_; rintro v w1 ⟨h1, rfl⟩; have HU1 : Hid (New w w1) := ((Upd.refl _ _).alloc _).andNew h1; have HB1 := Lib.hid h1; have b0 := box_new h1 (i := 0) rfl; have b1 := box_new h1 (i := 1) rfl; clear h1; rw [HF.out]) | (go_at_call 11; refine callRet (spoken _ _ _ _ _ _ (HP.out.new HU1.out) HF.out) ?_; rintro v w2 ⟨h1, rfl⟩; have HU2 : Hid (New w w2) := HU1.out.andNew h1; have HB2 := Lib.hid (HB1.out.andNew h1); clear h1 b0 b1; have b0 := box_new HB2.out (i := 0) rfl; have b1 := box_new HB2.out (i := 1) rfl; rw [HS.out]) | (go_at_call 12; refine callRet (specJoined _ _ _ _ (HP.out.new HU2.out) (by have := HN2.out; omega)) ?_; intro v w3 h1; have HU3 : Hid (New w w3) := HU2.out.andNew h1.1; have HB3 := Lib.hid (HB2.out.andNew h1.1); clear b0 b1; have b0 := box_new HB3.out (i := 0) rfl; have b1 := box_new HB3.out (i := 1) rfl; obtain ⟨g, cp, rfl, _, _, hall⟩ := h1.bytes; clear h1; rw [HM.out]; have HA3 := Lib.hid hall; clear hall) | (go_at_call 13; refine callRet (implBytes f (HE.out.new HU3.out) (HP.out.new HU3.out) HN2.out hn1 hsz HN3.out hn) ?_; rintro v w4 ⟨h1, x, rfl, h2⟩; have HU4 : Hid (New w w4) := HU3.out.andNew h1; have HB4 := Lib.hid (HB3.out.andNew h1); clear b0 b1; have b0 := box_new HB4.out (i := 0) rfl; have b1 := box_new HB4.out (i := 1) rfl; have HA4 := Lib.hid (HA3.out.new h1); clear h1; obtain ⟨ax, cx, rfl, hx⟩ := h2; have HX := Lib.hid hx; clear hx; rw [HC.out, HXL.out]))
        have hmc := HA4.out.1
        rw [HM.out] at hmc
        have hcp := HA4.out.2.1
        unfold maxLen at hcp
        refine wp_region_lx {} (by kernel_rfl) (by kernel_rfl) ⟨fun _ _ _ h => h.2, fun _ _ h => h⟩ ?_
        repeat (refine wpLx_calm rfl rfl rfl (fun K hK => ?_); go_step; refine hK _ ?_; clear hK K)
        refine wpLx_calm' rfl rfl rfl (fun K hK => ?_); go_step; refine hK _ ?_; clear hK K
        refine wpLx_calm' rfl rfl rfl (fun K hK => ?_)
        refine wp_strL Tryd.underlying29 Tryd.underlying5 Tryd.underlying9 _ rfl HXL.out rfl (HX.out.new (Upd.refl _ _).drew) ?_
        refine hK _ ?_
        clear hK K
        refine wpLx_calm' rfl rfl rfl (fun K hK => ?_); go_step; refine hK _ ?_; clear hK K
        refine wpLx_calm' rfl rfl rfl (fun K hK => ?_); go_step; refine hK _ ?_; clear hK K
        refine wpLx_calm' rfl rfl rfl (fun K hK => ?_); go_step; refine hK _ ?_; clear hK K
        refine wpLx_calm' rfl rfl rfl (fun K hK => ?_)
        refine wp_strL Tryd.underlying29 Tryd.underlying5 Tryd.underlying9 _ rfl HXL.out rfl ((HA4.out.take n).new (Upd.refl _ _).drew) ?_
        refine hK _ ?_
        clear hK K
        refine wpLx_calm' rfl rfl rfl (fun K hK => ?_); go_step; refine hK _ ?_; clear hK K
        repeat (refine wpLx_calm rfl rfl rfl (fun K hK => ?_); go_step; refine hK _ ?_; clear hK K)
        refine wpLx_nil ?_
        go_wp2
        go_ret
        exact ⟨by simp, HU4.out.drew⟩
      · have HC : Hid ((if n ≤ ps.flatten.length then 0 else endc f) = endc f) := if_neg (by rw [HM.out]; exact hnm)
        have hlt : m < n := by omega
        have HXE : Hid (ps.flatten.take n = ps.flatten) := List.take_of_length_le (by rw [HM.out]; omega)
        clear hnm
        go_enter Tryd.func3, Tryd.ntmps3
        go_wp2_with (first | (go_at_call 10; refine callRet (zzFits1 _ _ _ _ _ (HP.out.new ((Upd.refl _ _).alloc _))) ?_; rintro v w1 ⟨h1, rfl⟩; have HU1 : Hid (New w w1) := ((Upd.refl _ _).alloc _).andNew h1; have HB1 := Lib.hid h1; have b0 := box_new h1 (i := 0) rfl; have b1 := box_new h1 (i := 1) rfl; clear h1; rw [HF.out]) | (go_at_call 11; refine callRet (spoken _ _ _ _ _ _ (HP.out.new HU1.out) HF.out) ?_; rintro v w2 ⟨h1, rfl⟩; have HU2 : Hid (New w w2) := HU1.out.andNew h1; have HB2 := Lib.hid (HB1.out.andNew h1); clear h1 b0 b1; have b0 := box_new HB2.out (i := 0) rfl; have b1 := box_new HB2.out (i := 1) rfl; rw [HS.out]) | (go_at_call 12; refine callRet (specJoined _ _ _ _ (HP.out.new HU2.out) (by have := HN2.out; omega)) ?_; intro v w3 h1; have HU3 : Hid (New w w3) := HU2.out.andNew h1.1; have HB3 := Lib.hid (HB2.out.andNew h1.1); clear b0 b1; have b0 := box_new HB3.out (i := 0) rfl; have b1 := box_new HB3.out (i := 1) rfl; obtain ⟨g, cp, rfl, _, _, hall⟩ := h1.bytes; clear h1; rw [HM.out]; have HA3 := Lib.hid hall; clear hall) | (go_at_call 13; refine callRet (implBytes f (HE.out.new HU3.out) (HP.out.new HU3.out) HN2.out hn1 hsz HN3.out hn) ?_; rintro v w4 ⟨h1, x, rfl, h2⟩; have HU4 : Hid (New w w4) := HU3.out.andNew h1; have HB4 := Lib.hid (HB3.out.andNew h1); clear b0 b1; have b0 := box_new HB4.out (i := 0) rfl; have b1 := box_new HB4.out (i := 1) rfl; have HA4 := Lib.hid (HA3.out.new h1); clear h1; obtain ⟨ax, cx, rfl, hx⟩ := h2; have HX := Lib.hid hx; clear hx; rw [HXE.out] at HX; rw [HC.out, HXE.out, HM.out]) | (go_at_call 14; refine callRet (specEndC _ _ _ f _) ?_; rintro v w5 ⟨h1, rfl⟩; have HU5 : Hid (New w w5) := HU4.out.andNew h1; have HA5 := Lib.hid (HA4.out.new h1); have HX5 := Lib.hid (HX.out.new h1); clear h1; have hs1 := run_strL (P := Tryd.prog) Tryd.underlying29 Tryd.underlying5 Tryd.underlying9 HM.out HX5.out; have hs2 := run_strL (P := Tryd.prog) Tryd.underlying29 Tryd.underlying5 Tryd.underlying9 HM.out HA5.out))
        go_ret
        exact ⟨rfl, HU5.out⟩
end Go.Proofs.YtnpalkndocokkaaDoor.fnBytes
