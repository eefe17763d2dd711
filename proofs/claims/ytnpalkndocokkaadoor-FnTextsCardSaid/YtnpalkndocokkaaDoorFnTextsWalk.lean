/- The law FnTexts, walked. -/
import Derived.Test.YtnpalkndocokkaaDoorChunks
import Derived.Test.YtnpalkndocokkaaDoorAlikeT
namespace Go.Proofs.YtnpalkndocokkaaDoor.fnTexts
open Go.RowKit
set_option maxRecDepth 100000 in
set_option maxHeartbeats 2000000 in
theorem walk {S : Err → Addr} {B : Nat} {w : World} (E : Env S B w) (a : Option Addr) (c : Nat) (ps : List (List UInt8)) (f : Bool) (size : Int) (dn n : Nat) (h : PiecesA w a c ps) (hd : dn ≤ 255) (hn : n ≤ 255) :
    Calls Tryd.prog 9 #[.agg #[.slice a ps.length c, .bool f], .int .i16 size, .int .u8 (dn : Int), .int .u8 (n : Int)] w (Ret fun v w' => v = .bool true ∧ New w w') := by
  obtain ⟨d, rfl⟩ : ∃ d : UInt8, dn = d.toNat := ⟨UInt8.ofNat dn, by simp; omega⟩
  clear hd
  have HE := Lib.hid E
  have HP := Lib.hid h
  clear E h
  cases hfit : fits2 ps with
  | false =>
    have HF := Lib.hid hfit
    clear hfit
    go_enter Tryd.func9, Tryd.ntmps9
    go_wp2_with (go_at_call 10; refine callRet (zzFits1 _ _ _ _ _ (HP.out.new ((Upd.refl _ _).alloc _))) ?_; rintro v w1 ⟨h1, rfl⟩; have HU1 : Hid (New w w1) := ((Upd.refl _ _).alloc _).andNew h1; have HB1 : Hid (BoxUpd w #[.slice a ps.length c, .bool f] w1) := h1.new; have b0 := box_upd HB1.out (i := 0) rfl; have b1 := box_upd HB1.out (i := 1) rfl; clear h1; rw [HF.out])
    go_ret
    exact ⟨rfl, HU1.out⟩
  | true =>
    have HF := Lib.hid hfit
    clear hfit
    cases hsp : spokenB ps size with
    | false =>
      have HS := Lib.hid hsp
      clear hsp
      go_enter Tryd.func9, Tryd.ntmps9
      go_wp2_with (first | (go_at_call 10; refine callRet (zzFits1 _ _ _ _ _ (HP.out.new ((Upd.refl _ _).alloc _))) ?_; rintro v w1 ⟨h1, rfl⟩; have HU1 : Hid (New w w1) := ((Upd.refl _ _).alloc _).andNew h1; have HB1 : Hid (BoxUpd w #[.slice a ps.length c, .bool f] w1) := h1.new; have b0 := box_upd HB1.out (i := 0) rfl; have b1 := box_upd HB1.out (i := 1) rfl; clear h1; rw [HF.out]) | (go_at_call 11; refine callRet (spoken _ _ _ _ _ _ (HP.out.new HU1.out) HF.out) ?_; rintro v w2 ⟨h1, rfl⟩; have HU2 : Hid (New w w2) := HU1.out.andNew h1; have HB2 := Lib.hid (HB1.out.andNew h1); clear h1 b0 b1; have b0 := box_upd HB2.out (i := 0) rfl; have b1 := box_upd HB2.out (i := 1) rfl; rw [HS.out]))
      go_ret
      exact ⟨rfl, HU2.out⟩
    | true =>
      obtain ⟨hl1, hl2, hl3, sz, rfl, hsz⟩ := spokenB_spec hsp
      have HS := Lib.hid hsp
      have HN2 := Lib.hid hl2
      have HN3 := Lib.hid hl3
      obtain ⟨X, hX⟩ : ∃ X, X = runPt d f n ps.flatten := ⟨_, rfl⟩
      have HX := Lib.hid hX
      obtain ⟨m, hm⟩ : ∃ m, X.1.length = m := ⟨_, rfl⟩
      have HM := Lib.hid hm
      obtain ⟨ec, hec⟩ : ∃ ec, X.2 = ec := ⟨_, rfl⟩
      have HEC := Lib.hid hec
      clear hsp hl2 hl3 hX hm hec
      go_enter Tryd.func9, Tryd.ntmps9
      go_wp2_with (first | (go_at_call 10; refine callRet (zzFits1 _ _ _ _ _ (HP.out.new ((Upd.refl _ _).alloc _))) ?_; rintro v w1 ⟨h1, rfl⟩; have HU1 : Hid (New w w1) := ((Upd.refl _ _).alloc _).andNew h1; have HB1 : Hid (BoxUpd w #[.slice a ps.length c, .bool f] w1) := h1.new; have b0 := box_upd HB1.out (i := 0) rfl; have b1 := box_upd HB1.out (i := 1) rfl; clear h1; rw [HF.out]) | (go_at_call 11; refine callRet (spoken _ _ _ _ _ _ (HP.out.new HU1.out) HF.out) ?_; rintro v w2 ⟨h1, rfl⟩; have HU2 : Hid (New w w2) := HU1.out.andNew h1; have HB2 := Lib.hid (HB1.out.andNew h1); clear h1 b0 b1; have b0 := box_upd HB2.out (i := 0) rfl; have b1 := box_upd HB2.out (i := 1) rfl; rw [HS.out]) | (go_at_call 22; refine callRet (chunks f d (HP.out.new HU2.out) HN2.out hn) ?_; intro v w3 h3; rw [← HX.out] at h3; obtain ⟨hn3, a3, c3, rfl, hp3⟩ := h3; have HU3 : Hid (New w w3) := HU2.out.andNew hn3; have HB3 := Lib.hid (HB2.out.andNew hn3); clear b0 b1; have b0 := box_upd HB3.out (i := 0) rfl; have b1 := box_upd HB3.out (i := 1) rfl; have HP3 := Lib.hid hp3; clear hn3 hp3; rw [HM.out, HEC.out]) | (go_at_call 26; refine callRet (implTexts f d (HE.out.new HU3.out) (HP.out.new HU3.out) HN2.out hl1 hsz HN3.out hn) ?_; intro v w4 h4; rw [← HX.out] at h4; obtain ⟨hn4, a4, c4, rfl, hp4⟩ := h4; have HU4 : Hid (New w w4) := HU3.out.andNew hn4; have HP4 := Lib.hid hp4; have HP5 := Lib.hid (HP3.out.new hn4); clear hn4 hp4 b0 b1; rw [HM.out, HEC.out]; have KA := equalFuncT HP4.out HP5.out; rw [HM.out] at KA; have HKA := Lib.hid KA; clear KA) | (go_at_call 27; refine callRet HKA.out ?_; rintro v w5 ⟨rfl, rfl⟩))
      go_ret
      exact ⟨rfl, HU4.out⟩
end Go.Proofs.YtnpalkndocokkaaDoor.fnTexts
