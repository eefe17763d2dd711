/- The law FnPeeked, walked. -/
import Derived.Test.YtnpalkndocokkaaDoorLawKit
namespace Go.Proofs.YtnpalkndocokkaaDoor.fnPeeked
open Go.RowKit
theorem same (sz : Nat) (all : List UInt8) (f : Bool) (n : Int) : (peekA (fresh0 (max sz 16) all f) n).1.1 = ((startSR sz all f).peek n).1.bytes ∧ ecode (peekA (fresh0 (max sz 16) all f) n).1.2 = ((startSR sz all f).peek n).1.code ∧ (((startSR sz all f).peek n).1.flag = false ∧ ((startSR sz all f).peek n).1.n = 0 ∧ ((startSR sz all f).peek n).1.rune = 0) := by
  by_cases h0 : n < 0
  · rw [show peekA (fresh0 (max sz 16) all f) n = _ from if_pos h0, show (startSR sz all f).peek n = _ from if_pos h0]; exact ⟨rfl, rfl, rfl, rfl, rfl⟩
  · by_cases h1 : ((max sz 16 : Nat) : Int) < n
    · rw [show peekA (fresh0 (max sz 16) all f) n = _ from (if_neg h0).trans (if_pos h1), show (startSR sz all f).peek n = _ from (if_neg h0).trans (if_pos h1)]; exact ⟨rfl, rfl, rfl, rfl, rfl⟩
    · by_cases h2 : (all.length : Int) < n
      · rw [show peekA (fresh0 (max sz 16) all f) n = _ from (if_neg h0).trans ((if_neg h1).trans (if_pos h2)), show (startSR sz all f).peek n = _ from (if_neg h0).trans ((if_neg h1).trans (if_pos h2))]; exact ⟨rfl, ecode_end f, rfl, rfl, rfl⟩
      · rw [show peekA (fresh0 (max sz 16) all f) n = _ from (if_neg h0).trans ((if_neg h1).trans (if_neg h2)), show (startSR sz all f).peek n = _ from (if_neg h0).trans ((if_neg h1).trans (if_neg h2))]; exact ⟨rfl, rfl, rfl, rfl, rfl⟩
set_option maxRecDepth 100000 in
set_option maxHeartbeats 2000000 in
theorem walk {S : Err → Addr} {B : Nat} {w : World} (E : Env S B w) (a : Option Addr) (c : Nat) (ps : List (List UInt8)) (f : Bool) (size n : Int) (h : PiecesA w a c ps) (hn1 : -65536 ≤ n) (hn2 : n ≤ 65536) :
    Calls Tryd.prog 4 #[.agg #[.slice a ps.length c, .bool f], .int .i16 size, .int .i16 n] w (Ret fun v w' => v = .bool true ∧ New w w') := by
  have HE := Lib.hid E
  have HP := Lib.hid h
  clear E h
  cases hfit : fits2 ps with
  | false =>
    have HF := Lib.hid hfit
    clear hfit
    go_enter Tryd.func4, Tryd.ntmps4
    go_wp2_with (go_at_call 10; refine callRet (zzFits1 _ _ _ _ _ (HP.out.new ((Upd.refl _ _).alloc _))) ?_; rintro v w1 ⟨h1, rfl⟩; have HU1 : Hid (New w w1) := ((Upd.refl _ _).alloc _).andNew h1; have HB1 : Hid (BoxUpd w #[.slice a ps.length c, .bool f] w1) := h1.new; have b0 := box_upd HB1.out (i := 0) rfl; have b1 := box_upd HB1.out (i := 1) rfl; clear h1; rw [HF.out])
    go_ret
    exact ⟨rfl, HU1.out⟩
  | true =>
    have HF := Lib.hid hfit
    clear hfit
    cases hsp : spokenB ps size with
    | false =>
      have HS := Lib.hid hsp
      clear hsp
      go_enter Tryd.func4, Tryd.ntmps4
      go_wp2_with (first | (go_at_call 10; refine callRet (zzFits1 _ _ _ _ _ (HP.out.new ((Upd.refl _ _).alloc _))) ?_; rintro v w1 ⟨h1, rfl⟩; have HU1 : Hid (New w w1) := ((Upd.refl _ _).alloc _).andNew h1; have HB1 : Hid (BoxUpd w #[.slice a ps.length c, .bool f] w1) := h1.new; have b0 := box_upd HB1.out (i := 0) rfl; have b1 := box_upd HB1.out (i := 1) rfl; clear h1; rw [HF.out]) | (go_at_call 11; refine callRet (spoken _ _ _ _ _ _ (HP.out.new HU1.out) HF.out) ?_; rintro v w2 ⟨h1, rfl⟩; have HU2 : Hid (New w w2) := HU1.out.andNew h1; have HB2 := Lib.hid (HB1.out.andNew h1); clear h1 b0 b1; have b0 := box_upd HB2.out (i := 0) rfl; have b1 := box_upd HB2.out (i := 1) rfl; rw [HS.out]))
      go_ret
      exact ⟨rfl, HU2.out⟩
    | true =>
      obtain ⟨hl1, hl2, hl3, sz, rfl, hsz⟩ := spokenB_spec hsp
      have HS := Lib.hid hsp
      have HN2 := Lib.hid hl2
      have HN3 := Lib.hid hl3
      obtain ⟨all, hall⟩ : ∃ all, ps.flatten = all := ⟨_, rfl⟩
      obtain ⟨X, hX⟩ : ∃ X, X = (startSR sz all f).peek n := ⟨_, rfl⟩
      have HALL := Lib.hid hall
      have HX := Lib.hid hX
      obtain ⟨q1, q2, q3, q4, q5⟩ := same sz all f n
      rw [← hX] at q1 q2 q3 q4 q5
      obtain ⟨m, hm⟩ : ∃ m, X.1.bytes.length = m := ⟨_, rfl⟩
      have HM := Lib.hid hm
      have HQ := Lib.hid (And.intro q1 (And.intro q2 (And.intro q3 (And.intro q4 q5))))
      clear hsp hl2 hl3 hall hX q1 q2 q3 q4 q5 hm
      go_enter Tryd.func4, Tryd.ntmps4
      go_wp2_with (first | (go_at_call 10; refine callRet (zzFits1 _ _ _ _ _ (HP.out.new ((Upd.refl _ _).alloc _))) ?_; rintro v w1 ⟨h1, rfl⟩; have HU1 : Hid (New w w1) := ((Upd.refl _ _).alloc _).andNew h1; have HB1 : Hid (BoxUpd w #[.slice a ps.length c, .bool f] w1) := h1.new; have b0 := box_upd HB1.out (i := 0) rfl; have b1 := box_upd HB1.out (i := 1) rfl; clear h1; rw [HF.out]) | (go_at_call 11; refine callRet (spoken _ _ _ _ _ _ (HP.out.new HU1.out) HF.out) ?_; rintro v w2 ⟨h1, rfl⟩; have HU2 : Hid (New w w2) := HU1.out.andNew h1; have HB2 := Lib.hid (HB1.out.andNew h1); clear h1 b0 b1; have b0 := box_upd HB2.out (i := 0) rfl; have b1 := box_upd HB2.out (i := 1) rfl; rw [HS.out]) | (go_at_call 15; refine callRet (specNewReader f (HP.out.new HU2.out) HN2.out hsz) ?_; intro v w3 h3; rw [HALL.out] at h3; obtain ⟨hn3, g, cg, rfl, hg1, hg2, hby⟩ := h3; have HU3 : Hid (New w w3) := HU2.out.andNew hn3; have HB3 := Lib.hid (HB2.out.andNew hn3); clear b0 b1; have HSR := Lib.hid (newSR_at hg2 hby rfl); clear hn3 hby hg1 hg2; simp only [srCells, startSR]) | (go_at_call 16; refine callRet (specDo5 HSR.out n 0 hn2) ?_; intro v w4 h4; rw [← HX.out] at h4; obtain ⟨av, rfl, ⟨_, hu4⟩, ab, cb, rfl, hby4, _⟩ := h4; have HU4 : Hid (New w w4) := newAt (HU3.out.andNew ((Upd.refl _ _).alloc _)) hu4 HU3.out.size; have HB4 := Lib.hid (boxAt (HB3.out.andNew ((Upd.refl _ _).alloc _)) hu4 (boxLt HB3.out)); have z4 : w.heap.size < w4.heap.size := boxLt HB4.out; have b0 := box_upd HB4.out (i := 0) rfl; have b1 := box_upd HB4.out (i := 1) rfl; have HBY4 := Lib.hid hby4; clear hu4 hby4; rw [HM.out]) | (go_at_call 17; refine callRet (implPeeked f (HE.out.new (HU4.out.alloc _)) (HP.out.new (HU4.out.alloc _)) HN2.out hl1 hsz HN3.out hn1 hn2) ?_; rintro v w5 ⟨hn5, b5, rfl, hb5⟩; rw [HALL.out, HQ.out.1] at hb5; rw [HALL.out, HQ.out.2.1]; obtain ⟨a5, c5, rfl, hb5⟩ := hb5; have HU5 : Hid (New w w5) := (HU4.out.alloc _).andNew hn5; have e0 := box_new hn5 (i := 0) rfl; have e4 := box_new hn5 (i := 4) rfl; have HS1 := Lib.hid hb5; have HS2 := Lib.hid ((HBY4.out.new ((Upd.refl _ _).alloc _)).new hn5); clear hn5 hb5 b0 b1; rw [HM.out]; have hs1 := run_strL (P := Tryd.prog) Tryd.underlying29 Tryd.underlying5 Tryd.underlying9 HM.out HS1.out; have hs2 := run_strL (P := Tryd.prog) Tryd.underlying29 Tryd.underlying5 Tryd.underlying9 HM.out HS2.out))
      go_ret
      exact ⟨rfl, HU5.out⟩
end Go.Proofs.YtnpalkndocokkaaDoor.fnPeeked
