/- The law FnSteps, walked. -/
import Derived.Test.YtmmjfpcmempeeaaDoorSim
import Derived.Test.YtmmjfpcmempeeaaDoorStepsOk
import Derived.Test.YtmmjfpcmempeeaaDoorM4
namespace Go.Proofs.YtmmjfpcmempeeaaDoor.fnSteps
open Go.RowKit
set_option maxRecDepth 100000 in
set_option maxHeartbeats 4000000 in
theorem walk {S : Err → Addr} {B : Nat} {w : World} (E : Env S B w) (T : TabsB B w) (a : Option Addr) (c : Nat) (ps : List (List UInt8)) (f : Bool) (size : Int) (sa : Option Addr) (sc : Nat) (ss : List Stp) (h : PiecesA w a c ps) (hs : StepsA w sa sc ss) (h64 : Steps64 ss) :
    Calls Tryd.prog 6 #[.agg #[.slice a ps.length c, .bool f], .int .i16 size, .slice sa ss.length sc] w (Ret fun v w' => v = .bool true ∧ New w w') := by
  have HE := Lib.hid E
  have HT := Lib.hid T
  have HP := Lib.hid h
  have HST := Lib.hid hs
  have H64 := Lib.hid h64
  have hs1 := hs.1
  have hs2 := hs.2.1
  unfold maxLen at hs2
  have HSB : Hid (∀ p, sa = some p → ss ≠ [] → p.block < w.heap.size) := fun p hp hn => (by
    have hl : 0 < ss.length := List.length_pos_iff.2 hn
    have h1 := ((hs.2.2.2 p hp).2 0 hl).1
    have h2 := World.block_lt_of_cell? w _ h1
    exact h2)
  clear E T h hs h64
  cases hfit : fits2 ps with
  | false =>
    have HF := Lib.hid hfit
    clear hfit
    go_enter Tryd.func6, Tryd.ntmps6
    go_wp2_with (go_at_call 9; refine callRet (zzFits1 _ _ _ _ _ (HP.out.new ((Upd.refl _ _).alloc _))) ?_; rintro v w1 ⟨h1, rfl⟩; have HU1 : Hid (New w w1) := ((Upd.refl _ _).alloc _).andNew h1; have HB1 : Hid (BoxUpd w #[.slice a ps.length c, .bool f] w1) := h1.new; have b0 := box_upd HB1.out (i := 0) rfl; have b1 := box_upd HB1.out (i := 1) rfl; clear h1; rw [HF.out])
    go_ret
    exact ⟨rfl, HU1.out⟩
  | true =>
    have HF := Lib.hid hfit
    clear hfit
    by_cases hbig : 2147483647 < ss.length
    · have q0 : decide ((2147483647 : Int) < (ss.length : Int)) = true := decide_eq_true (by omega)
      go_enter Tryd.func6, Tryd.ntmps6
      go_wp2_with (go_at_call 9; refine callRet (zzFits1 _ _ _ _ _ (HP.out.new ((Upd.refl _ _).alloc _))) ?_; rintro v w1 ⟨h1, rfl⟩; have HU1 : Hid (New w w1) := ((Upd.refl _ _).alloc _).andNew h1; have HB1 : Hid (BoxUpd w #[.slice a ps.length c, .bool f] w1) := h1.new; have b0 := box_upd HB1.out (i := 0) rfl; have b1 := box_upd HB1.out (i := 1) rfl; clear h1; rw [HF.out])
      go_ret
      exact ⟨rfl, HU1.out⟩
    · have q0 : decide ((2147483647 : Int) < (ss.length : Int)) = false := decide_eq_false (by omega)
      cases hsp : spokenB ps size with
      | false =>
        have HS := Lib.hid hsp
        clear hsp
        go_enter Tryd.func6, Tryd.ntmps6
        go_wp2_with (first | (go_at_call 9; refine callRet (zzFits1 _ _ _ _ _ (HP.out.new ((Upd.refl _ _).alloc _))) ?_; rintro v w1 ⟨h1, rfl⟩; have HU1 : Hid (New w w1) := ((Upd.refl _ _).alloc _).andNew h1; have HB1 : Hid (BoxUpd w #[.slice a ps.length c, .bool f] w1) := h1.new; have b0 := box_upd HB1.out (i := 0) rfl; have b1 := box_upd HB1.out (i := 1) rfl; clear h1; rw [HF.out]) | (go_at_call 10; refine callRet (spoken _ _ _ _ _ _ (HP.out.new HU1.out) HF.out) ?_; rintro v w2 ⟨h1, rfl⟩; have HU2 : Hid (New w w2) := HU1.out.andNew h1; have HB2 := Lib.hid (HB1.out.andNew h1); clear h1 b0 b1; have b0 := box_upd HB2.out (i := 0) rfl; have b1 := box_upd HB2.out (i := 1) rfl; rw [HS.out]))
        go_ret
        exact ⟨rfl, HU2.out⟩
      | true =>
        have HS := Lib.hid hsp
        cases hok : stepsOkB ss with
        | false =>
          have HOK := Lib.hid hok
          clear hsp hok
          go_enter Tryd.func6, Tryd.ntmps6
          go_wp2_with (first | (go_at_call 9; refine callRet (zzFits1 _ _ _ _ _ (HP.out.new ((Upd.refl _ _).alloc _))) ?_; rintro v w1 ⟨h1, rfl⟩; have HU1 : Hid (New w w1) := ((Upd.refl _ _).alloc _).andNew h1; have HB1 : Hid (BoxUpd w #[.slice a ps.length c, .bool f] w1) := h1.new; have b0 := box_upd HB1.out (i := 0) rfl; have b1 := box_upd HB1.out (i := 1) rfl; clear h1; rw [HF.out]) | (go_at_call 10; refine callRet (spoken _ _ _ _ _ _ (HP.out.new HU1.out) HF.out) ?_; rintro v w2 ⟨h1, rfl⟩; have HU2 : Hid (New w w2) := HU1.out.andNew h1; have HB2 := Lib.hid (HB1.out.andNew h1); clear h1 b0 b1; have b0 := box_upd HB2.out (i := 0) rfl; have b1 := box_upd HB2.out (i := 1) rfl; rw [HS.out]) | (go_at_call 17; refine callRet (stepsOkC (HST.out.new HU2.out)) ?_; rintro v w3 ⟨h1, rfl⟩; have HU3 : Hid (New w w3) := HU2.out.andNew h1; rw [HOK.out]; clear h1))
          go_ret
          exact ⟨rfl, HU3.out⟩
        | true =>
          have HOK := Lib.hid hok
          have HOK2 := Lib.hid (stepsOkB_spec hok)
          obtain ⟨hl1, hl2, hl3, sz, rfl, hsz⟩ := spokenB_spec hsp
          have HN2 := Lib.hid hl2
          have HN3 := Lib.hid hl3
          obtain ⟨all, hall⟩ : ∃ all, ps.flatten = all := ⟨_, rfl⟩
          have HALL := Lib.hid hall
          clear hsp hok hl2 hl3 hall
          go_enter Tryd.func6, Tryd.ntmps6
          go_wp2_with (first | (go_at_call 9; refine callRet (zzFits1 _ _ _ _ _ (HP.out.new ((Upd.refl _ _).alloc _))) ?_; rintro v w1 ⟨h1, rfl⟩; have HU1 : Hid (New w w1) := ((Upd.refl _ _).alloc _).andNew h1; have HB1 : Hid (BoxUpd w #[.slice a ps.length c, .bool f] w1) := h1.new; have b0 := box_upd HB1.out (i := 0) rfl; have b1 := box_upd HB1.out (i := 1) rfl; clear h1; rw [HF.out]) | (go_at_call 10; refine callRet (spoken _ _ _ _ _ _ (HP.out.new HU1.out) HF.out) ?_; rintro v w2 ⟨h1, rfl⟩; have HU2 : Hid (New w w2) := HU1.out.andNew h1; have HB2 := Lib.hid (HB1.out.andNew h1); clear h1 b0 b1; have b0 := box_upd HB2.out (i := 0) rfl; have b1 := box_upd HB2.out (i := 1) rfl; rw [HS.out]) | (go_at_call 17; refine callRet (stepsOkC (HST.out.new HU2.out)) ?_; rintro v w3 ⟨h1, rfl⟩; have HU3 : Hid (New w w3) := HU2.out.andNew h1; have HB3 := Lib.hid (HB2.out.andNew h1); clear h1 b0 b1; have b0 := box_upd HB3.out (i := 0) rfl; have b1 := box_upd HB3.out (i := 1) rfl; rw [HOK.out]) | (go_at_call 18; refine callRet (specNewReader f (HP.out.new HU3.out) HN2.out hsz) ?_; intro v w4 h3; rw [HALL.out] at h3; obtain ⟨hn3, g, cg, rfl, hg1, hg2, hby⟩ := h3; have HU4 : Hid (New w w4) := HU3.out.andNew hn3; have HB4 := Lib.hid (HB3.out.andNew hn3); clear b0 b1; have z4 : w.heap.size < w4.heap.size := boxLt HB4.out; have b0 := box_upd HB4.out (i := 0) rfl; have b1 := box_upd HB4.out (i := 1) rfl; have HSR := Lib.hid (newSR_at hg2 hby rfl); clear hn3 hby hg1 hg2; simp only [srCells, startSR]) | (go_at_call 22; refine callRet (implRun f (HE.out.new (HU4.out.alloc _)) (HT.out.new (HU4.out.alloc _)) (HP.out.new (HU4.out.alloc _)) (HST.out.new (HU4.out.alloc _)) HN2.out hl1 hsz HN3.out HOK2.out H64.out) ?_; intro v w5 h5; rw [HALL.out] at h5; obtain ⟨hn5, za, zc, zs, A', rfl, hzs, hrun⟩ := h5; have HN5 := Lib.hid hn5; have HU5 : Hid (New w w5) := (HU4.out.alloc _).andNew hn5; have HZS := Lib.hid hzs; have HRUN := Lib.hid hrun; clear hn5 hzs hrun b0 b1) | (go_at_call 19; refine callRet (asked (HSR.out.new HN5.out) (HST.out.new HU5.out) (HZS.out.mono (fun k hk hh => by simp at hk; omega)) (runRel_len HRUN.out) (fun st hst => (HOK2.out.2 st hst).1) H64.out (ask_of_run (sim_start f hsz (by rw [← HALL.out]; exact HN2.out)) (fun st hst => (HOK2.out.2 st hst).1) HRUN.out) (fun p hp hn hh => by have := HSB.out p hp hn; omega)) ?_; rintro v w6 ⟨⟨bb, rfl⟩, hu6⟩; have HU6 : Hid (New w w6) := newAt HU5.out hu6 (Nat.le_of_lt z4)))
          go_ret
          exact ⟨rfl, HU6.out⟩
end Go.Proofs.YtmmjfpcmempeeaaDoor.fnSteps
