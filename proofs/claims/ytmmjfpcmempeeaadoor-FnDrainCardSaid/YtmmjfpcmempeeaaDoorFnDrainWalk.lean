/- The law FnDrain, walked. -/
import Derived.Test.YtmmjfpcmempeeaaDoorSim
import Derived.Test.YtmmjfpcmempeeaaDoorDrain
import Derived.Test.YtmmjfpcmempeeaaDoorM4
namespace Go.Proofs.YtmmjfpcmempeeaaDoor.fnDrain
open Go.RowKit
set_option maxRecDepth 100000 in
set_option maxHeartbeats 4000000 in
theorem walk {S : Err → Addr} {B : Nat} {w : World} (E : Env S B w) (T : TabsB B w) (a : Option Addr) (c : Nat) (ps : List (List UInt8)) (f : Bool) (size : Int) (sa : Option Addr) (sc : Nat) (ss : List Stp) (h : PiecesA w a c ps) (hs : StepsA w sa sc ss) (h64 : Steps64 ss) :
    Calls Tryd.prog 7 #[.agg #[.slice a ps.length c, .bool f], .int .i16 size, .slice sa ss.length sc] w (Ret fun v w' => v = .bool true ∧ New w w') := by
  have HE := Lib.hid E
  have HT := Lib.hid T
  have HP := Lib.hid h
  have HST := Lib.hid hs
  have H64 := Lib.hid h64
  have hs1 := hs.1
  have hs2 := hs.2.1
  unfold maxLen at hs2
  clear E T h hs h64
  cases hfit : fits2 ps with
  | false =>
    have HF := Lib.hid hfit
    clear hfit
    go_enter Tryd.func7, Tryd.ntmps7
    go_wp2_with (go_at_call 9; refine callRet (zzFits1 _ _ _ _ _ (HP.out.new ((Upd.refl _ _).alloc _))) ?_; rintro v w1 ⟨h1, rfl⟩; have HU1 : Hid (New w w1) := ((Upd.refl _ _).alloc _).andNew h1; have HB1 : Hid (BoxUpd w #[.slice a ps.length c, .bool f] w1) := h1.new; have b0 := box_upd HB1.out (i := 0) rfl; have b1 := box_upd HB1.out (i := 1) rfl; clear h1; rw [HF.out])
    go_ret
    exact ⟨rfl, HU1.out⟩
  | true =>
    have HF := Lib.hid hfit
    clear hfit
    by_cases hbig : 2147483647 < ss.length
    · have q0 : decide ((2147483647 : Int) < (ss.length : Int)) = true := decide_eq_true (by omega)
      go_enter Tryd.func7, Tryd.ntmps7
      go_wp2_with (go_at_call 9; refine callRet (zzFits1 _ _ _ _ _ (HP.out.new ((Upd.refl _ _).alloc _))) ?_; rintro v w1 ⟨h1, rfl⟩; have HU1 : Hid (New w w1) := ((Upd.refl _ _).alloc _).andNew h1; have HB1 : Hid (BoxUpd w #[.slice a ps.length c, .bool f] w1) := h1.new; have b0 := box_upd HB1.out (i := 0) rfl; have b1 := box_upd HB1.out (i := 1) rfl; clear h1; rw [HF.out])
      go_ret
      exact ⟨rfl, HU1.out⟩
    · have q0 : decide ((2147483647 : Int) < (ss.length : Int)) = false := decide_eq_false (by omega)
      cases hsp : spokenB ps size with
      | false =>
        have HS := Lib.hid hsp
        clear hsp
        go_enter Tryd.func7, Tryd.ntmps7
        go_wp2_with (first | (go_at_call 9; refine callRet (zzFits1 _ _ _ _ _ (HP.out.new ((Upd.refl _ _).alloc _))) ?_; rintro v w1 ⟨h1, rfl⟩; have HU1 : Hid (New w w1) := ((Upd.refl _ _).alloc _).andNew h1; have HB1 : Hid (BoxUpd w #[.slice a ps.length c, .bool f] w1) := h1.new; have b0 := box_upd HB1.out (i := 0) rfl; have b1 := box_upd HB1.out (i := 1) rfl; clear h1; rw [HF.out]) | (go_at_call 10; refine callRet (spoken _ _ _ _ _ _ (HP.out.new HU1.out) HF.out) ?_; rintro v w2 ⟨h1, rfl⟩; have HU2 : Hid (New w w2) := HU1.out.andNew h1; have HB2 := Lib.hid (HB1.out.andNew h1); clear h1 b0 b1; have b0 := box_upd HB2.out (i := 0) rfl; have b1 := box_upd HB2.out (i := 1) rfl; rw [HS.out]))
        go_ret
        exact ⟨rfl, HU2.out⟩
      | true =>
        have HS := Lib.hid hsp
        cases hok : stepsOkB ss with
        | false =>
          have HOK := Lib.hid hok
          clear hsp hok
          go_enter Tryd.func7, Tryd.ntmps7
          go_wp2_with (first | (go_at_call 9; refine callRet (zzFits1 _ _ _ _ _ (HP.out.new ((Upd.refl _ _).alloc _))) ?_; rintro v w1 ⟨h1, rfl⟩; have HU1 : Hid (New w w1) := ((Upd.refl _ _).alloc _).andNew h1; have HB1 : Hid (BoxUpd w #[.slice a ps.length c, .bool f] w1) := h1.new; have b0 := box_upd HB1.out (i := 0) rfl; have b1 := box_upd HB1.out (i := 1) rfl; clear h1; rw [HF.out]) | (go_at_call 10; refine callRet (spoken _ _ _ _ _ _ (HP.out.new HU1.out) HF.out) ?_; rintro v w2 ⟨h1, rfl⟩; have HU2 : Hid (New w w2) := HU1.out.andNew h1; have HB2 := Lib.hid (HB1.out.andNew h1); clear h1 b0 b1; have b0 := box_upd HB2.out (i := 0) rfl; have b1 := box_upd HB2.out (i := 1) rfl; rw [HS.out]) | (go_at_call 17; refine callRet (stepsOkC (HST.out.new HU2.out)) ?_; rintro v w3 ⟨h1, rfl⟩; have HU3 : Hid (New w w3) := HU2.out.andNew h1; rw [HOK.out]; clear h1))
          go_ret
          exact ⟨rfl, HU3.out⟩
        | true =>
          have HOK := Lib.hid hok
          have HOK2 := Lib.hid (stepsOkB_spec hok)
          cases hex : exactB ss with
          | false =>
            have HEX := Lib.hid hex
            clear hsp hok hex
            go_enter Tryd.func7, Tryd.ntmps7
            go_wp2_with (first | (go_at_call 9; refine callRet (zzFits1 _ _ _ _ _ (HP.out.new ((Upd.refl _ _).alloc _))) ?_; rintro v w1 ⟨h1, rfl⟩; have HU1 : Hid (New w w1) := ((Upd.refl _ _).alloc _).andNew h1; have HB1 : Hid (BoxUpd w #[.slice a ps.length c, .bool f] w1) := h1.new; have b0 := box_upd HB1.out (i := 0) rfl; have b1 := box_upd HB1.out (i := 1) rfl; clear h1; rw [HF.out]) | (go_at_call 10; refine callRet (spoken _ _ _ _ _ _ (HP.out.new HU1.out) HF.out) ?_; rintro v w2 ⟨h1, rfl⟩; have HU2 : Hid (New w w2) := HU1.out.andNew h1; have HB2 := Lib.hid (HB1.out.andNew h1); clear h1 b0 b1; have b0 := box_upd HB2.out (i := 0) rfl; have b1 := box_upd HB2.out (i := 1) rfl; rw [HS.out]) | (go_at_call 17; refine callRet (stepsOkC (HST.out.new HU2.out)) ?_; rintro v w3 ⟨h1, rfl⟩; have HU3 : Hid (New w w3) := HU2.out.andNew h1; rw [HOK.out]; clear h1) | (go_at_call 21; refine callRet (exactC (HST.out.new HU3.out)) ?_; rintro v w4 ⟨h1, rfl⟩; have HU4 : Hid (New w w4) := HU3.out.andNew h1; rw [HEX.out]; clear h1))
            go_ret
            exact ⟨rfl, HU4.out⟩
          | true =>
            have HEX := Lib.hid hex
            have HEX2 := Lib.hid (exactB_spec hex)
            obtain ⟨hl1, hl2, hl3, sz, rfl, hsz⟩ := spokenB_spec hsp
            have HN2 := Lib.hid hl2
            have HN3 := Lib.hid hl3
            obtain ⟨all, hall⟩ : ∃ all, ps.flatten = all := ⟨_, rfl⟩
            have HALL := Lib.hid hall
            have hss := HOK2.out.1
            have hall2 : all.length ≤ 20000 := by rw [← hall]; exact hl2
            have HSIM0 := Lib.hid (sim_start f hsz hall2)
            clear hsp hok hex hl2 hl3 hall hall2
            go_enter Tryd.func7, Tryd.ntmps7
            go_wp2_with (first | (go_at_call 9; refine callRet (zzFits1 _ _ _ _ _ (HP.out.new ((Upd.refl _ _).alloc _))) ?_; rintro v w1 ⟨h1, rfl⟩; have HU1 : Hid (New w w1) := ((Upd.refl _ _).alloc _).andNew h1; have HB1 : Hid (BoxUpd w #[.slice a ps.length c, .bool f] w1) := h1.new; have b0 := box_upd HB1.out (i := 0) rfl; have b1 := box_upd HB1.out (i := 1) rfl; clear h1; rw [HF.out]) | (go_at_call 10; refine callRet (spoken _ _ _ _ _ _ (HP.out.new HU1.out) HF.out) ?_; rintro v w2 ⟨h1, rfl⟩; have HU2 : Hid (New w w2) := HU1.out.andNew h1; have HB2 := Lib.hid (HB1.out.andNew h1); clear h1 b0 b1; have b0 := box_upd HB2.out (i := 0) rfl; have b1 := box_upd HB2.out (i := 1) rfl; rw [HS.out]) | (go_at_call 17; refine callRet (stepsOkC (HST.out.new HU2.out)) ?_; rintro v w3 ⟨h1, rfl⟩; have HU3 : Hid (New w w3) := HU2.out.andNew h1; have HB3 := Lib.hid (HB2.out.andNew h1); clear h1 b0 b1; have b0 := box_upd HB3.out (i := 0) rfl; have b1 := box_upd HB3.out (i := 1) rfl; rw [HOK.out]) | (go_at_call 21; refine callRet (exactC (HST.out.new HU3.out)) ?_; rintro v w4 ⟨h1, rfl⟩; have HU4 : Hid (New w w4) := HU3.out.andNew h1; have HB4 := Lib.hid (HB3.out.andNew h1); clear h1 b0 b1; have b0 := box_upd HB4.out (i := 0) rfl; have b1 := box_upd HB4.out (i := 1) rfl; rw [HEX.out]) | (go_at_call 18; refine callRet (specNewReader f (HP.out.new HU4.out) HN2.out hsz) ?_; intro v w5 h3; rw [HALL.out] at h3; obtain ⟨hn3, g, cg, rfl, hg1, hg2, hby⟩ := h3; have HU5 : Hid (New w w5) := HU4.out.andNew hn3; have HB5 := Lib.hid (HB4.out.andNew hn3); clear b0 b1; have z5 : w.heap.size < w5.heap.size := boxLt HB5.out; have HSR := Lib.hid (newSR_at hg2 hby rfl); have HNX : Hid (New w5 (w5.alloc (.cells (srCells g 0 cg 0 cg (startSR sz all f)) 44))) := (Upd.refl _ _).alloc _; clear hn3 hby hg1 hg2; simp only [srCells, startSR]))
            go_loopw [43] (fun i wr => ∃ (k : Nat) (s : SR), i = .int .i64 (k : Int) ∧ k ≤ ss.length ∧ SRd wr w5.heap.size g s ∧ Sim s (foldA (fresh0 (max sz 16) all f) (ss.take k)) ∧ New w wr ∧ BoxUpd w #[.slice a ps.length c, .bool f] wr) (fun i _ => ss.length - (intOf i).toNat)
            case atStart => exact ⟨0, _, rfl, Nat.zero_le _, HSR.out, HSIM0.out, HU5.out.andNew HNX.out, HB5.out.andNew HNX.out⟩
            case round =>
              obtain ⟨k, s, rfl, hkn, hsr, hsim, hnew, hbx⟩ := hrel
              have HSRD := Lib.hid hsr
              have HSIM := Lib.hid hsim
              have HNW := Lib.hid hnew
              have HBX := Lib.hid hbx
              clear hsr hsim hnew hbx
              by_cases hlt : k < ss.length
              · obtain ⟨b, o, rfl, hbs, e0, e1, e2⟩ := (HST.out.new HNW.out).at hlt
                obtain ⟨st, hst⟩ : ∃ st, ss[k] = st := ⟨_, rfl⟩
                rw [hst] at e0 e1 e2
                have hsm : st ∈ ss := by rw [← hst]; exact List.getElem_mem _
                have htk : Hid (ss.take (k + 1) = ss.take k ++ [st]) := by rw [Hid, List.take_add_one, List.getElem?_eq_getElem hlt, hst]; rfl
                have hfo : Hid (foldA (fresh0 (max sz 16) all f) (ss.take (k + 1)) = if st.k = 11 then foldA (fresh0 (max sz 16) all f) (ss.take k) else (stepF (foldA (fresh0 (max sz 16) all f) (ss.take k)) st).2) := by
                  rw [Hid, htk.out]; unfold foldA; rw [List.foldl_append]; rfl
                have hk0 := (HOK2.out.2 st hsm).1
                have hkz := HEX2.out st hsm
                have hn64 := (H64.out st hsm).2
                clear hst hsm
                by_cases h11 : st.k = 11
                · rw [if_pos h11] at hfo
                  rw [h11] at e0
                  clear hk0 hkz hn64 h11
                  go_wp2_with fail
                  exact ⟨⟨k + 1, s, by go_num, by omega, HSRD.out.new ((Upd.refl _ _).alloc _), by rw [hfo.out]; exact HSIM.out, HNW.out.alloc _, HBX.out.alloc _⟩, by simp [intOf]; omega⟩
                · have hd := simDo HSIM.out st ⟨by omega, hk0.2, h11⟩
                  have KD := Lib.hid (fun wx (hx : New wr wx) => specDoA (HSRD.out.new hx) HSIM.out.fit.1 st ⟨by omega, hk0.2, h11⟩ hn64)
                  rw [if_neg h11] at hfo
                  have q11 : (st.k == 11) = false := by rw [beq_eq_false_iff_ne]; exact h11
                  obtain ⟨X, hX⟩ : ∃ X, s.doF st = X := ⟨_, rfl⟩
                  unfold DoSim at hd
                  rw [hX] at hd KD
                  obtain ⟨ks, ns, d⟩ := st
                  simp only at e0 e1 e2 q11
                  clear hk0 hkz hn64 hX h11
                  rcases hd with hd1 | ⟨hd1, _, hd3⟩
                  · have HX1 := Lib.hid hd1
                    clear hd1
                    go_wp2_with (go_at_call 26; refine callRet (KD.out _ ((Upd.refl _ _).alloc _)) ?_; rintro v w6 ⟨av, rfl, ⟨hsr6, hu6⟩, ab, cb, rfl, hby6, _⟩; rw [HX1.out]; have HSR6 := Lib.hid hsr6; have HNW6 : Hid (New w w6) := newAt (HNW.out.alloc _) hu6 (Nat.le_of_lt z5); have HBX6 : Hid (BoxUpd w #[.slice a ps.length c, .bool f] w6) := boxAt (HBX.out.alloc _) hu6 z5; clear hsr6 hu6 hby6)
                    go_ret
                    exact ⟨rfl, HNW6.out.alloc _⟩
                  · have HX1 := Lib.hid hd1
                    have HX3 := Lib.hid hd3
                    clear hd1 hd3
                    go_wp2_with (go_at_call 26; refine callRet (KD.out _ ((Upd.refl _ _).alloc _)) ?_; rintro v w6 ⟨av, rfl, ⟨hsr6, hu6⟩, ab, cb, rfl, hby6, _⟩; rw [HX1.out]; have HSR6 := Lib.hid hsr6; have HNW6 : Hid (New w w6) := newAt (HNW.out.alloc _) hu6 (Nat.le_of_lt z5); have HBX6 : Hid (BoxUpd w #[.slice a ps.length c, .bool f] w6) := boxAt (HBX.out.alloc _) hu6 z5; clear hsr6 hu6 hby6)
                    refine ⟨⟨_, _, _, _, _, _, _, _, _, _, _, _, _, _, _, _, _, _, _, ?_, rfl⟩, ?_⟩
                    · exact ⟨k + 1, X.2, by go_num, by omega, HSR6.out.new ((Upd.refl _ _).alloc _), by rw [hfo.out]; exact HX3.out, HNW6.out.alloc _, HBX6.out.alloc _⟩
                    · simp [intOf]; omega
              · obtain rfl : k = ss.length := by omega
                have b0 := box_upd HBX.out (i := 0) rfl
                have b1 := box_upd HBX.out (i := 1) rfl
                rw [List.take_length] at HSIM
                obtain ⟨A1, hA1⟩ : ∃ A1, foldA (fresh0 (max sz 16) all f) ss = A1 := ⟨_, rfl⟩
                have HA1 := Lib.hid hA1
                rw [hA1] at HSIM
                obtain ⟨m, hm⟩ : ∃ m, A1.left.length = m := ⟨_, rfl⟩
                have HM := Lib.hid hm
                have HSL : Hid (s.left = A1.left) := HSIM.out.left
                have KDR := Lib.hid (implDrain f (HE.out.new HNW.out) (HT.out.new HNW.out) (HP.out.new HNW.out) (HST.out.new HNW.out) HN2.out hl1 hsz HN3.out HOK2.out H64.out)
                rw [HALL.out] at KDR
                clear hA1 hm hlt
                go_wp2_with (first | (go_at_call 27; refine callRet KDR.out ?_; rintro v w7 ⟨hn7, a7, c7, zs, A', hrun, rfl, hby7⟩; rw [(runRel_fold HEX2.out hrun).trans HA1.out] at hby7; rw [(runRel_fold HEX2.out hrun).trans HA1.out]; have HN7 : Hid (New w w7) := HNW.out.andNew hn7; have HB7 := Lib.hid (HBX.out.andNew hn7); clear b0 b1; have b0 := box_upd HB7.out (i := 0) rfl; have b1 := box_upd HB7.out (i := 1) rfl; obtain ⟨⟨oL, cL, oA, cA, hb7, hl7, _⟩, _⟩ := HSRD.out.new hn7; have d0 := (SRd.cells hb7).1; rw [HSL.out] at d0 hl7; have qs1 := run_strL Tryd.underlying29 Tryd.underlying5 Tryd.underlying9 HM.out hby7; have qs2 := run_strL Tryd.underlying29 Tryd.underlying5 Tryd.underlying9 HM.out hl7; rw [HM.out] at d0; rw [HM.out]; clear hn7 hrun hby7 hb7 hl7) | (go_at_call 28; refine callRet (specCode _ _ _ _ _) ?_; rintro v w8 ⟨hn8, rfl⟩; have HU8 : Hid (New w w8) := HN7.out.andNew hn8; clear hn8))
                go_ret
                exact ⟨rfl, HU8.out⟩
end Go.Proofs.YtmmjfpcmempeeaaDoor.fnDrain
namespace Go.Proofs.YtmmjfpcmempeeaaDoor
theorem list9 {α : Type} {l : List α} (h : l.length = 9) : ∃ a b c d e f g i j, l = [a, b, c, d, e, f, g, i, j] := by
  match l, h with
  | [a, b, c, d, e, f, g, i, j], _ => exact ⟨a, b, c, d, e, f, g, i, j, rfl⟩
end Go.Proofs.YtmmjfpcmempeeaaDoor
