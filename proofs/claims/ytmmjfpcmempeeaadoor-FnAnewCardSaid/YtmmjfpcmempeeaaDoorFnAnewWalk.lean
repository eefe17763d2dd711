/- The law FnAnew, walked. -/
import Derived.Test.YtmmjfpcmempeeaaDoorSim
import Derived.Test.YtmmjfpcmempeeaaDoorStepsOk
import Derived.Test.YtmmjfpcmempeeaaDoorM4
import Derived.Test.YtmmjfpcmempeeaaDoorAnew
namespace Go.Proofs.YtmmjfpcmempeeaaDoor.fnAnew
open Go.RowKit
/-- since the two arguments were boxed only blocks behind the boxes turned -/
abbrev Box2 (w : World) (O1 O2 : Obj) (w' : World) : Prop := Upd (fun k => w.heap.size + 1 < k) ((w.alloc O1).alloc O2) w'
theorem box2_0 {w w1 : World} {cs cs2 : Array Value} {t t2 : TypeId} (h : Box2 w (.cells cs t) (.cells cs2 t2) w1) {i : Nat} {v : Value} (hv : cs[i]? = some v) : w1.cell? ⟨w.heap.size, i, none⟩ = some v := by
  have h1 : ((w.alloc (.cells cs t)).alloc (.cells cs2 t2)).heap[w.heap.size]? = some (.cells cs t (0, 0)) := ((Upd.refl (fun _ => False) _).alloc _).heap (heap_alloc_new w _) (fun hh => hh)
  rw [World.cell_of_heap (h.heap h1 (fun hh => by omega))]; exact hv
theorem box2_1 {w w1 : World} {cs cs2 : Array Value} {t t2 : TypeId} (h : Box2 w (.cells cs t) (.cells cs2 t2) w1) {i : Nat} {v : Value} (hv : cs2[i]? = some v) : w1.cell? ⟨w.heap.size + 1, i, none⟩ = some v := by
  rw [World.cell_of_heap (h.heap (heap_alloc2_new _ _ _) (fun hh => Nat.lt_irrefl _ hh))]; exact hv
set_option maxRecDepth 100000 in
set_option maxHeartbeats 4000000 in
theorem walk {S : Err → Addr} {B : Nat} {w : World} (E : Env S B w) (T : TabsB B w) (a : Option Addr) (c : Nat) (ps : List (List UInt8)) (f : Bool) (size : Int) (sa : Option Addr) (sc : Nat) (ss : List Stp) (a2 : Option Addr) (c2 : Nat) (ps2 : List (List UInt8)) (f2 : Bool) (sa2 : Option Addr) (sc2 : Nat) (ss2 : List Stp)
    (h : PiecesA w a c ps) (hs : StepsA w sa sc ss) (h64 : Steps64 ss) (h' : PiecesA w a2 c2 ps2) (hs' : StepsA w sa2 sc2 ss2) (h64' : Steps64 ss2) :
    Calls Tryd.prog 4 #[.agg #[.slice a ps.length c, .bool f], .int .i16 size, .slice sa ss.length sc, .agg #[.slice a2 ps2.length c2, .bool f2], .slice sa2 ss2.length sc2] w (Ret fun v w' => v = .bool true ∧ New w w') := by
  have HE := Lib.hid E
  have HT := Lib.hid T
  have HP := Lib.hid h
  have HST := Lib.hid hs
  have H64 := Lib.hid h64
  have HP2 := Lib.hid h'
  have HST2 := Lib.hid hs'
  have H642 := Lib.hid h64'
  have hs1 := hs.1
  have hs2 := hs.2.1
  have hs3 := hs'.1
  have hs4 := hs'.2.1
  unfold maxLen at hs2 hs4
  have HSB : Hid (∀ p, sa2 = some p → ss2 ≠ [] → p.block < w.heap.size) := fun p hp hn => (by
    have hl : 0 < ss2.length := List.length_pos_iff.2 hn
    have h1 := ((hs'.2.2.2 p hp).2 0 hl).1
    have h2 := World.block_lt_of_cell? w _ h1
    exact h2)
  have HW2 : Hid (New w ((w.alloc (.cells #[.slice a ps.length c, .bool f] 24)).alloc (.cells #[.slice a2 ps2.length c2, .bool f2] 24))) := ((Upd.refl _ _).alloc _).alloc _
  have HB0 : Hid (Box2 w (.cells #[.slice a ps.length c, .bool f] 24) (.cells #[.slice a2 ps2.length c2, .bool f2] 24) ((w.alloc (.cells #[.slice a ps.length c, .bool f] 24)).alloc (.cells #[.slice a2 ps2.length c2, .bool f2] 24))) := Upd.refl _ _
  have b0 := True.intro
  have b1 := True.intro
  have d0 := True.intro
  have d1 := True.intro
  clear E T h hs h64 h' hs' h64'
  cases hf1 : fits2 ps with
  | false =>
    have HF := Lib.hid hf1
    clear hf1
    go_enter Tryd.func4, Tryd.ntmps4
    go_wp2_with (first | (go_at_call 9; refine callRet (zzFits1 _ _ _ _ _ (HP.out.new HW2.out)) ?_; rintro v w1 ⟨h1, rfl⟩; have HU1 : Hid (New w w1) := HW2.out.andNew h1; have HB1 : Hid (Box2 w (.cells #[.slice a ps.length c, .bool f] 24) (.cells #[.slice a2 ps2.length c2, .bool f2] 24) w1) := Lib.hid (HB0.out.andNew h1); clear h1; clear b0 b1 d0 d1; have b0 := box2_0 HB1.out (i := 0) rfl; have b1 := box2_0 HB1.out (i := 1) rfl; have d0 := box2_1 HB1.out (i := 0) rfl; have d1 := box2_1 HB1.out (i := 1) rfl; rw [HF.out]))
    go_ret
    exact ⟨rfl, HU1.out⟩
  | true =>
    have HF := Lib.hid hf1
    by_cases q1b : 2147483647 < ss.length
    · have q1 : decide ((2147483647 : Int) < (ss.length : Int)) = true := decide_eq_true (by omega)
      go_enter Tryd.func4, Tryd.ntmps4
      go_wp2_with (first | (go_at_call 9; refine callRet (zzFits1 _ _ _ _ _ (HP.out.new HW2.out)) ?_; rintro v w1 ⟨h1, rfl⟩; have HU1 : Hid (New w w1) := HW2.out.andNew h1; have HB1 : Hid (Box2 w (.cells #[.slice a ps.length c, .bool f] 24) (.cells #[.slice a2 ps2.length c2, .bool f2] 24) w1) := Lib.hid (HB0.out.andNew h1); clear h1; clear b0 b1 d0 d1; have b0 := box2_0 HB1.out (i := 0) rfl; have b1 := box2_0 HB1.out (i := 1) rfl; have d0 := box2_1 HB1.out (i := 0) rfl; have d1 := box2_1 HB1.out (i := 1) rfl; rw [HF.out]))
      go_ret
      exact ⟨rfl, HU1.out⟩
    · have q1 : decide ((2147483647 : Int) < (ss.length : Int)) = false := decide_eq_false (by omega)
      cases hf2 : fits2 ps2 with
      | false =>
        have HF2 := Lib.hid hf2
        clear hf2
        go_enter Tryd.func4, Tryd.ntmps4
        go_wp2_with (first | (go_at_call 9; refine callRet (zzFits1 _ _ _ _ _ (HP.out.new HW2.out)) ?_; rintro v w1 ⟨h1, rfl⟩; have HU1 : Hid (New w w1) := HW2.out.andNew h1; have HB1 : Hid (Box2 w (.cells #[.slice a ps.length c, .bool f] 24) (.cells #[.slice a2 ps2.length c2, .bool f2] 24) w1) := Lib.hid (HB0.out.andNew h1); clear h1; clear b0 b1 d0 d1; have b0 := box2_0 HB1.out (i := 0) rfl; have b1 := box2_0 HB1.out (i := 1) rfl; have d0 := box2_1 HB1.out (i := 0) rfl; have d1 := box2_1 HB1.out (i := 1) rfl; rw [HF.out]) | (go_at_call 9; refine callRet (zzFits1 _ _ _ _ _ (HP2.out.new HU1.out)) ?_; rintro v w2 ⟨h1, rfl⟩; have HU2 : Hid (New w w2) := HU1.out.andNew h1; have HB2 : Hid (Box2 w (.cells #[.slice a ps.length c, .bool f] 24) (.cells #[.slice a2 ps2.length c2, .bool f2] 24) w2) := Lib.hid (HB1.out.andNew h1); clear h1; clear b0 b1 d0 d1; have b0 := box2_0 HB2.out (i := 0) rfl; have b1 := box2_0 HB2.out (i := 1) rfl; have d0 := box2_1 HB2.out (i := 0) rfl; have d1 := box2_1 HB2.out (i := 1) rfl; rw [HF2.out]))
        go_ret
        exact ⟨rfl, HU2.out⟩
      | true =>
        have HF2 := Lib.hid hf2
        by_cases q2b : 2147483647 < ss2.length
        · have q2 : decide ((2147483647 : Int) < (ss2.length : Int)) = true := decide_eq_true (by omega)
          go_enter Tryd.func4, Tryd.ntmps4
          go_wp2_with (first | (go_at_call 9; refine callRet (zzFits1 _ _ _ _ _ (HP.out.new HW2.out)) ?_; rintro v w1 ⟨h1, rfl⟩; have HU1 : Hid (New w w1) := HW2.out.andNew h1; have HB1 : Hid (Box2 w (.cells #[.slice a ps.length c, .bool f] 24) (.cells #[.slice a2 ps2.length c2, .bool f2] 24) w1) := Lib.hid (HB0.out.andNew h1); clear h1; clear b0 b1 d0 d1; have b0 := box2_0 HB1.out (i := 0) rfl; have b1 := box2_0 HB1.out (i := 1) rfl; have d0 := box2_1 HB1.out (i := 0) rfl; have d1 := box2_1 HB1.out (i := 1) rfl; rw [HF.out]) | (go_at_call 9; refine callRet (zzFits1 _ _ _ _ _ (HP2.out.new HU1.out)) ?_; rintro v w2 ⟨h1, rfl⟩; have HU2 : Hid (New w w2) := HU1.out.andNew h1; have HB2 : Hid (Box2 w (.cells #[.slice a ps.length c, .bool f] 24) (.cells #[.slice a2 ps2.length c2, .bool f2] 24) w2) := Lib.hid (HB1.out.andNew h1); clear h1; clear b0 b1 d0 d1; have b0 := box2_0 HB2.out (i := 0) rfl; have b1 := box2_0 HB2.out (i := 1) rfl; have d0 := box2_1 HB2.out (i := 0) rfl; have d1 := box2_1 HB2.out (i := 1) rfl; rw [HF2.out]))
          go_ret
          exact ⟨rfl, HU2.out⟩
        · have q2 : decide ((2147483647 : Int) < (ss2.length : Int)) = false := decide_eq_false (by omega)
          cases hsp1 : spokenB ps size with
          | false =>
            have HS := Lib.hid hsp1
            clear hsp1
            go_enter Tryd.func4, Tryd.ntmps4
            go_wp2_with (first | (go_at_call 9; refine callRet (zzFits1 _ _ _ _ _ (HP.out.new HW2.out)) ?_; rintro v w1 ⟨h1, rfl⟩; have HU1 : Hid (New w w1) := HW2.out.andNew h1; have HB1 : Hid (Box2 w (.cells #[.slice a ps.length c, .bool f] 24) (.cells #[.slice a2 ps2.length c2, .bool f2] 24) w1) := Lib.hid (HB0.out.andNew h1); clear h1; clear b0 b1 d0 d1; have b0 := box2_0 HB1.out (i := 0) rfl; have b1 := box2_0 HB1.out (i := 1) rfl; have d0 := box2_1 HB1.out (i := 0) rfl; have d1 := box2_1 HB1.out (i := 1) rfl; rw [HF.out]) | (go_at_call 9; refine callRet (zzFits1 _ _ _ _ _ (HP2.out.new HU1.out)) ?_; rintro v w2 ⟨h1, rfl⟩; have HU2 : Hid (New w w2) := HU1.out.andNew h1; have HB2 : Hid (Box2 w (.cells #[.slice a ps.length c, .bool f] 24) (.cells #[.slice a2 ps2.length c2, .bool f2] 24) w2) := Lib.hid (HB1.out.andNew h1); clear h1; clear b0 b1 d0 d1; have b0 := box2_0 HB2.out (i := 0) rfl; have b1 := box2_0 HB2.out (i := 1) rfl; have d0 := box2_1 HB2.out (i := 0) rfl; have d1 := box2_1 HB2.out (i := 1) rfl; rw [HF2.out]) | (go_at_call 10; refine callRet (spoken _ _ _ _ _ _ (HP.out.new HU2.out) HF.out) ?_; rintro v w3 ⟨h1, rfl⟩; have HU3 : Hid (New w w3) := HU2.out.andNew h1; have HB3 : Hid (Box2 w (.cells #[.slice a ps.length c, .bool f] 24) (.cells #[.slice a2 ps2.length c2, .bool f2] 24) w3) := Lib.hid (HB2.out.andNew h1); clear h1; clear b0 b1 d0 d1; have b0 := box2_0 HB3.out (i := 0) rfl; have b1 := box2_0 HB3.out (i := 1) rfl; have d0 := box2_1 HB3.out (i := 0) rfl; have d1 := box2_1 HB3.out (i := 1) rfl; rw [HS.out]))
            go_ret
            exact ⟨rfl, HU3.out⟩
          | true =>
            have HS := Lib.hid hsp1
            cases hsp2 : spokenB ps2 size with
            | false =>
              have HS2 := Lib.hid hsp2
              clear hsp2
              go_enter Tryd.func4, Tryd.ntmps4
              go_wp2_with (first | (go_at_call 9; refine callRet (zzFits1 _ _ _ _ _ (HP.out.new HW2.out)) ?_; rintro v w1 ⟨h1, rfl⟩; have HU1 : Hid (New w w1) := HW2.out.andNew h1; have HB1 : Hid (Box2 w (.cells #[.slice a ps.length c, .bool f] 24) (.cells #[.slice a2 ps2.length c2, .bool f2] 24) w1) := Lib.hid (HB0.out.andNew h1); clear h1; clear b0 b1 d0 d1; have b0 := box2_0 HB1.out (i := 0) rfl; have b1 := box2_0 HB1.out (i := 1) rfl; have d0 := box2_1 HB1.out (i := 0) rfl; have d1 := box2_1 HB1.out (i := 1) rfl; rw [HF.out]) | (go_at_call 9; refine callRet (zzFits1 _ _ _ _ _ (HP2.out.new HU1.out)) ?_; rintro v w2 ⟨h1, rfl⟩; have HU2 : Hid (New w w2) := HU1.out.andNew h1; have HB2 : Hid (Box2 w (.cells #[.slice a ps.length c, .bool f] 24) (.cells #[.slice a2 ps2.length c2, .bool f2] 24) w2) := Lib.hid (HB1.out.andNew h1); clear h1; clear b0 b1 d0 d1; have b0 := box2_0 HB2.out (i := 0) rfl; have b1 := box2_0 HB2.out (i := 1) rfl; have d0 := box2_1 HB2.out (i := 0) rfl; have d1 := box2_1 HB2.out (i := 1) rfl; rw [HF2.out]) | (go_at_call 10; refine callRet (spoken _ _ _ _ _ _ (HP.out.new HU2.out) HF.out) ?_; rintro v w3 ⟨h1, rfl⟩; have HU3 : Hid (New w w3) := HU2.out.andNew h1; have HB3 : Hid (Box2 w (.cells #[.slice a ps.length c, .bool f] 24) (.cells #[.slice a2 ps2.length c2, .bool f2] 24) w3) := Lib.hid (HB2.out.andNew h1); clear h1; clear b0 b1 d0 d1; have b0 := box2_0 HB3.out (i := 0) rfl; have b1 := box2_0 HB3.out (i := 1) rfl; have d0 := box2_1 HB3.out (i := 0) rfl; have d1 := box2_1 HB3.out (i := 1) rfl; rw [HS.out]) | (go_at_call 10; refine callRet (spoken _ _ _ _ _ _ (HP2.out.new HU3.out) HF2.out) ?_; rintro v w4 ⟨h1, rfl⟩; have HU4 : Hid (New w w4) := HU3.out.andNew h1; have HB4 : Hid (Box2 w (.cells #[.slice a ps.length c, .bool f] 24) (.cells #[.slice a2 ps2.length c2, .bool f2] 24) w4) := Lib.hid (HB3.out.andNew h1); clear h1; clear b0 b1 d0 d1; have b0 := box2_0 HB4.out (i := 0) rfl; have b1 := box2_0 HB4.out (i := 1) rfl; have d0 := box2_1 HB4.out (i := 0) rfl; have d1 := box2_1 HB4.out (i := 1) rfl; rw [HS2.out]))
              go_ret
              exact ⟨rfl, HU4.out⟩
            | true =>
              have HS2 := Lib.hid hsp2
              cases hok1 : stepsOkB ss with
              | false =>
                have HOK := Lib.hid hok1
                clear hok1
                go_enter Tryd.func4, Tryd.ntmps4
                go_wp2_with (first | (go_at_call 9; refine callRet (zzFits1 _ _ _ _ _ (HP.out.new HW2.out)) ?_; rintro v w1 ⟨h1, rfl⟩; have HU1 : Hid (New w w1) := HW2.out.andNew h1; have HB1 : Hid (Box2 w (.cells #[.slice a ps.length c, .bool f] 24) (.cells #[.slice a2 ps2.length c2, .bool f2] 24) w1) := Lib.hid (HB0.out.andNew h1); clear h1; clear b0 b1 d0 d1; have b0 := box2_0 HB1.out (i := 0) rfl; have b1 := box2_0 HB1.out (i := 1) rfl; have d0 := box2_1 HB1.out (i := 0) rfl; have d1 := box2_1 HB1.out (i := 1) rfl; rw [HF.out]) | (go_at_call 9; refine callRet (zzFits1 _ _ _ _ _ (HP2.out.new HU1.out)) ?_; rintro v w2 ⟨h1, rfl⟩; have HU2 : Hid (New w w2) := HU1.out.andNew h1; have HB2 : Hid (Box2 w (.cells #[.slice a ps.length c, .bool f] 24) (.cells #[.slice a2 ps2.length c2, .bool f2] 24) w2) := Lib.hid (HB1.out.andNew h1); clear h1; clear b0 b1 d0 d1; have b0 := box2_0 HB2.out (i := 0) rfl; have b1 := box2_0 HB2.out (i := 1) rfl; have d0 := box2_1 HB2.out (i := 0) rfl; have d1 := box2_1 HB2.out (i := 1) rfl; rw [HF2.out]) | (go_at_call 10; refine callRet (spoken _ _ _ _ _ _ (HP.out.new HU2.out) HF.out) ?_; rintro v w3 ⟨h1, rfl⟩; have HU3 : Hid (New w w3) := HU2.out.andNew h1; have HB3 : Hid (Box2 w (.cells #[.slice a ps.length c, .bool f] 24) (.cells #[.slice a2 ps2.length c2, .bool f2] 24) w3) := Lib.hid (HB2.out.andNew h1); clear h1; clear b0 b1 d0 d1; have b0 := box2_0 HB3.out (i := 0) rfl; have b1 := box2_0 HB3.out (i := 1) rfl; have d0 := box2_1 HB3.out (i := 0) rfl; have d1 := box2_1 HB3.out (i := 1) rfl; rw [HS.out]) | (go_at_call 10; refine callRet (spoken _ _ _ _ _ _ (HP2.out.new HU3.out) HF2.out) ?_; rintro v w4 ⟨h1, rfl⟩; have HU4 : Hid (New w w4) := HU3.out.andNew h1; have HB4 : Hid (Box2 w (.cells #[.slice a ps.length c, .bool f] 24) (.cells #[.slice a2 ps2.length c2, .bool f2] 24) w4) := Lib.hid (HB3.out.andNew h1); clear h1; clear b0 b1 d0 d1; have b0 := box2_0 HB4.out (i := 0) rfl; have b1 := box2_0 HB4.out (i := 1) rfl; have d0 := box2_1 HB4.out (i := 0) rfl; have d1 := box2_1 HB4.out (i := 1) rfl; rw [HS2.out]) | (go_at_call 17; refine callRet (stepsOkC (HST.out.new HU4.out)) ?_; rintro v w5 ⟨h1, rfl⟩; have HU5 : Hid (New w w5) := HU4.out.andNew h1; have HB5 : Hid (Box2 w (.cells #[.slice a ps.length c, .bool f] 24) (.cells #[.slice a2 ps2.length c2, .bool f2] 24) w5) := Lib.hid (HB4.out.andNew h1); clear h1; clear b0 b1 d0 d1; have b0 := box2_0 HB5.out (i := 0) rfl; have b1 := box2_0 HB5.out (i := 1) rfl; have d0 := box2_1 HB5.out (i := 0) rfl; have d1 := box2_1 HB5.out (i := 1) rfl; rw [HOK.out]))
                go_ret
                exact ⟨rfl, HU5.out⟩
              | true =>
                have HOK := Lib.hid hok1
                cases hok2 : stepsOkB ss2 with
                | false =>
                  have HOK2 := Lib.hid hok2
                  clear hok2
                  go_enter Tryd.func4, Tryd.ntmps4
                  go_wp2_with (first | (go_at_call 9; refine callRet (zzFits1 _ _ _ _ _ (HP.out.new HW2.out)) ?_; rintro v w1 ⟨h1, rfl⟩; have HU1 : Hid (New w w1) := HW2.out.andNew h1; have HB1 : Hid (Box2 w (.cells #[.slice a ps.length c, .bool f] 24) (.cells #[.slice a2 ps2.length c2, .bool f2] 24) w1) := Lib.hid (HB0.out.andNew h1); clear h1; clear b0 b1 d0 d1; have b0 := box2_0 HB1.out (i := 0) rfl; have b1 := box2_0 HB1.out (i := 1) rfl; have d0 := box2_1 HB1.out (i := 0) rfl; have d1 := box2_1 HB1.out (i := 1) rfl; rw [HF.out]) | (go_at_call 9; refine callRet (zzFits1 _ _ _ _ _ (HP2.out.new HU1.out)) ?_; rintro v w2 ⟨h1, rfl⟩; have HU2 : Hid (New w w2) := HU1.out.andNew h1; have HB2 : Hid (Box2 w (.cells #[.slice a ps.length c, .bool f] 24) (.cells #[.slice a2 ps2.length c2, .bool f2] 24) w2) := Lib.hid (HB1.out.andNew h1); clear h1; clear b0 b1 d0 d1; have b0 := box2_0 HB2.out (i := 0) rfl; have b1 := box2_0 HB2.out (i := 1) rfl; have d0 := box2_1 HB2.out (i := 0) rfl; have d1 := box2_1 HB2.out (i := 1) rfl; rw [HF2.out]) | (go_at_call 10; refine callRet (spoken _ _ _ _ _ _ (HP.out.new HU2.out) HF.out) ?_; rintro v w3 ⟨h1, rfl⟩; have HU3 : Hid (New w w3) := HU2.out.andNew h1; have HB3 : Hid (Box2 w (.cells #[.slice a ps.length c, .bool f] 24) (.cells #[.slice a2 ps2.length c2, .bool f2] 24) w3) := Lib.hid (HB2.out.andNew h1); clear h1; clear b0 b1 d0 d1; have b0 := box2_0 HB3.out (i := 0) rfl; have b1 := box2_0 HB3.out (i := 1) rfl; have d0 := box2_1 HB3.out (i := 0) rfl; have d1 := box2_1 HB3.out (i := 1) rfl; rw [HS.out]) | (go_at_call 10; refine callRet (spoken _ _ _ _ _ _ (HP2.out.new HU3.out) HF2.out) ?_; rintro v w4 ⟨h1, rfl⟩; have HU4 : Hid (New w w4) := HU3.out.andNew h1; have HB4 : Hid (Box2 w (.cells #[.slice a ps.length c, .bool f] 24) (.cells #[.slice a2 ps2.length c2, .bool f2] 24) w4) := Lib.hid (HB3.out.andNew h1); clear h1; clear b0 b1 d0 d1; have b0 := box2_0 HB4.out (i := 0) rfl; have b1 := box2_0 HB4.out (i := 1) rfl; have d0 := box2_1 HB4.out (i := 0) rfl; have d1 := box2_1 HB4.out (i := 1) rfl; rw [HS2.out]) | (go_at_call 17; refine callRet (stepsOkC (HST.out.new HU4.out)) ?_; rintro v w5 ⟨h1, rfl⟩; have HU5 : Hid (New w w5) := HU4.out.andNew h1; have HB5 : Hid (Box2 w (.cells #[.slice a ps.length c, .bool f] 24) (.cells #[.slice a2 ps2.length c2, .bool f2] 24) w5) := Lib.hid (HB4.out.andNew h1); clear h1; clear b0 b1 d0 d1; have b0 := box2_0 HB5.out (i := 0) rfl; have b1 := box2_0 HB5.out (i := 1) rfl; have d0 := box2_1 HB5.out (i := 0) rfl; have d1 := box2_1 HB5.out (i := 1) rfl; rw [HOK.out]) | (go_at_call 17; refine callRet (stepsOkC (HST2.out.new HU5.out)) ?_; rintro v w6 ⟨h1, rfl⟩; have HU6 : Hid (New w w6) := HU5.out.andNew h1; have HB6 : Hid (Box2 w (.cells #[.slice a ps.length c, .bool f] 24) (.cells #[.slice a2 ps2.length c2, .bool f2] 24) w6) := Lib.hid (HB5.out.andNew h1); clear h1; clear b0 b1 d0 d1; have b0 := box2_0 HB6.out (i := 0) rfl; have b1 := box2_0 HB6.out (i := 1) rfl; have d0 := box2_1 HB6.out (i := 0) rfl; have d1 := box2_1 HB6.out (i := 1) rfl; rw [HOK2.out]))
                  go_ret
                  exact ⟨rfl, HU6.out⟩
                | true =>
                  have HOK2 := Lib.hid hok2
                  have HO := Lib.hid (stepsOkB_spec hok1)
                  have HO2 := Lib.hid (stepsOkB_spec hok2)
                  obtain ⟨hl1', hl2', hl3', sz', hsz'', _⟩ := spokenB_spec hsp2
                  obtain ⟨hl1, hl2, hl3, sz, rfl, hsz⟩ := spokenB_spec hsp1
                  have HN2 := Lib.hid hl2
                  have HN3 := Lib.hid hl3
                  have HM2 := Lib.hid hl2'
                  have HM3 := Lib.hid hl3'
                  obtain ⟨all, hall⟩ : ∃ all, ps2.flatten = all := ⟨_, rfl⟩
                  have HALL := Lib.hid hall
                  clear hf1 hf2 hsp1 hsp2 hok1 hok2 hl2 hl3 hl2' hl3' hall hsz''
                  go_enter Tryd.func4, Tryd.ntmps4
                  go_wp2_with (first | (go_at_call 9; refine callRet (zzFits1 _ _ _ _ _ (HP.out.new HW2.out)) ?_; rintro v w1 ⟨h1, rfl⟩; have HU1 : Hid (New w w1) := HW2.out.andNew h1; have HB1 : Hid (Box2 w (.cells #[.slice a ps.length c, .bool f] 24) (.cells #[.slice a2 ps2.length c2, .bool f2] 24) w1) := Lib.hid (HB0.out.andNew h1); clear h1; clear b0 b1 d0 d1; have b0 := box2_0 HB1.out (i := 0) rfl; have b1 := box2_0 HB1.out (i := 1) rfl; have d0 := box2_1 HB1.out (i := 0) rfl; have d1 := box2_1 HB1.out (i := 1) rfl; rw [HF.out]) | (go_at_call 9; refine callRet (zzFits1 _ _ _ _ _ (HP2.out.new HU1.out)) ?_; rintro v w2 ⟨h1, rfl⟩; have HU2 : Hid (New w w2) := HU1.out.andNew h1; have HB2 : Hid (Box2 w (.cells #[.slice a ps.length c, .bool f] 24) (.cells #[.slice a2 ps2.length c2, .bool f2] 24) w2) := Lib.hid (HB1.out.andNew h1); clear h1; clear b0 b1 d0 d1; have b0 := box2_0 HB2.out (i := 0) rfl; have b1 := box2_0 HB2.out (i := 1) rfl; have d0 := box2_1 HB2.out (i := 0) rfl; have d1 := box2_1 HB2.out (i := 1) rfl; rw [HF2.out]) | (go_at_call 10; refine callRet (spoken _ _ _ _ _ _ (HP.out.new HU2.out) HF.out) ?_; rintro v w3 ⟨h1, rfl⟩; have HU3 : Hid (New w w3) := HU2.out.andNew h1; have HB3 : Hid (Box2 w (.cells #[.slice a ps.length c, .bool f] 24) (.cells #[.slice a2 ps2.length c2, .bool f2] 24) w3) := Lib.hid (HB2.out.andNew h1); clear h1; clear b0 b1 d0 d1; have b0 := box2_0 HB3.out (i := 0) rfl; have b1 := box2_0 HB3.out (i := 1) rfl; have d0 := box2_1 HB3.out (i := 0) rfl; have d1 := box2_1 HB3.out (i := 1) rfl; rw [HS.out]) | (go_at_call 10; refine callRet (spoken _ _ _ _ _ _ (HP2.out.new HU3.out) HF2.out) ?_; rintro v w4 ⟨h1, rfl⟩; have HU4 : Hid (New w w4) := HU3.out.andNew h1; have HB4 : Hid (Box2 w (.cells #[.slice a ps.length c, .bool f] 24) (.cells #[.slice a2 ps2.length c2, .bool f2] 24) w4) := Lib.hid (HB3.out.andNew h1); clear h1; clear b0 b1 d0 d1; have b0 := box2_0 HB4.out (i := 0) rfl; have b1 := box2_0 HB4.out (i := 1) rfl; have d0 := box2_1 HB4.out (i := 0) rfl; have d1 := box2_1 HB4.out (i := 1) rfl; rw [HS2.out]) | (go_at_call 17; refine callRet (stepsOkC (HST.out.new HU4.out)) ?_; rintro v w5 ⟨h1, rfl⟩; have HU5 : Hid (New w w5) := HU4.out.andNew h1; have HB5 : Hid (Box2 w (.cells #[.slice a ps.length c, .bool f] 24) (.cells #[.slice a2 ps2.length c2, .bool f2] 24) w5) := Lib.hid (HB4.out.andNew h1); clear h1; clear b0 b1 d0 d1; have b0 := box2_0 HB5.out (i := 0) rfl; have b1 := box2_0 HB5.out (i := 1) rfl; have d0 := box2_1 HB5.out (i := 0) rfl; have d1 := box2_1 HB5.out (i := 1) rfl; rw [HOK.out]) | (go_at_call 17; refine callRet (stepsOkC (HST2.out.new HU5.out)) ?_; rintro v w6 ⟨h1, rfl⟩; have HU6 : Hid (New w w6) := HU5.out.andNew h1; have HB6 : Hid (Box2 w (.cells #[.slice a ps.length c, .bool f] 24) (.cells #[.slice a2 ps2.length c2, .bool f2] 24) w6) := Lib.hid (HB5.out.andNew h1); clear h1; clear b0 b1 d0 d1; have b0 := box2_0 HB6.out (i := 0) rfl; have b1 := box2_0 HB6.out (i := 1) rfl; have d0 := box2_1 HB6.out (i := 0) rfl; have d1 := box2_1 HB6.out (i := 1) rfl; rw [HOK2.out]) | (go_at_call 18; refine callRet (specNewReader f2 (HP2.out.new HU6.out) HM2.out hsz) ?_; intro v w7 h3; rw [HALL.out] at h3; obtain ⟨h1, g, cg, rfl, hg1, hg2, hby⟩ := h3; have HU7 : Hid (New w w7) := HU6.out.andNew h1; have HB7 : Hid (Box2 w (.cells #[.slice a ps.length c, .bool f] 24) (.cells #[.slice a2 ps2.length c2, .bool f2] 24) w7) := Lib.hid (HB6.out.andNew h1); clear h1; clear b0 b1 d0 d1; have b0 := box2_0 HB7.out (i := 0) rfl; have b1 := box2_0 HB7.out (i := 1) rfl; have d0 := box2_1 HB7.out (i := 0) rfl; have d1 := box2_1 HB7.out (i := 1) rfl; have z7 : w.heap.size + 1 < w7.heap.size := (by have := HB7.out.size; simp at this; omega); have z8 : w.heap.size < w7.heap.size := (by omega); have HSR := Lib.hid (newSR_at hg2 hby rfl); clear hby hg1 hg2; simp only [srCells, startSR]) | (go_at_call 20; refine callRet (implAnew f f2 (HE.out.new (HU7.out.alloc _)) (HT.out.new (HU7.out.alloc _)) (HP.out.new (HU7.out.alloc _)) (HST.out.new (HU7.out.alloc _)) HN2.out hl1 hsz HN3.out HO.out H64.out (HP2.out.new (HU7.out.alloc _)) (HST2.out.new (HU7.out.alloc _)) HM2.out hl1' HM3.out HO2.out H642.out) ?_; intro v w8 h5; rw [HALL.out] at h5; obtain ⟨hn5, za, zc, zs, A', rfl, hzs, hrun⟩ := h5; have HN5 := Lib.hid hn5; have HU8 : Hid (New w w8) := (HU7.out.alloc _).andNew hn5; have HZS := Lib.hid hzs; have HRUN := Lib.hid hrun; clear hn5 hzs hrun b0 b1 d0 d1) | (go_at_call 19; refine callRet (asked (HSR.out.new HN5.out) (HST2.out.new HU8.out) (HZS.out.mono (fun k hk hh => by simp at hk; omega)) (runRel_len HRUN.out) (fun st hst => (HO2.out.2 st hst).1) H642.out (ask_of_run (sim_start f2 hsz (by rw [← HALL.out]; exact HM2.out)) (fun st hst => (HO2.out.2 st hst).1) HRUN.out) (fun p hp hn hh => by have := HSB.out p hp hn; omega)) ?_; rintro v w9 ⟨⟨bb, rfl⟩, hu9⟩; have HU9 : Hid (New w w9) := newAt HU8.out hu9 (Nat.le_of_lt z8)))
                  go_ret
                  exact ⟨rfl, HU9.out⟩
end Go.Proofs.YtmmjfpcmempeeaaDoor.fnAnew
