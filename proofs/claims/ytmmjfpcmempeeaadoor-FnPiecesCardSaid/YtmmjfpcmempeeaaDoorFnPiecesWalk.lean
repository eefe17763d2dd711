/- The law FnPieces, walked. -/
import Derived.Test.YtmmjfpcmempeeaaDoorEqAns
import Derived.Test.YtmmjfpcmempeeaaDoorDrain
import Derived.Test.YtmmjfpcmempeeaaDoorM4
namespace Go.Proofs.YtmmjfpcmempeeaaDoor.fnPieces
open Go.RowKit
theorem run_det {ss : List Stp} : ∀ {A A1 A2 : AR} {zs zs' : List Ans}, (∀ s ∈ ss, s.k ≠ 0 ∧ s.k ≠ 11) → runRel A ss zs A1 → runRel A ss zs' A2 → zs' = zs := by
  induction ss with
  | nil =>
    intro A A1 A2 zs zs' _ h h'
    cases zs with
    | nil =>
      cases zs' with
      | nil => rfl
      | cons z0 zs => exact False.elim h'
    | cons z0 zs => exact False.elim h
  | cons s0 ss ih =>
    intro A A1 A2 zs zs' hk h h'
    cases zs with
    | nil => exact False.elim h
    | cons z zs =>
      cases zs' with
      | nil => exact False.elim h'
      | cons z' zs' =>
        obtain ⟨B1, h3, h4⟩ := runRel_cons.1 h
        obtain ⟨B2, h5, h6⟩ := runRel_cons.1 h'
        unfold stepRel at h3 h5
        have hs := hk s0 (by simp)
        rw [if_neg hs.1, if_neg hs.2] at h3 h5
        obtain ⟨e1, e2⟩ := h3
        obtain ⟨e3, e4⟩ := h5
        subst e2; subst e4
        rw [e1, e3, ih (fun s hs => hk s (by simp [hs])) h4 h6]
theorem oneP (w : World) : PiecesA ((w.alloc (.cells #[.int .u8 1] 5)).alloc (.cells #[.slice (some ⟨w.heap.size, 0, none⟩) 1 1] 29)) (some ⟨w.heap.size + 1, 0, none⟩) 1 [[1]] := by
  refine ⟨Nat.le_refl _, by unfold maxLen; omega, fun h => (by cases h), fun p hp => ?_⟩
  simp only [Option.some.injEq] at hp
  subst hp
  refine ⟨fun _ => rfl, fun i hi => ?_⟩
  obtain rfl : i = 0 := by simp at hi; omega
  exact ⟨some ⟨w.heap.size, 0, none⟩, 1, by rw [World.cell_of_heap (heap_alloc2_new _ _ _)]; rfl, (BytesA.one (x := 1) (heap_alloc_new w _) rfl).new ((Upd.refl _ _).alloc _)⟩
/-- the pieces, while they are cut -/
structure Pc (W0 : World) (b g : Nat) (all : List UInt8) (cp : Nat) (f : Bool) (wr : World) (v : Value) (ls : List (List UInt8)) (i : Nat) : Prop where
  hb : wr.heap[b]? = some (.cells #[v, .bool f] 24 (0, 0))
  by_ : BytesA wr (some ⟨g, 0, none⟩) cp all
  ty : ∃ cur, wr.heap[g]? = some (.cells cur 5 (0, 0))
  out : OwnL W0.heap.size (fun _ => True) wr v ls
  upd : Upd (fun k => k = b) W0 wr
  flat : ls.flatten = all.take i
  len : ls.length * 50 ≤ i
  ne : ∀ l ∈ ls, l ≠ []
theorem Pc.step {W0 w1 w2 w3 : World} {b g cp i d hi : Nat} {all : List UInt8} {f : Bool} {v v' x : Value} {ls : List (List UInt8)} {vs : List Value} (h : Pc W0 b g all cp f w1 v ls i) (hi1 : i < all.length) (hd : 50 ≤ d) (hhi : hi = min all.length (i + d)) (hbW : b < W0.heap.size) (hgW : g < W0.heap.size) (h12 : New w1 w2)
    (hl : vs.length = ls.length) (ho1 : w1.ownsRow W0.heap.size 29 1 v ls.length vs) (hp : ∀ i, (h : i < ls.length) → ∃ u, vs[i]? = some u ∧ ElemB w1 (fun _ => True) u ls[i]) (hx : x = .slice (some ⟨g, i, none⟩) (hi - i) (cp - i))
    (ho : w3.ownsRow W0.heap.size 29 1 v' (ls.length + 1) (vs ++ [x])) (hg : w2.grownBy w3 v.ownBlock) : w3.heap[b]? = some (.cells #[v, .bool f] 24 (0, 0)) ∧ Pc W0 b g all cp f (w3.setCell ⟨b, 0, none⟩ v') v' (ls ++ [(all.take hi).drop i]) (i + d) := by
  obtain ⟨cur, hty⟩ := h.ty
  have hcp := h.by_.1
  have hsub := h.by_.sub (lo := i) (hi := hi) (o' := i) (c' := cp - i) (by omega) (by omega) (.inr ⟨by omega, by omega, rfl⟩)
  have hlen : ((all.take hi).drop i).length = hi - i := by rw [List.length_drop, List.length_take]; omega
  have hel : ElemB w1 (fun _ => True) x ((all.take hi).drop i) := ⟨_, cp - i, by rw [hx, hlen], hsub, fun p hp _ => by simp only [Option.some.injEq] at hp; subst hp; exact ⟨trivial, cur, hty⟩⟩
  obtain ⟨q1, q2⟩ := OwnL.grow hl ho1 hp hel h12 ho hg
  have u3 : Upd (fun k => k = b) W0 w3 := ((h.upd.andNew h12)).trans q2 (fun k hk hlt => by have := hk.1; omega)
  have hb3 : w3.heap[b]? = some (.cells #[v, .bool f] 24 (0, 0)) := q2.heap (h12.heap h.hb (fun h => h)) (fun hh => by have := hh.1; omega)
  have hty3 : w3.heap[g]? = some (.cells cur 5 (0, 0)) := q2.heap (h12.heap hty (fun h => h)) (fun hh => by have := hh.1; omega)
  have hgb : g ≠ b := fun e => by rw [e, hb3] at hty3; simp at hty3
  have u4 : Upd (fun k => k = b) w3 (w3.setCell ⟨b, 0, none⟩ v') := (Upd.refl (fun k => k = b) w3).setCell (p := ⟨b, 0, none⟩) (fun _ => rfl) _
  refine ⟨hb3, by rw [World.heap_setCell_self hb3]; rfl, ?_, ⟨cur, u4.heap hty3 hgb⟩, ?_, u3.trans u4 (fun k hk _ => hk), ?_, ?_, ?_⟩
  · exact (((h.by_.new h12).upd q2 (fun p hp _ hh => by simp only [Option.some.injEq] at hp; subst hp; have hh := hh.1; have hh : W0.heap.size ≤ g := hh; omega))).upd u4 (fun p hp _ hh => by simp only [Option.some.injEq] at hp; subst hp; exact hgb hh)
  · exact q1.upd u4 (fun k cur hk hbk _ => by have hk : k = b := hk; omega) (fun k cur hk _ hc => by have hk : k = b := hk; rw [hk, hb3] at hc; simp at hc)
  · rw [List.flatten_append, h.flat]
    simp only [List.flatten_cons, List.flatten_nil, List.append_nil]
    have e : all.take (i + d) = all.take hi := by
      by_cases hc : all.length ≤ i + d
      · rw [hhi, Nat.min_eq_left hc, List.take_of_length_le hc, List.take_length]
      · rw [hhi, Nat.min_eq_right (by omega)]
    rw [e]
    have e2 : all.take i = (all.take hi).take i := by rw [List.take_take, Nat.min_eq_left (by omega)]
    rw [e2, List.take_append_drop]
  · rw [List.length_append]; show (ls.length + 1) * 50 ≤ i + d; have := h.len; omega
  · intro l hl'
    rcases List.mem_append.1 hl' with hl' | hl'
    · exact h.ne l hl'
    · simp only [List.mem_singleton] at hl'
      subst hl'
      intro e
      rw [e] at hlen
      simp at hlen
      omega
set_option maxRecDepth 100000 in
set_option maxHeartbeats 4000000 in
theorem walk {S : Err → Addr} {B : Nat} {w : World} (E : Env S B w) (T : TabsB B w) (a : Option Addr) (c : Nat) (ps : List (List UInt8)) (f : Bool) (size : Int) (n : Nat) (sa : Option Addr) (sc : Nat) (ss : List Stp) (h : PiecesA w a c ps) (hs : StepsA w sa sc ss) (h64 : Steps64 ss) (hn255 : n ≤ 255) :
    Calls Tryd.prog 5 #[.agg #[.slice a ps.length c, .bool f], .int .i16 size, .int .u8 (n : Int), .slice sa ss.length sc] w (Ret fun v w' => v = .bool true ∧ New w w') := by
  have HE := Lib.hid E
  have HT := Lib.hid T
  have HP := Lib.hid h
  have HST := Lib.hid hs
  have H64 := Lib.hid h64
  have hs1 := hs.1
  have hs2 := hs.2.1
  unfold maxLen at hs2
  clear E T h hs h64
  cases hfit : fits2 ps with
  | false =>
    have HF := Lib.hid hfit
    clear hfit
    go_enter Tryd.func5, Tryd.ntmps5
    go_wp2_with (go_at_call 9; refine callRet (zzFits1 _ _ _ _ _ (HP.out.new ((Upd.refl _ _).alloc _))) ?_; rintro v w1 ⟨h1, rfl⟩; have HU1 : Hid (New w w1) := ((Upd.refl _ _).alloc _).andNew h1; have HB1 : Hid (BoxUpd w #[.slice a ps.length c, .bool f] w1) := h1.new; have b0 := box_upd HB1.out (i := 0) rfl; have b1 := box_upd HB1.out (i := 1) rfl; clear h1; rw [HF.out])
    go_ret
    exact ⟨rfl, HU1.out⟩
  | true =>
    have HF := Lib.hid hfit
    clear hfit
    by_cases hbig : 2147483647 < ss.length
    · have q0 : decide ((2147483647 : Int) < (ss.length : Int)) = true := decide_eq_true (by omega)
      go_enter Tryd.func5, Tryd.ntmps5
      go_wp2_with (go_at_call 9; refine callRet (zzFits1 _ _ _ _ _ (HP.out.new ((Upd.refl _ _).alloc _))) ?_; rintro v w1 ⟨h1, rfl⟩; have HU1 : Hid (New w w1) := ((Upd.refl _ _).alloc _).andNew h1; have HB1 : Hid (BoxUpd w #[.slice a ps.length c, .bool f] w1) := h1.new; have b0 := box_upd HB1.out (i := 0) rfl; have b1 := box_upd HB1.out (i := 1) rfl; clear h1; rw [HF.out])
      go_ret
      exact ⟨rfl, HU1.out⟩
    · have q0 : decide ((2147483647 : Int) < (ss.length : Int)) = false := decide_eq_false (by omega)
      cases hsp : spokenB ps size with
      | false =>
        have HS := Lib.hid hsp
        clear hsp
        go_enter Tryd.func5, Tryd.ntmps5
        go_wp2_with (first | (go_at_call 9; refine callRet (zzFits1 _ _ _ _ _ (HP.out.new ((Upd.refl _ _).alloc _))) ?_; rintro v w1 ⟨h1, rfl⟩; have HU1 : Hid (New w w1) := ((Upd.refl _ _).alloc _).andNew h1; have HB1 : Hid (BoxUpd w #[.slice a ps.length c, .bool f] w1) := h1.new; have b0 := box_upd HB1.out (i := 0) rfl; have b1 := box_upd HB1.out (i := 1) rfl; clear h1; rw [HF.out]) | (go_at_call 10; refine callRet (spoken _ _ _ _ _ _ (HP.out.new HU1.out) HF.out) ?_; rintro v w2 ⟨h1, rfl⟩; have HU2 : Hid (New w w2) := HU1.out.andNew h1; have HB2 := Lib.hid (HB1.out.andNew h1); clear h1 b0 b1; have b0 := box_upd HB2.out (i := 0) rfl; have b1 := box_upd HB2.out (i := 1) rfl; rw [HS.out]))
        go_ret
        exact ⟨rfl, HU2.out⟩
      | true =>
        have HS := Lib.hid hsp
        cases hok : stepsOkB ss with
        | false =>
          have HOK := Lib.hid hok
          clear hsp hok
          go_enter Tryd.func5, Tryd.ntmps5
          go_wp2_with (first | (go_at_call 9; refine callRet (zzFits1 _ _ _ _ _ (HP.out.new ((Upd.refl _ _).alloc _))) ?_; rintro v w1 ⟨h1, rfl⟩; have HU1 : Hid (New w w1) := ((Upd.refl _ _).alloc _).andNew h1; have HB1 : Hid (BoxUpd w #[.slice a ps.length c, .bool f] w1) := h1.new; have b0 := box_upd HB1.out (i := 0) rfl; have b1 := box_upd HB1.out (i := 1) rfl; clear h1; rw [HF.out]) | (go_at_call 10; refine callRet (spoken _ _ _ _ _ _ (HP.out.new HU1.out) HF.out) ?_; rintro v w2 ⟨h1, rfl⟩; have HU2 : Hid (New w w2) := HU1.out.andNew h1; have HB2 := Lib.hid (HB1.out.andNew h1); clear h1 b0 b1; have b0 := box_upd HB2.out (i := 0) rfl; have b1 := box_upd HB2.out (i := 1) rfl; rw [HS.out]) | (go_at_call 17; refine callRet (stepsOkC (HST.out.new HU2.out)) ?_; rintro v w3 ⟨h1, rfl⟩; have HU3 : Hid (New w w3) := HU2.out.andNew h1; rw [HOK.out]; clear h1))
          go_ret
          exact ⟨rfl, HU3.out⟩
        | true =>
          have HOK := Lib.hid hok
          have HOK2 := Lib.hid (stepsOkB_spec hok)
          cases hex : exactB ss with
          | false =>
            have HEX := Lib.hid hex
            clear hsp hok hex
            go_enter Tryd.func5, Tryd.ntmps5
            go_wp2_with (first | (go_at_call 9; refine callRet (zzFits1 _ _ _ _ _ (HP.out.new ((Upd.refl _ _).alloc _))) ?_; rintro v w1 ⟨h1, rfl⟩; have HU1 : Hid (New w w1) := ((Upd.refl _ _).alloc _).andNew h1; have HB1 : Hid (BoxUpd w #[.slice a ps.length c, .bool f] w1) := h1.new; have b0 := box_upd HB1.out (i := 0) rfl; have b1 := box_upd HB1.out (i := 1) rfl; clear h1; rw [HF.out]) | (go_at_call 10; refine callRet (spoken _ _ _ _ _ _ (HP.out.new HU1.out) HF.out) ?_; rintro v w2 ⟨h1, rfl⟩; have HU2 : Hid (New w w2) := HU1.out.andNew h1; have HB2 := Lib.hid (HB1.out.andNew h1); clear h1 b0 b1; have b0 := box_upd HB2.out (i := 0) rfl; have b1 := box_upd HB2.out (i := 1) rfl; rw [HS.out]) | (go_at_call 17; refine callRet (stepsOkC (HST.out.new HU2.out)) ?_; rintro v w3 ⟨h1, rfl⟩; have HU3 : Hid (New w w3) := HU2.out.andNew h1; rw [HOK.out]; clear h1) | (go_at_call 21; refine callRet (exactC (HST.out.new HU3.out)) ?_; rintro v w4 ⟨h1, rfl⟩; have HU4 : Hid (New w w4) := HU3.out.andNew h1; rw [HEX.out]; clear h1))
            go_ret
            exact ⟨rfl, HU4.out⟩
          | true =>
            have HEX := Lib.hid hex
            have HEX2 := Lib.hid (exactB_spec hex)
            obtain ⟨hl1, hl2, hl3, sz, rfl, hsz⟩ := spokenB_spec hsp
            have HN2 := Lib.hid hl2
            have HN3 := Lib.hid hl3
            obtain ⟨all, hall⟩ : ∃ all, ps.flatten = all := ⟨_, rfl⟩
            have HALL := Lib.hid hall
            have hss := HOK2.out.1
            have hall2 : all.length ≤ 20000 := by rw [← hall]; exact hl2
            clear hsp hok hex hl2 hl3 hall
            go_enter Tryd.func5, Tryd.ntmps5
            go_wp2_with (first | (go_at_call 9; refine callRet (zzFits1 _ _ _ _ _ (HP.out.new ((Upd.refl _ _).alloc _))) ?_; rintro v w1 ⟨h1, rfl⟩; have HU1 : Hid (New w w1) := ((Upd.refl _ _).alloc _).andNew h1; have HB1 : Hid (BoxUpd w #[.slice a ps.length c, .bool f] w1) := h1.new; have b0 := box_upd HB1.out (i := 0) rfl; have b1 := box_upd HB1.out (i := 1) rfl; clear h1; rw [HF.out]) | (go_at_call 10; refine callRet (spoken _ _ _ _ _ _ (HP.out.new HU1.out) HF.out) ?_; rintro v w2 ⟨h1, rfl⟩; have HU2 : Hid (New w w2) := HU1.out.andNew h1; have HB2 := Lib.hid (HB1.out.andNew h1); clear h1 b0 b1; have b0 := box_upd HB2.out (i := 0) rfl; have b1 := box_upd HB2.out (i := 1) rfl; rw [HS.out]) | (go_at_call 17; refine callRet (stepsOkC (HST.out.new HU2.out)) ?_; rintro v w3 ⟨h1, rfl⟩; have HU3 : Hid (New w w3) := HU2.out.andNew h1; have HB3 := Lib.hid (HB2.out.andNew h1); clear h1 b0 b1; have b0 := box_upd HB3.out (i := 0) rfl; have b1 := box_upd HB3.out (i := 1) rfl; rw [HOK.out]) | (go_at_call 21; refine callRet (exactC (HST.out.new HU3.out)) ?_; rintro v w4 ⟨h1, rfl⟩; have HU4 : Hid (New w w4) := HU3.out.andNew h1; have HB4 := Lib.hid (HB3.out.andNew h1); clear h1 b0 b1; have b0 := box_upd HB4.out (i := 0) rfl; have b1 := box_upd HB4.out (i := 1) rfl; rw [HEX.out]))
            go_loopw [42] (fun i wr => ∃ k : Nat, i = .int .i64 (k : Int) ∧ k ≤ ss.length ∧ (∀ s ∈ ss.take k, s.k ≠ 11) ∧ New w wr ∧ BoxUpd w #[.slice a ps.length c, .bool f] wr) (fun i _ => ss.length - (intOf i).toNat)
            case atStart => exact ⟨0, rfl, Nat.zero_le _, fun s hs => (by simp at hs), HU4.out, HB4.out⟩
            case round =>
              obtain ⟨k, rfl, hkn, h11, hnew, hbx⟩ := hrel
              have H11 := Lib.hid h11
              have HNW := Lib.hid hnew
              have HBX := Lib.hid hbx
              clear h11 hnew hbx
              by_cases hlt : k < ss.length
              · obtain ⟨b, o, rfl, hbs, e0, e1, e2⟩ := (HST.out.new HNW.out).at hlt
                obtain ⟨st, hst⟩ : ∃ st, ss[k] = st := ⟨_, rfl⟩
                rw [hst] at e0 e1 e2
                have htk : Hid (ss.take (k + 1) = ss.take k ++ [st]) := by rw [Hid, List.take_add_one, List.getElem?_eq_getElem hlt, hst]; rfl
                clear hst
                by_cases h11 : st.k = 11
                · rw [h11] at e0
                  clear h11
                  go_wp2_with fail
                  go_ret
                  exact ⟨rfl, HNW.out.alloc _⟩
                · have q11 : (st.k == 11) = false := by rw [beq_eq_false_iff_ne]; exact h11
                  have HK := Lib.hid h11
                  clear h11
                  go_wp2_with fail
                  exact ⟨⟨k + 1, by go_num, by omega, fun s hs => (by rw [htk.out] at hs; rcases List.mem_append.1 hs with hs | hs; exact H11.out s hs; simp at hs; rw [hs]; exact HK.out), HNW.out.alloc _, HBX.out.alloc _⟩, by simp [intOf]; omega⟩
              · obtain rfl : k = ss.length := by omega
                rw [List.take_length] at H11
                have b0 := box_upd HBX.out (i := 0) rfl
                have b1 := box_upd HBX.out (i := 1) rfl
                clear hlt
                go_wp2_with (go_at_call 11; refine callRet (specJoined _ _ _ _ (HP.out.new HNW.out) (by have := HN2.out; omega)) ?_; intro v w6 h1; rw [HALL.out] at h1; have HU6 : Hid (New w w6) := HNW.out.andNew h1.1; have HB6 := Lib.hid (HBX.out.andNew h1.1); clear b0 b1; have b0 := box_upd HB6.out (i := 0) rfl; have b1 := box_upd HB6.out (i := 1) rfl; obtain ⟨hnw, g, cp, rfl, ho⟩ := h1; have HTY : Hid (∃ cur, w6.heap[g]? = some (.cells cur 5 (0, 0))) := (ownsRow_block ho rfl).2; have HA6 := Lib.hid (BytesA.owned ho).2; clear hnw ho)
                obtain ⟨W0, hW0⟩ : ∃ W0, W0 = w6.alloc (.cells #[.slice none 0 0, .bool f] 24) := ⟨_, rfl⟩
                have hz0 : W0.heap.size = w6.heap.size + 1 := by rw [hW0]; simp
                have hnW : New w6 W0 := by rw [hW0]; exact (Upd.refl _ _).alloc _
                have hgW : g < W0.heap.size := by obtain ⟨cur, q⟩ := HTY.out; have := (Array.getElem?_eq_some_iff.1 q).1; omega
                have HPC : Hid (Pc W0 w6.heap.size g all cp f W0 (.slice none 0 0) [] 0) := ⟨by rw [hW0]; exact heap_alloc_new w6 _, HA6.out.new hnW, (by obtain ⟨cur, q⟩ := HTY.out; exact ⟨cur, hnW.heap q (fun h => h)⟩), OwnL.nil _ _ _, Upd.refl _ _, rfl, Nat.le_refl _, fun l hl => (by simp at hl)⟩
                have HNW0 := Lib.hid (HU6.out.andNew hnW)
                have HBW0 := Lib.hid (HB6.out.andNew hnW)
                have HW0 := Lib.hid hW0.symm
                have hcp := HA6.out.1
                have hcm := HA6.out.2.1
                unfold maxLen at hcm
                obtain ⟨m, hm⟩ : ∃ m, all.length = m := ⟨_, rfl⟩
                have HM := Lib.hid hm
                have hm20 : m ≤ 20000 := by rw [← hm]; exact hall2
                rw [hm] at hcp ⊢
                rw [HW0.out]
                clear hnW hW0 hm
                go_loopw [13] (fun t wr => ∃ (i : Nat) (v : Value) (ls : List (List UInt8)), t = .int .i64 (i : Int) ∧ i ≤ m + 305 ∧ Pc W0 w6.heap.size g all cp f wr v ls i) (fun t _ => m - (intOf t).toNat)
                case atStart => exact ⟨0, _, [], rfl, Nat.zero_le _, HPC.out⟩
                case round =>
                  obtain ⟨i, v, ls, rfl, hi305, hpc⟩ := hrel
                  have HP1 := Lib.hid hpc
                  clear hpc
                  by_cases hlt : i < m
                  · have hlt' : i < all.length := by rw [HM.out]; exact hlt
                    obtain ⟨hi, hhi⟩ : ∃ hi, hi = min m (i + (50 + n)) := ⟨_, rfl⟩
                    have HMIN : Hid (min (m : Int) ((i : Int) + 50 + (n : Int)) = (hi : Int)) := by rw [Hid]; omega
                    have HHI : Hid (hi = min all.length (i + (50 + n))) := by rw [Hid, HM.out]; exact hhi
                    have h1 : i ≤ hi := by omega
                    have h2 : hi ≤ cp := by omega
                    have HC0 : Hid (wr.cell? ⟨w6.heap.size, 0, none⟩ = some v) := by rw [Hid, World.cell_of_heap HP1.out.hb]; rfl
                    clear hhi
                    go_wp2_with fail
                    refine wp_region_lx {ld := [66], gd := [78]} (by kernel_rfl) (by kernel_rfl) ⟨fun _ _ _ h => h.2, fun _ _ h => h⟩ ?_
                    refine wpLx_calm rfl rfl rfl (fun K hK => ?_)
                    go_step
                    refine hK _ ?_
                    clear hK K
                    refine wpLx_load rfl rfl (Upd.refl _ _) rfl rfl (by kernel_rfl) (show wr.drew.cell? ⟨w6.heap.size, 0, none⟩ = some v from HC0.out) ?_
                    iterate 10 (refine wpLx_calm rfl rfl rfl (fun K hK => ?_); go_step; refine hK _ ?_; clear hK K)
                    rw [HMIN.out]
                    refine wpLx_calm rfl rfl rfl (fun K hK => ?_)
                    go_step
                    refine hK _ ?_
                    clear hK K
                    refine wpLx_grow rfl rfl rfl (Upd.refl _ _) (fun K hK => ?_)
                    go_step
                    refine hK _ _ ((Upd.refl _ _).alloc _) ?_
                    clear hK K
                    refine wpLx_eff rfl rfl rfl (fun K hK => ?_)
                    obtain ⟨vs, hvl, ho1, hpe⟩ := HP1.out.out
                    have HLN := HP1.out.len
                    refine wp_append eP (.tmp 66) (.tmp 78) rfl W0.heap.size _ _ _ rfl (ownsRow_new ho1 ((Upd.refl _ _).drew.alloc _)) (some ⟨_, 0, none⟩) 1 1 [.slice (some ⟨g, i, none⟩) (hi - i) (cp - i)] rfl rfl (fun h => by cases h) (fun p hp => by simp only [Option.some.injEq] at hp; subst hp; refine World.news_of_block' (t := 29) (fr := (0, 0)) ?_; exact heap_alloc_new _ _) (by simp [Value.oneCell']) (by unfold maxLen; omega) (by omega) (Nat.le_trans HP1.out.upd.size (show New wr _ from (Upd.refl _ _).drew.alloc _).size) ?_
                    intro vA wA h1 h2 h3
                    obtain ⟨av, nv, cv, rfl⟩ : ∃ av nv cv, vA = .slice av nv cv := by rcases h1.2 with ⟨hv, _⟩ | ⟨g', cap, cur, hv, _⟩ <;> exact ⟨_, _, _, hv⟩
                    obtain ⟨hbA, hPA⟩ := HP1.out.step (d := 50 + n) hlt' (by omega) HHI.out (by omega) hgW ((Upd.refl _ _).drew.alloc _) hvl ho1 hpe rfl h1 h2
                    have efA : ∀ i, wA.frozen? ⟨w6.heap.size, i, none⟩ = false := fun i => World.frozen_of_heap hbA i
                    have c0A : wA.cell? ⟨w6.heap.size, 0, none⟩ = some v := by rw [World.cell_of_heap hbA]; rfl
                    have HPA := Lib.hid hPA
                    clear hbA hPA hvl ho1 hpe h1 h2 h3 HLN
                    refine hK _ _ ?_
                    clear hK K
                    (repeat' (first | (refine wpLx_calm rfl rfl rfl (fun K hK => ?_); go_step <;> (refine hK _ ?_; clear hK K)) | (refine wpLx_skip2 rfl rfl rfl ?_; go_simp) | (refine wpLx_calm2 rfl rfl rfl rfl rfl (fun K hK => ?_); go_step <;> (refine hK _ ?_; clear hK K))))
                    refine wpLx_eff rfl rfl rfl (fun K hK => ?_)
                    go_step
                    refine hK _ _ ?_
                    clear hK K
                    refine wpLx_nil ?_
                    go_wp2
                    exact ⟨⟨i + (50 + n), _, _, by rw [Int.natCast_add, Int.natCast_add]; rfl, by omega, HPA.out⟩, by simp [intOf]; omega⟩
                  · have hfl : ls.flatten = all := by rw [HP1.out.flat, List.take_of_length_le (by rw [HM.out]; omega)]
                    obtain ⟨a2, c2, rfl, hp2⟩ := HP1.out.out.pieces
                    have HP2 := Lib.hid hp2
                    have hpl := hp2.1
                    have hpm := hp2.2.1
                    unfold maxLen at hpm
                    have HFL := Lib.hid hfl
                    have hll := HP1.out.len
                    have hlb : ls.length ≤ 500 := by omega
                    have HNN : Hid (nones ls ≤ 50) := by
                      rw [Hid]; unfold nones
                      rw [List.filter_eq_nil_iff.2 (fun l hl => by have := HP1.out.ne l hl; cases l <;> simp_all)]
                      simp
                    have HNR : Hid (New w wr) := HNW0.out.trans HP1.out.upd (fun k hk hlt => by have hk : k = w6.heap.size := hk; have := HU6.out.size; omega)
                    have HBR : Hid (BoxUpd w #[.slice a ps.length c, .bool f] wr) := HBW0.out.trans HP1.out.upd (fun k hk _ => by have hk : k = w6.heap.size := hk; have := boxLt HB6.out; omega)
                    clear b0 b1
                    have b0 := box_upd HBR.out (i := 0) rfl
                    have b1 := box_upd HBR.out (i := 1) rfl
                    have x0 : wr.cell? ⟨w6.heap.size, 0, none⟩ = some (.slice a2 ls.length c2) := by rw [World.cell_of_heap HP1.out.hb]; rfl
                    have x1 : wr.cell? ⟨w6.heap.size, 1, none⟩ = some (.bool f) := by rw [World.cell_of_heap HP1.out.hb]; rfl
                    have HDET : Hid (∀ s ∈ ss, s.k ≠ 0 ∧ s.k ≠ 11) := fun s hs => ⟨HEX2.out s hs, H11.out s hs⟩
                    clear hp2 hfl hll
                    go_wp2_with fail
                    refine wp_region_lx {ld := [86, 88], gd := [85]} (by kernel_rfl) (by kernel_rfl) ⟨fun _ _ _ h => h.2, fun _ _ h => h⟩ ?_
                    (repeat' (first | (refine wpLx_calm rfl rfl rfl (fun K hK => ?_); go_step <;> (refine hK _ ?_; clear hK K)) | (refine wpLx_skip2 rfl rfl rfl ?_; go_simp) | (refine wpLx_calm2 rfl rfl rfl rfl rfl (fun K hK => ?_); go_step <;> (refine hK _ ?_; clear hK K))))
                    refine wpLx_grow rfl rfl rfl (Upd.refl _ _) (fun K hK => ?_)
                    refine wp_call (implRun f (HE.out.new HNR.out.drew) (HT.out.new HNR.out.drew) (HP.out.new HNR.out.drew) (HST.out.new HNR.out.drew) HN2.out hl1 hsz HN3.out HOK2.out H64.out) (by kernel_rfl) ?_
                    rintro v w7 ⟨hn7, za, zc, zs, A', rfl, hzs, hrun⟩
                    have HN7 := Lib.hid hn7
                    have HNW7 : Hid (New w w7) := HNR.out.drew.andNew hn7
                    have HNR7 : Hid (New wr w7) := (Upd.refl (fun _ => False) wr).drew.andNew hn7
                    refine hK _ _ hn7 ?_
                    clear hK K
                    refine wpLx_alike (v := .agg #[.slice a2 ls.length c2, .bool f]) rfl rfl hn7 (fun w' hn' => ?_) ?_
                    · have y0 := hn'.cell (show wr.drew.cell? ⟨w6.heap.size, 0, none⟩ = some (.slice a2 ls.length c2) from x0) (fun h => h)
                      have y1 := hn'.cell (show wr.drew.cell? ⟨w6.heap.size, 1, none⟩ = some (.bool f) from x1) (fun h => h)
                      clear b0 b1 x0 x1
                      simp [execOp, Act.eval, Instr.loadAt, Instr.sureAddr, go_sem, y0, y1]
                    · (repeat' (first | (refine wpLx_calm rfl rfl rfl (fun K hK => ?_); go_step <;> (refine hK _ ?_; clear hK K)) | (refine wpLx_skip2 rfl rfl rfl ?_; go_simp) | (refine wpLx_calm2 rfl rfl rfl rfl rfl (fun K hK => ?_); go_step <;> (refine hK _ ?_; clear hK K))))
                      refine wpLx_alike (v := .int .i64 (sz : Int)) rfl rfl hn7 (fun w' hn' => ?_) ?_
                      · clear b0 b1 x0 x1
                        simp [execOp, Act.eval, go_sem]
                        first | (show wrap64 (sz : Int) = (sz : Int); unfold wrap64; omega) | (rw [show IntKind.i64.wrap (sz : Int) = wrap64 (sz : Int) from rfl]; unfold wrap64; omega) | (simp [IntKind.wrap, IntKind.bits, IntKind.signed]; omega)
                      · (repeat' (first | (refine wpLx_calm rfl rfl rfl (fun K hK => ?_); go_step <;> (refine hK _ ?_; clear hK K)) | (refine wpLx_skip2 rfl rfl rfl ?_; go_simp) | (refine wpLx_calm2 rfl rfl rfl rfl rfl (fun K hK => ?_); go_step <;> (refine hK _ ?_; clear hK K))))
                        refine wpLx_eff rfl rfl rfl (fun K hK => ?_)
                        refine wp_call (implRun f (HE.out.new HNW7.out) (HT.out.new HNW7.out) (HP2.out.new HNR7.out) (HST.out.new HNW7.out) (by rw [HFL.out, HM.out]; exact hm20) hlb hsz HNN.out HOK2.out H64.out) (by kernel_rfl) ?_
                        rintro v w8 ⟨hn8, za2, zc2, zs2, A2, rfl, hzs2, hrun2⟩
                        rw [HFL.out] at hrun2
                        rw [HALL.out] at hrun
                        have hzl := runRel_len hrun
                        obtain rfl := run_det HDET.out hrun hrun2
                        have HZ1 := Lib.hid (hzs.new hn8)
                        have HZ2 := Lib.hid hzs2
                        have HNW8 : Hid (New w w8) := HNW7.out.andNew hn8
                        have HZL := Lib.hid hzl
                        clear hzs hzs2 hrun hrun2 hn8 hn7 b0 b1 x0 x1 hzl
                        refine hK _ _ ?_
                        clear hK K
                        (repeat' (first | (refine wpLx_calm rfl rfl rfl (fun K hK => ?_); go_step <;> (refine hK _ ?_; clear hK K)) | (refine wpLx_skip2 rfl rfl rfl ?_; go_simp) | (refine wpLx_calm2 rfl rfl rfl rfl rfl (fun K hK => ?_); go_step <;> (refine hK _ ?_; clear hK K))))
                        refine wpLx_nil ?_
                        have HNB : Hid (∀ wx, New w8 wx → Env S B wx) := fun wx hx => HE.out.new (HNW8.out.andNew hx)
                        have KE := Lib.hid (fun wx (hx : New w8 wx) => equalAns (HZ1.out.new hx) (HZ2.out.new hx))
                        rw [HZL.out] at KE ⊢
                        have hc : ((if 2 ≤ ([[(1 : UInt8)]].flatten).length then 0 else endc false : Nat) : Int) = 1 := rfl
                        have HC := Lib.hid hc
                        clear hc
                        go_wp2_with (first | (go_at_call 23; refine callRet (implBytes (S := S) (B := B) (sz := 16) (n := 2) (ps := [[(1 : UInt8)]]) false (HNB.out _ (((Upd.refl _ _).alloc _).alloc _)) (oneP _) (by simp) (by simp) (by omega) (by simp [nones]) (by omega)) ?_; rintro v w9 ⟨hn9, x9, rfl, hx9⟩; obtain ⟨a9, c9, rfl, _⟩ := hx9; have HN9 : Hid (New w8 w9) := (((Upd.refl _ _).alloc _).alloc _).andNew hn9; rw [HC.out]; clear hn9) | (go_at_call 24; refine callRet (KE.out _ HN9.out) ?_; rintro v w10 ⟨hn10, rfl⟩; have HN10 : Hid (New w w10) := (HNW8.out.andNew HN9.out).andNew hn10; clear hn10))
                        go_ret
                        exact ⟨rfl, HN10.out⟩
end Go.Proofs.YtmmjfpcmempeeaaDoor.fnPieces
