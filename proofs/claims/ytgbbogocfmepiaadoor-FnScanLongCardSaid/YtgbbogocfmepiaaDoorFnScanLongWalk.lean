/- The law FnScanLong, walked. -/
import Derived.Test.YtgbbogocfmepiaaDoorFnScanWalk
import Derived.Test.YtgbbogocfmepiaaDoorLongest
namespace Go.Proofs.YtgbbogocfmepiaaDoor
open Go.RowKit
theorem longest_le : ∀ (f : Nat) (bs : List UInt8), longest f bs ≤ bs.length
  | 0, bs => Nat.zero_le _
  | f + 1, bs => by
    unfold longest
    split
    · omega
    · rename_i hb
      have h1 := fline_pos hb
      have h2 := longest_le f (bs.drop (fline bs))
      rw [List.length_drop] at h2
      omega
theorem ScI.fits {lim : Nat} {f : Bool} {all : List UInt8} {ts : List (List UInt8)} {code : Nat} (h : ScI 3 lim f all ts code) (h1 : 1 ≤ lim) (hl : longestL all < lim) (hn : (tokens 3 all).length < 10000) : ts = tokens 3 all ∧ code = if f then 2 else 0 := by
  obtain ⟨rem, h2, _, h3⟩ := h
  have ht := h2.tokens
  rcases h3 with ⟨h4, h5⟩ | h4 | ⟨_, _, h5⟩
  · rw [h5, List.append_nil] at ht
    exact ⟨ht.symm, h4⟩
  · have := congrArg List.length ht
    rw [List.length_append] at this
    omega
  · have := fits_all h1 (h5 rfl) h2
    omega
theorem ScI.long {lim : Nat} {f : Bool} {all : List UInt8} {ts : List (List UInt8)} {code : Nat} (h : ScI 3 lim f all ts code) (hl : (lim : Int) + 2 < longestL all) (ha : aheadL ((lim : Int) - 3) all = aheadL ((lim : Int) + 2) all) (hn : (tokens 3 all).length < 10000) :
    code = 8 ∧ ts = (tokens 3 all).take (aheadL ((lim : Int) + 2) all) ∧ aheadL ((lim : Int) + 2) all ≤ (tokens 3 all).length := by
  obtain ⟨rem, h2, _, h3⟩ := h
  have ht := h2.tokens
  obtain ⟨q1, q2⟩ := long_end h2 hl ha
  rcases h3 with ⟨h4, h5⟩ | h4 | ⟨h4, _, h5⟩
  · exact absurd h5 q1
  · have := congrArg List.length ht
    rw [List.length_append] at this
    omega
  · exact ⟨h4, q2 (h5 rfl)⟩
theorem PiecesA.take {w : World} {a : Option Addr} {c : Nat} {ps : List (List UInt8)} (h : PiecesA w a c ps) (n : Nat) : PiecesA w a c (ps.take n) := by
  refine ⟨Nat.le_trans (by rw [List.length_take]; omega) h.1, h.2.1, h.2.2.1, fun p hp => ⟨fun hn => (h.2.2.2 p hp).1 (fun hh => hn (by rw [hh]; simp)), fun i hi => ?_⟩⟩
  have hi' : i < ps.length := by rw [List.length_take] at hi; omega
  obtain ⟨ai, ci, q1, q2⟩ := (h.2.2.2 p hp).2 i hi'
  rw [List.getElem_take]
  exact ⟨ai, ci, q1, q2⟩
namespace fnScanLong
set_option maxRecDepth 100000 in
set_option maxHeartbeats 4000000 in
theorem walk {S : Err → Addr} {B : Nat} {w : World} (E : Env S B w) (T : TabsB B w) (a : Option Addr) (c : Nat) (ps : List (List UInt8)) (f : Bool) (bn m : Nat) (h : PiecesA w a c ps) (hbn : bn ≤ 65535) (hm : m ≤ 65535) :
    Calls Tryd.prog 4 #[.agg #[.slice a ps.length c, .bool f], .int .u16 (bn : Int), .int .u16 (m : Int)] w (Ret fun v w' => v = .bool true ∧ New w w') := by
  have HE := Lib.hid E
  have HT := Lib.hid T
  have HP := Lib.hid h
  clear E T h
  cases hfit : fits2 ps with
  | false =>
    have HF := Lib.hid hfit
    clear hfit
    go_enter Tryd.func4, Tryd.ntmps4
    go_wp2_with (go_at_call 8; refine callRet (zzFits1 _ _ _ _ _ (HP.out.new ((Upd.refl _ _).alloc _))) ?_; rintro v w1 ⟨h1, rfl⟩; have HU1 : Hid (New w w1) := ((Upd.refl _ _).alloc _).andNew h1; have HB1 : Hid (BoxUpd w #[.slice a ps.length c, .bool f] w1) := h1.new; have b0 := box_upd HB1.out (i := 0) rfl; have b1 := box_upd HB1.out (i := 1) rfl; clear h1; rw [HF.out])
    go_ret
    exact ⟨rfl, HU1.out⟩
  | true =>
    have HF := Lib.hid hfit
    clear hfit
    cases hsp : spokenB ps 16 with
    | false =>
      have HS := Lib.hid hsp
      clear hsp
      go_enter Tryd.func4, Tryd.ntmps4
      go_wp2_with (first | (go_at_call 8; refine callRet (zzFits1 _ _ _ _ _ (HP.out.new ((Upd.refl _ _).alloc _))) ?_; rintro v w1 ⟨h1, rfl⟩; have HU1 : Hid (New w w1) := ((Upd.refl _ _).alloc _).andNew h1; have HB1 : Hid (BoxUpd w #[.slice a ps.length c, .bool f] w1) := h1.new; have b0 := box_upd HB1.out (i := 0) rfl; have b1 := box_upd HB1.out (i := 1) rfl; clear h1; rw [HF.out]) | (go_at_call 9; refine callRet (spoken _ _ _ _ _ _ (HP.out.new HU1.out) HF.out) ?_; rintro v w2 ⟨h1, rfl⟩; have HU2 : Hid (New w w2) := HU1.out.andNew h1; have HB2 := Lib.hid (HB1.out.andNew h1); clear h1 b0 b1; have b0 := box_upd HB2.out (i := 0) rfl; have b1 := box_upd HB2.out (i := 1) rfl; rw [HS.out]))
      go_ret
      exact ⟨rfl, HU2.out⟩
    | true =>
      obtain ⟨hl1, hl2, hl3, hl4⟩ := spokenB_spec hsp
      clear hl4
      have HS := Lib.hid hsp
      have HN2 := Lib.hid hl2
      have HN3 := Lib.hid hl3
      have HN1 := Lib.hid hl1
      by_cases hm0 : m = 0
      · clear hsp hl1 hl2 hl3
        have hmz : m = 0 := hm0
        subst hmz
        clear hm0
        go_enter Tryd.func4, Tryd.ntmps4
        go_wp2_with (first | (go_at_call 8; refine callRet (zzFits1 _ _ _ _ _ (HP.out.new ((Upd.refl _ _).alloc _))) ?_; rintro v w1 ⟨h1, rfl⟩; have HU1 : Hid (New w w1) := ((Upd.refl _ _).alloc _).andNew h1; have HB1 : Hid (BoxUpd w #[.slice a ps.length c, .bool f] w1) := h1.new; have b0 := box_upd HB1.out (i := 0) rfl; have b1 := box_upd HB1.out (i := 1) rfl; clear h1; rw [HF.out]) | (go_at_call 9; refine callRet (spoken _ _ _ _ _ _ (HP.out.new HU1.out) HF.out) ?_; rintro v w2 ⟨h1, rfl⟩; have HU2 : Hid (New w w2) := HU1.out.andNew h1; have HB2 := Lib.hid (HB1.out.andNew h1); clear h1 b0 b1; have b0 := box_upd HB2.out (i := 0) rfl; have b1 := box_upd HB2.out (i := 1) rfl; rw [HS.out]))
        go_ret
        exact ⟨rfl, HU2.out⟩
      · have KJ0 := fun wx (hx : New w wx) => specJoined _ _ _ _ (HP.out.new hx) (by omega)
        obtain ⟨lim, hlim⟩ : ∃ lim, lim = max bn m := ⟨_, rfl⟩
        have KSC0 : ∀ wx, New w wx → Calls Tryd.prog 12 #[.int .i64 3, .agg #[.slice a ps.length c, .bool f], .int .i64 (bn : Int), .int .i64 (m : Int)] wx (Ret (ScIPost 3 lim f ps.flatten wx)) := fun wx hx => by
          have := implScan (k := 3) (bn := bn) (m := m) f (HE.out.new hx) (HT.out.new hx) (HP.out.new hx) HN2.out HN1.out HN3.out (by omega) hbn hm
          rw [if_neg hm0, ← hlim] at this
          exact this
        obtain ⟨al, hal⟩ : ∃ al, ps.flatten = al := ⟨_, rfl⟩
        rw [hal] at KJ0 KSC0 hl2
        have KJ := Lib.hid KJ0
        have KSC := Lib.hid KSC0
        have HAL : Hid (al.length ≤ 20000) := Lib.hid hl2
        obtain ⟨tl, htl⟩ : ∃ tl, (tokens 3 al).length = tl := ⟨_, rfl⟩
        have HTL := Lib.hid htl
        obtain ⟨an, han⟩ : ∃ an, al.length = an := ⟨_, rfl⟩
        have HAN := Lib.hid han
        have hmax : max (bn : Int) (m : Int) = (lim : Int) := by omega
        have hlim1 : 1 ≤ lim := by omega
        have hlim2 : lim ≤ 65535 := by omega
        obtain ⟨lg, hlg⟩ : ∃ lg, longestL al = lg := ⟨_, rfl⟩
        have HLG := Lib.hid hlg
        have hlgb : lg ≤ 20000 := by rw [← hlg]; exact Nat.le_trans (longest_le _ _) hl2
        obtain ⟨ah, hah⟩ : ∃ ah, aheadL ((lim : Int) + 2) al = ah := ⟨_, rfl⟩
        obtain ⟨ah3, hah3⟩ : ∃ ah, aheadL ((lim : Int) - 3) al = ah := ⟨_, rfl⟩
        have HAH := Lib.hid hah
        have HAH3 := Lib.hid hah3
        clear hsp hl1 hl2 hl3 htl KJ0 KSC0 hal han hlim hlg hah hah3
        by_cases hbig : 10000 ≤ tl
        · go_enter Tryd.func4, Tryd.ntmps4
          go_wp2_with (first
          | (go_at_call 8; refine callRet (zzFits1 _ _ _ _ _ (HP.out.new ((Upd.refl _ _).alloc _))) ?_; rintro v w1 ⟨h1, rfl⟩; have HU1 : Hid (New w w1) := ((Upd.refl _ _).alloc _).andNew h1; have HB1 : Hid (BoxUpd w #[.slice a ps.length c, .bool f] w1) := h1.new; have b0 := box_upd HB1.out (i := 0) rfl; have b1 := box_upd HB1.out (i := 1) rfl; clear h1; rw [HF.out])
          | (go_at_call 9; refine callRet (spoken _ _ _ _ _ _ (HP.out.new HU1.out) HF.out) ?_; rintro v w2 ⟨h1, rfl⟩; have HU2 : Hid (New w w2) := HU1.out.andNew h1; have HB2 := Lib.hid (HB1.out.andNew h1); clear h1 b0 b1; have b0 := box_upd HB2.out (i := 0) rfl; have b1 := box_upd HB2.out (i := 1) rfl; rw [HS.out])
          | (go_at_call 11; refine callRet (KJ.out _ HU2.out) ?_; intro v w3 h3; obtain ⟨hn3, g, cg, rfl, ho⟩ := h3; have hby := (BytesA.owned ho).2; have HU3 : Hid (New w w3) := HU2.out.andNew hn3; have HB3 := Lib.hid (HB2.out.andNew hn3); have hblk : ByteBlk w3 (some ⟨g, 0, none⟩) al := (fun p hp _ => by simp only [Option.some.injEq] at hp; subst hp; exact (ownsRow_block ho rfl).2); have hal6 : al.length ≤ 1000000 := (by have := HAL.out; omega); have KT := fun wx (hx : New w3 wx) => specTokens (k := 3) (by omega) (hby.new hx) (hblk.upd hx (fun _ _ h _ => h)) hal6; have KL2 := fun wx (hx : New w3 wx) => specLongest (hby.new hx) hal6 ((lim : Int) + 2); have KL3 := fun wx (hx : New w3 wx) => specLongest (hby.new hx) hal6 ((lim : Int) - 3); have KB := fun wx (hx : New w3 wx) => between (hby.new hx) hal6 lim (by omega) rfl rfl HAH3.out HAH.out; rw [HAN.out] at KT KL2 KL3 KB ⊢; rw [HLG.out, HAH.out] at KL2; rw [HLG.out, HAH3.out] at KL3; have HKT := Lib.hid KT; have HKL2 := Lib.hid KL2; have HKL3 := Lib.hid KL3; have HKB := Lib.hid KB; clear KT KL2 KL3 KB b0 b1 hn3 hby ho hblk hal6; have b0 := box_upd HB3.out (i := 0) rfl; have b1 := box_upd HB3.out (i := 1) rfl)
          | (go_at_call 15; refine callRet (HKL2.out _ (Upd.refl _ _)) ?_; rintro v w4 ⟨rfl, rfl⟩)
          | (go_at_call 12; refine callRet (KSC.out _ HU3.out) ?_; rintro v w5 ⟨hn5, ts, code, a5, c5, rfl, hp5, hsi⟩; have HU5 : Hid (New w w5) := HU3.out.andNew hn5; have HB5 := Lib.hid (HB3.out.andNew hn5); have HN5 : Hid (New w3 w5) := Lib.hid hn5; clear b0 b1 hn5; have b0 := box_upd HB5.out (i := 0) rfl; have b1 := box_upd HB5.out (i := 1) rfl; clear hsi hp5)
          | (go_at_call 10; refine callRet (HKT.out _ HN5.out) ?_; rintro v w6 ⟨hn6, a4, c4, rfl, hp4⟩; rw [HTL.out]; have HU6 : Hid (New w w6) := HU5.out.andNew hn6; have HB6 := Lib.hid (HB5.out.andNew hn6); have HN6 : Hid (New w3 w6) := HN5.out.andNew hn6; have hc4 := hp4.1; have hc5 := hp4.2.1; rw [HTL.out] at hc4; unfold maxLen at hc5; clear b0 b1; have b0 := box_upd HB6.out (i := 0) rfl; have b1 := box_upd HB6.out (i := 1) rfl; clear hn6 hp4))
          go_ret
          exact ⟨rfl, HU6.out⟩
        · by_cases hfit2 : lg + 2 < lim
          · go_enter Tryd.func4, Tryd.ntmps4
            go_wp2_with (first
          | (go_at_call 8; refine callRet (zzFits1 _ _ _ _ _ (HP.out.new ((Upd.refl _ _).alloc _))) ?_; rintro v w1 ⟨h1, rfl⟩; have HU1 : Hid (New w w1) := ((Upd.refl _ _).alloc _).andNew h1; have HB1 : Hid (BoxUpd w #[.slice a ps.length c, .bool f] w1) := h1.new; have b0 := box_upd HB1.out (i := 0) rfl; have b1 := box_upd HB1.out (i := 1) rfl; clear h1; rw [HF.out])
          | (go_at_call 9; refine callRet (spoken _ _ _ _ _ _ (HP.out.new HU1.out) HF.out) ?_; rintro v w2 ⟨h1, rfl⟩; have HU2 : Hid (New w w2) := HU1.out.andNew h1; have HB2 := Lib.hid (HB1.out.andNew h1); clear h1 b0 b1; have b0 := box_upd HB2.out (i := 0) rfl; have b1 := box_upd HB2.out (i := 1) rfl; rw [HS.out])
          | (go_at_call 11; refine callRet (KJ.out _ HU2.out) ?_; intro v w3 h3; obtain ⟨hn3, g, cg, rfl, ho⟩ := h3; have hby := (BytesA.owned ho).2; have HU3 : Hid (New w w3) := HU2.out.andNew hn3; have HB3 := Lib.hid (HB2.out.andNew hn3); have hblk : ByteBlk w3 (some ⟨g, 0, none⟩) al := (fun p hp _ => by simp only [Option.some.injEq] at hp; subst hp; exact (ownsRow_block ho rfl).2); have hal6 : al.length ≤ 1000000 := (by have := HAL.out; omega); have KT := fun wx (hx : New w3 wx) => specTokens (k := 3) (by omega) (hby.new hx) (hblk.upd hx (fun _ _ h _ => h)) hal6; have KL2 := fun wx (hx : New w3 wx) => specLongest (hby.new hx) hal6 ((lim : Int) + 2); have KL3 := fun wx (hx : New w3 wx) => specLongest (hby.new hx) hal6 ((lim : Int) - 3); have KB := fun wx (hx : New w3 wx) => between (hby.new hx) hal6 lim (by omega) rfl rfl HAH3.out HAH.out; rw [HAN.out] at KT KL2 KL3 KB ⊢; rw [HLG.out, HAH.out] at KL2; rw [HLG.out, HAH3.out] at KL3; have HKT := Lib.hid KT; have HKL2 := Lib.hid KL2; have HKL3 := Lib.hid KL3; have HKB := Lib.hid KB; clear KT KL2 KL3 KB b0 b1 hn3 hby ho hblk hal6; have b0 := box_upd HB3.out (i := 0) rfl; have b1 := box_upd HB3.out (i := 1) rfl)
          | (go_at_call 15; refine callRet (HKL2.out _ (Upd.refl _ _)) ?_; rintro v w4 ⟨rfl, rfl⟩)
          | (go_at_call 12; refine callRet (KSC.out _ HU3.out) ?_; rintro v w5 ⟨hn5, ts, code, a5, c5, rfl, hp5, hsi⟩; have HU5 : Hid (New w w5) := HU3.out.andNew hn5; have HB5 := Lib.hid (HB3.out.andNew hn5); have HN5 : Hid (New w3 w5) := Lib.hid hn5; clear b0 b1 hn5; have b0 := box_upd HB5.out (i := 0) rfl; have b1 := box_upd HB5.out (i := 1) rfl; obtain ⟨h6, h7⟩ := hsi.fits hlim1 (by have := HLG.out; omega) (by have := HTL.out; omega); subst h6; subst h7; rw [HTL.out]; have HP5 := Lib.hid hp5; clear hsi hp5)
          | (go_at_call 10; refine callRet (HKT.out _ HN5.out) ?_; rintro v w6 ⟨hn6, a4, c4, rfl, hp4⟩; rw [HTL.out]; have HU6 : Hid (New w w6) := HU5.out.andNew hn6; have HB6 := Lib.hid (HB5.out.andNew hn6); have HN6 : Hid (New w3 w6) := HN5.out.andNew hn6; have hc4 := hp4.1; have hc5 := hp4.2.1; rw [HTL.out] at hc4; unfold maxLen at hc5; clear b0 b1; have b0 := box_upd HB6.out (i := 0) rfl; have b1 := box_upd HB6.out (i := 1) rfl; have KA := alike (HP5.out.new hn6) hp4; rw [HTL.out] at KA; have HKA := Lib.hid KA; clear KA hn6 hp4)
          | (go_at_call 13; refine callRet HKA.out ?_; rintro v w7 ⟨rfl, rfl⟩)
          | (go_at_call 14; refine callRet (scCode _ _ _ _) ?_; rintro v w7 ⟨hn7, rfl⟩; have HU7 : Hid (New w w7) := HU6.out.andNew hn7; clear hn7))
            all_goals (go_ret; exact ⟨rfl, HU7.out⟩)
          · have q9 : decide ((lg : Int) + 2 < (lim : Int)) = false := decide_eq_false (by omega)
            by_cases hlong : lim + 2 < lg
            · by_cases hah9 : ah3 = ah
              · subst hah9
                go_enter Tryd.func4, Tryd.ntmps4
                go_upto_region 14 with (first
          | (go_at_call 8; refine callRet (zzFits1 _ _ _ _ _ (HP.out.new ((Upd.refl _ _).alloc _))) ?_; rintro v w1 ⟨h1, rfl⟩; have HU1 : Hid (New w w1) := ((Upd.refl _ _).alloc _).andNew h1; have HB1 : Hid (BoxUpd w #[.slice a ps.length c, .bool f] w1) := h1.new; have b0 := box_upd HB1.out (i := 0) rfl; have b1 := box_upd HB1.out (i := 1) rfl; clear h1; rw [HF.out])
          | (go_at_call 9; refine callRet (spoken _ _ _ _ _ _ (HP.out.new HU1.out) HF.out) ?_; rintro v w2 ⟨h1, rfl⟩; have HU2 : Hid (New w w2) := HU1.out.andNew h1; have HB2 := Lib.hid (HB1.out.andNew h1); clear h1 b0 b1; have b0 := box_upd HB2.out (i := 0) rfl; have b1 := box_upd HB2.out (i := 1) rfl; rw [HS.out])
          | (go_at_call 11; refine callRet (KJ.out _ HU2.out) ?_; intro v w3 h3; obtain ⟨hn3, g, cg, rfl, ho⟩ := h3; have hby := (BytesA.owned ho).2; have HU3 : Hid (New w w3) := HU2.out.andNew hn3; have HB3 := Lib.hid (HB2.out.andNew hn3); have hblk : ByteBlk w3 (some ⟨g, 0, none⟩) al := (fun p hp _ => by simp only [Option.some.injEq] at hp; subst hp; exact (ownsRow_block ho rfl).2); have hal6 : al.length ≤ 1000000 := (by have := HAL.out; omega); have KT := fun wx (hx : New w3 wx) => specTokens (k := 3) (by omega) (hby.new hx) (hblk.upd hx (fun _ _ h _ => h)) hal6; have KL2 := fun wx (hx : New w3 wx) => specLongest (hby.new hx) hal6 ((lim : Int) + 2); have KL3 := fun wx (hx : New w3 wx) => specLongest (hby.new hx) hal6 ((lim : Int) - 3); have KB := fun wx (hx : New w3 wx) => between (hby.new hx) hal6 lim (by omega) rfl rfl HAH3.out HAH.out; rw [HAN.out] at KT KL2 KL3 KB ⊢; rw [HLG.out, HAH.out] at KL2; rw [HLG.out, HAH3.out] at KL3; have HKT := Lib.hid KT; have HKL2 := Lib.hid KL2; have HKL3 := Lib.hid KL3; have HKB := Lib.hid KB; clear KT KL2 KL3 KB b0 b1 hn3 hby ho hblk hal6; have b0 := box_upd HB3.out (i := 0) rfl; have b1 := box_upd HB3.out (i := 1) rfl)
          | (go_at_call 15; refine callRet (HKL2.out _ (Upd.refl _ _)) ?_; rintro v w4 ⟨rfl, rfl⟩)
          | (go_at_call 12; refine callRet (KSC.out _ HU3.out) ?_; rintro v w5 ⟨hn5, ts, code, a5, c5, rfl, hp5, hsi⟩; have HU5 : Hid (New w w5) := HU3.out.andNew hn5; have HB5 := Lib.hid (HB3.out.andNew hn5); have HN5 : Hid (New w3 w5) := Lib.hid hn5; clear b0 b1 hn5; have b0 := box_upd HB5.out (i := 0) rfl; have b1 := box_upd HB5.out (i := 1) rfl; obtain ⟨h6, h7, h8⟩ := hsi.long (by have := HLG.out; omega) (HAH3.out.trans HAH.out.symm) (by have := HTL.out; omega); rw [HAH.out] at h7 h8; rw [HTL.out] at h8; subst h6; subst h7; have HTK : Hid (((tokens 3 al).take ah3).length = ah3) := Lib.hid (by rw [List.length_take, HTL.out]; omega); rw [HTK.out]; have HP5 := Lib.hid hp5; clear hsi hp5)
          | (go_at_call 10; refine callRet (HKT.out _ HN5.out) ?_; rintro v w6 ⟨hn6, a4, c4, rfl, hp4⟩; rw [HTL.out]; have HU6 : Hid (New w w6) := HU5.out.andNew hn6; have HB6 := Lib.hid (HB5.out.andNew hn6); have HN6 : Hid (New w3 w6) := HN5.out.andNew hn6; have hc4 := hp4.1; have hc5 := hp4.2.1; rw [HTL.out] at hc4; unfold maxLen at hc5; clear b0 b1; have b0 := box_upd HB6.out (i := 0) rfl; have b1 := box_upd HB6.out (i := 1) rfl; have KA := alike (HP5.out.new hn6) (hp4.take ah3); rw [HTK.out] at KA; have HKA := Lib.hid KA; clear KA hn6 hp4))
                go_wp2_with (first
          | (go_at_call 15; refine callRet (HKL3.out _ HN6.out) ?_; rintro v w7 ⟨rfl, rfl⟩)
          | (go_at_call 16; refine callRet (HKB.out _ HN6.out) ?_; rintro v w7 ⟨rfl, rfl⟩)
          | (go_at_call 13; refine callRet HKA.out ?_; rintro v w7 ⟨rfl, rfl⟩))
                go_ret
                exact ⟨rfl, HU6.out⟩
              · go_enter Tryd.func4, Tryd.ntmps4
                go_upto_region 14 with (first
          | (go_at_call 8; refine callRet (zzFits1 _ _ _ _ _ (HP.out.new ((Upd.refl _ _).alloc _))) ?_; rintro v w1 ⟨h1, rfl⟩; have HU1 : Hid (New w w1) := ((Upd.refl _ _).alloc _).andNew h1; have HB1 : Hid (BoxUpd w #[.slice a ps.length c, .bool f] w1) := h1.new; have b0 := box_upd HB1.out (i := 0) rfl; have b1 := box_upd HB1.out (i := 1) rfl; clear h1; rw [HF.out])
          | (go_at_call 9; refine callRet (spoken _ _ _ _ _ _ (HP.out.new HU1.out) HF.out) ?_; rintro v w2 ⟨h1, rfl⟩; have HU2 : Hid (New w w2) := HU1.out.andNew h1; have HB2 := Lib.hid (HB1.out.andNew h1); clear h1 b0 b1; have b0 := box_upd HB2.out (i := 0) rfl; have b1 := box_upd HB2.out (i := 1) rfl; rw [HS.out])
          | (go_at_call 11; refine callRet (KJ.out _ HU2.out) ?_; intro v w3 h3; obtain ⟨hn3, g, cg, rfl, ho⟩ := h3; have hby := (BytesA.owned ho).2; have HU3 : Hid (New w w3) := HU2.out.andNew hn3; have HB3 := Lib.hid (HB2.out.andNew hn3); have hblk : ByteBlk w3 (some ⟨g, 0, none⟩) al := (fun p hp _ => by simp only [Option.some.injEq] at hp; subst hp; exact (ownsRow_block ho rfl).2); have hal6 : al.length ≤ 1000000 := (by have := HAL.out; omega); have KT := fun wx (hx : New w3 wx) => specTokens (k := 3) (by omega) (hby.new hx) (hblk.upd hx (fun _ _ h _ => h)) hal6; have KL2 := fun wx (hx : New w3 wx) => specLongest (hby.new hx) hal6 ((lim : Int) + 2); have KL3 := fun wx (hx : New w3 wx) => specLongest (hby.new hx) hal6 ((lim : Int) - 3); have KB := fun wx (hx : New w3 wx) => between (hby.new hx) hal6 lim (by omega) rfl rfl HAH3.out HAH.out; rw [HAN.out] at KT KL2 KL3 KB ⊢; rw [HLG.out, HAH.out] at KL2; rw [HLG.out, HAH3.out] at KL3; have HKT := Lib.hid KT; have HKL2 := Lib.hid KL2; have HKL3 := Lib.hid KL3; have HKB := Lib.hid KB; clear KT KL2 KL3 KB b0 b1 hn3 hby ho hblk hal6; have b0 := box_upd HB3.out (i := 0) rfl; have b1 := box_upd HB3.out (i := 1) rfl)
          | (go_at_call 15; refine callRet (HKL2.out _ (Upd.refl _ _)) ?_; rintro v w4 ⟨rfl, rfl⟩)
          | (go_at_call 12; refine callRet (KSC.out _ HU3.out) ?_; rintro v w5 ⟨hn5, ts, code, a5, c5, rfl, hp5, hsi⟩; have HU5 : Hid (New w w5) := HU3.out.andNew hn5; have HB5 := Lib.hid (HB3.out.andNew hn5); have HN5 : Hid (New w3 w5) := Lib.hid hn5; clear b0 b1 hn5; have b0 := box_upd HB5.out (i := 0) rfl; have b1 := box_upd HB5.out (i := 1) rfl; clear hsi hp5)
          | (go_at_call 10; refine callRet (HKT.out _ HN5.out) ?_; rintro v w6 ⟨hn6, a4, c4, rfl, hp4⟩; rw [HTL.out]; have HU6 : Hid (New w w6) := HU5.out.andNew hn6; have HB6 := Lib.hid (HB5.out.andNew hn6); have HN6 : Hid (New w3 w6) := HN5.out.andNew hn6; have hc4 := hp4.1; have hc5 := hp4.2.1; rw [HTL.out] at hc4; unfold maxLen at hc5; clear b0 b1; have b0 := box_upd HB6.out (i := 0) rfl; have b1 := box_upd HB6.out (i := 1) rfl; clear hn6 hp4))
                go_wp2_with (first
          | (go_at_call 15; refine callRet (HKL3.out _ HN6.out) ?_; rintro v w7 ⟨rfl, rfl⟩)
          | (go_at_call 16; refine callRet (HKB.out _ HN6.out) ?_; rintro v w7 ⟨rfl, rfl⟩))
                go_ret
                exact ⟨rfl, HU6.out⟩
            · go_enter Tryd.func4, Tryd.ntmps4
              go_upto_region 14 with (first
          | (go_at_call 8; refine callRet (zzFits1 _ _ _ _ _ (HP.out.new ((Upd.refl _ _).alloc _))) ?_; rintro v w1 ⟨h1, rfl⟩; have HU1 : Hid (New w w1) := ((Upd.refl _ _).alloc _).andNew h1; have HB1 : Hid (BoxUpd w #[.slice a ps.length c, .bool f] w1) := h1.new; have b0 := box_upd HB1.out (i := 0) rfl; have b1 := box_upd HB1.out (i := 1) rfl; clear h1; rw [HF.out])
          | (go_at_call 9; refine callRet (spoken _ _ _ _ _ _ (HP.out.new HU1.out) HF.out) ?_; rintro v w2 ⟨h1, rfl⟩; have HU2 : Hid (New w w2) := HU1.out.andNew h1; have HB2 := Lib.hid (HB1.out.andNew h1); clear h1 b0 b1; have b0 := box_upd HB2.out (i := 0) rfl; have b1 := box_upd HB2.out (i := 1) rfl; rw [HS.out])
          | (go_at_call 11; refine callRet (KJ.out _ HU2.out) ?_; intro v w3 h3; obtain ⟨hn3, g, cg, rfl, ho⟩ := h3; have hby := (BytesA.owned ho).2; have HU3 : Hid (New w w3) := HU2.out.andNew hn3; have HB3 := Lib.hid (HB2.out.andNew hn3); have hblk : ByteBlk w3 (some ⟨g, 0, none⟩) al := (fun p hp _ => by simp only [Option.some.injEq] at hp; subst hp; exact (ownsRow_block ho rfl).2); have hal6 : al.length ≤ 1000000 := (by have := HAL.out; omega); have KT := fun wx (hx : New w3 wx) => specTokens (k := 3) (by omega) (hby.new hx) (hblk.upd hx (fun _ _ h _ => h)) hal6; have KL2 := fun wx (hx : New w3 wx) => specLongest (hby.new hx) hal6 ((lim : Int) + 2); have KL3 := fun wx (hx : New w3 wx) => specLongest (hby.new hx) hal6 ((lim : Int) - 3); have KB := fun wx (hx : New w3 wx) => between (hby.new hx) hal6 lim (by omega) rfl rfl HAH3.out HAH.out; rw [HAN.out] at KT KL2 KL3 KB ⊢; rw [HLG.out, HAH.out] at KL2; rw [HLG.out, HAH3.out] at KL3; have HKT := Lib.hid KT; have HKL2 := Lib.hid KL2; have HKL3 := Lib.hid KL3; have HKB := Lib.hid KB; clear KT KL2 KL3 KB b0 b1 hn3 hby ho hblk hal6; have b0 := box_upd HB3.out (i := 0) rfl; have b1 := box_upd HB3.out (i := 1) rfl)
          | (go_at_call 15; refine callRet (HKL2.out _ (Upd.refl _ _)) ?_; rintro v w4 ⟨rfl, rfl⟩)
          | (go_at_call 12; refine callRet (KSC.out _ HU3.out) ?_; rintro v w5 ⟨hn5, ts, code, a5, c5, rfl, hp5, hsi⟩; have HU5 : Hid (New w w5) := HU3.out.andNew hn5; have HB5 := Lib.hid (HB3.out.andNew hn5); have HN5 : Hid (New w3 w5) := Lib.hid hn5; clear b0 b1 hn5; have b0 := box_upd HB5.out (i := 0) rfl; have b1 := box_upd HB5.out (i := 1) rfl; clear hsi hp5)
          | (go_at_call 10; refine callRet (HKT.out _ HN5.out) ?_; rintro v w6 ⟨hn6, a4, c4, rfl, hp4⟩; rw [HTL.out]; have HU6 : Hid (New w w6) := HU5.out.andNew hn6; have HB6 := Lib.hid (HB5.out.andNew hn6); have HN6 : Hid (New w3 w6) := HN5.out.andNew hn6; have hc4 := hp4.1; have hc5 := hp4.2.1; rw [HTL.out] at hc4; unfold maxLen at hc5; clear b0 b1; have b0 := box_upd HB6.out (i := 0) rfl; have b1 := box_upd HB6.out (i := 1) rfl; clear hn6 hp4))
              go_wp2_with (first
                | (go_at_call 15; refine callRet (HKL3.out _ HN6.out) ?_; rintro v w7 ⟨rfl, rfl⟩))
              go_ret
              exact ⟨rfl, HU6.out⟩
end fnScanLong
end Go.Proofs.YtgbbogocfmepiaaDoor
