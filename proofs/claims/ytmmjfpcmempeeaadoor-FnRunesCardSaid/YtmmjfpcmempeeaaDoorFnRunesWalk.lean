/- The law FnRunes, walked. -/
import Derived.Test.YtmmjfpcmempeeaaDoorImplRn
import Derived.Test.YtmmjfpcmempeeaaDoorEqG
import Derived.Test.YtmmjfpcmempeeaaDoorSpecRune
import Derived.Test.YtmmjfpcmempeeaaDoorLawKit
namespace Go.Proofs.YtmmjfpcmempeeaaDoor.fnRunes
open Go.RowKit
/-- what the law holds in its loop -/
structure Rn (w W0 : World) (bx : Array Value) (g o c : Nat) (l : List UInt8) (wr : World) (v8 v9 : Value) (ls cs : List Nat) : Prop where
  bs : BytesA wr (some ⟨g, o, none⟩) c l
  ls : OwnG 21 fI32 W0.heap.size wr v8 ls
  cs : OwnG 3 fI64 W0.heap.size wr v9 cs
  new : New w wr
  bx : BoxUpd w bx wr
  hi : W0.heap.size ≤ wr.heap.size
theorem Rn.newB {w W0 wr w2 : World} {bx : Array Value} {g o c : Nat} {l : List UInt8} {v8 v9 : Value} {ls cs : List Nat} (h : Rn w W0 bx g o c l wr v8 v9 ls cs) (u : New wr w2) : Rn w W0 bx g o c l w2 v8 v9 ls cs :=
  ⟨h.bs.new u, h.ls.new u, h.cs.new u, h.new.andNew u, h.bx.andNew u, Nat.le_trans h.hi u.size⟩
theorem Rn.one {w W0 w1 w2 w3 : World} {bx : Array Value} {g o c x : Nat} {l : List UInt8} {v8 v9 v' : Value} {ls cs : List Nat} (h : Rn w W0 bx g o c l w1 v8 v9 ls cs) (hg : g < W0.heap.size) (hw : w.heap.size < W0.heap.size) (h12 : New w1 w2)
    (ho : w3.ownsRow W0.heap.size 21 1 v' (ls.length + 1) (ls.map fI32 ++ [fI32 x])) (hgr : w2.grownBy w3 v8.ownBlock) : Rn w W0 bx g o c l w3 v' v9 (ls ++ [x]) cs := by
  obtain ⟨h1, h2⟩ := OwnG.grow h.ls h12 ho hgr
  have hn := h.newB h12
  exact ⟨hn.bs.upd h2 (fun p hp _ hh => by simp only [Option.some.injEq] at hp; subst hp; have h1 : W0.heap.size ≤ g := hh.1; omega), h1, hn.cs.upd h2 (fun k cur hm _ hc => by obtain ⟨_, cur', q⟩ := hm; rw [hc] at q; simp at q), hn.new.trans h2 (fun k hk hlt => by have := hk.1; omega), hn.bx.trans h2 (fun k hk _ => by have := hk.1; show w.heap.size < k; omega), Nat.le_trans hn.hi h2.size⟩
theorem Rn.two {w W0 w1 w2 w3 : World} {bx : Array Value} {g o c x : Nat} {l : List UInt8} {v8 v9 v' : Value} {ls cs : List Nat} (h : Rn w W0 bx g o c l w1 v8 v9 ls cs) (hg : g < W0.heap.size) (hw : w.heap.size < W0.heap.size) (h12 : New w1 w2)
    (ho : w3.ownsRow W0.heap.size 3 1 v' (cs.length + 1) (cs.map fI64 ++ [fI64 x])) (hgr : w2.grownBy w3 v9.ownBlock) : Rn w W0 bx g o c l w3 v8 v' ls (cs ++ [x]) := by
  obtain ⟨h1, h2⟩ := OwnG.grow h.cs h12 ho hgr
  have hn := h.newB h12
  exact ⟨hn.bs.upd h2 (fun p hp _ hh => by simp only [Option.some.injEq] at hp; subst hp; have h1 : W0.heap.size ≤ g := hh.1; omega), hn.ls.upd h2 (fun k cur hm _ hc => by obtain ⟨_, cur', q⟩ := hm; rw [hc] at q; simp at q), h1, hn.new.trans h2 (fun k hk hlt => by have := hk.1; omega), hn.bx.trans h2 (fun k hk _ => by have := hk.1; show w.heap.size < k; omega), Nat.le_trans hn.hi h2.size⟩
set_option maxRecDepth 100000 in
set_option maxHeartbeats 4000000 in
theorem walk {S : Err → Addr} {B : Nat} {w : World} (E : Env S B w) (T : TabsB B w) (a : Option Addr) (c : Nat) (ps : List (List UInt8)) (f : Bool) (size : Int) (n : Nat) (h : PiecesA w a c ps) (hn : n ≤ 65535) :
    Calls Tryd.prog 3 #[.agg #[.slice a ps.length c, .bool f], .int .i16 size, .int .u16 (n : Int)] w (Ret fun v w' => v = .bool true ∧ New w w') := by
  have HE := Lib.hid E
  have HT := Lib.hid T
  have HP := Lib.hid h
  clear E T h
  cases hfit : fits2 ps with
  | false =>
    have HF := Lib.hid hfit
    clear hfit
    go_enter Tryd.func3, Tryd.ntmps3
    go_wp2_with (go_at_call 9; refine callRet (zzFits1 _ _ _ _ _ (HP.out.new ((Upd.refl _ _).alloc _))) ?_; rintro v w1 ⟨h1, rfl⟩; have HU1 : Hid (New w w1) := ((Upd.refl _ _).alloc _).andNew h1; have HB1 : Hid (BoxUpd w #[.slice a ps.length c, .bool f] w1) := h1.new; have b0 := box_upd HB1.out (i := 0) rfl; have b1 := box_upd HB1.out (i := 1) rfl; clear h1; rw [HF.out])
    go_ret
    exact ⟨rfl, HU1.out⟩
  | true =>
    have HF := Lib.hid hfit
    clear hfit
    cases hsp : spokenB ps size with
    | false =>
      have HS := Lib.hid hsp
      clear hsp
      go_enter Tryd.func3, Tryd.ntmps3
      go_wp2_with (first | (go_at_call 9; refine callRet (zzFits1 _ _ _ _ _ (HP.out.new ((Upd.refl _ _).alloc _))) ?_; rintro v w1 ⟨h1, rfl⟩; have HU1 : Hid (New w w1) := ((Upd.refl _ _).alloc _).andNew h1; have HB1 : Hid (BoxUpd w #[.slice a ps.length c, .bool f] w1) := h1.new; have b0 := box_upd HB1.out (i := 0) rfl; have b1 := box_upd HB1.out (i := 1) rfl; clear h1; rw [HF.out]) | (go_at_call 10; refine callRet (spoken _ _ _ _ _ _ (HP.out.new HU1.out) HF.out) ?_; rintro v w2 ⟨h1, rfl⟩; have HU2 : Hid (New w w2) := HU1.out.andNew h1; have HB2 := Lib.hid (HB1.out.andNew h1); clear h1 b0 b1; have b0 := box_upd HB2.out (i := 0) rfl; have b1 := box_upd HB2.out (i := 1) rfl; rw [HS.out]))
      go_ret
      exact ⟨rfl, HU2.out⟩
    | true =>
      obtain ⟨hl1, hl2, hl3, sz, rfl, hsz⟩ := spokenB_spec hsp
      have HS := Lib.hid hsp
      have HN2 := Lib.hid hl2
      have HN3 := Lib.hid hl3
      obtain ⟨all, hall⟩ : ∃ all, ps.flatten = all := ⟨_, rfl⟩
      have HALL := Lib.hid hall
      obtain ⟨m, hm⟩ : ∃ m, all.length = m := ⟨_, rfl⟩
      have HM := Lib.hid hm
      have hm20 : m ≤ 20000 := by rw [← hm, ← hall]; exact hl2
      clear hsp hl2 hl3 hall hm
      go_enter Tryd.func3, Tryd.ntmps3
      go_wp2_with (first | (go_at_call 9; refine callRet (zzFits1 _ _ _ _ _ (HP.out.new ((Upd.refl _ _).alloc _))) ?_; rintro v w1 ⟨h1, rfl⟩; have HU1 : Hid (New w w1) := ((Upd.refl _ _).alloc _).andNew h1; have HB1 : Hid (BoxUpd w #[.slice a ps.length c, .bool f] w1) := h1.new; have b0 := box_upd HB1.out (i := 0) rfl; have b1 := box_upd HB1.out (i := 1) rfl; clear h1; rw [HF.out]) | (go_at_call 10; refine callRet (spoken _ _ _ _ _ _ (HP.out.new HU1.out) HF.out) ?_; rintro v w2 ⟨h1, rfl⟩; have HU2 : Hid (New w w2) := HU1.out.andNew h1; have HB2 := Lib.hid (HB1.out.andNew h1); clear h1 b0 b1; have b0 := box_upd HB2.out (i := 0) rfl; have b1 := box_upd HB2.out (i := 1) rfl; rw [HS.out]) | (go_at_call 11; refine callRet (specJoined _ _ _ _ (HP.out.new HU2.out) (by have := HN2.out; omega)) ?_; intro v w3 h1; have HU3 : Hid (New w w3) := HU2.out.andNew h1.1; have HB3 := Lib.hid (HB2.out.andNew h1.1); clear b0 b1; obtain ⟨g, cg, rfl, hg1, hg2, hby⟩ := h1.bytes; clear h1; rw [HALL.out] at hby; rw [HALL.out, HM.out]; have HBY := Lib.hid hby; have HG2 := Lib.hid hg2; clear hby hg1 hg2))
      go_loopw [7, 8, 9, 10, 30] (fun vl v8 v9 v10 i wr => v10 = .int .i64 0 ∧ ∃ (k : Nat) (l : List UInt8) (ml o cl : Nat) (ls cs : List Nat), i = .int .i64 (k : Int) ∧ k ≤ n ∧ vl = .slice (some ⟨g, o, none⟩) ml cl ∧ l.length = ml ∧ ml ≤ 20000 ∧ ls.length = k ∧ cs.length = k ∧ Rn w w3 #[.slice a ps.length c, .bool f] g o cl l wr v8 v9 ls cs ∧ runR n all = ((ls ++ (runR (n - k) l).1.1, cs ++ (runR (n - k) l).1.2), (runR (n - k) l).2)) (fun _ _ _ _ i _ => n - (intOf i).toNat)
      case atStart =>
        have hn2 : New w3 ((w3.alloc (.cells #[] 21)).alloc (.cells #[] 3)) := ((Upd.refl _ _).alloc _).alloc _
        refine ⟨rfl, 0, all, m, 0, cg, [], [], rfl, Nat.zero_le _, rfl, HM.out, hm20, rfl, rfl, ⟨HBY.out.new hn2, ?_, ?_, HU3.out.andNew hn2, HB3.out.andNew hn2, hn2.size⟩, rfl⟩
        · exact ownsRow_new (World.ownsRow_made w3 #[] 0 (Nat.le_refl _) (Nat.zero_le _) rfl) ((Upd.refl _ _).alloc _)
        · have : ((w3.alloc (.cells #[] 21)).alloc (.cells #[] 3)).ownsRow w3.heap.size 3 1 (.slice (some ⟨(w3.alloc (.cells #[] 21)).heap.size, 0, none⟩) 0 0) 0 [] := World.ownsRow_made _ #[] 0 (by simp) (Nat.zero_le _) rfl
          simpa [OwnG] using this
      case round =>
        obtain ⟨rfl, k, l, ml, o, cl, ls, cs, rfl, hkn, rfl, hml, hml2, hls, hcs, hB, hrun⟩ := hrel
        have HB := Lib.hid hB
        have HRUN := Lib.hid hrun
        have HLS := Lib.hid hls
        have HCS := Lib.hid hcs
        have HML := Lib.hid hml
        have b0 := box_upd HB.out.bx (i := 0) rfl
        have b1 := box_upd HB.out.bx (i := 1) rfl
        have lc : ml ≤ cl := by have := HB.out.bs.1; rwa [HML.out] at this
        have lm : cl ≤ 9223372036854775807 := HB.out.bs.2.1
        clear hB hrun hls hcs hml
        by_cases hlt : k < n
        · have HR2 : Hid (runR (n - k) l = if l.length = 0 then (([], []), true) else (((dec l).1 :: (runR (n - (k + 1)) (l.drop (dec l).2)).1.1, (dec l).2 :: (runR (n - (k + 1)) (l.drop (dec l).2)).1.2), (runR (n - (k + 1)) (l.drop (dec l).2)).2)) := by
            have hnk : n - k = (n - (k + 1)) + 1 := by omega
            rw [Hid, hnk]; rfl
          by_cases h0 : ml = 0
          · have q0 : ((ml : Int) == 0) = true := by rw [beq_iff_eq]; omega
            have HRS : Hid (runR n all = ((ls, cs), true)) := by rw [Hid, HRUN.out, HR2.out, if_pos (by rw [HML.out]; exact h0)]; simp
            obtain ⟨a1, c1, rfl, hpa⟩ := HB.out.ls.read
            obtain ⟨a2, c2, rfl, hia⟩ := HB.out.cs.read
            have HPA0 := Lib.hid hpa
            have HIA0 := Lib.hid hia
            clear hpa hia h0
            go_wp2_with (first | (go_at_call 12; refine callRet (specEndC _ _ _ f _) ?_; rintro v w4 ⟨h4, rfl⟩; have HSL := Lib.hid (HB.out.newB h4); have HPA := Lib.hid (HPA0.out.new h4); have HIA := Lib.hid (HIA0.out.new h4); clear b0 b1; have b0 := box_upd HSL.out.bx (i := 0) rfl; have b1 := box_upd HSL.out.bx (i := 1) rfl; clear h4) | (first | (go_at_call 14; refine callRet (implRunes f (HE.out.new HSL.out.new) (HT.out.new HSL.out.new) (HP.out.new HSL.out.new) HN2.out hl1 hsz HN3.out hn) ?_; rw [HALL.out, HRS.out]; rintro v w5 ⟨hn5, a5, b5, c5, e5, rfl, hp5, hi5⟩; have HU5 : Hid (New w w5) := HSL.out.new.andNew hn5; have HP5 := Lib.hid hp5; have HI5 := Lib.hid hi5; have HP6 := Lib.hid (HPA.out.new hn5); have HI6 := Lib.hid (HIA.out.new hn5); clear hn5 hp5 hi5) | (go_at_call 15; refine callRet (equalRunes HP5.out HP6.out) ?_; rintro v w6 ⟨h7, rfl⟩; have HU6 : Hid (New w w6) := HU5.out.andNew h7; have HI7 := Lib.hid (HI5.out.new h7); have HI8 := Lib.hid (HI6.out.new h7); clear h7) | (go_at_call 16; refine callRet (equalIntsG HI7.out HI8.out) ?_; rintro v w7 ⟨h7, rfl⟩; have HU7 : Hid (New w w7) := HU6.out.andNew h7; clear h7)))
            go_ret
            exact ⟨rfl, HU7.out⟩
          · have q0 : ((ml : Int) == 0) = false := by rw [beq_eq_false_iff_ne]; omega
            have hl0 : 0 < l.length := by rw [HML.out]; omega
            have hp := dec_pos hl0
            rw [HML.out] at hp
            have KR := specRune HB.out.bs hl0
            obtain ⟨K, hK⟩ : ∃ K, (dec l).2 = K := ⟨_, rfl⟩
            obtain ⟨R, hR⟩ : ∃ R, (dec l).1 = R := ⟨_, rfl⟩
            rw [hK] at hp
            rw [HML.out, hK, hR] at KR
            rw [hK, hR] at HR2
            have HKR := Lib.hid KR
            have hp2 : K ≤ ml := hp.2.1
            have HNX : Hid (runR n all = ((ls ++ [R] ++ (runR (n - (k + 1)) (l.drop K)).1.1, cs ++ [K] ++ (runR (n - (k + 1)) (l.drop K)).1.2), (runR (n - (k + 1)) (l.drop K)).2)) := by
              rw [Hid, HRUN.out, HR2.out, if_neg (by rw [HML.out]; exact h0)]; simp
            have hg0 : g < w3.heap.size := HG2.out
            have hw0 : w.heap.size < w3.heap.size := boxLt HB3.out
            have HLD : Hid ((l.drop K).length = ml - K) := by rw [Hid, List.length_drop, HML.out]
            clear KR hK hR h0 hl0 hp
            obtain ⟨o', c', ho⟩ : ∃ o' c', (cl = K ∧ o' = o ∧ c' = 0) ∨ (cl ≠ K ∧ o' = o + K ∧ c' = cl - K) := by
              by_cases hcr : cl = K
              · exact ⟨_, _, .inl ⟨hcr, rfl, rfl⟩⟩
              · exact ⟨_, _, .inr ⟨hcr, rfl, rfl⟩⟩
            have HOR := Lib.hid ho
            have HSUF : Hid (∀ wx v8 v9 ls' cs', Rn w w3 #[.slice a ps.length c, .bool f] g o cl l wx v8 v9 ls' cs' → Rn w w3 #[.slice a ps.length c, .bool f] g o' c' (l.drop K) wx v8 v9 ls' cs') := fun wx v8 v9 ls' cs' hr => by
              have hb := hr.bs.sub (lo := K) (hi := l.length) (by rw [HML.out]; exact hp2) (Nat.le_refl _) HOR.out
              rw [List.take_length] at hb
              exact ⟨hb, hr.ls, hr.cs, hr.new, hr.bx, hr.hi⟩
            rcases ho with ⟨hcr, rfl, rfl⟩ | ⟨hcr, rfl, rfl⟩
            · obtain rfl : K = cl := hcr.symm
              go_wp2_with (first | (go_at_call 13; refine callRet HKR.out ?_; rintro v w4 ⟨rfl, rfl⟩) | (at_builtin; refine wpList_plain rfl (fun K' hK => ?_); refine wp_append eR (.tmp 42) (.tmp 44) rfl w3.heap.size _ _ _ rfl (HB.out.newB ((Upd.refl _ _).alloc _)).ls (some ⟨wr.heap.size, 0, none⟩) 1 1 [.int .i32 (R : Int)] rfl rfl (fun h => by cases h) box_news (by simp [Value.oneCell']) (by unfold maxLen; rw [HLS.out]; omega) (by rw [HLS.out]; omega) (Nat.le_trans HB.out.hi ((Upd.refl (fun _ => False) _).alloc _).size) ?_; intro v4 w4 h1 h2 h3; have HB4 := Lib.hid (HB.out.one (x := R) hg0 hw0 ((Upd.refl _ _).alloc _) h1 h2); refine hK _ _ ?_; clear hK K' h1 h2 h3) | (at_builtin; refine wpList_plain rfl (fun K' hK => ?_); refine wp_append eI (.tmp 46) (.tmp 48) rfl w3.heap.size _ _ _ rfl (HB4.out.newB ((Upd.refl _ _).alloc _)).cs (some ⟨w4.heap.size, 0, none⟩) 1 1 [.int .i64 (K : Int)] rfl rfl (fun h => by cases h) box_news (by simp [Value.oneCell']) (by unfold maxLen; rw [HCS.out]; omega) (by rw [HCS.out]; omega) (Nat.le_trans HB4.out.hi ((Upd.refl (fun _ => False) _).alloc _).size) ?_; intro v6 w6 h1 h2 h3; have HB6 := Lib.hid (HB4.out.two (x := K) hg0 hw0 ((Upd.refl _ _).alloc _) h1 h2); refine hK _ _ ?_; clear hK K' h1 h2 h3))
              go_roundw
              case rel => exact ⟨rfl, k + 1, l.drop K, 0, _, _, ls ++ [R], cs ++ [K], by go_num, by omega, rfl, (by rw [HLD.out]; omega), by omega, by rw [List.length_append, HLS.out]; rfl, by rw [List.length_append, HCS.out]; rfl, HSUF.out _ _ _ _ _ HB6.out, HNX.out⟩
              case measure => simp [intOf]; omega
            · go_wp2_with (first | (go_at_call 13; refine callRet HKR.out ?_; rintro v w4 ⟨rfl, rfl⟩) | (at_builtin; refine wpList_plain rfl (fun K' hK => ?_); refine wp_append eR (.tmp 42) (.tmp 44) rfl w3.heap.size _ _ _ rfl (HB.out.newB ((Upd.refl _ _).alloc _)).ls (some ⟨wr.heap.size, 0, none⟩) 1 1 [.int .i32 (R : Int)] rfl rfl (fun h => by cases h) box_news (by simp [Value.oneCell']) (by unfold maxLen; rw [HLS.out]; omega) (by rw [HLS.out]; omega) (Nat.le_trans HB.out.hi ((Upd.refl (fun _ => False) _).alloc _).size) ?_; intro v4 w4 h1 h2 h3; have HB4 := Lib.hid (HB.out.one (x := R) hg0 hw0 ((Upd.refl _ _).alloc _) h1 h2); refine hK _ _ ?_; clear hK K' h1 h2 h3) | (at_builtin; refine wpList_plain rfl (fun K' hK => ?_); refine wp_append eI (.tmp 46) (.tmp 48) rfl w3.heap.size _ _ _ rfl (HB4.out.newB ((Upd.refl _ _).alloc _)).cs (some ⟨w4.heap.size, 0, none⟩) 1 1 [.int .i64 (K : Int)] rfl rfl (fun h => by cases h) box_news (by simp [Value.oneCell']) (by unfold maxLen; rw [HCS.out]; omega) (by rw [HCS.out]; omega) (Nat.le_trans HB4.out.hi ((Upd.refl (fun _ => False) _).alloc _).size) ?_; intro v6 w6 h1 h2 h3; have HB6 := Lib.hid (HB4.out.two (x := K) hg0 hw0 ((Upd.refl _ _).alloc _) h1 h2); refine hK _ _ ?_; clear hK K' h1 h2 h3))
              go_roundw
              case rel => exact ⟨rfl, k + 1, l.drop K, ml - K, _, _, ls ++ [R], cs ++ [K], by go_num, by omega, rfl, HLD.out, by omega, by rw [List.length_append, HLS.out]; rfl, by rw [List.length_append, HCS.out]; rfl, HSUF.out _ _ _ _ _ HB6.out, HNX.out⟩
              case measure => simp [intOf]; omega
        · obtain rfl : k = n := by omega
          have HSL := HB
          have HRS : Hid (runR k all = ((ls, cs), false)) := by rw [Hid, HRUN.out, Nat.sub_self]; simp [runR]
          obtain ⟨a1, c1, rfl, hpa⟩ := HSL.out.ls.read
          obtain ⟨a2, c2, rfl, hia⟩ := HSL.out.cs.read
          have HPA := Lib.hid hpa
          have HIA := Lib.hid hia
          clear hpa hia hlt hkn
          go_wp2_with (first | (go_at_call 14; refine callRet (implRunes f (HE.out.new HSL.out.new) (HT.out.new HSL.out.new) (HP.out.new HSL.out.new) HN2.out hl1 hsz HN3.out hn) ?_; rw [HALL.out, HRS.out]; rintro v w5 ⟨hn5, a5, b5, c5, e5, rfl, hp5, hi5⟩; have HU5 : Hid (New w w5) := HSL.out.new.andNew hn5; have HP5 := Lib.hid hp5; have HI5 := Lib.hid hi5; have HP6 := Lib.hid (HPA.out.new hn5); have HI6 := Lib.hid (HIA.out.new hn5); clear hn5 hp5 hi5) | (go_at_call 15; refine callRet (equalRunes HP5.out HP6.out) ?_; rintro v w6 ⟨h7, rfl⟩; have HU6 : Hid (New w w6) := HU5.out.andNew h7; have HI7 := Lib.hid (HI5.out.new h7); have HI8 := Lib.hid (HI6.out.new h7); clear h7) | (go_at_call 16; refine callRet (equalIntsG HI7.out HI8.out) ?_; rintro v w7 ⟨h7, rfl⟩; have HU7 : Hid (New w w7) := HU6.out.andNew h7; clear h7))
          go_ret
          exact ⟨rfl, HU7.out⟩
end Go.Proofs.YtmmjfpcmempeeaaDoor.fnRunes
