/- The law FnLines, walked. -/
import Derived.Test.YtnpalkndocokkaaDoorLnPure
import Derived.Test.YtnpalkndocokkaaDoorSpecNewT
import Derived.Test.YtnpalkndocokkaaDoorLawKit
import Derived.Test.YtnpalkndocokkaaDoorAlike
import Derived.Test.YtnpalkndocokkaaDoorEqB
import Derived.Deep.AppendLies
import Derived.Deep.DeepCutAuto
namespace Go.Proofs.YtnpalkndocokkaaDoor.fnLines
open Go.RowKit
/-- what the law holds in its loop -/
structure Sl (w W0 : World) (bx : Array Value) (rb g : Nat) (wr : World) (v10 v11 : Value) (s : SR) (ls : List (List UInt8)) (cs : List Bool) : Prop where
  sr : SRd wr rb g s
  ty : ∃ cur, wr.heap[g]? = some (.cells cur 5 (0, 0))
  ls : OwnL W0.heap.size (fun k => k = g) wr v10 ls
  cs : OwnG 4 fBool W0.heap.size wr v11 cs
  new : New w wr
  bx : BoxUpd w bx wr
  hi : W0.heap.size ≤ wr.heap.size
theorem want_wp {P : Program} {ops : Array Oper} {o : Oper} {a : Act} {w : World} {K : Act → World → Prop} {Q : Exit → Act → World → Prop} {E : Prop} (hg : o.guard = none) (h : o.wp P a w K Q) : if Region.wanted o (yielded ops a.tmps) = true then Oper.wp P o a w K Q else E := by
  rw [if_pos (by simp [Region.wanted, hg])]; exact h
/-- a line more; the block of its box stands as it was -/
theorem Sl.line {w W0 wN w2 w3 : World} {bx : Array Value} {rb g : Nat} {v10 v11 v' x : Value} {s : SR} {ls : List (List UInt8)} {cs : List Bool} {bs : List UInt8} {vs : List Value} (h : Sl w W0 bx rb g wN v10 v11 s ls cs) (h12 : New wN w2) (hg0 : g < W0.heap.size) (hrb : rb < W0.heap.size) (hw0 : w.heap.size < W0.heap.size)
    (hl : vs.length = ls.length) (ho1 : wN.ownsRow W0.heap.size 29 1 v10 ls.length vs) (hp : ∀ i, (h : i < ls.length) → ∃ u, vs[i]? = some u ∧ ElemB wN (fun k => k = g) u ls[i]) (hx : ElemB wN (fun k => k = g) x bs)
    (ho : w3.ownsRow W0.heap.size 29 1 v' (ls.length + 1) (vs ++ [x])) (hgr : w2.grownBy w3 v10.ownBlock) : Sl w W0 bx rb g w3 v' v11 s (ls ++ [bs]) cs ∧ Upd (fun k => W0.heap.size ≤ k ∧ ∃ cur, w2.heap[k]? = some (.cells cur 29 (0, 0))) w2 w3 := by
  obtain ⟨h1, h2⟩ := OwnL.grow hl ho1 hp hx h12 ho hgr
  obtain ⟨cur, hty⟩ := h.ty
  have ng : ∀ k, k < W0.heap.size → ¬ (W0.heap.size ≤ k ∧ ∃ cur, w2.heap[k]? = some (.cells cur 29 (0, 0))) := fun k hk hh => by have := hh.1; omega
  exact ⟨⟨(h.sr.new h12).upd h2 (ng rb hrb) (ng g hg0), ⟨cur, h2.heap (h12.heap hty (fun h => h)) (ng g hg0)⟩, h1, (h.cs.new h12).upd h2 (fun k cur hm _ hc => by obtain ⟨_, cur', q⟩ := hm; rw [hc] at q; simp at q), (h.new.andNew h12).trans h2 (fun k hk hlt => by have := hk.1; omega), (h.bx.andNew h12).trans h2 (fun k hk hlt => by have := hk.1; show w.heap.size < k; omega), Nat.le_trans h.hi (Nat.le_trans h12.size h2.size)⟩, h2⟩
theorem Sl.code {w W0 wN w2 w3 : World} {bx : Array Value} {rb g : Nat} {v10 v11 v' : Value} {s : SR} {ls : List (List UInt8)} {cs : List Bool} {x : Bool} (h : Sl w W0 bx rb g wN v10 v11 s ls cs) (h12 : New wN w2) (hg0 : g < W0.heap.size) (hrb : rb < W0.heap.size) (hw0 : w.heap.size < W0.heap.size)
    (ho : w3.ownsRow W0.heap.size 4 1 v' (cs.length + 1) (cs.map fBool ++ [fBool x])) (hgr : w2.grownBy w3 v11.ownBlock) : Sl w W0 bx rb g w3 v10 v' s ls (cs ++ [x]) ∧ Upd (fun k => W0.heap.size ≤ k ∧ ∃ cur, w2.heap[k]? = some (.cells cur 4 (0, 0))) w2 w3 := by
  obtain ⟨h1, h2⟩ := OwnG.grow h.cs h12 ho hgr
  obtain ⟨cur, hty⟩ := h.ty
  have ng : ∀ k, k < W0.heap.size → ¬ (W0.heap.size ≤ k ∧ ∃ cur, w2.heap[k]? = some (.cells cur 4 (0, 0))) := fun k hk hh => by have := hh.1; omega
  exact ⟨⟨(h.sr.new h12).upd h2 (ng rb hrb) (ng g hg0), ⟨cur, h2.heap (h12.heap hty (fun h => h)) (ng g hg0)⟩, (h.ls.new h12).upd h2 (fun k cur hm _ hc => by obtain ⟨_, cur', q⟩ := hm; rw [hc] at q; simp at q) (fun k cur hm _ hc => by obtain ⟨_, cur', q⟩ := hm; rw [hc] at q; simp at q), h1, (h.new.andNew h12).trans h2 (fun k hk hlt => by have := hk.1; omega), (h.bx.andNew h12).trans h2 (fun k hk hlt => by have := hk.1; show w.heap.size < k; omega), Nat.le_trans h.hi (Nat.le_trans h12.size h2.size)⟩, h2⟩
/-- the reader turned -/
theorem Sl.step {w W0 wr w4 wb : World} {bx : Array Value} {rb g : Nat} {v10 v11 : Value} {s s' : SR} {ls : List (List UInt8)} {cs : List Bool} (h : Sl w W0 bx rb g wr v10 v11 s ls cs) (h4 : SRd w4 rb g s') (hu : Upd (fun k => k = rb) wr w4) (hz : W0.heap.size = rb + 1) (hb : New w4 wb) (hlt : w.heap.size < rb) : Sl w W0 bx rb g wb v10 v11 s' ls cs := by
  obtain ⟨cur, hty⟩ := h.ty
  have hne : rb ≠ g := h4.ne
  refine ⟨h4.new hb, ⟨cur, hb.heap (hu.heap hty (fun e => hne e.symm)) (fun h => h)⟩, (h.ls.upd hu (fun k cur hk hb _ => ?_) (fun k cur hk hb _ => ?_)).new hb, (h.cs.upd hu (fun k cur hk hb _ => ?_)).new hb, (h.new.trans hu (fun k hk hlt' => ?_)).andNew hb, (h.bx.trans hu (fun k hk _ => ?_)).andNew hb, Nat.le_trans h.hi (Nat.le_trans hu.size hb.size)⟩
  · have hk : k = rb := hk; omega
  · have hk : k = rb := hk; have hb : k = g := hb; omega
  · have hk : k = rb := hk; omega
  · have hk : k = rb := hk; omega
  · have hk : k = rb := hk; show w.heap.size < k; omega
theorem line8_stays (s : SR) (d : UInt8) : (s.line 8 d).2.size = s.size ∧ (s.line 8 d).2.endc = s.endc := by
  have e8 : s.line 8 d = if (lineS s.left s.size 10 s.endc).2 = 3 then
      if (lineS s.left s.size 10 s.endc).1[(lineS s.left s.size 10 s.endc).1.length - 1]? = some 13 then (⟨(lineS s.left s.size 10 s.endc).1.take ((lineS s.left s.size 10 s.endc).1.length - 1), 0, 0, true, 0⟩, { (s.take (lineS s.left s.size 10 s.endc).1.length true).back 1 with op := true }) else (⟨(lineS s.left s.size 10 s.endc).1, 0, 0, true, 0⟩, { s.take (lineS s.left s.size 10 s.endc).1.length true with op := true })
    else (⟨(lineS s.left s.size 10 s.endc).1.take (cutN (lineS s.left s.size 10 s.endc).1), 0, 0, false, if 0 < (lineS s.left s.size 10 s.endc).1.length then 0 else (lineS s.left s.size 10 s.endc).2⟩, s.take (lineS s.left s.size 10 s.endc).1.length true) := rfl
  rw [e8]
  split
  · split <;> exact ⟨rfl, rfl⟩
  · exact ⟨rfl, rfl⟩
set_option maxRecDepth 100000 in
set_option maxHeartbeats 2000000 in
theorem walk {S : Err → Addr} {B : Nat} {w : World} (E : Env S B w) (a : Option Addr) (c : Nat) (ps : List (List UInt8)) (f : Bool) (size : Int) (n : Nat) (h : PiecesA w a c ps) (hn : n ≤ 255) :
    Calls Tryd.prog 8 #[.agg #[.slice a ps.length c, .bool f], .int .i16 size, .int .u8 (n : Int)] w (Ret fun v w' => v = .bool true ∧ New w w') := by
  have HE := Lib.hid E
  have HP := Lib.hid h
  clear E h
  cases hfit : fits2 ps with
  | false =>
    have HF := Lib.hid hfit
    clear hfit
    go_enter Tryd.func8, Tryd.ntmps8
    go_wp2_with (go_at_call 10; refine callRet (zzFits1 _ _ _ _ _ (HP.out.new ((Upd.refl _ _).alloc _))) ?_; rintro v w1 ⟨h1, rfl⟩; have HU1 : Hid (New w w1) := ((Upd.refl _ _).alloc _).andNew h1; have HB1 : Hid (BoxUpd w #[.slice a ps.length c, .bool f] w1) := h1.new; have b0 := box_upd HB1.out (i := 0) rfl; have b1 := box_upd HB1.out (i := 1) rfl; clear h1; rw [HF.out])
    go_ret
    exact ⟨rfl, HU1.out⟩
  | true =>
    have HF := Lib.hid hfit
    clear hfit
    cases hsp : spokenB ps size with
    | false =>
      have HS := Lib.hid hsp
      clear hsp
      go_enter Tryd.func8, Tryd.ntmps8
      go_wp2_with (first | (go_at_call 10; refine callRet (zzFits1 _ _ _ _ _ (HP.out.new ((Upd.refl _ _).alloc _))) ?_; rintro v w1 ⟨h1, rfl⟩; have HU1 : Hid (New w w1) := ((Upd.refl _ _).alloc _).andNew h1; have HB1 : Hid (BoxUpd w #[.slice a ps.length c, .bool f] w1) := h1.new; have b0 := box_upd HB1.out (i := 0) rfl; have b1 := box_upd HB1.out (i := 1) rfl; clear h1; rw [HF.out]) | (go_at_call 11; refine callRet (spoken _ _ _ _ _ _ (HP.out.new HU1.out) HF.out) ?_; rintro v w2 ⟨h1, rfl⟩; have HU2 : Hid (New w w2) := HU1.out.andNew h1; have HB2 := Lib.hid (HB1.out.andNew h1); clear h1 b0 b1; have b0 := box_upd HB2.out (i := 0) rfl; have b1 := box_upd HB2.out (i := 1) rfl; rw [HS.out]))
      go_ret
      exact ⟨rfl, HU2.out⟩
    | true =>
      obtain ⟨hl1, hl2, hl3, sz, rfl, hsz⟩ := spokenB_spec hsp
      have HS := Lib.hid hsp
      have HN2 := Lib.hid hl2
      have HN3 := Lib.hid hl3
      obtain ⟨all, hall⟩ : ∃ all, ps.flatten = all := ⟨_, rfl⟩
      have HALL := Lib.hid hall
      clear hsp hl2 hl3 hall
      go_enter Tryd.func8, Tryd.ntmps8
      go_wp2_with (first | (go_at_call 10; refine callRet (zzFits1 _ _ _ _ _ (HP.out.new ((Upd.refl _ _).alloc _))) ?_; rintro v w1 ⟨h1, rfl⟩; have HU1 : Hid (New w w1) := ((Upd.refl _ _).alloc _).andNew h1; have HB1 : Hid (BoxUpd w #[.slice a ps.length c, .bool f] w1) := h1.new; have b0 := box_upd HB1.out (i := 0) rfl; have b1 := box_upd HB1.out (i := 1) rfl; clear h1; rw [HF.out]) | (go_at_call 11; refine callRet (spoken _ _ _ _ _ _ (HP.out.new HU1.out) HF.out) ?_; rintro v w2 ⟨h1, rfl⟩; have HU2 : Hid (New w w2) := HU1.out.andNew h1; have HB2 := Lib.hid (HB1.out.andNew h1); clear h1 b0 b1; have b0 := box_upd HB2.out (i := 0) rfl; have b1 := box_upd HB2.out (i := 1) rfl; rw [HS.out]) | (go_at_call 15; refine callRet (specNewReaderT f (HP.out.new HU2.out) HN2.out hsz) ?_; intro v w3 h3; rw [HALL.out] at h3; obtain ⟨hn3, g, cg, rfl, hg1, hg2, hby, hty⟩ := h3; have HU3 : Hid (New w w3) := HU2.out.andNew hn3; have HB3 := Lib.hid (HB2.out.andNew hn3); clear b0 b1; have HSR := Lib.hid (newSR_at hg2 hby rfl); have HG2 := Lib.hid hg2; have HTY := Lib.hid hty; clear hn3 hby hg1 hg2 hty; simp only [srCells, startSR, Int.natCast_zero]))
      obtain ⟨s0, hs0⟩ : ∃ s0, s0 = startSR sz all f := ⟨_, rfl⟩
      have HS0 := Lib.hid hs0
      have HAL : Hid (all.length ≤ 20000) := by have := HN2.out; rw [HALL.out] at this; exact this
      obtain ⟨W0, hW0⟩ : ∃ W0, W0 = w3.alloc (.cells (srCells g 0 cg 0 cg (startSR sz all f)) 36) := ⟨_, rfl⟩
      have HW0 := Lib.hid hW0
      have hz0 : W0.heap.size = w3.heap.size + 1 := by rw [hW0]; simp
      clear hs0 hW0
      go_loopw [8, 9, 10, 31] (fun v8 v9 v10 i wr => v10 = .int .i64 0 ∧ ∃ (k : Nat) (s : SR) (ls : List (List UInt8)) (cs : List Bool), i = .int .i64 (k : Int) ∧ k ≤ n ∧ ls.length = k ∧ cs.length = k ∧ s.size ≤ 5000 ∧ 0 < s.size ∧ s.endc ≠ 3 ∧ Sl w W0 #[.slice a ps.length c, .bool f] w3.heap.size g wr v8 v9 s ls cs ∧ specLns n s0 = ((ls ++ (specLns (n - k) s).1.1, cs ++ (specLns (n - k) s).1.2), (specLns (n - k) s).2)) (fun _ _ _ i _ => n - (intOf i).toNat)
      case atStart =>
        have hn : New W0 ((W0.alloc (.cells #[] 29)).alloc (.cells #[] 4)) := ((Upd.refl _ _).alloc _).alloc _
        have hn3 : New w3 W0 := by rw [HW0.out]; exact (Upd.refl _ _).alloc _
        have hsr : SRd W0 w3.heap.size g (startSR sz all f) := by rw [HW0.out]; exact HSR.out
        refine ⟨rfl, 0, s0, [], [], rfl, Nat.zero_le _, rfl, rfl, ?_, ?_, ?_, ?_, rfl⟩
        · rw [HS0.out]; show max sz 16 ≤ 5000; omega
        · rw [HS0.out]; show 0 < max sz 16; omega
        · rw [HS0.out]; show endc f ≠ 3; cases f <;> decide
        · have e : ((w3.alloc (.cells (srCells g 0 cg 0 cg (startSR sz all f)) 36)).alloc (.cells #[] 29)).alloc (.cells #[] 4) = (W0.alloc (.cells #[] 29)).alloc (.cells #[] 4) := by rw [HW0.out]
          have hs : Sl w W0 #[.slice a ps.length c, .bool f] w3.heap.size g ((W0.alloc (.cells #[] 29)).alloc (.cells #[] 4)) (.slice (some ⟨w3.heap.size + 1, 0, none⟩) 0 0) (.slice (some ⟨w3.heap.size + 1 + 1, 0, none⟩) 0 0) s0 [] [] := by
            refine ⟨by rw [HS0.out]; exact hsr.new hn, ?_, ⟨[], rfl, ?_, fun i hi => by simp at hi⟩, ?_, (HU3.out.andNew hn3).andNew hn, (HB3.out.andNew hn3).andNew hn, hn.size⟩
            · obtain ⟨cur, q⟩ := HTY.out
              exact ⟨cur, (hn3.andNew hn).heap q (fun h => h)⟩
            · rw [← hz0]; exact ownsRow_new (World.ownsRow_made W0 #[] 0 (Nat.le_refl _) (Nat.zero_le _) rfl) ((Upd.refl _ _).alloc _)
            · have : ((W0.alloc (.cells #[] 29)).alloc (.cells #[] 4)).ownsRow W0.heap.size 4 1 (.slice (some ⟨(W0.alloc (.cells #[] 29)).heap.size, 0, none⟩) 0 0) 0 [] := World.ownsRow_made _ #[] 0 (by simp) (Nat.zero_le _) rfl
              simpa [OwnG, hz0] using this
          rw [← e] at hs
          exact hs
      case round =>
        obtain ⟨rfl, k, s, ls, cs, rfl, hkn, hls, hcs, hss, hss0, hse, hB, hrun⟩ := hrel
        have HB := Lib.hid hB
        have HRUN := Lib.hid hrun
        have HLS := Lib.hid hls
        have HCS := Lib.hid hcs
        have HSE := Lib.hid hse
        clear hB hrun hls hcs hse
        by_cases hlt : k < n
        · obtain ⟨X, hX⟩ : ∃ X, X = s.line 8 0 := ⟨_, rfl⟩
          have KD : Calls Tryd.prog 16 #[.pointer (some ⟨w3.heap.size, 0, none⟩), .agg #[.int .i64 8, .int .i64 0, .int .u8 0]] wr (Ret (DoPost w3.heap.size g wr (((s.line 8 0).1, true), (s.line 8 0).2))) := specDo8 HB.out.sr 0 0 (by omega) hss0 HSE.out
          rw [← hX] at KD
          have HX := Lib.hid hX
          have HKD := Lib.hid KD
          obtain ⟨m, hm⟩ : ∃ m, X.1.bytes.length = m := ⟨_, rfl⟩
          have HM := Lib.hid hm
          have HQL := Lib.hid (line8_stays s 0)
          have HR2 : Hid (specLns (n - k) s = if X.1.code ≠ 0 then (([], []), X.1.code) else ((X.1.bytes :: (specLns (n - (k + 1)) X.2).1.1, X.1.flag :: (specLns (n - (k + 1)) X.2).1.2), (specLns (n - (k + 1)) X.2).2)) := by
            have hnk : n - k = (n - (k + 1)) + 1 := by omega
            rw [Hid, hnk, hX]; rfl
          rw [← hX] at HQL
          clear KD hX hm
          by_cases hc : X.1.code ≠ 0
          · have q0 : ((X.1.code : Int) != 0) = true := by simp; exact hc
            have HRS : Hid (runLn n (fresh0 (max sz 16) ps.flatten f) = ((ls, cs), X.1.code)) := by
              rw [Hid, runLn_spec n _ s0 (by rw [HS0.out, HALL.out]; rfl) (by rw [HS0.out]; rfl) (by rw [HS0.out]; rfl) rfl (by rw [HS0.out]; exact ⟨[], rfl⟩) (by show 0 < max sz 16; omega), HRUN.out, HR2.out, if_pos hc]; simp
            obtain ⟨a1, c1, rfl, hpa⟩ := HB.out.ls.pieces
            obtain ⟨a2, c2, rfl, hia⟩ := HB.out.cs.read
            clear hpa hia hc
            go_wp2_with (first | (go_at_call 16; refine callRet HKD.out ?_; intro v w4 h4; obtain ⟨av, rfl, ⟨hsr4, hu4⟩, ab, cb, rfl, hby4, hab⟩ := h4; have HSL := Lib.hid (HB.out.step hsr4 hu4 hz0 ((Upd.refl _ w4).alloc (.cells #[.slice ab m cb, .int .i64 X.1.n, .int .i32 X.1.rune, .bool X.1.flag, .int .i64 (X.1.code : Int)] 39)) (boxLt HB3.out)); have b0 := box_upd HSL.out.bx (i := 0) rfl; have b1 := box_upd HSL.out.bx (i := 1) rfl; obtain ⟨_, _, ev1, hpa⟩ := HSL.out.ls.pieces; obtain ⟨_, _, ev2, hia⟩ := HSL.out.cs.read; simp only [Value.slice.injEq, true_and] at ev1 ev2; obtain ⟨rfl, rfl⟩ := ev1; obtain ⟨rfl, rfl⟩ := ev2; have HPA := Lib.hid hpa; have HIA := Lib.hid hia; clear hsr4 hu4 hby4 hab hpa hia; rw [HM.out]) | (first | (go_at_call 24; refine callRet (implLines f (HE.out.new HSL.out.new) (HP.out.new HSL.out.new) HN2.out hl1 hsz HN3.out hn) ?_; rw [HRS.out]; rintro v w5 ⟨hn5, a5, b5, c5, e5, rfl, hp5, hi5⟩; have HU5 : Hid (New w w5) := HSL.out.new.andNew hn5; have HP5 := Lib.hid hp5; have HI5 := Lib.hid hi5; have HP6 := Lib.hid (HPA.out.new hn5); have HI6 := Lib.hid (HIA.out.new hn5); clear hn5 hp5 hi5) | (go_at_call 20; refine callRet (alike HP5.out HP6.out) ?_; rintro v w6 ⟨rfl, rfl⟩) | (go_at_call 25; refine callRet (equalBools HI5.out HI6.out) ?_; rintro v w7 ⟨h7, rfl⟩; have HU7 : Hid (New w w7) := HU5.out.andNew h7; clear h7)))
            go_ret
            exact ⟨rfl, HU7.out⟩
          · have hc0 : X.1.code = 0 := by omega
            have q0 : ((X.1.code : Int) != 0) = false := by simp; exact hc0
            have HNX1 : Hid (specLns n s0 = ((ls ++ [X.1.bytes] ++ (specLns (n - (k + 1)) X.2).1.1, cs ++ [X.1.flag] ++ (specLns (n - (k + 1)) X.2).1.2), (specLns (n - (k + 1)) X.2).2)) := by
              rw [Hid, HRUN.out, HR2.out, if_neg hc]; simp
            clear hc hc0
            go_wp2_with (go_at_call 16; refine callRet HKD.out ?_; intro v w4 h4; obtain ⟨av, rfl, ⟨hsr4, hu4⟩, ab, cb, rfl, hby4, hab⟩ := h4; have HSR4 := Lib.hid hsr4; have HU4 := Lib.hid hu4; have HBY4 := Lib.hid hby4; have HAB := Lib.hid hab; clear hsr4 hu4 hby4 hab; rw [HM.out])
            obtain ⟨b4, hb4⟩ : ∃ b4, b4 = w4.heap.size := ⟨_, rfl⟩
            rw [← hb4]
            obtain ⟨wb, hwb⟩ : ∃ wb, wb = w4.alloc (.cells #[.slice ab m cb, .int .i64 X.1.n, .int .i32 X.1.rune, .bool X.1.flag, .int .i64 (X.1.code : Int)] 39) := ⟨_, rfl⟩
            rw [← hwb]
            have hans : wb.heap[b4]? = some (.cells #[.slice ab m cb, .int .i64 X.1.n, .int .i32 X.1.rune, .bool X.1.flag, .int .i64 (X.1.code : Int)] 39 (0, 0)) := by rw [hwb, hb4]; exact heap_alloc_new _ _
            have hs1 : Sl w W0 #[.slice a ps.length c, .bool f] w3.heap.size g wb u8 u9 X.2 ls cs := HB.out.step HSR4.out HU4.out hz0 (by rw [hwb]; exact (Upd.refl _ _).alloc _) (boxLt HB3.out)
            have HBYB : Hid (BytesA wb ab cb X.1.bytes) := HBY4.out.new (by rw [hwb]; exact (Upd.refl _ _).alloc _)
            have l0 : wb.cell? ⟨b4, 0, none⟩ = some (.slice ab m cb) := by rw [World.cell_of_heap hans]; rfl
            have l4 : wb.cell? ⟨b4, 3, none⟩ = some (.bool X.1.flag) := by rw [World.cell_of_heap hans]; rfl
            have hblt : b4 < wb.heap.size := (Array.getElem?_eq_some_iff.1 hans).1
            have a0 : ∀ x t, (wb.alloc (.cells x t)).cell? ⟨b4, 0, none⟩ = some (.slice ab m cb) := fun x t => ((Upd.refl (fun _ => False) wb).alloc _).cell l0 (fun h => h)
            have a4 : ∀ x t, (wb.alloc (.cells x t)).cell? ⟨b4, 3, none⟩ = some (.bool X.1.flag) := fun x t => ((Upd.refl (fun _ => False) wb).alloc _).cell l4 (fun h => h)
            have aa0 : ∀ x t y u, ((wb.alloc (.cells x t)).alloc (.cells y u)).cell? ⟨b4, 0, none⟩ = some (.slice ab m cb) := fun x t y u => ((Upd.refl (fun _ => False) (wb.alloc (.cells x t))).alloc _).cell (a0 x t) (fun h => h)
            have HS1 := Lib.hid hs1
            have HANS := Lib.hid hans
            clear hs1 hans hwb hb4
            have HSl := HS1
            have HEL : Hid (ElemB wb (fun k => k = g) (.slice ab m cb) X.1.bytes) := ⟨ab, cb, by rw [HM.out], HBYB.out, fun p hp _ => ⟨HAB.out p hp, by rw [HAB.out p hp]; exact HS1.out.ty⟩⟩
            have HK : Hid (∀ (k : Nat) (cur : Array Value), wb.heap[k]? = some (Obj.cells cur 29 (0, 0)) → wb.heap[k]? = some (Obj.cells cur 29 (0, 0))) := fun _ _ h => h
            have hg0 : g < W0.heap.size := by have := HG2.out; omega
            have hrb0 : w3.heap.size < W0.heap.size := by omega
            have hw0 : w.heap.size < W0.heap.size := by have := boxLt HB3.out; omega
            go_region_law (first | (refine want_wp rfl ?_; obtain ⟨vs, hvl, ho1, hpe⟩ := HSl.out.ls; refine wp_append eP (.tmp 43) (.tmp 46) rfl W0.heap.size _ _ _ rfl (ownsRow_new ho1 (by first | exact (Upd.refl _ _).alloc _ | exact ((Upd.refl _ _).alloc _).alloc _ | exact (Upd.refl _ _).drew.alloc _ | exact ((Upd.refl _ _).drew.alloc _).alloc _ | exact Upd.refl _ _ | exact (Upd.refl _ _).drew)) (some ⟨_, 0, none⟩) 1 1 [.slice ab m cb] rfl rfl (fun h => by cases h) (fun p hp => by simp only [Option.some.injEq] at hp; subst hp; refine World.news_of_block' (t := 29) (fr := (0, 0)) ?_; first | exact heap_alloc_new _ _ | exact heap_alloc2_new _ _ _ | exact (show New _ _ from (Upd.refl _ _).alloc _).heap (heap_alloc_new _ _) (fun h => h) | exact HK.out _ _ (heap_alloc_new _ _) | exact HK.out _ _ ((show New _ _ from (Upd.refl _ _).alloc _).heap (heap_alloc_new _ _) (fun h => h))) (by simp [Value.oneCell']) (by have := HLS.out; unfold maxLen; omega) (by have := HLS.out; omega) (Nat.le_trans HSl.out.hi (show New _ _ from (by first | exact (Upd.refl _ _).alloc _ | exact ((Upd.refl _ _).alloc _).alloc _ | exact (Upd.refl _ _).drew.alloc _ | exact ((Upd.refl _ _).drew.alloc _).alloc _ | exact Upd.refl _ _ | exact (Upd.refl _ _).drew)).size) ?_; intro vA wA h1 h2 h3; have HSlA := HSl.out.line (by first | exact (Upd.refl _ _).alloc _ | exact ((Upd.refl _ _).alloc _).alloc _ | exact (Upd.refl _ _).drew.alloc _ | exact ((Upd.refl _ _).drew.alloc _).alloc _ | exact Upd.refl _ _ | exact (Upd.refl _ _).drew) hg0 hrb0 hw0 hvl ho1 hpe HEL.out h1 h2; have HSl := Lib.hid HSlA.1; have HANS := Lib.hid (HSlA.2.heap ((show New _ _ from (by first | exact (Upd.refl _ _).alloc _ | exact ((Upd.refl _ _).alloc _).alloc _ | exact (Upd.refl _ _).drew.alloc _ | exact ((Upd.refl _ _).drew.alloc _).alloc _ | exact Upd.refl _ _ | exact (Upd.refl _ _).drew)).heap HANS.out (fun h => h)) (fun hh => by obtain ⟨_, cur', q'⟩ := hh; rw [(show New _ _ from (by first | exact (Upd.refl _ _).alloc _ | exact ((Upd.refl _ _).alloc _).alloc _ | exact (Upd.refl _ _).drew.alloc _ | exact ((Upd.refl _ _).drew.alloc _).alloc _ | exact Upd.refl _ _ | exact (Upd.refl _ _).drew)).heap HANS.out (fun h => h)] at q'; simp at q')); have l0 : wA.cell? ⟨b4, 0, none⟩ = some (.slice ab m cb) := (by rw [World.cell_of_heap HANS.out]; rfl); have l4 : wA.cell? ⟨b4, 3, none⟩ = some (.bool X.1.flag) := (by rw [World.cell_of_heap HANS.out]; rfl); have a0 : ∀ x t, (wA.alloc (.cells x t)).cell? ⟨b4, 0, none⟩ = some (.slice ab m cb) := (fun x t => ((Upd.refl (fun _ => False) wA).alloc _).cell l0 (fun h => h)); have a4 : ∀ x t, (wA.alloc (.cells x t)).cell? ⟨b4, 3, none⟩ = some (.bool X.1.flag) := (fun x t => ((Upd.refl (fun _ => False) wA).alloc _).cell l4 (fun h => h)); have HK : Hid (∀ (k : Nat) (cur : Array Value), (World.heap _)[k]? = some (Obj.cells cur 4 (0, 0)) → wA.heap[k]? = some (Obj.cells cur 4 (0, 0))) := fun k cur q => (HSlA.2.heap q (fun hh => by obtain ⟨_, cur', q'⟩ := hh; rw [q] at q'; simp at q')); clear h1 h2 h3 hvl ho1 hpe HSlA) | (refine want_wp rfl ?_; refine wp_append eBl (.tmp 48) (.tmp 51) rfl W0.heap.size _ _ _ rfl (HSl.out.cs.new (by first | exact (Upd.refl _ _).alloc _ | exact ((Upd.refl _ _).alloc _).alloc _ | exact (Upd.refl _ _).drew.alloc _ | exact ((Upd.refl _ _).drew.alloc _).alloc _ | exact Upd.refl _ _ | exact (Upd.refl _ _).drew)) (some ⟨_, 0, none⟩) 1 1 [.bool X.1.flag] rfl rfl (fun h => by cases h) (fun p hp => by simp only [Option.some.injEq] at hp; subst hp; refine World.news_of_block' (t := 4) (fr := (0, 0)) ?_; first | exact heap_alloc_new _ _ | exact heap_alloc2_new _ _ _ | exact HK.out _ _ (heap_alloc_new _ _) | exact HK.out _ _ (heap_alloc2_new _ _ _) | exact HK.out _ _ ((show New _ _ from (Upd.refl _ _).alloc _).heap (heap_alloc_new _ _) (fun h => h))) (by simp [Value.oneCell']) (by have := HCS.out; unfold maxLen; omega) (by have := HCS.out; omega) (Nat.le_trans HSl.out.hi (show New _ _ from (by first | exact (Upd.refl _ _).alloc _ | exact ((Upd.refl _ _).alloc _).alloc _ | exact (Upd.refl _ _).drew.alloc _ | exact ((Upd.refl _ _).drew.alloc _).alloc _ | exact Upd.refl _ _ | exact (Upd.refl _ _).drew)).size) ?_; intro vB wB h1 h2 h3; have HSlB := HSl.out.code (x := X.1.flag) (by first | exact (Upd.refl _ _).alloc _ | exact ((Upd.refl _ _).alloc _).alloc _ | exact (Upd.refl _ _).drew.alloc _ | exact ((Upd.refl _ _).drew.alloc _).alloc _ | exact Upd.refl _ _ | exact (Upd.refl _ _).drew) hg0 hrb0 hw0 h1 h2; have HSl := Lib.hid HSlB.1; have HANS := Lib.hid (HSlB.2.heap ((show New _ _ from (by first | exact (Upd.refl _ _).alloc _ | exact ((Upd.refl _ _).alloc _).alloc _ | exact (Upd.refl _ _).drew.alloc _ | exact ((Upd.refl _ _).drew.alloc _).alloc _ | exact Upd.refl _ _ | exact (Upd.refl _ _).drew)).heap HANS.out (fun h => h)) (fun hh => by obtain ⟨_, cur', q'⟩ := hh; rw [(show New _ _ from (by first | exact (Upd.refl _ _).alloc _ | exact ((Upd.refl _ _).alloc _).alloc _ | exact (Upd.refl _ _).drew.alloc _ | exact ((Upd.refl _ _).drew.alloc _).alloc _ | exact Upd.refl _ _ | exact (Upd.refl _ _).drew)).heap HANS.out (fun h => h)] at q'; simp at q')); clear h1 h2 h3 HSlB))
            all_goals
              have HSL := HSl
              clear l0 l4 a0 a4
              go_wp2_with fail
              go_roundw
              case rel => exact ⟨rfl, k + 1, X.2, ls ++ [X.1.bytes], cs ++ [X.1.flag], by go_num, by omega, by rw [List.length_append, HLS.out]; rfl, by rw [List.length_append, HCS.out]; rfl, by rw [HQL.out.1]; exact hss, by rw [HQL.out.1]; exact hss0, by rw [HQL.out.2]; exact HSE.out, HSL.out, HNX1.out⟩
              case measure => simp [intOf]; omega
        · obtain rfl : k = n := by omega
          have HSL := HB
          have HRS : Hid (runLn k (fresh0 (max sz 16) ps.flatten f) = ((ls, cs), 0)) := by
            rw [Hid, runLn_spec k _ s0 (by rw [HS0.out, HALL.out]; rfl) (by rw [HS0.out]; rfl) (by rw [HS0.out]; rfl) rfl (by rw [HS0.out]; exact ⟨[], rfl⟩) (by show 0 < max sz 16; omega), HRUN.out, Nat.sub_self]; simp [specLns]
          obtain ⟨a1, c1, rfl, hpa⟩ := HSL.out.ls.pieces
          obtain ⟨a2, c2, rfl, hia⟩ := HSL.out.cs.read
          have HPA := Lib.hid hpa
          have HIA := Lib.hid hia
          have b0 := box_upd HSL.out.bx (i := 0) rfl
          have b1 := box_upd HSL.out.bx (i := 1) rfl
          clear hpa hia hlt hkn
          go_wp2_with (first | (go_at_call 24; refine callRet (implLines f (HE.out.new HSL.out.new) (HP.out.new HSL.out.new) HN2.out hl1 hsz HN3.out hn) ?_; rw [HRS.out]; rintro v w5 ⟨hn5, a5, b5, c5, e5, rfl, hp5, hi5⟩; have HU5 : Hid (New w w5) := HSL.out.new.andNew hn5; have HP5 := Lib.hid hp5; have HI5 := Lib.hid hi5; have HP6 := Lib.hid (HPA.out.new hn5); have HI6 := Lib.hid (HIA.out.new hn5); clear hn5 hp5 hi5) | (go_at_call 20; refine callRet (alike HP5.out HP6.out) ?_; rintro v w6 ⟨rfl, rfl⟩) | (go_at_call 25; refine callRet (equalBools HI5.out HI6.out) ?_; rintro v w7 ⟨h7, rfl⟩; have HU7 : Hid (New w w7) := HU5.out.andNew h7; clear h7))
          go_ret
          exact ⟨rfl, HU7.out⟩
end Go.Proofs.YtnpalkndocokkaaDoor.fnLines
