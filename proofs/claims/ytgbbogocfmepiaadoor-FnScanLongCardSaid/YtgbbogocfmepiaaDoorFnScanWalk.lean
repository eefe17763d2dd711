/- The law FnScan, walked. -/
import Derived.Test.YtgbbogocfmepiaaDoorImplSc
import Derived.Test.YtgbbogocfmepiaaDoorAlike
namespace Go.Proofs.YtgbbogocfmepiaaDoor
open Go.RowKit
/-- since the argument was boxed only blocks behind the box turned -/
abbrev BoxUpd (w : World) (cs : Array Value) (w' : World) : Prop := Upd (fun k => w.heap.size < k) (w.alloc (.cells cs 24)) w'
theorem box_upd {w w1 : World} {cs : Array Value} (h : BoxUpd w cs w1) {i : Nat} {v : Value} (hv : cs[i]? = some v) : w1.cell? ⟨w.heap.size, i, none⟩ = some v := by
  rw [World.cell_of_heap (h.heap (heap_alloc_new w _) (fun hh => Nat.lt_irrefl _ hh))]; exact hv
theorem scCode {w : World} (a : Option Addr) (c n : Nat) (f : Bool) : Calls Tryd.prog 14 #[.agg #[.slice a n c, .bool f]] w (Ret fun v w' => New w w' ∧ v = .int .i64 ((if f then 2 else 0 : Nat) : Int)) := by
  have HU : Hid (New w (w.alloc (.cells #[.slice a n c, .bool f] 24))) := (Upd.refl _ _).alloc _
  cases f with
  | true =>
    go_enter Tryd.func14, Tryd.ntmps14
    go_wp2
    go_ret
    exact ⟨HU.out, rfl⟩
  | false =>
    go_enter Tryd.func14, Tryd.ntmps14
    go_wp2
    go_ret
    exact ⟨HU.out, rfl⟩
theorem ScI.whole {k lim : Nat} {f : Bool} {all : List UInt8} {ts : List (List UInt8)} {code : Nat} (h : ScI k lim f all ts code) (hl : all.length < lim) (hn : (tokens k all).length < 10000) : ts = tokens k all ∧ code = if f then 2 else 0 := by
  obtain ⟨rem, h1, h2, h3⟩ := h
  have ht := h1.tokens
  rcases h3 with ⟨h4, h5⟩ | h4 | ⟨_, h5, _⟩
  · rw [h5, List.append_nil] at ht
    exact ⟨ht.symm, h4⟩
  · have := congrArg List.length ht
    rw [List.length_append] at this
    omega
  · omega
namespace fnScan
set_option maxRecDepth 100000 in
set_option maxHeartbeats 1000000 in
theorem walk {S : Err → Addr} {B : Nat} {w : World} (E : Env S B w) (T : TabsB B w) (a : Option Addr) (c : Nat) (ps : List (List UInt8)) (f : Bool) (kn : Nat) (h : PiecesA w a c ps) (hk : kn ≤ 255) :
    Calls Tryd.prog 3 #[.int .u8 (kn : Int), .agg #[.slice a ps.length c, .bool f]] w (Ret fun v w' => v = .bool true ∧ New w w') := by
  have HE := Lib.hid E
  have HT := Lib.hid T
  have HP := Lib.hid h
  clear E T h
  cases hfit : fits2 ps with
  | false =>
    have HF := Lib.hid hfit
    clear hfit
    go_enter Tryd.func3, Tryd.ntmps3
    go_wp2_with (go_at_call 8; refine callRet (zzFits1 _ _ _ _ _ (HP.out.new ((Upd.refl _ _).alloc _))) ?_; rintro v w1 ⟨h1, rfl⟩; have HU1 : Hid (New w w1) := ((Upd.refl _ _).alloc _).andNew h1; have HB1 : Hid (BoxUpd w #[.slice a ps.length c, .bool f] w1) := h1.new; have b0 := box_upd HB1.out (i := 0) rfl; have b1 := box_upd HB1.out (i := 1) rfl; clear h1; rw [HF.out])
    go_ret
    exact ⟨rfl, HU1.out⟩
  | true =>
    have HF := Lib.hid hfit
    clear hfit
    cases hsp : spokenB ps 16 with
    | false =>
      have HS := Lib.hid hsp
      clear hsp
      go_enter Tryd.func3, Tryd.ntmps3
      go_wp2_with (first | (go_at_call 8; refine callRet (zzFits1 _ _ _ _ _ (HP.out.new ((Upd.refl _ _).alloc _))) ?_; rintro v w1 ⟨h1, rfl⟩; have HU1 : Hid (New w w1) := ((Upd.refl _ _).alloc _).andNew h1; have HB1 : Hid (BoxUpd w #[.slice a ps.length c, .bool f] w1) := h1.new; have b0 := box_upd HB1.out (i := 0) rfl; have b1 := box_upd HB1.out (i := 1) rfl; clear h1; rw [HF.out]) | (go_at_call 9; refine callRet (spoken _ _ _ _ _ _ (HP.out.new HU1.out) HF.out) ?_; rintro v w2 ⟨h1, rfl⟩; have HU2 : Hid (New w w2) := HU1.out.andNew h1; have HB2 := Lib.hid (HB1.out.andNew h1); clear h1 b0 b1; have b0 := box_upd HB2.out (i := 0) rfl; have b1 := box_upd HB2.out (i := 1) rfl; rw [HS.out]))
      go_ret
      exact ⟨rfl, HU2.out⟩
    | true =>
      obtain ⟨hl1, hl2, hl3, hl4⟩ := spokenB_spec hsp
      clear hl4
      have HS := Lib.hid hsp
      have HN2 := Lib.hid hl2
      have HN3 := Lib.hid hl3
      have HN1 := Lib.hid hl1
      obtain ⟨k, hkk⟩ : ∃ k, k = kn % 4 := ⟨_, rfl⟩
      have hk4 : k < 4 := by omega
      have hkm : (kn : Int) % 4 = (k : Int) := by omega
      have HK4 := Lib.hid hk4
      have KJ0 := fun wx (hx : New w wx) => specJoined _ _ _ _ (HP.out.new hx) (by omega)
      have KSC0 : ∀ wx, New w wx → Calls Tryd.prog 12 #[.int .i64 (k : Int), .agg #[.slice a ps.length c, .bool f], .int .i64 0, .int .i64 0] wx (Ret (ScIPost k 65536 f ps.flatten wx)) := fun wx hx => by
        have := implScan (bn := 0) (m := 0) f (HE.out.new hx) (HT.out.new hx) (HP.out.new hx) HN2.out HN1.out HN3.out hk4 (by omega) (by omega)
        rw [if_pos rfl] at this
        exact this
      obtain ⟨al, hal⟩ : ∃ al, ps.flatten = al := ⟨_, rfl⟩
      rw [hal] at KJ0 KSC0 hl2
      have KJ := Lib.hid KJ0
      have KSC := Lib.hid KSC0
      have HAL : Hid (al.length ≤ 20000) := Lib.hid hl2
      obtain ⟨tl, htl⟩ : ∃ tl, (tokens k al).length = tl := ⟨_, rfl⟩
      obtain ⟨an, han⟩ : ∃ an, al.length = an := ⟨_, rfl⟩
      have HAN := Lib.hid han
      clear KJ0 KSC0 hal han
      have HTL := Lib.hid htl
      clear hsp hl1 hl2 hl3 htl hkk hk4
      by_cases hbig : 10000 ≤ tl
      · go_enter Tryd.func3, Tryd.ntmps3
        go_wp2_with (first
        | (go_at_call 8; refine callRet (zzFits1 _ _ _ _ _ (HP.out.new ((Upd.refl _ _).alloc _))) ?_; rintro v w1 ⟨h1, rfl⟩; have HU1 : Hid (New w w1) := ((Upd.refl _ _).alloc _).andNew h1; have HB1 : Hid (BoxUpd w #[.slice a ps.length c, .bool f] w1) := h1.new; have b0 := box_upd HB1.out (i := 0) rfl; have b1 := box_upd HB1.out (i := 1) rfl; clear h1; rw [HF.out])
        | (go_at_call 9; refine callRet (spoken _ _ _ _ _ _ (HP.out.new HU1.out) HF.out) ?_; rintro v w2 ⟨h1, rfl⟩; have HU2 : Hid (New w w2) := HU1.out.andNew h1; have HB2 := Lib.hid (HB1.out.andNew h1); clear h1 b0 b1; have b0 := box_upd HB2.out (i := 0) rfl; have b1 := box_upd HB2.out (i := 1) rfl; rw [HS.out])
        | (go_at_call 11; refine callRet (KJ.out _ HU2.out) ?_; intro v w3 h3; obtain ⟨hn3, g, cg, rfl, ho⟩ := h3; have hby := (BytesA.owned ho).2; have HU3 : Hid (New w w3) := HU2.out.andNew hn3; have HB3 := Lib.hid (HB2.out.andNew hn3); have HBK : Hid (ByteBlk w3 (some ⟨g, 0, none⟩) al) := Lib.hid (fun p hp _ => by simp only [Option.some.injEq] at hp; subst hp; exact (ownsRow_block ho rfl).2); have HBY := Lib.hid hby; have KT := specTokens HK4.out hby HBK.out (by have := HAL.out; omega); rw [HAN.out] at KT ⊢; have HKT := Lib.hid KT; clear KT b0 b1 hn3 hby ho; have b0 := box_upd HB3.out (i := 0) rfl; have b1 := box_upd HB3.out (i := 1) rfl)
        | (go_at_call 10; refine callRet HKT.out ?_; rintro v w4 ⟨hn4, a4, c4, rfl, hp4⟩; rw [HTL.out]; have HU4 : Hid (New w w4) := HU3.out.andNew hn4; have HB4 := Lib.hid (HB3.out.andNew hn4); have HP4 := Lib.hid hp4; have hc4 := hp4.1; have hc5 := hp4.2.1; rw [HTL.out] at hc4; unfold maxLen at hc5; clear b0 b1 hn4 hp4; have b0 := box_upd HB4.out (i := 0) rfl; have b1 := box_upd HB4.out (i := 1) rfl)
        | (go_at_call 12; refine callRet (KSC.out _ HU4.out) ?_; rintro v w5 ⟨hn5, ts, code, a5, c5, rfl, hp5, hsi⟩; have HU5 : Hid (New w w5) := HU4.out.andNew hn5; have HB5 := Lib.hid (HB4.out.andNew hn5); have HP6 := Lib.hid (HP4.out.new hn5); clear b0 b1 hn5; have b0 := box_upd HB5.out (i := 0) rfl; have b1 := box_upd HB5.out (i := 1) rfl; clear hsi hp5))
        go_ret
        exact ⟨rfl, HU5.out⟩
      · go_enter Tryd.func3, Tryd.ntmps3
        go_wp2_with (first
        | (go_at_call 8; refine callRet (zzFits1 _ _ _ _ _ (HP.out.new ((Upd.refl _ _).alloc _))) ?_; rintro v w1 ⟨h1, rfl⟩; have HU1 : Hid (New w w1) := ((Upd.refl _ _).alloc _).andNew h1; have HB1 : Hid (BoxUpd w #[.slice a ps.length c, .bool f] w1) := h1.new; have b0 := box_upd HB1.out (i := 0) rfl; have b1 := box_upd HB1.out (i := 1) rfl; clear h1; rw [HF.out])
        | (go_at_call 9; refine callRet (spoken _ _ _ _ _ _ (HP.out.new HU1.out) HF.out) ?_; rintro v w2 ⟨h1, rfl⟩; have HU2 : Hid (New w w2) := HU1.out.andNew h1; have HB2 := Lib.hid (HB1.out.andNew h1); clear h1 b0 b1; have b0 := box_upd HB2.out (i := 0) rfl; have b1 := box_upd HB2.out (i := 1) rfl; rw [HS.out])
        | (go_at_call 11; refine callRet (KJ.out _ HU2.out) ?_; intro v w3 h3; obtain ⟨hn3, g, cg, rfl, ho⟩ := h3; have hby := (BytesA.owned ho).2; have HU3 : Hid (New w w3) := HU2.out.andNew hn3; have HB3 := Lib.hid (HB2.out.andNew hn3); have HBK : Hid (ByteBlk w3 (some ⟨g, 0, none⟩) al) := Lib.hid (fun p hp _ => by simp only [Option.some.injEq] at hp; subst hp; exact (ownsRow_block ho rfl).2); have HBY := Lib.hid hby; have KT := specTokens HK4.out hby HBK.out (by have := HAL.out; omega); rw [HAN.out] at KT ⊢; have HKT := Lib.hid KT; clear KT b0 b1 hn3 hby ho; have b0 := box_upd HB3.out (i := 0) rfl; have b1 := box_upd HB3.out (i := 1) rfl)
        | (go_at_call 10; refine callRet HKT.out ?_; rintro v w4 ⟨hn4, a4, c4, rfl, hp4⟩; rw [HTL.out]; have HU4 : Hid (New w w4) := HU3.out.andNew hn4; have HB4 := Lib.hid (HB3.out.andNew hn4); have HP4 := Lib.hid hp4; have hc4 := hp4.1; have hc5 := hp4.2.1; rw [HTL.out] at hc4; unfold maxLen at hc5; clear b0 b1 hn4 hp4; have b0 := box_upd HB4.out (i := 0) rfl; have b1 := box_upd HB4.out (i := 1) rfl)
        | (go_at_call 12; refine callRet (KSC.out _ HU4.out) ?_; rintro v w5 ⟨hn5, ts, code, a5, c5, rfl, hp5, hsi⟩; have HU5 : Hid (New w w5) := HU4.out.andNew hn5; have HB5 := Lib.hid (HB4.out.andNew hn5); have HP6 := Lib.hid (HP4.out.new hn5); clear b0 b1 hn5; have b0 := box_upd HB5.out (i := 0) rfl; have b1 := box_upd HB5.out (i := 1) rfl; obtain ⟨h6, h7⟩ := hsi.whole (by have := HAL.out; omega) (by have := HTL.out; omega); subst h6; subst h7; have KA := alike hp5 HP6.out; rw [HTL.out] at KA ⊢; have HKA := Lib.hid KA; clear hsi hp5 KA)
        | (go_at_call 13; refine callRet HKA.out ?_; rintro v w6 ⟨rfl, rfl⟩)
        | (go_at_call 14; refine callRet (scCode _ _ _ _) ?_; rintro v w6 ⟨hn6, rfl⟩; have HU6 : Hid (New w w6) := HU5.out.andNew hn6; clear hn6))
        all_goals (go_ret; exact ⟨rfl, HU6.out⟩)
end fnScan
end Go.Proofs.YtgbbogocfmepiaaDoor
