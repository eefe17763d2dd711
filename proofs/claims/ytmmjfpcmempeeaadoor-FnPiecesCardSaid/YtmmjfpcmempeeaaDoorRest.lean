/- impl.Rest; spec.Code; the law FnRest, walked. -/
import Derived.Test.YtmmjfpcmempeeaaDoorWriteTo
import Derived.Test.YtmmjfpcmempeeaaDoorM4
namespace Go.Proofs.YtmmjfpcmempeeaaDoor
open Go.RowKit
def restE (f : Bool) : Option Err := if f then some .fault else none
theorem restE_v (S : Err → Addr) (f : Bool) : (if f then eV S (some .fault) else .nilIface) = eV S (restE f) := by cases f <;> rfl
def restC (f : Bool) : Nat := if f then 2 else 0
theorem restE_c (f : Bool) : ecode (restE f) = restC f := by cases f <;> rfl
theorem specCode (a : Option Addr) (n c : Nat) (f : Bool) (w : World) :
    Calls Tryd.prog 28 #[.agg #[.slice a n c, .bool f]] w (Ret fun v w' => New w w' ∧ v = .int .i64 (restC f : Int)) := by
  cases f
  · go_enter Tryd.func28, Tryd.ntmps28
    (go_wp2_with fail; (repeat' (refine wp_region_lx {} (by kernel_rfl) (by kernel_rfl) ⟨fun _ _ _ h => h.2, fun _ _ h => h⟩ ?_; (repeat' (first | (refine wpLx_calm rfl rfl rfl (fun K hK => ?_); go_step <;> (refine hK _ ?_; clear hK K)) | (refine wpLx_skip2 rfl rfl rfl ?_; go_simp) | (refine wpLx_calm2 rfl rfl rfl rfl rfl (fun K hK => ?_); go_step <;> (refine hK _ ?_; clear hK K)))); all_goals (refine wpLx_nil ?_; try go_wp2_with fail))))
    go_ret
    exact ⟨(Upd.refl _ _).alloc _, rfl⟩
  · go_enter Tryd.func28, Tryd.ntmps28
    (go_wp2_with fail; (repeat' (refine wp_region_lx {} (by kernel_rfl) (by kernel_rfl) ⟨fun _ _ _ h => h.2, fun _ _ h => h⟩ ?_; (repeat' (first | (refine wpLx_calm rfl rfl rfl (fun K hK => ?_); go_step <;> (refine hK _ ?_; clear hK K)) | (refine wpLx_skip2 rfl rfl rfl ?_; go_simp) | (refine wpLx_calm2 rfl rfl rfl rfl rfl (fun K hK => ?_); go_step <;> (refine hK _ ?_; clear hK K)))); all_goals (refine wpLx_nil ?_; try go_wp2_with fail))))
    go_ret
    exact ⟨(Upd.refl _ _).alloc _, rfl⟩
def RestPost (w : World) (all : List UInt8) (f : Bool) (v : Value) (w' : World) : Prop :=
  New w w' ∧ ∃ a c, v = .tuple #[.slice a all.length c, .int .i64 (all.length : Int), .int .i64 (restC f : Int)] ∧ BytesA w' a c all
/-- an empty buffer, made -/
theorem Buf.made {w w' : World} {base : Nat} (h : New (w.alloc (.cells #[.slice none 0 0, .int .i64 0, .int .i8 0] 95)) w') : Buf w' w.heap.size base (.slice none 0 0) [] :=
  ⟨⟨0, h.heap (heap_alloc_new w _) (fun h => h)⟩, OwnB.nil base w', by simp [Value.ownBlock]⟩
set_option maxRecDepth 100000 in
set_option maxHeartbeats 1000000 in
theorem implRest {S : Err → Addr} {B : Nat} {w : World} {sz : Nat} {a : Option Addr} {c : Nat} {ps : List (List UInt8)} (f : Bool) (E : Env S B w) (h : PiecesA w a c ps) (hl : ps.flatten.length ≤ 20000) (hn : ps.length ≤ 500) (hsz : sz ≤ 5000) (hne : nones ps ≤ 50) :
    Calls Tryd.prog 29 #[.agg #[.slice a ps.length c, .bool f], .int .i64 (sz : Int)] w (Ret (RestPost w ps.flatten f)) := by
  obtain ⟨wb, hwb⟩ : ∃ wb, wb = (w.alloc (.cells #[.slice a ps.length c, .bool f] 24)) := ⟨_, rfl⟩
  obtain ⟨wc, hwc⟩ : ∃ wc, wc = wb.alloc (.cells #[.slice none 0 0, .int .i64 0, .int .i8 0] 95) := ⟨_, rfl⟩
  have hnb : New w wb := by rw [hwb]; exact (Upd.refl _ _).alloc _
  have hnc : New wb wc := by rw [hwc]; exact (Upd.refl _ _).alloc _
  have hwsz : wc.heap.size = wb.heap.size + 1 := by rw [hwc]; simp
  have hbsz : wb.heap.size = w.heap.size + 1 := by rw [hwb]; simp
  have K1 := Lib.hid (over (S := S) f (h.new (hnb.andNew hnc)) hl hn hsz hne)
  have HE := Lib.hid E
  have HL := Lib.hid hl
  have HNC := Lib.hid (hnb.andNew hnc)
  have HWC := Lib.hid hwc
  have KB : Hid (∀ w', New wc w' → ∀ base, Buf w' (w.heap.size + 1) base (.slice none 0 0) []) := fun w' h' base => by rw [HWC.out] at h'; rw [← hbsz]; exact Buf.made h'
  have c0 : wc.cell? ⟨w.heap.size, 0, none⟩ = some (.slice a ps.length c) := by rw [World.cell_of_heap (hnc.heap (by rw [hwb]; exact heap_alloc_new w _) (fun h => h))]; rfl
  have c1 : wc.cell? ⟨w.heap.size, 1, none⟩ = some (.bool f) := by rw [World.cell_of_heap (hnc.heap (by rw [hwb]; exact heap_alloc_new w _) (fun h => h))]; rfl
  have h2 := h.2.1
  unfold maxLen at h2
  clear h E hl hnb hnc
  obtain ⟨m, hm⟩ : ∃ m, ps.flatten.length = m := ⟨_, rfl⟩
  have HM := Lib.hid hm
  clear hm
  have KWT : Hid (∀ (w2 : World) (L : Loc), New wc w2 → wc.heap.size ≤ L.lo → L.hi ≤ w2.heap.size → Rd S w2 L (fresh (max sz 16) ps f) → Calls Tryd.prog 50 #[.pointer (some ⟨L.b, 0, none⟩), .iface 98 (.pointer (some ⟨w.heap.size + 1, 0, none⟩))] w2 (Ret fun v w' => v = .tuple #[.int .i64 (m : Int), eV S (restE f)] ∧ (∃ v', Buf w' (w.heap.size + 1) w2.heap.size v' ps.flatten) ∧ New w w')) := by
    intro w2 L hu1 hlo hhi hrd
    have HU2 : Hid (New w w2) := HNC.out.andNew hu1
    have hE2 := HE.out.new HU2.out
    have hB0 := HE.out.size
    have hlo' : w.heap.size + 2 ≤ L.lo := by omega
    have hlh : L.lo ≤ L.hi := by have := hrd.lomid; have := hrd.blo; have := hrd.bhi; omega
    have KW := writeTo hE2 hrd (KB.out w2 hu1 w2.heap.size) ⟨by omega, by omega, hE2.size⟩ hhi (fun hh => by have := hh.1; omega) (by omega) (Nat.le_refl _) (by rw [rem_fresh]; have := HL.out; omega)
    refine callRet KW ?_
    rintro v w3 ⟨rfl, hb3, hu3⟩
    rw [rem_fresh] at hb3
    refine ⟨?_, by simpa using hb3, HU2.out.trans hu3 (fun k hk hlt => by have hk : k = w.heap.size + 1 ∨ w2.heap.size ≤ k ∨ In L k := hk; have := HU2.out.size; rcases hk with hk | hk | hk; omega; omega; have := hk.1; omega)⟩
    rw [rem_fresh, HM.out, ← restE_v]; rfl
  have KCO := Lib.hid (fun (wx : World) (hx : Env S B wx) => codeOf (S := S) (restE f) wx hx)
  obtain ⟨re, hre⟩ : ∃ re, eV S (restE f) = re := ⟨_, rfl⟩
  rw [hre] at KWT KCO
  rw [restE_c] at KCO
  obtain ⟨all, hall⟩ : ∃ all, ps.flatten = all := ⟨_, rfl⟩
  have HALL := Lib.hid hall
  rw [hall] at HM KWT HL ⊢
  clear hre hall
  go_enter Tryd.func29, Tryd.ntmps29
  go_wp2_with (first | (go_at_call 32; rw [← hwb, ← hwc]; refine callRet K1.out ?_; rintro v w2 ⟨hu1, L, rfl, hlo, hhi, hrd⟩; have HKW := Lib.hid (KWT.out w2 L hu1 hlo hhi hrd); clear hu1 hlo hhi hrd hwb hwc) | (go_at_call 50; refine callRet HKW.out ?_; rintro v w3 ⟨rfl, ⟨v3, hb3⟩, hn3⟩; have HB3 := Lib.hid hb3; have HN3 := Lib.hid hn3; clear hb3 hn3) | (go_at_call 52; refine callRet (bufBytes HB3.out) ?_; rintro v w4 ⟨hn4, a4, c4, rfl, hby4⟩; have HN4 : Hid (New w w4) := HN3.out.andNew hn4; have HBY4 := Lib.hid (hby4.new hn4); clear hn4 hby4) | (go_at_call 51; refine callRet (copied _ _ _ _ HBY4.out (by have := HL.out; omega)) ?_; intro v w5 hnb5; have HN5 : Hid (New w w5) := HN4.out.andNew hnb5.1; obtain ⟨g5, c5, rfl, _, _, hby5⟩ := hnb5.bytes; have HBY5 := Lib.hid hby5; clear hnb5 hby5) | (go_at_call 34; refine callRet (KCO.out _ (HE.out.new HN5.out)) ?_; rintro v w6 ⟨rfl, rfl⟩))
  refine bodyPost_ret (results_tmp3 rfl _ _ _) rfl ?_
  exact ⟨HN5.out, _, _, by rw [HM.out]; rfl, HBY5.out⟩
end Go.Proofs.YtmmjfpcmempeeaaDoor
namespace Go.Proofs.YtmmjfpcmempeeaaDoor.fnRest
open Go.RowKit
set_option maxRecDepth 100000 in
set_option maxHeartbeats 2000000 in
theorem walk {S : Err → Addr} {B : Nat} {w : World} (E : Env S B w) (a : Option Addr) (c : Nat) (ps : List (List UInt8)) (f : Bool) (size : Int) (h : PiecesA w a c ps) :
    Calls Tryd.prog 8 #[.agg #[.slice a ps.length c, .bool f], .int .i16 size] w (Ret fun v w' => v = .bool true ∧ New w w') := by
  have HE := Lib.hid E
  have HP := Lib.hid h
  clear E h
  cases hfit : fits2 ps with
  | false =>
    have HF := Lib.hid hfit
    clear hfit
    go_enter Tryd.func8, Tryd.ntmps8
    go_wp2_with (go_at_call 9; refine callRet (zzFits1 _ _ _ _ _ (HP.out.new ((Upd.refl _ _).alloc _))) ?_; rintro v w1 ⟨h1, rfl⟩; have HU1 : Hid (New w w1) := ((Upd.refl _ _).alloc _).andNew h1; have HB1 : Hid (BoxUpd w #[.slice a ps.length c, .bool f] w1) := h1.new; have b0 := box_upd HB1.out (i := 0) rfl; have b1 := box_upd HB1.out (i := 1) rfl; clear h1; rw [HF.out])
    go_ret
    exact ⟨rfl, HU1.out⟩
  | true =>
    have HF := Lib.hid hfit
    clear hfit
    cases hsp : spokenB ps size with
    | false =>
      have HS := Lib.hid hsp
      clear hsp
      go_enter Tryd.func8, Tryd.ntmps8
      go_wp2_with (first | (go_at_call 9; refine callRet (zzFits1 _ _ _ _ _ (HP.out.new ((Upd.refl _ _).alloc _))) ?_; rintro v w1 ⟨h1, rfl⟩; have HU1 : Hid (New w w1) := ((Upd.refl _ _).alloc _).andNew h1; have HB1 : Hid (BoxUpd w #[.slice a ps.length c, .bool f] w1) := h1.new; have b0 := box_upd HB1.out (i := 0) rfl; have b1 := box_upd HB1.out (i := 1) rfl; clear h1; rw [HF.out]) | (go_at_call 10; refine callRet (spoken _ _ _ _ _ _ (HP.out.new HU1.out) HF.out) ?_; rintro v w2 ⟨h1, rfl⟩; have HU2 : Hid (New w w2) := HU1.out.andNew h1; have HB2 := Lib.hid (HB1.out.andNew h1); clear h1 b0 b1; have b0 := box_upd HB2.out (i := 0) rfl; have b1 := box_upd HB2.out (i := 1) rfl; rw [HS.out]))
      go_ret
      exact ⟨rfl, HU2.out⟩
    | true =>
      obtain ⟨hl1, hl2, hl3, sz, rfl, hsz⟩ := spokenB_spec hsp
      have HS := Lib.hid hsp
      have HN2 := Lib.hid hl2
      have HN3 := Lib.hid hl3
      obtain ⟨m, hm⟩ : ∃ m, ps.flatten.length = m := ⟨_, rfl⟩
      have HM := Lib.hid hm
      clear hsp hl2 hl3 hm
      go_enter Tryd.func8, Tryd.ntmps8
      go_wp2_with (first | (go_at_call 9; refine callRet (zzFits1 _ _ _ _ _ (HP.out.new ((Upd.refl _ _).alloc _))) ?_; rintro v w1 ⟨h1, rfl⟩; have HU1 : Hid (New w w1) := ((Upd.refl _ _).alloc _).andNew h1; have HB1 : Hid (BoxUpd w #[.slice a ps.length c, .bool f] w1) := h1.new; have b0 := box_upd HB1.out (i := 0) rfl; have b1 := box_upd HB1.out (i := 1) rfl; clear h1; rw [HF.out]) | (go_at_call 10; refine callRet (spoken _ _ _ _ _ _ (HP.out.new HU1.out) HF.out) ?_; rintro v w2 ⟨h1, rfl⟩; have HU2 : Hid (New w w2) := HU1.out.andNew h1; have HB2 := Lib.hid (HB1.out.andNew h1); clear h1 b0 b1; have b0 := box_upd HB2.out (i := 0) rfl; have b1 := box_upd HB2.out (i := 1) rfl; rw [HS.out]) | (go_at_call 11; refine callRet (specJoined _ _ _ _ (HP.out.new HU2.out) (by have := HN2.out; omega)) ?_; intro v w3 h1; have HU3 : Hid (New w w3) := HU2.out.andNew h1.1; have HB3 := Lib.hid (HB2.out.andNew h1.1); clear b0 b1; have b0 := box_upd HB3.out (i := 0) rfl; have b1 := box_upd HB3.out (i := 1) rfl; obtain ⟨g, cp, rfl, _, _, hall⟩ := h1.bytes; clear h1; rw [HM.out]; have HA3 := Lib.hid hall; clear hall) | (go_at_call 29; refine callRet (implRest f (HE.out.new HU3.out) (HP.out.new HU3.out) HN2.out hl1 hsz HN3.out) ?_; rintro v w4 ⟨hn4, a4, c4, rfl, hby4⟩; have HU4 : Hid (New w w4) := HU3.out.andNew hn4; have HB4 := Lib.hid (HB3.out.andNew hn4); clear b0 b1; have b0 := box_upd HB4.out (i := 0) rfl; have b1 := box_upd HB4.out (i := 1) rfl; have HA4 := Lib.hid (HA3.out.new hn4); have qs1 := run_strL Tryd.underlying29 Tryd.underlying5 Tryd.underlying9 HM.out hby4; have qs2 := run_strL Tryd.underlying29 Tryd.underlying5 Tryd.underlying9 HM.out HA4.out; clear hn4 hby4; rw [HM.out]) | (go_at_call 28; refine callRet (specCode _ _ _ _ _) ?_; rintro v w5 ⟨hn5, rfl⟩; have HU5 : Hid (New w w5) := HU4.out.andNew hn5; clear hn5))
      go_ret
      exact ⟨rfl, HU5.out⟩
end Go.Proofs.YtmmjfpcmempeeaaDoor.fnRest
