/- (*bufio.Writer).WriteRune. -/
import Derived.Test.YtgbbogocfmepiaaDoorWStr
import Derived.Test.YtgbbogocfmepiaaDoorWByte
import Derived.Test.YtgbbogocfmepiaaDoorEnc
namespace Go.Proofs.YtgbbogocfmepiaaDoor
open Go.RowKit
def XOk (st : WS) (x : Int) (n : Nat) : Prop := st.err = false → x = (n : Int)
def RuneOk (r : Int) : Prop := 0 ≤ r ∧ r ≤ 1114111 ∧ (r < 55296 ∨ 57343 < r)
theorem enc_one {r : Int} (h0 : 0 ≤ r) (h1 : r < 128) : enc r = [UInt8.ofNat r.toNat] ∧ ((UInt8.ofNat r.toNat).toNat : Int) = r := by
  unfold enc Lib.encodeRune
  rw [Lib.encodeRuneZ_one h0 (by omega)]
  refine ⟨rfl, ?_⟩
  have : (UInt8.ofNat r.toNat).toNat = r.toNat % 256 := UInt8.toNat_ofNat
  rw [this]; omega
theorem utf8_enc {r : Int} (h : RuneOk r) : Utf8.encode r = ⟨(enc r).toArray⟩ := by
  obtain ⟨h0, h1, h2⟩ := h
  obtain ⟨n, rfl⟩ := Int.eq_ofNat_of_zero_le h0
  have hv : Utf8.valid (n : Int) = true := by
    simp [Utf8.valid]; omega
  unfold Utf8.encode
  simp only [hv, if_true, Int.toNat_natCast]
  unfold enc Lib.encodeRune
  by_cases n1 : n < 128
  · rw [Lib.encodeRuneZ_one (by omega) (by omega), if_pos n1]
    rfl
  · rw [if_neg n1]
    by_cases n2 : n < 2048
    · rw [Lib.encodeRuneZ_two (by omega) (by omega), if_pos n2]
      have e1 : (192 + (n : Int) / 64).toNat = 192 + n / 64 := by omega
      have e2 : (128 + (n : Int) % 64).toNat = 128 + n % 64 := by omega
      simp only [List.map_cons, List.map_nil, e1, e2]
    · rw [if_neg n2]
      by_cases n3 : n < 65536
      · rw [Lib.encodeRuneZ_three (by omega), if_pos n3]
        have e1 : (224 + (n : Int) / 4096).toNat = 224 + n / 4096 := by omega
        have e2 : (128 + (n : Int) / 64 % 64).toNat = 128 + n / 64 % 64 := by omega
        have e3 : (128 + (n : Int) % 64).toNat = 128 + n % 64 := by omega
        simp only [List.map_cons, List.map_nil, e1, e2, e3]
      · rw [Lib.encodeRuneZ_four (by omega) (by omega), if_neg n3]
        have e1 : (240 + (n : Int) / 262144).toNat = 240 + n / 262144 := by omega
        have e2 : (128 + (n : Int) / 4096 % 64).toNat = 128 + n / 4096 % 64 := by omega
        have e3 : (128 + (n : Int) / 64 % 64).toNat = 128 + n / 64 % 64 := by omega
        have e4 : (128 + (n : Int) % 64).toNat = 128 + n % 64 := by omega
        simp only [List.map_cons, List.map_nil, e1, e2, e3, e4]
set_option maxRecDepth 100000 in
set_option maxHeartbeats 1000000 in
theorem encRune {w : World} {g off len cap : Nat} {r : Int} (h0 : 128 ≤ r) (h1 : r ≤ 1114111) (hs : r < 55296 ∨ 57343 < r) (hl : 4 ≤ len) (hc : ∀ j, j < 4 → (w.cell? ⟨g, off + j, none⟩).isSome = true) (hf : ∀ j, j < 4 → w.frozen? ⟨g, off + j, none⟩ = false) :
    Calls Tryd.prog 78 #[.slice (some ⟨g, off, none⟩) len cap, .int .i32 r] w (Ret (EncPost g off r w)) := by
  have K1 := Lib.hid (encNA (cap := cap) h0 h1 hs hl hc hf)
  clear hc hf hs
  go_enter Tryd.func78, Tryd.ntmps78
  go_wp2_with (go_at_call 81; refine callRet K1.out ?_; intro v w2 hp; obtain ⟨rfl, h2⟩ := hp; have H2 := Lib.hid h2; clear h2)
  go_ret
  exact ⟨rfl, H2.out⟩
/-- the rune's bytes laid -/
theorem WWent.rune {R : Option Nat} {base : Nat} {L : WLoc} {w w1 w2 : World} {st st1 : WS} {all : List UInt8} (h : WWent base L w st w1 st1) (hI : Inv R st1 all) (he : st1.err = false) (hn : st1.n + 4 ≤ st1.buf.length) (r : Int) (hst : st.err = false)
    (hw : w2 = (w1.setCells L.bb st1.n (Lib.runeCells r)).setCell ⟨L.b, 2, none⟩ (.int .i64 ((st1.n : Int) + (((Lib.runeCells r).length : Nat) : Int)))) : WPost R base L st (all ++ enc r) (WrP st (enc r).length) w (.tuple #[.int .i64 (((Lib.runeCells r).length : Nat) : Int), .nilIface]) w2 := by
  have hle := enc_len r
  have hlc : (Lib.runeCells r).length = (enc r).length := Lib.runeCells_length r
  have hb := heap_setCells (Lib.runeCells r) st1.n w1 _ h.wr.hbb (by simp only [List.size_toArray, List.length_map]; omega)
  rw [← enc_cells] at hb
  have h2 := h.laid (cs := enc r) (by omega) (by rw [enc_cells]; exact upd_setCells (Lib.runeCells r) st1.n w1) hb
  have h3 := hI.laid he (cs := enc r) (by omega)
  rw [hw, hlc, ← Int.natCast_add, ← enc_cells]
  exact h2.post h3 ⟨_, by show _ = Value.tuple #[_, errW st1.err]; rw [he]; rfl, fun _ => rfl, fun hh => by rw [hst] at hh; cases hh⟩
set_option maxRecDepth 100000 in
set_option maxHeartbeats 4000000 in
theorem wRune {R : Option Nat} {w : World} {base : Nat} {L : WLoc} {st : WS} {all : List UInt8} (h : Wr w base L st) (hI : Inv R st all) (hl : all.length + 8 ≤ 1000000) {r : Int} (hr : RuneOk r) :
    Calls Tryd.prog 62 #[.pointer (some ⟨L.b, 0, none⟩), .int .i32 r] w (Ret (WPost R base L st (all ++ enc r) (WrP st (enc r).length) w)) := by
  obtain ⟨hr0, hr1, hr2⟩ := hr
  have HR := Lib.hid (show RuneOk r from ⟨hr0, hr1, hr2⟩)
  have H := Lib.hid h
  have HI := Lib.hid hI
  by_cases hsm : r < 128
  · obtain ⟨q1, q2⟩ := enc_one hr0 hsm
    have KB := wByte h hI (by omega) (UInt8.ofNat r.toNat)
    rw [q2, ← q1] at KB
    have HKB := Lib.hid KB
    have HLE : Hid ((enc r).length = 1) := Lib.hid (by rw [q1]; rfl)
    clear q1 q2 KB h hI
    go_enter Tryd.func62, Tryd.ntmps62
    go_wp2_with (go_at_call 61; refine callRet HKB.out ?_; intro v w2 hp; obtain ⟨st1, ⟨rfl, q2⟩, hw, hi⟩ := hp.went; have HW := Lib.hid hw; have HI1 := Lib.hid hi; have HQ : Hid (WbP st (errW st1.err) st1) := Lib.hid ⟨rfl, q2⟩; clear hw hi q2 hp; obtain ⟨eo, heo, hee⟩ : ∃ eo, errW st1.err = eo ∧ ((st1.err = true ∧ eo = .iface 106 (.agg #[])) ∨ (st1.err = false ∧ eo = .nilIface)) := ⟨_, rfl, by cases st1.err <;> simp [errW]⟩; rw [heo]; rcases hee with ⟨h1, rfl⟩ | ⟨h1, rfl⟩; all_goals (have HE1 := Lib.hid h1; clear h1 heo))
    · go_ret2
      exact HW.out.post HI1.out ⟨_, by rw [HE1.out]; rfl, fun hh => (by rw [HE1.out] at hh; cases hh), fun _ => HE1.out⟩
    · go_ret2
      exact HW.out.post HI1.out ⟨_, by rw [HE1.out]; rfl, fun _ => (by rw [HLE.out]; rfl), fun hh => HQ.out.2 hh⟩
  · have h128 : 128 ≤ r := by omega
    obtain ⟨c0, c1, c2, c3, hf⟩ := h.cells
    have hn := h.n
    have hhi := h.hi
    have hpos := h.pos
    have hne := h.ne.1
    cases he : st.err with
    | true =>
      have HF : Hid (WPost R base L st (all ++ enc r) (WrP st (enc r).length) w (.tuple #[.int .i64 0, .iface 106 (.agg #[])]) w.drew) := Lib.hid (((WWent.refl h).new (Upd.refl _ _).drew).post (hI.more he (enc r)) ⟨_, by rw [he]; rfl, fun hh => (by rw [he] at hh; cases hh), fun _ => he⟩)
      rw [he] at c0
      change w.cell? ⟨L.b, 0, none⟩ = some (.iface 106 (.agg #[])) at c0
      clear h hI hl he
      go_enter Tryd.func62, Tryd.ntmps62
      go_wp2_with fail
      refine wp_region_lx {} (by kernel_rfl) (by kernel_rfl) ⟨fun _ _ _ h => h.2, fun _ _ h => h⟩ ?_
      (repeat' (first | (refine wpLx_calm rfl rfl rfl (fun K hK => ?_); go_step <;> (refine hK _ ?_; clear hK K)) | (refine wpLx_skip2 rfl rfl rfl ?_; go_simp) | (refine wpLx_calm2 rfl rfl rfl rfl rfl (fun K hK => ?_); go_step <;> (refine hK _ ?_; clear hK K))))
      all_goals refine wpLx_nil ?_
      go_wp2_with fail
      go_ret2
      exact HF.out
    | false =>
      rw [he] at c0
      change w.cell? ⟨L.b, 0, none⟩ = some .nilIface at c0
      have HE := Lib.hid he
      have KA := Lib.hid (wAvail h)
      have KF := Lib.hid (fun w2 (hx : New w w2) => flush (h.new hx) hI (by omega))
      by_cases hav : st.n + 4 ≤ st.buf.length
      · have q1 : decide ((st.buf.length : Int) - (st.n : Int) < 4) = false := decide_eq_false (by omega)
        have hnl : ¬ st.buf.length = st.n := by omega
        clear h hI he
        go_enter Tryd.func62, Tryd.ntmps62
        go_wp2_with (go_at_call 66; refine callRet KA.out ?_; rintro v w2 ⟨hn2, rfl⟩; have HN2 := Lib.hid hn2; have e1 := hn2.cell c1 (fun h => h); have e2 := hn2.cell c2 (fun h => h); have ef : ∀ i, w2.frozen? ⟨L.b, i, none⟩ = false := (fun i => World.frozen_of_heap (H.out.new hn2).hb i); clear hn2)
        refine wp_region_lx {} (by kernel_rfl) (by kernel_rfl) ⟨fun _ _ _ h => h.2, fun _ _ h => h⟩ ?_
        (repeat' (first | (refine wpLx_calm rfl rfl rfl (fun K hK => ?_); go_step <;> (refine hK _ ?_; clear hK K)) | (refine wpLx_skip2 rfl rfl rfl ?_; go_simp) | (refine wpLx_calm2 rfl rfl rfl rfl rfl (fun K hK => ?_); go_step <;> (refine hK _ ?_; clear hK K))))
        refine wpLx_eff rfl rfl rfl (fun K hK => ?_)
        refine wp_call (encRune (g := L.bb) (off := st.n) (len := st.buf.length - st.n) (cap := st.buf.length - st.n) h128 hr1 hr2 (by omega) (fun j hj => by rw [((WWent.refl H.out).new HN2.out.drew).wr.byte (show st.n + j < st.buf.length by omega)]; rfl) (fun j _ => World.frozen_of_heap ((WWent.refl H.out).new HN2.out.drew).wr.hbb _)) (by kernel_rfl) ?_
        intro v w9 hp
        obtain ⟨rfl, h9⟩ := hp
        have H9 := Lib.hid h9
        have u9 : Upd (fun j => j = L.bb) w2.drew w9 := by rw [h9]; exact upd_setCells _ _ _
        have g2 : w9.cell? ⟨L.b, 2, none⟩ = some (.int .i64 (st.n : Int)) := u9.cell (show w2.drew.cell? ⟨L.b, 2, none⟩ = _ from e2) (fun hh => hne hh.symm)
        have gf : ∀ i, w9.frozen? ⟨L.b, i, none⟩ = false := fun i => World.frozen_of_heap (u9.heap ((WWent.refl H.out).new HN2.out.drew).wr.hb (fun hh => hne hh.symm)) i
        obtain ⟨ln, hln⟩ : ∃ ln, (Lib.runeCells r).length = ln := ⟨_, rfl⟩
        have HLN := Lib.hid hln
        have hln4 : ln ≤ 4 := by have := Lib.runeCells_le r; omega
        rw [hln]
        clear hln h9 u9
        refine hK _ _ ?_
        clear hK K
        (repeat' (first | (refine wpLx_calm rfl rfl rfl (fun K hK => ?_); go_step <;> (refine hK _ ?_; clear hK K)) | (refine wpLx_skip2 rfl rfl rfl ?_; go_simp) | (refine wpLx_calm2 rfl rfl rfl rfl rfl (fun K hK => ?_); go_step <;> (refine hK _ ?_; clear hK K))))
        all_goals refine wpLx_nil ?_
        go_wp2_with fail
        go_ret2
        rw [← HLN.out]
        exact ((WWent.refl H.out).new HN2.out.drew).rune HI.out HE.out hav r HE.out (by rw [H9.out])
      · have q1 : decide ((st.buf.length : Int) - (st.n : Int) < 4) = true := decide_eq_true (by omega)
        clear h hI he
        by_cases h4 : 4 ≤ st.buf.length
        · go_enter Tryd.func62, Tryd.ntmps62
          go_wp2_with (first
            | (go_at_call 66; refine callRet KA.out ?_; rintro v w2 ⟨hn2, rfl⟩; have HN2 := Lib.hid hn2; clear hn2)
            | (go_at_call 66; refine callRet (wAvail HW.out.wr) ?_; rintro v w4 ⟨hn4, rfl⟩; have HN4 := Lib.hid hn4; have f1 := hn4.cell d1 (fun h => h); have f2 := hn4.cell d2 (fun h => h); have ff : ∀ i, w4.frozen? ⟨L.b, i, none⟩ = false := (fun i => World.frozen_of_heap (HW.out.wr.new hn4).hb i); clear hn4)
            | (go_at_call 64; refine callRet (KF.out _ HN2.out) ?_; intro v w3 hp; obtain ⟨st1, ⟨rfl, q2, _⟩, hw, hi⟩ := hp.went; have d0 : w3.cell? ⟨L.b, 0, none⟩ = some (errW st1.err) := hw.wr.cells.1; have d1 : w3.cell? ⟨L.b, 1, none⟩ = some (.slice (some ⟨L.bb, 0, none⟩) st1.buf.length st1.buf.length) := hw.wr.cells.2.1; have d2 : w3.cell? ⟨L.b, 2, none⟩ = some (.int .i64 (st1.n : Int)) := hw.wr.cells.2.2.1; have df := hw.wr.cells.2.2.2.2; have hlen := hw.len; have HW := Lib.hid hw; have HI1 := Lib.hid hi; have HQ : Hid (FullN1 st1) := Lib.hid q2; clear hw hi q2 hp; obtain ⟨eo, heo, hee⟩ : ∃ eo, errW st1.err = eo ∧ ((st1.err = true ∧ eo = .iface 106 (.agg #[])) ∨ (st1.err = false ∧ eo = .nilIface)) := ⟨_, rfl, by cases st1.err <;> simp [errW]⟩; rw [heo] at d0 ⊢; have hlen1 : st1.buf.length ≤ st.buf.length := (by omega); have hlen2 : st.buf.length ≤ st1.buf.length := (by omega); clear hlen; rcases hee with ⟨h1, rfl⟩ | ⟨h1, rfl⟩; all_goals (have HE1 := Lib.hid h1; clear h1 heo; (first | (have hz := HQ.out HE1.out; rw [hz] at d2; have HZ := Lib.hid hz; have q4 : decide ((st1.buf.length : Int) - (st1.n : Int) < 4) = false := decide_eq_false (by omega); have q5 : ¬ st1.buf.length < 4 := (by omega); clear hz) | skip))))
          · refine wp_region_lx {} (by kernel_rfl) (by kernel_rfl) ⟨fun _ _ _ h => h.2, fun _ _ h => h⟩ ?_
            (repeat' (first | (refine wpLx_calm rfl rfl rfl (fun K hK => ?_); go_step <;> (refine hK _ ?_; clear hK K)) | (refine wpLx_skip2 rfl rfl rfl ?_; go_simp) | (refine wpLx_calm2 rfl rfl rfl rfl rfl (fun K hK => ?_); go_step <;> (refine hK _ ?_; clear hK K))))
            all_goals refine wpLx_nil ?_
            go_wp2_with fail
            go_ret2
            exact ((WWent.trans H.out ((WWent.refl H.out).new HN2.out) HW.out).new (Upd.refl _ _).drew).post (HI1.out.more HE1.out (enc r)) ⟨_, by show _ = Value.tuple #[_, errW st1.err]; rw [HE1.out]; rfl, fun hh => (by have hh : st1.err = false := hh; rw [HE1.out] at hh; cases hh), fun _ => HE1.out⟩
          · refine wp_region_lx {} (by kernel_rfl) (by kernel_rfl) ⟨fun _ _ _ h => h.2, fun _ _ h => h⟩ ?_
            (repeat' (first | (refine wpLx_calm rfl rfl rfl (fun K hK => ?_); go_step <;> (refine hK _ ?_; clear hK K)) | (refine wpLx_skip2 rfl rfl rfl ?_; go_simp) | (refine wpLx_calm2 rfl rfl rfl rfl rfl (fun K hK => ?_); go_step <;> (refine hK _ ?_; clear hK K))))
            refine wpLx_eff rfl rfl rfl (fun K hK => ?_)
            refine wp_call (encRune (g := L.bb) (off := 0) (len := st1.buf.length) (cap := st1.buf.length) h128 hr1 hr2 (by omega) (fun j hj => by rw [(((WWent.trans H.out ((WWent.refl H.out).new HN2.out) HW.out).new HN4.out).new (Upd.refl _ _).drew).wr.byte (show 0 + j < st1.buf.length by omega)]; rfl) (fun j _ => World.frozen_of_heap (((WWent.trans H.out ((WWent.refl H.out).new HN2.out) HW.out).new HN4.out).new (Upd.refl _ _).drew).wr.hbb _)) (by kernel_rfl) ?_
            intro v w9 hp
            obtain ⟨rfl, h9⟩ := hp
            have H9 := Lib.hid h9
            have u9 : Upd (fun j => j = L.bb) w4.drew w9 := by rw [h9]; exact upd_setCells _ _ _
            have g2 : w9.cell? ⟨L.b, 2, none⟩ = some (.int .i64 ((0 : Nat) : Int)) := u9.cell (show w4.drew.cell? ⟨L.b, 2, none⟩ = _ from f2) (fun hh => hne hh.symm)
            have gf : ∀ i, w9.frozen? ⟨L.b, i, none⟩ = false := fun i => World.frozen_of_heap (u9.heap (((WWent.trans H.out ((WWent.refl H.out).new HN2.out) HW.out).new HN4.out).new (Upd.refl _ _).drew).wr.hb (fun hh => hne hh.symm)) i
            obtain ⟨ln, hln⟩ : ∃ ln, (Lib.runeCells r).length = ln := ⟨_, rfl⟩
            have HLN := Lib.hid hln
            have hln4 : ln ≤ 4 := by have := Lib.runeCells_le r; omega
            rw [hln]
            clear hln h9 u9
            refine hK _ _ ?_
            clear hK K
            (repeat' (first | (refine wpLx_calm rfl rfl rfl (fun K hK => ?_); go_step <;> (refine hK _ ?_; clear hK K)) | (refine wpLx_skip2 rfl rfl rfl ?_; go_simp) | (refine wpLx_calm2 rfl rfl rfl rfl rfl (fun K hK => ?_); go_step <;> (refine hK _ ?_; clear hK K))))
            all_goals refine wpLx_nil ?_
            go_wp2_with fail
            go_ret2
            rw [← HLN.out]
            exact (((WWent.trans H.out ((WWent.refl H.out).new HN2.out) HW.out).new HN4.out).new (Upd.refl _ _).drew).rune HI1.out HE1.out (by rw [HZ.out]; omega) r HE.out (by rw [H9.out, HZ.out]; simp)
        · have HU := Lib.hid (utf8_enc HR.out)
          go_enter Tryd.func62, Tryd.ntmps62
          go_wp2_with (first
            | (go_at_call 66; refine callRet KA.out ?_; rintro v w2 ⟨hn2, rfl⟩; have HN2 := Lib.hid hn2; clear hn2)
            | (go_at_call 66; refine callRet (wAvail HW.out.wr) ?_; rintro v w4 ⟨hn4, rfl⟩; have HN4 := Lib.hid hn4; have f1 := hn4.cell d1 (fun h => h); have f2 := hn4.cell d2 (fun h => h); have ff : ∀ i, w4.frozen? ⟨L.b, i, none⟩ = false := (fun i => World.frozen_of_heap (HW.out.wr.new hn4).hb i); clear hn4)
            | (go_at_call 63; rw [HU.out]; refine callRet (wString (HW.out.wr.new HN4.out) HI1.out (by have := enc_len r; omega)) ?_; intro v w5 hp; obtain ⟨st2, ⟨x, rfl, hx, _⟩, hw2, hi2⟩ := hp.went; have HW2 := Lib.hid hw2; have HI2 := Lib.hid hi2; have HX : Hid (XOk st2 x (enc r).length) := Lib.hid hx; clear hw2 hi2 hx hp)
            | (go_at_call 64; refine callRet (KF.out _ HN2.out) ?_; intro v w3 hp; obtain ⟨st1, ⟨rfl, q2, _⟩, hw, hi⟩ := hp.went; have d0 : w3.cell? ⟨L.b, 0, none⟩ = some (errW st1.err) := hw.wr.cells.1; have d1 : w3.cell? ⟨L.b, 1, none⟩ = some (.slice (some ⟨L.bb, 0, none⟩) st1.buf.length st1.buf.length) := hw.wr.cells.2.1; have d2 : w3.cell? ⟨L.b, 2, none⟩ = some (.int .i64 (st1.n : Int)) := hw.wr.cells.2.2.1; have df := hw.wr.cells.2.2.2.2; have hlen := hw.len; have HW := Lib.hid hw; have HI1 := Lib.hid hi; have HQ : Hid (FullN1 st1) := Lib.hid q2; clear hw hi q2 hp; obtain ⟨eo, heo, hee⟩ : ∃ eo, errW st1.err = eo ∧ ((st1.err = true ∧ eo = .iface 106 (.agg #[])) ∨ (st1.err = false ∧ eo = .nilIface)) := ⟨_, rfl, by cases st1.err <;> simp [errW]⟩; rw [heo] at d0 ⊢; have hlen1 : st1.buf.length ≤ st.buf.length := (by omega); have hlen2 : st.buf.length ≤ st1.buf.length := (by omega); clear hlen; rcases hee with ⟨h1, rfl⟩ | ⟨h1, rfl⟩; all_goals (have HE1 := Lib.hid h1; clear h1 heo; (first | (have hz := HQ.out HE1.out; rw [hz] at d2; have HZ := Lib.hid hz; have q4 : decide ((st1.buf.length : Int) - (st1.n : Int) < 4) = true := decide_eq_true (by omega); clear hz) | skip))))
          · refine wp_region_lx {} (by kernel_rfl) (by kernel_rfl) ⟨fun _ _ _ h => h.2, fun _ _ h => h⟩ ?_
            (repeat' (first | (refine wpLx_calm rfl rfl rfl (fun K hK => ?_); go_step <;> (refine hK _ ?_; clear hK K)) | (refine wpLx_skip2 rfl rfl rfl ?_; go_simp) | (refine wpLx_calm2 rfl rfl rfl rfl rfl (fun K hK => ?_); go_step <;> (refine hK _ ?_; clear hK K))))
            all_goals refine wpLx_nil ?_
            go_wp2_with fail
            go_ret2
            exact ((WWent.trans H.out ((WWent.refl H.out).new HN2.out) HW.out).new (Upd.refl _ _).drew).post (HI1.out.more HE1.out (enc r)) ⟨_, by show _ = Value.tuple #[_, errW st1.err]; rw [HE1.out]; rfl, fun hh => (by have hh : st1.err = false := hh; rw [HE1.out] at hh; cases hh), fun _ => HE1.out⟩
          · go_ret2
            exact (WWent.trans H.out ((WWent.trans H.out ((WWent.refl H.out).new HN2.out) HW.out).new HN4.out) HW2.out).post HI2.out ⟨x, rfl, HX.out, fun hh => (by rw [HE.out] at hh; cases hh)⟩
end Go.Proofs.YtgbbogocfmepiaaDoor
