/- (*bufio.Reader).ReadRune. -/
import Derived.Test.YtmmjfpcmempeeaaDoorRuneA
import Derived.Test.YtmmjfpcmempeeaaDoorUtfFull
import Derived.Deep.DeepCutAuto
import Derived.Deep.CutBlock
namespace Go.Proofs.YtmmjfpcmempeeaaDoor
open Go.RowKit
/-- the tables lie below block B -/
def TabsB (B : Nat) (w : World) : Prop := Tabs w ∧ 7 < B ∧ 8 < B
theorem TabsB.upd {B : Nat} {M : Nat → Prop} {w w' : World} (h : TabsB B w) (u : Upd M w w') (hm : ∀ k, M k → B ≤ k) : TabsB B w' :=
  ⟨h.1.upd u (fun hh => by have h1 := hm _ hh; have h2 := h.2.1; exact absurd h1 (Nat.not_le.2 h2)) (fun hh => by have h1 := hm _ hh; have h2 := h.2.2; exact absurd h1 (Nat.not_le.2 h2)), h.2⟩
theorem TabsB.new {B : Nat} {w w' : World} (h : TabsB B w) (u : New w w') : TabsB B w' := h.upd u (fun _ hh => False.elim hh)
theorem TabsB.updL {B : Nat} {w w' : World} {L : Loc} (h : TabsB B w) (hB : B ≤ L.lo) (u : Upd (In L) w w') : TabsB B w' := h.upd u (fun k hk => by have := hk.1; omega)
set_option maxRecDepth 100000 in
set_option maxHeartbeats 4000000 in
theorem readRune {S : Err → Addr} {B : Nat} {w : World} {L : Loc} {st : RS} {A : AR} (E : Env S B w) (T : TabsB B w) (hB : B ≤ L.lo) (h : Rd S w L st) (hA : Abs st A) :
    Calls Tryd.prog 33 #[.pointer (some ⟨L.b, 0, none⟩)] w (Ret (RunePost S w L (runeA A))) := by
  have HE := Lib.hid E
  have HT := Lib.hid T
  have HB := Lib.hid hB
  have H := Lib.hid h
  have HA := Lib.hid hA
  have HI := Lib.hid (In.b h)
  clear E T hB h hA
  go_enter Tryd.func33, Tryd.ntmps33
  go_upto_block 0 with fail
  go_cut [] (fun wc => ∃ st1, Rd S wc L st1 ∧ Upd (In L) w wc ∧ Fld runeC st st1 ∧ (fullB (bufd st1) = true ∨ st1.err ≠ none))
  case first =>
    go_wp2_with fail
    go_loopg [] (toFill st) (fun k wx => ∃ st1, Rd S wx L st1 ∧ Upd (In L) w wx ∧ Fld runeC st st1 ∧ toFill st1 ≤ k)
    case atStart => exact ⟨_, H.out, Upd.refl _ _, Fld.refl _ _, Nat.le_refl _⟩
    case round =>
      obtain ⟨st1, h1, u1, wt, hk⟩ := hrel
      have hrw := h1.rw
      have hwn := h1.wn
      have hnhi := h1.nhi
      have hnlo := h1.nlo
      obtain ⟨d0, d1, d2, d3, d4, d5, d6, hf1⟩ := h1.cells
      have H1 := Lib.hid h1
      have HU := Lib.hid u1
      have HW := Lib.hid wt
      have HK := Lib.hid hk
      have hbl := Lib.hid (bufd_length (st := st1) h1.wn)
      clear h1 u1 wt hk d1 d5 d6
      by_cases h4 : 4 ≤ st1.w - st1.r
      · have q4 : decide ((st1.w : Int) < (st1.r : Int) + 4) = false := decide_eq_false (by omega)
        have hful : Hid (fullB (bufd st1) = true) := full_four (by rw [hbl.out]; exact h4)
        clear h4
        (go_wp2_with fail; (repeat' (refine wp_region_lx {} (by kernel_rfl) (by kernel_rfl) ⟨fun _ _ _ h => h.2, fun _ _ h => h⟩ ?_; (repeat' (first | (refine wpLx_calm rfl rfl rfl (fun K hK => ?_); go_step <;> (refine hK _ ?_; clear hK K)) | (refine wpLx_skip2 rfl rfl rfl ?_; go_simp) | (refine wpLx_calm2 rfl rfl rfl rfl rfl (fun K hK => ?_); go_step <;> (refine hK _ ?_; clear hK K)) | (refine wpLx_skip rfl ?_; go_simp))); all_goals (refine wpLx_nil ?_; try go_wp2_with fail))))
        go_meet
        exact ⟨st1, H1.out.drew, HU.out.drew, HW.out, .inl hful.out⟩
      · have q4 : decide ((st1.w : Int) < (st1.r : Int) + 4) = true := decide_eq_true (by omega)
        have KF : Hid (∀ (o c : Nat), (st1.buf.length = st1.r ∧ o = 0 ∧ c = 0) ∨ (st1.buf.length ≠ st1.r ∧ o = st1.r ∧ c = st1.buf.length - st1.r) → ∀ wx, New wr wx →
            Calls Tryd.prog 53 #[.slice (some ⟨L.bb, o, none⟩) (st1.w - st1.r) c] wx (Ret fun v w' => New wx w' ∧ v = .bool (fullB (bufd st1)))) := by
          intro o c hor wx hx
          have hsub := (H1.out.new hx).sub (k := st1.w - st1.r) (a := some ⟨L.bb, o, none⟩) (c := c) (by omega) (by rcases hor with ⟨q1, rfl, rfl⟩ | ⟨q1, rfl, rfl⟩; exact .inl ⟨q1, rfl, rfl⟩; exact .inr ⟨q1, rfl, rfl⟩)
          rw [List.take_of_length_le (by rw [hbl.out]; omega)] at hsub
          have := fullRune ((HT.out.updL HB.out HU.out).new hx).1 hsub
          rwa [hbl.out] at this
        have hlt4 : st1.w - st1.r < st1.buf.length := by omega
        have HLT := Lib.hid hlt4
        clear h4 hlt4
        obtain ⟨fb, hfb⟩ : ∃ fb, fullB (bufd st1) = fb := ⟨_, rfl⟩
        have HFB := Lib.hid hfb
        rw [hfb] at KF
        clear hfb
        obtain ⟨o, c, ho⟩ : ∃ o c, (st1.buf.length = st1.r ∧ o = 0 ∧ c = 0) ∨ (st1.buf.length ≠ st1.r ∧ o = st1.r ∧ c = st1.buf.length - st1.r) := by
          by_cases hcr : st1.buf.length = st1.r
          · exact ⟨_, _, .inl ⟨hcr, rfl, rfl⟩⟩
          · exact ⟨_, _, .inr ⟨hcr, rfl, rfl⟩⟩
        have HER0 : Hid (st1.err = none ∨ st1.err ≠ none) := by cases st1.err <;> simp [Hid]
        rcases ho with ⟨hcr, rfl, rfl⟩ | ⟨hcr, rfl, rfl⟩
        all_goals
          have KF2 := Lib.hid (KF.out _ _ (by first | exact .inl ⟨hcr, rfl, rfl⟩ | exact .inr ⟨hcr, rfl, rfl⟩))
          clear KF
          cases fb with
          | true =>
            go_wp2_with fail
            refine wp_region_lx {} (by kernel_rfl) (by kernel_rfl) ⟨fun _ _ _ h => h.2, fun _ _ h => h⟩ ?_
            (repeat' (first | (refine wpLx_calm rfl rfl rfl (fun K hK => ?_); go_step <;> (refine hK _ ?_; clear hK K)) | (refine wpLx_skip2 rfl rfl rfl ?_; go_simp) | (refine wpLx_calm2 rfl rfl rfl rfl rfl (fun K hK => ?_); go_step <;> (refine hK _ ?_; clear hK K)) | (refine wpLx_skip rfl ?_; go_simp)))
            refine wpLx_eff' rfl rfl rfl (fun K hK => ?_)
            refine wp_call (KF2.out _ (Upd.refl _ _).drew) (by kernel_rfl) ?_
            rintro v w1 ⟨hn, rfl⟩
            have H2 := Lib.hid (H1.out.drew.new hn)
            have HU2 : Hid (Upd (In L) w w1) := HU.out.drew.andNew hn
            obtain ⟨e0, _, e2, e3, e4, _, _, ef⟩ := H2.out.cells
            clear d0 d2 d3 d4
            refine hK _ _ ?_
            clear hK K hn
            (repeat' (first | (refine wpLx_calm rfl rfl rfl (fun K hK => ?_); go_step <;> (refine hK _ ?_; clear hK K)) | (refine wpLx_skip2 rfl rfl rfl ?_; go_simp) | (refine wpLx_calm2 rfl rfl rfl rfl rfl (fun K hK => ?_); go_step <;> (refine hK _ ?_; clear hK K)) | (refine wpLx_skip rfl ?_; go_simp)))
            refine wpLx_nil ?_
            go_wp2_with fail
            go_meet
            exact ⟨st1, H2.out, HU2.out, HW.out, .inl HFB.out⟩
          | false =>
            cases he : st1.err with
            | some e =>
              have HER := Lib.hid he
              obtain ⟨et, ev, hev⟩ : ∃ et ev, eV S (some e) = .iface et ev := by cases e <;> exact ⟨_, _, rfl⟩
              have HEV := Lib.hid hev
              clear he hev
              go_wp2_with fail
              refine wp_region_lx {} (by kernel_rfl) (by kernel_rfl) ⟨fun _ _ _ h => h.2, fun _ _ h => h⟩ ?_
              (repeat' (first | (refine wpLx_calm rfl rfl rfl (fun K hK => ?_); go_step <;> (refine hK _ ?_; clear hK K)) | (refine wpLx_skip2 rfl rfl rfl ?_; go_simp) | (refine wpLx_calm2 rfl rfl rfl rfl rfl (fun K hK => ?_); go_step <;> (refine hK _ ?_; clear hK K)) | (refine wpLx_skip rfl ?_; go_simp)))
              refine wpLx_eff' rfl rfl rfl (fun K hK => ?_)
              refine wp_call (KF2.out _ (Upd.refl _ _).drew) (by kernel_rfl) ?_
              rintro v w1 ⟨hn, rfl⟩
              have H2 := Lib.hid (H1.out.drew.new hn)
              have HU2 : Hid (Upd (In L) w w1) := HU.out.drew.andNew hn
              obtain ⟨e0, _, e2, e3, e4, _, _, ef⟩ := H2.out.cells
              rw [HER.out, HEV.out] at e4; clear d0 d2 d3 d4
              refine hK _ _ ?_
              clear hK K hn
              (repeat' (first | (refine wpLx_calm rfl rfl rfl (fun K hK => ?_); go_step <;> (refine hK _ ?_; clear hK K)) | (refine wpLx_skip2 rfl rfl rfl ?_; go_simp) | (refine wpLx_calm2 rfl rfl rfl rfl rfl (fun K hK => ?_); go_step <;> (refine hK _ ?_; clear hK K)) | (refine wpLx_skip rfl ?_; go_simp)))
              refine wpLx_nil ?_
              go_wp2_with fail
              go_meet
              exact ⟨st1, H2.out, HU2.out, HW.out, .inr (by rw [HER.out]; simp)⟩
            | none =>
              have HER := Lib.hid he
              have q5 : decide ((st1.w : Int) - (st1.r : Int) < (st1.buf.length : Int)) = true := decide_eq_true (by have := HLT.out; omega)
              clear he
              go_wp2_with fail
              refine wp_region_lx {} (by kernel_rfl) (by kernel_rfl) ⟨fun _ _ _ h => h.2, fun _ _ h => h⟩ ?_
              (repeat' (first | (refine wpLx_calm rfl rfl rfl (fun K hK => ?_); go_step <;> (refine hK _ ?_; clear hK K)) | (refine wpLx_skip2 rfl rfl rfl ?_; go_simp) | (refine wpLx_calm2 rfl rfl rfl rfl rfl (fun K hK => ?_); go_step <;> (refine hK _ ?_; clear hK K)) | (refine wpLx_skip rfl ?_; go_simp)))
              refine wpLx_eff' rfl rfl rfl (fun K hK => ?_)
              refine wp_call (KF2.out _ (Upd.refl _ _).drew) (by kernel_rfl) ?_
              rintro v w1 ⟨hn, rfl⟩
              have H2 := Lib.hid (H1.out.drew.new hn)
              have HU2 : Hid (Upd (In L) w w1) := HU.out.drew.andNew hn
              obtain ⟨e0, _, e2, e3, e4, _, _, ef⟩ := H2.out.cells
              rw [HER.out] at e4; simp only [eV] at e4; clear d0 d2 d3 d4
              refine hK _ _ ?_
              clear hK K hn
              (repeat' (first | (refine wpLx_calm rfl rfl rfl (fun K hK => ?_); go_step <;> (refine hK _ ?_; clear hK K)) | (refine wpLx_skip2 rfl rfl rfl ?_; go_simp) | (refine wpLx_calm2 rfl rfl rfl rfl rfl (fun K hK => ?_); go_step <;> (refine hK _ ?_; clear hK K)) | (refine wpLx_skip rfl ?_; go_simp)))
              refine wpLx_nil ?_
              go_wp2_with (go_at_call 54; refine callRet (fill ((HE.out.updL HB.out HU2.out)) HB.out H2.out HLT.out) ?_; intro v w1 hv; have HV := Lib.hid hv; clear hv)
              obtain ⟨st2, ⟨_, chunk, hfill⟩, h2, u2⟩ := HV.out
              go_roundg (toFill st2)
              case rel => exact ⟨st2, h2, HU2.out.trans u2 (fun _ h _ => h), HW.out.fill hfill HER.out (fun _ => HFB.out), Nat.le_refl _⟩
              case measure => have := HK.out; have := hfill.less HER.out; omega
  case rest =>
    obtain ⟨st1, h1, u1, wt, hful⟩ := hcut
    have hrw := h1.rw
    have hwn := h1.wn
    have hnhi := h1.nhi
    have hnlo := h1.nlo
    obtain ⟨d0, d1, d2, d3, d4, d5, d6, hf1⟩ := h1.cells
    have h3 := h1.setRune (-1) (by omega) (by omega)
    have HU3 : Hid (Upd (In L) w (wc.setCell ⟨L.b, 6, none⟩ (.int .i64 (-1)))) := u1.setCell (fun _ => HI.out) _
    have H3 := Lib.hid h3
    have H1 := Lib.hid h1
    have HU := Lib.hid u1
    have HW := Lib.hid wt
    have HFU := Lib.hid hful
    have hbl := Lib.hid (bufd_length (st := st1) h1.wn)
    clear h1 u1 wt hful d1 d4 d5 h3
    by_cases hlt : st1.r < st1.w
    · have hposd := dec_pos (bs := bufd st1) (by rw [hbl.out]; omega)
      rw [hbl.out] at hposd
      have hl0 : 0 < (bufd st1).length := by rw [hbl.out]; omega
      obtain ⟨K, hK⟩ : ∃ K, (dec (bufd st1)).2 = K := ⟨_, rfl⟩
      obtain ⟨R, hR⟩ : ∃ R, (dec (bufd st1)).1 = R := ⟨_, rfl⟩
      rw [hK] at hposd
      have HPK := Lib.hid hposd
      have hk1 : 1 ≤ K := hposd.1
      have hk4 : K ≤ 4 := hposd.2.2.1
      have hkw : st1.r + K ≤ st1.w := by omega
      have KD : Hid (∀ wx, New (wc.setCell ⟨L.b, 6, none⟩ (.int .i64 (-1))) wx →
          Calls Tryd.prog 56 #[.slice (some ⟨L.bb, st1.r, none⟩) (st1.w - st1.r) (st1.buf.length - st1.r)] wx (Ret fun v w' => New wx w' ∧ v = .tuple #[.int .i32 (R : Int), .int .i64 (K : Int)])) := by
        intro wx hx
        have hsub := (H3.out.new hx).sub (k := st1.w - st1.r) (a := some ⟨L.bb, st1.r, none⟩) (c := st1.buf.length - st1.r) (by show st1.r + (st1.w - st1.r) ≤ st1.w; omega) (.inr ⟨by show st1.buf.length ≠ st1.r; omega, rfl, rfl⟩)
        have hsub : BytesA wx (some ⟨L.bb, st1.r, none⟩) (st1.buf.length - st1.r) ((bufd st1).take (st1.w - st1.r)) := hsub
        rw [List.take_of_length_le (by rw [hbl.out]; omega)] at hsub
        have := decodeRune ((HT.out.updL HB.out HU3.out).new hx).1 hsub
        rwa [hbl.out, hR, hK] at this
      obtain ⟨x, hx⟩ : ∃ x, xb (bufd st1) (K - 1) = x := ⟨_, rfl⟩
      have hx256 : x < 256 := by rw [← hx]; exact xb_lt _ _
      have hbx : Hid (∀ wx, Rd S wx L { st1 with rune := -1 } → wx.cell? ⟨L.bb, st1.r + K - 1, none⟩ = some (.int .u8 (x : Int))) := by
        intro wx hr
        rw [hr.byte (i := st1.r + K - 1) (by show _ < st1.buf.length; omega)]
        rw [← hx]
        unfold xb bufd
        rw [List.getD_eq_getElem?_getD, List.getElem?_drop, List.getElem?_take_of_lt (by omega), show st1.r + (K - 1) = st1.r + K - 1 by omega, List.getElem?_eq_getElem (by omega)]
        rfl
      have i1 : (st1.r : Int) + (K : Int) - 1 = ((st1.r + K - 1 : Nat) : Int) := by omega
      have hu64 : wrap64 (x : Int) = (x : Int) := by unfold wrap64; omega
      have qe : ((st1.r : Int) == (st1.w : Int)) = false := by rw [beq_eq_false_iff_ne]; omega
      have HKK := Lib.hid hK
      have HRR := Lib.hid hR
      have HXX := Lib.hid hx
      have hcr : ¬ st1.buf.length = st1.r := by omega
      clear hK hR hx hposd hl0
      go_wp2_with fail
      refine wp_region_lx {} (by kernel_rfl) (by kernel_rfl) ⟨fun _ _ _ h => h.2, fun _ _ h => h⟩ ?_
      (repeat' (first | (refine wpLx_calm rfl rfl rfl (fun K hK => ?_); go_step <;> (refine hK _ ?_; clear hK K)) | (refine wpLx_skip2 rfl rfl rfl ?_; go_simp) | (refine wpLx_calm2 rfl rfl rfl rfl rfl (fun K hK => ?_); go_step <;> (refine hK _ ?_; clear hK K)) | (refine wpLx_skip rfl ?_; go_simp)))
      refine wpLx_nil ?_
      go_wp2_with fail
      refine wp_region_lx {} (by kernel_rfl) (by kernel_rfl) ⟨fun _ _ _ h => h.2, fun _ _ h => h⟩ ?_
      (repeat' (first | (refine wpLx_calm rfl rfl rfl (fun K hK => ?_); go_step <;> (refine hK _ ?_; clear hK K)) | (refine wpLx_skip2 rfl rfl rfl ?_; go_simp) | (refine wpLx_calm2 rfl rfl rfl rfl rfl (fun K hK => ?_); go_step <;> (refine hK _ ?_; clear hK K)) | (refine wpLx_skip rfl ?_; go_simp)))
      refine wpLx_eff rfl rfl rfl (fun K' hK' => ?_)
      refine wp_call (KD.out _ (Upd.refl _ _).drew.drew) (by kernel_rfl) ?_
      rintro v w1 ⟨hn, rfl⟩
      have H5 := Lib.hid (H3.out.drew.drew.new hn)
      have HU5 : Hid (Upd (In L) w w1) := HU3.out.drew.drew.andNew hn
      obtain ⟨e0, _, e2, e3, _, e5, e6, ef⟩ := H5.out.cells
      have eb := hbx.out w1 H5.out
      have hb1 : L.bb ≠ L.b := H5.out.ne
      have hb2 : L.b ≠ L.bb := fun hh => H5.out.ne hh.symm
      clear d0 d2 d3 d6 hf1
      refine hK' _ _ ?_
      clear hK' K' hn
      (repeat' (first | (refine wpLx_calm rfl rfl rfl (fun K hK => ?_); go_step <;> (refine hK _ ?_; clear hK K)) | (refine wpLx_skip2 rfl rfl rfl ?_; go_simp) | (refine wpLx_calm2 rfl rfl rfl rfl rfl (fun K hK => ?_); go_step <;> (refine hK _ ?_; clear hK K)) | (refine wpLx_skip rfl ?_; go_simp)))
      refine wpLx_nil ?_
      go_wp2_with fail
      refine wp_region_lx {} (by kernel_rfl) (by kernel_rfl) ⟨fun _ _ _ h => h.2, fun _ _ h => h⟩ ?_
      (repeat' (first | (refine wpLx_calm rfl rfl rfl (fun K hK => ?_); go_step <;> (refine hK _ ?_; clear hK K)) | (refine wpLx_skip2 rfl rfl rfl ?_; go_simp) | (refine wpLx_calm2 rfl rfl rfl rfl rfl (fun K hK => ?_); go_step <;> (refine hK _ ?_; clear hK K)) | (refine wpLx_skip rfl ?_; go_simp)))
      refine wpLx_eff rfl rfl rfl (fun K' hK' => ?_)
      go_step
      refine hK' _ _ ?_
      clear hK' K'
      refine wpLx_nil ?_
      go_wp2_with fail
      refine bodyPost_ret (results_tmp3 rfl _ _ _) rfl ?_
      refine rune_some HA.out HW.out H1.out hlt HFU.out (by rw [HRR.out, HKK.out]; rfl) (st' := { st1 with r := st1.r + K, last := (x : Int), rune := (K : Int) }) (by rw [HKK.out, HXX.out]) ?_ ?_
      · first | exact ((((H5.out.setR (st1.r + K) hkw).setLast (x : Int) (by omega) (by omega)).setRune (K : Int) (by omega) (by omega))).drew | exact (((H5.out.setR (st1.r + K) hkw).setLast (x : Int) (by omega) (by omega)).setRune (K : Int) (by omega) (by omega))
      · first | exact (((HU5.out.setCell (fun _ => HI.out) _).setCell (fun _ => HI.out) _).setCell (fun _ => HI.out) _).drew | exact ((HU5.out.setCell (fun _ => HI.out) _).setCell (fun _ => HI.out) _).setCell (fun _ => HI.out) _
    · have hle : st1.w ≤ st1.r := by omega
      have he : st1.err ≠ none := by
        rcases HFU.out with h | h
        · have h0 : bufd st1 = [] := bufd_nil hle
          rw [h0] at h
          cases h
        · exact h
      have qe : ((st1.r : Int) == (st1.w : Int)) = true := by rw [beq_iff_eq]; omega
      have HE1 := Lib.hid he
      have HLE := Lib.hid hle
      clear he hle
      go_wp2_with fail
      refine wp_region_lx {} (by kernel_rfl) (by kernel_rfl) ⟨fun _ _ _ h => h.2, fun _ _ h => h⟩ ?_
      (repeat' (first | (refine wpLx_calm rfl rfl rfl (fun K hK => ?_); go_step <;> (refine hK _ ?_; clear hK K)) | (refine wpLx_skip2 rfl rfl rfl ?_; go_simp) | (refine wpLx_calm2 rfl rfl rfl rfl rfl (fun K hK => ?_); go_step <;> (refine hK _ ?_; clear hK K)) | (refine wpLx_skip rfl ?_; go_simp)))
      refine wpLx_nil ?_
      go_wp2_with (go_at_call 55; refine callRet (readErr H3.out.drew) ?_; rintro v w1 ⟨st2, ⟨rfl, rfl⟩, h2, u2⟩; have H2 := Lib.hid h2; have HU2 : Hid (Upd (In L) w w1) := HU3.out.drew.trans u2 (fun _ h _ => h); clear h2 u2)
      refine bodyPost_ret (results_tmp3 rfl _ _ _) rfl ?_
      exact rune_end HA.out HW.out H1.out HE1.out HLE.out rfl rfl H2.out HU2.out
end Go.Proofs.YtmmjfpcmempeeaaDoor
