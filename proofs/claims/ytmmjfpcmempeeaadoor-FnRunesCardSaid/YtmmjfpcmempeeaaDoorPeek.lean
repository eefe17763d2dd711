/- (*bufio.Reader).Peek. -/
import Derived.Test.YtmmjfpcmempeeaaDoorAbs
namespace Go.Proofs.YtmmjfpcmempeeaaDoor
open Go.RowKit
def peekA (A : AR) (n : Int) : (List UInt8 × Option Err) × AR :=
  if n < 0 then (([], some .neg), A)
  else if (A.size : Int) < n then ((A.left.take A.size, some .full), { A with last := -1, rune := -1, err := A.err || decide (A.left.length < A.size) })
  else if (A.left.length : Int) < n then ((A.left, some (endErr A.f)), { A with last := -1, rune := -1, err := false })
  else ((A.left.take n.toNat, none), { A with last := -1, rune := -1 })
def peekC (m size : Nat) (l : List UInt8) : Prop := l.length < m ∧ l.length < size
theorem abs_peek {C : List UInt8 → Prop} {st st1 : RS} {A : AR} {e : Bool} (hA : Abs st A) (hF : Fld C { st with last := -1, rune := -1 } st1) (he : st1.err = if e then some (endErr A.f) else none) : Abs st1 { A with last := -1, rune := -1, err := e } where
  left := hF.rem.trans hA.left
  size := hF.n.trans hA.size
  f := hF.f.trans hA.f
  err := he
  last := hF.last
  rune := hF.rune
  pos := fun h => by have := hF.last; simp at this; omega
  nz := fun h => by have := hF.rune; simp at this; omega
  back := fun h => by have := hF.rune; simp at this; omega
theorem peek_full {S : Err → Addr} {w wr : World} {L : Loc} {st st1 : RS} {A : AR} {m : Nat} (hA : Abs st A) (hm : A.size < m) (hF : Fld (peekC m A.size) { st with last := -1, rune := -1 } st1) (H : Rd S wr L st1) (U : Upd (In L) w wr)
    (he : A.size ≤ st1.w - st1.r ∨ st1.err ≠ none) {a : Option Addr} {c : Nat} (hs : SubAt L st1 a c) :
    SlicePost S w L (peekA A m) (.tuple #[.slice a (st1.w - st1.r) c, eV S (some .full)]) wr := by
  have e : peekA A m = ((A.left.take A.size, some .full), { A with last := -1, rune := -1, err := A.err || decide (A.left.length < A.size) }) := (if_neg (by omega)).trans (if_pos (by omega))
  have hbl := bufd_length (st := st1) H.wn
  have hrem : rem st1 = A.left := hF.rem.trans hA.left
  have hn : st1.buf.length = A.size := hF.n.trans hA.size
  have hle := rem_length st1
  have hwn := H.wn
  have hrw := H.rw
  have hbd : A.left.take A.size = bufd st1 ∧ (st1.err = if (A.err || decide (A.left.length < A.size)) then some (endErr A.f) else none) := by
    rcases Nat.lt_or_ge (st1.w - st1.r) A.size with hlt | hge
    · have he' : st1.err ≠ none := by rcases he with h | h; omega; exact h
      obtain ⟨q1, q2⟩ := H.ended he'
      have hr : A.left = bufd st1 := by rw [← hrem]; exact rem_end q1
      refine ⟨by rw [hr, List.take_of_length_le (by omega)], ?_⟩
      rw [q2, hF.f]
      have : A.left.length < A.size := by rw [hr]; omega
      rw [decide_eq_true this, Bool.or_true, if_pos rfl]
      show some (endErr st.f) = _
      rw [hA.f]
    · have hal : A.size ≤ A.left.length := by rw [← hrem]; omega
      refine ⟨?_, ?_⟩
      · rw [← hrem, rem_take (by omega), List.take_of_length_le (by omega)]
      · rw [decide_eq_false (by omega), Bool.or_false, hF.same (fun hc => ?_)]
        · exact hA.err
        · have h2 : (rem { st with last := -1, rune := -1 }).length < A.size := hc.2
          rw [← hF.rem, hrem] at h2
          omega
  rw [e, hbd.1]
  have hb := H.sub (k := st1.w - st1.r) (by omega) hs
  rw [List.take_of_length_le (by omega)] at hb
  refine ⟨st1, _, _, by rw [hbl], hb, hs.bb, H, U, abs_peek hA hF hbd.2⟩
set_option maxRecDepth 100000 in
set_option maxHeartbeats 2000000 in
theorem peek {S : Err → Addr} {B : Nat} {w : World} {L : Loc} {st : RS} {A : AR} (E : Env S B w) (hB : B ≤ L.lo) (h : Rd S w L st) (hA : Abs st A) (n : Int) (hn1 : -65536 ≤ n) (hn2 : n ≤ 9223372036854775807) :
    Calls Tryd.prog 62 #[.pointer (some ⟨L.b, 0, none⟩), .int .i64 n] w (Ret (SlicePost S w L (peekA A n))) := by
  have HE := Lib.hid E
  have HB := Lib.hid hB
  have H := Lib.hid h
  have HA := Lib.hid hA
  have gneg := (E.g .neg (by decide)).2
  have gfull := (E.g .full (by decide)).2
  simp only [Err.g, eV] at gneg gfull
  obtain ⟨c0, c1, c2, c3, c4, c5, c6, hf⟩ := h.cells
  by_cases h0 : n < 0
  · clear E hB h c0 c1 c2 c3 c4 c5 c6 gfull hA
    go_enter Tryd.func62, Tryd.ntmps62
    (go_wp2_with fail; (repeat' (refine wp_region_lx {} (by kernel_rfl) (by kernel_rfl) ⟨fun _ _ _ h => h.2, fun _ _ h => h⟩ ?_; (repeat' (first | (refine wpLx_calm rfl rfl rfl (fun K hK => ?_); go_step <;> (refine hK _ ?_; clear hK K)) | (refine wpLx_skip2 rfl rfl rfl ?_; go_simp) | (refine wpLx_calm2 rfl rfl rfl rfl rfl (fun K hK => ?_); go_step <;> (refine hK _ ?_; clear hK K)))); all_goals (refine wpLx_nil ?_; try go_wp2_with fail))))
    go_ret2
    have e : peekA A n = (([], some .neg), A) := if_pos h0
    rw [e]
    exact ⟨st, none, 0, rfl, ⟨Nat.le_refl _, Nat.zero_le _, fun _ => rfl, fun p hp => (by cases hp)⟩, fun p hp => (by cases hp), H.out.drew, (Upd.refl _ _).drew, HA.out⟩
  · obtain ⟨m, rfl⟩ := Int.eq_ofNat_of_zero_le (show 0 ≤ n by omega)
    have h1 : Rd S ((w.setCell ⟨L.b, 5, none⟩ (.int .i64 (-1))).setCell ⟨L.b, 6, none⟩ (.int .i64 (-1))) L { st with last := -1, rune := -1 } := (h.setLast (-1) (by omega) (by omega)).setRune (-1) (by omega) (by omega)
    have HI := Lib.hid (In.b h)
    have H1 := Lib.hid h1
    have HN := Lib.hid h0
    have hm9 : m ≤ 9223372036854775807 := by omega
    clear E hB h h0 h1 c0 c1 c2 c3 c4 gneg hA
    go_enter Tryd.func62, Tryd.ntmps62
    go_wp2
    go_loopg [] (toFill st) (fun k wx => ∃ st1, Rd S wx L st1 ∧ Upd (In L) w wx ∧ Fld (peekC m A.size) { st with last := -1, rune := -1 } st1 ∧ toFill st1 ≤ k)
    case atStart => exact ⟨_, H1.out, ((Upd.refl _ _).setCell (fun _ => HI.out) _).setCell (fun _ => HI.out) _, Fld.refl _ _, Nat.le_refl _⟩
    case round =>
      obtain ⟨st1, h1, u1, wt, hk⟩ := hrel
      have hrw := h1.rw
      have hwn := h1.wn
      have hnhi := h1.nhi
      have hnlo := h1.nlo
      obtain ⟨d0, d1, d2, d3, d4, d5, d6, hf1⟩ := h1.cells
      have gfull1 := ((HE.out.updL HB.out u1).g .full (by decide)).2
      simp only [Err.g, eV] at gfull1
      have H2 := Lib.hid h1
      have HU := Lib.hid u1
      have HW := Lib.hid wt
      have HK := Lib.hid hk
      have hsz : Hid (A.size = st1.buf.length) := (wt.n.trans HA.out.size).symm
      have hbl := Lib.hid (bufd_length (st := st1) h1.wn)
      clear h1 u1 wt hk c5 c6 hf d1 d5 d6 gfull
      by_cases ha : m ≤ st1.w - st1.r
      · have hd1 : decide ((st1.w : Int) - (st1.r : Int) < (m : Int)) = false := decide_eq_false (by omega)
        have hd3 : decide ((st1.buf.length : Int) < (m : Int)) = false := decide_eq_false (by omega)
        have hFIN : Hid (∀ wx a c k, New wr wx → SubAt L st1 a c → k = m → SlicePost S w L (peekA A m) (.tuple #[.slice a k c, eV S none]) wx) := by
          intro wx a c k hx hsa hk
          rw [hk]
          have hs := hsz.out
          have hle := rem_length st1
          have hb := hbl.out
          have hrem : rem st1 = A.left := HW.out.rem.trans HA.out.left
          have e : peekA A m = ((A.left.take m, none), { A with last := -1, rune := -1 }) := (if_neg (by omega)).trans ((if_neg (by omega)).trans (if_neg (by rw [← hrem]; omega)))
          have hsub := (H2.out.new hx).sub (k := m) (by omega) hsa
          rw [← rem_take (by omega), hrem] at hsub
          rw [e]
          refine ⟨st1, _, _, ?_, hsub, hsa.bb, H2.out.new hx, HU.out.andNew hx, abs_peek (e := A.err) HA.out HW.out ?_⟩
          · have : (A.left.take m).length = m := by rw [List.length_take, ← hrem]; omega
            rw [this]
          · rw [HW.out.same (fun hc => ?_)]
            · exact HA.out.err
            · have hc : (rem { st with last := -1, rune := -1 }).length < m := hc.1
              rw [← HW.out.rem] at hc
              omega
        clear d4
        (go_wp2_with fail; (repeat' (refine wp_region_lx {} (by kernel_rfl) (by kernel_rfl) ⟨fun _ _ _ h => h.2, fun _ _ h => h⟩ ?_; (repeat' (first | (refine wpLx_calm rfl rfl rfl (fun K hK => ?_); go_step <;> (refine hK _ ?_; clear hK K)) | (refine wpLx_skip2 rfl rfl rfl ?_; go_simp) | (refine wpLx_calm2 rfl rfl rfl rfl rfl (fun K hK => ?_); go_step <;> (refine hK _ ?_; clear hK K)))); all_goals (refine wpLx_nil ?_; try go_wp2_with fail))))
        all_goals
          go_ret2
          first | exact hFIN.out _ _ _ _ (Upd.refl _ _).drew.drew.drew (.inl ⟨by assumption, rfl, rfl⟩) (by omega) | exact hFIN.out _ _ _ _ (Upd.refl _ _).drew.drew.drew (.inr ⟨by assumption, rfl, rfl⟩) (by omega)
      · by_cases hb : st1.buf.length ≤ st1.w - st1.r
        · have hd1 : decide ((st1.w : Int) - (st1.r : Int) < (m : Int)) = true := decide_eq_true (by omega)
          have hd2 : decide ((st1.w : Int) - (st1.r : Int) < (st1.buf.length : Int)) = false := decide_eq_false (by omega)
          have hd3 : decide ((st1.buf.length : Int) < (m : Int)) = true := decide_eq_true (by omega)
          clear d4
          have hcr : ¬ st1.buf.length = st1.r := by omega
          (go_wp2_with fail; (repeat' (refine wp_region_lx {} (by kernel_rfl) (by kernel_rfl) ⟨fun _ _ _ h => h.2, fun _ _ h => h⟩ ?_; (repeat' (first | (refine wpLx_calm rfl rfl rfl (fun K hK => ?_); go_step <;> (refine hK _ ?_; clear hK K)) | (refine wpLx_skip2 rfl rfl rfl ?_; go_simp) | (refine wpLx_calm2 rfl rfl rfl rfl rfl (fun K hK => ?_); go_step <;> (refine hK _ ?_; clear hK K)))); all_goals (refine wpLx_nil ?_; try go_wp2_with fail))))
          go_ret2
          first | exact peek_full HA.out (by have := hsz.out; omega) HW.out (H2.out.drew.drew) (HU.out.drew.drew) (.inl (by have := hsz.out; omega)) (.inl ⟨by assumption, rfl, rfl⟩) | exact peek_full HA.out (by have := hsz.out; omega) HW.out (H2.out.drew.drew) (HU.out.drew.drew) (.inl (by have := hsz.out; omega)) (.inr ⟨by assumption, rfl, rfl⟩)
        · cases he : st1.err with
          | none =>
            have HER := Lib.hid he
            rw [he] at d4
            simp only [eV] at d4
            clear he
            have hlt1 : st1.w - st1.r < m := by omega
            have hlt2 : st1.w - st1.r < st1.buf.length := by omega
            have HLT := Lib.hid hlt2
            have HLT1 := Lib.hid hlt1
            have hd1 : decide ((st1.w : Int) - (st1.r : Int) < (m : Int)) = true := decide_eq_true (by omega)
            have hd2 : decide ((st1.w : Int) - (st1.r : Int) < (st1.buf.length : Int)) = true := decide_eq_true (by omega)
            clear ha hb hlt1 hlt2
            (go_wp2_with fail; (repeat' (refine wp_region_lx {} (by kernel_rfl) (by kernel_rfl) ⟨fun _ _ _ h => h.2, fun _ _ h => h⟩ ?_; (repeat' (first | (refine wpLx_calm rfl rfl rfl (fun K hK => ?_); go_step <;> (refine hK _ ?_; clear hK K)) | (refine wpLx_skip2 rfl rfl rfl ?_; go_simp) | (refine wpLx_calm2 rfl rfl rfl rfl rfl (fun K hK => ?_); go_step <;> (refine hK _ ?_; clear hK K)))); all_goals (refine wpLx_nil ?_; try go_wp2_with fail))))
            go_wp2_with (go_at_call 54; refine callRet (fill ((HE.out.upd HU.out (fun k hk => by have := hk.1; have := HB.out; omega)).new (Upd.refl _ _).drew) HB.out H2.out.drew HLT.out) ?_; intro v w1 hv; have HV := Lib.hid hv; clear hv)
            obtain ⟨st2, ⟨_, chunk, hfill⟩, h2, u2⟩ := HV.out
            go_roundg (toFill st2)
            case rel => exact ⟨st2, h2, (HU.out.drew).trans u2 (fun _ h _ => h), HW.out.fill hfill HER.out (fun _ => ⟨by rw [hbl.out]; exact HLT1.out, by rw [hbl.out, hsz.out]; exact HLT.out⟩), Nat.le_refl _⟩
            case measure => have := HK.out; have := hfill.less HER.out; omega
          | some e =>
            have HER := Lib.hid he
            rw [he] at d4
            obtain ⟨et, ev, hev⟩ : ∃ et ev, eV S (some e) = .iface et ev := by cases e <;> exact ⟨_, _, rfl⟩
            rw [hev] at d4
            have HEV := Lib.hid hev
            clear he hev
            have hd1 : decide ((st1.w : Int) - (st1.r : Int) < (m : Int)) = true := decide_eq_true (by omega)
            have hd2 : decide ((st1.w : Int) - (st1.r : Int) < (st1.buf.length : Int)) = true := decide_eq_true (by omega)
            by_cases hc : st1.buf.length < m
            · have hd3 : decide ((st1.buf.length : Int) < (m : Int)) = true := decide_eq_true (by omega)
              (go_wp2_with fail; (repeat' (refine wp_region_lx {} (by kernel_rfl) (by kernel_rfl) ⟨fun _ _ _ h => h.2, fun _ _ h => h⟩ ?_; (repeat' (first | (refine wpLx_calm rfl rfl rfl (fun K hK => ?_); go_step <;> (refine hK _ ?_; clear hK K)) | (refine wpLx_skip2 rfl rfl rfl ?_; go_simp) | (refine wpLx_calm2 rfl rfl rfl rfl rfl (fun K hK => ?_); go_step <;> (refine hK _ ?_; clear hK K)))); all_goals (refine wpLx_nil ?_; try go_wp2_with fail))))
              all_goals
                go_ret2
                first | exact peek_full HA.out (by have := hsz.out; omega) HW.out (H2.out.drew.drew) (HU.out.drew.drew) (.inr (by rw [HER.out]; simp)) (.inl ⟨by assumption, rfl, rfl⟩) | exact peek_full HA.out (by have := hsz.out; omega) HW.out (H2.out.drew.drew) (HU.out.drew.drew) (.inr (by rw [HER.out]; simp)) (.inr ⟨by assumption, rfl, rfl⟩)
            · have hd3 : decide ((st1.buf.length : Int) < (m : Int)) = false := decide_eq_false (by omega)
              have hFIN : Hid (∀ wx a c k, New (wr.setCell ⟨L.b, 4, none⟩ .nilIface) wx → SubAt L st1 a c → k = st1.w - st1.r → SlicePost S w L (peekA A m) (.tuple #[.slice a k c, eV S (some e)]) wx) := by
                intro wx a c k hx hsa hk
                rw [hk]
                have hs := hsz.out
                have hb := hbl.out
                obtain ⟨q1, q2⟩ := H2.out.ended (by rw [HER.out]; simp)
                have hrem : rem st1 = A.left := HW.out.rem.trans HA.out.left
                have hr : A.left = bufd st1 := by rw [← hrem]; exact rem_end q1
                have ee : peekA A m = ((A.left, some (endErr A.f)), { A with last := -1, rune := -1, err := false }) := (if_neg (by omega)).trans ((if_neg (by omega)).trans (if_pos (by rw [hr]; omega)))
                have hE : e = endErr A.f := by
                  have := HER.out.symm.trans q2
                  simp only [Option.some.injEq] at this
                  rw [this, HW.out.f]
                  show endErr st.f = _
                  rw [HA.out.f]
                have hR := H2.out.setErr none (.inl rfl)
                have hsub := (H2.out).sub (k := st1.w - st1.r) (by omega) hsa
                rw [List.take_of_length_le (by omega)] at hsub
                have hAbs := abs_peek (e := A.err) HA.out HW.out
                rw [ee, hr, ← hE]
                refine ⟨{ st1 with err := none }, _, _, by rw [hb], (hsub.upd ((Upd.refl (fun k => k = L.b) wr).setCell (fun _ => rfl) _) (fun p hp _ hh => H2.out.ne ((hsa.bb p hp).symm.trans hh))).new hx, hsa.bb, hR.new hx, (HU.out.setCell (fun _ => HI.out) _).andNew hx, ?_⟩
                exact { left := hrem.trans hr, size := HW.out.n.trans HA.out.size, f := HW.out.f.trans HA.out.f, err := rfl, last := HW.out.last, rune := HW.out.rune,
                        pos := fun h => (by have := HW.out.last; simp at this h; omega), nz := fun h => (by have := HW.out.rune; simp at this h; omega), back := fun h => (by have := HW.out.rune; simp at this h; omega) }
              rw [HEV.out] at hFIN
              (go_wp2; (repeat' (refine wp_region_lx {} (by kernel_rfl) (by kernel_rfl) ⟨fun _ _ _ h => h.2, fun _ _ h => h⟩ ?_; (repeat' (first | (refine wpLx_calm rfl rfl rfl (fun K hK => ?_); go_step <;> (refine hK _ ?_; clear hK K)) | (refine wpLx_skip2 rfl rfl rfl ?_; go_simp) | (refine wpLx_calm2 rfl rfl rfl rfl rfl (fun K hK => ?_); go_step <;> (refine hK _ ?_; clear hK K)))); all_goals (refine wpLx_nil ?_; try go_wp2))))
              all_goals
                go_ret2
                first | exact hFIN.out _ _ _ _ (Upd.refl _ _).drew.drew.drew (.inl ⟨by assumption, rfl, rfl⟩) (by omega) | exact hFIN.out _ _ _ _ (Upd.refl _ _).drew.drew.drew (.inr ⟨by assumption, rfl, rfl⟩) (by omega)
end Go.Proofs.YtmmjfpcmempeeaaDoor
