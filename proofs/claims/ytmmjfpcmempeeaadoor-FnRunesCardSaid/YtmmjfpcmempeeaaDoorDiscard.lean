/- (*bufio.Reader).Buffered, Size, Discard. -/
import Derived.Test.YtmmjfpcmempeeaaDoorPeek
namespace Go.Proofs.YtmmjfpcmempeeaaDoor
open Go.RowKit
theorem buffered {S : Err → Addr} {w : World} {L : Loc} {st : RS} (h : Rd S w L st) :
    Calls Tryd.prog 68 #[.pointer (some ⟨L.b, 0, none⟩)] w (Ret fun v w' => v = .int .i64 ((st.w : Int) - (st.r : Int)) ∧ w' = w.drew) := by
  have hrw := h.rw
  have hwn := h.wn
  have hnhi := h.nhi
  obtain ⟨c0, c1, c2, c3, c4, c5, c6, hf⟩ := h.cells
  clear h
  go_enter Tryd.func68, Tryd.ntmps68
  (go_wp2_with fail; (repeat' (refine wp_region_lx {} (by kernel_rfl) (by kernel_rfl) ⟨fun _ _ _ h => h.2, fun _ _ h => h⟩ ?_; (repeat' (first | (refine wpLx_calm rfl rfl rfl (fun K hK => ?_); go_step <;> (refine hK _ ?_; clear hK K)) | (refine wpLx_skip2 rfl rfl rfl ?_; go_simp) | (refine wpLx_calm2 rfl rfl rfl rfl rfl (fun K hK => ?_); go_step <;> (refine hK _ ?_; clear hK K)))); all_goals (refine wpLx_nil ?_; try go_wp2_with fail))))
  go_ret
  exact ⟨rfl, rfl⟩
def discardA (A : AR) (n : Int) : (Int × Option Err) × AR :=
  if n < 0 then ((0, some .neg), A)
  else if n = 0 then ((0, none), A)
  else if (A.left.length : Int) < n then (((A.left.length : Int), some (endErr A.f)), { A with left := [], last := -1, rune := -1, err := false })
  else ((n, none), { A with left := A.left.drop n.toNat, last := -1, rune := -1 })
/-- what a function tells that hands out a number -/
def NumPost (S : Err → Addr) (w : World) (L : Loc) (x : (Int × Option Err) × AR) (v : Value) (w' : World) : Prop :=
  ∃ st', v = .tuple #[.int .i64 x.1.1, eV S x.1.2] ∧ Rd S w' L st' ∧ Upd (In L) w w' ∧ Abs st' x.2
def AR.errV (A : AR) : Option Err := if A.err then some (endErr A.f) else none
/-- k bytes have been gone over -/
structure Mid (A : AR) (k : Nat) (st : RS) : Prop where
  rem : rem st = A.left.drop k
  n : st.buf.length = A.size
  f : st.f = A.f
  last : st.last = -1
  rune : st.rune = -1
  k : k ≤ A.left.length
  err : st.err = A.errV ∨ (st.err = some (endErr A.f) ∧ st.w ≤ st.r)
theorem disc_done {S : Err → Addr} {w wr wx : World} {L : Loc} {st : RS} {A : AR} {m k s : Nat} {y : Int} (h : Mid A k st) (hR : Rd S wr L st) (hU : Upd (In L) w wr) (hx : New (wr.setCell ⟨L.b, 2, none⟩ (.int .i64 y)) wx) (hs : s ≤ st.w - st.r) (hm : k + s = m) (h0 : 0 < s) (hy : y = ((st.r + s : Nat) : Int)) :
    NumPost S w L (discardA A m) (.tuple #[.int .i64 (m : Int), .nilIface]) wx := by
  subst hy
  have hwn := hR.wn
  have hrw := hR.rw
  have hbl := bufd_length (st := st) hwn
  have hle := rem_length st
  have hk := h.k
  have hml : m ≤ A.left.length := by
    have := congrArg List.length h.rem
    rw [List.length_drop] at this
    omega
  have e : discardA A m = (((m : Int), none), { A with left := A.left.drop m, last := -1, rune := -1 }) := (if_neg (by omega)).trans ((if_neg (by omega)).trans (if_neg (by omega)))
  rw [e]
  have hR' := (hR.setR (st.r + s) (by omega)).new hx
  refine ⟨_, rfl, hR', (hU.setCell (fun _ => In.b hR) _).andNew hx, ?_⟩
  exact {
    left := by rw [rem_drop (by omega), h.rem, List.drop_drop]; rw [hm]
    size := h.n
    f := h.f
    err := by
      rcases h.err with h1 | ⟨_, h1⟩
      · exact h1
      · omega
    last := h.last
    rune := h.rune
    pos := fun hh => (by have := h.last; simp at hh; omega)
    nz := fun hh => (by have := h.rune; simp at hh; omega)
    back := fun hh => (by have := h.rune; simp at hh; omega) }
theorem disc_end {S : Err → Addr} {w wr wx : World} {L : Loc} {st : RS} {A : AR} {m k s : Nat} {x y : Int} (h : Mid A k st) (hR : Rd S wr L st) (hU : Upd (In L) w wr) (hx : New ((wr.setCell ⟨L.b, 2, none⟩ (.int .i64 y)).setCell ⟨L.b, 4, none⟩ .nilIface) wx) (he : st.err ≠ none) (hs : s = st.w - st.r) (hm : k + s < m) (hxx : x = ((k + s : Nat) : Int)) (hy : y = ((st.r + s : Nat) : Int)) :
    NumPost S w L (discardA A m) (.tuple #[.int .i64 x, eV S st.err]) wx := by
  subst hy
  have hwn := hR.wn
  have hrw := hR.rw
  have hbl := bufd_length (st := st) hwn
  obtain ⟨q1, q2⟩ := hR.ended he
  have hr : A.left.drop k = bufd st := by rw [← h.rem]; exact rem_end q1
  have hk := h.k
  have hl : A.left.length = k + s := by
    have := congrArg List.length hr
    rw [List.length_drop] at this
    omega
  have e : discardA A m = (((A.left.length : Int), some (endErr A.f)), { A with left := [], last := -1, rune := -1, err := false }) := (if_neg (by omega)).trans ((if_neg (by omega)).trans (if_pos (by omega)))
  rw [e, hxx, q2, h.f, hl]
  have hR' := ((hR.setR (st.r + s) (by omega)).setErr none (.inl rfl)).new hx
  refine ⟨_, rfl, hR', ((hU.setCell (fun _ => In.b hR) _).setCell (fun _ => In.b hR) _).andNew hx, ?_⟩
  exact {
    left := by
      have : Go.Proofs.YtmmjfpcmempeeaaDoor.rem { st with r := st.r + s, err := none } = Go.Proofs.YtmmjfpcmempeeaaDoor.rem { st with r := st.r + s } := rfl
      rw [this, rem_drop (by omega), h.rem, hr, List.drop_of_length_le (by omega)]
    size := h.n
    f := h.f
    err := rfl
    last := h.last
    rune := h.rune
    pos := fun hh => (by have := h.last; simp at hh; omega)
    nz := fun hh => (by have := h.rune; simp at hh; omega)
    back := fun hh => (by have := h.rune; simp at hh; omega) }
theorem Mid.adv {A : AR} {k s : Nat} {S : Err → Addr} {w : World} {L : Loc} {st : RS} (h : Mid A k st) (hR : Rd S w L st) (hs : s ≤ st.w - st.r) (he : st.err = A.errV) : Mid A (k + s) { st with r := st.r + s } := by
  have hwn := hR.wn
  have hbl := bufd_length (st := st) hwn
  have hle := rem_length st
  refine ⟨by rw [rem_drop (by omega), h.rem, List.drop_drop], h.n, h.f, h.last, h.rune, ?_, .inl he⟩
  have := congrArg List.length h.rem
  rw [List.length_drop] at this
  have := h.k
  omega
theorem Mid.fill {A : AR} {k : Nat} {S : Err → Addr} {w : World} {L : Loc} {st st2 : RS} {chunk : List UInt8} (h : Mid A k st) (he : st.err = A.errV) (hR : Rd S w L st2) (hf : Fill st st2 chunk) (hb : st.w ≤ st.r) : Mid A k st2 := by
  have hw := hf.went
  refine ⟨hw.rem.trans h.rem, hw.n.trans h.n, hw.f.trans h.f, hw.last.trans h.last, hw.rune.trans h.rune, h.k, ?_⟩
  rcases hf.how with ⟨_, h2⟩ | ⟨h1, h2, _⟩
  · exact .inl (h2.trans he)
  · refine .inr ⟨by rw [h2, h.f], ?_⟩
    have h3 := hf.bd
    rw [h1, bufd_nil hb] at h3
    have h4 := bufd_length (st := st2) hR.wn
    rw [h3] at h4
    simp at h4
    omega
set_option maxRecDepth 100000 in
set_option maxHeartbeats 2000000 in
theorem discard {S : Err → Addr} {B : Nat} {w : World} {L : Loc} {st : RS} {A : AR} (E : Env S B w) (hB : B ≤ L.lo) (h : Rd S w L st) (hA : Abs st A) (n : Int) (hn1 : -9223372036854775808 ≤ n) (hn2 : n ≤ 9223372036854775807) :
    Calls Tryd.prog 63 #[.pointer (some ⟨L.b, 0, none⟩), .int .i64 n] w (Ret (NumPost S w L (discardA A n))) := by
  have HE := Lib.hid E
  have HB := Lib.hid hB
  have H := Lib.hid h
  have HA := Lib.hid hA
  have gneg := (E.g .neg (by decide)).2
  simp only [Err.g, eV] at gneg
  obtain ⟨c0, c1, c2, c3, c4, c5, c6, hf⟩ := h.cells
  by_cases h0 : n < 0
  · clear E hB h c0 c1 c2 c3 c4 c5 c6 hA
    go_enter Tryd.func63, Tryd.ntmps63
    (go_wp2_with fail; (repeat' (refine wp_region_lx {} (by kernel_rfl) (by kernel_rfl) ⟨fun _ _ _ h => h.2, fun _ _ h => h⟩ ?_; (repeat' (first | (refine wpLx_calm rfl rfl rfl (fun K hK => ?_); go_step <;> (refine hK _ ?_; clear hK K)) | (refine wpLx_skip2 rfl rfl rfl ?_; go_simp) | (refine wpLx_calm2 rfl rfl rfl rfl rfl (fun K hK => ?_); go_step <;> (refine hK _ ?_; clear hK K)))); all_goals (refine wpLx_nil ?_; try go_wp2_with fail))))
    go_ret2
    have e : discardA A n = ((0, some .neg), A) := if_pos h0
    rw [e]
    exact ⟨st, rfl, H.out.drew, (Upd.refl _ _).drew, HA.out⟩
  · by_cases hz : n = 0
    · have e : discardA A n = ((0, none), A) := (if_neg h0).trans (if_pos hz)
      have q1 : (n == 0) = true := by simp [hz]
      rw [e]
      clear E hB h c0 c1 c2 c3 c4 c5 c6 hA hz e gneg
      go_enter Tryd.func63, Tryd.ntmps63
      (go_wp2_with fail; (repeat' (refine wp_region_lx {} (by kernel_rfl) (by kernel_rfl) ⟨fun _ _ _ h => h.2, fun _ _ h => h⟩ ?_; (repeat' (first | (refine wpLx_calm rfl rfl rfl (fun K hK => ?_); go_step <;> (refine hK _ ?_; clear hK K)) | (refine wpLx_skip2 rfl rfl rfl ?_; go_simp) | (refine wpLx_calm2 rfl rfl rfl rfl rfl (fun K hK => ?_); go_step <;> (refine hK _ ?_; clear hK K)))); all_goals (refine wpLx_nil ?_; try go_wp2_with fail))))
      go_ret2
      exact ⟨st, rfl, H.out, Upd.refl _ _, HA.out⟩
    · obtain ⟨m, rfl⟩ := Int.eq_ofNat_of_zero_le (show 0 ≤ n by omega)
      have q1 : ((m : Int) == 0) = false := by simp; omega
      have h1 : Rd S ((w.setCell ⟨L.b, 5, none⟩ (.int .i64 (-1))).setCell ⟨L.b, 6, none⟩ (.int .i64 (-1))) L { st with last := -1, rune := -1 } := (h.setLast (-1) (by omega) (by omega)).setRune (-1) (by omega) (by omega)
      have HI := Lib.hid (In.b h)
      have H1 := Lib.hid h1
      have HM0 : Hid (Mid A 0 { st with last := -1, rune := -1 }) := ⟨hA.left, hA.size, hA.f, rfl, rfl, Nat.zero_le _, .inl hA.err⟩
      have hm9 : m ≤ 9223372036854775807 := by omega
      have hm0 : 0 < m := by omega
      clear E hB h h0 h1 c0 c1 c2 c3 c4 hA hz gneg
      go_enter Tryd.func63, Tryd.ntmps63
      go_wp2
      go_loopg [6] m (fun gk t6 wx => ∃ (st1 : RS) (k j : Nat), t6 = .int .i64 (j : Int) ∧ Rd S wx L st1 ∧ Upd (In L) w wx ∧ Mid A k st1 ∧ st1.err = A.errV ∧ k + j = m ∧ 0 < j ∧ j ≤ gk)
      case atStart => exact ⟨_, 0, m, rfl, H1.out, ((Upd.refl _ _).setCell (fun _ => HI.out) _).setCell (fun _ => HI.out) _, HM0.out, HA.out.err, Nat.zero_add _, hm0, Nat.le_refl _⟩
      case round =>
        obtain ⟨st1, k, j, rfl, h1, u1, hmid, herr, hkm, hj0, hgk⟩ := hrel
        have hrw := h1.rw
        have hwn := h1.wn
        have hnhi := h1.nhi
        have hnlo := h1.nlo
        have hjm : j ≤ 9223372036854775807 := by omega
        obtain ⟨d0, d1, d2, d3, d4, d5, d6, hf1⟩ := h1.cells
        have H2 := Lib.hid h1
        have HU := Lib.hid u1
        have HMID := Lib.hid hmid
        have HERR := Lib.hid herr
        have HKM := Lib.hid hkm
        have HB2 := Lib.hid (buffered h1)
        clear h1 u1 hmid herr hkm c5 c6 hf d0 d1 d5 d6
        by_cases hb : st1.r < st1.w
        · have p0 : (((st1.w : Int) - (st1.r : Int)) == 0) = false := by simp; omega
          by_cases hsm : j ≤ st1.w - st1.r
          · have hFIN : Hid (∀ (y z : Int) wx, New (wr.setCell ⟨L.b, 2, none⟩ (.int .i64 y)) wx → y = ((st1.r + j : Nat) : Int) → z = (m : Int) → NumPost S w L (discardA A m) (.tuple #[.int .i64 z, .nilIface]) wx) := by
              intro y z wx hx hy hz
              rw [hz]
              exact disc_done HMID.out H2.out HU.out hx hsm HKM.out hj0 hy
            by_cases heq : st1.w - st1.r = j
            · have p1 : decide ((j : Int) < (st1.w : Int) - (st1.r : Int)) = false := decide_eq_false (by omega)
              have p2 : (((j : Int) - ((st1.w : Int) - (st1.r : Int))) == 0) = true := by simp; omega
              have HEQ := Lib.hid heq
              clear heq
              go_wp2_with (go_at_call 68; refine callRet HB2.out ?_; rintro v w1 ⟨rfl, rfl⟩)
              go_ret2
              exact hFIN.out _ _ _ (Upd.refl _ _).drew (by have := HEQ.out; omega) rfl
            · have p1 : decide ((j : Int) < (st1.w : Int) - (st1.r : Int)) = true := decide_eq_true (by omega)
              have p2 : (((j : Int) - (j : Int)) == 0) = true := by simp
              clear heq
              go_wp2_with (go_at_call 68; refine callRet HB2.out ?_; rintro v w1 ⟨rfl, rfl⟩)
              go_ret2
              exact hFIN.out _ _ _ (Upd.refl _ _).drew (by omega) rfl
          · have p1 : decide ((j : Int) < (st1.w : Int) - (st1.r : Int)) = false := decide_eq_false (by omega)
            have p2 : (((j : Int) - ((st1.w : Int) - (st1.r : Int))) == 0) = false := by simp; omega
            cases he : st1.err with
            | none =>
              have HE1 := Lib.hid he
              rw [he] at d4
              simp only [eV] at d4
              clear he
              go_wp2_with (go_at_call 68; refine callRet HB2.out ?_; rintro v w1 ⟨rfl, rfl⟩)
              go_roundg (j - (st1.w - st1.r))
              case rel =>
                refine ⟨{ st1 with r := st1.r + (st1.w - st1.r) }, k + (st1.w - st1.r), j - (st1.w - st1.r), congrArg (Value.int .i64) (by omega), ?_, (HU.out.setCell (fun _ => HI.out) _).drew, HMID.out.adv H2.out (Nat.le_refl _) HERR.out, HERR.out, by have := HKM.out; omega, by omega, Nat.le_refl _⟩
                have := (H2.out.setR (st1.r + (st1.w - st1.r)) (by omega)).drew
                rw [show ((st1.r + (st1.w - st1.r) : Nat) : Int) = (st1.r : Int) + ((st1.w : Int) - (st1.r : Int)) by omega] at this
                exact this
              case measure => omega
            | some e =>
              obtain ⟨et, ev, hev⟩ : ∃ et ev, eV S (some e) = .iface et ev := by cases e <;> exact ⟨_, _, rfl⟩
              have HE1 := Lib.hid he
              rw [he, hev] at d4
              have hFIN : Hid (∀ (x y : Int) wx, New ((wr.setCell ⟨L.b, 2, none⟩ (.int .i64 y)).setCell ⟨L.b, 4, none⟩ .nilIface) wx → x = ((k + (st1.w - st1.r) : Nat) : Int) → y = ((st1.r + (st1.w - st1.r) : Nat) : Int) → NumPost S w L (discardA A m) (.tuple #[.int .i64 x, .iface et ev]) wx) := by
                intro x y wx hx hxx hy
                rw [← hev, ← he]
                exact disc_end HMID.out H2.out HU.out hx (by rw [he]; simp) rfl (by have := HKM.out; omega) hxx hy
              clear he hev
              go_wp2_with (go_at_call 68; refine callRet HB2.out ?_; rintro v w1 ⟨rfl, rfl⟩)
              go_wp2
              go_ret2
              exact hFIN.out _ _ _ (by first | exact (Upd.refl _ _).drew | exact (Upd.refl _ _).drew.drew) (by have := HKM.out; omega) (by omega)
        · have p0 : (((st1.w : Int) - (st1.r : Int)) == 0) = true := by simp; omega
          have hlt2 : st1.w - st1.r < st1.buf.length := by omega
          have HLT := Lib.hid hlt2
          clear hlt2
          go_wp2_with (go_at_call 68; refine callRet HB2.out ?_; rintro v w1 ⟨rfl, rfl⟩)
          go_at_call 54
          refine callRet (fill ((HE.out.updL HB.out HU.out).new (Upd.refl _ _).drew) HB.out H2.out.drew HLT.out) ?_
          intro v w2 hv
          obtain ⟨st2, ⟨_, chunk, hfill⟩, h2, u2⟩ := hv
          have hmid3 : Mid A k st2 := HMID.out.fill HERR.out h2 hfill (by omega)
          have HNE : Hid (st2.w ≤ st2.r → st2.err ≠ none) := fun hh he => by
            rcases hfill.how with ⟨h1, _⟩ | ⟨_, h2', _⟩
            · have h3 := hfill.bd
              rw [bufd_nil hh] at h3
              exact h1 (List.append_eq_nil_iff.1 h3.symm).2
            · rw [he] at h2'; cases h2'
          obtain ⟨e0, e1, e2, e3, e4, e5, e6, hf2⟩ := h2.cells
          have hrw := h2.rw
          have hwn := h2.wn
          have hnhi := h2.nhi
          have hnlo := h2.nlo
          have HU3 : Hid (Upd (In L) w w2) := (HU.out.drew).trans u2 (fun _ h _ => h)
          have H3 := Lib.hid h2
          have HMID3 := Lib.hid hmid3
          have HB3 := Lib.hid (buffered h2)
          clear h2 u2 hmid3 hfill d2 d3 d4 hf1 e0 e1 e5 e6 p0
          by_cases hb2 : st2.r < st2.w
          · have p0 : (((st2.w : Int) - (st2.r : Int)) == 0) = false := by simp; omega
            have HERR3 : Hid (st2.err = A.errV) := by
              rcases HMID3.out.err with h | ⟨_, h⟩
              · exact h
              · omega
            by_cases hsm : j ≤ st2.w - st2.r
            · have hFIN : Hid (∀ (y z : Int) wx, New (w2.setCell ⟨L.b, 2, none⟩ (.int .i64 y)) wx → y = ((st2.r + j : Nat) : Int) → z = (m : Int) → NumPost S w L (discardA A m) (.tuple #[.int .i64 z, .nilIface]) wx) := by
                intro y z wx hx hy hz
                rw [hz]
                exact disc_done HMID3.out H3.out HU3.out hx hsm HKM.out hj0 hy
              by_cases heq : st2.w - st2.r = j
              · have p1 : decide ((j : Int) < (st2.w : Int) - (st2.r : Int)) = false := decide_eq_false (by omega)
                have p2 : (((j : Int) - ((st2.w : Int) - (st2.r : Int))) == 0) = true := by simp; omega
                have HEQ := Lib.hid heq
                clear heq
                go_wp2_with (go_at_call 68; refine callRet HB3.out ?_; rintro v w4 ⟨rfl, rfl⟩)
                go_ret2
                exact hFIN.out _ _ _ (Upd.refl _ _).drew (by have := HEQ.out; omega) rfl
              · have p1 : decide ((j : Int) < (st2.w : Int) - (st2.r : Int)) = true := decide_eq_true (by omega)
                have p2 : (((j : Int) - (j : Int)) == 0) = true := by simp
                clear heq
                go_wp2_with (go_at_call 68; refine callRet HB3.out ?_; rintro v w4 ⟨rfl, rfl⟩)
                go_ret2
                exact hFIN.out _ _ _ (Upd.refl _ _).drew (by omega) rfl
            · have p1 : decide ((j : Int) < (st2.w : Int) - (st2.r : Int)) = false := decide_eq_false (by omega)
              have p2 : (((j : Int) - ((st2.w : Int) - (st2.r : Int))) == 0) = false := by simp; omega
              cases he : st2.err with
              | none =>
                have HE1 := Lib.hid he
                rw [he] at e4
                simp only [eV] at e4
                clear he
                go_wp2_with (go_at_call 68; refine callRet HB3.out ?_; rintro v w4 ⟨rfl, rfl⟩)
                go_roundg (j - (st2.w - st2.r))
                case rel =>
                  refine ⟨{ st2 with r := st2.r + (st2.w - st2.r) }, k + (st2.w - st2.r), j - (st2.w - st2.r), congrArg (Value.int .i64) (by omega), ?_, (HU3.out.setCell (fun _ => HI.out) _).drew, HMID3.out.adv H3.out (Nat.le_refl _) HERR3.out, HERR3.out, by have := HKM.out; omega, by omega, Nat.le_refl _⟩
                  have := (H3.out.setR (st2.r + (st2.w - st2.r)) (by omega)).drew
                  rw [show ((st2.r + (st2.w - st2.r) : Nat) : Int) = (st2.r : Int) + ((st2.w : Int) - (st2.r : Int)) by omega] at this
                  exact this
                case measure => omega
              | some e =>
                obtain ⟨et, ev, hev⟩ : ∃ et ev, eV S (some e) = .iface et ev := by cases e <;> exact ⟨_, _, rfl⟩
                have HE1 := Lib.hid he
                rw [he, hev] at e4
                have hFIN : Hid (∀ (x y : Int) wx, New ((w2.setCell ⟨L.b, 2, none⟩ (.int .i64 y)).setCell ⟨L.b, 4, none⟩ .nilIface) wx → x = ((k + (st2.w - st2.r) : Nat) : Int) → y = ((st2.r + (st2.w - st2.r) : Nat) : Int) → NumPost S w L (discardA A m) (.tuple #[.int .i64 x, .iface et ev]) wx) := by
                  intro x y wx hx hxx hy
                  rw [← hev, ← he]
                  exact disc_end HMID3.out H3.out HU3.out hx (by rw [he]; simp) rfl (by have := HKM.out; omega) hxx hy
                clear he hev
                go_wp2_with (go_at_call 68; refine callRet HB3.out ?_; rintro v w4 ⟨rfl, rfl⟩)
                go_wp2
                go_ret2
                exact hFIN.out _ _ _ (by first | exact (Upd.refl _ _).drew | exact (Upd.refl _ _).drew.drew) (by have := HKM.out; omega) (by omega)
          · have p0 : (((st2.w : Int) - (st2.r : Int)) == 0) = true := by simp; omega
            have p1 : decide ((j : Int) < (st2.w : Int) - (st2.r : Int)) = false := decide_eq_false (by omega)
            have p2 : (((j : Int) - ((st2.w : Int) - (st2.r : Int))) == 0) = false := by simp; omega
            cases he : st2.err with
            | none => exact (HNE.out (by omega) he).elim
            | some e =>
              obtain ⟨et, ev, hev⟩ : ∃ et ev, eV S (some e) = .iface et ev := by cases e <;> exact ⟨_, _, rfl⟩
              rw [he, hev] at e4
              have hFIN : Hid (∀ (x y : Int) wx, New ((w2.setCell ⟨L.b, 2, none⟩ (.int .i64 y)).setCell ⟨L.b, 4, none⟩ .nilIface) wx → x = ((k + (st2.w - st2.r) : Nat) : Int) → y = ((st2.r + (st2.w - st2.r) : Nat) : Int) → NumPost S w L (discardA A m) (.tuple #[.int .i64 x, .iface et ev]) wx) := by
                intro x y wx hx hxx hy
                rw [← hev, ← he]
                exact disc_end HMID3.out H3.out HU3.out hx (by rw [he]; simp) rfl (by have := HKM.out; omega) hxx hy
              clear he hev
              go_wp2_with (go_at_call 68; refine callRet HB3.out ?_; rintro v w4 ⟨rfl, rfl⟩)
              go_wp2
              go_ret2
              exact hFIN.out _ _ _ (by first | exact (Upd.refl _ _).drew | exact (Upd.refl _ _).drew.drew) (by have := HKM.out; omega) (by omega)
end Go.Proofs.YtmmjfpcmempeeaaDoor
