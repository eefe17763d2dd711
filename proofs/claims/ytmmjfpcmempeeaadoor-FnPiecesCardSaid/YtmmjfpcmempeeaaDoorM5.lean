/- Texts of one kind, one behind the other. -/
import Derived.Test.YtmmjfpcmempeeaaDoorM2
import Derived.Deep.DeepCutAuto
/- (*bufio.Reader).UnreadByte, UnreadRune, Buffered, Size. -/
namespace Go.Proofs.YtmmjfpcmempeeaaDoor
open Go.RowKit
def unbyteA (A : AR) : Option Err × AR :=
  if A.last < 0 then (some .nobyte, A) else (none, { A with left := UInt8.ofNat A.last.toNat :: A.left, last := -1, rune := -1 })
def unruneA (A : AR) : Option Err × AR :=
  if A.rune < 0 then (some .norune, A)
  else match A.back with
    | some bs => (none, { A with left := bs ++ A.left, last := -1, rune := -1 })
    | none => (some .norune, A)
def UnPost (S : Err → Addr) (w : World) (L : Loc) (x : Option Err × AR) (v : Value) (w' : World) : Prop :=
  ∃ st', v = eV S x.1 ∧ Rd S w' L st' ∧ Upd (In L) w w' ∧ Abs st' x.2
/-- a byte of the buffer written -/
theorem Rd.setByte {S : Err → Addr} {w : World} {L : Loc} {st : RS} (h : Rd S w L st) (i : Nat) (x : UInt8) : Rd S (w.setCell ⟨L.bb, i, none⟩ (bv x)) L { st with buf := st.buf.set i x } := by
  refine h.putBuf (st.buf.set i x) ((Upd.refl (fun k => k = L.bb) w).setCell (fun _ => rfl) _) (List.length_set) ?_
  rw [World.heap_setCell_self h.hbb]
  congr 2
  apply Array.toList_inj.1
  rw [Array.toList_setIfInBounds]
  simp [List.map_set]
theorem bufd_unread {st : RS} (hr : 0 < st.r) (hrw : st.r ≤ st.w) (hwn : st.w ≤ st.buf.length) (x : UInt8) : bufd { st with r := st.r - 1, buf := st.buf.set (st.r - 1) x } = x :: bufd st := by
  unfold bufd
  show ((st.buf.set (st.r - 1) x).take st.w).drop (st.r - 1) = x :: (st.buf.take st.w).drop st.r
  rw [List.drop_eq_getElem_cons (by simp; omega)]
  congr 1
  · simp
  · rw [show st.r - 1 + 1 = st.r by omega, List.take_set, List.drop_set_of_lt (by omega)]
theorem bufd_unread0 {st : RS} (hr : st.r = 0) (hn : 0 < st.buf.length) (x : UInt8) : bufd { st with w := 1, buf := st.buf.set 0 x } = [x] := by
  unfold bufd
  show ((st.buf.set 0 x).take 1).drop st.r = [x]
  rw [hr]
  cases hb : st.buf with
  | nil => rw [hb] at hn; simp at hn
  | cons a l => simp
theorem abs_unbyte {st st' : RS} {A : AR} {x : UInt8} (hA : Abs st A) (hx : st.last = (x.toNat : Int)) (hb : bufd st' = x :: bufd st) (hst : st'.ps = st.ps ∧ st'.f = st.f ∧ st'.err = st.err ∧ st'.last = -1 ∧ st'.rune = -1 ∧ st'.buf.length = st.buf.length) : Abs st' (unbyteA A).2 := by
  obtain ⟨h1, h2, h3, h4, h5, h6⟩ := hst
  have hl := hA.last
  have e : unbyteA A = (none, { A with left := UInt8.ofNat A.last.toNat :: A.left, last := -1, rune := -1 }) := if_neg (by omega)
  rw [e]
  exact {
    left := by
      show rem st' = UInt8.ofNat A.last.toNat :: A.left
      rw [← hl, hx, Int.toNat_natCast, ← hA.left]
      unfold rem
      rw [hb, h1]
      simp
    size := h6.trans hA.size
    f := h2.trans hA.f
    err := by rw [h3, hA.err]
    last := h4
    rune := h5
    pos := fun h => by omega
    nz := by omega
    back := fun h => by omega }
set_option maxRecDepth 100000 in
set_option maxHeartbeats 1000000 in
theorem unreadByte {S : Err → Addr} {B : Nat} {w : World} {L : Loc} {st : RS} {A : AR} (E : Env S B w) (h : Rd S w L st) (hA : Abs st A) :
    Calls Tryd.prog 60 #[.pointer (some ⟨L.b, 0, none⟩)] w (Ret (UnPost S w L (unbyteA A))) := by
  have H := Lib.hid h
  have HA := Lib.hid hA
  have gno := (E.g .nobyte (by decide)).2
  simp only [Err.g, eV] at gno
  have hrw := h.rw
  have hwn := h.wn
  have hnlo := h.nlo
  have hnhi := h.nhi
  obtain ⟨c0, c1, c2, c3, c4, c5, c6, hf⟩ := h.cells
  have hll := h.lastlo
  have hlh := h.lasthi
  have hpos := hA.pos
  by_cases h0 : st.last < 0
  · have e : unbyteA A = (some .nobyte, A) := if_pos (by rw [← hA.last]; exact h0)
    clear E h hA c0 c1 c4 c6 hpos
    rw [e]
    go_enter Tryd.func60, Tryd.ntmps60
    (go_wp2_with fail; (repeat' (refine wp_region_lx {} (by kernel_rfl) (by kernel_rfl) ⟨fun _ _ _ h => h.2, fun _ _ h => h⟩ ?_; (repeat' (first | (refine wpLx_calm rfl rfl rfl (fun K hK => ?_); go_step <;> (refine hK _ ?_; clear hK K)) | (refine wpLx_skip2 rfl rfl rfl ?_; go_simp) | (refine wpLx_calm2 rfl rfl rfl rfl rfl (fun K hK => ?_); go_step <;> (refine hK _ ?_; clear hK K)))); all_goals (refine wpLx_nil ?_; try go_wp2_with fail))))
    go_ret
    exact ⟨st, rfl, H.out, Upd.refl _ _, HA.out⟩
  · have e1 : (unbyteA A).1 = none := by unfold unbyteA; rw [if_neg (by rw [← hA.last]; exact h0)]
    obtain ⟨x, hx⟩ : ∃ x : UInt8, st.last = (x.toNat : Int) := ⟨UInt8.ofNat st.last.toNat, by rw [UInt8.toNat_ofNat']; omega⟩
    have HX := Lib.hid hx
    have hbb : ∀ i, w.frozen? ⟨L.bb, i, none⟩ = false := fun i => World.frozen_of_heap h.hbb i
    have hby : ∀ i, (hi : i < st.buf.length) → w.cell? ⟨L.bb, i, none⟩ = some (.int .u8 (st.buf[i].toNat : Int)) := fun i hi => h.byte hi
    have HI := Lib.hid (In.b h)
    have HIB := Lib.hid (In.bb h)
    have hne1 : L.bb ≠ L.b := h.ne
    have hne2 : L.b ≠ L.bb := fun hh => h.ne hh.symm
    have HE1 := Lib.hid e1
    have HPOS : Hid (0 < st.r ∨ st.w = 0) := hpos (by omega)
    clear E hA hx hpos gno c0 c1 c4 c6 hf e1
    obtain ⟨d0, d1, d2, d3, d4, d5, d6, hf⟩ := h.cells
    rw [HX.out] at d5
    have hx0 : 0 ≤ (x.toNat : Int) := by omega
    have hx1 : (x.toNat : Int) < 256 := by have := x.toNat_lt; omega
    have q2 : decide ((x.toNat : Int) < 0) = false := decide_eq_false (by omega)
    clear d1 d4 h h0 hll hlh c2 c3 c5
    by_cases hr : 0 < st.r
    · have q1 : ((st.r : Int) == 0) = false := by rw [beq_eq_false_iff_ne]; omega
      have q3 : decide ((0 : Int) < (st.r : Int)) = true := decide_eq_true (by omega)
      have i1 : (st.r : Int) - 1 = ((st.r - 1 : Nat) : Int) := by omega
      have hlt : st.r - 1 < st.buf.length := by omega
      have cb := hby (st.r - 1) hlt
      have HR := Lib.hid hr
      clear hr hby
      go_enter Tryd.func60, Tryd.ntmps60
      go_wp2_with fail
      refine wp_region_lx {} (by kernel_rfl) (by kernel_rfl) ⟨fun _ _ _ h => h.2, fun _ _ h => h⟩ ?_
      (repeat' (first | (refine wpLx_calm rfl rfl rfl (fun K hK => ?_); go_step <;> (refine hK _ ?_; clear hK K)) | (refine wpLx_skip2 rfl rfl rfl ?_; go_simp) | (refine wpLx_calm2 rfl rfl rfl rfl rfl (fun K hK => ?_); go_step <;> (refine hK _ ?_; clear hK K))))
      refine wpLx_eff rfl rfl rfl (fun K hK => ?_)
      go_step
      refine hK _ _ ?_
      clear hK K
      refine wpLx_nil ?_
      go_wp2_with fail
      go_ret
      refine ⟨_, by rw [HE1.out]; rfl, (((H.out.setR (st.r - 1) (by omega)).setByte (st.r - 1) x).drew.setLast (-1) (by omega) (by omega)).setRune (-1) (by omega) (by omega), ((((Upd.refl (In L) w).setCell (fun _ => HI.out) _).setCell (fun _ => HIB.out) _).drew.setCell (fun _ => HI.out) _).setCell (fun _ => HI.out) _, ?_⟩
      exact abs_unbyte HA.out HX.out (bufd_unread HR.out hrw hwn x) ⟨rfl, rfl, rfl, rfl, rfl, List.length_set⟩
    · have hr0 : st.r = 0 := by omega
      have hw0 : st.w = 0 := by rcases HPOS.out with h | h; omega; exact h
      have HR0 := Lib.hid hr0
      have HW0 := Lib.hid hw0
      have hlt : 0 < st.buf.length := by omega
      have cb := hby 0 hlt
      rw [hr0] at d2
      rw [hw0] at d3
      clear hr hby hr0 hw0
      go_enter Tryd.func60, Tryd.ntmps60
      go_wp2_with fail
      refine wp_region_lx {} (by kernel_rfl) (by kernel_rfl) ⟨fun _ _ _ h => h.2, fun _ _ h => h⟩ ?_
      (repeat' (first | (refine wpLx_calm rfl rfl rfl (fun K hK => ?_); go_step <;> (refine hK _ ?_; clear hK K)) | (refine wpLx_skip2 rfl rfl rfl ?_; go_simp) | (refine wpLx_calm2 rfl rfl rfl rfl rfl (fun K hK => ?_); go_step <;> (refine hK _ ?_; clear hK K))))
      refine wpLx_eff rfl rfl rfl (fun K hK => ?_)
      go_step
      refine hK _ _ ?_
      clear hK K
      refine wpLx_nil ?_
      go_wp2_with fail
      go_ret
      have H1 := ((((H.out.setW 1 (by rw [HR0.out]; omega) (by omega)).setByte 0 x).drew.setLast (-1) (by omega) (by omega)).setRune (-1) (by omega) (by omega))
      refine ⟨_, by rw [HE1.out]; rfl, H1, ((((Upd.refl (In L) w).setCell (fun _ => HI.out) _).setCell (fun _ => HIB.out) _).drew.setCell (fun _ => HI.out) _).setCell (fun _ => HI.out) _, ?_⟩
      refine abs_unbyte HA.out HX.out ?_ ⟨rfl, rfl, rfl, rfl, rfl, List.length_set⟩
      rw [bufd_nil (st := st) (by rw [HW0.out]; exact Nat.zero_le _)]
      exact bufd_unread0 HR0.out hlt x
/-- a rune taken back -/
theorem prev_length {st : RS} {k : Nat} (hk : k ≤ st.r) (hrw : st.r ≤ st.buf.length) : (prev st k).length = k := by
  unfold prev; simp; omega
theorem abs_unrune {st : RS} {A : AR} {k : Nat} (hA : Abs st A) (hk : st.rune = (k : Int)) (hkr : k ≤ st.r) (hrw : st.r ≤ st.w) (hwn : st.w ≤ st.buf.length) : Abs { st with r := st.r - k, last := -1, rune := -1 } (unruneA A).2 ∧ (unruneA A).1 = none := by
  have hb := hA.back (by omega)
  rw [if_pos (by omega), hk, Int.toNat_natCast] at hb
  have e : unruneA A = (none, { A with left := prev st k ++ A.left, last := -1, rune := -1 }) := by
    unfold unruneA
    rw [if_neg (by rw [← hA.rune]; omega), hb]
  rw [e]
  refine ⟨?_, rfl⟩
  exact {
    left := by
      show rem { st with r := st.r - k, last := -1, rune := -1 } = prev st k ++ A.left
      rw [← hA.left]
      unfold rem
      rw [← List.append_assoc]
      congr 1
      unfold bufd prev
      show (st.buf.take st.w).drop (st.r - k) = (st.buf.take st.r).drop (st.r - k) ++ (st.buf.take st.w).drop st.r
      have e2 : st.buf.take st.w = st.buf.take st.r ++ (st.buf.take st.w).drop st.r := by
        conv => lhs; rw [← List.take_append_drop st.r (st.buf.take st.w)]
        rw [List.take_take, Nat.min_eq_left hrw]
      conv => lhs; rw [e2]
      rw [List.drop_append_of_le_length (by simp; omega)]
    size := hA.size
    f := hA.f
    err := hA.err
    last := rfl
    rune := rfl
    pos := fun h => by have h : (0 : Int) ≤ -1 := h; omega
    nz := by show (-1 : Int) ≠ 0; omega
    back := fun h => by have h : (0 : Int) ≤ -1 := h; omega }
set_option maxRecDepth 100000 in
set_option maxHeartbeats 1000000 in
theorem unreadRune {S : Err → Addr} {B : Nat} {w : World} {L : Loc} {st : RS} {A : AR} (E : Env S B w) (h : Rd S w L st) (hA : Abs st A) :
    Calls Tryd.prog 61 #[.pointer (some ⟨L.b, 0, none⟩)] w (Ret (UnPost S w L (unruneA A))) := by
  have H := Lib.hid h
  have HA := Lib.hid hA
  have gno := (E.g .norune (by decide)).2
  simp only [Err.g, eV] at gno
  have hrw := h.rw
  have hwn := h.wn
  have hnlo := h.nlo
  have hnhi := h.nhi
  have hrl := h.runelo
  have hrh := h.runehi
  obtain ⟨c0, c1, c2, c3, c4, c5, c6, hf⟩ := h.cells
  have HI := Lib.hid (In.b h)
  clear E hA h c0 c1 c3 c4
  by_cases h0 : st.rune < 0
  · have e : unruneA A = (some .norune, A) := by unfold unruneA; rw [if_pos (by rw [← HA.out.rune]; exact h0)]
    have q2 : decide (st.rune < 0) = true := decide_eq_true h0
    rw [e]
    clear e h0
    go_enter Tryd.func61, Tryd.ntmps61
    go_wp2_with fail
    refine wp_region_lx {} (by kernel_rfl) (by kernel_rfl) ⟨fun _ _ _ h => h.2, fun _ _ h => h⟩ ?_
    (repeat' (first | (refine wpLx_calm rfl rfl rfl (fun K hK => ?_); go_step <;> (refine hK _ ?_; clear hK K)) | (refine wpLx_skip2 rfl rfl rfl ?_; go_simp) | (refine wpLx_calm2 rfl rfl rfl rfl rfl (fun K hK => ?_); go_step <;> (refine hK _ ?_; clear hK K))))
    refine wpLx_nil ?_
    go_wp2_with fail
    go_ret
    exact ⟨st, rfl, H.out.drew, (Upd.refl _ _).drew, HA.out⟩
  · obtain ⟨k, hk⟩ := Int.eq_ofNat_of_zero_le (show 0 ≤ st.rune by omega)
    have HK := Lib.hid hk
    rw [hk] at c6
    by_cases hkr : k ≤ st.r
    · have q3 : decide ((st.r : Int) < (k : Int)) = false := decide_eq_false (by omega)
      have q2 : decide ((k : Int) < 0) = false := decide_eq_false (by omega)
      have i1 : (st.r : Int) - (k : Int) = ((st.r - k : Nat) : Int) := by omega
      have HKR := Lib.hid hkr
      clear gno hk h0 hrl hrh hkr
      go_enter Tryd.func61, Tryd.ntmps61
      go_wp2_with fail
      refine wp_region_lx {} (by kernel_rfl) (by kernel_rfl) ⟨fun _ _ _ h => h.2, fun _ _ h => h⟩ ?_
      (repeat' (first | (refine wpLx_calm rfl rfl rfl (fun K hK => ?_); go_step <;> (refine hK _ ?_; clear hK K)) | (refine wpLx_skip2 rfl rfl rfl ?_; go_simp) | (refine wpLx_calm2 rfl rfl rfl rfl rfl (fun K hK => ?_); go_step <;> (refine hK _ ?_; clear hK K))))
      refine wpLx_nil ?_
      go_wp2_with fail
      refine wp_region_lx {} (by kernel_rfl) (by kernel_rfl) ⟨fun _ _ _ h => h.2, fun _ _ h => h⟩ ?_
      (repeat' (first | (refine wpLx_calm rfl rfl rfl (fun K hK => ?_); go_step <;> (refine hK _ ?_; clear hK K)) | (refine wpLx_skip2 rfl rfl rfl ?_; go_simp) | (refine wpLx_calm2 rfl rfl rfl rfl rfl (fun K hK => ?_); go_step <;> (refine hK _ ?_; clear hK K))))
      refine wpLx_eff rfl rfl rfl (fun K hK => ?_)
      go_step
      refine hK _ _ ?_
      clear hK K
      refine wpLx_nil ?_
      go_wp2_with fail
      go_ret
      have hab := abs_unrune HA.out HK.out HKR.out hrw hwn
      have hkr := HKR.out
      refine ⟨_, by rw [hab.2]; rfl, (((H.out.drew.drew.setR (st.r - k) (by omega)).setLast (-1) (by omega) (by omega)).setRune (-1) (by omega) (by omega)), (((Upd.refl (In L) w).drew.drew.setCell (fun _ => HI.out) _).setCell (fun _ => HI.out) _).setCell (fun _ => HI.out) _, hab.1⟩
    · have q3 : decide ((st.r : Int) < (k : Int)) = true := decide_eq_true (by omega)
      have q2 : decide ((k : Int) < 0) = false := decide_eq_false (by omega)
      have e : unruneA A = (some .norune, A) := by
        unfold unruneA
        rw [if_neg (by rw [← HA.out.rune]; exact h0), HA.out.back (by omega), if_neg (by omega)]
      rw [e]
      have hlt : st.r < k := by omega
      clear hk h0 hrl hrh hkr e
      go_enter Tryd.func61, Tryd.ntmps61
      go_wp2_with fail
      refine wp_region_lx {} (by kernel_rfl) (by kernel_rfl) ⟨fun _ _ _ h => h.2, fun _ _ h => h⟩ ?_
      (repeat' (first | (refine wpLx_calm rfl rfl rfl (fun K hK => ?_); go_step <;> (refine hK _ ?_; clear hK K)) | (refine wpLx_skip2 rfl rfl rfl ?_; go_simp) | (refine wpLx_calm2 rfl rfl rfl rfl rfl (fun K hK => ?_); go_step <;> (refine hK _ ?_; clear hK K))))
      refine wpLx_nil ?_
      go_wp2_with fail
      go_ret
      exact ⟨st, rfl, H.out.drew, (Upd.refl _ _).drew, HA.out⟩
end Go.Proofs.YtmmjfpcmempeeaaDoor
/- (*bufio.Reader).ReadByte, abstractly. -/
namespace Go.Proofs.YtmmjfpcmempeeaaDoor
open Go.RowKit
def byteA (A : AR) : (Nat × Option Err) × AR :=
  match A.left with
  | [] => ((0, some (endErr A.f)), { A with rune := -1, err := false })
  | b :: l => ((b.toNat, none), { A with left := l, last := (b.toNat : Int), rune := -1 })
def BytePost (S : Err → Addr) (w : World) (L : Loc) (x : (Nat × Option Err) × AR) (v : Value) (w' : World) : Prop :=
  ∃ st', v = .tuple #[.int .u8 (x.1.1 : Int), eV S x.1.2] ∧ Rd S w' L st' ∧ Upd (In L) w w' ∧ Abs st' x.2
def byteC (l : List UInt8) : Prop := l = []
theorem byte_some {S : Err → Addr} {w wr wx : World} {L : Loc} {st st1 st' : RS} {A : AR} {v : Value} (hA : Abs st A) (hF : Fld byteC { st with rune := -1 } st1) (hR : Rd S wr L st1) (hlt : st1.r < st1.w) (hlt2 : st1.r < st1.buf.length)
    (hv : v = .tuple #[.int .u8 (st1.buf[st1.r].toNat : Int), .nilIface]) (hst : st' = { st1 with r := st1.r + 1, last := (st1.buf[st1.r].toNat : Int) }) (hRx : Rd S wx L st') (hU : Upd (In L) w wx) : BytePost S w L (byteA A) v wx := by
  subst hst; subst hv
  have hwn := hR.wn
  have hrem : rem st1 = A.left := hF.rem.trans hA.left
  have hbl := bufd_length (st := st1) hwn
  have hcons := bufd_cons hlt hwn
  have hl : A.left = st1.buf[st1.r] :: rem { st1 with r := st1.r + 1 } := by
    rw [← hrem]
    unfold rem
    rw [hcons]; rfl
  have e : byteA A = ((st1.buf[st1.r].toNat, none), { A with left := rem { st1 with r := st1.r + 1 }, last := (st1.buf[st1.r].toNat : Int), rune := -1 }) := by
    unfold byteA; rw [hl]
  rw [e]
  refine ⟨_, rfl, hRx, hU, ?_⟩
  exact {
    left := rfl
    size := hF.n.trans hA.size
    f := hF.f.trans hA.f
    err := by
      show st1.err = _
      rw [hF.same (fun hc => ?_)]
      · exact hA.err
      · have hc : rem { st with rune := -1 } = [] := hc
        rw [← hF.rem, hrem, hl] at hc
        cases hc
    last := rfl
    rune := hF.rune
    pos := fun _ => .inl (by show 0 < st1.r + 1; omega)
    nz := by have := hF.rune; show st1.rune ≠ 0; rw [this]; show (-1 : Int) ≠ 0; omega
    back := fun h => (by have := hF.rune; have h : 0 ≤ st1.rune := h; rw [this] at h; have h : (0 : Int) ≤ -1 := h; omega) }
theorem byte_end {S : Err → Addr} {w wr wx : World} {L : Loc} {st st1 st' : RS} {A : AR} {v : Value} (hA : Abs st A) (hF : Fld byteC { st with rune := -1 } st1) (hR : Rd S wr L st1) (he : st1.err ≠ none) (hle : st1.r = st1.w)
    (hv : v = .tuple #[.int .u8 0, eV S st1.err]) (hst : st' = { st1 with err := none }) (hRx : Rd S wx L st') (hU : Upd (In L) w wx) : BytePost S w L (byteA A) v wx := by
  subst hst; subst hv
  obtain ⟨q1, q2⟩ := hR.ended he
  have hrem : rem st1 = A.left := hF.rem.trans hA.left
  have hl : A.left = [] := by rw [← hrem, rem_end q1]; exact bufd_nil (Nat.le_of_eq hle.symm)
  have e : byteA A = ((0, some (endErr A.f)), { A with rune := -1, err := false }) := by unfold byteA; rw [hl]
  have hrw := hR.rw
  rw [e, q2, hF.f]
  have hf : ({ st with rune := -1 } : RS).f = A.f := hA.f
  rw [hf]
  refine ⟨_, rfl, hRx, hU, ?_⟩
  exact {
    left := hrem
    size := hF.n.trans hA.size
    f := hF.f.trans hA.f
    err := rfl
    last := hF.last.trans hA.last
    rune := hF.rune
    pos := fun h => by
      rcases hF.pos with h1 | h1
      · subst h1
        have h2 : 0 ≤ st.last := h
        exact hA.pos h2
      · right
        show st1.w = 0
        omega
    nz := by have := hF.rune; show st1.rune ≠ 0; rw [this]; show (-1 : Int) ≠ 0; omega
    back := fun h => (by have := hF.rune; have h : 0 ≤ st1.rune := h; rw [this] at h; have h : (0 : Int) ≤ -1 := h; omega) }
set_option maxRecDepth 100000 in
set_option maxHeartbeats 1000000 in
theorem readByteA {S : Err → Addr} {B : Nat} {w : World} {L : Loc} {st : RS} {A : AR} (E : Env S B w) (hB : B ≤ L.lo) (h : Rd S w L st) (hA : Abs st A) :
    Calls Tryd.prog 44 #[.pointer (some ⟨L.b, 0, none⟩)] w (Ret (BytePost S w L (byteA A))) := by
  have HE := Lib.hid E
  have HB := Lib.hid hB
  have H := Lib.hid h
  have HA := Lib.hid hA
  obtain ⟨c0, c1, c2, c3, c4, c5, c6, hf⟩ := h.cells
  have h0 : Rd S (w.setCell ⟨L.b, 6, none⟩ (.int .i64 (-1))) L { st with rune := -1 } := h.setRune (-1) (by omega) (by omega)
  have HI := Lib.hid (In.b h)
  have H0 := Lib.hid h0
  clear E hB h h0 hA c0 c1 c2 c3 c4 c5
  go_enter Tryd.func44, Tryd.ntmps44
  go_wp2
  go_loopg [] (toFill st) (fun k wx => ∃ st1, Rd S wx L st1 ∧ Upd (In L) w wx ∧ Fld byteC { st with rune := -1 } st1 ∧ toFill st1 ≤ k)
  case atStart => exact ⟨_, H0.out, (Upd.refl _ _).setCell (fun _ => HI.out) _, Fld.refl _ _, Nat.le_refl _⟩
  case round =>
    obtain ⟨st1, h1, u1, wt, hk⟩ := hrel
    have hrw := h1.rw
    have hwn := h1.wn
    have hnhi := h1.nhi
    obtain ⟨d0, d1, d2, d3, d4, d5, d6, hf1⟩ := h1.cells
    have H1 := Lib.hid h1
    have HU := Lib.hid u1
    have HW := Lib.hid wt
    have HK := Lib.hid hk
    clear h1 u1 wt hk c6 hf
    by_cases hr : st1.r < st1.w
    · have hb := H1.out.byte (show st1.r < st1.buf.length by omega)
      have hlt2 : st1.r < st1.buf.length := by omega
      clear d1 d4 d6
      have hfin : ∀ w2, w2 = ((wr.setCell ⟨L.b, 2, none⟩ (.int .i64 ((st1.r : Int) + 1))).setCell ⟨L.b, 5, none⟩ (.int .i64 (st1.buf[st1.r].toNat : Int))).drew.drew →
          BytePost S w L (byteA A) (.tuple #[.int .u8 (st1.buf[st1.r].toNat : Int), .nilIface]) w2 := by
        intro w2 hw2
        subst hw2
        refine byte_some HA.out HW.out H1.out hr hlt2 rfl rfl ?_ ?_
        · exact ((H1.out.setR (st1.r + 1) (by omega)).setLast _ (u8_last _).1 (u8_last _).2).drew.drew
        · exact ((HU.out.setCell (fun _ => HI.out) _).setCell (fun _ => HI.out) _).drew.drew
      have HFIN := Lib.hid hfin
      have hu64 : wrap64 (st1.buf[st1.r].toNat : Int) = (st1.buf[st1.r].toNat : Int) := by have := u8_last st1.buf[st1.r]; unfold wrap64; omega
      clear hfin
      (go_wp2; (repeat' (refine wp_region_lx {} (by kernel_rfl) (by kernel_rfl) ⟨fun _ _ _ h => h.2, fun _ _ h => h⟩ ?_; (repeat' (first | (refine wpLx_calm rfl rfl rfl (fun K hK => ?_); go_step <;> (refine hK _ ?_; clear hK K)) | (refine wpLx_skip2 rfl rfl rfl ?_; go_simp) | (refine wpLx_calm2 rfl rfl rfl rfl rfl (fun K hK => ?_); go_step <;> (refine hK _ ?_; clear hK K)))); all_goals (refine wpLx_nil ?_; try go_wp2))))
      go_ret2
      exact HFIN.out _ rfl
    · have hre : st1.r = st1.w := by omega
      have HRE := Lib.hid hre
      have hro : st1.w - st1.r < st1.buf.length := by have := H1.out.nlo; omega
      have HRO := Lib.hid hro
      rw [hre] at d2
      clear hro hre d0 d1 d5 d6 hr
      cases he : st1.err with
      | none =>
        have HER := Lib.hid he
        rw [he] at d4
        simp only [eV] at d4
        clear he
        go_wp2
        refine wp_region_lx {} (by kernel_rfl) (by kernel_rfl) ⟨fun _ _ _ h => h.2, fun _ _ h => h⟩ ?_
        (repeat' (first | (refine wpLx_calm rfl rfl rfl (fun K hK => ?_); go_step <;> (refine hK _ ?_; clear hK K)) | (refine wpLx_skip2 rfl rfl rfl ?_; go_simp) | (refine wpLx_calm2 rfl rfl rfl rfl rfl (fun K hK => ?_); go_step <;> (refine hK _ ?_; clear hK K))))
        refine wpLx_nil ?_
        go_wp2_with (go_at_call 54; refine callRet (fill ((HE.out.upd HU.out (fun k hk => by have := hk.1; have := HB.out; omega)).new (Upd.refl _ _).drew) HB.out H1.out.drew HRO.out) ?_; intro v w1 hv; have HV := Lib.hid hv; clear hv)
        obtain ⟨st2, ⟨_, chunk, hfill⟩, h2, u2⟩ := HV.out
        go_roundg (toFill st2)
        case rel => exact ⟨st2, h2, (HU.out.drew).trans u2 (fun _ h _ => h), HW.out.fill hfill HER.out (fun e => by have := bufd_nil (Nat.le_of_eq HRE.out.symm); exact this), Nat.le_refl _⟩
        case measure => have := HK.out; have := hfill.less HER.out; omega
      | some e =>
        have HER := Lib.hid he
        rw [he] at d4
        obtain ⟨et, ev, hev⟩ : ∃ et ev, eV S (some e) = .iface et ev := by cases e <;> exact ⟨_, _, rfl⟩
        rw [hev] at d4
        have HEV := Lib.hid hev
        clear he hev
        go_wp2
        refine wp_region_lx {} (by kernel_rfl) (by kernel_rfl) ⟨fun _ _ _ h => h.2, fun _ _ h => h⟩ ?_
        (repeat' (first | (refine wpLx_calm rfl rfl rfl (fun K hK => ?_); go_step <;> (refine hK _ ?_; clear hK K)) | (refine wpLx_skip2 rfl rfl rfl ?_; go_simp) | (refine wpLx_calm2 rfl rfl rfl rfl rfl (fun K hK => ?_); go_step <;> (refine hK _ ?_; clear hK K))))
        refine wpLx_nil ?_
        go_wp2_with (go_at_call 55; refine callRet (readErr H1.out.drew) ?_; intro v w1 hv; have HV := Lib.hid hv; clear hv)
        go_ret2
        obtain ⟨st2, ⟨hv, rfl⟩, h2, u2⟩ := HV.out
        exact byte_end HA.out HW.out H1.out (by rw [HER.out]; simp) HRE.out (by rw [hv]; rfl) rfl h2 ((HU.out.drew).trans u2 (fun _ h _ => h))
end Go.Proofs.YtmmjfpcmempeeaaDoor
/- (*bufio.Reader).Buffered, Size, Read. -/
namespace Go.Proofs.YtmmjfpcmempeeaaDoor
open Go.RowKit
theorem bufferedN {S : Err → Addr} {w : World} {L : Loc} {st : RS} (h : Rd S w L st) :
    Calls Tryd.prog 68 #[.pointer (some ⟨L.b, 0, none⟩)] w (Ret fun v w' => New w w' ∧ v = .int .i64 ((st.w - st.r : Nat) : Int)) := by
  obtain ⟨c0, c1, c2, c3, c4, c5, c6, hf⟩ := h.cells
  have hrw := h.rw
  have hwn := h.wn
  have hnhi := h.nhi
  have i1 : (st.w : Int) - (st.r : Int) = ((st.w - st.r : Nat) : Int) := by omega
  clear c0 c1 c4 c5 c6 h
  go_enter Tryd.func68, Tryd.ntmps68
  (go_wp2_with fail; (repeat' (refine wp_region_lx {} (by kernel_rfl) (by kernel_rfl) ⟨fun _ _ _ h => h.2, fun _ _ h => h⟩ ?_; (repeat' (first | (refine wpLx_calm rfl rfl rfl (fun K hK => ?_); go_step <;> (refine hK _ ?_; clear hK K)) | (refine wpLx_skip2 rfl rfl rfl ?_; go_simp) | (refine wpLx_calm2 rfl rfl rfl rfl rfl (fun K hK => ?_); go_step <;> (refine hK _ ?_; clear hK K)))); all_goals (refine wpLx_nil ?_; try go_wp2_with fail))))
  go_ret
  exact ⟨(Upd.refl _ _).drew, rfl⟩
theorem rsize {S : Err → Addr} {w : World} {L : Loc} {st : RS} (h : Rd S w L st) :
    Calls Tryd.prog 69 #[.pointer (some ⟨L.b, 0, none⟩)] w (Ret fun v w' => New w w' ∧ v = .int .i64 (st.buf.length : Int)) := by
  obtain ⟨c0, c1, c2, c3, c4, c5, c6, hf⟩ := h.cells
  have hnhi := h.nhi
  clear c1 c2 c3 c4 c5 c6 h
  go_enter Tryd.func69, Tryd.ntmps69
  (go_wp2_with fail; (repeat' (refine wp_region_lx {} (by kernel_rfl) (by kernel_rfl) ⟨fun _ _ _ h => h.2, fun _ _ h => h⟩ ?_; (repeat' (first | (refine wpLx_calm rfl rfl rfl (fun K hK => ?_); go_step <;> (refine hK _ ?_; clear hK K)) | (refine wpLx_skip2 rfl rfl rfl ?_; go_simp) | (refine wpLx_calm2 rfl rfl rfl rfl rfl (fun K hK => ?_); go_step <;> (refine hK _ ?_; clear hK K)))); all_goals (refine wpLx_nil ?_; try go_wp2_with fail))))
  go_ret
  exact ⟨Upd.refl _ _, rfl⟩
/-- what a Read of n bytes may tell: k of them and an error; and what it leaves -/
def readRel (A : AR) (n k : Nat) (e : Option Err) (A' : AR) : Prop :=
  k ≤ n ∧ k ≤ A.left.length ∧ A'.size = A.size ∧ A'.f = A.f ∧ A'.left = A.left.drop k ∧ (A'.err = true → A.err = true) ∧
    ((0 < k ∧ e = none ∧ A'.rune = -1 ∧ ∃ x, A.left[k - 1]? = some x ∧ A'.last = (x.toNat : Int)) ∨ (k = 0 ∧ (e = none ∨ (A.left = [] ∧ e = some (endErr A.f))) ∧ A'.last = A.last ∧ A'.rune = A.rune ∧ (A'.back = A.back ∨ A'.back = none)))
def ReadPP (S : Err → Addr) (w : World) (L : Loc) (A : AR) (g n : Nat) (v : Value) (w' : World) : Prop :=
  ∃ (k : Nat) (e : Option Err) (A' : AR) (st' : RS), v = .tuple #[.int .i64 (k : Int), eV S e] ∧ readRel A n k e A' ∧ Rd S w' L st' ∧ Abs st' A' ∧ Upd (fun j => In L j ∨ j = g) w w' ∧ BytesA w' (some ⟨g, 0, none⟩) n (A.left.take k)
/-- the error told: nothing is left -/
theorem err_told {S : Err → Addr} {w : World} {L : Loc} {st : RS} {A : AR} (h : Rd S w L st) (hA : Abs st A) (hw : st.w ≤ st.r) : st.err = none ∨ (A.left = [] ∧ st.err = some (endErr A.f)) := by
  rcases Option.eq_none_or_eq_some st.err with h1 | ⟨e, h1⟩
  · exact .inl h1
  · obtain ⟨q1, q2⟩ := h.ended (by rw [h1]; simp)
    exact .inr ⟨by rw [← hA.left, rem_end q1]; exact bufd_nil hw, by rw [q2, hA.f]⟩
theorem abs_noerr {st : RS} {A : AR} (hA : Abs st A) : Abs { st with err := none } { A with err := false } :=
  { left := hA.left, size := hA.size, f := hA.f, err := rfl, last := hA.last, rune := hA.rune, pos := hA.pos, nz := hA.nz, back := hA.back }
theorem readp_none {S : Err → Addr} {w wx : World} {L : Loc} {A A' : AR} {st' : RS} {e : Option Err} {g n : Nat} (hn : n ≤ maxLen) (hRx : Rd S wx L st') (hU : Upd (In L) w wx) (hA' : Abs st' A') (he : e = none ∨ (A.left = [] ∧ e = some (endErr A.f)))
    (h1 : A'.size = A.size) (h2 : A'.f = A.f) (h3 : A'.left = A.left) (h4 : A'.err = true → A.err = true) (h5 : A'.last = A.last) (h6 : A'.rune = A.rune) (h7 : A'.back = A.back ∨ A'.back = none) :
    ReadPP S w L A g n (.tuple #[.int .i64 0, eV S e]) wx :=
  ⟨0, e, A', st', rfl, ⟨Nat.zero_le _, Nat.zero_le _, h1, h2, by rw [h3]; rfl, h4, .inr ⟨rfl, he, h5, h6, h7⟩⟩, hRx, hA', hU.mono (fun j hj _ => .inl hj), Nat.zero_le _, hn, fun hh => (by cases hh), fun p hp => ⟨fun hh => (hh rfl).elim, fun i hi => (by simp at hi)⟩⟩
theorem readp_zero {S : Err → Addr} {w wx : World} {L : Loc} {A A' : AR} {st' : RS} {e : Option Err} {g n : Nat} (hn : n ≤ maxLen) (hRx : Rd S wx L st') (hU : Upd (fun j => In L j ∨ j = g) w wx) (hA' : Abs st' A') (he : e = none ∨ (A.left = [] ∧ e = some (endErr A.f)))
    (h1 : A'.size = A.size) (h2 : A'.f = A.f) (h3 : A'.left = A.left) (h4 : A'.err = true → A.err = true) (h5 : A'.last = A.last) (h6 : A'.rune = A.rune) (h7 : A'.back = A.back ∨ A'.back = none) :
    ReadPP S w L A g n (.tuple #[.int .i64 0, eV S e]) wx :=
  ⟨0, e, A', st', rfl, ⟨Nat.zero_le _, Nat.zero_le _, h1, h2, by rw [h3]; rfl, h4, .inr ⟨rfl, he, h5, h6, h7⟩⟩, hRx, hA', hU, Nat.zero_le _, hn, fun hh => (by cases hh), fun p hp => ⟨fun hh => (hh rfl).elim, fun i hi => (by simp at hi)⟩⟩
/-- bytes of a row from its beginning -/
theorem bytes_row {w : World} {g n : Nat} {cur : Array Value} {bs : List UInt8} (hn : n ≤ maxLen) (hl : bs.length ≤ n) (hg : w.heap[g]? = some (.cells (splice cur.toList 0 (bs.map bv)).toArray 5 (0, 0))) : BytesA w (some ⟨g, 0, none⟩) n bs := by
  refine ⟨hl, hn, fun hh => (by cases hh), fun p hp => ⟨fun _ => (by simp only [Option.some.injEq] at hp; subst hp; rfl), fun i hi => ?_⟩⟩
  simp only [Option.some.injEq] at hp
  subst hp
  rw [World.cell_of_heap hg, splice_zero, Nat.zero_add, List.getElem?_toArray, List.getElem?_append_left (by simpa using hi)]
  simp [hi]
theorem readp_some {S : Err → Addr} {w wx : World} {L : Loc} {A : AR} {st' : RS} {g n k : Nat} {x : UInt8} {v : Value} (hv : v = .tuple #[.int .i64 (k : Int), .nilIface]) (hk0 : 0 < k) (hkn : k ≤ n) (hkl : k ≤ A.left.length) (hx : A.left[k - 1]? = some x) (hRx : Rd S wx L st') (hU : Upd (fun j => In L j ∨ j = g) w wx)
    (h1 : rem st' = A.left.drop k) (h2 : st'.buf.length = A.size) (h3 : st'.f = A.f) (h4 : st'.err = if A.err then some (endErr A.f) else none) (h5 : st'.last = (x.toNat : Int)) (h6 : st'.rune = -1) (h7 : 0 < st'.r ∨ st'.w = 0) (hb : BytesA wx (some ⟨g, 0, none⟩) n (A.left.take k)) : ReadPP S w L A g n v wx := by
  subst hv
  refine ⟨k, none, { A with left := A.left.drop k, last := (x.toNat : Int), rune := -1 }, st', rfl, ⟨hkn, hkl, rfl, rfl, rfl, fun h => h, .inl ⟨hk0, rfl, rfl, x, hx, rfl⟩⟩, hRx, ?_, hU, hb⟩
  exact { left := h1, size := h2, f := h3, err := h4, last := h5, rune := h6, pos := fun _ => h7, nz := by rw [h6]; omega, back := fun h => by rw [h6] at h; omega }
/-- a Read of the source into a row that is not the reader's -/
theorem Rd.readOut {S : Err → Addr} {w w1 : World} {L : Loc} {st : RS} {v : Value} (h : Rd S w L st) {p0 : List UInt8} {rest : List (List UInt8)} (hps : st.ps = p0 :: rest) {g k off : Nat} {cur : Array Value} (hk : k ≤ p0.length) (hg : ¬ In L g)
    (hp : ReadPost w L.sl L.mid L.s p0 rest st.f g off k cur v w1) : Rd S w1 L { st with ps := srcLeft k (p0 :: rest) } ∧ Upd (fun j => In L j ∨ j = g) w w1 := by
  obtain ⟨_, _, hsrc, hu, _⟩ := hp
  have hmid := h.lomid
  have hb := h.blo
  have hbb := h.bblo
  have hib := In.b h
  have hibb := In.bb h
  refine ⟨?_, hu.mono (fun j hj _ => ?_)⟩
  · exact {
      hb := hu.heap h.hb (fun hh => by rcases hh with hh | hh; exact hg (hh ▸ hib); omega)
      hbb := hu.heap h.hbb (fun hh => by rcases hh with hh | hh; exact hg (hh ▸ hibb); omega)
      src := hsrc
      blo := h.blo
      bhi := h.bhi
      bblo := h.bblo
      bbhi := h.bbhi
      lomid := h.lomid
      rw := h.rw
      wn := h.wn
      nlo := h.nlo
      nhi := h.nhi
      empties := by have := h.empties; rw [hps] at this; exact Nat.le_trans (nones_srcLeft k p0 rest hk) this
      errok := by rcases h.errok with h1 | ⟨_, h1⟩; exact .inl h1; rw [hps] at h1; cases h1
      lastlo := h.lastlo
      lasthi := h.lasthi
      runelo := h.runelo
      runehi := h.runehi }
  · rcases hj with rfl | hj
    · exact .inr rfl
    · exact .inl ⟨by omega, by omega⟩
set_option maxRecDepth 100000 in
set_option maxHeartbeats 4000000 in
theorem readP {S : Err → Addr} {B : Nat} {w : World} {L : Loc} {st : RS} {A : AR} (E : Env S B w) (hB : B ≤ L.lo) (h : Rd S w L st) (hA : Abs st A) {g n : Nat} {cur : Array Value} (hg : w.heap[g]? = some (.cells cur 5 (0, 0))) (hc : cur.size = n) (hgin : ¬ In L g) (hn : n ≤ 4096) :
    Calls Tryd.prog 59 #[.pointer (some ⟨L.b, 0, none⟩), .slice (some ⟨g, 0, none⟩) n n] w (Ret (ReadPP S w L A g n)) := by
  have HE := Lib.hid E
  have HB := Lib.hid hB
  have H := Lib.hid h
  have HA := Lib.hid hA
  have HG := Lib.hid hg
  have HC := Lib.hid hc
  have HGI := Lib.hid hgin
  have hrw := h.rw
  have hwn := h.wn
  have hnhi := h.nhi
  have hnlo := h.nlo
  have hml : n ≤ maxLen := by unfold maxLen; omega
  have HML := Lib.hid hml
  obtain ⟨c0, c1, c2, c3, c4, c5, c6, hf⟩ := h.cells
  have KB := Lib.hid (bufferedN h)
  have KE := fun wx (hx : New w wx) => Lib.hid (readErr (h.new hx))
  have HKE := Lib.hid KE
  have HI := Lib.hid (In.b h)
  clear E hB h hA hg hc hgin hml KE
  by_cases h0 : n = 0
  · subst h0
    clear c0 c1 c2 c3 c4 c5 c6 hf
    by_cases hb : 0 < st.w - st.r
    · go_enter Tryd.func59, Tryd.ntmps59
      go_wp2_with (go_at_call 68; refine callRet KB.out ?_; rintro v w1 ⟨hn1, rfl⟩)
      go_ret2
      exact readp_none HML.out (H.out.new hn1) ((Upd.refl _ _).andNew hn1) HA.out (.inl rfl) rfl rfl rfl (fun h => h) rfl rfl (.inl rfl)
    · go_enter Tryd.func59, Tryd.ntmps59
      go_wp2_with (first | (go_at_call 68; refine callRet KB.out ?_; rintro v w1 ⟨hn1, rfl⟩) | (go_at_call 55; refine callRet (HKE.out _ hn1).out ?_; rintro v w2 ⟨st2, ⟨rfl, rfl⟩, hr2, hu2⟩))
      go_ret2
      exact readp_none HML.out hr2 (((Upd.refl _ _).andNew hn1).trans hu2 (fun _ h _ => h)) (abs_noerr HA.out) (err_told H.out HA.out (by omega)) rfl rfl rfl (fun h => by cases h) rfl rfl (.inl rfl)
  · have HN0 : Hid (0 < n) := by rw [Hid]; omega
    have q0 : ((n : Int) == 0) = false := by rw [beq_eq_false_iff_ne]; omega
    clear h0
    go_enter Tryd.func59, Tryd.ntmps59
    go_wp2_with fail
    refine wp_region_lx {} (by kernel_rfl) (by kernel_rfl) ⟨fun _ _ _ h => h.2, fun _ _ h => h⟩ ?_
    (repeat' (first | (refine wpLx_calm rfl rfl rfl (fun K hK => ?_); go_step <;> (refine hK _ ?_; clear hK K)) | (refine wpLx_skip2 rfl rfl rfl ?_; go_simp) | (refine wpLx_calm2 rfl rfl rfl rfl rfl (fun K hK => ?_); go_step <;> (refine hK _ ?_; clear hK K))))
    refine wpLx_nil ?_
    go_upto_if 23 with fail
    go_cut [] from 4 (fun wc => ∃ st1, Rd S wc L st1 ∧ rem st1 = A.left ∧ st1.buf.length = A.size ∧ st1.f = A.f ∧ st1.err = st.err ∧ st1.r < st1.w ∧ Upd (In L) w wc)
    case first =>
      by_cases hrw2 : st.r < st.w
      · have q1 : ((st.r : Int) == (st.w : Int)) = false := by rw [beq_eq_false_iff_ne]; omega
        have HRW := Lib.hid hrw2
        clear hrw2
        go_wp2_with fail
        go_meet
        exact ⟨st, H.out.drew, HA.out.left, HA.out.size, HA.out.f, rfl, HRW.out, (Upd.refl _ _).drew⟩
      · have q1 : ((st.r : Int) == (st.w : Int)) = true := by rw [beq_iff_eq]; omega
        have HRW : Hid (st.w ≤ st.r) := by rw [Hid]; omega
        clear hrw2
        cases he : st.err with
        | some e =>
          have HER := Lib.hid he
          rw [he] at c4
          obtain ⟨et, ev, hev⟩ : ∃ et ev, eV S (some e) = .iface et ev := by cases e <;> exact ⟨_, _, rfl⟩
          rw [hev] at c4
          clear he hev
          go_wp2_with (go_at_call 55; refine callRet (HKE.out _ (Upd.refl _ _).drew).out ?_; rintro v w2 ⟨st2, ⟨rfl, rfl⟩, hr2, hu2⟩)
          go_ret2
          exact readp_none HML.out hr2 ((Upd.refl _ _).drew.trans hu2 (fun _ h _ => h)) (abs_noerr HA.out) (err_told H.out HA.out HRW.out) rfl rfl rfl (fun h => by cases h) rfl rfl (.inl rfl)
        | none =>
          have HER := Lib.hid he
          rw [he] at c4
          simp only [eV] at c4
          simp only [rdV] at c1
          have hm : ∀ w : World, (method 272 82 (.pointer (some ⟨L.s, 0, none⟩)) "Read").run Tryd.prog w = .ok (102, .pointer (some ⟨L.s, 0, none⟩)) w := fun w => by kernel_rfl
          clear he
          cases hps : st.ps with
          | nil =>
            have HPS := Lib.hid hps
            have KS : Hid (∀ wx st' (v : Value), Rd S wx L st' → st'.ps = [] → st'.f = st.f → Upd (In L) w wx → Calls Tryd.prog 102 #[.pointer (some ⟨L.s, 0, none⟩), v] wx (Ret fun r w' => New wx w' ∧ r = .tuple #[.int .i64 0, eV S (some (endErr st.f))])) := fun wx st' v hx hp hf hu => by
              have hs := hx.src
              rw [hp, hf] at hs
              exact srcRead_nil (HE.out.updL HB.out hu) hs v
            obtain ⟨et, ev, hev⟩ : ∃ et ev, eV S (some (endErr st.f)) = .iface et ev := by cases st.f <;> exact ⟨_, _, rfl⟩
            have HEV := Lib.hid hev
            have hleft : Hid (A.left = []) := by
              rw [Hid, ← HA.out.left, rem_end hps]; exact bufd_nil HRW.out
            clear hps hev
            by_cases hlarge : st.buf.length ≤ n
            · have q2 : decide ((st.buf.length : Int) ≤ (n : Int)) = true := decide_eq_true (by omega)
              go_wp2_with (first | (go_at_call 102; refine callRet (KS.out _ st _ H.out.drew HPS.out rfl (Upd.refl _ _).drew) ?_; rintro v w1 ⟨hn1, rfl⟩; have HR1 := Lib.hid (H.out.drew.new hn1); have HU1 : Hid (New w w1) := (Upd.refl _ w).drew.andNew hn1; obtain ⟨e0, e1, e2, e3, e4, e5, e6, ef⟩ := HR1.out.cells; have HR2 := Lib.hid (HR1.out.setErr (some (endErr st.f)) (.inr ⟨rfl, HPS.out⟩)); rw [HEV.out] at HR2 ⊢; clear c0 c1 c2 c3 c4 c5 c6 hf hn1) | (go_at_call 55; refine callRet (readErr HR2.out) ?_; rintro v w2 ⟨st2, ⟨rfl, rfl⟩, hr2, hu2⟩))
              go_ret2
              exact readp_none HML.out hr2 ((((Upd.refl (In L) w).andNew HU1.out).setCell (fun _ => HI.out) _).trans hu2 (fun _ h _ => h)) (abs_noerr HA.out) (.inr ⟨hleft.out, by rw [← HA.out.f]⟩) rfl rfl rfl (fun h => by cases h) rfl rfl (.inl rfl)
            · have q2 : decide ((st.buf.length : Int) ≤ (n : Int)) = false := decide_eq_false (by omega)
              have h2 : Rd S ((w.drew.setCell ⟨L.b, 2, none⟩ (.int .i64 0)).setCell ⟨L.b, 3, none⟩ (.int .i64 0)) L { st with r := 0, w := 0 } := (H.out.drew.setR 0 (Nat.zero_le _)).setW 0 (Nat.le_refl _) (Nat.zero_le _)
              have H2 := Lib.hid h2
              have HU2 : Hid (Upd (In L) w ((w.drew.setCell ⟨L.b, 2, none⟩ (.int .i64 0)).setCell ⟨L.b, 3, none⟩ (.int .i64 0))) := (((Upd.refl (In L) w).drew).setCell (fun _ => HI.out) _).setCell (fun _ => HI.out) _
              clear h2
              go_wp2_with fail
              refine wp_region_lx {} (by kernel_rfl) (by kernel_rfl) ⟨fun _ _ _ h => h.2, fun _ _ h => h⟩ ?_
              (repeat' (first | (refine wpLx_calm rfl rfl rfl (fun K hK => ?_); go_step <;> (refine hK _ ?_; clear hK K)) | (refine wpLx_skip2 rfl rfl rfl ?_; go_simp) | (refine wpLx_calm2 rfl rfl rfl rfl rfl (fun K hK => ?_); go_step <;> (refine hK _ ?_; clear hK K))))
              refine wpLx_eff' rfl rfl rfl (fun K hK => ?_)
              refine wp_call (KS.out _ _ (.slice (some ⟨L.bb, 0, none⟩) st.buf.length st.buf.length) H2.out.drew HPS.out rfl HU2.out.drew) (by kernel_rfl) ?_
              rintro v w1 ⟨hn1, rfl⟩
              have HR1 := Lib.hid (H2.out.drew.new hn1)
              have HU1 : Hid (Upd (In L) w w1) := HU2.out.drew.andNew hn1
              obtain ⟨e0, e1, e2, e3, e4, e5, e6, ef⟩ := HR1.out.cells
              have HR2 := Lib.hid (HR1.out.setErr (some (endErr st.f)) (.inr ⟨rfl, HPS.out⟩))
              rw [HEV.out] at HR2 ⊢
              clear c0 c1 c2 c3 c4 c5 c6 hf hn1
              refine hK _ _ ?_
              clear hK K
              (repeat' (first | (refine wpLx_calm rfl rfl rfl (fun K hK => ?_); go_step <;> (refine hK _ ?_; clear hK K)) | (refine wpLx_skip2 rfl rfl rfl ?_; go_simp) | (refine wpLx_calm2 rfl rfl rfl rfl rfl (fun K hK => ?_); go_step <;> (refine hK _ ?_; clear hK K))))
              refine wpLx_eff rfl rfl rfl (fun K hK => ?_)
              go_step
              refine hK _ _ ?_
              clear hK K
              refine wpLx_nil ?_
              go_wp2_with (go_at_call 55; refine callRet (readErr HR2.out) ?_; rintro v w2 ⟨st2, ⟨rfl, rfl⟩, hr2, hu2⟩)
              go_ret2
              refine readp_none (A' := { A with err := false, back := none }) HML.out hr2 ((HU1.out.setCell (fun _ => HI.out) _).trans hu2 (fun _ h _ => h)) ?_ (.inr ⟨hleft.out, by rw [← HA.out.f]⟩) rfl rfl rfl (fun h => by cases h) rfl rfl (.inr rfl)
              exact { left := (by rw [hleft.out]; show rem _ = []; rw [rem_end (by exact HPS.out)]; exact bufd_nil (Nat.le_refl _)), size := HA.out.size, f := HA.out.f, err := rfl, last := HA.out.last, rune := HA.out.rune, pos := fun _ => .inr rfl, nz := HA.out.nz,
                      back := fun h => (by have h : 0 ≤ st.rune := h; have h0 := HA.out.nz; show none = if st.rune ≤ ((0 : Nat) : Int) then _ else none; rw [if_neg (by omega)]) }
          | cons p0 rest =>
            have HPS := Lib.hid hps
            have hleft : Hid (A.left = (p0 :: rest).flatten) := by
              rw [Hid, ← HA.out.left, ← hps]; unfold rem; rw [bufd_nil HRW.out]; rfl
            have hAe : Hid (A.err = false) := HA.out.endIff.1 HER.out
            clear hps
            by_cases hlarge : st.buf.length ≤ n
            · have q2 : decide ((st.buf.length : Int) ≤ (n : Int)) = true := decide_eq_true (by omega)
              obtain ⟨k, hk⟩ : ∃ k, k = min p0.length n := ⟨_, rfl⟩
              have hk1 : k ≤ p0.length := by omega
              have hk2 : k ≤ n := by omega
              have KS := Lib.hid (srcRead_cons (w := w.drew) (p0 := p0) (rest := rest) (f := st.f) (by have := H.out.drew.src; rwa [HPS.out] at this) g 0 n n cur HG.out (fun hh => HGI.out (by have := H.out.lomid; exact ⟨by omega, by omega⟩)) (by have := HC.out; omega) (Nat.le_refl _) (by omega))
              rw [← hk] at KS
              clear hk
              have hgb : g ≠ L.b := fun hh => HGI.out (hh ▸ HI.out)
              have hgb2 : L.b ≠ g := fun hh => hgb hh.symm
              have hsf := Lib.hid (srcLeft_flatten k p0 rest hk1)
              have HTK : Hid (A.left.take k = p0.take k) := by
                rw [Hid, hleft.out, hsf.out, List.take_append_of_le_length (by simp; omega), List.take_of_length_le (by simp; omega)]
              have HDK : Hid (A.left.drop k = (srcLeft k (p0 :: rest)).flatten) := by
                rw [Hid, hleft.out, hsf.out]; exact List.drop_left' (by simp; omega)
              have HKL : Hid (k ≤ A.left.length) := by rw [Hid, hleft.out, hsf.out, List.length_append]; simp; omega
              clear hsf
              by_cases hk0 : 0 < k
              · obtain ⟨x, hx⟩ : ∃ x, p0[k - 1]? = some x := ⟨_, List.getElem?_eq_getElem (by omega)⟩
                have HX := Lib.hid hx
                have HXL : Hid (A.left[k - 1]? = some x) := by
                  have h1 : (A.left.take k)[k - 1]? = A.left[k - 1]? := List.getElem?_take_of_lt (by omega)
                  have h2 : (p0.take k)[k - 1]? = p0[k - 1]? := List.getElem?_take_of_lt (by omega)
                  rw [Hid, ← h1, HTK.out, h2, hx]
                have HK0 := Lib.hid hk0
                have i1 : (k : Int) - 1 = ((k - 1 : Nat) : Int) := by omega
                have q3 : decide ((0 : Int) < (k : Int)) = true := decide_eq_true (by omega)
                have hkn1 : k - 1 < n := by omega
                have hu64 : wrap64 (x.toNat : Int) = (x.toNat : Int) := by have := u8_last x; unfold wrap64; omega
                clear hx hk0
                go_wp2_with (first | (go_at_call 102; refine callRet KS.out ?_; intro v w1 hrp; have hv : v = .tuple #[.int .i64 (k : Int), .nilIface] := hrp.1; obtain ⟨h3, u3⟩ := H.out.drew.readOut HPS.out hk1 HGI.out hrp; have HG1 := Lib.hid hrp.2.1; rw [hv]; clear hv hrp; have HR1 := Lib.hid h3; have HU1 : Hid (Upd (fun j => In L j ∨ j = g) w w1) := (Upd.refl (fun j => In L j ∨ j = g) w).drew.trans u3 (fun _ h _ => h); obtain ⟨e0, e1, e2, e3, e4, e5, e6, ef⟩ := HR1.out.cells; have eg : w1.cell? ⟨g, k - 1, none⟩ = some (.int .u8 (x.toNat : Int)) := (by rw [World.cell_of_heap HG1.out, splice_zero, List.getElem?_toArray, List.getElem?_append_left (by simp; omega), List.getElem?_map, List.getElem?_take_of_lt (by omega), HX.out]; rfl); have HR2 := Lib.hid (((HR1.out.setErr none (.inl rfl)).setLast (x.toNat : Int) (u8_last x).1 (u8_last x).2).setRune (-1) (by omega) (by omega)); clear c0 c1 c2 c3 c4 c5 c6 hf h3 u3) | (go_at_call 55; refine callRet (readErr HR2.out) ?_; rintro v w2 ⟨st2, ⟨rfl, rfl⟩, hr2, hu2⟩))
                go_ret2
                refine readp_some rfl HK0.out hk2 HKL.out HXL.out hr2 ((((HU1.out.setCell (p := ⟨L.b, 4, none⟩) (fun _ => .inl HI.out) _).setCell (p := ⟨L.b, 5, none⟩) (fun _ => .inl HI.out) _).setCell (p := ⟨L.b, 6, none⟩) (fun _ => .inl HI.out) _).trans hu2 (fun _ h _ => .inl h)) ?_ HA.out.size HA.out.f (by rw [hAe.out]; rfl) rfl rfl ?_ ?_
                · rw [HDK.out]; unfold rem; rw [bufd_nil (by exact HRW.out)]; rfl
                · show 0 < st.r ∨ st.w = 0
                  have := HRW.out; omega
                · rw [HTK.out]
                  have hb := bytes_row (bs := p0.take k) (cur := cur) (n := n) HML.out (by simp; omega) HG1.out
                  exact (hb.upd (((Upd.refl (In L) w1).setCell (p := ⟨L.b, 4, none⟩) (fun _ => HI.out) _).setCell (p := ⟨L.b, 5, none⟩) (fun _ => HI.out) _ |>.setCell (p := ⟨L.b, 6, none⟩) (fun _ => HI.out) _) (fun p hp _ => by simp only [Option.some.injEq] at hp; subst hp; exact HGI.out)).upd hu2 (fun p hp _ => by simp only [Option.some.injEq] at hp; subst hp; exact HGI.out)
              · have hk00 : k = 0 := by omega
                subst hk00
                clear hk0
                go_wp2_with (first | (go_at_call 102; refine callRet KS.out ?_; intro v w1 hrp; have hv : v = .tuple #[.int .i64 ((0 : Nat) : Int), .nilIface] := hrp.1; obtain ⟨h3, u3⟩ := H.out.drew.readOut HPS.out hk1 HGI.out hrp; rw [hv]; clear hv hrp; have HR1 := Lib.hid h3; have HU1 : Hid (Upd (fun j => In L j ∨ j = g) w w1) := (Upd.refl (fun j => In L j ∨ j = g) w).drew.trans u3 (fun _ h _ => h); obtain ⟨e0, e1, e2, e3, e4, e5, e6, ef⟩ := HR1.out.cells; have HR2 := Lib.hid (HR1.out.setErr none (.inl rfl)); clear c0 c1 c2 c3 c4 c5 c6 hf h3 u3) | (go_at_call 55; refine callRet (readErr HR2.out) ?_; rintro v w2 ⟨st2, ⟨rfl, rfl⟩, hr2, hu2⟩))
                go_ret2
                refine readp_zero HML.out hr2 ((HU1.out.setCell (p := ⟨L.b, 4, none⟩) (fun _ => .inl HI.out) _).trans hu2 (fun _ h _ => .inl h)) (A' := A) ?_ (.inl rfl) rfl rfl rfl (fun h => h) rfl rfl (.inl rfl)
                have hd := HDK.out
                exact { left := (by rw [List.drop_zero] at hd; rw [hd]; unfold rem; rw [bufd_nil (by exact HRW.out)]; rfl), size := HA.out.size, f := HA.out.f, err := (by rw [hAe.out]; rfl), last := HA.out.last, rune := HA.out.rune, pos := HA.out.pos, nz := HA.out.nz, back := HA.out.back }
            · have q2 : decide ((st.buf.length : Int) ≤ (n : Int)) = false := decide_eq_false (by omega)
              have h2 : Rd S ((w.drew.setCell ⟨L.b, 2, none⟩ (.int .i64 0)).setCell ⟨L.b, 3, none⟩ (.int .i64 0)) L { st with r := 0, w := 0 } := (H.out.drew.setR 0 (Nat.zero_le _)).setW 0 (Nat.le_refl _) (Nat.zero_le _)
              have H2 := Lib.hid h2
              have HU2 : Hid (Upd (In L) w ((w.drew.setCell ⟨L.b, 2, none⟩ (.int .i64 0)).setCell ⟨L.b, 3, none⟩ (.int .i64 0))) := (((Upd.refl (In L) w).drew).setCell (fun _ => HI.out) _).setCell (fun _ => HI.out) _
              clear h2
              obtain ⟨k, hk⟩ : ∃ k, k = min p0.length st.buf.length := ⟨_, rfl⟩
              have hk1 : k ≤ p0.length := by omega
              have hk2 : k ≤ st.buf.length := by omega
              have KS := Lib.hid (srcRead_cons (p0 := p0) (rest := rest) (f := st.f) (by have := H2.out.drew.src; rwa [show ({ st with r := 0, w := 0 } : RS).ps = p0 :: rest from HPS.out] at this) L.bb 0 st.buf.length st.buf.length (st.buf.map bv).toArray H2.out.drew.hbb (fun hh => by have h1 := H.out.bblo; have h2 : L.sl ≤ L.bb ∧ L.bb < L.mid := hh; omega) (by simp) (Nat.le_refl _) (by omega))
              rw [← hk] at KS
              have HKM := Lib.hid hk
              clear hk
              have hsf := Lib.hid (srcLeft_flatten k p0 rest hk1)
              have HAL : Hid (A.left = p0.take k ++ (srcLeft k (p0 :: rest)).flatten) := by rw [Hid, hleft.out, hsf.out]
              clear hsf
              go_wp2_with fail
              refine wp_region_lx {} (by kernel_rfl) (by kernel_rfl) ⟨fun _ _ _ h => h.2, fun _ _ h => h⟩ ?_
              (repeat' (first | (refine wpLx_calm rfl rfl rfl (fun K hK => ?_); go_step <;> (refine hK _ ?_; clear hK K)) | (refine wpLx_skip2 rfl rfl rfl ?_; go_simp) | (refine wpLx_calm2 rfl rfl rfl rfl rfl (fun K hK => ?_); go_step <;> (refine hK _ ?_; clear hK K))))
              refine wpLx_eff' rfl rfl rfl (fun K hK => ?_)
              refine wp_call KS.out (by kernel_rfl) ?_
              intro v w1 hrp
              have hv : v = .tuple #[.int .i64 (k : Int), .nilIface] := hrp.1
              obtain ⟨h3, u3⟩ := H2.out.drew.read HPS.out hk1 (by show 0 + k ≤ st.buf.length; omega) hrp
              rw [hv]
              clear hv hrp
              have HR1 := Lib.hid h3
              have HU1 : Hid (Upd (In L) w w1) := HU2.out.drew.trans u3 (fun _ h _ => h)
              obtain ⟨e0, e1, e2, e3, e4, e5, e6, ef⟩ := HR1.out.cells
              have HR2 := Lib.hid (HR1.out.setErr none (.inl rfl))
              clear c0 c1 c2 c3 c4 c5 c6 hf h3 u3
              refine hK _ _ ?_
              clear hK K
              (repeat' (first | (refine wpLx_calm rfl rfl rfl (fun K hK => ?_); go_step <;> (refine hK _ ?_; clear hK K)) | (refine wpLx_skip2 rfl rfl rfl ?_; go_simp) | (refine wpLx_calm2 rfl rfl rfl rfl rfl (fun K hK => ?_); go_step <;> (refine hK _ ?_; clear hK K))))
              refine wpLx_eff rfl rfl rfl (fun K hK => ?_)
              go_step
              refine hK _ _ ?_
              clear hK K
              refine wpLx_nil ?_
              have HBL : Hid ((st.buf.take 0 ++ (p0.take k ++ st.buf.drop (0 + k))).length = st.buf.length) := by rw [Hid]; simp; omega
              by_cases hk0 : 0 < k
              · have q3 : decide ((0 : Int) < (k : Int)) = true := decide_eq_true (by omega)
                have q4 : ((k : Int) == 0) = false := by rw [beq_eq_false_iff_ne]; omega
                have HK0 := Lib.hid hk0
                clear hk0
                go_wp2_with fail
                go_meet
                have hR3 := HR2.out.setW k (Nat.zero_le _) (by show k ≤ (st.buf.take 0 ++ (p0.take k ++ st.buf.drop (0 + k))).length; rw [HBL.out]; exact hk2)
                refine ⟨_, hR3, ?_, HBL.out.trans HA.out.size, HA.out.f, ?_, HK0.out, (HU1.out.setCell (fun _ => HI.out) _).setCell (fun _ => HI.out) _⟩
                · rw [HAL.out]
                  unfold rem bufd
                  show ((st.buf.take 0 ++ (p0.take k ++ st.buf.drop (0 + k))).take k).drop 0 ++ _ = _
                  rw [List.take_zero, List.nil_append, List.drop_zero, List.take_append_of_le_length (by simp; omega), List.take_of_length_le (by simp; omega)]
                · exact HER.out.symm
              · have hk00 : k = 0 := by omega
                subst hk00
                clear hk0
                go_wp2_with (go_at_call 55; refine callRet (readErr HR2.out) ?_; rintro v w2 ⟨st2, ⟨rfl, rfl⟩, hr2, hu2⟩)
                go_ret2
                refine readp_zero (A' := { A with back := none }) HML.out hr2 (((HU1.out.setCell (fun _ => HI.out) _).trans hu2 (fun _ h _ => h)).mono (fun j hj _ => .inl hj)) ?_ (.inl rfl) rfl rfl rfl (fun h => h) rfl rfl (.inr rfl)
                have hal := HAL.out
                exact { left := (by show rem _ = A.left; rw [hal]; unfold rem; rw [bufd_nil (by exact Nat.le_refl _)]; rfl), size := HBL.out.trans HA.out.size, f := HA.out.f, err := (by rw [hAe.out]; rfl), last := HA.out.last, rune := HA.out.rune, pos := fun _ => .inr rfl, nz := HA.out.nz,
                        back := fun h => (by have h : 0 ≤ st.rune := h; have h0 := HA.out.nz; show none = if st.rune ≤ ((0 : Nat) : Int) then _ else none; rw [if_neg (by omega)]) }
    case rest =>
      obtain ⟨st1, h1, e1, e2, e3, e4, hlt, hu⟩ := hcut
      have hrw1 := h1.rw
      have hwn1 := h1.wn
      have hnhi1 := h1.nhi
      have HR0 := Lib.hid h1
      have HU0 := Lib.hid hu
      have hgw : wc.heap[g]? = some (.cells cur 5 (0, 0)) := hu.heap HG.out HGI.out
      have HGW := Lib.hid hgw
      have hbl := Lib.hid (bufd_length (st := st1) h1.wn)
      have HE1 := Lib.hid e1
      have HE2 := Lib.hid e2
      have HE3 := Lib.hid e3
      have HE4 := Lib.hid e4
      obtain ⟨d0, d1, d2, d3, d4, d5, d6, df⟩ := h1.cells
      obtain ⟨m, hm⟩ : ∃ m, m = min (st1.w - st1.r) n := ⟨_, rfl⟩
      have hm0 : 0 < m := by have := HN0.out; omega
      have hm1 : m ≤ st1.w - st1.r := by omega
      have hm2 : m ≤ n := by omega
      have HM := Lib.hid hm
      have HCL : Hid ((((bufd st1).take m).map bv).length = m) := by rw [Hid, List.length_map, List.length_take, hbl.out]; omega
      have hcr : ¬ st1.buf.length = st1.r := by omega
      clear h1 hu hgw e1 e2 e3 e4 c0 c1 c2 c3 c4 c5 c6 hf hm d1 d4 d5 d6
      go_wp2_with fail
      refine wp_region_lx {} (by kernel_rfl) (by kernel_rfl) ⟨fun _ _ _ h => h.2, fun _ _ h => h⟩ ?_
      (repeat' (first | (refine wpLx_calm rfl rfl rfl (fun K hK => ?_); go_step <;> (refine hK _ ?_; clear hK K)) | (refine wpLx_skip2 rfl rfl rfl ?_; go_simp) | (refine wpLx_calm2 rfl rfl rfl rfl rfl (fun K hK => ?_); go_step <;> (refine hK _ ?_; clear hK K))))
      refine wpLx_eff rfl rfl rfl (fun K hK => ?_)
      refine wp_copy eB (.tmp 109) (.tmp 122) 29 rfl g 0 n n rfl cur 5 HGW.out (some ⟨L.bb, st1.r, none⟩) (st1.w - st1.r) (st1.buf.length - st1.r) rfl (fun hh => by cases hh) (((bufd st1).take m).map bv) (by rw [HCL.out]; exact HM.out) (fun p hp j u hu => ?_) (by rw [HCL.out, HC.out]; omega) (oneCell_bytes _) ?_
      · have hj : j < ((bufd st1).take m).length := by
          rcases Nat.lt_or_ge j ((bufd st1).take m).length with h | h
          · exact h
          · rw [List.getElem?_eq_none (by simpa using h)] at hu; cases hu
        have hj2 : j < m := by have := HCL.out; rw [List.length_map] at this; omega
        simp only [Option.some.injEq] at hp
        subst hp
        rw [addr_add L.bb st1.r j, show wc.drew.cell? ⟨L.bb, st1.r + j, none⟩ = wc.cell? ⟨L.bb, st1.r + j, none⟩ from rfl, HR0.out.byte (by omega)]
        rw [List.getElem?_map, List.getElem?_eq_getElem hj] at hu
        simp only [Option.map_some, Option.some.injEq] at hu
        rw [← hu]
        simp [bufd, bv]
      intro w1 hw1 hu1 hz1
      rw [HCL.out]
      refine hK _ _ ?_
      clear hK K
      have HR1 := Lib.hid (HR0.out.drew.upd hu1 (fun k hk hin => by have hk : k = g := hk; exact HGI.out (hk ▸ hin)))
      have HW1 := Lib.hid hw1
      have HU1 := Lib.hid hu1
      obtain ⟨x, hx⟩ : ∃ x, st1.buf[st1.r + m - 1]? = some x := ⟨_, List.getElem?_eq_getElem (by omega)⟩
      have hu64 : wrap64 (x.toNat : Int) = (x.toNat : Int) := by have := u8_last x; unfold wrap64; omega
      have eb : w1.cell? ⟨L.bb, st1.r + m - 1, none⟩ = some (.int .u8 (x.toNat : Int)) := by
        rw [HR1.out.byte (by omega)]
        have : st1.buf[st1.r + m - 1]? = some st1.buf[st1.r + m - 1] := List.getElem?_eq_getElem (by omega)
        rw [hx] at this
        simp only [Option.some.injEq] at this
        rw [← this]
      have HX := Lib.hid hx
      have i1 : (st1.r : Int) + (m : Int) - 1 = ((st1.r + m - 1 : Nat) : Int) := by omega
      have hrl : st1.r + m - 1 < st1.buf.length := by omega
      have hb1 : L.bb ≠ L.b := HR1.out.ne
      have hb2 : L.b ≠ L.bb := fun hh => HR1.out.ne hh.symm
      clear hw1 hu1 hz1 hx d0 d2 d3 df
      obtain ⟨e0, e1, e2, e3, e4, e5, e6, ef⟩ := HR1.out.cells
      clear e1 e4
      (repeat' (first | (refine wpLx_calm rfl rfl rfl (fun K hK => ?_); go_step <;> (refine hK _ ?_; clear hK K)) | (refine wpLx_skip2 rfl rfl rfl ?_; go_simp) | (refine wpLx_calm2 rfl rfl rfl rfl rfl (fun K hK => ?_); go_step <;> (refine hK _ ?_; clear hK K))))
      refine wpLx_nil ?_
      go_wp2_with fail
      refine wp_region_lx {} (by kernel_rfl) (by kernel_rfl) ⟨fun _ _ _ h => h.2, fun _ _ h => h⟩ ?_
      (repeat' (first | (refine wpLx_calm rfl rfl rfl (fun K hK => ?_); go_step <;> (refine hK _ ?_; clear hK K)) | (refine wpLx_skip2 rfl rfl rfl ?_; go_simp) | (refine wpLx_calm2 rfl rfl rfl rfl rfl (fun K hK => ?_); go_step <;> (refine hK _ ?_; clear hK K))))
      refine wpLx_eff rfl rfl rfl (fun K hK => ?_)
      go_step
      refine hK _ _ ?_
      clear hK K
      refine wpLx_nil ?_
      go_wp2_with fail
      go_ret2
      have hrem : rem st1 = A.left := HE1.out
      have hle := rem_length st1
      have hblo := hbl.out
      have htk : A.left.take m = (bufd st1).take m := by rw [← hrem]; exact rem_take (by omega)
      have hU1 : Upd (fun j => In L j ∨ j = g) w w1 := (HU0.out.drew.mono (fun j hj _ => .inl hj)).trans (HU1.out.mono (fun j hj _ => .inr hj)) (fun _ h _ => h)
      refine readp_some (st' := { st1 with r := st1.r + m, last := (x.toNat : Int), rune := -1 }) rfl hm0 hm2 (by rw [← hrem]; omega) ?_ ?_ ?_ ?_ HE2.out HE3.out (HE4.out.trans HA.out.err) rfl rfl (.inl (by show 0 < st1.r + m; omega)) ?_
      · rw [← hrem, ← HX.out]
        unfold rem bufd
        rw [List.getElem?_append_left (by simp; omega), List.getElem?_drop, List.getElem?_take_of_lt (by omega)]
        congr 1
        omega
      · first | exact ((HR1.out.setR (st1.r + m) (by omega)).setLast (x.toNat : Int) (u8_last x).1 (u8_last x).2).setRune (-1) (by omega) (by omega) | exact (((HR1.out.setR (st1.r + m) (by omega)).setLast (x.toNat : Int) (u8_last x).1 (u8_last x).2).setRune (-1) (by omega) (by omega)).drew
      · first | exact ((hU1.setCell (p := ⟨L.b, 2, none⟩) (fun _ => .inl HI.out) _).setCell (p := ⟨L.b, 5, none⟩) (fun _ => .inl HI.out) _).setCell (p := ⟨L.b, 6, none⟩) (fun _ => .inl HI.out) _ | exact (((hU1.setCell (p := ⟨L.b, 2, none⟩) (fun _ => .inl HI.out) _).setCell (p := ⟨L.b, 5, none⟩) (fun _ => .inl HI.out) _).setCell (p := ⟨L.b, 6, none⟩) (fun _ => .inl HI.out) _).drew
      · show rem { st1 with r := st1.r + m } = _
        rw [rem_drop (by omega), hrem]
      · rw [htk]
        have hb := bytes_row (bs := (bufd st1).take m) (cur := cur) (n := n) HML.out (by simp; omega) HW1.out
        have hg : ∀ p : Addr, (some (⟨g, 0, none⟩ : Addr)) = some p → (bufd st1).take m ≠ [] → ¬ In L p.block := fun p hp _ => by simp only [Option.some.injEq] at hp; subst hp; exact HGI.out
        first | exact hb.upd ((((Upd.refl (In L) w1).setCell (p := ⟨L.b, 2, none⟩) (fun _ => HI.out) _).setCell (p := ⟨L.b, 5, none⟩) (fun _ => HI.out) _).setCell (p := ⟨L.b, 6, none⟩) (fun _ => HI.out) _) hg | exact hb.upd ((((Upd.refl (In L) w1).setCell (p := ⟨L.b, 2, none⟩) (fun _ => HI.out) _).setCell (p := ⟨L.b, 5, none⟩) (fun _ => HI.out) _).setCell (p := ⟨L.b, 6, none⟩) (fun _ => HI.out) _).drew hg
end Go.Proofs.YtmmjfpcmempeeaaDoor
