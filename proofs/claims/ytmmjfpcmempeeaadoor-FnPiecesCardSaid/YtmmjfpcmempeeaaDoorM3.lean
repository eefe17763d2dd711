/- Texts of one kind, one behind the other. -/
import Derived.Test.YtmmjfpcmempeeaaDoorM1
import Derived.Lib.BytesEntry
import Derived.Lib.Hide
import Derived.Test.YtmmjfpcmempeeaaDoorM2
/- Where a byte stands first, in plain lists; bytes.IndexByte. -/
namespace Go.Proofs.YtmmjfpcmempeeaaDoor
open Go.RowKit
def pos (d : UInt8) : List UInt8 → Option Nat
  | [] => none
  | x :: l => if x = d then some 0 else (pos d l).map (· + 1)
theorem pos_lt {d : UInt8} {l : List UInt8} {i : Nat} (h : pos d l = some i) : i < l.length := by
  induction l generalizing i with
  | nil => cases h
  | cons x l ih =>
    unfold pos at h
    split at h
    · simp only [Option.some.injEq] at h; subst h; simp
    · cases hp : pos d l with
      | none => rw [hp] at h; cases h
      | some j => rw [hp] at h; simp only [Option.map_some, Option.some.injEq] at h; subst h; have := ih hp; simp; omega
theorem pos_some_append {d : UInt8} {l m : List UInt8} {i : Nat} (h : pos d l = some i) : pos d (l ++ m) = some i := by
  induction l generalizing i with
  | nil => cases h
  | cons x l ih =>
    rw [List.cons_append]
    unfold pos at h ⊢
    split at h
    · rename_i hx; rw [if_pos hx]; exact h
    · rename_i hx; rw [if_neg hx]
      cases hp : pos d l with
      | none => rw [hp] at h; cases h
      | some j => rw [hp] at h; rw [ih hp]; exact h
theorem pos_none_append {d : UInt8} {l m : List UInt8} (h : pos d l = none) : pos d (l ++ m) = (pos d m).map (· + l.length) := by
  induction l with
  | nil => cases hm : pos d m <;> simp [hm]
  | cons x l ih =>
    rw [List.cons_append]
    unfold pos at h
    split at h
    · cases h
    · rename_i hx
      cases hp : pos d l with
      | some j => rw [hp] at h; cases h
      | none =>
        rw [show pos d (x :: (l ++ m)) = (pos d (l ++ m)).map (· + 1) from if_neg hx, ih hp]
        cases pos d m with
        | none => rfl
        | some k => simp; omega
/-- the byte stands there -/
theorem pos_get {d : UInt8} {l : List UInt8} {i : Nat} (h : pos d l = some i) : l[i]? = some d := by
  induction l generalizing i with
  | nil => cases h
  | cons x l ih =>
    unfold pos at h
    split at h
    · rename_i hx; simp only [Option.some.injEq] at h; subst h; simp [hx]
    · cases hp : pos d l with
      | none => rw [hp] at h; cases h
      | some j => rw [hp] at h; simp only [Option.map_some, Option.some.injEq] at h; subst h; simpa using ih hp
theorem pos_take_some {d : UInt8} {l : List UInt8} {i n : Nat} (h : pos d (l.take n) = some i) : pos d l = some i := by
  have := pos_some_append (m := l.drop n) h
  rwa [List.take_append_drop] at this
theorem pos_take_of {d : UInt8} {l : List UInt8} {i n : Nat} (h : pos d l = some i) (hn : i < n) : pos d (l.take n) = some i := by
  cases hp : pos d (l.take n) with
  | some j => have := pos_take_some hp; rw [h] at this; exact this.symm
  | none =>
    have h2 := pos_none_append (m := l.drop n) hp
    rw [List.take_append_drop, h] at h2
    cases hq : pos d (l.drop n) with
    | none => rw [hq] at h2; cases h2
    | some k =>
      rw [hq] at h2
      simp only [Option.map_some, Option.some.injEq] at h2
      have h3 := pos_lt h
      rw [List.length_take] at h2
      omega
/-- as a number: -1 where it does not stand -/
def posI : Option Nat → Int
  | some i => (i : Int)
  | none => -1
theorem indexByte_pos (l : List UInt8) (d : UInt8) : Lib.indexByte l d = posI (pos d l) := by
  induction l with
  | nil => rfl
  | cons x l ih =>
    unfold Lib.indexByte pos
    rw [ih]
    by_cases hx : x = d
    · rw [if_pos (by simp [hx]), if_pos hx]; rfl
    · rw [if_neg (by simp [hx]), if_neg hx]
      cases pos d l with
      | none => rfl
      | some i =>
        rw [if_neg (by simp only [posI, beq_iff_eq]; omega)]
        simp [posI]
theorem bytesOf_map (bs : List UInt8) : Lib.bytesOf (bs.map fun b => (b.toNat : Int)) = bs := by
  unfold Lib.bytesOf
  rw [List.map_map]
  conv => rhs; rw [← List.map_id bs]
  apply List.map_congr_left; intro b _; simp
set_option maxHeartbeats 1000000 in
set_option maxRecDepth 100000 in
theorem bIndexByte {w : World} {g o c : Nat} {bs : List UInt8} (h : BytesA w (some ⟨g, o, none⟩) c bs) (d : UInt8) :
    Calls Tryd.prog 75 #[.slice (some ⟨g, o, none⟩) bs.length c, .int .u8 (d.toNat : Int)] w (Ret fun v w' => w = w' ∧ v = .int .i64 (posI (pos d bs))) := by
  have hc : ∀ i, i < bs.length → w.cell? ⟨g, o + i, none⟩ = some (.int .u8 ((bs.map fun b => (b.toNat : Int)).getD i 0)) := fun i hi => by
    rw [(h.2.2.2 _ rfl).2 i hi]
    simp [bv, hi]
  have hr := Lib.run_indexByteSlice (P := Tryd.prog) (w := w) g o bs.length c (bs.map fun b => (b.toNat : Int)) (by simp) hc (d.toNat : Int)
  rw [bytesOf_map, indexByte_pos, show ((d.toNat : Int)).toNat.toUInt8 = d by simp] at hr
  have HR := Lib.hid hr
  clear hr hc h
  go_enter Tryd.func75, Tryd.ntmps75
  go_wp2
  rw [run_callFunc_extern Tryd.func81 (by kernel_rfl) (by kernel_rfl) (by kernel_rfl) (e := Extern.BytealgIndexByte.indexByte) (by kernel_rfl), HR.out]
  simp only [Result.andThen]
  rw [Oper.upon_value]
  go_wp2
  go_ret
  exact ⟨rfl, rfl⟩
end Go.Proofs.YtmmjfpcmempeeaaDoor
/- spec.Index. -/
namespace Go.Proofs.YtmmjfpcmempeeaaDoor
open Go.RowKit
theorem pos_step_eq {d : UInt8} {l : List UInt8} {k : Nat} (h : pos d (l.take k) = none) (hk : k < l.length) (he : l[k] = d) : pos d l = some k := by
  have := pos_none_append (m := l.drop k) h
  rw [List.take_append_drop, List.drop_eq_getElem_cons hk, show pos d (l[k] :: l.drop (k + 1)) = some 0 from if_pos he] at this
  rw [this, List.length_take, Nat.min_eq_left (by omega)]
  simp
theorem pos_step_ne {d : UInt8} {l : List UInt8} {k : Nat} (h : pos d (l.take k) = none) (hk : k < l.length) (he : l[k] ≠ d) : pos d (l.take (k + 1)) = none := by
  have := pos_none_append (m := [l[k]]) h
  rw [List.take_succ_eq_append_getElem hk, this, show pos d [l[k]] = (pos d []).map (· + 1) from if_neg he]
  rfl
set_option maxHeartbeats 1000000 in
theorem specIndex {w : World} {g o c : Nat} {bs : List UInt8} (h : BytesA w (some ⟨g, o, none⟩) c bs) (d : UInt8) :
    Calls Tryd.prog 80 #[.slice (some ⟨g, o, none⟩) bs.length c, .int .u8 (d.toNat : Int)] w (Ret fun v w' => w = w' ∧ v = .int .i64 (posI (pos d bs))) := by
  have l1 := h.1
  have l2 := h.2.1
  unfold maxLen at l2
  have HC := Lib.hid (h.2.2.2 _ rfl).2
  obtain ⟨m, hm⟩ : ∃ m, bs.length = m := ⟨_, rfl⟩
  have HM := Lib.hid hm
  rw [hm]
  rw [hm] at l1
  clear h hm
  go_enter Tryd.func80, Tryd.ntmps80
  go_wp2
  go_loop [9] (fun i => ∃ k : Nat, k ≤ m ∧ i = .int .i64 (k : Int) ∧ pos d (bs.take k) = none) (fun i => m - (intOf i).toNat)
  case atStart => exact ⟨0, Nat.zero_le _, rfl, rfl⟩
  case round =>
    obtain ⟨k, hk, rfl, hpos⟩ := hrel
    have HP := Lib.hid hpos
    clear hpos
    by_cases hlt : k < m
    · have hc := HC.out k (by rw [HM.out]; exact hlt)
      simp only [bv] at hc
      obtain ⟨x, hx⟩ : ∃ x, x = bs[k]'(by rw [HM.out]; exact hlt) := ⟨_, rfl⟩
      rw [← hx] at hc
      by_cases he : x = d
      · have q1 : ((x.toNat : Int) == (d.toNat : Int)) = true := by simp [he]
        have HR : Hid (pos d bs = some k) := pos_step_eq HP.out (by rw [HM.out]; exact hlt) (by rw [← hx]; exact he)
        clear he hx
        go_wp2
        go_ret
        exact ⟨rfl, by rw [HR.out]; rfl⟩
      · have q1 : ((x.toNat : Int) == (d.toNat : Int)) = false := by
          simp only [beq_eq_false_iff_ne, ne_eq]
          intro hh
          exact he (UInt8.toNat_inj.1 (by omega))
        have HR : Hid (pos d (bs.take (k + 1)) = none) := pos_step_ne HP.out (by rw [HM.out]; exact hlt) (by rw [← hx]; exact he)
        clear he hx
        go_wp2
        go_round
        case rel => exact ⟨k + 1, by omega, by go_num, HR.out⟩
        case measure => simp [intOf]; omega
    · obtain rfl : k = m := by omega
      have HR : Hid (pos d bs = none) := by have := HP.out; rw [List.take_of_length_le (by rw [HM.out]; exact Nat.le_refl _)] at this; exact this
      go_wp2
      go_ret
      exact ⟨rfl, by rw [HR.out]; rfl⟩
end Go.Proofs.YtmmjfpcmempeeaaDoor
/- (*bufio.Reader).Peek. -/
namespace Go.Proofs.YtmmjfpcmempeeaaDoor
open Go.RowKit
def peekA (A : AR) (n : Int) : (List UInt8 × Option Err) × AR :=
  if n < 0 then (([], some .neg), A)
  else if (A.size : Int) < n then ((A.left.take A.size, some .full), { A with last := -1, rune := -1, err := A.err || decide (A.left.length < A.size) })
  else if (A.left.length : Int) < n then ((A.left, some (endErr A.f)), { A with last := -1, rune := -1, err := false })
  else ((A.left.take n.toNat, none), { A with last := -1, rune := -1 })
def peekC (m size : Nat) (l : List UInt8) : Prop := l.length < m ∧ l.length < size
theorem abs_peek {C : List UInt8 → Prop} {st st1 : RS} {A : AR} {e : Bool} (hA : Abs st A) (hF : Fld C { st with last := -1, rune := -1 } st1) (he : st1.err = if e then some (endErr A.f) else none) : Abs st1 { A with last := -1, rune := -1, err := e } where
  left := hF.rem.trans hA.left
  size := hF.n.trans hA.size
  f := hF.f.trans hA.f
  err := he
  last := hF.last
  rune := hF.rune
  pos := fun h => by have := hF.last; simp at this; omega
  nz := fun h => by have := hF.rune; simp at this; omega
  back := fun h => by have := hF.rune; simp at this; omega
theorem peek_full {S : Err → Addr} {w wr : World} {L : Loc} {st st1 : RS} {A : AR} {m : Nat} (hA : Abs st A) (hm : A.size < m) (hF : Fld (peekC m A.size) { st with last := -1, rune := -1 } st1) (H : Rd S wr L st1) (U : Upd (In L) w wr)
    (he : A.size ≤ st1.w - st1.r ∨ st1.err ≠ none) {a : Option Addr} {c : Nat} (hs : SubAt L st1 a c) :
    SlicePost S w L (peekA A m) (.tuple #[.slice a (st1.w - st1.r) c, eV S (some .full)]) wr := by
  have e : peekA A m = ((A.left.take A.size, some .full), { A with last := -1, rune := -1, err := A.err || decide (A.left.length < A.size) }) := (if_neg (by omega)).trans (if_pos (by omega))
  have hbl := bufd_length (st := st1) H.wn
  have hrem : rem st1 = A.left := hF.rem.trans hA.left
  have hn : st1.buf.length = A.size := hF.n.trans hA.size
  have hle := rem_length st1
  have hwn := H.wn
  have hrw := H.rw
  have hbd : A.left.take A.size = bufd st1 ∧ (st1.err = if (A.err || decide (A.left.length < A.size)) then some (endErr A.f) else none) := by
    rcases Nat.lt_or_ge (st1.w - st1.r) A.size with hlt | hge
    · have he' : st1.err ≠ none := by rcases he with h | h; omega; exact h
      obtain ⟨q1, q2⟩ := H.ended he'
      have hr : A.left = bufd st1 := by rw [← hrem]; exact rem_end q1
      refine ⟨by rw [hr, List.take_of_length_le (by omega)], ?_⟩
      rw [q2, hF.f]
      have : A.left.length < A.size := by rw [hr]; omega
      rw [decide_eq_true this, Bool.or_true, if_pos rfl]
      show some (endErr st.f) = _
      rw [hA.f]
    · have hal : A.size ≤ A.left.length := by rw [← hrem]; omega
      refine ⟨?_, ?_⟩
      · rw [← hrem, rem_take (by omega), List.take_of_length_le (by omega)]
      · rw [decide_eq_false (by omega), Bool.or_false, hF.same (fun hc => ?_)]
        · exact hA.err
        · have h2 : (rem { st with last := -1, rune := -1 }).length < A.size := hc.2
          rw [← hF.rem, hrem] at h2
          omega
  rw [e, hbd.1]
  have hb := H.sub (k := st1.w - st1.r) (by omega) hs
  rw [List.take_of_length_le (by omega)] at hb
  refine ⟨st1, _, _, by rw [hbl], hb, hs.bb, H, U, abs_peek hA hF hbd.2⟩
set_option maxRecDepth 100000 in
set_option maxHeartbeats 2000000 in
theorem peek {S : Err → Addr} {B : Nat} {w : World} {L : Loc} {st : RS} {A : AR} (E : Env S B w) (hB : B ≤ L.lo) (h : Rd S w L st) (hA : Abs st A) (n : Int) (hn1 : -9223372036854775808 ≤ n) (hn2 : n ≤ 9223372036854775807) :
    Calls Tryd.prog 62 #[.pointer (some ⟨L.b, 0, none⟩), .int .i64 n] w (Ret (SlicePost S w L (peekA A n))) := by
  have HE := Lib.hid E
  have HB := Lib.hid hB
  have H := Lib.hid h
  have HA := Lib.hid hA
  have gneg := (E.g .neg (by decide)).2
  have gfull := (E.g .full (by decide)).2
  simp only [Err.g, eV] at gneg gfull
  obtain ⟨c0, c1, c2, c3, c4, c5, c6, hf⟩ := h.cells
  by_cases h0 : n < 0
  · clear E hB h c0 c1 c2 c3 c4 c5 c6 gfull hA
    go_enter Tryd.func62, Tryd.ntmps62
    (go_wp2_with fail; (repeat' (refine wp_region_lx {} (by kernel_rfl) (by kernel_rfl) ⟨fun _ _ _ h => h.2, fun _ _ h => h⟩ ?_; (repeat' (first | (refine wpLx_calm rfl rfl rfl (fun K hK => ?_); go_step <;> (refine hK _ ?_; clear hK K)) | (refine wpLx_skip2 rfl rfl rfl ?_; go_simp) | (refine wpLx_calm2 rfl rfl rfl rfl rfl (fun K hK => ?_); go_step <;> (refine hK _ ?_; clear hK K)))); all_goals (refine wpLx_nil ?_; try go_wp2_with fail))))
    go_ret2
    have e : peekA A n = (([], some .neg), A) := if_pos h0
    rw [e]
    exact ⟨st, none, 0, rfl, ⟨Nat.le_refl _, Nat.zero_le _, fun _ => rfl, fun p hp => (by cases hp)⟩, fun p hp => (by cases hp), H.out.drew, (Upd.refl _ _).drew, HA.out⟩
  · obtain ⟨m, rfl⟩ := Int.eq_ofNat_of_zero_le (show 0 ≤ n by omega)
    have h1 : Rd S ((w.setCell ⟨L.b, 5, none⟩ (.int .i64 (-1))).setCell ⟨L.b, 6, none⟩ (.int .i64 (-1))) L { st with last := -1, rune := -1 } := (h.setLast (-1) (by omega) (by omega)).setRune (-1) (by omega) (by omega)
    have HI := Lib.hid (In.b h)
    have H1 := Lib.hid h1
    have HN := Lib.hid h0
    have hm9 : m ≤ 9223372036854775807 := by omega
    clear E hB h h0 h1 c0 c1 c2 c3 c4 gneg hA
    go_enter Tryd.func62, Tryd.ntmps62
    go_wp2
    go_loopg [] (toFill st) (fun k wx => ∃ st1, Rd S wx L st1 ∧ Upd (In L) w wx ∧ Fld (peekC m A.size) { st with last := -1, rune := -1 } st1 ∧ toFill st1 ≤ k)
    case atStart => exact ⟨_, H1.out, ((Upd.refl _ _).setCell (fun _ => HI.out) _).setCell (fun _ => HI.out) _, Fld.refl _ _, Nat.le_refl _⟩
    case round =>
      obtain ⟨st1, h1, u1, wt, hk⟩ := hrel
      have hrw := h1.rw
      have hwn := h1.wn
      have hnhi := h1.nhi
      have hnlo := h1.nlo
      obtain ⟨d0, d1, d2, d3, d4, d5, d6, hf1⟩ := h1.cells
      have gfull1 := ((HE.out.updL HB.out u1).g .full (by decide)).2
      simp only [Err.g, eV] at gfull1
      have H2 := Lib.hid h1
      have HU := Lib.hid u1
      have HW := Lib.hid wt
      have HK := Lib.hid hk
      have hsz : Hid (A.size = st1.buf.length) := (wt.n.trans HA.out.size).symm
      have hbl := Lib.hid (bufd_length (st := st1) h1.wn)
      clear h1 u1 wt hk c5 c6 hf d1 d5 d6 gfull
      by_cases ha : m ≤ st1.w - st1.r
      · have hd1 : decide ((st1.w : Int) - (st1.r : Int) < (m : Int)) = false := decide_eq_false (by omega)
        have hd3 : decide ((st1.buf.length : Int) < (m : Int)) = false := decide_eq_false (by omega)
        have hFIN : Hid (∀ wx a c k, New wr wx → SubAt L st1 a c → k = m → SlicePost S w L (peekA A m) (.tuple #[.slice a k c, eV S none]) wx) := by
          intro wx a c k hx hsa hk
          rw [hk]
          have hs := hsz.out
          have hle := rem_length st1
          have hb := hbl.out
          have hrem : rem st1 = A.left := HW.out.rem.trans HA.out.left
          have e : peekA A m = ((A.left.take m, none), { A with last := -1, rune := -1 }) := (if_neg (by omega)).trans ((if_neg (by omega)).trans (if_neg (by rw [← hrem]; omega)))
          have hsub := (H2.out.new hx).sub (k := m) (by omega) hsa
          rw [← rem_take (by omega), hrem] at hsub
          rw [e]
          refine ⟨st1, _, _, ?_, hsub, hsa.bb, H2.out.new hx, HU.out.andNew hx, abs_peek (e := A.err) HA.out HW.out ?_⟩
          · have : (A.left.take m).length = m := by rw [List.length_take, ← hrem]; omega
            rw [this]
          · rw [HW.out.same (fun hc => ?_)]
            · exact HA.out.err
            · have hc : (rem { st with last := -1, rune := -1 }).length < m := hc.1
              rw [← HW.out.rem] at hc
              omega
        clear d4
        (go_wp2_with fail; (repeat' (refine wp_region_lx {} (by kernel_rfl) (by kernel_rfl) ⟨fun _ _ _ h => h.2, fun _ _ h => h⟩ ?_; (repeat' (first | (refine wpLx_calm rfl rfl rfl (fun K hK => ?_); go_step <;> (refine hK _ ?_; clear hK K)) | (refine wpLx_skip2 rfl rfl rfl ?_; go_simp) | (refine wpLx_calm2 rfl rfl rfl rfl rfl (fun K hK => ?_); go_step <;> (refine hK _ ?_; clear hK K)))); all_goals (refine wpLx_nil ?_; try go_wp2_with fail))))
        all_goals
          go_ret2
          first | exact hFIN.out _ _ _ _ (Upd.refl _ _).drew.drew.drew (.inl ⟨by assumption, rfl, rfl⟩) (by omega) | exact hFIN.out _ _ _ _ (Upd.refl _ _).drew.drew.drew (.inr ⟨by assumption, rfl, rfl⟩) (by omega)
      · by_cases hb : st1.buf.length ≤ st1.w - st1.r
        · have hd1 : decide ((st1.w : Int) - (st1.r : Int) < (m : Int)) = true := decide_eq_true (by omega)
          have hd2 : decide ((st1.w : Int) - (st1.r : Int) < (st1.buf.length : Int)) = false := decide_eq_false (by omega)
          have hd3 : decide ((st1.buf.length : Int) < (m : Int)) = true := decide_eq_true (by omega)
          clear d4
          have hcr : ¬ st1.buf.length = st1.r := by omega
          (go_wp2_with fail; (repeat' (refine wp_region_lx {} (by kernel_rfl) (by kernel_rfl) ⟨fun _ _ _ h => h.2, fun _ _ h => h⟩ ?_; (repeat' (first | (refine wpLx_calm rfl rfl rfl (fun K hK => ?_); go_step <;> (refine hK _ ?_; clear hK K)) | (refine wpLx_skip2 rfl rfl rfl ?_; go_simp) | (refine wpLx_calm2 rfl rfl rfl rfl rfl (fun K hK => ?_); go_step <;> (refine hK _ ?_; clear hK K)))); all_goals (refine wpLx_nil ?_; try go_wp2_with fail))))
          go_ret2
          first | exact peek_full HA.out (by have := hsz.out; omega) HW.out (H2.out.drew.drew) (HU.out.drew.drew) (.inl (by have := hsz.out; omega)) (.inl ⟨by assumption, rfl, rfl⟩) | exact peek_full HA.out (by have := hsz.out; omega) HW.out (H2.out.drew.drew) (HU.out.drew.drew) (.inl (by have := hsz.out; omega)) (.inr ⟨by assumption, rfl, rfl⟩)
        · cases he : st1.err with
          | none =>
            have HER := Lib.hid he
            rw [he] at d4
            simp only [eV] at d4
            clear he
            have hlt1 : st1.w - st1.r < m := by omega
            have hlt2 : st1.w - st1.r < st1.buf.length := by omega
            have HLT := Lib.hid hlt2
            have HLT1 := Lib.hid hlt1
            have hd1 : decide ((st1.w : Int) - (st1.r : Int) < (m : Int)) = true := decide_eq_true (by omega)
            have hd2 : decide ((st1.w : Int) - (st1.r : Int) < (st1.buf.length : Int)) = true := decide_eq_true (by omega)
            clear ha hb hlt1 hlt2
            (go_wp2_with fail; (repeat' (refine wp_region_lx {} (by kernel_rfl) (by kernel_rfl) ⟨fun _ _ _ h => h.2, fun _ _ h => h⟩ ?_; (repeat' (first | (refine wpLx_calm rfl rfl rfl (fun K hK => ?_); go_step <;> (refine hK _ ?_; clear hK K)) | (refine wpLx_skip2 rfl rfl rfl ?_; go_simp) | (refine wpLx_calm2 rfl rfl rfl rfl rfl (fun K hK => ?_); go_step <;> (refine hK _ ?_; clear hK K)))); all_goals (refine wpLx_nil ?_; try go_wp2_with fail))))
            go_wp2_with (go_at_call 54; refine callRet (fill ((HE.out.upd HU.out (fun k hk => by have := hk.1; have := HB.out; omega)).new (Upd.refl _ _).drew) HB.out H2.out.drew HLT.out) ?_; intro v w1 hv; have HV := Lib.hid hv; clear hv)
            obtain ⟨st2, ⟨_, chunk, hfill⟩, h2, u2⟩ := HV.out
            go_roundg (toFill st2)
            case rel => exact ⟨st2, h2, (HU.out.drew).trans u2 (fun _ h _ => h), HW.out.fill hfill HER.out (fun _ => ⟨by rw [hbl.out]; exact HLT1.out, by rw [hbl.out, hsz.out]; exact HLT.out⟩), Nat.le_refl _⟩
            case measure => have := HK.out; have := hfill.less HER.out; omega
          | some e =>
            have HER := Lib.hid he
            rw [he] at d4
            obtain ⟨et, ev, hev⟩ : ∃ et ev, eV S (some e) = .iface et ev := by cases e <;> exact ⟨_, _, rfl⟩
            rw [hev] at d4
            have HEV := Lib.hid hev
            clear he hev
            have hd1 : decide ((st1.w : Int) - (st1.r : Int) < (m : Int)) = true := decide_eq_true (by omega)
            have hd2 : decide ((st1.w : Int) - (st1.r : Int) < (st1.buf.length : Int)) = true := decide_eq_true (by omega)
            by_cases hc : st1.buf.length < m
            · have hd3 : decide ((st1.buf.length : Int) < (m : Int)) = true := decide_eq_true (by omega)
              (go_wp2_with fail; (repeat' (refine wp_region_lx {} (by kernel_rfl) (by kernel_rfl) ⟨fun _ _ _ h => h.2, fun _ _ h => h⟩ ?_; (repeat' (first | (refine wpLx_calm rfl rfl rfl (fun K hK => ?_); go_step <;> (refine hK _ ?_; clear hK K)) | (refine wpLx_skip2 rfl rfl rfl ?_; go_simp) | (refine wpLx_calm2 rfl rfl rfl rfl rfl (fun K hK => ?_); go_step <;> (refine hK _ ?_; clear hK K)))); all_goals (refine wpLx_nil ?_; try go_wp2_with fail))))
              all_goals
                go_ret2
                first | exact peek_full HA.out (by have := hsz.out; omega) HW.out (H2.out.drew.drew) (HU.out.drew.drew) (.inr (by rw [HER.out]; simp)) (.inl ⟨by assumption, rfl, rfl⟩) | exact peek_full HA.out (by have := hsz.out; omega) HW.out (H2.out.drew.drew) (HU.out.drew.drew) (.inr (by rw [HER.out]; simp)) (.inr ⟨by assumption, rfl, rfl⟩)
            · have hd3 : decide ((st1.buf.length : Int) < (m : Int)) = false := decide_eq_false (by omega)
              have hFIN : Hid (∀ wx a c k, New (wr.setCell ⟨L.b, 4, none⟩ .nilIface) wx → SubAt L st1 a c → k = st1.w - st1.r → SlicePost S w L (peekA A m) (.tuple #[.slice a k c, eV S (some e)]) wx) := by
                intro wx a c k hx hsa hk
                rw [hk]
                have hs := hsz.out
                have hb := hbl.out
                obtain ⟨q1, q2⟩ := H2.out.ended (by rw [HER.out]; simp)
                have hrem : rem st1 = A.left := HW.out.rem.trans HA.out.left
                have hr : A.left = bufd st1 := by rw [← hrem]; exact rem_end q1
                have ee : peekA A m = ((A.left, some (endErr A.f)), { A with last := -1, rune := -1, err := false }) := (if_neg (by omega)).trans ((if_neg (by omega)).trans (if_pos (by rw [hr]; omega)))
                have hE : e = endErr A.f := by
                  have := HER.out.symm.trans q2
                  simp only [Option.some.injEq] at this
                  rw [this, HW.out.f]
                  show endErr st.f = _
                  rw [HA.out.f]
                have hR := H2.out.setErr none (.inl rfl)
                have hsub := (H2.out).sub (k := st1.w - st1.r) (by omega) hsa
                rw [List.take_of_length_le (by omega)] at hsub
                have hAbs := abs_peek (e := A.err) HA.out HW.out
                rw [ee, hr, ← hE]
                refine ⟨{ st1 with err := none }, _, _, by rw [hb], (hsub.upd ((Upd.refl (fun k => k = L.b) wr).setCell (fun _ => rfl) _) (fun p hp _ hh => H2.out.ne ((hsa.bb p hp).symm.trans hh))).new hx, hsa.bb, hR.new hx, (HU.out.setCell (fun _ => HI.out) _).andNew hx, ?_⟩
                exact { left := hrem.trans hr, size := HW.out.n.trans HA.out.size, f := HW.out.f.trans HA.out.f, err := rfl, last := HW.out.last, rune := HW.out.rune,
                        pos := fun h => (by have := HW.out.last; simp at this h; omega), nz := fun h => (by have := HW.out.rune; simp at this h; omega), back := fun h => (by have := HW.out.rune; simp at this h; omega) }
              rw [HEV.out] at hFIN
              (go_wp2; (repeat' (refine wp_region_lx {} (by kernel_rfl) (by kernel_rfl) ⟨fun _ _ _ h => h.2, fun _ _ h => h⟩ ?_; (repeat' (first | (refine wpLx_calm rfl rfl rfl (fun K hK => ?_); go_step <;> (refine hK _ ?_; clear hK K)) | (refine wpLx_skip2 rfl rfl rfl ?_; go_simp) | (refine wpLx_calm2 rfl rfl rfl rfl rfl (fun K hK => ?_); go_step <;> (refine hK _ ?_; clear hK K)))); all_goals (refine wpLx_nil ?_; try go_wp2))))
              all_goals
                go_ret2
                first | exact hFIN.out _ _ _ _ (Upd.refl _ _).drew.drew.drew (.inl ⟨by assumption, rfl, rfl⟩) (by omega) | exact hFIN.out _ _ _ _ (Upd.refl _ _).drew.drew.drew (.inr ⟨by assumption, rfl, rfl⟩) (by omega)
end Go.Proofs.YtmmjfpcmempeeaaDoor
/- (*bufio.Reader).Buffered, Size, Discard. -/
namespace Go.Proofs.YtmmjfpcmempeeaaDoor
open Go.RowKit
theorem buffered {S : Err → Addr} {w : World} {L : Loc} {st : RS} (h : Rd S w L st) :
    Calls Tryd.prog 68 #[.pointer (some ⟨L.b, 0, none⟩)] w (Ret fun v w' => v = .int .i64 ((st.w : Int) - (st.r : Int)) ∧ w' = w.drew) := by
  have hrw := h.rw
  have hwn := h.wn
  have hnhi := h.nhi
  obtain ⟨c0, c1, c2, c3, c4, c5, c6, hf⟩ := h.cells
  clear h
  go_enter Tryd.func68, Tryd.ntmps68
  (go_wp2_with fail; (repeat' (refine wp_region_lx {} (by kernel_rfl) (by kernel_rfl) ⟨fun _ _ _ h => h.2, fun _ _ h => h⟩ ?_; (repeat' (first | (refine wpLx_calm rfl rfl rfl (fun K hK => ?_); go_step <;> (refine hK _ ?_; clear hK K)) | (refine wpLx_skip2 rfl rfl rfl ?_; go_simp) | (refine wpLx_calm2 rfl rfl rfl rfl rfl (fun K hK => ?_); go_step <;> (refine hK _ ?_; clear hK K)))); all_goals (refine wpLx_nil ?_; try go_wp2_with fail))))
  go_ret
  exact ⟨rfl, rfl⟩
def discardA (A : AR) (n : Int) : (Int × Option Err) × AR :=
  if n < 0 then ((0, some .neg), A)
  else if n = 0 then ((0, none), A)
  else if (A.left.length : Int) < n then (((A.left.length : Int), some (endErr A.f)), { A with left := [], last := -1, rune := -1, err := false })
  else ((n, none), { A with left := A.left.drop n.toNat, last := -1, rune := -1 })
/-- what a function tells that hands out a number -/
def NumPost (S : Err → Addr) (w : World) (L : Loc) (x : (Int × Option Err) × AR) (v : Value) (w' : World) : Prop :=
  ∃ st', v = .tuple #[.int .i64 x.1.1, eV S x.1.2] ∧ Rd S w' L st' ∧ Upd (In L) w w' ∧ Abs st' x.2
def AR.errV (A : AR) : Option Err := if A.err then some (endErr A.f) else none
/-- k bytes have been gone over -/
structure Mid (A : AR) (k : Nat) (st : RS) : Prop where
  rem : rem st = A.left.drop k
  n : st.buf.length = A.size
  f : st.f = A.f
  last : st.last = -1
  rune : st.rune = -1
  k : k ≤ A.left.length
  err : st.err = A.errV ∨ (st.err = some (endErr A.f) ∧ st.w ≤ st.r)
theorem disc_done {S : Err → Addr} {w wr wx : World} {L : Loc} {st : RS} {A : AR} {m k s : Nat} {y : Int} (h : Mid A k st) (hR : Rd S wr L st) (hU : Upd (In L) w wr) (hx : New (wr.setCell ⟨L.b, 2, none⟩ (.int .i64 y)) wx) (hs : s ≤ st.w - st.r) (hm : k + s = m) (h0 : 0 < s) (hy : y = ((st.r + s : Nat) : Int)) :
    NumPost S w L (discardA A m) (.tuple #[.int .i64 (m : Int), .nilIface]) wx := by
  subst hy
  have hwn := hR.wn
  have hrw := hR.rw
  have hbl := bufd_length (st := st) hwn
  have hle := rem_length st
  have hk := h.k
  have hml : m ≤ A.left.length := by
    have := congrArg List.length h.rem
    rw [List.length_drop] at this
    omega
  have e : discardA A m = (((m : Int), none), { A with left := A.left.drop m, last := -1, rune := -1 }) := (if_neg (by omega)).trans ((if_neg (by omega)).trans (if_neg (by omega)))
  rw [e]
  have hR' := (hR.setR (st.r + s) (by omega)).new hx
  refine ⟨_, rfl, hR', (hU.setCell (fun _ => In.b hR) _).andNew hx, ?_⟩
  exact {
    left := by rw [rem_drop (by omega), h.rem, List.drop_drop]; rw [hm]
    size := h.n
    f := h.f
    err := by
      rcases h.err with h1 | ⟨_, h1⟩
      · exact h1
      · omega
    last := h.last
    rune := h.rune
    pos := fun hh => (by have := h.last; simp at hh; omega)
    nz := fun hh => (by have := h.rune; simp at hh; omega)
    back := fun hh => (by have := h.rune; simp at hh; omega) }
theorem disc_end {S : Err → Addr} {w wr wx : World} {L : Loc} {st : RS} {A : AR} {m k s : Nat} {x y : Int} (h : Mid A k st) (hR : Rd S wr L st) (hU : Upd (In L) w wr) (hx : New ((wr.setCell ⟨L.b, 2, none⟩ (.int .i64 y)).setCell ⟨L.b, 4, none⟩ .nilIface) wx) (he : st.err ≠ none) (hs : s = st.w - st.r) (hm : k + s < m) (hxx : x = ((k + s : Nat) : Int)) (hy : y = ((st.r + s : Nat) : Int)) :
    NumPost S w L (discardA A m) (.tuple #[.int .i64 x, eV S st.err]) wx := by
  subst hy
  have hwn := hR.wn
  have hrw := hR.rw
  have hbl := bufd_length (st := st) hwn
  obtain ⟨q1, q2⟩ := hR.ended he
  have hr : A.left.drop k = bufd st := by rw [← h.rem]; exact rem_end q1
  have hk := h.k
  have hl : A.left.length = k + s := by
    have := congrArg List.length hr
    rw [List.length_drop] at this
    omega
  have e : discardA A m = (((A.left.length : Int), some (endErr A.f)), { A with left := [], last := -1, rune := -1, err := false }) := (if_neg (by omega)).trans ((if_neg (by omega)).trans (if_pos (by omega)))
  rw [e, hxx, q2, h.f, hl]
  have hR' := ((hR.setR (st.r + s) (by omega)).setErr none (.inl rfl)).new hx
  refine ⟨_, rfl, hR', ((hU.setCell (fun _ => In.b hR) _).setCell (fun _ => In.b hR) _).andNew hx, ?_⟩
  exact {
    left := by
      have : Go.Proofs.YtmmjfpcmempeeaaDoor.rem { st with r := st.r + s, err := none } = Go.Proofs.YtmmjfpcmempeeaaDoor.rem { st with r := st.r + s } := rfl
      rw [this, rem_drop (by omega), h.rem, hr, List.drop_of_length_le (by omega)]
    size := h.n
    f := h.f
    err := rfl
    last := h.last
    rune := h.rune
    pos := fun hh => (by have := h.last; simp at hh; omega)
    nz := fun hh => (by have := h.rune; simp at hh; omega)
    back := fun hh => (by have := h.rune; simp at hh; omega) }
theorem Mid.adv {A : AR} {k s : Nat} {S : Err → Addr} {w : World} {L : Loc} {st : RS} (h : Mid A k st) (hR : Rd S w L st) (hs : s ≤ st.w - st.r) (he : st.err = A.errV) : Mid A (k + s) { st with r := st.r + s } := by
  have hwn := hR.wn
  have hbl := bufd_length (st := st) hwn
  have hle := rem_length st
  refine ⟨by rw [rem_drop (by omega), h.rem, List.drop_drop], h.n, h.f, h.last, h.rune, ?_, .inl he⟩
  have := congrArg List.length h.rem
  rw [List.length_drop] at this
  have := h.k
  omega
theorem Mid.fill {A : AR} {k : Nat} {S : Err → Addr} {w : World} {L : Loc} {st st2 : RS} {chunk : List UInt8} (h : Mid A k st) (he : st.err = A.errV) (hR : Rd S w L st2) (hf : Fill st st2 chunk) (hb : st.w ≤ st.r) : Mid A k st2 := by
  have hw := hf.went
  refine ⟨hw.rem.trans h.rem, hw.n.trans h.n, hw.f.trans h.f, hw.last.trans h.last, hw.rune.trans h.rune, h.k, ?_⟩
  rcases hf.how with ⟨_, h2⟩ | ⟨h1, h2, _⟩
  · exact .inl (h2.trans he)
  · refine .inr ⟨by rw [h2, h.f], ?_⟩
    have h3 := hf.bd
    rw [h1, bufd_nil hb] at h3
    have h4 := bufd_length (st := st2) hR.wn
    rw [h3] at h4
    simp at h4
    omega
set_option maxRecDepth 100000 in
set_option maxHeartbeats 2000000 in
theorem discard {S : Err → Addr} {B : Nat} {w : World} {L : Loc} {st : RS} {A : AR} (E : Env S B w) (hB : B ≤ L.lo) (h : Rd S w L st) (hA : Abs st A) (n : Int) (hn1 : -9223372036854775808 ≤ n) (hn2 : n ≤ 9223372036854775807) :
    Calls Tryd.prog 63 #[.pointer (some ⟨L.b, 0, none⟩), .int .i64 n] w (Ret (NumPost S w L (discardA A n))) := by
  have HE := Lib.hid E
  have HB := Lib.hid hB
  have H := Lib.hid h
  have HA := Lib.hid hA
  have gneg := (E.g .neg (by decide)).2
  simp only [Err.g, eV] at gneg
  obtain ⟨c0, c1, c2, c3, c4, c5, c6, hf⟩ := h.cells
  by_cases h0 : n < 0
  · clear E hB h c0 c1 c2 c3 c4 c5 c6 hA
    go_enter Tryd.func63, Tryd.ntmps63
    (go_wp2_with fail; (repeat' (refine wp_region_lx {} (by kernel_rfl) (by kernel_rfl) ⟨fun _ _ _ h => h.2, fun _ _ h => h⟩ ?_; (repeat' (first | (refine wpLx_calm rfl rfl rfl (fun K hK => ?_); go_step <;> (refine hK _ ?_; clear hK K)) | (refine wpLx_skip2 rfl rfl rfl ?_; go_simp) | (refine wpLx_calm2 rfl rfl rfl rfl rfl (fun K hK => ?_); go_step <;> (refine hK _ ?_; clear hK K)))); all_goals (refine wpLx_nil ?_; try go_wp2_with fail))))
    go_ret2
    have e : discardA A n = ((0, some .neg), A) := if_pos h0
    rw [e]
    exact ⟨st, rfl, H.out.drew, (Upd.refl _ _).drew, HA.out⟩
  · by_cases hz : n = 0
    · have e : discardA A n = ((0, none), A) := (if_neg h0).trans (if_pos hz)
      have q1 : (n == 0) = true := by simp [hz]
      rw [e]
      clear E hB h c0 c1 c2 c3 c4 c5 c6 hA hz e gneg
      go_enter Tryd.func63, Tryd.ntmps63
      (go_wp2_with fail; (repeat' (refine wp_region_lx {} (by kernel_rfl) (by kernel_rfl) ⟨fun _ _ _ h => h.2, fun _ _ h => h⟩ ?_; (repeat' (first | (refine wpLx_calm rfl rfl rfl (fun K hK => ?_); go_step <;> (refine hK _ ?_; clear hK K)) | (refine wpLx_skip2 rfl rfl rfl ?_; go_simp) | (refine wpLx_calm2 rfl rfl rfl rfl rfl (fun K hK => ?_); go_step <;> (refine hK _ ?_; clear hK K)))); all_goals (refine wpLx_nil ?_; try go_wp2_with fail))))
      go_ret2
      exact ⟨st, rfl, H.out, Upd.refl _ _, HA.out⟩
    · obtain ⟨m, rfl⟩ := Int.eq_ofNat_of_zero_le (show 0 ≤ n by omega)
      have q1 : ((m : Int) == 0) = false := by simp; omega
      have h1 : Rd S ((w.setCell ⟨L.b, 5, none⟩ (.int .i64 (-1))).setCell ⟨L.b, 6, none⟩ (.int .i64 (-1))) L { st with last := -1, rune := -1 } := (h.setLast (-1) (by omega) (by omega)).setRune (-1) (by omega) (by omega)
      have HI := Lib.hid (In.b h)
      have H1 := Lib.hid h1
      have HM0 : Hid (Mid A 0 { st with last := -1, rune := -1 }) := ⟨hA.left, hA.size, hA.f, rfl, rfl, Nat.zero_le _, .inl hA.err⟩
      have hm9 : m ≤ 9223372036854775807 := by omega
      have hm0 : 0 < m := by omega
      clear E hB h h0 h1 c0 c1 c2 c3 c4 hA hz gneg
      go_enter Tryd.func63, Tryd.ntmps63
      go_wp2
      go_loopg [6] m (fun gk t6 wx => ∃ (st1 : RS) (k j : Nat), t6 = .int .i64 (j : Int) ∧ Rd S wx L st1 ∧ Upd (In L) w wx ∧ Mid A k st1 ∧ st1.err = A.errV ∧ k + j = m ∧ 0 < j ∧ j ≤ gk)
      case atStart => exact ⟨_, 0, m, rfl, H1.out, ((Upd.refl _ _).setCell (fun _ => HI.out) _).setCell (fun _ => HI.out) _, HM0.out, HA.out.err, Nat.zero_add _, hm0, Nat.le_refl _⟩
      case round =>
        obtain ⟨st1, k, j, rfl, h1, u1, hmid, herr, hkm, hj0, hgk⟩ := hrel
        have hrw := h1.rw
        have hwn := h1.wn
        have hnhi := h1.nhi
        have hnlo := h1.nlo
        have hjm : j ≤ 9223372036854775807 := by omega
        obtain ⟨d0, d1, d2, d3, d4, d5, d6, hf1⟩ := h1.cells
        have H2 := Lib.hid h1
        have HU := Lib.hid u1
        have HMID := Lib.hid hmid
        have HERR := Lib.hid herr
        have HKM := Lib.hid hkm
        have HB2 := Lib.hid (buffered h1)
        clear h1 u1 hmid herr hkm c5 c6 hf d0 d1 d5 d6
        by_cases hb : st1.r < st1.w
        · have p0 : (((st1.w : Int) - (st1.r : Int)) == 0) = false := by simp; omega
          by_cases hsm : j ≤ st1.w - st1.r
          · have hFIN : Hid (∀ (y z : Int) wx, New (wr.setCell ⟨L.b, 2, none⟩ (.int .i64 y)) wx → y = ((st1.r + j : Nat) : Int) → z = (m : Int) → NumPost S w L (discardA A m) (.tuple #[.int .i64 z, .nilIface]) wx) := by
              intro y z wx hx hy hz
              rw [hz]
              exact disc_done HMID.out H2.out HU.out hx hsm HKM.out hj0 hy
            by_cases heq : st1.w - st1.r = j
            · have p1 : decide ((j : Int) < (st1.w : Int) - (st1.r : Int)) = false := decide_eq_false (by omega)
              have p2 : (((j : Int) - ((st1.w : Int) - (st1.r : Int))) == 0) = true := by simp; omega
              have HEQ := Lib.hid heq
              clear heq
              go_wp2_with (go_at_call 68; refine callRet HB2.out ?_; rintro v w1 ⟨rfl, rfl⟩)
              go_ret2
              exact hFIN.out _ _ _ (Upd.refl _ _).drew (by have := HEQ.out; omega) rfl
            · have p1 : decide ((j : Int) < (st1.w : Int) - (st1.r : Int)) = true := decide_eq_true (by omega)
              have p2 : (((j : Int) - (j : Int)) == 0) = true := by simp
              clear heq
              go_wp2_with (go_at_call 68; refine callRet HB2.out ?_; rintro v w1 ⟨rfl, rfl⟩)
              go_ret2
              exact hFIN.out _ _ _ (Upd.refl _ _).drew (by omega) rfl
          · have p1 : decide ((j : Int) < (st1.w : Int) - (st1.r : Int)) = false := decide_eq_false (by omega)
            have p2 : (((j : Int) - ((st1.w : Int) - (st1.r : Int))) == 0) = false := by simp; omega
            cases he : st1.err with
            | none =>
              have HE1 := Lib.hid he
              rw [he] at d4
              simp only [eV] at d4
              clear he
              go_wp2_with (go_at_call 68; refine callRet HB2.out ?_; rintro v w1 ⟨rfl, rfl⟩)
              go_roundg (j - (st1.w - st1.r))
              case rel =>
                refine ⟨{ st1 with r := st1.r + (st1.w - st1.r) }, k + (st1.w - st1.r), j - (st1.w - st1.r), congrArg (Value.int .i64) (by omega), ?_, (HU.out.setCell (fun _ => HI.out) _).drew, HMID.out.adv H2.out (Nat.le_refl _) HERR.out, HERR.out, by have := HKM.out; omega, by omega, Nat.le_refl _⟩
                have := (H2.out.setR (st1.r + (st1.w - st1.r)) (by omega)).drew
                rw [show ((st1.r + (st1.w - st1.r) : Nat) : Int) = (st1.r : Int) + ((st1.w : Int) - (st1.r : Int)) by omega] at this
                exact this
              case measure => omega
            | some e =>
              obtain ⟨et, ev, hev⟩ : ∃ et ev, eV S (some e) = .iface et ev := by cases e <;> exact ⟨_, _, rfl⟩
              have HE1 := Lib.hid he
              rw [he, hev] at d4
              have hFIN : Hid (∀ (x y : Int) wx, New ((wr.setCell ⟨L.b, 2, none⟩ (.int .i64 y)).setCell ⟨L.b, 4, none⟩ .nilIface) wx → x = ((k + (st1.w - st1.r) : Nat) : Int) → y = ((st1.r + (st1.w - st1.r) : Nat) : Int) → NumPost S w L (discardA A m) (.tuple #[.int .i64 x, .iface et ev]) wx) := by
                intro x y wx hx hxx hy
                rw [← hev, ← he]
                exact disc_end HMID.out H2.out HU.out hx (by rw [he]; simp) rfl (by have := HKM.out; omega) hxx hy
              clear he hev
              go_wp2_with (go_at_call 68; refine callRet HB2.out ?_; rintro v w1 ⟨rfl, rfl⟩)
              go_wp2
              go_ret2
              exact hFIN.out _ _ _ (by first | exact (Upd.refl _ _).drew | exact (Upd.refl _ _).drew.drew) (by have := HKM.out; omega) (by omega)
        · have p0 : (((st1.w : Int) - (st1.r : Int)) == 0) = true := by simp; omega
          have hlt2 : st1.w - st1.r < st1.buf.length := by omega
          have HLT := Lib.hid hlt2
          clear hlt2
          go_wp2_with (go_at_call 68; refine callRet HB2.out ?_; rintro v w1 ⟨rfl, rfl⟩)
          go_at_call 54
          refine callRet (fill ((HE.out.updL HB.out HU.out).new (Upd.refl _ _).drew) HB.out H2.out.drew HLT.out) ?_
          intro v w2 hv
          obtain ⟨st2, ⟨_, chunk, hfill⟩, h2, u2⟩ := hv
          have hmid3 : Mid A k st2 := HMID.out.fill HERR.out h2 hfill (by omega)
          have HNE : Hid (st2.w ≤ st2.r → st2.err ≠ none) := fun hh he => by
            rcases hfill.how with ⟨h1, _⟩ | ⟨_, h2', _⟩
            · have h3 := hfill.bd
              rw [bufd_nil hh] at h3
              exact h1 (List.append_eq_nil_iff.1 h3.symm).2
            · rw [he] at h2'; cases h2'
          obtain ⟨e0, e1, e2, e3, e4, e5, e6, hf2⟩ := h2.cells
          have hrw := h2.rw
          have hwn := h2.wn
          have hnhi := h2.nhi
          have hnlo := h2.nlo
          have HU3 : Hid (Upd (In L) w w2) := (HU.out.drew).trans u2 (fun _ h _ => h)
          have H3 := Lib.hid h2
          have HMID3 := Lib.hid hmid3
          have HB3 := Lib.hid (buffered h2)
          clear h2 u2 hmid3 hfill d2 d3 d4 hf1 e0 e1 e5 e6 p0
          by_cases hb2 : st2.r < st2.w
          · have p0 : (((st2.w : Int) - (st2.r : Int)) == 0) = false := by simp; omega
            have HERR3 : Hid (st2.err = A.errV) := by
              rcases HMID3.out.err with h | ⟨_, h⟩
              · exact h
              · omega
            by_cases hsm : j ≤ st2.w - st2.r
            · have hFIN : Hid (∀ (y z : Int) wx, New (w2.setCell ⟨L.b, 2, none⟩ (.int .i64 y)) wx → y = ((st2.r + j : Nat) : Int) → z = (m : Int) → NumPost S w L (discardA A m) (.tuple #[.int .i64 z, .nilIface]) wx) := by
                intro y z wx hx hy hz
                rw [hz]
                exact disc_done HMID3.out H3.out HU3.out hx hsm HKM.out hj0 hy
              by_cases heq : st2.w - st2.r = j
              · have p1 : decide ((j : Int) < (st2.w : Int) - (st2.r : Int)) = false := decide_eq_false (by omega)
                have p2 : (((j : Int) - ((st2.w : Int) - (st2.r : Int))) == 0) = true := by simp; omega
                have HEQ := Lib.hid heq
                clear heq
                go_wp2_with (go_at_call 68; refine callRet HB3.out ?_; rintro v w4 ⟨rfl, rfl⟩)
                go_ret2
                exact hFIN.out _ _ _ (Upd.refl _ _).drew (by have := HEQ.out; omega) rfl
              · have p1 : decide ((j : Int) < (st2.w : Int) - (st2.r : Int)) = true := decide_eq_true (by omega)
                have p2 : (((j : Int) - (j : Int)) == 0) = true := by simp
                clear heq
                go_wp2_with (go_at_call 68; refine callRet HB3.out ?_; rintro v w4 ⟨rfl, rfl⟩)
                go_ret2
                exact hFIN.out _ _ _ (Upd.refl _ _).drew (by omega) rfl
            · have p1 : decide ((j : Int) < (st2.w : Int) - (st2.r : Int)) = false := decide_eq_false (by omega)
              have p2 : (((j : Int) - ((st2.w : Int) - (st2.r : Int))) == 0) = false := by simp; omega
              cases he : st2.err with
              | none =>
                have HE1 := Lib.hid he
                rw [he] at e4
                simp only [eV] at e4
                clear he
                go_wp2_with (go_at_call 68; refine callRet HB3.out ?_; rintro v w4 ⟨rfl, rfl⟩)
                go_roundg (j - (st2.w - st2.r))
                case rel =>
                  refine ⟨{ st2 with r := st2.r + (st2.w - st2.r) }, k + (st2.w - st2.r), j - (st2.w - st2.r), congrArg (Value.int .i64) (by omega), ?_, (HU3.out.setCell (fun _ => HI.out) _).drew, HMID3.out.adv H3.out (Nat.le_refl _) HERR3.out, HERR3.out, by have := HKM.out; omega, by omega, Nat.le_refl _⟩
                  have := (H3.out.setR (st2.r + (st2.w - st2.r)) (by omega)).drew
                  rw [show ((st2.r + (st2.w - st2.r) : Nat) : Int) = (st2.r : Int) + ((st2.w : Int) - (st2.r : Int)) by omega] at this
                  exact this
                case measure => omega
              | some e =>
                obtain ⟨et, ev, hev⟩ : ∃ et ev, eV S (some e) = .iface et ev := by cases e <;> exact ⟨_, _, rfl⟩
                have HE1 := Lib.hid he
                rw [he, hev] at e4
                have hFIN : Hid (∀ (x y : Int) wx, New ((w2.setCell ⟨L.b, 2, none⟩ (.int .i64 y)).setCell ⟨L.b, 4, none⟩ .nilIface) wx → x = ((k + (st2.w - st2.r) : Nat) : Int) → y = ((st2.r + (st2.w - st2.r) : Nat) : Int) → NumPost S w L (discardA A m) (.tuple #[.int .i64 x, .iface et ev]) wx) := by
                  intro x y wx hx hxx hy
                  rw [← hev, ← he]
                  exact disc_end HMID3.out H3.out HU3.out hx (by rw [he]; simp) rfl (by have := HKM.out; omega) hxx hy
                clear he hev
                go_wp2_with (go_at_call 68; refine callRet HB3.out ?_; rintro v w4 ⟨rfl, rfl⟩)
                go_wp2
                go_ret2
                exact hFIN.out _ _ _ (by first | exact (Upd.refl _ _).drew | exact (Upd.refl _ _).drew.drew) (by have := HKM.out; omega) (by omega)
          · have p0 : (((st2.w : Int) - (st2.r : Int)) == 0) = true := by simp; omega
            have p1 : decide ((j : Int) < (st2.w : Int) - (st2.r : Int)) = false := decide_eq_false (by omega)
            have p2 : (((j : Int) - ((st2.w : Int) - (st2.r : Int))) == 0) = false := by simp; omega
            cases he : st2.err with
            | none => exact (HNE.out (by omega) he).elim
            | some e =>
              obtain ⟨et, ev, hev⟩ : ∃ et ev, eV S (some e) = .iface et ev := by cases e <;> exact ⟨_, _, rfl⟩
              rw [he, hev] at e4
              have hFIN : Hid (∀ (x y : Int) wx, New ((w2.setCell ⟨L.b, 2, none⟩ (.int .i64 y)).setCell ⟨L.b, 4, none⟩ .nilIface) wx → x = ((k + (st2.w - st2.r) : Nat) : Int) → y = ((st2.r + (st2.w - st2.r) : Nat) : Int) → NumPost S w L (discardA A m) (.tuple #[.int .i64 x, .iface et ev]) wx) := by
                intro x y wx hx hxx hy
                rw [← hev, ← he]
                exact disc_end HMID3.out H3.out HU3.out hx (by rw [he]; simp) rfl (by have := HKM.out; omega) hxx hy
              clear he hev
              go_wp2_with (go_at_call 68; refine callRet HB3.out ?_; rintro v w4 ⟨rfl, rfl⟩)
              go_wp2
              go_ret2
              exact hFIN.out _ _ _ (by first | exact (Upd.refl _ _).drew | exact (Upd.refl _ _).drew.drew) (by have := HKM.out; omega) (by omega)
end Go.Proofs.YtmmjfpcmempeeaaDoor
/- impl.Peeked, impl.Discarded. -/
namespace Go.Proofs.YtmmjfpcmempeeaaDoor
open Go.RowKit
theorem abs_fresh (n : Nat) (ps : List (List UInt8)) (f : Bool) : Abs (fresh n ps f) (fresh0 n ps.flatten f) where
  left := rem_fresh n ps f
  size := by simp [fresh, fresh0]
  f := rfl
  err := rfl
  last := rfl
  rune := rfl
  pos := fun h => (by simp [fresh] at h)
  nz := fun h => (by simp [fresh] at h)
  back := fun h => (by simp [fresh] at h)
/-- bytes and a code -/
def BCPost (w : World) (x : List UInt8 × Option Err) (v : Value) (w' : World) : Prop := New w w' ∧ ∃ b, v = .tuple #[b, .int .i64 (ecode x.2 : Int)] ∧ BytesAt w' b x.1
def NCPost (w : World) (x : Int × Option Err) (v : Value) (w' : World) : Prop := New w w' ∧ v = .tuple #[.int .i64 x.1, .int .i64 (ecode x.2 : Int)]
theorem peekA_le (A : AR) (n : Int) : (peekA A n).1.1.length ≤ A.left.length := by
  unfold peekA
  split
  · exact Nat.zero_le _
  · split
    · exact List.length_take_le' _ _
    · split
      · exact Nat.le_refl _
      · exact List.length_take_le' _ _
end Go.Proofs.YtmmjfpcmempeeaaDoor
