/- (*bufio.Reader).ReadLine. -/
import Derived.Test.YtmmjfpcmempeeaaDoorM6
import Derived.Test.YtmmjfpcmempeeaaDoorM8
namespace Go.Proofs.YtmmjfpcmempeeaaDoor
open Go.RowKit
def lineA (A : AR) : ((List UInt8 × Bool) × Option Err) × AR :=
  if (sliceA A 10).1.2 = some .full then
    if (sliceA A 10).1.1[(sliceA A 10).1.1.length - 1]? = some 13 then ((((sliceA A 10).1.1.take ((sliceA A 10).1.1.length - 1), true), none), { (sliceA A 10).2 with left := 13 :: (sliceA A 10).2.left })
    else ((((sliceA A 10).1.1, true), none), (sliceA A 10).2)
  else if (sliceA A 10).1.1.length = 0 then ((([], false), (sliceA A 10).1.2), (sliceA A 10).2)
  else ((((sliceA A 10).1.1.take (cutN (sliceA A 10).1.1), false), none), (sliceA A 10).2)
def LinePost (S : Err → Addr) (w : World) (L : Loc) (x : ((List UInt8 × Bool) × Option Err) × AR) (v : Value) (w' : World) : Prop :=
  ∃ st' ab c, v = .tuple #[.slice ab x.1.1.1.length c, .bool x.1.1.2, eV S x.1.2] ∧ BytesA w' ab c x.1.1.1 ∧ (∀ p, ab = some p → p.block = L.bb) ∧ Rd S w' L st' ∧ Upd (In L) w w' ∧ Abs st' x.2
theorem sliceA_full_rune {A : AR} {d : UInt8} (h : (sliceA A d).1.2 = some .full) (h0 : 0 < A.size) : (sliceA A d).2.rune = -1 := by
  unfold sliceA at h ⊢
  split at h
  · cases h
  · split at h
    · cases hf : A.f <;> (rw [hf] at h; simp [endErr] at h)
    · rename_i h1 h2
      rw [if_neg h2]
      show (A.read A.size).rune = -1
      unfold AR.read
      rw [if_neg (by omega)]
theorem sliceA_full_len {A : AR} {d : UInt8} (h : (sliceA A d).1.2 = some .full) : (sliceA A d).1.1.length = A.size := by
  unfold sliceA at h ⊢
  split at h
  · cases h
  · split at h
    · cases hf : A.f <;> (rw [hf] at h; simp [endErr] at h)
    · rename_i h1 h2
      rw [if_neg h2]
      show (A.left.take A.size).length = A.size
      rw [List.length_take]
      simp only [Bool.or_eq_true, decide_eq_true_eq, not_or] at h2
      omega
theorem eq_nil (w : World) (a : Addr) : (binOp .eql 73 .nilIface (.iface 151 (.pointer (some a)))).run Tryd.prog w = .ok (.bool false) w := by kernel_rfl
theorem Env.eqFull {S : Err → Addr} {B : Nat} {w : World} (h : Env S B w) (oe : Option Err) : (binOp .eql 73 (eV S oe) (.iface 151 (.pointer (some (S .full))))).run Tryd.prog w = .ok (.bool (decide (oe = some .full))) w := by
  cases oe with
  | none => exact eq_nil _ _
  | some e => have := h.eq e .full; simpa [eV] using this
theorem eqGuard_any (x y : Operand) (oe : Option Err) (S : Err → Addr) (a : Addr) (w : World) : (eqGuard .eql 73 x y (eV S oe) (.iface 151 (.pointer (some a)))).run Tryd.prog w = .ok () w := by
  cases oe with
  | none => rfl
  | some e => cases e <;> rfl
/-- the cells of bytes that are not none -/
theorem BytesA.some {w : World} {a : Option Addr} {c : Nat} {bs : List UInt8} (h : BytesA w a c bs) (h0 : 0 < bs.length) : ∃ b o, a = Option.some ⟨b, o, none⟩ ∧ ∀ i x, bs[i]? = Option.some x → w.cell? ⟨b, o + i, none⟩ = Option.some (.int .u8 (x.toNat : Int)) := by
  cases a with
  | none => have := h.1; have := h.2.2.1 rfl; omega
  | some p =>
    obtain ⟨hs, hc⟩ := h.2.2.2 p rfl
    obtain ⟨b, o, sp⟩ := p
    have hs : sp = none := hs (by rintro rfl; simp at h0)
    subst hs
    refine ⟨b, o, rfl, fun i x hx => ?_⟩
    obtain ⟨hlt, hx⟩ := List.getElem?_eq_some_iff.1 hx
    rw [hc i hlt, hx]; rfl
/-- an empty line is told at the end alone -/
theorem sliceA_empty {A : AR} {d : UInt8} (h : (sliceA A d).1.1.length = 0) (hn : (sliceA A d).1.2 ≠ some .full) : (sliceA A d).1.2 = some (endErr A.f) := by
  rcases sliceA_err A d with h1 | h1 | h1
  · exfalso
    unfold sliceA at h h1
    split at h
    · rename_i i hi
      have := pos_lt (pos_take_some hi)
      rw [List.length_take] at h
      omega
    · rename_i hi
      rw [hi] at h1
      simp only [] at h1
      split at h1 <;> simp at h1
  · exact absurd h1 hn
  · exact h1
theorem line_cr {S : Err → Addr} {w2 wx : World} {L : Loc} {st2 : RS} {A2 : AR} {y : Int} (hR : Rd S w2 L st2) (hA : Abs st2 A2) (hr : st2.r = st2.w) (hw : st2.w = st2.buf.length) (hx : st2.buf[st2.buf.length - 1]? = some 13) (hrune : A2.rune = -1)
    (hu : wx = w2.setCell ⟨L.b, 2, none⟩ (.int .i64 y)) (hy : y = (st2.r : Int) - 1) : Rd S wx L { st2 with r := st2.r - 1 } ∧ Abs { st2 with r := st2.r - 1 } { A2 with left := 13 :: A2.left } ∧ Upd (fun k => k = L.b) w2 wx := by
  have hlo := hR.nlo
  have e : y = ((st2.r - 1 : Nat) : Int) := by omega
  subst hu
  rw [e]
  refine ⟨hR.setR (st2.r - 1) (by omega), ?_, (Upd.refl (fun k => k = L.b) _).setCell (fun _ => rfl) _⟩
  have hrn := hA.rune
  exact {
    left := by
      have h1 : rem st2 = A2.left := hA.left
      rw [← h1]
      show bufd { st2 with r := st2.r - 1 } ++ st2.ps.flatten = 13 :: (bufd st2 ++ st2.ps.flatten)
      have h2 : bufd st2 = [] := by unfold bufd; rw [List.drop_eq_nil_of_le]; rw [List.length_take]; omega
      have h3 : bufd { st2 with r := st2.r - 1 } = [13] := by
        unfold bufd
        show (st2.buf.take st2.w).drop (st2.r - 1) = [13]
        rw [hr, hw, List.take_length]
        have h4 := List.getElem?_eq_some_iff.1 hx
        obtain ⟨hlt, h4⟩ := h4
        rw [List.drop_eq_getElem_cons hlt, h4, List.drop_eq_nil_of_le (by omega)]
      rw [h2, h3]; rfl
    size := hA.size
    f := hA.f
    err := hA.err
    last := hA.last
    rune := hA.rune
    pos := fun _ => .inl (by show 0 < st2.r - 1; omega)
    nz := hA.nz
    back := fun h => (by have h : 0 ≤ st2.rune := h; omega) }
set_option maxRecDepth 100000 in
set_option maxHeartbeats 2000000 in
theorem readLine {S : Err → Addr} {B : Nat} {w : World} {L : Loc} {st : RS} {A : AR} (E : Env S B w) (hB : B ≤ L.lo) (h : Rd S w L st) (hA : Abs st A) :
    Calls Tryd.prog 65 #[.pointer (some ⟨L.b, 0, none⟩)] w (Ret (LinePost S w L (lineA A))) := by
  have HE := Lib.hid E
  have HB := Lib.hid hB
  obtain ⟨X, hX⟩ : ∃ X, X = sliceA A 10 := ⟨_, rfl⟩
  have KR : Calls Tryd.prog 64 #[.pointer (some ⟨L.b, 0, none⟩), .int .u8 10] w (Ret (RSPost S w L X)) := by rw [hX]; exact readSlice E hB h hA 10
  have HKR := Lib.hid KR
  have hsz : 0 < A.size := by rw [← hA.size]; have := h.nlo; omega
  have q := sliceA_left A 10
  have eL : lineA A = if X.1.2 = some .full then
      if X.1.1[X.1.1.length - 1]? = some 13 then (((X.1.1.take (X.1.1.length - 1), true), none), { X.2 with left := 13 :: X.2.left }) else (((X.1.1, true), none), X.2)
    else if X.1.1.length = 0 then ((([], false), X.1.2), X.2) else (((X.1.1.take (cutN X.1.1), false), none), X.2) := by rw [hX]; rfl
  have HRU : Hid (X.1.2 = some .full → X.2.rune = -1) := fun h => by rw [hX] at h ⊢; exact sliceA_full_rune h hsz
  have HEM : Hid (X.1.1.length = 0 → X.1.2 ≠ some .full → X.1.2 = some (endErr A.f)) := fun h1 h2 => by rw [hX] at h1 h2 ⊢; exact sliceA_empty h1 h2
  have hIb := Lib.hid (In.b h)
  rw [← hX] at q
  obtain ⟨m, hm⟩ : ∃ m, X.1.1.length = m := ⟨_, rfl⟩
  rw [hm] at eL q
  have HM := Lib.hid hm
  have hQ := Lib.hid q
  have HSL : Hid (X.1.2 = some .full → X.1.1.length = A.size) := fun h => by rw [hX] at h ⊢; exact sliceA_full_len h
  clear E hB hX hA h KR hm q
  by_cases hf : X.1.2 = some .full
  · rw [eL, if_pos hf]
    have HRN := Lib.hid (HRU.out hf)
    have HEV : Hid (eV S X.1.2 = .iface 151 (.pointer (some (S .full)))) := by rw [Hid, hf]; rfl
    have HFL := Lib.hid hf
    have h0 : 0 < m := by have := HSL.out hf; have := HM.out; omega
    obtain ⟨x, hx⟩ : ∃ x, x = X.1.1[m - 1]'(by rw [HM.out]; omega) := ⟨_, rfl⟩
    have hx1 : X.1.1[m - 1]? = some x := by rw [hx]; exact List.getElem?_eq_getElem _
    have HX1 := Lib.hid hx1
    have i1 : (m : Int) - 1 = ((m - 1 : Nat) : Int) := by omega
    by_cases h13 : x = 13
    · have q1 : ((x.toNat : Int) == 13) = true := by rw [h13]; rfl
      have H13 := Lib.hid h13
      rw [if_pos (by rw [hx1, h13])]
      clear eL hf HRU HEM hx hx1 h13
      go_enter Tryd.func65, Tryd.ntmps65
      go_wp2_with (go_at_call 64; refine callRet HKR.out ?_; intro v2 w2 h2; obtain ⟨st2, ab, cb, rfl, hby, hbb, hrd2, hu2, habs, hfull⟩ := h2; have HBY := Lib.hid hby; have HBB := Lib.hid hbb; have HR2 := Lib.hid hrd2; have HU2 := Lib.hid hu2; have HA2 := Lib.hid habs; have hE2 := HE.out.updL HB.out hu2; have hg2 := (hE2.g .full (by decide)).2; have l1 : m ≤ cb := (by have := hby.1; rwa [HM.out] at this); have l2 := hby.2.1; unfold maxLen at l2; have HFF := Lib.hid (hfull HFL.out); have hq2 := hE2.eq .full .full; obtain ⟨pb, po, rfl, hcs⟩ := hby.some (by rw [HM.out]; exact h0); have hc := hcs (m - 1) x HX1.out; have hd := hrd2.cells; have d2 := hd.2.2.1; have d8 := hd.2.2.2.2.2.2.2; have hr16 : 0 < st2.r := (by have := hrd2.nlo; have := hfull HFL.out; omega); have hrhi : st2.r ≤ 1048576 := (by have := hrd2.nhi; have := hfull HFL.out; omega); have qr : ((st2.r : Int) == 0) = false := (by simp; omega); clear hE2 hby hbb hrd2 hu2 habs hfull hcs hd; simp only [Err.g, eV, decide_true] at hg2 hq2; rw [HEV.out, HM.out])
      refine bodyPost_ret (results_tmp3 rfl _ _ _) rfl ?_
      have e13 : st2.buf[st2.buf.length - 1]? = some 13 := by rw [HFF.out.2.2, HM.out, HX1.out, H13.out]
      obtain ⟨r1, r2, r3⟩ := line_cr HR2.out HA2.out HFF.out.1 HFF.out.2.1 e13 HRN.out rfl rfl
      have hl : (X.1.1.take (m - 1)).length = m - 1 := by rw [List.length_take, HM.out]; omega
      exact ⟨_, _, _, by rw [hl]; rfl, (HBY.out.take (m - 1)).upd r3 (fun p hp _ hh => HR2.out.ne ((HBB.out p hp).symm.trans hh)), HBB.out, r1, HU2.out.trans (r3.mono (M := In L) (fun k hk _ => by have hk : k = L.b := hk; rw [hk]; exact hIb.out)) (fun _ h _ => h), r2⟩
    · have q1 : ((x.toNat : Int) == 13) = false := u8_ne (c := 13) h13
      rw [if_neg (by rw [hx1]; simpa using h13)]
      clear eL hf HRU HEM hx hx1 h13
      go_enter Tryd.func65, Tryd.ntmps65
      go_wp2_with (go_at_call 64; refine callRet HKR.out ?_; intro v2 w2 h2; obtain ⟨st2, ab, cb, rfl, hby, hbb, hrd2, hu2, habs, hfull⟩ := h2; have HBY := Lib.hid hby; have HBB := Lib.hid hbb; have HR2 := Lib.hid hrd2; have HU2 := Lib.hid hu2; have HA2 := Lib.hid habs; have hE2 := HE.out.updL HB.out hu2; have hg2 := (hE2.g .full (by decide)).2; have l1 : m ≤ cb := (by have := hby.1; rwa [HM.out] at this); have l2 := hby.2.1; unfold maxLen at l2; have HFF := Lib.hid (hfull HFL.out); have hq2 := hE2.eq .full .full; obtain ⟨pb, po, rfl, hcs⟩ := hby.some (by rw [HM.out]; exact h0); have hc := hcs (m - 1) x HX1.out; have hd := hrd2.cells; have d2 := hd.2.2.1; have d8 := hd.2.2.2.2.2.2.2; have hr16 : 0 < st2.r := (by have := hrd2.nlo; have := hfull HFL.out; omega); have hrhi : st2.r ≤ 1048576 := (by have := hrd2.nhi; have := hfull HFL.out; omega); have qr : ((st2.r : Int) == 0) = false := (by simp; omega); clear hE2 hby hbb hrd2 hu2 habs hfull hcs hd; simp only [Err.g, eV, decide_true] at hg2 hq2; rw [HEV.out, HM.out])
      refine bodyPost_ret (results_tmp3 rfl _ _ _) rfl ?_
      exact ⟨st2, _, _, by rw [HM.out]; rfl, HBY.out, HBB.out, HR2.out, HU2.out, HA2.out⟩
  · rw [eL, if_neg hf]
    have HNF := Lib.hid hf
    by_cases h0 : m = 0
    · rw [if_pos h0]
      have he := HEM.out (HM.out.trans h0) hf
      obtain ⟨et, ev, hev⟩ := endV S A.f
      rw [← he] at hev
      have HEV := Lib.hid hev
      have H0 := Lib.hid (show m = 0 from h0)
      have q0 : ((m : Int) == 0) = true := by simp; omega
      clear eL hf HRU HEM he hev h0
      go_enter Tryd.func65, Tryd.ntmps65
      go_wp2_with (go_at_call 64; refine callRet HKR.out ?_; intro v2 w2 h2; obtain ⟨st2, ab, cb, rfl, hby, hbb, hrd2, hu2, habs, hfull⟩ := h2; have HBY := Lib.hid hby; have HBB := Lib.hid hbb; have HR2 := Lib.hid hrd2; have HU2 := Lib.hid hu2; have HA2 := Lib.hid habs; have hE2 := HE.out.updL HB.out hu2; have hg2 := (hE2.g .full (by decide)).2; have l1 : m ≤ cb := (by have := hby.1; rwa [HM.out] at this); have l2 := hby.2.1; unfold maxLen at l2; have hq2 := hE2.eqFull X.1.2; rw [decide_eq_false HNF.out, HEV.out] at hq2; clear hE2 hby hbb hrd2 hu2 habs hfull; simp only [Err.g, eV] at hg2 hq2; rw [HEV.out, HM.out])
      refine bodyPost_ret (results_tmp3 rfl _ _ _) rfl ?_
      refine ⟨st2, none, 0, by rw [HEV.out]; rfl, ⟨Nat.le_refl _, Nat.zero_le _, fun _ => rfl, fun p hp => by cases hp⟩, fun p hp => (by cases hp), HR2.out, HU2.out, HA2.out⟩
    · rw [if_neg h0]
      have h0 : 0 < m := by omega
      obtain ⟨ev, hev⟩ : ∃ ev, eV S X.1.2 = ev := ⟨_, rfl⟩
      have HEV := Lib.hid hev
      have hgd := fun x y a w => eqGuard_any x y X.1.2 S a w
      rw [hev] at hgd
      have HGD := Lib.hid hgd
      have q0 : ((m : Int) == 0) = false := by simp; omega
      obtain ⟨x, hx⟩ : ∃ x, x = X.1.1[m - 1]'(by rw [HM.out]; omega) := ⟨_, rfl⟩
      have hx1 : X.1.1[m - 1]? = some x := by rw [hx]; exact List.getElem?_eq_getElem _
      have HX1 := Lib.hid hx1
      have i1 : (m : Int) - 1 = ((m - 1 : Nat) : Int) := by omega
      have HCN : Hid (cutN X.1.1 = if 0 < m ∧ X.1.1[m - 1]? = some 10 then (if 1 < m ∧ X.1.1[m - 2]? = some 13 then m - 2 else m - 1) else m) := by unfold Hid cutN; rw [HM.out]
      have HFIN : Hid (∀ (w2 : World) (st2 : RS) (ab : Option Addr) (cb k : Nat), BytesA w2 ab cb X.1.1 → (∀ p, ab = some p → p.block = L.bb) → Rd S w2 L st2 → Upd (In L) w w2 → Abs st2 X.2 → k = cutN X.1.1 → LinePost S w L (((X.1.1.take (cutN X.1.1), false), none), X.2) (.tuple #[.slice ab k cb, .bool false, .nilIface]) w2) := by
        intro w2 st2 ab cb k h1 h2 h3 h4 h5 h6
        have hl : (X.1.1.take (cutN X.1.1)).length = cutN X.1.1 := by
          rw [List.length_take, HM.out, HCN.out]
          split
          · split <;> omega
          · omega
        exact ⟨st2, _, _, by rw [hl, h6]; rfl, h1.take _, h2, h3, h4, h5⟩
      clear eL hf HRU HEM hev hx hgd
      by_cases h10 : x = 10
      · have q1 : ((x.toNat : Int) == 10) = true := by rw [h10]; rfl
        by_cases h1 : 1 < m
        · obtain ⟨y, hy⟩ : ∃ y, y = X.1.1[m - 2]'(by rw [HM.out]; omega) := ⟨_, rfl⟩
          have hy1 : X.1.1[m - 2]? = some y := by rw [hy]; exact List.getElem?_eq_getElem _
          have HY1 := Lib.hid hy1
          have i2 : (m : Int) - 2 = ((m - 2 : Nat) : Int) := by omega
          by_cases h13 : y = 13
          · have q2 : ((y.toNat : Int) == 13) = true := by rw [h13]; rfl
            have HK : Hid (m - 2 = cutN X.1.1) := by rw [Hid, HCN.out, if_pos ⟨h0, by rw [hx1, h10]⟩, if_pos ⟨h1, by rw [hy1, h13]⟩]
            clear hy hx1 hy1 h10 h13
            go_enter Tryd.func65, Tryd.ntmps65
            go_wp2_with (go_at_call 64; refine callRet HKR.out ?_; intro v2 w2 h2; obtain ⟨st2, ab, cb, rfl, hby, hbb, hrd2, hu2, habs, hfull⟩ := h2; have HBY := Lib.hid hby; have HBB := Lib.hid hbb; have HR2 := Lib.hid hrd2; have HU2 := Lib.hid hu2; have HA2 := Lib.hid habs; have hE2 := HE.out.updL HB.out hu2; have hg2 := (hE2.g .full (by decide)).2; have l1 : m ≤ cb := (by have := hby.1; rwa [HM.out] at this); have l2 := hby.2.1; unfold maxLen at l2; have hq2 := hE2.eqFull X.1.2; rw [decide_eq_false HNF.out, HEV.out] at hq2; obtain ⟨pb, po, rfl, hcs⟩ := hby.some (by rw [HM.out]; exact h0); have hc := hcs (m - 1) x HX1.out; have hc2 := hcs (m - 2) y HY1.out; have hgd := HGD.out (.tmp 11) (.tmp 12) (S .full) w2; clear hE2 hby hbb hrd2 hu2 habs hfull hcs; simp only [Err.g, eV] at hg2 hq2; rw [HEV.out, HM.out])
            refine bodyPost_ret (results_tmp3 rfl _ _ _) rfl ?_
            exact HFIN.out _ _ _ _ _ HBY.out HBB.out HR2.out HU2.out HA2.out HK.out
          · have q2 : ((y.toNat : Int) == 13) = false := u8_ne (c := 13) h13
            have HK : Hid (m - 1 = cutN X.1.1) := by rw [Hid, HCN.out, if_pos ⟨h0, by rw [hx1, h10]⟩, if_neg (fun hh => h13 (by have := hh.2; rw [hy1] at this; simpa using this))]
            clear hy hx1 hy1 h10 h13
            go_enter Tryd.func65, Tryd.ntmps65
            go_wp2_with (go_at_call 64; refine callRet HKR.out ?_; intro v2 w2 h2; obtain ⟨st2, ab, cb, rfl, hby, hbb, hrd2, hu2, habs, hfull⟩ := h2; have HBY := Lib.hid hby; have HBB := Lib.hid hbb; have HR2 := Lib.hid hrd2; have HU2 := Lib.hid hu2; have HA2 := Lib.hid habs; have hE2 := HE.out.updL HB.out hu2; have hg2 := (hE2.g .full (by decide)).2; have l1 : m ≤ cb := (by have := hby.1; rwa [HM.out] at this); have l2 := hby.2.1; unfold maxLen at l2; have hq2 := hE2.eqFull X.1.2; rw [decide_eq_false HNF.out, HEV.out] at hq2; obtain ⟨pb, po, rfl, hcs⟩ := hby.some (by rw [HM.out]; exact h0); have hc := hcs (m - 1) x HX1.out; have hc2 := hcs (m - 2) y HY1.out; have hgd := HGD.out (.tmp 11) (.tmp 12) (S .full) w2; clear hE2 hby hbb hrd2 hu2 habs hfull hcs; simp only [Err.g, eV] at hg2 hq2; rw [HEV.out, HM.out])
            refine bodyPost_ret (results_tmp3 rfl _ _ _) rfl ?_
            exact HFIN.out _ _ _ _ _ HBY.out HBB.out HR2.out HU2.out HA2.out HK.out
        · have HK : Hid (m - 1 = cutN X.1.1) := by rw [Hid, HCN.out, if_pos ⟨h0, by rw [hx1, h10]⟩, if_neg (fun hh => h1 hh.1)]
          clear hx1 h10
          go_enter Tryd.func65, Tryd.ntmps65
          go_wp2_with (go_at_call 64; refine callRet HKR.out ?_; intro v2 w2 h2; obtain ⟨st2, ab, cb, rfl, hby, hbb, hrd2, hu2, habs, hfull⟩ := h2; have HBY := Lib.hid hby; have HBB := Lib.hid hbb; have HR2 := Lib.hid hrd2; have HU2 := Lib.hid hu2; have HA2 := Lib.hid habs; have hE2 := HE.out.updL HB.out hu2; have hg2 := (hE2.g .full (by decide)).2; have l1 : m ≤ cb := (by have := hby.1; rwa [HM.out] at this); have l2 := hby.2.1; unfold maxLen at l2; have hq2 := hE2.eqFull X.1.2; rw [decide_eq_false HNF.out, HEV.out] at hq2; obtain ⟨pb, po, rfl, hcs⟩ := hby.some (by rw [HM.out]; exact h0); have hc := hcs (m - 1) x HX1.out; have hgd := HGD.out (.tmp 11) (.tmp 12) (S .full) w2; clear hE2 hby hbb hrd2 hu2 habs hfull hcs; simp only [Err.g, eV] at hg2 hq2; rw [HEV.out, HM.out])
          refine bodyPost_ret (results_tmp3 rfl _ _ _) rfl ?_
          exact HFIN.out _ _ _ _ _ HBY.out HBB.out HR2.out HU2.out HA2.out HK.out
      · have q1 : ((x.toNat : Int) == 10) = false := u8_ne (c := 10) h10
        have HK : Hid (m = cutN X.1.1) := by rw [Hid, HCN.out, if_neg (fun hh => h10 (by have := hh.2; rw [hx1] at this; simpa using this))]
        clear hx1 h10
        go_enter Tryd.func65, Tryd.ntmps65
        go_wp2_with (go_at_call 64; refine callRet HKR.out ?_; intro v2 w2 h2; obtain ⟨st2, ab, cb, rfl, hby, hbb, hrd2, hu2, habs, hfull⟩ := h2; have HBY := Lib.hid hby; have HBB := Lib.hid hbb; have HR2 := Lib.hid hrd2; have HU2 := Lib.hid hu2; have HA2 := Lib.hid habs; have hE2 := HE.out.updL HB.out hu2; have hg2 := (hE2.g .full (by decide)).2; have l1 : m ≤ cb := (by have := hby.1; rwa [HM.out] at this); have l2 := hby.2.1; unfold maxLen at l2; have hq2 := hE2.eqFull X.1.2; rw [decide_eq_false HNF.out, HEV.out] at hq2; obtain ⟨pb, po, rfl, hcs⟩ := hby.some (by rw [HM.out]; exact h0); have hc := hcs (m - 1) x HX1.out; have hgd := HGD.out (.tmp 11) (.tmp 12) (S .full) w2; clear hE2 hby hbb hrd2 hu2 habs hfull hcs; simp only [Err.g, eV] at hg2 hq2; rw [HEV.out, HM.out])
        refine bodyPost_ret (results_tmp3 rfl _ _ _) rfl ?_
        exact HFIN.out _ _ _ _ _ HBY.out HBB.out HR2.out HU2.out HA2.out HK.out
end Go.Proofs.YtmmjfpcmempeeaaDoor
