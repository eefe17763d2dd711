/- bytes.Clone; (*bufio.Reader).collectFragments. -/
import Derived.Test.YtnpalkndocokkaaDoorImplSl
import Derived.WalkSpells
namespace Go.Proofs.YtnpalkndocokkaaDoor
open Go.RowKit
theorem results_tmp4 {fn : Func} {t u v x : Tmp} (h : fn.results = #[.tmp t, .tmp u, .tmp v, .tmp x]) (tmps : Array Value) (P : Program) (w : World) :
    (results fn tmps).run P w = .ok (.tuple #[tmps.getD t undef, tmps.getD u undef, tmps.getD v undef, tmps.getD x undef]) w := by
  simp [results, h]
set_option maxHeartbeats 400000 in
theorem bytesClone (p : Addr) (c : Nat) (bs : List UInt8) (w : World) (hb : BytesA w (some p) c bs) (hl : bs.length ≤ 70368744177664) :
    Calls Tryd.prog 66 #[.slice (some p) bs.length c] w (Ret fun v w' => NewB w w' v bs) := by
  have hnews : ∀ q, some p = some q → ∀ j u, (bs.map bv)[j]? = some u → (w.alloc (.cells #[] 5)).cell? (q.add j) = some u := fun q hp => by
    simp only [Option.some.injEq] at hp; subst hp; exact (hb.new ((Upd.refl _ _).alloc _)).news
  have hown : (w.alloc (.cells #[] 5)).ownsRow w.heap.size 5 1 (.slice (some ⟨w.heap.size, 0, none⟩) 0 0) 0 [] := World.ownsRow_made w #[] 0 (Nat.le_refl _) (Nat.zero_le _) rfl
  have kn := fun (wx : World) (n c : Nat) => Lib.run_eql_slice_nil (P := Tryd.prog) wx 29 5 (some p) n c 0 0 Tryd.underlying29
  go_enter Tryd.func66, Tryd.ntmps66
  go_wp2_with (at_builtin; refine wpList_plain rfl (fun K hK => ?_); refine wp_append eB _ _ rfl w.heap.size _ 0 [] rfl hown (some p) bs.length c (bs.map bv) rfl (by simp) (fun h => by cases h) hnews (oneCell_bytes _) (by unfold maxLen; omega) (by omega) (by simp) ?_; intro v' w' h1 h2 h3; refine hK _ _ ?_; clear hK K)
  rw [Nat.zero_add, List.nil_append] at h1
  go_ret
  have h3' : v' ≠ .slice none 0 0 := fun h => by
    have h4 : Value.slice (some ⟨w.heap.size, 0, none⟩) 0 0 = .slice none 0 0 := (h3.1 h).1
    simp at h4
  refine ⟨((Upd.refl _ _).alloc _).grown h2 (fun k hk hl => by
    have hk : some w.heap.size = some k := hk
    simp only [Option.some.injEq] at hk; omega), ?_⟩
  have h1' := h1
  rcases h1'.2 with ⟨hv, hz⟩ | ⟨g, cap, cur, hv, _⟩
  · exact (h3' hv).elim
  · subst hv
    exact ⟨g, cap, rfl, h1⟩
/-- full buffers, what comes last, and the reader behind it -/
def frags (d : UInt8) : Nat → AR → List (List UInt8) × ((List UInt8 × Option Err) × AR)
  | 0, A => ([], (([], none), A))
  | n + 1, A => if (sliceA A d).1.2 = some .full then ((sliceA A d).1.1 :: (frags d n (sliceA A d).2).1, (frags d n (sliceA A d).2).2) else ([], sliceA A d)
theorem sliceA_full' {A : AR} {d : UInt8} (h : (sliceA A d).1.2 = some .full) : A.size ≤ A.left.length ∧ (sliceA A d).1.1 = A.left.take A.size ∧ (sliceA A d).2.left = A.left.drop A.size ∧ (sliceA A d).2.size = A.size := by
  cases hp : pos d (A.left.take A.size) with
  | some j => rw [sliceA_some hp] at h; cases h
  | none =>
    cases hb : (A.err || decide (A.left.length < A.size)) with
    | true =>
      rw [sliceA_end hp hb] at h
      cases hf : A.f <;> (rw [hf] at h; simp [endErr] at h)
    | false =>
      rw [sliceA_full hp hb]
      simp only [Bool.or_eq_false_iff, decide_eq_false_iff_not] at hb
      exact ⟨by omega, rfl, rfl, rfl⟩
/-- more fuel than bytes makes no difference -/
theorem frags_two {d : UInt8} : ∀ (n m : Nat) (A : AR), A.left.length < n → A.left.length < m → 1 ≤ A.size → frags d n A = frags d m A := by
  intro n
  induction n with
  | zero => intro m A h; omega
  | succ n ih =>
    intro m A h hm hs
    obtain ⟨m, rfl⟩ : ∃ k, m = k + 1 := ⟨m - 1, by omega⟩
    show (if _ then _ else _) = (if _ then _ else _)
    by_cases hf : (sliceA A d).1.2 = some .full
    · rw [if_pos hf, if_pos hf]
      have h4 := sliceA_full' hf
      have hlen : (sliceA A d).2.left.length < A.left.length := by rw [h4.2.2.1, List.length_drop]; omega
      rw [ih m (sliceA A d).2 (by omega) (by omega) (by rw [h4.2.2.2]; exact hs)]
    · rw [if_neg hf, if_neg hf]
theorem frags_fuel {d : UInt8} {n : Nat} {A : AR} (h : A.left.length < n) (hs : 1 ≤ A.size) : frags d n A = frags d (A.left.length + 1) A := frags_two n _ A h (Nat.lt_succ_self _) hs
def FragPost (S : Err → Addr) (w : World) (L : Loc) (x : List (List UInt8) × ((List UInt8 × Option Err) × AR)) (v : Value) (w' : World) : Prop :=
  ∃ st' lv ab c, v = .tuple #[lv, .slice ab x.2.1.1.length c, .int .i64 ((x.1.flatten.length + x.2.1.1.length : Nat) : Int), eV S x.2.1.2] ∧ OwnL w.heap.size (fun k => w.heap.size ≤ k) w' lv x.1 ∧ BytesA w' ab c x.2.1.1 ∧ (∀ p, ab = some p → p.block = L.bb) ∧ Rd S w' L st' ∧ Upd (In L) w w' ∧ Abs st' x.2.2
set_option maxRecDepth 100000 in
set_option maxHeartbeats 2000000 in
theorem collect {S : Err → Addr} {B : Nat} {w : World} {L : Loc} {st : RS} {A0 : AR} (E : Env S B w) (hB : B ≤ L.lo) (h : Rd S w L st) (hA : Abs st A0) (hhi : L.hi ≤ w.heap.size) (hl : A0.left.length ≤ 1048576) (d : UInt8) :
    Calls Tryd.prog 60 #[.pointer (some ⟨L.b, 0, none⟩), .int .u8 (d.toNat : Int)] w (Ret (FragPost S w L (frags d (A0.left.length + 1) A0))) := by
  have HE := Lib.hid E
  have HB := Lib.hid hB
  have H := Lib.hid h
  have HA := Lib.hid hA
  have HHI := Lib.hid hhi
  have HL := Lib.hid hl
  have HSZ : Hid (16 ≤ A0.size) := by have := h.nlo; rw [hA.size] at this; exact this
  clear E hB h hA hhi hl
  go_enter Tryd.func60, Tryd.ntmps60
  go_wp2
  go_loopg [4, 6, 7] (A0.left.length) (fun gk t4 t6 t7 wx => t7 = .nilIface ∧ ∃ (st1 : RS) (A : AR) (fl : List (List UInt8)), t6 = .int .i64 (fl.flatten.length : Int) ∧ Rd S wx L st1 ∧ Upd (In L) w wx ∧ Abs st1 A ∧ OwnL w.heap.size (fun k => w.heap.size ≤ k) wx t4 fl ∧ A.size = A0.size ∧ A.left.length + fl.flatten.length = A0.left.length ∧ fl.length ≤ fl.flatten.length ∧ A.left.length ≤ gk ∧ frags d (A0.left.length + 1) A0 = (fl ++ (frags d (A.left.length + 1) A).1, (frags d (A.left.length + 1) A).2))
  case atStart => exact ⟨rfl, st, A0, [], rfl, H.out, Upd.refl _ _, HA.out, OwnL.nil _ _ _, rfl, by simp, Nat.le_refl _, Nat.le_refl _, rfl⟩
  case round =>
    obtain ⟨rfl, st1, A, fl, rfl, h1, u1, hA1, how, hsz, hlen, hfl, hgk, hfr⟩ := hrel
    obtain ⟨X, hX⟩ : ∃ X, X = sliceA A d := ⟨_, rfl⟩
    obtain ⟨fn, hfn⟩ : ∃ fn, fl.flatten.length = fn := ⟨_, rfl⟩
    have hE1 := HE.out.updL HB.out u1
    have HX := Lib.hid hX
    have K1 := Lib.hid (readSlice hE1 HB.out h1 hA1 d)
    have HE1 := Lib.hid hE1
    have hfr1 : frags d (A.left.length + 1) A = if X.1.2 = some .full then (X.1.1 :: (frags d A.left.length X.2).1, (frags d A.left.length X.2).2) else ([], X) := by rw [hX]; rfl
    have hXl := sliceA_left A d
    have hXe := sliceA_err A d
    have hXf : X.1.2 = some .full → A.size ≤ A.left.length ∧ X.1.1 = A.left.take A.size ∧ X.2.left = A.left.drop A.size ∧ X.2.size = A.size := fun hh => by rw [hX] at hh ⊢; exact sliceA_full' hh
    rw [← hX] at hXl hXe
    have HFR := Lib.hid hfr
    have HFR1 := Lib.hid hfr1
    have HXL := Lib.hid hXl
    have HXF := Lib.hid hXf
    have HOW := Lib.hid how
    have HU := Lib.hid u1
    have HS := Lib.hid hsz
    have HLEN := Lib.hid hlen
    have HFL := Lib.hid hfl
    have HGK := Lib.hid hgk
    have HFN := Lib.hid hfn
    rw [hfn]
    have hfn20 : fn ≤ 1048576 := by have := HL.out; omega
    clear h1 u1 hA1 how hsz hlen hfl hgk hfr hfr1 hXl hXf hX hE1 hfn
    have hline : X.1.1.length ≤ 1048576 := by have := HXL.out.1; have := HLEN.out; have := HL.out; omega
    rcases hXe with he | he | he
    · have HEV : Hid (eV S X.1.2 = .nilIface) := by rw [Hid, he]; rfl
      have HNF : Hid (¬ X.1.2 = some .full) := by rw [he]; intro h; cases h
      have HEQ : Hid (∀ wx : World, Env S B wx → True) := fun _ _ => trivial
      clear he
      · go_wp2_with (go_at_call 44; refine callRet K1.out ?_; rw [← HX.out]; intro v2 w2 h2; obtain ⟨st2, ab, cb, rfl, hby, hpb, hrd2, hu2, habs, _⟩ := h2; have HU2 : Hid (Upd (In L) w w2) := HU.out.trans hu2 (fun _ h _ => h); have HOW2 := Lib.hid (HOW.out.upd hu2 (fun k _ hk hb _ => by have := hk.2; have := HHI.out; omega) (fun k _ hk hb _ => by have := hk.2; have := HHI.out; have hb : w.heap.size ≤ k := hb; omega)); have HRD2 := Lib.hid hrd2; have HBY := Lib.hid hby; have HPB := Lib.hid hpb; have HABS := Lib.hid habs; have HEV2 := HEQ.out w2 (HE1.out.updL HB.out hu2); clear HEV2; clear hrd2 hu2 hby habs hpb; rw [HEV.out])
        have hfin : frags d (A0.left.length + 1) A0 = (fl, X) := by rw [HFR.out, HFR1.out, if_neg HNF.out]; simp
        have HFIN := Lib.hid hfin
        clear hfin
        go_wp2
        refine bodyPost_ret (results_tmp4 rfl _ _ _) rfl ?_
        rw [HFIN.out]
        refine ⟨st2, _, ab, cb, ?_, HOW2.out, HBY.out, HPB.out, HRD2.out, HU2.out, HABS.out⟩
        rw [HEV.out, HFN.out, Int.natCast_add]
        rfl
    · have HEV : Hid (eV S X.1.2 = .iface 124 (.pointer (some (S .full)))) := by rw [Hid, he]; rfl
      have HYF : Hid (X.1.2 = some .full) := he
      have HEQ : Hid (∀ wx : World, Env S B wx → wx.cell? ⟨0, 0, none⟩ = some (.iface 124 (.pointer (some (S .full)))) ∧ (binOp .neq 70 (.iface 124 (.pointer (some (S .full)))) (.iface 124 (.pointer (some (S .full))))).run Tryd.prog wx = .ok (.bool false) wx) := fun wx hx => ⟨(hx.g .full (by decide)).2, hx.neq .full .full⟩
      clear he
      go_wp2_with (go_at_call 44; refine callRet K1.out ?_; rw [← HX.out]; intro v2 w2 h2; obtain ⟨st2, ab, cb, rfl, hby, hpb, hrd2, hu2, habs, _⟩ := h2; have HU2 : Hid (Upd (In L) w w2) := HU.out.trans hu2 (fun _ h _ => h); have HOW2 := Lib.hid (HOW.out.upd hu2 (fun k _ hk hb _ => by have := hk.2; have := HHI.out; omega) (fun k _ hk hb _ => by have := hk.2; have := HHI.out; have hb : w.heap.size ≤ k := hb; omega)); have HRD2 := Lib.hid hrd2; have HBY := Lib.hid hby; have HPB := Lib.hid hpb; have HABS := Lib.hid habs; have HEV2 := HEQ.out w2 (HE1.out.updL HB.out hu2); have hg2 := HEV2.1; have hn2 := HEV2.2; clear HEV2; clear hrd2 hu2 hby habs hpb; rw [HEV.out])
      have hsz16 : A.size ≤ X.1.1.length := by
        have h1 := HXF.out HYF.out
        rw [h1.2.1, List.length_take]; omega
      have hnn : 0 < X.1.1.length := by have := HS.out; have := HSZ.out; omega
      obtain ⟨p, rfl⟩ : ∃ p, ab = some p := by
        cases ab with
        | none => have := HBY.out.2.2.1 rfl; have := HBY.out.1; omega
        | some p => exact ⟨p, rfl⟩
      go_at_call 66
      refine callRet (bytesClone p cb X.1.1 w2 HBY.out (by omega)) ?_
      intro v3 w3 h3
      have HX3 := Lib.hid (h3.elem HU2.out.size)
      have HOW3 := Lib.hid (HOW2.out.new h3.1)
      have HRD3 := Lib.hid (HRD2.out.new h3.1)
      have HU3 : Hid (Upd (In L) w w3) := HU2.out.andNew h3.1
      obtain ⟨_, g3, cp3, hv3, _⟩ := h3
      subst hv3
      clear hsz16 hg2 hn2
      go_wp2_with (at_builtin; refine wpList_plain rfl (fun K hK => ?_); obtain ⟨vs, hvl, ho1, hpe⟩ := HOW3.out; refine wp_append eP (.tmp 25) (.tmp 27) rfl w.heap.size _ _ _ rfl (ownsRow_new ho1 ((Upd.refl _ _).alloc _)) (some ⟨w3.heap.size, 0, none⟩) 1 1 [.slice (some ⟨g3, 0, none⟩) X.1.1.length cp3] rfl rfl (fun h => by cases h) box_news (by simp [Value.oneCell']) (by have := HFL.out; have := HFN.out; unfold maxLen; omega) (by have := HFL.out; have := HFN.out; omega) (Nat.le_trans HU3.out.size ((Upd.refl (fun _ => False) _).alloc _).size) ?_; intro v4 w4 h1 h2 h3; have hgr := OwnL.grow hvl ho1 hpe HX3.out ((Upd.refl _ _).alloc _) h1 h2; have HOW4 := Lib.hid hgr.1; have HG4 := Lib.hid hgr.2; refine hK _ _ ?_; clear hK K h1 h2 h3 hvl ho1 hpe hgr)
      go_roundg (X.2.left.length)
      case rel =>
        have hf := HXF.out HYF.out
        have hll : X.2.left.length + X.1.1.length = A.left.length := by
          rw [hf.2.2.1, hf.2.1, List.length_take, List.length_drop]; omega
        have hfl2 : (fl ++ [X.1.1]).flatten.length = fn + X.1.1.length := by rw [List.flatten_append, List.length_append, HFN.out]; simp
        refine ⟨rfl, st2, X.2, fl ++ [X.1.1], ?_, HRD3.out.upd ((Upd.refl (fun _ => False) _).alloc _ |>.new.trans HG4.out (fun k hk _ => hk)) (fun k hk hin => by have := hk.1; have := hin.2; have := HHI.out; omega), ?_, HABS.out, HOW4.out, by rw [hf.2.2.2]; exact HS.out, by rw [hfl2]; have := HLEN.out; have := HFN.out; omega, ?_, Nat.le_refl _, ?_⟩
        · rw [hfl2]; congr 1
        · exact (HU3.out.alloc _).trans HG4.out (fun k hk hlt => by have := hk.1; omega)
        · rw [hfl2, List.length_append]; have := HFL.out; have := HFN.out; simp; omega
        · rw [HFR.out, HFR1.out, if_pos HYF.out]
          have hfu : frags d A.left.length X.2 = frags d (X.2.left.length + 1) X.2 := frags_fuel (by omega) (by rw [hf.2.2.2]; have := HS.out; have := HSZ.out; omega)
          rw [hfu]; simp
      case measure =>
        have hf := HXF.out HYF.out
        have hll : X.2.left.length + X.1.1.length = A.left.length := by
          rw [hf.2.2.1, hf.2.1, List.length_take, List.length_drop]; omega
        have := HGK.out
        omega
    · obtain ⟨et, ev, hev⟩ := endV S A.f
      have HEV : Hid (eV S X.1.2 = .iface et ev) := by rw [Hid, he]; exact hev
      have HNF : Hid (¬ X.1.2 = some .full) := by rw [he]; intro h; cases hf : A.f <;> (rw [hf] at h; simp [endErr] at h)
      have HEQ : Hid (∀ wx : World, Env S B wx → wx.cell? ⟨0, 0, none⟩ = some (.iface 124 (.pointer (some (S .full)))) ∧ (binOp .neq 70 (.iface et ev) (.iface 124 (.pointer (some (S .full))))).run Tryd.prog wx = .ok (.bool true) wx) := fun wx hx => ⟨(hx.g .full (by decide)).2, by
        have h1 := hx.neq (endErr A.f) .full
        rw [hev] at h1
        rw [decide_eq_false (by cases A.f <;> simp [endErr])] at h1
        exact h1⟩
      clear he hev
      · go_wp2_with (go_at_call 44; refine callRet K1.out ?_; rw [← HX.out]; intro v2 w2 h2; obtain ⟨st2, ab, cb, rfl, hby, hpb, hrd2, hu2, habs, _⟩ := h2; have HU2 : Hid (Upd (In L) w w2) := HU.out.trans hu2 (fun _ h _ => h); have HOW2 := Lib.hid (HOW.out.upd hu2 (fun k _ hk hb _ => by have := hk.2; have := HHI.out; omega) (fun k _ hk hb _ => by have := hk.2; have := HHI.out; have hb : w.heap.size ≤ k := hb; omega)); have HRD2 := Lib.hid hrd2; have HBY := Lib.hid hby; have HPB := Lib.hid hpb; have HABS := Lib.hid habs; have HEV2 := HEQ.out w2 (HE1.out.updL HB.out hu2); have hg2 := HEV2.1; have hn2 := HEV2.2; clear HEV2; clear hrd2 hu2 hby habs hpb; rw [HEV.out])
        have hfin : frags d (A0.left.length + 1) A0 = (fl, X) := by rw [HFR.out, HFR1.out, if_neg HNF.out]; simp
        have HFIN := Lib.hid hfin
        clear hfin
        go_wp2
        refine bodyPost_ret (results_tmp4 rfl _ _ _) rfl ?_
        rw [HFIN.out]
        refine ⟨st2, _, ab, cb, ?_, HOW2.out, HBY.out, HPB.out, HRD2.out, HU2.out, HABS.out⟩
        rw [HEV.out, HFN.out, Int.natCast_add]
        rfl
end Go.Proofs.YtnpalkndocokkaaDoor
