/- Texts of one kind, one behind the other. -/
import Derived.Test.YtmmjfpcmempeeaaDoorM6
import Derived.WalkSpells
import Derived.Lib.Builder
import Derived.Lib.MakeNoZero
import Derived.Lib.UnsafeStr
/- bytes.Clone; (*bufio.Reader).collectFragments. -/
namespace Go.Proofs.YtmmjfpcmempeeaaDoor
open Go.RowKit
theorem results_tmp4 {fn : Func} {t u v x : Tmp} (h : fn.results = #[.tmp t, .tmp u, .tmp v, .tmp x]) (tmps : Array Value) (P : Program) (w : World) :
    (results fn tmps).run P w = .ok (.tuple #[tmps.getD t undef, tmps.getD u undef, tmps.getD v undef, tmps.getD x undef]) w := by
  simp [results, h]
set_option maxHeartbeats 400000 in
theorem bytesClone (p : Addr) (c : Nat) (bs : List UInt8) (w : World) (hb : BytesA w (some p) c bs) (hl : bs.length ≤ 70368744177664) :
    Calls Tryd.prog 82 #[.slice (some p) bs.length c] w (Ret fun v w' => NewB w w' v bs) := by
  have hnews : ∀ q, some p = some q → ∀ j u, (bs.map bv)[j]? = some u → (w.alloc (.cells #[] 5)).cell? (q.add j) = some u := fun q hp => by
    simp only [Option.some.injEq] at hp; subst hp; exact (hb.new ((Upd.refl _ _).alloc _)).news
  have hown : (w.alloc (.cells #[] 5)).ownsRow w.heap.size 5 1 (.slice (some ⟨w.heap.size, 0, none⟩) 0 0) 0 [] := World.ownsRow_made w #[] 0 (Nat.le_refl _) (Nat.zero_le _) rfl
  have kn := fun (wx : World) (n c : Nat) => Lib.run_eql_slice_nil (P := Tryd.prog) wx 29 5 (some p) n c 0 0 Tryd.underlying29
  go_enter Tryd.func82, Tryd.ntmps82
  go_wp2_with (at_builtin; refine wpList_plain rfl (fun K hK => ?_); refine wp_append eB _ _ rfl w.heap.size _ 0 [] rfl hown (some p) bs.length c (bs.map bv) rfl (by simp) (fun h => by cases h) hnews (oneCell_bytes _) (by unfold maxLen; omega) (by omega) (by simp) ?_; intro v' w' h1 h2 h3; refine hK _ _ ?_; clear hK K)
  rw [Nat.zero_add, List.nil_append] at h1
  go_ret
  have h3' : v' ≠ .slice none 0 0 := fun h => by
    have h4 : Value.slice (some ⟨w.heap.size, 0, none⟩) 0 0 = .slice none 0 0 := (h3.1 h).1
    simp at h4
  refine ⟨((Upd.refl _ _).alloc _).grown h2 (fun k hk hl => by
    have hk : some w.heap.size = some k := hk
    simp only [Option.some.injEq] at hk; omega), ?_⟩
  have h1' := h1
  rcases h1'.2 with ⟨hv, hz⟩ | ⟨g, cap, cur, hv, _⟩
  · exact (h3' hv).elim
  · subst hv
    exact ⟨g, cap, rfl, h1⟩
/-- full buffers, what comes last, and the reader behind it -/
def frags (d : UInt8) : Nat → AR → List (List UInt8) × ((List UInt8 × Option Err) × AR)
  | 0, A => ([], (([], none), A))
  | n + 1, A => if (sliceA A d).1.2 = some .full then ((sliceA A d).1.1 :: (frags d n (sliceA A d).2).1, (frags d n (sliceA A d).2).2) else ([], sliceA A d)
theorem sliceA_full' {A : AR} {d : UInt8} (h : (sliceA A d).1.2 = some .full) : A.size ≤ A.left.length ∧ (sliceA A d).1.1 = A.left.take A.size ∧ (sliceA A d).2.left = A.left.drop A.size ∧ (sliceA A d).2.size = A.size := by
  cases hp : pos d (A.left.take A.size) with
  | some j => rw [sliceA_some hp] at h; cases h
  | none =>
    cases hb : (A.err || decide (A.left.length < A.size)) with
    | true =>
      rw [sliceA_end hp hb] at h
      cases hf : A.f <;> (rw [hf] at h; simp [endErr] at h)
    | false =>
      rw [sliceA_full hp hb]
      simp only [Bool.or_eq_false_iff, decide_eq_false_iff_not] at hb
      exact ⟨by omega, rfl, rfl, rfl⟩
/-- more fuel than bytes makes no difference -/
theorem frags_two {d : UInt8} : ∀ (n m : Nat) (A : AR), A.left.length < n → A.left.length < m → 1 ≤ A.size → frags d n A = frags d m A := by
  intro n
  induction n with
  | zero => intro m A h; omega
  | succ n ih =>
    intro m A h hm hs
    obtain ⟨m, rfl⟩ : ∃ k, m = k + 1 := ⟨m - 1, by omega⟩
    show (if _ then _ else _) = (if _ then _ else _)
    by_cases hf : (sliceA A d).1.2 = some .full
    · rw [if_pos hf, if_pos hf]
      have h4 := sliceA_full' hf
      have hlen : (sliceA A d).2.left.length < A.left.length := by rw [h4.2.2.1, List.length_drop]; omega
      rw [ih m (sliceA A d).2 (by omega) (by omega) (by rw [h4.2.2.2]; exact hs)]
    · rw [if_neg hf, if_neg hf]
theorem frags_fuel {d : UInt8} {n : Nat} {A : AR} (h : A.left.length < n) (hs : 1 ≤ A.size) : frags d n A = frags d (A.left.length + 1) A := frags_two n _ A h (Nat.lt_succ_self _) hs
def FragPost (S : Err → Addr) (w : World) (L : Loc) (x : List (List UInt8) × ((List UInt8 × Option Err) × AR)) (v : Value) (w' : World) : Prop :=
  ∃ st' lv ab c, v = .tuple #[lv, .slice ab x.2.1.1.length c, .int .i64 ((x.1.flatten.length + x.2.1.1.length : Nat) : Int), eV S x.2.1.2] ∧ OwnL w.heap.size (fun k => w.heap.size ≤ k) w' lv x.1 ∧ BytesA w' ab c x.2.1.1 ∧ (∀ p, ab = some p → p.block = L.bb) ∧ Rd S w' L st' ∧ Upd (In L) w w' ∧ Abs st' x.2.2
set_option maxRecDepth 100000 in
set_option maxHeartbeats 2000000 in
theorem collect {S : Err → Addr} {B : Nat} {w : World} {L : Loc} {st : RS} {A0 : AR} (E : Env S B w) (hB : B ≤ L.lo) (h : Rd S w L st) (hA : Abs st A0) (hhi : L.hi ≤ w.heap.size) (hl : A0.left.length ≤ 1048576) (d : UInt8) :
    Calls Tryd.prog 76 #[.pointer (some ⟨L.b, 0, none⟩), .int .u8 (d.toNat : Int)] w (Ret (FragPost S w L (frags d (A0.left.length + 1) A0))) := by
  have HE := Lib.hid E
  have HB := Lib.hid hB
  have H := Lib.hid h
  have HA := Lib.hid hA
  have HHI := Lib.hid hhi
  have HL := Lib.hid hl
  have HSZ : Hid (16 ≤ A0.size) := by have := h.nlo; rw [hA.size] at this; exact this
  clear E hB h hA hhi hl
  go_enter Tryd.func76, Tryd.ntmps76
  go_wp2
  go_loopg [4, 6, 7] (A0.left.length) (fun gk t4 t6 t7 wx => t7 = .nilIface ∧ ∃ (st1 : RS) (A : AR) (fl : List (List UInt8)), t6 = .int .i64 (fl.flatten.length : Int) ∧ Rd S wx L st1 ∧ Upd (In L) w wx ∧ Abs st1 A ∧ OwnL w.heap.size (fun k => w.heap.size ≤ k) wx t4 fl ∧ A.size = A0.size ∧ A.left.length + fl.flatten.length = A0.left.length ∧ fl.length ≤ fl.flatten.length ∧ A.left.length ≤ gk ∧ frags d (A0.left.length + 1) A0 = (fl ++ (frags d (A.left.length + 1) A).1, (frags d (A.left.length + 1) A).2))
  case atStart => exact ⟨rfl, st, A0, [], rfl, H.out, Upd.refl _ _, HA.out, OwnL.nil _ _ _, rfl, by simp, Nat.le_refl _, Nat.le_refl _, rfl⟩
  case round =>
    obtain ⟨rfl, st1, A, fl, rfl, h1, u1, hA1, how, hsz, hlen, hfl, hgk, hfr⟩ := hrel
    obtain ⟨X, hX⟩ : ∃ X, X = sliceA A d := ⟨_, rfl⟩
    obtain ⟨fn, hfn⟩ : ∃ fn, fl.flatten.length = fn := ⟨_, rfl⟩
    have hE1 := HE.out.updL HB.out u1
    have HX := Lib.hid hX
    have K1 := Lib.hid (readSlice hE1 HB.out h1 hA1 d)
    have HE1 := Lib.hid hE1
    have hfr1 : frags d (A.left.length + 1) A = if X.1.2 = some .full then (X.1.1 :: (frags d A.left.length X.2).1, (frags d A.left.length X.2).2) else ([], X) := by rw [hX]; rfl
    have hXl := sliceA_left A d
    have hXe := sliceA_err A d
    have hXf : X.1.2 = some .full → A.size ≤ A.left.length ∧ X.1.1 = A.left.take A.size ∧ X.2.left = A.left.drop A.size ∧ X.2.size = A.size := fun hh => by rw [hX] at hh ⊢; exact sliceA_full' hh
    rw [← hX] at hXl hXe
    have HFR := Lib.hid hfr
    have HFR1 := Lib.hid hfr1
    have HXL := Lib.hid hXl
    have HXF := Lib.hid hXf
    have HOW := Lib.hid how
    have HU := Lib.hid u1
    have HS := Lib.hid hsz
    have HLEN := Lib.hid hlen
    have HFL := Lib.hid hfl
    have HGK := Lib.hid hgk
    have HFN := Lib.hid hfn
    rw [hfn]
    have hfn20 : fn ≤ 1048576 := by have := HL.out; omega
    clear h1 u1 hA1 how hsz hlen hfl hgk hfr hfr1 hXl hXf hX hE1 hfn
    have hline : X.1.1.length ≤ 1048576 := by have := HXL.out.1; have := HLEN.out; have := HL.out; omega
    rcases hXe with he | he | he
    · have HEV : Hid (eV S X.1.2 = .nilIface) := by rw [Hid, he]; rfl
      have HNF : Hid (¬ X.1.2 = some .full) := by rw [he]; intro h; cases h
      have HEQ : Hid (∀ wx : World, Env S B wx → True) := fun _ _ => trivial
      clear he
      · go_wp2_with (go_at_call 64; refine callRet K1.out ?_; rw [← HX.out]; intro v2 w2 h2; obtain ⟨st2, ab, cb, rfl, hby, hpb, hrd2, hu2, habs, _⟩ := h2; have HU2 : Hid (Upd (In L) w w2) := HU.out.trans hu2 (fun _ h _ => h); have HOW2 := Lib.hid (HOW.out.upd hu2 (fun k _ hk hb _ => by have := hk.2; have := HHI.out; omega) (fun k _ hk hb _ => by have := hk.2; have := HHI.out; have hb : w.heap.size ≤ k := hb; omega)); have HRD2 := Lib.hid hrd2; have HBY := Lib.hid hby; have HPB := Lib.hid hpb; have HABS := Lib.hid habs; have HEV2 := HEQ.out w2 (HE1.out.updL HB.out hu2); clear HEV2; clear hrd2 hu2 hby habs hpb; rw [HEV.out])
        have hfin : frags d (A0.left.length + 1) A0 = (fl, X) := by rw [HFR.out, HFR1.out, if_neg HNF.out]; simp
        have HFIN := Lib.hid hfin
        clear hfin
        go_wp2
        refine bodyPost_ret (results_tmp4 rfl _ _ _) rfl ?_
        rw [HFIN.out]
        refine ⟨st2, _, ab, cb, ?_, HOW2.out, HBY.out, HPB.out, HRD2.out, HU2.out, HABS.out⟩
        rw [HEV.out, HFN.out, Int.natCast_add]
        rfl
    · have HEV : Hid (eV S X.1.2 = .iface 151 (.pointer (some (S .full)))) := by rw [Hid, he]; rfl
      have HYF : Hid (X.1.2 = some .full) := he
      have HEQ : Hid (∀ wx : World, Env S B wx → wx.cell? ⟨1, 0, none⟩ = some (.iface 151 (.pointer (some (S .full)))) ∧ (binOp .neq 73 (.iface 151 (.pointer (some (S .full)))) (.iface 151 (.pointer (some (S .full))))).run Tryd.prog wx = .ok (.bool false) wx) := fun wx hx => ⟨(hx.g .full (by decide)).2, hx.neq .full .full⟩
      clear he
      go_wp2_with (go_at_call 64; refine callRet K1.out ?_; rw [← HX.out]; intro v2 w2 h2; obtain ⟨st2, ab, cb, rfl, hby, hpb, hrd2, hu2, habs, _⟩ := h2; have HU2 : Hid (Upd (In L) w w2) := HU.out.trans hu2 (fun _ h _ => h); have HOW2 := Lib.hid (HOW.out.upd hu2 (fun k _ hk hb _ => by have := hk.2; have := HHI.out; omega) (fun k _ hk hb _ => by have := hk.2; have := HHI.out; have hb : w.heap.size ≤ k := hb; omega)); have HRD2 := Lib.hid hrd2; have HBY := Lib.hid hby; have HPB := Lib.hid hpb; have HABS := Lib.hid habs; have HEV2 := HEQ.out w2 (HE1.out.updL HB.out hu2); have hg2 := HEV2.1; have hn2 := HEV2.2; clear HEV2; clear hrd2 hu2 hby habs hpb; rw [HEV.out])
      have hsz16 : A.size ≤ X.1.1.length := by
        have h1 := HXF.out HYF.out
        rw [h1.2.1, List.length_take]; omega
      have hnn : 0 < X.1.1.length := by have := HS.out; have := HSZ.out; omega
      obtain ⟨p, rfl⟩ : ∃ p, ab = some p := by
        cases ab with
        | none => have := HBY.out.2.2.1 rfl; have := HBY.out.1; omega
        | some p => exact ⟨p, rfl⟩
      go_at_call 82
      refine callRet (bytesClone p cb X.1.1 w2 HBY.out (by omega)) ?_
      intro v3 w3 h3
      have HX3 := Lib.hid (h3.elem HU2.out.size)
      have HOW3 := Lib.hid (HOW2.out.new h3.1)
      have HRD3 := Lib.hid (HRD2.out.new h3.1)
      have HU3 : Hid (Upd (In L) w w3) := HU2.out.andNew h3.1
      obtain ⟨_, g3, cp3, hv3, _⟩ := h3
      subst hv3
      clear hsz16 hg2 hn2
      go_wp2_with (at_builtin; refine wpList_plain rfl (fun K hK => ?_); obtain ⟨vs, hvl, ho1, hpe⟩ := HOW3.out; refine wp_append eP (.tmp 25) (.tmp 27) rfl w.heap.size _ _ _ rfl (ownsRow_new ho1 ((Upd.refl _ _).alloc _)) (some ⟨w3.heap.size, 0, none⟩) 1 1 [.slice (some ⟨g3, 0, none⟩) X.1.1.length cp3] rfl rfl (fun h => by cases h) box_news (by simp [Value.oneCell']) (by have := HFL.out; have := HFN.out; unfold maxLen; omega) (by have := HFL.out; have := HFN.out; omega) (Nat.le_trans HU3.out.size ((Upd.refl (fun _ => False) _).alloc _).size) ?_; intro v4 w4 h1 h2 h3; have hgr := OwnL.grow hvl ho1 hpe HX3.out ((Upd.refl _ _).alloc _) h1 h2; have HOW4 := Lib.hid hgr.1; have HG4 := Lib.hid hgr.2; refine hK _ _ ?_; clear hK K h1 h2 h3 hvl ho1 hpe hgr)
      go_roundg (X.2.left.length)
      case rel =>
        have hf := HXF.out HYF.out
        have hll : X.2.left.length + X.1.1.length = A.left.length := by
          rw [hf.2.2.1, hf.2.1, List.length_take, List.length_drop]; omega
        have hfl2 : (fl ++ [X.1.1]).flatten.length = fn + X.1.1.length := by rw [List.flatten_append, List.length_append, HFN.out]; simp
        refine ⟨rfl, st2, X.2, fl ++ [X.1.1], ?_, HRD3.out.upd ((Upd.refl (fun _ => False) _).alloc _ |>.new.trans HG4.out (fun k hk _ => hk)) (fun k hk hin => by have := hk.1; have := hin.2; have := HHI.out; omega), ?_, HABS.out, HOW4.out, by rw [hf.2.2.2]; exact HS.out, by rw [hfl2]; have := HLEN.out; have := HFN.out; omega, ?_, Nat.le_refl _, ?_⟩
        · rw [hfl2]; congr 1
        · exact (HU3.out.alloc _).trans HG4.out (fun k hk hlt => by have := hk.1; omega)
        · rw [hfl2, List.length_append]; have := HFL.out; have := HFN.out; simp; omega
        · rw [HFR.out, HFR1.out, if_pos HYF.out]
          have hfu : frags d A.left.length X.2 = frags d (X.2.left.length + 1) X.2 := frags_fuel (by omega) (by rw [hf.2.2.2]; have := HS.out; have := HSZ.out; omega)
          rw [hfu]; simp
      case measure =>
        have hf := HXF.out HYF.out
        have hll : X.2.left.length + X.1.1.length = A.left.length := by
          rw [hf.2.2.1, hf.2.1, List.length_take, List.length_drop]; omega
        have := HGK.out
        omega
    · obtain ⟨et, ev, hev⟩ := endV S A.f
      have HEV : Hid (eV S X.1.2 = .iface et ev) := by rw [Hid, he]; exact hev
      have HNF : Hid (¬ X.1.2 = some .full) := by rw [he]; intro h; cases hf : A.f <;> (rw [hf] at h; simp [endErr] at h)
      have HEQ : Hid (∀ wx : World, Env S B wx → wx.cell? ⟨1, 0, none⟩ = some (.iface 151 (.pointer (some (S .full)))) ∧ (binOp .neq 73 (.iface et ev) (.iface 151 (.pointer (some (S .full))))).run Tryd.prog wx = .ok (.bool true) wx) := fun wx hx => ⟨(hx.g .full (by decide)).2, by
        have h1 := hx.neq (endErr A.f) .full
        rw [hev] at h1
        rw [decide_eq_false (by cases A.f <;> simp [endErr])] at h1
        exact h1⟩
      clear he hev
      · go_wp2_with (go_at_call 64; refine callRet K1.out ?_; rw [← HX.out]; intro v2 w2 h2; obtain ⟨st2, ab, cb, rfl, hby, hpb, hrd2, hu2, habs, _⟩ := h2; have HU2 : Hid (Upd (In L) w w2) := HU.out.trans hu2 (fun _ h _ => h); have HOW2 := Lib.hid (HOW.out.upd hu2 (fun k _ hk hb _ => by have := hk.2; have := HHI.out; omega) (fun k _ hk hb _ => by have := hk.2; have := HHI.out; have hb : w.heap.size ≤ k := hb; omega)); have HRD2 := Lib.hid hrd2; have HBY := Lib.hid hby; have HPB := Lib.hid hpb; have HABS := Lib.hid habs; have HEV2 := HEQ.out w2 (HE1.out.updL HB.out hu2); have hg2 := HEV2.1; have hn2 := HEV2.2; clear HEV2; clear hrd2 hu2 hby habs hpb; rw [HEV.out])
        have hfin : frags d (A0.left.length + 1) A0 = (fl, X) := by rw [HFR.out, HFR1.out, if_neg HNF.out]; simp
        have HFIN := Lib.hid hfin
        clear hfin
        go_wp2
        refine bodyPost_ret (results_tmp4 rfl _ _ _) rfl ?_
        rw [HFIN.out]
        refine ⟨st2, _, ab, cb, ?_, HOW2.out, HBY.out, HPB.out, HRD2.out, HU2.out, HABS.out⟩
        rw [HEV.out, HFN.out, Int.natCast_add]
        rfl
end Go.Proofs.YtmmjfpcmempeeaaDoor
/- (*bufio.Reader).ReadBytes. -/
namespace Go.Proofs.YtmmjfpcmempeeaaDoor
open Go.RowKit
/-- bytes told in a row of their own -/
def RBPost (S : Err → Addr) (w : World) (L : Loc) (x : List (List UInt8) × ((List UInt8 × Option Err) × AR)) (v : Value) (w' : World) : Prop :=
  ∃ st' g, v = .tuple #[.slice (some ⟨g, 0, none⟩) (x.1.flatten ++ x.2.1.1).length (x.1.flatten ++ x.2.1.1).length, eV S x.2.1.2] ∧ w.heap.size ≤ g ∧ w'.heap[g]? = some (.cells ((x.1.flatten ++ x.2.1.1).map bv).toArray 5 (0, 0)) ∧ Rd S w' L st' ∧ Upd (In L) w w' ∧ Abs st' x.2.2
/-- the first m of n bytes are written -/
def Filled (w : World) (g n : Nat) (bs : List UInt8) : Prop := ∃ cur : List UInt8, cur.length = n ∧ bs.length ≤ n ∧ w.heap[g]? = some (.cells (cur.map bv).toArray 5 (0, 0)) ∧ cur.take bs.length = bs
theorem Filled.copy {w1 : World} {g n : Nat} {bs cs : List UInt8} {cur : List UInt8} (h1 : cur.length = n) (h2 : bs.length + cs.length ≤ n) (h3 : cur.take bs.length = bs) (hw : w1.heap[g]? = some (.cells (splice (cur.map bv).toArray.toList bs.length (cs.map bv)).toArray 5 (0, 0))) : Filled w1 g n (bs ++ cs) := by
  have e : splice (cur.map bv).toArray.toList bs.length (cs.map bv) = (bs ++ (cs ++ cur.drop (bs.length + cs.length))).map bv := by
    simp only [splice, List.length_map]
    conv => rhs; rw [List.map_append, List.map_append]
    congr 1
    · conv => rhs; rw [← h3]
      simp [List.map_take]
    · simp [List.map_drop]
  rw [e] at hw
  refine ⟨bs ++ (cs ++ cur.drop (bs.length + cs.length)), by simp; omega, by simp; omega, hw, ?_⟩
  rw [← List.append_assoc, List.take_left]
theorem frags_pos {d : UInt8} : ∀ (n : Nat) (A : AR), 1 ≤ A.size → ∀ p ∈ (frags d n A).1, 0 < p.length := by
  intro n
  induction n with
  | zero => intro A _ p hp; simp [frags] at hp
  | succ n ih =>
    intro A hs p hp
    unfold frags at hp
    split at hp
    · rename_i hf
      have h4 := sliceA_full' hf
      simp only [List.mem_cons] at hp
      rcases hp with rfl | hp
      · rw [h4.2.1, List.length_take]; omega
      · exact ih _ (by rw [h4.2.2.2]; exact hs) p hp
    · simp at hp
theorem made_zero (n : Nat) : madeCells (Value.int .u8 0).cells (n * 1) = ((List.replicate n (0 : UInt8)).map bv).toArray := made_bytes n
theorem rb_fin {S : Err → Addr} {w w1 wr w2 : World} {L : Loc} {st1 : RS} {X : List (List UInt8) × ((List UInt8 × Option Err) × AR)} {g n m pl : Nat} {cur : List UInt8} (hc1 : cur.length = m) (h2 : X.1.flatten.length = n) (hc4 : cur.take X.1.flatten.length = X.1.flatten)
    (hw : w2.heap[g]? = some (.cells (splice (cur.map bv).toArray.toList n (X.2.1.1.map bv)).toArray 5 (0, 0))) (hm : X.1.flatten.length + X.2.1.1.length = m) (hpl : X.2.1.1.length = pl) (hg : g = w1.heap.size) (hrd : Rd S w1 L st1) (hu : Upd (In L) w w1) (habs : Abs st1 X.2.2) (hhi : L.hi ≤ w.heap.size)
    (hu1 : Upd (fun j => j = g) w1 wr) (hu2 : Upd (fun j => j = g) wr w2) : RBPost S w L X (.tuple #[.slice (some ⟨g, 0, none⟩) m m, eV S X.2.1.2]) w2 := by
  have hz := hu.size
  have hF : Filled w2 g m (X.1.flatten ++ X.2.1.1) := Filled.copy (cur := cur) hc1 (by omega) hc4 (by rw [h2]; exact hw)
  obtain ⟨cur2, q1, q2, q3, q4⟩ := hF
  have hl : (X.1.flatten ++ X.2.1.1).length = m := by rw [List.length_append]; exact hm
  have hu12 : Upd (fun j => j = g) w1 w2 := hu1.trans hu2 (fun _ h _ => h)
  refine ⟨st1, g, by rw [hl], by omega, ?_, hrd.upd hu12 (fun k hk hin => by have hk : k = g := hk; have := hin.2; omega), hu.trans hu12 (fun k hk hlt => by have hk : k = g := hk; omega), habs⟩
  rw [q3, ← q4, hl, List.take_of_length_le (by omega)]
set_option maxRecDepth 100000 in
set_option maxHeartbeats 2000000 in
theorem readBytes {S : Err → Addr} {B : Nat} {w : World} {L : Loc} {st : RS} {A0 : AR} (E : Env S B w) (hB : B ≤ L.lo) (h : Rd S w L st) (hA : Abs st A0) (hhi : L.hi ≤ w.heap.size) (hl : A0.left.length ≤ 1048576) (d : UInt8) (htot : (frags d (A0.left.length + 1) A0).1.flatten.length + (frags d (A0.left.length + 1) A0).2.1.1.length ≤ 1048576) :
    Calls Tryd.prog 66 #[.pointer (some ⟨L.b, 0, none⟩), .int .u8 (d.toNat : Int)] w (Ret (RBPost S w L (frags d (A0.left.length + 1) A0))) := by
  have K1 := Lib.hid (collect E hB h hA hhi hl d)
  obtain ⟨X, hX⟩ : ∃ X, X = frags d (A0.left.length + 1) A0 := ⟨_, rfl⟩
  have hpos : ∀ p ∈ X.1, 0 < p.length := by rw [hX]; exact frags_pos _ _ (by have := h.nlo; rw [hA.size] at this; omega)
  have HPOS := Lib.hid hpos
  rw [← hX] at K1 htot ⊢
  obtain ⟨m, hm⟩ : ∃ m, X.1.flatten.length + X.2.1.1.length = m := ⟨_, rfl⟩
  have HM := Lib.hid hm
  rw [hm] at htot
  have HHI := Lib.hid hhi
  clear E h hA hl hX hm hhi hpos
  go_enter Tryd.func66, Tryd.ntmps66
  go_wp2_with (first | (go_at_call 76; refine callRet K1.out ?_; intro v w1 hv; obtain ⟨st1, lv, ab, c, rfl, how, hby, hpb, hrd, hu, habs⟩ := hv; rw [HM.out]; obtain ⟨la, lc, rfl, hpc⟩ := how.pieces; have HOW := Lib.hid how; have HPC := Lib.hid hpc; have HBY := Lib.hid hby; have HPB := Lib.hid hpb; have HRD := Lib.hid hrd; have HU := Lib.hid hu; have HABS := Lib.hid habs; clear how hpc hby hpb hrd hu habs) | (at_make; refine wpList_plain rfl (fun K hK => ?_); refine wp_make eB (.tmp 20) (.tmp 20) rfl .i64 .i64 m m rfl rfl (Nat.le_refl _) (by omega) (by unfold maxLen; omega) ?_; rw [made_zero]; refine hK _ _ ?_; clear hK K))
  have hpl := HPC.out.1
  have hpm := HPC.out.2.1
  unfold maxLen at hpm
  obtain ⟨g, hg⟩ : ∃ g, g = w1.heap.size := ⟨_, rfl⟩
  rw [← hg]
  have HG := Lib.hid hg
  clear hg
  go_loopw [8, 24] (fun n8 i wr => ∃ (k : Nat), i = .int .i64 (k : Int) ∧ k ≤ X.1.length ∧ n8 = .int .i64 ((X.1.take k).flatten.length : Int) ∧ Filled wr g m (X.1.take k).flatten ∧ Upd (fun j => j = g) w1 wr) (fun _ i _ => X.1.length - (intOf i).toNat)
  case atStart =>
    refine ⟨0, rfl, Nat.zero_le _, rfl, ⟨List.replicate m 0, by simp, Nat.zero_le _, ?_, rfl⟩, (Upd.refl _ _).alloc _⟩
    rw [HG.out]; exact (heap_alloc_new _ _).trans (by simp)
  case round =>
    obtain ⟨k, rfl, hk, rfl, hfill, hu⟩ := hrel
    obtain ⟨n, hn⟩ : ∃ n, (X.1.take k).flatten.length = n := ⟨_, rfl⟩
    have HN := Lib.hid hn
    rw [hn]
    have hbel : Below w1.heap.size w1 wr := hu.below (fun j hj => by have := HG.out; have hj : j = g := hj; omega) (Nat.le_refl _)
    obtain ⟨cur, hc1, hc2, hc3, hc4⟩ := hfill
    have hsum : n ≤ X.1.flatten.length := by rw [← hn]; exact lensum_take_le_all X.1 k
    have hXm := HM.out
    by_cases hlt : k < X.1.length
    · obtain ⟨b, o, ai, ci, pl, hla, hm', hc, hb1, hb2, hby⟩ := (HPC.out.below hbel).at hlt
      subst hla
      have hpp : 0 < pl := by rw [← hm']; exact HPOS.out _ (List.getElem_mem hlt)
      have e1 : (X.1.take (k + 1)).flatten = (X.1.take k).flatten ++ X.1[k] := flatten_take_succ X.1 k hlt
      have e2 := lensum_take_le_all X.1 (k + 1)
      rw [e1, List.length_append, hn, hm'] at e2
      have hmn : ¬ m = n := by omega
      have hnm : n + pl ≤ m := by omega
      have HC1 := Lib.hid hc1
      have HC3 := Lib.hid hc3
      have HC4 := Lib.hid hc4
      have HU2 := Lib.hid hu
      have HPL := Lib.hid hm'
      have HB2 := Lib.hid hby
      have HE1 := Lib.hid e1
      clear hc1 hc2 hc3 hc4 hu hm' hby e1 e2 hn hbel hsum hXm
      go_wp2_with fail
      refine wp_region_lx {} (by kernel_rfl) (by kernel_rfl) ⟨fun _ _ _ h => h.2, fun _ _ h => h⟩ ?_
      (repeat' (first | (refine wpLx_calm rfl rfl rfl (fun K hK => ?_); go_step <;> (refine hK _ ?_; clear hK K)) | (refine wpLx_skip2 rfl rfl rfl ?_; go_simp) | (refine wpLx_calm2 rfl rfl rfl rfl rfl (fun K hK => ?_); go_step <;> (refine hK _ ?_; clear hK K))))
      refine wpLx_eff rfl rfl rfl (fun K hK => ?_)
      refine wp_copy eB (.tmp 30) (.tmp 34) 29 rfl g n (m - n) (m - n) rfl (cur.map bv).toArray 5 HC3.out ai pl ci rfl (fun hh => by have := HB2.out.2.2.1 hh; have := HB2.out.1; have := HPL.out; omega) (X.1[k].map bv) (by rw [List.length_map, HPL.out]; omega) (fun p hp => by subst hp; exact HB2.out.news) (by rw [List.length_map, HPL.out]; simp only [List.size_toArray, List.length_map]; rw [HC1.out]; exact hnm) (oneCell_bytes _) ?_
      intro w2 hw2 hu2 hz2
      rw [List.length_map, HPL.out]
      refine hK _ _ ?_
      clear hK K
      (repeat' (first | (refine wpLx_calm rfl rfl rfl (fun K hK => ?_); go_step <;> (refine hK _ ?_; clear hK K)) | (refine wpLx_skip2 rfl rfl rfl ?_; go_simp) | (refine wpLx_calm2 rfl rfl rfl rfl rfl (fun K hK => ?_); go_step <;> (refine hK _ ?_; clear hK K))))
      refine wpLx_nil ?_
      have hF2 : Filled w2 g m (X.1.take (k + 1)).flatten := by
        rw [HE1.out]
        refine Filled.copy (cur := cur) HC1.out (by rw [HN.out, HPL.out]; exact hnm) HC4.out ?_
        rw [HN.out]; exact hw2
      have HF2 := Lib.hid hF2
      have HU3 : Hid (Upd (fun j => j = g) w1 w2) := (HU2.out.drew).trans hu2 (fun _ h _ => h)
      have HLN : Hid ((X.1.take (k + 1)).flatten.length = n + pl) := by rw [Hid, HE1.out, List.length_append, HN.out, HPL.out]
      clear hF2 hw2 hu2 hz2
      go_wp2
      go_roundw
      case rel => exact ⟨k + 1, by go_num, by omega, by rw [HLN.out]; first | rfl | go_num, HF2.out, HU3.out⟩
      case measure => simp [intOf]; omega
    · obtain rfl : k = X.1.length := by omega
      rw [List.take_length] at hn hc4 hc2
      have HC1 := Lib.hid hc1
      have HC3 := Lib.hid hc3
      have HC4 := Lib.hid hc4
      have HU2 := Lib.hid hu
      have HBY2 := Lib.hid (HBY.out.upd hu (fun p hp _ hh => by have := HPB.out p hp; have hh : p.block = g := hh; have := HG.out; have := HRD.out.bbhi; have := HHI.out; have := HU.out.size; omega))
      obtain ⟨pl, hpl'⟩ : ∃ pl, X.2.1.1.length = pl := ⟨_, rfl⟩
      have HPL := Lib.hid hpl'
      have HN' := Lib.hid hn
      rw [hpl', hn] at hXm
      clear hc1 hc2 hc3 hc4 hu hbel hsum hpl' hn
      by_cases hmn : m = n
      · have hp0 : pl = 0 := by omega
        go_wp2_with (refine wpList_plain rfl (fun K hK => ?_); refine wp_copy eB (.tmp 40) (.tmp 41) 29 rfl g 0 0 0 rfl (cur.map bv).toArray 5 HC3.out ab X.2.1.1.length c rfl (fun hh => by have := HBY2.out.2.2.1 hh; have := HBY2.out.1; omega) (X.2.1.1.map bv) (by rw [List.length_map]; have := HPL.out; omega) (fun p hp => by subst hp; exact HBY2.out.news) (by rw [List.length_map, HPL.out]; simp only [List.size_toArray, List.length_map]; rw [HC1.out]; omega) (oneCell_bytes _) ?_; intro w2 hw2 hu2 hz2; have HW2 := Lib.hid hw2; have HU2' := Lib.hid hu2; clear hw2 hu2 hz2; refine hK _ _ ?_; clear hK K)
        go_ret2
        refine rb_fin (n := n) (HC1.out.trans hmn) (by rw [HN'.out]) HC4.out ?_ (HM.out.trans hmn) (HPL.out) HG.out HRD.out HU.out HABS.out HHI.out HU2.out HU2'.out
        have := HW2.out
        rw [List.eq_nil_of_length_eq_zero (HPL.out.trans hp0)] at this ⊢
        simpa [splice] using this
      · 
        go_wp2_with (refine wpList_plain rfl (fun K hK => ?_); refine wp_copy eB (.tmp 40) (.tmp 41) 29 rfl g n (m - n) (m - n) rfl (cur.map bv).toArray 5 HC3.out ab X.2.1.1.length c rfl (fun hh => by have := HBY2.out.2.2.1 hh; have := HBY2.out.1; omega) (X.2.1.1.map bv) (by rw [List.length_map]; have := HPL.out; omega) (fun p hp => by subst hp; exact HBY2.out.news) (by rw [List.length_map, HPL.out]; simp only [List.size_toArray, List.length_map]; rw [HC1.out]; omega) (oneCell_bytes _) ?_; intro w2 hw2 hu2 hz2; have HW2 := Lib.hid hw2; have HU2' := Lib.hid hu2; clear hw2 hu2 hz2; refine hK _ _ ?_; clear hK K)
        go_ret2
        refine rb_fin (n := n) HC1.out (by rw [HN'.out]) HC4.out ?_ HM.out (HPL.out) HG.out HRD.out HU.out HABS.out HHI.out HU2.out HU2'.out
        exact HW2.out
end Go.Proofs.YtmmjfpcmempeeaaDoor
/- strings.Builder: copyCheck, Grow, Write, String. -/
namespace Go.Proofs.YtmmjfpcmempeeaaDoor
open Go.RowKit
/-- a builder at block b -/
def Bld (w : World) (base b : Nat) (p v : Value) (bs : List UInt8) : Prop :=
  base ≤ b ∧ w.heap[b]? = some (.cells #[p, v] 145 (0, 0)) ∧ w.ownsRow base 5 1 v bs.length (bs.map bv) ∧ v.ownBlock ≠ some b
theorem bInfo : ∃ j, Tryd.prog.info? 145 = some j ∧ j.size = 2 := by
  have h : (Tryd.prog.info? 145).map (·.size) = some 2 := by kernel_rfl
  cases hj : Tryd.prog.info? 145 with
  | none => rw [hj] at h; cases h
  | some j => rw [hj] at h; exact ⟨j, rfl, by simpa using h⟩
theorem bLies : liesAt Tryd.prog Tryd.prog.depth 145 (2 / Tryd.prog.cellsOf 145) 0 145 1 = true := by kernel_rfl
set_option maxRecDepth 100000 in
set_option maxHeartbeats 1000000 in
theorem copyCheck0 {w : World} {b : Nat} {v : Value} (h : w.heap[b]? = some (.cells #[.pointer none, v] 145 (0, 0))) :
    Calls Tryd.prog 83 #[.pointer (some ⟨b, 0, none⟩)] w (Ret fun _ w' => Upd (fun k => k = b) w w' ∧ w'.heap[b]? = some (.cells #[.pointer (some ⟨b, 0, none⟩), v] 145 (0, 0))) := by
  have hc0 : w.cell? ⟨b, 0, none⟩ = some (.pointer none) := by rw [World.cell_of_heap h]; rfl
  have hsh : w.shape? b = some (145, 2) := by simp [World.shape?, h]
  have hz : w.frozen? ⟨b, 0, none⟩ = false := by simp [World.frozen?, h]
  obtain ⟨j, hj, hj2⟩ := bInfo
  have e1 := Lib.run_to_unsafe (P := Tryd.prog) (w := w) (t := 145) ⟨b, 0, none⟩ Tryd.underlying143 Tryd.underlying148 hj (by omega) hsh (show 0 < 2 by omega)
  have e2 := Lib.run_from_unsafe (P := Tryd.prog) (w := w) (u := 145) ⟨b, 0, none⟩ Tryd.underlying148 Tryd.underlying143 hj hsh bLies
  have H := Lib.hid h
  clear h hsh hj hj2
  go_enter Tryd.func83, Tryd.ntmps83
  go_wp2
  rw [run_callFunc_extern Tryd.func85 (by kernel_rfl) (by kernel_rfl) (by kernel_rfl) (e := Extern.AbiNoEscape.same) (by kernel_rfl), Lib.run_noEscape]
  simp only [Result.andThen]
  rw [Oper.upon_value]
  go_wp2
  refine bodyPost_end (results_none rfl _ _ _) rfl ?_
  exact ⟨(Upd.refl (fun k => k = b) w).setCell (p := ⟨b, 0, none⟩) (fun _ => rfl) _, by simp [World.setCell, Array.getElem?_modify, H.out]⟩
set_option maxRecDepth 100000 in
set_option maxHeartbeats 1000000 in
theorem copyCheck1 {w : World} {b : Nat} {v : Value} (h : w.heap[b]? = some (.cells #[.pointer (some ⟨b, 0, none⟩), v] 145 (0, 0))) :
    Calls Tryd.prog 83 #[.pointer (some ⟨b, 0, none⟩)] w (Ret fun _ w' => w = w') := by
  have hc0 : w.cell? ⟨b, 0, none⟩ = some (.pointer (some ⟨b, 0, none⟩)) := by rw [World.cell_of_heap h]; rfl
  obtain ⟨j, hj, hj2⟩ := bInfo
  have e1 := Lib.run_neq_ptr_same (P := Tryd.prog) (w := w) (tp := 143) (te := 145) ⟨b, 0, none⟩ Tryd.underlying143 hj
  clear h hj hj2
  go_enter Tryd.func83, Tryd.ntmps83
  go_wp2
  refine bodyPost_end (results_none rfl _ _ _) rfl ?_
  rfl
/-- room for at least n bytes, whatever they are -/
theorem makeNoZero (n : Nat) (hn : n ≤ 70368744177664) (w : World) : ∃ cs : Array Value, (Extern.BytealgMakeNoZero.makeNoZero #[3] #[29] #[.int .i64 (n : Int)]).run Tryd.prog w = .ok (.slice (some ⟨w.heap.size, 0, none⟩) n cs.size) (w.drew.drew.alloc (.cells cs 5)) ∧ n ≤ cs.size ∧ cs.size ≤ maxLen := by
  obtain ⟨cs, h1, h2, h3⟩ := Lib.run_makeNoZero (P := Tryd.prog) w #[3] 29 5 Tryd.underlying29 n (by omega)
  exact ⟨cs, h1, h2, h3 (by unfold maxLen; omega)⟩
set_option maxRecDepth 100000 in
set_option maxHeartbeats 1000000 in
theorem grow {w : World} {b n : Nat} {p : Value} (h : w.heap[b]? = some (.cells #[p, .slice none 0 0] 145 (0, 0))) (hn : n ≤ 70368744177664) :
    Calls Tryd.prog 84 #[.pointer (some ⟨b, 0, none⟩), .int .i64 (n : Int)] w (Ret fun _ w' => ∃ g cs, w.heap.size ≤ g ∧ n ≤ cs.size ∧ cs.size ≤ maxLen ∧ w'.heap[g]? = some (.cells cs 5 (0, 0)) ∧ Upd (fun k => k = b) w w' ∧ w'.heap[b]? = some (.cells #[p, .slice (some ⟨g, 0, none⟩) 0 cs.size] 145 (0, 0))) := by
  have hc1 : w.cell? ⟨b, 1, none⟩ = some (.slice none 0 0) := by rw [World.cell_of_heap h]; rfl
  have H := Lib.hid h
  clear h
  go_enter Tryd.func84, Tryd.ntmps84
  go_wp2_with fail
  refine wp_region_lx {ld := [17], gd := [13]} (by kernel_rfl) (by kernel_rfl) ⟨fun _ _ _ h => h.2, fun _ _ h => h⟩ ?_
  (repeat' (first | (refine wpLx_calm rfl rfl rfl (fun K hK => ?_); go_step <;> (refine hK _ ?_; clear hK K)) | (refine wpLx_skip2 rfl rfl rfl ?_; go_simp) | (refine wpLx_calm2 rfl rfl rfl rfl rfl (fun K hK => ?_); go_step <;> (refine hK _ ?_; clear hK K))))
  obtain ⟨cs, m1, m2, m3⟩ := makeNoZero n hn w.drew
  refine wpLx_grow rfl rfl rfl (Upd.refl _ _) (fun K hK => ?_)
  go_step
  rw [run_callFunc_extern Tryd.func86 (by kernel_rfl) (by kernel_rfl) (by kernel_rfl) (e := Extern.BytealgMakeNoZero.makeNoZero #[3] #[29]) (by kernel_rfl), m1]
  simp only [Result.andThen]
  rw [Oper.upon_value]
  refine hK _ _ ((Upd.refl _ _).drew.drew.alloc _) ?_
  clear hK K m1
  unfold maxLen at m3
  (repeat' (first | (refine wpLx_calm rfl rfl rfl (fun K hK => ?_); go_step <;> (refine hK _ ?_; clear hK K)) | (refine wpLx_skip2 rfl rfl rfl ?_; go_simp) | (refine wpLx_calm2 rfl rfl rfl rfl rfl (fun K hK => ?_); go_step <;> (refine hK _ ?_; clear hK K))))
  refine wpLx_load rfl rfl ((Upd.refl _ _).drew.drew.alloc _) rfl rfl (by kernel_rfl) (show w.drew.cell? ⟨b, 1, none⟩ = some (.slice none 0 0) from hc1) ?_
  (repeat' (first | (refine wpLx_calm rfl rfl rfl (fun K hK => ?_); go_step <;> (refine hK _ ?_; clear hK K)) | (refine wpLx_skip2 rfl rfl rfl ?_; go_simp) | (refine wpLx_calm2 rfl rfl rfl rfl rfl (fun K hK => ?_); go_step <;> (refine hK _ ?_; clear hK K))))
  refine wpLx_nil ?_
  have hu : New w (w.alloc (.cells cs 5)) := (Upd.refl _ _).alloc _
  have hbb := hu.heap H.out (fun h => h)
  have hb1 : (w.alloc (.cells cs 5)).cell? ⟨b, 1, none⟩ = some (.slice none 0 0) := hu.cell hc1 (fun h => h)
  have hz : (w.alloc (.cells cs 5)).frozen? ⟨b, 1, none⟩ = false := by simp [World.frozen?, hbb]
  have HBB := Lib.hid hbb
  have HU := Lib.hid hu
  have hlt : b < w.heap.size := (Array.getElem?_eq_some_iff.1 H.out).1
  have hne : ¬ b = w.heap.size := by omega
  clear hbb hu
  go_wp2_with (refine wpList_plain rfl (fun K hK => ?_); refine wp_copy eB (.tmp 20) (.tmp 24) 29 rfl w.heap.size 0 0 cs.size rfl cs 5 (by exact heap_alloc_new w _) none 0 0 rfl (fun _ => ⟨rfl, rfl⟩) [] (by simp) (fun p hp => by cases hp) (by simp) (fun u hu => by cases hu) ?_; intro w2 hw2 hu2 hz2; have hbb2 := hu2.heap HBB.out hne; have HBB2 := Lib.hid hbb2; have HW2 := Lib.hid hw2; have HU2 := Lib.hid hu2; clear hb1 hz; have hz : w2.frozen? ⟨b, 1, none⟩ = false := (by simp [World.frozen?, hbb2]); have hb1 : w2.cell? ⟨b, 1, none⟩ = some (.slice none 0 0) := (by rw [World.cell_of_heap hbb2]; rfl); clear hbb2 hw2 hu2 hz2; refine hK _ _ ?_; clear hK K)
  refine bodyPost_end (results_none rfl _ _ _) rfl ?_
  have hW2 := HW2.out
  rw [show (splice cs.toList 0 ([] : List Value)).toArray = cs by simp [splice]] at hW2
  have hu2 : Upd (fun k => k = w.heap.size) (w.alloc (.cells cs 5)) w2 := ((Upd.refl _ _).drew.drew.drew).trans HU2.out (fun _ h _ => h)
  refine ⟨w.heap.size, cs, Nat.le_refl _, m2, by unfold maxLen; exact m3, ?_, ?_, ?_⟩
  · simp [World.setCell, Array.getElem?_modify, hne, hW2]
  · exact ((HU.out.trans hu2 (fun k hk hlt => by have hk : k = w.heap.size := hk; omega)).mono (M := fun k => k = b) (fun _ h _ => h.elim)).setCell (p := ⟨b, 1, none⟩) (fun _ => rfl) _
  · simp [World.setCell, Array.getElem?_modify, HBB2.out]
/-- a builder at block b, its bytes in a row from base on -/
theorem Bld.nil {w : World} {base b : Nat} {p : Value} (hb : base ≤ b) (h : w.heap[b]? = some (.cells #[p, .slice none 0 0] 145 (0, 0))) : Bld w base b p (.slice none 0 0) [] := ⟨hb, h, World.ownsRow_nil _ _ _ _, by simp [Value.ownBlock]⟩
set_option maxRecDepth 100000 in
set_option maxHeartbeats 1000000 in
theorem bGrow {w : World} {base b n : Nat} (hbase : base ≤ b) (h : w.heap[b]? = some (.cells #[.pointer none, .slice none 0 0] 145 (0, 0))) (hn : n ≤ 70368744177664) :
    Calls Tryd.prog 77 #[.pointer (some ⟨b, 0, none⟩), .int .i64 (n : Int)] w (Ret fun _ w' => Upd (fun k => k = b) w w' ∧ ∃ v, Bld w' base b (.pointer (some ⟨b, 0, none⟩)) v []) := by
  have hlt : b < w.heap.size := (Array.getElem?_eq_some_iff.1 h).1
  have K1 := Lib.hid (copyCheck0 h)
  clear h
  by_cases h0 : 0 < n
  · go_enter Tryd.func77, Tryd.ntmps77
    go_wp2_with (go_at_call 83; refine callRet K1.out ?_; rintro _ w1 ⟨hu1, hb1⟩; have HU1 := Lib.hid hu1; have HB1 := Lib.hid hb1; have hc1 : w1.cell? ⟨b, 1, none⟩ = some (.slice none 0 0) := (by rw [World.cell_of_heap hb1]; rfl); clear hu1 hb1)
    refine wp_region_lx {} (by kernel_rfl) (by kernel_rfl) ⟨fun _ _ _ h => h.2, fun _ _ h => h⟩ ?_
    (repeat' (first | (refine wpLx_calm rfl rfl rfl (fun K hK => ?_); go_step <;> (refine hK _ ?_; clear hK K)) | (refine wpLx_skip2 rfl rfl rfl ?_; go_simp) | (refine wpLx_calm2 rfl rfl rfl rfl rfl (fun K hK => ?_); go_step <;> (refine hK _ ?_; clear hK K))))
    refine wpLx_nil ?_
    have K2 := Lib.hid (grow (n := n) (w := w1.drew) HB1.out hn)
    go_wp2_with (go_at_call 84; refine callRet K2.out ?_; rintro _ w2 ⟨g, cs, q1, q2, q3, q4, q5, q6⟩)
    refine bodyPost_end (results_none rfl _ _ _) rfl ?_
    refine ⟨HU1.out.drew.trans (M' := fun k => k = b) q5 (fun _ h _ => h), _, hbase, q6, ⟨rfl, .inr ⟨g, cs.size, cs, rfl, ?_, q4, Nat.zero_le _, q3, by simp, by simp⟩⟩, ?_⟩
    · have := HU1.out.size
      have q1 : w1.heap.size ≤ g := q1
      omega
    · have := HU1.out.size
      have q1 : w1.heap.size ≤ g := q1
      simp only [Value.ownBlock, ne_eq, Option.some.injEq]
      omega
  · obtain rfl : n = 0 := by omega
    go_enter Tryd.func77, Tryd.ntmps77
    go_wp2_with (go_at_call 83; refine callRet K1.out ?_; rintro _ w1 ⟨hu1, hb1⟩; have HU1 := Lib.hid hu1; have HB1 := Lib.hid hb1; have hc1 : w1.cell? ⟨b, 1, none⟩ = some (.slice none 0 0) := (by rw [World.cell_of_heap hb1]; rfl); clear hu1 hb1)
    refine wp_region_lx {} (by kernel_rfl) (by kernel_rfl) ⟨fun _ _ _ h => h.2, fun _ _ h => h⟩ ?_
    (repeat' (first | (refine wpLx_calm rfl rfl rfl (fun K hK => ?_); go_step <;> (refine hK _ ?_; clear hK K)) | (refine wpLx_skip2 rfl rfl rfl ?_; go_simp) | (refine wpLx_calm2 rfl rfl rfl rfl rfl (fun K hK => ?_); go_step <;> (refine hK _ ?_; clear hK K))))
    refine wpLx_nil ?_
    go_wp2
    refine bodyPost_end (results_none rfl _ _ _) rfl ?_
    exact ⟨HU1.out.drew, _, Bld.nil hbase HB1.out⟩
theorem own_one {w : World} {base e n : Nat} {v : Value} {xs : List Value} (h : w.ownsRow base e 1 v n xs) : v.oneCell' = true := by
  rcases h.2 with ⟨rfl, _⟩ | ⟨g, cap, cur, rfl, _⟩
  · rfl
  · rfl
set_option maxRecDepth 100000 in
set_option maxHeartbeats 1000000 in
theorem bWrite {w : World} {base b c : Nat} {v : Value} {bs cs : List UInt8} {a : Option Addr} {m : Nat} (h : Bld w base b (.pointer (some ⟨b, 0, none⟩)) v bs) (hb : BytesA w a c cs) (hm : cs.length = m) (hl : bs.length + m ≤ 70368744177664) (hbase : base ≤ w.heap.size) :
    Calls Tryd.prog 78 #[.pointer (some ⟨b, 0, none⟩), .slice a m c] w (Ret fun _ w' => Upd (fun k => base ≤ k) w w' ∧ ∃ v', Bld w' base b (.pointer (some ⟨b, 0, none⟩)) v' (bs ++ cs)) := by
  obtain ⟨hbb, hh, ho, hne⟩ := h
  have K1 := Lib.hid (copyCheck1 hh)
  have hblt : b < w.heap.size := (Array.getElem?_eq_some_iff.1 hh).1
  have hc1 : w.cell? ⟨b, 1, none⟩ = some v := by rw [World.cell_of_heap hh]; rfl
  have HH := Lib.hid hh
  have HO := Lib.hid ho
  have HNE := Lib.hid hne
  have HBY := Lib.hid hb
  have HM := Lib.hid hm
  clear hh ho hne hb hm
  go_enter Tryd.func78, Tryd.ntmps78
  go_wp2_with (first | (go_at_call 83; refine callRet K1.out ?_; rintro _ w1 rfl) | (at_builtin; refine wpList_plain rfl (fun K hK => ?_); refine wp_append eB (.tmp 12) (.tmp 13) rfl base v bs.length (bs.map bv) rfl HO.out a m c (cs.map bv) rfl (by rw [List.length_map, HM.out]; omega) (fun h => by have := HBY.out.2.2.1 h; have := HBY.out.1; have := HM.out; omega) (fun p hp => by subst hp; exact HBY.out.news) (oneCell_bytes _) (by unfold maxLen; omega) (by omega) hbase ?_; intro v4 w4 h1 h2 h3; have hg4 : w4.heap[b]? = some (.cells #[.pointer (some ⟨b, 0, none⟩), v] 145 (0, 0)) := ((h2.block b hblt (fun e => HNE.out e.symm)).trans HH.out); have HG4 := Lib.hid hg4; have HO4 := Lib.hid h1; have HR4 := Lib.hid h2; have ONE4 := Lib.hid (own_one h1); clear h1 h2 h3 hg4; refine hK _ _ ?_; clear hK K) | (refine wpList_plain rfl (fun K hK => ?_); refine wp_store (by kernel_rfl) (.tmp 16) (.tmp 14) rfl b 1 rfl v4 rfl ONE4.out _ _ HG4.out (by simp) ?_; intro w5 hw5 hu5 hz5; have HW5 := Lib.hid hw5; have HU5 := Lib.hid hu5; clear hw5 hu5 hz5; refine hK _ _ ?_; clear hK K))
  refine bodyPost_ret (results_tmp2 rfl _ _ _) rfl ?_
  have u4 : Upd (fun k => base ≤ k) w w4 := (Upd.refl _ _).grown HR4.out (fun k hk _ => (ownsRow_block HO.out hk).1)
  have hne4 := Lib.ownBlock_ne HO4.out HG4.out (by decide)
  refine ⟨u4.trans HU5.out (fun k hk _ => by have hk : k = b := hk; omega), v4, hbb, HW5.out, ?_, hne4⟩
  rw [List.length_append, HM.out, List.map_append]
  exact ⟨HO4.out.1, by
    rcases HO4.out.2 with ⟨q1, q2⟩ | ⟨g, cap, cur, q1, q2, q3, q4⟩
    · exact .inl ⟨q1, q2⟩
    · exact .inr ⟨g, cap, cur, q1, q2, HU5.out.heap q3 (fun hk => hne4 (by rw [q1]; have hk : g = b := hk; rw [hk]; rfl)), q4⟩⟩
def strV (bs : List UInt8) : Value := .string ⟨bs.toArray⟩
theorem Upd.freeze {M : Nat → Prop} {w : World} {p : Addr} (h : M p.block) (n : Nat) : Upd M w (w.freeze p n) := by
  unfold World.freeze
  split
  · exact Upd.refl _ _
  · exact ⟨rfl, rfl, rfl, by simp, fun k _ hk => by
      simp only [Array.getElem?_modify]
      rw [if_neg (fun e => hk (by rw [← e]; exact h))]⟩
set_option maxRecDepth 100000 in
set_option maxHeartbeats 1000000 in
theorem bString {w : World} {base b : Nat} {p v : Value} {bs : List UInt8} (h : Bld w base b p v bs) :
    Calls Tryd.prog 79 #[.pointer (some ⟨b, 0, none⟩)] w (Ret fun u w' => u = strV bs ∧ Upd (fun k => base ≤ k) w w') := by
  obtain ⟨hbb, hh, ho, hne⟩ := h
  have hc1 : w.cell? ⟨b, 1, none⟩ = some v := by rw [World.cell_of_heap hh]; rfl
  rcases ho.2 with ⟨rfl, q2⟩ | ⟨g, cap, cur, rfl, q2, q3, q4, q5, q6, q7⟩
  · obtain rfl := List.eq_nil_of_length_eq_zero q2
    have HC := Lib.hid hc1
    clear hh ho hne q2
    go_enter Tryd.func79, Tryd.ntmps79
    go_wp2_with fail
    refine wp_region_lx {ld := [11], gd := [7]} (by kernel_rfl) (by kernel_rfl) ⟨fun _ _ _ h => h.2, fun _ _ h => h⟩ ?_
    (repeat' (first | (refine wpLx_calm rfl rfl rfl (fun K hK => ?_); go_step <;> (refine hK _ ?_; clear hK K)) | (refine wpLx_skip2 rfl rfl rfl ?_; go_simp) | (refine wpLx_calm2 rfl rfl rfl rfl rfl (fun K hK => ?_); go_step <;> (refine hK _ ?_; clear hK K))))
    refine wpLx_grow rfl rfl rfl (Upd.refl _ _) (fun K hK => ?_)
    go_step
    try rw [Lib.run_unsafeSliceData_nil]
    try simp only [Result.andThen]
    try rw [Oper.upon_value]
    refine hK _ _ (Upd.refl _ _) ?_
    clear hK K
    (repeat' (first | (refine wpLx_calm rfl rfl rfl (fun K hK => ?_); go_step <;> (refine hK _ ?_; clear hK K)) | (refine wpLx_skip2 rfl rfl rfl ?_; go_simp) | (refine wpLx_calm2 rfl rfl rfl rfl rfl (fun K hK => ?_); go_step <;> (refine hK _ ?_; clear hK K))))
    refine wpLx_load rfl rfl (Upd.refl _ _) rfl rfl (by kernel_rfl) (show w.drew.cell? ⟨b, 1, none⟩ = some (.slice none 0 0) from HC.out) ?_
    (repeat' (first | (refine wpLx_calm rfl rfl rfl (fun K hK => ?_); go_step <;> (refine hK _ ?_; clear hK K)) | (refine wpLx_skip2 rfl rfl rfl ?_; go_simp) | (refine wpLx_calm2 rfl rfl rfl rfl rfl (fun K hK => ?_); go_step <;> (refine hK _ ?_; clear hK K))))
    refine wpLx_eff rfl rfl rfl (fun K hK => ?_)
    go_step
    rw [Lib.run_unsafeString_none]
    simp only [Result.andThen]
    rw [Oper.upon_value]
    refine hK _ _ ?_
    clear hK K
    (repeat' (first | (refine wpLx_calm rfl rfl rfl (fun K hK => ?_); go_step <;> (refine hK _ ?_; clear hK K)) | (refine wpLx_skip2 rfl rfl rfl ?_; go_simp) | (refine wpLx_calm2 rfl rfl rfl rfl rfl (fun K hK => ?_); go_step <;> (refine hK _ ?_; clear hK K))))
    refine wpLx_nil ?_
    go_wp2
    go_ret
    exact ⟨rfl, (Upd.refl _ _).drew⟩
  · have HC := Lib.hid hc1
    obtain ⟨m, hm⟩ : ∃ m, bs.length = m := ⟨_, rfl⟩
    have hsh : w.drew.shape? g = some (5, cur.size) := by
      show w.shape? g = _
      simp [World.shape?, q3]
    have hm63 : m ≤ 9223372036854775807 := by unfold maxLen at q5; omega
    have hcur : cur.size = cap := by omega
    have hcell : ∀ j x, bs[j]? = some x → w.cell? ((⟨g, 0, none⟩ : Addr).add j) = some (.int .u8 x.toNat) := fun j x hx => by
      have hj : j < bs.length := by
        rcases Nat.lt_or_ge j bs.length with h | h
        · exact h
        · rw [List.getElem?_eq_none h] at hx; cases hx
      rw [addr_add, World.cell_of_heap q3]
      have h1 : (cur.toList.take (bs.length * 1))[j]? = (bs.map bv)[j]? := by rw [q7]
      rw [List.getElem?_take_of_lt (by omega), List.getElem?_map, hx] at h1
      simpa [bv] using h1
    have h63 : m ≤ maxLen := by omega
    have hmc : m ≤ cap := by omega
    rw [hm] at hc1 HC
    by_cases h0 : bs = []
    · subst h0
      obtain rfl : m = 0 := hm.symm
      clear hh ho hne q3 q4 q5 q6 q7 hcell hm hm63 h63 hmc hcur
      by_cases hcap : cap = 0
      · subst hcap
        go_enter Tryd.func79, Tryd.ntmps79
        go_wp2_with fail
        refine wp_region_lx {ld := [11], gd := [7]} (by kernel_rfl) (by kernel_rfl) ⟨fun _ _ _ h => h.2, fun _ _ h => h⟩ ?_
        (repeat' (first | (refine wpLx_calm rfl rfl rfl (fun K hK => ?_); go_step <;> (refine hK _ ?_; clear hK K)) | (refine wpLx_skip2 rfl rfl rfl ?_; go_simp) | (refine wpLx_calm2 rfl rfl rfl rfl rfl (fun K hK => ?_); go_step <;> (refine hK _ ?_; clear hK K))))
        refine wpLx_grow rfl rfl rfl (Upd.refl _ _) (fun K hK => ?_)
        go_step
        try rw [Lib.run_unsafeSliceData_zero (hsh := hsh) (hp := Tryd.underlying147)]
        try simp only [Result.andThen]
        try rw [Oper.upon_value]
        refine hK _ _ ((Upd.refl _ _).alloc _) ?_
        clear hK K
        (repeat' (first | (refine wpLx_calm rfl rfl rfl (fun K hK => ?_); go_step <;> (refine hK _ ?_; clear hK K)) | (refine wpLx_skip2 rfl rfl rfl ?_; go_simp) | (refine wpLx_calm2 rfl rfl rfl rfl rfl (fun K hK => ?_); go_step <;> (refine hK _ ?_; clear hK K))))
        refine wpLx_load rfl rfl ((Upd.refl _ _).alloc _) rfl rfl (by kernel_rfl) (show w.drew.cell? ⟨b, 1, none⟩ = some (.slice (some ⟨g, 0, none⟩) 0 0) from HC.out) ?_
        (repeat' (first | (refine wpLx_calm rfl rfl rfl (fun K hK => ?_); go_step <;> (refine hK _ ?_; clear hK K)) | (refine wpLx_skip2 rfl rfl rfl ?_; go_simp) | (refine wpLx_calm2 rfl rfl rfl rfl rfl (fun K hK => ?_); go_step <;> (refine hK _ ?_; clear hK K))))
        refine wpLx_eff rfl rfl rfl (fun K hK => ?_)
        go_step
        rw [Lib.run_unsafeString_none]
        simp only [Result.andThen]
        rw [Oper.upon_value]
        refine hK _ _ ?_
        clear hK K
        (repeat' (first | (refine wpLx_calm rfl rfl rfl (fun K hK => ?_); go_step <;> (refine hK _ ?_; clear hK K)) | (refine wpLx_skip2 rfl rfl rfl ?_; go_simp) | (refine wpLx_calm2 rfl rfl rfl rfl rfl (fun K hK => ?_); go_step <;> (refine hK _ ?_; clear hK K))))
        refine wpLx_nil ?_
        go_wp2
        go_ret
        exact ⟨rfl, ((Upd.refl _ _).drew).alloc _⟩
      · 
        go_enter Tryd.func79, Tryd.ntmps79
        go_wp2_with fail
        refine wp_region_lx {ld := [11], gd := [7]} (by kernel_rfl) (by kernel_rfl) ⟨fun _ _ _ h => h.2, fun _ _ h => h⟩ ?_
        (repeat' (first | (refine wpLx_calm rfl rfl rfl (fun K hK => ?_); go_step <;> (refine hK _ ?_; clear hK K)) | (refine wpLx_skip2 rfl rfl rfl ?_; go_simp) | (refine wpLx_calm2 rfl rfl rfl rfl rfl (fun K hK => ?_); go_step <;> (refine hK _ ?_; clear hK K))))
        refine wpLx_grow rfl rfl rfl (Upd.refl _ _) (fun K hK => ?_)
        go_step
        try rw [Lib.run_unsafeSliceData_row (hc := hcap)]
        try simp only [Result.andThen]
        try rw [Oper.upon_value]
        refine hK _ _ (Upd.refl _ _) ?_
        clear hK K
        (repeat' (first | (refine wpLx_calm rfl rfl rfl (fun K hK => ?_); go_step <;> (refine hK _ ?_; clear hK K)) | (refine wpLx_skip2 rfl rfl rfl ?_; go_simp) | (refine wpLx_calm2 rfl rfl rfl rfl rfl (fun K hK => ?_); go_step <;> (refine hK _ ?_; clear hK K))))
        refine wpLx_load rfl rfl (Upd.refl _ _) rfl rfl (by kernel_rfl) (show w.drew.cell? ⟨b, 1, none⟩ = some (.slice (some ⟨g, 0, none⟩) 0 cap) from HC.out) ?_
        (repeat' (first | (refine wpLx_calm rfl rfl rfl (fun K hK => ?_); go_step <;> (refine hK _ ?_; clear hK K)) | (refine wpLx_skip2 rfl rfl rfl ?_; go_simp) | (refine wpLx_calm2 rfl rfl rfl rfl rfl (fun K hK => ?_); go_step <;> (refine hK _ ?_; clear hK K))))
        refine wpLx_eff rfl rfl rfl (fun K hK => ?_)
        go_step
        rw [Lib.run_unsafeString_none]
        simp only [Result.andThen]
        rw [Oper.upon_value]
        refine hK _ _ ?_
        clear hK K
        (repeat' (first | (refine wpLx_calm rfl rfl rfl (fun K hK => ?_); go_step <;> (refine hK _ ?_; clear hK K)) | (refine wpLx_skip2 rfl rfl rfl ?_; go_simp) | (refine wpLx_calm2 rfl rfl rfl rfl rfl (fun K hK => ?_); go_step <;> (refine hK _ ?_; clear hK K))))
        refine wpLx_nil ?_
        go_wp2
        go_ret
        exact ⟨rfl, (Upd.refl _ _).drew⟩
    · have hm0 : 0 < m := by rw [← hm]; exact List.length_pos_iff.2 h0
      have hcap : cap ≠ 0 := by omega
      have hr := Lib.run_unsafeString_row (P := Tryd.prog) (w := w.drew) 147 3 9 5 Tryd.underlying147 (by kernel_rfl) g cur.size hsh bs h0 (by omega) (by omega) hcell
      rw [hm] at hr
      have HR := Lib.hid hr
      clear hh ho hne q3 q4 q5 q6 q7 hcell hm hm63 h63 hcur hr
      go_enter Tryd.func79, Tryd.ntmps79
      go_wp2_with fail
      refine wp_region_lx {ld := [11], gd := [7]} (by kernel_rfl) (by kernel_rfl) ⟨fun _ _ _ h => h.2, fun _ _ h => h⟩ ?_
      (repeat' (first | (refine wpLx_calm rfl rfl rfl (fun K hK => ?_); go_step <;> (refine hK _ ?_; clear hK K)) | (refine wpLx_skip2 rfl rfl rfl ?_; go_simp) | (refine wpLx_calm2 rfl rfl rfl rfl rfl (fun K hK => ?_); go_step <;> (refine hK _ ?_; clear hK K))))
      refine wpLx_grow rfl rfl rfl (Upd.refl _ _) (fun K hK => ?_)
      go_step
      try rw [Lib.run_unsafeSliceData_row (hc := hcap)]
      try simp only [Result.andThen]
      try rw [Oper.upon_value]
      refine hK _ _ (Upd.refl _ _) ?_
      clear hK K
      (repeat' (first | (refine wpLx_calm rfl rfl rfl (fun K hK => ?_); go_step <;> (refine hK _ ?_; clear hK K)) | (refine wpLx_skip2 rfl rfl rfl ?_; go_simp) | (refine wpLx_calm2 rfl rfl rfl rfl rfl (fun K hK => ?_); go_step <;> (refine hK _ ?_; clear hK K))))
      refine wpLx_load rfl rfl (Upd.refl _ _) rfl rfl (by kernel_rfl) (show w.drew.cell? ⟨b, 1, none⟩ = some (.slice (some ⟨g, 0, none⟩) m cap) from HC.out) ?_
      (repeat' (first | (refine wpLx_calm rfl rfl rfl (fun K hK => ?_); go_step <;> (refine hK _ ?_; clear hK K)) | (refine wpLx_skip2 rfl rfl rfl ?_; go_simp) | (refine wpLx_calm2 rfl rfl rfl rfl rfl (fun K hK => ?_); go_step <;> (refine hK _ ?_; clear hK K))))
      refine wpLx_eff rfl rfl rfl (fun K hK => ?_)
      go_step
      rw [HR.out]
      simp only [Result.andThen]
      rw [Oper.upon_value]
      refine hK _ _ ?_
      clear hK K
      (repeat' (first | (refine wpLx_calm rfl rfl rfl (fun K hK => ?_); go_step <;> (refine hK _ ?_; clear hK K)) | (refine wpLx_skip2 rfl rfl rfl ?_; go_simp) | (refine wpLx_calm2 rfl rfl rfl rfl rfl (fun K hK => ?_); go_step <;> (refine hK _ ?_; clear hK K))))
      refine wpLx_nil ?_
      go_wp2
      go_ret
      exact ⟨rfl, ((Upd.refl _ _).drew).trans (Upd.freeze (p := ⟨g, 0, none⟩) q2 m) (fun _ h _ => h)⟩
end Go.Proofs.YtmmjfpcmempeeaaDoor
/- (*bufio.Reader).ReadString. -/
namespace Go.Proofs.YtmmjfpcmempeeaaDoor
open Go.RowKit
/-- bytes told as a string -/
def RTPost (S : Err → Addr) (w : World) (L : Loc) (x : List (List UInt8) × ((List UInt8 × Option Err) × AR)) (v : Value) (w' : World) : Prop :=
  ∃ st', v = .tuple #[strV (x.1.flatten ++ x.2.1.1), eV S x.2.1.2] ∧ Rd S w' L st' ∧ Upd (In L) w w' ∧ Abs st' x.2.2
set_option maxRecDepth 100000 in
set_option maxHeartbeats 2000000 in
theorem readString {S : Err → Addr} {B : Nat} {w : World} {L : Loc} {st : RS} {A0 : AR} (E : Env S B w) (hB : B ≤ L.lo) (h : Rd S w L st) (hA : Abs st A0) (hhi : L.hi ≤ w.heap.size) (hl : A0.left.length ≤ 1048576) (d : UInt8) (htot : (frags d (A0.left.length + 1) A0).1.flatten.length + (frags d (A0.left.length + 1) A0).2.1.1.length ≤ 1048576) :
    Calls Tryd.prog 67 #[.pointer (some ⟨L.b, 0, none⟩), .int .u8 (d.toNat : Int)] w (Ret (RTPost S w L (frags d (A0.left.length + 1) A0))) := by
  have K1 := Lib.hid (collect E hB h hA hhi hl d)
  obtain ⟨X, hX⟩ : ∃ X, X = frags d (A0.left.length + 1) A0 := ⟨_, rfl⟩
  rw [← hX] at K1 htot ⊢
  obtain ⟨m, hm⟩ : ∃ m, X.1.flatten.length + X.2.1.1.length = m := ⟨_, rfl⟩
  have HM := Lib.hid hm
  rw [hm] at htot
  have HHI := Lib.hid hhi
  clear E h hA hl hX hm hhi
  go_enter Tryd.func67, Tryd.ntmps67
  go_wp2_with (first | (go_at_call 76; refine callRet K1.out ?_; intro v w1 hv; obtain ⟨st1, lv, ab, c, rfl, how, hby, hpb, hrd, hu, habs⟩ := hv; rw [HM.out]; obtain ⟨la, lc, rfl, hpc⟩ := how.pieces; have HPC := Lib.hid hpc; have HBY := Lib.hid hby; have HPB := Lib.hid hpb; have HRD := Lib.hid hrd; have HU := Lib.hid hu; have HABS := Lib.hid habs; clear how hpc hby hpb hrd hu habs) | (go_at_call 77; refine callRet (bGrow (base := w1.heap.size) (Nat.le_refl _) (heap_alloc_new w1 _) (by omega)) ?_; rintro _ w2 ⟨hu2, v2, hb2⟩; have HU2 : Hid (Upd (fun j => w1.heap.size ≤ j) w1 w2) := ((Upd.refl _ _).alloc _).trans hu2 (fun k hk hlt => by have hk : k = w1.heap.size := hk; omega); have HB2 := Lib.hid hb2; clear hu2 hb2))
  have hpl := HPC.out.1
  have hpm := HPC.out.2.1
  unfold maxLen at hpm
  go_loopw [25] (fun i wr => ∃ (k : Nat) (v : Value), i = .int .i64 (k : Int) ∧ k ≤ X.1.length ∧ Bld wr w1.heap.size w1.heap.size (.pointer (some ⟨w1.heap.size, 0, none⟩)) v (X.1.take k).flatten ∧ Upd (fun j => w1.heap.size ≤ j) w1 wr) (fun i _ => X.1.length - (intOf i).toNat)
  case atStart => exact ⟨0, v2, rfl, Nat.zero_le _, HB2.out, HU2.out⟩
  case round =>
    obtain ⟨k, vb, rfl, hk, hbld, hu⟩ := hrel
    have hbel : Below w1.heap.size w1 wr := hu.below (fun j hj => hj) (Nat.le_refl _)
    have HBL := Lib.hid hbld
    have HU3 := Lib.hid hu
    have hXm := HM.out
    have hsum : (X.1.take k).flatten.length ≤ X.1.flatten.length := lensum_take_le_all X.1 k
    clear hbld hu
    by_cases hlt : k < X.1.length
    · obtain ⟨b, o, ai, ci, pl, hla, hm', hc, hb1, hb2, hby⟩ := (HPC.out.below hbel).at hlt
      subst hla
      have e1 : (X.1.take (k + 1)).flatten = (X.1.take k).flatten ++ X.1[k] := flatten_take_succ X.1 k hlt
      have e2 := lensum_take_le_all X.1 (k + 1)
      rw [e1, List.length_append, hm'] at e2
      have KW := Lib.hid (bWrite HBL.out hby hm' (by omega) HU3.out.size)
      have HE1 := Lib.hid e1
      clear hm' hby e1 e2 hbel hsum hXm
      go_wp2_with (go_at_call 78; refine callRet KW.out ?_; rintro _ w3 ⟨hu3, v3, hb3⟩; have HU4 : Hid (Upd (fun j => w1.heap.size ≤ j) w1 w3) := HU3.out.trans hu3 (fun _ h _ => h); have HB4 := Lib.hid hb3; clear hu3 hb3)
      go_roundw
      case rel => exact ⟨k + 1, v3, by go_num, by omega, by rw [HE1.out]; exact HB4.out, HU4.out⟩
      case measure => simp [intOf]; omega
    · obtain rfl : k = X.1.length := by omega
      rw [List.take_length] at hsum
      have HBL' := HBL.out
      rw [List.take_length] at HBL'
      have hby := HBY.out.upd HU3.out (fun p hp _ hh => by have := HPB.out p hp; have := HRD.out.bbhi; have := HHI.out; have := HU.out.size; omega)
      obtain ⟨pl, hpl'⟩ : ∃ pl, X.2.1.1.length = pl := ⟨_, rfl⟩
      have KW := Lib.hid (bWrite HBL' hby hpl' (by omega) HU3.out.size)
      have HPL := Lib.hid hpl'
      clear hby hpl' hbel hsum hXm HBL'
      go_wp2_with (first | (go_at_call 78; rw [HPL.out]; refine callRet KW.out ?_; rintro _ w3 ⟨hu3, v3, hb3⟩; have HU4 : Hid (Upd (fun j => w1.heap.size ≤ j) w1 w3) := HU3.out.trans hu3 (fun _ h _ => h); have HB4 := Lib.hid hb3; clear hu3 hb3) | (go_at_call 79; refine callRet (bString HB4.out) ?_; rintro _ w5 ⟨rfl, hu5⟩; have HU5 : Hid (Upd (fun j => w1.heap.size ≤ j) w1 w5) := HU4.out.trans hu5 (fun _ h _ => h); clear hu5))
      go_ret2
      have hz := HU.out.size
      have hh := HHI.out
      refine ⟨st1, rfl, HRD.out.upd HU5.out (fun k hk hin => by have hk : w1.heap.size ≤ k := hk; have := hin.2; omega), HU.out.trans HU5.out (fun k hk hlt => by have hk : w1.heap.size ≤ k := hk; omega), HABS.out⟩
end Go.Proofs.YtmmjfpcmempeeaaDoor
