/- Bytes that are gathered behind a reader; impl.Bytes. -/
import Derived.Test.YtmmjfpcmempeeaaDoorByte
import Derived.Test.YtmmjfpcmempeeaaDoorOver
namespace Go.Proofs.YtmmjfpcmempeeaaDoor
open Go.RowKit
theorem ownsRow_upd {M : Nat → Prop} {w w1 : World} {base e size n : Nat} {v : Value} {xs : List Value} (h : w.ownsRow base e size v n xs) (u : Upd M w w1) (hm : ∀ k, M k → base ≤ k → False) : w1.ownsRow base e size v n xs := by
  refine ⟨h.1, ?_⟩
  rcases h.2 with h | ⟨g, cap, cur, hv, hb, hg, r⟩
  · exact .inl h
  · exact .inr ⟨g, cap, cur, hv, hb, u.heap hg (fun hh => hm _ hh hb), r⟩
/-- bytes in a block of one's own, at 'base' or above; or none -/
def OwnB (base : Nat) (w : World) (v : Value) (bs : List UInt8) : Prop := w.ownsRow base 5 1 v bs.length (bs.map bv)
theorem OwnB.nil (base : Nat) (w : World) : OwnB base w (.slice none 0 0) [] := World.ownsRow_nil _ _ _ _
theorem OwnB.upd {M : Nat → Prop} {base : Nat} {w w1 : World} {v : Value} {bs : List UInt8} (h : OwnB base w v bs) (u : Upd M w w1) (hm : ∀ k, M k → base ≤ k → False) : OwnB base w1 v bs := ownsRow_upd h u hm
theorem OwnB.new {base : Nat} {w w1 : World} {v : Value} {bs : List UInt8} (h : OwnB base w v bs) (u : New w w1) : OwnB base w1 v bs := ownsRow_new h u
theorem OwnB.bytes {base : Nat} {w : World} {v : Value} {bs : List UInt8} (h : OwnB base w v bs) : BytesAt w v bs := by
  have h' := h
  rcases h'.2 with ⟨rfl, hn⟩ | ⟨g, cap, cur, rfl, _⟩
  · obtain rfl := List.eq_nil_of_length_eq_zero hn
    exact ⟨none, 0, rfl, Nat.le_refl _, Nat.zero_le _, fun _ => rfl, fun p hp => by cases hp⟩
  · exact ⟨_, _, rfl, (BytesA.owned h).2⟩
theorem OwnB.base {base base' : Nat} {w : World} {v : Value} {bs : List UInt8} (h : OwnB base w v bs) (hb : base' ≤ base) : OwnB base' w v bs := by
  refine ⟨h.1, ?_⟩
  rcases h.2 with h | ⟨g, cap, cur, hv, hh, r⟩
  · exact .inl h
  · exact .inr ⟨g, cap, cur, hv, by omega, r⟩
theorem BytesA.one {w : World} {g : Nat} {x : UInt8} {cs : Array Value} {t : TypeId} (h : w.heap[g]? = some (.cells cs t (0, 0))) (hc : cs = #[bv x]) : BytesA w (some ⟨g, 0, none⟩) 1 [x] := by
  subst hc
  refine ⟨Nat.le_refl _, by unfold maxLen; omega, by simp, fun p hp => ?_⟩
  simp only [Option.some.injEq] at hp; subst hp
  refine ⟨fun _ => rfl, fun i hi => ?_⟩
  obtain rfl : i = 0 := by simp at hi; omega
  rw [World.cell_of_heap h]; rfl
/-- a box's cells, behind what made new blocks alone -/
theorem box_new {w w1 : World} {cs : Array Value} {t : TypeId} (h : New (w.alloc (.cells cs t)) w1) {i : Nat} {v : Value} (hv : cs[i]? = some v) : w1.cell? ⟨w.heap.size, i, none⟩ = some v := by
  rw [World.cell_of_heap (h.heap (heap_alloc_new w _) (fun hh => hh))]; exact hv
theorem spokenB_spec {ps : List (List UInt8)} {size : Int} (h : spokenB ps size = true) : ps.length ≤ 500 ∧ ps.flatten.length ≤ 20000 ∧ nones ps ≤ 50 ∧ ∃ sz : Nat, size = (sz : Int) ∧ sz ≤ 5000 := by
  unfold spokenB srcOk at h
  simp only [Bool.and_eq_true, decide_eq_true_eq] at h
  rw [lensum_flatten]
  exact ⟨h.1.1.1, h.1.1.2.1.1, h.1.1.2.2, size.toNat, by omega, by omega⟩
/-- the reader's own blocks alone: nothing below them -/
theorem Upd.inNew {w w1 w2 : World} {L : Loc} (h : New w w1) (u : Upd (In L) w1 w2) (hlo : w.heap.size ≤ L.lo) : New w w2 := h.trans u (fun k hk hlt => by have := hk.1; omega)
def endc (f : Bool) : Nat := if f then 2 else 1
theorem ecode_end (f : Bool) : ecode (some (endErr f)) = endc f := by cases f <;> rfl
/-- what impl.Bytes answers -/
def BytesPost (w : World) (n : Nat) (all : List UInt8) (f : Bool) (v : Value) (w' : World) : Prop :=
  New w w' ∧ ∃ x, v = .tuple #[x, .int .i64 ((if n ≤ all.length then 0 else endc f : Nat) : Int)] ∧ BytesAt w' x (all.take n)
theorem endV (S : Err → Addr) (f : Bool) : ∃ et ev, eV S (some (endErr f)) = .iface et ev := by cases f <;> exact ⟨_, _, rfl⟩
/-- the end's code told -/
theorem codeEnd {S : Err → Addr} {B : Nat} (f : Bool) {et : TypeId} {ev : Value} (hev : eV S (some (endErr f)) = .iface et ev) (w : World) (E : Env S B w) :
    Calls Tryd.prog 34 #[.iface et ev] w (Ret fun v w' => w = w' ∧ v = .int .i64 (endc f : Int)) := by
  have := codeOf (some (endErr f)) w E
  rw [hev, ecode_end] at this
  exact this
theorem rem_fresh (n : Nat) (ps : List (List UInt8)) (f : Bool) : rem (fresh n ps f) = ps.flatten := by unfold rem; rw [bufd_nil (Nat.le_refl _)]; rfl
theorem rem_cons {st : RS} (h : st.r < st.w) (h2 : st.w ≤ st.buf.length) : rem st = st.buf[st.r] :: rem { st with r := st.r + 1 } := by
  unfold rem; rw [bufd_cons h h2]; rfl
set_option maxRecDepth 100000 in
set_option maxHeartbeats 1000000 in
theorem implBytes {S : Err → Addr} {B : Nat} {w : World} {sz n : Nat} {a : Option Addr} {c : Nat} {ps : List (List UInt8)} (f : Bool) (E : Env S B w) (h : PiecesA w a c ps) (hl : ps.flatten.length ≤ 20000) (hn : ps.length ≤ 500) (hsz : sz ≤ 5000) (hne : nones ps ≤ 50) (hn' : n ≤ 65535) :
    Calls Tryd.prog 23 #[.agg #[.slice a ps.length c, .bool f], .int .i64 (sz : Int), .int .i64 (n : Int)] w (Ret (BytesPost w n ps.flatten f)) := by
  have K1 := Lib.hid (over (S := S) f (h.new ((Upd.refl _ _).alloc (.cells #[.slice a ps.length c, .bool f] 24))) hl hn hsz hne)
  have HE := Lib.hid E
  have HL := Lib.hid hl
  have h2 := h.2.1
  unfold maxLen at h2
  clear h E hl
  go_enter Tryd.func23, Tryd.ntmps23
  go_wp2_with (go_at_call 32; refine callRet K1.out ?_; intro v w1 h1; obtain ⟨hu1, L, rfl, hlo, hhi, hrd⟩ := h1; have HU1 := Lib.hid hu1; have HRD := Lib.hid hrd; have HLO := Lib.hid hlo; have HHI := Lib.hid hhi; clear hu1 hrd hlo hhi K1)
  go_loopw [9, 16] (fun v i wr => ∃ (k : Nat) (st : RS), i = .int .i64 k ∧ k ≤ n ∧ k ≤ ps.flatten.length ∧ rem st = ps.flatten.drop k ∧ st.f = f ∧ Rd S wr L st ∧ New w wr ∧ OwnB L.hi wr v (ps.flatten.take k) ∧ L.hi ≤ wr.heap.size) (fun _ i _ => n - (intOf i).toNat)
  case atStart => exact ⟨0, fresh (max sz 16) ps f, rfl, Nat.zero_le _, Nat.zero_le _, rem_fresh _ _ _, rfl, HRD.out, ((Upd.refl _ _).alloc _).andNew HU1.out, OwnB.nil _ _, HHI.out⟩
  case round =>
    obtain ⟨k, st, rfl, hkn, hka, hrem, hstf, hrd, hnew, hown, hhi⟩ := hrel
    have HRD := Lib.hid hrd
    have HNEW := Lib.hid hnew
    have HOWN := Lib.hid hown
    have HREM := Lib.hid hrem
    have HF := Lib.hid hstf
    clear hrd hnew hown hrem hstf
    have hlo : w.heap.size ≤ L.lo := by have := HLO.out; simp at this; omega
    by_cases hlt : k < n
    · go_wp2_with fail
      go_at_call 44
      refine callRet (readByte (HE.out.new HNEW.out) (Nat.le_trans (HE.out.size) hlo) HRD.out) ?_
      intro v w2 hv
      obtain ⟨st', hb, h', u'⟩ := hv
      have H' := Lib.hid h'
      have hhi' := Nat.le_trans hhi u'.size
      have hnew' := Upd.inNew HNEW.out u' hlo
      have HNEW' := Lib.hid hnew'
      have HOWN' := Lib.hid (HOWN.out.upd u' (fun k h1 h2 => by have := h1.2; omega))
      clear h' u' hnew'
      obtain ⟨st1, hw, hb⟩ := hb
      have hr1 : rem st1 = ps.flatten.drop k := hw.rem.trans HREM.out
      have hf1 : st1.f = f := hw.f.trans HF.out
      rcases hb with ⟨q1, q2, rfl, hst⟩ | ⟨q1, rfl, hst⟩
      · have hrc := rem_cons q1 q2
        rw [hr1] at hrc
        have hkl : k < ps.flatten.length := by
          rcases Nat.lt_or_ge k ps.flatten.length with h | h
          · exact h
          · exact absurd hrc (by rw [List.drop_eq_nil_of_le h]; exact fun hh => by cases hh)
        rw [List.drop_eq_getElem_cons hkl] at hrc
        injection hrc with e1 e2
        have hrem' : rem st' = ps.flatten.drop (k + 1) := by rw [e2, hst]; rfl
        have hf' : st'.f = f := by rw [hst]; exact hf1
        obtain ⟨x, hx⟩ : ∃ x, x = st1.buf[st1.r] := ⟨_, rfl⟩
        rw [← hx] at e1 ⊢
        have HX := Lib.hid e1
        have HREM' := Lib.hid hrem'
        have HF' := Lib.hid hf'
        clear hrem' hf' e1 e2 hr1 hf1 hst hx q1 q2 hw
        have HXS : Hid (∀ p, some (⟨w2.heap.size, 0, none⟩ : Addr) = some p → ∀ j u, ([x].map bv)[j]? = some u → (w2.alloc (.cells #[bv x] 5)).cell? (p.add j) = some u) := fun p hp => by
          simp only [Option.some.injEq] at hp; subst hp
          exact (BytesA.one (heap_alloc_new w2 _) rfl).news
        go_wp2_with (at_builtin; refine wpList_plain rfl (fun K hK => ?_); refine wp_append eB _ _ rfl L.hi _ _ _ rfl (HOWN'.out.new ((Upd.refl _ _).alloc _)) (some ⟨w2.heap.size, 0, none⟩) 1 1 ([x].map bv) rfl rfl (by simp) HXS.out (oneCell_bytes _) (by have := HL.out; unfold maxLen; simp; omega) (by have := HL.out; simp; omega) (by simp; omega) ?_; intro v' w' h3 h4 h5; refine hK _ _ ?_; clear hK K; have H3 := Lib.hid h3; have H4 := Lib.hid h4; clear h3 h4 h5)
        have e : ps.flatten.take (k + 1) = ps.flatten.take k ++ [x] := by rw [List.take_succ_eq_append_getElem hkl, HX.out]
        have hob : OwnB L.hi w' v' (ps.flatten.take (k + 1)) := by
          have h3 := H3.out
          unfold OwnB
          rw [e, List.map_append, List.length_append]
          exact h3
        have hgr : Upd (fun k => L.hi ≤ k) w2 w' := ((Upd.refl _ _).alloc _).grown H4.out (fun j hj hlt => by
          have h := HOWN'.out.2
          rcases h with ⟨rfl, _⟩ | ⟨g, cap, cur, rfl, hg, _⟩
          · cases hj
          · have hj : some g = some j := hj
            injection hj with hj
            subst hj
            exact hg)
        have hro : Rd S w' L st' := H'.out.upd hgr (fun j h1 h2 => Nat.not_lt_of_le h1 h2.2)
        have hnw : New w w' := HNEW'.out.trans hgr (fun j h1 h2 => by have h1 : L.hi ≤ j := h1; have := H'.out.bhi; have := H'.out.blo; have := H'.out.lomid; omega)
        exact ⟨⟨k + 1, st', by rw [Int.natCast_add]; rfl, by omega, by omega, HREM'.out, HF'.out, hro, hnw, hob, Nat.le_trans hhi' hgr.size⟩, by simp [intOf]; omega⟩
      · have hka' : ps.flatten.length ≤ k := by
          have h : ps.flatten.drop k = [] := by
            rw [← hr1]; exact q1
          exact List.drop_eq_nil_iff.1 h
        obtain ⟨et, ev, hev⟩ := endV S f
        rw [HF.out, hev]
        have KC := Lib.hid (codeEnd f hev w2 (HE.out.new HNEW'.out))
        clear q1 hr1 hf1 hst hw hev
        go_wp2_with (go_at_call 34; refine callRet KC.out ?_; rintro v w3 ⟨rfl, rfl⟩)
        go_ret2
        refine ⟨HNEW'.out, u9, ?_, ?_⟩
        rotate_left
        · rw [List.take_of_length_le (by omega)]
          have := HOWN'.out.bytes
          rw [List.take_of_length_le hka'] at this
          exact this
        · rw [if_neg (by omega)]; rfl
    · obtain rfl : k = n := by omega
      go_wp2
      go_ret2
      refine ⟨HNEW.out, u9, ?_, HOWN.out.bytes⟩
      rw [if_pos hka]; rfl
end Go.Proofs.YtmmjfpcmempeeaaDoor
