/- impl.put. -/
import Derived.Test.YtgbbogocfmepiaaDoorWRune
import Derived.Test.YtgbbogocfmepiaaDoorWStr
import Derived.Test.YtgbbogocfmepiaaDoorWByte
import Derived.Test.YtgbbogocfmepiaaDoorWFrom
import Derived.Test.YtgbbogocfmepiaaDoorReaderOf
import Derived.Test.YtgbbogocfmepiaaDoorPutsOk
import Derived.Laws.IdiomStrings
namespace Go.Proofs.YtgbbogocfmepiaaDoor
open Go.RowKit
def codeW (e : Bool) : Int := if e then 2 else 0
/-- what a step's answer says -/
structure PutR (x : PutS) (st st' : WS) (n c : Int) : Prop where
  wr : x.k ≤ 5 → c = codeW st'.err ∧ (st'.err = false → n = (x.num : Int)) ∧ (st.err = true → st'.err = true) ∧ (x.k = 4 → st'.err = false → st'.n = 0)
  rd : 5 < x.k → c = 0 ∧ st' = st
  av : x.k = 6 → n = (st.buf.length : Int) - st.n
  bf : x.k = 7 → n = st.n
  sz : x.k = 8 → n = st.buf.length
def PutPost (R : Option Nat) (base : Nat) (L : WLoc) (st : WS) (all : List UInt8) (x : PutS) (w : World) (v : Value) (w' : World) : Prop :=
  ∃ (st' : WS) (n c : Int), v = .agg #[.int .i64 n, .int .i64 c] ∧ PutR x st st' n c ∧ WWent base L w st w' st' ∧ Inv R st' (all ++ x.out)
theorem Wr.lt {w : World} {base : Nat} {L : WLoc} {st : WS} (h : Wr w base L st) {k : Nat} (hk : WM L st.ov k) : base ≤ k ∧ k < w.heap.size := by
  have hlt : ∀ k cur, w.heap[k]? = some cur → k < w.heap.size := fun k cur hk => (Array.getElem?_eq_some_iff.1 hk).1
  rcases hk with hk | hk | hk | hk
  · subst hk; exact ⟨h.lo.1, hlt _ _ h.hb⟩
  · subst hk; exact ⟨h.lo.2.1, hlt _ _ h.hbb⟩
  · subst hk; exact ⟨h.lo.2.2, hlt _ _ h.snk.hs⟩
  · exact ⟨(h.snk.lt hk).1, (h.snk.lt hk).2.1⟩
theorem Env.wm {S : Err → Addr} {B : Nat} {w w' : World} {base : Nat} {L : WLoc} {st : WS} (E : Env S B w) (hB : B ≤ base) (h : Wr w base L st) (u : Upd (WM L st.ov) w w') : Env S B w' := E.upd u (fun _ hk => Nat.le_trans hB (h.lt hk).1)
theorem eV_errW (S : Err → Addr) (e : Bool) : errW e = eV S (if e then some .fault else none) := by cases e <;> rfl
theorem codeOfW {S : Err → Addr} {B : Nat} {w : World} (E : Env S B w) (e : Bool) : Calls Tryd.prog 38 #[errW e] w (Ret fun v w' => w = w' ∧ v = .int .i64 (codeW e)) := by
  rw [eV_errW S e]
  refine callRet (codeOf _ w E) ?_
  rintro v w' ⟨rfl, rfl⟩
  exact ⟨rfl, by cases e <;> rfl⟩
/-- a writer's step between what is new -/
theorem WWent.around {base : Nat} {L : WLoc} {w w1 w2 w3 w4 : World} {st st1 : WS} (h0 : Wr w base L st) (hn : New w w1) (hz : w.heap.size + 2 ≤ w1.heap.size) (h : WWent base L w1 st w2 st1) (hn2 : New w2 w3) (u : Upd (fun k => k = w.heap.size + 1) w3 w4) : WWent base L w st w4 st1 := by
  have hst : Stay w st.ov st1.ov := fun k hk => by
    rcases h.stay k hk with q | q
    · exact .inl q
    · exact .inr (by omega)
  refine ⟨(h.wr.new hn2).upd u (fun k hk hw => ?_), ?_, hst, h.len⟩
  · have hk : k = w.heap.size + 1 := hk
    have hlt : k < w.heap.size ∨ w1.heap.size ≤ k := by
      rcases hw with q | q | q | q
      · exact .inl (h0.lt (.inl q)).2
      · exact .inl (h0.lt (.inr (.inl q))).2
      · exact .inl (h0.lt (.inr (.inr (.inl q)))).2
      · rcases h.stay k q with q | q
        · exact .inl (h0.lt (.inr (.inr (.inr q)))).2
        · exact .inr q
    omega
  · exact ((((Upd.refl (WM L st.ov) w).andNew hn).trans h.upd (fun _ h _ => h)).andNew hn2).trans u (fun k hk hl => by have hk : k = w.heap.size + 1 := hk; omega)
/-- where a step's box and the answer lie -/
def P2 (w : World) (k : Int) (v1 : Value) (r : Int) (v3 : Value) : World := (w.alloc (.cells #[.int .i64 k, v1, .int .i32 r, v3] 46)).alloc (.cells #[.int .i64 0, .int .i64 0] 54)
theorem P2_new (w : World) (k : Int) (v1 : Value) (r : Int) (v3 : Value) : New w (P2 w k v1 r v3) := ((Upd.refl _ _).alloc _).alloc _
theorem P2_size (w : World) (k : Int) (v1 : Value) (r : Int) (v3 : Value) : (P2 w k v1 r v3).heap.size = w.heap.size + 2 := by simp [P2]
theorem P2_ans {w : World} {k : Int} {v1 : Value} {r : Int} {v3 : Value} {M : Nat → Prop} {w1 : World} (u : Upd M (P2 w k v1 r v3) w1) (hm : ¬ M (w.heap.size + 1)) : w1.heap[w.heap.size + 1]? = some (.cells #[.int .i64 0, .int .i64 0] 54 (0, 0)) :=
  u.heap (heap_alloc2_new _ _ _) hm
/-- the answer's cell is none of the writer's -/
theorem WWent.ans {base : Nat} {L : WLoc} {w w1 w2 w3 : World} {st st1 : WS} {k : Int} {v1 : Value} {r : Int} {v3 : Value} (h0 : Wr w base L st) (hn : New (P2 w k v1 r v3) w1) (h : WWent base L w1 st w2 st1) (hn2 : New w2 w3) : w3.heap[w.heap.size + 1]? = some (.cells #[.int .i64 0, .int .i64 0] 54 (0, 0)) :=
  P2_ans ((((Upd.refl (WM L st.ov) _).andNew hn).trans h.upd (fun _ h _ => h)).andNew hn2) (fun hh => by have := (h0.lt hh).2; omega)
/-- what is asked of a step -/
structure PutIn (S : Err → Addr) (B : Nat) (w : World) (R : Option Nat) (base : Nat) (L : WLoc) (st : WS) (all : List UInt8) : Prop where
  e : Env S B w
  b : B ≤ base
  wr : Wr w base L st
  inv : Inv R st all
  len : all.length ≤ 900000
/-- what is said of the step -/
structure PutG (w : World) (a a' : Option Addr) (bs : List UInt8) (c c' : Nat) (r : Int) (ps : List (List UInt8)) : Prop where
  b : BytesA w a c bs
  p : PiecesA w a' c' ps
  bl : bs.length ≤ 5000
  r : RuneOk r
  s : srcOk ps = true
set_option maxRecDepth 100000 in
set_option maxHeartbeats 2000000 in
theorem put0 {S : Err → Addr} {B : Nat} {w : World} {R : Option Nat} {base : Nat} {L : WLoc} {st : WS} {all : List UInt8} (P : PutIn S B w R base L st all) {a a' : Option Addr} {bs : List UInt8} {c c' : Nat} {r : Int} {ps : List (List UInt8)} (G : PutG w a a' bs c c' r ps) :
    Calls Tryd.prog 48 #[.pointer (some ⟨L.b, 0, none⟩), .agg #[.int .i64 0, .slice a bs.length c, .int .i32 r, .slice a' ps.length c']] w (Ret (PutPost R base L st all ⟨0, bs, r, ps⟩ w)) := by
  have hn := P2_new w 0 (.slice a bs.length c) r (.slice a' ps.length c')
  have hz := P2_size w 0 (.slice a bs.length c) r (.slice a' ps.length c')
  have hbc := G.b.1
  have hbm := G.b.2.1
  unfold maxLen at hbm
  have hbl := G.bl
  have HB := Lib.hid (G.b.new hn)
  have HP := Lib.hid P
  have HN := Lib.hid hn
  have HZ := Lib.hid hz
  clear P hn hz G
  go_enter Tryd.func48, Tryd.ntmps48
  go_wp2_with (first | (go_at_call 36; refine callRet (copied _ _ _ _ HB.out (by omega)) ?_; intro v w2 h2; obtain ⟨g, cp, rfl, hg1, hg2, hgb⟩ := h2.bytes; have HN2 := Lib.hid h2.1; have HNN : Hid (New w w2) := HN.out.andNew h2.1; have HZ2 : Hid (w.heap.size + 2 ≤ w2.heap.size) := (by have h3 := h2.1.size; have h4 := HZ.out; rw [Hid]; unfold P2 at h4; omega); have KW := Lib.hid (wWrite (HP.out.wr.new HNN.out) HP.out.inv (by have := HP.out.len; omega) hgb (fun hh => by have h3 := (HP.out.wr.lt hh).2; have h4 := HZ.out; unfold P2 at h4; omega)); clear h2 hg1 hg2 hgb) | (go_at_call 60; refine callRet KW.out ?_; intro v w3 h3; obtain ⟨st1, ⟨x, hv, hx, hpe⟩, hwt, hi⟩ := h3.went; have HE2 := Env.wm (HP.out.e.new HNN.out) HP.out.b (HP.out.wr.new HNN.out) hwt.upd; have HKC := Lib.hid (codeOfW HE2 st1.err); obtain ⟨eo, heo⟩ : ∃ eo, errW st1.err = eo := ⟨_, rfl⟩; obtain ⟨ce, hce⟩ : ∃ ce, codeW st1.err = ce := ⟨_, rfl⟩; rw [heo, hce] at HKC; have HWT := Lib.hid hwt; have HI := Lib.hid hi; have HX := Lib.hid hx; have HPE := Lib.hid hpe; have HCE := Lib.hid hce; clear hwt hi hx hpe hce; rw [heo] at hv; subst hv; clear heo h3) | (go_at_call 38; refine callRet HKC.out ?_; rintro v w5 ⟨rfl, rfl⟩) | (refine wpList_plain rfl (fun K hK => ?_); refine wp_storeAll (n := 2) (by kernel_rfl) (.tmp 4) (.tmp 29) rfl (w.heap.size + 1) rfl #[.int .i64 (x), .int .i64 (ce)] rfl rfl (by simp [Value.oneCell']) _ 54 (WWent.ans HP.out.wr HN2.out HWT.out (Upd.refl _ _)) rfl ?_; intro w4 h4 u4 z4; refine hK _ _ ?_; clear hK K))
  refine bodyPost_ret (results_cell_row (p := 4) rfl _ _ (w.heap.size + 1) 54 _ (0, 0) _ rfl h4 Tryd.underlying54 rfl (by kernel_rfl)) rfl ?_
  exact ⟨st1, x, ce, rfl, ⟨fun _ => ⟨HCE.out.symm, fun hh => (by have := HX.out hh; rw [this]; rfl), HPE.out, fun hh => (by cases hh)⟩, fun hh => (by have hh : (5:Int) < 0 := hh; omega), fun hh => (by cases hh), fun hh => (by cases hh), fun hh => (by cases hh)⟩, WWent.around HP.out.wr HNN.out HZ2.out HWT.out (Upd.refl _ _) u4, HI.out⟩
set_option maxRecDepth 100000 in
set_option maxHeartbeats 2000000 in
theorem put2 {S : Err → Addr} {B : Nat} {w : World} {R : Option Nat} {base : Nat} {L : WLoc} {st : WS} {all : List UInt8} (P : PutIn S B w R base L st all) {a a' : Option Addr} {bs : List UInt8} {c c' : Nat} {r : Int} {ps : List (List UInt8)} (G : PutG w a a' bs c c' r ps) :
    Calls Tryd.prog 48 #[.pointer (some ⟨L.b, 0, none⟩), .agg #[.int .i64 2, .slice a bs.length c, .int .i32 r, .slice a' ps.length c']] w (Ret (PutPost R base L st all ⟨2, bs, r, ps⟩ w)) := by
  have hn := P2_new w 2 (.slice a bs.length c) r (.slice a' ps.length c')
  have hz := P2_size w 2 (.slice a bs.length c) r (.slice a' ps.length c')
  have hbc := G.b.1
  have hbm := G.b.2.1
  unfold maxLen at hbm
  have KW := Lib.hid (wRune (P.wr.new hn) P.inv (by have := P.len; omega) G.r)
  have HP := Lib.hid P
  have HN := Lib.hid hn
  have HNN := Lib.hid hn
  have HZ2 : Hid (w.heap.size + 2 ≤ (P2 w 2 (.slice a bs.length c) r (.slice a' ps.length c')).heap.size) := Nat.le_of_eq hz.symm
  clear P hn hz G
  go_enter Tryd.func48, Tryd.ntmps48
  go_wp2_with (first | (go_at_call 62; refine callRet KW.out ?_; intro v w3 h3; obtain ⟨st1, ⟨x, hv, hx, hpe⟩, hwt, hi⟩ := h3.went; have HE2 := Env.wm (HP.out.e.new HNN.out) HP.out.b (HP.out.wr.new HNN.out) hwt.upd; have HKC := Lib.hid (codeOfW HE2 st1.err); obtain ⟨eo, heo⟩ : ∃ eo, errW st1.err = eo := ⟨_, rfl⟩; obtain ⟨ce, hce⟩ : ∃ ce, codeW st1.err = ce := ⟨_, rfl⟩; rw [heo, hce] at HKC; have HWT := Lib.hid hwt; have HI := Lib.hid hi; have HX := Lib.hid hx; have HPE := Lib.hid hpe; have HCE := Lib.hid hce; clear hwt hi hx hpe hce; rw [heo] at hv; subst hv; clear heo h3) | (go_at_call 38; refine callRet HKC.out ?_; rintro v w5 ⟨rfl, rfl⟩) | (refine wpList_plain rfl (fun K hK => ?_); refine wp_storeAll (n := 2) (by kernel_rfl) (.tmp 4) (.tmp 57) rfl (w.heap.size + 1) rfl #[.int .i64 (x), .int .i64 (ce)] rfl rfl (by simp [Value.oneCell']) _ 54 (WWent.ans HP.out.wr (Upd.refl _ _) HWT.out (Upd.refl _ _)) rfl ?_; intro w4 h4 u4 z4; refine hK _ _ ?_; clear hK K))
  refine bodyPost_ret (results_cell_row (p := 4) rfl _ _ (w.heap.size + 1) 54 _ (0, 0) _ rfl h4 Tryd.underlying54 rfl (by kernel_rfl)) rfl ?_
  exact ⟨st1, x, ce, rfl, ⟨fun _ => ⟨HCE.out.symm, fun hh => (by have := HX.out hh; rw [this]; rfl), HPE.out, fun hh => (by cases hh)⟩, fun hh => (by have hh : (5:Int) < 2 := hh; omega), fun hh => (by cases hh), fun hh => (by cases hh), fun hh => (by cases hh)⟩, WWent.around HP.out.wr HNN.out HZ2.out HWT.out (Upd.refl _ _) u4, HI.out⟩
set_option maxRecDepth 100000 in
set_option maxHeartbeats 2000000 in
theorem put3 {S : Err → Addr} {B : Nat} {w : World} {R : Option Nat} {base : Nat} {L : WLoc} {st : WS} {all : List UInt8} (P : PutIn S B w R base L st all) {a a' : Option Addr} {bs : List UInt8} {c c' : Nat} {r : Int} {ps : List (List UInt8)} (G : PutG w a a' bs c c' r ps) :
    Calls Tryd.prog 48 #[.pointer (some ⟨L.b, 0, none⟩), .agg #[.int .i64 3, .slice a bs.length c, .int .i32 r, .slice a' ps.length c']] w (Ret (PutPost R base L st all ⟨3, bs, r, ps⟩ w)) := by
  have hn := P2_new w 3 (.slice a bs.length c) r (.slice a' ps.length c')
  have hz := P2_size w 3 (.slice a bs.length c) r (.slice a' ps.length c')
  have hbc := G.b.1
  have hbm := G.b.2.1
  unfold maxLen at hbm
  have hbl := G.bl
  have KW := Lib.hid (wString (bs := bs) (P.wr.new hn) P.inv (by have := P.len; omega))
  have HB := Lib.hid (G.b.new hn)
  have HP := Lib.hid P
  have HN := Lib.hid hn
  have HNN := Lib.hid hn
  have HZ2 : Hid (w.heap.size + 2 ≤ (P2 w 3 (.slice a bs.length c) r (.slice a' ps.length c')).heap.size) := Nat.le_of_eq hz.symm
  clear P hn hz G
  go_enter Tryd.func48, Tryd.ntmps48
  go_wp2_with (first | (refine wpList_plain rfl (fun K hK => ?_); refine wp_str Tryd.underlying29 Tryd.underlying5 Tryd.underlying9 (.tmp 63) rfl rfl HB.out ?_; refine hK _ _ ?_; clear hK K) | (go_at_call 63; refine callRet KW.out ?_; intro v w3 h3; obtain ⟨st1, ⟨x, hv, hx, hpe⟩, hwt, hi⟩ := h3.went; have HE2 := Env.wm (HP.out.e.new HNN.out) HP.out.b (HP.out.wr.new HNN.out) hwt.upd; have HKC := Lib.hid (codeOfW HE2 st1.err); obtain ⟨eo, heo⟩ : ∃ eo, errW st1.err = eo := ⟨_, rfl⟩; obtain ⟨ce, hce⟩ : ∃ ce, codeW st1.err = ce := ⟨_, rfl⟩; rw [heo, hce] at HKC; have HWT := Lib.hid hwt; have HI := Lib.hid hi; have HX := Lib.hid hx; have HPE := Lib.hid hpe; have HCE := Lib.hid hce; clear hwt hi hx hpe hce; rw [heo] at hv; subst hv; clear heo h3) | (go_at_call 38; refine callRet HKC.out ?_; rintro v w5 ⟨rfl, rfl⟩) | (refine wpList_plain rfl (fun K hK => ?_); refine wp_storeAll (n := 2) (by kernel_rfl) (.tmp 4) (.tmp 71) rfl (w.heap.size + 1) rfl #[.int .i64 (x), .int .i64 (ce)] rfl rfl (by simp [Value.oneCell']) _ 54 (WWent.ans HP.out.wr (Upd.refl _ _) HWT.out (Upd.refl _ _)) rfl ?_; intro w4 h4 u4 z4; refine hK _ _ ?_; clear hK K))
  refine bodyPost_ret (results_cell_row (p := 4) rfl _ _ (w.heap.size + 1) 54 _ (0, 0) _ rfl h4 Tryd.underlying54 rfl (by kernel_rfl)) rfl ?_
  exact ⟨st1, x, ce, rfl, ⟨fun _ => ⟨HCE.out.symm, fun hh => (by have := HX.out hh; rw [this]; rfl), HPE.out, fun hh => (by cases hh)⟩, fun hh => (by have hh : (5:Int) < 3 := hh; omega), fun hh => (by cases hh), fun hh => (by cases hh), fun hh => (by cases hh)⟩, WWent.around HP.out.wr HNN.out HZ2.out HWT.out (Upd.refl _ _) u4, HI.out⟩
end Go.Proofs.YtgbbogocfmepiaaDoor
