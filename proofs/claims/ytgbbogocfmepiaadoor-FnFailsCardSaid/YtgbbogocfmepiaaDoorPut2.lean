/- impl.put: WriteByte, Flush, ReadFrom, and what is asked. -/
import Derived.Test.YtgbbogocfmepiaaDoorPut
namespace Go.Proofs.YtgbbogocfmepiaaDoor
open Go.RowKit
set_option maxRecDepth 100000 in
set_option maxHeartbeats 2000000 in
theorem put1 {S : Err → Addr} {B : Nat} {w : World} {R : Option Nat} {base : Nat} {L : WLoc} {st : WS} {all : List UInt8} (P : PutIn S B w R base L st all) {a a' : Option Addr} {bs : List UInt8} {c c' : Nat} {r : Int} {ps : List (List UInt8)} (G : PutG w a a' bs c c' r ps) :
    Calls Tryd.prog 48 #[.pointer (some ⟨L.b, 0, none⟩), .agg #[.int .i64 1, .slice a bs.length c, .int .i32 r, .slice a' ps.length c']] w (Ret (PutPost R base L st all ⟨1, bs, r, ps⟩ w)) := by
  have hn := P2_new w 1 (.slice a bs.length c) r (.slice a' ps.length c')
  have hz := P2_size w 1 (.slice a bs.length c) r (.slice a' ps.length c')
  have hbc := G.b.1
  have hbm := G.b.2.1
  unfold maxLen at hbm
  have hbb := G.b
  clear G
  cases bs with
  | nil =>
    have KW := Lib.hid (wByte (P.wr.new hn) P.inv (by have := P.len; omega) 0)
    have HP := Lib.hid P
    have HN := Lib.hid hn
    have HNN := Lib.hid hn
    have HZ2 : Hid (w.heap.size + 2 ≤ (P2 w 1 (.slice a ([] : List UInt8).length c) r (.slice a' ps.length c')).heap.size) := Nat.le_of_eq hz.symm
    clear P hn hz hbb
    go_enter Tryd.func48, Tryd.ntmps48
    go_wp2_with (first | (go_at_call 61; refine callRet KW.out ?_; intro v w3 h3; obtain ⟨st1, ⟨hv, hpe⟩, hwt, hi⟩ := h3.went; have HE2 := Env.wm (HP.out.e.new HNN.out) HP.out.b (HP.out.wr.new HNN.out) hwt.upd; have HKC := Lib.hid (codeOfW HE2 st1.err); obtain ⟨eo, heo⟩ : ∃ eo, errW st1.err = eo := ⟨_, rfl⟩; obtain ⟨ce, hce⟩ : ∃ ce, codeW st1.err = ce := ⟨_, rfl⟩; rw [heo, hce] at HKC; have HWT := Lib.hid hwt; have HI := Lib.hid hi; have HPE := Lib.hid hpe; have HCE := Lib.hid hce; clear hwt hi hpe hce; rw [heo] at hv; subst hv; clear heo h3) | (go_at_call 38; refine callRet HKC.out ?_; rintro v w5 ⟨rfl, rfl⟩) | (refine wpList_plain rfl (fun K hK => ?_); refine wp_storeAll (n := 2) (by kernel_rfl) (.tmp 4) (.tmp 44) rfl (w.heap.size + 1) rfl #[.int .i64 (0), .int .i64 (ce)] rfl rfl (by simp [Value.oneCell']) _ 54 (WWent.ans HP.out.wr (Upd.refl _ _) HWT.out (Upd.refl _ _)) rfl ?_; intro w4 h4 u4 z4; refine hK _ _ ?_; clear hK K))
    refine bodyPost_ret (results_cell_row (p := 4) rfl _ _ (w.heap.size + 1) 54 _ (0, 0) _ rfl h4 Tryd.underlying54 rfl (by kernel_rfl)) rfl ?_
    exact ⟨st1, 0, ce, rfl, ⟨fun _ => ⟨HCE.out.symm, fun _ => rfl, HPE.out, fun hh => (by cases hh)⟩, fun hh => (by have hh : (5:Int) < 1 := hh; omega), fun hh => (by cases hh), fun hh => (by cases hh), fun hh => (by cases hh)⟩, WWent.around HP.out.wr HNN.out HZ2.out HWT.out (Upd.refl _ _) u4, HI.out⟩
  | cons x0 bs =>
    obtain ⟨pb, po, rfl, hc0⟩ : ∃ pb po, a = some ⟨pb, po, none⟩ ∧ w.cell? ⟨pb, po, none⟩ = some (.int .u8 (x0.toNat : Int)) := (by
      cases a with
      | none => have := hbb.1; have := hbb.2.2.1 rfl; simp at *; omega
      | some p =>
        obtain ⟨h1, h2⟩ := hbb.2.2.2 p rfl
        obtain ⟨pb, po, s⟩ := p
        have h1 : s = none := h1 (by simp)
        subst h1
        exact ⟨pb, po, rfl, h2 0 (by simp)⟩)
    have hpl : pb < w.heap.size := World.block_lt_of_cell? w _ hc0
    have KW := Lib.hid (wByte (P.wr.new hn) P.inv (by have := P.len; omega) x0)
    have HP := Lib.hid P
    have HN := Lib.hid hn
    have HNN := Lib.hid hn
    have HZ2 : Hid (w.heap.size + 2 ≤ (P2 w 1 (.slice (some ⟨pb, po, none⟩) (x0 :: bs).length c) r (.slice a' ps.length c')).heap.size) := Nat.le_of_eq hz.symm
    clear P hn hz hbb
    go_enter Tryd.func48, Tryd.ntmps48
    go_wp2_with (first | (go_at_call 61; refine callRet KW.out ?_; intro v w3 h3; obtain ⟨st1, ⟨hv, hpe⟩, hwt, hi⟩ := h3.went; have HE2 := Env.wm (HP.out.e.new HNN.out) HP.out.b (HP.out.wr.new HNN.out) hwt.upd; have HKC := Lib.hid (codeOfW HE2 st1.err); obtain ⟨eo, heo⟩ : ∃ eo, errW st1.err = eo := ⟨_, rfl⟩; obtain ⟨ce, hce⟩ : ∃ ce, codeW st1.err = ce := ⟨_, rfl⟩; rw [heo, hce] at HKC; have HWT := Lib.hid hwt; have HI := Lib.hid hi; have HPE := Lib.hid hpe; have HCE := Lib.hid hce; clear hwt hi hpe hce; rw [heo] at hv; subst hv; clear heo h3) | (go_at_call 38; refine callRet HKC.out ?_; rintro v w5 ⟨rfl, rfl⟩) | (refine wpList_plain rfl (fun K hK => ?_); refine wp_storeAll (n := 2) (by kernel_rfl) (.tmp 4) (.tmp 44) rfl (w.heap.size + 1) rfl #[.int .i64 (0), .int .i64 (ce)] rfl rfl (by simp [Value.oneCell']) _ 54 (WWent.ans HP.out.wr (Upd.refl _ _) HWT.out (Upd.refl _ _)) rfl ?_; intro w4 h4 u4 z4; refine hK _ _ ?_; clear hK K))
    refine bodyPost_ret (results_cell_row (p := 4) rfl _ _ (w.heap.size + 1) 54 _ (0, 0) _ rfl h4 Tryd.underlying54 rfl (by kernel_rfl)) rfl ?_
    exact ⟨st1, 0, ce, rfl, ⟨fun _ => ⟨HCE.out.symm, fun _ => rfl, HPE.out, fun hh => (by cases hh)⟩, fun hh => (by have hh : (5:Int) < 1 := hh; omega), fun hh => (by cases hh), fun hh => (by cases hh), fun hh => (by cases hh)⟩, WWent.around HP.out.wr HNN.out HZ2.out HWT.out (Upd.refl _ _) u4, HI.out⟩
set_option maxRecDepth 100000 in
set_option maxHeartbeats 2000000 in
theorem put4 {S : Err → Addr} {B : Nat} {w : World} {R : Option Nat} {base : Nat} {L : WLoc} {st : WS} {all : List UInt8} (P : PutIn S B w R base L st all) {a a' : Option Addr} {bs : List UInt8} {c c' : Nat} {r : Int} {ps : List (List UInt8)} (G : PutG w a a' bs c c' r ps) :
    Calls Tryd.prog 48 #[.pointer (some ⟨L.b, 0, none⟩), .agg #[.int .i64 4, .slice a bs.length c, .int .i32 r, .slice a' ps.length c']] w (Ret (PutPost R base L st all ⟨4, bs, r, ps⟩ w)) := by
  have hn := P2_new w 4 (.slice a bs.length c) r (.slice a' ps.length c')
  have hz := P2_size w 4 (.slice a bs.length c) r (.slice a' ps.length c')
  have hbc := G.b.1
  have hbm := G.b.2.1
  unfold maxLen at hbm
  have KW := Lib.hid (flush (P.wr.new hn) P.inv (by have := P.len; omega))
  have HP := Lib.hid P
  have HN := Lib.hid hn
  have HNN := Lib.hid hn
  have HZ2 : Hid (w.heap.size + 2 ≤ (P2 w 4 (.slice a bs.length c) r (.slice a' ps.length c')).heap.size) := Nat.le_of_eq hz.symm
  clear P hn hz G
  go_enter Tryd.func48, Tryd.ntmps48
  go_wp2_with (first | (go_at_call 64; refine callRet KW.out ?_; intro v w3 h3; obtain ⟨st1, ⟨hv, hx, hpe⟩, hwt, hi⟩ := h3.went; have HE2 := Env.wm (HP.out.e.new HNN.out) HP.out.b (HP.out.wr.new HNN.out) hwt.upd; have HKC := Lib.hid (codeOfW HE2 st1.err); obtain ⟨eo, heo⟩ : ∃ eo, errW st1.err = eo := ⟨_, rfl⟩; obtain ⟨ce, hce⟩ : ∃ ce, codeW st1.err = ce := ⟨_, rfl⟩; rw [heo, hce] at HKC; have HWT := Lib.hid hwt; have HI := Lib.hid hi; have HX := Lib.hid hx; have HPE := Lib.hid hpe; have HCE := Lib.hid hce; clear hwt hi hx hpe hce; rw [heo] at hv; subst hv; clear heo h3) | (go_at_call 38; refine callRet HKC.out ?_; rintro v w5 ⟨rfl, rfl⟩) | (refine wpList_plain rfl (fun K hK => ?_); refine wp_storeAll (n := 2) (by kernel_rfl) (.tmp 4) (.tmp 77) rfl (w.heap.size + 1) rfl #[.int .i64 (0), .int .i64 (ce)] rfl rfl (by simp [Value.oneCell']) _ 54 (WWent.ans HP.out.wr (Upd.refl _ _) HWT.out (Upd.refl _ _)) rfl ?_; intro w4 h4 u4 z4; refine hK _ _ ?_; clear hK K))
  refine bodyPost_ret (results_cell_row (p := 4) rfl _ _ (w.heap.size + 1) 54 _ (0, 0) _ rfl h4 Tryd.underlying54 rfl (by kernel_rfl)) rfl ?_
  exact ⟨st1, 0, ce, rfl, ⟨fun _ => ⟨HCE.out.symm, fun _ => rfl, HPE.out, fun _ => HX.out⟩, fun hh => (by have hh : (5:Int) < 4 := hh; omega), fun hh => (by cases hh), fun hh => (by cases hh), fun hh => (by cases hh)⟩, WWent.around HP.out.wr HNN.out HZ2.out HWT.out (Upd.refl _ _) u4, (by show Inv R st1 (all ++ []); rw [List.append_nil]; exact HI.out)⟩
set_option maxRecDepth 100000 in
set_option maxHeartbeats 2000000 in
theorem put6 {S : Err → Addr} {B : Nat} {w : World} {R : Option Nat} {base : Nat} {L : WLoc} {st : WS} {all : List UInt8} (P : PutIn S B w R base L st all) {a a' : Option Addr} {bs : List UInt8} {c c' : Nat} {r : Int} {ps : List (List UInt8)} (G : PutG w a a' bs c c' r ps) :
    Calls Tryd.prog 48 #[.pointer (some ⟨L.b, 0, none⟩), .agg #[.int .i64 6, .slice a bs.length c, .int .i32 r, .slice a' ps.length c']] w (Ret (PutPost R base L st all ⟨6, bs, r, ps⟩ w)) := by
  have hn := P2_new w 6 (.slice a bs.length c) r (.slice a' ps.length c')
  have hz := P2_size w 6 (.slice a bs.length c) r (.slice a' ps.length c')
  have hbc := G.b.1
  have hbm := G.b.2.1
  unfold maxLen at hbm
  have KW := Lib.hid (wAvail (P.wr.new hn))
  have HP := Lib.hid P
  have HN := Lib.hid hn
  have HNN := Lib.hid hn
  have HZ2 : Hid (w.heap.size + 2 ≤ (P2 w 6 (.slice a bs.length c) r (.slice a' ps.length c')).heap.size) := Nat.le_of_eq hz.symm
  have HW0 := Lib.hid (WWent.refl (P.wr.new hn))
  clear P hn hz G
  go_enter Tryd.func48, Tryd.ntmps48
  go_wp2_with (first | (go_at_call 66; refine callRet KW.out ?_; rintro v w3 ⟨hn3, rfl⟩; have HN3 := Lib.hid hn3; clear hn3) | (refine wpList_plain rfl (fun K hK => ?_); refine wp_storeAll (n := 2) (by kernel_rfl) (.tmp 4) (.tmp 98) rfl (w.heap.size + 1) rfl #[.int .i64 ((st.buf.length : Int) - (st.n : Int)), .int .i64 (0)] rfl rfl (by simp [Value.oneCell']) _ 54 (WWent.ans HP.out.wr (Upd.refl _ _) HW0.out HN3.out) rfl ?_; intro w4 h4 u4 z4; refine hK _ _ ?_; clear hK K))
  refine bodyPost_ret (results_cell_row (p := 4) rfl _ _ (w.heap.size + 1) 54 _ (0, 0) _ rfl h4 Tryd.underlying54 rfl (by kernel_rfl)) rfl ?_
  exact ⟨st, _, 0, rfl, ⟨fun hh => (by have hh : (6:Int) ≤ 5 := hh; omega), fun _ => ⟨rfl, rfl⟩, fun _ => rfl, fun hh => (by cases hh), fun hh => (by cases hh)⟩, WWent.around HP.out.wr HNN.out HZ2.out HW0.out HN3.out u4, (by show Inv R st (all ++ []); rw [List.append_nil]; exact HP.out.inv)⟩
set_option maxRecDepth 100000 in
set_option maxHeartbeats 2000000 in
theorem put7 {S : Err → Addr} {B : Nat} {w : World} {R : Option Nat} {base : Nat} {L : WLoc} {st : WS} {all : List UInt8} (P : PutIn S B w R base L st all) {a a' : Option Addr} {bs : List UInt8} {c c' : Nat} {r : Int} {ps : List (List UInt8)} (G : PutG w a a' bs c c' r ps) :
    Calls Tryd.prog 48 #[.pointer (some ⟨L.b, 0, none⟩), .agg #[.int .i64 7, .slice a bs.length c, .int .i32 r, .slice a' ps.length c']] w (Ret (PutPost R base L st all ⟨7, bs, r, ps⟩ w)) := by
  have hn := P2_new w 7 (.slice a bs.length c) r (.slice a' ps.length c')
  have hz := P2_size w 7 (.slice a bs.length c) r (.slice a' ps.length c')
  have hbc := G.b.1
  have hbm := G.b.2.1
  unfold maxLen at hbm
  have KW := Lib.hid (wBuffered (P.wr.new hn))
  have HP := Lib.hid P
  have HN := Lib.hid hn
  have HNN := Lib.hid hn
  have HZ2 : Hid (w.heap.size + 2 ≤ (P2 w 7 (.slice a bs.length c) r (.slice a' ps.length c')).heap.size) := Nat.le_of_eq hz.symm
  have HW0 := Lib.hid (WWent.refl (P.wr.new hn))
  clear P hn hz G
  go_enter Tryd.func48, Tryd.ntmps48
  go_wp2_with (first | (go_at_call 67; refine callRet KW.out ?_; rintro v w3 ⟨rfl, rfl⟩) | (refine wpList_plain rfl (fun K hK => ?_); refine wp_storeAll (n := 2) (by kernel_rfl) (.tmp 4) (.tmp 103) rfl (w.heap.size + 1) rfl #[.int .i64 ((st.n : Int)), .int .i64 (0)] rfl rfl (by simp [Value.oneCell']) _ 54 (WWent.ans HP.out.wr (Upd.refl _ _) HW0.out (Upd.refl _ _)) rfl ?_; intro w4 h4 u4 z4; refine hK _ _ ?_; clear hK K))
  refine bodyPost_ret (results_cell_row (p := 4) rfl _ _ (w.heap.size + 1) 54 _ (0, 0) _ rfl h4 Tryd.underlying54 rfl (by kernel_rfl)) rfl ?_
  exact ⟨st, _, 0, rfl, ⟨fun hh => (by have hh : (7:Int) ≤ 5 := hh; omega), fun _ => ⟨rfl, rfl⟩, fun hh => (by cases hh), fun _ => rfl, fun hh => (by cases hh)⟩, WWent.around HP.out.wr HNN.out HZ2.out HW0.out (Upd.refl _ _) u4, (by show Inv R st (all ++ []); rw [List.append_nil]; exact HP.out.inv)⟩
set_option maxRecDepth 100000 in
set_option maxHeartbeats 2000000 in
theorem put8 {S : Err → Addr} {B : Nat} {w : World} {R : Option Nat} {base : Nat} {L : WLoc} {st : WS} {all : List UInt8} (P : PutIn S B w R base L st all) {a a' : Option Addr} {bs : List UInt8} {c c' : Nat} {r : Int} {ps : List (List UInt8)} (G : PutG w a a' bs c c' r ps) :
    Calls Tryd.prog 48 #[.pointer (some ⟨L.b, 0, none⟩), .agg #[.int .i64 8, .slice a bs.length c, .int .i32 r, .slice a' ps.length c']] w (Ret (PutPost R base L st all ⟨8, bs, r, ps⟩ w)) := by
  have hn := P2_new w 8 (.slice a bs.length c) r (.slice a' ps.length c')
  have hz := P2_size w 8 (.slice a bs.length c) r (.slice a' ps.length c')
  have hbc := G.b.1
  have hbm := G.b.2.1
  unfold maxLen at hbm
  have KW := Lib.hid (wSize (P.wr.new hn))
  have HP := Lib.hid P
  have HN := Lib.hid hn
  have HNN := Lib.hid hn
  have HZ2 : Hid (w.heap.size + 2 ≤ (P2 w 8 (.slice a bs.length c) r (.slice a' ps.length c')).heap.size) := Nat.le_of_eq hz.symm
  have HW0 := Lib.hid (WWent.refl (P.wr.new hn))
  clear P hn hz G
  go_enter Tryd.func48, Tryd.ntmps48
  go_wp2_with (first | (go_at_call 68; refine callRet KW.out ?_; rintro v w3 ⟨rfl, rfl⟩) | (refine wpList_plain rfl (fun K hK => ?_); refine wp_storeAll (n := 2) (by kernel_rfl) (.tmp 4) (.tmp 108) rfl (w.heap.size + 1) rfl #[.int .i64 ((st.buf.length : Int)), .int .i64 (0)] rfl rfl (by simp [Value.oneCell']) _ 54 (WWent.ans HP.out.wr (Upd.refl _ _) HW0.out (Upd.refl _ _)) rfl ?_; intro w4 h4 u4 z4; refine hK _ _ ?_; clear hK K))
  refine bodyPost_ret (results_cell_row (p := 4) rfl _ _ (w.heap.size + 1) 54 _ (0, 0) _ rfl h4 Tryd.underlying54 rfl (by kernel_rfl)) rfl ?_
  exact ⟨st, _, 0, rfl, ⟨fun hh => (by have hh : (8:Int) ≤ 5 := hh; omega), fun _ => ⟨rfl, rfl⟩, fun hh => (by cases hh), fun hh => (by cases hh), fun _ => rfl⟩, WWent.around HP.out.wr HNN.out HZ2.out HW0.out (Upd.refl _ _) u4, (by show Inv R st (all ++ []); rw [List.append_nil]; exact HP.out.inv)⟩
end Go.Proofs.YtgbbogocfmepiaaDoor
