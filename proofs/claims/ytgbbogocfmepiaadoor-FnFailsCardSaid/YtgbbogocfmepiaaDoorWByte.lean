/- (*bufio.Writer).WriteByte. -/
import Derived.Test.YtgbbogocfmepiaaDoorFlush
namespace Go.Proofs.YtgbbogocfmepiaaDoor
open Go.RowKit
/-- what WriteByte tells -/
def WbP (st : WS) (v : Value) (st' : WS) : Prop := v = errW st'.err ∧ (st.err = true → st'.err = true)
def FullN1 (st : WS) : Prop := st.err = false → st.n = 0
theorem set_splice (buf : List UInt8) (n : Nat) (c : UInt8) (hn : n < buf.length) : ((buf.map bv).toArray.setIfInBounds n (bv c)) = (splice (buf.map bv).toArray.toList n ([c].map bv)).toArray := by
  apply Array.toList_inj.1
  rw [Array.toList_setIfInBounds]
  show (buf.map bv).set n (bv c) = splice (buf.map bv) n [bv c]
  unfold splice
  rw [List.set_eq_take_append_cons_drop, if_pos (by simpa using hn)]
  rfl
theorem WWent.byte {R : Option Nat} {base : Nat} {L : WLoc} {w w1 w2 : World} {st st1 : WS} {all : List UInt8} (h : WWent base L w st w1 st1) (hI : Inv R st1 all) (he : st1.err = false) (hn : st1.n < st1.buf.length) (c : UInt8) (hst : st.err = false)
    (hw : w2 = (w1.setCell ⟨L.bb, st1.n, none⟩ (bv c)).setCell ⟨L.b, 2, none⟩ (.int .i64 ((st1.n : Int) + 1))) : WPost R base L st (all ++ [c]) (WbP st) w .nilIface w2 := by
  have hb : (w1.setCell ⟨L.bb, st1.n, none⟩ (bv c)).heap[L.bb]? = some (.cells (splice (st1.buf.map bv).toArray.toList st1.n ([c].map bv)).toArray 5 (0, 0)) := by
    rw [World.heap_setCell_self h.wr.hbb, set_splice _ _ _ hn]
  have h2 := h.laid (cs := [c]) (by show st1.n + 1 ≤ _; omega) ((Upd.refl (fun j => j = L.bb) w1).setCell (p := ⟨L.bb, st1.n, none⟩) (fun _ => rfl) _) hb
  have h3 := hI.laid he (cs := [c]) (by show st1.n + 1 ≤ _; omega)
  rw [hw, show ((st1.n : Int) + 1) = ((st1.n + [c].length : Nat) : Int) by simp]
  exact h2.post h3 ⟨by show _ = errW st1.err; rw [he]; rfl, fun hh => by rw [hst] at hh; cases hh⟩
set_option maxRecDepth 100000 in
set_option maxHeartbeats 2000000 in
theorem wByte {R : Option Nat} {w : World} {base : Nat} {L : WLoc} {st : WS} {all : List UInt8} (h : Wr w base L st) (hI : Inv R st all) (hl : all.length ≤ 1000000) (c : UInt8) :
    Calls Tryd.prog 61 #[.pointer (some ⟨L.b, 0, none⟩), .int .u8 (c.toNat : Int)] w (Ret (WPost R base L st (all ++ [c]) (WbP st) w)) := by
  obtain ⟨c0, c1, c2, c3, hf⟩ := h.cells
  have hn := h.n
  have hhi := h.hi
  have hpos := h.pos
  have H := Lib.hid h
  have HI := Lib.hid hI
  have hne := h.ne.1
  cases he : st.err with
  | true =>
    have HF : Hid (WPost R base L st (all ++ [c]) (WbP st) w (.iface 106 (.agg #[])) w) := Lib.hid ((WWent.refl h).post (hI.more he [c]) ⟨by rw [he]; rfl, fun _ => he⟩)
    rw [he] at c0
    change w.cell? ⟨L.b, 0, none⟩ = some (.iface 106 (.agg #[])) at c0
    clear h hI hl he
    go_enter Tryd.func61, Tryd.ntmps61
    go_wp2_with fail
    go_ret
    exact HF.out
  | false =>
    rw [he] at c0
    change w.cell? ⟨L.b, 0, none⟩ = some .nilIface at c0
    have HE := Lib.hid he
    have KA := Lib.hid (wAvail h)
    have KF := Lib.hid (fun w2 (hx : New w w2) => flush (h.new hx) hI hl)
    by_cases hav : st.n < st.buf.length
    · have q1 : decide ((st.buf.length : Int) - (st.n : Int) ≤ 0) = false := decide_eq_false (by omega)
      have HAV := Lib.hid hav
      have hnl : ¬ st.buf.length ≤ st.n := by omega
      have HBB : Hid (∀ w2, New w w2 → w2.heap[L.bb]? = some (.cells (st.buf.map bv).toArray 5 (0, 0))) := Lib.hid (fun w2 hx => (h.new hx).hbb)
      obtain ⟨x, hx⟩ : ∃ x, st.buf[st.n]? = some x := ⟨_, List.getElem?_eq_getElem hav⟩
      have HX := Lib.hid hx
      clear h hI hl he hx
      go_enter Tryd.func61, Tryd.ntmps61
      go_wp2_with (go_at_call 66; refine callRet KA.out ?_; rintro v w2 ⟨hn2, rfl⟩; have HN2 := Lib.hid hn2; have e1 := hn2.cell c1 (fun h => h); have e2 := hn2.cell c2 (fun h => h); have b0 : w2.cell? ⟨L.bb, st.n, none⟩ = some (bv x) := (by rw [World.cell_of_heap (HBB.out _ hn2)]; simp [HX.out]); have bf : w2.frozen? ⟨L.bb, st.n, none⟩ = false := World.frozen_of_heap (HBB.out _ hn2) _; have ef : ∀ i, w2.frozen? ⟨L.b, i, none⟩ = false := (fun i => World.frozen_of_heap (H.out.new hn2).hb i); clear hn2)
      refine wp_region_lx {} (by kernel_rfl) (by kernel_rfl) ⟨fun _ _ _ h => h.2, fun _ _ h => h⟩ ?_
      (repeat' (first | (refine wpLx_calm rfl rfl rfl (fun K hK => ?_); go_step <;> (refine hK _ ?_; clear hK K)) | (refine wpLx_skip2 rfl rfl rfl ?_; go_simp) | (refine wpLx_calm2 rfl rfl rfl rfl rfl (fun K hK => ?_); go_step <;> (refine hK _ ?_; clear hK K))))
      refine wpLx_eff rfl rfl rfl (fun K hK => ?_)
      go_step
      refine hK _ _ ?_
      clear hK K
      refine wpLx_nil ?_
      go_wp2_with fail
      go_ret
      exact ((WWent.refl H.out).new HN2.out.drew).byte HI.out HE.out HAV.out c HE.out rfl
    · have q1 : decide ((st.buf.length : Int) - (st.n : Int) ≤ 0) = true := decide_eq_true (by omega)
      have hnl : st.buf.length ≤ st.n := by omega
      clear h hI hl he hav
      go_enter Tryd.func61, Tryd.ntmps61
      go_wp2_with (first
        | (go_at_call 66; refine callRet KA.out ?_; rintro v w2 ⟨hn2, rfl⟩; have HN2 := Lib.hid hn2; clear hn2)
        | (go_at_call 64; refine callRet (KF.out _ HN2.out) ?_; intro v w3 hp; obtain ⟨st1, ⟨rfl, q2, _⟩, hw, hi⟩ := hp.went; have d0 : w3.cell? ⟨L.b, 0, none⟩ = some (errW st1.err) := hw.wr.cells.1; have d1 : w3.cell? ⟨L.b, 1, none⟩ = some (.slice (some ⟨L.bb, 0, none⟩) st1.buf.length st1.buf.length) := hw.wr.cells.2.1; have d2 : w3.cell? ⟨L.b, 2, none⟩ = some (.int .i64 (st1.n : Int)) := hw.wr.cells.2.2.1; have df := hw.wr.cells.2.2.2.2; have hlen := hw.len; have HBB : Hid (w3.heap[L.bb]? = some (.cells (st1.buf.map bv).toArray 5 (0, 0))) := Lib.hid hw.wr.hbb; have HW := Lib.hid hw; have HI1 := Lib.hid hi; have HQ : Hid (FullN1 st1) := Lib.hid q2; clear hw hi q2 hp; obtain ⟨eo, heo, hee⟩ : ∃ eo, errW st1.err = eo ∧ ((st1.err = true ∧ eo = .iface 106 (.agg #[])) ∨ (st1.err = false ∧ eo = .nilIface)) := ⟨_, rfl, by cases st1.err <;> simp [errW]⟩; rw [heo] at d0 ⊢; have HLEN := Lib.hid hlen; have hp1 : 0 < st1.buf.length := (by omega); clear hlen; rcases hee with ⟨h1, rfl⟩ | ⟨h1, rfl⟩; all_goals (have HE1 := Lib.hid h1; clear h1 heo)))
      · go_ret
        exact (WWent.trans H.out ((WWent.refl H.out).new HN2.out) HW.out).post (HI1.out.more HE1.out [c]) ⟨by rw [HE1.out]; rfl, fun _ => HE1.out⟩
      · have hz := HQ.out HE1.out
        rw [hz] at d2
        obtain ⟨x, hx⟩ : ∃ x, st1.buf[0]? = some x := ⟨_, List.getElem?_eq_getElem hp1⟩
        have b0 : w3.cell? ⟨L.bb, 0, none⟩ = some (bv x) := by rw [World.cell_of_heap HBB.out]; simp [hx]
        have bf : w3.frozen? ⟨L.bb, 0, none⟩ = false := World.frozen_of_heap HBB.out _
        have HZ := Lib.hid hz
        clear hz hx
        refine wp_region_lx {} (by kernel_rfl) (by kernel_rfl) ⟨fun _ _ _ h => h.2, fun _ _ h => h⟩ ?_
        (repeat' (first | (refine wpLx_calm rfl rfl rfl (fun K hK => ?_); go_step <;> (refine hK _ ?_; clear hK K)) | (refine wpLx_skip2 rfl rfl rfl ?_; go_simp) | (refine wpLx_calm2 rfl rfl rfl rfl rfl (fun K hK => ?_); go_step <;> (refine hK _ ?_; clear hK K))))
        refine wpLx_eff rfl rfl rfl (fun K hK => ?_)
        go_step
        refine hK _ _ ?_
        clear hK K
        refine wpLx_nil ?_
        go_wp2_with fail
        go_ret
        exact ((WWent.trans H.out ((WWent.refl H.out).new HN2.out) HW.out).new (Upd.refl _ _).drew).byte HI1.out HE1.out (by rw [HZ.out]; exact hp1) c HE.out (by rw [HZ.out]; rfl)
end Go.Proofs.YtgbbogocfmepiaaDoor
