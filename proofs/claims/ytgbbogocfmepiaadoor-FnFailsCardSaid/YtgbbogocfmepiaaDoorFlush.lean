/- (*bufio.Writer).Available, Buffered, Size, Flush. -/
import Derived.Test.YtgbbogocfmepiaaDoorWrP
namespace Go.Proofs.YtgbbogocfmepiaaDoor
open Go.RowKit
set_option maxHeartbeats 400000 in
theorem wAvail {w : World} {base : Nat} {L : WLoc} {st : WS} (h : Wr w base L st) : Calls Tryd.prog 66 #[.pointer (some ⟨L.b, 0, none⟩)] w (Ret fun v w' => New w w' ∧ v = .int .i64 ((st.buf.length : Int) - (st.n : Int))) := by
  obtain ⟨c0, c1, c2, c3, hf⟩ := h.cells
  have hn := h.n
  have hhi := h.hi
  clear h
  go_enter Tryd.func66, Tryd.ntmps66
  (go_wp2_with fail; (repeat' (refine wp_region_lx {} (by kernel_rfl) (by kernel_rfl) ⟨fun _ _ _ h => h.2, fun _ _ h => h⟩ ?_; (repeat' (first | (refine wpLx_calm rfl rfl rfl (fun K hK => ?_); go_step <;> (refine hK _ ?_; clear hK K)) | (refine wpLx_skip2 rfl rfl rfl ?_; go_simp) | (refine wpLx_calm2 rfl rfl rfl rfl rfl (fun K hK => ?_); go_step <;> (refine hK _ ?_; clear hK K)))); all_goals (refine wpLx_nil ?_; try go_wp2_with fail))))
  go_ret
  exact ⟨(Upd.refl _ _).drew, rfl⟩
set_option maxHeartbeats 400000 in
theorem wBuffered {w : World} {base : Nat} {L : WLoc} {st : WS} (h : Wr w base L st) : Calls Tryd.prog 67 #[.pointer (some ⟨L.b, 0, none⟩)] w (Ret fun v w' => w = w' ∧ v = .int .i64 (st.n : Int)) := by
  obtain ⟨c0, c1, c2, c3, hf⟩ := h.cells
  clear h
  go_enter Tryd.func67, Tryd.ntmps67
  (go_wp2_with fail; (repeat' (refine wp_region_lx {} (by kernel_rfl) (by kernel_rfl) ⟨fun _ _ _ h => h.2, fun _ _ h => h⟩ ?_; (repeat' (first | (refine wpLx_calm rfl rfl rfl (fun K hK => ?_); go_step <;> (refine hK _ ?_; clear hK K)) | (refine wpLx_skip2 rfl rfl rfl ?_; go_simp) | (refine wpLx_calm2 rfl rfl rfl rfl rfl (fun K hK => ?_); go_step <;> (refine hK _ ?_; clear hK K)))); all_goals (refine wpLx_nil ?_; try go_wp2_with fail))))
  go_ret
  exact ⟨rfl, rfl⟩
set_option maxHeartbeats 400000 in
theorem wSize {w : World} {base : Nat} {L : WLoc} {st : WS} (h : Wr w base L st) : Calls Tryd.prog 68 #[.pointer (some ⟨L.b, 0, none⟩)] w (Ret fun v w' => w = w' ∧ v = .int .i64 (st.buf.length : Int)) := by
  obtain ⟨c0, c1, c2, c3, hf⟩ := h.cells
  clear h
  go_enter Tryd.func68, Tryd.ntmps68
  (go_wp2_with fail; (repeat' (refine wp_region_lx {} (by kernel_rfl) (by kernel_rfl) ⟨fun _ _ _ h => h.2, fun _ _ h => h⟩ ?_; (repeat' (first | (refine wpLx_calm rfl rfl rfl (fun K hK => ?_); go_step <;> (refine hK _ ?_; clear hK K)) | (refine wpLx_skip2 rfl rfl rfl ?_; go_simp) | (refine wpLx_calm2 rfl rfl rfl rfl rfl (fun K hK => ?_); go_step <;> (refine hK _ ?_; clear hK K)))); all_goals (refine wpLx_nil ?_; try go_wp2_with fail))))
  go_ret
  exact ⟨rfl, rfl⟩
/-- what Flush tells -/
def FlP (st : WS) (v : Value) (st' : WS) : Prop := v = errW st'.err ∧ (st'.err = false → st'.n = 0) ∧ (st.err = true → st'.err = true)
set_option maxRecDepth 100000 in
set_option maxHeartbeats 4000000 in
theorem flush {R : Option Nat} {w : World} {base : Nat} {L : WLoc} {st : WS} {all : List UInt8} (h : Wr w base L st) (hI : Inv R st all) (hl : all.length ≤ 1000000) :
    Calls Tryd.prog 64 #[.pointer (some ⟨L.b, 0, none⟩)] w (Ret (WPost R base L st all (FlP st) w)) := by
  obtain ⟨c0, c1, c2, c3, hf⟩ := h.cells
  have hn := h.n
  have hhi := h.hi
  have H := Lib.hid h
  cases he : st.err with
  | true =>
    have HF : Hid (WPost R base L st all (FlP st) w (errW true) w) := Lib.hid ((WWent.refl h).post hI ⟨by rw [he], fun hh => (by rw [he] at hh; cases hh), fun _ => he⟩)
    rw [he] at c0
    change w.cell? ⟨L.b, 0, none⟩ = some (.iface 106 (.agg #[])) at c0
    change Hid (WPost R base L st all (FlP st) w (.iface 106 (.agg #[])) w) at HF
    clear h hI hl he
    go_enter Tryd.func64, Tryd.ntmps64
    go_wp2_with fail
    go_ret
    exact HF.out
  | false =>
    rw [he] at c0
    change w.cell? ⟨L.b, 0, none⟩ = some .nilIface at c0
    by_cases h0 : st.n = 0
    · have HF : Hid (WPost R base L st all (FlP st) w .nilIface w) := Lib.hid ((WWent.refl h).post hI ⟨by rw [he]; rfl, fun _ => h0, fun hh => (by rw [he] at hh; cases hh)⟩)
      rw [h0] at c2
      clear h hI hl he h0
      go_enter Tryd.func64, Tryd.ntmps64
      go_wp2_with fail
      go_ret
      exact HF.out
    · have hlen := h.held_length
      have hle := hI.held_le he
      have hbne : held st ≠ [] := fun hh => by rw [hh] at hlen; simp at hlen; omega
      obtain ⟨k, hk⟩ : ∃ k, takes st.room (held st).length = k := ⟨_, rfl⟩
      have hkn : k ≤ st.n := by rw [← hk, ← hlen]; exact takes_le _ _
      have KS := sinkWrite (h.snk.upd (Upd.refl (fun _ => False) w).drew (fun _ hh _ => hh)) h.size (h.drew.heldB) hbne h.ne.2.2.symm ⟨h.rlo, h.rhi⟩ (by omega)
      rw [hlen] at KS
      have HKS := Lib.hid KS
      have HI := Lib.hid hI
      have HE := Lib.hid he
      have HK := Lib.hid hk
      have HLEN := Lib.hid hlen
      have hne0 : ((st.n : Int) == 0) = false := by rw [beq_eq_false_iff_ne]; omega
      have hsunk : Hid (∀ v w1, SinkPost base L.s st.room st.ov st.out (held st) w.drew v w1 → v = .tuple #[.int .i64 (k : Int), errW (decide (k < st.n))] ∧ ∃ ov', WWent base L w st w1 { st with room := roomOf st.room (held st).length, out := st.out ++ (held st).take k, ov := ov' }) := by
        intro v w1 hp
        refine ⟨by rw [hp.1, hk, hlen], ?_⟩
        obtain ⟨ov', hw⟩ := WWent.sunk h ((WWent.refl h).new (Upd.refl _ _).drew) hp
        rw [hk] at hw
        exact ⟨ov', hw⟩
      have hall : st.out ++ held st = all := (hI.ok he).1
      by_cases hfull : k = st.n
      · have hfin : Hid (∀ w1 ov', WWent base L w st w1 { st with room := roomOf st.room (held st).length, out := st.out ++ (held st).take k, ov := ov' } → WPost R base L st all (FlP st) w .nilIface (w1.setCell ⟨L.b, 2, none⟩ (.int .i64 0))) := by
          intro w1 ov' hw
          have h2 := hw.cell 2 (.int .i64 ((0 : Nat) : Int)) (hw.wr.setN 0 (Nat.zero_le _)) rfl rfl
          refine h2.post ?_ ⟨by show _ = errW st.err; rw [he]; rfl, fun _ => rfl, fun hh => (by rw [he] at hh; cases hh)⟩
          have := (hI.sunk he (held st)).1 (by rw [hk, hfull, hlen]) st.buf ov'
          rw [hall, hk] at this
          rw [he]
          exact this
        have hdec : decide (k < st.n) = false := decide_eq_false (by omega)
        rw [hdec] at hsunk
        clear h hI hl he hk hlen hle hbne KS hall
        go_enter Tryd.func64, Tryd.ntmps64
        go_wp2_with fail
        refine wp_region_lx {} (by kernel_rfl) (by kernel_rfl) ⟨fun _ _ _ h => h.2, fun _ _ h => h⟩ ?_
        (repeat' (first | (refine wpLx_calm rfl rfl rfl (fun K hK => ?_); go_step <;> (refine hK _ ?_; clear hK K)) | (refine wpLx_skip2 rfl rfl rfl ?_; go_simp) | (refine wpLx_calm2 rfl rfl rfl rfl rfl (fun K hK => ?_); go_step <;> (refine hK _ ?_; clear hK K))))
        refine wpLx_eff rfl rfl rfl (fun K hK => ?_)
        refine wp_call HKS.out (by kernel_rfl) ?_
        intro v w1 hp
        obtain ⟨hv, ov', hw⟩ := hsunk.out v w1 hp
        obtain ⟨d0, d1, d2, d3, df⟩ := hw.wr.cells
        have HF := Lib.hid (hfin.out w1 ov' hw)
        rw [hv]
        change K (Act.put _ _ (.tuple #[.int .i64 (k : Int), .nilIface])) w1
        clear hv hp hw c0 c1 c2 c3 hf d0 d1 d3
        refine hK _ _ ?_
        clear hK K
        (repeat' (first | (refine wpLx_calm rfl rfl rfl (fun K hK => ?_); go_step <;> (refine hK _ ?_; clear hK K)) | (refine wpLx_skip2 rfl rfl rfl ?_; go_simp) | (refine wpLx_calm2 rfl rfl rfl rfl rfl (fun K hK => ?_); go_step <;> (refine hK _ ?_; clear hK K))))
        all_goals refine wpLx_nil ?_
        go_wp2_with fail
        go_ret
        exact HF.out
      · have hlt : k < st.n := by omega
        have hfin : Hid (∀ w1 ov' buf', WWent base L w st w1 { st with room := roomOf st.room (held st).length, out := st.out ++ (held st).take k, ov := ov', buf := buf' } → WPost R base L st all (FlP st) w (.iface 106 (.agg #[])) ((w1.setCell ⟨L.b, 2, none⟩ (.int .i64 ((st.n : Int) - (k : Int)))).setCell ⟨L.b, 0, none⟩ (.iface 106 (.agg #[])))) := by
          intro w1 ov' buf' hw
          have hln := hw.len
          have h2 := hw.cell 2 (.int .i64 ((st.n - k : Nat) : Int)) (hw.wr.setN (st.n - k) (by have h9 : buf'.length = st.buf.length := hln; show st.n - k ≤ buf'.length; omega)) rfl rfl
          have h3 := h2.cell 0 (errW true) (h2.wr.setErr true) rfl rfl
          rw [show ((st.n : Int) - (k : Int)) = ((st.n - k : Nat) : Int) by omega]
          refine h3.post ?_ ⟨rfl, fun hh => (by cases hh), fun _ => rfl⟩
          have := (hI.sunk he (held st)).2 (by rw [hk, hlen]; exact hlt) buf' (st.n - k) ov'
          rw [hall, hk] at this
          exact this
        have hdec : decide (k < st.n) = true := decide_eq_true hlt
        rw [hdec] at hsunk
        clear h hI hl he hk hlen hle hbne KS hall hfull
        go_enter Tryd.func64, Tryd.ntmps64
        go_wp2_with fail
        refine wp_region_lx {} (by kernel_rfl) (by kernel_rfl) ⟨fun _ _ _ h => h.2, fun _ _ h => h⟩ ?_
        (repeat' (first | (refine wpLx_calm rfl rfl rfl (fun K hK => ?_); go_step <;> (refine hK _ ?_; clear hK K)) | (refine wpLx_skip2 rfl rfl rfl ?_; go_simp) | (refine wpLx_calm2 rfl rfl rfl rfl rfl (fun K hK => ?_); go_step <;> (refine hK _ ?_; clear hK K))))
        refine wpLx_eff rfl rfl rfl (fun K hK => ?_)
        refine wp_call HKS.out (by kernel_rfl) ?_
        intro v w1 hp
        obtain ⟨hv, ov', hw⟩ := hsunk.out v w1 hp
        obtain ⟨d0, d1, d2, d3, df⟩ := hw.wr.cells
        have HW := Lib.hid hw
        rw [hv]
        change K (Act.put _ _ (.tuple #[.int .i64 (k : Int), .iface 106 (.agg #[])])) w1
        clear hv hp c0 c1 c2 c3 hf
        change w1.cell? ⟨L.b, 1, none⟩ = some (.slice (some ⟨L.bb, 0, none⟩) st.buf.length st.buf.length) at d1
        change w1.cell? ⟨L.b, 2, none⟩ = some (.int .i64 (st.n : Int)) at d2
        refine hK _ _ ?_
        clear hK K
        (repeat' (first | (refine wpLx_calm rfl rfl rfl (fun K hK => ?_); go_step <;> (refine hK _ ?_; clear hK K)) | (refine wpLx_skip2 rfl rfl rfl ?_; go_simp) | (refine wpLx_calm2 rfl rfl rfl rfl rfl (fun K hK => ?_); go_step <;> (refine hK _ ?_; clear hK K))))
        all_goals refine wpLx_nil ?_
        by_cases hk0 : 0 < k
        · have hsub : BytesA w1 (some ⟨L.bb, k, none⟩) (st.buf.length - k) ((held st).drop k) := by
            have := hw.wr.whole.sub1 (lo := k) (hi := st.n) (by omega) hn
            rw [Nat.zero_add] at this
            exact this
          have HSUB := Lib.hid hsub
          have hbb := Lib.hid hw.wr.hbb
          have hnl : ¬ st.buf.length = k := by omega
          have HDL : Hid (((held st).drop k).length = st.n - k) := Lib.hid (by rw [List.length_drop, HLEN.out])
          clear hsub hw
          go_wp2_with fail
          refine wp_region_lx {} (by kernel_rfl) (by kernel_rfl) ⟨fun _ _ _ h => h.2, fun _ _ h => h⟩ ?_
          (repeat' (first | (refine wpLx_calm rfl rfl rfl (fun K hK => ?_); go_step <;> (refine hK _ ?_; clear hK K)) | (refine wpLx_skip2 rfl rfl rfl ?_; go_simp) | (refine wpLx_calm2 rfl rfl rfl rfl rfl (fun K hK => ?_); go_step <;> (refine hK _ ?_; clear hK K))))
          refine wpLx_eff rfl rfl rfl (fun K hK => ?_)
          refine wp_copy eB (.tmp 71) (.tmp 81) 29 rfl L.bb 0 (st.n - k) st.buf.length rfl (st.buf.map bv).toArray 5 hbb.out (some ⟨L.bb, k, none⟩) (st.n - k) (st.buf.length - k) rfl (fun hh => by cases hh) (((held st).drop k).map bv) (by rw [List.length_map, HDL.out]; omega) (fun p hp => by cases hp; exact (HSUB.out.new (Upd.refl _ _).drew).news) (by rw [List.length_map, HDL.out]; simp only [List.size_toArray, List.length_map]; omega) (oneCell_bytes _) ?_
          intro w2 hw2 hu2 hz2
          have hlf : 0 + ((held st).drop k).length ≤ st.buf.length := by rw [HDL.out]; omega
          have hw3 := (HW.out.new (Upd.refl _ _).drew).putBuf (lay st.buf 0 ((held st).drop k)) hu2 (lay_length hlf) (by rw [hw2, show (st.buf.map bv).toArray.toList = st.buf.map bv from rfl, lay_map])
          obtain ⟨e0, e1, e2, e3, ef⟩ := hw3.wr.cells
          change w2.cell? ⟨L.b, 2, none⟩ = some (.int .i64 (st.n : Int)) at e2
          have HF := Lib.hid (hfin.out w2 ov' _ hw3)
          clear hw2 hu2 hz2 hw3 d0 d1 d2 d3 df e1 e3
          refine hK _ _ ?_
          clear hK K
          (repeat' (first | (refine wpLx_calm rfl rfl rfl (fun K hK => ?_); go_step <;> (refine hK _ ?_; clear hK K)) | (refine wpLx_skip2 rfl rfl rfl ?_; go_simp) | (refine wpLx_calm2 rfl rfl rfl rfl rfl (fun K hK => ?_); go_step <;> (refine hK _ ?_; clear hK K))))
          all_goals refine wpLx_nil ?_
          go_wp2_with fail
          go_ret
          exact HF.out
        · have HF := Lib.hid (hfin.out w1 ov' st.buf hw)
          clear hw
          go_wp2_with fail
          go_ret
          exact HF.out
end Go.Proofs.YtgbbogocfmepiaaDoor
