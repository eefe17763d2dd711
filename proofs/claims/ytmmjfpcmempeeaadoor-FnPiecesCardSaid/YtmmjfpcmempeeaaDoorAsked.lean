/- spec.Reader's Read; laws.same; laws.asked. -/
import Derived.Test.YtmmjfpcmempeeaaDoorSpecDoA
import Derived.Test.YtmmjfpcmempeeaaDoorRunS
namespace Go.Proofs.YtmmjfpcmempeeaaDoor
open Go.RowKit
def SR.readS (s : SR) (z : Ans) : SR := if 0 < z.bytes.length then s.take z.bytes.length true else { s with op := true }
structure ReadOk (s : SR) (n : Int) (z : Ans) : Prop where
  le : (z.bytes.length : Int) ≤ max n 0
  left : z.bytes.length ≤ s.left.length
  n : z.n = (z.bytes.length : Int)
  bytes : s.left.take z.bytes.length = z.bytes
  code : 0 < z.bytes.length → z.code = 0
  none : z.bytes.length = 0 → z.code = 0 ∨ (s.left = [] ∧ z.code = s.endc)
def ansVal (ab : Option Addr) (c : Nat) (z : Ans) : Value := .agg #[.slice ab z.bytes.length c, .int .i64 z.n, .int .i32 z.rune, .bool z.flag, .int .i64 (z.code : Int)]
set_option maxRecDepth 100000 in
set_option maxHeartbeats 2000000 in
theorem specRead {w : World} {rb g : Nat} {s : SR} (h : SRd w rb g s) (n : Int) (z : Ans) (ok : ReadOk s n z) {ab : Option Addr} {c : Nat} (hz : BytesA w ab c z.bytes) (he0 : s.endc ≠ 0) :
    Calls Tryd.prog 38 #[.pointer (some ⟨rb, 0, none⟩), .int .i64 n, .agg #[.slice ab z.bytes.length c, .int .i64 z.n, .int .i32 z.rune, .bool z.flag, .int .i64 (z.code : Int)]] w (Ret fun v w' => v = .bool true ∧ Ends rb g w (s.readS z) w') := by
  have hrb := h.rlt
  have hnw : New w (w.alloc (.cells #[.slice ab z.bytes.length c, .int .i64 z.n, .int .i32 z.rune, .bool z.flag, .int .i64 (z.code : Int)] 59)) := (Upd.refl _ _).alloc _
  have H := Lib.hid h
  have H1 := Lib.hid (h.new hnw)
  obtain ⟨⟨oL, cL, oA, cA, hb, hl, _⟩, _⟩ := h
  obtain ⟨c0, c1, c2, _, _, _, c6, hf⟩ := SRd.cells hb
  have l1 := hl.1
  have l2 := hl.2.1
  unfold maxLen at l2
  obtain ⟨m, hm⟩ : ∃ m, z.bytes.length = m := ⟨_, rfl⟩
  have hm2 := ok.left
  have hzn := ok.n
  have hle := ok.le
  rw [hm] at hm2 hzn hle
  have hby : s.left.take m = z.bytes := by rw [← hm]; exact ok.bytes
  have hl2 := hl.take m
  rw [hby] at hl2
  have hs1 := fun (O : Obj) => run_strL (P := Tryd.prog) Tryd.underlying29 Tryd.underlying5 Tryd.underlying9 hm (hz.new ((Upd.refl (fun _ => False) w).alloc O).drew)
  have hs2 := fun (O : Obj) => run_strL (P := Tryd.prog) Tryd.underlying29 Tryd.underlying5 Tryd.underlying9 hm (hl2.new ((Upd.refl (fun _ => False) w).alloc O).drew)
  have q1 : decide (max n 0 < (m : Int)) = false := decide_eq_false (by omega)
  have q2 : decide (s.left.length < m) = false := decide_eq_false (by omega)
  have HM := Lib.hid hm
  have HOK := Lib.hid ok
  have e4 : Hid (∀ w2, Upd (fun k => k = rb) (w.alloc (.cells #[.slice ab m c, .int .i64 z.n, .int .i32 z.rune, .bool z.flag, .int .i64 (z.code : Int)] 59)).drew w2 → w2.cell? ⟨w.heap.size, 4, none⟩ = some (.int .i64 (z.code : Int))) := fun w2 u => by
    have := u.heap (heap_alloc_new w (.cells #[.slice ab m c, .int .i64 z.n, .int .i32 z.rune, .bool z.flag, .int .i64 (z.code : Int)] 59)) (fun h => by omega)
    rw [World.cell_of_heap this]; rfl
  have KT := Lib.hid (specTake (H1.out.new (Upd.refl _ _).drew) m true hm2)
  rw [hm] at KT H1 ⊢
  rw [hzn] at KT H1 e4 ⊢
  clear hb hl hz hby hl2 ok hm hnw hzn hle
  by_cases h0 : 0 < m
  · have hc0 : z.code = 0 := HOK.out.code (by rw [HM.out]; exact h0)
    have hrs : s.readS z = s.take m true := by unfold SR.readS; rw [HM.out, if_pos h0]
    rw [hc0] at KT H1 e4 ⊢
    rw [hrs]
    have HH := Lib.hid h0
    clear hc0 hrs h0
    go_enter Tryd.func38, Tryd.ntmps38
    go_wp2_with fail
    refine wp_region_lx {} (by kernel_rfl) (by kernel_rfl) ⟨fun _ _ _ h => h.2, fun _ _ h => h⟩ ?_
    (repeat' (first | (refine wpLx_calm rfl rfl rfl (fun K hK => ?_); go_step <;> (refine hK _ ?_; clear hK K)) | (refine wpLx_skip2 rfl rfl rfl ?_; go_simp) | (refine wpLx_calm2 rfl rfl rfl rfl rfl (fun K hK => ?_); go_step <;> (refine hK _ ?_; clear hK K)) | (refine wpLx_skip rfl ?_; go_simp)))
    refine wpLx_nil ?_
    go_wp2_with (go_at_call 45; refine callRet KT.out ?_; intro v w1 hv; have HE := Lib.hid hv.1; have e5 := e4.out _ hv.1.2; clear hv)
    go_ret
    exact ⟨rfl, HE.out.1, ((Upd.refl (fun k => k = rb) w).alloc _).drew.trans HE.out.2 (fun _ h _ => h)⟩
  · have hm0 : m = 0 := by omega
    have HM0 := Lib.hid hm0
    have q5 : decide (0 < m) = false := decide_eq_false h0
    have hrs : s.readS z = { s with op := true } := by unfold SR.readS; rw [HM.out, if_neg h0]
    rw [hrs]
    have hcode := HOK.out.none (HM.out.trans hm0)
    have hfin : Hid (Ends rb g w { s with op := true } (((w.setCell ⟨rb, 6, none⟩ (.bool true)).alloc (.cells #[.slice ab m c, .int .i64 (m : Int), .int .i32 z.rune, .bool z.flag, .int .i64 (z.code : Int)] 59)).drew.drew)) :=
      ⟨(H.out.setOp true).new ((Upd.refl _ _).alloc _).drew.drew, (((Upd.refl (fun k => k = rb) w).setCell (fun _ => rfl) _).alloc _).drew.drew⟩
    rcases hcode with hc0 | ⟨hln, hce⟩
    · rw [hc0] at hfin ⊢
      clear hrs KT H1 h0 hc0 hm0
      go_enter Tryd.func38, Tryd.ntmps38
      go_wp2_with fail
      refine wp_region_lx {} (by kernel_rfl) (by kernel_rfl) ⟨fun _ _ _ h => h.2, fun _ _ h => h⟩ ?_
      (repeat' (first | (refine wpLx_calm rfl rfl rfl (fun K hK => ?_); go_step <;> (refine hK _ ?_; clear hK K)) | (refine wpLx_skip2 rfl rfl rfl ?_; go_simp) | (refine wpLx_calm2 rfl rfl rfl rfl rfl (fun K hK => ?_); go_step <;> (refine hK _ ?_; clear hK K)) | (refine wpLx_skip rfl ?_; go_simp)))
      refine wpLx_nil ?_
      go_wp2_with fail
      refine wp_region_lx {} (by kernel_rfl) (by kernel_rfl) ⟨fun _ _ _ h => h.2, fun _ _ h => h⟩ ?_
      (repeat' (first | (refine wpLx_calm rfl rfl rfl (fun K hK => ?_); go_step <;> (refine hK _ ?_; clear hK K)) | (refine wpLx_skip2 rfl rfl rfl ?_; go_simp) | (refine wpLx_calm2 rfl rfl rfl rfl rfl (fun K hK => ?_); go_step <;> (refine hK _ ?_; clear hK K)) | (refine wpLx_skip rfl ?_; go_simp)))
      refine wpLx_nil ?_
      go_wp2_with fail
      go_ret
      exact ⟨rfl, hfin.out⟩
    · have q6 : ((s.endc : Int) == 0) = false := by rw [beq_eq_false_iff_ne]; omega
      rw [hce] at hfin ⊢
      rw [hln] at c0
      simp only [List.length_nil] at c0
      clear hrs KT H1 h0 hce hm0
      go_enter Tryd.func38, Tryd.ntmps38
      go_wp2_with fail
      refine wp_region_lx {} (by kernel_rfl) (by kernel_rfl) ⟨fun _ _ _ h => h.2, fun _ _ h => h⟩ ?_
      (repeat' (first | (refine wpLx_calm rfl rfl rfl (fun K hK => ?_); go_step <;> (refine hK _ ?_; clear hK K)) | (refine wpLx_skip2 rfl rfl rfl ?_; go_simp) | (refine wpLx_calm2 rfl rfl rfl rfl rfl (fun K hK => ?_); go_step <;> (refine hK _ ?_; clear hK K)) | (refine wpLx_skip rfl ?_; go_simp)))
      refine wpLx_nil ?_
      go_wp2_with fail
      refine wp_region_lx {} (by kernel_rfl) (by kernel_rfl) ⟨fun _ _ _ h => h.2, fun _ _ h => h⟩ ?_
      (repeat' (first | (refine wpLx_calm rfl rfl rfl (fun K hK => ?_); go_step <;> (refine hK _ ?_; clear hK K)) | (refine wpLx_skip2 rfl rfl rfl ?_; go_simp) | (refine wpLx_calm2 rfl rfl rfl rfl rfl (fun K hK => ?_); go_step <;> (refine hK _ ?_; clear hK K)) | (refine wpLx_skip rfl ?_; go_simp)))
      refine wpLx_nil ?_
      go_wp2_with fail
      go_ret
      exact ⟨rfl, hfin.out⟩
set_option maxRecDepth 100000 in
set_option maxHeartbeats 1000000 in
theorem sameAns {w : World} {a1 a2 : Option Addr} {c1 c2 : Nat} {z : Ans} (h1 : BytesA w a1 c1 z.bytes) (h2 : BytesA w a2 c2 z.bytes) :
    Calls Tryd.prog 25 #[.agg #[.slice a1 z.bytes.length c1, .int .i64 z.n, .int .i32 z.rune, .bool z.flag, .int .i64 (z.code : Int)], .agg #[.slice a2 z.bytes.length c2, .int .i64 z.n, .int .i32 z.rune, .bool z.flag, .int .i64 (z.code : Int)]] w (Ret fun v w' => New w w' ∧ v = .bool true) := by
  obtain ⟨m, hm⟩ : ∃ m, z.bytes.length = m := ⟨_, rfl⟩
  have hs1 := fun (O O2 : Obj) => run_strL (P := Tryd.prog) Tryd.underlying29 Tryd.underlying5 Tryd.underlying9 hm (h1.new (((Upd.refl (fun _ => False) w).alloc O).alloc O2))
  have hs2 := fun (O O2 : Obj) => run_strL (P := Tryd.prog) Tryd.underlying29 Tryd.underlying5 Tryd.underlying9 hm (h2.new (((Upd.refl (fun _ => False) w).alloc O).alloc O2))
  have hs3 := fun (O O2 : Obj) => run_strL (P := Tryd.prog) Tryd.underlying29 Tryd.underlying5 Tryd.underlying9 hm (h1.new (((Upd.refl (fun _ => False) w).alloc O).alloc O2).drew)
  have hs4 := fun (O O2 : Obj) => run_strL (P := Tryd.prog) Tryd.underlying29 Tryd.underlying5 Tryd.underlying9 hm (h2.new (((Upd.refl (fun _ => False) w).alloc O).alloc O2).drew)
  rw [hm]
  clear h1 h2 hm
  go_enter Tryd.func25, Tryd.ntmps25
  (go_wp2_with fail; (repeat' (refine wp_region_lx {} (by kernel_rfl) (by kernel_rfl) ⟨fun _ _ _ h => h.2, fun _ _ h => h⟩ ?_; (repeat' (first | (refine wpLx_calm rfl rfl rfl (fun K hK => ?_); go_step <;> (refine hK _ ?_; clear hK K)) | (refine wpLx_skip2 rfl rfl rfl ?_; go_simp) | (refine wpLx_calm2 rfl rfl rfl rfl rfl (fun K hK => ?_); go_step <;> (refine hK _ ?_; clear hK K)) | (refine wpLx_skip rfl ?_; go_simp))); all_goals (refine wpLx_nil ?_; try go_wp2_with fail))))
  go_ret
  first | exact ⟨(((Upd.refl _ _).alloc _).alloc _).drew, rfl⟩ | exact ⟨((Upd.refl _ _).alloc _).alloc _, rfl⟩
/-- answers to steps that can be, as laws.asked reckons it -/
def askRel : SR → List Stp → List Ans → Prop
  | _, [], [] => True
  | s, st :: ss, z :: zs => SFit s ∧ s.endc ≠ 0 ∧
      if st.k = 0 then ReadOk s st.n z ∧ askRel (s.readS z) ss zs
      else if st.k = 11 then (0 ≤ z.n ∧ z.n ≤ (s.size : Int) ∧ z.n ≤ (s.left.length : Int) ∧ z.code = 0) ∧ askRel s ss zs
      else (s.doF st).1.2 = false ∨ ((s.doF st).1.2 = true ∧ (s.doF st).1.1 = z ∧ askRel (s.doF st).2 ss zs)
  | _, _, _ => False
theorem askRel_cons {s : SR} {st : Stp} {ss : List Stp} {z : Ans} {zs : List Ans} : askRel s (st :: ss) (z :: zs) ↔ (SFit s ∧ s.endc ≠ 0 ∧
      if st.k = 0 then ReadOk s st.n z ∧ askRel (s.readS z) ss zs
      else if st.k = 11 then (0 ≤ z.n ∧ z.n ≤ (s.size : Int) ∧ z.n ≤ (s.left.length : Int) ∧ z.code = 0) ∧ askRel s ss zs
      else (s.doF st).1.2 = false ∨ ((s.doF st).1.2 = true ∧ (s.doF st).1.1 = z ∧ askRel (s.doF st).2 ss zs)) := Iff.rfl
set_option maxRecDepth 100000 in
set_option maxHeartbeats 2000000 in
theorem asked {w : World} {rb g : Nat} {s : SR} {sa za : Option Addr} {sc zc : Nat} {ss : List Stp} {zs : List Ans} (h : SRd w rb g s) (hs : StepsA w sa sc ss) (hz : AnssA w (fun k => k ≠ rb) za zc zs) (hlen : zs.length = ss.length) (hok : ∀ st ∈ ss, 0 ≤ st.k ∧ st.k ≤ 12) (h64 : Steps64 ss) (hr : askRel s ss zs) (hsb : ∀ p, sa = some p → ss ≠ [] → p.block ≠ rb) :
    Calls Tryd.prog 19 #[.pointer (some ⟨rb, 0, none⟩), .slice sa ss.length sc, .slice za zs.length zc] w (Ret fun v w' => (∃ b, v = .tuple #[.bool true, .bool b]) ∧ Upd (fun k => k = rb) w w') := by
  have HS := Lib.hid hs
  have HZ := Lib.hid hz
  have HR := Lib.hid hr
  have H := Lib.hid h
  have HOK := Lib.hid hok
  have H64 := Lib.hid h64
  have HSB := Lib.hid hsb
  have hs1 := hs.1
  have hs2 := hs.2.1
  have hz1 := hz.1
  have hz2 := hz.2.1
  have hrb := h.rlt
  unfold maxLen at hs2 hz2
  have HLEN := Lib.hid hlen
  rw [hlen] at hz1 ⊢
  clear h hs hz hr hok h64 hsb hlen
  go_enter Tryd.func19, Tryd.ntmps19
  go_wp2_with fail
  go_loopw [20] (fun i wr => ∃ (k : Nat) (sk : SR), i = .int .i64 (k : Int) ∧ k ≤ ss.length ∧ SRd wr rb g sk ∧ Upd (fun j => j = rb) w wr ∧ askRel sk (ss.drop k) (zs.drop k)) (fun i _ => ss.length - (intOf i).toNat)
  case atStart => exact ⟨0, s, rfl, Nat.zero_le _, H.out, Upd.refl _ _, HR.out⟩
  case round =>
    obtain ⟨k, sk, rfl, hkn, hsr, hu, hask⟩ := hrel
    have HSR := Lib.hid hsr
    have HU := Lib.hid hu
    have HASK := Lib.hid hask
    clear hsr hu hask
    by_cases hlt : k < ss.length
    · have hzk : k < zs.length := by rw [HLEN.out]; exact hlt
      obtain ⟨b, o, rfl, hbs, e0, e1, e2⟩ := (HS.out.upd HU.out (fun p hp hn hh => HSB.out p hp hn hh)).at hlt
      obtain ⟨bz, oz, ab, cb, rfl, f0, f1, f2, f3, f4, fby, fpb⟩ := (HZ.out.upd HU.out (fun j hj hp => hp hj)).at hzk
      have hd1 : ss.drop k = ss[k] :: ss.drop (k + 1) := List.drop_eq_getElem_cons hlt
      have hd2 : zs.drop k = zs[k] :: zs.drop (k + 1) := List.drop_eq_getElem_cons hzk
      have hok := HOK.out ss[k] (List.getElem_mem _)
      have h64 := (H64.out ss[k] (List.getElem_mem _)).2
      obtain ⟨st, hst⟩ : ∃ st, ss[k] = st := ⟨_, rfl⟩
      obtain ⟨z, hz⟩ : ∃ z, zs[k] = z := ⟨_, rfl⟩
      rw [hst] at e0 e1 e2 hd1 hok h64
      rw [hz] at f0 f1 f2 f3 f4 fby fpb hd2
      have HPB := Lib.hid fpb
      rw [hd1, hd2, askRel_cons] at HASK
      have HBY := Lib.hid fby
      have hrbw := HSR.out.rlt
      have hbw : bz < wr.heap.size := World.block_lt_of_cell? wr _ f0
      obtain ⟨hfit, hend, hrest⟩ := HASK.out
      have HREST := Lib.hid hrest
      have KR : Hid (∀ wx (hx : New wr wx), st.k = 0 → Calls Tryd.prog 38 #[.pointer (some ⟨rb, 0, none⟩), .int .i64 st.n, .agg #[.slice ab z.bytes.length cb, .int .i64 z.n, .int .i32 z.rune, .bool z.flag, .int .i64 (z.code : Int)]] wx (Ret fun v w' => v = .bool true ∧ Ends rb g wx (sk.readS z) w')) :=
        fun wx hx h0 => specRead (HSR.out.new hx) st.n z (by rw [if_pos h0] at hrest; exact hrest.1) (fby.new hx) hend
      have KD : Hid (∀ wx (hx : New wr wx), st.k ≠ 0 → st.k ≠ 11 → Calls Tryd.prog 26 #[.pointer (some ⟨rb, 0, none⟩), .agg #[.int .i64 st.k, .int .i64 st.n, .int .u8 (st.d.toNat : Int)]] wx (Ret (DoPost rb g wx (sk.doF st)))) :=
        fun wx hx h0 h11 => specDoA (HSR.out.new hx) hfit st ⟨by omega, hok.2, h11⟩ h64
      clear hfit hend hrest hd1 hd2 hst hz fby fpb HASK
      obtain ⟨m, hm⟩ : ∃ m, z.bytes.length = m := ⟨_, rfl⟩
      have HM := Lib.hid hm
      rw [hm] at f0 KR
      clear hm
      by_cases h0 : st.k = 0
      · have HREST := Lib.hid (if_pos h0 ▸ HREST.out)
        have KR := Lib.hid (fun wx hx => KR.out wx hx h0)
        rw [h0] at e0
        clear KD h0
        go_wp2_with (go_at_call 38; refine callRet (KR.out _ (((Upd.refl _ _).alloc _).alloc _)) ?_; rintro v w1 ⟨rfl, hE⟩; have HE := Lib.hid hE; clear hE)
        go_roundw
        case rel => exact ⟨k + 1, _, by go_num, by omega, HE.out.1, (((HU.out.alloc _).alloc _)).trans HE.out.2 (fun _ h _ => h), HREST.out.2⟩
        case measure => simp [intOf]; omega
      · have hr0 := HREST.out
        rw [if_neg h0] at hr0
        by_cases h11 : st.k = 11
        · rw [if_pos h11] at hr0
          obtain ⟨⟨g1, g2, g3, g4⟩, hrest⟩ := hr0
          have HREST := Lib.hid hrest
          rw [h11] at e0
          rw [g4] at f4
          obtain ⟨⟨oL, cL, oA, cA, hb, _, _⟩, _⟩ := HSR.out
          obtain ⟨c0, c1, _, _, _, _, _, hf⟩ := SRd.cells hb
          have q1 : decide (z.n < 0) = false := decide_eq_false (by omega)
          have q2 : decide ((sk.size : Int) < z.n) = false := decide_eq_false (by omega)
          have q3 : decide ((sk.left.length : Int) < z.n) = false := decide_eq_false (by omega)
          clear KR KD h0 h11 hrest hb g4 g1 g2 g3
          go_wp2_with fail
          refine wp_region_lx {} (by kernel_rfl) (by kernel_rfl) ⟨fun _ _ _ h => h.2, fun _ _ h => h⟩ ?_
          (repeat' (first | (refine wpLx_calm rfl rfl rfl (fun K hK => ?_); go_step <;> (refine hK _ ?_; clear hK K)) | (refine wpLx_skip2 rfl rfl rfl ?_; go_simp) | (refine wpLx_calm2 rfl rfl rfl rfl rfl (fun K hK => ?_); go_step <;> (refine hK _ ?_; clear hK K)) | (refine wpLx_skip rfl ?_; go_simp)))
          refine wpLx_nil ?_
          go_wp2_with fail
          go_roundw
          case rel => exact ⟨k + 1, sk, by go_num, by omega, HSR.out.new (((Upd.refl _ _).alloc _).alloc _).drew, ((HU.out.alloc _).alloc _).drew, HREST.out⟩
          case measure => simp [intOf]; omega
        · rw [if_neg h11] at hr0
          have q1 : (st.k == 0) = false := by rw [beq_eq_false_iff_ne]; exact h0
          have q2 : (st.k == 11) = false := by rw [beq_eq_false_iff_ne]; exact h11
          have KD := Lib.hid (fun wx hx => KD.out wx hx h0 h11)
          have HR0 := Lib.hid hr0
          clear KR hr0
          obtain ⟨is, his⟩ : ∃ is, (sk.doF st).1.2 = is := ⟨_, rfl⟩
          have HIS := Lib.hid his
          clear his
          cases is with
          | false =>
            go_wp2_with (go_at_call 26; refine callRet (KD.out _ (((Upd.refl _ _).alloc _).alloc _)) ?_; intro v w1 hv; obtain ⟨av, rfl, hE, hA⟩ := hv; rw [HIS.out]; obtain ⟨ab2, c2, rfl, hby2, _⟩ := hA; have HE := Lib.hid hE; clear hE)
            go_ret2
            exact ⟨⟨_, rfl⟩, (((HU.out.alloc _).alloc _).trans HE.out.2 (fun _ h _ => h)).alloc _⟩
          | true =>
            have hz2 : (sk.doF st).1.1 = z ∧ askRel (sk.doF st).2 (ss.drop (k + 1)) (zs.drop (k + 1)) := by
              rcases HR0.out with h | h
              · rw [HIS.out] at h; cases h
              · exact h.2
            have HZ2 := Lib.hid hz2
            clear hz2
            go_wp2_with (first | (go_at_call 26; refine callRet (KD.out _ (((Upd.refl _ _).alloc _).alloc _)) ?_; intro v w1 hv; obtain ⟨av, rfl, hE, hA⟩ := hv; rw [HIS.out]; rw [HZ2.out.1] at hA; obtain ⟨ab2, c2, rfl, hby2, _⟩ := hA; have HE := Lib.hid hE; have hrow : w1.heap[wr.heap.size + 1]? = some (.cells #[.slice ab m cb, .int .i64 z.n, .int .i32 z.rune, .bool z.flag, .int .i64 (z.code : Int)] 59 (0, 0)) := HE.out.2.heap (heap_alloc2_new _ _ _) (fun hh => by omega); have d0 : w1.cell? ⟨wr.heap.size + 1, 0, none⟩ = some (.slice ab m cb) := (by rw [World.cell_of_heap hrow]; rfl); have d1 : w1.cell? ⟨wr.heap.size + 1, 1, none⟩ = some (.int .i64 z.n) := (by rw [World.cell_of_heap hrow]; rfl); have d2 : w1.cell? ⟨wr.heap.size + 1, 2, none⟩ = some (.int .i32 z.rune) := (by rw [World.cell_of_heap hrow]; rfl); have d3 : w1.cell? ⟨wr.heap.size + 1, 3, none⟩ = some (.bool z.flag) := (by rw [World.cell_of_heap hrow]; rfl); have d4 : w1.cell? ⟨wr.heap.size + 1, 4, none⟩ = some (.int .i64 (z.code : Int)) := (by rw [World.cell_of_heap hrow]; rfl); have hsz1 : wr.heap.size + 1 < w1.heap.size := (by have := HE.out.2.size; simp at this; omega); have HB2 := Lib.hid hby2; clear hE hrow hby2) | (go_at_call 25; rw [← HM.out]; refine callRet (sameAns (((HBY.out.new (((Upd.refl _ _).alloc _).alloc _)).upd HE.out.2 (fun p hp hn hh => HPB.out p hp hn hh)).new ((Upd.refl _ _).alloc _)) (HB2.out.new ((Upd.refl _ _).alloc _))) ?_; rintro v w3 ⟨hn3, rfl⟩; have HN3 := Lib.hid hn3; clear hn3))
            go_roundw
            case rel => exact ⟨k + 1, (sk.doF st).2, by go_num, by omega, (HE.out.1.new ((Upd.refl _ _).alloc _)).new HN3.out, ((((HU.out.alloc _).alloc _).trans HE.out.2 (fun _ h _ => h)).alloc _).andNew HN3.out, HZ2.out.2⟩
            case measure => simp [intOf]; omega
    · obtain rfl : k = ss.length := by omega
      go_wp2_with fail
      go_ret2
      exact ⟨⟨_, rfl⟩, HU.out⟩
end Go.Proofs.YtmmjfpcmempeeaaDoor
