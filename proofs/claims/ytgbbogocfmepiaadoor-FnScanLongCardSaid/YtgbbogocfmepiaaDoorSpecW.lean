/- spec.word; spec.Split at the kind 2. -/
import Derived.Test.YtgbbogocfmepiaaDoorScanW
namespace Go.Proofs.YtgbbogocfmepiaaDoor
open Go.RowKit
def wordS (bs : List UInt8) : Nat × Nat × Nat :=
  match wordE bs.length (bs.drop (lead bs.length bs)) with
  | some (e, n) => (lead bs.length bs, lead bs.length bs + e, n)
  | none => (lead bs.length bs, bs.length, 0)
set_option maxRecDepth 100000 in
set_option maxHeartbeats 4000000 in
theorem specWord {w : World} {g o c : Nat} {bs : List UInt8} (h : BytesA w (some ⟨g, o, none⟩) c bs) :
    Calls Tryd.prog 52 #[.slice (some ⟨g, o, none⟩) bs.length c] w (Ret fun v w' => w = w' ∧ v = .tuple #[.int .i64 ((wordS bs).1 : Int), .int .i64 ((wordS bs).2.1 : Int), .int .i64 ((wordS bs).2.2 : Int)]) := by
  have l1 := h.1
  have l2 : c ≤ 9223372036854775807 := h.2.1
  have H := Lib.hid h
  obtain ⟨m, hm⟩ : ∃ m, bs.length = m := ⟨_, rfl⟩
  have HM := Lib.hid hm
  obtain ⟨ld, hld⟩ : ∃ ld, lead bs.length bs = ld := ⟨_, rfl⟩
  have hldm : ld ≤ m := by rw [← hld, ← hm]; exact lead_le _ _
  have HLD := Lib.hid hld
  obtain ⟨X, hX⟩ : ∃ X, wordS bs = X := ⟨_, rfl⟩
  have HX : Hid ((match wordE m (bs.drop ld) with
    | some (e, n) => (ld, ld + e, n)
    | none => (ld, m, 0)) = X) := by
    rw [← hX]; unfold wordS; rw [hm] at hld; rw [hm, hld]; exact rfl
  rw [hX]
  rw [hm] at l1 ⊢
  rw [hm] at HLD
  have KD : Hid (∀ (s : Nat), s < m → Calls Tryd.prog 69 #[.slice (some ⟨g, o + s, none⟩) (m - s) (c - s)] w (Ret fun v w' => w = w' ∧ v = .tuple #[.int .i32 ((dec (bs.drop s)).1 : Int), .int .i64 ((dec (bs.drop s)).2 : Int)])) := fun s hs => by
    have hl : (bs.drop s).length = m - s := by rw [List.length_drop, HM.out]
    rw [← hl]
    exact specRune (H.out.suf (by rw [HM.out]; omega) (.inr ⟨by omega, rfl, rfl⟩)) (by omega)
  clear h hm hld hX
  go_enter Tryd.func52, Tryd.ntmps52
  go_upto_block 0 with fail
  go_cut [5] (fun v wc => v = .int .i64 (ld : Int) ∧ w = wc)
  case first =>
    go_wp2_with fail
    go_loop [5] (fun v => ∃ s f : Nat, v = .int .i64 (s : Int) ∧ s ≤ m ∧ m - s ≤ f ∧ ld = s + lead f (bs.drop s)) (fun v => m - (intOf v).toNat)
    case atStart => exact ⟨0, m, rfl, Nat.zero_le _, by omega, by rw [List.drop_zero, HLD.out]; omega⟩
    case round =>
      obtain ⟨s, f, rfl, hs, hf, hle⟩ := hrel
      have HLE := Lib.hid hle
      clear hle
      by_cases hlt : s < m
      · obtain ⟨f', rfl⟩ : ∃ f', f = f' + 1 := ⟨f - 1, by omega⟩
        have hne : bs.drop s ≠ [] := fun hh => by have := congrArg List.length hh; rw [List.length_drop, HM.out] at this; simp at this; omega
        have hp := dec_pos' hne
        rw [List.length_drop, HM.out] at hp
        have hp4 := (dec_pos (List.length_pos_iff.2 hne)).2.2.1
        have hcs : ¬ c = s := by omega
        have K1 := KD.out s hlt
        have HL2 : Hid (lead (f' + 1) (bs.drop s) = if isSp ((dec (bs.drop s)).1 : Int) then (dec (bs.drop s)).2 + lead f' ((bs.drop s).drop (dec (bs.drop s)).2) else 0) := by
          rw [Hid, lead, if_neg hne]
        obtain ⟨K, hK⟩ : ∃ K, (dec (bs.drop s)).2 = K := ⟨_, rfl⟩
        obtain ⟨R, hR⟩ : ∃ R, (dec (bs.drop s)).1 = R := ⟨_, rfl⟩
        rw [hK] at hp hp4
        rw [hK, hR] at K1 HL2
        have HK1 := Lib.hid K1
        clear hne K1 hK hR
        cases hsp : isSp (R : Int) with
        | true =>
          have HSP := Lib.hid hsp
          clear hsp
          go_wp2_with (first | (go_at_call 69; refine callRet HK1.out ?_; rintro v w1 ⟨rfl, rfl⟩) | (go_at_call 71; refine callRet (specSpace _ _) ?_; rintro v w2 ⟨rfl, rfl⟩; rw [HSP.out]))
          go_round
          case rel => exact ⟨s + K, f', by go_num, by omega, by omega, by rw [HLE.out, HL2.out, HSP.out, List.drop_drop]; simp only [if_true]; omega⟩
          case measure => simp [intOf]; omega
        | false =>
          have HSP := Lib.hid hsp
          clear hsp
          go_wp2_with (first | (go_at_call 69; refine callRet HK1.out ?_; rintro v w1 ⟨rfl, rfl⟩) | (go_at_call 71; refine callRet (specSpace _ _) ?_; rintro v w2 ⟨rfl, rfl⟩; rw [HSP.out]))
          have e : s = ld := by rw [HLE.out, HL2.out, HSP.out]; simp
          go_meet
          exact ⟨by first | rfl | rw [e], rfl⟩
      · have e : s = ld := by
          have h0 : bs.drop s = [] := List.drop_eq_nil_of_le (by rw [HM.out]; omega)
          rw [HLE.out, h0]
          cases f <;> simp [lead]
        go_wp2
        go_meet
        exact ⟨by first | rfl | rw [e], rfl⟩
  case rest =>
    obtain ⟨rfl, rfl⟩ := hcut
    go_wp2_with fail
    go_loop [8] (fun v => ∃ i f : Nat, v = .int .i64 (i : Int) ∧ ld ≤ i ∧ i ≤ m ∧ m - i ≤ f ∧ wordE m (bs.drop ld) = (wordE f (bs.drop i)).map fun x => (i - ld + x.1, x.2)) (fun v => m - (intOf v).toNat)
    case atStart => exact ⟨ld, m, rfl, Nat.le_refl _, hldm, by omega, by simp⟩
    case round =>
      obtain ⟨s, f, rfl, hs0, hs, hf, hle⟩ := hrel
      have HLE := Lib.hid hle
      clear hle
      by_cases hlt : s < m
      · obtain ⟨f', rfl⟩ : ∃ f', f = f' + 1 := ⟨f - 1, by omega⟩
        have hne : bs.drop s ≠ [] := fun hh => by have := congrArg List.length hh; rw [List.length_drop, HM.out] at this; simp at this; omega
        have hp := dec_pos' hne
        rw [List.length_drop, HM.out] at hp
        have hp4 := (dec_pos (List.length_pos_iff.2 hne)).2.2.1
        have hcs : ¬ c = s := by omega
        have K1 := KD.out s hlt
        have HL2 : Hid (wordE (f' + 1) (bs.drop s) = if isSp ((dec (bs.drop s)).1 : Int) then some (0, (dec (bs.drop s)).2) else (wordE f' ((bs.drop s).drop (dec (bs.drop s)).2)).map fun x => ((dec (bs.drop s)).2 + x.1, x.2)) := by
          rw [Hid, wordE, if_neg hne]
        obtain ⟨K, hK⟩ : ∃ K, (dec (bs.drop s)).2 = K := ⟨_, rfl⟩
        obtain ⟨R, hR⟩ : ∃ R, (dec (bs.drop s)).1 = R := ⟨_, rfl⟩
        rw [hK] at hp hp4
        rw [hK, hR] at K1 HL2
        have HK1 := Lib.hid K1
        clear hne K1 hK hR
        cases hsp : isSp (R : Int) with
        | true =>
          have HSP := Lib.hid hsp
          clear hsp
          have hX2 : X = (ld, s, K) := by
            have hx := HX.out
            rw [HLE.out, HL2.out, HSP.out, if_pos rfl] at hx
            rw [← hx]
            show (ld, ld + (s - ld + 0), K) = _
            rw [show ld + (s - ld + 0) = s by omega]
          have HX2 := Lib.hid hX2
          clear hX2
          go_wp2_with (first | (go_at_call 69; refine callRet HK1.out ?_; rintro v w1 ⟨rfl, rfl⟩) | (go_at_call 71; refine callRet (specSpace _ _) ?_; rintro v w2 ⟨rfl, rfl⟩; rw [HSP.out]))
          refine bodyPost_ret (results_tmp3 rfl _ _ _) rfl ?_
          exact ⟨rfl, by rw [HX2.out]; rfl⟩
        | false =>
          have HSP := Lib.hid hsp
          clear hsp
          go_wp2_with (first | (go_at_call 69; refine callRet HK1.out ?_; rintro v w1 ⟨rfl, rfl⟩) | (go_at_call 71; refine callRet (specSpace _ _) ?_; rintro v w2 ⟨rfl, rfl⟩; rw [HSP.out]))
          go_round
          case rel =>
            refine ⟨s + K, f', by go_num, by omega, by omega, by omega, ?_⟩
            rw [HLE.out, HL2.out, HSP.out, if_neg (by simp), List.drop_drop, Option.map_map]
            congr 1
            funext x
            show (s - ld + (K + x.1), x.2) = (s + K - ld + x.1, x.2)
            rw [show s - ld + (K + x.1) = s + K - ld + x.1 by omega]
          case measure => simp [intOf]; omega
      · have hw : wordE m (bs.drop ld) = none := by
          have h0 : bs.drop s = [] := List.drop_eq_nil_of_le (by rw [HM.out]; omega)
          rw [HLE.out, h0]
          cases f <;> simp [wordE]
        have hx := HX.out
        rw [hw] at hx
        replace hx : (ld, m, 0) = X := hx
        have HX2 := Lib.hid hx
        clear hx hw
        go_wp2_with fail
        refine bodyPost_ret (results_tmp3 rfl _ _ _) rfl ?_
        exact ⟨rfl, by rw [← HX2.out]; rfl⟩
set_option maxRecDepth 100000 in
set_option maxHeartbeats 4000000 in
theorem specSplit_2 {w : World} {a : Option Addr} {c : Nat} {bs : List UInt8} (h : BytesA w a c bs) (fin : Bool) :
    Calls Tryd.prog 29 #[.int .i64 2, .slice a bs.length c, .bool fin] w (Ret (SSplitPost w a (splitWords bs fin))) := by
  have l1 := h.1
  have l2 : c ≤ 9223372036854775807 := h.2.1
  by_cases hb : bs = []
  · subst hb
    have e : splitWords [] fin = (0, none) := by
      unfold splitWords
      show (if fin = true ∧ (0 : Nat) < 0 then _ else _) = _
      rw [if_neg (fun h => by have := h.2; omega)]
      rfl
    rw [e]
    clear h e
    go_enter Tryd.func29, Tryd.ntmps29
    (go_wp2_with fail; (repeat' (refine wp_region_lx {} (by kernel_rfl) (by kernel_rfl) ⟨fun _ _ _ h => h.2, fun _ _ h => h⟩ ?_; (repeat' (first | (refine wpLx_calm rfl rfl rfl (fun K hK => ?_); go_step <;> (refine hK _ ?_; clear hK K)) | (refine wpLx_skip2 rfl rfl rfl ?_; go_simp) | (refine wpLx_calm2 rfl rfl rfl rfl rfl (fun K hK => ?_); go_step <;> (refine hK _ ?_; clear hK K)) | (refine wpLx_skip rfl ?_; go_simp))); all_goals (refine wpLx_nil ?_; try go_wp2_with fail))))
    refine bodyPost_ret (results_tmp3 rfl _ _ _) rfl ?_
    exact ⟨Upd.refl _ _, none, 0, rfl, BytesA.nil0 _, TokAt.nil _ _⟩
  · have hl : 0 < bs.length := List.length_pos_iff.2 hb
    obtain ⟨b, o, rfl⟩ : ∃ b o, a = some ⟨b, o, none⟩ := by
      cases a with
      | none => have := h.2.2.1 rfl; omega
      | some p => obtain ⟨b, o, s⟩ := p; obtain rfl := (h.2.2.2 _ rfl).1 hb; exact ⟨b, o, rfl⟩
    have KW := specWord h
    have H := Lib.hid h
    have hldm := lead_le bs.length bs
    obtain ⟨m, hm⟩ : ∃ m, bs.length = m := ⟨_, rfl⟩
    have q1 : ((m : Int) == 0) = false := by rw [beq_eq_false_iff_ne]; omega
    have HM := Lib.hid hm
    unfold wordS at KW
    unfold splitWords
    rw [hm] at KW l1 hldm hl ⊢
    obtain ⟨ld, hld⟩ : ∃ ld, lead m bs = ld := ⟨_, rfl⟩
    rw [hld] at KW hldm ⊢
    have HWL := Lib.hid (wordE_le m (bs.drop ld))
    cases hw : wordE m (bs.drop ld) with
    | some x =>
      obtain ⟨e, n⟩ := x
      have hx := HWL.out _ hw
      rw [List.length_drop, HM.out] at hx
      have hx : e + n ≤ m - ld ∧ 1 ≤ n := hx
      rw [hw] at KW
      have KW : Calls Tryd.prog 52 #[.slice (some ⟨b, o, none⟩) m c] w (Ret fun v w' => w = w' ∧ v = .tuple #[.int .i64 (ld : Int), .int .i64 ((ld + e : Nat) : Int), .int .i64 (n : Int)]) := KW
      rw [show ((ld + e : Nat) : Int) = (ld : Int) + (e : Int) by omega] at KW
      have HKW := Lib.hid KW
      have hcl : ¬ c = ld := by omega
      have qn : (0 : Int) < (n : Int) := by omega
      have HTK : Hid (BytesA w (some ⟨b, o + ld, none⟩) (c - ld) ((bs.drop ld).take e)) := by
        have := H.out.sub1 (lo := ld) (hi := ld + e) (by omega) (by rw [HM.out]; omega)
        rw [List.drop_take, Nat.add_sub_cancel_left] at this
        exact this
      have HTL : Hid (((bs.drop ld).take e).length = e) := by rw [Hid, List.length_take, List.length_drop, HM.out]; omega
      clear KW h hb hw hm hld
      cases fin
      all_goals
        go_enter Tryd.func29, Tryd.ntmps29
        go_wp2_with (go_at_call 52; refine callRet HKW.out ?_; rintro v w1 ⟨rfl, rfl⟩)
        (go_wp2_with fail; (repeat' (refine wp_region_lx {} (by kernel_rfl) (by kernel_rfl) ⟨fun _ _ _ h => h.2, fun _ _ h => h⟩ ?_; (repeat' (first | (refine wpLx_calm rfl rfl rfl (fun K hK => ?_); go_step <;> (refine hK _ ?_; clear hK K)) | (refine wpLx_skip2 rfl rfl rfl ?_; go_simp) | (refine wpLx_calm2 rfl rfl rfl rfl rfl (fun K hK => ?_); go_step <;> (refine hK _ ?_; clear hK K)) | (refine wpLx_skip rfl ?_; go_simp))); all_goals (refine wpLx_nil ?_; try go_wp2_with fail))))
        refine bodyPost_ret (results_tmp3 rfl _ _ _) rfl ?_
        refine ⟨(Upd.refl _ _).drew, some ⟨b, o + ld, none⟩, c - ld, ?_, HTK.out.new (Upd.refl _ _).drew, TokAt.same _ _ _ _⟩
        show _ = Value.tuple #[.int .i64 ((ld + e + n : Nat) : Int), .slice (some ⟨b, o + ld, none⟩) ((bs.drop ld).take e).length (c - ld), .bool true]
        rw [HTL.out, show ((ld + e + n : Nat) : Int) = (ld : Int) + (e : Int) + (n : Int) by omega]
        have e1 : ld + e - ld = e := by omega
        first | rfl | (rw [e1]; rfl) | (simp; done)
    | none =>
      rw [hw] at KW
      have KW : Calls Tryd.prog 52 #[.slice (some ⟨b, o, none⟩) m c] w (Ret fun v w' => w = w' ∧ v = .tuple #[.int .i64 (ld : Int), .int .i64 (m : Int), .int .i64 0]) := KW
      have HKW := Lib.hid KW
      show Calls _ _ _ _ (Ret (SSplitPost w (some ⟨b, o, none⟩) (if fin = true ∧ ld < m then (m, some (bs.drop ld)) else (ld, none))))
      by_cases hfin : fin = true ∧ ld < m
      · rw [if_pos hfin]
        obtain ⟨rfl, hlm⟩ := hfin
        have hcl : ¬ c = ld := by omega
        have d1 : decide ((ld : Int) < (m : Int)) = true := decide_eq_true (by omega)
        have HTK := Lib.hid (H.out.suf (s := ld) (by rw [HM.out]; omega) (.inr ⟨hcl, rfl, rfl⟩))
        have HTL : Hid ((bs.drop ld).length = m - ld) := by rw [Hid, List.length_drop, HM.out]
        clear KW h hb hw hm hld
        go_enter Tryd.func29, Tryd.ntmps29
        go_wp2_with (go_at_call 52; refine callRet HKW.out ?_; rintro v w1 ⟨rfl, rfl⟩)
        (go_wp2_with fail; (repeat' (refine wp_region_lx {} (by kernel_rfl) (by kernel_rfl) ⟨fun _ _ _ h => h.2, fun _ _ h => h⟩ ?_; (repeat' (first | (refine wpLx_calm rfl rfl rfl (fun K hK => ?_); go_step <;> (refine hK _ ?_; clear hK K)) | (refine wpLx_skip2 rfl rfl rfl ?_; go_simp) | (refine wpLx_calm2 rfl rfl rfl rfl rfl (fun K hK => ?_); go_step <;> (refine hK _ ?_; clear hK K)) | (refine wpLx_skip rfl ?_; go_simp))); all_goals (refine wpLx_nil ?_; try go_wp2_with fail))))
        refine bodyPost_ret (results_tmp3 rfl _ _ _) rfl ?_
        refine ⟨(Upd.refl _ _).drew, some ⟨b, o + ld, none⟩, c - ld, ?_, HTK.out.new (Upd.refl _ _).drew, TokAt.same _ _ _ _⟩
        show _ = Value.tuple #[.int .i64 (m : Int), .slice (some ⟨b, o + ld, none⟩) (bs.drop ld).length (c - ld), .bool true]
        rw [HTL.out]
        first | rfl | (simp; done)
      · rw [if_neg hfin]
        cases fin with
        | true =>
          have hn : ¬ ld < m := fun h => hfin ⟨rfl, h⟩
          have d1 : decide ((ld : Int) < (m : Int)) = false := decide_eq_false (by omega)
          clear KW h hb hw hm hld hfin
          go_enter Tryd.func29, Tryd.ntmps29
          go_wp2_with (go_at_call 52; refine callRet HKW.out ?_; rintro v w1 ⟨rfl, rfl⟩)
          refine bodyPost_ret (results_tmp3 rfl _ _ _) rfl ?_
          exact ⟨Upd.refl _ _, none, 0, rfl, BytesA.nil0 _, TokAt.nil _ _⟩
        | false =>
          clear KW h hb hw hm hld hfin
          go_enter Tryd.func29, Tryd.ntmps29
          go_wp2_with (go_at_call 52; refine callRet HKW.out ?_; rintro v w1 ⟨rfl, rfl⟩)
          refine bodyPost_ret (results_tmp3 rfl _ _ _) rfl ?_
          exact ⟨Upd.refl _ _, none, 0, rfl, BytesA.nil0 _, TokAt.nil _ _⟩
end Go.Proofs.YtgbbogocfmepiaaDoor
