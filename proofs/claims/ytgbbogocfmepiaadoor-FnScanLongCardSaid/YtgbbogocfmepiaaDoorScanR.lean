/- ScanRunes; spec.Split at the kind 1. -/
import Derived.Test.YtgbbogocfmepiaaDoorSpecFull
import Derived.Test.YtgbbogocfmepiaaDoorUtfFull
import Derived.Test.YtgbbogocfmepiaaDoorSplit
import Derived.Lib.SlBytesConst
namespace Go.Proofs.YtgbbogocfmepiaaDoor
open Go.RowKit
theorem bytes_block' {w : World} {g : Nat} {bs : List UInt8} {cs : Array Value} {t : TypeId} {fr : Nat × Nat} (h : w.heap[g]? = some (.cells cs t fr)) (hc : cs = (bs.map bv).toArray) (hm : bs.length ≤ maxLen) : BytesA w (some ⟨g, 0, none⟩) bs.length bs := by
  refine ⟨Nat.le_refl _, hm, fun hh => (by cases hh), fun p hp => ⟨fun _ => (by simp only [Option.some.injEq] at hp; subst hp; rfl), fun i hi => ?_⟩⟩
  simp only [Option.some.injEq] at hp
  subst hp
  rw [cell_of_row w g _ cs t fr h, hc]
  simp [hi]
def broken3 : List UInt8 := [239, 191, 189]
def splitRunes (bs : List UInt8) (fin : Bool) : Nat × Option (List UInt8) :=
  if bs = [] then (0, none)
  else if xb bs 0 < 128 then (1, some (bs.take 1))
  else if 1 < (dec bs).2 then ((dec bs).2, some (bs.take (dec bs).2))
  else if !fin && !fullB bs then (0, none)
  else (1, some broken3)
set_option maxRecDepth 100000 in
set_option maxHeartbeats 1000000 in
theorem errorRune (w : World) : Calls Tryd.prog 76 #[] w (Ret fun v w' => New w w' ∧ TokV w' v (some broken3)) := by
  have hb : BytesA (w.alloc (.cells #[.int .u8 239, .int .u8 191, .int .u8 189] 5 (3, 4))) (some ⟨w.heap.size, 0, none⟩) 3 broken3 := bytes_block' (heap_alloc_new w _) rfl (by simp [broken3, maxLen])
  have HB := Lib.hid hb
  have hcv := fun (wx : World) (C : Array Value) (n c : Nat) => Go.Lib.run_convert_bytes_const (P := Tryd.prog) wx 29 5 C n c Tryd.underlying29 Tryd.underlying5
  clear hb
  go_enter Tryd.func76, Tryd.ntmps76
  go_wp2
  go_ret
  exact ⟨(Upd.refl _ _).alloc _, _, _, _, rfl, HB.out⟩
set_option maxRecDepth 100000 in
set_option maxHeartbeats 1000000 in
theorem specBroken (w : World) : Calls Tryd.prog 70 #[] w (Ret fun v w' => New w w' ∧ TokV w' v (some broken3) ∧ ∀ k, v.ownBlock = some k → ∃ cur, w'.heap[k]? = some (.cells cur 5 (0, 0))) := by
  have hb : BytesA (w.alloc (.cells #[.int .u8 239, .int .u8 191, .int .u8 189] 5)) (some ⟨w.heap.size, 0, none⟩) 3 broken3 := bytes_block (heap_alloc_new w _) rfl (by simp [broken3, maxLen])
  have HB := Lib.hid hb
  clear hb
  go_enter Tryd.func70, Tryd.ntmps70
  go_wp2
  go_ret
  exact ⟨(Upd.refl _ _).alloc _, ⟨_, _, _, rfl, HB.out⟩, fun k hk => by have hk : some w.heap.size = some k := hk; simp only [Option.some.injEq] at hk; subst hk; exact ⟨_, heap_alloc_new w _⟩⟩
set_option maxRecDepth 100000 in
set_option maxHeartbeats 2000000 in
theorem scanRunes {w : World} (hT : Tabs w) {g o c : Nat} {bs : List UInt8} (h : BytesA w (some ⟨g, o, none⟩) c bs) (fin : Bool) (hne : bs ≠ [] ∨ fin = true) :
    Calls Tryd.prog 56 #[.slice (some ⟨g, o, none⟩) bs.length c, .bool fin] w (Ret (SplitPost w (splitRunes bs fin))) := by
  have l1 := h.1
  have l2 := h.2.1
  unfold maxLen at l2
  have H := Lib.hid h
  by_cases hb : bs = []
  · subst hb
    obtain rfl : fin = true := hne.resolve_left (fun h => h rfl)
    have e : splitRunes [] true = (0, none) := if_pos rfl
    rw [e]
    clear h hne e hT
    go_enter Tryd.func56, Tryd.ntmps56
    (go_wp2_with fail; (repeat' (refine wp_region_lx {} (by kernel_rfl) (by kernel_rfl) ⟨fun _ _ _ h => h.2, fun _ _ h => h⟩ ?_; (repeat' (first | (refine wpLx_calm rfl rfl rfl (fun K hK => ?_); go_step <;> (refine hK _ ?_; clear hK K)) | (refine wpLx_skip2 rfl rfl rfl ?_; go_simp) | (refine wpLx_calm2 rfl rfl rfl rfl rfl (fun K hK => ?_); go_step <;> (refine hK _ ?_; clear hK K)) | (refine wpLx_skip rfl ?_; go_simp))); all_goals (refine wpLx_nil ?_; try go_wp2_with fail))))
    refine bodyPost_ret (results_tmp3 rfl _ _ _) rfl ?_
    exact ⟨Upd.refl _ _, _, rfl, rfl⟩
  · have hl : 0 < bs.length := List.length_pos_iff.2 hb
    have e0 : splitRunes bs fin = (if xb bs 0 < 128 then (1, some (bs.take 1))
      else if 1 < (dec bs).2 then ((dec bs).2, some (bs.take (dec bs).2))
      else if !fin && !fullB bs then (0, none)
      else (1, some broken3)) := if_neg hb
    rw [e0]
    have hw := dec_ways hl
    have hpos := dec_pos hl
    have KD := decodeRune hT h
    have KF := Lib.hid (fun (wx : World) (hx : New w wx) => fullRune (hT.new hx) (H.out.new hx))
    have hs0 : w.cell? ⟨g, o, none⟩ = some (.int .u8 (xb bs 0 : Int)) := h.xb 0 hl
    have hx256 := xb_lt bs 0
    obtain ⟨x0, hx0⟩ : ∃ x0, xb bs 0 = x0 := ⟨_, rfl⟩
    obtain ⟨K, hK⟩ : ∃ K, (dec bs).2 = K := ⟨_, rfl⟩
    obtain ⟨R, hR⟩ : ∃ R, (dec bs).1 = R := ⟨_, rfl⟩
    obtain ⟨m, hm⟩ : ∃ m, bs.length = m := ⟨_, rfl⟩
    obtain ⟨fb, hfb⟩ : ∃ fb, fullB bs = fb := ⟨_, rfl⟩
    have q1 : ((m : Int) == 0) = false := by rw [beq_eq_false_iff_ne]; omega
    rw [hK, hR] at KD
    rw [hx0] at hs0 hw hx256
    rw [hK] at hpos
    have HTK : ∀ k, k ≤ m → Hid ((bs.take k).length = k) := fun k hk => by rw [Hid, List.length_take]; omega
    rw [hfb] at KF
    rw [hx0, hK, hfb]
    rw [hm] at l1 hl hpos KD KF ⊢
    have HKD := Lib.hid KD
    clear hb hne e0 hm hT KD h hK hR hx0 hfb hw
    by_cases ha : x0 < 128
    · have HL := HTK 1 (by omega)
      have qa : (x0 : Int) < 128 := by omega
      rw [if_pos ha]
      clear HTK ha HKD KF
      cases fin
      all_goals
        go_enter Tryd.func56, Tryd.ntmps56
        (go_wp2_with fail; (repeat' (refine wp_region_lx {} (by kernel_rfl) (by kernel_rfl) ⟨fun _ _ _ h => h.2, fun _ _ h => h⟩ ?_; (repeat' (first | (refine wpLx_calm rfl rfl rfl (fun K hK => ?_); go_step <;> (refine hK _ ?_; clear hK K)) | (refine wpLx_skip2 rfl rfl rfl ?_; go_simp) | (refine wpLx_calm2 rfl rfl rfl rfl rfl (fun K hK => ?_); go_step <;> (refine hK _ ?_; clear hK K)) | (refine wpLx_skip rfl ?_; go_simp))); all_goals (refine wpLx_nil ?_; try go_wp2_with fail))))
        refine bodyPost_ret (results_tmp3 rfl _ _ _) rfl ?_
        exact ⟨(Upd.refl _ _).drew, _, rfl, g, o, c, by rw [HL.out]; rfl, (H.out.take 1).new (Upd.refl _ _).drew⟩
    · have qa : ¬ (x0 : Int) < 128 := by omega
      rw [if_neg ha]
      clear ha
      by_cases hk : 1 < K
      · have HL := HTK K (by omega)
        have qk : (1 : Int) < (K : Int) := by omega
        rw [if_pos hk]
        clear HTK hk KF
        cases fin
        all_goals
          go_enter Tryd.func56, Tryd.ntmps56
          go_wp2_with (go_at_call 74; refine callRet HKD.out ?_; rintro v w1 ⟨h1, rfl⟩; have HU1 := Lib.hid h1; clear h1)
          (go_wp2_with fail; (repeat' (refine wp_region_lx {} (by kernel_rfl) (by kernel_rfl) ⟨fun _ _ _ h => h.2, fun _ _ h => h⟩ ?_; (repeat' (first | (refine wpLx_calm rfl rfl rfl (fun K hK => ?_); go_step <;> (refine hK _ ?_; clear hK K)) | (refine wpLx_skip2 rfl rfl rfl ?_; go_simp) | (refine wpLx_calm2 rfl rfl rfl rfl rfl (fun K hK => ?_); go_step <;> (refine hK _ ?_; clear hK K)) | (refine wpLx_skip rfl ?_; go_simp))); all_goals (refine wpLx_nil ?_; try go_wp2_with fail))))
          refine bodyPost_ret (results_tmp3 rfl _ _ _) rfl ?_
          exact ⟨HU1.out.drew, _, rfl, g, o, c, by rw [HL.out]; rfl, (H.out.take K).new HU1.out.drew⟩
      · have qk : ¬ (1 : Int) < (K : Int) := by omega
        rw [if_neg hk]
        clear HTK hk
        cases fin with
        | true =>
          rw [show (!true && !fb) = false from rfl, if_neg (by simp)]
          clear KF
          go_enter Tryd.func56, Tryd.ntmps56
          go_wp2_with (first | (go_at_call 74; refine callRet HKD.out ?_; rintro v w1 ⟨h1, rfl⟩; have HU1 := Lib.hid h1; clear h1) | (go_at_call 76; refine callRet (errorRune _) ?_; rintro v w2 ⟨h1, h2⟩; have HU2 : Hid (New w w2) := HU1.out.andNew h1; have HV2 := Lib.hid h2; clear h1 h2))
          refine bodyPost_ret (results_tmp3 rfl _ _ _) rfl ?_
          exact ⟨HU2.out, _, rfl, HV2.out⟩
        | false =>
          cases fb with
          | true =>
            rw [show (!false && !true) = false from rfl, if_neg (by simp)]
            go_enter Tryd.func56, Tryd.ntmps56
            go_wp2_with (first | (go_at_call 74; refine callRet HKD.out ?_; rintro v w1 ⟨h1, rfl⟩; have HU1 := Lib.hid h1; clear h1) | (go_at_call 75; refine callRet (KF.out _ HU1.out) ?_; rintro v w3 ⟨h1, rfl⟩; have HU3 := Lib.hid (HU1.out.andNew h1); clear h1) | (go_at_call 76; refine callRet (errorRune _) ?_; rintro v w2 ⟨h1, h2⟩; have HU2 : Hid (New w w2) := HU3.out.andNew h1; have HV2 := Lib.hid h2; clear h1 h2))
            refine bodyPost_ret (results_tmp3 rfl _ _ _) rfl ?_
            exact ⟨HU2.out, _, rfl, HV2.out⟩
          | false =>
            rw [show (!false && !false) = true from rfl, if_pos rfl]
            go_enter Tryd.func56, Tryd.ntmps56
            go_wp2_with (first | (go_at_call 74; refine callRet HKD.out ?_; rintro v w1 ⟨h1, rfl⟩; have HU1 := Lib.hid h1; clear h1) | (go_at_call 75; refine callRet (KF.out _ HU1.out) ?_; rintro v w3 ⟨h1, rfl⟩; have HU3 := Lib.hid (HU1.out.andNew h1); clear h1))
            refine bodyPost_ret (results_tmp3 rfl _ _ _) rfl ?_
            exact ⟨HU3.out, _, rfl, rfl⟩
/-- spec.runeOf -/
theorem runeOf_eq {bs : List UInt8} (hl : 0 < bs.length) : (if (dec bs).1 = 65533 ∧ (dec bs).2 = 1 then (1, broken3) else ((dec bs).2, bs.take (dec bs).2)) =
    (if xb bs 0 < 128 then (1, bs.take 1) else if 1 < (dec bs).2 then ((dec bs).2, bs.take (dec bs).2) else (1, broken3)) := by
  rcases dec_ways hl with ⟨h1, h2⟩ | h1 | ⟨h1, h2⟩
  · rw [h2, if_neg (fun h => by have := h.1; omega), if_pos h1]
  · rw [if_neg (fun h => by have := h.2; omega), if_neg (by omega), if_pos (by omega)]
  · rw [h2, if_pos ⟨rfl, rfl⟩, if_neg (by omega), if_neg (by show ¬ 1 < 1; omega)]
set_option maxRecDepth 100000 in
set_option maxHeartbeats 2000000 in
theorem specRuneOf {w : World} {g o c : Nat} {bs : List UInt8} (h : BytesA w (some ⟨g, o, none⟩) c bs) (hl : 0 < bs.length) :
    Calls Tryd.prog 51 #[.slice (some ⟨g, o, none⟩) bs.length c] w (Ret fun v w' => New w w' ∧ ∃ t, v = .tuple #[.int .i64 ((if (dec bs).1 = 65533 ∧ (dec bs).2 = 1 then (1, broken3) else ((dec bs).2, bs.take (dec bs).2)).1 : Int), t] ∧ TokV w' t (some (if (dec bs).1 = 65533 ∧ (dec bs).2 = 1 then (1, broken3) else ((dec bs).2, bs.take (dec bs).2)).2) ∧ ∀ k, t.ownBlock = some k → k = g ∨ ∃ cur, w'.heap[k]? = some (.cells cur 5 (0, 0))) := by
  have l1 := h.1
  have l2 := h.2.1
  unfold maxLen at l2
  have KR := specRune h hl
  have H := Lib.hid h
  have hpos := dec_pos hl
  obtain ⟨K, hK⟩ : ∃ K, (dec bs).2 = K := ⟨_, rfl⟩
  obtain ⟨R, hR⟩ : ∃ R, (dec bs).1 = R := ⟨_, rfl⟩
  obtain ⟨m, hm⟩ : ∃ m, bs.length = m := ⟨_, rfl⟩
  rw [hK, hR] at KR
  rw [hK] at hpos
  rw [hR, hK]
  rw [hm] at l1 hl hpos KR ⊢
  have HL : Hid ((bs.take K).length = K) := by rw [Hid, List.length_take]; omega
  have HKR := Lib.hid KR
  clear h hK hR hm KR
  by_cases h1 : R = 65533
  · have q1 : ((R : Int) == 65533) = true := by simp; omega
    by_cases h2 : K = 1
    · have q2 : ((K : Int) == 1) = true := by simp; omega
      rw [if_pos ⟨h1, h2⟩]
      clear h1 h2
      go_enter Tryd.func51, Tryd.ntmps51
      go_wp2_with (first | (go_at_call 69; refine callRet HKR.out ?_; rintro v w1 ⟨rfl, rfl⟩) | (go_at_call 70; refine callRet (specBroken _) ?_; rintro v w2 ⟨h1, h2, h3⟩; have HU2 := Lib.hid h1; have HV2 := Lib.hid h2; have HT2 := Lib.hid h3; clear h1 h2 h3))
      go_ret2
      exact ⟨HU2.out, _, rfl, HV2.out, fun k hk => .inr (HT2.out k hk)⟩
    · have q2 : ((K : Int) == 1) = false := by simp; omega
      rw [if_neg (fun h => h2 h.2)]
      clear h1 h2
      go_enter Tryd.func51, Tryd.ntmps51
      go_wp2_with (go_at_call 69; refine callRet HKR.out ?_; rintro v w1 ⟨rfl, rfl⟩)
      (go_wp2_with fail; (repeat' (refine wp_region_lx {} (by kernel_rfl) (by kernel_rfl) ⟨fun _ _ _ h => h.2, fun _ _ h => h⟩ ?_; (repeat' (first | (refine wpLx_calm rfl rfl rfl (fun K hK => ?_); go_step <;> (refine hK _ ?_; clear hK K)) | (refine wpLx_skip2 rfl rfl rfl ?_; go_simp) | (refine wpLx_calm2 rfl rfl rfl rfl rfl (fun K hK => ?_); go_step <;> (refine hK _ ?_; clear hK K)) | (refine wpLx_skip rfl ?_; go_simp))); all_goals (refine wpLx_nil ?_; try go_wp2_with fail))))
      go_ret2
      exact ⟨(Upd.refl _ _).drew, _, rfl, ⟨g, o, c, by show _ = Value.slice _ (bs.take K).length _; rw [HL.out]; rfl, (H.out.take K).new (Upd.refl _ _).drew⟩, fun k hk => .inl (by have hk : some g = some k := hk; simp only [Option.some.injEq] at hk; exact hk.symm)⟩
  · have q1 : ((R : Int) == 65533) = false := by simp; omega
    rw [if_neg (fun h => h1 h.1)]
    clear h1
    go_enter Tryd.func51, Tryd.ntmps51
    go_wp2_with (go_at_call 69; refine callRet HKR.out ?_; rintro v w1 ⟨rfl, rfl⟩)
    (go_wp2_with fail; (repeat' (refine wp_region_lx {} (by kernel_rfl) (by kernel_rfl) ⟨fun _ _ _ h => h.2, fun _ _ h => h⟩ ?_; (repeat' (first | (refine wpLx_calm rfl rfl rfl (fun K hK => ?_); go_step <;> (refine hK _ ?_; clear hK K)) | (refine wpLx_skip2 rfl rfl rfl ?_; go_simp) | (refine wpLx_calm2 rfl rfl rfl rfl rfl (fun K hK => ?_); go_step <;> (refine hK _ ?_; clear hK K)) | (refine wpLx_skip rfl ?_; go_simp))); all_goals (refine wpLx_nil ?_; try go_wp2_with fail))))
    go_ret2
    exact ⟨(Upd.refl _ _).drew, _, rfl, ⟨g, o, c, by show _ = Value.slice _ (bs.take K).length _; rw [HL.out]; rfl, (H.out.take K).new (Upd.refl _ _).drew⟩, fun k hk => .inl (by have hk : some g = some k := hk; simp only [Option.some.injEq] at hk; exact hk.symm)⟩
set_option maxRecDepth 100000 in
set_option maxHeartbeats 2000000 in
theorem specSplit_1 {w : World} {a : Option Addr} {c : Nat} {bs : List UInt8} (h : BytesA w a c bs) (fin : Bool) (hne : bs ≠ [] ∨ fin = true) (hbig : bs.length ≤ 2147483647) :
    Calls Tryd.prog 29 #[.int .i64 1, .slice a bs.length c, .bool fin] w (Ret (SSplitPost w a (splitRunes bs fin))) := by
  have l1 := h.1
  have l2 := h.2.1
  unfold maxLen at l2
  by_cases hb : bs = []
  · subst hb
    obtain rfl : fin = true := hne.resolve_left (fun h => h rfl)
    have e : splitRunes [] true = (0, none) := if_pos rfl
    rw [e]
    clear h hne e
    go_enter Tryd.func29, Tryd.ntmps29
    (go_wp2_with fail; (repeat' (refine wp_region_lx {} (by kernel_rfl) (by kernel_rfl) ⟨fun _ _ _ h => h.2, fun _ _ h => h⟩ ?_; (repeat' (first | (refine wpLx_calm rfl rfl rfl (fun K hK => ?_); go_step <;> (refine hK _ ?_; clear hK K)) | (refine wpLx_skip2 rfl rfl rfl ?_; go_simp) | (refine wpLx_calm2 rfl rfl rfl rfl rfl (fun K hK => ?_); go_step <;> (refine hK _ ?_; clear hK K)) | (refine wpLx_skip rfl ?_; go_simp))); all_goals (refine wpLx_nil ?_; try go_wp2_with fail))))
    refine bodyPost_ret (results_tmp3 rfl _ _ _) rfl ?_
    exact ⟨Upd.refl _ _, none, 0, rfl, BytesA.nil0 _, TokAt.nil _ _⟩
  · have hl : 0 < bs.length := List.length_pos_iff.2 hb
    obtain ⟨b, o, rfl⟩ : ∃ b o, a = some ⟨b, o, none⟩ := by
      cases a with
      | none => have := h.2.2.1 rfl; omega
      | some p => obtain ⟨b, o, s⟩ := p; obtain rfl := (h.2.2.2 _ rfl).1 hb; exact ⟨b, o, rfl⟩
    obtain ⟨Y, hY⟩ : ∃ Y, Y = (if (dec bs).1 = 65533 ∧ (dec bs).2 = 1 then (1, broken3) else ((dec bs).2, bs.take (dec bs).2)) := ⟨_, rfl⟩
    have e : splitRunes bs fin = if !fin && !sfull bs then (0, none) else (Y.1, some Y.2) := by
      have hr := runeOf_eq hl
      rw [← hY] at hr
      unfold splitRunes
      rw [if_neg hb, hr, sfull_eq]
      by_cases h1 : xb bs 0 < 128
      · rw [if_pos h1, if_pos h1, full_wide hl (.inl h1)]
        cases fin <;> rfl
      · rw [if_neg h1, if_neg h1]
        by_cases h2 : 1 < (dec bs).2
        · rw [if_pos h2, if_pos h2, full_wide hl (.inr h2)]
          cases fin <;> rfl
        · rw [if_neg h2, if_neg h2]
    have KF := Lib.hid (specFull h hbig hl)
    have KR := fun (wx : World) (hx : New w wx) => specRuneOf (h.new hx) hl
    rw [← hY] at KR
    have HKR := Lib.hid KR
    obtain ⟨m, hm⟩ : ∃ m, bs.length = m := ⟨_, rfl⟩
    obtain ⟨fb, hfb⟩ : ∃ fb, sfull bs = fb := ⟨_, rfl⟩
    have q1 : ((m : Int) == 0) = false := by rw [beq_eq_false_iff_ne]; omega
    rw [e, hfb]
    rw [hm] at KF HKR l1 hl ⊢
    rw [hfb] at KF
    clear hb hne e KR hm hfb h hY
    cases fin with
    | true =>
      rw [show (!true && !fb) = false from rfl, if_neg (by simp)]
      clear KF
      go_enter Tryd.func29, Tryd.ntmps29
      go_wp2_with (go_at_call 51; refine callRet (HKR.out _ (Upd.refl _ _)) ?_; rintro v w2 ⟨h1, t, rfl, ⟨b2, o2, c2, rfl, h2⟩, h3⟩; have HT2 := Lib.hid h3; have HU2 := Lib.hid h1; have HV2 := Lib.hid h2; clear h1 h2 h3)
      refine bodyPost_ret (results_tmp3 rfl _ _ _) rfl ?_
      exact ⟨HU2.out, _, _, rfl, HV2.out, fun p hp => by simp only [Option.some.injEq] at hp; subst hp; rcases HT2.out _ rfl with h | h; exact .inl ⟨_, rfl, h⟩; exact .inr h⟩
    | false =>
      cases fb with
      | true =>
        rw [show (!false && !true) = false from rfl, if_neg (by simp)]
        go_enter Tryd.func29, Tryd.ntmps29
        go_wp2_with (first | (go_at_call 50; refine callRet KF.out ?_; rintro v w1 ⟨h1, rfl⟩; have HU1 := Lib.hid h1; clear h1) | (go_at_call 51; refine callRet (HKR.out _ HU1.out) ?_; rintro v w2 ⟨h1, t, rfl, ⟨b2, o2, c2, rfl, h2⟩, h3⟩; have HT2 := Lib.hid h3; have HU2 := Lib.hid (HU1.out.andNew h1); have HV2 := Lib.hid h2; clear h1 h2 h3))
        refine bodyPost_ret (results_tmp3 rfl _ _ _) rfl ?_
        exact ⟨HU2.out, _, _, rfl, HV2.out, fun p hp => by simp only [Option.some.injEq] at hp; subst hp; rcases HT2.out _ rfl with h | h; exact .inl ⟨_, rfl, h⟩; exact .inr h⟩
      | false =>
        rw [show (!false && !false) = true from rfl, if_pos rfl]
        go_enter Tryd.func29, Tryd.ntmps29
        go_wp2_with (go_at_call 50; refine callRet KF.out ?_; rintro v w1 ⟨h1, rfl⟩; have HU1 := Lib.hid h1; clear h1)
        refine bodyPost_ret (results_tmp3 rfl _ _ _) rfl ?_
        exact ⟨HU1.out, none, 0, rfl, BytesA.nil0 _, TokAt.nil _ _⟩
end Go.Proofs.YtgbbogocfmepiaaDoor
