/- isSpace, spec.Space; ScanWords; spec.word; spec.Split at the kind 2. -/
import Derived.Test.YtgbbogocfmepiaaDoorScanR
import Derived.Deep.DeepCutAuto
import Derived.Deep.CutBlock
namespace Go.Proofs.YtgbbogocfmepiaaDoor
open Go.RowKit
def isSp (r : Int) : Bool := decide ((9 ≤ r ∧ r ≤ 13) ∨ r = 32 ∨ r = 133 ∨ r = 160 ∨ r = 5760 ∨ (8192 ≤ r ∧ r ≤ 8202) ∨ r = 8232 ∨ r = 8233 ∨ r = 8239 ∨ r = 8287 ∨ r = 12288)
def SpPost (r : Int) (w : World) (v : Value) (w' : World) : Prop := w = w' ∧ v = .bool (isSp r)
theorem sp_mk {r : Int} {w : World} {b : Bool} (h : isSp r = b) : SpPost r w (.bool b) w := ⟨rfl, by rw [h]⟩
theorem isSpace (r : Int) (w : World) : Calls Tryd.prog 77 #[.int .i32 r] w (Ret (SpPost r w)) := by
  go_enter Tryd.func77, Tryd.ntmps77
  go_wp2
  all_goals go_ret
  all_goals (refine sp_mk ?_; unfold isSp)
  all_goals (try simp only [beq_iff_eq, beq_eq_false_iff_ne, ne_eq] at *)
  all_goals first | (exact decide_eq_true (by omega)) | (exact decide_eq_false (by omega))
theorem specSpace (r : Int) (w : World) : Calls Tryd.prog 71 #[.int .i32 r] w (Ret (SpPost r w)) := by
  go_enter Tryd.func71, Tryd.ntmps71
  go_wp2
  all_goals go_ret
  all_goals (refine sp_mk ?_; unfold isSp)
  all_goals (try simp only [beq_iff_eq, beq_eq_false_iff_ne, ne_eq] at *)
  all_goals first | (exact decide_eq_true (by omega)) | (exact decide_eq_false (by omega))
/-- how many bytes the spaces ahead have -/
def lead : Nat → List UInt8 → Nat
  | 0, _ => 0
  | f + 1, bs => if bs = [] then 0 else if isSp ((dec bs).1 : Int) then (dec bs).2 + lead f (bs.drop (dec bs).2) else 0
/-- how many bytes a word has, and the space behind it -/
def wordE : Nat → List UInt8 → Option (Nat × Nat)
  | 0, _ => none
  | f + 1, bs => if bs = [] then none else if isSp ((dec bs).1 : Int) then some (0, (dec bs).2) else (wordE f (bs.drop (dec bs).2)).map fun x => ((dec bs).2 + x.1, x.2)
theorem dec_pos' {bs : List UInt8} (h : bs ≠ []) : 1 ≤ (dec bs).2 ∧ (dec bs).2 ≤ bs.length := by have := dec_pos (List.length_pos_iff.2 h); omega
theorem lead_le : ∀ (f : Nat) (bs : List UInt8), lead f bs ≤ bs.length
  | 0, _ => Nat.zero_le _
  | f + 1, bs => by
    unfold lead
    split
    · exact Nat.zero_le _
    · rename_i hb
      have hp := dec_pos' hb
      split
      · have := lead_le f (bs.drop (dec bs).2)
        rw [List.length_drop] at this
        omega
      · exact Nat.zero_le _
theorem wordE_le : ∀ (f : Nat) (bs : List UInt8) (x : Nat × Nat), wordE f bs = some x → x.1 + x.2 ≤ bs.length ∧ 1 ≤ x.2
  | 0, _, _, h => by cases h
  | f + 1, bs, x, h => by
    unfold wordE at h
    split at h
    · cases h
    · rename_i hb
      have hp := dec_pos' hb
      split at h
      · cases h; omega
      · obtain ⟨y, hy, rfl⟩ := Option.map_eq_some_iff.1 h
        have := wordE_le f _ y hy
        rw [List.length_drop] at this
        exact ⟨by show (dec bs).2 + y.1 + y.2 ≤ _; omega, this.2⟩
def splitWords (bs : List UInt8) (fin : Bool) : Nat × Option (List UInt8) :=
  match wordE bs.length (bs.drop (lead bs.length bs)) with
  | some (e, n) => (lead bs.length bs + e + n, some ((bs.drop (lead bs.length bs)).take e))
  | none => if fin = true ∧ lead bs.length bs < bs.length then (bs.length, some (bs.drop (lead bs.length bs))) else (lead bs.length bs, none)
/-- a suffix of bytes as Go's slice expression gives it -/
theorem BytesA.suf {w : World} {g o c : Nat} {bs : List UInt8} (h : BytesA w (some ⟨g, o, none⟩) c bs) {s : Nat} (hs : s ≤ bs.length) {o' c' : Nat} (hor : (c = s ∧ o' = o ∧ c' = 0) ∨ (c ≠ s ∧ o' = o + s ∧ c' = c - s)) : BytesA w (some ⟨g, o', none⟩) c' (bs.drop s) := by
  have := h.sub (lo := s) (hi := bs.length) hs (Nat.le_refl _) hor
  rwa [List.take_length] at this
set_option maxRecDepth 100000 in
set_option maxHeartbeats 4000000 in
theorem scanWords {w : World} (hT : Tabs w) {g o c : Nat} {bs : List UInt8} (h : BytesA w (some ⟨g, o, none⟩) c bs) (fin : Bool) :
    Calls Tryd.prog 57 #[.slice (some ⟨g, o, none⟩) bs.length c, .bool fin] w (Ret (SplitPost w (splitWords bs fin))) := by
  have l1 := h.1
  have l2 : c ≤ 9223372036854775807 := h.2.1
  have H := Lib.hid h
  have HT := Lib.hid hT
  obtain ⟨m, hm⟩ : ∃ m, bs.length = m := ⟨_, rfl⟩
  have HM := Lib.hid hm
  obtain ⟨ld, hld⟩ : ∃ ld, lead bs.length bs = ld := ⟨_, rfl⟩
  have hldm : ld ≤ m := by rw [← hld, ← hm]; exact lead_le _ _
  have HLD := Lib.hid hld
  obtain ⟨X, hX⟩ : ∃ X, splitWords bs fin = X := ⟨_, rfl⟩
  have HX : Hid ((match wordE m (bs.drop ld) with
    | some (e, n) => (ld + e + n, some ((bs.drop ld).take e))
    | none => if fin = true ∧ ld < m then (m, some (bs.drop ld)) else (ld, none)) = X) := by
    rw [← hX]; unfold splitWords; rw [hm] at hld; rw [hm, hld]; exact rfl
  rw [hX]
  rw [hm] at l1 ⊢
  rw [hm] at HLD
  have KD : Hid (∀ (s : Nat), s < m → ∀ o' c', ((c = s ∧ o' = o ∧ c' = 0) ∨ (c ≠ s ∧ o' = o + s ∧ c' = c - s)) → ∀ wx, New w wx →
      Calls Tryd.prog 74 #[.slice (some ⟨g, o', none⟩) (m - s) c'] wx (Ret fun v w' => New wx w' ∧ v = .tuple #[.int .i32 ((dec (bs.drop s)).1 : Int), .int .i64 ((dec (bs.drop s)).2 : Int)])) := fun s hs o' c' hor wx hx => by
    have hl : (bs.drop s).length = m - s := by rw [List.length_drop, HM.out]
    rw [← hl]
    exact decodeRune (HT.out.new hx) ((H.out.suf (by rw [HM.out]; omega) hor).new hx)
  clear h hT hm hld hX
  go_enter Tryd.func57, Tryd.ntmps57
  go_upto_block 0 with fail
  go_cut [7] (fun v wc => v = .int .i64 (ld : Int) ∧ New w wc)
  case first =>
    go_wp2_with fail
    go_loopw [7] (fun v wr => ∃ s f : Nat, v = .int .i64 (s : Int) ∧ s ≤ m ∧ New w wr ∧ m - s ≤ f ∧ ld = s + lead f (bs.drop s)) (fun v _ => m - (intOf v).toNat)
    case atStart => exact ⟨0, m, rfl, Nat.zero_le _, Upd.refl _ _, by omega, by rw [List.drop_zero, HLD.out]; omega⟩
    case round =>
      obtain ⟨s, f, rfl, hs, hnw, hf, hle⟩ := hrel
      have HNW := Lib.hid hnw
      have HLE := Lib.hid hle
      clear hnw hle
      by_cases hlt : s < m
      · obtain ⟨f', rfl⟩ : ∃ f', f = f' + 1 := ⟨f - 1, by omega⟩
        have hne : bs.drop s ≠ [] := fun hh => by have := congrArg List.length hh; rw [List.length_drop, HM.out] at this; simp at this; omega
        have hp := dec_pos' hne
        rw [List.length_drop, HM.out] at hp
        have hp4 := (dec_pos (List.length_pos_iff.2 hne)).2.2.1
        have hcs : ¬ c = s := by omega
        have K1 := KD.out s hlt (o + s) (c - s) (.inr ⟨hcs, rfl, rfl⟩)
        have HL2 : Hid (lead (f' + 1) (bs.drop s) = if isSp ((dec (bs.drop s)).1 : Int) then (dec (bs.drop s)).2 + lead f' ((bs.drop s).drop (dec (bs.drop s)).2) else 0) := by
          rw [Hid, lead, if_neg hne]
        obtain ⟨K, hK⟩ : ∃ K, (dec (bs.drop s)).2 = K := ⟨_, rfl⟩
        obtain ⟨R, hR⟩ : ∃ R, (dec (bs.drop s)).1 = R := ⟨_, rfl⟩
        rw [hK] at hp hp4
        rw [hK, hR] at K1 HL2
        have HK1 := Lib.hid K1
        clear hne K1 hK hR
        cases hsp : isSp (R : Int) with
        | true =>
          have HSP := Lib.hid hsp
          clear hsp
          go_wp2_with (first | (go_at_call 74; refine callRet (HK1.out _ HNW.out) ?_; rintro v w1 ⟨h1, rfl⟩; have HU1 : Hid (New w w1) := HNW.out.andNew h1; clear h1) | (go_at_call 77; refine callRet (isSpace _ _) ?_; rintro v w2 ⟨rfl, rfl⟩; rw [HSP.out]))
          go_roundw
          case rel => exact ⟨s + K, f', by go_num, by omega, HU1.out, by omega, by rw [HLE.out, HL2.out, HSP.out, List.drop_drop]; simp only [if_true]; omega⟩
          case measure => simp [intOf]; omega
        | false =>
          have HSP := Lib.hid hsp
          clear hsp
          go_wp2_with (first | (go_at_call 74; refine callRet (HK1.out _ HNW.out) ?_; rintro v w1 ⟨h1, rfl⟩; have HU1 : Hid (New w w1) := HNW.out.andNew h1; clear h1) | (go_at_call 77; refine callRet (isSpace _ _) ?_; rintro v w2 ⟨rfl, rfl⟩; rw [HSP.out]))
          have e : s = ld := by rw [HLE.out, HL2.out, HSP.out]; simp
          go_meet
          case rel => exact ⟨by rw [e], HU1.out⟩
      · have e : s = ld := by
          have h0 : bs.drop s = [] := List.drop_eq_nil_of_le (by rw [HM.out]; omega)
          rw [HLE.out, h0]
          cases f <;> simp [lead]
        go_wp2
        go_meet
        case rel => exact ⟨by rw [e], HNW.out⟩
  case rest =>
    obtain ⟨rfl, hnw0⟩ := hcut
    have HW0 := Lib.hid hnw0
    clear hnw0
    go_wp2_with fail
    go_loopw [11] (fun v wr => ∃ i f : Nat, v = .int .i64 (i : Int) ∧ ld ≤ i ∧ i ≤ m ∧ New w wr ∧ m - i ≤ f ∧ wordE m (bs.drop ld) = (wordE f (bs.drop i)).map fun x => (i - ld + x.1, x.2)) (fun v _ => m - (intOf v).toNat)
    case atStart => exact ⟨ld, m, rfl, Nat.le_refl _, hldm, HW0.out, by omega, by simp⟩
    case round =>
      obtain ⟨s, f, rfl, hs0, hs, hnw, hf, hle⟩ := hrel
      have HNW := Lib.hid hnw
      have HLE := Lib.hid hle
      clear hnw hle
      by_cases hlt : s < m
      · obtain ⟨f', rfl⟩ : ∃ f', f = f' + 1 := ⟨f - 1, by omega⟩
        have hne : bs.drop s ≠ [] := fun hh => by have := congrArg List.length hh; rw [List.length_drop, HM.out] at this; simp at this; omega
        have hp := dec_pos' hne
        rw [List.length_drop, HM.out] at hp
        have hp4 := (dec_pos (List.length_pos_iff.2 hne)).2.2.1
        have hcs : ¬ c = s := by omega
        have hcl : ¬ c = ld := by omega
        have K1 := KD.out s hlt (o + s) (c - s) (.inr ⟨hcs, rfl, rfl⟩)
        have HL2 : Hid (wordE (f' + 1) (bs.drop s) = if isSp ((dec (bs.drop s)).1 : Int) then some (0, (dec (bs.drop s)).2) else (wordE f' ((bs.drop s).drop (dec (bs.drop s)).2)).map fun x => ((dec (bs.drop s)).2 + x.1, x.2)) := by
          rw [Hid, wordE, if_neg hne]
        obtain ⟨K, hK⟩ : ∃ K, (dec (bs.drop s)).2 = K := ⟨_, rfl⟩
        obtain ⟨R, hR⟩ : ∃ R, (dec (bs.drop s)).1 = R := ⟨_, rfl⟩
        rw [hK] at hp hp4
        rw [hK, hR] at K1 HL2
        have HK1 := Lib.hid K1
        clear hne K1 hK hR
        cases hsp : isSp (R : Int) with
        | true =>
          have HSP := Lib.hid hsp
          clear hsp
          have hX2 : X = (s + K, some ((bs.drop ld).take (s - ld))) := by
            have hx := HX.out
            rw [HLE.out, HL2.out, HSP.out, if_pos rfl] at hx
            rw [← hx]
            show (ld + (s - ld + 0) + K, some ((bs.drop ld).take (s - ld + 0))) = _
            rw [show ld + (s - ld + 0) + K = s + K by omega, Nat.add_zero]
          have HX2 := Lib.hid hX2
          have HTK : Hid (BytesA w (some ⟨g, o + ld, none⟩) (c - ld) ((bs.drop ld).take (s - ld))) := by
            have := H.out.sub1 (lo := ld) (hi := s) hs0 (by rw [HM.out]; omega)
            rw [List.drop_take] at this
            exact this
          have HTL : Hid (((bs.drop ld).take (s - ld)).length = s - ld) := by rw [Hid, List.length_take, List.length_drop, HM.out]; omega
          clear hX2
          go_wp2_with (first | (go_at_call 74; refine callRet (HK1.out _ HNW.out) ?_; rintro v w1 ⟨h1, rfl⟩; have HU1 : Hid (New w w1) := HNW.out.andNew h1; clear h1) | (go_at_call 77; refine callRet (isSpace _ _) ?_; rintro v w2 ⟨rfl, rfl⟩; rw [HSP.out]))
          (go_wp2_with fail; (repeat' (refine wp_region_lx {} (by kernel_rfl) (by kernel_rfl) ⟨fun _ _ _ h => h.2, fun _ _ h => h⟩ ?_; (repeat' (first | (refine wpLx_calm rfl rfl rfl (fun K hK => ?_); go_step <;> (refine hK _ ?_; clear hK K)) | (refine wpLx_skip2 rfl rfl rfl ?_; go_simp) | (refine wpLx_calm2 rfl rfl rfl rfl rfl (fun K hK => ?_); go_step <;> (refine hK _ ?_; clear hK K)) | (refine wpLx_skip rfl ?_; go_simp))); all_goals (refine wpLx_nil ?_; try go_wp2_with fail))))
          refine bodyPost_ret (results_tmp3 rfl _ _ _) rfl ?_
          refine ⟨HU1.out.drew, .slice (some ⟨g, o + ld, none⟩) (s - ld) (c - ld), ?_, ?_⟩
          · rw [HX2.out]; rfl
          · rw [HX2.out]
            exact ⟨g, o + ld, c - ld, by rw [HTL.out], HTK.out.new HU1.out.drew⟩
        | false =>
          have HSP := Lib.hid hsp
          clear hsp
          go_wp2_with (first | (go_at_call 74; refine callRet (HK1.out _ HNW.out) ?_; rintro v w1 ⟨h1, rfl⟩; have HU1 : Hid (New w w1) := HNW.out.andNew h1; clear h1) | (go_at_call 77; refine callRet (isSpace _ _) ?_; rintro v w2 ⟨rfl, rfl⟩; rw [HSP.out]))
          go_roundw
          case rel =>
            refine ⟨s + K, f', by go_num, by omega, by omega, HU1.out, by omega, ?_⟩
            rw [HLE.out, HL2.out, HSP.out, if_neg (by simp), List.drop_drop, Option.map_map]
            congr 1
            funext x
            show (s - ld + (K + x.1), x.2) = (s + K - ld + x.1, x.2)
            rw [show s - ld + (K + x.1) = s + K - ld + x.1 by omega]
          case measure => simp [intOf]; omega
      · have hw : wordE m (bs.drop ld) = none := by
          have h0 : bs.drop s = [] := List.drop_eq_nil_of_le (by rw [HM.out]; omega)
          rw [HLE.out, h0]
          cases f <;> simp [wordE]
        have hx := HX.out
        rw [hw] at hx
        replace hx : (if fin = true ∧ ld < m then (m, some (bs.drop ld)) else (ld, none)) = X := hx
        by_cases hfin : fin = true ∧ ld < m
        · rw [if_pos hfin] at hx
          obtain ⟨rfl, hlm⟩ := hfin
          have hcl : ¬ c = ld := by omega
          have d1 : decide ((ld : Int) < (m : Int)) = true := decide_eq_true (by omega)
          have HX2 := Lib.hid hx
          have HTK := Lib.hid (H.out.suf (s := ld) (by rw [HM.out]; omega) (.inr ⟨hcl, rfl, rfl⟩))
          have HTL : Hid ((bs.drop ld).length = m - ld) := by rw [Hid, List.length_drop, HM.out]
          clear hx hw
          go_wp2_with fail
          (go_wp2_with fail; (repeat' (refine wp_region_lx {} (by kernel_rfl) (by kernel_rfl) ⟨fun _ _ _ h => h.2, fun _ _ h => h⟩ ?_; (repeat' (first | (refine wpLx_calm rfl rfl rfl (fun K hK => ?_); go_step <;> (refine hK _ ?_; clear hK K)) | (refine wpLx_skip2 rfl rfl rfl ?_; go_simp) | (refine wpLx_calm2 rfl rfl rfl rfl rfl (fun K hK => ?_); go_step <;> (refine hK _ ?_; clear hK K)) | (refine wpLx_skip rfl ?_; go_simp))); all_goals (refine wpLx_nil ?_; try go_wp2_with fail))))
          refine bodyPost_ret (results_tmp3 rfl _ _ _) rfl ?_
          refine ⟨HNW.out.drew, .slice (some ⟨g, o + ld, none⟩) (m - ld) (c - ld), ?_, ?_⟩
          · rw [← HX2.out]; rfl
          · rw [← HX2.out]
            exact ⟨g, o + ld, c - ld, by rw [HTL.out], HTK.out.new HNW.out.drew⟩
        · rw [if_neg hfin] at hx
          have HX2 := Lib.hid hx
          clear hx hw
          cases fin with
          | true =>
            have hn : ¬ ld < m := fun h => hfin ⟨rfl, h⟩
            have d1 : decide ((ld : Int) < (m : Int)) = false := decide_eq_false (by omega)
            clear hfin
            go_wp2_with fail
            refine bodyPost_ret (results_tmp3 rfl _ _ _) rfl ?_
            exact ⟨HNW.out, .slice none 0 0, by rw [← HX2.out]; rfl, by rw [← HX2.out]; rfl⟩
          | false =>
            clear hfin
            go_wp2_with fail
            refine bodyPost_ret (results_tmp3 rfl _ _ _) rfl ?_
            exact ⟨HNW.out, .slice none 0 0, by rw [← HX2.out]; rfl, by rw [← HX2.out]; rfl⟩
end Go.Proofs.YtgbbogocfmepiaaDoor
