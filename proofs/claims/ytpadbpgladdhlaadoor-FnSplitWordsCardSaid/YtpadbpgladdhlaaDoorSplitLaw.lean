/- The laws FnSplitBytes and FnSplitLines, walked. -/
import Derived.Test.YtpadbpgladdhlaaDoorSplit
import Derived.Test.YtpadbpgladdhlaaDoorIndex
namespace Go.Proofs.YtpadbpgladdhlaaDoor
open Go.RowKit
set_option maxRecDepth 100000 in
set_option maxHeartbeats 1000000 in
theorem specSplit_3 {w : World} {a : Option Addr} {c : Nat} {bs : List UInt8} (h : BytesA w a c bs) (fin : Bool) (hne : bs ≠ [] ∨ fin = true) :
    Calls Tryd.prog 20 #[.int .i64 3, .slice a bs.length c, .bool fin] w (Ret (SSplitPost w (splitLines bs fin))) := by
  have l1 := h.1
  have l2 := h.2.1
  unfold maxLen at l2
  by_cases hb : bs = []
  · subst hb
    obtain rfl : fin = true := hne.resolve_left (fun h => h rfl)
    have e : splitLines [] true = (0, none) := if_pos ⟨rfl, rfl⟩
    rw [e]
    clear h hne e
    go_enter Tryd.func20, Tryd.ntmps20
    (go_wp2_with fail; (repeat' (refine wp_region_lx {} (by kernel_rfl) (by kernel_rfl) ⟨fun _ _ _ h => h.2, fun _ _ h => h⟩ ?_; (repeat' (first | (refine wpLx_calm rfl rfl rfl (fun K hK => ?_); go_step <;> (refine hK _ ?_; clear hK K)) | (refine wpLx_skip2 rfl rfl rfl ?_; go_simp) | (refine wpLx_calm2 rfl rfl rfl rfl rfl (fun K hK => ?_); go_step <;> (refine hK _ ?_; clear hK K)))); all_goals (refine wpLx_nil ?_; try go_wp2_with fail))))
    refine bodyPost_ret (results_tmp3 rfl _ _ _) rfl ?_
    exact ⟨Upd.refl _ _, none, 0, rfl, BytesA.nil0 _⟩
  · have hl : 0 < bs.length := List.length_pos_iff.2 hb
    obtain ⟨b, o, rfl⟩ : ∃ b o, a = some ⟨b, o, none⟩ := by
      cases a with
      | none => have := h.2.2.1 rfl; omega
      | some p => obtain ⟨b, o, s⟩ := p; obtain rfl := (h.2.2.2 _ rfl).1 hb; exact ⟨b, o, rfl⟩
    have e0 : splitLines bs fin = (match pos 10 bs with
      | some i => (i + 1, some (dcr (bs.take i)))
      | none => if fin then (bs.length, some (dcr bs)) else (0, none)) := if_neg (fun h => hb h.2)
    have q1 : ((bs.length : Int) == 0) = false := by rw [beq_eq_false_iff_ne]; omega
    have KI := specIndex h 10
    have H := Lib.hid h
    cases hp : pos 10 bs with
    | some i =>
      have hi := pos_lt hp
      have e : splitLines bs fin = (i + 1, some (dcr (bs.take i))) := by rw [e0, hp]
      rw [e]
      rw [hp] at KI
      simp only [posI] at KI
      have HKI := Lib.hid KI
      have hlen : (bs.take i).length = i := by rw [List.length_take]; omega
      have KD := Lib.hid (specDropCR _ _ _ w (H.out.take i))
      rw [hlen] at KD
      clear hb e0 hp e KI hlen h hne
      go_enter Tryd.func20, Tryd.ntmps20
      go_wp2_with (first | (go_at_call 35; refine callRet HKI.out ?_; rintro v w' ⟨rfl, rfl⟩) | (go_at_call 39; refine callRet KD.out ?_; rintro v w' ⟨rfl, rfl⟩))
      refine bodyPost_ret (results_tmp3 rfl _ _ _) rfl ?_
      exact ⟨Upd.refl _ _, some ⟨b, o, none⟩, c, (by simp), (H.out.take i).dcr⟩
    | none =>
      rw [hp] at KI
      simp only [posI] at KI
      have HKI := Lib.hid KI
      have KD := Lib.hid (specDropCR _ _ _ w H.out)
      cases fin with
      | true =>
        have e : splitLines bs true = (bs.length, some (dcr bs)) := by rw [e0, hp]; rfl
        rw [e]
        clear hb e0 hp e KI h hne
        go_enter Tryd.func20, Tryd.ntmps20
        go_wp2_with (first | (go_at_call 35; refine callRet HKI.out ?_; rintro v w' ⟨rfl, rfl⟩) | (go_at_call 39; refine callRet KD.out ?_; rintro v w' ⟨rfl, rfl⟩))
        refine bodyPost_ret (results_tmp3 rfl _ _ _) rfl ?_
        exact ⟨Upd.refl _ _, some ⟨b, o, none⟩, c, rfl, H.out.dcr⟩
      | false =>
        have e : splitLines bs false = (0, none) := by rw [e0, hp]; rfl
        rw [e]
        clear hb e0 hp e KI h hne
        go_enter Tryd.func20, Tryd.ntmps20
        go_wp2_with (first | (go_at_call 35; refine callRet HKI.out ?_; rintro v w' ⟨rfl, rfl⟩) | (go_at_call 39; refine callRet KD.out ?_; rintro v w' ⟨rfl, rfl⟩))
        refine bodyPost_ret (results_tmp3 rfl _ _ _) rfl ?_
        exact ⟨Upd.refl _ _, none, 0, rfl, BytesA.nil0 _⟩
set_option maxRecDepth 100000 in
set_option maxHeartbeats 1000000 in
/-- laws.splits, at a kind whose two ways answer alike -/
theorem splitsAt {w : World} {a : Option Addr} {c : Nat} {bs : List UInt8} (h : BytesA w a c bs) (fin : Bool) (kind : Int) (X : Nat × Option (List UInt8))
    (K1 : bs.length ≤ 65536 → bs ≠ [] ∨ fin = true → Calls Tryd.prog 19 #[.int .i64 kind, .slice a bs.length c, .bool fin] w (Ret (ISplitPost w X)))
    (K2 : ∀ wx, BytesA wx a c bs → bs ≠ [] ∨ fin = true → Calls Tryd.prog 20 #[.int .i64 kind, .slice a bs.length c, .bool fin] wx (Ret (SSplitPost wx X))) :
    Calls Tryd.prog 9 #[.int .i64 kind, .slice a bs.length c, .bool fin] w (Ret fun v w' => v = .bool true ∧ New w w') := by
  have l1 := h.1
  have l2 := h.2.1
  unfold maxLen at l2
  by_cases hbig : 65536 < bs.length
  · have q1 : decide ((65536 : Int) < (bs.length : Int)) = true := decide_eq_true (by omega)
    clear h K1 K2
    go_enter Tryd.func9, Tryd.ntmps9
    (go_wp2_with fail; (repeat' (refine wp_region_lx {} (by kernel_rfl) (by kernel_rfl) ⟨fun _ _ _ h => h.2, fun _ _ h => h⟩ ?_; (repeat' (first | (refine wpLx_calm rfl rfl rfl (fun K hK => ?_); go_step <;> (refine hK _ ?_; clear hK K)) | (refine wpLx_skip2 rfl rfl rfl ?_; go_simp) | (refine wpLx_calm2 rfl rfl rfl rfl rfl (fun K hK => ?_); go_step <;> (refine hK _ ?_; clear hK K)))); all_goals (refine wpLx_nil ?_; try go_wp2_with fail))))
    go_ret
    exact ⟨rfl, Upd.refl _ _⟩
  · have q1 : decide ((65536 : Int) < (bs.length : Int)) = false := decide_eq_false (by omega)
    by_cases h0 : bs = [] ∧ fin = false
    · obtain ⟨rfl, rfl⟩ := h0
      clear h K1 K2 q1 hbig
      go_enter Tryd.func9, Tryd.ntmps9
      (go_wp2_with fail; (repeat' (refine wp_region_lx {} (by kernel_rfl) (by kernel_rfl) ⟨fun _ _ _ h => h.2, fun _ _ h => h⟩ ?_; (repeat' (first | (refine wpLx_calm rfl rfl rfl (fun K hK => ?_); go_step <;> (refine hK _ ?_; clear hK K)) | (refine wpLx_skip2 rfl rfl rfl ?_; go_simp) | (refine wpLx_calm2 rfl rfl rfl rfl rfl (fun K hK => ?_); go_step <;> (refine hK _ ?_; clear hK K)))); all_goals (refine wpLx_nil ?_; try go_wp2_with fail))))
      go_ret
      exact ⟨rfl, Upd.refl _ _⟩
    · have hne : bs ≠ [] ∨ fin = true := by
        by_cases hb : bs = []
        · right; cases fin with
          | true => rfl
          | false => exact (h0 ⟨hb, rfl⟩).elim
        · exact .inl hb
      have KA := Lib.hid (K1 (by omega) hne)
      have KB := Lib.hid (fun wx hx => K2 wx hx hne)
      have H := Lib.hid h
      obtain ⟨m, hm⟩ : ∃ m, bs.length = m := ⟨_, rfl⟩
      obtain ⟨n, hn⟩ : ∃ n, (X.2.getD []).length = n := ⟨_, rfl⟩
      have HN := Lib.hid hn
      have hne2 : 0 < m ∨ fin = true := by
        rcases hne with h | h
        · left; have := List.length_pos_iff.2 h; omega
        · exact .inr h
      rw [hm] at KA KB l1 hbig q1 ⊢
      clear h0 hne K1 K2 h hm hn
      cases fin with
      | true =>
        clear hne2
        by_cases hz : m = 0
        · subst hz
          go_enter Tryd.func9, Tryd.ntmps9
          go_wp2_with (first | (go_at_call 19; refine callRet KA.out ?_; rintro v w1 ⟨hu, a1, c1, rfl, hb1⟩; have HU1 := Lib.hid hu; have HB1 := Lib.hid hb1; clear hu hb1; rw [HN.out]) | (go_at_call 20; refine callRet (KB.out _ (H.out.new HU1.out)) ?_; rintro v w2 ⟨hu, a2, c2, rfl, hb2⟩; have HU2 := Lib.hid (HU1.out.andNew hu); have hs1 := run_strL (P := Tryd.prog) Tryd.underlying22 Tryd.underlying5 Tryd.underlying9 HN.out (HB1.out.new hu); have hs2 := run_strL (P := Tryd.prog) Tryd.underlying22 Tryd.underlying5 Tryd.underlying9 HN.out hb2; clear hu hb2; rw [HN.out]))
          go_ret
          exact ⟨by simp, HU2.out⟩
        · have q2 : ((m : Int) == 0) = false := by rw [beq_eq_false_iff_ne]; omega
          clear hz
          go_enter Tryd.func9, Tryd.ntmps9
          go_wp2_with (first | (go_at_call 19; refine callRet KA.out ?_; rintro v w1 ⟨hu, a1, c1, rfl, hb1⟩; have HU1 := Lib.hid hu; have HB1 := Lib.hid hb1; clear hu hb1; rw [HN.out]) | (go_at_call 20; refine callRet (KB.out _ (H.out.new HU1.out)) ?_; rintro v w2 ⟨hu, a2, c2, rfl, hb2⟩; have HU2 := Lib.hid (HU1.out.andNew hu); have hs1 := run_strL (P := Tryd.prog) Tryd.underlying22 Tryd.underlying5 Tryd.underlying9 HN.out (HB1.out.new hu); have hs2 := run_strL (P := Tryd.prog) Tryd.underlying22 Tryd.underlying5 Tryd.underlying9 HN.out hb2; clear hu hb2; rw [HN.out]))
          go_ret
          exact ⟨by simp, HU2.out⟩
      | false =>
        have hm0 : 0 < m := hne2.resolve_right (fun h => by cases h)
        have q2 : ((m : Int) == 0) = false := by rw [beq_eq_false_iff_ne]; omega
        clear hne2
        go_enter Tryd.func9, Tryd.ntmps9
        go_wp2_with (first | (go_at_call 19; refine callRet KA.out ?_; rintro v w1 ⟨hu, a1, c1, rfl, hb1⟩; have HU1 := Lib.hid hu; have HB1 := Lib.hid hb1; clear hu hb1; rw [HN.out]) | (go_at_call 20; refine callRet (KB.out _ (H.out.new HU1.out)) ?_; rintro v w2 ⟨hu, a2, c2, rfl, hb2⟩; have HU2 := Lib.hid (HU1.out.andNew hu); have hs1 := run_strL (P := Tryd.prog) Tryd.underlying22 Tryd.underlying5 Tryd.underlying9 HN.out (HB1.out.new hu); have hs2 := run_strL (P := Tryd.prog) Tryd.underlying22 Tryd.underlying5 Tryd.underlying9 HN.out hb2; clear hu hb2; rw [HN.out]))
        go_ret
        exact ⟨by simp, HU2.out⟩
theorem splits {S : Err → Addr} {B : Nat} {w : World} {a : Option Addr} {c : Nat} {bs : List UInt8} (E : Env S B w) (h : BytesA w a c bs) (fin : Bool) (kind : Int) (X : Nat × Option (List UInt8))
    (K1 : ∀ wx, Env S B wx → BytesA wx a c bs → bs.length ≤ 65536 → bs ≠ [] ∨ fin = true → Calls Tryd.prog 19 #[.int .i64 kind, .slice a bs.length c, .bool fin] wx (Ret (ISplitPost wx X)))
    (K2 : ∀ wx, BytesA wx a c bs → bs ≠ [] ∨ fin = true → Calls Tryd.prog 20 #[.int .i64 kind, .slice a bs.length c, .bool fin] wx (Ret (SSplitPost wx X))) :
    Calls Tryd.prog 9 #[.int .i64 kind, .slice a bs.length c, .bool fin] w (Ret fun v w' => v = .bool true ∧ New w w') :=
  splitsAt h fin kind X (fun hl hne => K1 w E h hl hne) K2
set_option maxHeartbeats 1000000 in
theorem walkBytes {S : Err → Addr} {B : Nat} {w : World} {a : Option Addr} {c : Nat} {bs : List UInt8} (E : Env S B w) (h : BytesA w a c bs) (fin : Bool) :
    Calls Tryd.prog 3 #[.slice a bs.length c, .bool fin] w (Ret fun v w' => v = .bool true ∧ New w w') := by
  have l1 := h.1
  have l2 := h.2.1
  unfold maxLen at l2
  by_cases hbig : 2147483647 < bs.length
  · clear h E
    go_enter Tryd.func3, Tryd.ntmps3
    go_wp2
    go_ret
    exact ⟨rfl, Upd.refl _ _⟩
  · have K := Lib.hid (splits E h fin 0 (splitBytes bs fin) (fun wx hE hb hl hne => implSplit_0 hE hb fin hl hne) (fun wx hb hne => specSplit_0 hb fin hne))
    have q1 : decide ((2147483647 : Int) < (bs.length : Int)) = false := decide_eq_false (by omega)
    clear h E
    go_enter Tryd.func3, Tryd.ntmps3
    go_wp2_with (go_at_call 9; refine callRet K.out ?_; rintro v w1 ⟨rfl, hu⟩; have HU := Lib.hid hu; clear hu)
    go_ret
    exact ⟨rfl, HU.out⟩
set_option maxHeartbeats 1000000 in
theorem walkLines {S : Err → Addr} {B : Nat} {w : World} {a : Option Addr} {c : Nat} {bs : List UInt8} (E : Env S B w) (h : BytesA w a c bs) (fin : Bool) :
    Calls Tryd.prog 4 #[.slice a bs.length c, .bool fin] w (Ret fun v w' => v = .bool true ∧ New w w') := by
  have l1 := h.1
  have l2 := h.2.1
  unfold maxLen at l2
  by_cases hbig : 2147483647 < bs.length
  · clear h E
    go_enter Tryd.func4, Tryd.ntmps4
    go_wp2
    go_ret
    exact ⟨rfl, Upd.refl _ _⟩
  · have K := Lib.hid (splits E h fin 3 (splitLines bs fin) (fun wx hE hb hl hne => implSplit_3 hE hb fin hl) (fun wx hb hne => specSplit_3 hb fin hne))
    have q1 : decide ((2147483647 : Int) < (bs.length : Int)) = false := decide_eq_false (by omega)
    clear h E
    go_enter Tryd.func4, Tryd.ntmps4
    go_wp2_with (go_at_call 9; refine callRet K.out ?_; rintro v w1 ⟨rfl, hu⟩; have HU := Lib.hid hu; clear hu)
    go_ret
    exact ⟨rfl, HU.out⟩
end Go.Proofs.YtpadbpgladdhlaaDoor
