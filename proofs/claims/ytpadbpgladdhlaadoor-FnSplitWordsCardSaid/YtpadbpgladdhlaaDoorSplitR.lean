/- impl.Split at the kind 1; the law FnSplitRunes, walked. -/
import Derived.Test.YtpadbpgladdhlaaDoorScanR
import Derived.Test.YtpadbpgladdhlaaDoorSplitLaw
namespace Go.Proofs.YtpadbpgladdhlaaDoor
open Go.RowKit
theorem implSplit1 (w : World) : Calls Tryd.prog 26 #[.int .i64 1] w (Ret fun v w' => w = w' ∧ v = .func (.func 42) #[] #[]) := by
  go_enter Tryd.func26, Tryd.ntmps26
  (go_wp2_with fail; (repeat' (refine wp_region_lx {} (by kernel_rfl) (by kernel_rfl) ⟨fun _ _ _ h => h.2, fun _ _ h => h⟩ ?_; (repeat' (first | (refine wpLx_calm rfl rfl rfl (fun K hK => ?_); go_step <;> (refine hK _ ?_; clear hK K)) | (refine wpLx_skip2 rfl rfl rfl ?_; go_simp) | (refine wpLx_calm2 rfl rfl rfl rfl rfl (fun K hK => ?_); go_step <;> (refine hK _ ?_; clear hK K)))); all_goals (refine wpLx_nil ?_; try go_wp2_with fail))))
  go_ret
  exact ⟨rfl, rfl⟩
theorem splitRunes_le (bs : List UInt8) (fin : Bool) : ((splitRunes bs fin).2.getD []).length ≤ 4 := by
  unfold splitRunes
  split
  · exact Nat.zero_le _
  · rename_i hb
    have hp := dec_pos (List.length_pos_iff.2 hb)
    split
    · show (bs.take 1).length ≤ 4; rw [List.length_take]; omega
    · split
      · show (bs.take _).length ≤ 4; rw [List.length_take]; omega
      · split
        · exact Nat.zero_le _
        · show (3 : Nat) ≤ 4; omega
set_option maxRecDepth 100000 in
set_option maxHeartbeats 1000000 in
theorem implSplit_1 {S : Err → Addr} {B : Nat} {w : World} {a : Option Addr} {c : Nat} {bs : List UInt8} (E : Env S B w) (hT : Tabs w) (h : BytesA w a c bs) (fin : Bool) (hl : bs.length ≤ 65536) (hne : bs ≠ [] ∨ fin = true) :
    Calls Tryd.prog 19 #[.int .i64 1, .slice a bs.length c, .bool fin] w (Ret (ISplitPost w (splitRunes bs fin))) := by
  obtain ⟨X, hX⟩ : ∃ X, X = splitRunes bs fin := ⟨_, rfl⟩
  have hXl := splitRunes_le bs fin
  rw [← hX] at hXl ⊢
  have HX := Lib.hid hX
  have HE := Lib.hid E
  have HT := Lib.hid hT
  have K0 := Lib.hid (implSplit1 w)
  have KC := Lib.hid (copied a c bs w h (by omega))
  have HNE := Lib.hid hne
  clear hne
  have HXL := Lib.hid hXl
  have kn := fun (wx : World) (ax : Option Addr) (n c : Nat) => run_neq_slice_nil_any (P := Tryd.prog) wx 22 5 ax n c 0 0 Tryd.underlying22
  obtain ⟨m, hm⟩ : ∃ m, bs.length = m := ⟨_, rfl⟩
  have HM := Lib.hid hm
  rw [hm] at KC ⊢
  rw [hm] at hl
  clear hX E hT h hXl hm
  go_enter Tryd.func19, Tryd.ntmps19
  go_wp2_with (first | (go_at_call 26; refine callRet K0.out ?_; rintro v w' ⟨rfl, rfl⟩) | (go_at_call 29; refine callRet KC.out ?_; intro v w1 hv; obtain ⟨g, cp, rfl, _, _, hby⟩ := hv.bytes; rw [HM.out]; have HU1 := Lib.hid hv.1; have HBY := Lib.hid hby; clear hv hby))
  go_at_call 42
  have K2 := scanRunes (HT.out.new HU1.out) HBY.out fin HNE.out
  rw [HM.out, ← HX.out] at K2
  refine callRet K2 ?_
  rintro v w2 ⟨hu2, t, rfl, ht⟩
  have HU2 : Hid (New w w2) := HU1.out.andNew hu2
  clear K2 hu2
  have KE := Lib.hid (fun (wx : World) (hx : Env S B wx) => codeOf (S := S) (B := B) none wx hx)
  cases hx2 : X.2 with
  | none =>
    rw [hx2] at ht HXL
    obtain rfl : t = .slice none 0 0 := ht
    have KT := Lib.hid (copied none 0 [] w2 ⟨Nat.le_refl _, Nat.zero_le _, fun _ => rfl, fun p hp => by cases hp⟩ (Nat.zero_le _))
    have HX2 := Lib.hid hx2
    clear hx2
    go_wp2_with (first | (go_at_call 29; refine callRet KT.out ?_; intro v w3 hv; obtain ⟨g3, cp3, rfl, _, _, hby3⟩ := hv.bytes; have HU3 := Lib.hid (HU2.out.andNew hv.1); have HBY3 := Lib.hid hby3; clear hv hby3) | (go_at_call 31; refine callRet (KE.out _ (HE.out.new HU3.out)) ?_; rintro v w5 ⟨rfl, rfl⟩))
    refine bodyPost_ret (results_tmp4 rfl _ _ _) rfl ?_
    exact ⟨HU3.out, _, _, by rw [HX2.out]; rfl, by rw [HX2.out]; exact HBY3.out⟩
  | some tk =>
    rw [hx2] at ht HXL
    obtain ⟨b2, o2, c2, rfl, hb2⟩ := ht
    have htl : tk.length ≤ 70368744177664 := Nat.le_trans HXL.out (by omega)
    have KT := Lib.hid (copied _ _ tk w2 hb2 htl)
    have HX2 := Lib.hid hx2
    clear hx2 hb2 htl
    go_wp2_with (first | (go_at_call 29; refine callRet KT.out ?_; intro v w3 hv; obtain ⟨g3, cp3, rfl, _, _, hby3⟩ := hv.bytes; have HU3 := Lib.hid (HU2.out.andNew hv.1); have HBY3 := Lib.hid hby3; clear hv hby3) | (go_at_call 31; refine callRet (KE.out _ (HE.out.new HU3.out)) ?_; rintro v w5 ⟨rfl, rfl⟩))
    refine bodyPost_ret (results_tmp4 rfl _ _ _) rfl ?_
    exact ⟨HU3.out, _, _, by rw [HX2.out]; rfl, by rw [HX2.out]; exact HBY3.out⟩
/-- splits, where the code's way reads goutf8's tables -/
theorem splitsT {S : Err → Addr} {B : Nat} {w : World} {a : Option Addr} {c : Nat} {bs : List UInt8} (E : Env S B w) (hT : Tabs w) (h : BytesA w a c bs) (fin : Bool) (kind : Int) (X : Nat × Option (List UInt8))
    (K1 : ∀ wx, Env S B wx → Tabs wx → BytesA wx a c bs → bs.length ≤ 65536 → bs ≠ [] ∨ fin = true → Calls Tryd.prog 19 #[.int .i64 kind, .slice a bs.length c, .bool fin] wx (Ret (ISplitPost wx X)))
    (K2 : ∀ wx, BytesA wx a c bs → bs ≠ [] ∨ fin = true → Calls Tryd.prog 20 #[.int .i64 kind, .slice a bs.length c, .bool fin] wx (Ret (SSplitPost wx X))) :
    Calls Tryd.prog 9 #[.int .i64 kind, .slice a bs.length c, .bool fin] w (Ret fun v w' => v = .bool true ∧ New w w') :=
  splitsAt h fin kind X (fun hl hne => K1 w E hT h hl hne) K2
set_option maxHeartbeats 1000000 in
theorem walkRunes {S : Err → Addr} {B : Nat} {w : World} {a : Option Addr} {c : Nat} {bs : List UInt8} (E : Env S B w) (hT : Tabs w) (h : BytesA w a c bs) (fin : Bool) :
    Calls Tryd.prog 5 #[.slice a bs.length c, .bool fin] w (Ret fun v w' => v = .bool true ∧ New w w') := by
  have l1 := h.1
  have l2 := h.2.1
  unfold maxLen at l2
  by_cases hbig : 2147483647 < bs.length
  · clear h E hT
    go_enter Tryd.func5, Tryd.ntmps5
    go_wp2
    go_ret
    exact ⟨rfl, Upd.refl _ _⟩
  · have K := Lib.hid (splitsT E hT h fin 1 (splitRunes bs fin) (fun wx hE hTx hb hl hne => implSplit_1 hE hTx hb fin hl hne) (fun wx hb hne => specSplit_1 hb fin hne (by omega)))
    have q1 : decide ((2147483647 : Int) < (bs.length : Int)) = false := decide_eq_false (by omega)
    clear h E hT
    go_enter Tryd.func5, Tryd.ntmps5
    go_wp2_with (go_at_call 9; refine callRet K.out ?_; rintro v w1 ⟨rfl, hu⟩; have HU := Lib.hid hu; clear hu)
    go_ret
    exact ⟨rfl, HU.out⟩
end Go.Proofs.YtpadbpgladdhlaaDoor
