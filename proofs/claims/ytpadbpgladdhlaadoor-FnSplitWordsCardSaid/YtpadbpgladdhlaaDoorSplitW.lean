/- impl.Split at the kind 2; the law FnSplitWords, walked. -/
import Derived.Test.YtpadbpgladdhlaaDoorSpecW
import Derived.Test.YtpadbpgladdhlaaDoorSplitR
namespace Go.Proofs.YtpadbpgladdhlaaDoor
open Go.RowKit
theorem implSplit2 (w : World) : Calls Tryd.prog 26 #[.int .i64 2] w (Ret fun v w' => w = w' ∧ v = .func (.func 43) #[] #[]) := by
  go_enter Tryd.func26, Tryd.ntmps26
  (go_wp2_with fail; (repeat' (refine wp_region_lx {} (by kernel_rfl) (by kernel_rfl) ⟨fun _ _ _ h => h.2, fun _ _ h => h⟩ ?_; (repeat' (first | (refine wpLx_calm rfl rfl rfl (fun K hK => ?_); go_step <;> (refine hK _ ?_; clear hK K)) | (refine wpLx_skip2 rfl rfl rfl ?_; go_simp) | (refine wpLx_calm2 rfl rfl rfl rfl rfl (fun K hK => ?_); go_step <;> (refine hK _ ?_; clear hK K)))); all_goals (refine wpLx_nil ?_; try go_wp2_with fail))))
  go_ret
  exact ⟨rfl, rfl⟩
theorem splitWords_le (bs : List UInt8) (fin : Bool) : ((splitWords bs fin).2.getD []).length ≤ bs.length := by
  unfold splitWords
  split
  · show ((bs.drop _).take _).length ≤ _; rw [List.length_take, List.length_drop]; omega
  · split
    · show (bs.drop _).length ≤ _; rw [List.length_drop]; omega
    · exact Nat.zero_le _
set_option maxRecDepth 100000 in
set_option maxHeartbeats 1000000 in
theorem implSplit_2 {S : Err → Addr} {B : Nat} {w : World} {a : Option Addr} {c : Nat} {bs : List UInt8} (E : Env S B w) (hT : Tabs w) (h : BytesA w a c bs) (fin : Bool) (hl : bs.length ≤ 65536) :
    Calls Tryd.prog 19 #[.int .i64 2, .slice a bs.length c, .bool fin] w (Ret (ISplitPost w (splitWords bs fin))) := by
  obtain ⟨X, hX⟩ : ∃ X, X = splitWords bs fin := ⟨_, rfl⟩
  have hXl := splitWords_le bs fin
  rw [← hX] at hXl ⊢
  have HX := Lib.hid hX
  have HE := Lib.hid E
  have HT := Lib.hid hT
  have K0 := Lib.hid (implSplit2 w)
  have KC := Lib.hid (copied a c bs w h (by omega))
  have HXL := Lib.hid hXl
  have kn := fun (wx : World) (ax : Option Addr) (n c : Nat) => run_neq_slice_nil_any (P := Tryd.prog) wx 22 5 ax n c 0 0 Tryd.underlying22
  obtain ⟨m, hm⟩ : ∃ m, bs.length = m := ⟨_, rfl⟩
  have HM := Lib.hid hm
  rw [hm] at KC ⊢
  rw [hm] at hl
  clear hX E hT h hXl hm
  go_enter Tryd.func19, Tryd.ntmps19
  go_wp2_with (first | (go_at_call 26; refine callRet K0.out ?_; rintro v w' ⟨rfl, rfl⟩) | (go_at_call 29; refine callRet KC.out ?_; intro v w1 hv; obtain ⟨g, cp, rfl, _, _, hby⟩ := hv.bytes; rw [HM.out]; have HU1 := Lib.hid hv.1; have HBY := Lib.hid hby; clear hv hby))
  go_at_call 43
  have K2 := scanWords (HT.out.new HU1.out) HBY.out fin
  rw [HM.out, ← HX.out] at K2
  refine callRet K2 ?_
  rintro v w2 ⟨hu2, t, rfl, ht⟩
  have HU2 : Hid (New w w2) := HU1.out.andNew hu2
  clear K2 hu2
  have KE := Lib.hid (fun (wx : World) (hx : Env S B wx) => codeOf (S := S) (B := B) none wx hx)
  cases hx2 : X.2 with
  | none =>
    rw [hx2] at ht HXL
    obtain rfl : t = .slice none 0 0 := ht
    have KT := Lib.hid (copied none 0 [] w2 ⟨Nat.le_refl _, Nat.zero_le _, fun _ => rfl, fun p hp => by cases hp⟩ (Nat.zero_le _))
    have HX2 := Lib.hid hx2
    clear hx2
    go_wp2_with (first | (go_at_call 29; refine callRet KT.out ?_; intro v w3 hv; obtain ⟨g3, cp3, rfl, _, _, hby3⟩ := hv.bytes; have HU3 := Lib.hid (HU2.out.andNew hv.1); have HBY3 := Lib.hid hby3; clear hv hby3) | (go_at_call 31; refine callRet (KE.out _ (HE.out.new HU3.out)) ?_; rintro v w5 ⟨rfl, rfl⟩))
    refine bodyPost_ret (results_tmp4 rfl _ _ _) rfl ?_
    exact ⟨HU3.out, _, _, by rw [HX2.out]; rfl, by rw [HX2.out]; exact HBY3.out⟩
  | some tk =>
    rw [hx2] at ht HXL
    obtain ⟨b2, o2, c2, rfl, hb2⟩ := ht
    have htl : tk.length ≤ 70368744177664 := Nat.le_trans HXL.out (by rw [HM.out]; omega)
    have KT := Lib.hid (copied _ _ tk w2 hb2 htl)
    have HX2 := Lib.hid hx2
    clear hx2 hb2 htl
    go_wp2_with (first | (go_at_call 29; refine callRet KT.out ?_; intro v w3 hv; obtain ⟨g3, cp3, rfl, _, _, hby3⟩ := hv.bytes; have HU3 := Lib.hid (HU2.out.andNew hv.1); have HBY3 := Lib.hid hby3; clear hv hby3) | (go_at_call 31; refine callRet (KE.out _ (HE.out.new HU3.out)) ?_; rintro v w5 ⟨rfl, rfl⟩))
    refine bodyPost_ret (results_tmp4 rfl _ _ _) rfl ?_
    exact ⟨HU3.out, _, _, by rw [HX2.out]; rfl, by rw [HX2.out]; exact HBY3.out⟩
set_option maxHeartbeats 1000000 in
theorem walkWords {S : Err → Addr} {B : Nat} {w : World} {a : Option Addr} {c : Nat} {bs : List UInt8} (E : Env S B w) (hT : Tabs w) (h : BytesA w a c bs) (fin : Bool) :
    Calls Tryd.prog 6 #[.slice a bs.length c, .bool fin] w (Ret fun v w' => v = .bool true ∧ New w w') := by
  have l1 := h.1
  have l2 := h.2.1
  unfold maxLen at l2
  by_cases hbig : 2147483647 < bs.length
  · clear h E hT
    go_enter Tryd.func6, Tryd.ntmps6
    go_wp2
    go_ret
    exact ⟨rfl, Upd.refl _ _⟩
  · have K := Lib.hid (splitsT E hT h fin 2 (splitWords bs fin) (fun wx hE hTx hb hl hne => implSplit_2 hE hTx hb fin hl) (fun wx hb hne => specSplit_2 hb fin))
    have q1 : decide ((2147483647 : Int) < (bs.length : Int)) = false := decide_eq_false (by omega)
    clear h E hT
    go_enter Tryd.func6, Tryd.ntmps6
    go_wp2_with (go_at_call 9; refine callRet K.out ?_; rintro v w1 ⟨rfl, hu⟩; have HU := Lib.hid hu; clear hu)
    go_ret
    exact ⟨rfl, HU.out⟩
end Go.Proofs.YtpadbpgladdhlaaDoor
