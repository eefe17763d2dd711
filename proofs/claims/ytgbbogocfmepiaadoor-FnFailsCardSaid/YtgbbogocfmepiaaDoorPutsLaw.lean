/- spec.Begins; laws.zzFits3, laws.putsOk. -/
import Derived.Test.YtgbbogocfmepiaaDoorSpecAll
import Derived.Test.YtgbbogocfmepiaaDoorPutsAny
namespace Go.Proofs.YtgbbogocfmepiaaDoor
open Go.RowKit
set_option maxRecDepth 100000 in
set_option maxHeartbeats 2000000 in
theorem specBegins {w : World} {a b : Option Addr} {c d : Nat} {all out : List UInt8} (hb : BytesA w a c all) (ho : BytesA w b d out) (hp : all.take out.length = out) (hle : out.length ≤ all.length) :
    Calls Tryd.prog 26 #[.slice a all.length c, .slice b out.length d] w (Ret fun v w' => New w w' ∧ v = .bool true) := by
  have h1 := hb.1
  have h2 := hb.2.1
  have h3 := ho.1
  have h4 := ho.2.1
  unfold maxLen at h2 h4
  have HB := Lib.hid (hb.take out.length)
  rw [hp] at HB
  have HO := Lib.hid ho
  obtain ⟨al, hal⟩ : ∃ al, all.length = al := ⟨_, rfl⟩
  obtain ⟨ol, hol⟩ : ∃ ol, out.length = ol := ⟨_, rfl⟩
  rw [hal] at h1 hle ⊢
  rw [hol] at h3 hle ⊢
  have HOL := Lib.hid hol
  have hlc : ol ≤ c := by omega
  clear hb ho hp hal hol
  go_enter Tryd.func26, Tryd.ntmps26
  go_wp2_with fail
  refine wp_region_lx {} (by kernel_rfl) (by kernel_rfl) ⟨fun _ _ _ h => h.2, fun _ _ h => h⟩ ?_
  (repeat' (first | (refine wpLx_calm rfl rfl rfl (fun K hK => ?_); go_step <;> (refine hK _ ?_; clear hK K)) | (refine wpLx_skip2 rfl rfl rfl ?_; go_simp) | (refine wpLx_calm2 rfl rfl rfl rfl rfl (fun K hK => ?_); go_step <;> (refine hK _ ?_; clear hK K))))
  refine wpLx_calm2 rfl rfl rfl rfl rfl (fun K hK => ?_)
  refine wp_strL Tryd.underlying29 Tryd.underlying5 Tryd.underlying9 _ rfl HOL.out rfl (HB.out.new (Upd.refl _ _).drew) ?_
  refine hK _ ?_
  clear hK K
  (repeat' (first | (refine wpLx_calm rfl rfl rfl (fun K hK => ?_); go_step <;> (refine hK _ ?_; clear hK K)) | (refine wpLx_skip2 rfl rfl rfl ?_; go_simp) | (refine wpLx_calm2 rfl rfl rfl rfl rfl (fun K hK => ?_); go_step <;> (refine hK _ ?_; clear hK K))))
  refine wpLx_calm2 rfl rfl rfl rfl rfl (fun K hK => ?_)
  refine wp_strL Tryd.underlying29 Tryd.underlying5 Tryd.underlying9 _ rfl HOL.out rfl (HO.out.new (Upd.refl _ _).drew) ?_
  refine hK _ ?_
  clear hK K
  (repeat' (first | (refine wpLx_calm rfl rfl rfl (fun K hK => ?_); go_step <;> (refine hK _ ?_; clear hK K)) | (refine wpLx_skip2 rfl rfl rfl ?_; go_simp) | (refine wpLx_calm2 rfl rfl rfl rfl rfl (fun K hK => ?_); go_step <;> (refine hK _ ?_; clear hK K))))
  all_goals refine wpLx_nil ?_
  go_wp2_with fail
  go_ret
  exact ⟨(Upd.refl _ _).drew, by simp⟩
def AllF (xs : List PutS) : Prop := xs.all fitsP = true
def fits3 (xs : List PutS) : Bool := decide (xs.length ≤ 2147483647) && xs.all fitsP
set_option maxRecDepth 100000 in
set_option maxHeartbeats 2000000 in
theorem zzFits3 {w : World} {a : Option Addr} {c : Nat} {xs : List PutS} (h : PutsA w a c xs) : Calls Tryd.prog 17 #[.slice a xs.length c] w (Ret fun v w' => New w w' ∧ v = .bool (fits3 xs)) := by
  have h1 := h.1
  have h2 := h.2.1
  unfold maxLen at h2
  unfold fits3
  by_cases hbig : 2147483647 < xs.length
  · rw [decide_eq_false (show ¬ xs.length ≤ 2147483647 by omega), Bool.false_and]
    clear h
    go_enter Tryd.func17, Tryd.ntmps17
    go_wp2_with fail
    go_ret
    exact ⟨Upd.refl _ _, rfl⟩
  rw [decide_eq_true (show xs.length ≤ 2147483647 by omega), Bool.true_and]
  have HS := Lib.hid h
  clear h
  obtain ⟨ok, hok⟩ : ∃ ok, xs.all fitsP = ok := ⟨_, rfl⟩
  rw [hok]
  have HOK := Lib.hid hok
  clear hok
  go_enter Tryd.func17, Tryd.ntmps17
  go_wp2_with fail
  go_loopg [10] (xs.length) (fun g i wr => ∃ k : Nat, i = .int .i64 (k : Int) ∧ k + g = xs.length ∧ New w wr ∧ AllF (xs.take k))
  case atStart => exact ⟨0, rfl, by omega, Upd.refl _ _, rfl⟩
  case round =>
    obtain ⟨k, rfl, hk, hn, hall⟩ := hrel
    have HN := Lib.hid hn
    have HA := Lib.hid hall
    clear hn hall
    by_cases hlt : k < xs.length
    · obtain ⟨b, o, v1, v3, rfl, hbl, e0, e1, e2, e3, hv⟩ := (HS.out.new HN.out).at hlt
      obtain ⟨x, hx⟩ : ∃ x, xs[k] = x := ⟨_, rfl⟩
      rw [hx] at e0 e2 hv
      have HT : Hid (AllF (xs.take k) → fitsP x = true → AllF (xs.take (k + 1))) := Lib.hid (fun q1 q2 => by
        unfold AllF at *
        rw [List.take_succ_eq_append_getElem hlt, List.all_append, q1, hx]
        simp [q2])
      have HBAD : Hid (fitsP x = false → ok = false) := Lib.hid (fun q => by
        rw [← HOK.out, ← Bool.not_eq_true, List.all_eq_true]
        intro hh
        rw [hh x (by rw [← hx]; exact List.getElem_mem _)] at q
        cases q)
      have KP := Lib.hid (fun wx (hn : New wr wx) => zzFits4 (x := x) (v1 := v1) (v3 := v3) (hv.new hn))
      obtain ⟨fb, hfb⟩ : ∃ fb, fitsP x = fb := ⟨_, rfl⟩
      rw [hfb] at KP HT HBAD
      obtain ⟨⟨a1, c1, rfl, _⟩, a3, c3, rfl, _⟩ := hv
      clear hx hfb
      obtain ⟨kx, bs, r, ps⟩ := x
      unfold PutS.v at KP
      simp only at e0 e2 KP
      cases fb with
      | true =>
        go_wp2_with (go_at_call 43; refine callRet (KP.out _ ((Upd.refl _ _).alloc _)) ?_; rintro v w3 ⟨hn3, rfl⟩; have HN3 := Lib.hid (HN.out.andNew (((Upd.refl _ _).alloc _).andNew hn3)); clear hn3)
        go_roundg (gk - 1)
        case measure => omega
        case rel => exact ⟨k + 1, by go_num, by omega, HN3.out, HT.out HA.out trivial⟩
      | false =>
        go_wp2_with (go_at_call 43; refine callRet (KP.out _ ((Upd.refl _ _).alloc _)) ?_; rintro v w3 ⟨hn3, rfl⟩; have HN3 := Lib.hid (HN.out.andNew (((Upd.refl _ _).alloc _).andNew hn3)); clear hn3)
        go_ret
        exact ⟨HN3.out, by rw [HBAD.out trivial]; rfl⟩
    · obtain rfl : k = xs.length := by omega
      rw [List.take_length] at HA
      have hokt : ok = true := by rw [← HOK.out]; exact HA.out
      go_wp2_with fail
      go_ret
      exact ⟨HN.out, by rw [hokt]; rfl⟩
def fnPutsOk : Value := .func (.func 44) #[] #[]
def fnFails1 : Value := .func (.func 20) #[] #[]
set_option maxRecDepth 100000 in
set_option maxHeartbeats 2000000 in
theorem hasPuts {w : World} {a : Option Addr} {c : Nat} {xs : List PutS} (h : PutsA w a c xs) (hl : xs.length ≤ 2147483647) (hf : xs.all fitsP = true) :
    Calls Tryd.prog 19 #[.slice a xs.length c, .func (.func 44) #[] #[]] w (Ret fun v w' => New w w' ∧ v = .bool (xs.any fun x => !goodP x)) := by
  have K := Lib.hid (idxPuts h (fun x => !goodP x) hl (fun x v1 v3 wx hx hv => putsOk1 hv (List.all_eq_true.1 hf x hx)))
  obtain ⟨b, hb⟩ : ∃ b, (xs.any fun x => !goodP x) = b := ⟨_, rfl⟩
  rw [hb] at K ⊢
  clear h hf hb
  go_enter Tryd.func19, Tryd.ntmps19
  go_wp2_with (go_at_call 46; refine callRet K.out ?_; rintro v w2 ⟨hn2, n, rfl, hd⟩; have HN2 := Lib.hid hn2; have HD := Lib.hid hd; clear hn2 hd)
  go_ret
  exact ⟨HN2.out, by rw [← HD.out]; rfl⟩
set_option maxRecDepth 100000 in
set_option maxHeartbeats 2000000 in
theorem fails1 (w : World) (x : PutS) (v1 v3 : Value) : Calls Tryd.prog 20 #[x.v v1 v3] w (Ret fun v w' => New w w' ∧ v = .bool (decide (x.k = 5))) := by
  obtain ⟨k, bs, r, ps⟩ := x
  unfold PutS.v
  go_enter Tryd.func20, Tryd.ntmps20
  go_wp2_with fail
  go_ret
  exact ⟨(Upd.refl _ _).alloc _, by simp; rfl⟩
set_option maxRecDepth 100000 in
set_option maxHeartbeats 2000000 in
theorem hasFrom {w : World} {a : Option Addr} {c : Nat} {xs : List PutS} (h : PutsA w a c xs) (hl : xs.length ≤ 2147483647) :
    Calls Tryd.prog 19 #[.slice a xs.length c, .func (.func 20) #[] #[]] w (Ret fun v w' => New w w' ∧ v = .bool (xs.any fun x => decide (x.k = 5))) := by
  have K := Lib.hid (idxFails h (fun x => decide (x.k = 5)) hl (fun x v1 v3 wx hx hv => fails1 wx x v1 v3))
  obtain ⟨b, hb⟩ : ∃ b, (xs.any fun x => decide (x.k = 5)) = b := ⟨_, rfl⟩
  rw [hb] at K ⊢
  clear h hb
  go_enter Tryd.func19, Tryd.ntmps19
  go_wp2_with (go_at_call 46; refine callRet K.out ?_; rintro v w2 ⟨hn2, n, rfl, hd⟩; have HN2 := Lib.hid hn2; have HD := Lib.hid hd; clear hn2 hd)
  go_ret
  exact ⟨HN2.out, by rw [← HD.out]; rfl⟩
def putsOkB (xs : List PutS) (sz : Int) : Bool := decide (1 ≤ sz) && decide (sz ≤ 5000) && decide (xs.length ≤ 40) && !(xs.any fun x => !goodP x)
set_option maxRecDepth 100000 in
set_option maxHeartbeats 2000000 in
theorem putsOk {w : World} {a : Option Addr} {c : Nat} {xs : List PutS} {sz : Int} (h : PutsA w a c xs) (hf : fits3 xs = true) :
    Calls Tryd.prog 18 #[.slice a xs.length c, .int .i16 sz] w (Ret fun v w' => New w w' ∧ v = .bool (putsOkB xs sz)) := by
  have hf1 := hf
  unfold fits3 at hf1
  simp only [Bool.and_eq_true, decide_eq_true_eq] at hf1
  have K := Lib.hid (hasPuts h hf1.1 hf1.2)
  have hl := hf1.1
  unfold putsOkB
  obtain ⟨b, hb⟩ : ∃ b, (xs.any fun x => !goodP x) = b := ⟨_, rfl⟩
  rw [hb] at K ⊢
  clear h hf hf1 hb
  have hdl : decide ((xs.length : Int) ≤ 40) = decide (xs.length ≤ 40) := by rw [decide_eq_decide]; omega
  have HDL := Lib.hid hdl
  clear hdl
  by_cases q1 : 1 ≤ sz
  rotate_left
  · rw [decide_eq_false q1]
    simp only [Bool.false_and]
    go_enter Tryd.func18, Tryd.ntmps18
    go_wp2_with (go_at_call 19; refine callRet K.out ?_; rintro v w2 ⟨hn2, rfl⟩; have HN2 := Lib.hid hn2; clear hn2)
    go_ret
    exact ⟨Upd.refl _ _, rfl⟩
  by_cases q2 : sz ≤ 5000
  rotate_left
  · rw [decide_eq_false q2]
    simp only [Bool.false_and, Bool.and_false]
    go_enter Tryd.func18, Tryd.ntmps18
    go_wp2_with (go_at_call 19; refine callRet K.out ?_; rintro v w2 ⟨hn2, rfl⟩; have HN2 := Lib.hid hn2; clear hn2)
    go_ret
    exact ⟨Upd.refl _ _, rfl⟩
  by_cases q3 : xs.length ≤ 40
  rotate_left
  · rw [decide_eq_false q3]
    simp only [Bool.false_and, Bool.and_false]
    go_enter Tryd.func18, Tryd.ntmps18
    go_wp2_with (go_at_call 19; refine callRet K.out ?_; rintro v w2 ⟨hn2, rfl⟩; have HN2 := Lib.hid hn2; clear hn2)
    go_ret
    exact ⟨Upd.refl _ _, rfl⟩
  rw [decide_eq_true q1, decide_eq_true q2, decide_eq_true q3]
  simp only [Bool.true_and]
  go_enter Tryd.func18, Tryd.ntmps18
  go_wp2_with (go_at_call 19; refine callRet K.out ?_; rintro v w2 ⟨hn2, rfl⟩; have HN2 := Lib.hid hn2; clear hn2)
  go_ret
  exact ⟨HN2.out, rfl⟩
end Go.Proofs.YtgbbogocfmepiaaDoor
