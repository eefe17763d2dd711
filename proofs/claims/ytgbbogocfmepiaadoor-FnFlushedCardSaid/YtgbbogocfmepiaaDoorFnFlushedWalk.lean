/- The law FnFlushed, walked. -/
import Derived.Test.YtgbbogocfmepiaaDoorTrace
namespace Go.Proofs.YtgbbogocfmepiaaDoor.fnFlushed
open Go.RowKit
set_option maxRecDepth 100000 in
set_option maxHeartbeats 4000000 in
theorem walk {S : Err → Addr} {B : Nat} {w : World} (E : Env S B w) (sz : Int) (a : Option Addr) (c : Nat) (xs : List PutS) (h : PutsA w a c xs) :
    Calls Tryd.prog 6 #[.int .i16 sz, .slice a xs.length c] w (Ret fun v w' => v = .bool true ∧ New w w') := by
  have HE := Lib.hid E
  have HP := Lib.hid h
  have h1 := h.1
  have h2 := h.2.1
  unfold maxLen at h2
  clear E h
  cases hfit : fits3 xs with
  | false =>
    have HF := Lib.hid hfit
    clear hfit
    go_enter Tryd.func6, Tryd.ntmps6
    go_wp2_with (go_at_call 17; refine callRet (zzFits3 HP.out) ?_; rintro v w1 ⟨hn1, rfl⟩; have HN1 := Lib.hid hn1; clear hn1; rw [HF.out])
    go_ret
    exact ⟨rfl, HN1.out⟩
  | true =>
    have HF := Lib.hid hfit
    clear hfit
    cases hok : putsOkB xs sz with
    | false =>
      have HOK := Lib.hid hok
      clear hok
      go_enter Tryd.func6, Tryd.ntmps6
      go_wp2_with (first | (go_at_call 17; refine callRet (zzFits3 HP.out) ?_; rintro v w1 ⟨hn1, rfl⟩; have HN1 := Lib.hid hn1; clear hn1; rw [HF.out]) | (go_at_call 18; refine callRet (putsOk (HP.out.new HN1.out) HF.out) ?_; rintro v w2 ⟨hn2, rfl⟩; have HN2 : Hid (New w w2) := HN1.out.andNew hn2; clear hn2; rw [HOK.out]))
      go_ret
      exact ⟨rfl, HN2.out⟩
    | true =>
      obtain ⟨sn, rfl, hs1, hs2, hxl, hgood⟩ := putsOkB_spec hok
      have HOK := Lib.hid hok
      have HG := Lib.hid hgood
      clear hok hgood
      go_enter Tryd.func6, Tryd.ntmps6
      go_wp2_with (first | (go_at_call 17; refine callRet (zzFits3 HP.out) ?_; rintro v w1 ⟨hn1, rfl⟩; have HN1 := Lib.hid hn1; clear hn1; rw [HF.out]) | (go_at_call 18; refine callRet (putsOk (HP.out.new HN1.out) HF.out) ?_; rintro v w2 ⟨hn2, rfl⟩; have HN2 : Hid (New w w2) := HN1.out.andNew hn2; clear hn2; rw [HOK.out]) | (go_at_call 21; refine callRet (clonePuts (HP.out.new HN2.out) (by omega)) ?_; rintro v w3 ⟨hn3, vs, hcs, ho⟩; have HN23 := Lib.hid hn3; have HCS := Lib.hid hcs; have HO := Lib.hid ho; clear hn3 hcs ho) | (at_builtin; refine wpList_plain rfl (fun K hK => ?_); refine wp_append ePut (.tmp 16) (.tmp 19) rfl w2.heap.size _ _ _ rfl (ownsRow_new HO.out ((Upd.refl _ _).alloc _)) (some ⟨w3.heap.size, 0, none⟩) 2 2 [.int .i64 4, .slice none 0 0, .int .i32 0, .slice none 0 0, .int .i64 7, .slice none 0 0, .int .i32 0, .slice none 0 0] rfl rfl (fun h => by cases h) (box_newsW (xs := #[.int .i64 4, .slice none 0 0, .int .i32 0, .slice none 0 0, .int .i64 7, .slice none 0 0, .int .i32 0, .slice none 0 0])) (by simp [Value.oneCell']) (by unfold maxLen; omega) (by omega) (Nat.le_trans HN23.out.size ((Upd.refl (fun _ => False) _).alloc _).size) ?_; intro v4 w4 h1 h2 h3; obtain ⟨hop, hn4⟩ := OwnP.asks HCS.out [4, 7] rfl ((Upd.refl _ _).alloc _) HO.out h1 h2 HN23.out (Nat.le_refl _); obtain ⟨a4, c4, hv4, hpa⟩ := hop.read hn4; have HYG := Lib.hid (goods_append (ks := [4, 7]) HG.out (by intro k hk; simp at hk; omega)); obtain ⟨ys, hys⟩ : ∃ ys, xs ++ [4, 7].map ask = ys := ⟨_, rfl⟩; rw [hys] at hv4 hpa HYG; subst hv4; have HPA := Lib.hid hpa; have HYS := Lib.hid hys; have HN4 : Hid (New w w4) := HN2.out.andNew hn4; have hyb : ys.length ≤ 43 := (by rw [← hys]; simp; omega); have hyl : xs.length + (2 - 1) < ys.length := (by rw [← hys]; simp); have hyl0 : xs.length < ys.length := (by omega); have hyc := hpa.1; have hyc2 := hpa.2.1; refine hK _ _ ?_; clear hK K h1 h2 h3 hop hn4 hpa hys) | (go_at_call 23; refine callRet (implWritten (R := none) (room := -1) (HE.out.new HN4.out) HPA.out hyb HYG.out (fun _ => rfl) hs1 hs2 (fun _ => rfl) (fun r hr => by cases hr)) ?_; rintro v w5 ⟨hn5, da, dc, zs, sts, oa, oc, rfl, hda, hob, htr, hinv, hnb⟩; rw [← HYS.out] at htr hinv; obtain ⟨hz1, hz2, hout⟩ := flushed_facts htr hinv; rw [HYS.out] at htr hinv hout; rw [hout] at hob ⊢; rw [htr.len]; obtain ⟨db, dd, rfl, hdl⟩ := hda.ptr hz1; obtain ⟨e0, e1⟩ := hda.get hz1; obtain ⟨e2, e3⟩ := hda.get hz2; have HD1 := hda.1; have HD2 := hda.2.1; rw [htr.len] at HD1; have HOB := Lib.hid hob; have HN5 : Hid (New w w5) := HN4.out.andNew hn5; clear hda hob htr hinv hnb hz1 hz2 hout hn5))
      have KALL := Lib.hid (specAll (HP.out.new (HN5.out.andNew (Upd.refl _ _).drew)) (by omega) HG.out)
      obtain ⟨al, hal⟩ : ∃ al, allOut xs = al := ⟨_, rfl⟩
      rw [hal] at HOB KALL ⊢
      obtain ⟨an, han⟩ : ∃ an, al.length = an := ⟨_, rfl⟩
      rw [han]
      have HAN := Lib.hid han
      unfold maxLen at HD2 hyc2
      clear hal han
      refine wp_region_lx {ld := [54], gd := [56]} (by kernel_rfl) (by kernel_rfl) ⟨fun _ _ _ h => h.2, fun _ _ h => h⟩ ?_
      (repeat' (first | (refine wpLx_calm rfl rfl rfl (fun K hK => ?_); go_step <;> (refine hK _ ?_; clear hK K)) | (refine wpLx_skip2 rfl rfl rfl ?_; go_simp) | (refine wpLx_calm2 rfl rfl rfl rfl rfl (fun K hK => ?_); go_step <;> (refine hK _ ?_; clear hK K))))
      refine wpLx_ld2 rfl rfl rfl rfl (Upd.refl _ _) (fun w' hn' => exec_strL Tryd.underlying29 Tryd.underlying5 Tryd.underlying9 rfl HAN.out rfl (HOB.out.new ((Upd.refl _ _).drew.andNew hn'))) ?_
      (repeat' (first | (refine wpLx_calm rfl rfl rfl (fun K hK => ?_); go_step <;> (refine hK _ ?_; clear hK K)) | (refine wpLx_skip2 rfl rfl rfl ?_; go_simp) | (refine wpLx_calm2 rfl rfl rfl rfl rfl (fun K hK => ?_); go_step <;> (refine hK _ ?_; clear hK K))))
      refine wpLx_grow2 rfl rfl rfl rfl rfl (Upd.refl _ _) (fun K hK => ?_)
      refine wp_call KALL.out (by kernel_rfl) ?_
      intro v w6 h6
      refine hK _ _ h6.1 ?_
      clear hK K
      have HN6 := Lib.hid h6.1
      obtain ⟨g, cp, rfl, _, _, hgb⟩ := h6.bytes
      have HGB := Lib.hid hgb
      clear h6 hgb
      refine wpLx_calm2 rfl rfl rfl rfl rfl (fun K hK => ?_)
      refine wp_str Tryd.underlying29 Tryd.underlying5 Tryd.underlying9 _ rfl rfl HGB.out ?_
      refine hK _ ?_
      clear hK K
      (repeat' (first | (refine wpLx_calm rfl rfl rfl (fun K hK => ?_); go_step <;> (refine hK _ ?_; clear hK K)) | (refine wpLx_skip2 rfl rfl rfl ?_; go_simp) | (refine wpLx_calm2 rfl rfl rfl rfl rfl (fun K hK => ?_); go_step <;> (refine hK _ ?_; clear hK K))))
      all_goals refine wpLx_nil ?_
      go_wp2_with fail
      go_ret
      exact ⟨by simp, HN5.out.drew.andNew HN6.out⟩
end Go.Proofs.YtgbbogocfmepiaaDoor.fnFlushed
