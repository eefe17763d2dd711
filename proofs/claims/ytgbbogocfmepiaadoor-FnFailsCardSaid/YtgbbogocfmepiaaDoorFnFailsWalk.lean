/- The law FnFails, walked. -/
import Derived.Test.YtgbbogocfmepiaaDoorTraceF
namespace Go.Proofs.YtgbbogocfmepiaaDoor.fnFails
open Go.RowKit
theorem box4 {w w1 : World} {c0 c1 c2 c3 : Value} {t : TypeId} (h : New (w.alloc (.cells #[c0, c1, c2, c3] t)) w1) : w1.cell? ⟨w.heap.size, 0, none⟩ = some c0 ∧ w1.cell? ⟨w.heap.size, 1, none⟩ = some c1 ∧ w1.cell? ⟨w.heap.size, 2, none⟩ = some c2 ∧ w1.cell? ⟨w.heap.size, 3, none⟩ = some c3 :=
  ⟨box_new h (i := 0) rfl, box_new h (i := 1) rfl, box_new h (i := 2) rfl, box_new h (i := 3) rfl⟩
set_option maxRecDepth 100000 in
set_option maxHeartbeats 8000000 in
theorem walk {S : Err → Addr} {B : Nat} {w : World} (E : Env S B w) (sz : Int) (room : Nat) (hroom : room ≤ 65535) (a : Option Addr) (c : Nat) (xs : List PutS) (h : PutsA w a c xs) :
    Calls Tryd.prog 5 #[.int .i16 sz, .int .u16 (room : Int), .slice a xs.length c] w (Ret fun v w' => v = .bool true ∧ New w w') := by
  have HE := Lib.hid E
  have HP := Lib.hid h
  have h1 := h.1
  have h2 := h.2.1
  unfold maxLen at h2
  clear E h
  cases hfit : fits3 xs with
  | false =>
    have HF := Lib.hid hfit
    clear hfit
    go_enter Tryd.func5, Tryd.ntmps5
    go_wp2_with (go_at_call 17; refine callRet (zzFits3 HP.out) ?_; rintro v w1 ⟨hn1, rfl⟩; have HN1 := Lib.hid hn1; clear hn1; rw [HF.out])
    go_ret
    exact ⟨rfl, HN1.out⟩
  | true =>
    have HF := Lib.hid hfit
    clear hfit
    cases hok : putsOkB xs sz with
    | false =>
      have HOK := Lib.hid hok
      clear hok
      go_enter Tryd.func5, Tryd.ntmps5
      go_wp2_with (first | (go_at_call 17; refine callRet (zzFits3 HP.out) ?_; rintro v w1 ⟨hn1, rfl⟩; have HN1 := Lib.hid hn1; clear hn1; rw [HF.out]) | (go_at_call 18; refine callRet (putsOk (HP.out.new HN1.out) HF.out) ?_; rintro v w2 ⟨hn2, rfl⟩; have HN2 : Hid (New w w2) := HN1.out.andNew hn2; clear hn2; rw [HOK.out]))
      go_ret
      exact ⟨rfl, HN2.out⟩
    | true =>
      obtain ⟨sn, rfl, hs1, hs2, hxl, hgood⟩ := putsOkB_spec hok
      have HOK := Lib.hid hok
      have HG := Lib.hid hgood
      have HFR := Lib.hid (fun wx (hx : New w wx) => hasFrom (HP.out.new hx) (by omega))
      clear hok hgood
      cases hfr : (xs.any fun x => decide (x.k = 5)) with
      | true =>
        rw [hfr] at HFR
        clear hfr
        go_enter Tryd.func5, Tryd.ntmps5
        go_wp2_with (first | (go_at_call 17; refine callRet (zzFits3 HP.out) ?_; rintro v w1 ⟨hn1, rfl⟩; have HN1 := Lib.hid hn1; clear hn1; rw [HF.out]) | (go_at_call 18; refine callRet (putsOk (HP.out.new HN1.out) HF.out) ?_; rintro v w2 ⟨hn2, rfl⟩; have HN2' : Hid (New w w2) := HN1.out.andNew hn2; clear hn2; rw [HOK.out]) | (go_at_call 19; refine callRet (HFR.out _ HN2'.out) ?_; rintro v w2b ⟨hn2, rfl⟩; have HN2 : Hid (New w w2b) := HN2'.out.andNew hn2; clear hn2))
        go_ret
        exact ⟨rfl, HN2.out⟩
      | false =>
        rw [hfr] at HFR
        have HNF := Lib.hid (fun (ys : List PutS) (hy : xs ++ [4].map ask = ys) => no_from hy hfr (some room))
        clear hfr
        go_enter Tryd.func5, Tryd.ntmps5
        go_wp2_with (first | (go_at_call 17; refine callRet (zzFits3 HP.out) ?_; rintro v w1 ⟨hn1, rfl⟩; have HN1 := Lib.hid hn1; clear hn1; rw [HF.out]) | (go_at_call 18; refine callRet (putsOk (HP.out.new HN1.out) HF.out) ?_; rintro v w2a ⟨hn2, rfl⟩; have HN2' : Hid (New w w2a) := HN1.out.andNew hn2; clear hn2; rw [HOK.out]) | (go_at_call 19; refine callRet (HFR.out _ HN2'.out) ?_; rintro v w2 ⟨hn2, rfl⟩; have HN2 : Hid (New w w2) := HN2'.out.andNew hn2; clear hn2) | (go_at_call 21; refine callRet (clonePuts (HP.out.new HN2.out) (by omega)) ?_; rintro v w3 ⟨hn3, vs, hcs, ho⟩; have HN23 := Lib.hid hn3; have HCS := Lib.hid hcs; have HO := Lib.hid ho; clear hn3 hcs ho) | (at_builtin; refine wpList_plain rfl (fun K hK => ?_); refine wp_append ePut (.tmp 26) (.tmp 28) rfl w2.heap.size _ _ _ rfl (ownsRow_new HO.out ((Upd.refl _ _).alloc _)) (some ⟨w3.heap.size, 0, none⟩) 1 1 [.int .i64 4, .slice none 0 0, .int .i32 0, .slice none 0 0] rfl rfl (fun h => by cases h) (box_newsW (xs := #[.int .i64 4, .slice none 0 0, .int .i32 0, .slice none 0 0])) (by simp [Value.oneCell']) (by unfold maxLen; omega) (by omega) (Nat.le_trans HN23.out.size ((Upd.refl (fun _ => False) _).alloc _).size) ?_; intro v4 w4 h1 h2 h3; obtain ⟨hop, hn4⟩ := OwnP.asks HCS.out [4] rfl ((Upd.refl _ _).alloc _) HO.out h1 h2 HN23.out (Nat.le_refl _); obtain ⟨a4, c4, hv4, hpa⟩ := hop.read hn4; have HYG := Lib.hid (goods_append (ks := [4]) HG.out (by intro k hk; simp at hk; omega)); obtain ⟨ys, hys⟩ : ∃ ys, xs ++ [4].map ask = ys := ⟨_, rfl⟩; rw [hys] at hv4 hpa HYG; subst hv4; have HPA := Lib.hid hpa; have HYS := Lib.hid hys; have HN4 : Hid (New w w4) := HN2.out.andNew hn4; have hyb : ys.length ≤ 43 := (by rw [← hys]; simp; omega); have hyl : xs.length + (1 - 1) < ys.length := (by rw [← hys]; simp); have hyl0 : xs.length < ys.length := (by omega); have hyc := hpa.1; have hyc2 := hpa.2.1; refine hK _ _ ?_; clear hK K h1 h2 h3 hop hn4 hpa hys) | (go_at_call 22; refine callRet (specAll (HP.out.new HN4.out) (by omega) HG.out) ?_; intro v w4a h6; have HN4A := Lib.hid h6.1; obtain ⟨g, cp, rfl, _, _, hgb⟩ := h6.bytes; have HGB := Lib.hid hgb; clear h6 hgb) | (go_at_call 23; refine callRet (implWritten (R := some room) (room := (room : Int)) (HE.out.new (HN4.out.andNew HN4A.out)) (HPA.out.new HN4A.out) hyb HYG.out (HNF.out ys HYS.out) hs1 hs2 (fun hr => by cases hr) (fun r hr => by cases hr; exact ⟨rfl, hroom⟩)) ?_; rintro v w5 ⟨hn5, da, dc, zs, sts, oa, oc, rfl, hda, hob, htr, hinv, hnb⟩; have hff := fails_facts HYS.out HYG.out htr hinv; rw [htr.len]; have HD1 := hda.1; have HD2 := hda.2.1; rw [htr.len] at HD1; have HDA := Lib.hid hda; have HFF := Lib.hid hff; have HOB := Lib.hid hob; have HN5 : Hid (New w4a w5) := hn5; obtain ⟨db, dd, rfl, hdl⟩ := hda.ptr (hff.each 0 (by omega)).choose_spec.choose_spec.1; clear hda hob htr hinv hnb hff hn5))
        unfold maxLen at HD2 hyc2
        have hst0 := HFF.out.start
        go_loopw [11, 48] (fun v i wr => ∃ k : Nat, v = .bool (sts k).err ∧ i = .int .i64 (k : Int) ∧ k ≤ ys.length ∧ New w5 wr) (fun _ i _ => ys.length - (intOf i).toNat)
        case atStart => exact ⟨0, by rw [hst0], rfl, Nat.zero_le _, Upd.refl _ _⟩
        case round =>
          obtain ⟨k, rfl, rfl, hkn, hnw⟩ := hrel
          have HNW := Lib.hid hnw
          clear hnw hst0
          by_cases hlt : k < ys.length
          · obtain ⟨b, o, v1, v3, rfl, hbl, e0, e1, e2, e3, hv⟩ := (HPA.out.new (HN4A.out.andNew (HN5.out.andNew HNW.out))).at hlt
            obtain ⟨dn, dcd, hdz, hdw, hds⟩ := HFF.out.each k hlt
            obtain ⟨f0, f1⟩ := (HDA.out.new HNW.out).get hdz
            have hdbl : db < wr.heap.size := World.block_lt_of_cell? wr _ f0
            obtain ⟨x, hx⟩ : ∃ x, ys[k] = x := ⟨_, rfl⟩
            rw [hx] at e0 e2 hv hdw hds
            have KW := Lib.hid (fun wx v1 v3 => specWrites wx x v1 v3)
            obtain ⟨xw, hxw⟩ : ∃ xw, x.writes = xw := ⟨_, rfl⟩
            rw [hxw] at KW hdw hds
            obtain ⟨⟨a1, c1, rfl, _⟩, a3, c3, rfl, _⟩ := hv
            clear hx hxw hdz
            obtain ⟨kx, bs, r, ps⟩ := x
            unfold PutS.v at KW
            simp only at e0 e2 KW f0 f1
            obtain ⟨st0, hst0⟩ : ∃ e, (sts k).err = e := ⟨_, rfl⟩
            obtain ⟨st1, hst1⟩ : ∃ e, (sts (k + 1)).err = e := ⟨_, rfl⟩
            rw [hst0]
            have HE1 := Lib.hid hst1
            cases xw with
            | false =>
              have hds := hds rfl
              have HE1 : Hid ((sts (k + 1)).err = st0) := Lib.hid (by rw [hds, hst0])
              clear hds hdw hst0 hst1
              go_wp2_with (go_at_call 24; refine callRet (KW.out _ _ _) ?_; rintro v w7 ⟨hn7, rfl⟩; have HN7 : Hid (New wr w7) := Lib.hid (((Upd.refl _ _).alloc _).andNew hn7); have l1 := HN7.out.cell f1 (fun h => h); clear hn7)
              go_roundw
              case rel => exact ⟨k + 1, by rw [HE1.out], by go_num, by omega, HNW.out.andNew HN7.out⟩
              case measure => simp [intOf]; omega
            | true =>
              obtain ⟨hd1, hd2⟩ := hdw rfl
              rw [hst1] at hd1 hd2
              rw [hst0] at hd2
              subst hd1
              clear hds hdw hst0 hst1
              cases st0 with
              | false =>
                clear hd2
                cases st1 with
                | false =>
                  change wr.cell? ⟨db, dd + k * 2 + 1, none⟩ = some (.int .i64 0) at f1
                  go_wp2_with (go_at_call 24; refine callRet (KW.out _ _ _) ?_; rintro v w7 ⟨hn7, rfl⟩; have HN7 : Hid (New wr w7) := Lib.hid (((Upd.refl _ _).alloc _).andNew hn7); have l1 := HN7.out.cell f1 (fun h => h); clear hn7)
                  go_roundw
                  case rel => exact ⟨k + 1, by rw [HE1.out], by go_num, by omega, HNW.out.andNew HN7.out⟩
                  case measure => simp [intOf]; omega
                | true =>
                  change wr.cell? ⟨db, dd + k * 2 + 1, none⟩ = some (.int .i64 2) at f1
                  go_wp2_with (go_at_call 24; refine callRet (KW.out _ _ _) ?_; rintro v w7 ⟨hn7, rfl⟩; have HN7 : Hid (New wr w7) := Lib.hid (((Upd.refl _ _).alloc _).andNew hn7); have l1 := HN7.out.cell f1 (fun h => h); clear hn7)
                  go_roundw
                  case rel => exact ⟨k + 1, by rw [HE1.out], by go_num, by omega, HNW.out.andNew HN7.out⟩
                  case measure => simp [intOf]; omega
              | true =>
                have hd2 := hd2 rfl
                subst hd2
                change wr.cell? ⟨db, dd + k * 2 + 1, none⟩ = some (.int .i64 2) at f1
                go_wp2_with (go_at_call 24; refine callRet (KW.out _ _ _) ?_; rintro v w7 ⟨hn7, rfl⟩; have HN7 : Hid (New wr w7) := Lib.hid (((Upd.refl _ _).alloc _).andNew hn7); have l1 := HN7.out.cell f1 (fun h => h); clear hn7)
                go_roundw
                case rel => exact ⟨k + 1, by rw [HE1.out], by go_num, by omega, HNW.out.andNew HN7.out⟩
                case measure => simp [intOf]; omega
          · obtain rfl : k = ys.length := by omega
            obtain ⟨al, hal⟩ : ∃ al, allOut xs = al := ⟨_, rfl⟩
            rw [hal] at HFF HGB ⊢
            have hgc := HGB.out.1
            have hgc2 := HGB.out.2.1
            unfold maxLen at hgc2
            have hbad := HFF.out.bad
            have hgut := HFF.out.ok
            obtain ⟨an, han⟩ : ∃ an, al.length = an := ⟨_, rfl⟩
            have HAN := Lib.hid han
            rw [han] at hbad hgut hgc ⊢
            have HOB2 := Lib.hid (HOB.out.new (HNW.out.andNew (Upd.refl _ _).drew))
            have HGB2 := Lib.hid (HGB.out.new (HN5.out.andNew (HNW.out.andNew (Upd.refl _ _).drew)))
            have HNE := Lib.hid (HN4.out.andNew (HN4A.out.andNew (HN5.out.andNew (HNW.out.andNew (Upd.refl _ _).drew))))
            obtain ⟨so, hso⟩ : ∃ so, (sts ys.length).out = so := ⟨_, rfl⟩
            rw [hso] at hbad hgut HOB2 ⊢
            obtain ⟨e, he⟩ : ∃ e, (sts ys.length).err = e := ⟨_, rfl⟩
            rw [he] at hbad hgut ⊢
            clear han hal hso he
            cases e with
            | true =>
              obtain ⟨hlt2, rfl⟩ := hbad rfl
              clear hgut
              have hol : (al.take room).length = room := by rw [List.length_take, HAN.out]; omega
              rw [hol]
              have HOL := Lib.hid hol
              have HGT := Lib.hid (HGB2.out.take room)
              have hmin : min (an : Int) (room : Int) = (room : Int) := by omega
              have HMIN := Lib.hid hmin
              have hrc : room ≤ cp := by omega
              clear hol hmin
              go_wp2_with fail
              refine wp_region_lx {} (by kernel_rfl) (by kernel_rfl) ⟨fun _ _ _ h => h.2, fun _ _ h => h⟩ ?_
              (repeat' (first | (refine wpLx_calm rfl rfl rfl (fun K hK => ?_); go_step <;> (refine hK _ ?_; clear hK K)) | (refine wpLx_skip2 rfl rfl rfl ?_; go_simp) | (refine wpLx_calm2 rfl rfl rfl rfl rfl (fun K hK => ?_); go_step <;> (refine hK _ ?_; clear hK K))))
              refine wpLx_calm2 rfl rfl rfl rfl rfl (fun K hK => ?_)
              refine wp_strL Tryd.underlying29 Tryd.underlying5 Tryd.underlying9 _ rfl HOL.out rfl HOB2.out ?_
              refine hK _ ?_
              clear hK K
              (repeat' (first | (refine wpLx_calm rfl rfl rfl (fun K hK => ?_); go_step <;> (refine hK _ ?_; clear hK K)) | (refine wpLx_skip2 rfl rfl rfl ?_; go_simp) | (refine wpLx_calm2 rfl rfl rfl rfl rfl (fun K hK => ?_); go_step <;> (refine hK _ ?_; clear hK K))))
              refine wpLx_calm2 rfl rfl rfl rfl rfl (fun K hK => ?_)
              refine wp_strL Tryd.underlying29 Tryd.underlying5 Tryd.underlying9 _ rfl HOL.out rfl HGT.out ?_
              refine hK _ ?_
              clear hK K
              (repeat' (first | (refine wpLx_calm rfl rfl rfl (fun K hK => ?_); go_step <;> (refine hK _ ?_; clear hK K)) | (refine wpLx_skip2 rfl rfl rfl ?_; go_simp) | (refine wpLx_calm2 rfl rfl rfl rfl rfl (fun K hK => ?_); go_step <;> (refine hK _ ?_; clear hK K))))
              all_goals refine wpLx_nil ?_
              go_wp2_with fail
              go_ret
              exact ⟨by simp, HNE.out⟩
            | false =>
              obtain ⟨hle2, rfl⟩ := hgut rfl
              clear hbad
              rw [HAN.out]
              have hmin : min (an : Int) (room : Int) = (an : Int) := by omega
              have HMIN := Lib.hid hmin
              have hnlt : ¬ room < an := by omega
              clear hmin
              go_wp2_with fail
              refine wp_region_lx {} (by kernel_rfl) (by kernel_rfl) ⟨fun _ _ _ h => h.2, fun _ _ h => h⟩ ?_
              (repeat' (first | (refine wpLx_calm rfl rfl rfl (fun K hK => ?_); go_step <;> (refine hK _ ?_; clear hK K)) | (refine wpLx_skip2 rfl rfl rfl ?_; go_simp) | (refine wpLx_calm2 rfl rfl rfl rfl rfl (fun K hK => ?_); go_step <;> (refine hK _ ?_; clear hK K))))
              refine wpLx_calm2 rfl rfl rfl rfl rfl (fun K hK => ?_)
              refine wp_strL Tryd.underlying29 Tryd.underlying5 Tryd.underlying9 _ rfl HAN.out rfl HOB2.out ?_
              refine hK _ ?_
              clear hK K
              (repeat' (first | (refine wpLx_calm rfl rfl rfl (fun K hK => ?_); go_step <;> (refine hK _ ?_; clear hK K)) | (refine wpLx_skip2 rfl rfl rfl ?_; go_simp) | (refine wpLx_calm2 rfl rfl rfl rfl rfl (fun K hK => ?_); go_step <;> (refine hK _ ?_; clear hK K))))
              refine wpLx_calm2 rfl rfl rfl rfl rfl (fun K hK => ?_)
              refine wp_strL Tryd.underlying29 Tryd.underlying5 Tryd.underlying9 _ rfl HAN.out rfl HGB2.out ?_
              refine hK _ ?_
              clear hK K
              (repeat' (first | (refine wpLx_calm rfl rfl rfl (fun K hK => ?_); go_step <;> (refine hK _ ?_; clear hK K)) | (refine wpLx_skip2 rfl rfl rfl ?_; go_simp) | (refine wpLx_calm2 rfl rfl rfl rfl rfl (fun K hK => ?_); go_step <;> (refine hK _ ?_; clear hK K))))
              all_goals refine wpLx_nil ?_
              go_wp2_with fail
              go_ret
              exact ⟨by simp, HNE.out⟩
end Go.Proofs.YtgbbogocfmepiaaDoor.fnFails
