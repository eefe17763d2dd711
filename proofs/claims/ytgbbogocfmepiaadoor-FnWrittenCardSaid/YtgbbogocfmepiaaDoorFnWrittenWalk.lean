/- The law FnWritten, walked. -/
import Derived.Test.YtgbbogocfmepiaaDoorTraceW
namespace Go.Proofs.YtgbbogocfmepiaaDoor.fnWritten
open Go.RowKit
theorem box4 {w w1 : World} {c0 c1 c2 c3 : Value} {t : TypeId} (h : New (w.alloc (.cells #[c0, c1, c2, c3] t)) w1) : w1.cell? ⟨w.heap.size, 0, none⟩ = some c0 ∧ w1.cell? ⟨w.heap.size, 1, none⟩ = some c1 ∧ w1.cell? ⟨w.heap.size, 2, none⟩ = some c2 ∧ w1.cell? ⟨w.heap.size, 3, none⟩ = some c3 :=
  ⟨box_new h (i := 0) rfl, box_new h (i := 1) rfl, box_new h (i := 2) rfl, box_new h (i := 3) rfl⟩
set_option maxRecDepth 100000 in
set_option maxHeartbeats 8000000 in
theorem walk {S : Err → Addr} {B : Nat} {w : World} (E : Env S B w) (sz : Int) (a : Option Addr) (c : Nat) (xs : List PutS) (h : PutsA w a c xs) :
    Calls Tryd.prog 7 #[.int .i16 sz, .slice a xs.length c] w (Ret fun v w' => v = .bool true ∧ New w w') := by
  have HE := Lib.hid E
  have HP := Lib.hid h
  have h1 := h.1
  have h2 := h.2.1
  unfold maxLen at h2
  clear E h
  cases hfit : fits3 xs with
  | false =>
    have HF := Lib.hid hfit
    clear hfit
    go_enter Tryd.func7, Tryd.ntmps7
    go_wp2_with (go_at_call 17; refine callRet (zzFits3 HP.out) ?_; rintro v w1 ⟨hn1, rfl⟩; have HN1 := Lib.hid hn1; clear hn1; rw [HF.out])
    go_ret
    exact ⟨rfl, HN1.out⟩
  | true =>
    have HF := Lib.hid hfit
    clear hfit
    cases hok : putsOkB xs sz with
    | false =>
      have HOK := Lib.hid hok
      clear hok
      go_enter Tryd.func7, Tryd.ntmps7
      go_wp2_with (first | (go_at_call 17; refine callRet (zzFits3 HP.out) ?_; rintro v w1 ⟨hn1, rfl⟩; have HN1 := Lib.hid hn1; clear hn1; rw [HF.out]) | (go_at_call 18; refine callRet (putsOk (HP.out.new HN1.out) HF.out) ?_; rintro v w2 ⟨hn2, rfl⟩; have HN2 : Hid (New w w2) := HN1.out.andNew hn2; clear hn2; rw [HOK.out]))
      go_ret
      exact ⟨rfl, HN2.out⟩
    | true =>
      obtain ⟨sn, rfl, hs1, hs2, hxl, hgood⟩ := putsOkB_spec hok
      have HOK := Lib.hid hok
      have HG := Lib.hid hgood
      clear hok hgood
      go_enter Tryd.func7, Tryd.ntmps7
      go_wp2_with (first | (go_at_call 17; refine callRet (zzFits3 HP.out) ?_; rintro v w1 ⟨hn1, rfl⟩; have HN1 := Lib.hid hn1; clear hn1; rw [HF.out]) | (go_at_call 18; refine callRet (putsOk (HP.out.new HN1.out) HF.out) ?_; rintro v w2 ⟨hn2, rfl⟩; have HN2 : Hid (New w w2) := HN1.out.andNew hn2; clear hn2; rw [HOK.out]) | (go_at_call 21; refine callRet (clonePuts (HP.out.new HN2.out) (by omega)) ?_; rintro v w3 ⟨hn3, vs, hcs, ho⟩; have HN23 := Lib.hid hn3; have HCS := Lib.hid hcs; have HO := Lib.hid ho; clear hn3 hcs ho) | (at_builtin; refine wpList_plain rfl (fun K hK => ?_); refine wp_append ePut (.tmp 24) (.tmp 28) rfl w2.heap.size _ _ _ rfl (ownsRow_new HO.out ((Upd.refl _ _).alloc _)) (some ⟨w3.heap.size, 0, none⟩) 3 3 [.int .i64 6, .slice none 0 0, .int .i32 0, .slice none 0 0, .int .i64 7, .slice none 0 0, .int .i32 0, .slice none 0 0, .int .i64 8, .slice none 0 0, .int .i32 0, .slice none 0 0] rfl rfl (fun h => by cases h) (box_newsW (xs := #[.int .i64 6, .slice none 0 0, .int .i32 0, .slice none 0 0, .int .i64 7, .slice none 0 0, .int .i32 0, .slice none 0 0, .int .i64 8, .slice none 0 0, .int .i32 0, .slice none 0 0])) (by simp [Value.oneCell']) (by unfold maxLen; omega) (by omega) (Nat.le_trans HN23.out.size ((Upd.refl (fun _ => False) _).alloc _).size) ?_; intro v4 w4 h1 h2 h3; obtain ⟨hop, hn4⟩ := OwnP.asks HCS.out [6, 7, 8] rfl ((Upd.refl _ _).alloc _) HO.out h1 h2 HN23.out (Nat.le_refl _); obtain ⟨a4, c4, hv4, hpa⟩ := hop.read hn4; have HYG := Lib.hid (goods_append (ks := [6, 7, 8]) HG.out (by intro k hk; simp at hk; omega)); obtain ⟨ys, hys⟩ : ∃ ys, xs ++ [6, 7, 8].map ask = ys := ⟨_, rfl⟩; rw [hys] at hv4 hpa HYG; subst hv4; have HPA := Lib.hid hpa; have HYS := Lib.hid hys; have HN4 : Hid (New w w4) := HN2.out.andNew hn4; have hyb : ys.length ≤ 43 := (by rw [← hys]; simp; omega); have hyl : xs.length + (3 - 1) < ys.length := (by rw [← hys]; simp); have hyl0 : xs.length < ys.length := (by omega); have hyc := hpa.1; have hyc2 := hpa.2.1; refine hK _ _ ?_; clear hK K h1 h2 h3 hop hn4 hpa hys) | (go_at_call 23; refine callRet (implWritten (R := none) (room := -1) (HE.out.new HN4.out) HPA.out hyb HYG.out (fun _ => rfl) hs1 hs2 (fun _ => rfl) (fun r hr => by cases hr)) ?_; rintro v w5 ⟨hn5, da, dc, zs, sts, oa, oc, rfl, hda, hob, htr, hinv, hnb⟩; rw [← HYS.out] at htr hinv hnb; obtain ⟨m, hwf⟩ := written_facts htr hinv hnb; rw [HYS.out] at htr hinv hnb hwf; rw [htr.len]; obtain ⟨out, hout⟩ : ∃ out, (sts ys.length).out = out := ⟨_, rfl⟩; rw [hout] at hob hwf ⊢; obtain ⟨ol, hol⟩ : ∃ ol, out.length = ol := ⟨_, rfl⟩; rw [hol]; have HOL := Lib.hid hol; obtain ⟨db, dd, rfl, hdl⟩ := hda.ptr hwf.free; have HDA := Lib.hid hda; have HWF := Lib.hid hwf; have hml := hwf.le; have HD1 := hda.1; have HD2 := hda.2.1; rw [htr.len] at HD1; have HOB := Lib.hid hob; have HN5 : Hid (New w w5) := HN4.out.andNew hn5; clear hda hob htr hinv hnb hout hn5 hol hwf))
      unfold maxLen at HD2 hyc2
      go_loopw [44] (fun i wr => ∃ k : Nat, i = .int .i64 (k : Int) ∧ k ≤ xs.length ∧ New w5 wr) (fun i _ => xs.length - (intOf i).toNat)
      case atStart => exact ⟨0, rfl, Nat.zero_le _, Upd.refl _ _⟩
      case round =>
        obtain ⟨k, rfl, hkn, hnw⟩ := hrel
        have HNW := Lib.hid hnw
        clear hnw
        by_cases hlt : k < xs.length
        · obtain ⟨b, o, v1, v3, rfl, hbl, e0, e1, e2, e3, hv⟩ := (HP.out.new (HN5.out.andNew HNW.out)).at hlt
          obtain ⟨dn, hdz, hdw⟩ := HWF.out.each k hlt
          obtain ⟨f0, f1⟩ := (HDA.out.new HNW.out).get hdz
          have hdbl : db < wr.heap.size := World.block_lt_of_cell? wr _ f0
          obtain ⟨x, hx⟩ : ∃ x, xs[k] = x := ⟨_, rfl⟩
          rw [hx] at e0 e2 hv hdw
          have hgx : goodP x = true := HG.out x (by rw [← hx]; exact List.getElem_mem _)
          have KP := Lib.hid (fun wx (hn : New wr wx) => specPut (x := x) (v1 := v1) (v3 := v3) (hv.new hn) hgx)
          unfold SpecPutP at KP
          have KW := Lib.hid (fun wx => specWrites wx x v1 v3)
          obtain ⟨xo, hxo⟩ : ∃ xo, x.out = xo := ⟨_, rfl⟩
          rw [hxo] at KP
          obtain ⟨xw, hxw⟩ : ∃ xw, x.writes = xw := ⟨_, rfl⟩
          rw [hxw] at KW hdw
          obtain ⟨nm, hnm⟩ : ∃ nm, x.num = nm := ⟨_, rfl⟩
          rw [hnm] at KP hdw
          obtain ⟨⟨a1, c1, rfl, _⟩, a3, c3, rfl, _⟩ := hv
          clear hx hgx hxo hnm hxw hdz
          obtain ⟨kx, bs, r, ps⟩ := x
          unfold PutS.v at KP KW
          simp only at e0 e2 KP KW f0 f1
          cases xw with
          | true =>
            have hdw := hdw rfl
            subst hdw
            go_wp2_with (first | (go_at_call 25; refine callRet (KP.out _ ((Upd.refl _ _).alloc _)) ?_; rintro v w6 ⟨hn6, a5, c5, rfl, hb5⟩; have HN6 : Hid (New wr w6) := Lib.hid (((Upd.refl _ _).alloc _).andNew hn6); have g0 := HN6.out.cell f0 (fun h => h); have g1 := HN6.out.cell f1 (fun h => h); obtain ⟨p0, p1, p2, p3⟩ := box4 hn6; clear hn6 hb5) | (go_at_call 24; refine callRet (KW.out _) ?_; rintro v w7 ⟨hn7, rfl⟩; have HN7 : Hid (New wr w7) := HN6.out.andNew hn7; have l0 := hn7.cell g0 (fun h => h); have l1 := hn7.cell g1 (fun h => h); clear hn7))
            go_roundw
            case rel => exact ⟨k + 1, by go_num, by omega, HNW.out.andNew HN7.out⟩
            case measure => simp [intOf]; omega
          | false =>
            clear hdw
            go_wp2_with (first | (go_at_call 25; refine callRet (KP.out _ ((Upd.refl _ _).alloc _)) ?_; rintro v w6 ⟨hn6, a5, c5, rfl, hb5⟩; have HN6 : Hid (New wr w6) := Lib.hid (((Upd.refl _ _).alloc _).andNew hn6); have g0 := HN6.out.cell f0 (fun h => h); have g1 := HN6.out.cell f1 (fun h => h); obtain ⟨p0, p1, p2, p3⟩ := box4 hn6; clear hn6 hb5) | (go_at_call 24; refine callRet (KW.out _) ?_; rintro v w7 ⟨hn7, rfl⟩; have HN7 : Hid (New wr w7) := HN6.out.andNew hn7; have l0 := hn7.cell g0 (fun h => h); have l1 := hn7.cell g1 (fun h => h); clear hn7))
            go_roundw
            case rel => exact ⟨k + 1, by go_num, by omega, HNW.out.andNew HN7.out⟩
            case measure => simp [intOf]; omega
        · obtain rfl : k = xs.length := by omega
          have KALL := Lib.hid (specAll (HP.out.new (HN5.out.andNew HNW.out)) (by omega) HG.out)
          obtain ⟨al, hal⟩ : ∃ al, allOut xs = al := ⟨_, rfl⟩
          have hlen := HWF.out.len
          have hpre := HWF.out.pre
          have hfr := HWF.out.free
          have hhe := HWF.out.held
          have hwh := HWF.out.whole
          have hlb : ol + m ≤ 4000000 := by
            have q := allOut_le xs HG.out
            rw [hlen, HOL.out] at q
            omega
          rw [hal] at KALL hlen hpre
          have HLEN := Lib.hid hlen
          have HPRE := Lib.hid hpre
          have HFR := Lib.hid hfr
          have HHE := Lib.hid hhe
          have HWH := Lib.hid hwh
          have HDB := Lib.hid (HDA.out.new HNW.out)
          clear hal hlen hpre hfr hhe hwh
          go_wp2_with (go_at_call 22; refine callRet KALL.out ?_; intro v w6 h6; have HN6 := Lib.hid h6.1; obtain ⟨g, cp, rfl, _, _, hgb⟩ := h6.bytes; have HGB := Lib.hid hgb; obtain ⟨d0, d1⟩ := (HDB.out.new h6.1).get HFR.out; obtain ⟨d2, d3⟩ := (HDB.out.new h6.1).get HHE.out; obtain ⟨d4, d5⟩ := (HDB.out.new h6.1).get HWH.out; simp only at d0 d2 d4; rw [HLEN.out, HOL.out]; have KB : Hid (∀ wx, New w6 wx → Calls Tryd.prog 26 #[.slice (some ⟨g, 0, none⟩) (ol + m) cp, .slice oa ol oc] wx (Ret fun v w' => New wx w' ∧ v = .bool true)) := Lib.hid (fun wx hx => by
              have hq := specBegins (hgb.new hx) (HOB.out.new (HNW.out.andNew (h6.1.andNew hx))) HPRE.out (by rw [HLEN.out]; omega)
              rw [HLEN.out, HOL.out] at hq
              exact hq); clear h6 hgb d1 d3 d5)
          have hyl1 : xs.length + 1 < ys.length := by omega
          have hyl2 : xs.length + 2 < ys.length := by omega
          (refine wp_region_lx {} (by kernel_rfl) (by kernel_rfl) ⟨fun _ _ _ h => h.2, fun _ _ h => h⟩ ?_; (repeat' (first | (refine wpLx_calm rfl rfl rfl (fun K hK => ?_); go_step <;> (refine hK _ ?_; clear hK K)) | (refine wpLx_skip2 rfl rfl rfl ?_; go_simp) | (refine wpLx_calm2 rfl rfl rfl rfl rfl (fun K hK => ?_); go_step <;> (refine hK _ ?_; clear hK K)))); all_goals (refine wpLx_nil ?_))
          go_wp2_with (go_at_call 26; refine callRet (KB.out _ (Upd.refl _ _).drew) ?_; rintro v w7 ⟨hn7, rfl⟩; have HN7 : Hid (New w6 w7) := (Upd.refl _ _).drew.andNew hn7; clear hn7)
          go_ret
          exact ⟨by simp, HN5.out.andNew (HNW.out.andNew (HN6.out.andNew HN7.out))⟩
end Go.Proofs.YtgbbogocfmepiaaDoor.fnWritten
