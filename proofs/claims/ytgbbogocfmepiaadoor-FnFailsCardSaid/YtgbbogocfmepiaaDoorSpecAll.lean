/- spec.Put, spec.All, spec.Begins. -/
import Derived.Test.YtgbbogocfmepiaaDoorWritten
namespace Go.Proofs.YtgbbogocfmepiaaDoor
open Go.RowKit
theorem bytes_cellsW {w : World} {g : Nat} {bs : List UInt8} (h : w.heap[g]? = some (.cells (bs.map bv).toArray 5 (0, 0))) (hm : bs.length ≤ maxLen) : BytesA w (some ⟨g, 0, none⟩) bs.length bs := by
  refine ⟨Nat.le_refl _, hm, fun hh => (by cases hh), fun p hp => ⟨fun _ => (by simp only [Option.some.injEq] at hp; subst hp; rfl), fun i hi => ?_⟩⟩
  simp only [Option.some.injEq] at hp
  subst hp
  rw [World.cell_of_heap h]
  simp [hi]
def SpecPutP (x : PutS) (w : World) (v : Value) (w' : World) : Prop := New w w' ∧ ∃ a c, v = .tuple #[.slice a x.out.length c, .int .i64 (x.num : Int)] ∧ BytesA w' a c x.out
set_option maxRecDepth 100000 in
set_option maxHeartbeats 2000000 in
theorem specPutB {w : World} {a a' : Option Addr} {bs : List UInt8} {c c' : Nat} {r : Int} {ps : List (List UInt8)} (G : PutG w a a' bs c c' r ps) {k : Int} (hk : k = 0 ∨ k = 3) :
    Calls Tryd.prog 25 #[.agg #[.int .i64 k, .slice a bs.length c, .int .i32 r, .slice a' ps.length c']] w (Ret (SpecPutP ⟨k, bs, r, ps⟩ w)) := by
  have hbc := G.b.1
  have hbm := G.b.2.1
  unfold maxLen at hbm
  have HB := Lib.hid G.b
  clear G
  have hout : ∀ k, (k = 0 ∨ k = 3) → (⟨k, bs, r, ps⟩ : PutS).out = bs ∧ (⟨k, bs, r, ps⟩ : PutS).num = bs.length := by
    rintro k (rfl | rfl) <;> exact ⟨rfl, rfl⟩
  have HOUT := Lib.hid (hout k hk)
  clear hout
  rcases hk with rfl | rfl
  · go_enter Tryd.func25, Tryd.ntmps25
    (go_wp2_with fail; (repeat' (refine wp_region_lx {} (by kernel_rfl) (by kernel_rfl) ⟨fun _ _ _ h => h.2, fun _ _ h => h⟩ ?_; (repeat' (first | (refine wpLx_calm rfl rfl rfl (fun K hK => ?_); go_step <;> (refine hK _ ?_; clear hK K)) | (refine wpLx_skip2 rfl rfl rfl ?_; go_simp) | (refine wpLx_calm2 rfl rfl rfl rfl rfl (fun K hK => ?_); go_step <;> (refine hK _ ?_; clear hK K)))); all_goals (refine wpLx_nil ?_; try go_wp2_with fail))))
    go_ret2
    exact ⟨((Upd.refl _ _).alloc _).drew, a, c, by rw [HOUT.out.2, HOUT.out.1]; rfl, by rw [HOUT.out.1]; exact HB.out.new ((Upd.refl _ _).alloc _).drew⟩
  · go_enter Tryd.func25, Tryd.ntmps25
    (go_wp2_with fail; (repeat' (refine wp_region_lx {} (by kernel_rfl) (by kernel_rfl) ⟨fun _ _ _ h => h.2, fun _ _ h => h⟩ ?_; (repeat' (first | (refine wpLx_calm rfl rfl rfl (fun K hK => ?_); go_step <;> (refine hK _ ?_; clear hK K)) | (refine wpLx_skip2 rfl rfl rfl ?_; go_simp) | (refine wpLx_calm2 rfl rfl rfl rfl rfl (fun K hK => ?_); go_step <;> (refine hK _ ?_; clear hK K)))); all_goals (refine wpLx_nil ?_; try go_wp2_with fail))))
    go_ret2
    exact ⟨((Upd.refl _ _).alloc _).drew, a, c, by rw [HOUT.out.2, HOUT.out.1]; rfl, by rw [HOUT.out.1]; exact HB.out.new ((Upd.refl _ _).alloc _).drew⟩
set_option maxRecDepth 100000 in
set_option maxHeartbeats 2000000 in
theorem specPut1 {w : World} {a a' : Option Addr} {bs : List UInt8} {c c' : Nat} {r : Int} {ps : List (List UInt8)} (G : PutG w a a' bs c c' r ps) :
    Calls Tryd.prog 25 #[.agg #[.int .i64 1, .slice a bs.length c, .int .i32 r, .slice a' ps.length c']] w (Ret (SpecPutP ⟨1, bs, r, ps⟩ w)) := by
  have hbc := G.b.1
  have hbm := G.b.2.1
  unfold maxLen at hbm
  cases bs with
  | nil =>
    clear G
    go_enter Tryd.func25, Tryd.ntmps25
    go_wp2
    go_ret2
    exact ⟨((Upd.refl _ _).alloc _).alloc _, _, _, rfl, bytes_cellsW (bs := [0]) (heap_alloc2_new _ _ _) (by decide)⟩
  | cons x0 bs =>
    obtain ⟨pb, po, rfl⟩ : ∃ pb po, a = some ⟨pb, po, none⟩ := (by
      cases a with
      | none => have := G.b.1; have := G.b.2.2.1 rfl; simp at *; omega
      | some p =>
        obtain ⟨h1, h2⟩ := G.b.2.2.2 p rfl
        obtain ⟨pb, po, s⟩ := p
        have h1 : s = none := h1 (by simp)
        subst h1
        exact ⟨pb, po, rfl⟩)
    have HB := Lib.hid (G.b.take 1)
    have hc1 : 1 ≤ c := (by simp at hbc; omega)
    have hc2 : ¬ c < 1 := (by omega)
    have hc3 : ¬ c = 0 := (by omega)
    clear G
    go_enter Tryd.func25, Tryd.ntmps25
    go_wp2
    go_ret2
    exact ⟨(Upd.refl _ _).alloc _, _, _, rfl, HB.out.new ((Upd.refl _ _).alloc _)⟩
set_option maxRecDepth 100000 in
set_option maxHeartbeats 2000000 in
theorem specPut2 {w : World} {a a' : Option Addr} {bs : List UInt8} {c c' : Nat} {r : Int} {ps : List (List UInt8)} (G : PutG w a a' bs c c' r ps) :
    Calls Tryd.prog 25 #[.agg #[.int .i64 2, .slice a bs.length c, .int .i32 r, .slice a' ps.length c']] w (Ret (SpecPutP ⟨2, bs, r, ps⟩ w)) := by
  have KE := Lib.hid (fun wx => specEncoded (w := wx) G.r)
  clear G
  go_enter Tryd.func25, Tryd.ntmps25
  go_wp2_with (go_at_call 49; refine callRet (KE.out _) ?_; intro v w2 h2; have H2 := Lib.hid h2.1; obtain ⟨g, cp, rfl, _, _, hgb⟩ := h2.bytes; have HGB := Lib.hid hgb; clear h2 hgb)
  go_ret2
  exact ⟨((Upd.refl _ _).alloc _).andNew H2.out, _, _, rfl, HGB.out⟩
set_option maxRecDepth 100000 in
set_option maxHeartbeats 2000000 in
theorem specPut5 {w : World} {a a' : Option Addr} {bs : List UInt8} {c c' : Nat} {r : Int} {ps : List (List UInt8)} (G : PutG w a a' bs c c' r ps) :
    Calls Tryd.prog 25 #[.agg #[.int .i64 5, .slice a bs.length c, .int .i32 r, .slice a' ps.length c']] w (Ret (SpecPutP ⟨5, bs, r, ps⟩ w)) := by
  have hsrc := G.s
  unfold srcOk at hsrc
  simp only [Bool.and_eq_true, decide_eq_true_eq] at hsrc
  obtain ⟨⟨hs1, hs2⟩, hs3⟩ := hsrc
  rw [← lensum_flatten] at hs1
  have KE := Lib.hid (fun wx (hx : New w wx) => specJoined a' c' ps wx (G.p.new hx) (by omega))
  have hout : (⟨5, bs, r, ps⟩ : PutS).out = ps.flatten ∧ (⟨5, bs, r, ps⟩ : PutS).num = ps.flatten.length := ⟨rfl, rfl⟩
  obtain ⟨fl, hfl⟩ : ∃ fl, ps.flatten = fl := ⟨_, rfl⟩
  rw [hfl] at KE hout
  have HOUT := Lib.hid hout
  clear G hs1 hs2 hs3 hfl hout
  go_enter Tryd.func25, Tryd.ntmps25
  go_wp2_with (go_at_call 11; refine callRet (KE.out _ ((Upd.refl _ _).alloc _)) ?_; intro v w2 h2; have H2 := Lib.hid h2.1; obtain ⟨g, cp, rfl, _, _, hgb⟩ := h2.bytes; have HGB := Lib.hid hgb; clear h2 hgb)
  go_ret2
  exact ⟨((Upd.refl _ _).alloc _).andNew H2.out, _, cp, by rw [HOUT.out.2, HOUT.out.1]; rfl, by rw [HOUT.out.1]; exact HGB.out⟩
set_option maxRecDepth 100000 in
set_option maxHeartbeats 2000000 in
theorem specPutN {w : World} {v1 v3 : Value} {bs : List UInt8} {r : Int} {ps : List (List UInt8)} {k : Int} (hk : k = 4 ∨ k = 6 ∨ k = 7 ∨ k = 8) :
    Calls Tryd.prog 25 #[.agg #[.int .i64 k, v1, .int .i32 r, v3]] w (Ret (SpecPutP ⟨k, bs, r, ps⟩ w)) := by
  have hout : ∀ k, (k = 4 ∨ k = 6 ∨ k = 7 ∨ k = 8) → (⟨k, bs, r, ps⟩ : PutS).out = [] ∧ (⟨k, bs, r, ps⟩ : PutS).num = 0 := by
    rintro k (rfl | rfl | rfl | rfl) <;> exact ⟨rfl, rfl⟩
  have HOUT := Lib.hid (hout k hk)
  clear hout
  rcases hk with rfl | rfl | rfl | rfl
  all_goals
    go_enter Tryd.func25, Tryd.ntmps25
    go_wp2
    go_ret2
    exact ⟨(Upd.refl _ _).alloc _, none, 0, by rw [HOUT.out.2, HOUT.out.1]; rfl, by rw [HOUT.out.1]; exact bytes_none _⟩
/-- what a step writes -/
theorem specPut {w : World} {x : PutS} {v1 v3 : Value} (h : PutV w v1 v3 x) (hg : goodP x = true) : Calls Tryd.prog 25 #[x.v v1 v3] w (Ret (SpecPutP x w)) := by
  obtain ⟨⟨a, c, rfl, hb⟩, a', c', rfl, hp⟩ := h
  obtain ⟨k, bs, r, ps⟩ := x
  unfold goodP okP at hg
  simp only [Bool.and_eq_true, Bool.or_eq_true, decide_eq_true_eq] at hg
  obtain ⟨⟨hk0, hk8⟩, ⟨⟨⟨hbl, hr0⟩, hr1⟩, hr2⟩, hs⟩ := hg
  have G : PutG w a a' bs c c' r ps := ⟨hb, hp, hbl, ⟨hr0, hr1, hr2⟩, hs⟩
  unfold PutS.v
  have hk0 : 0 ≤ k := hk0
  have hk8 : k ≤ 8 := hk8
  obtain ⟨n, rfl⟩ := Int.eq_ofNat_of_zero_le hk0
  match n, hk8 with
  | 0, _ => exact specPutB G (.inl rfl)
  | 1, _ => exact specPut1 G
  | 2, _ => exact specPut2 G
  | 3, _ => exact specPutB G (.inr rfl)
  | 4, _ => exact specPutN (.inl rfl)
  | 5, _ => exact specPut5 G
  | 6, _ => exact specPutN (.inr (.inl rfl))
  | 7, _ => exact specPutN (.inr (.inr (.inl rfl)))
  | 8, _ => exact specPutN (.inr (.inr (.inr rfl)))
  | n + 9, h => omega
theorem NewB.newB {w w1 w2 : World} {v : Value} {bs : List UInt8} (h : NewB w w1 v bs) (u : New w1 w2) : NewB w w2 v bs := by
  obtain ⟨h1, g, cp, hv, ho⟩ := h
  exact ⟨h1.andNew u, g, cp, hv, ownsRow_new ho u⟩
theorem allOut_take_succ {xs : List PutS} {k : Nat} (h : k < xs.length) : allOut (xs.take (k + 1)) = allOut (xs.take k) ++ xs[k].out := by
  rw [List.take_succ_eq_append_getElem h, allOut_snoc]
set_option maxRecDepth 100000 in
set_option maxHeartbeats 2000000 in
/-- what steps write -/
theorem specAll {w : World} {a : Option Addr} {c : Nat} {xs : List PutS} (h : PutsA w a c xs) (hl : xs.length ≤ 100) (hg : ∀ x ∈ xs, goodP x = true) : Calls Tryd.prog 22 #[.slice a xs.length c] w (Ret fun v w' => NewB w w' v (allOut xs)) := by
  have h1 := h.1
  have h2 := h.2.1
  unfold maxLen at h2
  have HS := Lib.hid h
  have HG := Lib.hid hg
  have h0 : Hid (NewB w (w.alloc (.cells #[] 5)) (.slice (some ⟨w.heap.size, 0, none⟩) 0 0) []) :=
    ⟨(Upd.refl _ _).alloc _, w.heap.size, 0, rfl, World.ownsRow_made w #[] 0 (Nat.le_refl _) (Nat.zero_le _) rfl⟩
  clear h hg
  go_enter Tryd.func22, Tryd.ntmps22
  go_wp2_with fail
  go_loopw [3, 11] (fun v i wr => ∃ k : Nat, k ≤ xs.length ∧ i = .int .i64 (k : Int) ∧ NewB w wr v (allOut (xs.take k))) (fun _ i _ => xs.length - (intOf i).toNat)
  case atStart => exact ⟨0, Nat.zero_le _, rfl, h0.out⟩
  case round =>
    obtain ⟨k, hkn, rfl, hnb⟩ := hrel
    have HNB := Lib.hid hnb
    by_cases hlt : k < xs.length
    · obtain ⟨b, o, v1, v3, rfl, hbl, e0, e1, e2, e3, hv⟩ := (HS.out.new hnb.1).at hlt
      obtain ⟨_, g, cp, rfl, _⟩ := hnb
      obtain ⟨x, hx⟩ : ∃ x, xs[k] = x := ⟨_, rfl⟩
      rw [hx] at e0 e2 hv
      have hgx : goodP x = true := HG.out x (by rw [← hx]; exact List.getElem_mem _)
      have HT : Hid (allOut (xs.take (k + 1)) = allOut (xs.take k) ++ x.out) := by rw [Hid, allOut_take_succ hlt, hx]
      have hal := allOut_le (xs.take k) (fun y hy => HG.out y (List.mem_of_mem_take hy))
      rw [List.length_take] at hal
      have hal2 : (allOut (xs.take k)).length + x.out.length ≤ 4000000 := by have := PutS.out_le hgx; omega
      obtain ⟨al, hal3⟩ : ∃ al, allOut (xs.take k) = al := ⟨_, rfl⟩
      rw [hal3] at HT HNB hal2 ⊢
      obtain ⟨xo, hxo⟩ : ∃ xo, x.out = xo := ⟨_, rfl⟩
      have KP := Lib.hid (fun wx (hn : New wr wx) => specPut (x := x) (v1 := v1) (v3 := v3) (hv.new hn) hgx)
      unfold SpecPutP at KP
      rw [hxo] at KP HT hal2
      obtain ⟨nm, hnm⟩ : ∃ nm, x.num = nm := ⟨_, rfl⟩
      rw [hnm] at KP
      obtain ⟨⟨a1, c1, rfl, _⟩, a3, c3, rfl, _⟩ := hv
      have HAL := Lib.hid hal2
      clear hx hgx hal hal2 hal3 hxo hnm
      obtain ⟨kx, bs, r, ps⟩ := x
      unfold PutS.v at KP
      simp only at e0 e2 KP
      go_wp2_with (first | (go_at_call 25; refine callRet (KP.out _ ((Upd.refl _ _).alloc _)) ?_; rintro v w3 ⟨hn3, a5, c5, rfl, hb5⟩; have HB5 := Lib.hid hb5; have HNB3 := Lib.hid (HNB.out.newB (((Upd.refl _ _).alloc _).andNew hn3)); clear hn3 hb5; obtain ⟨xl, hxl⟩ : ∃ xl, xo.length = xl := ⟨_, rfl⟩; have HXL := Lib.hid hxl; rw [hxl]; clear hxl) | (at_builtin; refine wpList_plain rfl (fun K hK => ?_); refine wp_append eB _ _ rfl w.heap.size _ _ _ rfl HNB3.out.2.choose_spec.choose_spec.2 a5 xl c5 (xo.map bv) rfl (by rw [List.length_map, HXL.out, Nat.mul_one]) (fun hn => by have := HB5.out.1; have := HB5.out.2.2.1 hn; have := HXL.out; omega) (fun p hp => by have := HB5.out; subst hp; exact this.news) (oneCell_bytes _) (by have := HAL.out; have := HXL.out; unfold maxLen; omega) (by have := HAL.out; have := HXL.out; omega) HNB3.out.1.size ?_; intro v4 w4 h3 h4 h5; have HNEW := Lib.hid (HNB3.out.grow HXL.out h3 h4 h5); refine hK _ _ ?_; clear hK K h3 h4 h5))
      go_roundw
      case rel => exact ⟨k + 1, by omega, by go_num, by rw [HT.out]; exact HNEW.out⟩
      case measure => simp [intOf]; omega
    · obtain rfl : k = xs.length := by omega
      rw [List.take_length] at HNB
      clear hnb
      go_wp2_with fail
      go_ret
      exact HNB.out
end Go.Proofs.YtgbbogocfmepiaaDoor
