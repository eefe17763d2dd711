/- (*impl.sink).Write. -/
import Derived.Test.YtgbbogocfmepiaaDoorWr
namespace Go.Proofs.YtgbbogocfmepiaaDoor
open Go.RowKit
theorem Snk.setRoom {w : World} {base s : Nat} {room : Int} {ov : Value} {out : List UInt8} (h : Snk w base s room ov out) (x : Int) : Snk (w.setCell ⟨s, 0, none⟩ (.int .i64 x)) base s x ov out := by
  have hne : ov.ownBlock ≠ some s := fun e => by obtain ⟨_, _, cur, h2⟩ := h.lt e; have h1 := h.hs; rw [h1] at h2; simp at h2
  refine ⟨by rw [World.heap_setCell_self h.hs]; rfl, h.own.1, ?_⟩
  rcases h.own.2 with h1 | ⟨g, cap, cur, hv, hb, hg, r⟩
  · exact .inl h1
  · exact .inr ⟨g, cap, cur, hv, hb, ((Upd.refl (fun k => k = s) w).setCell (p := ⟨s, 0, none⟩) (fun _ => rfl) _).heap hg (fun hh => hne (by rw [hv]; exact congrArg some hh)), r⟩
theorem Snk.grown {w w1 : World} {base s n m : Nat} {room : Int} {ov ov' : Value} {out cs : List UInt8} (h : Snk w base s room ov out) (hn : out.length = n) (hm : cs.length = m) (ho : w1.ownsRow base 5 1 ov' (n + m) (out.map bv ++ cs.map bv)) (hg : w.grownBy w1 ov.ownBlock) (hst : ∀ k, ov'.ownBlock = some k → ov.ownBlock = some k ∨ w.heap.size ≤ k) :
    Snk (w1.setCell ⟨s, 1, none⟩ ov') base s room ov' (out ++ cs) ∧ Upd (SM s ov) w (w1.setCell ⟨s, 1, none⟩ ov') ∧ Stay w ov ov' := by
  have hne : ov.ownBlock ≠ some s := fun e => by obtain ⟨_, _, cur, h2⟩ := h.lt e; have h1 := h.hs; rw [h1] at h2; simp at h2
  have hu1 : Upd (SM s ov) w w1 := (Upd.refl _ _).grown hg (fun k hk _ => .inr hk)
  have hs1 : w1.heap[s]? = some (.cells #[.int .i64 room, ov] 84 (0, 0)) := ((Upd.refl (fun k => ov.ownBlock = some k) w).grown hg (fun k hk _ => hk)).heap h.hs hne
  refine ⟨⟨by rw [World.heap_setCell_self hs1]; rfl, by rw [List.length_append, hn, hm, ← List.map_append] at *; exact ho.1, ?_⟩, hu1.setCell (fun _ => .inl rfl) _, hst⟩
  rcases ho.2 with h1 | ⟨g, cap, cur, hv, hb, hg', r⟩
  · exact .inl (by rw [List.length_append, hn, hm]; exact h1)
  · refine .inr ⟨g, cap, cur, by rw [List.length_append, hn, hm]; exact hv, hb, ?_, by rw [List.length_append, hn, hm, List.map_append]; exact r⟩
    refine ((Upd.refl (fun k => k = s) w1).setCell (p := ⟨s, 1, none⟩) (fun _ => rfl) _).heap hg' (fun hh => ?_)
    have hh : g = s := hh
    rw [hh, hs1] at hg'
    simp at hg'
theorem sink_fin {w w0 w1 : World} {base s on k : Nat} {room : Int} {ov ov' : Value} {out bs : List UInt8} (h : Snk w0 base s (roomOf room bs.length) ov out) (hu : Upd (SM s ov) w w0) (hk : takes room bs.length = k) (hkl : k ≤ bs.length) (hon : out.length = on)
    (ho : w1.ownsRow base 5 1 ov' (on + k) (out.map bv ++ (bs.take k).map bv)) (hg : w0.grownBy w1 ov.ownBlock) (hst : ∀ k, ov'.ownBlock = some k → ov.ownBlock = some k ∨ w0.heap.size ≤ k) :
    SinkPost base s room ov out bs w (.tuple #[.int .i64 (k : Int), errW (decide (k < bs.length))]) (w1.setCell ⟨s, 1, none⟩ ov') := by
  obtain ⟨r1, r2, r3⟩ := h.grown hon (by rw [List.length_take]; omega) ho hg hst
  subst hk
  exact ⟨rfl, ov', r1, hu.trans r2 (fun k hk _ => hk), fun k hk => by rcases r3 k hk with q | q; exact .inl q; exact .inr (Nat.le_trans hu.size q)⟩
/-- the cell of the sink's bytes, behind an append -/
theorem Snk.cellsG {w w1 : World} {base s : Nat} {room : Int} {ov : Value} {out : List UInt8} (h : Snk w base s room ov out) (hg : w.grownBy w1 ov.ownBlock) : w1.frozen? ⟨s, 1, none⟩ = false ∧ w1.cell? ⟨s, 1, none⟩ = some ov := by
  have hne : ov.ownBlock ≠ some s := fun e => by obtain ⟨_, _, cur, h2⟩ := h.lt e; have h1 := h.hs; rw [h1] at h2; simp at h2
  have hs1 : w1.heap[s]? = some (.cells #[.int .i64 room, ov] 84 (0, 0)) := ((Upd.refl (fun k => ov.ownBlock = some k) w).grown hg (fun k hk _ => hk)).heap h.hs hne
  exact ⟨World.frozen_of_heap hs1 1, by rw [World.cell_of_heap hs1]; rfl⟩
theorem row_slice {w : World} {base e n : Nat} {v : Value} {xs : List Value} (h : w.ownsRow base e 1 v n xs) : ∃ a m c, v = .slice a m c := by
  rcases h.2 with ⟨h1, _⟩ | ⟨g, cap, cur, hv, _⟩
  · exact ⟨_, _, _, h1⟩
  · exact ⟨_, _, _, hv⟩
/-- the sink's bytes are a slice -/
theorem Snk.ovS {w : World} {base s : Nat} {room : Int} {ov : Value} {out : List UInt8} (h : Snk w base s room ov out) : ∃ a n c, ov = .slice a n c := row_slice h.own
set_option maxRecDepth 100000 in
set_option maxHeartbeats 2000000 in
theorem sinkWrite {w : World} {base s c : Nat} {room : Int} {ov : Value} {out bs : List UInt8} {p : Addr} (h : Snk w base s room ov out) (hbase : base ≤ w.heap.size) (hp : BytesA w (some p) c bs) (hne : bs ≠ []) (hps : p.block ≠ s)
    (hroom : -1 ≤ room ∧ room ≤ 65535) (hl : out.length + bs.length ≤ 1000000000) :
    Calls Tryd.prog 98 #[.pointer (some ⟨s, 0, none⟩), .slice (some p) bs.length c] w (Ret (SinkPost base s room ov out bs w)) := by
  have l1 := hp.1
  have l2 := hp.2.1
  unfold maxLen at l2
  obtain ⟨pb, po, psp⟩ := p
  obtain rfl : psp = none := (hp.2.2.2 _ rfl).1 hne
  obtain ⟨on, hon⟩ : ∃ on, out.length = on := ⟨_, rfl⟩
  have c0 : w.cell? ⟨s, 0, none⟩ = some (.int .i64 room) := by rw [World.cell_of_heap h.hs]; rfl
  have c1 : w.cell? ⟨s, 1, none⟩ = some ov := by rw [World.cell_of_heap h.hs]; rfl
  have hf : ∀ i, w.frozen? ⟨s, i, none⟩ = false := fun i => World.frozen_of_heap h.hs i
  have H := Lib.hid h
  have HP := Lib.hid hp
  have HON := Lib.hid hon
  have HB := Lib.hid hbase
  have hlen := List.length_pos_iff.2 hne
  rw [hon] at hl
  have body : ∀ (w0 : World) (r : Int) (k : Nat), takes room bs.length = k → k ≤ bs.length → roomOf room bs.length = r → Snk w0 base s r ov out → Upd (SM s ov) w w0 → w.heap.size ≤ w0.heap.size → ∀ (w1 : World) (ov' : Value), w1.ownsRow base 5 1 ov' (on + k) (out.map bv ++ (bs.take k).map bv) → w0.grownBy w1 ov.ownBlock → (∀ k, ov'.ownBlock = some k → ov.ownBlock = some k ∨ w0.heap.size ≤ k) → SinkPost base s room ov out bs w (.tuple #[.int .i64 (k : Int), errW (decide (k < bs.length))]) (w1.setCell ⟨s, 1, none⟩ ov') := by
    intro w0 r k hk hkl hr hs hu _ w1 ov' q1 q2 q3
    exact sink_fin (by rw [hr]; exact hs) hu hk hkl hon q1 q2 q3
  have hnew : ∀ w0 : World, New w w0 → Snk w0 base s room ov out ∧ Upd (SM s ov) w w0 := fun w0 hn => ⟨h.upd hn (fun _ hh _ => hh), hn.mono (fun _ hh _ => hh.elim)⟩
  have hset : ∀ (r : Int) (w0 : World), New (w.setCell ⟨s, 0, none⟩ (.int .i64 r)) w0 → Snk w0 base s r ov out ∧ Upd (SM s ov) w w0 := fun r w0 hn => ⟨(h.setRoom r).upd hn (fun _ hh _ => hh), ((Upd.refl (SM s ov) w).setCell (p := ⟨s, 0, none⟩) (fun _ => .inl rfl) _).andNew hn⟩
  have hpset : ∀ (r : Int) (w0 : World), New (w.setCell ⟨s, 0, none⟩ (.int .i64 r)) w0 → BytesA w0 (some ⟨pb, po, none⟩) c bs := fun r w0 hn => (hp.upd ((Upd.refl (fun k => k = s) w).setCell (p := ⟨s, 0, none⟩) (fun _ => rfl) _) (fun p hp _ hh => by simp only [Option.some.injEq] at hp; subst hp; exact hps hh)).new hn
  have BODY := Lib.hid body
  obtain ⟨n, hn⟩ : ∃ n, bs.length = n := ⟨_, rfl⟩
  have HN := Lib.hid hn
  obtain ⟨oa, ol, oc, rfl⟩ := h.ovS
  by_cases h0 : room < 0
  · have ht : takes room bs.length = n := by rw [hn]; exact if_pos h0
    have hr : roomOf room bs.length = room := if_pos h0
    obtain ⟨hd1, hd2⟩ := hnew w.drew (Upd.refl _ _).drew
    have hfin := body w.drew room n ht (by omega) hr hd1 hd2 (Nat.le_refl _)
    rw [decide_eq_false (by omega), show bs.take n = bs by rw [← hn, List.take_length]] at hfin
    have HFIN := Lib.hid hfin
    have HD := Lib.hid hd1
    have HPD := Lib.hid (hp.new (Upd.refl _ _).drew)
    rw [hn] at hl l1 hlen ⊢
    clear h hp hbase ht hr hfin hon hn hne body hnew hset hpset hd1 hd2 BODY
    go_enter Tryd.func98, Tryd.ntmps98
    go_wp2
    refine wp_region_lx {} (by kernel_rfl) (by kernel_rfl) ⟨fun _ _ _ h => h.2, fun _ _ h => h⟩ ?_
    (repeat' (first | (refine wpLx_calm rfl rfl rfl (fun K hK => ?_); go_step <;> (refine hK _ ?_; clear hK K)) | (refine wpLx_skip2 rfl rfl rfl ?_; go_simp) | (refine wpLx_calm2 rfl rfl rfl rfl rfl (fun K hK => ?_); go_step <;> (refine hK _ ?_; clear hK K))))
    refine wpLx_eff rfl rfl rfl (fun K hK => ?_)
    refine wp_appendB eB (.tmp 32) (.tmp 35) rfl base _ on (out.map bv) rfl (by have := HD.out.own; rw [HON.out] at this; exact this) ⟨pb, po, none⟩ n c (bs.map bv) rfl (by rw [List.length_map, HN.out]) HPD.out.news (oneCell_bytes _) (by unfold maxLen; omega) (by omega) HB.out ?_
    intro v' w' h1 h2 h3
    obtain ⟨va, vn, vc, rfl⟩ := row_slice h1
    have HF := Lib.hid (HFIN.out w' _ h1 h2 h3)
    obtain ⟨e1, e2⟩ := HD.out.cellsG h2
    refine hK _ _ ?_
    clear hK K h1 h2 h3
    (repeat' (first | (refine wpLx_calm rfl rfl rfl (fun K hK => ?_); go_step <;> (refine hK _ ?_; clear hK K)) | (refine wpLx_skip2 rfl rfl rfl ?_; go_simp) | (refine wpLx_calm2 rfl rfl rfl rfl rfl (fun K hK => ?_); go_step <;> (refine hK _ ?_; clear hK K))))
    refine wpLx_eff rfl rfl rfl (fun K hK => ?_)
    go_step
    refine hK _ _ ?_
    clear hK K
    refine wpLx_nil ?_
    go_wp2
    go_ret2
    exact HF.out
  · have hr0 : 0 ≤ room := by omega
    obtain ⟨rn, rfl⟩ := Int.eq_ofNat_of_zero_le hr0
    have hnn : ¬ ((rn : Int) < 0) := by omega
    by_cases hfit : n ≤ rn
    · have ht : takes (rn : Int) bs.length = n := by unfold takes; rw [if_neg hnn, hn]; show min n rn = n; omega
      have hr : roomOf (rn : Int) bs.length = (rn : Int) - (n : Int) := by unfold roomOf; rw [if_neg hnn, ht]
      obtain ⟨hd1, hd2⟩ := hset ((rn : Int) - (n : Int)) _ (Upd.refl _ _).drew
      have hfin := body _ _ n ht (by omega) hr hd1 hd2 (by simp)
      rw [decide_eq_false (by omega), show bs.take n = bs by rw [← hn, List.take_length]] at hfin
      have HFIN := Lib.hid hfin
      have HD := Lib.hid hd1
      have HPD := Lib.hid (hpset ((rn : Int) - (n : Int)) _ (Upd.refl _ _).drew)
      have hmin : min (n : Int) (rn : Int) = (n : Int) := by omega
      have HB2 : Hid (base ≤ (w.setCell ⟨s, 0, none⟩ (.int .i64 ((rn : Int) - (n : Int)))).drew.heap.size) := by rw [Hid]; simp; exact hbase
      rw [hn] at hl l1 hlen ⊢
      clear h hp hbase ht hr hfin hon hn hne body hnew hset hpset hd1 hd2 BODY
      go_enter Tryd.func98, Tryd.ntmps98
      go_wp2
      refine wp_region_lx {} (by kernel_rfl) (by kernel_rfl) ⟨fun _ _ _ h => h.2, fun _ _ h => h⟩ ?_
      (repeat' (first | (refine wpLx_calm rfl rfl rfl (fun K hK => ?_); go_step <;> (refine hK _ ?_; clear hK K)) | (refine wpLx_skip2 rfl rfl rfl ?_; go_simp) | (refine wpLx_calm2 rfl rfl rfl rfl rfl (fun K hK => ?_); go_step <;> (refine hK _ ?_; clear hK K))))
      refine wpLx_eff rfl rfl rfl (fun K hK => ?_)
      refine wp_appendB eB (.tmp 32) (.tmp 35) rfl base _ on (out.map bv) rfl (by have := HD.out.own; rw [HON.out] at this; exact this) ⟨pb, po, none⟩ n c (bs.map bv) rfl (by rw [List.length_map, HN.out]) HPD.out.news (oneCell_bytes _) (by unfold maxLen; omega) (by omega) HB2.out ?_
      intro v' w' h1 h2 h3
      obtain ⟨va, vn, vc, rfl⟩ := row_slice h1
      have HF := Lib.hid (HFIN.out w' _ h1 h2 h3)
      obtain ⟨e1, e2⟩ := HD.out.cellsG h2
      refine hK _ _ ?_
      clear hK K h1 h2 h3
      (repeat' (first | (refine wpLx_calm rfl rfl rfl (fun K hK => ?_); go_step <;> (refine hK _ ?_; clear hK K)) | (refine wpLx_skip2 rfl rfl rfl ?_; go_simp) | (refine wpLx_calm2 rfl rfl rfl rfl rfl (fun K hK => ?_); go_step <;> (refine hK _ ?_; clear hK K))))
      refine wpLx_eff rfl rfl rfl (fun K hK => ?_)
      go_step
      refine hK _ _ ?_
      clear hK K
      refine wpLx_nil ?_
      go_wp2
      go_ret2
      exact HF.out
    · have ht : takes (rn : Int) bs.length = rn := by unfold takes; rw [if_neg hnn, hn]; show min n rn = rn; omega
      have hr : roomOf (rn : Int) bs.length = 0 := by unfold roomOf; rw [if_neg hnn, ht]; omega
      obtain ⟨hd1, hd2⟩ := hset 0 _ (Upd.refl _ _).drew
      have hfin := body _ _ rn ht (by omega) hr hd1 hd2 (by simp)
      rw [decide_eq_true (by omega)] at hfin
      have HFIN := Lib.hid hfin
      have HD := Lib.hid hd1
      have HPD := Lib.hid (hpset 0 _ (Upd.refl _ _).drew)
      have hmin : min (n : Int) (rn : Int) = (rn : Int) := by omega
      have hsub : (rn : Int) - (rn : Int) = 0 := by omega
      have HB2 : Hid (base ≤ (w.setCell ⟨s, 0, none⟩ (.int .i64 0)).drew.heap.size) := by rw [Hid]; simp; exact hbase
      have HTL : Hid ((bs.take rn).length = rn) := by rw [Hid, List.length_take]; omega
      rw [hn] at hl l1 hlen ⊢
      clear h hp hbase ht hr hfin hon hn hne body hnew hset hpset hd1 hd2 BODY
      go_enter Tryd.func98, Tryd.ntmps98
      go_wp2
      refine wp_region_lx {} (by kernel_rfl) (by kernel_rfl) ⟨fun _ _ _ h => h.2, fun _ _ h => h⟩ ?_
      (repeat' (first | (refine wpLx_calm rfl rfl rfl (fun K hK => ?_); go_step <;> (refine hK _ ?_; clear hK K)) | (refine wpLx_skip2 rfl rfl rfl ?_; go_simp) | (refine wpLx_calm2 rfl rfl rfl rfl rfl (fun K hK => ?_); go_step <;> (refine hK _ ?_; clear hK K))))
      refine wpLx_eff rfl rfl rfl (fun K hK => ?_)
      refine wp_appendB eB (.tmp 32) (.tmp 35) rfl base _ on (out.map bv) rfl (by have := HD.out.own; rw [HON.out] at this; exact this) ⟨pb, po, none⟩ rn c ((bs.take rn).map bv) rfl (by rw [List.length_map, HTL.out]) (HPD.out.take rn).news (oneCell_bytes _) (by unfold maxLen; omega) (by omega) HB2.out ?_
      intro v' w' h1 h2 h3
      obtain ⟨va, vn, vc, rfl⟩ := row_slice h1
      have HF := Lib.hid (HFIN.out w' _ h1 h2 h3)
      obtain ⟨e1, e2⟩ := HD.out.cellsG h2
      refine hK _ _ ?_
      clear hK K h1 h2 h3
      (repeat' (first | (refine wpLx_calm rfl rfl rfl (fun K hK => ?_); go_step <;> (refine hK _ ?_; clear hK K)) | (refine wpLx_skip2 rfl rfl rfl ?_; go_simp) | (refine wpLx_calm2 rfl rfl rfl rfl rfl (fun K hK => ?_); go_step <;> (refine hK _ ?_; clear hK K))))
      refine wpLx_eff rfl rfl rfl (fun K hK => ?_)
      go_step
      refine hK _ _ ?_
      clear hK K
      refine wpLx_nil ?_
      go_wp2
      go_ret2
      exact HF.out
end Go.Proofs.YtgbbogocfmepiaaDoor
