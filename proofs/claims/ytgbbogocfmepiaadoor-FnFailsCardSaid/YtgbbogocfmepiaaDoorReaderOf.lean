/- impl.readerOf: a reader with a copy of all pieces. -/
import Derived.Test.YtgbbogocfmepiaaDoorSrc
namespace Go.Proofs.YtgbbogocfmepiaaDoor
open Go.RowKit
theorem World.news_of_block' {w : World} {B : Nat} {cs : Array Value} {t : TypeId} {fr : Nat × Nat} (hb : w.heap[B]? = some (.cells cs t fr)) : ∀ j u, cs.toList[j]? = some u → w.cell? ((⟨B, 0, none⟩ : Addr).add j) = some u := fun j u hu => by
  have hadd : (⟨B, 0, none⟩ : Addr).add j = ⟨B, j, none⟩ := by unfold Addr.add; split <;> simp_all
  rw [hadd, World.cell_of_heap hb]
  simpa using hu
/-- while the pieces are copied -/
def Making (w wr : World) (f : Bool) (ps : List (List UInt8)) : Prop :=
  New w wr ∧ ∃ pv, wr.heap[w.heap.size + 1]? = some (.cells #[pv, .bool f] 99 (0, 0)) ∧ RowK w wr pv ps
theorem RowK.of_upd {w0 w w1 : World} {M : Nat → Prop} {pv : Value} {ps : List (List UInt8)} (h : RowK w0 w pv ps) (u : Upd M w w1) (hrow : ∀ k cur, M k → w.heap[k]? = some (.cells cur 29 (0, 0)) → False)
    (hpc : ∀ k cur, M k → w.heap[k]? = some (.cells cur 5 (0, 0)) → False) : RowK w0 w1 pv ps := by
  obtain ⟨vs, hl, ho, hp⟩ := h
  refine ⟨vs, hl, ⟨ho.1, ?_⟩, fun i hi => ?_⟩
  · rcases ho.2 with h | ⟨g, cap, cur, hv, hb, hg, r⟩
    · exact .inl h
    · exact .inr ⟨g, cap, cur, hv, hb, u.heap hg (fun hm => hrow g cur hm hg), r⟩
  · obtain ⟨v, hv, q⟩ := hp i hi
    exact ⟨v, hv, (q.upd u (fun k cur hm _ _ hh => hpc k cur hm hh)).mono u.size⟩
set_option maxHeartbeats 1000000 in
theorem readerOf (a : Option Addr) (c : Nat) (ps : List (List UInt8)) (f : Bool) (w : World) (h : PiecesA w a c ps) (hl : ps.flatten.length ≤ 1048576) (hn : ps.length ≤ 1048576) :
    Calls Tryd.prog 31 #[.agg #[.slice a ps.length c, .bool f]] w (Ret fun v w' => New w w' ∧ ∃ s, v = .pointer (some ⟨s, 0, none⟩) ∧ Src w' w.heap.size w'.heap.size s ps f) := by
  have h1 := h.1
  have h2 := h.2.1
  unfold maxLen at h2
  have H := Lib.hid h
  have h0 : Hid (Making w ((w.alloc (.cells #[.slice a ps.length c, .bool f] 24)).alloc (.cells #[.slice none 0 0, .bool f] 99)) f []) := by
    refine ⟨((Upd.refl _ _).alloc _).alloc _, .slice none 0 0, by simpa using heap_alloc_new (w.alloc (.cells #[.slice a ps.length c, .bool f] 24)) (.cells #[.slice none 0 0, .bool f] 99), [], rfl, World.ownsRow_nil _ _ _ _, fun i hi => by simp at hi⟩
  clear h
  go_enter Tryd.func31, Tryd.ntmps31
  go_wp2
  go_loopw [13] (fun i wr => ∃ k : Nat, k ≤ ps.length ∧ i = .int .i64 k ∧ Making w wr f (ps.take k)) (fun i _ => ps.length - (intOf i).toNat)
  case atStart => exact ⟨0, Nat.zero_le _, rfl, by simpa using h0.out⟩
  case round =>
    obtain ⟨k, hk, rfl, hmk⟩ := hrel
    by_cases hlt : k < ps.length
    · have HM := Lib.hid hmk
      obtain ⟨hu, pv, hs, hrow⟩ := hmk
      obtain ⟨b, o, ai, ci, m, rfl, hm', hc, hb1, hb2, hby⟩ := (H.out.new hu).at hlt
      have c0 : wr.cell? ⟨w.heap.size + 1, 0, none⟩ = some pv := by rw [World.cell_of_heap hs]; rfl
      have HR := Lib.hid hrow
      have HS := Lib.hid hs
      have HU := Lib.hid hu
      have HB := Lib.hid hby
      have HMM := Lib.hid hm'
      clear hrow hs hu hby hm'
      go_wp2_with fail
      refine wp_region_lx { ld := [21], gd := [23, 24] } (by kernel_rfl) (by kernel_rfl) ⟨fun _ _ _ h => h.2, fun _ _ h => h⟩ ?_
      repeat (refine wpLx_calm rfl rfl rfl (fun K hK => ?_); go_step; refine hK _ ?_; clear hK K)
      refine wpLx_load rfl rfl (Upd.refl _ _) rfl rfl (by kernel_rfl) (show wr.drew.cell? ⟨w.heap.size + 1, 0, none⟩ = some pv from c0) ?_
      repeat (refine wpLx_calm rfl rfl rfl (fun K hK => ?_); go_step; refine hK _ ?_; clear hK K)
      refine wpLx_grow rfl rfl rfl (Upd.refl _ _) (fun K hK => ?_)
      go_step
      have hcop : Calls Tryd.prog 36 #[.slice ai m ci] wr.drew (Ret fun v w' => NewB wr.drew w' v ps[k]) := by
        rw [← HMM.out]
        refine copied _ _ _ _ (HB.out.new (Upd.refl _ _).drew) ?_
        have e1 := flatten_take_succ ps k hlt
        have e2 := lensum_take_le_all ps (k + 1)
        rw [e1, List.length_append] at e2
        omega
      refine callRet hcop ?_
      intro v w1 hv
      refine hK _ _ hv.1 ?_
      clear hK K hcop
      have hv' := hv
      obtain ⟨hvn, g, cp, hve, _⟩ := hv'
      have hvn' : New wr.drew w1 := hvn
      refine wpLx_grow rfl rfl rfl hvn' (fun K hK => ?_)
      rw [hve]
      go_step
      refine hK _ _ ((Upd.refl _ _).alloc _) ?_
      clear hK K
      subst hve
      have hR0 : RowK w wr.drew pv (ps.take k) := HR.out
      have hvs := hR0.choose_spec
      have hU2 : New wr.drew (w1.alloc (.cells #[.slice (some ⟨g, 0, none⟩) ps[k].length cp] 29)) := hvn.alloc _
      have hWU : New w (w1.alloc (.cells #[.slice (some ⟨g, 0, none⟩) ps[k].length cp] 29)) := HU.out.andNew ((Upd.refl _ _).drew.andNew hU2)
      have hown := ownsRow_new hvs.2.1 hU2
      have hkl : (ps.take k).length = k := by simp; omega
      refine wpLx_eff rfl rfl rfl (fun K hK => ?_)
      refine wp_append eP _ _ rfl w.heap.size pv _ _ rfl hown (some ⟨w1.heap.size, 0, none⟩) 1 1 [.slice (some ⟨g, 0, none⟩) ps[k].length cp] rfl rfl (fun h => by cases h) (fun p hp => by
          simp only [Option.some.injEq] at hp; subst hp
          exact World.news_of_block' (cs := #[.slice (some ⟨g, 0, none⟩) ps[k].length cp]) (t := 29) (fr := (0, 0)) (heap_alloc_new w1 _)) (by simp [Value.oneCell']) (by unfold maxLen; omega) (by omega) hWU.size ?_
      intro v' w3 h3 h4 h5
      refine hK _ _ ?_
      clear hK K
      have hne : v' ≠ .slice none 0 0 := fun hh => by have := (h5.1 hh).2; omega
      have hrow3 : RowK w w3 v' (ps.take k ++ [ps[k]]) := RowK.grow hR0 (HU.out.drew) hv ((Upd.refl _ _).alloc _) h3 h4
      have hs3 : w3.heap[w.heap.size + 1]? = some (.cells #[pv, .bool f] 99 (0, 0)) := by
        have e2 := hU2.heap (k := w.heap.size + 1) HS.out (fun h => h)
        rw [h4.block _ (Array.getElem?_eq_some_iff.1 e2).1 (fun hh => ?_)]
        · exact e2
        · rcases hvs.2.1.2 with ⟨hp, _⟩ | ⟨g', cap, cur', hp, _, hg', _⟩
          · rw [hp] at hh; simp [Value.ownBlock] at hh
          · rw [hp] at hh
            simp only [Value.ownBlock, Option.some.injEq] at hh
            rw [← hh] at hg'
            have e3 : wr.drew.heap[w.heap.size + 1]? = some (.cells #[pv, .bool f] 99 (0, 0)) := HS.out
            rw [hg'] at e3; simp at e3
      have hu3 : New w w3 := hWU.grown h4 (fun k hk hlt => by have := (hown.lt k hk).1; omega)
      have hform : ∃ g' cap', v' = .slice (some ⟨g', 0, none⟩) ((ps.take k).length + 1) cap' := by
        rcases h3.2 with ⟨hv, _⟩ | ⟨g', cap', cur', hv, _⟩
        · exact (hne hv).elim
        · exact ⟨g', cap', hv⟩
      obtain ⟨g', cap', hv'⟩ := hform
      rw [hkl] at hv'
      have c3 : w3.cell? ⟨w.heap.size + 1, 0, none⟩ = some pv := by rw [World.cell_of_heap hs3]; rfl
      have f3 : w3.frozen? ⟨w.heap.size + 1, 0, none⟩ = false := World.frozen_of_heap hs3 0
      have HR3 := Lib.hid hrow3
      have HS3 := Lib.hid hs3
      have HU3 := Lib.hid hu3
      clear h3 h4 h5 hne hrow3 hs3 hu3 hvs hR0 hU2 hWU hown hv hvn hvn' hkl c0
      rw [hv'] at HR3 ⊢
      clear hv' v'
      repeat (refine wpLx_calm rfl rfl rfl (fun K hK => ?_); go_step; refine hK _ ?_; clear hK K)
      refine wpLx_eff rfl rfl rfl (fun K hK => ?_)
      go_step
      refine hK _ _ ?_
      clear hK K
      refine wpLx_nil ?_
      have hmk' : Making w (w3.setCell ⟨w.heap.size + 1, 0, none⟩ (.slice (some ⟨g', 0, none⟩) (k + 1) cap')) f (ps.take (k + 1)) := by
        have hlt1 : w.heap.size < w.heap.size + 1 := Nat.lt_succ_self _
        refine ⟨HU3.out.setCell (fun hh => by have hh : w.heap.size + 1 < w.heap.size := hh; omega) _, .slice (some ⟨g', 0, none⟩) (k + 1) cap', ?_, ?_⟩
        · rw [World.heap_setCell_self HS3.out]; rfl
        · rw [List.take_succ_eq_append_getElem hlt]
          refine HR3.out.of_upd ((Upd.refl (fun k => k = w.heap.size + 1) w3).setCell (fun _ => rfl) _) (fun k' cur hk' hh => ?_) (fun k' cur hk' hh => ?_)
          · subst hk'; rw [HS3.out] at hh; simp at hh
          · subst hk'; rw [HS3.out] at hh; simp at hh
      have HMK := Lib.hid hmk'
      clear hmk' c3 f3 HR3 HS3 HU3
      go_wp2
      go_roundw
      case rel => exact ⟨k + 1, by omega, by go_num, HMK.out⟩
      case measure => simp [intOf]; omega
    · obtain rfl : k = ps.length := by omega
      rw [List.take_length] at hmk
      obtain ⟨hu, pv, hs, hrow⟩ := hmk
      have HU := Lib.hid hu
      have HS := Lib.hid hs
      have HR := Lib.hid hrow
      clear hu hs hrow
      go_wp2
      go_ret
      refine ⟨HU.out, w.heap.size + 1, rfl, by omega, ?_, pv, HS.out, HR.out.prow⟩
      exact (Array.getElem?_eq_some_iff.1 HS.out).1
end Go.Proofs.YtgbbogocfmepiaaDoor
