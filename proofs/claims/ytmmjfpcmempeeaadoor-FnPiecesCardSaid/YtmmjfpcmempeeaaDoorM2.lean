/- Texts of one kind, one behind the other. -/
import Derived.Test.YtmmjfpcmempeeaaDoorM1
import Derived.Deep.RegionHeld3
import Derived.Deep.DeepCutAuto
import Derived.Deep.LoopGhost
/- impl.reader: where a source stands, and its Read. -/
namespace Go.Proofs.YtmmjfpcmempeeaaDoor
open Go.RowKit
/-- a piece: bytes in a block of its own, within lo .. hi -/
def Piece (w : World) (lo hi : Nat) (v : Value) (bs : List UInt8) : Prop :=
  ∃ g o c cur, v = .slice (some ⟨g, o, none⟩) bs.length c ∧ lo ≤ g ∧ g < hi ∧ w.heap[g]? = some (.cells cur 5 (0, 0)) ∧ bs.length ≤ c ∧ c ≤ maxLen ∧ ∀ i, (h : i < bs.length) → cur[o + i]? = some (bv bs[i])
/-- the pieces' row -/
def PRow (w : World) (lo hi : Nat) (pv : Value) (ps : List (List UInt8)) : Prop :=
  ∃ a c, pv = .slice a ps.length c ∧ ps.length ≤ c ∧ c ≤ maxLen ∧ (a = none → c = 0) ∧ ∀ p, a = some p → p.spot = none ∧ lo ≤ p.block ∧ p.block < hi ∧
    ∃ cur, w.heap[p.block]? = some (.cells cur 29 (0, 0)) ∧ ∀ i, (h : i < ps.length) → ∃ v, cur[p.off + i]? = some v ∧ Piece w lo hi v ps[i]
/-- a reader of a source: what it has left -/
def Src (w : World) (lo hi s : Nat) (ps : List (List UInt8)) (f : Bool) : Prop :=
  lo ≤ s ∧ s < hi ∧ ∃ pv, w.heap[s]? = some (.cells #[pv, .bool f] 113 (0, 0)) ∧ PRow w lo hi pv ps
theorem Piece.upd {M : Nat → Prop} {w w1 : World} {lo hi : Nat} {v : Value} {bs : List UInt8} (h : Piece w lo hi v bs) (u : Upd M w w1) (hm : ∀ k cur, M k → lo ≤ k → k < hi → w.heap[k]? = some (.cells cur 5 (0, 0)) → False) : Piece w1 lo hi v bs := by
  obtain ⟨g, o, c, cur, rfl, h1, h2, h3, h4⟩ := h
  exact ⟨g, o, c, cur, rfl, h1, h2, u.heap h3 (fun hh => hm g cur hh h1 h2 h3), h4⟩
theorem PRow.upd {M : Nat → Prop} {w w1 : World} {lo hi : Nat} {pv : Value} {ps : List (List UInt8)} (h : PRow w lo hi pv ps) (u : Upd M w w1) (hm : ∀ k, M k → lo ≤ k → k < hi → False) : PRow w1 lo hi pv ps := by
  obtain ⟨a, c, rfl, h1, h2, h3, h4⟩ := h
  refine ⟨a, c, rfl, h1, h2, h3, fun p hp => ?_⟩
  obtain ⟨q1, q2, q3, cur, q4, q5⟩ := h4 p hp
  refine ⟨q1, q2, q3, cur, u.heap q4 (fun hh => hm _ hh q2 q3), fun i hi' => ?_⟩
  obtain ⟨v, r1, r2⟩ := q5 i hi'
  exact ⟨v, r1, r2.upd u (fun k _ a b c _ => hm k a b c)⟩
theorem Src.upd {M : Nat → Prop} {w w1 : World} {lo hi s : Nat} {ps : List (List UInt8)} {f : Bool} (h : Src w lo hi s ps f) (u : Upd M w w1) (hm : ∀ k, M k → lo ≤ k → k < hi → False) : Src w1 lo hi s ps f := by
  obtain ⟨h1, h2, pv, h3, h4⟩ := h
  exact ⟨h1, h2, pv, u.heap h3 (fun hh => hm _ hh h1 h2), h4.upd u hm⟩
theorem Src.new {w w1 : World} {lo hi s : Nat} {ps : List (List UInt8)} {f : Bool} (h : Src w lo hi s ps f) (u : New w w1) : Src w1 lo hi s ps f := h.upd u (fun _ hh _ _ => hh)
theorem Piece.mono {w : World} {lo hi hi' : Nat} {v : Value} {bs : List UInt8} (h : Piece w lo hi v bs) (hh : hi ≤ hi') : Piece w lo hi' v bs := by
  obtain ⟨g, o, c, cur, rfl, h1, h2, h3⟩ := h
  exact ⟨g, o, c, cur, rfl, h1, by omega, h3⟩
/-- new bytes are a piece -/
theorem NewB.piece {w w1 : World} {v : Value} {bs : List UInt8} {lo : Nat} (h : NewB w w1 v bs) (hlo : lo ≤ w.heap.size) : Piece w1 lo w1.heap.size v bs := by
  obtain ⟨_, g, c, rfl, ho⟩ := h
  have hl := ho.lt g rfl
  have hb := (BytesA.owned ho).2
  obtain ⟨q0, q⟩ := ho
  rcases q with ⟨hv, _⟩ | ⟨g', cap, cur, hv, hb', hg, hn, hm, hs, ht⟩
  · simp at hv
  · simp only [Value.slice.injEq, Option.some.injEq, Addr.mk.injEq, and_true, true_and] at hv
    obtain ⟨rfl, rfl⟩ := hv
    refine ⟨g, 0, c, cur, rfl, by omega, hl.2, hg, hn, hm, fun i hi => ?_⟩
    have := (hb.2.2.2 _ rfl).2 i hi
    rw [cell_of_row w1 g (0 + i) cur _ _ hg] at this
    exact this
theorem eP : ElemI Tryd.prog 22 29 (.slice none 0 0) 1 24 := ElemI.mk' Tryd.underlying22 (by kernel_rfl) rfl (by omega)
/-- the reader while it is made: a row of its own -/
def RowK (w0 w : World) (pv : Value) (ps : List (List UInt8)) : Prop :=
  ∃ vs, vs.length = ps.length ∧ w.ownsRow w0.heap.size 29 1 pv ps.length vs ∧ ∀ i, (h : i < ps.length) → ∃ v, vs[i]? = some v ∧ Piece w w0.heap.size w.heap.size v ps[i]
theorem RowK.prow {w0 w : World} {pv : Value} {ps : List (List UInt8)} (h : RowK w0 w pv ps) : PRow w w0.heap.size w.heap.size pv ps := by
  obtain ⟨vs, hl, ho, hp⟩ := h
  have ho' := ho
  rcases ho.2 with ⟨rfl, hn⟩ | ⟨g, cap, cur, rfl, hb, hg, hn, hm, hs, ht⟩
  · refine ⟨none, 0, by rw [hn], by omega, Nat.zero_le _, fun _ => rfl, fun p hp => by cases hp⟩
  · refine ⟨_, cap, rfl, hn, hm, by simp, fun p hp' => ?_⟩
    simp only [Option.some.injEq] at hp'; subst hp'
    refine ⟨rfl, hb, (ho'.lt g rfl).2, cur, hg, fun i hi => ?_⟩
    obtain ⟨v, hv, hpc⟩ := hp i hi
    refine ⟨v, ?_, hpc⟩
    rw [← ht, List.getElem?_take_of_lt (by omega)] at hv
    simpa using hv
theorem World.cell_of_heap {w : World} {b : Nat} {cs : Array Value} {t : TypeId} {fr : Nat × Nat} (h : w.heap[b]? = some (.cells cs t fr)) (o : Nat) : w.cell? ⟨b, o, none⟩ = cs[o]? := by
  simp [World.cell?, h]
theorem World.frozen_of_heap {w : World} {b : Nat} {cs : Array Value} {t : TypeId} (h : w.heap[b]? = some (.cells cs t (0, 0))) (o : Nat) : w.frozen? ⟨b, o, none⟩ = false := by
  simp [World.frozen?, h]
theorem World.heap_setCell_self {w : World} {b : Nat} {cs : Array Value} {t : TypeId} {fr : Nat × Nat} (h : w.heap[b]? = some (.cells cs t fr)) (o : Nat) (v : Value) : (w.setCell ⟨b, o, none⟩ v).heap[b]? = some (.cells (cs.setIfInBounds o v) t fr) := by
  simp only [World.setCell, Array.getElem?_modify, if_true, h, Option.map_some]
  rfl
/-- one more piece -/
theorem RowK.grow {w0 w w1 w2 w3 : World} {pv pv' v : Value} {ps : List (List UInt8)} {bs : List UInt8} (h : RowK w0 w pv ps) (hu : New w0 w) (hv : NewB w w1 v bs) (h12 : New w1 w2)
    (ho : w3.ownsRow w0.heap.size 29 1 pv' (ps.length + 1) (h.choose ++ [v])) (hg : w2.grownBy w3 pv.ownBlock) : RowK w0 w3 pv' (ps ++ [bs]) := by
  obtain ⟨hl, ho1, hp⟩ := h.choose_spec
  have hlt := fun k hk => ho1.lt k hk
  -- the row's own block holds slices: no piece lies there
  have hrow : ∀ k cur, some k = pv.ownBlock → w2.heap[k]? = some (.cells cur 5 (0, 0)) → False := by
    intro k cur hk hh
    have hk2 := hlt k hk.symm
    rcases ho1.2 with ⟨rfl, _⟩ | ⟨g, cap, cur', rfl, _, hg', _⟩
    · simp [Value.ownBlock] at hk
    · simp only [Value.ownBlock, Option.some.injEq] at hk
      subst hk
      have e := h12.heap (hv.1.heap hg' (fun h => h)) (fun h => h)
      rw [hh] at e
      simp at e
  have hsz : w.heap.size ≤ w3.heap.size := Nat.le_trans hv.1.size (Nat.le_trans h12.size hg.size)
  have upd : Upd (fun k => pv.ownBlock = some k) w2 w3 := (Upd.refl _ _).grown hg (fun k hk _ => hk)
  refine ⟨h.choose ++ [v], by simp [hl], by simpa using ho, fun i hi => ?_⟩
  by_cases hlast : i < ps.length
  · obtain ⟨u, hu1, hpc⟩ := hp i hlast
    refine ⟨u, by rw [List.getElem?_append_left (by omega)]; exact hu1, ?_⟩
    rw [List.getElem_append_left hlast]
    have q := (hpc.upd hv.1 (fun _ _ h _ _ _ => h)).upd h12 (fun _ _ h _ _ _ => h)
    exact (q.upd upd (fun k cur hk _ _ hh => hrow k cur hk.symm hh)).mono (by omega)
  · have hi' : i = ps.length := by simp at hi; omega
    subst hi'
    refine ⟨v, by rw [List.getElem?_append_right (by omega)]; simp [hl], ?_⟩
    have e : (ps ++ [bs])[ps.length] = bs := by simp
    rw [e]
    have q := (hv.piece (lo := w0.heap.size) hu.size).upd h12 (fun _ _ h _ _ _ => h)
    have hs1 : w1.heap.size ≤ w3.heap.size := Nat.le_trans h12.size hg.size
    exact (q.upd upd (fun k cur hk _ _ hh => hrow k cur hk.symm hh)).mono hs1
end Go.Proofs.YtmmjfpcmempeeaaDoor
/- impl.readerOf: a reader with a copy of all pieces. -/
namespace Go.Proofs.YtmmjfpcmempeeaaDoor
open Go.RowKit
theorem World.news_of_block' {w : World} {B : Nat} {cs : Array Value} {t : TypeId} {fr : Nat × Nat} (hb : w.heap[B]? = some (.cells cs t fr)) : ∀ j u, cs.toList[j]? = some u → w.cell? ((⟨B, 0, none⟩ : Addr).add j) = some u := fun j u hu => by
  have hadd : (⟨B, 0, none⟩ : Addr).add j = ⟨B, j, none⟩ := by unfold Addr.add; split <;> simp_all
  rw [hadd, World.cell_of_heap hb]
  simpa using hu
/-- while the pieces are copied -/
def Making (w wr : World) (f : Bool) (ps : List (List UInt8)) : Prop :=
  New w wr ∧ ∃ pv, wr.heap[w.heap.size + 1]? = some (.cells #[pv, .bool f] 113 (0, 0)) ∧ RowK w wr pv ps
theorem RowK.of_upd {w0 w w1 : World} {M : Nat → Prop} {pv : Value} {ps : List (List UInt8)} (h : RowK w0 w pv ps) (u : Upd M w w1) (hrow : ∀ k cur, M k → w.heap[k]? = some (.cells cur 29 (0, 0)) → False)
    (hpc : ∀ k cur, M k → w.heap[k]? = some (.cells cur 5 (0, 0)) → False) : RowK w0 w1 pv ps := by
  obtain ⟨vs, hl, ho, hp⟩ := h
  refine ⟨vs, hl, ⟨ho.1, ?_⟩, fun i hi => ?_⟩
  · rcases ho.2 with h | ⟨g, cap, cur, hv, hb, hg, r⟩
    · exact .inl h
    · exact .inr ⟨g, cap, cur, hv, hb, u.heap hg (fun hm => hrow g cur hm hg), r⟩
  · obtain ⟨v, hv, q⟩ := hp i hi
    exact ⟨v, hv, (q.upd u (fun k cur hm _ _ hh => hpc k cur hm hh)).mono u.size⟩
set_option maxHeartbeats 1000000 in
theorem readerOf (a : Option Addr) (c : Nat) (ps : List (List UInt8)) (f : Bool) (w : World) (h : PiecesA w a c ps) (hl : ps.flatten.length ≤ 1048576) (hn : ps.length ≤ 1048576) :
    Calls Tryd.prog 40 #[.agg #[.slice a ps.length c, .bool f]] w (Ret fun v w' => New w w' ∧ ∃ s, v = .pointer (some ⟨s, 0, none⟩) ∧ Src w' w.heap.size w'.heap.size s ps f) := by
  have h1 := h.1
  have h2 := h.2.1
  unfold maxLen at h2
  have H := Lib.hid h
  have h0 : Hid (Making w ((w.alloc (.cells #[.slice a ps.length c, .bool f] 24)).alloc (.cells #[.slice none 0 0, .bool f] 113)) f []) := by
    refine ⟨((Upd.refl _ _).alloc _).alloc _, .slice none 0 0, by simpa using heap_alloc_new (w.alloc (.cells #[.slice a ps.length c, .bool f] 24)) (.cells #[.slice none 0 0, .bool f] 113), [], rfl, World.ownsRow_nil _ _ _ _, fun i hi => by simp at hi⟩
  clear h
  go_enter Tryd.func40, Tryd.ntmps40
  go_wp2
  go_loopw [13] (fun i wr => ∃ k : Nat, k ≤ ps.length ∧ i = .int .i64 k ∧ Making w wr f (ps.take k)) (fun i _ => ps.length - (intOf i).toNat)
  case atStart => exact ⟨0, Nat.zero_le _, rfl, by simpa using h0.out⟩
  case round =>
    obtain ⟨k, hk, rfl, hmk⟩ := hrel
    by_cases hlt : k < ps.length
    · have HM := Lib.hid hmk
      obtain ⟨hu, pv, hs, hrow⟩ := hmk
      obtain ⟨b, o, ai, ci, m, rfl, hm', hc, hb1, hb2, hby⟩ := (H.out.new hu).at hlt
      have c0 : wr.cell? ⟨w.heap.size + 1, 0, none⟩ = some pv := by rw [World.cell_of_heap hs]; rfl
      have HR := Lib.hid hrow
      have HS := Lib.hid hs
      have HU := Lib.hid hu
      have HB := Lib.hid hby
      have HMM := Lib.hid hm'
      clear hrow hs hu hby hm'
      go_wp2_with fail
      refine wp_region_lx { ld := [21], gd := [23, 24] } (by kernel_rfl) (by kernel_rfl) ⟨fun _ _ _ h => h.2, fun _ _ h => h⟩ ?_
      repeat (refine wpLx_calm rfl rfl rfl (fun K hK => ?_); go_step; refine hK _ ?_; clear hK K)
      refine wpLx_load rfl rfl (Upd.refl _ _) rfl rfl (by kernel_rfl) (show wr.drew.cell? ⟨w.heap.size + 1, 0, none⟩ = some pv from c0) ?_
      repeat (refine wpLx_calm rfl rfl rfl (fun K hK => ?_); go_step; refine hK _ ?_; clear hK K)
      refine wpLx_grow rfl rfl rfl (Upd.refl _ _) (fun K hK => ?_)
      go_step
      have hcop : Calls Tryd.prog 51 #[.slice ai m ci] wr.drew (Ret fun v w' => NewB wr.drew w' v ps[k]) := by
        rw [← HMM.out]
        refine copied _ _ _ _ (HB.out.new (Upd.refl _ _).drew) ?_
        have e1 := flatten_take_succ ps k hlt
        have e2 := lensum_take_le_all ps (k + 1)
        rw [e1, List.length_append] at e2
        omega
      refine callRet hcop ?_
      intro v w1 hv
      refine hK _ _ hv.1 ?_
      clear hK K hcop
      have hv' := hv
      obtain ⟨hvn, g, cp, hve, _⟩ := hv'
      have hvn' : New wr.drew w1 := hvn
      refine wpLx_grow rfl rfl rfl hvn' (fun K hK => ?_)
      rw [hve]
      go_step
      refine hK _ _ ((Upd.refl _ _).alloc _) ?_
      clear hK K
      subst hve
      have hR0 : RowK w wr.drew pv (ps.take k) := HR.out
      have hvs := hR0.choose_spec
      have hU2 : New wr.drew (w1.alloc (.cells #[.slice (some ⟨g, 0, none⟩) ps[k].length cp] 29)) := hvn.alloc _
      have hWU : New w (w1.alloc (.cells #[.slice (some ⟨g, 0, none⟩) ps[k].length cp] 29)) := HU.out.andNew ((Upd.refl _ _).drew.andNew hU2)
      have hown := ownsRow_new hvs.2.1 hU2
      have hkl : (ps.take k).length = k := by simp; omega
      refine wpLx_eff rfl rfl rfl (fun K hK => ?_)
      refine wp_append eP _ _ rfl w.heap.size pv _ _ rfl hown (some ⟨w1.heap.size, 0, none⟩) 1 1 [.slice (some ⟨g, 0, none⟩) ps[k].length cp] rfl rfl (fun h => by cases h) (fun p hp => by
          simp only [Option.some.injEq] at hp; subst hp
          exact World.news_of_block' (cs := #[.slice (some ⟨g, 0, none⟩) ps[k].length cp]) (t := 29) (fr := (0, 0)) (heap_alloc_new w1 _)) (by simp [Value.oneCell']) (by unfold maxLen; omega) (by omega) hWU.size ?_
      intro v' w3 h3 h4 h5
      refine hK _ _ ?_
      clear hK K
      have hne : v' ≠ .slice none 0 0 := fun hh => by have := (h5.1 hh).2; omega
      have hrow3 : RowK w w3 v' (ps.take k ++ [ps[k]]) := RowK.grow hR0 (HU.out.drew) hv ((Upd.refl _ _).alloc _) h3 h4
      have hs3 : w3.heap[w.heap.size + 1]? = some (.cells #[pv, .bool f] 113 (0, 0)) := by
        have e2 := hU2.heap (k := w.heap.size + 1) HS.out (fun h => h)
        rw [h4.block _ (Array.getElem?_eq_some_iff.1 e2).1 (fun hh => ?_)]
        · exact e2
        · rcases hvs.2.1.2 with ⟨hp, _⟩ | ⟨g', cap, cur', hp, _, hg', _⟩
          · rw [hp] at hh; simp [Value.ownBlock] at hh
          · rw [hp] at hh
            simp only [Value.ownBlock, Option.some.injEq] at hh
            rw [← hh] at hg'
            have e3 : wr.drew.heap[w.heap.size + 1]? = some (.cells #[pv, .bool f] 113 (0, 0)) := HS.out
            rw [hg'] at e3; simp at e3
      have hu3 : New w w3 := hWU.grown h4 (fun k hk hlt => by have := (hown.lt k hk).1; omega)
      have hform : ∃ g' cap', v' = .slice (some ⟨g', 0, none⟩) ((ps.take k).length + 1) cap' := by
        rcases h3.2 with ⟨hv, _⟩ | ⟨g', cap', cur', hv, _⟩
        · exact (hne hv).elim
        · exact ⟨g', cap', hv⟩
      obtain ⟨g', cap', hv'⟩ := hform
      rw [hkl] at hv'
      have c3 : w3.cell? ⟨w.heap.size + 1, 0, none⟩ = some pv := by rw [World.cell_of_heap hs3]; rfl
      have f3 : w3.frozen? ⟨w.heap.size + 1, 0, none⟩ = false := World.frozen_of_heap hs3 0
      have HR3 := Lib.hid hrow3
      have HS3 := Lib.hid hs3
      have HU3 := Lib.hid hu3
      clear h3 h4 h5 hne hrow3 hs3 hu3 hvs hR0 hU2 hWU hown hv hvn hvn' hkl c0
      rw [hv'] at HR3 ⊢
      clear hv' v'
      repeat (refine wpLx_calm rfl rfl rfl (fun K hK => ?_); go_step; refine hK _ ?_; clear hK K)
      refine wpLx_eff rfl rfl rfl (fun K hK => ?_)
      go_step
      refine hK _ _ ?_
      clear hK K
      refine wpLx_nil ?_
      have hmk' : Making w (w3.setCell ⟨w.heap.size + 1, 0, none⟩ (.slice (some ⟨g', 0, none⟩) (k + 1) cap')) f (ps.take (k + 1)) := by
        have hlt1 : w.heap.size < w.heap.size + 1 := Nat.lt_succ_self _
        refine ⟨HU3.out.setCell (fun hh => by have hh : w.heap.size + 1 < w.heap.size := hh; omega) _, .slice (some ⟨g', 0, none⟩) (k + 1) cap', ?_, ?_⟩
        · rw [World.heap_setCell_self HS3.out]; rfl
        · rw [List.take_succ_eq_append_getElem hlt]
          refine HR3.out.of_upd ((Upd.refl (fun k => k = w.heap.size + 1) w3).setCell (fun _ => rfl) _) (fun k' cur hk' hh => ?_) (fun k' cur hk' hh => ?_)
          · subst hk'; rw [HS3.out] at hh; simp at hh
          · subst hk'; rw [HS3.out] at hh; simp at hh
      have HMK := Lib.hid hmk'
      clear hmk' c3 f3 HR3 HS3 HU3
      go_wp2
      go_roundw
      case rel => exact ⟨k + 1, by omega, by go_num, HMK.out⟩
      case measure => simp [intOf]; omega
    · obtain rfl : k = ps.length := by omega
      rw [List.take_length] at hmk
      obtain ⟨hu, pv, hs, hrow⟩ := hmk
      have HU := Lib.hid hu
      have HS := Lib.hid hs
      have HR := Lib.hid hrow
      clear hu hs hrow
      go_wp2
      go_ret
      refine ⟨HU.out, w.heap.size + 1, rfl, by omega, ?_, pv, HS.out, HR.out.prow⟩
      exact (Array.getElem?_eq_some_iff.1 HS.out).1
end Go.Proofs.YtmmjfpcmempeeaaDoor
/- (*impl.reader).Read: the next piece, or as much of it as there is room for. -/
namespace Go.Proofs.YtmmjfpcmempeeaaDoor
open Go.RowKit
def endErr (f : Bool) : Err := if f then .fault else .eof
/-- what is left behind a Read of so many bytes of the first piece -/
def srcLeft (k : Nat) : List (List UInt8) → List (List UInt8)
  | [] => []
  | p :: rest => if k = p.length then rest else p.drop k :: rest
theorem srcLeft_flatten (k : Nat) (p : List UInt8) (rest : List (List UInt8)) (h : k ≤ p.length) : (p :: rest).flatten = p.take k ++ (srcLeft k (p :: rest)).flatten := by
  simp only [srcLeft]
  split
  · rename_i hk; subst hk; simp
  · rw [List.flatten_cons, List.flatten_cons, ← List.append_assoc, List.take_append_drop]
theorem srcRead_nil {S : Err → Addr} {B : Nat} {w : World} {lo hi s : Nat} {f : Bool} (E : Env S B w) (h : Src w lo hi s [] f) (v : Value) :
    Calls Tryd.prog 102 #[.pointer (some ⟨s, 0, none⟩), v] w (Ret fun r w' => New w w' ∧ r = .tuple #[.int .i64 0, eV S (some (endErr f))]) := by
  obtain ⟨_, _, pv, hs, a, c, rfl, _⟩ := h
  have c0 : w.cell? ⟨s, 0, none⟩ = some (.slice a 0 c) := by rw [World.cell_of_heap hs]; rfl
  have c1 : w.cell? ⟨s, 1, none⟩ = some (.bool f) := by rw [World.cell_of_heap hs]; rfl
  have l1 : w.cell? ⟨0, 0, none⟩ = some (eV S (some .eof)) := (E.g .eof (by decide)).2
  simp only [eV] at l1
  clear E hs
  cases f
  · go_enter Tryd.func102, Tryd.ntmps102
    go_wp2_with fail
    refine wp_region_lx {} (by kernel_rfl) (by kernel_rfl) ⟨fun _ _ _ h => h.2, fun _ _ h => h⟩ ?_
    repeat (refine wpLx_calm rfl rfl rfl (fun K hK => ?_); go_step; refine hK _ ?_; clear hK K)
    refine wpLx_nil ?_
    go_wp2
    go_ret2
    exact ⟨(Upd.refl _ _).drew, rfl⟩
  · go_enter Tryd.func102, Tryd.ntmps102
    go_wp2
    go_ret2
    exact ⟨Upd.refl _ _, rfl⟩
/-- what a Read leaves: k bytes of the first piece at 'off' of block g -/
def ReadPost (w : World) (lo hi s : Nat) (p0 : List UInt8) (rest : List (List UInt8)) (f : Bool) (g off k : Nat) (cur : Array Value) (r : Value) (w' : World) : Prop :=
  r = .tuple #[.int .i64 ((k : Nat) : Int), .nilIface] ∧ w'.heap[g]? = some (.cells (splice cur.toList off ((p0.take k).map bv)).toArray 5 (0, 0)) ∧
    Src w' lo hi s (srcLeft k (p0 :: rest)) f ∧ Upd (fun k => k = g ∨ (lo ≤ k ∧ k < hi)) w w' ∧ w'.heap.size = w.heap.size
set_option maxRecDepth 100000 in
set_option maxHeartbeats 1000000 in
theorem srcRead_cons {w : World} {lo hi s : Nat} {p0 : List UInt8} {rest : List (List UInt8)} {f : Bool} (h : Src w lo hi s (p0 :: rest) f) (g off n c : Nat) (cur : Array Value) (hg : w.heap[g]? = some (.cells cur 5 (0, 0)))
    (hout : ¬ (lo ≤ g ∧ g < hi)) (hfit : off + n ≤ cur.size) (hnc : n ≤ c) (hcm : c ≤ 9223372036854775807) :
    Calls Tryd.prog 102 #[.pointer (some ⟨s, 0, none⟩), .slice (some ⟨g, off, none⟩) n c] w
      (Ret (ReadPost w lo hi s p0 rest f g off (min p0.length n) cur)) := by
  obtain ⟨hlo, hhi, pv, hs, a, cp, rfl, hp1, hp2, hp3, hp4⟩ := h
  cases a with
  | none => have := hp3 rfl; simp at hp1; omega
  | some pp =>
  obtain ⟨q1, q2, q3, prow, q4, q5⟩ := hp4 pp rfl
  obtain ⟨pb, po, psp⟩ := pp
  subst q1
  obtain ⟨v0, hv0, hpc⟩ := q5 0 (by simp)
  obtain ⟨g0, o0, cc, pcur, rfl, r1, r2, r3, r4, r5, r6⟩ := hpc
  simp only [List.getElem_cons_zero, Nat.add_zero, List.length_cons] at hv0 r4 r6 hp1 hs q5
  unfold maxLen at hp2 r5
  have c0 : w.cell? ⟨s, 0, none⟩ = some (.slice (some ⟨pb, po, none⟩) (rest.length + 1) cp) := by rw [World.cell_of_heap hs]; rfl
  have c1 : w.cell? ⟨pb, po, none⟩ = some (.slice (some ⟨g0, o0, none⟩) p0.length cc) := by rw [World.cell_of_heap q4]; exact hv0
  have hgs : g ≠ s := fun e => hout ⟨by omega, by omega⟩
  have hgp : g ≠ pb := fun e => hout ⟨by subst e; exact q2, by subst e; exact q3⟩
  obtain ⟨k, hk⟩ : ∃ k, k = min p0.length n := ⟨_, rfl⟩
  rw [← hk]
  have hcs : ((p0.take k).map bv).length = k := by simp; omega
  have hsrc : ∀ p, (some ⟨g0, o0, none⟩ : Option Addr) = some p → ∀ j u, ((p0.take k).map bv)[j]? = some u → w.cell? (p.add j) = some u := by
    intro p hp j u hu
    simp only [Option.some.injEq] at hp
    subst hp
    have hadd : (⟨g0, o0, none⟩ : Addr).add j = ⟨g0, o0 + j, none⟩ := by unfold Addr.add; split <;> simp_all
    rw [hadd, World.cell_of_heap r3]
    have hj : j < (p0.take k).length := by
      rcases Nat.lt_or_ge j (p0.take k).length with h | h
      · exact h
      · rw [List.getElem?_eq_none (by simpa using h)] at hu; cases hu
    rw [r6 j (by simp at hj; omega)]
    rw [List.getElem?_map, List.getElem?_eq_getElem hj] at hu
    simpa using hu
  have K1 := Lib.hid hk
  have HC := Lib.hid hcs
  have HV := Lib.hid hv0
  have Hs := Lib.hid hs
  have Hq4 := Lib.hid q4
  have Hr3 := Lib.hid r3
  have Hr6 := Lib.hid r6
  have Hg := Lib.hid hg
  have Hq5 := Lib.hid q5
  have Hsrc := Lib.hid hsrc
  have hkm : k ≤ p0.length := by omega
  have hkn : k ≤ n := by omega
  clear hk hcs hv0 hs q4 r3 r6 hg q5 hsrc hp3 hp4
  go_enter Tryd.func102, Tryd.ntmps102
  go_wp2_with (refine wpList_plain rfl (fun K hK => ?_); with_reducible refine wp_copy eB (.tmp 20) (.tmp 26) 29 rfl g off n c rfl cur 5 Hg.out _ p0.length cc rfl (fun h => by cases h) ((p0.take k).map bv) (by rw [HC.out]; exact K1.out) Hsrc.out (by rw [HC.out]; omega) (oneCell_bytes _) ?_; intro w1 hw1 hu1 hz1; rw [HC.out]; refine hK _ _ ?_; clear hK K)
  have Hw1 := Lib.hid hw1
  have hp1h : w1.heap[pb]? = some (.cells prow 29 (0, 0)) := hu1.heap Hq4.out (fun h => hgp h.symm)
  have hs1h : w1.heap[s]? = some (.cells #[.slice (some ⟨pb, po, none⟩) (rest.length + 1) cp, .bool f] 113 (0, 0)) := hu1.heap Hs.out (fun h => hgs h.symm)
  have hps : pb ≠ s := fun e => by subst e; rw [hp1h] at hs1h; simp at hs1h
  have c0' : w1.cell? ⟨s, 0, none⟩ = some (.slice (some ⟨pb, po, none⟩) (rest.length + 1) cp) := hu1.cell c0 (fun h => hgs h.symm)
  have c1' : w1.cell? ⟨pb, po, none⟩ = some (.slice (some ⟨g0, o0, none⟩) p0.length cc) := hu1.cell c1 (fun h => hgp h.symm)
  have f1 : w1.frozen? ⟨pb, po, none⟩ = false := World.frozen_of_heap hp1h _
  have f0 : w1.frozen? ⟨s, 0, none⟩ = false := World.frozen_of_heap hs1h _
  have Hp1h := Lib.hid hp1h
  have Hs1h := Lib.hid hs1h
  have Hu1 := Lib.hid hu1
  have Hz1 := Lib.hid hz1
  clear hw1 hp1h hs1h hu1 hz1 c0 c1
  refine wp_region_lx {} (by kernel_rfl) (by kernel_rfl) ⟨fun _ _ _ h => h.2, fun _ _ h => h⟩ ?_
  repeat (refine wpLx_calm rfl rfl rfl (fun K hK => ?_); go_step; refine hK _ ?_; clear hK K)
  refine wpLx_eff rfl rfl rfl (fun K hK => ?_)
  have hpo : po < prow.size := by
    have := HV.out
    rcases Nat.lt_or_ge po prow.size with h | h
    · exact h
    · rw [Array.getElem?_eq_none h] at this; cases this
  refine wp_store (by kernel_rfl) _ _ rfl pb po rfl _ rfl rfl prow _ Hp1h.out hpo ?_
  intro w2 hw2 hu2 hz2
  refine hK _ _ ?_
  clear hK K
  refine wpLx_nil ?_
  have hw2' : w2.heap[pb]? = some (.cells (prow.setIfInBounds po (.slice (if cc = k then some ⟨g0, o0, none⟩ else some ⟨g0, o0 + k, none⟩) (p0.length - k) (cc - k))) 29 (0, 0)) := hw2
  have d0 : w2.cell? ⟨s, 0, none⟩ = some (.slice (some ⟨pb, po, none⟩) (rest.length + 1) cp) := hu2.cell (p := ⟨s, 0, none⟩) c0' (fun h => hps h.symm)
  have d1 : w2.cell? ⟨pb, po, none⟩ = some (.slice (if cc = k then some ⟨g0, o0, none⟩ else some ⟨g0, o0 + k, none⟩) (p0.length - k) (cc - k)) := by
    rw [World.cell_of_heap hw2']; simp [hpo]
  have hs2 : w2.heap[s]? = some (.cells #[.slice (some ⟨pb, po, none⟩) (rest.length + 1) cp, .bool f] 113 (0, 0)) := hu2.heap Hs1h.out (fun h => hps h.symm)
  have f2 : w2.frozen? ⟨s, 0, none⟩ = false := World.frozen_of_heap hs2 _
  have hg2 : w2.heap[g]? = some (.cells (splice cur.toList off ((p0.take k).map bv)).toArray 5 (0, 0)) := hu2.heap Hw1.out hgp
  have hu12 : Upd (fun j => j = pb) w1 w2 := (Upd.refl (fun j => j = pb) w1).drew.trans hu2 (fun _ h _ => h)
  have hu02 : Upd (fun j => j = g ∨ (lo ≤ j ∧ j < hi)) w w2 := (Hu1.out.mono (fun j hj _ => Or.inl hj)).trans hu12 (fun j hj _ => by subst hj; exact .inr ⟨q2, q3⟩)
  have hsz2 : w2.heap.size = w.heap.size := by have := Hz1.out; simp at hz2; omega
  -- the pieces behind the first stand as they stood
  have hpc2 : ∀ v bs, Piece w lo hi v bs → Piece w2 lo hi v bs := by
    intro v bs hp
    refine (hp.upd Hu1.out (fun j c' hj _ _ _ => ?_)).upd hu12 (fun j c' hj _ _ hh => ?_)
    · subst hj; exact hout ⟨by assumption, by assumption⟩
    · subst hj; rw [Hp1h.out] at hh; simp at hh
  have hrest : ∀ i, (h : i < rest.length) → ∃ v, (prow.setIfInBounds po (.slice (if cc = k then some ⟨g0, o0, none⟩ else some ⟨g0, o0 + k, none⟩) (p0.length - k) (cc - k)))[po + 1 + i]? = some v ∧ Piece w2 lo hi v rest[i] := by
    intro i hi'
    obtain ⟨v, hv, hp⟩ := Hq5.out (i + 1) (by omega)
    refine ⟨v, ?_, hpc2 _ _ (by simpa using hp)⟩
    rw [Array.getElem?_setIfInBounds_ne (by omega)]
    rw [← hv]; congr 1; omega
  have hfirst : Piece w2 lo hi (.slice (if cc = k then some ⟨g0, o0, none⟩ else some ⟨g0, o0 + k, none⟩) (p0.length - k) (cc - k)) (p0.drop k) := by
    have hr3 : w2.heap[g0]? = some (.cells pcur 5 (0, 0)) := by
      refine hu12.heap (Hu1.out.heap Hr3.out (fun h => hout ⟨by omega, by omega⟩)) (fun h => ?_)
      have e := Hu1.out.heap Hr3.out (fun h => hout ⟨by omega, by omega⟩)
      subst h
      rw [Hp1h.out] at e; simp at e
    by_cases hck : cc = k
    · rw [if_pos hck]
      refine ⟨g0, o0, cc - k, pcur, by simp, r1, r2, hr3, by simp; omega, by unfold maxLen; omega, fun i hi' => ?_⟩
      simp at hi'; omega
    · rw [if_neg hck]
      refine ⟨g0, o0 + k, cc - k, pcur, by simp, r1, r2, hr3, by simp; omega, by unfold maxLen; omega, fun i hi' => ?_⟩
      have := Hr6.out (k + i) (by simp at hi'; omega)
      rw [show o0 + k + i = o0 + (k + i) by omega, this]
      simp
  have HW2 := Lib.hid hw2'
  have HS2 := Lib.hid hs2
  have HG2 := Lib.hid hg2
  have HU02 := Lib.hid hu02
  have HSZ := Lib.hid hsz2
  have HREST := Lib.hid hrest
  have HFIRST := Lib.hid hfirst
  have HPC2 := Lib.hid hpc2
  clear hw2 hw2' hs2 hg2 hu02 hsz2 hrest hfirst hpc2 hu12 hu2 hz2 c0' c1' f1 f0
  obtain ⟨ao, hao⟩ : ∃ ao : Option Addr, (if cc = k then some (⟨g0, o0, none⟩ : Addr) else some ⟨g0, o0 + k, none⟩) = ao := ⟨_, rfl⟩
  rw [hao] at HW2 HREST HFIRST d1 ⊢
  have HAO := Lib.hid hao
  clear hao
  by_cases hkk : k = p0.length
  · have hd : (((p0.length - k : Nat) : Int) == 0) = true := by simp; omega
    have HKK := Lib.hid hkk
    clear hkk
    have fin : ∀ (w3 : World) (pv : Value) (a3 : Option Addr), w3 = w2.setCell ⟨s, 0, none⟩ pv → pv = .slice a3 rest.length (cp - 1) → (rest ≠ [] → a3 = some ⟨pb, po + 1, none⟩) → (a3 = some ⟨pb, po, none⟩ ∨ a3 = some ⟨pb, po + 1, none⟩) →
        ReadPost w lo hi s p0 rest f g off k cur (.tuple #[.int .i64 ((k : Nat) : Int), .nilIface]) w3 := by
      intro w3 pv a3 hw3 hpv ha3 hor
      subst hw3; subst hpv
      refine ⟨rfl, ?_, ?_, ?_, ?_⟩
      · rw [Below.heap_setCell _ _ _ _ hgs]; exact HG2.out
      · have e : srcLeft k (p0 :: rest) = rest := by simp only [srcLeft]; rw [if_pos HKK.out]
        rw [e]
        have uS : Upd (fun j => j = s) w2 (w2.setCell ⟨s, 0, none⟩ (.slice a3 rest.length (cp - 1))) := (Upd.refl (fun j => j = s) w2).setCell (fun _ => rfl) _
        refine ⟨hlo, hhi, .slice a3 rest.length (cp - 1), ?_, a3, cp - 1, rfl, by omega, by unfold maxLen; omega, ?_, ?_⟩
        · exact World.heap_setCell_self HS2.out 0 _
        · intro hn; rcases hor with h | h <;> (rw [h] at hn; cases hn)
        · intro p hp
          have hpcs : ∀ v bs, Piece w2 lo hi v bs → Piece (w2.setCell ⟨s, 0, none⟩ (.slice a3 rest.length (cp - 1))) lo hi v bs := by
            intro v bs hp
            refine hp.upd uS (fun j c' hj _ _ hh => ?_)
            subst hj; rw [HS2.out] at hh; simp at hh
          have hpb := uS.heap HW2.out hps
          rcases hor with h | h
          · rw [h] at hp
            simp only [Option.some.injEq] at hp
            subst hp
            refine ⟨rfl, q2, q3, _, hpb, fun i hi' => ?_⟩
            have := ha3 (by rintro rfl; simp at hi')
            rw [h] at this; simp at this
          · rw [h] at hp
            simp only [Option.some.injEq] at hp
            subst hp
            refine ⟨rfl, q2, q3, _, hpb, fun i hi' => ?_⟩
            obtain ⟨v, hv, hp⟩ := HREST.out i hi'
            exact ⟨v, hv, hpcs _ _ hp⟩
      · exact HU02.out.setCell (fun _ => .inr ⟨hlo, hhi⟩) _
      · simp [World.setCell]; exact HSZ.out
    have FIN := Lib.hid fin
    clear fin
    by_cases hc1 : cp = 1
    · subst hc1
      have hr0 : rest = [] := List.eq_nil_of_length_eq_zero (by omega)
      have HR0 := Lib.hid hr0
      clear hr0
      go_wp2
      go_ret2
      exact FIN.out _ _ _ rfl (by rw [HR0.out]; rfl) (fun h => (h HR0.out).elim) (.inl rfl)
    · go_wp2
      go_ret2
      exact FIN.out _ _ _ rfl rfl (fun _ => rfl) (.inr rfl)
  · have hd : (((p0.length - k : Nat) : Int) == 0) = false := by simp; omega
    go_wp2
    go_ret2
    refine ⟨rfl, HG2.out, ?_, HU02.out, HSZ.out⟩
    have e : srcLeft k (p0 :: rest) = p0.drop k :: rest := by simp only [srcLeft]; rw [if_neg hkk]
    rw [e]
    refine ⟨hlo, hhi, _, HS2.out, _, cp, rfl, by simpa using hp1, by unfold maxLen; omega, by simp, fun p hp => ?_⟩
    simp only [Option.some.injEq] at hp
    subst hp
    refine ⟨rfl, q2, q3, _, HW2.out, fun i hi' => ?_⟩
    cases i with
    | zero => exact ⟨_, by simp [hpo], HFIRST.out⟩
    | succ i =>
      obtain ⟨v, hv, hp⟩ := HREST.out i (by simpa using hi')
      exact ⟨v, by rw [← hv]; congr 1; simp; omega, by simpa using hp⟩
end Go.Proofs.YtmmjfpcmempeeaaDoor
/- A buffered reader in memory: what it holds; its fields, read and written. -/
namespace Go.Proofs.YtmmjfpcmempeeaaDoor
open Go.RowKit
/-- a reader's state: the buffer's bytes, where reading and writing stand, the error that waits, the last byte, the last rune's size, what the source has left -/
structure RS where
  buf : List UInt8
  r : Nat
  w : Nat
  err : Option Err
  last : Int
  rune : Int
  ps : List (List UInt8)
  f : Bool
/-- where it lies -/
structure Loc where
  b : Nat
  bb : Nat
  s : Nat
  lo : Nat
  sl : Nat
  mid : Nat
  hi : Nat
def rdV (L : Loc) : Value := .iface 82 (.pointer (some ⟨L.s, 0, none⟩))
def rdCells (S : Err → Addr) (L : Loc) (st : RS) : Array Value :=
  #[.slice (some ⟨L.bb, 0, none⟩) st.buf.length st.buf.length, rdV L, .int .i64 (st.r : Int), .int .i64 (st.w : Int), eV S st.err, .int .i64 st.last, .int .i64 st.rune]
structure Rd (S : Err → Addr) (w : World) (L : Loc) (st : RS) : Prop where
  hb : w.heap[L.b]? = some (.cells (rdCells S L st) 104 (0, 0))
  hbb : w.heap[L.bb]? = some (.cells (st.buf.map bv).toArray 5 (0, 0))
  src : Src w L.sl L.mid L.s st.ps st.f
  blo : L.lo ≤ L.b ∧ ¬ (L.sl ≤ L.b ∧ L.b < L.mid)
  bhi : L.b < L.hi
  bblo : L.lo ≤ L.bb ∧ ¬ (L.sl ≤ L.bb ∧ L.bb < L.mid)
  bbhi : L.bb < L.hi
  lomid : L.lo ≤ L.sl ∧ L.mid ≤ L.hi
  rw : st.r ≤ st.w
  wn : st.w ≤ st.buf.length
  nlo : 16 ≤ st.buf.length
  nhi : st.buf.length ≤ 1048576
  empties : nones st.ps ≤ 50
  errok : st.err = none ∨ (st.err = some (endErr st.f) ∧ st.ps = [])
  lastlo : -1 ≤ st.last
  lasthi : st.last ≤ 255
  runelo : -1 ≤ st.rune
  runehi : st.rune ≤ 4
def In (L : Loc) (k : Nat) : Prop := L.lo ≤ k ∧ k < L.hi
theorem Rd.ne {S : Err → Addr} {w : World} {L : Loc} {st : RS} (h : Rd S w L st) : L.bb ≠ L.b := fun e => by
  have h1 := h.hb; have h2 := h.hbb; rw [e, h1] at h2; simp at h2
theorem Rd.sne {S : Err → Addr} {w : World} {L : Loc} {st : RS} (h : Rd S w L st) : L.s ≠ L.b := fun e => by
  have := h.src.1; have := h.src.2.1; have := h.blo; omega
/-- untouched by what turns none of its blocks -/
theorem Rd.upd {S : Err → Addr} {M : Nat → Prop} {w w1 : World} {L : Loc} {st : RS} (h : Rd S w L st) (u : Upd M w w1) (hm : ∀ k, M k → In L k → False) : Rd S w1 L st := by
  have hb := h.lomid; have h1 := h.blo; have h2 := h.bblo
  exact { h with
    hb := u.heap h.hb (fun hh => hm _ hh ⟨by omega, h.bhi⟩)
    hbb := u.heap h.hbb (fun hh => hm _ hh ⟨by omega, h.bbhi⟩)
    src := h.src.upd u (fun k hk q1 q2 => hm k hk ⟨by omega, by omega⟩) }
theorem Rd.new {S : Err → Addr} {w w1 : World} {L : Loc} {st : RS} (h : Rd S w L st) (u : New w w1) : Rd S w1 L st := h.upd u (fun _ hh _ => hh)
theorem Rd.drew {S : Err → Addr} {w : World} {L : Loc} {st : RS} (h : Rd S w L st) : Rd S w.drew L st := h.new (Upd.refl _ _).drew
/-- the fields, as the walk asks them -/
theorem Rd.cells {S : Err → Addr} {w : World} {L : Loc} {st : RS} (h : Rd S w L st) :
    w.cell? ⟨L.b, 0, none⟩ = some (.slice (some ⟨L.bb, 0, none⟩) st.buf.length st.buf.length) ∧ w.cell? ⟨L.b, 1, none⟩ = some (rdV L) ∧ w.cell? ⟨L.b, 2, none⟩ = some (.int .i64 (st.r : Int)) ∧
    w.cell? ⟨L.b, 3, none⟩ = some (.int .i64 (st.w : Int)) ∧ w.cell? ⟨L.b, 4, none⟩ = some (eV S st.err) ∧ w.cell? ⟨L.b, 5, none⟩ = some (.int .i64 st.last) ∧ w.cell? ⟨L.b, 6, none⟩ = some (.int .i64 st.rune) ∧
    ∀ i, w.frozen? ⟨L.b, i, none⟩ = false := by
  refine ⟨?_, ?_, ?_, ?_, ?_, ?_, ?_, fun i => World.frozen_of_heap h.hb i⟩ <;> (rw [World.cell_of_heap h.hb]; rfl)
/-- a byte of the buffer -/
theorem Rd.byte {S : Err → Addr} {w : World} {L : Loc} {st : RS} (h : Rd S w L st) {i : Nat} (hi : i < st.buf.length) : w.cell? ⟨L.bb, i, none⟩ = some (.int .u8 (st.buf[i].toNat : Int)) := by
  rw [World.cell_of_heap h.hbb]; simp [hi, bv]
/-- the struct written anew; nothing else turned -/
theorem Rd.put {S : Err → Addr} {w w1 : World} {L : Loc} {st : RS} (h : Rd S w L st) (st' : RS) (u : Upd (fun k => k = L.b) w w1) (hb : w1.heap[L.b]? = some (.cells (rdCells S L st') 104 (0, 0)))
    (e1 : st'.buf = st.buf) (e2 : st'.ps = st.ps) (e3 : st'.f = st.f) (h1 : st'.r ≤ st'.w) (h2 : st'.w ≤ st'.buf.length) (h3 : st'.err = none ∨ (st'.err = some (endErr st'.f) ∧ st'.ps = [])) (h4 : -1 ≤ st'.last) (h5 : st'.last ≤ 255) (h6 : -1 ≤ st'.rune) (h7 : st'.rune ≤ 4) : Rd S w1 L st' where
  hb := hb
  hbb := by rw [e1]; exact u.heap h.hbb (fun hh => h.ne hh)
  src := by rw [e2, e3]; exact h.src.upd u (fun k hk q1 q2 => by subst hk; have := h.blo; omega)
  blo := h.blo
  bhi := h.bhi
  bblo := h.bblo
  bbhi := h.bbhi
  lomid := h.lomid
  rw := h1
  wn := h2
  nlo := by rw [e1]; exact h.nlo
  nhi := by rw [e1]; exact h.nhi
  empties := by rw [e2]; exact h.empties
  errok := h3
  lastlo := h4
  lasthi := h5
  runelo := h6
  runehi := h7
/-- one field written -/
theorem Rd.set {S : Err → Addr} {w : World} {L : Loc} {st : RS} (h : Rd S w L st) (st' : RS) (i : Nat) (v : Value) (hc : rdCells S L st' = (rdCells S L st).setIfInBounds i v)
    (e1 : st'.buf = st.buf) (e2 : st'.ps = st.ps) (e3 : st'.f = st.f) (h1 : st'.r ≤ st'.w) (h2 : st'.w ≤ st'.buf.length) (h3 : st'.err = none ∨ (st'.err = some (endErr st'.f) ∧ st'.ps = [])) (h4 : -1 ≤ st'.last) (h5 : st'.last ≤ 255) (h6 : -1 ≤ st'.rune) (h7 : st'.rune ≤ 4) : Rd S (w.setCell ⟨L.b, i, none⟩ v) L st' :=
  h.put st' ((Upd.refl (fun k => k = L.b) w).setCell (fun _ => rfl) v) (by rw [World.heap_setCell_self h.hb, hc]) e1 e2 e3 h1 h2 h3 h4 h5 h6 h7
theorem Rd.setR {S : Err → Addr} {w : World} {L : Loc} {st : RS} (h : Rd S w L st) (x : Nat) (hx : x ≤ st.w) : Rd S (w.setCell ⟨L.b, 2, none⟩ (.int .i64 (x : Int))) L { st with r := x } :=
  h.set _ 2 _ rfl rfl rfl rfl hx h.wn h.errok h.lastlo h.lasthi h.runelo h.runehi
theorem Rd.setW {S : Err → Addr} {w : World} {L : Loc} {st : RS} (h : Rd S w L st) (x : Nat) (hx : st.r ≤ x) (hx' : x ≤ st.buf.length) : Rd S (w.setCell ⟨L.b, 3, none⟩ (.int .i64 (x : Int))) L { st with w := x } :=
  h.set _ 3 _ rfl rfl rfl rfl hx hx' h.errok h.lastlo h.lasthi h.runelo h.runehi
theorem Rd.setErr {S : Err → Addr} {w : World} {L : Loc} {st : RS} (h : Rd S w L st) (x : Option Err) (hx : x = none ∨ (x = some (endErr st.f) ∧ st.ps = [])) : Rd S (w.setCell ⟨L.b, 4, none⟩ (eV S x)) L { st with err := x } :=
  h.set _ 4 _ rfl rfl rfl rfl h.rw h.wn hx h.lastlo h.lasthi h.runelo h.runehi
theorem Rd.setLast {S : Err → Addr} {w : World} {L : Loc} {st : RS} (h : Rd S w L st) (x : Int) (h1 : -1 ≤ x) (h2 : x ≤ 255) : Rd S (w.setCell ⟨L.b, 5, none⟩ (.int .i64 x)) L { st with last := x } :=
  h.set _ 5 _ rfl rfl rfl rfl h.rw h.wn h.errok h1 h2 h.runelo h.runehi
theorem Rd.setRune {S : Err → Addr} {w : World} {L : Loc} {st : RS} (h : Rd S w L st) (x : Int) (h1 : -1 ≤ x) (h2 : x ≤ 4) : Rd S (w.setCell ⟨L.b, 6, none⟩ (.int .i64 x)) L { st with rune := x } :=
  h.set _ 6 _ rfl rfl rfl rfl h.rw h.wn h.errok h.lastlo h.lasthi h1 h2
end Go.Proofs.YtmmjfpcmempeeaaDoor
/- (*Reader).fill, readErr. -/
namespace Go.Proofs.YtmmjfpcmempeeaaDoor
open Go.RowKit
/-- what is in the buffer and not yet read -/
def bufd (st : RS) : List UInt8 := (st.buf.take st.w).drop st.r
theorem bufd_length {st : RS} (h2 : st.w ≤ st.buf.length) : (bufd st).length = st.w - st.r := by unfold bufd; simp; omega
/-- what a function on a reader leaves: the reader in a state of which 'p' is said; its own blocks alone turned -/
def RdPost (S : Err → Addr) (w : World) (L : Loc) (p : Value → RS → Prop) (v : Value) (w' : World) : Prop := ∃ st', p v st' ∧ Rd S w' L st' ∧ Upd (In L) w w'
/-- the buffer's bytes written anew -/
theorem Rd.putBuf {S : Err → Addr} {w w1 : World} {L : Loc} {st : RS} (h : Rd S w L st) (buf' : List UInt8) (u : Upd (fun k => k = L.bb) w w1) (hl : buf'.length = st.buf.length) (hb : w1.heap[L.bb]? = some (.cells (buf'.map bv).toArray 5 (0, 0))) : Rd S w1 L { st with buf := buf' } where
  hb := by rw [u.heap h.hb (fun hh => h.ne hh.symm)]; simp [rdCells, hl]
  hbb := hb
  src := h.src.upd u (fun k hk q1 q2 => by subst hk; have := h.bblo; omega)
  blo := h.blo
  bhi := h.bhi
  bblo := h.bblo
  bbhi := h.bbhi
  lomid := h.lomid
  rw := h.rw
  wn := by simp only [hl]; exact h.wn
  nlo := by simp only [hl]; exact h.nlo
  nhi := by simp only [hl]; exact h.nhi
  empties := h.empties
  errok := h.errok
  lastlo := h.lastlo
  lasthi := h.lasthi
  runelo := h.runelo
  runehi := h.runehi
theorem readErr {S : Err → Addr} {w : World} {L : Loc} {st : RS} (h : Rd S w L st) :
    Calls Tryd.prog 55 #[.pointer (some ⟨L.b, 0, none⟩)] w (Ret (RdPost S w L (fun v st' => v = eV S st.err ∧ st' = { st with err := none }))) := by
  obtain ⟨c0, c1, c2, c3, c4, c5, c6, hf⟩ := h.cells
  have h' := h.setErr none (.inl rfl)
  have H := Lib.hid h'
  have HI : Hid (In L L.b) := ⟨by have := h.blo; have := h.lomid; omega, h.bhi⟩
  clear h h'
  cases he : st.err with
  | none =>
    rw [he] at c4
    go_enter Tryd.func55, Tryd.ntmps55
    go_wp2
    go_ret
    exact ⟨_, ⟨rfl, rfl⟩, H.out, (Upd.refl _ _).setCell (fun _ => HI.out) _⟩
  | some e =>
    rw [he] at c4
    cases e <;>
    · go_enter Tryd.func55, Tryd.ntmps55
      go_wp2
      go_ret
      exact ⟨_, ⟨rfl, rfl⟩, H.out, (Upd.refl _ _).setCell (fun _ => HI.out) _⟩
/-- what is in the buffer has moved to its beginning -/
structure Slide (st st1 : RS) : Prop where
  r : st1.r = 0
  bd : bufd st1 = bufd st
  n : st1.buf.length = st.buf.length
  err : st1.err = st.err
  last : st1.last = st.last
  rune : st1.rune = st.rune
  ps : st1.ps = st.ps
  f : st1.f = st.f
theorem In.b {S : Err → Addr} {w : World} {L : Loc} {st : RS} (h : Rd S w L st) : In L L.b := ⟨by have := h.blo; have := h.lomid; omega, h.bhi⟩
theorem In.bb {S : Err → Addr} {w : World} {L : Loc} {st : RS} (h : Rd S w L st) : In L L.bb := ⟨by have := h.bblo; have := h.lomid; omega, h.bbhi⟩
/-- filled: more bytes of the source, or its end -/
structure Fill (st st' : RS) (chunk : List UInt8) : Prop where
  r : st'.r = 0
  bd : bufd st' = bufd st ++ chunk
  n : st'.buf.length = st.buf.length
  last : st'.last = st.last
  rune : st'.rune = st.rune
  f : st'.f = st.f
  src : st.ps.flatten = chunk ++ st'.ps.flatten
  how : (chunk ≠ [] ∧ st'.err = st.err) ∨ (chunk = [] ∧ st'.err = some (endErr st.f) ∧ st'.ps = [])
theorem splice_zero (L cs : List Value) : splice L 0 cs = cs ++ L.drop cs.length := by simp [splice]
theorem nones_srcLeft (k : Nat) (p0 : List UInt8) (rest : List (List UInt8)) (hk : k ≤ p0.length) : nones (srcLeft k (p0 :: rest)) ≤ nones (p0 :: rest) := by
  simp only [srcLeft]
  split
  · unfold nones; rw [List.filter_cons]; split <;> simp
  · rename_i hne
    have h1 : (p0.drop k).isEmpty = false := by
      cases hd : p0.drop k with
      | nil => have := congrArg List.length hd; simp at this; omega
      | cons a l => rfl
    have h2 : p0.isEmpty = false := by
      cases p0 with
      | nil => simp at hk; subst hk; simp at hne
      | cons a l => rfl
    unfold nones
    simp [h1, h2]
theorem Rd.read {S : Err → Addr} {w w1 : World} {L : Loc} {st : RS} {v : Value} (h : Rd S w L st) {p0 : List UInt8} {rest : List (List UInt8)} (hps : st.ps = p0 :: rest) {k : Nat} (hk : k ≤ p0.length) (hfit : st.w + k ≤ st.buf.length)
    (hp : ReadPost w L.sl L.mid L.s p0 rest st.f L.bb st.w k (st.buf.map bv).toArray v w1) :
    Rd S w1 L { st with buf := st.buf.take st.w ++ (p0.take k ++ st.buf.drop (st.w + k)), ps := srcLeft k (p0 :: rest) } ∧ Upd (In L) w w1 := by
  obtain ⟨_, hg, hsrc, hu, hz⟩ := hp
  have hmid := h.lomid
  have hb := h.blo
  have hbb := h.bblo
  have hne := h.ne
  have e : splice (st.buf.map bv).toArray.toList st.w ((p0.take k).map bv) = (st.buf.take st.w ++ (p0.take k ++ st.buf.drop (st.w + k))).map bv := by
    have hl : ((p0.take k).map bv).length = k := by simp; omega
    simp only [splice, hl]
    simp only [List.map_append, List.map_take, List.map_drop]
  rw [e] at hg
  have hlen : (st.buf.take st.w ++ (p0.take k ++ st.buf.drop (st.w + k))).length = st.buf.length := by
    have := h.wn; simp; omega
  refine ⟨?_, hu.mono (fun j hj _ => ?_)⟩
  · exact {
      hb := by
        rw [hu.heap h.hb (fun hh => by rcases hh with hh | hh; exact hne hh.symm; omega)]
        simp only [rdCells, hlen]
      hbb := hg
      src := hsrc
      blo := h.blo
      bhi := h.bhi
      bblo := h.bblo
      bbhi := h.bbhi
      lomid := h.lomid
      rw := h.rw
      wn := by simp only [hlen]; exact h.wn
      nlo := by simp only [hlen]; exact h.nlo
      nhi := by simp only [hlen]; exact h.nhi
      empties := by have := h.empties; rw [hps] at this; exact Nat.le_trans (nones_srcLeft k p0 rest hk) this
      errok := by rcases h.errok with h1 | ⟨_, h1⟩; exact .inl h1; rw [hps] at h1; cases h1
      lastlo := h.lastlo
      lasthi := h.lasthi
      runelo := h.runelo
      runehi := h.runehi }
  · rcases hj with rfl | hj
    · exact In.bb h
    · exact ⟨by omega, by omega⟩
set_option maxRecDepth 100000 in
set_option maxHeartbeats 2000000 in
theorem fill {S : Err → Addr} {B : Nat} {w : World} {L : Loc} {st : RS} (E : Env S B w) (hB : B ≤ L.lo) (h : Rd S w L st) (hroom : st.w - st.r < st.buf.length) :
    Calls Tryd.prog 54 #[.pointer (some ⟨L.b, 0, none⟩)] w (Ret (RdPost S w L (fun v st' => v = .tuple #[] ∧ ∃ chunk, Fill st st' chunk))) := by
  have HE := Lib.hid E
  have HB := Lib.hid hB
  have H := Lib.hid h
  have hrw := h.rw
  have hwn := h.wn
  have hnlo := h.nlo
  have hnhi := h.nhi
  obtain ⟨c0, c1, c2, c3, c4, c5, c6, hf⟩ := h.cells
  clear E hB h
  go_enter Tryd.func54, Tryd.ntmps54
  go_upto_if 9 with fail
  go_cut [] from 2 (fun wx => ∃ st1, Rd S wx L st1 ∧ Upd (In L) w wx ∧ Slide st st1)
  case first =>
    by_cases hr0 : st.r = 0
    · have hle : st.r ≤ 0 := by omega
      have HR := Lib.hid hr0
      clear hr0
      go_wp2
      go_meet
      exact ⟨st, H.out, Upd.refl _ _, ⟨HR.out, rfl, rfl, rfl, rfl, rfl, rfl, rfl⟩⟩
    · have hpos : 0 < st.r := by omega
      clear hr0
      have hbl := bufd_length (st := st) hwn
      have HBL := Lib.hid hbl
      clear hbl
      go_wp2
      refine wp_region_lx {} (by kernel_rfl) (by kernel_rfl) ⟨fun _ _ _ h => h.2, fun _ _ h => h⟩ ?_
      repeat (refine wpLx_calm rfl rfl rfl (fun K hK => ?_); go_step; refine hK _ ?_; clear hK K)
      refine wpLx_eff rfl rfl rfl (fun K hK => ?_)
      refine wp_copy eB (.tmp 13) (.tmp 26) 29 rfl L.bb 0 st.buf.length st.buf.length rfl (st.buf.map bv).toArray 5 H.out.hbb _ (st.w - st.r) (st.buf.length - st.r) rfl (fun hh => by split at hh <;> cases hh) ((bufd st).map bv)
        (by rw [List.length_map, HBL.out]; omega) (fun p hp j u hu => ?_) (by rw [List.length_map, HBL.out]; simp only [List.size_toArray, List.length_map]; omega) (oneCell_bytes _) ?_
      · have hj : j < (bufd st).length := by
          rcases Nat.lt_or_ge j (bufd st).length with h | h
          · exact h
          · rw [List.getElem?_eq_none (by simpa using h)] at hu; cases hu
        have hj2 : j < st.w - st.r := by rw [← HBL.out]; exact hj
        rw [if_neg (by omega)] at hp
        simp only [Option.some.injEq] at hp
        subst hp
        have hadd := addr_add L.bb st.r j
        rw [hadd, show w.drew.cell? ⟨L.bb, st.r + j, none⟩ = w.cell? ⟨L.bb, st.r + j, none⟩ from rfl, H.out.byte (by omega)]
        rw [List.getElem?_map, List.getElem?_eq_getElem hj] at hu
        simp only [Option.map_some, Option.some.injEq] at hu
        rw [← hu]
        simp [bufd, bv]
      intro w1 hw1 hu1 hz1
      refine hK _ _ ?_
      clear hK K
      refine wpLx_nil ?_
      have hsp : (splice (st.buf.map bv).toArray.toList 0 ((bufd st).map bv)).toArray = ((bufd st ++ st.buf.drop (bufd st).length).map bv).toArray := by
        rw [splice_zero]; simp
      rw [hsp] at hw1
      have hR1 : Rd S w1 L { st with buf := bufd st ++ st.buf.drop (bufd st).length } := H.out.drew.putBuf _ hu1 (by rw [List.length_append, List.length_drop, HBL.out]; omega) hw1
      obtain ⟨d0, d1, d2, d3, d4, d5, d6, hf1⟩ := hR1.cells
      have HR1 := Lib.hid hR1
      have HU1 := Lib.hid hu1
      clear hR1 hu1 hw1 hz1 hsp c0 c1 c2 c3 c4 c5 c6 hf d0 d1 d4 d5 d6
      obtain ⟨ao, hao⟩ : ∃ ao : Option Addr, (if st.buf.length = st.r then some (⟨L.bb, 0, none⟩ : Addr) else some ⟨L.bb, st.r, none⟩) = ao := ⟨_, rfl⟩
      rw [hao]
      clear hao
      go_wp2
      refine wp_region_lx {} (by kernel_rfl) (by kernel_rfl) ⟨fun _ _ _ h => h.2, fun _ _ h => h⟩ ?_
      repeat (refine wpLx_calm rfl rfl rfl (fun K hK => ?_); go_step; refine hK _ ?_; clear hK K)
      refine wpLx_eff rfl rfl rfl (fun K hK => ?_)
      go_step
      refine hK _ _ ?_
      clear hK K
      refine wpLx_nil ?_
      go_wp2
      go_meet
      have hin := In.b H.out
      have hin2 := In.bb H.out
      refine ⟨{ st with buf := bufd st ++ st.buf.drop (bufd st).length, r := 0, w := st.w - st.r }, ?_, ?_, ⟨rfl, ?_, ?_, rfl, rfl, rfl, rfl, rfl⟩⟩
      · refine HR1.out.put _ (((Upd.refl (fun k => k = L.b) w1).setCell (fun _ => rfl) _).drew.setCell (fun _ => rfl) _) ?_ rfl rfl rfl (Nat.zero_le _) (by have := HBL.out; simp; omega) H.out.errok H.out.lastlo H.out.lasthi H.out.runelo H.out.runehi
        refine (World.heap_setCell_self (World.heap_setCell_self HR1.out.hb _ _) _ _).trans ?_
        simp [rdCells]
        omega
      · refine Upd.setCell (Upd.drew (Upd.setCell ((Upd.refl (In L) w).drew.trans (HU1.out.mono (M := In L) (fun k hk _ => by subst hk; exact hin2)) (fun _ h _ => h)) (fun _ => hin) _)) (fun _ => hin) _
      · unfold bufd
        have := HBL.out
        simp only [List.drop_zero]
        rw [← this]
        exact List.take_left
      · have := HBL.out; simp; omega
  case rest =>
    obtain ⟨st1, h1, u1, hs⟩ := hcut
    have hbd : (bufd st1).length = (bufd st).length := by rw [hs.bd]
    rw [bufd_length h1.wn, bufd_length hwn, hs.r] at hbd
    have hn1 := hs.n
    have hroom1 : st1.w < st1.buf.length := by omega
    have hnhi1 := h1.nhi
    have H1 := Lib.hid h1
    have HU := Lib.hid u1
    have HS := Lib.hid hs
    obtain ⟨c0, c1, c2, c3, c4, c5, c6, hf⟩ := h1.cells
    clear h1 u1 hs hbd hn1
    go_wp2
    refine wp_region_lx {} (by kernel_rfl) (by kernel_rfl) ⟨fun _ _ _ h => h.2, fun _ _ h => h⟩ ?_
    repeat (refine wpLx_calm rfl rfl rfl (fun K hK => ?_); go_step; refine hK _ ?_; clear hK K)
    refine wpLx_nil ?_
    go_wp2
    go_loopw [2] (fun i wr => ∃ (k : Nat) (ps2 : List (List UInt8)), k ≤ 100 ∧ i = .int .i64 (k : Int) ∧ Rd S wr L { st1 with ps := ps2 } ∧ Upd (In L) w wr ∧ st1.ps = List.replicate (100 - k) [] ++ ps2) (fun i _ => (intOf i).toNat)
    case atStart => exact ⟨100, st1.ps, Nat.le_refl _, rfl, H1.out.drew, HU.out.drew, by simp⟩
    case round =>
      obtain ⟨k, ps2, hk, rfl, h2, u2, hps⟩ := hrel
      have hkpos : 50 ≤ k := by
        have e := H1.out.empties
        rw [hps] at e
        have e2 : nones (List.replicate (100 - k) [] ++ ps2) = (100 - k) + nones ps2 := by
          unfold nones; rw [List.filter_append, List.length_append, List.filter_replicate]; simp
        omega
      have H2 := Lib.hid h2
      have HU2 := Lib.hid u2
      have HPS := Lib.hid hps
      obtain ⟨d0, d1, d2, d3, d4, d5, d6, hf2⟩ := h2.cells
      clear h2 u2 hps c0 c1 c2 c3 c4 c5 c6 hf
      simp only [rdV] at d1
      have hne : ¬ st1.buf.length = st1.w := by omega
      have HIb := Lib.hid (In.b H1.out)
      cases ps2 with
      | nil =>
        go_wp2
        refine wp_region_lx {} (by kernel_rfl) (by kernel_rfl) ⟨fun _ _ _ h => h.2, fun _ _ h => h⟩ ?_
        repeat (refine wpLx_calm rfl rfl rfl (fun K hK => ?_); go_step; refine hK _ ?_; clear hK K)
        refine wpLx_eff rfl rfl rfl (fun K hK => ?_)
        refine wp_call (srcRead_nil (f := st1.f) ((HE.out.upd HU2.out (fun k hk => by have := hk.1; have := HB.out; omega)).new (Upd.refl _ _).drew) (H2.out.drew).src (.slice (some ⟨L.bb, st1.w, none⟩) (st1.buf.length - st1.w) (st1.buf.length - st1.w))) (by kernel_rfl) ?_
        rintro v w1 ⟨hw1, rfl⟩
        refine hK _ _ ?_
        clear hK K
        obtain ⟨et, ev, hev⟩ : ∃ et ev, eV S (some (endErr st1.f)) = .iface et ev := by cases st1.f <;> exact ⟨_, _, rfl⟩
        have h3 := (H2.out.drew).new hw1
        obtain ⟨e0, e1, e2, e3, e4, e5, e6, hf3⟩ := h3.cells
        have hfin : ∀ w2, w2 = (w1.setCell ⟨L.b, 3, none⟩ (.int .i64 (st1.w : Int))).setCell ⟨L.b, 4, none⟩ (.iface et ev) → RdPost S w L (fun v st' => v = .tuple #[] ∧ ∃ chunk, Fill st st' chunk) (.tuple #[]) w2 := by
          intro w2 hw2
          subst hw2
          have hs := HS.out
          refine ⟨{ st1 with ps := [], err := some (endErr st1.f) }, ⟨rfl, [], ?_⟩, ?_, ?_⟩
          · refine ⟨hs.r, by rw [List.append_nil]; exact hs.bd, hs.n, hs.last, hs.rune, hs.f, ?_, .inr ⟨rfl, by rw [hs.f], rfl⟩⟩
            rw [← hs.ps, HPS.out]; simp
          · rw [← hev]
            exact (h3.setW st1.w h3.rw h3.wn).setErr (some (endErr st1.f)) (.inr ⟨rfl, rfl⟩)
          · exact (((HU2.out.drew).andNew hw1).setCell (fun _ => HIb.out) _).setCell (fun _ => HIb.out) _
        have HFIN := Lib.hid hfin
        clear h3 hfin d0 d1 d2 d3 d4 d5 d6 hf2 e0 e1 e2 e5 e6
        rw [hev]
        repeat (refine wpLx_calm rfl rfl rfl (fun K hK => ?_); go_step; refine hK _ ?_; clear hK K)
        refine wpLx_nil ?_
        go_wp2
        refine bodyPost_ret (results_none rfl _ _ _) rfl ?_
        exact HFIN.out _ rfl
      | cons p0 rest =>
        obtain ⟨m, hm⟩ : ∃ m, m = min p0.length (st1.buf.length - st1.w) := ⟨_, rfl⟩
        have hm1 : m ≤ p0.length := by omega
        have hm2 : st1.w + m ≤ st1.buf.length := by omega
        have HM := Lib.hid hm
        clear hm
        go_wp2
        refine wp_region_lx {} (by kernel_rfl) (by kernel_rfl) ⟨fun _ _ _ h => h.2, fun _ _ h => h⟩ ?_
        repeat (refine wpLx_calm rfl rfl rfl (fun K hK => ?_); go_step; refine hK _ ?_; clear hK K)
        refine wpLx_eff rfl rfl rfl (fun K hK => ?_)
        refine wp_call (srcRead_cons (f := st1.f) (H2.out.drew).src L.bb st1.w (st1.buf.length - st1.w) (st1.buf.length - st1.w) (st1.buf.map bv).toArray (H2.out.drew).hbb (fun hh => by have h1 := H2.out.bblo; have h2 : L.sl ≤ L.bb ∧ L.bb < L.mid := hh; omega) (by simp only [List.size_toArray, List.length_map]; omega) (Nat.le_refl _) (by omega)) (by kernel_rfl) ?_
        rw [← HM.out]
        intro v w1 hrp
        have hv : v = .tuple #[.int .i64 ((m : Nat) : Int), .nilIface] := hrp.1
        obtain ⟨h3, u3⟩ := (H2.out.drew).read (st := { st1 with ps := p0 :: rest }) rfl hm1 hm2 hrp
        refine hK _ _ ?_
        clear hK K
        rw [hv]
        obtain ⟨e0, e1, e2, e3, e4, e5, e6, hf3⟩ := h3.cells
        simp only [] at e3
        have H3 := Lib.hid h3
        have HU3 := Lib.hid u3
        clear h3 u3 hrp hv d0 d1 d2 d3 d4 d5 d6 hf2 e0 e1 e2 e4 e5 e6
        repeat (refine wpLx_calm rfl rfl rfl (fun K hK => ?_); go_step; refine hK _ ?_; clear hK K)
        refine wpLx_nil ?_
        have hfin : ∀ w2, w2 = w1.setCell ⟨L.b, 3, none⟩ (.int .i64 ((st1.w : Int) + (m : Int))) → Rd S w2 L { st1 with buf := st1.buf.take st1.w ++ (p0.take m ++ st1.buf.drop (st1.w + m)), w := st1.w + m, ps := srcLeft m (p0 :: rest) } ∧ Upd (In L) w w2 := by
          intro w2 hw2
          rw [show ((st1.w : Int) + (m : Int)) = ((st1.w + m : Nat) : Int) by omega] at hw2
          subst hw2
          refine ⟨H3.out.setW (st1.w + m) ?_ ?_, ((HU2.out.drew).trans HU3.out (fun _ h _ => h)).setCell (fun _ => HIb.out) _⟩
          · have := H2.out.rw; have h : st1.r ≤ st1.w := this; show st1.r ≤ st1.w + m; omega
          · simp only [List.length_append, List.length_take, List.length_drop]; omega
        have HFIN := Lib.hid hfin
        clear hfin
        by_cases hp0 : 0 < m
        · go_wp2
          refine bodyPost_ret (results_none rfl _ _ _) rfl ?_
          obtain ⟨q1, q2⟩ := HFIN.out _ rfl
          have hs := HS.out
          have hr : st1.r = 0 := hs.r
          refine ⟨_, ⟨rfl, p0.take m, ?_⟩, q1, q2⟩
          refine ⟨hr, ?_, ?_, hs.last, hs.rune, hs.f, ?_, .inl ⟨?_, hs.err⟩⟩
          · rw [← hs.bd]
            unfold bufd
            simp only [hr, List.drop_zero]
            have hl : (st1.buf.take st1.w).length = st1.w := by simp; omega
            have hl2 : (p0.take m).length = m := by simp; omega
            rw [← List.append_assoc]
            exact List.take_left' (by rw [List.length_append, hl, hl2])
          · rw [← hs.n]; simp only [List.length_append, List.length_take, List.length_drop]; omega
          · rw [← hs.ps, HPS.out, List.flatten_append]
            rw [srcLeft_flatten m p0 rest hm1]
            simp
          · intro hh
            have := congrArg List.length hh
            rw [List.length_take, List.length_nil] at this
            omega
        · have hm0 : m = 0 := by omega
          have hp : p0 = [] := by
            have := HM.out
            apply List.eq_nil_of_length_eq_zero; omega
          have hrel2 : ∀ w2, w2 = w1.setCell ⟨L.b, 3, none⟩ (.int .i64 ((st1.w : Int) + (m : Int))) → ∃ (k' : Nat) (ps2 : List (List UInt8)), k' ≤ 100 ∧ Value.int .i64 ((k : Int) - 1) = .int .i64 (k' : Int) ∧ Rd S w2 L { st1 with ps := ps2 } ∧ Upd (In L) w w2 ∧ st1.ps = List.replicate (100 - k') [] ++ ps2 := by
            intro w2 hw2
            obtain ⟨q1, q2⟩ := HFIN.out w2 hw2
            refine ⟨k - 1, rest, by omega, by rw [show ((k : Int) - 1) = ((k - 1 : Nat) : Int) by omega], ?_, q2, ?_⟩
            · subst hm0; subst hp
              have e : st1.buf.take st1.w ++ (([] : List UInt8).take 0 ++ st1.buf.drop (st1.w + 0)) = st1.buf := by simp
              rw [e] at q1
              exact q1
            · rw [HPS.out, hp, show 100 - (k - 1) = (100 - k) + 1 by omega, List.replicate_succ', List.append_assoc]; rfl
          have HREL := Lib.hid hrel2
          clear hrel2 hm0 hp
          go_wp2
          go_roundw
          case rel =>
            obtain ⟨k', ps2, a1, a2, a3, a4, a5⟩ := HREL.out _ rfl
            first | exact ⟨k', ps2, a1, a2, a3, a4, a5⟩ | exact ⟨k', a1, by simpa using a2, ps2, a3, a4, a5⟩
          case measure => simp [intOf]; omega
end Go.Proofs.YtmmjfpcmempeeaaDoor
/- A new buffered reader over a source: reset, NewReaderSize, impl.over. -/
namespace Go.Proofs.YtmmjfpcmempeeaaDoor
open Go.RowKit
/-- a reader as it is made -/
def fresh (n : Nat) (ps : List (List UInt8)) (f : Bool) : RS := ⟨List.replicate n 0, 0, 0, none, -1, -1, ps, f⟩
/-- what is made: a reader in blocks of its own -/
def OverPost (S : Err → Addr) (w : World) (n : Nat) (ps : List (List UInt8)) (f : Bool) (v : Value) (w' : World) : Prop :=
  New w w' ∧ ∃ L, v = .pointer (some ⟨L.b, 0, none⟩) ∧ w.heap.size ≤ L.lo ∧ L.hi ≤ w'.heap.size ∧ Rd S w' L (fresh n ps f)
theorem made_bytes (n : Nat) : (madeCells (Value.int .u8 0).cells (n * 1)) = ((List.replicate n (0 : UInt8)).map bv).toArray := by
  rw [Nat.mul_one]
  apply Array.toList_inj.1
  rw [show (Value.int .u8 0).cells = #[.int .u8 0] from rfl, toList_madeCells_one]
  simp [bv]
/-- a reader's struct written anew -/
def ResetPost (b : Nat) (bufv rv : Value) (w : World) (v : Value) (w' : World) : Prop :=
  v = .tuple #[] ∧ w'.heap[b]? = some (.cells #[bufv, rv, .int .i64 0, .int .i64 0, .nilIface, .int .i64 (-1), .int .i64 (-1)] 104 (0, 0)) ∧ Upd (fun k => k = b) w w' ∧ w'.heap.size = w.heap.size
set_option maxRecDepth 100000 in
theorem reset {w : World} {b : Nat} {cs : Array Value} (hb : w.heap[b]? = some (.cells cs 104 (0, 0))) (hs : cs.size = 7) (a : Option Addr) (n c : Nat) (t : TypeId) (x : Value) :
    Calls Tryd.prog 58 #[.pointer (some ⟨b, 0, none⟩), .slice a n c, .iface t x] w (Ret (ResetPost b (.slice a n c) (.iface t x) w)) := by
  have H := Lib.hid hb
  have HS := Lib.hid hs
  clear hb hs
  have hbuild : ∀ w, (Instr.build 104 #[(0, .slice a n c), (1, .iface t x), (5, .int .i64 (-1)), (6, .int .i64 (-1))]).run Tryd.prog w = .ok (.agg #[.slice a n c, .iface t x, .int .i64 0, .int .i64 0, .nilIface, .int .i64 (-1), .int .i64 (-1)]) w := fun w => by kernel_rfl
  go_enter Tryd.func58, Tryd.ntmps58
  go_wp2_with (refine wpList_plain rfl (fun K hK => ?_); refine wp_storeAll (n := 7) (by kernel_rfl) (.tmp 10) (.tmp 9) rfl b rfl #[.slice a n c, .iface t x, .int .i64 0, .int .i64 0, .nilIface, .int .i64 (-1), .int .i64 (-1)] rfl rfl (by simp [Value.oneCell']) _ _ H.out HS.out ?_; intro w' h1 h2 h3; refine hK _ _ ?_; clear hK K)
  go_end0
  exact ⟨rfl, by assumption, by assumption, by assumption⟩
theorem newReaderSize_fin {S : Err → Addr} {w w1 : World} {lo s n : Nat} {ps : List (List UInt8)} {f : Bool} {v : Value} {cs : Array Value} (hsrc : Src w lo w.heap.size s ps f) (hlo : lo ≤ w.heap.size) (h16 : 16 ≤ n) (hn : n ≤ 5000) (hne : nones ps ≤ 50)
    (h : ResetPost w.heap.size (.slice (some ⟨w.heap.size + 1, 0, none⟩) n n) (.iface 82 (.pointer (some ⟨s, 0, none⟩))) ((w.alloc (.cells cs 104)).alloc (.cells (madeCells (Value.int .u8 0).cells (n * 1)) 5)) v w1) :
    New w w1 ∧ ∃ L, Value.pointer (some ⟨w.heap.size, 0, none⟩) = .pointer (some ⟨L.b, 0, none⟩) ∧ L.lo = lo ∧ L.hi ≤ w1.heap.size ∧ Rd S w1 L (fresh n ps f) := by
  obtain ⟨_, hb, hu, hz⟩ := h
  have hz' : w1.heap.size = w.heap.size + 2 := by simp at hz; omega
  have hu' : New w w1 := by
    refine (((Upd.refl (fun _ => False) w).alloc (.cells cs 104)).alloc (.cells (madeCells (Value.int .u8 0).cells (n * 1)) 5)).trans hu (fun k hk hlt => ?_)
    subst hk; omega
  have hbb : w1.heap[w.heap.size + 1]? = some (.cells ((List.replicate n (0 : UInt8)).map bv).toArray 5 (0, 0)) := by
    refine hu.heap ?_ (fun hh => by have hh : w.heap.size + 1 = w.heap.size := hh; omega)
    rw [made_bytes]
    exact heap_alloc_new (w.alloc (.cells cs 104)) _ |> fun e => by simpa using e
  refine ⟨hu', ⟨w.heap.size, w.heap.size + 1, s, lo, lo, w.heap.size, w.heap.size + 2⟩, rfl, rfl, (by show w.heap.size + 2 ≤ w1.heap.size; omega), ?_⟩
  exact {
    hb := by rw [hb]; simp [rdCells, fresh, rdV, eV]
    hbb := hbb
    src := hsrc.new hu'
    blo := ⟨hlo, by show ¬ (lo ≤ w.heap.size ∧ w.heap.size < w.heap.size); omega⟩
    bhi := by simp
    bblo := ⟨by show lo ≤ w.heap.size + 1; omega, by show ¬ (lo ≤ w.heap.size + 1 ∧ w.heap.size + 1 < w.heap.size); omega⟩
    bbhi := by simp
    lomid := ⟨Nat.le_refl _, by show w.heap.size ≤ w.heap.size + 2; omega⟩
    rw := Nat.le_refl _
    wn := Nat.zero_le _
    nlo := by simpa [fresh] using h16
    nhi := by simp [fresh]; omega
    empties := hne
    errok := .inl rfl
    lastlo := by simp [fresh]
    lasthi := by simp [fresh]
    runelo := by simp [fresh]
    runehi := by simp [fresh] }
set_option maxRecDepth 100000 in
set_option maxHeartbeats 1000000 in
theorem newReaderSize {S : Err → Addr} {w : World} {lo s sz : Nat} {ps : List (List UInt8)} {f : Bool} (hsrc : Src w lo w.heap.size s ps f) (hlo : lo ≤ w.heap.size) (hsz : sz ≤ 5000) (hne : nones ps ≤ 50) :
    Calls Tryd.prog 39 #[.iface 82 (.pointer (some ⟨s, 0, none⟩)), .int .i64 (sz : Int)] w
      (Ret fun v w' => New w w' ∧ ∃ L, v = .pointer (some ⟨L.b, 0, none⟩) ∧ L.lo = lo ∧ L.hi ≤ w'.heap.size ∧ Rd S w' L (fresh (max sz 16) ps f)) := by
  have hta : ∀ (x : Value) (w : World), (Instr.typeAssert (.iface 82 x) 102 70 true).run Tryd.prog w = .ok (.tuple #[.pointer none, .bool false]) w := fun x w => by kernel_rfl
  have HS := Lib.hid hsrc
  have HL := Lib.hid hlo
  have HN := Lib.hid hne
  clear hsrc hlo hne
  have key : ∀ n : Nat, 16 ≤ n → n ≤ 5000 → ∀ (cs : Array Value), cs.size = 7 → Calls Tryd.prog 58 #[.pointer (some ⟨w.heap.size, 0, none⟩), .slice (some ⟨w.heap.size + 1, 0, none⟩) n n, .iface 82 (.pointer (some ⟨s, 0, none⟩))]
      ((w.alloc (.cells cs 104)).alloc (.cells (madeCells (Value.int .u8 0).cells (n * 1)) 5)) (Ret fun _ w1 => New w w1 ∧ ∃ L, Value.pointer (some ⟨w.heap.size, 0, none⟩) = .pointer (some ⟨L.b, 0, none⟩) ∧ L.lo = lo ∧ L.hi ≤ w1.heap.size ∧ Rd S w1 L (fresh n ps f)) := by
    intro n h16 hn cs hcs
    refine callRet (reset (cs := cs) ?_ hcs _ _ _ _ _) (fun v w1 h1 => newReaderSize_fin HS.out HL.out h16 hn HN.out h1)
    rw [Below.heap_alloc _ _ _ (by simp)]
    exact heap_alloc_new w _
  by_cases h16 : sz < 16
  · rw [show max sz 16 = 16 by omega]
    have K16 := Lib.hid (key 16 (by omega) (by omega))
    clear key
    go_enter Tryd.func39, Tryd.ntmps39
    go_wp2_with (first | (at_make; refine wpList_plain rfl (fun K hK => ?_); refine wp_make eB (.tmp 27) (.tmp 27) rfl .i64 .i64 16 16 rfl rfl (Nat.le_refl _) (by omega) (by unfold maxLen; omega) ?_; refine hK _ _ ?_; clear hK K) | (go_at_call 58; refine callRet (K16.out _ rfl) ?_; intro v w1 h1))
    go_ret
    assumption
  · rw [show max sz 16 = sz by omega]
    have K16 := Lib.hid (by simpa only [Nat.mul_one] using key sz (by omega) (by omega))
    clear key
    go_enter Tryd.func39, Tryd.ntmps39
    go_wp2_with (first | (at_make; refine wpList_plain rfl (fun K hK => ?_); refine wp_make eB (.tmp 27) (.tmp 27) rfl .i64 .i64 sz sz rfl rfl (Nat.le_refl _) (by omega) (by unfold maxLen; omega) ?_; refine hK _ _ ?_; clear hK K) | (go_at_call 58; refine callRet (K16.out _ rfl) ?_; intro v w1 h1))
    go_ret
    assumption
set_option maxRecDepth 100000 in
theorem over {S : Err → Addr} {w : World} {sz : Nat} {a : Option Addr} {c : Nat} {ps : List (List UInt8)} (f : Bool) (h : PiecesA w a c ps) (hl : ps.flatten.length ≤ 20000) (hn : ps.length ≤ 500) (hsz : sz ≤ 5000) (hne : nones ps ≤ 50) :
    Calls Tryd.prog 32 #[.agg #[.slice a ps.length c, .bool f], .int .i64 (sz : Int)] w (Ret (OverPost S w (max sz 16) ps f)) := by
  have K1 := Lib.hid (readerOf a c ps f ((w.alloc (.cells #[.slice a ps.length c, .bool f] 24))) (h.new ((Upd.refl _ _).alloc _)) (by omega) (by omega))
  have h2 := h.2.1
  unfold maxLen at h2
  clear h
  go_enter Tryd.func32, Tryd.ntmps32
  go_wp2_with (first | (go_at_call 40; refine callRet K1.out ?_; intro v w1 h1; obtain ⟨hu1, s, rfl, hsrc⟩ := h1; have HU := Lib.hid hu1; clear hu1; have K2 := Lib.hid (newReaderSize (S := S) (sz := sz) hsrc (by have := HU.out.size; simpa using this) hsz hne); clear hsrc) | (go_at_call 39; refine callRet K2.out ?_; intro v w2 h2))
  obtain ⟨hu2, L, rfl, hlo, hhi, hrd⟩ := h2
  have HU2 := Lib.hid hu2
  go_ret
  have hz : L.lo = w.heap.size + 1 := by rw [hlo]; simp
  exact ⟨((Upd.refl _ _).alloc _).andNew (HU.out.andNew HU2.out), L, rfl, by omega, hhi, hrd⟩
end Go.Proofs.YtmmjfpcmempeeaaDoor
/- What a reader has left; ReadByte. -/
namespace Go.Proofs.YtmmjfpcmempeeaaDoor
open Go.RowKit
/-- all bytes that are still to come -/
def rem (st : RS) : List UInt8 := bufd st ++ st.ps.flatten
/-- only filled: the same is left -/
structure Went (st st1 : RS) : Prop where
  rem : rem st1 = rem st
  n : st1.buf.length = st.buf.length
  last : st1.last = st.last
  rune : st1.rune = st.rune
  f : st1.f = st.f
theorem Went.refl (st : RS) : Went st st := ⟨rfl, rfl, rfl, rfl, rfl⟩
theorem Went.trans {st st1 st2 : RS} (h : Went st st1) (h' : Went st1 st2) : Went st st2 := ⟨h'.rem.trans h.rem, h'.n.trans h.n, h'.last.trans h.last, h'.rune.trans h.rune, h'.f.trans h.f⟩
theorem Fill.went {st st' : RS} {chunk : List UInt8} (h : Fill st st' chunk) : Went st st' where
  rem := by unfold rem; rw [h.bd, h.src, List.append_assoc]
  n := h.n
  last := h.last
  rune := h.rune
  f := h.f
/-- how many fills may still come: bytes of the source, and the one that tells the end -/
def toFill (st : RS) : Nat := st.ps.flatten.length + (if st.err = none then 1 else 0)
theorem Fill.less {st st' : RS} {chunk : List UInt8} (h : Fill st st' chunk) (he : st.err = none) : toFill st' < toFill st := by
  unfold toFill
  have hs := congrArg List.length h.src
  rw [List.length_append] at hs
  rcases h.how with ⟨h1, h2⟩ | ⟨h1, h2, h3⟩
  · have : 0 < chunk.length := List.length_pos_iff.2 h1
    rw [h2]; omega
  · rw [h2, he, if_neg (by simp), if_pos rfl, h3]; simp
theorem bufd_nil {st : RS} (h : st.w ≤ st.r) : bufd st = [] := by unfold bufd; rw [List.drop_eq_nil_iff]; simp; omega
/-- a byte of what is buffered -/
theorem bufd_cons {st : RS} (h : st.r < st.w) (h2 : st.w ≤ st.buf.length) : bufd st = st.buf[st.r] :: bufd { st with r := st.r + 1 } := by
  unfold bufd
  rw [List.drop_eq_getElem_cons (by simp; omega)]
  simp
/-- the end: nothing is left, an error waits -/
theorem Rd.ended {S : Err → Addr} {w : World} {L : Loc} {st : RS} (h : Rd S w L st) (he : st.err ≠ none) : st.ps = [] ∧ st.err = some (endErr st.f) := by
  rcases h.errok with h1 | h1
  · exact absurd h1 he
  · exact ⟨h1.2, h1.1⟩
/-- one byte read, or the end told -/
def ByteRead (S : Err → Addr) (st : RS) (v : Value) (st' : RS) : Prop :=
  ∃ st1, Went { st with rune := -1 } st1 ∧
    ((∃ (h1 : st1.r < st1.w) (h2 : st1.w ≤ st1.buf.length), v = .tuple #[.int .u8 (st1.buf[st1.r].toNat : Int), .nilIface] ∧ st' = { st1 with r := st1.r + 1, last := (st1.buf[st1.r].toNat : Int) }) ∨
     (rem st1 = [] ∧ v = .tuple #[.int .u8 0, eV S (some (endErr st.f))] ∧ st' = { st1 with err := none }))
theorem u8_last (x : UInt8) : -1 ≤ (x.toNat : Int) ∧ (x.toNat : Int) ≤ 255 := by have := x.toNat_lt; omega
set_option maxRecDepth 100000 in
set_option maxHeartbeats 1000000 in
theorem readByte {S : Err → Addr} {B : Nat} {w : World} {L : Loc} {st : RS} (E : Env S B w) (hB : B ≤ L.lo) (h : Rd S w L st) :
    Calls Tryd.prog 44 #[.pointer (some ⟨L.b, 0, none⟩)] w (Ret (RdPost S w L (ByteRead S st))) := by
  have HE := Lib.hid E
  have HB := Lib.hid hB
  have H := Lib.hid h
  obtain ⟨c0, c1, c2, c3, c4, c5, c6, hf⟩ := h.cells
  have h0 : Rd S (w.setCell ⟨L.b, 6, none⟩ (.int .i64 (-1))) L { st with rune := -1 } := h.setRune (-1) (by omega) (by omega)
  have HI := Lib.hid (In.b h)
  have H0 := Lib.hid h0
  clear E hB h h0 c0 c1 c2 c3 c4 c5
  go_enter Tryd.func44, Tryd.ntmps44
  go_wp2
  go_loopg [] (toFill st) (fun k wx => ∃ st1, Rd S wx L st1 ∧ Upd (In L) w wx ∧ Went { st with rune := -1 } st1 ∧ toFill st1 ≤ k)
  case atStart => exact ⟨_, H0.out, (Upd.refl _ _).setCell (fun _ => HI.out) _, Went.refl _, Nat.le_refl _⟩
  case round =>
    obtain ⟨st1, h1, u1, wt, hk⟩ := hrel
    have hrw := h1.rw
    have hwn := h1.wn
    have hnhi := h1.nhi
    obtain ⟨d0, d1, d2, d3, d4, d5, d6, hf1⟩ := h1.cells
    have H1 := Lib.hid h1
    have HU := Lib.hid u1
    have HW := Lib.hid wt
    have HK := Lib.hid hk
    clear h1 u1 wt hk c6 hf
    by_cases hr : st1.r < st1.w
    · have hb := H1.out.byte (show st1.r < st1.buf.length by omega)
      clear d1 d4 d6
      have hfin : ∀ w2, w2 = ((wr.setCell ⟨L.b, 2, none⟩ (.int .i64 ((st1.r : Int) + 1))).setCell ⟨L.b, 5, none⟩ (.int .i64 (st1.buf[st1.r].toNat : Int))).drew.drew →
          RdPost S w L (ByteRead S st) (.tuple #[.int .u8 (st1.buf[st1.r].toNat : Int), .nilIface]) w2 := by
        intro w2 hw2
        subst hw2
        refine ⟨{ st1 with r := st1.r + 1, last := (st1.buf[st1.r].toNat : Int) }, ⟨st1, HW.out, .inl ⟨hr, hwn, rfl, rfl⟩⟩, ?_, ?_⟩
        · exact ((H1.out.setR (st1.r + 1) (by omega)).setLast _ (u8_last _).1 (u8_last _).2).drew.drew
        · exact ((HU.out.setCell (fun _ => HI.out) _).setCell (fun _ => HI.out) _).drew.drew
      have HFIN := Lib.hid hfin
      have hu64 : wrap64 (st1.buf[st1.r].toNat : Int) = (st1.buf[st1.r].toNat : Int) := by have := u8_last st1.buf[st1.r]; unfold wrap64; omega
      clear hfin
      go_wp2
      refine wp_region_lx {} (by kernel_rfl) (by kernel_rfl) ⟨fun _ _ _ h => h.2, fun _ _ h => h⟩ ?_
      repeat (refine wpLx_calm rfl rfl rfl (fun K hK => ?_); go_step; refine hK _ ?_; clear hK K)
      refine wpLx_nil ?_
      go_wp2
      refine wp_region_lx {} (by kernel_rfl) (by kernel_rfl) ⟨fun _ _ _ h => h.2, fun _ _ h => h⟩ ?_
      repeat (refine wpLx_calm rfl rfl rfl (fun K hK => ?_); go_step; refine hK _ ?_; clear hK K)
      refine wpLx_nil ?_
      go_wp2
      go_ret2
      exact HFIN.out _ rfl
    · have hre : st1.r = st1.w := by omega
      have HRE := Lib.hid hre
      have hro : st1.w - st1.r < st1.buf.length := by have := H1.out.nlo; omega
      have HRO := Lib.hid hro
      rw [hre] at d2
      clear hro hre d0 d1 d5 d6 hr
      cases he : st1.err with
      | none =>
        have HER := Lib.hid he
        rw [he] at d4
        simp only [eV] at d4
        clear he
        go_wp2
        refine wp_region_lx {} (by kernel_rfl) (by kernel_rfl) ⟨fun _ _ _ h => h.2, fun _ _ h => h⟩ ?_
        repeat (refine wpLx_calm rfl rfl rfl (fun K hK => ?_); go_step; refine hK _ ?_; clear hK K)
        refine wpLx_nil ?_
        go_wp2_with (go_at_call 54; refine callRet (fill ((HE.out.upd HU.out (fun k hk => by have := hk.1; have := HB.out; omega)).new (Upd.refl _ _).drew) HB.out H1.out.drew HRO.out) ?_; intro v w1 hv; have HV := Lib.hid hv; clear hv)
        obtain ⟨st2, ⟨_, chunk, hfill⟩, h2, u2⟩ := HV.out
        go_roundg (toFill st2)
        case rel => exact ⟨st2, h2, (HU.out.drew).trans u2 (fun _ h _ => h), HW.out.trans hfill.went, Nat.le_refl _⟩
        case measure => have := HK.out; have := hfill.less HER.out; omega
      | some e =>
        have HER := Lib.hid he
        rw [he] at d4
        obtain ⟨et, ev, hev⟩ : ∃ et ev, eV S (some e) = .iface et ev := by cases e <;> exact ⟨_, _, rfl⟩
        rw [hev] at d4
        have HEV := Lib.hid hev
        clear he hev
        go_wp2
        refine wp_region_lx {} (by kernel_rfl) (by kernel_rfl) ⟨fun _ _ _ h => h.2, fun _ _ h => h⟩ ?_
        repeat (refine wpLx_calm rfl rfl rfl (fun K hK => ?_); go_step; refine hK _ ?_; clear hK K)
        refine wpLx_nil ?_
        go_wp2_with (go_at_call 55; refine callRet (readErr H1.out.drew) ?_; intro v w1 hv; have HV := Lib.hid hv; clear hv)
        go_ret2
        obtain ⟨st2, ⟨hv, rfl⟩, h2, u2⟩ := HV.out
        obtain ⟨q1, q2⟩ := H1.out.ended (by rw [HER.out]; simp)
        refine ⟨_, ⟨st1, HW.out, .inr ⟨?_, ?_, rfl⟩⟩, h2, (HU.out.drew).trans u2 (fun _ h _ => h)⟩
        · unfold rem; rw [bufd_nil (Nat.le_of_eq HRE.out.symm), q1]; rfl
        · rw [hv, q2, HW.out.f]; rfl
end Go.Proofs.YtmmjfpcmempeeaaDoor
/- Bytes that are gathered behind a reader; impl.Bytes. -/
namespace Go.Proofs.YtmmjfpcmempeeaaDoor
open Go.RowKit
theorem ownsRow_upd {M : Nat → Prop} {w w1 : World} {base e size n : Nat} {v : Value} {xs : List Value} (h : w.ownsRow base e size v n xs) (u : Upd M w w1) (hm : ∀ k, M k → base ≤ k → False) : w1.ownsRow base e size v n xs := by
  refine ⟨h.1, ?_⟩
  rcases h.2 with h | ⟨g, cap, cur, hv, hb, hg, r⟩
  · exact .inl h
  · exact .inr ⟨g, cap, cur, hv, hb, u.heap hg (fun hh => hm _ hh hb), r⟩
/-- bytes in a block of one's own, at 'base' or above; or none -/
def OwnB (base : Nat) (w : World) (v : Value) (bs : List UInt8) : Prop := w.ownsRow base 5 1 v bs.length (bs.map bv)
theorem OwnB.nil (base : Nat) (w : World) : OwnB base w (.slice none 0 0) [] := World.ownsRow_nil _ _ _ _
theorem OwnB.upd {M : Nat → Prop} {base : Nat} {w w1 : World} {v : Value} {bs : List UInt8} (h : OwnB base w v bs) (u : Upd M w w1) (hm : ∀ k, M k → base ≤ k → False) : OwnB base w1 v bs := ownsRow_upd h u hm
theorem OwnB.new {base : Nat} {w w1 : World} {v : Value} {bs : List UInt8} (h : OwnB base w v bs) (u : New w w1) : OwnB base w1 v bs := ownsRow_new h u
theorem OwnB.bytes {base : Nat} {w : World} {v : Value} {bs : List UInt8} (h : OwnB base w v bs) : BytesAt w v bs := by
  have h' := h
  rcases h'.2 with ⟨rfl, hn⟩ | ⟨g, cap, cur, rfl, _⟩
  · obtain rfl := List.eq_nil_of_length_eq_zero hn
    exact ⟨none, 0, rfl, Nat.le_refl _, Nat.zero_le _, fun _ => rfl, fun p hp => by cases hp⟩
  · exact ⟨_, _, rfl, (BytesA.owned h).2⟩
theorem OwnB.base {base base' : Nat} {w : World} {v : Value} {bs : List UInt8} (h : OwnB base w v bs) (hb : base' ≤ base) : OwnB base' w v bs := by
  refine ⟨h.1, ?_⟩
  rcases h.2 with h | ⟨g, cap, cur, hv, hh, r⟩
  · exact .inl h
  · exact .inr ⟨g, cap, cur, hv, by omega, r⟩
theorem BytesA.one {w : World} {g : Nat} {x : UInt8} {cs : Array Value} {t : TypeId} (h : w.heap[g]? = some (.cells cs t (0, 0))) (hc : cs = #[bv x]) : BytesA w (some ⟨g, 0, none⟩) 1 [x] := by
  subst hc
  refine ⟨Nat.le_refl _, by unfold maxLen; omega, by simp, fun p hp => ?_⟩
  simp only [Option.some.injEq] at hp; subst hp
  refine ⟨fun _ => rfl, fun i hi => ?_⟩
  obtain rfl : i = 0 := by simp at hi; omega
  rw [World.cell_of_heap h]; rfl
/-- a box's cells, behind what made new blocks alone -/
theorem box_new {w w1 : World} {cs : Array Value} {t : TypeId} (h : New (w.alloc (.cells cs t)) w1) {i : Nat} {v : Value} (hv : cs[i]? = some v) : w1.cell? ⟨w.heap.size, i, none⟩ = some v := by
  rw [World.cell_of_heap (h.heap (heap_alloc_new w _) (fun hh => hh))]; exact hv
theorem spokenB_spec {ps : List (List UInt8)} {size : Int} (h : spokenB ps size = true) : ps.length ≤ 500 ∧ ps.flatten.length ≤ 20000 ∧ nones ps ≤ 50 ∧ ∃ sz : Nat, size = (sz : Int) ∧ sz ≤ 5000 := by
  unfold spokenB srcOk at h
  simp only [Bool.and_eq_true, decide_eq_true_eq] at h
  rw [lensum_flatten]
  exact ⟨h.1.1.1, h.1.1.2.1.1, h.1.1.2.2, size.toNat, by omega, by omega⟩
/-- the reader's own blocks alone: nothing below them -/
theorem Upd.inNew {w w1 w2 : World} {L : Loc} (h : New w w1) (u : Upd (In L) w1 w2) (hlo : w.heap.size ≤ L.lo) : New w w2 := h.trans u (fun k hk hlt => by have := hk.1; omega)
def endc (f : Bool) : Nat := if f then 2 else 1
theorem ecode_end (f : Bool) : ecode (some (endErr f)) = endc f := by cases f <;> rfl
/-- what impl.Bytes answers -/
def BytesPost (w : World) (n : Nat) (all : List UInt8) (f : Bool) (v : Value) (w' : World) : Prop :=
  New w w' ∧ ∃ x, v = .tuple #[x, .int .i64 ((if n ≤ all.length then 0 else endc f : Nat) : Int)] ∧ BytesAt w' x (all.take n)
theorem endV (S : Err → Addr) (f : Bool) : ∃ et ev, eV S (some (endErr f)) = .iface et ev := by cases f <;> exact ⟨_, _, rfl⟩
/-- the end's code told -/
theorem codeEnd {S : Err → Addr} {B : Nat} (f : Bool) {et : TypeId} {ev : Value} (hev : eV S (some (endErr f)) = .iface et ev) (w : World) (E : Env S B w) :
    Calls Tryd.prog 34 #[.iface et ev] w (Ret fun v w' => w = w' ∧ v = .int .i64 (endc f : Int)) := by
  have := codeOf (some (endErr f)) w E
  rw [hev, ecode_end] at this
  exact this
theorem rem_fresh (n : Nat) (ps : List (List UInt8)) (f : Bool) : rem (fresh n ps f) = ps.flatten := by unfold rem; rw [bufd_nil (Nat.le_refl _)]; rfl
theorem rem_cons {st : RS} (h : st.r < st.w) (h2 : st.w ≤ st.buf.length) : rem st = st.buf[st.r] :: rem { st with r := st.r + 1 } := by
  unfold rem; rw [bufd_cons h h2]; rfl
set_option maxRecDepth 100000 in
set_option maxHeartbeats 1000000 in
theorem implBytes {S : Err → Addr} {B : Nat} {w : World} {sz n : Nat} {a : Option Addr} {c : Nat} {ps : List (List UInt8)} (f : Bool) (E : Env S B w) (h : PiecesA w a c ps) (hl : ps.flatten.length ≤ 20000) (hn : ps.length ≤ 500) (hsz : sz ≤ 5000) (hne : nones ps ≤ 50) (hn' : n ≤ 65535) :
    Calls Tryd.prog 23 #[.agg #[.slice a ps.length c, .bool f], .int .i64 (sz : Int), .int .i64 (n : Int)] w (Ret (BytesPost w n ps.flatten f)) := by
  have K1 := Lib.hid (over (S := S) f (h.new ((Upd.refl _ _).alloc (.cells #[.slice a ps.length c, .bool f] 24))) hl hn hsz hne)
  have HE := Lib.hid E
  have HL := Lib.hid hl
  have h2 := h.2.1
  unfold maxLen at h2
  clear h E hl
  go_enter Tryd.func23, Tryd.ntmps23
  go_wp2_with (go_at_call 32; refine callRet K1.out ?_; intro v w1 h1; obtain ⟨hu1, L, rfl, hlo, hhi, hrd⟩ := h1; have HU1 := Lib.hid hu1; have HRD := Lib.hid hrd; have HLO := Lib.hid hlo; have HHI := Lib.hid hhi; clear hu1 hrd hlo hhi K1)
  go_loopw [9, 16] (fun v i wr => ∃ (k : Nat) (st : RS), i = .int .i64 k ∧ k ≤ n ∧ k ≤ ps.flatten.length ∧ rem st = ps.flatten.drop k ∧ st.f = f ∧ Rd S wr L st ∧ New w wr ∧ OwnB L.hi wr v (ps.flatten.take k) ∧ L.hi ≤ wr.heap.size) (fun _ i _ => n - (intOf i).toNat)
  case atStart => exact ⟨0, fresh (max sz 16) ps f, rfl, Nat.zero_le _, Nat.zero_le _, rem_fresh _ _ _, rfl, HRD.out, ((Upd.refl _ _).alloc _).andNew HU1.out, OwnB.nil _ _, HHI.out⟩
  case round =>
    obtain ⟨k, st, rfl, hkn, hka, hrem, hstf, hrd, hnew, hown, hhi⟩ := hrel
    have HRD := Lib.hid hrd
    have HNEW := Lib.hid hnew
    have HOWN := Lib.hid hown
    have HREM := Lib.hid hrem
    have HF := Lib.hid hstf
    clear hrd hnew hown hrem hstf
    have hlo : w.heap.size ≤ L.lo := by have := HLO.out; simp at this; omega
    by_cases hlt : k < n
    · go_wp2_with fail
      go_at_call 44
      refine callRet (readByte (HE.out.new HNEW.out) (Nat.le_trans (HE.out.size) hlo) HRD.out) ?_
      intro v w2 hv
      obtain ⟨st', hb, h', u'⟩ := hv
      have H' := Lib.hid h'
      have hhi' := Nat.le_trans hhi u'.size
      have hnew' := Upd.inNew HNEW.out u' hlo
      have HNEW' := Lib.hid hnew'
      have HOWN' := Lib.hid (HOWN.out.upd u' (fun k h1 h2 => by have := h1.2; omega))
      clear h' u' hnew'
      obtain ⟨st1, hw, hb⟩ := hb
      have hr1 : rem st1 = ps.flatten.drop k := hw.rem.trans HREM.out
      have hf1 : st1.f = f := hw.f.trans HF.out
      rcases hb with ⟨q1, q2, rfl, hst⟩ | ⟨q1, rfl, hst⟩
      · have hrc := rem_cons q1 q2
        rw [hr1] at hrc
        have hkl : k < ps.flatten.length := by
          rcases Nat.lt_or_ge k ps.flatten.length with h | h
          · exact h
          · exact absurd hrc (by rw [List.drop_eq_nil_of_le h]; exact fun hh => by cases hh)
        rw [List.drop_eq_getElem_cons hkl] at hrc
        injection hrc with e1 e2
        have hrem' : rem st' = ps.flatten.drop (k + 1) := by rw [e2, hst]; rfl
        have hf' : st'.f = f := by rw [hst]; exact hf1
        obtain ⟨x, hx⟩ : ∃ x, x = st1.buf[st1.r] := ⟨_, rfl⟩
        rw [← hx] at e1 ⊢
        have HX := Lib.hid e1
        have HREM' := Lib.hid hrem'
        have HF' := Lib.hid hf'
        clear hrem' hf' e1 e2 hr1 hf1 hst hx q1 q2 hw
        have HXS : Hid (∀ p, some (⟨w2.heap.size, 0, none⟩ : Addr) = some p → ∀ j u, ([x].map bv)[j]? = some u → (w2.alloc (.cells #[bv x] 5)).cell? (p.add j) = some u) := fun p hp => by
          simp only [Option.some.injEq] at hp; subst hp
          exact (BytesA.one (heap_alloc_new w2 _) rfl).news
        go_wp2_with (at_builtin; refine wpList_plain rfl (fun K hK => ?_); refine wp_append eB _ _ rfl L.hi _ _ _ rfl (HOWN'.out.new ((Upd.refl _ _).alloc _)) (some ⟨w2.heap.size, 0, none⟩) 1 1 ([x].map bv) rfl rfl (by simp) HXS.out (oneCell_bytes _) (by have := HL.out; unfold maxLen; simp; omega) (by have := HL.out; simp; omega) (by simp; omega) ?_; intro v' w' h3 h4 h5; refine hK _ _ ?_; clear hK K; have H3 := Lib.hid h3; have H4 := Lib.hid h4; clear h3 h4 h5)
        have e : ps.flatten.take (k + 1) = ps.flatten.take k ++ [x] := by rw [List.take_succ_eq_append_getElem hkl, HX.out]
        have hob : OwnB L.hi w' v' (ps.flatten.take (k + 1)) := by
          have h3 := H3.out
          unfold OwnB
          rw [e, List.map_append, List.length_append]
          exact h3
        have hgr : Upd (fun k => L.hi ≤ k) w2 w' := ((Upd.refl _ _).alloc _).grown H4.out (fun j hj hlt => by
          have h := HOWN'.out.2
          rcases h with ⟨rfl, _⟩ | ⟨g, cap, cur, rfl, hg, _⟩
          · cases hj
          · have hj : some g = some j := hj
            injection hj with hj
            subst hj
            exact hg)
        have hro : Rd S w' L st' := H'.out.upd hgr (fun j h1 h2 => Nat.not_lt_of_le h1 h2.2)
        have hnw : New w w' := HNEW'.out.trans hgr (fun j h1 h2 => by have h1 : L.hi ≤ j := h1; have := H'.out.bhi; have := H'.out.blo; have := H'.out.lomid; omega)
        exact ⟨⟨k + 1, st', by rw [Int.natCast_add]; rfl, by omega, by omega, HREM'.out, HF'.out, hro, hnw, hob, Nat.le_trans hhi' hgr.size⟩, by simp [intOf]; omega⟩
      · have hka' : ps.flatten.length ≤ k := by
          have h : ps.flatten.drop k = [] := by
            rw [← hr1]; exact q1
          exact List.drop_eq_nil_iff.1 h
        obtain ⟨et, ev, hev⟩ := endV S f
        rw [HF.out, hev]
        have KC := Lib.hid (codeEnd f hev w2 (HE.out.new HNEW'.out))
        clear q1 hr1 hf1 hst hw hev
        go_wp2_with (go_at_call 34; refine callRet KC.out ?_; rintro v w3 ⟨rfl, rfl⟩)
        go_ret2
        refine ⟨HNEW'.out, u9, ?_, ?_⟩
        rotate_left
        · rw [List.take_of_length_le (by omega)]
          have := HOWN'.out.bytes
          rw [List.take_of_length_le hka'] at this
          exact this
        · rw [if_neg (by omega)]; rfl
    · obtain rfl : k = n := by omega
      go_wp2
      go_ret2
      refine ⟨HNEW.out, u9, ?_, HOWN.out.bytes⟩
      rw [if_pos hka]; rfl
end Go.Proofs.YtmmjfpcmempeeaaDoor
/- A buffered reader, abstractly: what is left, the error that waits, what can be taken back; and what filling leaves. -/
namespace Go.Proofs.YtmmjfpcmempeeaaDoor
open Go.RowKit
structure AR where
  left : List UInt8
  size : Nat
  f : Bool
  err : Bool
  last : Int
  rune : Int
  back : Option (List UInt8)
/-- the k bytes ahead of where reading stands -/
def prev (st : RS) (k : Nat) : List UInt8 := (st.buf.take st.r).drop (st.r - k)
structure Abs (st : RS) (A : AR) : Prop where
  left : rem st = A.left
  size : st.buf.length = A.size
  f : st.f = A.f
  err : st.err = if A.err then some (endErr A.f) else none
  last : st.last = A.last
  rune : st.rune = A.rune
  pos : 0 ≤ st.last → 0 < st.r ∨ st.w = 0
  nz : st.rune ≠ 0
  back : 0 ≤ st.rune → A.back = if st.rune ≤ (st.r : Int) then some (prev st st.rune.toNat) else none
/-- filled a number of times: at the end C is said of what is left -/
structure Fld (C : List UInt8 → Prop) (st st1 : RS) : Prop where
  rem : rem st1 = rem st
  n : st1.buf.length = st.buf.length
  last : st1.last = st.last
  rune : st1.rune = st.rune
  f : st1.f = st.f
  err : st1.err = st.err ∨ (st1.err = some (endErr st.f) ∧ C (Go.Proofs.YtmmjfpcmempeeaaDoor.rem st) ∧ st1.ps = [])
  pos : st1 = st ∨ st1.r = 0
  stay : st.err ≠ none → st1 = st
theorem Fld.refl (C : List UInt8 → Prop) (st : RS) : Fld C st st := ⟨rfl, rfl, rfl, rfl, rfl, .inl rfl, .inl rfl, fun _ => rfl⟩
theorem Fld.fill {C : List UInt8 → Prop} {st st1 st2 : RS} {chunk : List UInt8} (h : Fld C st st1) (h' : Fill st1 st2 chunk) (he : st1.err = none) (hC : Go.Proofs.YtmmjfpcmempeeaaDoor.rem st = bufd st1 → C (bufd st1)) : Fld C st st2 := by
  have hw := h'.went
  refine ⟨hw.rem.trans h.rem, hw.n.trans h.n, hw.last.trans h.last, hw.rune.trans h.rune, hw.f.trans h.f, ?_, .inr h'.r, fun hs => (by have := h.stay hs; rw [this] at he; exact (hs he).elim)⟩
  rcases h'.how with ⟨_, h2⟩ | ⟨h1, h2, h3⟩
  · rcases h.err with h4 | ⟨h4, _⟩
    · exact .inl (h2.trans h4)
    · rw [he] at h4; cases h4
  · refine .inr ⟨by rw [h2, h.f], ?_, h3⟩
    have e : Go.Proofs.YtmmjfpcmempeeaaDoor.rem st = bufd st1 := by
      rw [← h.rem]
      unfold Go.Proofs.YtmmjfpcmempeeaaDoor.rem
      rw [h'.src, h1, h3]; simp
    have := hC e
    rw [e]; exact this
/-- the error still is as it was, where C is not -/
theorem Fld.same {C : List UInt8 → Prop} {st st1 : RS} (h : Fld C st st1) (hC : ¬ C (Go.Proofs.YtmmjfpcmempeeaaDoor.rem st)) : st1.err = st.err := by
  rcases h.err with h | h
  · exact h
  · exact (hC h.2.1).elim
theorem rem_length (st : RS) : (bufd st).length ≤ (rem st).length := by unfold rem; simp
theorem rem_take {st : RS} {k : Nat} (hk : k ≤ (bufd st).length) : (rem st).take k = (bufd st).take k := by
  unfold rem; rw [List.take_append_of_le_length hk]
theorem rem_end {st : RS} (h : st.ps = []) : rem st = bufd st := by unfold rem; rw [h]; simp
theorem Abs.endIff {st : RS} {A : AR} (h : Abs st A) : st.err = none ↔ A.err = false := by
  rw [h.err]; cases A.err <;> simp
/-- bytes of the buffer gone over -/
theorem bufd_drop (st : RS) (k : Nat) : bufd { st with r := st.r + k } = (bufd st).drop k := by unfold bufd; simp
theorem rem_drop {st : RS} {k : Nat} (hk : k ≤ (bufd st).length) : rem { st with r := st.r + k } = (rem st).drop k := by
  have e : rem { st with r := st.r + k } = bufd { st with r := st.r + k } ++ st.ps.flatten := rfl
  rw [e, bufd_drop]; unfold rem; rw [List.drop_append_of_le_length hk]
def fresh0 (n : Nat) (all : List UInt8) (f : Bool) : AR := ⟨all, n, f, false, -1, -1, none⟩
/-- a slice of the buffer from where reading stands: its address, its capacity -/
def SubAt (L : Loc) (st : RS) (a : Option Addr) (c : Nat) : Prop := (st.buf.length = st.r ∧ a = some ⟨L.bb, 0, none⟩ ∧ c = 0) ∨ (st.buf.length ≠ st.r ∧ a = some ⟨L.bb, st.r, none⟩ ∧ c = st.buf.length - st.r)
theorem SubAt.bb {L : Loc} {st : RS} {a : Option Addr} {c : Nat} (h : SubAt L st a c) : ∀ p, a = some p → p.block = L.bb := by
  intro p hp
  rcases h with ⟨_, h, _⟩ | ⟨_, h, _⟩ <;> (rw [h] at hp; simp only [Option.some.injEq] at hp; subst hp; rfl)
/-- a part of what is buffered -/
theorem Rd.sub {S : Err → Addr} {w : World} {L : Loc} {st : RS} (h : Rd S w L st) {k : Nat} (hk : st.r + k ≤ st.w) {a : Option Addr} {c : Nat} (hs : SubAt L st a c) : BytesA w a c ((bufd st).take k) := by
  have hl : ((bufd st).take k).length = k := by rw [List.length_take, bufd_length h.wn]; omega
  have hwn := h.wn
  have hnhi := h.nhi
  rcases hs with ⟨he, rfl, rfl⟩ | ⟨he, rfl, rfl⟩
  · refine ⟨by omega, by unfold maxLen; omega, fun hh => (by cases hh), fun p hp => ?_⟩
    simp only [Option.some.injEq] at hp
    subst hp
    have hk0 : k = 0 := by omega
    subst hk0
    exact ⟨fun _ => rfl, fun i hi => by simp at hi⟩
  · refine ⟨by omega, by unfold maxLen; omega, fun hh => (by cases hh), fun p hp => ?_⟩
    simp only [Option.some.injEq] at hp
    subst hp
    refine ⟨fun _ => rfl, fun i hi => ?_⟩
    rw [hl] at hi
    rw [h.byte (show st.r + i < st.buf.length by omega)]
    simp [bufd, bv]
/-- the buffer, as a slice of bytes -/
theorem Rd.whole {S : Err → Addr} {w : World} {L : Loc} {st : RS} (h : Rd S w L st) : BytesA w (some ⟨L.bb, 0, none⟩) st.buf.length st.buf := by
  have := h.nhi
  refine ⟨Nat.le_refl _, by unfold maxLen; omega, fun hh => (by cases hh), fun p hp => ⟨fun _ => (by simp only [Option.some.injEq] at hp; subst hp; rfl), fun i hi => ?_⟩⟩
  simp only [Option.some.injEq] at hp
  subst hp
  rw [Nat.zero_add, h.byte hi]; rfl
/-- what a function tells that hands out a part of the buffer -/
def SlicePost (S : Err → Addr) (w : World) (L : Loc) (x : (List UInt8 × Option Err) × AR) (v : Value) (w' : World) : Prop :=
  ∃ st' ab c, v = .tuple #[.slice ab x.1.1.length c, eV S x.1.2] ∧ BytesA w' ab c x.1.1 ∧ (∀ p, ab = some p → p.block = L.bb) ∧ Rd S w' L st' ∧ Upd (In L) w w' ∧ Abs st' x.2
/-- the sentinels stay, whatever a reader above them does -/
theorem Env.updL {S : Err → Addr} {B : Nat} {w w' : World} {L : Loc} (h : Env S B w) (hB : B ≤ L.lo) (u : Upd (In L) w w') : Env S B w' := h.upd u (fun k hk => by have := hk.1; omega)
end Go.Proofs.YtmmjfpcmempeeaaDoor
