/- laws.chunks. -/
import Derived.Test.YtnpalkndocokkaaDoorImplPt
import Derived.Test.YtnpalkndocokkaaDoorLawKit
namespace Go.Proofs.YtnpalkndocokkaaDoor
open Go.RowKit
theorem runPt_succ (d : UInt8) (f : Bool) (n : Nat) (l : List UInt8) : runPt d f (n + 1) l = if (partL d f l).2 = none then ((partL d f l).1 :: (runPt d f n (l.drop (partL d f l).1.length)).1, (runPt d f n (l.drop (partL d f l).1.length)).2) else ([(partL d f l).1], ecode (partL d f l).2) := rfl
theorem partL_take (d : UInt8) (f : Bool) (l : List UInt8) : (partL d f l).1 = l.take (partL d f l).1.length := by
  unfold partL; split
  · rw [List.length_take, ← List.take_take, List.take_length]
  · simp
/-- what chunks holds in its loop -/
structure Chunk (W0 : World) (g : Nat) (wr : World) (v8 v9 : Value) (left : List UInt8) (ls : List (List UInt8)) (o c : Nat) : Prop where
  v8 : v8 = .slice (some ⟨g, o, none⟩) left.length c
  by_ : BytesA wr (some ⟨g, o, none⟩) c left
  ty : ∃ cur, wr.heap[g]? = some (.cells cur 5 (0, 0))
  out : OwnL W0.heap.size (fun _ => True) wr v9 ls
  new : New W0 wr
theorem Chunk.hi {W0 wr : World} {g o c : Nat} {v8 v9 : Value} {left : List UInt8} {ls : List (List UInt8)} (h : Chunk W0 g wr v8 v9 left ls o c) : W0.heap.size ≤ wr.heap.size := h.new.size
theorem Chunk.newB {W0 wr w2 : World} {g o c : Nat} {v8 v9 : Value} {left : List UInt8} {ls : List (List UInt8)} (h : Chunk W0 g wr v8 v9 left ls o c) (u : New wr w2) : Chunk W0 g w2 v8 v9 left ls o c where
  v8 := h.v8
  by_ := h.by_.new u
  ty := by obtain ⟨cur, q⟩ := h.ty; exact ⟨cur, u.heap q (fun h => h)⟩
  out := h.out.new u
  new := h.new.andNew u
theorem Chunk.grow {W0 w1 w2 w3 : World} {g o c m o' c' : Nat} {v8 v9 v9' x : Value} {left : List UInt8} {ls : List (List UInt8)} {vs : List Value} (h : Chunk W0 g w1 v8 v9 left ls o c) (h12 : New w1 w2) (hm : m ≤ left.length) (hor : (c = m ∧ o' = o ∧ c' = 0) ∨ (c ≠ m ∧ o' = o + m ∧ c' = c - m))
    (hl : vs.length = ls.length) (ho1 : w1.ownsRow W0.heap.size 29 1 v9 ls.length vs) (hp : ∀ i, (h : i < ls.length) → ∃ u, vs[i]? = some u ∧ ElemB w1 (fun _ => True) u ls[i]) (hx : x = .slice (some ⟨g, o, none⟩) m c)
    (ho : w3.ownsRow W0.heap.size 29 1 v9' (ls.length + 1) (vs ++ [x])) (hg : w2.grownBy w3 v9.ownBlock) : Chunk W0 g w3 (.slice (some ⟨g, o', none⟩) (left.length - m) c') v9' (left.drop m) (ls ++ [left.take m]) o' c' := by
  obtain ⟨cur, hty⟩ := h.ty
  have hel : ElemB w1 (fun _ => True) x (left.take m) := ⟨_, c, by rw [hx, List.length_take, Nat.min_eq_left hm], h.by_.take m, fun p hp _ => by simp only [Option.some.injEq] at hp; subst hp; exact ⟨trivial, cur, hty⟩⟩
  obtain ⟨h1, h2⟩ := OwnL.grow hl ho1 hp hel h12 ho hg
  have hn := h.newB h12
  obtain ⟨cur2, hty2⟩ := hn.ty
  have hng : ¬ (W0.heap.size ≤ g ∧ ∃ cur, w2.heap[g]? = some (.cells cur 29 (0, 0))) := fun ⟨_, c2, q⟩ => by rw [hty2] at q; simp at q
  refine ⟨by rw [List.length_drop], ?_, ⟨cur2, h2.heap hty2 hng⟩, h1, hn.new.trans h2 (fun k hk hlt => by have := hk.1; omega)⟩
  have hb := (hn.by_.upd h2 (fun p hp _ hh => by simp only [Option.some.injEq] at hp; subst hp; exact hng hh)).sub hm (Nat.le_refl _) hor
  rwa [List.take_length] at hb
set_option maxRecDepth 100000 in
set_option maxHeartbeats 2000000 in
theorem chunks {w : World} {n : Nat} {a : Option Addr} {c : Nat} {ps : List (List UInt8)} (f : Bool) (d : UInt8) (h : PiecesA w a c ps) (hl : ps.flatten.length ≤ 20000) (hn' : n ≤ 255) :
    Calls Tryd.prog 22 #[.agg #[.slice a ps.length c, .bool f], .int .u8 (d.toNat : Int), .int .i64 (n : Int)] w (Ret (PartsPost w (runPt d f n ps.flatten))) := by
  obtain ⟨W0, hW0⟩ : ∃ W0, W0 = w.alloc (.cells #[.slice a ps.length c, .bool f] 24) := ⟨_, rfl⟩
  have hU0 : New w W0 := by rw [hW0]; exact (Upd.refl _ _).alloc _
  have K1 := Lib.hid (specJoined _ _ _ _ (h.new hU0) (by omega))
  have HU0 := Lib.hid hU0
  have HW0 := Lib.hid hW0
  have HL := Lib.hid hl
  obtain ⟨all, hall⟩ : ∃ all, all = ps.flatten := ⟨_, rfl⟩
  rw [← hall]
  rw [← hall] at K1 hl
  have hb0 : W0.cell? ⟨w.heap.size, 0, none⟩ = some (.slice a ps.length c) := by rw [hW0]; exact box_new (Upd.refl _ _) (i := 0) rfl
  have hb1 : W0.cell? ⟨w.heap.size, 1, none⟩ = some (.bool f) := by rw [hW0]; exact box_new (Upd.refl _ _) (i := 1) rfl
  have HB0 := Lib.hid hb0
  have HB1 := Lib.hid hb1
  clear h hall hU0
  go_enter Tryd.func22, Tryd.ntmps22
  go_wp2_with fail
  rw [← HW0.out]
  clear hW0
  go_wp2_with (go_at_call 12; refine callRet K1.out ?_; intro v w1 h1; have hq := h1.bytes; obtain ⟨hnw, g, cg, rfl, ho⟩ := h1; have HC : Hid (∃ cur, w1.heap[g]? = some (.cells cur 5 (0, 0))) := (ownsRow_block ho rfl).2; have HBY := Lib.hid (BytesA.owned ho).2; have HN1 := Lib.hid hnw; clear hq hnw ho)
  go_loopw [8, 9, 17] (fun v8 v9 i wr => ∃ (k : Nat) (left : List UInt8) (ls : List (List UInt8)) (o cc : Nat), i = .int .i64 (k : Int) ∧ k ≤ n ∧ ls.length = k ∧ left.length ≤ 20000 ∧ Chunk W0 g wr v8 v9 left ls o cc ∧ runPt d f n all = (ls ++ (runPt d f (n - k) left).1, (runPt d f (n - k) left).2)) (fun _ _ i _ => n - (intOf i).toNat)
  case atStart =>
    refine ⟨0, all, [], 0, cg, rfl, Nat.zero_le _, rfl, hl, ⟨rfl, HBY.out.new ((Upd.refl _ _).alloc _), ?_, ?_, HN1.out.andNew ((Upd.refl _ _).alloc _)⟩, rfl⟩
    · obtain ⟨cur, q⟩ := HC.out
      exact ⟨cur, ((Upd.refl (fun _ => False) _).alloc _).heap q (fun h => h)⟩
    · exact ⟨[], rfl, World.ownsRow_made _ #[] 0 HN1.out.size (Nat.zero_le _) rfl, fun i hi => by simp at hi⟩
  case round =>
    obtain ⟨k, left, ls, o, cc, rfl, hkn, hls, hleft, hB, hrun⟩ := hrel
    obtain rfl := hB.v8
    have HB := Lib.hid hB
    have HRUN := Lib.hid hrun
    have HLS := Lib.hid hls
    have b0 := hB.new.cell hb0 (fun h => h)
    have b1 := hB.new.cell hb1 (fun h => h)
    have hlc := hB.by_.1
    have hcm := hB.by_.2.1
    unfold maxLen at hcm
    have hb0' := HB0.out
    clear hb0 hb1 hb0'
    clear hB hrun hls
    by_cases hlt : k < n
    · have KL := fun (wx : World) (hx : New wr wx) => specLine (HB.out.by_.new hx) (left.length + 1) (by omega) d (endc f)
      rw [lineS_part] at KL
      have qe := partL_err d f left
      have ql := partL_le d f left
      have qt := partL_take d f left
      obtain ⟨Y, hY⟩ : ∃ Y, Y = partL d f left := ⟨_, rfl⟩
      have hnk : n - k = (n - (k + 1)) + 1 := by omega
      have HR2 := Lib.hid (runPt_succ d f (n - (k + 1)) left)
      rw [← hnk] at HR2
      rw [← hY] at KL qe ql qt HR2
      rw [show ((left.length + 1 : Nat) : Int) = (left.length : Int) + 1 by omega] at KL
      obtain ⟨m, hm⟩ : ∃ m, Y.1.length = m := ⟨_, rfl⟩
      rw [hm] at ql qt HR2
      have HM := Lib.hid hm
      have HQT := Lib.hid qt
      obtain ⟨ll, hll⟩ : ∃ ll, left.length = ll := ⟨_, rfl⟩
      have HLL := Lib.hid hll
      rw [hm, hll] at KL
      rw [hll] at ql hlc hleft ⊢
      have HQE := Lib.hid qe
      clear hY qt hnk hm qe hll
      rcases HQE.out with he | he
      · have HNE := Lib.hid he
        have KL' := Lib.hid KL
        rw [he] at KL'
        clear KL he
        have e0 : (ecode none : Int) = 0 := rfl
        have KL' : Hid (∀ wx, New wr wx → Calls Tryd.prog 47 #[.slice (some ⟨g, o, none⟩) ll cc, .int .i64 ((ll : Int) + 1), .int .u8 (d.toNat : Int), .int .i64 (endc f : Int)] wx (Ret fun v w' => wx = w' ∧ v = .tuple #[.slice (some ⟨g, o, none⟩) m cc, .int .i64 0])) := KL'.out
        clear e0
        by_cases hc2 : cc = m
        · have h3 := hc2.symm; subst h3
          go_wp2_with (first | (go_at_call 14; refine callRet (specEndC _ _ _ f _) ?_; rintro v w5 ⟨h1, rfl⟩; have HN5 := Lib.hid h1; clear h1; (try rw [HEC.out])) | (go_at_call 47; refine callRet (KL'.out _ HN5.out) ?_; rintro v w6 ⟨rfl, rfl⟩) | (at_builtin; refine wpList_plain rfl (fun K hK => ?_); have hB5 := HB.out.newB HN5.out; obtain ⟨vs, hvl, ho1, hpe⟩ := hB5.out; refine wp_append eP (.tmp 30) (.tmp 32) rfl W0.heap.size _ _ _ rfl (ownsRow_new ho1 ((Upd.refl _ _).alloc _)) (some ⟨w5.heap.size, 0, none⟩) 1 1 [.slice (some ⟨g, o, none⟩) m m] rfl rfl (fun h => by cases h) box_news (by simp [Value.oneCell']) (by have := HLS.out; unfold maxLen; omega) (by have := HLS.out; omega) (Nat.le_trans hB5.hi ((Upd.refl (fun _ => False) _).alloc _).size) ?_; intro v4 w4 h1 h2 h3; have HB4 := Lib.hid (hB5.grow ((Upd.refl _ _).alloc _) (by rw [HLL.out]; exact ql) (Or.inl ⟨rfl, rfl, rfl⟩ : (m = m ∧ o = o ∧ 0 = 0) ∨ (m ≠ m ∧ o = o + m ∧ 0 = m - m)) hvl ho1 hpe rfl h1 h2); rw [HLL.out, ← HQT.out] at HB4; refine hK _ _ ?_; clear hK K h1 h2 h3 hvl ho1 hpe hB5))
          go_roundw
          case rel =>
            refine ⟨k + 1, left.drop m, ls ++ [Y.1], o, 0, by go_num, by omega, by rw [List.length_append, HLS.out]; rfl, by rw [List.length_drop, HLL.out]; omega, by have h9 := HB4.out; rwa [show ll - m = 0 by omega] at h9, ?_⟩
            rw [HRUN.out, HR2.out, if_pos HNE.out]
            simp
          case measure => simp [intOf]; omega
        · 
          go_wp2_with (first | (go_at_call 14; refine callRet (specEndC _ _ _ f _) ?_; rintro v w5 ⟨h1, rfl⟩; have HN5 := Lib.hid h1; clear h1; (try rw [HEC.out])) | (go_at_call 47; refine callRet (KL'.out _ HN5.out) ?_; rintro v w6 ⟨rfl, rfl⟩) | (at_builtin; refine wpList_plain rfl (fun K hK => ?_); have hB5 := HB.out.newB HN5.out; obtain ⟨vs, hvl, ho1, hpe⟩ := hB5.out; refine wp_append eP (.tmp 30) (.tmp 32) rfl W0.heap.size _ _ _ rfl (ownsRow_new ho1 ((Upd.refl _ _).alloc _)) (some ⟨w5.heap.size, 0, none⟩) 1 1 [.slice (some ⟨g, o, none⟩) m cc] rfl rfl (fun h => by cases h) box_news (by simp [Value.oneCell']) (by have := HLS.out; unfold maxLen; omega) (by have := HLS.out; omega) (Nat.le_trans hB5.hi ((Upd.refl (fun _ => False) _).alloc _).size) ?_; intro v4 w4 h1 h2 h3; have HB4 := Lib.hid (hB5.grow ((Upd.refl _ _).alloc _) (by rw [HLL.out]; exact ql) (Or.inr ⟨hc2, rfl, rfl⟩ : (cc = m ∧ o + m = o ∧ cc - m = 0) ∨ (cc ≠ m ∧ o + m = o + m ∧ cc - m = cc - m)) hvl ho1 hpe rfl h1 h2); rw [HLL.out, ← HQT.out] at HB4; refine hK _ _ ?_; clear hK K h1 h2 h3 hvl ho1 hpe hB5))
          go_roundw
          case rel =>
            refine ⟨k + 1, left.drop m, ls ++ [Y.1], o + m, cc - m, by go_num, by omega, by rw [List.length_append, HLS.out]; rfl, by rw [List.length_drop, HLL.out]; omega, HB4.out, ?_⟩
            rw [HRUN.out, HR2.out, if_pos HNE.out]
            simp
          case measure => simp [intOf]; omega
      · have HYC : Hid (ecode Y.2 = endc f) := by rw [Hid, he, ecode_end]
        have HNE := Lib.hid (show ¬ Y.2 = none by rw [he]; simp)
        have KL' := Lib.hid KL
        rw [HYC.out] at KL'
        have q0 : ((endc f : Int) != 0) = true := by cases f <;> rfl
        obtain ⟨ec, hec⟩ : ∃ ec, endc f = ec := ⟨_, rfl⟩
        have HEC := Lib.hid hec
        rw [hec] at q0 KL'
        clear KL he hec
        by_cases hc2 : cc = m
        · have h3 := hc2.symm; subst h3
          go_wp2_with (first | (go_at_call 14; refine callRet (specEndC _ _ _ f _) ?_; rintro v w5 ⟨h1, rfl⟩; have HN5 := Lib.hid h1; clear h1; (try rw [HEC.out])) | (go_at_call 47; refine callRet (KL'.out _ HN5.out) ?_; rintro v w6 ⟨rfl, rfl⟩) | (at_builtin; refine wpList_plain rfl (fun K hK => ?_); have hB5 := HB.out.newB HN5.out; obtain ⟨vs, hvl, ho1, hpe⟩ := hB5.out; refine wp_append eP (.tmp 30) (.tmp 32) rfl W0.heap.size _ _ _ rfl (ownsRow_new ho1 ((Upd.refl _ _).alloc _)) (some ⟨w5.heap.size, 0, none⟩) 1 1 [.slice (some ⟨g, o, none⟩) m m] rfl rfl (fun h => by cases h) box_news (by simp [Value.oneCell']) (by have := HLS.out; unfold maxLen; omega) (by have := HLS.out; omega) (Nat.le_trans hB5.hi ((Upd.refl (fun _ => False) _).alloc _).size) ?_; intro v4 w4 h1 h2 h3; have HB4 := Lib.hid (hB5.grow ((Upd.refl _ _).alloc _) (by rw [HLL.out]; exact ql) (Or.inl ⟨rfl, rfl, rfl⟩ : (m = m ∧ o = o ∧ 0 = 0) ∨ (m ≠ m ∧ o = o + m ∧ 0 = m - m)) hvl ho1 hpe rfl h1 h2); rw [HLL.out, ← HQT.out] at HB4; refine hK _ _ ?_; clear hK K h1 h2 h3 hvl ho1 hpe hB5))
          go_ret2
          have hfin : runPt d f n all = (ls ++ [Y.1], ec) := by rw [HRUN.out, HR2.out, if_neg HNE.out, HYC.out, HEC.out]
          rw [hfin]
          obtain ⟨a1, c1, hv1, hp⟩ := HB4.out.out.pieces
          exact ⟨HU0.out.andNew HB4.out.new, a1, c1, by rw [← hv1]; rfl, hp⟩
        · 
          go_wp2_with (first | (go_at_call 14; refine callRet (specEndC _ _ _ f _) ?_; rintro v w5 ⟨h1, rfl⟩; have HN5 := Lib.hid h1; clear h1; (try rw [HEC.out])) | (go_at_call 47; refine callRet (KL'.out _ HN5.out) ?_; rintro v w6 ⟨rfl, rfl⟩) | (at_builtin; refine wpList_plain rfl (fun K hK => ?_); have hB5 := HB.out.newB HN5.out; obtain ⟨vs, hvl, ho1, hpe⟩ := hB5.out; refine wp_append eP (.tmp 30) (.tmp 32) rfl W0.heap.size _ _ _ rfl (ownsRow_new ho1 ((Upd.refl _ _).alloc _)) (some ⟨w5.heap.size, 0, none⟩) 1 1 [.slice (some ⟨g, o, none⟩) m cc] rfl rfl (fun h => by cases h) box_news (by simp [Value.oneCell']) (by have := HLS.out; unfold maxLen; omega) (by have := HLS.out; omega) (Nat.le_trans hB5.hi ((Upd.refl (fun _ => False) _).alloc _).size) ?_; intro v4 w4 h1 h2 h3; have HB4 := Lib.hid (hB5.grow ((Upd.refl _ _).alloc _) (by rw [HLL.out]; exact ql) (Or.inr ⟨hc2, rfl, rfl⟩ : (cc = m ∧ o + m = o ∧ cc - m = 0) ∨ (cc ≠ m ∧ o + m = o + m ∧ cc - m = cc - m)) hvl ho1 hpe rfl h1 h2); rw [HLL.out, ← HQT.out] at HB4; refine hK _ _ ?_; clear hK K h1 h2 h3 hvl ho1 hpe hB5))
          go_ret2
          have hfin : runPt d f n all = (ls ++ [Y.1], ec) := by rw [HRUN.out, HR2.out, if_neg HNE.out, HYC.out, HEC.out]
          rw [hfin]
          obtain ⟨a1, c1, hv1, hp⟩ := HB4.out.out.pieces
          exact ⟨HU0.out.andNew HB4.out.new, a1, c1, by rw [← hv1]; rfl, hp⟩
    · obtain rfl : k = n := by omega
      have hfin : runPt d f k all = (ls, 0) := by rw [HRUN.out, Nat.sub_self]; simp [runPt]
      have HFIN := Lib.hid hfin
      clear hfin
      go_wp2
      go_ret2
      rw [HFIN.out]
      obtain ⟨a1, c1, hv1, hp⟩ := HB.out.out.pieces
      exact ⟨HU0.out.andNew HB.out.new, a1, c1, by rw [← hv1]; rfl, hp⟩
end Go.Proofs.YtnpalkndocokkaaDoor
