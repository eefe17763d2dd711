/- impl.Parts. -/
import Derived.Test.YtnpalkndocokkaaDoorPt
namespace Go.Proofs.YtnpalkndocokkaaDoor
open Go.RowKit
theorem bytes_block {w : World} {g : Nat} {bs : List UInt8} (h : w.heap[g]? = some (.cells (bs.map bv).toArray 5 (0, 0))) (hl : bs.length ≤ maxLen) : BytesA w (some ⟨g, 0, none⟩) bs.length bs := by
  refine ⟨Nat.le_refl _, hl, by simp, fun p hp => ?_⟩
  simp only [Option.some.injEq] at hp; subst hp
  refine ⟨fun _ => rfl, fun i hi => ?_⟩
  rw [World.cell_of_heap h]
  simp [hi]
def PartsPost (w : World) (x : List (List UInt8) × Nat) (v : Value) (w' : World) : Prop :=
  New w w' ∧ ∃ a c, v = .tuple #[.slice a x.1.length c, .int .i64 (x.2 : Int)] ∧ PiecesA w' a c x.1
set_option maxRecDepth 100000 in
set_option maxHeartbeats 2000000 in
theorem implParts {S : Err → Addr} {B : Nat} {w : World} {sz n : Nat} {a : Option Addr} {c : Nat} {ps : List (List UInt8)} (f : Bool) (d : UInt8) (E : Env S B w) (h : PiecesA w a c ps) (hl : ps.flatten.length ≤ 20000) (hn : ps.length ≤ 500) (hsz : sz ≤ 5000) (hne : nones ps ≤ 50) (hn' : n ≤ 255) :
    Calls Tryd.prog 23 #[.agg #[.slice a ps.length c, .bool f], .int .i64 (sz : Int), .int .u8 (d.toNat : Int), .int .i64 (n : Int)] w (Ret (PartsPost w (runPt d f n ps.flatten))) := by
  have K1 := Lib.hid (over (S := S) f (h.new ((Upd.refl _ _).alloc (.cells #[.slice a ps.length c, .bool f] 24))) hl hn hsz hne)
  have HE := Lib.hid E
  have h2 := h.2.1
  unfold maxLen at h2
  have HL := Lib.hid hl
  obtain ⟨all, hall⟩ : ∃ all, all = ps.flatten := ⟨_, rfl⟩
  rw [← hall]
  have HALL := Lib.hid hall
  clear h E hl hall
  go_enter Tryd.func23, Tryd.ntmps23
  go_wp2_with (go_at_call 31; refine callRet K1.out ?_; intro v w1 h1; obtain ⟨hu1, L, rfl, hlo, hhi, hrd⟩ := h1; have HU1 : Hid (New w w1) := ((Upd.refl _ w).alloc (.cells #[.slice a ps.length c, .bool f] 24)).andNew hu1; have HRD := Lib.hid hrd; have HLO : Hid (w.heap.size ≤ L.lo) := (by simp at hlo; exact Nat.le_trans (Nat.le_succ _) hlo); have HHI := Lib.hid hhi; clear hu1 hrd hlo hhi K1)
  go_loopw [11, 18] (fun v i wr => ∃ (k : Nat) (st : RS) (A : AR) (ls : List (List UInt8)), i = .int .i64 (k : Int) ∧ k ≤ n ∧ ls.length = k ∧ Abs st A ∧ A.left.length ≤ 20000 ∧ A.f = f ∧ A.err = false ∧ 1 ≤ A.size ∧ Both L.hi L S w wr v (.slice none 0 0) ls [] st ∧ runPt d f n all = (ls ++ (runPt d f (n - k) A.left).1, (runPt d f (n - k) A.left).2)) (fun _ i _ => n - (intOf i).toNat)
  case atStart => exact ⟨0, _, fresh0 (max sz 16) ps.flatten f, [], rfl, Nat.zero_le _, rfl, abs_fresh _ _ _, HL.out, rfl, rfl, (by show 1 ≤ max sz 16; omega), ⟨HRD.out, HU1.out, OwnL.nil _ _ _, OwnI.nil _ _, HHI.out⟩, by rw [HALL.out]; rfl⟩
  case round =>
    obtain ⟨k, st, A, ls, rfl, hkn, hls, hA, hAl, hAf, hAe, hAs, hB, hrun⟩ := hrel
    have HA := Lib.hid hA
    have HB := Lib.hid hB
    have HRUN := Lib.hid hrun
    have HLS := Lib.hid hls
    have HAF := Lib.hid hAf
    have HAE := Lib.hid hAe
    have HAS := Lib.hid hAs
    have hA20 : A.left.length ≤ 20000 := hAl
    clear hA hB hrun hls hAf hAe hAs hAl
    by_cases hlt : k < n
    · obtain ⟨X, hX⟩ : ∃ X, X = frags d (A.left.length + 1) A := ⟨_, rfl⟩
      obtain ⟨q1, q2, q3, q4, q5, q6⟩ := frags_flat (d := d) (A.left.length + 1) A HAS.out (Nat.lt_succ_self _) HAE.out
      have htot : (frags d (A.left.length + 1) A).1.flatten.length + (frags d (A.left.length + 1) A).2.1.1.length ≤ 20000 := by
        rw [← List.length_append, q1]; exact Nat.le_trans (partL_le _ _ _) hA20
      have qe := partL_err d A.f A.left
      obtain ⟨Y, hY⟩ : ∃ Y, Y = partL d A.f A.left := ⟨_, rfl⟩
      have hYl : Y.1.length ≤ 20000 := by rw [hY]; exact Nat.le_trans (partL_le _ _ _) hA20
      rw [← hY] at q1 q2 q3 qe
      rw [← hX] at q1 q2 q3 q4 q5 q6 htot
      have HX := Lib.hid hX
      have HTOT := Lib.hid htot
      have HQ1 := Lib.hid q1
      have HQ2 := Lib.hid q2
      have HQ3 := Lib.hid (And.intro q3 (And.intro q4 (And.intro q5 q6)))
      have hnk : n - k = (n - (k + 1)) + 1 := by omega
      have HR2 : Hid (runPt d f (n - k) A.left = if Y.2 = none then (Y.1 :: (runPt d f (n - (k + 1)) X.2.2.left).1, (runPt d f (n - (k + 1)) X.2.2.left).2) else ([Y.1], ecode Y.2)) := by
        rw [Hid, hnk, q3, hY, HAF.out]; rfl
      have HQE := Lib.hid qe
      obtain ⟨m, hm⟩ : ∃ m, Y.1.length = m := ⟨_, rfl⟩
      have HM := Lib.hid hm
      rw [hm] at hYl
      clear hX hY q1 q2 q3 q4 q5 q6 qe hnk htot hm
      rcases HQE.out with he | he
      · have KC : Hid (eV S X.2.1.2 = .nilIface) := by rw [Hid, HQ2.out, he]; rfl
        have HNE := Lib.hid he
        clear he
        go_wp2_with (first | (go_at_call 48; refine callRet (readBytes (HE.out.new HB.out.new) (Nat.le_trans HE.out.size HLO.out) HB.out.rd HA.out HB.out.hi (by omega) d (by have := HTOT.out; rw [HX.out] at this; omega)) ?_; rw [← HX.out]; intro v2 w2 h2; obtain ⟨st2, g2, rfl, hg2, hby, hrd2, hu2, habs⟩ := h2; rw [HQ1.out, HM.out, KC.out]; rw [HQ1.out] at hby; have hby := bytes_block hby (by rw [HM.out]; unfold maxLen; omega); have HB2 := Lib.hid (HB.out.reader HLO.out (Nat.le_refl _) hrd2 hu2); rw [HM.out] at hby; have HBY := Lib.hid hby; have HABS := Lib.hid habs; clear hrd2 hu2 hby habs) | (go_at_call 42; have hcp := copied _ _ _ _ HBY.out (by rw [HM.out]; omega); rw [HM.out] at hcp; refine callRet hcp ?_; clear hcp; intro v3 w3 h3; have HB3 := Lib.hid (HB2.out.newB h3.1); have HX3 := Lib.hid (h3.elem HB2.out.hi); obtain ⟨_, g3, cp3, hv3, _⟩ := h3; subst hv3) | (at_builtin; refine wpList_plain rfl (fun K hK => ?_); obtain ⟨vs, hvl, ho1, hpe⟩ := HB3.out.ls; refine wp_append eP (.tmp 26) (.tmp 29) rfl L.hi _ _ _ rfl (ownsRow_new ho1 ((Upd.refl _ _).alloc _)) (some ⟨w3.heap.size, 0, none⟩) 1 1 [.slice (some ⟨g3, 0, none⟩) Y.1.length cp3] rfl rfl (fun h => by cases h) box_news (by simp [Value.oneCell']) (by have := HLS.out; unfold maxLen; omega) (by have := HLS.out; omega) (Nat.le_trans HB3.out.hi ((Upd.refl (fun _ => False) _).alloc _).size) ?_; intro v4 w4 h1 h2 h3; have HB4 := Lib.hid (HB3.out.line HLO.out (Nat.le_refl _) ((Upd.refl _ _).alloc _) hvl ho1 hpe HX3.out h1 h2); refine hK _ _ ?_; clear hK K h1 h2 h3 hvl ho1 hpe))
        go_roundw
        case rel =>
          refine ⟨k + 1, _, X.2.2, ls ++ [Y.1], by go_num, by omega, by rw [List.length_append, HLS.out]; rfl, HABS.out, by rw [HQ3.out.1, List.length_drop]; omega, HQ3.out.2.1.trans HAF.out, HQ3.out.2.2.2, by rw [HQ3.out.2.2.1]; exact HAS.out, HB4.out, ?_⟩
          rw [HRUN.out, HR2.out, if_pos HNE.out]
          simp
        case measure => simp [intOf]; omega
      · obtain ⟨et, ev, hev⟩ := endV S A.f
        have KC : Hid (∀ wx, Env S B wx → Calls Tryd.prog 33 #[.iface et ev] wx (Ret fun v w' => wx = w' ∧ v = .int .i64 (ecode Y.2 : Int))) := fun wx hx => by
          have := codeOf (S := S) (B := B) (some (endErr A.f)) wx hx
          rw [hev] at this
          rw [he]; exact this
        have HEV : Hid (eV S X.2.1.2 = .iface et ev) := by rw [Hid, HQ2.out, he]; exact hev
        have HYE := Lib.hid (show ¬ Y.2 = none by rw [he]; simp)
        clear he hev
        go_wp2_with (first | (go_at_call 48; refine callRet (readBytes (HE.out.new HB.out.new) (Nat.le_trans HE.out.size HLO.out) HB.out.rd HA.out HB.out.hi (by omega) d (by have := HTOT.out; rw [HX.out] at this; omega)) ?_; rw [← HX.out]; intro v2 w2 h2; obtain ⟨st2, g2, rfl, hg2, hby, hrd2, hu2, habs⟩ := h2; rw [HQ1.out, HM.out, HEV.out]; rw [HQ1.out] at hby; have hby := bytes_block hby (by rw [HM.out]; unfold maxLen; omega); have HB2 := Lib.hid (HB.out.reader HLO.out (Nat.le_refl _) hrd2 hu2); rw [HM.out] at hby; have HBY := Lib.hid hby; have HABS := Lib.hid habs; clear hrd2 hu2 hby habs) | (go_at_call 42; have hcp := copied _ _ _ _ HBY.out (by rw [HM.out]; omega); rw [HM.out] at hcp; refine callRet hcp ?_; clear hcp; intro v3 w3 h3; have HB3 := Lib.hid (HB2.out.newB h3.1); have HX3 := Lib.hid (h3.elem HB2.out.hi); obtain ⟨_, g3, cp3, hv3, _⟩ := h3; subst hv3) | (at_builtin; refine wpList_plain rfl (fun K hK => ?_); obtain ⟨vs, hvl, ho1, hpe⟩ := HB3.out.ls; refine wp_append eP (.tmp 26) (.tmp 29) rfl L.hi _ _ _ rfl (ownsRow_new ho1 ((Upd.refl _ _).alloc _)) (some ⟨w3.heap.size, 0, none⟩) 1 1 [.slice (some ⟨g3, 0, none⟩) Y.1.length cp3] rfl rfl (fun h => by cases h) box_news (by simp [Value.oneCell']) (by have := HLS.out; unfold maxLen; omega) (by have := HLS.out; omega) (Nat.le_trans HB3.out.hi ((Upd.refl (fun _ => False) _).alloc _).size) ?_; intro v4 w4 h1 h2 h3; have HB4 := Lib.hid (HB3.out.line HLO.out (Nat.le_refl _) ((Upd.refl _ _).alloc _) hvl ho1 hpe HX3.out h1 h2); refine hK _ _ ?_; clear hK K h1 h2 h3 hvl ho1 hpe) | (go_at_call 33; refine callRet (KC.out _ (HE.out.new HB4.out.new)) ?_; rintro v5 w5 ⟨rfl, rfl⟩))
        go_ret2
        have hfin : runPt d f n all = (ls ++ [Y.1], ecode Y.2) := by rw [HRUN.out, HR2.out, if_neg HYE.out]
        rw [hfin]
        obtain ⟨a1, c1, hv1, hp⟩ := HB4.out.ls.pieces
        exact ⟨HB4.out.new, a1, c1, by rw [← hv1]; rfl, hp⟩
    · obtain rfl : k = n := by omega
      have hfin : runPt d f k all = (ls, 0) := by rw [HRUN.out, Nat.sub_self]; simp [runPt]
      have HFIN := Lib.hid hfin
      clear hfin
      go_wp2
      go_ret2
      rw [HFIN.out]
      obtain ⟨a1, c1, hv1, hp⟩ := HB.out.ls.pieces
      exact ⟨HB.out.new, a1, c1, by rw [← hv1]; rfl, hp⟩
end Go.Proofs.YtnpalkndocokkaaDoor
