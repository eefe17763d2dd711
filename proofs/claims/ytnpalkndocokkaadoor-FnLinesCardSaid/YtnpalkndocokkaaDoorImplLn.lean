/- impl.Lines. -/
import Derived.Test.YtnpalkndocokkaaDoorReadLine
import Derived.Test.YtnpalkndocokkaaDoorListsG
namespace Go.Proofs.YtnpalkndocokkaaDoor
open Go.RowKit
theorem sliceA_sum (A : AR) (d : UInt8) : (sliceA A d).1.1.length + (sliceA A d).2.left.length = A.left.length := by
  unfold sliceA
  split
  · rename_i i hi
    have h1 := pos_lt (pos_take_some hi)
    show (A.left.take (i + 1)).length + (A.left.drop (i + 1)).length = _
    rw [List.length_take, List.length_drop]; omega
  · split
    · show A.left.length + (A.left.drop A.left.length).length = _
      rw [List.length_drop]; omega
    · show (A.left.take A.size).length + (A.left.drop A.size).length = _
      rw [List.length_take, List.length_drop]; omega
theorem lineA_left (A : AR) : (lineA A).1.1.1.length ≤ A.left.length ∧ (lineA A).2.left.length ≤ A.left.length ∧ (lineA A).2.f = A.f ∧ (lineA A).2.size = A.size := by
  have h1 := sliceA_sum A 10
  have h2 := sliceA_left A 10
  unfold lineA
  split
  · split
    · rename_i h3
      have h4 := (List.getElem?_eq_some_iff.1 h3).1
      refine ⟨?_, ?_, h2.2.2.1, h2.2.2.2⟩
      · show ((sliceA A 10).1.1.take _).length ≤ _
        rw [List.length_take]; omega
      · show (13 :: (sliceA A 10).2.left).length ≤ _
        rw [List.length_cons]; omega
    · exact h2
  · split
    · exact ⟨Nat.zero_le _, h2.2⟩
    · refine ⟨?_, h2.2⟩
      show ((sliceA A 10).1.1.take _).length ≤ _
      rw [List.length_take]; omega
theorem lineA_err (A : AR) : (lineA A).1.2 = none ∨ (lineA A).1.2 = some (endErr A.f) := by
  unfold lineA
  split
  · split <;> exact .inl rfl
  · rename_i h
    split
    · rename_i h2
      exact .inr (sliceA_empty h2 h)
    · exact .inl rfl
def runLn : Nat → AR → (List (List UInt8) × List Bool) × Nat
  | 0, _ => (([], []), 0)
  | n + 1, A => if (lineA A).1.2 = some (endErr A.f) then (([], []), ecode (lineA A).1.2) else (((lineA A).1.1.1 :: (runLn n (lineA A).2).1.1, (lineA A).1.1.2 :: (runLn n (lineA A).2).1.2), (runLn n (lineA A).2).2)
def LinesPost (w : World) (x : (List (List UInt8) × List Bool) × Nat) (v : Value) (w' : World) : Prop :=
  New w w' ∧ ∃ a b c e, v = .tuple #[.slice a x.1.1.length c, .slice b x.1.2.length e, .int .i64 (x.2 : Int)] ∧ PiecesA w' a c x.1.1 ∧ ReadG fBool w' b e x.1.2
theorem eBl : ElemI Tryd.prog 56 4 (.bool false) 1 1 := ElemI.mk' Tryd.underlying56 (by kernel_rfl) rfl (by omega)
set_option maxRecDepth 100000 in
set_option maxHeartbeats 2000000 in
theorem implLines {S : Err → Addr} {B : Nat} {w : World} {sz n : Nat} {a : Option Addr} {c : Nat} {ps : List (List UInt8)} (f : Bool) (E : Env S B w) (h : PiecesA w a c ps) (hl : ps.flatten.length ≤ 20000) (hn : ps.length ≤ 500) (hsz : sz ≤ 5000) (hne : nones ps ≤ 50) (hn' : n ≤ 255) :
    Calls Tryd.prog 24 #[.agg #[.slice a ps.length c, .bool f], .int .i64 (sz : Int), .int .i64 (n : Int)] w (Ret (LinesPost w (runLn n (fresh0 (max sz 16) ps.flatten f)))) := by
  have K1 := Lib.hid (over (S := S) f (h.new ((Upd.refl _ _).alloc (.cells #[.slice a ps.length c, .bool f] 24))) hl hn hsz hne)
  have HE := Lib.hid E
  have h2 := h.2.1
  unfold maxLen at h2
  have HL := Lib.hid hl
  obtain ⟨A0, hA0⟩ : ∃ A0, A0 = fresh0 (max sz 16) ps.flatten f := ⟨_, rfl⟩
  rw [← hA0]
  have HA0 := Lib.hid hA0
  clear h E hl hA0
  go_enter Tryd.func24, Tryd.ntmps24
  go_wp2_with (go_at_call 31; refine callRet K1.out ?_; intro v w1 h1; obtain ⟨hu1, L, rfl, hlo, hhi, hrd⟩ := h1; have HU1 : Hid (New w w1) := ((Upd.refl _ w).alloc (.cells #[.slice a ps.length c, .bool f] 24)).andNew hu1; have HRD := Lib.hid hrd; have HLO : Hid (w.heap.size ≤ L.lo) := (by simp at hlo; exact Nat.le_trans (Nat.le_succ _) hlo); have HHI := Lib.hid hhi; clear hu1 hrd hlo hhi K1)
  go_loopw [10, 11, 19] (fun v u i wr => ∃ (k : Nat) (st : RS) (A : AR) (ls : List (List UInt8)) (cs : List Bool), i = .int .i64 (k : Int) ∧ k ≤ n ∧ ls.length = k ∧ cs.length = k ∧ Abs st A ∧ A.left.length ≤ 20000 ∧ A.f = A0.f ∧ BothG 4 fBool L.hi L S w wr v u ls cs st ∧ runLn n A0 = ((ls ++ (runLn (n - k) A).1.1, cs ++ (runLn (n - k) A).1.2), (runLn (n - k) A).2)) (fun _ _ i _ => n - (intOf i).toNat)
  case atStart => exact ⟨0, _, A0, [], [], rfl, Nat.zero_le _, rfl, rfl, (by rw [HA0.out]; exact abs_fresh _ _ _), (by rw [HA0.out]; exact HL.out), rfl, ⟨HRD.out, HU1.out, OwnL.nil _ _ _, OwnG.nil _ _ _ _, HHI.out⟩, rfl⟩
  case round =>
    obtain ⟨k, st, A, ls, cs, rfl, hkn, hls, hcs, hA, hAl, hAf, hB, hrun⟩ := hrel
    have HA := Lib.hid hA
    have HB := Lib.hid hB
    have HRUN := Lib.hid hrun
    have HLS := Lib.hid hls
    have HCS := Lib.hid hcs
    have HAF := Lib.hid hAf
    have hA20 : A.left.length ≤ 20000 := hAl
    clear hA hB hrun hls hcs hAf hAl
    by_cases hlt : k < n
    · obtain ⟨X, hX⟩ : ∃ X, X = lineA A := ⟨_, rfl⟩
      have q := lineA_left A
      have qe := lineA_err A
      rw [← hX] at q qe
      have HX := Lib.hid hX
      have hline : X.1.1.1.length ≤ 20000 := Nat.le_trans q.1 hA20
      have HQ := Lib.hid q
      have hnk : n - k = (n - (k + 1)) + 1 := by omega
      have HR2 : Hid (runLn (n - k) A = if X.1.2 = some (endErr A.f) then (([], []), ecode X.1.2) else ((X.1.1.1 :: (runLn (n - (k + 1)) X.2).1.1, X.1.1.2 :: (runLn (n - (k + 1)) X.2).1.2), (runLn (n - (k + 1)) X.2).2)) := by
        rw [Hid, hnk, hX]; rfl
      have HQE := Lib.hid qe
      clear hX q qe hnk
      have KR := readLine (HE.out.new HB.out.new) (Nat.le_trans HE.out.size HLO.out) HB.out.rd HA.out
      rw [← HX.out] at KR
      have HKR := Lib.hid KR
      clear KR
      rcases HQE.out with he | he
      · have HEV : Hid (eV S X.1.2 = .nilIface) := by rw [Hid, he]; rfl
        have HNE : Hid (¬ X.1.2 = some (endErr A.f)) := by rw [he]; intro h; cases h
        clear he
        go_wp2_with (first | (go_at_call 49; refine callRet HKR.out ?_; intro v2 w2 h2; obtain ⟨st2, ab, cb, rfl, hby, _, hrd2, hu2, habs⟩ := h2; have HB2 := Lib.hid (HB.out.reader HLO.out (Nat.le_refl _) hrd2 hu2); have HBY := Lib.hid hby; have HABS := Lib.hid habs; clear hrd2 hu2 hby habs; rw [HEV.out]) | (go_at_call 42; refine callRet (copied _ _ _ _ HBY.out (by omega)) ?_; intro v3 w3 h3; have HB3 := Lib.hid (HB2.out.newB h3.1); have HX3 := Lib.hid (h3.elem HB2.out.hi); obtain ⟨_, g3, cp3, hv3, _⟩ := h3; subst hv3) | (at_builtin; refine wpList_plain rfl (fun K hK => ?_); obtain ⟨vs, hvl, ho1, hpe⟩ := HB3.out.ls; refine wp_append eP (.tmp 33) (.tmp 36) rfl L.hi _ _ _ rfl (ownsRow_new ho1 ((Upd.refl _ _).alloc _)) (some ⟨w3.heap.size, 0, none⟩) 1 1 [.slice (some ⟨g3, 0, none⟩) X.1.1.1.length cp3] rfl rfl (fun h => by cases h) box_news (by simp [Value.oneCell']) (by have := HLS.out; unfold maxLen; omega) (by have := HLS.out; omega) (Nat.le_trans HB3.out.hi ((Upd.refl (fun _ => False) _).alloc _).size) ?_; intro v4 w4 h1 h2 h3; have HB4 := Lib.hid (HB3.out.line (by decide) HLO.out (Nat.le_refl _) ((Upd.refl _ _).alloc _) hvl ho1 hpe HX3.out h1 h2); refine hK _ _ ?_; clear hK K h1 h2 h3 hvl ho1 hpe) | (at_builtin; refine wpList_plain rfl (fun K hK => ?_); refine wp_append eBl (.tmp 38) (.tmp 40) rfl L.hi _ _ _ rfl (HB4.out.newB ((Upd.refl _ _).alloc _)).cs (some ⟨w4.heap.size, 0, none⟩) 1 1 [.bool X.1.1.2] rfl rfl (fun h => by cases h) box_news (by simp [Value.oneCell']) (by unfold maxLen; rw [HCS.out]; omega) (by rw [HCS.out]; omega) (Nat.le_trans HB4.out.hi ((Upd.refl (fun _ => False) _).alloc _).size) ?_; intro v6 w6 h1 h2 h3; have HB6 := Lib.hid (HB4.out.code (x := X.1.1.2) (by decide) (by decide) HLO.out (Nat.le_refl _) ((Upd.refl _ _).alloc _) h1 h2); refine hK _ _ ?_; clear hK K h1 h2 h3))
        go_roundw
        case rel =>
          refine ⟨k + 1, _, X.2, ls ++ [X.1.1.1], cs ++ [X.1.1.2], by go_num, by omega, by rw [List.length_append, HLS.out]; rfl, by rw [List.length_append, HCS.out]; rfl, HABS.out, Nat.le_trans HQ.out.2.1 hA20, HQ.out.2.2.1.trans HAF.out, HB6.out, ?_⟩
          rw [HRUN.out, HR2.out, if_neg HNE.out]
          simp
        case measure => simp [intOf]; omega
      · obtain ⟨et, ev, hev⟩ := endV S A.f
        have KC : Hid (∀ wx, Env S B wx → Calls Tryd.prog 33 #[.iface et ev] wx (Ret fun v w' => wx = w' ∧ v = .int .i64 (ecode X.1.2 : Int))) := fun wx hx => by
          have := codeOf (S := S) (B := B) (some (endErr A.f)) wx hx
          rw [hev] at this
          rw [he]; exact this
        have HEV : Hid (eV S X.1.2 = .iface et ev) := by rw [Hid, he]; exact hev
        have HYE : Hid (X.1.2 = some (endErr A.f)) := he
        clear he hev
        have hfin : runLn n A0 = ((ls, cs), ecode X.1.2) := by rw [HRUN.out, HR2.out, if_pos HYE.out]; simp
        have HFIN := Lib.hid hfin
        clear hfin
        go_wp2_with (first | (go_at_call 49; refine callRet HKR.out ?_; intro v2 w2 h2; obtain ⟨st2, ab, cb, rfl, hby, _, hrd2, hu2, habs⟩ := h2; have HB2 := Lib.hid (HB.out.reader HLO.out (Nat.le_refl _) hrd2 hu2); clear hrd2 hu2 hby habs; rw [HEV.out]) | (go_at_call 33; refine callRet (KC.out _ (HE.out.new HB2.out.new)) ?_; rintro v5 w5 ⟨rfl, rfl⟩))
        refine bodyPost_ret (results_tmp3 rfl _ _ _) rfl ?_
        rw [HFIN.out]
        obtain ⟨a3, c3, hv3, hp3⟩ := HB2.out.ls.pieces
        obtain ⟨a4, c4, hv4, hi4⟩ := HB2.out.cs.read
        exact ⟨HB2.out.new, a3, a4, c3, c4, by rw [← hv3, ← hv4]; rfl, hp3, hi4⟩
    · obtain rfl : k = n := by omega
      have hfin : runLn k A0 = ((ls, cs), 0) := by rw [HRUN.out, Nat.sub_self]; simp [runLn]
      have HFIN := Lib.hid hfin
      clear hfin
      go_wp2
      refine bodyPost_ret (results_tmp3 rfl _ _ _) rfl ?_
      rw [HFIN.out]
      obtain ⟨a3, c3, hv3, hp3⟩ := HB.out.ls.pieces
      obtain ⟨a4, c4, hv4, hi4⟩ := HB.out.cs.read
      exact ⟨HB.out.new, a3, a4, c3, c4, by rw [← hv3, ← hv4]; rfl, hp3, hi4⟩
end Go.Proofs.YtnpalkndocokkaaDoor
