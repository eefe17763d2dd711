/- impl.Runes. -/
import Derived.Test.YtmmjfpcmempeeaaDoorReadRune
import Derived.Test.YtmmjfpcmempeeaaDoorListsG
namespace Go.Proofs.YtmmjfpcmempeeaaDoor
open Go.RowKit
def runR : Nat → List UInt8 → (List Nat × List Nat) × Bool
  | 0, _ => (([], []), false)
  | n + 1, l => if l.length = 0 then (([], []), true) else (((dec l).1 :: (runR n (l.drop (dec l).2)).1.1, (dec l).2 :: (runR n (l.drop (dec l).2)).1.2), (runR n (l.drop (dec l).2)).2)
theorem runeA_end {A : AR} (h : A.left.length = 0) : runeA A = (((0, 0), some (endErr A.f)), { A with rune := -1, err := false }) := if_pos h
theorem runeA_some {A : AR} (h : ¬ A.left.length = 0) : runeA A = ((((dec A.left).1, (dec A.left).2), none), { A with left := A.left.drop (dec A.left).2, last := (xb A.left ((dec A.left).2 - 1) : Int), rune := ((dec A.left).2 : Int), err := A.err || !fullB A.left, back := some (A.left.take (dec A.left).2) }) := if_neg h
def codeR (f : Bool) (b : Bool) : Nat := if b then endc f else 0
def RunesPost (w : World) (f : Bool) (x : (List Nat × List Nat) × Bool) (v : Value) (w' : World) : Prop :=
  New w w' ∧ ∃ a b c e, v = .tuple #[.slice a x.1.1.length c, .slice b x.1.2.length e, .int .i64 (codeR f x.2 : Int)] ∧ ReadG fI32 w' a c x.1.1 ∧ ReadG fI64 w' b e x.1.2
theorem eR : ElemI Tryd.prog 31 21 (.int .i32 0) 1 4 := ElemI.mk' Tryd.underlying31 (by kernel_rfl) rfl (by omega)
set_option maxRecDepth 100000 in
set_option maxHeartbeats 2000000 in
theorem implRunes {S : Err → Addr} {B : Nat} {w : World} {sz n : Nat} {a : Option Addr} {c : Nat} {ps : List (List UInt8)} (f : Bool) (E : Env S B w) (T : TabsB B w) (h : PiecesA w a c ps) (hl : ps.flatten.length ≤ 20000) (hn : ps.length ≤ 500) (hsz : sz ≤ 5000) (hne : nones ps ≤ 50) (hn' : n ≤ 65535) :
    Calls Tryd.prog 14 #[.agg #[.slice a ps.length c, .bool f], .int .i64 (sz : Int), .int .i64 (n : Int)] w (Ret (RunesPost w f (runR n ps.flatten))) := by
  have K1 := Lib.hid (over (S := S) f (h.new ((Upd.refl _ _).alloc (.cells #[.slice a ps.length c, .bool f] 24))) hl hn hsz hne)
  have HE := Lib.hid E
  have HT := Lib.hid T
  have h2 := h.2.1
  unfold maxLen at h2
  have HL := Lib.hid hl
  obtain ⟨all, hall⟩ : ∃ all, all = ps.flatten := ⟨_, rfl⟩
  rw [← hall]
  have HALL := Lib.hid hall
  clear h E T hl hall
  go_enter Tryd.func14, Tryd.ntmps14
  go_wp2_with (go_at_call 32; refine callRet K1.out ?_; intro v w1 h1; obtain ⟨hu1, L, rfl, hlo, hhi, hrd⟩ := h1; have HU1 : Hid (New w w1) := ((Upd.refl _ w).alloc (.cells #[.slice a ps.length c, .bool f] 24)).andNew hu1; have HRD := Lib.hid hrd; have HLO : Hid (w.heap.size ≤ L.lo) := (by simp at hlo; exact Nat.le_trans (Nat.le_succ _) hlo); have HHI := Lib.hid hhi; clear hu1 hrd hlo hhi K1)
  go_loopw [10, 11, 19] (fun v u i wr => ∃ (k : Nat) (st : RS) (A : AR) (ls cs : List Nat), i = .int .i64 (k : Int) ∧ k ≤ n ∧ ls.length = k ∧ cs.length = k ∧ Abs st A ∧ A.left.length ≤ 20000 ∧ A.f = f ∧ TwoG 21 fI32 3 fI64 L.hi L S w wr v u ls cs st ∧ runR n all = ((ls ++ (runR (n - k) A.left).1.1, cs ++ (runR (n - k) A.left).1.2), (runR (n - k) A.left).2)) (fun _ _ i _ => n - (intOf i).toNat)
  case atStart => exact ⟨0, _, fresh0 (max sz 16) ps.flatten f, [], [], rfl, Nat.zero_le _, rfl, rfl, abs_fresh _ _ _, HL.out, rfl, ⟨HRD.out, HU1.out, OwnG.nil _ _ _ _, OwnG.nil _ _ _ _, HHI.out⟩, by rw [HALL.out]; rfl⟩
  case round =>
    obtain ⟨k, st, A, ls, cs, rfl, hkn, hls, hcs, hA, hAl, hAf, hB, hrun⟩ := hrel
    have HA := Lib.hid hA
    have HB := Lib.hid hB
    have HRUN := Lib.hid hrun
    have HLS := Lib.hid hls
    have HCS := Lib.hid hcs
    have HAF := Lib.hid hAf
    have hA20 : A.left.length ≤ 20000 := hAl
    clear hA hB hrun hls hcs hAf hAl
    by_cases hlt : k < n
    · have hnk : n - k = (n - (k + 1)) + 1 := by omega
      have HR2 : Hid (runR (n - k) A.left = if A.left.length = 0 then (([], []), true) else (((dec A.left).1 :: (runR (n - (k + 1)) (A.left.drop (dec A.left).2)).1.1, (dec A.left).2 :: (runR (n - (k + 1)) (A.left.drop (dec A.left).2)).1.2), (runR (n - (k + 1)) (A.left.drop (dec A.left).2)).2)) := by
        rw [Hid, hnk]; rfl
      have KR := readRune (HE.out.new HB.out.new) (HT.out.new HB.out.new) (Nat.le_trans HE.out.size HLO.out) HB.out.rd HA.out
      have HKR := Lib.hid KR
      clear KR hnk
      by_cases h0 : A.left.length = 0
      · have e := runeA_end h0
        rw [e] at HKR
        obtain ⟨et, ev, hev⟩ := endV S A.f
        have KC : Hid (∀ wx, Env S B wx → Calls Tryd.prog 34 #[.iface et ev] wx (Ret fun v w' => wx = w' ∧ v = .int .i64 (endc f : Int))) := fun wx hx => by
          have := codeOf (S := S) (B := B) (some (endErr A.f)) wx hx
          rw [hev, ecode_end, HAF.out] at this
          exact this
        have HEV := Lib.hid hev
        have hfin : runR n all = ((ls, cs), true) := by rw [HRUN.out, HR2.out, if_pos h0]; simp
        have HFIN := Lib.hid hfin
        clear hfin e hev h0
        go_wp2_with (first | (go_at_call 33; refine callRet HKR.out ?_; intro v2 w2 h2; obtain ⟨st2, rfl, hrd2, hu2, habs⟩ := h2; have HB2 := Lib.hid (HB.out.reader HLO.out (Nat.le_refl _) hrd2 hu2); clear hrd2 hu2 habs; rw [HEV.out]) | (go_at_call 34; refine callRet (KC.out _ (HE.out.new HB2.out.new)) ?_; rintro v5 w5 ⟨rfl, rfl⟩))
        refine bodyPost_ret (results_tmp3 rfl _ _ _) rfl ?_
        rw [HFIN.out]
        obtain ⟨a3, c3, hv3, hp3⟩ := HB2.out.ls.read
        obtain ⟨a4, c4, hv4, hi4⟩ := HB2.out.cs.read
        exact ⟨HB2.out.new, a3, a4, c3, c4, by rw [← hv3, ← hv4]; rfl, hp3, hi4⟩
      · have e := runeA_some h0
        rw [e] at HKR
        have hp := dec_pos (bs := A.left) (by omega)
        obtain ⟨K, hK⟩ : ∃ K, (dec A.left).2 = K := ⟨_, rfl⟩
        obtain ⟨R, hR⟩ : ∃ R, (dec A.left).1 = R := ⟨_, rfl⟩
        rw [hK, hR] at HKR HR2
        have HNX : Hid (runR n all = ((ls ++ [R] ++ (runR (n - (k + 1)) (A.left.drop K)).1.1, cs ++ [K] ++ (runR (n - (k + 1)) (A.left.drop K)).1.2), (runR (n - (k + 1)) (A.left.drop K)).2)) := by
          rw [Hid, HRUN.out, HR2.out, if_neg h0]; simp
        obtain ⟨A2, hA2⟩ : ∃ A2, A2 = ({ A with left := A.left.drop K, last := (xb A.left (K - 1) : Int), rune := (K : Int), err := A.err || !fullB A.left, back := some (A.left.take K) } : AR) := ⟨_, rfl⟩
        rw [← hA2] at HKR
        have HA2 := Lib.hid hA2
        clear e hK hR h0 hp hA2
        go_wp2_with (first | (go_at_call 33; refine callRet HKR.out ?_; intro v2 w2 h2; obtain ⟨st2, rfl, hrd2, hu2, habs⟩ := h2; have HB2 := Lib.hid (HB.out.reader HLO.out (Nat.le_refl _) hrd2 hu2); have HABS := Lib.hid habs; clear hrd2 hu2 habs; simp only [eV]) | (at_builtin; refine wpList_plain rfl (fun K hK => ?_); refine wp_append eR (.tmp 33) (.tmp 35) rfl L.hi _ _ _ rfl (HB2.out.newB ((Upd.refl _ _).alloc _)).ls (some ⟨w2.heap.size, 0, none⟩) 1 1 [.int .i32 (R : Int)] rfl rfl (fun h => by cases h) box_news (by simp [Value.oneCell']) (by unfold maxLen; rw [HLS.out]; omega) (by rw [HLS.out]; omega) (Nat.le_trans HB2.out.hi ((Upd.refl (fun _ => False) _).alloc _).size) ?_; intro v4 w4 h1 h2 h3; have HB4 := Lib.hid (HB2.out.one (x := R) (by decide) HLO.out (Nat.le_refl _) ((Upd.refl _ _).alloc _) h1 h2); refine hK _ _ ?_; clear hK K h1 h2 h3) | (at_builtin; refine wpList_plain rfl (fun K hK => ?_); refine wp_append eI (.tmp 37) (.tmp 39) rfl L.hi _ _ _ rfl (HB4.out.newB ((Upd.refl _ _).alloc _)).cs (some ⟨w4.heap.size, 0, none⟩) 1 1 [.int .i64 _] rfl rfl (fun h => by cases h) box_news (by simp [Value.oneCell']) (by unfold maxLen; rw [HCS.out]; omega) (by rw [HCS.out]; omega) (Nat.le_trans HB4.out.hi ((Upd.refl (fun _ => False) _).alloc _).size) ?_; intro v6 w6 h1 h2 h3; have HB6 := Lib.hid (HB4.out.two (by decide) HLO.out (Nat.le_refl _) ((Upd.refl _ _).alloc _) h1 h2); refine hK _ _ ?_; clear hK K h1 h2 h3))
        go_roundw
        case rel =>
          refine ⟨k + 1, _, A2, ls ++ [R], cs ++ [K], by go_num, by omega, by rw [List.length_append, HLS.out]; rfl, by rw [List.length_append, HCS.out]; rfl, HABS.out, ?_, ?_, HB6.out, ?_⟩
          · rw [HA2.out]; show (A.left.drop K).length ≤ 20000; rw [List.length_drop]; omega
          · rw [HA2.out]; exact HAF.out
          · rw [HA2.out]; exact HNX.out
        case measure => simp [intOf]; omega
    · obtain rfl : k = n := by omega
      have hfin : runR k all = ((ls, cs), false) := by rw [HRUN.out, Nat.sub_self]; simp [runR]
      have HFIN := Lib.hid hfin
      clear hfin
      go_wp2
      refine bodyPost_ret (results_tmp3 rfl _ _ _) rfl ?_
      rw [HFIN.out]
      obtain ⟨a3, c3, hv3, hp3⟩ := HB.out.ls.read
      obtain ⟨a4, c4, hv4, hi4⟩ := HB.out.cs.read
      exact ⟨HB.out.new, a3, a4, c3, c4, by rw [← hv3, ← hv4]; rfl, hp3, hi4⟩
end Go.Proofs.YtmmjfpcmempeeaaDoor
