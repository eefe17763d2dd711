/- impl.Texts. -/
import Derived.Test.YtnpalkndocokkaaDoorImplPt
import Derived.Test.YtnpalkndocokkaaDoorReadString
namespace Go.Proofs.YtnpalkndocokkaaDoor
open Go.RowKit
theorem eT : ElemI Tryd.prog 61 9 (.string ⟨#[]⟩) 1 16 := ElemI.mk' Tryd.underlying61 (by kernel_rfl) rfl (by omega)
/-- strings in a row of one's own -/
def OwnT (base : Nat) (w : World) (v : Value) (xs : List (List UInt8)) : Prop := w.ownsRow base 9 1 v xs.length (xs.map strV)
theorem OwnT.nil (base : Nat) (w : World) : OwnT base w (.slice none 0 0) [] := World.ownsRow_nil _ _ _ _
theorem OwnT.upd {M : Nat → Prop} {base : Nat} {w w1 : World} {v : Value} {xs : List (List UInt8)} (h : OwnT base w v xs) (u : Upd M w w1) (h1 : ∀ k, M k → base ≤ k → False) : OwnT base w1 v xs := by
  refine ⟨h.1, ?_⟩
  rcases h.2 with h | ⟨g, cap, cur, hv, hb, hg, r⟩
  · exact .inl h
  · exact .inr ⟨g, cap, cur, hv, hb, u.heap hg (fun hh => h1 g hh hb), r⟩
def TextsA (w : World) (a : Option Addr) (c : Nat) (xs : List (List UInt8)) : Prop :=
  xs.length ≤ c ∧ c ≤ maxLen ∧ (a = none → c = 0) ∧ ∀ p, a = some p → p.spot = none ∧ ∀ i, (h : i < xs.length) → w.cell? ⟨p.block, p.off + i, none⟩ = some (strV xs[i])
theorem OwnT.texts {base : Nat} {w : World} {v : Value} {xs : List (List UInt8)} (h : OwnT base w v xs) : ∃ a c, v = .slice a xs.length c ∧ TextsA w a c xs := by
  rcases h.2 with ⟨rfl, hn⟩ | ⟨g, cap, cur, rfl, hb, hg, hn, hm, hs, ht⟩
  · exact ⟨none, 0, by rw [hn], by omega, Nat.zero_le _, fun _ => rfl, fun p hp => by cases hp⟩
  · refine ⟨_, cap, rfl, hn, hm, by simp, fun p hp' => ?_⟩
    simp only [Option.some.injEq] at hp'; subst hp'
    refine ⟨rfl, fun i hi => ?_⟩
    rw [World.cell_of_heap hg]
    have : (cur.toList.take (xs.length * 1))[i]? = (xs.map strV)[i]? := by rw [ht]
    rw [List.getElem?_take_of_lt (by omega), List.getElem?_map, List.getElem?_eq_getElem hi] at this
    simpa using this
structure Tx (base : Nat) (L : Loc) (S : Err → Addr) (w wr : World) (v : Value) (ls : List (List UInt8)) (st : RS) : Prop where
  rd : Rd S wr L st
  new : New w wr
  ts : OwnT base wr v ls
  hi : base ≤ wr.heap.size
theorem Tx.reader {base : Nat} {L : Loc} {S : Err → Addr} {w wr w2 : World} {v : Value} {ls : List (List UInt8)} {st st2 : RS} (h : Tx base L S w wr v ls st) (hlo : w.heap.size ≤ L.lo) (hhi : L.hi ≤ base) (h2 : Rd S w2 L st2) (hu : Upd (In L) wr w2) : Tx base L S w w2 v ls st2 where
  rd := h2
  new := Upd.inNew h.new hu hlo
  ts := h.ts.upd hu (fun k hk hb => by have := hk.2; omega)
  hi := Nat.le_trans h.hi hu.size
theorem Tx.line {base : Nat} {L : Loc} {S : Err → Addr} {w w1 w2 w3 : World} {v v' : Value} {ls : List (List UInt8)} {st : RS} {bs : List UInt8} (h : Tx base L S w w1 v ls st) (hlo : w.heap.size ≤ L.lo) (hhi : L.hi ≤ base) (h12 : New w1 w2)
    (ho : w3.ownsRow base 9 1 v' (ls.length + 1) (ls.map strV ++ [strV bs])) (hg : w2.grownBy w3 v.ownBlock) : Tx base L S w w3 v' (ls ++ [bs]) st := by
  have hu : Upd (fun k => base ≤ k) w2 w3 := (Upd.refl _ _).grown hg (fun k hk _ => (ownsRow_block h.ts hk).1)
  obtain ⟨q1, q2⟩ := Both.above (h.rd.new h12) (h.new.andNew h12) hlo hhi hu (fun k hk => hk)
  exact ⟨q1, q2, by unfold OwnT; simpa using ho, Nat.le_trans h.hi (Nat.le_trans h12.size hu.size)⟩
def TextsPost (w : World) (x : List (List UInt8) × Nat) (v : Value) (w' : World) : Prop :=
  New w w' ∧ ∃ a c, v = .tuple #[.slice a x.1.length c, .int .i64 (x.2 : Int)] ∧ TextsA w' a c x.1
set_option maxRecDepth 100000 in
set_option maxHeartbeats 2000000 in
theorem implTexts {S : Err → Addr} {B : Nat} {w : World} {sz n : Nat} {a : Option Addr} {c : Nat} {ps : List (List UInt8)} (f : Bool) (d : UInt8) (E : Env S B w) (h : PiecesA w a c ps) (hl : ps.flatten.length ≤ 20000) (hn : ps.length ≤ 500) (hsz : sz ≤ 5000) (hne : nones ps ≤ 50) (hn' : n ≤ 255) :
    Calls Tryd.prog 26 #[.agg #[.slice a ps.length c, .bool f], .int .i64 (sz : Int), .int .u8 (d.toNat : Int), .int .i64 (n : Int)] w (Ret (TextsPost w (runPt d f n ps.flatten))) := by
  have K1 := Lib.hid (over (S := S) f (h.new ((Upd.refl _ _).alloc (.cells #[.slice a ps.length c, .bool f] 24))) hl hn hsz hne)
  have HE := Lib.hid E
  have h2 := h.2.1
  unfold maxLen at h2
  have HL := Lib.hid hl
  obtain ⟨all, hall⟩ : ∃ all, all = ps.flatten := ⟨_, rfl⟩
  rw [← hall]
  have HALL := Lib.hid hall
  clear h E hl hall
  go_enter Tryd.func26, Tryd.ntmps26
  go_wp2_with (go_at_call 31; refine callRet K1.out ?_; intro v w1 h1; obtain ⟨hu1, L, rfl, hlo, hhi, hrd⟩ := h1; have HU1 : Hid (New w w1) := ((Upd.refl _ w).alloc (.cells #[.slice a ps.length c, .bool f] 24)).andNew hu1; have HRD := Lib.hid hrd; have HLO : Hid (w.heap.size ≤ L.lo) := (by simp at hlo; exact Nat.le_trans (Nat.le_succ _) hlo); have HHI := Lib.hid hhi; clear hu1 hrd hlo hhi K1)
  go_loopw [11, 18] (fun v i wr => ∃ (k : Nat) (st : RS) (A : AR) (ls : List (List UInt8)), i = .int .i64 (k : Int) ∧ k ≤ n ∧ ls.length = k ∧ Abs st A ∧ A.left.length ≤ 20000 ∧ A.f = f ∧ A.err = false ∧ 1 ≤ A.size ∧ Tx L.hi L S w wr v ls st ∧ runPt d f n all = (ls ++ (runPt d f (n - k) A.left).1, (runPt d f (n - k) A.left).2)) (fun _ i _ => n - (intOf i).toNat)
  case atStart => exact ⟨0, _, fresh0 (max sz 16) ps.flatten f, [], rfl, Nat.zero_le _, rfl, abs_fresh _ _ _, HL.out, rfl, rfl, (by show 1 ≤ max sz 16; omega), ⟨HRD.out, HU1.out, OwnT.nil _ _, HHI.out⟩, by rw [HALL.out]; rfl⟩
  case round =>
    obtain ⟨k, st, A, ls, rfl, hkn, hls, hA, hAl, hAf, hAe, hAs, hB, hrun⟩ := hrel
    have HA := Lib.hid hA
    have HB := Lib.hid hB
    have HRUN := Lib.hid hrun
    have HLS := Lib.hid hls
    have HAF := Lib.hid hAf
    have HAE := Lib.hid hAe
    have HAS := Lib.hid hAs
    have hA20 : A.left.length ≤ 20000 := hAl
    clear hA hB hrun hls hAf hAe hAs hAl
    by_cases hlt : k < n
    · obtain ⟨X, hX⟩ : ∃ X, X = frags d (A.left.length + 1) A := ⟨_, rfl⟩
      obtain ⟨q1, q2, q3, q4, q5, q6⟩ := frags_flat (d := d) (A.left.length + 1) A HAS.out (Nat.lt_succ_self _) HAE.out
      have htot : (frags d (A.left.length + 1) A).1.flatten.length + (frags d (A.left.length + 1) A).2.1.1.length ≤ 20000 := by
        rw [← List.length_append, q1]; exact Nat.le_trans (partL_le _ _ _) hA20
      have qe := partL_err d A.f A.left
      obtain ⟨Y, hY⟩ : ∃ Y, Y = partL d A.f A.left := ⟨_, rfl⟩
      have hYl : Y.1.length ≤ 20000 := by rw [hY]; exact Nat.le_trans (partL_le _ _ _) hA20
      rw [← hY] at q1 q2 q3 qe
      rw [← hX] at q1 q2 q3 q4 q5 q6 htot
      have HX := Lib.hid hX
      have HTOT := Lib.hid htot
      have HQ1 := Lib.hid q1
      have HQ2 := Lib.hid q2
      have HQ3 := Lib.hid (And.intro q3 (And.intro q4 (And.intro q5 q6)))
      have hnk : n - k = (n - (k + 1)) + 1 := by omega
      have HR2 : Hid (runPt d f (n - k) A.left = if Y.2 = none then (Y.1 :: (runPt d f (n - (k + 1)) X.2.2.left).1, (runPt d f (n - (k + 1)) X.2.2.left).2) else ([Y.1], ecode Y.2)) := by
        rw [Hid, hnk, q3, hY, HAF.out]; rfl
      have HQE := Lib.hid qe
      obtain ⟨m, hm⟩ : ∃ m, Y.1.length = m := ⟨_, rfl⟩
      have HM := Lib.hid hm
      rw [hm] at hYl
      obtain ⟨sv, hsv⟩ : ∃ sv, strV Y.1 = .string sv := ⟨_, rfl⟩
      have HSV := Lib.hid hsv
      clear hX hY hsv q1 q2 q3 q4 q5 q6 qe hnk htot hm
      rcases HQE.out with he | he
      · have KC : Hid (eV S X.2.1.2 = .nilIface) := by rw [Hid, HQ2.out, he]; rfl
        have HNE := Lib.hid he
        clear he
        go_wp2_with (first | (go_at_call 50; refine callRet (readString (HE.out.new HB.out.new) (Nat.le_trans HE.out.size HLO.out) HB.out.rd HA.out HB.out.hi (by omega) d (by have := HTOT.out; rw [HX.out] at this; omega)) ?_; rw [← HX.out]; intro v2 w2 h2; obtain ⟨st2, rfl, hrd2, hu2, habs⟩ := h2; rw [HQ1.out, HSV.out, KC.out]; have HB2 := Lib.hid (HB.out.reader HLO.out (Nat.le_refl _) hrd2 hu2); have HABS := Lib.hid habs; clear hrd2 hu2 habs) | (at_builtin; refine wpList_plain rfl (fun K hK => ?_); refine wp_append eT (.tmp 26) (.tmp 28) rfl L.hi _ _ _ rfl (HB2.out.ts.upd ((Upd.refl (fun _ => False) _).alloc _) (fun _ h _ => h)) (some ⟨w2.heap.size, 0, none⟩) 1 1 [.string sv] rfl rfl (fun h => by cases h) box_news (by simp [Value.oneCell']) (by have := HLS.out; unfold maxLen; omega) (by have := HLS.out; omega) (Nat.le_trans HB2.out.hi ((Upd.refl (fun _ => False) _).alloc _).size) ?_; intro v4 w4 h1 h2 h3; rw [← HSV.out] at h1; have HB4 := Lib.hid (HB2.out.line HLO.out (Nat.le_refl _) ((Upd.refl _ _).alloc _) h1 h2); refine hK _ _ ?_; clear hK K h1 h2 h3) )
        go_roundw
        case rel =>
          refine ⟨k + 1, _, X.2.2, ls ++ [Y.1], by go_num, by omega, by rw [List.length_append, HLS.out]; rfl, HABS.out, by rw [HQ3.out.1, List.length_drop]; omega, HQ3.out.2.1.trans HAF.out, HQ3.out.2.2.2, by rw [HQ3.out.2.2.1]; exact HAS.out, HB4.out, ?_⟩
          rw [HRUN.out, HR2.out, if_pos HNE.out]
          simp
        case measure => simp [intOf]; omega
      · obtain ⟨et, ev, hev⟩ := endV S A.f
        have KC : Hid (∀ wx, Env S B wx → Calls Tryd.prog 33 #[.iface et ev] wx (Ret fun v w' => wx = w' ∧ v = .int .i64 (ecode Y.2 : Int))) := fun wx hx => by
          have := codeOf (S := S) (B := B) (some (endErr A.f)) wx hx
          rw [hev] at this
          rw [he]; exact this
        have HEV : Hid (eV S X.2.1.2 = .iface et ev) := by rw [Hid, HQ2.out, he]; exact hev
        have HYE := Lib.hid (show ¬ Y.2 = none by rw [he]; simp)
        clear he hev
        go_wp2_with (first | (go_at_call 50; refine callRet (readString (HE.out.new HB.out.new) (Nat.le_trans HE.out.size HLO.out) HB.out.rd HA.out HB.out.hi (by omega) d (by have := HTOT.out; rw [HX.out] at this; omega)) ?_; rw [← HX.out]; intro v2 w2 h2; obtain ⟨st2, rfl, hrd2, hu2, habs⟩ := h2; rw [HQ1.out, HSV.out, HEV.out]; have HB2 := Lib.hid (HB.out.reader HLO.out (Nat.le_refl _) hrd2 hu2); have HABS := Lib.hid habs; clear hrd2 hu2 habs) | (at_builtin; refine wpList_plain rfl (fun K hK => ?_); refine wp_append eT (.tmp 26) (.tmp 28) rfl L.hi _ _ _ rfl (HB2.out.ts.upd ((Upd.refl (fun _ => False) _).alloc _) (fun _ h _ => h)) (some ⟨w2.heap.size, 0, none⟩) 1 1 [.string sv] rfl rfl (fun h => by cases h) box_news (by simp [Value.oneCell']) (by have := HLS.out; unfold maxLen; omega) (by have := HLS.out; omega) (Nat.le_trans HB2.out.hi ((Upd.refl (fun _ => False) _).alloc _).size) ?_; intro v4 w4 h1 h2 h3; rw [← HSV.out] at h1; have HB4 := Lib.hid (HB2.out.line HLO.out (Nat.le_refl _) ((Upd.refl _ _).alloc _) h1 h2); refine hK _ _ ?_; clear hK K h1 h2 h3) | (go_at_call 33; refine callRet (KC.out _ (HE.out.new HB4.out.new)) ?_; rintro v5 w5 ⟨rfl, rfl⟩))
        go_ret2
        have hfin : runPt d f n all = (ls ++ [Y.1], ecode Y.2) := by rw [HRUN.out, HR2.out, if_neg HYE.out]
        rw [hfin]
        obtain ⟨a1, c1, hv1, hp⟩ := HB4.out.ts.texts
        exact ⟨HB4.out.new, a1, c1, by rw [← hv1]; rfl, hp⟩
    · obtain rfl : k = n := by omega
      have hfin : runPt d f k all = (ls, 0) := by rw [HRUN.out, Nat.sub_self]; simp [runPt]
      have HFIN := Lib.hid hfin
      clear hfin
      go_wp2
      go_ret2
      rw [HFIN.out]
      obtain ⟨a1, c1, hv1, hp⟩ := HB.out.ts.texts
      exact ⟨HB.out.new, a1, c1, by rw [← hv1]; rfl, hp⟩
end Go.Proofs.YtnpalkndocokkaaDoor
