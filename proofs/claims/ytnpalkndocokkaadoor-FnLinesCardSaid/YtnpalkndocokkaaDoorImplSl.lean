/- impl.Slices. -/
import Derived.Test.YtnpalkndocokkaaDoorReadSlice
import Derived.Test.YtnpalkndocokkaaDoorImplPD
import Derived.Test.YtnpalkndocokkaaDoorLists
namespace Go.Proofs.YtnpalkndocokkaaDoor
open Go.RowKit
theorem sliceA_left (A : AR) (d : UInt8) : (sliceA A d).1.1.length ≤ A.left.length ∧ (sliceA A d).2.left.length ≤ A.left.length ∧ (sliceA A d).2.f = A.f ∧ (sliceA A d).2.size = A.size := by
  unfold sliceA
  split
  · exact ⟨List.length_take_le' _ _, by unfold AR.read; simp, rfl, rfl⟩
  · split
    · exact ⟨Nat.le_refl _, by unfold AR.read; simp, rfl, rfl⟩
    · exact ⟨List.length_take_le' _ _, by unfold AR.read; simp, rfl, rfl⟩
/-- what ReadSlice tells beside a line -/
theorem sliceA_err (A : AR) (d : UInt8) : (sliceA A d).1.2 = none ∨ (sliceA A d).1.2 = some .full ∨ (sliceA A d).1.2 = some (endErr A.f) := by
  unfold sliceA
  split
  · exact .inl rfl
  · split
    · exact .inr (.inr rfl)
    · exact .inr (.inl rfl)
def runSl (d : UInt8) : Nat → AR → List (List UInt8) × List Nat
  | 0, _ => ([], [])
  | n + 1, A => if (sliceA A d).1.2 = some (endErr A.f) then ([(sliceA A d).1.1], [ecode (sliceA A d).1.2]) else ((sliceA A d).1.1 :: (runSl d n (sliceA A d).2).1, ecode (sliceA A d).1.2 :: (runSl d n (sliceA A d).2).2)
/-- two lists more by one each: lines first, then codes -/
structure Both (base : Nat) (L : Loc) (S : Err → Addr) (w wr : World) (v u : Value) (ls : List (List UInt8)) (cs : List Nat) (st : RS) : Prop where
  rd : Rd S wr L st
  new : New w wr
  ls : OwnL base (fun k => base ≤ k) wr v ls
  cs : OwnI base wr u cs
  hi : base ≤ wr.heap.size
theorem Both.reader {base : Nat} {L : Loc} {S : Err → Addr} {w wr w2 : World} {v u : Value} {ls : List (List UInt8)} {cs : List Nat} {st st2 : RS} (h : Both base L S w wr v u ls cs st) (hlo : w.heap.size ≤ L.lo) (hhi : L.hi ≤ base) (h2 : Rd S w2 L st2) (hu : Upd (In L) wr w2) : Both base L S w w2 v u ls cs st2 where
  rd := h2
  new := Upd.inNew h.new hu hlo
  ls := h.ls.upd hu (fun k _ hk hb _ => by have := hk.2; omega) (fun k _ hk hb _ => by have := hk.2; have hb : base ≤ k := hb; omega)
  cs := h.cs.upd hu (fun k _ hk hb _ => by have := hk.2; omega)
  hi := Nat.le_trans h.hi hu.size
theorem Both.newB {base : Nat} {L : Loc} {S : Err → Addr} {w wr w2 : World} {v u : Value} {ls : List (List UInt8)} {cs : List Nat} {st : RS} (h : Both base L S w wr v u ls cs st) (hu : New wr w2) : Both base L S w w2 v u ls cs st :=
  ⟨h.rd.new hu, h.new.andNew hu, h.ls.new hu, h.cs.new hu, Nat.le_trans h.hi hu.size⟩
theorem Both.above {base : Nat} {L : Loc} {S : Err → Addr} {w w2 w3 : World} {st : RS} {M : Nat → Prop} (hrd : Rd S w2 L st) (hnew : New w w2) (hlo : w.heap.size ≤ L.lo) (hhi : L.hi ≤ base) (hu : Upd M w2 w3) (hM : ∀ k, M k → base ≤ k) : Rd S w3 L st ∧ New w w3 := by
  have := hrd.bhi; have := hrd.blo; have := hrd.lomid
  exact ⟨hrd.upd hu (fun k hk hin => by have := hM k hk; have := hin.2; omega), hnew.trans hu (fun k hk hlt => by have := hM k hk; omega)⟩
theorem Both.line {base : Nat} {L : Loc} {S : Err → Addr} {w w1 w2 w3 : World} {v u v' x : Value} {ls : List (List UInt8)} {cs : List Nat} {st : RS} {bs : List UInt8} {vs : List Value} (h : Both base L S w w1 v u ls cs st) (hlo : w.heap.size ≤ L.lo) (hhi : L.hi ≤ base) (h12 : New w1 w2)
    (hl : vs.length = ls.length) (ho1 : w1.ownsRow base 29 1 v ls.length vs) (hp : ∀ i, (h : i < ls.length) → ∃ u, vs[i]? = some u ∧ ElemB w1 (fun k => base ≤ k) u ls[i]) (hx : ElemB w1 (fun k => base ≤ k) x bs)
    (ho : w3.ownsRow base 29 1 v' (ls.length + 1) (vs ++ [x])) (hg : w2.grownBy w3 v.ownBlock) : Both base L S w w3 v' u (ls ++ [bs]) cs st := by
  obtain ⟨h1, h2⟩ := OwnL.grow hl ho1 hp hx h12 ho hg
  have hn := h.newB h12
  obtain ⟨q1, q2⟩ := Both.above hn.rd hn.new hlo hhi h2 (fun k hk => hk.1)
  exact ⟨q1, q2, h1, hn.cs.upd h2 (fun k cur hm _ hc => by obtain ⟨_, cur', h2⟩ := hm; rw [hc] at h2; simp at h2), Nat.le_trans hn.hi h2.size⟩
theorem Both.code {base : Nat} {L : Loc} {S : Err → Addr} {w w1 w2 w3 : World} {v u u' : Value} {ls : List (List UInt8)} {cs : List Nat} {st : RS} {x : Nat} (h : Both base L S w w1 v u ls cs st) (hlo : w.heap.size ≤ L.lo) (hhi : L.hi ≤ base) (h12 : New w1 w2)
    (ho : w3.ownsRow base 3 1 u' (cs.length + 1) ((cs.map fun (x : Nat) => Value.int .i64 (x : Int)) ++ [.int .i64 (x : Int)])) (hg : w2.grownBy w3 u.ownBlock) : Both base L S w w3 v u' ls (cs ++ [x]) st := by
  obtain ⟨h1, h2⟩ := OwnI.grow h.cs h12 ho hg
  have hn := h.newB h12
  obtain ⟨q1, q2⟩ := Both.above hn.rd hn.new hlo hhi h2 (fun k hk => hk.1)
  exact ⟨q1, q2, hn.ls.upd h2 (fun k cur hm _ hc => by obtain ⟨_, cur', h2⟩ := hm; rw [hc] at h2; simp at h2) (fun k cur hm _ hc => by obtain ⟨_, cur', h2⟩ := hm; rw [hc] at h2; simp at h2), h1, Nat.le_trans hn.hi h2.size⟩
/-- a new box of one cell, as a source of append -/
theorem box_news {w : World} {x : Value} {t : TypeId} : ∀ p, (some ⟨w.heap.size, 0, none⟩ : Option Addr) = some p → ∀ j u, [x][j]? = some u → (w.alloc (.cells #[x] t)).cell? (p.add j) = some u := fun p hp => by
  simp only [Option.some.injEq] at hp; subst hp
  exact World.news_of_block' (cs := #[x]) (t := t) (fr := (0, 0)) (heap_alloc_new w _)
def SlicesPost (w : World) (x : List (List UInt8) × List Nat) (v : Value) (w' : World) : Prop :=
  New w w' ∧ ∃ a b c e, v = .tuple #[.slice a x.1.length c, .slice b x.2.length e] ∧ PiecesA w' a c x.1 ∧ IntsA w' b e x.2
set_option maxRecDepth 100000 in
set_option maxHeartbeats 2000000 in
theorem implSlices {S : Err → Addr} {B : Nat} {w : World} {sz n : Nat} {a : Option Addr} {c : Nat} {ps : List (List UInt8)} (f : Bool) (d : UInt8) (E : Env S B w) (h : PiecesA w a c ps) (hl : ps.flatten.length ≤ 20000) (hn : ps.length ≤ 500) (hsz : sz ≤ 5000) (hne : nones ps ≤ 50) (hn' : n ≤ 255) :
    Calls Tryd.prog 19 #[.agg #[.slice a ps.length c, .bool f], .int .i64 (sz : Int), .int .u8 (d.toNat : Int), .int .i64 (n : Int)] w (Ret (SlicesPost w (runSl d n (fresh0 (max sz 16) ps.flatten f)))) := by
  have K1 := Lib.hid (over (S := S) f (h.new ((Upd.refl _ _).alloc (.cells #[.slice a ps.length c, .bool f] 24))) hl hn hsz hne)
  have HE := Lib.hid E
  have h2 := h.2.1
  unfold maxLen at h2
  have HL := Lib.hid hl
  obtain ⟨A0, hA0⟩ : ∃ A0, A0 = fresh0 (max sz 16) ps.flatten f := ⟨_, rfl⟩
  rw [← hA0]
  have HA0 := Lib.hid hA0
  clear h E hl hA0
  go_enter Tryd.func19, Tryd.ntmps19
  go_wp2_with (go_at_call 31; refine callRet K1.out ?_; intro v w1 h1; obtain ⟨hu1, L, rfl, hlo, hhi, hrd⟩ := h1; have HU1 : Hid (New w w1) := ((Upd.refl _ w).alloc (.cells #[.slice a ps.length c, .bool f] 24)).andNew hu1; have HRD := Lib.hid hrd; have HLO : Hid (w.heap.size ≤ L.lo) := (by simp at hlo; exact Nat.le_trans (Nat.le_succ _) hlo); have HHI := Lib.hid hhi; clear hu1 hrd hlo hhi K1)
  go_loopw [11, 12, 19] (fun v u i wr => ∃ (k : Nat) (st : RS) (A : AR) (ls : List (List UInt8)) (cs : List Nat), i = .int .i64 (k : Int) ∧ k ≤ n ∧ ls.length = k ∧ cs.length = k ∧ Abs st A ∧ A.left.length ≤ 20000 ∧ A.f = A0.f ∧ Both L.hi L S w wr v u ls cs st ∧ runSl d n A0 = (ls ++ (runSl d (n - k) A).1, cs ++ (runSl d (n - k) A).2)) (fun _ _ i _ => n - (intOf i).toNat)
  case atStart => exact ⟨0, _, A0, [], [], rfl, Nat.zero_le _, rfl, rfl, (by rw [HA0.out]; exact abs_fresh _ _ _), (by rw [HA0.out]; exact HL.out), rfl, ⟨HRD.out, HU1.out, OwnL.nil _ _ _, OwnI.nil _ _, HHI.out⟩, rfl⟩
  case round =>
    obtain ⟨k, st, A, ls, cs, rfl, hkn, hls, hcs, hA, hAl, hAf, hB, hrun⟩ := hrel
    have HA := Lib.hid hA
    have HB := Lib.hid hB
    have HRUN := Lib.hid hrun
    have HLS := Lib.hid hls
    have HCS := Lib.hid hcs
    have HAF := Lib.hid hAf
    have hA20 : A.left.length ≤ 20000 := hAl
    clear hA hB hrun hls hcs hAf hAl
    by_cases hlt : k < n
    · obtain ⟨X, hX⟩ : ∃ X, X = sliceA A d := ⟨_, rfl⟩
      have q := sliceA_left A d
      have qe := sliceA_err A d
      rw [← hX] at q qe
      have HX := Lib.hid hX
      have hline : X.1.1.length ≤ 20000 := Nat.le_trans q.1 hA20
      have HQ := Lib.hid q
      have hnk : n - k = (n - (k + 1)) + 1 := by omega
      have HR2 : Hid (runSl d (n - k) A = if X.1.2 = some (endErr A.f) then ([X.1.1], [ecode X.1.2]) else (X.1.1 :: (runSl d (n - (k + 1)) X.2).1, ecode X.1.2 :: (runSl d (n - (k + 1)) X.2).2)) := by
        rw [Hid, hnk, hX]; rfl
      have HQE := Lib.hid qe
      clear hX q qe hnk
      go_wp2_with (go_at_call 44; refine callRet (readSlice (HE.out.new HB.out.new) (Nat.le_trans HE.out.size HLO.out) HB.out.rd HA.out d) ?_; rw [← HX.out]; intro v2 w2 h2; obtain ⟨st2, ab, cb, rfl, hby, _, hrd2, hu2, habs, _⟩ := h2; have HB2 := Lib.hid (HB.out.reader HLO.out (Nat.le_refl _) hrd2 hu2); have HBY := Lib.hid hby; have HABS := Lib.hid habs; clear hrd2 hu2 hby habs)
      rcases HQE.out with he | he | he
      · have KC : Hid (∀ wx, Env S B wx → Calls Tryd.prog 33 #[.nilIface] wx (Ret fun v w' => wx = w' ∧ v = .int .i64 (ecode X.1.2 : Int))) := fun wx hx => by
          have := codeOf (S := S) (B := B) none wx hx
          rw [he]; exact this
        have HEV : Hid (eV S X.1.2 = .nilIface) := by rw [Hid, he]; rfl
        have HNE : Hid (¬ X.1.2 = some (endErr A.f)) := by rw [he]; intro h; cases h
        rw [HEV.out]
        clear he
        go_wp2_with (first | (go_at_call 42; refine callRet (copied _ _ _ _ HBY.out (by omega)) ?_; intro v3 w3 h3; have HB3 := Lib.hid (HB2.out.newB h3.1); have HX3 := Lib.hid (h3.elem HB2.out.hi); obtain ⟨_, g3, cp3, hv3, _⟩ := h3; subst hv3) | (at_builtin; refine wpList_plain rfl (fun K hK => ?_); obtain ⟨vs, hvl, ho1, hpe⟩ := HB3.out.ls; refine wp_append eP (.tmp 27) (.tmp 30) rfl L.hi _ _ _ rfl (ownsRow_new ho1 ((Upd.refl _ _).alloc _)) (some ⟨w3.heap.size, 0, none⟩) 1 1 [.slice (some ⟨g3, 0, none⟩) X.1.1.length cp3] rfl rfl (fun h => by cases h) box_news (by simp [Value.oneCell']) (by have := HLS.out; unfold maxLen; omega) (by have := HLS.out; omega) (Nat.le_trans HB3.out.hi ((Upd.refl (fun _ => False) _).alloc _).size) ?_; intro v4 w4 h1 h2 h3; have HB4 := Lib.hid (HB3.out.line HLO.out (Nat.le_refl _) ((Upd.refl _ _).alloc _) hvl ho1 hpe HX3.out h1 h2); refine hK _ _ ?_; clear hK K h1 h2 h3 hvl ho1 hpe) | (go_at_call 33; refine callRet (KC.out _ (HE.out.new HB4.out.new)) ?_; rintro v5 w5 ⟨rfl, rfl⟩) | (at_builtin; refine wpList_plain rfl (fun K hK => ?_); refine wp_append eI (.tmp 32) (.tmp 35) rfl L.hi _ _ _ rfl (HB4.out.newB ((Upd.refl _ _).alloc _)).cs (some ⟨w4.heap.size, 0, none⟩) 1 1 [.int .i64 (ecode X.1.2 : Int)] rfl rfl (fun h => by cases h) box_news (by simp [Value.oneCell']) (by unfold maxLen; rw [HCS.out]; omega) (by rw [HCS.out]; omega) (Nat.le_trans HB4.out.hi ((Upd.refl (fun _ => False) _).alloc _).size) ?_; intro v6 w6 h1 h2 h3; have HB6 := Lib.hid (HB4.out.code HLO.out (Nat.le_refl _) ((Upd.refl _ _).alloc _) h1 h2); refine hK _ _ ?_; clear hK K h1 h2 h3))
        go_roundw
        case rel =>
          refine ⟨k + 1, _, X.2, ls ++ [X.1.1], cs ++ [ecode X.1.2], by go_num, by omega, by rw [List.length_append, HLS.out]; rfl, by rw [List.length_append, HCS.out]; rfl, HABS.out, Nat.le_trans HQ.out.2.1 hA20, HQ.out.2.2.1.trans HAF.out, HB6.out, ?_⟩
          rw [HRUN.out, HR2.out, if_neg HNE.out]
          simp
        case measure => simp [intOf]; omega
      · have KC : Hid (∀ wx, Env S B wx → Calls Tryd.prog 33 #[.iface 124 (.pointer (some (S .full)))] wx (Ret fun v w' => wx = w' ∧ v = .int .i64 (ecode X.1.2 : Int))) := fun wx hx => by
          have := codeOf (S := S) (B := B) (some .full) wx hx
          rw [he]; exact this
        have HEV : Hid (eV S X.1.2 = .iface 124 (.pointer (some (S .full)))) := by rw [Hid, he]; rfl
        have HNE : Hid (¬ X.1.2 = some (endErr A.f)) := by rw [he]; intro h; cases hf : A.f <;> (rw [hf] at h; simp [endErr] at h)
        have HNQ : Hid (∀ wx, Env S B wx → wx.cell? ⟨0, 0, none⟩ = some (.iface 124 (.pointer (some (S .full)))) ∧ (binOp .neq 70 (.iface 124 (.pointer (some (S .full)))) (.iface 124 (.pointer (some (S .full))))).run Tryd.prog wx = .ok (.bool false) wx) := fun wx hx => ⟨(hx.g .full (by decide)).2, hx.neq .full .full⟩
        rw [HEV.out]
        clear he
        go_wp2_with (first | (go_at_call 42; refine callRet (copied _ _ _ _ HBY.out (by omega)) ?_; intro v3 w3 h3; have HB3 := Lib.hid (HB2.out.newB h3.1); have HX3 := Lib.hid (h3.elem HB2.out.hi); obtain ⟨_, g3, cp3, hv3, _⟩ := h3; subst hv3) | (at_builtin; refine wpList_plain rfl (fun K hK => ?_); obtain ⟨vs, hvl, ho1, hpe⟩ := HB3.out.ls; refine wp_append eP (.tmp 27) (.tmp 30) rfl L.hi _ _ _ rfl (ownsRow_new ho1 ((Upd.refl _ _).alloc _)) (some ⟨w3.heap.size, 0, none⟩) 1 1 [.slice (some ⟨g3, 0, none⟩) X.1.1.length cp3] rfl rfl (fun h => by cases h) box_news (by simp [Value.oneCell']) (by have := HLS.out; unfold maxLen; omega) (by have := HLS.out; omega) (Nat.le_trans HB3.out.hi ((Upd.refl (fun _ => False) _).alloc _).size) ?_; intro v4 w4 h1 h2 h3; have HB4 := Lib.hid (HB3.out.line HLO.out (Nat.le_refl _) ((Upd.refl _ _).alloc _) hvl ho1 hpe HX3.out h1 h2); refine hK _ _ ?_; clear hK K h1 h2 h3 hvl ho1 hpe) | (go_at_call 33; refine callRet (KC.out _ (HE.out.new HB4.out.new)) ?_; rintro v5 w5 ⟨rfl, rfl⟩) | (at_builtin; refine wpList_plain rfl (fun K hK => ?_); refine wp_append eI (.tmp 32) (.tmp 35) rfl L.hi _ _ _ rfl (HB4.out.newB ((Upd.refl _ _).alloc _)).cs (some ⟨w4.heap.size, 0, none⟩) 1 1 [.int .i64 (ecode X.1.2 : Int)] rfl rfl (fun h => by cases h) box_news (by simp [Value.oneCell']) (by unfold maxLen; rw [HCS.out]; omega) (by rw [HCS.out]; omega) (Nat.le_trans HB4.out.hi ((Upd.refl (fun _ => False) _).alloc _).size) ?_; intro v6 w6 h1 h2 h3; have hq6 := HNQ.out w6 (HE.out.new (HB4.out.code HLO.out (Nat.le_refl _) ((Upd.refl _ _).alloc _) h1 h2).new); have hg6 := hq6.1; have hn6 := hq6.2; clear hq6; have HB6 := Lib.hid (HB4.out.code HLO.out (Nat.le_refl _) ((Upd.refl _ _).alloc _) h1 h2); refine hK _ _ ?_; clear hK K h1 h2 h3))
        go_roundw
        case rel =>
          refine ⟨k + 1, _, X.2, ls ++ [X.1.1], cs ++ [ecode X.1.2], by go_num, by omega, by rw [List.length_append, HLS.out]; rfl, by rw [List.length_append, HCS.out]; rfl, HABS.out, Nat.le_trans HQ.out.2.1 hA20, HQ.out.2.2.1.trans HAF.out, HB6.out, ?_⟩
          rw [HRUN.out, HR2.out, if_neg HNE.out]
          simp
        case measure => simp [intOf]; omega
      · obtain ⟨et, ev, hev⟩ := endV S A.f
        have KC : Hid (∀ wx, Env S B wx → Calls Tryd.prog 33 #[.iface et ev] wx (Ret fun v w' => wx = w' ∧ v = .int .i64 (ecode X.1.2 : Int))) := fun wx hx => by
          have := codeOf (S := S) (B := B) (some (endErr A.f)) wx hx
          rw [hev] at this
          rw [he]; exact this
        have HEV : Hid (eV S X.1.2 = .iface et ev) := by rw [Hid, he]; exact hev
        have HYE : Hid (X.1.2 = some (endErr A.f)) := he
        have HNQ : Hid (∀ wx, Env S B wx → wx.cell? ⟨0, 0, none⟩ = some (.iface 124 (.pointer (some (S .full)))) ∧ (binOp .neq 70 (.iface et ev) (.iface 124 (.pointer (some (S .full))))).run Tryd.prog wx = .ok (.bool true) wx) := fun wx hx => ⟨(hx.g .full (by decide)).2, by
          have h1 := hx.neq (endErr A.f) .full
          rw [hev] at h1
          rw [decide_eq_false (by cases A.f <;> simp [endErr])] at h1
          exact h1⟩
        rw [HEV.out]
        clear he hev
        go_wp2_with (first | (go_at_call 42; refine callRet (copied _ _ _ _ HBY.out (by omega)) ?_; intro v3 w3 h3; have HB3 := Lib.hid (HB2.out.newB h3.1); have HX3 := Lib.hid (h3.elem HB2.out.hi); obtain ⟨_, g3, cp3, hv3, _⟩ := h3; subst hv3) | (at_builtin; refine wpList_plain rfl (fun K hK => ?_); obtain ⟨vs, hvl, ho1, hpe⟩ := HB3.out.ls; refine wp_append eP (.tmp 27) (.tmp 30) rfl L.hi _ _ _ rfl (ownsRow_new ho1 ((Upd.refl _ _).alloc _)) (some ⟨w3.heap.size, 0, none⟩) 1 1 [.slice (some ⟨g3, 0, none⟩) X.1.1.length cp3] rfl rfl (fun h => by cases h) box_news (by simp [Value.oneCell']) (by have := HLS.out; unfold maxLen; omega) (by have := HLS.out; omega) (Nat.le_trans HB3.out.hi ((Upd.refl (fun _ => False) _).alloc _).size) ?_; intro v4 w4 h1 h2 h3; have HB4 := Lib.hid (HB3.out.line HLO.out (Nat.le_refl _) ((Upd.refl _ _).alloc _) hvl ho1 hpe HX3.out h1 h2); refine hK _ _ ?_; clear hK K h1 h2 h3 hvl ho1 hpe) | (go_at_call 33; refine callRet (KC.out _ (HE.out.new HB4.out.new)) ?_; rintro v5 w5 ⟨rfl, rfl⟩) | (at_builtin; refine wpList_plain rfl (fun K hK => ?_); refine wp_append eI (.tmp 32) (.tmp 35) rfl L.hi _ _ _ rfl (HB4.out.newB ((Upd.refl _ _).alloc _)).cs (some ⟨w4.heap.size, 0, none⟩) 1 1 [.int .i64 (ecode X.1.2 : Int)] rfl rfl (fun h => by cases h) box_news (by simp [Value.oneCell']) (by unfold maxLen; rw [HCS.out]; omega) (by rw [HCS.out]; omega) (Nat.le_trans HB4.out.hi ((Upd.refl (fun _ => False) _).alloc _).size) ?_; intro v6 w6 h1 h2 h3; have hq6 := HNQ.out w6 (HE.out.new (HB4.out.code HLO.out (Nat.le_refl _) ((Upd.refl _ _).alloc _) h1 h2).new); have hg6 := hq6.1; have hn6 := hq6.2; clear hq6; have HB6 := Lib.hid (HB4.out.code HLO.out (Nat.le_refl _) ((Upd.refl _ _).alloc _) h1 h2); refine hK _ _ ?_; clear hK K h1 h2 h3))
        go_wp2
        go_ret2
        have hfin : runSl d n A0 = (ls ++ [X.1.1], cs ++ [ecode X.1.2]) := by rw [HRUN.out, HR2.out, if_pos HYE.out]
        rw [hfin]
        obtain ⟨a1, c1, hv1, hp⟩ := HB6.out.ls.pieces
        obtain ⟨a2, c2, hv2, hi⟩ := HB6.out.cs.ints
        exact ⟨HB6.out.new, a1, a2, c1, c2, by rw [← hv1, ← hv2]; rfl, hp, hi⟩
    · obtain rfl : k = n := by omega
      have hfin : runSl d k A0 = (ls, cs) := by rw [HRUN.out, Nat.sub_self]; simp [runSl]
      have HFIN := Lib.hid hfin
      clear hfin
      go_wp2
      go_ret2
      rw [HFIN.out]
      obtain ⟨a1, c1, hv1, hp⟩ := HB.out.ls.pieces
      obtain ⟨a2, c2, hv2, hi⟩ := HB.out.cs.ints
      exact ⟨HB.out.new, a1, a2, c1, c2, by rw [← hv1, ← hv2]; rfl, hp, hi⟩
end Go.Proofs.YtnpalkndocokkaaDoor
