/- impl.Peeked, impl.Discarded. -/
import Derived.Test.YtnpalkndocokkaaDoorDiscard
import Derived.Test.YtnpalkndocokkaaDoorOut
namespace Go.Proofs.YtnpalkndocokkaaDoor
open Go.RowKit
theorem abs_fresh (n : Nat) (ps : List (List UInt8)) (f : Bool) : Abs (fresh n ps f) (fresh0 n ps.flatten f) where
  left := rem_fresh n ps f
  size := by simp [fresh, fresh0]
  f := rfl
  err := rfl
  last := rfl
  rune := rfl
  pos := fun h => (by simp [fresh] at h)
  nz := fun h => (by simp [fresh] at h)
  back := fun h => (by simp [fresh] at h)
/-- bytes and a code -/
def BCPost (w : World) (x : List UInt8 × Option Err) (v : Value) (w' : World) : Prop := New w w' ∧ ∃ b, v = .tuple #[b, .int .i64 (ecode x.2 : Int)] ∧ BytesAt w' b x.1
def NCPost (w : World) (x : Int × Option Err) (v : Value) (w' : World) : Prop := New w w' ∧ v = .tuple #[.int .i64 x.1, .int .i64 (ecode x.2 : Int)]
theorem peekA_le (A : AR) (n : Int) : (peekA A n).1.1.length ≤ A.left.length := by
  unfold peekA
  split
  · exact Nat.zero_le _
  · split
    · exact List.length_take_le' _ _
    · split
      · exact Nat.le_refl _
      · exact List.length_take_le' _ _
set_option maxRecDepth 100000 in
set_option maxHeartbeats 1000000 in
theorem implPeeked {S : Err → Addr} {B : Nat} {w : World} {sz : Nat} {n : Int} {a : Option Addr} {c : Nat} {ps : List (List UInt8)} (f : Bool) (E : Env S B w) (h : PiecesA w a c ps) (hl : ps.flatten.length ≤ 20000) (hn : ps.length ≤ 500) (hsz : sz ≤ 5000) (hne : nones ps ≤ 50) (hn1 : -65536 ≤ n) (hn2 : n ≤ 65536) :
    Calls Tryd.prog 17 #[.agg #[.slice a ps.length c, .bool f], .int .i64 (sz : Int), .int .i64 n] w (Ret (BCPost w (peekA (fresh0 (max sz 16) ps.flatten f) n).1)) := by
  have K1 := Lib.hid (over (S := S) f (h.new ((Upd.refl _ _).alloc (.cells #[.slice a ps.length c, .bool f] 24))) hl hn hsz hne)
  have HE := Lib.hid E
  have HL := Lib.hid hl
  have h2 := h.2.1
  unfold maxLen at h2
  obtain ⟨X, hX⟩ : ∃ X, X = peekA (fresh0 (max sz 16) ps.flatten f) n := ⟨_, rfl⟩
  have HXL : Hid (X.1.1.length ≤ 70368744177664) := by
    rw [hX]
    exact Nat.le_trans (peekA_le _ _) (Nat.le_trans hl (by omega))
  rw [← hX]
  have HX := Lib.hid hX
  clear h E hl hX
  go_enter Tryd.func17, Tryd.ntmps17
  go_wp2_with (first | (go_at_call 31; refine callRet K1.out ?_; intro v w1 h1; obtain ⟨hu1, L, rfl, hlo, hhi, hrd⟩ := h1; have HU1 : Hid (New w w1) := ((Upd.refl _ w).alloc (.cells #[.slice a ps.length c, .bool f] 24)).andNew hu1; have HRD := Lib.hid hrd; have HLO : Hid (w.heap.size ≤ L.lo) := (by simp at hlo; exact Nat.le_trans (Nat.le_succ _) hlo); clear hu1 hrd hlo hhi K1) | (go_at_call 41; refine callRet (peek (HE.out.new HU1.out) (Nat.le_trans HE.out.size HLO.out) HRD.out (abs_fresh _ _ _) n hn1 (by omega)) ?_; rw [← HX.out]; intro v w2 h2; obtain ⟨st2, ab, cb, rfl, hby, _, _, hu2, _⟩ := h2; have HU2 := Lib.hid (Upd.inNew HU1.out hu2 HLO.out); have HBY := Lib.hid hby; clear hby hu2) | (go_at_call 42; refine callRet (copied _ _ _ _ HBY.out HXL.out) ?_; intro v w3 h3; have HN3 := Lib.hid h3; clear h3) | (go_at_call 33; refine callRet (codeOf X.1.2 _ (HE.out.new (HU2.out.andNew HN3.out.1))) ?_; rintro v w4 ⟨rfl, rfl⟩))
  go_ret2
  refine ⟨HU2.out.andNew HN3.out.1, _, rfl, ?_⟩
  obtain ⟨g, cp, hv, _, _, hb⟩ := HN3.out.bytes
  exact ⟨_, _, hv, hb⟩
set_option maxRecDepth 100000 in
set_option maxHeartbeats 1000000 in
theorem implDiscarded {S : Err → Addr} {B : Nat} {w : World} {sz : Nat} {n : Int} {a : Option Addr} {c : Nat} {ps : List (List UInt8)} (f : Bool) (E : Env S B w) (h : PiecesA w a c ps) (hl : ps.flatten.length ≤ 20000) (hn : ps.length ≤ 500) (hsz : sz ≤ 5000) (hne : nones ps ≤ 50) (hn1 : -65536 ≤ n) (hn2 : n ≤ 65536) :
    Calls Tryd.prog 18 #[.agg #[.slice a ps.length c, .bool f], .int .i64 (sz : Int), .int .i64 n] w (Ret (NCPost w (discardA (fresh0 (max sz 16) ps.flatten f) n).1)) := by
  have K1 := Lib.hid (over (S := S) f (h.new ((Upd.refl _ _).alloc (.cells #[.slice a ps.length c, .bool f] 24))) hl hn hsz hne)
  have HE := Lib.hid E
  have h2 := h.2.1
  unfold maxLen at h2
  obtain ⟨X, hX⟩ : ∃ X, X = discardA (fresh0 (max sz 16) ps.flatten f) n := ⟨_, rfl⟩
  rw [← hX]
  have HX := Lib.hid hX
  clear h E hl hX
  go_enter Tryd.func18, Tryd.ntmps18
  go_wp2_with (first | (go_at_call 31; refine callRet K1.out ?_; intro v w1 h1; obtain ⟨hu1, L, rfl, hlo, hhi, hrd⟩ := h1; have HU1 : Hid (New w w1) := ((Upd.refl _ w).alloc (.cells #[.slice a ps.length c, .bool f] 24)).andNew hu1; have HRD := Lib.hid hrd; have HLO : Hid (w.heap.size ≤ L.lo) := (by simp at hlo; exact Nat.le_trans (Nat.le_succ _) hlo); clear hu1 hrd hlo hhi K1) | (go_at_call 43; refine callRet (discard (HE.out.new HU1.out) (Nat.le_trans HE.out.size HLO.out) HRD.out (abs_fresh _ _ _) n (by omega) (by omega)) ?_; rw [← HX.out]; intro v w2 h2; obtain ⟨st2, rfl, _, hu2, _⟩ := h2; have HU2 := Lib.hid (Upd.inNew HU1.out hu2 HLO.out); clear hu2) | (go_at_call 33; refine callRet (codeOf X.1.2 _ (HE.out.new HU2.out)) ?_; rintro v w4 ⟨rfl, rfl⟩))
  go_ret2
  exact ⟨HU2.out, rfl⟩
end Go.Proofs.YtnpalkndocokkaaDoor
