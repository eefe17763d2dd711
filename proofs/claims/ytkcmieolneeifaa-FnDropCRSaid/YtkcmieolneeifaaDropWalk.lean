/- impl.DropCR and the law FnDropCR, walked. -/
import Derived.Test.YtkcmieolneeifaaDrop
namespace Go.Proofs.Ytkcmieolneeifaa
open Go.RowKit
set_option maxHeartbeats 400000 in
theorem implDropCR (a : Option Addr) (c : Nat) (bs : List UInt8) (w : World) (hb : BytesA w a c bs) (hl : bs.length ≤ 70368744177664) :
    Calls Try.prog 5 #[.slice a bs.length c] w (Ret fun v w' => NewB w w' v (dcr bs)) := by
  have hz : ∀ (a : Option Addr) (c : Nat) (bs : List UInt8) (w : World) (_ : BytesA w a c bs), Calls Try.prog 10 #[.slice a bs.length c] w (Ret fun v w' => w = w' ∧ v = .slice a (dcr bs).length c) := by
    intro a c bs w hb
    go_enter Try.func10, Try.ntmps10
    go_wp2_with (go_at_call 12; refine callRet (bufioDropCR _ _ _ _ hb) ?_; rintro v w' ⟨rfl, rfl⟩)
    go_ret
    exact ⟨rfl, rfl⟩
  go_enter Try.func5, Try.ntmps5
  go_wp2_with fail
  refine callRet (copied _ _ _ _ hb hl) ?_
  intro v w1 h1
  obtain ⟨g, cp, rfl, hg, hg', hb1⟩ := h1.bytes
  have u1 := h1.1
  clear h1
  go_wp2_with fail
  refine callRet (hz _ _ _ _ hb1) ?_
  rintro v w1 ⟨rfl, rfl⟩
  go_wp2_with fail
  refine callRet (copied _ _ _ _ hb1.dcr (by have := dcr_le bs; omega)) ?_
  intro v w2 h2
  go_wp2_with fail
  go_ret
  refine ⟨u1.trans h2.1 (fun _ h => h.elim), ?_⟩
  obtain ⟨_, g2, cp2, hv, ho⟩ := h2
  refine ⟨g2, cp2, hv, ?_⟩
  have hs := u1.size
  obtain ⟨q1, q2⟩ := ho
  refine ⟨q1, q2.imp id ?_⟩
  rintro ⟨g3, cap, cur, r1, r2, r3⟩
  exact ⟨g3, cap, cur, r1, by omega, r3⟩
end Go.Proofs.Ytkcmieolneeifaa
