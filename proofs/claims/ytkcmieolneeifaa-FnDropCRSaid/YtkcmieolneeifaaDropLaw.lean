/- impl.DropCR answers as spec.DropCR does, at every list of bytes: 'Rows.FnDropCRSaid'. No condition. -/
import Derived.Test.YtkcmieolneeifaaDropWalk
import Derived.Test.YtkcmieolneeifaaRows
import Derived.Test.YtkcmieolneeifaaOpen
import Derived.ProofKit
import Derived.OpenShut
namespace Go.Proofs.Ytkcmieolneeifaa.fnDropCR
open Go.ChangeShapes Go.WideShapes Go.ChangeAt Go.RowKit
theorem own : ownKnob Try.prog.godebug = none := by kernel_rfl
theorem laidOut : laidOutB Try.prog = true := by kernel_rfl
set_option maxHeartbeats 400000 in
theorem walk (a : Option Addr) (c : Nat) (bs : List UInt8) (w : World) (hb : BytesA w a c bs) :
    Calls Try.prog 3 #[.slice a bs.length c] w (Ret fun v w' => v = .bool true ∧ Below w.heap.size w w') := by
  have h1 := hb.1
  have h2 := hb.2.1
  unfold maxLen at h2
  by_cases hbig : 2147483647 < bs.length
  · clear hb
    go_enter Try.func3, Try.ntmps3
    go_wp2
    go_ret
    exact ⟨rfl, Below.refl _ _⟩
  by_cases hmid : 1048576 < bs.length
  · clear hb
    have hd : decide ((1048576 : Int) < (bs.length : Int)) = true := decide_eq_true (by omega)
    go_enter Try.func3, Try.ntmps3
    go_wp2
    refine wp_region_lx [14] (by kernel_rfl) (by kernel_rfl) ⟨fun _ _ _ h => h.2, fun _ _ h => h⟩ ?_
    repeat (first | (refine wpLx_calm rfl rfl (fun K hK => ?_); go_step; refine hK _ ?_; clear hK K) | refine wpLx_skip rfl ?_)
    refine wpLx_nil ?_
    go_wp2
    go_ret
    exact ⟨rfl, (Below.refl _ _).drew⟩
  · have hd : decide ((1048576 : Int) < (bs.length : Int)) = false := decide_eq_false (by omega)
    go_enter Try.func3, Try.ntmps3
    go_wp2
    refine wp_region_lx [14] (by kernel_rfl) (by kernel_rfl) ⟨fun _ _ _ h => h.2, fun _ _ h => h⟩ ?_
    repeat (first | (refine wpLx_calm rfl rfl (fun K hK => ?_); go_step; refine hK _ ?_; clear hK K) | (refine wpLx_calm' rfl rfl (fun K hK => ?_); go_step; refine hK _ ?_; clear hK K))
    refine wpLx_eff' rfl rfl (fun K hK => ?_)
    go_step
    refine callRet (implDropCR _ _ _ _ (hb.new (Upd.refl _ _).drew) (by omega)) ?_
    intro v w1 hv
    refine hK _ _ ?_
    clear hK K
    obtain ⟨g, cp, rfl, _, _, hb1⟩ := hv.bytes
    refine wpLx_calm' rfl rfl (fun K hK => ?_)
    refine wp_str Try.underlying22 Try.underlying5 Try.underlying9 _ rfl rfl hb1 ?_
    refine hK _ ?_
    clear hK K
    refine wpLx_calm' rfl rfl (fun K hK => ?_); go_step; refine hK _ ?_; clear hK K
    have hb2 : BytesA w1 a c bs := hb.new ((Upd.refl _ _).drew.andNew hv.1)
    refine wpLx_call' rfl rfl (specDropCR _ _ _ _ hb2) (by kernel_rfl) ?_
    refine wpLx_calm' rfl rfl (fun K hK => ?_)
    refine wp_str Try.underlying22 Try.underlying5 Try.underlying9 _ rfl rfl hb2.dcr ?_
    refine hK _ ?_
    clear hK K
    repeat (first | (refine wpLx_calm' rfl rfl (fun K hK => ?_); go_step; refine hK _ ?_; clear hK K) | (refine wpLx_calm rfl rfl (fun K hK => ?_); go_step; refine hK _ ?_; clear hK K))
    refine wpLx_nil ?_
    go_wp2
    go_ret
    refine ⟨by simp, ?_⟩
    exact ((Upd.refl _ _).drew.andNew hv.1).below0

set_option maxRecDepth 100000 in
theorem lifted (os : Os) (started : os.Started) (H : Type) (enc : TypeId × Value → H) :
    ReturnsInHanded {} Try.checked os 3 .any (Rows.fnDropCRSpec.pre6 enc Try.prog Try.f3 Rows.fnDropCRRow.domain false) (Rows.fnDropCRSpec.post enc Try.prog Try.f3 false true false false) := by
  refine returnsInHanded_of_change (C := Try.checked) own started (by kernel_rfl) Try.func3
    (ChangeSpec.witness6 (enc := enc) (C := Try.checked) false ⟨#[], #[.slice none 0 0], []⟩ 8 (by kernel_rfl) (by kernel_rfl) (by kernel_rfl) (by kernel_rfl)) ?_
  intro W base args ds gs before hval0 hW hcnd _
  have hval : ∀ (j : Nat) t v, Try.f3.params[j]? = some t → args[j]? = some v → Value.okWide Try.prog W .any base t v := hval0
  have hW' := hW
  obtain ⟨p, q, hA0, hV, rfl, hfz, hnd⟩ := hW
  have hA : DataW.TrodAll enc Try.prog W 0 (fun _ => true) true Try.f3.params.toList args.toList ds p := hA0
  rw [Try.params3] at hA hval
  obtain ⟨v0, vs0, d0, ds0, p0, q0, hargs, rfl, rfl, h0, r0⟩ := trodAll_cons hA
  obtain ⟨rfl, rfl, rfl⟩ := trodAll_nil r0
  obtain rfl : args = #[v0] := by cases args; simp_all
  obtain ⟨rfl, rfl⟩ := trodVars_none hV
  have k0 := h0
  have lt0 : ∀ x ∈ p0, x.block < W.heap.size := by obtain ⟨m, hm⟩ := k0; exact DataW.trod_lt m _ _ _ hm
  obtain ⟨bs, hb⟩ := open_bytes Try.underlying22 Try.underlying5 (by kernel_rfl) (hval 0 22 v0 rfl rfl) h0
  clear hA0 hval0
  obtain ⟨a, c, rfl, hb⟩ := hb
  refine (walk a c bs W hb).mono fun e W' he => ?_
  cases e with
  | panicked c => exact he.elim
  | outgrown => exact he.elim
  | returned v =>
    obtain ⟨rfl, bel⟩ := he
    exact ⟨_, rfl, _, _, _, [], _, [], hW', trodAll_mk1 (shut_bool Try.underlying4 _), (trodAll_cons_mk (Below.trod laidOut (by kernel_rfl) (of_decide_eq_true (by kernel_rfl)) k0 bel lt0) trodAll_mk0), rfl, bel.frame _, fun h => by cases h⟩

theorem over : Rows.fnDropCRRow.holds Try.pinned (OpenSpec.ofChange Rows.fnDropCRSpec) :=
  OpenClaim.holds_of_wide 3 Try.f3 rfl rfl rfl rfl rfl rfl rfl ⟨rfl, rfl, rfl, rfl, rfl⟩ rfl rfl rfl rfl rfl (by kernel_rfl) Try.func3 (by kernel_rfl)
    (of_decide_eq_true (by kernel_rfl)) (by unfold Func.isWrapper; first | (rw [if_pos (by decide +kernel)]; kernel_rfl) | (rw [if_neg (by decide +kernel)]; exact ⟨rfl, rfl⟩))
    (fun os started H enc _ => lifted os started H enc)
/-- THE STATEMENT -/
theorem proved : Rows.FnDropCRSaid := over
end Go.Proofs.Ytkcmieolneeifaa.fnDropCR
