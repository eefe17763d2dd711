/- The code answers as the law FnFails says: 'Rows.FnFailsCardSaid'. -/
import Derived.Test.YtgbbogocfmepiaaDoorFnFailsWalk
import Derived.Test.YtgbbogocfmepiaaDoorOpenA
import Derived.Test.YtgbbogocfmepiaaDoorOpenP
import Derived.Test.YtgbbogocfmepiaaDoorCards
import Derived.Test.YtgbbogocfmepiaaDoorTie
import Derived.ProofKit
import Derived.OpenShut
import Derived.LaidMore
import Derived.Deep.DeepHandedRow
import Derived.Deep.DeepWitnessRowRef
namespace Go.Proofs.YtgbbogocfmepiaaDoor.fnFails
open Go.ChangeShapes Go.WideShapes Go.ChangeAt Go.RowKit
theorem own : ownKnob Tryd.prog.godebug = none := by kernel_rfl
theorem listN {α : Type} {l : List α} (h : l.length = 5) : ∃ g1 g2 g3 g4 g5, l = [g1, g2, g3, g4, g5] := by
  match l, h with
  | [g1, g2, g3, g4, g5], _ => exact ⟨g1, g2, g3, g4, g5, rfl⟩
theorem sent (e : Err) (he : e ≠ .fault) : (e.name, errD e.text) ∈ Rows.fnFailsRow.laid := by
  cases e
  · exact List.mem_of_getElem? (i := 1) (by kernel_rfl)
  · exact List.mem_of_getElem? (i := 5) (by kernel_rfl)
  · exact List.mem_of_getElem? (i := 6) (by kernel_rfl)
  · exact List.mem_of_getElem? (i := 3) (by kernel_rfl)
  · exact List.mem_of_getElem? (i := 4) (by kernel_rfl)
  · exact List.mem_of_getElem? (i := 2) (by kernel_rfl)
  · exact List.mem_of_getElem? (i := 7) (by kernel_rfl)
  · exact absurd rfl he
set_option maxRecDepth 100000 in
theorem contract (H : Type) (enc : TypeId × Value → H) (W : World) (base : Nat) (args : Array Value) (ds gs : List (DataW H)) (before : List MemPlace)
    (hval0 : ∀ (j : Nat) t v, Tryd.f5.params[j]? = some t → args[j]? = some v → Value.okWide Tryd.prog W .any base t v)
    (hW : DataW.Whole enc Tryd.prog Tryd.f5.params.toList Rows.fnFailsSpec.vars false W args.toList ds gs before) (hL : laidMetH Tryd.prog Rows.fnFailsRow.laid W) :
    Calls Tryd.prog 5 args W fun e W' => ∃ v, e = .returned v ∧ Rows.fnFailsSpec.post enc Tryd.prog Tryd.f5 false true false false W args v W' := by
  have hval : ∀ (j : Nat) t v, Tryd.f5.params[j]? = some t → args[j]? = some v → Value.okWide Tryd.prog W .any base t v := hval0
  have hW' := hW
  obtain ⟨p, q, hA0, hV0, rfl, hfz, hnd⟩ := hW
  have hA : DataW.TrodAll enc Tryd.prog W 0 (fun _ => true) true Tryd.f5.params.toList args.toList ds p := hA0
  have hV : DataW.TrodVars enc Tryd.prog W (fun _ => true) Rows.fnFailsSpec.vars gs q := hV0
  rw [Tryd.params5] at hA hval
  obtain ⟨v0, vs0, d0, ds0, p0, q0, hargs, rfl, rfl, h0, r0⟩ := trodAll_cons hA
  obtain ⟨v1, vs1, d1, ds1, p1, q1, hargs1, rfl, rfl, h1, r1⟩ := trodAll_cons r0
  obtain ⟨v2, vs2, d2, ds2, p2, q2, hargs2, rfl, rfl, h2, r2⟩ := trodAll_cons r1
  obtain ⟨rfl, rfl, rfl⟩ := trodAll_nil r2
  obtain rfl : args = #[v0, v1, v2] := by cases args; simp_all
  obtain ⟨g1, g2, g3, g4, g5, rfl⟩ := listN (trodVars_len hV)
  obtain ⟨size, rfl, rfl, rfl, hw0⟩ := open_int Tryd.underlying27 (hval 0 _ _ rfl rfl) h0
  have hb0 : -32768 ≤ size ∧ size ≤ 32767 := by simpa [Lit.wf, IntKind.min, IntKind.max, IntKind.signed, IntKind.bits] using hw0
  obtain ⟨room, rfl, rfl, rfl, hw1⟩ := open_int Tryd.underlying36 (hval 1 _ _ rfl rfl) h1
  have hb1 : 0 ≤ room ∧ room ≤ 65535 := by simpa [Lit.wf, IntKind.min, IntKind.max, IntKind.signed, IntKind.bits] using hw1
  have k2 := h2
  have lt2 : ∀ x ∈ p2, x.block < W.heap.size := by obtain ⟨m, hm⟩ := k2; exact DataW.trod_lt m _ _ _ hm
  obtain ⟨putsa, putsc, puts, rfl, hputsS, hputs64⟩ := open_puts (hval 2 _ _ rfl rfl) h2
  obtain ⟨S, E⟩ := env_of_laid (by kernel_rfl) sent hL
  obtain ⟨roomN, rfl⟩ := Int.eq_ofNat_of_zero_le hb1.1
  refine (walk E size roomN (by omega) putsa putsc puts hputsS).mono fun e W' he => ?_
  cases e with
  | panicked c => exact he.elim
  | outgrown => exact he.elim
  | returned v =>
    obtain ⟨rfl, hnew⟩ := he
    have bel : Below W.heap.size W W' := hnew.below0
    exact ⟨_, rfl, _, _, _, [], _, q, hW', trodAll_mk1 (shut_bool Tryd.underlying4 _), (trodAll_cons_mk (shut_int Tryd.underlying27 hw0) (trodAll_cons_mk (shut_int Tryd.underlying36 hw1) (trodAll_cons_mk (Below.trod laidOut (by kernel_rfl) (of_decide_eq_true (by kernel_rfl)) k2 bel lt2) trodAll_mk0))), varsStay bel (by kernel_rfl) hV, bel.frame _, fun h => by cases h⟩
/-- A WORLD FOR THE WITNESS: what the door's own run leaves. -/
theorem laid_met (os : Os) : laidMetH Tryd.prog Rows.fnFailsRow.laid ((World.doorLaid Tryd.prog 252 os).forCall (fun _ _ => 0) ⟨#[], #[.int .i16 0, .int .u16 0, .slice none 0 0], []⟩).memory := by
  rw [MakeChecks.laidMetH_plain _ _ _ (by kernel_rfl)]
  exact laidMet_of_run' 8 (by kernel_rfl) (by kernel_rfl)
theorem reads (os : Os) {H : Type} (enc : TypeId × Value → H) : ∃ x, DataW.whole enc Tryd.prog ((World.doorLaid Tryd.prog 252 os).forCall (fun _ _ => 0) ⟨#[], #[.int .i16 0, .int .u16 0, .slice none 0 0], []⟩).memory Tryd.f5.params.toList Rows.fnFailsSpec.vars false #[.int .i16 0, .int .u16 0, .slice none 0 0].toList 8 = some x :=
  Option.isSome_iff_exists.1 (by kernel_rfl)
set_option maxRecDepth 100000 in
theorem lifted (os : Os) (started : os.Started) (H : Type) (enc : TypeId × Value → H) (F : Stop.Interp) :
    ReturnsInHanded {} Tryd.checked os 5 .any ((OpenSpec.ofChange Rows.fnFailsSpec).preRow enc Tryd.prog Tryd.f5 Rows.fnFailsRow.domain false Rows.fnFailsRow.laid) (((OpenSpec.ofChange Rows.fnFailsSpec).at F).post enc Tryd.prog Tryd.f5 false true false false) := by
  obtain ⟨x, hx⟩ := reads os enc
  refine returnsInHanded_of_row (C := Tryd.checked) (s := OpenSpec.ofChange Rows.fnFailsSpec) own started (by kernel_rfl) Tryd.func5
    (witness_row_atRef (enc := enc) (C := Tryd.checked) false (World.doorLaid Tryd.prog 252 os) #[.int .i16 0, .int .u16 0, .slice none 0 0] rfl (by kernel_rfl) (by kernel_rfl) (by kernel_rfl)
      (OpenSpec.preRow_of_cond 8 hx rfl (fun k hk => by cases hk) (by kernel_rfl) (laid_met os))) ?_
  intro W base args ds gs before hval hW _ _ _ hL _ _
  exact contract H enc W base args ds gs before hval hW hL
theorem said : Rows.FnFailsSaid :=
  OpenClaim.holds_of_cond 5 Tryd.f5 rfl rfl rfl rfl rfl rfl rfl ⟨rfl, rfl, rfl, rfl, rfl⟩ rfl rfl rfl rfl rfl (by kernel_rfl) Tryd.func5 (by kernel_rfl)
    (of_decide_eq_true (by kernel_rfl)) (by unfold Func.isWrapper; first | (rw [if_pos (by decide +kernel)]; kernel_rfl) | (rw [if_neg (by decide +kernel)]; exact ⟨rfl, rfl⟩))
    (fun os started H enc _ F => by rw [OpenClaim.pre_eq_preRow]; exact lifted os started H enc F)
theorem plain (f : FuncId) (fn : Func) (hf : Tryd.pinned.checked.prog.funcNamed "loop.example/pub-g03135/laws.FnFails" = some f) (hfn : Tryd.pinned.checked.prog.funcs[f]? = some fn) :
    true = Tryd.pinned.checked.prog.looks [] ∧ ∀ (j : Nat) t, fn.params[j]? = some t → Tryd.pinned.checked.prog.wantsStandIn t = false := by
  obtain rfl : f = 5 := Option.some.inj ((show Tryd.prog.funcNamed "loop.example/pub-g03135/laws.FnFails" = some 5 by kernel_rfl).symm.trans hf) |>.symm
  obtain rfl : fn = Tryd.f5 := (Option.some.inj (Tryd.func5.symm.trans hfn)).symm
  refine ⟨by kernel_rfl, fun j t ht => ?_⟩
  have hall : (Tryd.f5.params.all fun t => !Tryd.prog.wantsStandIn t) = true := by kernel_rfl
  have := Array.all_eq_true'.1 hall t (Array.mem_of_getElem? ht)
  exact (Bool.not_eq_true' _).mp this
/-- THE STATEMENT -/
theorem proved : Rows.FnFailsCardSaid :=
  Claim7.holds_tied_plain_at .later [] _ _ _ _ said (fun _ h => by cases h) (by kernel_rfl) (fun _ h => by cases h) fnFails_row_tie rfl ⟨rfl, rfl⟩ (by kernel_rfl) rfl plain (by kernel_rfl)
end Go.Proofs.YtgbbogocfmepiaaDoor.fnFails
