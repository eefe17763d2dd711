/- The sentinel errors, and impl.codeOf. -/
import Derived.Test.YtgbbogocfmepiaaDoorLaws
import Derived.Test.YtgbbogocfmepiaaDoorProg
import Derived.LaidEql
namespace Go.Proofs.YtgbbogocfmepiaaDoor
open Go.RowKit
inductive Err where
  | eof | full | neg | nobyte | norune | noprog | long | fault
  deriving DecidableEq
/-- where the variable of an error lies -/
def Err.g : Err → Nat
  | .eof => 4
  | .full => 5
  | .neg => 6
  | .nobyte => 7
  | .norune => 8
  | .noprog => 3
  | .long => 1
  | .fault => 0
def Err.code : Err → Nat
  | .eof => 1 | .fault => 2 | .full => 3 | .neg => 4 | .nobyte => 5 | .norune => 6 | .noprog => 7 | .long => 8
def ecode : Option Err → Nat
  | none => 0
  | some e => e.code
/-- an error's value; 'S' tells where each sentinel's text lies -/
def eV (S : Err → Addr) : Option Err → Value
  | none => .nilIface
  | some .fault => .iface 106 (.agg #[])
  | some e => .iface 134 (.pointer (some (S e)))
/-- the sentinels are laid, below block 'B' -/
structure Env (S : Err → Addr) (B : Nat) (w : World) : Prop where
  size : B ≤ w.heap.size
  g : ∀ e, e ≠ .fault → e.g < B ∧ w.cell? ⟨e.g, 0, none⟩ = some (eV S (some e))
  blk : ∀ e, e ≠ .fault → (S e).block < B ∧ ∃ ca ta, w.heap[(S e).block]? = some (.cells ca ta (0, 0))
  inj : ∀ e e', e ≠ .fault → e' ≠ .fault → S e = S e' → e = e'
theorem Env.upd {S : Err → Addr} {B : Nat} {w w' : World} {M : Nat → Prop} (h : Env S B w) (u : Upd M w w') (hm : ∀ k, M k → B ≤ k) : Env S B w' :=
  ⟨Nat.le_trans h.size u.size,
   fun e he => ⟨(h.g e he).1, u.cell (h.g e he).2 (fun hh => by have h1 := hm _ hh; have h2 := (h.g e he).1; exact absurd h1 (by simpa using h2))⟩,
   fun e he => ⟨(h.blk e he).1, by
     obtain ⟨ca, ta, hc⟩ := (h.blk e he).2
     exact ⟨ca, ta, u.heap hc (fun hh => by have := hm _ hh; have := (h.blk e he).1; omega)⟩⟩,
   h.inj⟩
theorem Env.new {S : Err → Addr} {B : Nat} {w w' : World} (h : Env S B w) (u : New w w') : Env S B w' := h.upd u (fun _ hh => False.elim hh)
theorem infoES : (Tryd.prog.info? 134).map (·.comparable) = some true := by kernel_rfl
theorem infoES2 : (Tryd.prog.info? 150).map (fun i => i.size != 0) = some true := by kernel_rfl
theorem eq_same (w : World) (a : Addr) : (binOp .eql 77 (.iface 134 (.pointer (some a))) (.iface 134 (.pointer (some a)))).run Tryd.prog w = .ok (.bool true) w := by
  cases hi : Tryd.prog.info? 134 with
  | none => have := infoES; rw [hi] at this; cases this
  | some i =>
    have hc : i.comparable = true := by have := infoES; rw [hi] at this; simpa using this
    cases hj : Tryd.prog.info? 150 with
    | none => have := infoES2; rw [hj] at this; cases this
    | some j => exact run_eql_iface_ptr_same w a Tryd.underlying77 Tryd.underlying134 hi hc hj
theorem eq_other (w : World) {a b : Addr} (hne : a ≠ b) (ha : ∃ ca ta, w.heap[a.block]? = some (.cells ca ta (0, 0))) (hb : ∃ ca ta, w.heap[b.block]? = some (.cells ca ta (0, 0))) :
    (binOp .eql 77 (.iface 134 (.pointer (some a))) (.iface 134 (.pointer (some b)))).run Tryd.prog w = .ok (.bool false) w := by
  obtain ⟨ca, ta, ha⟩ := ha
  obtain ⟨cb, tb, hb⟩ := hb
  cases hi : Tryd.prog.info? 134 with
  | none => have := infoES; rw [hi] at this; cases this
  | some i =>
    have hc : i.comparable = true := by have := infoES; rw [hi] at this; simpa using this
    cases hj : Tryd.prog.info? 150 with
    | none => have := infoES2; rw [hj] at this; cases this
    | some j =>
      have hs : j.size ≠ 0 := by have := infoES2; rw [hj] at this; simpa using this
      exact run_eql_iface_ptr_other w Tryd.underlying77 Tryd.underlying134 hi hc hj hs hne ha hb
set_option maxRecDepth 100000 in
/-- two errors held against each other -/
theorem Env.eq {S : Err → Addr} {B : Nat} {w : World} (h : Env S B w) (e e' : Err) : (binOp .eql 77 (eV S (some e)) (eV S (some e'))).run Tryd.prog w = .ok (.bool (decide (e = e'))) w := by
  by_cases he : e = e'
  · subst he
    rw [decide_eq_true rfl]
    cases e <;> first | exact eq_same w _ | kernel_rfl
  · rw [decide_eq_false he]
    by_cases h1 : e = .fault
    · subst h1; cases e' <;> first | exact absurd rfl he | kernel_rfl
    · by_cases h2 : e' = .fault
      · subst h2; cases e <;> first | exact absurd rfl he | kernel_rfl
      · have := eq_other w (fun hh => he (h.inj _ _ h1 h2 hh)) (h.blk e h1).2 (h.blk e' h2).2
        cases e <;> cases e' <;> first | exact absurd rfl h1 | exact absurd rfl h2 | exact this
theorem neq_iface {P : Program} {w : World} {t tx ty : TypeId} {x y : Value} {b : Bool} (h : (binOp .eql t (.iface tx x) (.iface ty y)).run P w = .ok (.bool b) w) : (binOp .neq t (.iface tx x) (.iface ty y)).run P w = .ok (.bool (!b)) w := by
  simp only [binOp, Sem.run_bind] at h ⊢
  cases hq : (Op.equal t (.iface tx x) (.iface ty y)).run P w with
  | halt q w1 => rw [hq] at h; cases h
  | ok c w1 =>
    rw [hq] at h
    simp at h
    obtain ⟨rfl, rfl⟩ := h
    simp
/-- likewise: are they not the same -/
theorem Env.neq {S : Err → Addr} {B : Nat} {w : World} (h : Env S B w) (e e' : Err) : (binOp .neq 77 (eV S (some e)) (eV S (some e'))).run Tryd.prog w = .ok (.bool (!decide (e = e'))) w := by
  have := h.eq e e'
  cases e <;> cases e' <;> exact neq_iface this
set_option maxHeartbeats 1000000 in
theorem codeOf {S : Err → Addr} {B : Nat} (oe : Option Err) (w : World) (E : Env S B w) :
    Calls Tryd.prog 38 #[eV S oe] w (Ret fun v w' => w = w' ∧ v = .int .i64 (ecode oe : Int)) := by
  cases oe with
  | none =>
    clear E
    simp only [eV]
    go_enter Tryd.func38, Tryd.ntmps38
    go_wp2
    go_ret
    exact ⟨rfl, rfl⟩
  | some e =>
    have l1 := (E.g .eof (by decide)).2
    have l2 := (E.g .full (by decide)).2
    have l3 := (E.g .neg (by decide)).2
    have l4 := (E.g .nobyte (by decide)).2
    have l5 := (E.g .norune (by decide)).2
    have l6 := (E.g .noprog (by decide)).2
    have l7 := (E.g .long (by decide)).2
    have q1 := E.eq e .eof
    have q2 := E.eq e .fault
    have q3 := E.eq e .full
    have q4 := E.eq e .neg
    have q5 := E.eq e .nobyte
    have q6 := E.eq e .norune
    have q7 := E.eq e .noprog
    have q8 := E.eq e .long
    clear E
    cases e <;>
    · simp only [eV, Err.g, reduceCtorEq, decide_false, decide_true] at *
      go_enter Tryd.func38, Tryd.ntmps38
      go_wp2
      go_ret
      exact ⟨rfl, rfl⟩
end Go.Proofs.YtgbbogocfmepiaaDoor
