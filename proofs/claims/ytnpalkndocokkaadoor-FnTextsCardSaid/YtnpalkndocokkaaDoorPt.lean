/- ReadBytes again and again, in plain lists. -/
import Derived.Test.YtnpalkndocokkaaDoorReadBytes
import Derived.Test.YtnpalkndocokkaaDoorSpecLine
namespace Go.Proofs.YtnpalkndocokkaaDoor
open Go.RowKit
/-- up to a byte, with it, or all there is -/
def partL (d : UInt8) (f : Bool) (l : List UInt8) : List UInt8 × Option Err :=
  match pos d l with
  | some i => (l.take (i + 1), none)
  | none => (l, some (endErr f))
theorem partL_some {d : UInt8} {f : Bool} {l : List UInt8} {i : Nat} (h : pos d l = some i) : partL d f l = (l.take (i + 1), none) := by unfold partL; rw [h]
theorem partL_none {d : UInt8} {f : Bool} {l : List UInt8} (h : pos d l = none) : partL d f l = (l, some (endErr f)) := by unfold partL; rw [h]
theorem partL_le (d : UInt8) (f : Bool) (l : List UInt8) : (partL d f l).1.length ≤ l.length := by
  unfold partL; split
  · exact List.length_take_le' _ _
  · exact Nat.le_refl _
theorem frags_flat {d : UInt8} : ∀ (n : Nat) (A : AR), 1 ≤ A.size → A.left.length < n → A.err = false →
    (frags d n A).1.flatten ++ (frags d n A).2.1.1 = (partL d A.f A.left).1 ∧ (frags d n A).2.1.2 = (partL d A.f A.left).2 ∧ (frags d n A).2.2.left = A.left.drop (partL d A.f A.left).1.length ∧ (frags d n A).2.2.f = A.f ∧ (frags d n A).2.2.size = A.size ∧ (frags d n A).2.2.err = false := by
  intro n
  induction n with
  | zero => intro A _ h; omega
  | succ n ih =>
    intro A hs hl he
    unfold frags
    cases hq : pos d (A.left.take A.size) with
    | some j =>
      have hj := pos_take_some hq
      have hjl := pos_lt hj
      rw [sliceA_some hq, if_neg (by simp), partL_some hj]
      refine ⟨by simp, rfl, ?_, rfl, rfl, he⟩
      show A.left.drop (j + 1) = _
      rw [List.length_take, Nat.min_eq_left (by omega)]
    | none =>
      by_cases hlt : A.left.length < A.size
      · rw [List.take_of_length_le (by omega)] at hq
        rw [sliceA_end (by rw [List.take_of_length_le (by omega)]; exact hq) (by rw [he]; simpa using hlt), if_neg (by cases A.f <;> simp [endErr]), partL_none hq]
        exact ⟨by simp, rfl, by simp [AR.read], rfl, rfl, rfl⟩
      · have hb : (A.err || decide (A.left.length < A.size)) = false := by rw [he]; simpa using hlt
        rw [sliceA_full hq hb, if_pos rfl]
        have hdl : (A.left.drop A.size).length < n := by rw [List.length_drop]; omega
        obtain ⟨q1, q2, q3, q4, q5, q6⟩ := ih (A.read A.size) hs hdl he
        have e1 : (A.read A.size).left = A.left.drop A.size := rfl
        have e2 : (A.read A.size).f = A.f := rfl
        rw [e1, e2] at q1 q2 q3
        have htl : (A.left.take A.size).length = A.size := by rw [List.length_take]; omega
        have hp := pos_none_append (m := A.left.drop A.size) hq
        rw [List.take_append_drop, htl] at hp
        cases hr : pos d (A.left.drop A.size) with
        | some i =>
          rw [hr] at hp
          rw [partL_some hr] at q1 q2 q3
          have hil := pos_lt hr
          rw [List.length_drop] at hil
          rw [partL_some (i := i + A.size) hp]
          refine ⟨?_, q2, ?_, q4, q5, q6⟩
          · show ((A.left.take A.size :: (frags d n (A.read A.size)).1).flatten) ++ _ = _
            rw [List.flatten_cons, List.append_assoc, q1]
            show A.left.take A.size ++ (A.left.drop A.size).take (i + 1) = A.left.take (i + A.size + 1)
            rw [show i + A.size + 1 = A.size + (i + 1) by omega]
            exact List.take_add.symm
          · show (frags d n (A.read A.size)).2.2.left = _
            rw [q3, List.drop_drop, List.length_take, List.length_take, List.length_drop]
            congr 1; omega
        | none =>
          rw [hr] at hp
          rw [partL_none hr] at q1 q2 q3
          rw [partL_none hp]
          refine ⟨?_, q2, ?_, q4, q5, q6⟩
          · show ((A.left.take A.size :: (frags d n (A.read A.size)).1).flatten) ++ _ = _
            rw [List.flatten_cons, List.append_assoc, q1, List.take_append_drop]
          · show (frags d n (A.read A.size)).2.2.left = _
            rw [q3, List.drop_drop, List.length_drop]
            simp
            omega
/-- up to so many parts, up to the first error; and its code -/
def runPt (d : UInt8) (f : Bool) : Nat → List UInt8 → List (List UInt8) × Nat
  | 0, _ => ([], 0)
  | n + 1, l => if (partL d f l).2 = none then ((partL d f l).1 :: (runPt d f n (l.drop (partL d f l).1.length)).1, (runPt d f n (l.drop (partL d f l).1.length)).2) else ([(partL d f l).1], ecode (partL d f l).2)
theorem lineS_part (d : UInt8) (f : Bool) (l : List UInt8) : lineS l (l.length + 1) d (endc f) = ((partL d f l).1, ecode (partL d f l).2) := by
  unfold lineS
  rw [List.take_of_length_le (by omega)]
  unfold partL
  cases pos d l with
  | some i => rfl
  | none => simp only [if_pos (Nat.lt_succ_self _)]; rw [ecode_end]
theorem partL_err (d : UInt8) (f : Bool) (l : List UInt8) : (partL d f l).2 = none ∨ (partL d f l).2 = some (endErr f) := by
  unfold partL; split
  · exact .inl rfl
  · exact .inr rfl
end Go.Proofs.YtnpalkndocokkaaDoor
