/- ReadSlice again and again against the specification's reader, in plain lists. -/
import Derived.Test.YtnpalkndocokkaaDoorImplSl
import Derived.Test.YtnpalkndocokkaaDoorSpecLn
namespace Go.Proofs.YtnpalkndocokkaaDoor
open Go.RowKit
/-- what the law FnSlices gathers from the specification's reader -/
def specSl (d : UInt8) : Nat → SR → List (List UInt8) × List Nat
  | 0, _ => ([], [])
  | n + 1, s => if (s.line 7 d).1.code ≠ 0 ∧ (s.line 7 d).1.code ≠ 3 then ([(s.line 7 d).1.bytes], [(s.line 7 d).1.code]) else ((s.line 7 d).1.bytes :: (specSl d n (s.line 7 d).2).1, (s.line 7 d).1.code :: (specSl d n (s.line 7 d).2).2)
theorem sliceA_line {A : AR} {s : SR} (d : UInt8) (h1 : s.left = A.left) (h2 : s.size = A.size) (h3 : s.endc = endc A.f) (h4 : A.err = false) :
    (sliceA A d).1.1 = (s.line 7 d).1.bytes ∧ ecode (sliceA A d).1.2 = (s.line 7 d).1.code ∧ (s.line 7 d).2.left = (sliceA A d).2.left ∧ (s.line 7 d).2.size = (sliceA A d).2.size ∧ (s.line 7 d).2.endc = endc (sliceA A d).2.f ∧ (sliceA A d).2.err = false := by
  have e : s.line 7 d = (⟨(lineS s.left s.size d s.endc).1, 0, 0, false, (lineS s.left s.size d s.endc).2⟩, s.take (lineS s.left s.size d s.endc).1.length true) := rfl
  rw [e, h1, h2, h3]
  have hlv : ∀ k, (s.take k true).left = A.left.drop k := fun k => by rw [← h1]; rfl
  unfold lineS
  cases hp : pos d (A.left.take A.size) with
  | some i =>
    have hi := pos_lt (pos_take_some hp)
    rw [sliceA_some hp]
    refine ⟨rfl, rfl, ?_, h2, h3, h4⟩
    rw [hlv, List.length_take, Nat.min_eq_left (by omega)]
    rfl
  | none =>
    by_cases hlt : A.left.length < A.size
    · rw [sliceA_end hp (by rw [h4]; simpa using hlt)]
      simp only [if_pos hlt]
      refine ⟨(by first | trivial | rfl), (by first | trivial | exact ecode_end _), ?_, h2, h3, (by first | trivial | rfl)⟩
      rw [hlv]; rfl
    · rw [sliceA_full hp (by rw [h4]; simpa using hlt)]
      simp only [if_neg hlt]
      refine ⟨(by first | trivial | rfl), (by first | trivial | rfl), ?_, h2, h3, h4⟩
      rw [hlv, List.length_take, Nat.min_eq_left (by omega)]
      rfl
theorem runSl_spec (d : UInt8) : ∀ (n : Nat) (A : AR) (s : SR), s.left = A.left → s.size = A.size → s.endc = endc A.f → A.err = false → runSl d n A = specSl d n s := by
  intro n
  induction n with
  | zero => intros; rfl
  | succ n ih =>
    intro A s h1 h2 h3 h4
    obtain ⟨q1, q2, q3, q4, q5, q6⟩ := sliceA_line d h1 h2 h3 h4
    have hi := ih (sliceA A d).2 (s.line 7 d).2 q3 q4 q5 q6
    have hc : ((sliceA A d).1.2 = some (endErr A.f)) ↔ ((s.line 7 d).1.code ≠ 0 ∧ (s.line 7 d).1.code ≠ 3) := by
      rw [← q2]
      rcases sliceA_err A d with h | h | h <;> rw [h]
      · simp [ecode]
      · cases A.f <;> simp [ecode, endErr, Err.code]
      · cases A.f <;> simp [ecode, endErr, Err.code]
    unfold runSl specSl
    by_cases h : (sliceA A d).1.2 = some (endErr A.f)
    · rw [if_pos h, if_pos (hc.1 h), q1, q2]
    · rw [if_neg h, if_neg (fun hh => h (hc.2 hh)), q1, q2, hi]
end Go.Proofs.YtnpalkndocokkaaDoor
