/- ReadLine again and again against the specification's reader, in plain lists. -/
import Derived.Test.YtnpalkndocokkaaDoorImplLn
import Derived.Test.YtnpalkndocokkaaDoorSlPure
import Derived.Test.YtnpalkndocokkaaDoorSpecL8
namespace Go.Proofs.YtnpalkndocokkaaDoor
open Go.RowKit
theorem ecode_full (A : AR) (d : UInt8) : ecode (sliceA A d).1.2 = 3 ↔ (sliceA A d).1.2 = some .full := by
  rcases sliceA_err A d with h | h | h <;> rw [h]
  · simp [ecode]
  · simp [ecode, Err.code]
  · cases A.f <;> simp [ecode, endErr, Err.code]
theorem drop_pred {l : List UInt8} {m : Nat} {x : UInt8} (h : l[m - 1]? = some x) (h0 : 0 < m) : l.drop (m - 1) = x :: l.drop m := by
  obtain ⟨hlt, h⟩ := List.getElem?_eq_some_iff.1 h
  rw [List.drop_eq_getElem_cons hlt, h, show m - 1 + 1 = m by omega]
/-- one step of both -/
theorem lineA_line {A : AR} {s : SR} (d : UInt8) (h1 : s.left = A.left) (h2 : s.size = A.size) (h3 : s.endc = endc A.f) (h4 : A.err = false) (hs : ∃ pre, s.all = pre ++ s.left) (hz : 0 < A.size) :
    ((lineA A).1.1.1 = (s.line 8 d).1.bytes ∧ (lineA A).1.1.2 = (s.line 8 d).1.flag ∧ ecode (lineA A).1.2 = (s.line 8 d).1.code) ∧ (s.line 8 d).2.left = (lineA A).2.left ∧ (s.line 8 d).2.size = (lineA A).2.size ∧ (s.line 8 d).2.endc = endc (lineA A).2.f ∧ (lineA A).2.err = false ∧
      (∃ pre, (s.line 8 d).2.all = pre ++ (s.line 8 d).2.left) ∧ ((lineA A).1.2 = some (endErr A.f) ↔ (s.line 8 d).1.code ≠ 0) := by
  obtain ⟨q1, q2, q3, q4, q5, q6⟩ := sliceA_line 10 h1 h2 h3 h4
  have e7 : s.line 7 10 = (⟨(lineS s.left s.size 10 s.endc).1, 0, 0, false, (lineS s.left s.size 10 s.endc).2⟩, s.take (lineS s.left s.size 10 s.endc).1.length true) := rfl
  obtain ⟨x, hx⟩ : ∃ x, x = lineS s.left s.size 10 s.endc := ⟨_, rfl⟩
  have e8 : s.line 8 d = if x.2 = 3 then
      if x.1[x.1.length - 1]? = some 13 then (⟨x.1.take (x.1.length - 1), 0, 0, true, 0⟩, { (s.take x.1.length true).back 1 with op := true }) else (⟨x.1, 0, 0, true, 0⟩, { s.take x.1.length true with op := true })
    else (⟨x.1.take (cutN x.1), 0, 0, false, if 0 < x.1.length then 0 else x.2⟩, s.take x.1.length true) := by rw [hx]; rfl
  have hxt : x.1 = s.left.take x.1.length := by rw [hx]; exact lineS_take _ _ _ _
  have hxl : x.1.length ≤ s.left.length := by rw [hx]; exact lineS_le _ _ _ _
  rw [e7, ← hx] at q1 q2 q3 q4 q5
  have q1 : (sliceA A 10).1.1 = x.1 := q1
  have q2 : ecode (sliceA A 10).1.2 = x.2 := q2
  have q3 : s.left.drop x.1.length = (sliceA A 10).2.left := q3
  have hsuf : ∃ pre, s.all = pre ++ s.left.drop x.1.length := by
    obtain ⟨pre, hp⟩ := hs
    exact ⟨pre ++ s.left.take x.1.length, by rw [hp, List.append_assoc, List.take_append_drop]⟩
  by_cases hf : (sliceA A 10).1.2 = some .full
  · have hx3 : x.2 = 3 := by rw [← q2]; exact (ecode_full A 10).2 hf
    have hlen : 0 < x.1.length := by
      rw [← q1, sliceA_full_len hf]; exact hz
    by_cases h13 : x.1[x.1.length - 1]? = some 13
    · have eA : lineA A = (((x.1.take (x.1.length - 1), true), none), { (sliceA A 10).2 with left := 13 :: (sliceA A 10).2.left }) := by
        unfold lineA; rw [if_pos hf, q1, if_pos h13]
      have eS : s.line 8 d = (⟨x.1.take (x.1.length - 1), 0, 0, true, 0⟩, { (s.take x.1.length true).back 1 with op := true }) := by rw [e8, if_pos hx3, if_pos h13]
      have hl13 : s.left[x.1.length - 1]? = some 13 := by
        rw [hxt, List.getElem?_take_of_lt (by rw [List.length_take]; omega)] at h13
        rw [List.length_take, Nat.min_eq_left hxl] at h13
        exact h13
      have hleft : ((s.take x.1.length true).back 1).left = 13 :: (sliceA A 10).2.left := by
        show s.all.drop (s.all.length - (s.left.drop x.1.length).length - 1) = _
        obtain ⟨pre, hp⟩ := hs
        rw [← q3, hp, List.length_append, List.length_drop]
        rw [show pre.length + s.left.length - (s.left.length - x.1.length) - 1 = pre.length + (x.1.length - 1) by omega, List.drop_append, List.drop_eq_nil_of_le (by omega), List.nil_append, show pre.length + (x.1.length - 1) - pre.length = x.1.length - 1 by omega]
        exact drop_pred hl13 hlen
      rw [eA, eS]
      refine ⟨⟨rfl, rfl, rfl⟩, hleft, q4, q5, q6, ?_, ⟨fun h => (by cases h), fun h => absurd rfl h⟩⟩
      show ∃ pre, s.all = pre ++ s.all.drop (s.all.length - (s.left.drop x.1.length).length - 1)
      exact ⟨_, (List.take_append_drop _ _).symm⟩
    · have eA : lineA A = (((x.1, true), none), (sliceA A 10).2) := by unfold lineA; rw [if_pos hf, q1, if_neg h13]
      have eS : s.line 8 d = (⟨x.1, 0, 0, true, 0⟩, { s.take x.1.length true with op := true }) := by rw [e8, if_pos hx3, if_neg h13]
      rw [eA, eS]
      exact ⟨⟨rfl, rfl, rfl⟩, q3, q4, q5, q6, hsuf, ⟨fun h => (by cases h), fun h => absurd rfl h⟩⟩
  · have hx3 : x.2 ≠ 3 := fun h => hf ((ecode_full A 10).1 (by rw [q2]; exact h))
    have eS : s.line 8 d = (⟨x.1.take (cutN x.1), 0, 0, false, if 0 < x.1.length then 0 else x.2⟩, s.take x.1.length true) := by rw [e8, if_neg hx3]
    by_cases h0 : x.1.length = 0
    · have eA : lineA A = ((([], false), (sliceA A 10).1.2), (sliceA A 10).2) := by unfold lineA; rw [if_neg hf, q1, if_pos h0]
      have he := sliceA_empty (d := 10) (by rw [q1]; exact h0) hf
      have hx0 : x.1 = [] := List.eq_nil_of_length_eq_zero h0
      rw [eA, eS, if_neg (by omega), hx0]
      refine ⟨⟨rfl, rfl, q2⟩, ?_, q4, q5, q6, ?_, ?_⟩
      · rw [← q3, hx0]; rfl
      · rw [hx0] at hsuf; exact hsuf
      · constructor
        · intro _
          rw [← q2, he]
          cases A.f <;> simp [ecode, endErr, Err.code]
        · intro _; exact he
    · have eA : lineA A = (((x.1.take (cutN x.1), false), none), (sliceA A 10).2) := by unfold lineA; rw [if_neg hf, q1, if_neg h0]
      rw [eA, eS, if_pos (by omega)]
      exact ⟨⟨rfl, rfl, rfl⟩, q3, q4, q5, q6, hsuf, ⟨fun h => (by cases h), fun h => absurd rfl h⟩⟩
/-- what the law FnLines gathers from the specification's reader -/
def specLns : Nat → SR → (List (List UInt8) × List Bool) × Nat
  | 0, _ => (([], []), 0)
  | n + 1, s => if (s.line 8 0).1.code ≠ 0 then (([], []), (s.line 8 0).1.code) else (((s.line 8 0).1.bytes :: (specLns n (s.line 8 0).2).1.1, (s.line 8 0).1.flag :: (specLns n (s.line 8 0).2).1.2), (specLns n (s.line 8 0).2).2)
theorem runLn_spec : ∀ (n : Nat) (A : AR) (s : SR), s.left = A.left → s.size = A.size → s.endc = endc A.f → A.err = false → (∃ pre, s.all = pre ++ s.left) → 0 < A.size → runLn n A = specLns n s := by
  intro n
  induction n with
  | zero => intros; rfl
  | succ n ih =>
    intro A s h1 h2 h3 h4 h5 h6
    obtain ⟨⟨q1, q2, q3⟩, q4, q5, q6, q7, q8, q9⟩ := lineA_line 0 h1 h2 h3 h4 h5 h6
    have hi := ih (lineA A).2 (s.line 8 0).2 q4 q5 q6 q7 q8 (by rw [(lineA_left A).2.2.2]; exact h6)
    unfold runLn specLns
    by_cases h : (lineA A).1.2 = some (endErr A.f)
    · rw [if_pos h, if_pos (q9.1 h), q3]
    · rw [if_neg h, if_neg (fun hh => h (q9.2 hh)), q1, q2, hi]
end Go.Proofs.YtnpalkndocokkaaDoor
