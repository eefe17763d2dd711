/- What steps on a writer tell: the law FnWritten's, in plain Lean. -/
import Derived.Test.YtgbbogocfmepiaaDoorTrace
namespace Go.Proofs.YtgbbogocfmepiaaDoor
open Go.RowKit
structure WFacts (xs : List PutS) (zs : List (Int × Int)) (out : List UInt8) (sz m : Nat) : Prop where
  each : ∀ i, (h : i < xs.length) → ∃ n : Int, zs[i]? = some (n, 0) ∧ (xs[i].writes = true → n = (xs[i].num : Int))
  free : zs[xs.length]? = some ((sz : Int) - (m : Int), 0)
  held : zs[xs.length + 1]? = some ((m : Int), 0)
  whole : zs[xs.length + 2]? = some ((sz : Int), 0)
  le : m ≤ sz
  len : (allOut xs).length = out.length + m
  pre : (allOut xs).take out.length = out
theorem written_facts {sz : Nat} {room : Int} {xs : List PutS} {zs : List (Int × Int)} {sts : Nat → WS} (h : Trace (st00 sz room) (xs ++ [6, 7, 8].map ask) zs sts) (hI : Inv none (sts (xs ++ [6, 7, 8].map ask).length) (allOut (xs ++ [6, 7, 8].map ask)))
    (hn : (sts (xs ++ [6, 7, 8].map ask).length).n ≤ (sts (xs ++ [6, 7, 8].map ask).length).buf.length) : ∃ m, WFacts xs zs (sts (xs ++ [6, 7, 8].map ask).length).out sz m := by
  have hl : (xs ++ [6, 7, 8].map ask).length = xs.length + 3 := by simp
  have hend := hI.ok_none
  have hback := h.back hend
  obtain ⟨z1, q1, r1⟩ := h.at (i := xs.length) (by omega) (x := ask 6) (by simp)
  obtain ⟨z2, q2, r2⟩ := h.at (i := xs.length + 1) (by omega) (x := ask 7) (by simp)
  obtain ⟨z3, q3, r3⟩ := h.at (i := xs.length + 2) (by omega) (x := ask 8) (by simp)
  obtain ⟨c1, s1⟩ := r1.rd (by decide)
  obtain ⟨c2, s2⟩ := r2.rd (by decide)
  obtain ⟨c3, s3⟩ := r3.rd (by decide)
  have hsz := h.size xs.length (by omega)
  have h0 : (st00 sz room).buf.length = sz := by simp [st00]
  rw [h0] at hsz
  have n1 := r1.av rfl
  have n2 := r2.bf rfl
  have n3 := r3.sz rfl
  have s3 : sts (xs.length + 3) = sts (xs.length + 2) := s3
  have s2 : sts (xs.length + 2) = sts (xs.length + 1) := s2
  rw [hl, s3, s2, s1] at hI hn
  rw [s2, s1, hsz] at n3
  rw [s1] at n2
  rw [hsz] at n1 hn
  have e0 := hback 3 xs.length (by omega)
  have a1 := (hI.ok e0).1
  have hall : allOut (xs ++ [6, 7, 8].map ask) = allOut xs := by
    rw [allOut_append]
    show allOut xs ++ ([] : List UInt8) = _
    rw [List.append_nil]
  rw [hall] at a1
  have hhl : (held (sts xs.length)).length = (sts xs.length).n := by unfold held; rw [List.length_take]; omega
  rw [hl, s3, s2, s1]
  refine ⟨(sts xs.length).n, ⟨fun i hi => ?_, by rw [q1]; exact congrArg some (Prod.ext n1 c1), by rw [q2]; exact congrArg some (Prod.ext n2 c2), by rw [q3]; exact congrArg some (Prod.ext n3 c3), hn, ?_, ?_⟩⟩
  · obtain ⟨z, q, r⟩ := h.at (i := i) (by omega) (x := xs[i]) (List.getElem_append_left hi)
    have e1 := hback (xs.length + 2 - i) (i + 1) (by omega)
    by_cases h5 : xs[i].k ≤ 5
    · obtain ⟨b1, b2, _, _⟩ := r.wr h5
      rw [e1] at b1
      exact ⟨z.1, by rw [q]; exact congrArg some (Prod.ext rfl b1), fun _ => b2 e1⟩
    · obtain ⟨b1, _⟩ := r.rd (by omega)
      refine ⟨z.1, by rw [q]; exact congrArg some (Prod.ext rfl b1), fun hw => ?_⟩
      unfold PutS.writes at hw
      simp only [Bool.and_eq_true, decide_eq_true_eq] at hw
      exact absurd hw.2 h5
  · rw [← a1, List.length_append, hhl]
  · rw [← a1]; exact List.take_left' rfl
end Go.Proofs.YtgbbogocfmepiaaDoor
