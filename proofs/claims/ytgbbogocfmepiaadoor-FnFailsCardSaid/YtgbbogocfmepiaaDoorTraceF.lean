/- What steps on a writer tell: the law FnFails's, in plain Lean. -/
import Derived.Test.YtgbbogocfmepiaaDoorTrace
namespace Go.Proofs.YtgbbogocfmepiaaDoor
open Go.RowKit
structure FFacts (ys : List PutS) (zs : List (Int × Int)) (sts : Nat → WS) (al : List UInt8) (r : Nat) : Prop where
  start : (sts 0).err = false
  each : ∀ i, (h : i < ys.length) → ∃ n c : Int, zs[i]? = some (n, c) ∧ (ys[i].writes = true → c = codeW (sts (i + 1)).err ∧ ((sts i).err = true → (sts (i + 1)).err = true)) ∧ (ys[i].writes = false → sts (i + 1) = sts i)
  bad : (sts ys.length).err = true → r < al.length ∧ (sts ys.length).out = al.take r
  ok : (sts ys.length).err = false → al.length ≤ r ∧ (sts ys.length).out = al
theorem fails_facts {sz r : Nat} {room : Int} {xs ys : List PutS} {zs : List (Int × Int)} {sts : Nat → WS} (hy : xs ++ [4].map ask = ys) (hg : ∀ x ∈ ys, goodP x = true) (h : Trace (st00 sz room) ys zs sts) (hI : Inv (some r) (sts ys.length) (allOut ys)) : FFacts ys zs sts (allOut xs) r := by
  have hall : allOut ys = allOut xs := by
    rw [← hy, allOut_append]
    show allOut xs ++ ([] : List UInt8) = _
    rw [List.append_nil]
  have hl : ys.length = xs.length + 1 := by rw [← hy]; simp
  obtain ⟨z1, q1, r1⟩ := h.at (i := xs.length) (by omega) (x := ask 4) (by subst hy; simp)
  obtain ⟨_, _, _, f1⟩ := r1.wr (by decide)
  rw [hall] at hI
  refine ⟨by rw [h.start]; rfl, fun i hi => ?_, fun he => ?_, fun he => ?_⟩
  · obtain ⟨z, q, p⟩ := h.at hi rfl
    refine ⟨z.1, z.2, q, fun hw => ?_, fun hw => ?_⟩
    · unfold PutS.writes at hw
      simp only [Bool.and_eq_true, decide_eq_true_eq] at hw
      obtain ⟨a1, _, a3, _⟩ := p.wr hw.2
      exact ⟨a1, a3⟩
    · have hk := hg ys[i] (List.getElem_mem hi)
      unfold goodP at hk
      simp only [Bool.and_eq_true, decide_eq_true_eq] at hk
      refine (p.rd ?_).2
      unfold PutS.writes at hw
      rw [decide_eq_true hk.1.1, Bool.true_and] at hw
      have := of_decide_eq_false hw
      omega
  · obtain ⟨r', hr, ho, hlt⟩ := hI.bad he
    cases hr
    exact ⟨hlt, ho⟩
  · obtain ⟨a1, _, a3⟩ := hI.ok he
    have hn := f1 rfl (by rw [← hl]; exact he)
    rw [← hl] at hn
    unfold held at a1
    rw [hn, List.take_zero, List.append_nil] at a1
    have := (a3 r rfl).1
    rw [a1] at this
    exact ⟨this, a1⟩
theorem no_from {xs ys : List PutS} (hy : xs ++ [4].map ask = ys) (h : (xs.any fun x => decide (x.k = 5)) = false) (R : Option Nat) : (∃ x ∈ ys, x.k = 5) → R = none := by
  rintro ⟨x, hx, hk⟩
  rw [← hy] at hx
  rcases List.mem_append.1 hx with hx | hx
  · rw [List.any_eq_false] at h
    exact absurd (decide_eq_true hk) (h x hx)
  · have : x = ask 4 := by simpa using hx
    rw [this] at hk
    exact absurd hk (by decide)
end Go.Proofs.YtgbbogocfmepiaaDoor
