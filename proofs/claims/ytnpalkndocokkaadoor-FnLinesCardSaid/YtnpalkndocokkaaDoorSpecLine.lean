/- spec.Line, spec.Cut. -/
import Derived.Test.YtnpalkndocokkaaDoorSpecDo
import Derived.Test.YtnpalkndocokkaaDoorIndex
namespace Go.Proofs.YtnpalkndocokkaaDoor
open Go.RowKit
def lineS (b : List UInt8) (size : Nat) (d : UInt8) (e : Nat) : List UInt8 × Nat :=
  match pos d (b.take size) with
  | some i => (b.take (i + 1), 0)
  | none => if b.length < size then (b, e) else (b.take size, 3)
set_option maxHeartbeats 1000000 in
theorem specLine {w : World} {g o c : Nat} {bs : List UInt8} (h : BytesA w (some ⟨g, o, none⟩) c bs) (size : Nat) (hsz : size ≤ 70368744177664) (d : UInt8) (e : Nat) :
    Calls Tryd.prog 47 #[.slice (some ⟨g, o, none⟩) bs.length c, .int .i64 (size : Int), .int .u8 (d.toNat : Int), .int .i64 (e : Int)] w (Ret fun v w' => w = w' ∧ v = .tuple #[.slice (some ⟨g, o, none⟩) (lineS bs size d e).1.length c, .int .i64 ((lineS bs size d e).2 : Int)]) := by
  have l1 := h.1
  have l2 := h.2.1
  unfold maxLen at l2
  have KI := Lib.hid (specIndex (h.take size) d)
  clear h
  by_cases hm : bs.length < size
  · have hm' : ¬ size < bs.length := by omega
    have hl : (bs.take size).length = bs.length := by rw [List.length_take]; omega
    rw [hl] at KI
    cases hp : pos d (bs.take size) with
    | some i =>
      have e1 : lineS bs size d e = (bs.take (i + 1), 0) := by unfold lineS; rw [hp]
      have hi := pos_lt hp
      rw [hl] at hi
      have e2 : (bs.take (i + 1)).length = i + 1 := by rw [List.length_take]; omega
      rw [e1, e2]
      rw [hp] at KI
      simp only [posI] at KI
      clear hp e1 e2 hl
      go_enter Tryd.func47, Tryd.ntmps47
      go_wp2_with (go_at_call 59; refine callRet KI.out ?_; rintro v w' ⟨rfl, rfl⟩)
      go_ret2
      exact ⟨rfl, rfl⟩
    | none =>
      have e1 : lineS bs size d e = (bs, e) := by unfold lineS; rw [hp]; exact if_pos hm
      rw [e1]
      rw [hp] at KI
      simp only [posI] at KI
      clear hp e1 hl
      go_enter Tryd.func47, Tryd.ntmps47
      go_wp2_with (go_at_call 59; refine callRet KI.out ?_; rintro v w' ⟨rfl, rfl⟩)
      go_ret2
      exact ⟨rfl, rfl⟩
  · by_cases hm' : size < bs.length
    · have hl : (bs.take size).length = size := by rw [List.length_take]; omega
      rw [hl] at KI
      cases hp : pos d (bs.take size) with
      | some i =>
        have e1 : lineS bs size d e = (bs.take (i + 1), 0) := by unfold lineS; rw [hp]
        have hi := pos_lt hp
        rw [hl] at hi
        have e2 : (bs.take (i + 1)).length = i + 1 := by rw [List.length_take]; omega
        rw [e1, e2]
        rw [hp] at KI
        simp only [posI] at KI
        clear hp e1 e2 hl
        go_enter Tryd.func47, Tryd.ntmps47
        go_wp2_with (go_at_call 59; refine callRet KI.out ?_; rintro v w' ⟨rfl, rfl⟩)
        go_ret2
        exact ⟨rfl, rfl⟩
      | none =>
        have e1 : lineS bs size d e = (bs.take size, 3) := by unfold lineS; rw [hp]; exact if_neg hm
        rw [e1, hl]
        rw [hp] at KI
        simp only [posI] at KI
        clear hp e1 hl
        go_enter Tryd.func47, Tryd.ntmps47
        go_wp2_with (go_at_call 59; refine callRet KI.out ?_; rintro v w' ⟨rfl, rfl⟩)
        go_ret2
        exact ⟨rfl, rfl⟩
    · obtain rfl : size = bs.length := by omega
      have hl : (bs.take bs.length).length = bs.length := by rw [List.length_take]; omega
      rw [hl] at KI
      cases hp : pos d (bs.take bs.length) with
      | some i =>
        have e1 : lineS bs bs.length d e = (bs.take (i + 1), 0) := by unfold lineS; rw [hp]
        have hi := pos_lt hp
        rw [hl] at hi
        have e2 : (bs.take (i + 1)).length = i + 1 := by rw [List.length_take]; omega
        rw [e1, e2]
        rw [hp] at KI
        simp only [posI] at KI
        clear hp e1 e2 hl
        go_enter Tryd.func47, Tryd.ntmps47
        go_wp2_with (go_at_call 59; refine callRet KI.out ?_; rintro v w' ⟨rfl, rfl⟩)
        go_ret2
        exact ⟨rfl, rfl⟩
      | none =>
        have e1 : lineS bs bs.length d e = (bs.take bs.length, 3) := by unfold lineS; rw [hp]; exact if_neg hm
        rw [e1, hl]
        rw [hp] at KI
        simp only [posI] at KI
        clear hp e1 hl
        go_enter Tryd.func47, Tryd.ntmps47
        go_wp2_with (go_at_call 59; refine callRet KI.out ?_; rintro v w' ⟨rfl, rfl⟩)
        go_ret2
        exact ⟨rfl, rfl⟩
/-- how many bytes a line has without its end -/
def cutN (b : List UInt8) : Nat :=
  if 0 < b.length ∧ b[b.length - 1]? = some 10 then (if 1 < b.length ∧ b[b.length - 2]? = some 13 then b.length - 2 else b.length - 1) else b.length
theorem u8_ne {x c : UInt8} (h : x ≠ c) : ((x.toNat : Int) == (c.toNat : Int)) = false := by
  simp only [beq_eq_false_iff_ne, ne_eq]
  intro hh
  exact h (UInt8.toNat_inj.1 (by omega))
set_option maxHeartbeats 1000000 in
theorem specCut {w : World} {g o c : Nat} {bs : List UInt8} (h : BytesA w (some ⟨g, o, none⟩) c bs) :
    Calls Tryd.prog 56 #[.slice (some ⟨g, o, none⟩) bs.length c] w (Ret fun v w' => w = w' ∧ v = .slice (some ⟨g, o, none⟩) (cutN bs) c) := by
  have l1 := h.1
  have l2 := h.2.1
  unfold maxLen at l2
  have HC := Lib.hid (h.2.2.2 _ rfl).2
  obtain ⟨m, hm⟩ : ∃ m, bs.length = m := ⟨_, rfl⟩
  have e0 : cutN bs = if 0 < m ∧ bs[m - 1]? = some 10 then (if 1 < m ∧ bs[m - 2]? = some 13 then m - 2 else m - 1) else m := by unfold cutN; rw [hm]
  rw [e0, hm]
  rw [hm] at l1
  have HM := Lib.hid hm
  clear h hm e0
  by_cases h0 : 0 < m
  · have hc := HC.out (m - 1) (by rw [HM.out]; omega)
    obtain ⟨x, hx⟩ : ∃ x, x = bs[m - 1]'(by rw [HM.out]; omega) := ⟨_, rfl⟩
    rw [← hx] at hc
    simp only [bv] at hc
    have hx1 : bs[m - 1]? = some x := by rw [hx]; exact List.getElem?_eq_getElem _
    have i1 : (m : Int) - 1 = ((m - 1 : Nat) : Int) := by omega
    by_cases h10 : x = 10
    · have q1 : ((x.toNat : Int) == 10) = true := by rw [h10]; rfl
      by_cases h1 : 1 < m
      · have hc2 := HC.out (m - 2) (by rw [HM.out]; omega)
        obtain ⟨y, hy⟩ : ∃ y, y = bs[m - 2]'(by rw [HM.out]; omega) := ⟨_, rfl⟩
        rw [← hy] at hc2
        simp only [bv] at hc2
        have hy1 : bs[m - 2]? = some y := by rw [hy]; exact List.getElem?_eq_getElem _
        have i2 : ((m - 1 : Nat) : Int) - 1 = ((m - 2 : Nat) : Int) := by omega
        have q3 : 0 < m - 1 := by omega
        by_cases h13 : y = 13
        · have q2 : ((y.toNat : Int) == 13) = true := by rw [h13]; rfl
          have e : (if 0 < m ∧ bs[m - 1]? = some 10 then (if 1 < m ∧ bs[m - 2]? = some 13 then m - 2 else m - 1) else m) = m - 2 := by
            rw [if_pos ⟨h0, by rw [hx1, h10]⟩, if_pos ⟨h1, by rw [hy1, h13]⟩]
          rw [e]
          clear hx hy hx1 hy1 h10 h13 e
          go_enter Tryd.func56, Tryd.ntmps56
          go_wp2
          go_ret
          exact ⟨rfl, rfl⟩
        · have q2 : ((y.toNat : Int) == 13) = false := u8_ne (c := 13) h13
          have e : (if 0 < m ∧ bs[m - 1]? = some 10 then (if 1 < m ∧ bs[m - 2]? = some 13 then m - 2 else m - 1) else m) = m - 1 := by
            rw [if_pos ⟨h0, by rw [hx1, h10]⟩, if_neg (fun hh => h13 (by have := hh.2; rw [hy1] at this; simpa using this))]
          rw [e]
          clear hx hy hx1 hy1 h10 h13 e
          go_enter Tryd.func56, Tryd.ntmps56
          go_wp2
          go_ret
          exact ⟨rfl, rfl⟩
      · have e : (if 0 < m ∧ bs[m - 1]? = some 10 then (if 1 < m ∧ bs[m - 2]? = some 13 then m - 2 else m - 1) else m) = m - 1 := by
          rw [if_pos ⟨h0, by rw [hx1, h10]⟩, if_neg (fun hh => h1 hh.1)]
        rw [e]
        obtain rfl : m = 1 := by omega
        have hc' : w.cell? ⟨g, o, none⟩ = some (.int .u8 (x.toNat : Int)) := hc
        clear hc
        clear hx hx1 h10 e h1 i1 h0
        go_enter Tryd.func56, Tryd.ntmps56
        go_wp2
        go_ret
        exact ⟨rfl, rfl⟩
    · have q1 : ((x.toNat : Int) == 10) = false := u8_ne (c := 10) h10
      have e : (if 0 < m ∧ bs[m - 1]? = some 10 then (if 1 < m ∧ bs[m - 2]? = some 13 then m - 2 else m - 1) else m) = m := by
        rw [if_neg (fun hh => h10 (by have := hh.2; rw [hx1] at this; simpa using this))]
      rw [e]
      clear hx hx1 h10 e
      go_enter Tryd.func56, Tryd.ntmps56
      go_wp2
      go_ret
      exact ⟨rfl, rfl⟩
  · have e : (if 0 < m ∧ bs[m - 1]? = some 10 then (if 1 < m ∧ bs[m - 2]? = some 13 then m - 2 else m - 1) else m) = m := if_neg (fun hh => h0 hh.1)
    rw [e]
    obtain rfl : m = 0 := by omega
    clear e h0
    go_enter Tryd.func56, Tryd.ntmps56
    go_wp2
    go_ret
    exact ⟨rfl, rfl⟩
end Go.Proofs.YtnpalkndocokkaaDoor
