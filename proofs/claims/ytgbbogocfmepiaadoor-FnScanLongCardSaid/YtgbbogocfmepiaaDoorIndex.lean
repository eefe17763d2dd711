/- spec.Index. -/
import Derived.Test.YtgbbogocfmepiaaDoorPos
namespace Go.Proofs.YtgbbogocfmepiaaDoor
open Go.RowKit
theorem pos_step_eq {d : UInt8} {l : List UInt8} {k : Nat} (h : pos d (l.take k) = none) (hk : k < l.length) (he : l[k] = d) : pos d l = some k := by
  have := pos_none_append (m := l.drop k) h
  rw [List.take_append_drop, List.drop_eq_getElem_cons hk, show pos d (l[k] :: l.drop (k + 1)) = some 0 from if_pos he] at this
  rw [this, List.length_take, Nat.min_eq_left (by omega)]
  simp
theorem pos_step_ne {d : UInt8} {l : List UInt8} {k : Nat} (h : pos d (l.take k) = none) (hk : k < l.length) (he : l[k] ≠ d) : pos d (l.take (k + 1)) = none := by
  have := pos_none_append (m := [l[k]]) h
  rw [List.take_succ_eq_append_getElem hk, this, show pos d [l[k]] = (pos d []).map (· + 1) from if_neg he]
  rfl
set_option maxHeartbeats 1000000 in
theorem specIndex {w : World} {g o c : Nat} {bs : List UInt8} (h : BytesA w (some ⟨g, o, none⟩) c bs) (d : UInt8) :
    Calls Tryd.prog 42 #[.slice (some ⟨g, o, none⟩) bs.length c, .int .u8 (d.toNat : Int)] w (Ret fun v w' => w = w' ∧ v = .int .i64 (posI (pos d bs))) := by
  have l1 := h.1
  have l2 := h.2.1
  unfold maxLen at l2
  have HC := Lib.hid (h.2.2.2 _ rfl).2
  obtain ⟨m, hm⟩ : ∃ m, bs.length = m := ⟨_, rfl⟩
  have HM := Lib.hid hm
  rw [hm]
  rw [hm] at l1
  clear h hm
  go_enter Tryd.func42, Tryd.ntmps42
  go_wp2
  go_loop [9] (fun i => ∃ k : Nat, k ≤ m ∧ i = .int .i64 (k : Int) ∧ pos d (bs.take k) = none) (fun i => m - (intOf i).toNat)
  case atStart => exact ⟨0, Nat.zero_le _, rfl, rfl⟩
  case round =>
    obtain ⟨k, hk, rfl, hpos⟩ := hrel
    have HP := Lib.hid hpos
    clear hpos
    by_cases hlt : k < m
    · have hc := HC.out k (by rw [HM.out]; exact hlt)
      simp only [bv] at hc
      obtain ⟨x, hx⟩ : ∃ x, x = bs[k]'(by rw [HM.out]; exact hlt) := ⟨_, rfl⟩
      rw [← hx] at hc
      by_cases he : x = d
      · have q1 : ((x.toNat : Int) == (d.toNat : Int)) = true := by simp [he]
        have HR : Hid (pos d bs = some k) := pos_step_eq HP.out (by rw [HM.out]; exact hlt) (by rw [← hx]; exact he)
        clear he hx
        go_wp2
        go_ret
        exact ⟨rfl, by rw [HR.out]; rfl⟩
      · have q1 : ((x.toNat : Int) == (d.toNat : Int)) = false := by
          simp only [beq_eq_false_iff_ne, ne_eq]
          intro hh
          exact he (UInt8.toNat_inj.1 (by omega))
        have HR : Hid (pos d (bs.take (k + 1)) = none) := pos_step_ne HP.out (by rw [HM.out]; exact hlt) (by rw [← hx]; exact he)
        clear he hx
        go_wp2
        go_round
        case rel => exact ⟨k + 1, by omega, by go_num, HR.out⟩
        case measure => simp [intOf]; omega
    · obtain rfl : k = m := by omega
      have HR : Hid (pos d bs = none) := by have := HP.out; rw [List.take_of_length_le (by rw [HM.out]; exact Nat.le_refl _)] at this; exact this
      go_wp2
      go_ret
      exact ⟨rfl, by rw [HR.out]; rfl⟩
end Go.Proofs.YtgbbogocfmepiaaDoor
