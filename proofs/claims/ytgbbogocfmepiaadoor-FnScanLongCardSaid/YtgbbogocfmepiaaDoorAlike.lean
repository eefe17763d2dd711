/- laws.alike, slices.Equal: lists that are the same. -/
import Derived.Test.YtgbbogocfmepiaaDoorListsE
namespace Go.Proofs.YtgbbogocfmepiaaDoor
open Go.RowKit
theorem alike1 {w : World} {a1 a2 : Option Addr} {c1 c2 : Nat} {bs : List UInt8} {m : Nat} (hm : bs.length = m) (h1 : BytesA w a1 c1 bs) (h2 : BytesA w a2 c2 bs) :
    Calls Tryd.prog 41 #[.slice a1 m c1, .slice a2 m c2] w (Ret fun v w' => w = w' ∧ v = .bool true) := by
  have hs1 := run_strL (P := Tryd.prog) Tryd.underlying29 Tryd.underlying5 Tryd.underlying9 hm h1
  have hs2 := run_strL (P := Tryd.prog) Tryd.underlying29 Tryd.underlying5 Tryd.underlying9 hm h2
  clear h1 h2 hm
  go_enter Tryd.func41, Tryd.ntmps41
  go_wp2
  go_ret
  exact ⟨rfl, rfl⟩
set_option maxRecDepth 100000 in
set_option maxHeartbeats 1000000 in
theorem equalFunc {w : World} {a1 a2 : Option Addr} {c1 c2 : Nat} {ls : List (List UInt8)} (h1 : PiecesA w a1 c1 ls) (h2 : PiecesA w a2 c2 ls) :
    Calls Tryd.prog 40 #[.slice a1 ls.length c1, .slice a2 ls.length c2, .func (.func 41) #[] #[]] w (Ret fun v w' => w = w' ∧ v = .bool true) := by
  have l1 := h1.1
  have l2 := h1.2.1
  have l3 := h2.1
  have l4 := h2.2.1
  unfold maxLen at l2 l4
  have H1 := Lib.hid h1
  have H2 := Lib.hid h2
  clear h1 h2
  go_enter Tryd.func40, Tryd.ntmps40
  go_wp2
  go_loop [17] (fun i => ∃ k : Nat, k ≤ ls.length ∧ i = .int .i64 (k : Int)) (fun i => ls.length - (intOf i).toNat)
  case atStart => exact ⟨0, Nat.zero_le _, rfl⟩
  case round =>
    obtain ⟨k, hk, rfl⟩ := hrel
    by_cases hlt : k < ls.length
    · obtain ⟨b, o, ai, ci, m, rfl, hm, hc, hb1, hb2, hby⟩ := H1.out.at hlt
      obtain ⟨b', o', ai', ci', m', rfl, hm', hc', hb1', hb2', hby'⟩ := H2.out.at hlt
      have hmm : m' = m := hm'.symm.trans hm
      subst hmm
      have K1 := Lib.hid (alike1 hm hby hby')
      clear hm hm' hby hby'
      go_wp2_with (go_at_call 41; refine callRet K1.out ?_; rintro v w' ⟨rfl, rfl⟩)
      go_round
      case rel => exact ⟨k + 1, by omega, by go_num⟩
      case measure => simp [intOf]; omega
    · obtain rfl : k = ls.length := by omega
      go_wp2
      go_ret
      exact ⟨rfl, rfl⟩
theorem alike {w : World} {a1 a2 : Option Addr} {c1 c2 : Nat} {ls : List (List UInt8)} (h1 : PiecesA w a1 c1 ls) (h2 : PiecesA w a2 c2 ls) :
    Calls Tryd.prog 13 #[.slice a1 ls.length c1, .slice a2 ls.length c2] w (Ret fun v w' => w = w' ∧ v = .bool true) := by
  have K1 := Lib.hid (equalFunc h1 h2)
  clear h1 h2
  go_enter Tryd.func13, Tryd.ntmps13
  go_wp2_with (go_at_call 40; refine callRet K1.out ?_; rintro v w' ⟨rfl, rfl⟩)
  go_ret
  exact ⟨rfl, rfl⟩
end Go.Proofs.YtgbbogocfmepiaaDoor
