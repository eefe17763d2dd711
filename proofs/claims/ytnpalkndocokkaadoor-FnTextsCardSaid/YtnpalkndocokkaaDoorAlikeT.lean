/- slices.EqualFunc over strings and byte slices. -/
import Derived.Test.YtnpalkndocokkaaDoorImplTx
namespace Go.Proofs.YtnpalkndocokkaaDoor
open Go.RowKit
theorem bstr_eq (bs : List UInt8) : Value.string (bstr bs) = strV bs := by
  unfold strV bstr; first | rfl | simp
theorem alikeT1 {w : World} {a2 : Option Addr} {c2 : Nat} {bs : List UInt8} {m : Nat} {s : ByteArray} (hm : bs.length = m) (h1 : strV bs = .string s) (h2 : BytesA w a2 c2 bs) :
    Calls Tryd.prog 28 #[.string s, .slice a2 m c2] w (Ret fun v w' => w = w' ∧ v = .bool true) := by
  have hs2 := run_strL (P := Tryd.prog) Tryd.underlying29 Tryd.underlying5 Tryd.underlying9 hm h2
  rw [bstr_eq, h1] at hs2
  clear h1 h2 hm
  go_enter Tryd.func28, Tryd.ntmps28
  go_wp2
  go_ret
  exact ⟨rfl, rfl⟩
set_option maxRecDepth 100000 in
set_option maxHeartbeats 1000000 in
theorem equalFuncT {w : World} {a1 a2 : Option Addr} {c1 c2 : Nat} {ls : List (List UInt8)} (h1 : TextsA w a1 c1 ls) (h2 : PiecesA w a2 c2 ls) :
    Calls Tryd.prog 27 #[.slice a1 ls.length c1, .slice a2 ls.length c2, .func (.func 28) #[] #[]] w (Ret fun v w' => w = w' ∧ v = .bool true) := by
  have l1 := h1.1
  have l2 := h1.2.1
  have l3 := h2.1
  have l4 := h2.2.1
  unfold maxLen at l2 l4
  have H1 := Lib.hid h1
  have H2 := Lib.hid h2
  clear h1 h2
  go_enter Tryd.func27, Tryd.ntmps27
  go_wp2
  go_loop [17] (fun i => ∃ k : Nat, k ≤ ls.length ∧ i = .int .i64 (k : Int)) (fun i => ls.length - (intOf i).toNat)
  case atStart => exact ⟨0, Nat.zero_le _, rfl⟩
  case round =>
    obtain ⟨k, hk, rfl⟩ := hrel
    by_cases hlt : k < ls.length
    · have e1 : ∃ b o, a1 = some ⟨b, o, none⟩ ∧ w.cell? ⟨b, o + k, none⟩ = some (strV ls[k]) := by
        have h := H1.out
        cases a1 with
        | none => have := h.2.2.1 rfl; omega
        | some p => obtain ⟨hs, hc⟩ := h.2.2.2 p rfl; obtain ⟨b, o, s⟩ := p; subst hs; exact ⟨b, o, rfl, hc k hlt⟩
      obtain ⟨b, o, rfl, hc⟩ := e1
      obtain ⟨sv, hsv⟩ : ∃ sv, strV ls[k] = .string sv := ⟨_, rfl⟩
      rw [hsv] at hc
      obtain ⟨b', o', ai', ci', m', rfl, hm', hc', hb1', hb2', hby'⟩ := H2.out.at hlt
      have K1 := Lib.hid (alikeT1 hm' hsv hby')
      clear hm' hby' hsv
      go_wp2_with (go_at_call 28; refine callRet K1.out ?_; rintro v w' ⟨rfl, rfl⟩)
      go_round
      case rel => exact ⟨k + 1, by omega, by go_num⟩
      case measure => simp [intOf]; omega
    · obtain rfl : k = ls.length := by omega
      go_wp2
      go_ret
      exact ⟨rfl, rfl⟩
end Go.Proofs.YtnpalkndocokkaaDoor
