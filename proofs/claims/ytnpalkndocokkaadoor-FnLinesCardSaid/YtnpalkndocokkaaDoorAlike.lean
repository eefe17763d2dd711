/- laws.alike, slices.Equal: lists that are the same. -/
import Derived.Test.YtnpalkndocokkaaDoorLists
namespace Go.Proofs.YtnpalkndocokkaaDoor
open Go.RowKit
theorem alike1 {w : World} {a1 a2 : Option Addr} {c1 c2 : Nat} {bs : List UInt8} {m : Nat} (hm : bs.length = m) (h1 : BytesA w a1 c1 bs) (h2 : BytesA w a2 c2 bs) :
    Calls Tryd.prog 46 #[.slice a1 m c1, .slice a2 m c2] w (Ret fun v w' => w = w' ∧ v = .bool true) := by
  have hs1 := run_strL (P := Tryd.prog) Tryd.underlying29 Tryd.underlying5 Tryd.underlying9 hm h1
  have hs2 := run_strL (P := Tryd.prog) Tryd.underlying29 Tryd.underlying5 Tryd.underlying9 hm h2
  clear h1 h2 hm
  go_enter Tryd.func46, Tryd.ntmps46
  go_wp2
  go_ret
  exact ⟨rfl, rfl⟩
set_option maxRecDepth 100000 in
set_option maxHeartbeats 1000000 in
theorem equalFunc {w : World} {a1 a2 : Option Addr} {c1 c2 : Nat} {ls : List (List UInt8)} (h1 : PiecesA w a1 c1 ls) (h2 : PiecesA w a2 c2 ls) :
    Calls Tryd.prog 45 #[.slice a1 ls.length c1, .slice a2 ls.length c2, .func (.func 46) #[] #[]] w (Ret fun v w' => w = w' ∧ v = .bool true) := by
  have l1 := h1.1
  have l2 := h1.2.1
  have l3 := h2.1
  have l4 := h2.2.1
  unfold maxLen at l2 l4
  have H1 := Lib.hid h1
  have H2 := Lib.hid h2
  clear h1 h2
  go_enter Tryd.func45, Tryd.ntmps45
  go_wp2
  go_loop [17] (fun i => ∃ k : Nat, k ≤ ls.length ∧ i = .int .i64 (k : Int)) (fun i => ls.length - (intOf i).toNat)
  case atStart => exact ⟨0, Nat.zero_le _, rfl⟩
  case round =>
    obtain ⟨k, hk, rfl⟩ := hrel
    by_cases hlt : k < ls.length
    · obtain ⟨b, o, ai, ci, m, rfl, hm, hc, hb1, hb2, hby⟩ := H1.out.at hlt
      obtain ⟨b', o', ai', ci', m', rfl, hm', hc', hb1', hb2', hby'⟩ := H2.out.at hlt
      have hmm : m' = m := hm'.symm.trans hm
      subst hmm
      have K1 := Lib.hid (alike1 hm hby hby')
      clear hm hm' hby hby'
      go_wp2_with (go_at_call 46; refine callRet K1.out ?_; rintro v w' ⟨rfl, rfl⟩)
      go_round
      case rel => exact ⟨k + 1, by omega, by go_num⟩
      case measure => simp [intOf]; omega
    · obtain rfl : k = ls.length := by omega
      go_wp2
      go_ret
      exact ⟨rfl, rfl⟩
theorem alike {w : World} {a1 a2 : Option Addr} {c1 c2 : Nat} {ls : List (List UInt8)} (h1 : PiecesA w a1 c1 ls) (h2 : PiecesA w a2 c2 ls) :
    Calls Tryd.prog 20 #[.slice a1 ls.length c1, .slice a2 ls.length c2] w (Ret fun v w' => w = w' ∧ v = .bool true) := by
  have K1 := Lib.hid (equalFunc h1 h2)
  clear h1 h2
  go_enter Tryd.func20, Tryd.ntmps20
  go_wp2_with (go_at_call 45; refine callRet K1.out ?_; rintro v w' ⟨rfl, rfl⟩)
  go_ret
  exact ⟨rfl, rfl⟩
set_option maxRecDepth 100000 in
set_option maxHeartbeats 1000000 in
theorem equalInts {w : World} {a1 a2 : Option Addr} {c1 c2 : Nat} {xs : List Nat} (h1 : IntsA w a1 c1 xs) (h2 : IntsA w a2 c2 xs) :
    Calls Tryd.prog 21 #[.slice a1 xs.length c1, .slice a2 xs.length c2] w (Ret fun v w' => New w w' ∧ v = .bool true) := by
  have l1 := h1.1
  have l2 := h1.2.1
  have l3 := h2.1
  have l4 := h2.2.1
  unfold maxLen at l2 l4
  have H1 := Lib.hid h1
  have H2 := Lib.hid h2
  clear h1 h2
  go_enter Tryd.func21, Tryd.ntmps21
  go_wp2
  go_loopw [13] (fun i wr => New w wr ∧ ∃ k : Nat, k ≤ xs.length ∧ i = .int .i64 (k : Int)) (fun i _ => xs.length - (intOf i).toNat)
  case atStart => exact ⟨Upd.refl _ _, 0, Nat.zero_le _, rfl⟩
  case round =>
    obtain ⟨hn, k, hk, rfl⟩ := hrel
    have HN := Lib.hid hn
    clear hn
    by_cases hlt : k < xs.length
    · have e1 : ∃ b o, a1 = some ⟨b, o, none⟩ ∧ w.cell? ⟨b, o + k, none⟩ = some (.int .i64 (xs[k] : Int)) := by
        have h := H1.out
        cases a1 with
        | none => have := h.2.2.1 rfl; omega
        | some p => obtain ⟨hs, hc⟩ := h.2.2.2 p rfl; obtain ⟨b, o, s⟩ := p; subst hs; exact ⟨b, o, rfl, hc k hlt⟩
      have e2 : ∃ b o, a2 = some ⟨b, o, none⟩ ∧ w.cell? ⟨b, o + k, none⟩ = some (.int .i64 (xs[k] : Int)) := by
        have h := H2.out
        cases a2 with
        | none => have := h.2.2.1 rfl; omega
        | some p => obtain ⟨hs, hc⟩ := h.2.2.2 p rfl; obtain ⟨b, o, s⟩ := p; subst hs; exact ⟨b, o, rfl, hc k hlt⟩
      obtain ⟨b, o, rfl, hc1⟩ := e1
      obtain ⟨b', o', rfl, hc2⟩ := e2
      have hc1 := HN.out.cell hc1 (fun h => h)
      have hc2 := HN.out.cell hc2 (fun h => h)
      (go_wp2_with fail; (repeat' (refine wp_region_lx {} (by kernel_rfl) (by kernel_rfl) ⟨fun _ _ _ h => h.2, fun _ _ h => h⟩ ?_; (repeat' (first | (refine wpLx_calm rfl rfl rfl (fun K hK => ?_); go_step <;> (refine hK _ ?_; clear hK K)) | (refine wpLx_skip2 rfl rfl rfl ?_; go_simp) | (refine wpLx_calm2 rfl rfl rfl rfl rfl (fun K hK => ?_); go_step <;> (refine hK _ ?_; clear hK K)))); all_goals (refine wpLx_nil ?_; try go_wp2_with fail))))
      go_roundw
      case rel => exact ⟨HN.out.drew, k + 1, by omega, by go_num⟩
      case measure => simp [intOf]; omega
    · obtain rfl : k = xs.length := by omega
      go_wp2
      go_ret
      exact ⟨HN.out, rfl⟩
end Go.Proofs.YtnpalkndocokkaaDoor
