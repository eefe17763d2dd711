/- slices.ContainsFunc over steps. -/
import Derived.Test.YtgbbogocfmepiaaDoorPutsOk
import Derived.Deep.LoopGhost
namespace Go.Proofs.YtgbbogocfmepiaaDoor
open Go.RowKit
def AnyF (q : PutS → Bool) (xs : List PutS) : Prop := xs.any q = false
def IsQ (q : PutS → Bool) (x : PutS) (b : Bool) : Prop := q x = b
set_option maxRecDepth 100000 in
set_option maxHeartbeats 2000000 in
theorem idxPuts {w : World} {a : Option Addr} {c : Nat} {xs : List PutS} (h : PutsA w a c xs) (q : PutS → Bool) (hl : xs.length ≤ 2147483647)
    (hF : ∀ (x : PutS) (v1 v3 : Value) (wx : World), x ∈ xs → PutV wx v1 v3 x → Calls Tryd.prog 44 #[x.v v1 v3] wx (Ret fun v w' => New wx w' ∧ v = .bool (q x))) :
    Calls Tryd.prog 46 #[.slice a xs.length c, .func (.func 44) #[] #[]] w (Ret fun v w' => New w w' ∧ ∃ n : Int, v = .int .i64 n ∧ (decide (0 ≤ n) = xs.any q)) := by
  have H := Lib.hid h
  have HF := Lib.hid hF
  have h1 := h.1
  have h2 := h.2.1
  unfold maxLen at h2
  clear h hF
  go_enter Tryd.func46, Tryd.ntmps46
  go_wp2_with fail
  go_loopg [8] (xs.length) (fun g v wr => ∃ i : Nat, v = .int .i64 (i : Int) ∧ i + g = xs.length ∧ New w wr ∧ (xs.take i).any q = false)
  case atStart => exact ⟨0, rfl, by omega, Upd.refl _ _, rfl⟩
  case round =>
    obtain ⟨i, rfl, hi, hn, hany⟩ := hrel
    have HN := Lib.hid hn
    have HA : Hid (AnyF q (xs.take i)) := Lib.hid hany
    clear hn hany
    by_cases hlt : i < xs.length
    · obtain ⟨b, o, v1, v3, rfl, hbl, e0, e1, e2, e3, hv⟩ := (H.out.new HN.out).at hlt
      have hmem := List.getElem_mem hlt
      have K := Lib.hid (HF.out xs[i] v1 v3 wr hmem hv)
      have hT : (xs.take (i + 1)).any q = ((xs.take i).any q || q xs[i]) := by rw [List.take_succ_eq_append_getElem hlt, List.any_append, List.any_cons, List.any_nil, Bool.or_false]
      clear hv
      obtain ⟨x, hx⟩ : ∃ x, xs[i] = x := ⟨_, rfl⟩
      rw [hx] at e0 e2 K hT hmem
      have HM := Lib.hid hmem
      clear hx hmem
      obtain ⟨bq, hq⟩ : ∃ bq, q x = bq := ⟨_, rfl⟩
      have HQ : Hid (IsQ q x bq) := Lib.hid hq
      rw [hq] at K
      obtain ⟨k, bs, r, ps⟩ := x
      change Hid (Calls Tryd.prog 44 #[.agg #[.int .i64 k, v1, .int .i32 r, v3]] wr _) at K
      have HT := Lib.hid hT
      clear hq hT
      cases bq with
      | true =>
        go_wp2_with (go_at_call 44; refine callRet K.out ?_; rintro v w2 ⟨hn2, rfl⟩; have HN2 := Lib.hid hn2; clear hn2)
        go_ret
        exact ⟨HN.out.andNew HN2.out, _, rfl, by rw [decide_eq_true (by omega)]; exact (List.any_eq_true.2 ⟨_, HM.out, HQ.out⟩).symm⟩
      | false =>
        have hA2 : (xs.take (i + 1)).any q = false := by rw [HT.out, HA.out, HQ.out]; rfl
        have HA2 := Lib.hid (show AnyF q (xs.take (i + 1)) from hA2)
        clear HT hA2
        go_wp2_with (go_at_call 44; refine callRet K.out ?_; rintro v w2 ⟨hn2, rfl⟩; have HN2 := Lib.hid hn2; clear hn2)
        go_roundg (gk - 1)
        case measure => omega
        case rel => exact ⟨i + 1, by go_num, by omega, HN.out.andNew HN2.out, HA2.out⟩
    · have hA3 : xs.any q = false := by have := HA.out; unfold AnyF at this; rwa [List.take_of_length_le (by omega)] at this
      have HA3 := Lib.hid (show AnyF q xs from hA3)
      clear hA3
      go_wp2_with fail
      go_ret
      exact ⟨HN.out, _, rfl, by rw [show xs.any q = false from HA3.out]; rfl⟩
set_option maxRecDepth 100000 in
set_option maxHeartbeats 2000000 in
theorem idxFails {w : World} {a : Option Addr} {c : Nat} {xs : List PutS} (h : PutsA w a c xs) (q : PutS → Bool) (hl : xs.length ≤ 2147483647)
    (hF : ∀ (x : PutS) (v1 v3 : Value) (wx : World), x ∈ xs → PutV wx v1 v3 x → Calls Tryd.prog 20 #[x.v v1 v3] wx (Ret fun v w' => New wx w' ∧ v = .bool (q x))) :
    Calls Tryd.prog 46 #[.slice a xs.length c, .func (.func 20) #[] #[]] w (Ret fun v w' => New w w' ∧ ∃ n : Int, v = .int .i64 n ∧ (decide (0 ≤ n) = xs.any q)) := by
  have H := Lib.hid h
  have HF := Lib.hid hF
  have h1 := h.1
  have h2 := h.2.1
  unfold maxLen at h2
  clear h hF
  go_enter Tryd.func46, Tryd.ntmps46
  go_wp2_with fail
  go_loopg [8] (xs.length) (fun g v wr => ∃ i : Nat, v = .int .i64 (i : Int) ∧ i + g = xs.length ∧ New w wr ∧ (xs.take i).any q = false)
  case atStart => exact ⟨0, rfl, by omega, Upd.refl _ _, rfl⟩
  case round =>
    obtain ⟨i, rfl, hi, hn, hany⟩ := hrel
    have HN := Lib.hid hn
    have HA : Hid (AnyF q (xs.take i)) := Lib.hid hany
    clear hn hany
    by_cases hlt : i < xs.length
    · obtain ⟨b, o, v1, v3, rfl, hbl, e0, e1, e2, e3, hv⟩ := (H.out.new HN.out).at hlt
      have hmem := List.getElem_mem hlt
      have K := Lib.hid (HF.out xs[i] v1 v3 wr hmem hv)
      have hT : (xs.take (i + 1)).any q = ((xs.take i).any q || q xs[i]) := by rw [List.take_succ_eq_append_getElem hlt, List.any_append, List.any_cons, List.any_nil, Bool.or_false]
      clear hv
      obtain ⟨x, hx⟩ : ∃ x, xs[i] = x := ⟨_, rfl⟩
      rw [hx] at e0 e2 K hT hmem
      have HM := Lib.hid hmem
      clear hx hmem
      obtain ⟨bq, hq⟩ : ∃ bq, q x = bq := ⟨_, rfl⟩
      have HQ : Hid (IsQ q x bq) := Lib.hid hq
      rw [hq] at K
      obtain ⟨k, bs, r, ps⟩ := x
      change Hid (Calls Tryd.prog 20 #[.agg #[.int .i64 k, v1, .int .i32 r, v3]] wr _) at K
      have HT := Lib.hid hT
      clear hq hT
      cases bq with
      | true =>
        go_wp2_with (go_at_call 20; refine callRet K.out ?_; rintro v w2 ⟨hn2, rfl⟩; have HN2 := Lib.hid hn2; clear hn2)
        go_ret
        exact ⟨HN.out.andNew HN2.out, _, rfl, by rw [decide_eq_true (by omega)]; exact (List.any_eq_true.2 ⟨_, HM.out, HQ.out⟩).symm⟩
      | false =>
        have hA2 : (xs.take (i + 1)).any q = false := by rw [HT.out, HA.out, HQ.out]; rfl
        have HA2 := Lib.hid (show AnyF q (xs.take (i + 1)) from hA2)
        clear HT hA2
        go_wp2_with (go_at_call 20; refine callRet K.out ?_; rintro v w2 ⟨hn2, rfl⟩; have HN2 := Lib.hid hn2; clear hn2)
        go_roundg (gk - 1)
        case measure => omega
        case rel => exact ⟨i + 1, by go_num, by omega, HN.out.andNew HN2.out, HA2.out⟩
    · have hA3 : xs.any q = false := by have := HA.out; unfold AnyF at this; rwa [List.take_of_length_le (by omega)] at this
      have HA3 := Lib.hid (show AnyF q xs from hA3)
      clear hA3
      go_wp2_with fail
      go_ret
      exact ⟨HN.out, _, rfl, by rw [show xs.any q = false from HA3.out]; rfl⟩
end Go.Proofs.YtgbbogocfmepiaaDoor
