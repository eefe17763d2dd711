/- spec.Writes, laws.zzFits4. -/
import Derived.Test.YtgbbogocfmepiaaDoorPuts
import Derived.Test.YtgbbogocfmepiaaDoorArg
namespace Go.Proofs.YtgbbogocfmepiaaDoor
open Go.RowKit
set_option maxRecDepth 100000 in
set_option maxHeartbeats 1000000 in
theorem specWrites (w : World) (x : PutS) (v1 v3 : Value) : Calls Tryd.prog 24 #[x.v v1 v3] w (Ret fun v w' => New w w' ∧ v = .bool x.writes) := by
  obtain ⟨k, bs, r, ps⟩ := x
  unfold PutS.v PutS.writes
  by_cases c1 : 0 ≤ k
  · have q1 : decide (0 ≤ k) = true := decide_eq_true c1
    rw [q1]
    by_cases c2 : k ≤ 5
    · have q2 : decide (k ≤ 5) = true := decide_eq_true c2
      rw [q2]
      go_enter Tryd.func24, Tryd.ntmps24
      go_wp2
      go_ret
      exact ⟨(Upd.refl _ _).alloc _, rfl⟩
    · have q2 : decide (k ≤ 5) = false := decide_eq_false c2
      rw [q2]
      go_enter Tryd.func24, Tryd.ntmps24
      go_wp2
      go_ret
      exact ⟨(Upd.refl _ _).alloc _, rfl⟩
  · have q1 : decide (0 ≤ k) = false := decide_eq_false c1
    rw [q1]
    go_enter Tryd.func24, Tryd.ntmps24
    go_wp2
    go_ret
    exact ⟨(Upd.refl _ _).alloc _, rfl⟩
def fitsP (x : PutS) : Bool := decide (x.bs.length ≤ 2147483647) && fits2 x.ps
set_option maxRecDepth 100000 in
set_option maxHeartbeats 1000000 in
theorem zzFits4 {w : World} {x : PutS} {v1 v3 : Value} (h : PutV w v1 v3 x) : Calls Tryd.prog 43 #[x.v v1 v3] w (Ret fun v w' => New w w' ∧ v = .bool (fitsP x)) := by
  obtain ⟨⟨a, c, rfl, hb⟩, a', c', rfl, hp⟩ := h
  obtain ⟨k, bs, r, ps⟩ := x
  have hb1 := hb.1
  have hb2 := hb.2.1
  unfold maxLen at hb2
  unfold PutS.v fitsP
  have HU : Hid (New w (w.alloc (.cells #[.int .i64 k, .slice a bs.length c, .int .i32 r, .slice a' ps.length c'] 46))) := (Upd.refl _ _).alloc _
  have K2 := Lib.hid (zzFits2 a' c' ps _ (hp.new HU.out))
  clear hb hp
  show Calls Tryd.prog 43 #[.agg #[.int .i64 k, .slice a bs.length c, .int .i32 r, .slice a' ps.length c']] w (Ret fun v w' => New w w' ∧ v = .bool (decide (bs.length ≤ 2147483647) && fits2 ps))
  have hb1' : bs.length ≤ c := hb1
  by_cases hbig : 2147483647 < bs.length
  · rw [decide_eq_false (show ¬ bs.length ≤ 2147483647 by omega), Bool.false_and]
    go_enter Tryd.func43, Tryd.ntmps43
    go_wp2_with (go_at_call 27; refine callRet K2.out ?_; rintro v w2 ⟨rfl, rfl⟩)
    go_ret
    exact ⟨HU.out, rfl⟩
  · rw [decide_eq_true (show bs.length ≤ 2147483647 by omega), Bool.true_and]
    cases hf : fits2 ps with
    | true =>
      rw [hf] at K2
      clear hf
      go_enter Tryd.func43, Tryd.ntmps43
      go_wp2_with (go_at_call 27; refine callRet K2.out ?_; rintro v w2 ⟨rfl, rfl⟩)
      go_ret
      exact ⟨HU.out, rfl⟩
    | false =>
      rw [hf] at K2
      clear hf
      go_enter Tryd.func43, Tryd.ntmps43
      go_wp2_with (go_at_call 27; refine callRet K2.out ?_; rintro v w2 ⟨rfl, rfl⟩)
      go_ret
      exact ⟨HU.out, rfl⟩
def okP (x : PutS) : Bool := decide (x.bs.length ≤ 5000) && decide (0 ≤ x.r) && decide (x.r ≤ 1114111) && (decide (x.r < 55296) || decide (57343 < x.r)) && srcOk x.ps
set_option maxRecDepth 100000 in
set_option maxHeartbeats 2000000 in
theorem specPutOk {w : World} {x : PutS} {v1 v3 : Value} (h : PutV w v1 v3 x) (hfit : fitsP x = true) : Calls Tryd.prog 45 #[x.v v1 v3] w (Ret fun v w' => New w w' ∧ v = .bool (okP x)) := by
  obtain ⟨⟨a, c, rfl, hb⟩, a', c', rfl, hp⟩ := h
  obtain ⟨k, bs, r, ps⟩ := x
  have hb1 := hb.1
  have hb2 := hb.2.1
  unfold maxLen at hb2
  have hf2 : fits2 ps = true := by unfold fitsP at hfit; simp at hfit; exact hfit.2
  have HU : Hid (New w (w.alloc (.cells #[.int .i64 k, .slice a bs.length c, .int .i32 r, .slice a' ps.length c'] 46))) := (Upd.refl _ _).alloc _
  have K2 := Lib.hid (specSourceOk a' c' ps false _ (hp.new HU.out) hf2)
  show Calls Tryd.prog 45 #[.agg #[.int .i64 k, .slice a bs.length c, .int .i32 r, .slice a' ps.length c']] w (Ret fun v w' => New w w' ∧ v = .bool (decide (bs.length ≤ 5000) && decide (0 ≤ r) && decide (r ≤ 1114111) && (decide (r < 55296) || decide (57343 < r)) && srcOk ps))
  have hb1' : bs.length ≤ c := hb1
  obtain ⟨ok, hok⟩ : ∃ ok, srcOk ps = ok := ⟨_, rfl⟩
  rw [hok] at K2 ⊢
  clear hb hp hfit hf2 hok
  by_cases a1 : bs.length ≤ 5000
  rotate_left
  · rw [decide_eq_false a1]
    simp only [Bool.false_and]
    go_enter Tryd.func45, Tryd.ntmps45
    go_wp2_with (go_at_call 28; refine callRet K2.out ?_; rintro v w2 ⟨hn2, rfl⟩; have HN2 : Hid (New w w2) := HU.out.andNew hn2; clear hn2)
    go_ret
    exact ⟨HU.out, rfl⟩
  rw [decide_eq_true a1]
  by_cases a2 : 0 ≤ r
  rotate_left
  · rw [decide_eq_false a2]
    simp only [Bool.false_and, Bool.and_false]
    go_enter Tryd.func45, Tryd.ntmps45
    go_wp2_with (go_at_call 28; refine callRet K2.out ?_; rintro v w2 ⟨hn2, rfl⟩; have HN2 : Hid (New w w2) := HU.out.andNew hn2; clear hn2)
    go_ret
    exact ⟨HU.out, rfl⟩
  rw [decide_eq_true a2]
  by_cases a3 : r ≤ 1114111
  rotate_left
  · rw [decide_eq_false a3]
    simp only [Bool.false_and, Bool.and_false]
    go_enter Tryd.func45, Tryd.ntmps45
    go_wp2_with (go_at_call 28; refine callRet K2.out ?_; rintro v w2 ⟨hn2, rfl⟩; have HN2 : Hid (New w w2) := HU.out.andNew hn2; clear hn2)
    go_ret
    exact ⟨HU.out, rfl⟩
  rw [decide_eq_true a3]
  by_cases a4 : r < 55296
  · rw [decide_eq_true a4]
    simp only [Bool.true_and, Bool.true_or]
    go_enter Tryd.func45, Tryd.ntmps45
    go_wp2_with (go_at_call 28; refine callRet K2.out ?_; rintro v w2 ⟨hn2, rfl⟩; have HN2 : Hid (New w w2) := HU.out.andNew hn2; clear hn2)
    go_ret
    exact ⟨HN2.out, rfl⟩
  rw [decide_eq_false a4]
  by_cases a5 : 57343 < r
  · rw [decide_eq_true a5]
    simp only [Bool.true_and, Bool.false_or]
    go_enter Tryd.func45, Tryd.ntmps45
    go_wp2_with (go_at_call 28; refine callRet K2.out ?_; rintro v w2 ⟨hn2, rfl⟩; have HN2 : Hid (New w w2) := HU.out.andNew hn2; clear hn2)
    go_ret
    exact ⟨HN2.out, rfl⟩
  · rw [decide_eq_false a5]
    simp only [Bool.true_and, Bool.false_or, Bool.false_and]
    go_enter Tryd.func45, Tryd.ntmps45
    go_wp2_with (go_at_call 28; refine callRet K2.out ?_; rintro v w2 ⟨hn2, rfl⟩; have HN2 : Hid (New w w2) := HU.out.andNew hn2; clear hn2)
    go_ret
    exact ⟨HU.out, rfl⟩
end Go.Proofs.YtgbbogocfmepiaaDoor
