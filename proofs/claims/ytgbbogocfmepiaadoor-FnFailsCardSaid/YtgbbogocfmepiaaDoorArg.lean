/- A source that came in: its pieces; zzFits1, spoken, SourceOk, Joined, End. -/
import Derived.Test.YtgbbogocfmepiaaDoorCopied
import Derived.Lib.Hide
namespace Go.Proofs.YtgbbogocfmepiaaDoor
open Go.RowKit
/-- slices of bytes that can be read -/
def PiecesA (w : World) (a : Option Addr) (c : Nat) (ps : List (List UInt8)) : Prop :=
  ps.length ≤ c ∧ c ≤ maxLen ∧ (a = none → c = 0) ∧ ∀ p, a = some p → (ps ≠ [] → p.spot = none) ∧
    ∀ i, (h : i < ps.length) → ∃ ai ci, w.cell? ⟨p.block, p.off + i, none⟩ = some (.slice ai ps[i].length ci) ∧ BytesA w ai ci ps[i]
theorem PiecesA.below {w0 w1 : World} {a : Option Addr} {c : Nat} {ps : List (List UInt8)} (h : PiecesA w0 a c ps) (u : Below w0.heap.size w0 w1) : PiecesA w1 a c ps := by
  refine ⟨h.1, h.2.1, h.2.2.1, fun p hp => ⟨(h.2.2.2 p hp).1, fun i hi => ?_⟩⟩
  obtain ⟨ai, ci, h1, h2⟩ := (h.2.2.2 p hp).2 i hi
  refine ⟨ai, ci, ?_, h2.below u⟩
  rw [u.cell (World.block_lt_of_cell? w0 _ h1)]; exact h1
theorem PiecesA.new {w w1 : World} {a : Option Addr} {c : Nat} {ps : List (List UInt8)} (h : PiecesA w a c ps) (u : New w w1) : PiecesA w1 a c ps := h.below u.below0
theorem PiecesA.at {w : World} {a : Option Addr} {c : Nat} {ps : List (List UInt8)} (h : PiecesA w a c ps) {k : Nat} (hk : k < ps.length) :
    ∃ b o ai ci m, a = some ⟨b, o, none⟩ ∧ ps[k].length = m ∧ w.cell? ⟨b, o + k, none⟩ = some (.slice ai m ci) ∧ m ≤ ci ∧ ci ≤ 9223372036854775807 ∧ BytesA w ai ci ps[k] := by
  cases a with
  | none => have := h.1; have := h.2.2.1 rfl; omega
  | some p =>
    obtain ⟨hs, hc⟩ := h.2.2.2 p rfl
    have hs := hs (by rintro rfl; simp at hk)
    obtain ⟨b, o, s⟩ := p
    subst hs
    obtain ⟨ai, ci, h1, h2⟩ := hc k hk
    exact ⟨b, o, ai, ci, _, rfl, rfl, h1, h2.1, h2.2.1, h2⟩
def lensum (ps : List (List UInt8)) : Nat := (ps.map List.length).sum
def nones (ps : List (List UInt8)) : Nat := (ps.filter List.isEmpty).length
theorem lensum_flatten (ps : List (List UInt8)) : ps.flatten.length = lensum ps := by simp [lensum, List.length_flatten]
def fits2 (ps : List (List UInt8)) : Bool := decide (ps.length ≤ 2147483647) && ps.all fun p => decide (p.length ≤ 2147483647)
def srcOk (ps : List (List UInt8)) : Bool := decide (lensum ps ≤ 20000) && decide (ps.length ≤ 500) && decide (nones ps ≤ 50)
def spokenB (ps : List (List UInt8)) (size : Int) : Bool := decide (ps.length ≤ 500) && srcOk ps && decide (0 ≤ size) && decide (size ≤ 5000)
theorem all_take_succ {α : Type} (p : α → Bool) (l : List α) (k : Nat) (h : k < l.length) : (l.take (k + 1)).all p = ((l.take k).all p && p l[k]) := by
  rw [List.take_succ_eq_append_getElem h, List.all_append, List.all_cons, List.all_nil, Bool.and_true]
set_option maxHeartbeats 400000 in
theorem zzFits2 (a : Option Addr) (c : Nat) (ps : List (List UInt8)) (w : World) (h : PiecesA w a c ps) :
    Calls Tryd.prog 27 #[.slice a ps.length c] w (Ret fun v w' => w = w' ∧ v = .bool (fits2 ps)) := by
  have hl := h.1
  have hm := h.2.1
  unfold maxLen at hm
  by_cases hbig : 2147483647 < ps.length
  · have he : fits2 ps = false := by unfold fits2; rw [decide_eq_false (by omega)]; rfl
    rw [he]
    clear h he
    go_enter Tryd.func27, Tryd.ntmps27
    go_wp2
    go_ret
    exact ⟨rfl, rfl⟩
  · have he : fits2 ps = ps.all fun p => decide (p.length ≤ 2147483647) := by unfold fits2; rw [decide_eq_true (by omega)]; rfl
    rw [he]
    have H := Lib.hid h
    clear h he
    go_enter Tryd.func27, Tryd.ntmps27
    go_wp2
    go_loop [10] (fun i => ∃ k : Nat, k ≤ ps.length ∧ i = .int .i64 k ∧ (ps.take k).all (fun p => decide (p.length ≤ 2147483647)) = true) (fun i => ps.length - (intOf i).toNat)
    case atStart => exact ⟨0, Nat.zero_le _, rfl, by simp⟩
    case round =>
      obtain ⟨k, hk, rfl, hall⟩ := hrel
      by_cases hlt : k < ps.length
      · obtain ⟨b, o, ai, ci, m, rfl, hm', hc, hb1, hb2, hb⟩ := H.out.at hlt
        have hts := all_take_succ (fun p => decide (p.length ≤ 2147483647)) ps k hlt
        rw [hall, hm'] at hts
        have HA := Lib.hid hall
        clear hall hb hm'
        by_cases hp : 2147483647 < m
        · have HT : Hid ((ps.all fun p => decide (p.length ≤ 2147483647)) = false) := by
            rw [← List.take_append_drop (k + 1) ps, List.all_append, hts, decide_eq_false (by omega)]; rfl
          clear hts
          go_wp2
          go_ret
          exact ⟨rfl, by rw [HT.out]; rfl⟩
        · have HT : Hid ((ps.take (k + 1)).all (fun p => decide (p.length ≤ 2147483647)) = true) := by
            rw [Hid, hts, decide_eq_true (by omega)]; rfl
          clear hts
          go_wp2
          go_round
          case rel => exact ⟨k + 1, by omega, by go_num, HT.out⟩
          case measure => simp [intOf]; omega
      · obtain rfl : k = ps.length := by omega
        rw [List.take_length] at hall
        have HA := Lib.hid hall
        clear hall
        go_wp2
        go_ret
        exact ⟨rfl, by rw [HA.out]; rfl⟩
/-- a source, as its value -/
def srcV (a : Option Addr) (n c : Nat) (f : Bool) : Value := .agg #[.slice a n c, .bool f]
theorem zzFits1 (a : Option Addr) (c : Nat) (ps : List (List UInt8)) (f : Bool) (w : World) (h : PiecesA w a c ps) :
    Calls Tryd.prog 8 #[.agg #[.slice a ps.length c, .bool f]] w (Ret fun v w' => New w w' ∧ v = .bool (fits2 ps)) := by
  have h' : PiecesA (w.alloc (.cells #[.slice a ps.length c, .bool f] 24)) a c ps := h.new ((Upd.refl _ _).alloc _)
  cases hf : fits2 ps <;>
  · go_enter Tryd.func8, Tryd.ntmps8
    go_wp2_with (go_at_call 27; refine callRet (zzFits2 _ _ _ _ h') ?_; rintro v w' ⟨rfl, rfl⟩; rw [hf])
    go_ret
    exact ⟨(Upd.refl _ _).alloc _, rfl⟩
theorem lensum_take_succ (l : List (List UInt8)) (k : Nat) (h : k < l.length) : lensum (l.take (k + 1)) = lensum (l.take k) + l[k].length := by
  unfold lensum; rw [List.take_succ_eq_append_getElem h, List.map_append, List.sum_append, List.map_cons, List.map_nil, List.sum_cons, List.sum_nil, Nat.add_zero]
theorem nones_take_succ (l : List (List UInt8)) (k : Nat) (h : k < l.length) : nones (l.take (k + 1)) = nones (l.take k) + if l[k].length = 0 then 1 else 0 := by
  unfold nones; rw [List.take_succ_eq_append_getElem h, List.filter_append, List.length_append]
  congr 1
  cases hl : l[k] <;> simp
theorem lensum_take_le (l : List (List UInt8)) (c : Nat) (h : ∀ p ∈ l, p.length ≤ c) (k : Nat) : lensum (l.take k) ≤ k * c := by
  induction k with
  | zero => simp [lensum]
  | succ k ih =>
    rw [Nat.add_mul, Nat.one_mul]
    by_cases hk : k < l.length
    · rw [lensum_take_succ l k hk]
      exact Nat.add_le_add ih (h _ (List.getElem_mem hk))
    · rw [List.take_of_length_le (by omega)] at ih ⊢
      exact Nat.le_trans ih (Nat.le_add_right _ _)
theorem nones_le (l : List (List UInt8)) : nones l ≤ l.length := List.length_filter_le _ _
theorem fits2_spec {ps : List (List UInt8)} (h : fits2 ps = true) : ps.length ≤ 2147483647 ∧ ∀ p ∈ ps, p.length ≤ 2147483647 := by
  unfold fits2 at h
  simp only [Bool.and_eq_true, decide_eq_true_eq, List.all_eq_true] at h
  exact h
set_option maxHeartbeats 1000000 in
theorem specSourceOk (a : Option Addr) (c : Nat) (ps : List (List UInt8)) (f : Bool) (w : World) (h : PiecesA w a c ps) (hfit : fits2 ps = true) :
    Calls Tryd.prog 28 #[.agg #[.slice a ps.length c, .bool f]] w (Ret fun v w' => New w w' ∧ v = .bool (srcOk ps)) := by
  obtain ⟨hl, hall⟩ := fits2_spec hfit
  have hs := fun k => lensum_take_le ps 2147483647 hall k
  have H := Lib.hid (h.new (w1 := w.alloc (.cells #[.slice a ps.length c, .bool f] 24)) ((Upd.refl _ _).alloc _))
  have HS := Lib.hid hs
  have HU : Hid (New w (w.alloc (.cells #[.slice a ps.length c, .bool f] 24))) := (Upd.refl _ _).alloc _
  clear h hs hall hfit
  go_enter Tryd.func28, Tryd.ntmps28
  go_wp2
  go_loop [3, 4, 10] (fun n z i => ∃ k : Nat, k ≤ ps.length ∧ i = .int .i64 k ∧ ∃ x y : Nat, n = .int .i64 x ∧ z = .int .i64 y ∧ x = lensum (ps.take k) ∧ y = nones (ps.take k)) (fun _ _ i => ps.length - (intOf i).toNat)
  case atStart => exact ⟨0, Nat.zero_le _, rfl, 0, 0, rfl, rfl, by simp [lensum], by simp [nones]⟩
  case round =>
    obtain ⟨k, hk, rfl, x, y, rfl, rfl, hx, hy⟩ := hrel
    have hxk := HS.out k
    rw [← hx] at hxk
    have hyk : y ≤ k := by rw [hy]; exact Nat.le_trans (nones_le _) (List.length_take_le _ _)
    have HX := Lib.hid hx
    have HY := Lib.hid hy
    clear hx hy
    by_cases hlt : k < ps.length
    · obtain ⟨b, o, ai, ci, m, rfl, hm', hc, hb1, hb2, _⟩ := H.out.at hlt
      have e1 := lensum_take_succ ps k hlt
      have e2 := nones_take_succ ps k hlt
      have e3 := HS.out (k + 1)
      rw [hm', ← HX.out] at e1
      rw [hm', ← HY.out] at e2
      rw [e1] at e3
      have E1 := Lib.hid e1
      have E2 := Lib.hid e2
      clear e1 e2 hm'
      by_cases hz : m = 0
      · subst hz
        go_wp2
        go_round
        case rel => exact ⟨k + 1, by omega, by go_num, x, y + 1, by first | rfl | go_num, by first | rfl | go_num, by rw [E1.out]; rfl, by rw [E2.out]; rfl⟩
        case measure => simp [intOf]; omega
      · have hz' : ((m : Int) == 0) = false := by simp; omega
        go_wp2
        go_round
        case rel => exact ⟨k + 1, by omega, by go_num, x + m, y, by first | rfl | go_num, by first | rfl | go_num, by rw [E1.out], by rw [E2.out, if_neg hz]; rfl⟩
        case measure => simp [intOf]; omega
    · obtain rfl : k = ps.length := by omega
      have HX' := HX.out
      have HY' := HY.out
      rw [List.take_length] at HX' HY'
      clear HX HY
      have e : srcOk ps = (decide (x ≤ 20000) && decide (ps.length ≤ 500) && decide (y ≤ 50)) := by unfold srcOk; rw [HX', HY']
      have E := Lib.hid e
      clear e HX' HY'
      by_cases c1 : x ≤ 20000
      · by_cases c2 : ps.length ≤ 500
        · by_cases c3 : y ≤ 50
          · go_wp2
            go_ret
            exact ⟨HU.out, by rw [E.out, decide_eq_true c1, decide_eq_true c2, decide_eq_true c3]; first | rfl | (simp; omega)⟩
          · go_wp2
            go_ret
            exact ⟨HU.out, by rw [E.out, decide_eq_true c1, decide_eq_true c2, decide_eq_false c3]; first | rfl | (simp; omega)⟩
        · go_wp2
          go_ret
          exact ⟨HU.out, by rw [E.out, decide_eq_true c1, decide_eq_false c2]; rfl⟩
      · go_wp2
        go_ret
        exact ⟨HU.out, by rw [E.out, decide_eq_false c1]; rfl⟩
theorem spoken (a : Option Addr) (c : Nat) (ps : List (List UInt8)) (f : Bool) (size : Int) (w : World) (h : PiecesA w a c ps) (hfit : fits2 ps = true) :
    Calls Tryd.prog 9 #[.agg #[.slice a ps.length c, .bool f], .int .i16 size] w (Ret fun v w' => New w w' ∧ v = .bool (spokenB ps size)) := by
  have h' : PiecesA (w.alloc (.cells #[.slice a ps.length c, .bool f] 24)) a c ps := h.new ((Upd.refl _ _).alloc _)
  have HU : Hid (New w (w.alloc (.cells #[.slice a ps.length c, .bool f] 24))) := (Upd.refl _ _).alloc _
  by_cases c1 : ps.length ≤ 500
  · cases hok : srcOk ps
    · have e : spokenB ps size = false := by unfold spokenB; rw [hok]; simp
      have E := Lib.hid e
      have hd : decide ((ps.length : Int) ≤ 500) = true := decide_eq_true (by omega)
      clear e
      go_enter Tryd.func9, Tryd.ntmps9
      go_wp2_with (go_at_call 28; refine callRet (specSourceOk _ _ _ _ _ h' hfit) ?_; rintro v w' ⟨hn, rfl⟩; rw [hok])
      go_ret
      refine ⟨HU.out.andNew (by assumption), ?_⟩
      rw [E.out]; rfl
    · by_cases c2 : 0 ≤ size
      · have e : spokenB ps size = decide (size ≤ 5000) := by unfold spokenB; rw [hok, decide_eq_true c1, decide_eq_true c2]; rfl
        have E := Lib.hid e
        have hd : decide ((ps.length : Int) ≤ 500) = true := decide_eq_true (by omega)
        have hd2 : decide ((0 : Int) ≤ size) = true := decide_eq_true (by omega)
        clear e
        go_enter Tryd.func9, Tryd.ntmps9
        go_wp2_with (go_at_call 28; refine callRet (specSourceOk _ _ _ _ _ h' hfit) ?_; rintro v w' ⟨hn, rfl⟩; rw [hok])
        go_ret
        refine ⟨HU.out.andNew (by assumption), ?_⟩
        rw [E.out]; first | rfl | simp
      · have e : spokenB ps size = false := by unfold spokenB; rw [hok, decide_eq_false c2]; simp
        have E := Lib.hid e
        have hd : decide ((ps.length : Int) ≤ 500) = true := decide_eq_true (by omega)
        have hd2 : decide ((0 : Int) ≤ size) = false := decide_eq_false (by omega)
        clear e
        go_enter Tryd.func9, Tryd.ntmps9
        go_wp2_with (go_at_call 28; refine callRet (specSourceOk _ _ _ _ _ h' hfit) ?_; rintro v w' ⟨hn, rfl⟩; rw [hok])
        go_ret
        refine ⟨HU.out.andNew (by assumption), ?_⟩
        rw [E.out]; rfl
  · have e : spokenB ps size = false := by unfold spokenB; rw [decide_eq_false c1]; rfl
    have E := Lib.hid e
    have hd : decide ((ps.length : Int) ≤ 500) = false := decide_eq_false (by omega)
    clear e
    go_enter Tryd.func9, Tryd.ntmps9
    go_wp2
    go_ret
    refine ⟨HU.out, ?_⟩
    rw [E.out]; rfl
theorem flatten_take_succ (l : List (List UInt8)) (k : Nat) (h : k < l.length) : (l.take (k + 1)).flatten = (l.take k).flatten ++ l[k] := by
  rw [List.take_succ_eq_append_getElem h, List.flatten_append, List.flatten_cons, List.flatten_nil, List.append_nil]
theorem lensum_take_le_all (l : List (List UInt8)) (k : Nat) : (l.take k).flatten.length ≤ l.flatten.length := by
  conv => rhs; rw [← List.take_append_drop k l, List.flatten_append, List.length_append]
  omega
end Go.Proofs.YtgbbogocfmepiaaDoor
