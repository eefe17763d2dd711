/- Texts of one kind, one behind the other. -/
import Derived.Test.YtmmjfpcmempeeaaDoorM4
import Derived.Test.YtmmjfpcmempeeaaDoorM3
import Derived.Test.YtmmjfpcmempeeaaDoorM7
/- spec.Line, spec.Cut. -/
namespace Go.Proofs.YtmmjfpcmempeeaaDoor
open Go.RowKit
def lineS (b : List UInt8) (size : Nat) (d : UInt8) (e : Nat) : List UInt8 × Nat :=
  match pos d (b.take size) with
  | some i => (b.take (i + 1), 0)
  | none => if b.length < size then (b, e) else (b.take size, 3)
set_option maxHeartbeats 1000000 in
theorem specLine {w : World} {g o c : Nat} {bs : List UInt8} (h : BytesA w (some ⟨g, o, none⟩) c bs) (size : Nat) (hsz : size ≤ 70368744177664) (d : UInt8) (e : Nat) :
    Calls Tryd.prog 71 #[.slice (some ⟨g, o, none⟩) bs.length c, .int .i64 (size : Int), .int .u8 (d.toNat : Int), .int .i64 (e : Int)] w (Ret fun v w' => w = w' ∧ v = .tuple #[.slice (some ⟨g, o, none⟩) (lineS bs size d e).1.length c, .int .i64 ((lineS bs size d e).2 : Int)]) := by
  have l1 := h.1
  have l2 := h.2.1
  unfold maxLen at l2
  have KI := Lib.hid (specIndex (h.take size) d)
  clear h
  by_cases hm : bs.length < size
  · have hm' : ¬ size < bs.length := by omega
    have hl : (bs.take size).length = bs.length := by rw [List.length_take]; omega
    rw [hl] at KI
    cases hp : pos d (bs.take size) with
    | some i =>
      have e1 : lineS bs size d e = (bs.take (i + 1), 0) := by unfold lineS; rw [hp]
      have hi := pos_lt hp
      rw [hl] at hi
      have e2 : (bs.take (i + 1)).length = i + 1 := by rw [List.length_take]; omega
      rw [e1, e2]
      rw [hp] at KI
      simp only [posI] at KI
      clear hp e1 e2 hl
      go_enter Tryd.func71, Tryd.ntmps71
      go_wp2_with (go_at_call 80; refine callRet KI.out ?_; rintro v w' ⟨rfl, rfl⟩)
      go_ret2
      exact ⟨rfl, rfl⟩
    | none =>
      have e1 : lineS bs size d e = (bs, e) := by unfold lineS; rw [hp]; exact if_pos hm
      rw [e1]
      rw [hp] at KI
      simp only [posI] at KI
      clear hp e1 hl
      go_enter Tryd.func71, Tryd.ntmps71
      go_wp2_with (go_at_call 80; refine callRet KI.out ?_; rintro v w' ⟨rfl, rfl⟩)
      go_ret2
      exact ⟨rfl, rfl⟩
  · by_cases hm' : size < bs.length
    · have hl : (bs.take size).length = size := by rw [List.length_take]; omega
      rw [hl] at KI
      cases hp : pos d (bs.take size) with
      | some i =>
        have e1 : lineS bs size d e = (bs.take (i + 1), 0) := by unfold lineS; rw [hp]
        have hi := pos_lt hp
        rw [hl] at hi
        have e2 : (bs.take (i + 1)).length = i + 1 := by rw [List.length_take]; omega
        rw [e1, e2]
        rw [hp] at KI
        simp only [posI] at KI
        clear hp e1 e2 hl
        go_enter Tryd.func71, Tryd.ntmps71
        go_wp2_with (go_at_call 80; refine callRet KI.out ?_; rintro v w' ⟨rfl, rfl⟩)
        go_ret2
        exact ⟨rfl, rfl⟩
      | none =>
        have e1 : lineS bs size d e = (bs.take size, 3) := by unfold lineS; rw [hp]; exact if_neg hm
        rw [e1, hl]
        rw [hp] at KI
        simp only [posI] at KI
        clear hp e1 hl
        go_enter Tryd.func71, Tryd.ntmps71
        go_wp2_with (go_at_call 80; refine callRet KI.out ?_; rintro v w' ⟨rfl, rfl⟩)
        go_ret2
        exact ⟨rfl, rfl⟩
    · obtain rfl : size = bs.length := by omega
      have hl : (bs.take bs.length).length = bs.length := by rw [List.length_take]; omega
      rw [hl] at KI
      cases hp : pos d (bs.take bs.length) with
      | some i =>
        have e1 : lineS bs bs.length d e = (bs.take (i + 1), 0) := by unfold lineS; rw [hp]
        have hi := pos_lt hp
        rw [hl] at hi
        have e2 : (bs.take (i + 1)).length = i + 1 := by rw [List.length_take]; omega
        rw [e1, e2]
        rw [hp] at KI
        simp only [posI] at KI
        clear hp e1 e2 hl
        go_enter Tryd.func71, Tryd.ntmps71
        go_wp2_with (go_at_call 80; refine callRet KI.out ?_; rintro v w' ⟨rfl, rfl⟩)
        go_ret2
        exact ⟨rfl, rfl⟩
      | none =>
        have e1 : lineS bs bs.length d e = (bs.take bs.length, 3) := by unfold lineS; rw [hp]; exact if_neg hm
        rw [e1, hl]
        rw [hp] at KI
        simp only [posI] at KI
        clear hp e1 hl
        go_enter Tryd.func71, Tryd.ntmps71
        go_wp2_with (go_at_call 80; refine callRet KI.out ?_; rintro v w' ⟨rfl, rfl⟩)
        go_ret2
        exact ⟨rfl, rfl⟩
/-- how many bytes a line has without its end -/
def cutN (b : List UInt8) : Nat :=
  if 0 < b.length ∧ b[b.length - 1]? = some 10 then (if 1 < b.length ∧ b[b.length - 2]? = some 13 then b.length - 2 else b.length - 1) else b.length
theorem u8_ne {x c : UInt8} (h : x ≠ c) : ((x.toNat : Int) == (c.toNat : Int)) = false := by
  simp only [beq_eq_false_iff_ne, ne_eq]
  intro hh
  exact h (UInt8.toNat_inj.1 (by omega))
set_option maxHeartbeats 1000000 in
theorem specCut {w : World} {g o c : Nat} {bs : List UInt8} (h : BytesA w (some ⟨g, o, none⟩) c bs) :
    Calls Tryd.prog 72 #[.slice (some ⟨g, o, none⟩) bs.length c] w (Ret fun v w' => w = w' ∧ v = .slice (some ⟨g, o, none⟩) (cutN bs) c) := by
  have l1 := h.1
  have l2 := h.2.1
  unfold maxLen at l2
  have HC := Lib.hid (h.2.2.2 _ rfl).2
  obtain ⟨m, hm⟩ : ∃ m, bs.length = m := ⟨_, rfl⟩
  have e0 : cutN bs = if 0 < m ∧ bs[m - 1]? = some 10 then (if 1 < m ∧ bs[m - 2]? = some 13 then m - 2 else m - 1) else m := by unfold cutN; rw [hm]
  rw [e0, hm]
  rw [hm] at l1
  have HM := Lib.hid hm
  clear h hm e0
  by_cases h0 : 0 < m
  · have hc := HC.out (m - 1) (by rw [HM.out]; omega)
    obtain ⟨x, hx⟩ : ∃ x, x = bs[m - 1]'(by rw [HM.out]; omega) := ⟨_, rfl⟩
    rw [← hx] at hc
    simp only [bv] at hc
    have hx1 : bs[m - 1]? = some x := by rw [hx]; exact List.getElem?_eq_getElem _
    have i1 : (m : Int) - 1 = ((m - 1 : Nat) : Int) := by omega
    by_cases h10 : x = 10
    · have q1 : ((x.toNat : Int) == 10) = true := by rw [h10]; rfl
      by_cases h1 : 1 < m
      · have hc2 := HC.out (m - 2) (by rw [HM.out]; omega)
        obtain ⟨y, hy⟩ : ∃ y, y = bs[m - 2]'(by rw [HM.out]; omega) := ⟨_, rfl⟩
        rw [← hy] at hc2
        simp only [bv] at hc2
        have hy1 : bs[m - 2]? = some y := by rw [hy]; exact List.getElem?_eq_getElem _
        have i2 : ((m - 1 : Nat) : Int) - 1 = ((m - 2 : Nat) : Int) := by omega
        have q3 : 0 < m - 1 := by omega
        by_cases h13 : y = 13
        · have q2 : ((y.toNat : Int) == 13) = true := by rw [h13]; rfl
          have e : (if 0 < m ∧ bs[m - 1]? = some 10 then (if 1 < m ∧ bs[m - 2]? = some 13 then m - 2 else m - 1) else m) = m - 2 := by
            rw [if_pos ⟨h0, by rw [hx1, h10]⟩, if_pos ⟨h1, by rw [hy1, h13]⟩]
          rw [e]
          clear hx hy hx1 hy1 h10 h13 e
          go_enter Tryd.func72, Tryd.ntmps72
          go_wp2
          go_ret
          exact ⟨rfl, rfl⟩
        · have q2 : ((y.toNat : Int) == 13) = false := u8_ne (c := 13) h13
          have e : (if 0 < m ∧ bs[m - 1]? = some 10 then (if 1 < m ∧ bs[m - 2]? = some 13 then m - 2 else m - 1) else m) = m - 1 := by
            rw [if_pos ⟨h0, by rw [hx1, h10]⟩, if_neg (fun hh => h13 (by have := hh.2; rw [hy1] at this; simpa using this))]
          rw [e]
          clear hx hy hx1 hy1 h10 h13 e
          go_enter Tryd.func72, Tryd.ntmps72
          go_wp2
          go_ret
          exact ⟨rfl, rfl⟩
      · have e : (if 0 < m ∧ bs[m - 1]? = some 10 then (if 1 < m ∧ bs[m - 2]? = some 13 then m - 2 else m - 1) else m) = m - 1 := by
          rw [if_pos ⟨h0, by rw [hx1, h10]⟩, if_neg (fun hh => h1 hh.1)]
        rw [e]
        obtain rfl : m = 1 := by omega
        have hc' : w.cell? ⟨g, o, none⟩ = some (.int .u8 (x.toNat : Int)) := hc
        clear hc
        clear hx hx1 h10 e h1 i1 h0
        go_enter Tryd.func72, Tryd.ntmps72
        go_wp2
        go_ret
        exact ⟨rfl, rfl⟩
    · have q1 : ((x.toNat : Int) == 10) = false := u8_ne (c := 10) h10
      have e : (if 0 < m ∧ bs[m - 1]? = some 10 then (if 1 < m ∧ bs[m - 2]? = some 13 then m - 2 else m - 1) else m) = m := by
        rw [if_neg (fun hh => h10 (by have := hh.2; rw [hx1] at this; simpa using this))]
      rw [e]
      clear hx hx1 h10 e
      go_enter Tryd.func72, Tryd.ntmps72
      go_wp2
      go_ret
      exact ⟨rfl, rfl⟩
  · have e : (if 0 < m ∧ bs[m - 1]? = some 10 then (if 1 < m ∧ bs[m - 2]? = some 13 then m - 2 else m - 1) else m) = m := if_neg (fun hh => h0 hh.1)
    rw [e]
    obtain rfl : m = 0 := by omega
    clear e h0
    go_enter Tryd.func72, Tryd.ntmps72
    go_wp2
    go_ret
    exact ⟨rfl, rfl⟩
end Go.Proofs.YtmmjfpcmempeeaaDoor
/- spec.Reader's line; Do at the kinds 7 to 10. -/
namespace Go.Proofs.YtmmjfpcmempeeaaDoor
open Go.RowKit
def SR.line (s : SR) (kind : Nat) (d : UInt8) : Ans × SR :=
  let x := lineS s.left (if 8 < kind then s.left.length + 1 else s.size) (if kind = 8 then 10 else d) s.endc
  let s1 := s.take x.1.length true
  if kind ≠ 8 then (⟨x.1, 0, 0, false, x.2⟩, s1)
  else if x.2 = 3 then
    if x.1[x.1.length - 1]? = some 13 then (⟨x.1.take (x.1.length - 1), 0, 0, true, 0⟩, { s1.back 1 with op := true }) else (⟨x.1, 0, 0, true, 0⟩, { s1 with op := true })
  else (⟨x.1.take (cutN x.1), 0, 0, false, if 0 < x.1.length then 0 else x.2⟩, s1)
theorem lineS_take (b : List UInt8) (size : Nat) (d : UInt8) (e : Nat) : (lineS b size d e).1 = b.take (lineS b size d e).1.length := by
  unfold lineS
  split
  · rw [List.length_take, ← List.take_take, List.take_length]
  · split
    · simp
    · rw [List.length_take, ← List.take_take, List.take_length]
theorem lineS_le (b : List UInt8) (size : Nat) (d : UInt8) (e : Nat) : (lineS b size d e).1.length ≤ b.length := by
  rw [lineS_take]; exact List.length_take_le' _ _
/-- bytes told, as a slice of the reader's block; the reader as it stands -/
theorem ln_fin {w w3 w4 : World} {rb g o c m : Nat} {s' : SR} {bs : List UInt8} {code : Nat} {fl : Bool} {W2 : World} (hW : New w W2) (hR : SRd w3 rb g s') (hU : Upd (fun k => k = rb) W2 w3) (hu : Upd (fun k => k = w.heap.size + 1) w3 w4) (hrb : rb < w.heap.size) (hg : g < w.heap.size) (hm : bs.length = m) (hb : BytesA w3 (some ⟨g, o, none⟩) c bs) :
    AnsPost rb g w (⟨bs, 0, 0, fl, code⟩, s') (.agg #[.slice (some ⟨g, o, none⟩) m c, .int .i64 0, .int .i32 0, .bool fl, .int .i64 (code : Int)]) w4 := by
  subst hm
  refine ⟨⟨hR.upd hu (fun h => by omega) (fun h => by omega), (((hW.mono (M := fun k => k = rb) (fun _ hh _ => hh.elim)).trans hU (fun k hk _ => hk)).trans hu (fun k hk hlt => by have hk : k = w.heap.size + 1 := hk; omega))⟩, some ⟨g, o, none⟩, c, rfl, hb.upd hu (fun p hp _ h => by simp only [Option.some.injEq] at hp; subst hp; have h : g = w.heap.size + 1 := h; omega), fun p hp => by simp only [Option.some.injEq] at hp; subst hp; rfl⟩
set_option maxRecDepth 100000 in
set_option maxHeartbeats 1000000 in
/-- all kinds but 8 -/
theorem specLn {w : World} {rb g : Nat} {s : SR} (h : SRd w rb g s) (k : Nat) (n : Int) (d : UInt8) (hk : k = 7 ∨ k = 9 ∨ k = 10) (hsz : s.size ≤ 70368744177664) (hl0 : s.left.length ≤ 1048576) :
    Calls Tryd.prog 49 #[.pointer (some ⟨rb, 0, none⟩), .agg #[.int .i64 (k : Int), .int .i64 n, .int .u8 (d.toNat : Int)]] w (Ret (AnsPost rb g w (s.line k d))) := by
  obtain ⟨X, hX⟩ : ∃ X, X = lineS s.left (if 8 < k then s.left.length + 1 else s.size) d s.endc := ⟨_, rfl⟩
  have hk8 : k ≠ 8 := by omega
  have e : s.line k d = (⟨X.1, 0, 0, false, X.2⟩, s.take X.1.length true) := by
    unfold SR.line
    simp only [if_neg hk8, hX]
    rw [if_pos hk8]
  have hXt : X.1 = s.left.take X.1.length := by rw [hX]; exact lineS_take _ _ _ _
  have hXl : X.1.length ≤ s.left.length := by rw [hX]; exact lineS_le _ _ _ _
  obtain ⟨m, hm⟩ : ∃ m, X.1.length = m := ⟨_, rfl⟩
  rw [e, hm]
  rw [hm] at hXl hXt
  have hW2 : Hid (New w ((w.alloc (.cells #[.int .i64 (k : Int), .int .i64 n, .int .u8 (d.toNat : Int)] 53)).alloc (.cells #[.slice none 0 0, .int .i64 0, .int .i32 0, .bool false, .int .i64 0] 59))) := ((Upd.refl _ _).alloc _).alloc _
  have H2 := Lib.hid (h.new hW2.out)
  obtain ⟨⟨oL, cL, oA, cA, hb, hl, ha⟩, hne, hg, hs⟩ := h
  have l1 := hl.1
  have l2 := hl.2.1
  unfold maxLen at l2
  have hrb : rb < w.heap.size := (Array.getElem?_eq_some_iff.1 hb).1
  have hb2 := hW2.out.heap hb (fun h => h)
  obtain ⟨c0, c1, c2, c3, c4, c5, c6, hf⟩ := SRd.cells hb
  have r1 : rb ≠ w.heap.size := by omega
  have r2 : w.heap.size ≠ rb := by omega
  have r3 : rb ≠ w.heap.size + 1 := by omega
  have r4 : w.heap.size + 1 ≠ rb := by omega
  have STORE : Hid (∀ (w1 : World), Upd (fun k => k = rb) ((w.alloc (.cells #[.int .i64 (k : Int), .int .i64 n, .int .u8 (d.toNat : Int)] 53)).alloc (.cells #[.slice none 0 0, .int .i64 0, .int .i32 0, .bool false, .int .i64 0] 59)) w1 → w1.heap[w.heap.size + 1]? = some (.cells #[.slice none 0 0, .int .i64 0, .int .i32 0, .bool false, .int .i64 0] 59 (0, 0))) := fun w1 u => u.heap (heap_alloc2_new _ _ _) (fun h => by omega)
  have BOX : Hid (∀ (w1 : World), Upd (fun k => k = rb) ((w.alloc (.cells #[.int .i64 (k : Int), .int .i64 n, .int .u8 (d.toNat : Int)] 53)).alloc (.cells #[.slice none 0 0, .int .i64 0, .int .i32 0, .bool false, .int .i64 0] 59)) w1 → w1.cell? ⟨w.heap.size, 0, none⟩ = some (.int .i64 (k : Int))) := fun w1 u => by
    refine u.cell ?_ (fun h => by have h : w.heap.size = rb := h; omega)
    rw [World.cell_of_heap (((Upd.refl (fun _ => False) _).alloc _).heap (heap_alloc_new w _) (fun h => h))]
    rfl
  have KL := fun wx hx => specLine ((hl.new hW2.out).new (w1 := wx) hx) (if 8 < k then s.left.length + 1 else s.size) (by split <;> omega) d s.endc
  rw [← hX, hm] at KL
  have HT := Lib.hid hXt
  have HL := Lib.hid hl
  have hgr : g ≠ rb := fun hh => hne hh.symm
  have HM := Lib.hid hm
  clear hb hl ha hne hs hb2 hf c3 c4 c5 c6 hX e hXt hm
  by_cases h8 : 8 < k
  · have q1 : ((k : Int) == 8) = false := by simp; omega
    have q2 : decide ((8 : Int) < (k : Int)) = true := decide_eq_true (by omega)
    have q3 : ((k : Int) != 8) = true := by simp; omega
    rw [if_pos h8] at KL
    rw [show ((s.left.length + 1 : Nat) : Int) = (s.left.length : Int) + 1 by omega] at KL
    have HKL := Lib.hid KL
    clear hk hk8 KL
    go_enter Tryd.func49, Tryd.ntmps49
    go_wp2_with fail
    (refine wp_region_lx {} (by kernel_rfl) (by kernel_rfl) ⟨fun _ _ _ h => h.2, fun _ _ h => h⟩ ?_; (repeat' (first | (refine wpLx_calm rfl rfl rfl (fun K hK => ?_); go_step <;> (refine hK _ ?_; clear hK K)) | (refine wpLx_skip2 rfl rfl rfl ?_; go_simp) | (refine wpLx_calm2 rfl rfl rfl rfl rfl (fun K hK => ?_); go_step <;> (refine hK _ ?_; clear hK K)))); all_goals (refine wpLx_nil ?_))
    (go_wp2_with fail; (repeat' (refine wp_region_lx {} (by kernel_rfl) (by kernel_rfl) ⟨fun _ _ _ h => h.2, fun _ _ h => h⟩ ?_; (repeat' (first | (refine wpLx_calm rfl rfl rfl (fun K hK => ?_); go_step <;> (refine hK _ ?_; clear hK K)) | (refine wpLx_skip2 rfl rfl rfl ?_; go_simp) | (refine wpLx_calm2 rfl rfl rfl rfl rfl (fun K hK => ?_); go_step <;> (refine hK _ ?_; clear hK K)))); all_goals (refine wpLx_nil ?_; try go_wp2_with fail))))
    refine wp_region_lx {qd := [38]} (by kernel_rfl) (by kernel_rfl) ⟨fun _ _ _ h => h.2, fun _ _ h => h⟩ ?_
    (repeat' (first | (refine wpLx_calm rfl rfl rfl (fun K hK => ?_); go_step <;> (refine hK _ ?_; clear hK K)) | (refine wpLx_skip2 rfl rfl rfl ?_; go_simp) | (refine wpLx_calm2 rfl rfl rfl rfl rfl (fun K hK => ?_); go_step <;> (refine hK _ ?_; clear hK K))))
    refine wpLx_call rfl rfl rfl (HKL.out _ (Upd.refl _ _).drew.drew) (by kernel_rfl) ?_
    (repeat' (first | (refine wpLx_calm rfl rfl rfl (fun K hK => ?_); go_step <;> (refine hK _ ?_; clear hK K)) | (refine wpLx_skip2 rfl rfl rfl ?_; go_simp) | (refine wpLx_calm2 rfl rfl rfl rfl rfl (fun K hK => ?_); go_step <;> (refine hK _ ?_; clear hK K))))
    refine wpLx_nil ?_
    go_wp2_with (first | (go_at_call 45; refine callRet (specTake (H2.out.new (Upd.refl _ _).drew.drew) m true hXl) ?_; intro v w3 hv; have k0 := BOX.out w3 ((((Upd.refl (fun k => k = rb) _).drew.drew)).trans hv.1.2 (fun _ h _ => h)); have HV := Lib.hid hv; clear hv) | (refine wpList_plain rfl (fun K hK => ?_); refine wp_storeAll (n := 5) (by kernel_rfl) (.tmp 4) (.tmp 50) rfl (w.heap.size + 1) rfl #[.slice (some ⟨g, oL, none⟩) m cL, .int .i64 0, .int .i32 0, .bool false, .int .i64 (X.2 : Int)] rfl rfl (by simp [Value.oneCell']) _ 59 (STORE.out _ ((((Upd.refl (fun k => k = rb) _).drew.drew)).trans HV.out.1.2 (fun _ h _ => h))) rfl ?_; intro w4 h4 u4 z4; refine hK _ _ ?_; clear hK K))
    refine bodyPost_ret (results_cell_row (p := 4) rfl _ _ (w.heap.size + 1) 59 _ (0, 0) _ rfl h4 Tryd.underlying59 rfl (by kernel_rfl)) rfl ?_
    have hbX : BytesA w3 (some ⟨g, oL, none⟩) cL X.1 := by
      rw [HT.out]
      exact ((HL.out.take m).new (hW2.out.andNew (Upd.refl _ _).drew.drew)).upd HV.out.1.2 (fun p hp _ hh => by simp only [Option.some.injEq] at hp; subst hp; exact hgr hh)
    exact ln_fin (hW2.out.andNew (Upd.refl _ _).drew.drew) HV.out.1.1 HV.out.1.2 u4 hrb hg HM.out hbX
  · have q1 : ((k : Int) == 8) = false := by simp; omega
    have q2 : decide ((8 : Int) < (k : Int)) = false := decide_eq_false (by omega)
    have q3 : ((k : Int) != 8) = true := by simp; omega
    rw [if_neg h8] at KL
    have HKL := Lib.hid KL
    clear hk hk8 KL
    go_enter Tryd.func49, Tryd.ntmps49
    go_wp2_with fail
    (refine wp_region_lx {} (by kernel_rfl) (by kernel_rfl) ⟨fun _ _ _ h => h.2, fun _ _ h => h⟩ ?_; (repeat' (first | (refine wpLx_calm rfl rfl rfl (fun K hK => ?_); go_step <;> (refine hK _ ?_; clear hK K)) | (refine wpLx_skip2 rfl rfl rfl ?_; go_simp) | (refine wpLx_calm2 rfl rfl rfl rfl rfl (fun K hK => ?_); go_step <;> (refine hK _ ?_; clear hK K)))); all_goals (refine wpLx_nil ?_))
    (go_wp2_with fail; (repeat' (refine wp_region_lx {} (by kernel_rfl) (by kernel_rfl) ⟨fun _ _ _ h => h.2, fun _ _ h => h⟩ ?_; (repeat' (first | (refine wpLx_calm rfl rfl rfl (fun K hK => ?_); go_step <;> (refine hK _ ?_; clear hK K)) | (refine wpLx_skip2 rfl rfl rfl ?_; go_simp) | (refine wpLx_calm2 rfl rfl rfl rfl rfl (fun K hK => ?_); go_step <;> (refine hK _ ?_; clear hK K)))); all_goals (refine wpLx_nil ?_; try go_wp2_with fail))))
    refine wp_region_lx {qd := [38]} (by kernel_rfl) (by kernel_rfl) ⟨fun _ _ _ h => h.2, fun _ _ h => h⟩ ?_
    (repeat' (first | (refine wpLx_calm rfl rfl rfl (fun K hK => ?_); go_step <;> (refine hK _ ?_; clear hK K)) | (refine wpLx_skip2 rfl rfl rfl ?_; go_simp) | (refine wpLx_calm2 rfl rfl rfl rfl rfl (fun K hK => ?_); go_step <;> (refine hK _ ?_; clear hK K))))
    refine wpLx_call rfl rfl rfl (HKL.out _ (Upd.refl _ _).drew.drew) (by kernel_rfl) ?_
    (repeat' (first | (refine wpLx_calm rfl rfl rfl (fun K hK => ?_); go_step <;> (refine hK _ ?_; clear hK K)) | (refine wpLx_skip2 rfl rfl rfl ?_; go_simp) | (refine wpLx_calm2 rfl rfl rfl rfl rfl (fun K hK => ?_); go_step <;> (refine hK _ ?_; clear hK K))))
    refine wpLx_nil ?_
    go_wp2_with (first | (go_at_call 45; refine callRet (specTake (H2.out.new (Upd.refl _ _).drew.drew) m true hXl) ?_; intro v w3 hv; have k0 := BOX.out w3 ((((Upd.refl (fun k => k = rb) _).drew.drew)).trans hv.1.2 (fun _ h _ => h)); have HV := Lib.hid hv; clear hv) | (refine wpList_plain rfl (fun K hK => ?_); refine wp_storeAll (n := 5) (by kernel_rfl) (.tmp 4) (.tmp 50) rfl (w.heap.size + 1) rfl #[.slice (some ⟨g, oL, none⟩) m cL, .int .i64 0, .int .i32 0, .bool false, .int .i64 (X.2 : Int)] rfl rfl (by simp [Value.oneCell']) _ 59 (STORE.out _ ((((Upd.refl (fun k => k = rb) _).drew.drew)).trans HV.out.1.2 (fun _ h _ => h))) rfl ?_; intro w4 h4 u4 z4; refine hK _ _ ?_; clear hK K))
    refine bodyPost_ret (results_cell_row (p := 4) rfl _ _ (w.heap.size + 1) 59 _ (0, 0) _ rfl h4 Tryd.underlying59 rfl (by kernel_rfl)) rfl ?_
    have hbX : BytesA w3 (some ⟨g, oL, none⟩) cL X.1 := by
      rw [HT.out]
      exact ((HL.out.take m).new (hW2.out.andNew (Upd.refl _ _).drew.drew)).upd HV.out.1.2 (fun p hp _ hh => by simp only [Option.some.injEq] at hp; subst hp; exact hgr hh)
    exact ln_fin (hW2.out.andNew (Upd.refl _ _).drew.drew) HV.out.1.1 HV.out.1.2 u4 hrb hg HM.out hbX
set_option maxRecDepth 100000 in
set_option maxHeartbeats 1000000 in
theorem specDoLn {w : World} {rb g : Nat} {s : SR} (h : SRd w rb g s) (k : Nat) (n : Int) (d : UInt8) (hk : k = 7 ∨ k = 9 ∨ k = 10) (hsz : s.size ≤ 70368744177664) (hl0 : s.left.length ≤ 1048576) :
    Calls Tryd.prog 26 #[.pointer (some ⟨rb, 0, none⟩), .agg #[.int .i64 (k : Int), .int .i64 n, .int .u8 (d.toNat : Int)]] w (Ret (DoPost rb g w (((s.line k d).1, true), (s.line k d).2))) := by
  have hrb : rb < w.heap.size := by obtain ⟨⟨oL, cL, oA, cA, hb, _⟩, _⟩ := h; exact (Array.getElem?_eq_some_iff.1 hb).1
  have hg := h.glt
  have K1 := Lib.hid (specLn ((h.new ((Upd.refl _ w).alloc (.cells #[.int .i64 (k : Int), .int .i64 n, .int .u8 (d.toNat : Int)] 53))).new ((Upd.refl _ _).alloc (.cells #[.slice none 0 0, .int .i64 0, .int .i32 0, .bool false, .int .i64 0] 59))) k n d hk hsz hl0)
  have STORE : Hid (∀ (w1 : World), Upd (fun k => k = rb) ((w.alloc (.cells #[.int .i64 (k : Int), .int .i64 n, .int .u8 (d.toNat : Int)] 53)).alloc (.cells #[.slice none 0 0, .int .i64 0, .int .i32 0, .bool false, .int .i64 0] 59)) w1 → w1.heap[w.heap.size + 1]? = some (.cells #[.slice none 0 0, .int .i64 0, .int .i32 0, .bool false, .int .i64 0] 59 (0, 0))) := fun w1 u => u.heap (heap_alloc2_new _ _ _) (fun h => by omega)
  clear h
  have p1 : ((k : Int) == 1) = false := by simp; omega
  have p2 : ((k : Int) == 2) = false := by simp; omega
  have p3 : ((k : Int) == 3) = false := by simp; omega
  have p4 : ((k : Int) == 4) = false := by simp; omega
  have p5 : ((k : Int) == 5) = false := by simp; omega
  have p6 : ((k : Int) == 6) = false := by simp; omega
  have p8 : ((k : Int) == 8) = false := by simp; omega
  rcases hk with hk | hk | hk
  · have p7 : ((k : Int) == 7) = true := by simp; omega
    clear hk
    go_enter Tryd.func26, Tryd.ntmps26
    go_wp2_with (first | (go_at_call 49; refine callRet K1.out ?_; intro v w1 hv; have HV := Lib.hid hv; clear hv) | (refine wpList_plain rfl (fun K hK => ?_); obtain ⟨cs, hcs, hsz, hone⟩ := HV.out.2.cells; refine wp_storeAll (n := 5) (by kernel_rfl) (.tmp 4) (.tmp 94) rfl (w.heap.size + 1) rfl cs hcs hsz hone _ 59 (STORE.out _ HV.out.1.2) rfl ?_; intro w2 h2 u2 z2; refine hK _ _ ?_; clear hK K))
    refine bodyPost_ret (results_cell_tmp' (p := 4) (u := 5) rfl _ _ (w.heap.size + 1) 59 _ (0, 0) _ rfl h2 Tryd.underlying59 rfl (by rw [hsz]; kernel_rfl)) rfl ?_
    exact do_fin HV.out u2 hrb hg hcs.symm rfl
  · have p7 : ((k : Int) == 7) = false := by simp; omega
    have p9 : ((k : Int) == 9) = true := by simp; omega
    clear hk
    go_enter Tryd.func26, Tryd.ntmps26
    go_wp2_with (first | (go_at_call 49; refine callRet K1.out ?_; intro v w1 hv; have HV := Lib.hid hv; clear hv) | (refine wpList_plain rfl (fun K hK => ?_); obtain ⟨cs, hcs, hsz, hone⟩ := HV.out.2.cells; refine wp_storeAll (n := 5) (by kernel_rfl) (.tmp 4) (.tmp 94) rfl (w.heap.size + 1) rfl cs hcs hsz hone _ 59 (STORE.out _ HV.out.1.2) rfl ?_; intro w2 h2 u2 z2; refine hK _ _ ?_; clear hK K))
    refine bodyPost_ret (results_cell_tmp' (p := 4) (u := 5) rfl _ _ (w.heap.size + 1) 59 _ (0, 0) _ rfl h2 Tryd.underlying59 rfl (by rw [hsz]; kernel_rfl)) rfl ?_
    exact do_fin HV.out u2 hrb hg hcs.symm rfl
  · have p7 : ((k : Int) == 7) = false := by simp; omega
    have p9 : ((k : Int) == 9) = false := by simp; omega
    have p10 : ((k : Int) == 10) = true := by simp; omega
    clear hk
    go_enter Tryd.func26, Tryd.ntmps26
    go_wp2_with (first | (go_at_call 49; refine callRet K1.out ?_; intro v w1 hv; have HV := Lib.hid hv; clear hv) | (refine wpList_plain rfl (fun K hK => ?_); obtain ⟨cs, hcs, hsz, hone⟩ := HV.out.2.cells; refine wp_storeAll (n := 5) (by kernel_rfl) (.tmp 4) (.tmp 94) rfl (w.heap.size + 1) rfl cs hcs hsz hone _ 59 (STORE.out _ HV.out.1.2) rfl ?_; intro w2 h2 u2 z2; refine hK _ _ ?_; clear hK K))
    refine bodyPost_ret (results_cell_tmp' (p := 4) (u := 5) rfl _ _ (w.heap.size + 1) 59 _ (0, 0) _ rfl h2 Tryd.underlying59 rfl (by rw [hsz]; kernel_rfl)) rfl ?_
    exact do_fin HV.out u2 hrb hg hcs.symm rfl
end Go.Proofs.YtmmjfpcmempeeaaDoor
/- spec.Reader's line at the kind 8; Do at the kind 8. -/
namespace Go.Proofs.YtmmjfpcmempeeaaDoor
open Go.RowKit
theorem lineS_full {b : List UInt8} {size : Nat} {d : UInt8} {e : Nat} (he : e ≠ 3) (h : (lineS b size d e).2 = 3) : (lineS b size d e).1.length = size := by
  unfold lineS at h ⊢
  split at h
  · cases h
  · split at h
    · exact absurd h he
    · rename_i h1 h2
      rw [if_neg h2, List.length_take]
      omega
theorem BytesA.at1 {w : World} {g o c i : Nat} {bs : List UInt8} {x : UInt8} (h : BytesA w (some ⟨g, o, none⟩) c bs) (hx : bs[i]? = some x) : w.cell? ⟨g, o + i, none⟩ = some (.int .u8 (x.toNat : Int)) := by
  obtain ⟨hlt, hx⟩ := List.getElem?_eq_some_iff.1 hx
  rw [(h.2.2.2 _ rfl).2 i hlt, hx]; rfl
theorem SRd.cells6 {w : World} {rb g : Nat} {s : SR} (h : SRd w rb g s) : w.cell? ⟨rb, 6, none⟩ = some (.bool s.op) ∧ ∀ i, w.frozen? ⟨rb, i, none⟩ = false := by
  obtain ⟨⟨oL, cL, oA, cA, hb, _⟩, _⟩ := h
  obtain ⟨c0, c1, c2, c3, c4, c5, c6, hf⟩ := SRd.cells hb
  exact ⟨c6, hf⟩
set_option maxRecDepth 100000 in
set_option maxHeartbeats 2000000 in
theorem specLn8 {w : World} {rb g : Nat} {s : SR} (h : SRd w rb g s) (n : Int) (d : UInt8) (hsz : s.size ≤ 70368744177664) (h0s : 0 < s.size) (he3 : s.endc ≠ 3) :
    Calls Tryd.prog 49 #[.pointer (some ⟨rb, 0, none⟩), .agg #[.int .i64 8, .int .i64 n, .int .u8 (d.toNat : Int)]] w (Ret (AnsPost rb g w (s.line 8 d))) := by
  obtain ⟨X, hX⟩ : ∃ X, X = lineS s.left s.size 10 s.endc := ⟨_, rfl⟩
  have e : s.line 8 d = if X.2 = 3 then
      if X.1[X.1.length - 1]? = some 13 then (⟨X.1.take (X.1.length - 1), 0, 0, true, 0⟩, { (s.take X.1.length true).back 1 with op := true }) else (⟨X.1, 0, 0, true, 0⟩, { s.take X.1.length true with op := true })
    else (⟨X.1.take (cutN X.1), 0, 0, false, if 0 < X.1.length then 0 else X.2⟩, s.take X.1.length true) := by
    rw [hX]; rfl
  have hXt : X.1 = s.left.take X.1.length := by rw [hX]; exact lineS_take _ _ _ _
  have hXl : X.1.length ≤ s.left.length := by rw [hX]; exact lineS_le _ _ _ _
  have hXf : X.2 = 3 → X.1.length = s.size := by rw [hX]; exact lineS_full he3
  obtain ⟨m, hm⟩ : ∃ m, X.1.length = m := ⟨_, rfl⟩
  rw [e, hm]
  rw [hm] at hXl hXt hXf
  have hW2 : Hid (New w ((w.alloc (.cells #[.int .i64 8, .int .i64 n, .int .u8 (d.toNat : Int)] 53)).alloc (.cells #[.slice none 0 0, .int .i64 0, .int .i32 0, .bool false, .int .i64 0] 59))) := ((Upd.refl _ _).alloc _).alloc _
  have H2 := Lib.hid (h.new hW2.out)
  obtain ⟨⟨oL, cL, oA, cA, hb, hl, ha⟩, hne, hg, hs⟩ := h
  have l1 := hl.1
  have l2 := hl.2.1
  unfold maxLen at l2
  have hrb : rb < w.heap.size := (Array.getElem?_eq_some_iff.1 hb).1
  have hb2 := hW2.out.heap hb (fun h => h)
  obtain ⟨c0, c1, c2, c3, c4, c5, c6, hf⟩ := SRd.cells hb
  have r1 : rb ≠ w.heap.size := by omega
  have r2 : w.heap.size ≠ rb := by omega
  have r3 : rb ≠ w.heap.size + 1 := by omega
  have r4 : w.heap.size + 1 ≠ rb := by omega
  have STORE : Hid (∀ (w1 : World), Upd (fun k => k = rb) ((w.alloc (.cells #[.int .i64 8, .int .i64 n, .int .u8 (d.toNat : Int)] 53)).alloc (.cells #[.slice none 0 0, .int .i64 0, .int .i32 0, .bool false, .int .i64 0] 59)) w1 → w1.heap[w.heap.size + 1]? = some (.cells #[.slice none 0 0, .int .i64 0, .int .i32 0, .bool false, .int .i64 0] 59 (0, 0))) := fun w1 u => u.heap (heap_alloc2_new _ _ _) (fun h => by omega)
  have BOX : Hid (∀ (w1 : World), Upd (fun k => k = rb) ((w.alloc (.cells #[.int .i64 8, .int .i64 n, .int .u8 (d.toNat : Int)] 53)).alloc (.cells #[.slice none 0 0, .int .i64 0, .int .i32 0, .bool false, .int .i64 0] 59)) w1 → w1.cell? ⟨w.heap.size, 0, none⟩ = some (.int .i64 8)) := fun w1 u => by
    refine u.cell ?_ (fun h => by have h : w.heap.size = rb := h; omega)
    rw [World.cell_of_heap (((Upd.refl (fun _ => False) _).alloc _).heap (heap_alloc_new w _) (fun h => h))]
    rfl
  have KL := fun wx hx => specLine ((hl.new hW2.out).new (w1 := wx) hx) s.size (by omega) 10 s.endc
  rw [← hX, hm] at KL
  have HKL : Hid (∀ wx, New _ wx → Calls Tryd.prog 71 #[.slice (some ⟨g, oL, none⟩) s.left.length cL, .int .i64 (s.size : Int), .int .u8 10, .int .i64 (s.endc : Int)] wx (Ret fun v w' => wx = w' ∧ v = .tuple #[.slice (some ⟨g, oL, none⟩) m cL, .int .i64 (X.2 : Int)])) := KL
  have hba : (s.take m true).left.length + 1 ≤ (s.take m true).all.length ∨ m = 0 := by
    obtain ⟨pre, hp⟩ := hs
    show (s.left.drop m).length + 1 ≤ s.all.length ∨ m = 0
    rw [hp, List.length_append, List.length_drop]
    omega
  have HT := Lib.hid hXt
  have HL := Lib.hid hl
  have hgr : g ≠ rb := fun hh => hne hh.symm
  have HM := Lib.hid hm
  have HBA := Lib.hid hba
  have HRX : Hid (∀ w3, Upd (fun k => k = rb) (((w.alloc (.cells #[.int .i64 8, .int .i64 n, .int .u8 (d.toNat : Int)] 53)).alloc (.cells #[.slice none 0 0, .int .i64 0, .int .i32 0, .bool false, .int .i64 0] 59)).drew.drew) w3 → BytesA w3 (some ⟨g, oL, none⟩) cL X.1) := fun w3 u => by
    rw [HT.out]
    exact ((HL.out.take m).new (hW2.out.andNew (Upd.refl _ _).drew.drew)).upd u (fun p hp _ hh => by simp only [Option.some.injEq] at hp; subst hp; exact hgr hh)
  clear hb hl ha hne hs hb2 hf c3 c4 c5 c6 hX e hXt hm KL hba
  by_cases hc3 : X.2 = 3
  · rw [if_pos hc3]
    have h0 : 0 < m := by have := hXf hc3; omega
    have q3 : ((X.2 : Int) == 3) = true := by simp; omega
    obtain ⟨x, hx⟩ : ∃ x, x = X.1[m - 1]'(by rw [HM.out]; omega) := ⟨_, rfl⟩
    have hx1 : X.1[m - 1]? = some x := by rw [hx]; exact List.getElem?_eq_getElem _
    have HX1 := Lib.hid hx1
    have i1 : (m : Int) - 1 = ((m - 1 : Nat) : Int) := by omega
    by_cases h13 : x = 13
    · have q1 : ((x.toNat : Int) == 13) = true := by rw [h13]; rfl
      rw [if_pos (by rw [hx1, h13])]
      clear hc3 hXf hx hx1 h13
      go_enter Tryd.func49, Tryd.ntmps49
      go_wp2_with fail
      (refine wp_region_lx {} (by kernel_rfl) (by kernel_rfl) ⟨fun _ _ _ h => h.2, fun _ _ h => h⟩ ?_; (repeat' (first | (refine wpLx_calm rfl rfl rfl (fun K hK => ?_); go_step <;> (refine hK _ ?_; clear hK K)) | (refine wpLx_skip2 rfl rfl rfl ?_; go_simp) | (refine wpLx_calm2 rfl rfl rfl rfl rfl (fun K hK => ?_); go_step <;> (refine hK _ ?_; clear hK K)))); all_goals (refine wpLx_nil ?_))
      (go_wp2_with fail; (repeat' (refine wp_region_lx {} (by kernel_rfl) (by kernel_rfl) ⟨fun _ _ _ h => h.2, fun _ _ h => h⟩ ?_; (repeat' (first | (refine wpLx_calm rfl rfl rfl (fun K hK => ?_); go_step <;> (refine hK _ ?_; clear hK K)) | (refine wpLx_skip2 rfl rfl rfl ?_; go_simp) | (refine wpLx_calm2 rfl rfl rfl rfl rfl (fun K hK => ?_); go_step <;> (refine hK _ ?_; clear hK K)))); all_goals (refine wpLx_nil ?_; try go_wp2_with fail))))
      refine wp_region_lx {qd := [38]} (by kernel_rfl) (by kernel_rfl) ⟨fun _ _ _ h => h.2, fun _ _ h => h⟩ ?_
      (repeat' (first | (refine wpLx_calm rfl rfl rfl (fun K hK => ?_); go_step <;> (refine hK _ ?_; clear hK K)) | (refine wpLx_skip2 rfl rfl rfl ?_; go_simp) | (refine wpLx_calm2 rfl rfl rfl rfl rfl (fun K hK => ?_); go_step <;> (refine hK _ ?_; clear hK K))))
      refine wpLx_call rfl rfl rfl (HKL.out _ (Upd.refl _ _).drew.drew) (by kernel_rfl) ?_
      (repeat' (first | (refine wpLx_calm rfl rfl rfl (fun K hK => ?_); go_step <;> (refine hK _ ?_; clear hK K)) | (refine wpLx_skip2 rfl rfl rfl ?_; go_simp) | (refine wpLx_calm2 rfl rfl rfl rfl rfl (fun K hK => ?_); go_step <;> (refine hK _ ?_; clear hK K))))
      refine wpLx_nil ?_
      go_wp2_with (first | (go_at_call 45; refine callRet (specTake (H2.out.new (Upd.refl _ _).drew.drew) m true hXl) ?_; intro v w3 hv; have k0 := BOX.out w3 ((((Upd.refl (fun k => k = rb) _).drew.drew)).trans hv.1.2 (fun _ h _ => h)); have HV := Lib.hid hv; have hc := (HRX.out w3 hv.1.2).at1 HX1.out; clear hv) | (go_at_call 70; refine callRet (specBack HV.out.1.1 1 (by have := HBA.out; omega)) ?_; rintro v w4 ⟨rfl, hv⟩; have HV4 := Lib.hid hv; have hc6 := hv.1.cells6; have hq6 := hc6.1; have hf6 := hc6.2; have k1 := BOX.out w4 ((((Upd.refl (fun k => k = rb) _).drew.drew).trans HV.out.1.2 (fun _ h _ => h)).trans hv.2 (fun _ h _ => h)); have HU9 : Hid (Upd (fun k => k = rb) _ (w4.setCell ⟨rb, 6, none⟩ (.bool true))) := (((((Upd.refl (fun k => k = rb) _).drew.drew).trans HV.out.1.2 (fun _ h _ => h)).trans hv.2 (fun _ h _ => h)).setCell (fun _ => rfl) _); clear hv hc6) | (refine wpList_plain rfl (fun K hK => ?_); refine wp_storeAll (n := 5) (by kernel_rfl) (.tmp 4) (.tmp 71) rfl (w.heap.size + 1) rfl #[.slice (some ⟨g, oL, none⟩) (m - 1) cL, .int .i64 0, .int .i32 0, .bool true, .int .i64 0] rfl rfl (by simp [Value.oneCell']) _ 59 (STORE.out _ HU9.out) rfl ?_; intro w9 h9 u9 z9; refine hK _ _ ?_; clear hK K))
      refine bodyPost_ret (results_cell_row (p := 4) rfl _ _ (w.heap.size + 1) 59 _ (0, 0) _ rfl h9 Tryd.underlying59 rfl (by kernel_rfl)) rfl ?_
      have hl : (X.1.take (m - 1)).length = m - 1 := by rw [List.length_take, HM.out]; omega
      have hu4 : Upd (fun k => k = rb) _ (w4.setCell ⟨rb, 6, none⟩ (.bool true)) := (HV.out.1.2.trans HV4.out.2 (fun _ h _ => h)).setCell (fun _ => rfl) _
      exact ln_fin (code := 0) (hW2.out.andNew (Upd.refl _ _).drew.drew) (HV4.out.1.setOp true) hu4 u9 hrb hg hl ((HRX.out _ hu4).take (m - 1))
    · have q1 : ((x.toNat : Int) == 13) = false := u8_ne (c := 13) h13
      rw [if_neg (by rw [hx1]; simpa using h13)]
      clear hc3 hXf hx hx1 h13
      go_enter Tryd.func49, Tryd.ntmps49
      go_wp2_with fail
      (refine wp_region_lx {} (by kernel_rfl) (by kernel_rfl) ⟨fun _ _ _ h => h.2, fun _ _ h => h⟩ ?_; (repeat' (first | (refine wpLx_calm rfl rfl rfl (fun K hK => ?_); go_step <;> (refine hK _ ?_; clear hK K)) | (refine wpLx_skip2 rfl rfl rfl ?_; go_simp) | (refine wpLx_calm2 rfl rfl rfl rfl rfl (fun K hK => ?_); go_step <;> (refine hK _ ?_; clear hK K)))); all_goals (refine wpLx_nil ?_))
      (go_wp2_with fail; (repeat' (refine wp_region_lx {} (by kernel_rfl) (by kernel_rfl) ⟨fun _ _ _ h => h.2, fun _ _ h => h⟩ ?_; (repeat' (first | (refine wpLx_calm rfl rfl rfl (fun K hK => ?_); go_step <;> (refine hK _ ?_; clear hK K)) | (refine wpLx_skip2 rfl rfl rfl ?_; go_simp) | (refine wpLx_calm2 rfl rfl rfl rfl rfl (fun K hK => ?_); go_step <;> (refine hK _ ?_; clear hK K)))); all_goals (refine wpLx_nil ?_; try go_wp2_with fail))))
      refine wp_region_lx {qd := [38]} (by kernel_rfl) (by kernel_rfl) ⟨fun _ _ _ h => h.2, fun _ _ h => h⟩ ?_
      (repeat' (first | (refine wpLx_calm rfl rfl rfl (fun K hK => ?_); go_step <;> (refine hK _ ?_; clear hK K)) | (refine wpLx_skip2 rfl rfl rfl ?_; go_simp) | (refine wpLx_calm2 rfl rfl rfl rfl rfl (fun K hK => ?_); go_step <;> (refine hK _ ?_; clear hK K))))
      refine wpLx_call rfl rfl rfl (HKL.out _ (Upd.refl _ _).drew.drew) (by kernel_rfl) ?_
      (repeat' (first | (refine wpLx_calm rfl rfl rfl (fun K hK => ?_); go_step <;> (refine hK _ ?_; clear hK K)) | (refine wpLx_skip2 rfl rfl rfl ?_; go_simp) | (refine wpLx_calm2 rfl rfl rfl rfl rfl (fun K hK => ?_); go_step <;> (refine hK _ ?_; clear hK K))))
      refine wpLx_nil ?_
      go_wp2_with (first | (go_at_call 45; refine callRet (specTake (H2.out.new (Upd.refl _ _).drew.drew) m true hXl) ?_; intro v w3 hv; have k0 := BOX.out w3 ((((Upd.refl (fun k => k = rb) _).drew.drew)).trans hv.1.2 (fun _ h _ => h)); have HV := Lib.hid hv; have hc := (HRX.out w3 hv.1.2).at1 HX1.out; have hc6 := hv.1.1.cells6; have hq6 := hc6.1; have hf6 := hc6.2; have HU9 : Hid (Upd (fun k => k = rb) _ (w3.setCell ⟨rb, 6, none⟩ (.bool true))) := (((Upd.refl (fun k => k = rb) _).drew.drew).trans hv.1.2 (fun _ h _ => h)).setCell (fun _ => rfl) _; clear hc6; clear hv) | (refine wpList_plain rfl (fun K hK => ?_); refine wp_storeAll (n := 5) (by kernel_rfl) (.tmp 4) (.tmp 71) rfl (w.heap.size + 1) rfl #[.slice (some ⟨g, oL, none⟩) m cL, .int .i64 0, .int .i32 0, .bool true, .int .i64 0] rfl rfl (by simp [Value.oneCell']) _ 59 (STORE.out _ HU9.out) rfl ?_; intro w9 h9 u9 z9; refine hK _ _ ?_; clear hK K))
      refine bodyPost_ret (results_cell_row (p := 4) rfl _ _ (w.heap.size + 1) 59 _ (0, 0) _ rfl h9 Tryd.underlying59 rfl (by kernel_rfl)) rfl ?_
      have hu4 : Upd (fun k => k = rb) _ (w3.setCell ⟨rb, 6, none⟩ (.bool true)) := HV.out.1.2.setCell (fun _ => rfl) _
      exact ln_fin (code := 0) (hW2.out.andNew (Upd.refl _ _).drew.drew) (HV.out.1.1.setOp true) hu4 u9 hrb hg HM.out (HRX.out _ hu4)
  · rw [if_neg hc3]
    have q3 : ((X.2 : Int) == 3) = false := by simp; omega
    have HCT : Hid ((X.1.take (cutN X.1)).length = cutN X.1) := by
      rw [Hid, List.length_take]
      have : cutN X.1 ≤ X.1.length := by unfold cutN; split; split; all_goals omega
      omega
    by_cases h0 : 0 < m
    · rw [if_pos h0]
      clear hc3 hXf
      go_enter Tryd.func49, Tryd.ntmps49
      go_wp2_with fail
      (refine wp_region_lx {} (by kernel_rfl) (by kernel_rfl) ⟨fun _ _ _ h => h.2, fun _ _ h => h⟩ ?_; (repeat' (first | (refine wpLx_calm rfl rfl rfl (fun K hK => ?_); go_step <;> (refine hK _ ?_; clear hK K)) | (refine wpLx_skip2 rfl rfl rfl ?_; go_simp) | (refine wpLx_calm2 rfl rfl rfl rfl rfl (fun K hK => ?_); go_step <;> (refine hK _ ?_; clear hK K)))); all_goals (refine wpLx_nil ?_))
      (go_wp2_with fail; (repeat' (refine wp_region_lx {} (by kernel_rfl) (by kernel_rfl) ⟨fun _ _ _ h => h.2, fun _ _ h => h⟩ ?_; (repeat' (first | (refine wpLx_calm rfl rfl rfl (fun K hK => ?_); go_step <;> (refine hK _ ?_; clear hK K)) | (refine wpLx_skip2 rfl rfl rfl ?_; go_simp) | (refine wpLx_calm2 rfl rfl rfl rfl rfl (fun K hK => ?_); go_step <;> (refine hK _ ?_; clear hK K)))); all_goals (refine wpLx_nil ?_; try go_wp2_with fail))))
      refine wp_region_lx {qd := [38]} (by kernel_rfl) (by kernel_rfl) ⟨fun _ _ _ h => h.2, fun _ _ h => h⟩ ?_
      (repeat' (first | (refine wpLx_calm rfl rfl rfl (fun K hK => ?_); go_step <;> (refine hK _ ?_; clear hK K)) | (refine wpLx_skip2 rfl rfl rfl ?_; go_simp) | (refine wpLx_calm2 rfl rfl rfl rfl rfl (fun K hK => ?_); go_step <;> (refine hK _ ?_; clear hK K))))
      refine wpLx_call rfl rfl rfl (HKL.out _ (Upd.refl _ _).drew.drew) (by kernel_rfl) ?_
      (repeat' (first | (refine wpLx_calm rfl rfl rfl (fun K hK => ?_); go_step <;> (refine hK _ ?_; clear hK K)) | (refine wpLx_skip2 rfl rfl rfl ?_; go_simp) | (refine wpLx_calm2 rfl rfl rfl rfl rfl (fun K hK => ?_); go_step <;> (refine hK _ ?_; clear hK K))))
      refine wpLx_nil ?_
      go_wp2_with (first | (go_at_call 45; refine callRet (specTake (H2.out.new (Upd.refl _ _).drew.drew) m true hXl) ?_; intro v w3 hv; have k0 := BOX.out w3 ((((Upd.refl (fun k => k = rb) _).drew.drew)).trans hv.1.2 (fun _ h _ => h)); have HV := Lib.hid hv; have HU9 : Hid (Upd (fun k => k = rb) _ w3) := ((Upd.refl (fun k => k = rb) _).drew.drew).trans hv.1.2 (fun _ h _ => h); clear hv) | (go_at_call 72; rw [← HM.out]; refine callRet (specCut (HRX.out w3 HV.out.1.2)) ?_; rintro v w4 ⟨rfl, rfl⟩) | (refine wpList_plain rfl (fun K hK => ?_); refine wp_storeAll (n := 5) (by kernel_rfl) (.tmp 4) (.tmp 78) rfl (w.heap.size + 1) rfl #[.slice (some ⟨g, oL, none⟩) (cutN X.1) cL, .int .i64 0, .int .i32 0, .bool false, .int .i64 0] rfl rfl (by simp [Value.oneCell']) _ 59 (STORE.out _ HU9.out) rfl ?_; intro w9 h9 u9 z9; refine hK _ _ ?_; clear hK K))
      refine bodyPost_ret (results_cell_row (p := 4) rfl _ _ (w.heap.size + 1) 59 _ (0, 0) _ rfl h9 Tryd.underlying59 rfl (by kernel_rfl)) rfl ?_
      exact ln_fin (code := 0) (hW2.out.andNew (Upd.refl _ _).drew.drew) HV.out.1.1 HV.out.1.2 u9 hrb hg HCT.out ((HRX.out _ HV.out.1.2).take _)
    · rw [if_neg h0]
      have h0' : m = 0 := by omega
      have H0 := Lib.hid h0'
      clear hc3 hXf h0'
      go_enter Tryd.func49, Tryd.ntmps49
      go_wp2_with fail
      (refine wp_region_lx {} (by kernel_rfl) (by kernel_rfl) ⟨fun _ _ _ h => h.2, fun _ _ h => h⟩ ?_; (repeat' (first | (refine wpLx_calm rfl rfl rfl (fun K hK => ?_); go_step <;> (refine hK _ ?_; clear hK K)) | (refine wpLx_skip2 rfl rfl rfl ?_; go_simp) | (refine wpLx_calm2 rfl rfl rfl rfl rfl (fun K hK => ?_); go_step <;> (refine hK _ ?_; clear hK K)))); all_goals (refine wpLx_nil ?_))
      (go_wp2_with fail; (repeat' (refine wp_region_lx {} (by kernel_rfl) (by kernel_rfl) ⟨fun _ _ _ h => h.2, fun _ _ h => h⟩ ?_; (repeat' (first | (refine wpLx_calm rfl rfl rfl (fun K hK => ?_); go_step <;> (refine hK _ ?_; clear hK K)) | (refine wpLx_skip2 rfl rfl rfl ?_; go_simp) | (refine wpLx_calm2 rfl rfl rfl rfl rfl (fun K hK => ?_); go_step <;> (refine hK _ ?_; clear hK K)))); all_goals (refine wpLx_nil ?_; try go_wp2_with fail))))
      refine wp_region_lx {qd := [38]} (by kernel_rfl) (by kernel_rfl) ⟨fun _ _ _ h => h.2, fun _ _ h => h⟩ ?_
      (repeat' (first | (refine wpLx_calm rfl rfl rfl (fun K hK => ?_); go_step <;> (refine hK _ ?_; clear hK K)) | (refine wpLx_skip2 rfl rfl rfl ?_; go_simp) | (refine wpLx_calm2 rfl rfl rfl rfl rfl (fun K hK => ?_); go_step <;> (refine hK _ ?_; clear hK K))))
      refine wpLx_call rfl rfl rfl (HKL.out _ (Upd.refl _ _).drew.drew) (by kernel_rfl) ?_
      (repeat' (first | (refine wpLx_calm rfl rfl rfl (fun K hK => ?_); go_step <;> (refine hK _ ?_; clear hK K)) | (refine wpLx_skip2 rfl rfl rfl ?_; go_simp) | (refine wpLx_calm2 rfl rfl rfl rfl rfl (fun K hK => ?_); go_step <;> (refine hK _ ?_; clear hK K))))
      refine wpLx_nil ?_
      go_wp2_with (first | (go_at_call 45; refine callRet (specTake (H2.out.new (Upd.refl _ _).drew.drew) m true hXl) ?_; intro v w3 hv; have k0 := BOX.out w3 ((((Upd.refl (fun k => k = rb) _).drew.drew)).trans hv.1.2 (fun _ h _ => h)); have HV := Lib.hid hv; have HU9 : Hid (Upd (fun k => k = rb) _ w3) := ((Upd.refl (fun k => k = rb) _).drew.drew).trans hv.1.2 (fun _ h _ => h); clear hv) | (go_at_call 72; rw [← HM.out]; refine callRet (specCut (HRX.out w3 HV.out.1.2)) ?_; rintro v w4 ⟨rfl, rfl⟩) | (refine wpList_plain rfl (fun K hK => ?_); refine wp_storeAll (n := 5) (by kernel_rfl) (.tmp 4) (.tmp 78) rfl (w.heap.size + 1) rfl #[.slice (some ⟨g, oL, none⟩) (cutN X.1) cL, .int .i64 0, .int .i32 0, .bool false, .int .i64 (X.2 : Int)] rfl rfl (by simp [Value.oneCell']) _ 59 (STORE.out _ HU9.out) rfl ?_; intro w9 h9 u9 z9; refine hK _ _ ?_; clear hK K))
      refine bodyPost_ret (results_cell_row (p := 4) rfl _ _ (w.heap.size + 1) 59 _ (0, 0) _ rfl h9 Tryd.underlying59 rfl (by kernel_rfl)) rfl ?_
      exact ln_fin (hW2.out.andNew (Upd.refl _ _).drew.drew) HV.out.1.1 HV.out.1.2 u9 hrb hg HCT.out ((HRX.out _ HV.out.1.2).take _)
set_option maxRecDepth 100000 in
set_option maxHeartbeats 1000000 in
theorem specDo8 {w : World} {rb g : Nat} {s : SR} (h : SRd w rb g s) (n : Int) (d : UInt8) (hsz : s.size ≤ 70368744177664) (h0s : 0 < s.size) (he3 : s.endc ≠ 3) :
    Calls Tryd.prog 26 #[.pointer (some ⟨rb, 0, none⟩), .agg #[.int .i64 8, .int .i64 n, .int .u8 (d.toNat : Int)]] w (Ret (DoPost rb g w (((s.line 8 d).1, true), (s.line 8 d).2))) := by
  have hrb : rb < w.heap.size := by obtain ⟨⟨oL, cL, oA, cA, hb, _⟩, _⟩ := h; exact (Array.getElem?_eq_some_iff.1 hb).1
  have hg := h.glt
  have K1 := Lib.hid (specLn8 ((h.new ((Upd.refl _ w).alloc (.cells #[.int .i64 8, .int .i64 n, .int .u8 (d.toNat : Int)] 53))).new ((Upd.refl _ _).alloc (.cells #[.slice none 0 0, .int .i64 0, .int .i32 0, .bool false, .int .i64 0] 59))) n d hsz h0s he3)
  have STORE : Hid (∀ (w1 : World), Upd (fun k => k = rb) ((w.alloc (.cells #[.int .i64 8, .int .i64 n, .int .u8 (d.toNat : Int)] 53)).alloc (.cells #[.slice none 0 0, .int .i64 0, .int .i32 0, .bool false, .int .i64 0] 59)) w1 → w1.heap[w.heap.size + 1]? = some (.cells #[.slice none 0 0, .int .i64 0, .int .i32 0, .bool false, .int .i64 0] 59 (0, 0))) := fun w1 u => u.heap (heap_alloc2_new _ _ _) (fun h => by omega)
  clear h
  go_enter Tryd.func26, Tryd.ntmps26
  go_wp2_with (first | (go_at_call 49; refine callRet K1.out ?_; intro v w1 hv; have HV := Lib.hid hv; clear hv) | (refine wpList_plain rfl (fun K hK => ?_); obtain ⟨cs, hcs, hsz, hone⟩ := HV.out.2.cells; refine wp_storeAll (n := 5) (by kernel_rfl) (.tmp 4) (.tmp 94) rfl (w.heap.size + 1) rfl cs hcs hsz hone _ 59 (STORE.out _ HV.out.1.2) rfl ?_; intro w2 h2 u2 z2; refine hK _ _ ?_; clear hK K))
  refine bodyPost_ret (results_cell_tmp' (p := 4) (u := 5) rfl _ _ (w.heap.size + 1) 59 _ (0, 0) _ rfl h2 Tryd.underlying59 rfl (by rw [hsz]; kernel_rfl)) rfl ?_
  exact do_fin HV.out u2 hrb hg hcs.symm rfl
end Go.Proofs.YtmmjfpcmempeeaaDoor
/- ReadBytes again and again, in plain lists. -/
namespace Go.Proofs.YtmmjfpcmempeeaaDoor
open Go.RowKit
/-- up to a byte, with it, or all there is -/
def partL (d : UInt8) (f : Bool) (l : List UInt8) : List UInt8 × Option Err :=
  match pos d l with
  | some i => (l.take (i + 1), none)
  | none => (l, some (endErr f))
theorem partL_some {d : UInt8} {f : Bool} {l : List UInt8} {i : Nat} (h : pos d l = some i) : partL d f l = (l.take (i + 1), none) := by unfold partL; rw [h]
theorem partL_none {d : UInt8} {f : Bool} {l : List UInt8} (h : pos d l = none) : partL d f l = (l, some (endErr f)) := by unfold partL; rw [h]
theorem partL_le (d : UInt8) (f : Bool) (l : List UInt8) : (partL d f l).1.length ≤ l.length := by
  unfold partL; split
  · exact List.length_take_le' _ _
  · exact Nat.le_refl _
theorem frags_flat {d : UInt8} : ∀ (n : Nat) (A : AR), 1 ≤ A.size → A.left.length < n → A.err = false →
    (frags d n A).1.flatten ++ (frags d n A).2.1.1 = (partL d A.f A.left).1 ∧ (frags d n A).2.1.2 = (partL d A.f A.left).2 ∧ (frags d n A).2.2.left = A.left.drop (partL d A.f A.left).1.length ∧ (frags d n A).2.2.f = A.f ∧ (frags d n A).2.2.size = A.size ∧ (frags d n A).2.2.err = false := by
  intro n
  induction n with
  | zero => intro A _ h; omega
  | succ n ih =>
    intro A hs hl he
    unfold frags
    cases hq : pos d (A.left.take A.size) with
    | some j =>
      have hj := pos_take_some hq
      have hjl := pos_lt hj
      rw [sliceA_some hq, if_neg (by simp), partL_some hj]
      refine ⟨by simp, rfl, ?_, rfl, rfl, he⟩
      show A.left.drop (j + 1) = _
      rw [List.length_take, Nat.min_eq_left (by omega)]
    | none =>
      by_cases hlt : A.left.length < A.size
      · rw [List.take_of_length_le (by omega)] at hq
        rw [sliceA_end (by rw [List.take_of_length_le (by omega)]; exact hq) (by rw [he]; simpa using hlt), if_neg (by cases A.f <;> simp [endErr]), partL_none hq]
        exact ⟨by simp, rfl, by simp [AR.read], rfl, rfl, rfl⟩
      · have hb : (A.err || decide (A.left.length < A.size)) = false := by rw [he]; simpa using hlt
        rw [sliceA_full hq hb, if_pos rfl]
        have hdl : (A.left.drop A.size).length < n := by rw [List.length_drop]; omega
        obtain ⟨q1, q2, q3, q4, q5, q6⟩ := ih (A.read A.size) hs hdl he
        have e1 : (A.read A.size).left = A.left.drop A.size := rfl
        have e2 : (A.read A.size).f = A.f := rfl
        rw [e1, e2] at q1 q2 q3
        have htl : (A.left.take A.size).length = A.size := by rw [List.length_take]; omega
        have hp := pos_none_append (m := A.left.drop A.size) hq
        rw [List.take_append_drop, htl] at hp
        cases hr : pos d (A.left.drop A.size) with
        | some i =>
          rw [hr] at hp
          rw [partL_some hr] at q1 q2 q3
          have hil := pos_lt hr
          rw [List.length_drop] at hil
          rw [partL_some (i := i + A.size) hp]
          refine ⟨?_, q2, ?_, q4, q5, q6⟩
          · show ((A.left.take A.size :: (frags d n (A.read A.size)).1).flatten) ++ _ = _
            rw [List.flatten_cons, List.append_assoc, q1]
            show A.left.take A.size ++ (A.left.drop A.size).take (i + 1) = A.left.take (i + A.size + 1)
            rw [show i + A.size + 1 = A.size + (i + 1) by omega]
            exact List.take_add.symm
          · show (frags d n (A.read A.size)).2.2.left = _
            rw [q3, List.drop_drop, List.length_take, List.length_take, List.length_drop]
            congr 1; omega
        | none =>
          rw [hr] at hp
          rw [partL_none hr] at q1 q2 q3
          rw [partL_none hp]
          refine ⟨?_, q2, ?_, q4, q5, q6⟩
          · show ((A.left.take A.size :: (frags d n (A.read A.size)).1).flatten) ++ _ = _
            rw [List.flatten_cons, List.append_assoc, q1, List.take_append_drop]
          · show (frags d n (A.read A.size)).2.2.left = _
            rw [q3, List.drop_drop, List.length_drop]
            simp
            omega
/-- up to so many parts, up to the first error; and its code -/
def runPt (d : UInt8) (f : Bool) : Nat → List UInt8 → List (List UInt8) × Nat
  | 0, _ => ([], 0)
  | n + 1, l => if (partL d f l).2 = none then ((partL d f l).1 :: (runPt d f n (l.drop (partL d f l).1.length)).1, (runPt d f n (l.drop (partL d f l).1.length)).2) else ([(partL d f l).1], ecode (partL d f l).2)
theorem lineS_part (d : UInt8) (f : Bool) (l : List UInt8) : lineS l (l.length + 1) d (endc f) = ((partL d f l).1, ecode (partL d f l).2) := by
  unfold lineS
  rw [List.take_of_length_le (by omega)]
  unfold partL
  cases pos d l with
  | some i => rfl
  | none => simp only [if_pos (Nat.lt_succ_self _)]; rw [ecode_end]
theorem partL_err (d : UInt8) (f : Bool) (l : List UInt8) : (partL d f l).2 = none ∨ (partL d f l).2 = some (endErr f) := by
  unfold partL; split
  · exact .inl rfl
  · exact .inr rfl
end Go.Proofs.YtmmjfpcmempeeaaDoor
