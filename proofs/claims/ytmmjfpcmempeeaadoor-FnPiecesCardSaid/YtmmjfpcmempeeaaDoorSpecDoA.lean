/- spec.Reader's Do, of whatever kind; its Read. -/
import Derived.Test.YtmmjfpcmempeeaaDoorAns
import Derived.Test.YtmmjfpcmempeeaaDoorM8
import Derived.Test.YtmmjfpcmempeeaaDoorM4
import Derived.Test.YtmmjfpcmempeeaaDoorSpecRune
import Derived.Test.YtmmjfpcmempeeaaDoorUtfPure
namespace Go.Proofs.YtmmjfpcmempeeaaDoor
open Go.RowKit
def SR.doF (s : SR) (st : Stp) : (Ans × Bool) × SR :=
  if st.k = 1 then (match s.left with
    | [] => ((Ans.tell s.endc, true), { s with op := true })
    | b :: _ => ((⟨[], 0, (b.toNat : Int), false, 0⟩, true), s.take 1 true))
  else if st.k = 2 ∨ st.k = 4 then s.undo st.k
  else if st.k = 3 then (if s.left.length = 0 then ((Ans.tell s.endc, true), { s with op := true })
    else ((⟨[], ((dec s.left).2 : Int), ((dec s.left).1 : Int), false, 0⟩, true), { s.take (dec s.left).2 true with rune := (dec s.left).2 }))
  else if st.k = 5 then (((s.peek st.n).1, true), (s.peek st.n).2)
  else if st.k = 6 then (((s.discard st.n).1, true), (s.discard st.n).2)
  else if st.k = 12 then ((⟨[], (s.size : Int), 0, false, 0⟩, true), s)
  else (((s.line st.k.toNat st.d).1, true), (s.line st.k.toNat st.d).2)
theorem do_fin1 {w w1 w2 : World} {rb g : Nat} {s' : SR} {cs0 cs1 cs : Array Value} {t1 : TypeId} {n r : Int} {b : Bool} {code : Nat} {bv : Value} (hR : SRd w1 rb g s') (hU : Upd (fun k => k = rb) ((w.alloc (.cells cs0 t1)).alloc (.cells cs1 59)) w1) (hu : Upd (fun k => k = w.heap.size + 1) w1 w2) (hrb : rb < w.heap.size) (hg : g < w.heap.size)
    (hcs : cs = #[.slice none 0 0, .int .i64 n, .int .i32 r, .bool b, .int .i64 (code : Int)]) (hbv : bv = .bool true) : DoPost rb g w ((⟨[], n, r, b, code⟩, true), s') (.tuple #[.agg cs, bv]) w2 := by
  subst hcs; subst hbv
  refine ⟨_, rfl, ⟨hR.upd hu (fun h => by omega) (fun h => by omega), ?_⟩, AnsV.num _ _ _ _ _ _⟩
  exact ((((Upd.refl _ _).alloc _).alloc _).trans hU (fun k hk _ => hk)).trans hu (fun k hk hlt => by have hk : k = w.heap.size + 1 := hk; omega)
def stepCells (k : Int) (n : Int) (d : UInt8) : Array Value := #[.int .i64 k, .int .i64 n, .int .u8 (d.toNat : Int)]
def W3 (w : World) (k : Int) (n : Int) (d : UInt8) : World := (w.alloc (.cells #[.int .i64 k, .int .i64 n, .int .u8 (d.toNat : Int)] 53)).alloc (.cells #[.slice none 0 0, .int .i64 0, .int .i32 0, .bool false, .int .i64 0] 59)
theorem W3_new (w : World) (k n : Int) (d : UInt8) : New w (W3 w k n d) := ((Upd.refl _ _).alloc _).alloc _
theorem W3_ans {w : World} {k n : Int} {d : UInt8} {M : Nat → Prop} {w1 : World} (u : Upd M (W3 w k n d) w1) (hm : ¬ M (w.heap.size + 1)) : w1.heap[w.heap.size + 1]? = some (.cells #[.slice none 0 0, .int .i64 0, .int .i32 0, .bool false, .int .i64 0] 59 (0, 0)) :=
  u.heap (heap_alloc2_new _ _ _) hm
theorem SRd.rlt {w : World} {rb g : Nat} {s : SR} (h : SRd w rb g s) : rb < w.heap.size := by
  obtain ⟨⟨oL, cL, oA, cA, hb, _⟩, _⟩ := h; exact (Array.getElem?_eq_some_iff.1 hb).1
set_option maxRecDepth 100000 in
set_option maxHeartbeats 1000000 in
theorem specDo12 {w : World} {rb g : Nat} {s : SR} (h : SRd w rb g s) (n : Int) (d : UInt8) :
    Calls Tryd.prog 26 #[.pointer (some ⟨rb, 0, none⟩), .agg #[.int .i64 12, .int .i64 n, .int .u8 (d.toNat : Int)]] w (Ret (DoPost rb g w ((⟨[], (s.size : Int), 0, false, 0⟩, true), s))) := by
  have hrb := h.rlt
  have hg := h.glt
  have H := Lib.hid (h.new (W3_new w 12 n d))
  obtain ⟨⟨oL, cL, oA, cA, hb, _, _⟩, _⟩ := h.new (W3_new w 12 n d)
  have c1 : (W3 w 12 n d).cell? ⟨rb, 1, none⟩ = some (.int .i64 (s.size : Int)) := (SRd.cells hb).2.1
  unfold W3 at c1
  clear h hb
  go_enter Tryd.func26, Tryd.ntmps26
  go_wp2_with (refine wpList_plain rfl (fun K hK => ?_); refine wp_storeAll (n := 5) (by kernel_rfl) (.tmp 4) (.tmp 101) rfl (w.heap.size + 1) rfl #[.slice none 0 0, .int .i64 (s.size : Int), .int .i32 0, .bool false, .int .i64 0] rfl rfl (by simp [Value.oneCell']) _ 59 (W3_ans (M := fun _ => False) (Upd.refl _ _) (fun hh => hh)) rfl ?_; intro w2 h2 u2 z2; refine hK _ _ ?_; clear hK K)
  refine bodyPost_ret (results_cell_tmp' (p := 4) (u := 5) rfl _ _ (w.heap.size + 1) 59 _ (0, 0) _ rfl h2 Tryd.underlying59 rfl (by kernel_rfl)) rfl ?_
  exact do_fin1 (code := 0) H.out (Upd.refl _ _) u2 hrb hg rfl rfl
set_option maxRecDepth 100000 in
set_option maxHeartbeats 1000000 in
theorem specDo24 {w : World} {rb g : Nat} {s : SR} (h : SRd w rb g s) (ok : SOk s) (k : Int) (hk : k = 2 ∨ k = 4) (n : Int) (d : UInt8) :
    Calls Tryd.prog 26 #[.pointer (some ⟨rb, 0, none⟩), .agg #[.int .i64 k, .int .i64 n, .int .u8 (d.toNat : Int)]] w (Ret (DoPost rb g w (s.undo k))) := by
  have hrb := h.rlt
  have hg := h.glt
  have K1 := Lib.hid (specUndo (h.new (W3_new w k n d)) ok k)
  clear h
  rcases hk with rfl | rfl
  all_goals
    go_enter Tryd.func26, Tryd.ntmps26
    go_wp2_with (first | (go_at_call 46; refine callRet K1.out ?_; intro v w1 hv; obtain ⟨av, rfl, hE, hA⟩ := hv; have HE := Lib.hid hE; have HA := Lib.hid hA; clear hE hA) | (refine wpList_plain rfl (fun K hK => ?_); obtain ⟨cs, hcs, hsz, hone⟩ := HA.out.cells; refine wp_storeAll (n := 5) (by kernel_rfl) (.tmp 4) (.tmp 39) rfl (w.heap.size + 1) rfl cs hcs hsz hone _ 59 (W3_ans HE.out.2 (fun hh => by omega)) rfl ?_; intro w2 h2 u2 z2; refine hK _ _ ?_; clear hK K))
    refine bodyPost_ret (results_cell_tmp' (p := 4) (u := 5) rfl _ _ (w.heap.size + 1) 59 _ (0, 0) _ rfl h2 Tryd.underlying59 rfl (by rw [hsz]; kernel_rfl)) rfl ?_
    obtain ⟨ab, c, hv, hby, hp⟩ := HA.out
    refine ⟨av, by rw [hcs]; rfl, ⟨HE.out.1.upd u2 (fun h => by omega) (fun h => by omega), ?_⟩, ab, c, hv, hby.upd u2 (fun p hp' _ h => by have := hp p hp'; omega), hp⟩
    exact (((W3_new w _ n d).mono (fun _ h _ => h.elim)).trans HE.out.2 (fun k hk _ => hk)).trans u2 (fun k hk hlt => by have hk : k = w.heap.size + 1 := hk; omega)
set_option maxRecDepth 100000 in
set_option maxHeartbeats 1000000 in
theorem specDo1 {w : World} {rb g : Nat} {s : SR} (h : SRd w rb g s) (n : Int) (d : UInt8) :
    Calls Tryd.prog 26 #[.pointer (some ⟨rb, 0, none⟩), .agg #[.int .i64 1, .int .i64 n, .int .u8 (d.toNat : Int)]] w (Ret (DoPost rb g w (s.doF ⟨1, n, d⟩))) := by
  have hrb := h.rlt
  have hg := h.glt
  have H := Lib.hid (h.new (W3_new w 1 n d))
  have H0 := Lib.hid h
  obtain ⟨⟨oL, cL, oA, cA, hb0, hl, _⟩, _⟩ := h
  have hb := hb0
  obtain ⟨c0, c1, c2, _, _, _, c6, hf⟩ := SRd.cells hb0
  have l1 := hl.1
  have l2 := hl.2.1
  unfold maxLen at l2
  have hrn : rb ≠ w.heap.size + 1 := by omega
  have hrn' : w.heap.size + 1 ≠ rb := by omega
  cases hleft : s.left with
  | nil =>
    rw [hleft] at c0
    have e : s.doF ⟨1, n, d⟩ = ((Ans.tell s.endc, true), { s with op := true }) := by show (match s.left with | [] => _ | b :: _ => _) = _; rw [hleft]
    rw [e]
    clear hb hb0 hl e
    simp only [List.length_nil] at c0
    go_enter Tryd.func26, Tryd.ntmps26
    go_wp2_with fail
    have fin : (((w.setCell ⟨rb, 6, none⟩ (.bool true)).alloc (.cells #[.int .i64 1, .int .i64 n, .int .u8 (d.toNat : Int)] 53)).alloc (.cells #[.slice none 0 0, .int .i64 0, .int .i32 0, .bool false, .int .i64 (s.endc : Int)] 59)).heap[w.heap.size + 1]? = some (.cells #[.slice none 0 0, .int .i64 0, .int .i32 0, .bool false, .int .i64 (s.endc : Int)] 59 (0, 0)) := by
      rw [← size_setCell' w ⟨rb, 6, none⟩ (.bool true)]; exact heap_alloc2_new _ _ _
    refine bodyPost_ret (results_cell_tmp' (p := 4) (u := 5) rfl _ _ (w.heap.size + 1) 59 _ (0, 0) _ rfl fin Tryd.underlying59 rfl (by kernel_rfl)) rfl ?_
    exact ⟨_, rfl, ⟨(H0.out.setOp true).new (((Upd.refl _ _).alloc _).alloc _), (((Upd.refl (fun k => k = rb) w).setCell (fun _ => rfl) _).alloc _).alloc _⟩, AnsV.tell _ _ _⟩
  | cons b l =>
    rw [hleft] at c0
    have e : s.doF ⟨1, n, d⟩ = ((⟨[], 0, (b.toNat : Int), false, 0⟩, true), s.take 1 true) := by show (match s.left with | [] => _ | b :: _ => _) = _; rw [hleft]
    rw [e]
    have hlen : 1 ≤ s.left.length := by rw [hleft]; simp
    have q0 : (((l.length + 1 : Nat) : Int) == 0) = false := by rw [beq_eq_false_iff_ne]; omega
    have KT := Lib.hid (specTake H.out 1 true hlen)
    have HLF := Lib.hid hleft
    have hw32 : wrap32 (b.toNat : Int) = (b.toNat : Int) := by have := b.toNat_lt; unfold wrap32; omega
    clear hb hb0 hl e hlen hleft
    simp only [List.length_cons] at c0
    go_enter Tryd.func26, Tryd.ntmps26
    go_wp2_with (first | (go_at_call 45; refine callRet KT.out ?_; intro v w1 hv; obtain ⟨hE, o, ct, rfl, hby⟩ := hv; rw [HLF.out] at hby; have e0 : w1.cell? ⟨g, o, none⟩ = some (.int .u8 (b.toNat : Int)) := (by have := (hby.2.2.2 _ rfl).2 0 (by simp); simpa [bv] using this); have HE := Lib.hid hE; clear hE hby) | (refine wpList_plain rfl (fun K hK => ?_); refine wp_storeAll (n := 5) (by kernel_rfl) (.tmp 4) (.tmp 31) rfl (w.heap.size + 1) rfl #[.slice none 0 0, .int .i64 0, .int .i32 (b.toNat : Int), .bool false, .int .i64 0] rfl rfl (by simp [Value.oneCell']) _ 59 (W3_ans HE.out.2 (fun hh => by omega)) rfl ?_; intro w2 h2 u2 z2; refine hK _ _ ?_; clear hK K))
    refine bodyPost_ret (results_cell_tmp' (p := 4) (u := 5) rfl _ _ (w.heap.size + 1) 59 _ (0, 0) _ rfl h2 Tryd.underlying59 rfl (by kernel_rfl)) rfl ?_
    exact do_fin1 (code := 0) HE.out.1 HE.out.2 u2 hrb hg rfl rfl
set_option maxRecDepth 100000 in
set_option maxHeartbeats 1000000 in
theorem specDo3 {w : World} {rb g : Nat} {s : SR} (h : SRd w rb g s) (n : Int) (d : UInt8) :
    Calls Tryd.prog 26 #[.pointer (some ⟨rb, 0, none⟩), .agg #[.int .i64 3, .int .i64 n, .int .u8 (d.toNat : Int)]] w (Ret (DoPost rb g w (s.doF ⟨3, n, d⟩))) := by
  have hrb := h.rlt
  have hg := h.glt
  have H := Lib.hid (h.new (W3_new w 3 n d))
  have H0 := Lib.hid h
  obtain ⟨⟨oL, cL, oA, cA, hb0, hl, _⟩, _⟩ := h
  have hb := hb0
  obtain ⟨c0, c1, c2, _, _, _, c6, hf⟩ := SRd.cells hb0
  have l1 := hl.1
  have l2 := hl.2.1
  unfold maxLen at l2
  have hrn : rb ≠ w.heap.size + 1 := by omega
  have hrn' : w.heap.size + 1 ≠ rb := by omega
  by_cases h0 : s.left.length = 0
  · have e : s.doF ⟨3, n, d⟩ = ((Ans.tell s.endc, true), { s with op := true }) := if_pos h0
    rw [e]
    rw [h0] at c0
    clear hb hb0 hl e h0
    go_enter Tryd.func26, Tryd.ntmps26
    go_wp2_with fail
    have fin : (((w.setCell ⟨rb, 6, none⟩ (.bool true)).alloc (.cells #[.int .i64 3, .int .i64 n, .int .u8 (d.toNat : Int)] 53)).alloc (.cells #[.slice none 0 0, .int .i64 0, .int .i32 0, .bool false, .int .i64 (s.endc : Int)] 59)).heap[w.heap.size + 1]? = some (.cells #[.slice none 0 0, .int .i64 0, .int .i32 0, .bool false, .int .i64 (s.endc : Int)] 59 (0, 0)) := by
      rw [← size_setCell' w ⟨rb, 6, none⟩ (.bool true)]; exact heap_alloc2_new _ _ _
    refine bodyPost_ret (results_cell_tmp' (p := 4) (u := 5) rfl _ _ (w.heap.size + 1) 59 _ (0, 0) _ rfl fin Tryd.underlying59 rfl (by kernel_rfl)) rfl ?_
    exact ⟨_, rfl, ⟨(H0.out.setOp true).new (((Upd.refl _ _).alloc _).alloc _), (((Upd.refl (fun k => k = rb) w).setCell (fun _ => rfl) _).alloc _).alloc _⟩, AnsV.tell _ _ _⟩
  · have e : s.doF ⟨3, n, d⟩ = ((⟨[], ((dec s.left).2 : Int), ((dec s.left).1 : Int), false, 0⟩, true), { s.take (dec s.left).2 true with rune := (dec s.left).2 }) := if_neg h0
    rw [e]
    have hp := dec_pos (bs := s.left) (by omega)
    have KR := Lib.hid (specRune (hl.new (W3_new w 3 n d)) (by omega))
    have KT := Lib.hid (specTake H.out (dec s.left).2 true hp.2.1)
    obtain ⟨K0, hK0⟩ : ∃ K0, (dec s.left).2 = K0 := ⟨_, rfl⟩
    obtain ⟨R0, hR0⟩ : ∃ R0, (dec s.left).1 = R0 := ⟨_, rfl⟩
    rw [hK0] at KT hp
    rw [hK0, hR0] at KR
    rw [hK0, hR0]
    obtain ⟨m, hm⟩ : ∃ m, s.left.length = m := ⟨_, rfl⟩
    rw [hm] at c0 l1 KR hp
    have q0 : ((m : Int) == 0) = false := by rw [beq_eq_false_iff_ne]; omega
    clear hb hb0 hl e h0 hK0 hR0 hm
    have hk4 : K0 ≤ 4 := hp.2.2.1
    clear hp
    go_enter Tryd.func26, Tryd.ntmps26
    go_wp2_with (first | (go_at_call 13; refine callRet KR.out ?_; rintro v w1 ⟨rfl, rfl⟩) | (go_at_call 45; refine callRet KT.out ?_; intro v w1 hv; obtain ⟨hE, o, ct, rfl, _⟩ := hv; have HE := Lib.hid hE; have H3 := Lib.hid (hE.1.setRune K0); have HU3 : Hid (Upd (fun k => k = rb) (W3 w 3 n d) (w1.setCell ⟨rb, 5, none⟩ (.int .i64 (K0 : Int)))) := hE.2.setCell (fun _ => rfl) _; obtain ⟨⟨_, _, _, _, hb1, _, _⟩, _⟩ := hE.1; obtain ⟨_, _, _, _, _, d5, _, df⟩ := SRd.cells hb1; clear hE hb1) | (refine wpList_plain rfl (fun K hK => ?_); refine wp_storeAll (n := 5) (by kernel_rfl) (.tmp 4) (.tmp 74) rfl (w.heap.size + 1) rfl #[.slice none 0 0, .int .i64 (K0 : Int), .int .i32 (R0 : Int), .bool false, .int .i64 0] rfl rfl (by simp [Value.oneCell']) _ 59 (W3_ans HU3.out (fun hh => by omega)) rfl ?_; intro w2 h2 u2 z2; refine hK _ _ ?_; clear hK K))
    refine bodyPost_ret (results_cell_tmp' (p := 4) (u := 5) rfl _ _ (w.heap.size + 1) 59 _ (0, 0) _ rfl h2 Tryd.underlying59 rfl (by kernel_rfl)) rfl ?_
    exact do_fin1 (code := 0) H3.out HU3.out u2 hrb hg rfl rfl
/-- what Do asks of a reader -/
structure SFit (s : SR) : Prop where
  ok : SOk s
  pos : 0 < s.size
  size : s.size ≤ 70368744177664
  left : s.left.length ≤ 1048576
  endc : s.endc ≠ 3
theorem specDoA {w : World} {rb g : Nat} {s : SR} (h : SRd w rb g s) (hf : SFit s) (st : Stp) (hk : 1 ≤ st.k ∧ st.k ≤ 12 ∧ st.k ≠ 11) (hn : -9223372036854775808 ≤ st.n ∧ st.n ≤ 9223372036854775807) :
    Calls Tryd.prog 26 #[.pointer (some ⟨rb, 0, none⟩), st.v] w (Ret (DoPost rb g w (s.doF st))) := by
  obtain ⟨k, n, d⟩ := st
  obtain ⟨k, rfl⟩ := Int.eq_ofNat_of_zero_le (show 0 ≤ k from by have : 1 ≤ k := hk.1; omega)
  have hk2 : k < 13 := by have : (k : Int) ≤ 12 := hk.2.1; omega
  have hk1 : 1 ≤ k := by have : 1 ≤ (k : Int) := hk.1; omega
  have hk11 : k ≠ 11 := by have : (k : Int) ≠ 11 := hk.2.2; omega
  match k, hk1, hk2, hk11 with
  | 1, _, _, _ => exact specDo1 h n d
  | 2, _, _, _ => exact specDo24 h hf.ok 2 (.inl rfl) n d
  | 3, _, _, _ => exact specDo3 h n d
  | 4, _, _, _ => exact specDo24 h hf.ok 4 (.inr rfl) n d
  | 5, _, _, _ => exact specDo5 h n _ hn.2
  | 6, _, _, _ => exact specDo6 h n _ hn.1 hn.2
  | 7, _, _, _ => exact specDoLn h 7 n d (.inl rfl) hf.size hf.left
  | 8, _, _, _ => exact specDo8 h n d hf.size hf.pos hf.endc
  | 9, _, _, _ => exact specDoLn h 9 n d (.inr (.inl rfl)) hf.size hf.left
  | 10, _, _, _ => exact specDoLn h 10 n d (.inr (.inr rfl)) hf.size hf.left
  | 12, _, _, _ => exact specDo12 h n d
  | 0, h, _, _ => omega
  | 11, _, _, h => omega
  | k + 13, _, h, _ => omega
end Go.Proofs.YtmmjfpcmempeeaaDoor
