/- strings.Builder: copyCheck, Grow, Write, String. -/
import Derived.Test.YtnpalkndocokkaaDoorFrags
import Derived.Lib.Builder
import Derived.Lib.MakeNoZero
import Derived.Lib.UnsafeStr
namespace Go.Proofs.YtnpalkndocokkaaDoor
open Go.RowKit
/-- a builder at block b -/
def Bld (w : World) (base b : Nat) (p v : Value) (bs : List UInt8) : Prop :=
  base ≤ b ∧ w.heap[b]? = some (.cells #[p, v] 113 (0, 0)) ∧ w.ownsRow base 5 1 v bs.length (bs.map bv) ∧ v.ownBlock ≠ some b
theorem bInfo : ∃ j, Tryd.prog.info? 113 = some j ∧ j.size = 2 := by
  have h : (Tryd.prog.info? 113).map (·.size) = some 2 := by kernel_rfl
  cases hj : Tryd.prog.info? 113 with
  | none => rw [hj] at h; cases h
  | some j => rw [hj] at h; exact ⟨j, rfl, by simpa using h⟩
theorem bLies : liesAt Tryd.prog Tryd.prog.depth 113 (2 / Tryd.prog.cellsOf 113) 0 113 1 = true := by kernel_rfl
set_option maxRecDepth 100000 in
set_option maxHeartbeats 1000000 in
theorem copyCheck0 {w : World} {b : Nat} {v : Value} (h : w.heap[b]? = some (.cells #[.pointer none, v] 113 (0, 0))) :
    Calls Tryd.prog 67 #[.pointer (some ⟨b, 0, none⟩)] w (Ret fun _ w' => Upd (fun k => k = b) w w' ∧ w'.heap[b]? = some (.cells #[.pointer (some ⟨b, 0, none⟩), v] 113 (0, 0))) := by
  have hc0 : w.cell? ⟨b, 0, none⟩ = some (.pointer none) := by rw [World.cell_of_heap h]; rfl
  have hsh : w.shape? b = some (113, 2) := by simp [World.shape?, h]
  have hz : w.frozen? ⟨b, 0, none⟩ = false := by simp [World.frozen?, h]
  obtain ⟨j, hj, hj2⟩ := bInfo
  have e1 := Lib.run_to_unsafe (P := Tryd.prog) (w := w) (t := 113) ⟨b, 0, none⟩ Tryd.underlying111 Tryd.underlying121 hj (by omega) hsh (show 0 < 2 by omega)
  have e2 := Lib.run_from_unsafe (P := Tryd.prog) (w := w) (u := 113) ⟨b, 0, none⟩ Tryd.underlying121 Tryd.underlying111 hj hsh bLies
  have H := Lib.hid h
  clear h hsh hj hj2
  go_enter Tryd.func67, Tryd.ntmps67
  go_wp2
  rw [run_callFunc_extern Tryd.func69 (by kernel_rfl) (by kernel_rfl) (by kernel_rfl) (e := Extern.AbiNoEscape.same) (by kernel_rfl), Lib.run_noEscape]
  simp only [Result.andThen]
  rw [Oper.upon_value]
  go_wp2
  refine bodyPost_end (results_none rfl _ _ _) rfl ?_
  exact ⟨(Upd.refl (fun k => k = b) w).setCell (p := ⟨b, 0, none⟩) (fun _ => rfl) _, by simp [World.setCell, Array.getElem?_modify, H.out]⟩
set_option maxRecDepth 100000 in
set_option maxHeartbeats 1000000 in
theorem copyCheck1 {w : World} {b : Nat} {v : Value} (h : w.heap[b]? = some (.cells #[.pointer (some ⟨b, 0, none⟩), v] 113 (0, 0))) :
    Calls Tryd.prog 67 #[.pointer (some ⟨b, 0, none⟩)] w (Ret fun _ w' => w = w') := by
  have hc0 : w.cell? ⟨b, 0, none⟩ = some (.pointer (some ⟨b, 0, none⟩)) := by rw [World.cell_of_heap h]; rfl
  obtain ⟨j, hj, hj2⟩ := bInfo
  have e1 := Lib.run_neq_ptr_same (P := Tryd.prog) (w := w) (tp := 111) (te := 113) ⟨b, 0, none⟩ Tryd.underlying111 hj
  clear h hj hj2
  go_enter Tryd.func67, Tryd.ntmps67
  go_wp2
  refine bodyPost_end (results_none rfl _ _ _) rfl ?_
  rfl
/-- room for at least n bytes, whatever they are -/
theorem makeNoZero (n : Nat) (hn : n ≤ 70368744177664) (w : World) : ∃ cs : Array Value, (Extern.BytealgMakeNoZero.makeNoZero #[3] #[29] #[.int .i64 (n : Int)]).run Tryd.prog w = .ok (.slice (some ⟨w.heap.size, 0, none⟩) n cs.size) (w.drew.drew.alloc (.cells cs 5)) ∧ n ≤ cs.size ∧ cs.size ≤ maxLen := by
  obtain ⟨cs, h1, h2, h3⟩ := Lib.run_makeNoZero (P := Tryd.prog) w #[3] 29 5 Tryd.underlying29 n (by omega)
  exact ⟨cs, h1, h2, h3 (by unfold maxLen; omega)⟩
set_option maxRecDepth 100000 in
set_option maxHeartbeats 1000000 in
theorem grow {w : World} {b n : Nat} {p : Value} (h : w.heap[b]? = some (.cells #[p, .slice none 0 0] 113 (0, 0))) (hn : n ≤ 70368744177664) :
    Calls Tryd.prog 68 #[.pointer (some ⟨b, 0, none⟩), .int .i64 (n : Int)] w (Ret fun _ w' => ∃ g cs, w.heap.size ≤ g ∧ n ≤ cs.size ∧ cs.size ≤ maxLen ∧ w'.heap[g]? = some (.cells cs 5 (0, 0)) ∧ Upd (fun k => k = b) w w' ∧ w'.heap[b]? = some (.cells #[p, .slice (some ⟨g, 0, none⟩) 0 cs.size] 113 (0, 0))) := by
  have hc1 : w.cell? ⟨b, 1, none⟩ = some (.slice none 0 0) := by rw [World.cell_of_heap h]; rfl
  have H := Lib.hid h
  clear h
  go_enter Tryd.func68, Tryd.ntmps68
  go_wp2_with fail
  refine wp_region_lx {ld := [17], gd := [13]} (by kernel_rfl) (by kernel_rfl) ⟨fun _ _ _ h => h.2, fun _ _ h => h⟩ ?_
  (repeat' (first | (refine wpLx_calm rfl rfl rfl (fun K hK => ?_); go_step <;> (refine hK _ ?_; clear hK K)) | (refine wpLx_skip2 rfl rfl rfl ?_; go_simp) | (refine wpLx_calm2 rfl rfl rfl rfl rfl (fun K hK => ?_); go_step <;> (refine hK _ ?_; clear hK K))))
  obtain ⟨cs, m1, m2, m3⟩ := makeNoZero n hn w.drew
  refine wpLx_grow rfl rfl rfl (Upd.refl _ _) (fun K hK => ?_)
  go_step
  rw [run_callFunc_extern Tryd.func70 (by kernel_rfl) (by kernel_rfl) (by kernel_rfl) (e := Extern.BytealgMakeNoZero.makeNoZero #[3] #[29]) (by kernel_rfl), m1]
  simp only [Result.andThen]
  rw [Oper.upon_value]
  refine hK _ _ ((Upd.refl _ _).drew.drew.alloc _) ?_
  clear hK K m1
  unfold maxLen at m3
  (repeat' (first | (refine wpLx_calm rfl rfl rfl (fun K hK => ?_); go_step <;> (refine hK _ ?_; clear hK K)) | (refine wpLx_skip2 rfl rfl rfl ?_; go_simp) | (refine wpLx_calm2 rfl rfl rfl rfl rfl (fun K hK => ?_); go_step <;> (refine hK _ ?_; clear hK K))))
  refine wpLx_load rfl rfl ((Upd.refl _ _).drew.drew.alloc _) rfl rfl (by kernel_rfl) (show w.drew.cell? ⟨b, 1, none⟩ = some (.slice none 0 0) from hc1) ?_
  (repeat' (first | (refine wpLx_calm rfl rfl rfl (fun K hK => ?_); go_step <;> (refine hK _ ?_; clear hK K)) | (refine wpLx_skip2 rfl rfl rfl ?_; go_simp) | (refine wpLx_calm2 rfl rfl rfl rfl rfl (fun K hK => ?_); go_step <;> (refine hK _ ?_; clear hK K))))
  refine wpLx_nil ?_
  have hu : New w (w.alloc (.cells cs 5)) := (Upd.refl _ _).alloc _
  have hbb := hu.heap H.out (fun h => h)
  have hb1 : (w.alloc (.cells cs 5)).cell? ⟨b, 1, none⟩ = some (.slice none 0 0) := hu.cell hc1 (fun h => h)
  have hz : (w.alloc (.cells cs 5)).frozen? ⟨b, 1, none⟩ = false := by simp [World.frozen?, hbb]
  have HBB := Lib.hid hbb
  have HU := Lib.hid hu
  have hlt : b < w.heap.size := (Array.getElem?_eq_some_iff.1 H.out).1
  have hne : ¬ b = w.heap.size := by omega
  clear hbb hu
  go_wp2_with (refine wpList_plain rfl (fun K hK => ?_); refine wp_copy eB (.tmp 20) (.tmp 24) 29 rfl w.heap.size 0 0 cs.size rfl cs 5 (by exact heap_alloc_new w _) none 0 0 rfl (fun _ => ⟨rfl, rfl⟩) [] (by simp) (fun p hp => by cases hp) (by simp) (fun u hu => by cases hu) ?_; intro w2 hw2 hu2 hz2; have hbb2 := hu2.heap HBB.out hne; have HBB2 := Lib.hid hbb2; have HW2 := Lib.hid hw2; have HU2 := Lib.hid hu2; clear hb1 hz; have hz : w2.frozen? ⟨b, 1, none⟩ = false := (by simp [World.frozen?, hbb2]); have hb1 : w2.cell? ⟨b, 1, none⟩ = some (.slice none 0 0) := (by rw [World.cell_of_heap hbb2]; rfl); clear hbb2 hw2 hu2 hz2; refine hK _ _ ?_; clear hK K)
  refine bodyPost_end (results_none rfl _ _ _) rfl ?_
  have hW2 := HW2.out
  rw [show (splice cs.toList 0 ([] : List Value)).toArray = cs by simp [splice]] at hW2
  have hu2 : Upd (fun k => k = w.heap.size) (w.alloc (.cells cs 5)) w2 := ((Upd.refl _ _).drew.drew.drew).trans HU2.out (fun _ h _ => h)
  refine ⟨w.heap.size, cs, Nat.le_refl _, m2, by unfold maxLen; exact m3, ?_, ?_, ?_⟩
  · simp [World.setCell, Array.getElem?_modify, hne, hW2]
  · exact ((HU.out.trans hu2 (fun k hk hlt => by have hk : k = w.heap.size := hk; omega)).mono (M := fun k => k = b) (fun _ h _ => h.elim)).setCell (p := ⟨b, 1, none⟩) (fun _ => rfl) _
  · simp [World.setCell, Array.getElem?_modify, HBB2.out]
/-- a builder at block b, its bytes in a row from base on -/
theorem Bld.nil {w : World} {base b : Nat} {p : Value} (hb : base ≤ b) (h : w.heap[b]? = some (.cells #[p, .slice none 0 0] 113 (0, 0))) : Bld w base b p (.slice none 0 0) [] := ⟨hb, h, World.ownsRow_nil _ _ _ _, by simp [Value.ownBlock]⟩
set_option maxRecDepth 100000 in
set_option maxHeartbeats 1000000 in
theorem bGrow {w : World} {base b n : Nat} (hbase : base ≤ b) (h : w.heap[b]? = some (.cells #[.pointer none, .slice none 0 0] 113 (0, 0))) (hn : n ≤ 70368744177664) :
    Calls Tryd.prog 61 #[.pointer (some ⟨b, 0, none⟩), .int .i64 (n : Int)] w (Ret fun _ w' => Upd (fun k => k = b) w w' ∧ ∃ v, Bld w' base b (.pointer (some ⟨b, 0, none⟩)) v []) := by
  have hlt : b < w.heap.size := (Array.getElem?_eq_some_iff.1 h).1
  have K1 := Lib.hid (copyCheck0 h)
  clear h
  by_cases h0 : 0 < n
  · go_enter Tryd.func61, Tryd.ntmps61
    go_wp2_with (go_at_call 67; refine callRet K1.out ?_; rintro _ w1 ⟨hu1, hb1⟩; have HU1 := Lib.hid hu1; have HB1 := Lib.hid hb1; have hc1 : w1.cell? ⟨b, 1, none⟩ = some (.slice none 0 0) := (by rw [World.cell_of_heap hb1]; rfl); clear hu1 hb1)
    refine wp_region_lx {} (by kernel_rfl) (by kernel_rfl) ⟨fun _ _ _ h => h.2, fun _ _ h => h⟩ ?_
    (repeat' (first | (refine wpLx_calm rfl rfl rfl (fun K hK => ?_); go_step <;> (refine hK _ ?_; clear hK K)) | (refine wpLx_skip2 rfl rfl rfl ?_; go_simp) | (refine wpLx_calm2 rfl rfl rfl rfl rfl (fun K hK => ?_); go_step <;> (refine hK _ ?_; clear hK K))))
    refine wpLx_nil ?_
    have K2 := Lib.hid (grow (n := n) (w := w1.drew) HB1.out hn)
    go_wp2_with (go_at_call 68; refine callRet K2.out ?_; rintro _ w2 ⟨g, cs, q1, q2, q3, q4, q5, q6⟩)
    refine bodyPost_end (results_none rfl _ _ _) rfl ?_
    refine ⟨HU1.out.drew.trans (M' := fun k => k = b) q5 (fun _ h _ => h), _, hbase, q6, ⟨rfl, .inr ⟨g, cs.size, cs, rfl, ?_, q4, Nat.zero_le _, q3, by simp, by simp⟩⟩, ?_⟩
    · have := HU1.out.size
      have q1 : w1.heap.size ≤ g := q1
      omega
    · have := HU1.out.size
      have q1 : w1.heap.size ≤ g := q1
      simp only [Value.ownBlock, ne_eq, Option.some.injEq]
      omega
  · obtain rfl : n = 0 := by omega
    go_enter Tryd.func61, Tryd.ntmps61
    go_wp2_with (go_at_call 67; refine callRet K1.out ?_; rintro _ w1 ⟨hu1, hb1⟩; have HU1 := Lib.hid hu1; have HB1 := Lib.hid hb1; have hc1 : w1.cell? ⟨b, 1, none⟩ = some (.slice none 0 0) := (by rw [World.cell_of_heap hb1]; rfl); clear hu1 hb1)
    refine wp_region_lx {} (by kernel_rfl) (by kernel_rfl) ⟨fun _ _ _ h => h.2, fun _ _ h => h⟩ ?_
    (repeat' (first | (refine wpLx_calm rfl rfl rfl (fun K hK => ?_); go_step <;> (refine hK _ ?_; clear hK K)) | (refine wpLx_skip2 rfl rfl rfl ?_; go_simp) | (refine wpLx_calm2 rfl rfl rfl rfl rfl (fun K hK => ?_); go_step <;> (refine hK _ ?_; clear hK K))))
    refine wpLx_nil ?_
    go_wp2
    refine bodyPost_end (results_none rfl _ _ _) rfl ?_
    exact ⟨HU1.out.drew, _, Bld.nil hbase HB1.out⟩
theorem own_one {w : World} {base e n : Nat} {v : Value} {xs : List Value} (h : w.ownsRow base e 1 v n xs) : v.oneCell' = true := by
  rcases h.2 with ⟨rfl, _⟩ | ⟨g, cap, cur, rfl, _⟩
  · rfl
  · rfl
set_option maxRecDepth 100000 in
set_option maxHeartbeats 1000000 in
theorem bWrite {w : World} {base b c : Nat} {v : Value} {bs cs : List UInt8} {a : Option Addr} {m : Nat} (h : Bld w base b (.pointer (some ⟨b, 0, none⟩)) v bs) (hb : BytesA w a c cs) (hm : cs.length = m) (hl : bs.length + m ≤ 70368744177664) (hbase : base ≤ w.heap.size) :
    Calls Tryd.prog 62 #[.pointer (some ⟨b, 0, none⟩), .slice a m c] w (Ret fun _ w' => Upd (fun k => base ≤ k) w w' ∧ ∃ v', Bld w' base b (.pointer (some ⟨b, 0, none⟩)) v' (bs ++ cs)) := by
  obtain ⟨hbb, hh, ho, hne⟩ := h
  have K1 := Lib.hid (copyCheck1 hh)
  have hblt : b < w.heap.size := (Array.getElem?_eq_some_iff.1 hh).1
  have hc1 : w.cell? ⟨b, 1, none⟩ = some v := by rw [World.cell_of_heap hh]; rfl
  have HH := Lib.hid hh
  have HO := Lib.hid ho
  have HNE := Lib.hid hne
  have HBY := Lib.hid hb
  have HM := Lib.hid hm
  clear hh ho hne hb hm
  go_enter Tryd.func62, Tryd.ntmps62
  go_wp2_with (first | (go_at_call 67; refine callRet K1.out ?_; rintro _ w1 rfl) | (at_builtin; refine wpList_plain rfl (fun K hK => ?_); refine wp_append eB (.tmp 12) (.tmp 13) rfl base v bs.length (bs.map bv) rfl HO.out a m c (cs.map bv) rfl (by rw [List.length_map, HM.out]; omega) (fun h => by have := HBY.out.2.2.1 h; have := HBY.out.1; have := HM.out; omega) (fun p hp => by subst hp; exact HBY.out.news) (oneCell_bytes _) (by unfold maxLen; omega) (by omega) hbase ?_; intro v4 w4 h1 h2 h3; have hg4 : w4.heap[b]? = some (.cells #[.pointer (some ⟨b, 0, none⟩), v] 113 (0, 0)) := ((h2.block b hblt (fun e => HNE.out e.symm)).trans HH.out); have HG4 := Lib.hid hg4; have HO4 := Lib.hid h1; have HR4 := Lib.hid h2; have ONE4 := Lib.hid (own_one h1); clear h1 h2 h3 hg4; refine hK _ _ ?_; clear hK K) | (refine wpList_plain rfl (fun K hK => ?_); refine wp_store (by kernel_rfl) (.tmp 16) (.tmp 14) rfl b 1 rfl v4 rfl ONE4.out _ _ HG4.out (by simp) ?_; intro w5 hw5 hu5 hz5; have HW5 := Lib.hid hw5; have HU5 := Lib.hid hu5; clear hw5 hu5 hz5; refine hK _ _ ?_; clear hK K))
  refine bodyPost_ret (results_tmp2 rfl _ _ _) rfl ?_
  have u4 : Upd (fun k => base ≤ k) w w4 := (Upd.refl _ _).grown HR4.out (fun k hk _ => (ownsRow_block HO.out hk).1)
  have hne4 := Lib.ownBlock_ne HO4.out HG4.out (by decide)
  refine ⟨u4.trans HU5.out (fun k hk _ => by have hk : k = b := hk; omega), v4, hbb, HW5.out, ?_, hne4⟩
  rw [List.length_append, HM.out, List.map_append]
  exact ⟨HO4.out.1, by
    rcases HO4.out.2 with ⟨q1, q2⟩ | ⟨g, cap, cur, q1, q2, q3, q4⟩
    · exact .inl ⟨q1, q2⟩
    · exact .inr ⟨g, cap, cur, q1, q2, HU5.out.heap q3 (fun hk => hne4 (by rw [q1]; have hk : g = b := hk; rw [hk]; rfl)), q4⟩⟩
def strV (bs : List UInt8) : Value := .string ⟨bs.toArray⟩
theorem Upd.freeze {M : Nat → Prop} {w : World} {p : Addr} (h : M p.block) (n : Nat) : Upd M w (w.freeze p n) := by
  unfold World.freeze
  split
  · exact Upd.refl _ _
  · exact ⟨rfl, rfl, rfl, by simp, fun k _ hk => by
      simp only [Array.getElem?_modify]
      rw [if_neg (fun e => hk (by rw [← e]; exact h))]⟩
set_option maxRecDepth 100000 in
set_option maxHeartbeats 1000000 in
theorem bString {w : World} {base b : Nat} {p v : Value} {bs : List UInt8} (h : Bld w base b p v bs) :
    Calls Tryd.prog 63 #[.pointer (some ⟨b, 0, none⟩)] w (Ret fun u w' => u = strV bs ∧ Upd (fun k => base ≤ k) w w') := by
  obtain ⟨hbb, hh, ho, hne⟩ := h
  have hc1 : w.cell? ⟨b, 1, none⟩ = some v := by rw [World.cell_of_heap hh]; rfl
  rcases ho.2 with ⟨rfl, q2⟩ | ⟨g, cap, cur, rfl, q2, q3, q4, q5, q6, q7⟩
  · obtain rfl := List.eq_nil_of_length_eq_zero q2
    have HC := Lib.hid hc1
    clear hh ho hne q2
    go_enter Tryd.func63, Tryd.ntmps63
    go_wp2_with fail
    refine wp_region_lx {ld := [11], gd := [7]} (by kernel_rfl) (by kernel_rfl) ⟨fun _ _ _ h => h.2, fun _ _ h => h⟩ ?_
    (repeat' (first | (refine wpLx_calm rfl rfl rfl (fun K hK => ?_); go_step <;> (refine hK _ ?_; clear hK K)) | (refine wpLx_skip2 rfl rfl rfl ?_; go_simp) | (refine wpLx_calm2 rfl rfl rfl rfl rfl (fun K hK => ?_); go_step <;> (refine hK _ ?_; clear hK K))))
    refine wpLx_grow rfl rfl rfl (Upd.refl _ _) (fun K hK => ?_)
    go_step
    try rw [Lib.run_unsafeSliceData_nil]
    try simp only [Result.andThen]
    try rw [Oper.upon_value]
    refine hK _ _ (Upd.refl _ _) ?_
    clear hK K
    (repeat' (first | (refine wpLx_calm rfl rfl rfl (fun K hK => ?_); go_step <;> (refine hK _ ?_; clear hK K)) | (refine wpLx_skip2 rfl rfl rfl ?_; go_simp) | (refine wpLx_calm2 rfl rfl rfl rfl rfl (fun K hK => ?_); go_step <;> (refine hK _ ?_; clear hK K))))
    refine wpLx_load rfl rfl (Upd.refl _ _) rfl rfl (by kernel_rfl) (show w.drew.cell? ⟨b, 1, none⟩ = some (.slice none 0 0) from HC.out) ?_
    (repeat' (first | (refine wpLx_calm rfl rfl rfl (fun K hK => ?_); go_step <;> (refine hK _ ?_; clear hK K)) | (refine wpLx_skip2 rfl rfl rfl ?_; go_simp) | (refine wpLx_calm2 rfl rfl rfl rfl rfl (fun K hK => ?_); go_step <;> (refine hK _ ?_; clear hK K))))
    refine wpLx_eff rfl rfl rfl (fun K hK => ?_)
    go_step
    rw [Lib.run_unsafeString_none]
    simp only [Result.andThen]
    rw [Oper.upon_value]
    refine hK _ _ ?_
    clear hK K
    (repeat' (first | (refine wpLx_calm rfl rfl rfl (fun K hK => ?_); go_step <;> (refine hK _ ?_; clear hK K)) | (refine wpLx_skip2 rfl rfl rfl ?_; go_simp) | (refine wpLx_calm2 rfl rfl rfl rfl rfl (fun K hK => ?_); go_step <;> (refine hK _ ?_; clear hK K))))
    refine wpLx_nil ?_
    go_wp2
    go_ret
    exact ⟨rfl, (Upd.refl _ _).drew⟩
  · have HC := Lib.hid hc1
    obtain ⟨m, hm⟩ : ∃ m, bs.length = m := ⟨_, rfl⟩
    have hsh : w.drew.shape? g = some (5, cur.size) := by
      show w.shape? g = _
      simp [World.shape?, q3]
    have hm63 : m ≤ 9223372036854775807 := by unfold maxLen at q5; omega
    have hcur : cur.size = cap := by omega
    have hcell : ∀ j x, bs[j]? = some x → w.cell? ((⟨g, 0, none⟩ : Addr).add j) = some (.int .u8 x.toNat) := fun j x hx => by
      have hj : j < bs.length := by
        rcases Nat.lt_or_ge j bs.length with h | h
        · exact h
        · rw [List.getElem?_eq_none h] at hx; cases hx
      rw [addr_add, World.cell_of_heap q3]
      have h1 : (cur.toList.take (bs.length * 1))[j]? = (bs.map bv)[j]? := by rw [q7]
      rw [List.getElem?_take_of_lt (by omega), List.getElem?_map, hx] at h1
      simpa [bv] using h1
    have h63 : m ≤ maxLen := by omega
    have hmc : m ≤ cap := by omega
    rw [hm] at hc1 HC
    by_cases h0 : bs = []
    · subst h0
      obtain rfl : m = 0 := hm.symm
      clear hh ho hne q3 q4 q5 q6 q7 hcell hm hm63 h63 hmc hcur
      by_cases hcap : cap = 0
      · subst hcap
        go_enter Tryd.func63, Tryd.ntmps63
        go_wp2_with fail
        refine wp_region_lx {ld := [11], gd := [7]} (by kernel_rfl) (by kernel_rfl) ⟨fun _ _ _ h => h.2, fun _ _ h => h⟩ ?_
        (repeat' (first | (refine wpLx_calm rfl rfl rfl (fun K hK => ?_); go_step <;> (refine hK _ ?_; clear hK K)) | (refine wpLx_skip2 rfl rfl rfl ?_; go_simp) | (refine wpLx_calm2 rfl rfl rfl rfl rfl (fun K hK => ?_); go_step <;> (refine hK _ ?_; clear hK K))))
        refine wpLx_grow rfl rfl rfl (Upd.refl _ _) (fun K hK => ?_)
        go_step
        try rw [Lib.run_unsafeSliceData_zero (hsh := hsh) (hp := Tryd.underlying120)]
        try simp only [Result.andThen]
        try rw [Oper.upon_value]
        refine hK _ _ ((Upd.refl _ _).alloc _) ?_
        clear hK K
        (repeat' (first | (refine wpLx_calm rfl rfl rfl (fun K hK => ?_); go_step <;> (refine hK _ ?_; clear hK K)) | (refine wpLx_skip2 rfl rfl rfl ?_; go_simp) | (refine wpLx_calm2 rfl rfl rfl rfl rfl (fun K hK => ?_); go_step <;> (refine hK _ ?_; clear hK K))))
        refine wpLx_load rfl rfl ((Upd.refl _ _).alloc _) rfl rfl (by kernel_rfl) (show w.drew.cell? ⟨b, 1, none⟩ = some (.slice (some ⟨g, 0, none⟩) 0 0) from HC.out) ?_
        (repeat' (first | (refine wpLx_calm rfl rfl rfl (fun K hK => ?_); go_step <;> (refine hK _ ?_; clear hK K)) | (refine wpLx_skip2 rfl rfl rfl ?_; go_simp) | (refine wpLx_calm2 rfl rfl rfl rfl rfl (fun K hK => ?_); go_step <;> (refine hK _ ?_; clear hK K))))
        refine wpLx_eff rfl rfl rfl (fun K hK => ?_)
        go_step
        rw [Lib.run_unsafeString_none]
        simp only [Result.andThen]
        rw [Oper.upon_value]
        refine hK _ _ ?_
        clear hK K
        (repeat' (first | (refine wpLx_calm rfl rfl rfl (fun K hK => ?_); go_step <;> (refine hK _ ?_; clear hK K)) | (refine wpLx_skip2 rfl rfl rfl ?_; go_simp) | (refine wpLx_calm2 rfl rfl rfl rfl rfl (fun K hK => ?_); go_step <;> (refine hK _ ?_; clear hK K))))
        refine wpLx_nil ?_
        go_wp2
        go_ret
        exact ⟨rfl, ((Upd.refl _ _).drew).alloc _⟩
      · 
        go_enter Tryd.func63, Tryd.ntmps63
        go_wp2_with fail
        refine wp_region_lx {ld := [11], gd := [7]} (by kernel_rfl) (by kernel_rfl) ⟨fun _ _ _ h => h.2, fun _ _ h => h⟩ ?_
        (repeat' (first | (refine wpLx_calm rfl rfl rfl (fun K hK => ?_); go_step <;> (refine hK _ ?_; clear hK K)) | (refine wpLx_skip2 rfl rfl rfl ?_; go_simp) | (refine wpLx_calm2 rfl rfl rfl rfl rfl (fun K hK => ?_); go_step <;> (refine hK _ ?_; clear hK K))))
        refine wpLx_grow rfl rfl rfl (Upd.refl _ _) (fun K hK => ?_)
        go_step
        try rw [Lib.run_unsafeSliceData_row (hc := hcap)]
        try simp only [Result.andThen]
        try rw [Oper.upon_value]
        refine hK _ _ (Upd.refl _ _) ?_
        clear hK K
        (repeat' (first | (refine wpLx_calm rfl rfl rfl (fun K hK => ?_); go_step <;> (refine hK _ ?_; clear hK K)) | (refine wpLx_skip2 rfl rfl rfl ?_; go_simp) | (refine wpLx_calm2 rfl rfl rfl rfl rfl (fun K hK => ?_); go_step <;> (refine hK _ ?_; clear hK K))))
        refine wpLx_load rfl rfl (Upd.refl _ _) rfl rfl (by kernel_rfl) (show w.drew.cell? ⟨b, 1, none⟩ = some (.slice (some ⟨g, 0, none⟩) 0 cap) from HC.out) ?_
        (repeat' (first | (refine wpLx_calm rfl rfl rfl (fun K hK => ?_); go_step <;> (refine hK _ ?_; clear hK K)) | (refine wpLx_skip2 rfl rfl rfl ?_; go_simp) | (refine wpLx_calm2 rfl rfl rfl rfl rfl (fun K hK => ?_); go_step <;> (refine hK _ ?_; clear hK K))))
        refine wpLx_eff rfl rfl rfl (fun K hK => ?_)
        go_step
        rw [Lib.run_unsafeString_none]
        simp only [Result.andThen]
        rw [Oper.upon_value]
        refine hK _ _ ?_
        clear hK K
        (repeat' (first | (refine wpLx_calm rfl rfl rfl (fun K hK => ?_); go_step <;> (refine hK _ ?_; clear hK K)) | (refine wpLx_skip2 rfl rfl rfl ?_; go_simp) | (refine wpLx_calm2 rfl rfl rfl rfl rfl (fun K hK => ?_); go_step <;> (refine hK _ ?_; clear hK K))))
        refine wpLx_nil ?_
        go_wp2
        go_ret
        exact ⟨rfl, (Upd.refl _ _).drew⟩
    · have hm0 : 0 < m := by rw [← hm]; exact List.length_pos_iff.2 h0
      have hcap : cap ≠ 0 := by omega
      have hr := Lib.run_unsafeString_row (P := Tryd.prog) (w := w.drew) 120 3 9 5 Tryd.underlying120 (by kernel_rfl) g cur.size hsh bs h0 (by omega) (by omega) hcell
      rw [hm] at hr
      have HR := Lib.hid hr
      clear hh ho hne q3 q4 q5 q6 q7 hcell hm hm63 h63 hcur hr
      go_enter Tryd.func63, Tryd.ntmps63
      go_wp2_with fail
      refine wp_region_lx {ld := [11], gd := [7]} (by kernel_rfl) (by kernel_rfl) ⟨fun _ _ _ h => h.2, fun _ _ h => h⟩ ?_
      (repeat' (first | (refine wpLx_calm rfl rfl rfl (fun K hK => ?_); go_step <;> (refine hK _ ?_; clear hK K)) | (refine wpLx_skip2 rfl rfl rfl ?_; go_simp) | (refine wpLx_calm2 rfl rfl rfl rfl rfl (fun K hK => ?_); go_step <;> (refine hK _ ?_; clear hK K))))
      refine wpLx_grow rfl rfl rfl (Upd.refl _ _) (fun K hK => ?_)
      go_step
      try rw [Lib.run_unsafeSliceData_row (hc := hcap)]
      try simp only [Result.andThen]
      try rw [Oper.upon_value]
      refine hK _ _ (Upd.refl _ _) ?_
      clear hK K
      (repeat' (first | (refine wpLx_calm rfl rfl rfl (fun K hK => ?_); go_step <;> (refine hK _ ?_; clear hK K)) | (refine wpLx_skip2 rfl rfl rfl ?_; go_simp) | (refine wpLx_calm2 rfl rfl rfl rfl rfl (fun K hK => ?_); go_step <;> (refine hK _ ?_; clear hK K))))
      refine wpLx_load rfl rfl (Upd.refl _ _) rfl rfl (by kernel_rfl) (show w.drew.cell? ⟨b, 1, none⟩ = some (.slice (some ⟨g, 0, none⟩) m cap) from HC.out) ?_
      (repeat' (first | (refine wpLx_calm rfl rfl rfl (fun K hK => ?_); go_step <;> (refine hK _ ?_; clear hK K)) | (refine wpLx_skip2 rfl rfl rfl ?_; go_simp) | (refine wpLx_calm2 rfl rfl rfl rfl rfl (fun K hK => ?_); go_step <;> (refine hK _ ?_; clear hK K))))
      refine wpLx_eff rfl rfl rfl (fun K hK => ?_)
      go_step
      rw [HR.out]
      simp only [Result.andThen]
      rw [Oper.upon_value]
      refine hK _ _ ?_
      clear hK K
      (repeat' (first | (refine wpLx_calm rfl rfl rfl (fun K hK => ?_); go_step <;> (refine hK _ ?_; clear hK K)) | (refine wpLx_skip2 rfl rfl rfl ?_; go_simp) | (refine wpLx_calm2 rfl rfl rfl rfl rfl (fun K hK => ?_); go_step <;> (refine hK _ ?_; clear hK K))))
      refine wpLx_nil ?_
      go_wp2
      go_ret
      exact ⟨rfl, ((Upd.refl _ _).drew).trans (Upd.freeze (p := ⟨g, 0, none⟩) q2 m) (fun _ h _ => h)⟩
end Go.Proofs.YtnpalkndocokkaaDoor
