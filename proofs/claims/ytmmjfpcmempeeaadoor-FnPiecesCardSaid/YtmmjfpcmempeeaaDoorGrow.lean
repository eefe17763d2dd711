/- bytes.growSlice; (*bytes.Buffer).grow. -/
import Derived.Test.YtmmjfpcmempeeaaDoorM2
import Derived.Lib.AppendZeros
import Derived.Defers
import Derived.Recover
import Derived.Tactics2
import Derived.WalkSpells
namespace Go.Proofs.YtmmjfpcmempeeaaDoor
open Go.RowKit
theorem catchIdle (w : World) : CallsD Tryd.prog 114 #[] .returning w fun e u' w' => e = .returned (.tuple #[]) ∧ u' = .returning ∧ w' = w := by
  have hnn : ∀ w, (binOp .neq 20 .nilIface .nilIface).run Tryd.prog w = .ok (.bool false) w := fun w => by kernel_rfl
  refine callsD_of_wpS Tryd.func114 rfl fun c₀ cs hu => ?_
  apply wpS_seq
  apply wpS_region
  simp [wpOpsS, go_sem, recoverD, hu, hnn, Tryd.ntmps114, Exit.thenS]
  refine wpS_cond (t := false) (by simp [Act.eval, Array.replicate]) ?_
  simp only [Bool.false_eq_true, if_false]
  refine wpS_of_wp (wp_skip ?_)
  cases c₀
  simp_all [bodyPostS, results]
/-- a grown copy: the bytes, and room -/
def GrownPost (w : World) (n : Nat) (bs : List UInt8) (v : Value) (w' : World) : Prop :=
  ∃ cap cur, v = .slice (some ⟨w.heap.size, 0, none⟩) bs.length cap ∧ w'.heap[w.heap.size]? = some (.cells cur 5 (0, 0)) ∧ cur.size = cap ∧ bs.length + n ≤ cap ∧ cap ≤ maxLen ∧ cur.toList.take bs.length = bs.map bv ∧ New w w'
theorem grownCap_facts (w : World) (n : Nat) (e : TypeId) (h : n ≤ maxLen) : n ≤ grownCap w n 0 e ∧ grownCap w n 0 e ≤ maxLen := ⟨grownCap_ge w n 0 e, grownCap_le_maxLen w n 0 e h⟩
set_option maxRecDepth 100000 in
set_option maxHeartbeats 1000000 in
theorem growSlice {w : World} {a : Option Addr} {c n : Nat} {bs : List UInt8} (hb : BytesA w a c bs) (hn : 1 ≤ n) (hl : bs.length + n ≤ 4294967296) (hc : c ≤ 4294967296) :
    Calls Tryd.prog 113 #[.slice a bs.length c, .int .i64 (n : Int)] w (Ret (GrownPost w n bs)) := by
  obtain ⟨i, hi, hz0, hz1, hz2⟩ := eB.hi
  have hlc := hb.1
  obtain ⟨C, hC1, hC2⟩ : ∃ C : Nat, C = max (bs.length + n) (2 * c) ∧ C ≤ 8589934592 := ⟨_, rfl, by omega⟩
  have happ := Lib.run_append_nil_zeros (P := Tryd.prog) w 29 3 29 5 i (.int .u8 0) .i64 .i64 Tryd.underlying29 Tryd.underlying3 hi hz0 C (by omega) (by omega) (by omega) (by rw [hz2]; omega)
  obtain ⟨g1, g2⟩ := grownCap_facts w C 5 (by unfold maxLen; omega)
  have HI := Lib.hid hi
  obtain ⟨cap, hcap⟩ : ∃ cap, grownCap w C 0 5 = cap := ⟨_, rfl⟩
  rw [hcap] at happ g1 g2
  obtain ⟨Z, hZ⟩ : ∃ Z, Builtin.zeroCells (Value.int .u8 0).cells C ++ Builtin.zeroCells (Value.int .u8 0).cells (cap - C) = Z := ⟨_, rfl⟩
  rw [hZ] at happ
  have hZs : Z.size = cap := by rw [← hZ]; simp [size_zeroCells, Value.cells]; omega
  have HB := Lib.hid hb
  have hC3 : bs.length + n ≤ C := by omega
  have hC4 : C = bs.length + n ∨ C = 2 * c := by omega
  have hq : (bs.length + n < 2 * c → (C : Int) = 2 * (c : Int)) ∧ (¬ bs.length + n < 2 * c → (C : Int) = (bs.length : Int) + (n : Int)) := by omega
  have hZh : (w.alloc (.cells Z 5)).drew.heap[w.heap.size]? = some (.cells Z 5 (0, 0)) := heap_alloc_new w _
  have HZH := Lib.hid hZh
  have HNW : Hid (New w (w.alloc (.cells Z 5)).drew) := ((Upd.refl _ _).alloc _).drew
  have hnil : a = none → bs.length = 0 ∧ c = 0 := fun h => by have := hb.2.2.1 h; omega
  have HNIL := Lib.hid hnil
  have hfin : Hid (∀ w1 : World, w1.heap[w.heap.size]? = some (.cells (splice Z.toList 0 (bs.map bv)).toArray 5 (0, 0)) → Upd (fun k => k = w.heap.size) (w.alloc (.cells Z 5)).drew w1 → GrownPost w n bs (.slice (some ⟨w.heap.size, 0, none⟩) bs.length cap) w1) := fun w1 h1 h2 => by
    refine ⟨cap, _, rfl, h1, ?_, by omega, g2, ?_, HNW.out.trans h2 (fun k hk hlt => by have hk : k = w.heap.size := hk; omega)⟩
    · rw [splice_zero]; simp; omega
    · rw [splice_zero]
      rw [List.take_append_of_le_length (by simp), List.take_of_length_le (by simp)]
  clear hcap hZ hi hz0 hz1 hz2 hb hC1 hZh hnil
  by_cases hb2 : bs.length + n < 2 * c
  · have hC := hq.1 hb2
    rw [hC] at happ
    clear hC hq hC4
    go_enter_defers Tryd.func113, Tryd.ntmps113
    go_wp2_with (first | (at_builtin; refine Lib.wpList_append_run _ rfl _ _ _ _ rfl _ _ rfl rfl _ _ happ ?_) | (refine wpList_plain rfl (fun K hK => ?_); refine wp_copy eB (.tmp 22) (.tmp 23) 29 rfl w.heap.size 0 C cap rfl Z 5 HZH.out a bs.length c rfl HNIL.out (bs.map bv) (by simp; omega) (fun p hp => by subst hp; exact (HB.out.new HNW.out).news) (by simp; omega) (oneCell_bytes _) ?_; intro w1 h1 h2 h3; rw [List.length_map]; have HF := Lib.hid (hfin.out w1 h1 h2); refine hK _ _ ?_; clear hK K h1 h2 h3))
    refine leaves_cons (f := 114) (args := #[]) (by simp) (by simp [go_sem]) ?_
    refine (catchIdle _).mono ?_
    rintro e u' w'' ⟨rfl, rfl, rfl⟩
    refine ⟨_, results_tmp rfl _ _ _, ?_⟩
    exact HF.out
  · have hC := hq.2 hb2
    rw [hC] at happ
    clear hC hq hC4
    go_enter_defers Tryd.func113, Tryd.ntmps113
    go_wp2_with (first | (at_builtin; refine Lib.wpList_append_run _ rfl _ _ _ _ rfl _ _ rfl rfl _ _ happ ?_) | (refine wpList_plain rfl (fun K hK => ?_); refine wp_copy eB (.tmp 22) (.tmp 23) 29 rfl w.heap.size 0 C cap rfl Z 5 HZH.out a bs.length c rfl HNIL.out (bs.map bv) (by simp; omega) (fun p hp => by subst hp; exact (HB.out.new HNW.out).news) (by simp; omega) (oneCell_bytes _) ?_; intro w1 h1 h2 h3; rw [List.length_map]; have HF := Lib.hid (hfin.out w1 h1 h2); refine hK _ _ ?_; clear hK K h1 h2 h3))
    refine leaves_cons (f := 114) (args := #[]) (by simp) (by simp [go_sem]) ?_
    refine (catchIdle _).mono ?_
    rintro e u' w'' ⟨rfl, rfl, rfl⟩
    refine ⟨_, results_tmp rfl _ _ _, ?_⟩
    exact HF.out
/-- a bytes.Buffer that nothing was read of: its bytes in a row of its own -/
structure Buf (w : World) (b base : Nat) (v : Value) (bs : List UInt8) : Prop where
  hb : ∃ lr : Int, w.heap[b]? = some (.cells #[v, .int .i64 0, .int .i8 lr] 95 (0, 0))
  own : OwnB base w v bs
  apart : v.ownBlock ≠ some b
theorem Buf.cells {w : World} {b base : Nat} {v : Value} {bs : List UInt8} (h : Buf w b base v bs) : w.cell? ⟨b, 0, none⟩ = some v ∧ w.cell? ⟨b, 1, none⟩ = some (.int .i64 0) ∧ (∃ lr : Int, w.cell? ⟨b, 2, none⟩ = some (.int .i8 lr)) ∧ ∀ i, w.frozen? ⟨b, i, none⟩ = false := by
  obtain ⟨lr, hb⟩ := h.hb
  exact ⟨by rw [World.cell_of_heap hb]; rfl, by rw [World.cell_of_heap hb]; rfl, ⟨lr, by rw [World.cell_of_heap hb]; rfl⟩, fun i => World.frozen_of_heap hb i⟩
/-- its row, opened -/
def RowB (w : World) (base b : Nat) (v : Value) (bs : List UInt8) : Prop :=
  (v = .slice none 0 0 ∧ bs = []) ∨ ∃ g cap cur, v = .slice (some ⟨g, 0, none⟩) bs.length cap ∧ base ≤ g ∧ g ≠ b ∧ w.heap[g]? = some (.cells cur 5 (0, 0)) ∧ cur.size = cap ∧ bs.length ≤ cap ∧ cap ≤ maxLen ∧ cur.toList.take bs.length = bs.map bv
theorem Buf.row {w : World} {b base : Nat} {v : Value} {bs : List UInt8} (h : Buf w b base v bs) : RowB w base b v bs := by
  rcases h.own.2 with ⟨rfl, hn⟩ | ⟨g, cap, cur, rfl, hg1, hg, hn, hm, hs, ht⟩
  · exact .inl ⟨rfl, List.eq_nil_of_length_eq_zero hn⟩
  · exact .inr ⟨g, cap, cur, rfl, hg1, fun e => h.apart (by simp [Value.ownBlock, e]), hg, by simpa using hs, hn, hm, by simpa using ht⟩
theorem ownB_of {w : World} {base g cap : Nat} {cur : Array Value} {bs : List UInt8} (hg1 : base ≤ g) (hg : w.heap[g]? = some (.cells cur 5 (0, 0))) (hs : cur.size = cap) (hn : bs.length ≤ cap) (hm : cap ≤ maxLen) (ht : cur.toList.take bs.length = bs.map bv) : OwnB base w (.slice (some ⟨g, 0, none⟩) bs.length cap) bs :=
  ⟨by simp, .inr ⟨g, cap, cur, rfl, hg1, hg, hn, hm, by simpa using hs, by simpa using ht⟩⟩
/-- room for n more bytes behind -/
def GrewPost (b base n l : Nat) (bs : List UInt8) (w : World) (v : Value) (w' : World) : Prop :=
  v = .int .i64 (l : Int) ∧ ∃ g cap cur lr, w'.heap[b]? = some (.cells #[.slice (some ⟨g, 0, none⟩) (l + n) cap, .int .i64 0, .int .i8 lr] 95 (0, 0)) ∧ base ≤ g ∧ g ≠ b ∧ w'.heap[g]? = some (.cells cur 5 (0, 0)) ∧ cur.size = cap ∧ l + n ≤ cap ∧ cap ≤ maxLen ∧
    cur.toList.take l = bs.map bv ∧ Upd (fun k => k = b ∨ base ≤ k) w w'
theorem bufLen {w : World} {b l cap : Nat} {a : Option Addr} (c0 : w.cell? ⟨b, 0, none⟩ = some (.slice a l cap)) (c1 : w.cell? ⟨b, 1, none⟩ = some (.int .i64 0)) (hl : l ≤ cap) (hc : cap ≤ maxLen) :
    Calls Tryd.prog 112 #[.pointer (some ⟨b, 0, none⟩)] w (Ret fun v w' => New w w' ∧ v = .int .i64 (l : Int)) := by
  unfold maxLen at hc
  go_enter Tryd.func112, Tryd.ntmps112
  (go_wp2_with fail; (repeat' (refine wp_region_lx {} (by kernel_rfl) (by kernel_rfl) ⟨fun _ _ _ h => h.2, fun _ _ h => h⟩ ?_; (repeat' (first | (refine wpLx_calm rfl rfl rfl (fun K hK => ?_); go_step <;> (refine hK _ ?_; clear hK K)) | (refine wpLx_skip2 rfl rfl rfl ?_; go_simp) | (refine wpLx_calm2 rfl rfl rfl rfl rfl (fun K hK => ?_); go_step <;> (refine hK _ ?_; clear hK K)))); all_goals (refine wpLx_nil ?_; try go_wp2_with fail))))
  go_ret
  exact ⟨(Upd.refl _ _).drew, rfl⟩
set_option maxRecDepth 100000 in
theorem bufTryRoom {w : World} {b l cap n : Nat} {a : Option Addr} (c0 : w.cell? ⟨b, 0, none⟩ = some (.slice a l cap)) (hf : ∀ i, w.frozen? ⟨b, i, none⟩ = false) (hl : l ≤ cap) (hc : cap ≤ maxLen) (hn : n ≤ cap - l) :
    Calls Tryd.prog 111 #[.pointer (some ⟨b, 0, none⟩), .int .i64 (n : Int)] w (Ret fun v w' => w' = w.setCell ⟨b, 0, none⟩ (.slice a (l + n) cap) ∧ v = .tuple #[.int .i64 (l : Int), .bool true]) := by
  unfold maxLen at hc
  have q1 : decide ((n : Int) ≤ (cap : Int) - (l : Int)) = true := decide_eq_true (by omega)
  have hln : l + n ≤ cap := by omega
  go_enter Tryd.func111, Tryd.ntmps111
  (go_wp2_with fail; (repeat' (refine wp_region_lx {} (by kernel_rfl) (by kernel_rfl) ⟨fun _ _ _ h => h.2, fun _ _ h => h⟩ ?_; (repeat' (first | (refine wpLx_calm rfl rfl rfl (fun K hK => ?_); go_step <;> (refine hK _ ?_; clear hK K)) | (refine wpLx_skip2 rfl rfl rfl ?_; go_simp) | (refine wpLx_calm2 rfl rfl rfl rfl rfl (fun K hK => ?_); go_step <;> (refine hK _ ?_; clear hK K)))); all_goals (refine wpLx_nil ?_; try go_wp2_with fail))))
  go_ret2
  exact ⟨rfl, rfl⟩
theorem bufTryNone {w : World} {b l cap n : Nat} {a : Option Addr} (c0 : w.cell? ⟨b, 0, none⟩ = some (.slice a l cap)) (hl : l ≤ cap) (hc : cap ≤ maxLen) (hn : cap - l < n) :
    Calls Tryd.prog 111 #[.pointer (some ⟨b, 0, none⟩), .int .i64 (n : Int)] w (Ret fun v w' => w' = w ∧ v = .tuple #[.int .i64 0, .bool false]) := by
  unfold maxLen at hc
  have q1 : decide ((n : Int) ≤ (cap : Int) - (l : Int)) = false := decide_eq_false (by omega)
  go_enter Tryd.func111, Tryd.ntmps111
  (go_wp2_with fail; (repeat' (refine wp_region_lx {} (by kernel_rfl) (by kernel_rfl) ⟨fun _ _ _ h => h.2, fun _ _ h => h⟩ ?_; (repeat' (first | (refine wpLx_calm rfl rfl rfl (fun K hK => ?_); go_step <;> (refine hK _ ?_; clear hK K)) | (refine wpLx_skip2 rfl rfl rfl ?_; go_simp) | (refine wpLx_calm2 rfl rfl rfl rfl rfl (fun K hK => ?_); go_step <;> (refine hK _ ?_; clear hK K)))); all_goals (refine wpLx_nil ?_; try go_wp2_with fail))))
  go_ret2
  exact ⟨rfl, rfl⟩
theorem size_setCellB (w : World) (p : Addr) (v : Value) : (w.setCell p v).heap.size = w.heap.size := by simp
theorem grew_fin {w w2 w3 : World} {b base n l g cap : Nat} {cur : Array Value} {bs : List UInt8} {lr : Int} {v v0 : Value} (hn : Upd (fun k => k = b ∨ base ≤ k) w w2) (hb2 : w2.heap[b]? = some (.cells #[v0, .int .i64 0, .int .i8 lr] 95 (0, 0))) (hg : w2.heap[g]? = some (.cells cur 5 (0, 0))) (hgb : g ≠ b) (hlg : base ≤ g) (hs : cur.size = cap)
    (hln : l + n ≤ cap) (hcm : cap ≤ maxLen) (ht : cur.toList.take l = bs.map bv) (hv : v = .int .i64 (l : Int)) (hw : w3 = w2.setCell ⟨b, 0, none⟩ (.slice (some ⟨g, 0, none⟩) (l + n) cap)) : GrewPost b base n l bs w v w3 := by
  subst hw; subst hv
  refine ⟨rfl, g, cap, cur, lr, by rw [World.heap_setCell_self hb2]; rfl, hlg, hgb, ?_, hs, hln, hcm, ht, hn.setCell (fun _ => .inl rfl) _⟩
  exact ((Upd.refl (fun k => k = b) w2).setCell (p := ⟨b, 0, none⟩) (fun _ => rfl) _).heap hg hgb
set_option maxRecDepth 100000 in
set_option maxHeartbeats 2000000 in
theorem bufGrow {w : World} {b base n l : Nat} {v : Value} {bs : List UInt8} (h : Buf w b base v bs) (hbl : bs.length = l) (hbase : base ≤ w.heap.size) (hn : 1 ≤ n) (hl : l + n ≤ 1073741824) :
    Calls Tryd.prog 110 #[.pointer (some ⟨b, 0, none⟩), .int .i64 (n : Int)] w (Ret (GrewPost b base n l bs w)) := by
  obtain ⟨lr, hb⟩ := h.hb
  obtain ⟨c0, c1, _, hf⟩ := h.cells
  have HB := Lib.hid hb
  have HLN := Lib.hid hbl
  have HBL : Hid (b < w.heap.size) := (Array.getElem?_eq_some_iff.1 hb).1
  rcases h.row with ⟨rfl, rfl⟩ | ⟨g, cap, cur, rfl, hg1, hgb, hg, hs, hlc, hcm, ht⟩
  · have hl0 : l = 0 := hbl.symm
    subst hl0
    obtain ⟨bs, hbs⟩ : ∃ bs : List UInt8, bs = [] := ⟨_, rfl⟩
    rw [← hbs] at HLN ⊢
    have HBS := Lib.hid hbs
    have K1 := Lib.hid (bufLen c0 c1 (Nat.le_refl _) (by unfold maxLen; omega))
    have K2 := fun (wx : World) (hx : New w wx) => Lib.hid (bufTryNone (n := n) ((hx.cell c0 (fun h => h))) (Nat.le_refl _) (by unfold maxLen; omega) (by omega))
    have HK2 := Lib.hid K2
    have qT := fun (w : World) (n c : Nat) => Lib.run_eql_slice_nil (P := Tryd.prog) w 29 5 none n c 0 0 Tryd.underlying29
    clear h hb K2 hbs hbl
    by_cases h64 : n ≤ 64
    · have q1 : decide ((n : Int) ≤ 64) = true := decide_eq_true (by omega)
      go_enter Tryd.func110, Tryd.ntmps110
      go_wp2_with (first | (go_at_call 112; refine callRet K1.out ?_; rintro v w1 ⟨hn1, rfl⟩; have HN1 := Lib.hid hn1; have d0 := hn1.cell c0 (fun h => h); have d1 := hn1.cell c1 (fun h => h); have hbl2 : b < w1.heap.size := (by have := hn1.size; have := HBL.out; omega); have df : ∀ i, w1.frozen? ⟨b, i, none⟩ = false := (fun i => World.frozen_of_heap (hn1.heap HB.out (fun h => h)) i); clear hn1) | (go_at_call 111; refine callRet (HK2.out _ HN1.out).out ?_; rintro v w2 ⟨rfl, rfl⟩) | (at_make; refine wpList_plain rfl (fun K hK => ?_); refine wp_make eB (.tmp 40) (.const (.int .i64 64)) rfl .i64 .i64 n 64 rfl rfl h64 (by omega) (by unfold maxLen; omega) ?_; refine hK _ _ ?_; clear hK K))
      go_ret
      have hb2 := HN1.out.heap HB.out (fun h => h)
      refine ⟨rfl, w2.heap.size, 64, madeCells (Value.int .u8 0).cells 64, lr, ?_, by have := HN1.out.size; omega, by omega, ?_, ?_, by omega, by unfold maxLen; omega, ?_, ?_⟩
      · rw [Nat.zero_add]
        exact ((Upd.refl (fun _ => False) _).alloc _).heap (by rw [World.heap_setCell_self hb2]; rfl) (fun h => h)
      · have := heap_alloc_new (w2.setCell ⟨b, 0, none⟩ (.slice (some ⟨w2.heap.size, 0, none⟩) n 64)) (.cells (madeCells (Value.int .u8 0).cells 64) 5)
        rwa [size_setCellB] at this
      · have := made_bytes 64
        rw [show (64 : Nat) * 1 = 64 from rfl] at this
        show (madeCells (Value.int .u8 0).cells 64).size = 64
        rw [this]; simp
      · rw [HBS.out]; rfl
      · exact ((HN1.out.mono (fun _ h _ => h.elim)).setCell (fun _ => .inl rfl) _).alloc _
    · have q1 : decide ((n : Int) ≤ 64) = false := decide_eq_false (by omega)
      have q2 : decide ((n : Int) ≤ 0) = false := decide_eq_false (by omega)
      have q3 : decide ((9223372036854775807 : Int) - (n : Int) < 0) = false := decide_eq_false (by omega)
      have KG : Hid (∀ wx, Calls Tryd.prog 113 #[.slice none 0 0, .int .i64 (n : Int)] wx (Ret (GrownPost wx n bs))) := fun wx => by
        have := growSlice (w := wx) (n := n) (bs := []) (a := none) (c := 0) ⟨Nat.le_refl _, Nat.zero_le _, fun _ => rfl, fun p hp => (by cases hp)⟩ hn (by show 0 + n ≤ 4294967296; omega) (by omega)
        rw [HBS.out]; exact this
      go_enter Tryd.func110, Tryd.ntmps110
      go_wp2_with (first | (go_at_call 112; refine callRet K1.out ?_; rintro v w1 ⟨hn1, rfl⟩; have HN1 := Lib.hid hn1; have d0 := hn1.cell c0 (fun h => h); have d1 := hn1.cell c1 (fun h => h); have hbl2 : b < w1.heap.size := (by have := hn1.size; have := HBL.out; omega); have df : ∀ i, w1.frozen? ⟨b, i, none⟩ = false := (fun i => World.frozen_of_heap (hn1.heap HB.out (fun h => h)) i); clear hn1) | (go_at_call 111; refine callRet (HK2.out _ HN1.out).out ?_; rintro v w2 ⟨rfl, rfl⟩))
      refine wp_region_lx {} (by kernel_rfl) (by kernel_rfl) ⟨fun _ _ _ h => h.2, fun _ _ h => h⟩ ?_
      (repeat' (first | (refine wpLx_calm rfl rfl rfl (fun K hK => ?_); go_step <;> (refine hK _ ?_; clear hK K)) | (refine wpLx_skip2 rfl rfl rfl ?_; go_simp) | (refine wpLx_calm2 rfl rfl rfl rfl rfl (fun K hK => ?_); go_step <;> (refine hK _ ?_; clear hK K))))
      refine wpLx_eff' rfl rfl rfl (fun K hK => ?_)
      refine wp_call (KG.out _) (by kernel_rfl) ?_
      rintro v w3 ⟨cap2, cur2, rfl, h1, h2, h3, h4, h5, h6⟩
      rw [HLN.out] at h3 h5 ⊢
      have HN3 := Lib.hid (HN1.out.drew.andNew h6)
      have HG3 := Lib.hid h1
      have HT3 := Lib.hid h5
      have hb3 := HN3.out.heap HB.out (fun h => h)
      have e0 : w3.cell? ⟨b, 0, none⟩ = some (.slice none 0 0) := by rw [World.cell_of_heap hb3]; rfl
      have e1 : w3.cell? ⟨b, 1, none⟩ = some (.int .i64 0) := by rw [World.cell_of_heap hb3]; rfl
      have ef : ∀ i, w3.frozen? ⟨b, i, none⟩ = false := fun i => World.frozen_of_heap hb3 i
      have HB3 := Lib.hid hb3
      have h4' : cap2 ≤ 9223372036854775807 := by unfold maxLen at h4; omega
      have hsz : w.heap.size ≤ w2.heap.size := HN1.out.size
      clear c0 c1 hf d0 d1 df h1 h5 h6 hb3
      refine hK _ _ ?_
      clear hK K
      (repeat' (first | (refine wpLx_calm rfl rfl rfl (fun K hK => ?_); go_step <;> (refine hK _ ?_; clear hK K)) | (refine wpLx_skip2 rfl rfl rfl ?_; go_simp) | (refine wpLx_calm2 rfl rfl rfl rfl rfl (fun K hK => ?_); go_step <;> (refine hK _ ?_; clear hK K))))
      refine wpLx_eff rfl rfl rfl (fun K hK => ?_)
      go_step
      refine hK _ _ ?_
      clear hK K
      refine wpLx_nil ?_
      go_wp2_with fail
      go_ret
      refine grew_fin (l := 0) (n := n) (bs := bs) (w2 := (w3.setCell ⟨b, 0, none⟩ (.slice (some ⟨w2.heap.size, 0, none⟩) 0 cap2)).setCell ⟨b, 1, none⟩ (.int .i64 0)) (g := w2.heap.size) (cur := cur2) (v0 := .slice (some ⟨w2.heap.size, 0, none⟩) 0 cap2) (lr := lr) ?_ ?_ ?_ (by have := HBL.out; omega) (by omega) h2 h3 h4 HT3.out rfl ?_
      · exact (((HN3.out.mono (fun _ h _ => h.elim)).setCell (p := ⟨b, 0, none⟩) (fun _ => .inl rfl) _).setCell (p := ⟨b, 1, none⟩) (fun _ => .inl rfl) _)
      · rw [World.heap_setCell_self (World.heap_setCell_self HB3.out 0 _)]; rfl
      · exact (((Upd.refl (fun k => k = b) w3).setCell (p := ⟨b, 0, none⟩) (fun _ => rfl) _).setCell (p := ⟨b, 1, none⟩) (fun _ => rfl) _).heap HG3.out (by have := HBL.out; omega)
      · first | rfl | simp
  · rw [hbl] at c0 hlc ht
    have K1 := Lib.hid (bufLen c0 c1 hlc hcm)
    have hby : BytesA w (some ⟨g, 0, none⟩) cap bs := (BytesA.owned h.own).2
    have hcm2 : cap ≤ 9223372036854775807 := by unfold maxLen at hcm; omega
    have HT := Lib.hid ht
    have HG := Lib.hid hg
    have HBY := Lib.hid hby
    rw [hbl] at HB
    have qT := fun (w : World) (n c : Nat) => Lib.run_eql_slice_nil (P := Tryd.prog) w 29 5 (some ⟨g, 0, none⟩) n c 0 0 Tryd.underlying29
    by_cases hroom : n ≤ cap - l
    · have hfits : l + n ≤ cap := by omega
      have K2 := fun (wx : World) (hx : New w wx) => Lib.hid (bufTryRoom (n := n) ((hx.cell c0 (fun h => h))) (fun i => World.frozen_of_heap (hx.heap HB.out (fun h => h)) i) hlc hcm hroom)
      have HK2 := Lib.hid K2
      clear h hb K2 hby ht hg hbl
      rcases Nat.eq_zero_or_pos l with rfl | hpos
      · have qz : (0 : Int) = 0 := rfl
        go_enter Tryd.func110, Tryd.ntmps110
        go_wp2_with (first | (go_at_call 112; refine callRet K1.out ?_; rintro v w1 ⟨hn1, rfl⟩; have HN1 := Lib.hid hn1; have d0 := hn1.cell c0 (fun h => h); have d1 := hn1.cell c1 (fun h => h); have hbl2 : b < w1.heap.size := (by have := hn1.size; have := HBL.out; omega); have df : ∀ i, w1.frozen? ⟨b, i, none⟩ = false := (fun i => World.frozen_of_heap (hn1.heap HB.out (fun h => h)) i); clear hn1) | (go_at_call 111; refine callRet (HK2.out _ HN1.out).out ?_; rintro v w2 ⟨rfl, rfl⟩))
        go_ret
        refine grew_fin (bs := bs) (n := n) (g := g) (cap := cap) (cur := cur) (HN1.out.mono (fun _ h _ => h.elim)) (HN1.out.heap HB.out (fun h => h)) (HN1.out.heap HG.out (fun h => h)) hgb hg1 hs hfits hcm HT.out rfl ?_
        first | rfl | simp
      · have qz : ((l : Int) == 0) = false := by rw [beq_eq_false_iff_ne]; omega
        go_enter Tryd.func110, Tryd.ntmps110
        go_wp2_with (first | (go_at_call 112; refine callRet K1.out ?_; rintro v w1 ⟨hn1, rfl⟩; have HN1 := Lib.hid hn1; have d0 := hn1.cell c0 (fun h => h); have d1 := hn1.cell c1 (fun h => h); have hbl2 : b < w1.heap.size := (by have := hn1.size; have := HBL.out; omega); have df : ∀ i, w1.frozen? ⟨b, i, none⟩ = false := (fun i => World.frozen_of_heap (hn1.heap HB.out (fun h => h)) i); clear hn1) | (go_at_call 111; refine callRet (HK2.out _ HN1.out).out ?_; rintro v w2 ⟨rfl, rfl⟩))
        go_ret
        refine grew_fin (bs := bs) (n := n) (g := g) (cap := cap) (cur := cur) (HN1.out.mono (fun _ h _ => h.elim)) (HN1.out.heap HB.out (fun h => h)) (HN1.out.heap HG.out (fun h => h)) hgb hg1 hs hfits hcm HT.out rfl ?_
        first | rfl | simp
    · have hno : cap - l < n := by omega
      have K2 := fun (wx : World) (hx : New w wx) => Lib.hid (bufTryNone (n := n) (l := l) (cap := cap) ((hx.cell c0 (fun h => h))) hlc hcm hno)
      have HK2 := Lib.hid K2
      have q2 : decide ((n : Int) ≤ (cap : Int) / 2 - (l : Int)) = false := decide_eq_false (by omega)
      have q2' : decide ((n : Int) ≤ Int.tdiv (cap : Int) 2 - (l : Int)) = false := decide_eq_false (by have : Int.tdiv (cap : Int) 2 = (cap : Int) / 2 := Int.tdiv_eq_ediv_of_nonneg (by omega); omega)
      have q3 : decide ((9223372036854775807 : Int) - (cap : Int) - (n : Int) < (cap : Int)) = false := decide_eq_false (by omega)
      have KG : Hid (∀ wx, BytesA wx (some ⟨g, 0, none⟩) cap bs → Calls Tryd.prog 113 #[.slice (some ⟨g, 0, none⟩) l cap, .int .i64 (n : Int)] wx (Ret (GrownPost wx n bs))) := fun wx hx => by
        have := growSlice hx hn (by rw [hbl]; omega) (by omega)
        rwa [hbl] at this
      clear h hb K2 hby ht hg hbl
      rcases Nat.eq_zero_or_pos l with rfl | hpos
      · have qz : (0 : Int) = 0 := rfl
        go_enter Tryd.func110, Tryd.ntmps110
        go_wp2_with (first | (go_at_call 112; refine callRet K1.out ?_; rintro v w1 ⟨hn1, rfl⟩; have HN1 := Lib.hid hn1; have d0 := hn1.cell c0 (fun h => h); have d1 := hn1.cell c1 (fun h => h); have hbl2 : b < w1.heap.size := (by have := hn1.size; have := HBL.out; omega); have df : ∀ i, w1.frozen? ⟨b, i, none⟩ = false := (fun i => World.frozen_of_heap (hn1.heap HB.out (fun h => h)) i); clear hn1) | (go_at_call 111; refine callRet (HK2.out _ HN1.out).out ?_; rintro v w2 ⟨rfl, rfl⟩))
        refine wp_region_lx {} (by kernel_rfl) (by kernel_rfl) ⟨fun _ _ _ h => h.2, fun _ _ h => h⟩ ?_
        (repeat' (first | (refine wpLx_calm rfl rfl rfl (fun K hK => ?_); go_step <;> (refine hK _ ?_; clear hK K)) | (refine wpLx_skip2 rfl rfl rfl ?_; go_simp) | (refine wpLx_calm2 rfl rfl rfl rfl rfl (fun K hK => ?_); go_step <;> (refine hK _ ?_; clear hK K))))
        refine wpLx_eff' rfl rfl rfl (fun K hK => ?_)
        refine wp_call (KG.out _ (HBY.out.new HN1.out.drew)) (by kernel_rfl) ?_
        rintro v w3 ⟨cap2, cur2, rfl, h1, h2, h3, h4, h5, h6⟩
        rw [HLN.out] at h3 h5 ⊢
        have HN3 := Lib.hid (HN1.out.drew.andNew h6)
        have HG3 := Lib.hid h1
        have HT3 := Lib.hid h5
        have hb3 := HN3.out.heap HB.out (fun h => h)
        have e0 : w3.cell? ⟨b, 0, none⟩ = some (.slice (some ⟨g, 0, none⟩) 0 cap) := by rw [World.cell_of_heap hb3]; rfl
        have e1 : w3.cell? ⟨b, 1, none⟩ = some (.int .i64 0) := by rw [World.cell_of_heap hb3]; rfl
        have ef : ∀ i, w3.frozen? ⟨b, i, none⟩ = false := fun i => World.frozen_of_heap hb3 i
        have HB3 := Lib.hid hb3
        have h4' : cap2 ≤ 9223372036854775807 := by unfold maxLen at h4; omega
        have hsz : w.heap.size ≤ w2.heap.size := HN1.out.size
        clear c0 c1 hf d0 d1 df h1 h5 h6 hb3
        refine hK _ _ ?_
        clear hK K
        (repeat' (first | (refine wpLx_calm rfl rfl rfl (fun K hK => ?_); go_step <;> (refine hK _ ?_; clear hK K)) | (refine wpLx_skip2 rfl rfl rfl ?_; go_simp) | (refine wpLx_calm2 rfl rfl rfl rfl rfl (fun K hK => ?_); go_step <;> (refine hK _ ?_; clear hK K))))
        refine wpLx_eff rfl rfl rfl (fun K hK => ?_)
        go_step
        refine hK _ _ ?_
        clear hK K
        refine wpLx_nil ?_
        go_wp2_with fail
        go_ret
        refine grew_fin (l := 0) (n := n) (bs := bs) (w2 := (w3.setCell ⟨b, 0, none⟩ (.slice (some ⟨w2.heap.size, 0, none⟩) 0 cap2)).setCell ⟨b, 1, none⟩ (.int .i64 0)) (g := w2.heap.size) (cur := cur2) (v0 := .slice (some ⟨w2.heap.size, 0, none⟩) 0 cap2) (lr := lr) ?_ ?_ ?_ (by have := HBL.out; omega) (by omega) h2 h3 h4 HT3.out rfl ?_
        · exact (((HN3.out.mono (fun _ h _ => h.elim)).setCell (p := ⟨b, 0, none⟩) (fun _ => .inl rfl) _).setCell (p := ⟨b, 1, none⟩) (fun _ => .inl rfl) _)
        · rw [World.heap_setCell_self (World.heap_setCell_self HB3.out 0 _)]; rfl
        · exact (((Upd.refl (fun k => k = b) w3).setCell (p := ⟨b, 0, none⟩) (fun _ => rfl) _).setCell (p := ⟨b, 1, none⟩) (fun _ => rfl) _).heap HG3.out (by have := HBL.out; omega)
        · first | rfl | simp
      · have qz : ((l : Int) == 0) = false := by rw [beq_eq_false_iff_ne]; omega
        go_enter Tryd.func110, Tryd.ntmps110
        go_wp2_with (first | (go_at_call 112; refine callRet K1.out ?_; rintro v w1 ⟨hn1, rfl⟩; have HN1 := Lib.hid hn1; have d0 := hn1.cell c0 (fun h => h); have d1 := hn1.cell c1 (fun h => h); have hbl2 : b < w1.heap.size := (by have := hn1.size; have := HBL.out; omega); have df : ∀ i, w1.frozen? ⟨b, i, none⟩ = false := (fun i => World.frozen_of_heap (hn1.heap HB.out (fun h => h)) i); clear hn1) | (go_at_call 111; refine callRet (HK2.out _ HN1.out).out ?_; rintro v w2 ⟨rfl, rfl⟩))
        refine wp_region_lx {} (by kernel_rfl) (by kernel_rfl) ⟨fun _ _ _ h => h.2, fun _ _ h => h⟩ ?_
        (repeat' (first | (refine wpLx_calm rfl rfl rfl (fun K hK => ?_); go_step <;> (refine hK _ ?_; clear hK K)) | (refine wpLx_skip2 rfl rfl rfl ?_; go_simp) | (refine wpLx_calm2 rfl rfl rfl rfl rfl (fun K hK => ?_); go_step <;> (refine hK _ ?_; clear hK K))))
        refine wpLx_eff' rfl rfl rfl (fun K hK => ?_)
        refine wp_call (KG.out _ (HBY.out.new HN1.out.drew)) (by kernel_rfl) ?_
        rintro v w3 ⟨cap2, cur2, rfl, h1, h2, h3, h4, h5, h6⟩
        rw [HLN.out] at h3 h5 ⊢
        have HN3 := Lib.hid (HN1.out.drew.andNew h6)
        have HG3 := Lib.hid h1
        have HT3 := Lib.hid h5
        have hb3 := HN3.out.heap HB.out (fun h => h)
        have e0 : w3.cell? ⟨b, 0, none⟩ = some (.slice (some ⟨g, 0, none⟩) l cap) := by rw [World.cell_of_heap hb3]; rfl
        have e1 : w3.cell? ⟨b, 1, none⟩ = some (.int .i64 0) := by rw [World.cell_of_heap hb3]; rfl
        have ef : ∀ i, w3.frozen? ⟨b, i, none⟩ = false := fun i => World.frozen_of_heap hb3 i
        have HB3 := Lib.hid hb3
        have h4' : cap2 ≤ 9223372036854775807 := by unfold maxLen at h4; omega
        have hsz : w.heap.size ≤ w2.heap.size := HN1.out.size
        clear c0 c1 hf d0 d1 df h1 h5 h6 hb3
        refine hK _ _ ?_
        clear hK K
        (repeat' (first | (refine wpLx_calm rfl rfl rfl (fun K hK => ?_); go_step <;> (refine hK _ ?_; clear hK K)) | (refine wpLx_skip2 rfl rfl rfl ?_; go_simp) | (refine wpLx_calm2 rfl rfl rfl rfl rfl (fun K hK => ?_); go_step <;> (refine hK _ ?_; clear hK K))))
        refine wpLx_eff rfl rfl rfl (fun K hK => ?_)
        go_step
        refine hK _ _ ?_
        clear hK K
        refine wpLx_nil ?_
        go_wp2_with fail
        go_ret
        refine grew_fin (l := l) (n := n) (bs := bs) (w2 := (w3.setCell ⟨b, 0, none⟩ (.slice (some ⟨w2.heap.size, 0, none⟩) l cap2)).setCell ⟨b, 1, none⟩ (.int .i64 0)) (g := w2.heap.size) (cur := cur2) (v0 := .slice (some ⟨w2.heap.size, 0, none⟩) l cap2) (lr := lr) ?_ ?_ ?_ (by have := HBL.out; omega) (by omega) h2 h3 h4 HT3.out rfl ?_
        · exact (((HN3.out.mono (fun _ h _ => h.elim)).setCell (p := ⟨b, 0, none⟩) (fun _ => .inl rfl) _).setCell (p := ⟨b, 1, none⟩) (fun _ => .inl rfl) _)
        · rw [World.heap_setCell_self (World.heap_setCell_self HB3.out 0 _)]; rfl
        · exact (((Upd.refl (fun k => k = b) w3).setCell (p := ⟨b, 0, none⟩) (fun _ => rfl) _).setCell (p := ⟨b, 1, none⟩) (fun _ => rfl) _).heap HG3.out (by have := HBL.out; omega)
        · first | rfl | simp
end Go.Proofs.YtmmjfpcmempeeaaDoor
