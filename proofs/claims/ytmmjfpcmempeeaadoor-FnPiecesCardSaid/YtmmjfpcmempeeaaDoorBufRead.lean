/- (*bytes.Buffer).Bytes, ReadFrom. -/
import Derived.Test.YtmmjfpcmempeeaaDoorBufIO
namespace Go.Proofs.YtmmjfpcmempeeaaDoor
open Go.RowKit
@[go_sem] theorem runMakeFunc (P : Program) (fn : Fn) (first cap : Array Value) (w : World) : (Instr.makeFunc fn first cap).run P w = .ok (.func fn first cap) w := rfl
@[go_sem] theorem eventsMakeFunc (P : Program) (fn : Fn) (first cap : Array Value) (w : World) (es : Array Event) : (Instr.makeFunc fn first cap).events P w es = es := rfl
/-- the bytes, told -/
theorem bufBytes {w : World} {b base : Nat} {v : Value} {bs : List UInt8} (h : Buf w b base v bs) :
    Calls Tryd.prog 52 #[.pointer (some ⟨b, 0, none⟩)] w (Ret fun r w' => New w w' ∧ ∃ a c, r = .slice a bs.length c ∧ BytesA w a c bs) := by
  obtain ⟨c0, c1, _, _⟩ := h.cells
  have hB := h.own.bytes
  rcases h.row with ⟨rfl, rfl⟩ | ⟨g, cap, cur, rfl, hg1, hgb, hg, hs, hlc, hcm, ht⟩
  · clear h hB
    go_enter Tryd.func52, Tryd.ntmps52
    (go_wp2_with fail; (repeat' (refine wp_region_lx {} (by kernel_rfl) (by kernel_rfl) ⟨fun _ _ _ h => h.2, fun _ _ h => h⟩ ?_; (repeat' (first | (refine wpLx_calm rfl rfl rfl (fun K hK => ?_); go_step <;> (refine hK _ ?_; clear hK K)) | (refine wpLx_skip2 rfl rfl rfl ?_; go_simp) | (refine wpLx_calm2 rfl rfl rfl rfl rfl (fun K hK => ?_); go_step <;> (refine hK _ ?_; clear hK K)))); all_goals (refine wpLx_nil ?_; try go_wp2_with fail))))
    go_ret
    exact ⟨(Upd.refl _ _).drew, none, 0, rfl, Nat.le_refl _, Nat.zero_le _, fun _ => rfl, fun p hp => by cases hp⟩
  · have hc' : cap ≤ 9223372036854775807 := by unfold maxLen at hcm; omega
    obtain ⟨l, hl⟩ : ∃ l, bs.length = l := ⟨_, rfl⟩
    have hBA : BytesA w (some ⟨g, 0, none⟩) cap bs := by obtain ⟨a, c, e, q⟩ := hB; simp only [Value.slice.injEq, true_and] at e; obtain ⟨rfl, rfl⟩ := e; exact q
    have HB := Lib.hid hBA
    rw [hl] at c0 hlc ⊢
    clear h hB hBA ht hs hg hl
    go_enter Tryd.func52, Tryd.ntmps52
    (go_wp2_with fail; (repeat' (refine wp_region_lx {} (by kernel_rfl) (by kernel_rfl) ⟨fun _ _ _ h => h.2, fun _ _ h => h⟩ ?_; (repeat' (first | (refine wpLx_calm rfl rfl rfl (fun K hK => ?_); go_step <;> (refine hK _ ?_; clear hK K)) | (refine wpLx_skip2 rfl rfl rfl ?_; go_simp) | (refine wpLx_calm2 rfl rfl rfl rfl rfl (fun K hK => ?_); go_step <;> (refine hK _ ?_; clear hK K)))); all_goals (refine wpLx_nil ?_; try go_wp2_with fail))))
    go_ret
    exact ⟨(Upd.refl _ _).drew, _, _, rfl, HB.out⟩
def ReadFromPost (S : Err → Addr) (b base lo hi : Nat) (bs all : List UInt8) (f : Bool) (w : World) (v : Value) (w' : World) : Prop :=
  v = .tuple #[.int .i64 (all.length : Int), if f then eV S (some .fault) else .nilIface] ∧ (∃ v', Buf w' b base v' (bs ++ all)) ∧ Upd (fun k => k = b ∨ base ≤ k ∨ (lo ≤ k ∧ k < hi)) w w'
set_option maxRecDepth 100000 in
set_option maxHeartbeats 4000000 in
theorem bufReadFrom {S : Err → Addr} {B : Nat} {w : World} {b base lo hi s : Nat} {v : Value} {bs : List UInt8} {ps : List (List UInt8)} {f : Bool} (E : Env S B w) (h : Buf w b base v bs) (hsrc : Src w lo hi s ps f) (hB : B ≤ b ∧ B ≤ lo ∧ B ≤ base) (hhi : hi ≤ base) (hb : ¬ (lo ≤ b ∧ b < hi)) (hbase : base ≤ w.heap.size) (hl : bs.length + ps.flatten.length ≤ 1000000000) (hbb : b < base) :
    Calls Tryd.prog 104 #[.pointer (some ⟨b, 0, none⟩), .iface 82 (.pointer (some ⟨s, 0, none⟩))] w (Ret (ReadFromPost S b base lo hi bs ps.flatten f w)) := by
  have HE := Lib.hid E
  have HB := Lib.hid hB
  have HHI := Lib.hid hhi
  have HNB := Lib.hid hb
  have HL := Lib.hid hl
  have HBS := Lib.hid hbase
  have HBB := Lib.hid hbb
  obtain ⟨c0, c1, ⟨lr, c2⟩, hf⟩ := h.cells
  have hu0 : Upd (fun k => k = b ∨ base ≤ k ∨ (lo ≤ k ∧ k < hi)) w (w.setCell ⟨b, 2, none⟩ (.int .i8 0)) := (Upd.refl _ _).setCell (fun _ => .inl rfl) _
  have HU0 := Lib.hid hu0
  have H0 := Lib.hid (h.last 0)
  have HS0 := Lib.hid (hsrc.upd ((Upd.refl (fun k => k = b) w).setCell (p := ⟨b, 2, none⟩) (fun _ => rfl) (.int .i8 0)) (fun k hk h1 h2 => by have hk : k = b := hk; subst hk; exact hb ⟨h1, h2⟩))
  clear E hB hhi hb hl hbase hbb h hsrc hu0 c0 c1
  go_enter Tryd.func104, Tryd.ntmps104
  go_wp2
  go_loopg [4] (ps.flatten.length + ps.length) (fun gk t4 wx => ∃ (ds : List UInt8) (ps1 : List (List UInt8)) (v1 : Value), t4 = .int .i64 (ds.length : Int) ∧ Buf wx b base v1 (bs ++ ds) ∧ Src wx lo hi s ps1 f ∧ ps.flatten = ds ++ ps1.flatten ∧ Upd (fun k => k = b ∨ base ≤ k ∨ (lo ≤ k ∧ k < hi)) w wx ∧ ps1.flatten.length + ps1.length ≤ gk)
  case atStart => exact ⟨[], ps, v, rfl, by rw [List.append_nil]; exact H0.out, HS0.out, rfl, HU0.out, Nat.le_refl _⟩
  case round =>
    obtain ⟨ds, ps1, v1, rfl, h1, hs1, hfl, hu1, hgk⟩ := hrel
    have hgl : bs.length + ds.length ≤ 1000000000 := by have h1 := HL.out; rw [hfl, List.length_append] at h1; omega
    obtain ⟨l, hll⟩ : ∃ l, (bs ++ ds).length = l := ⟨_, rfl⟩
    have hl1 : l ≤ 1000000000 := by rw [List.length_append] at hll; omega
    have hbsz : base ≤ wr.heap.size := Nat.le_trans HBS.out hu1.size
    have K1 := Lib.hid (bufGrow (n := 512) h1 hll hbsz (by omega) (by omega))
    have HLL := Lib.hid hll
    have HFL := Lib.hid hfl
    have HGK := Lib.hid hgk
    have HU1 := Lib.hid hu1
    have HS1 := Lib.hid hs1
    clear h1 hs1 hfl hu1 hgk hbsz hll hf
    obtain ⟨dn, hdn⟩ : ∃ dn, ds.length = dn := ⟨_, rfl⟩
    rw [hdn]
    have HDN := Lib.hid hdn
    rw [hdn] at hgl
    clear hdn
    go_wp2_with (go_at_call 110; refine callRet K1.out ?_; rintro v w2 ⟨rfl, g, cap, cur, lr2, hb2, hlg, hgb, hg2, hs2, hln, hcm2, ht2, hu2⟩; have HU2 : Hid (Upd (fun k => k = b ∨ base ≤ k ∨ (lo ≤ k ∧ k < hi)) w w2) := HU1.out.trans hu2 (fun k hk _ => by rcases hk with hk | hk; exact .inl hk; exact .inr (.inl hk)); have HS2 := Lib.hid (HS1.out.upd hu2 (fun k hk h1 h2 => by rcases hk with hk | hk; exact HNB.out (by rw [← hk]; exact ⟨h1, h2⟩); have := HHI.out; omega)); have HB2 := Lib.hid hb2; have HG2 := Lib.hid hg2; have HT2 := Lib.hid ht2; have e0 : w2.cell? ⟨b, 0, none⟩ = some (.slice (some ⟨g, 0, none⟩) (l + 512) cap) := (by rw [World.cell_of_heap hb2]; rfl); have ef : ∀ i, w2.frozen? ⟨b, i, none⟩ = false := (fun i => World.frozen_of_heap hb2 i); have hcm2' : cap ≤ 9223372036854775807 := (by unfold maxLen at hcm2; omega); have hlc2 : l ≤ cap := (by omega); have hbsz2 := Nat.le_trans HBS.out HU2.out.size; clear hb2 ht2 hu2 hg2)
    have hb3 : (w2.setCell ⟨b, 0, none⟩ (.slice (some ⟨g, 0, none⟩) l cap)).heap[b]? = some (.cells #[.slice (some ⟨g, 0, none⟩) l cap, .int .i64 0, .int .i8 lr2] 95 (0, 0)) := by rw [World.heap_setCell_self HB2.out]; rfl
    have hu3 : Upd (fun k => k = b) w2 (w2.setCell ⟨b, 0, none⟩ (.slice (some ⟨g, 0, none⟩) l cap)) := (Upd.refl (fun k => k = b) w2).setCell (p := ⟨b, 0, none⟩) (fun _ => rfl) _
    have hg3 : (w2.setCell ⟨b, 0, none⟩ (.slice (some ⟨g, 0, none⟩) l cap)).heap[g]? = some (.cells cur 5 (0, 0)) := hu3.heap HG2.out hgb
    have HS3 := Lib.hid (HS2.out.upd hu3 (fun k hk h1 h2 => HNB.out (by have hk : k = b := hk; rw [← hk]; exact ⟨h1, h2⟩)))
    have HU3 := Lib.hid (HU2.out.trans hu3 (fun k hk _ => .inl hk))
    have HB3 := Lib.hid hb3
    have HG3 := Lib.hid hg3
    have HE3 := Lib.hid (HE.out.upd HU3.out (fun k hk => by have := HB.out; rcases hk with hk | hk | hk <;> omega))
    obtain ⟨w3, hw3⟩ : ∃ w3, w3 = (w2.setCell ⟨b, 0, none⟩ (.slice (some ⟨g, 0, none⟩) l cap)) := ⟨_, rfl⟩
    rw [← hw3] at HS3 HU3 HB3 HG3 HE3 ⊢
    have f0 : w3.cell? ⟨b, 0, none⟩ = some (.slice (some ⟨g, 0, none⟩) l cap) := by rw [World.cell_of_heap HB3.out]; rfl
    clear hb3 hu3 hg3 hw3 e0 ef
    cases ps1 with
    | nil =>
      refine wp_region_lx {} (by kernel_rfl) (by kernel_rfl) ⟨fun _ _ _ h => h.2, fun _ _ h => h⟩ ?_
      (repeat' (first | (refine wpLx_calm rfl rfl rfl (fun K hK => ?_); go_step <;> (refine hK _ ?_; clear hK K)) | (refine wpLx_skip2 rfl rfl rfl ?_; go_simp) | (refine wpLx_calm2 rfl rfl rfl rfl rfl (fun K hK => ?_); go_step <;> (refine hK _ ?_; clear hK K))))
      refine wpLx_eff rfl rfl rfl (fun K hK => ?_)
      refine wp_call (srcRead_nil (f := f) (HE3.out.new (Upd.refl _ _).drew) (HS3.out.new (Upd.refl _ _).drew) (.slice (some ⟨g, l, none⟩) (cap - l) (cap - l))) (by kernel_rfl) ?_
      rintro v w4 ⟨hw4, rfl⟩
      have hn4 : New w3 w4 := (Upd.refl (fun _ => False) w3).drew.andNew hw4
      have hb4 := hn4.heap HB3.out (fun h => h)
      have f4 : w4.cell? ⟨b, 0, none⟩ = some (.slice (some ⟨g, 0, none⟩) l cap) := by rw [World.cell_of_heap hb4]; rfl
      have ef4 : ∀ i, w4.frozen? ⟨b, i, none⟩ = false := fun i => World.frozen_of_heap hb4 i
      have hbufn : ∀ w5, w5 = w4.setCell ⟨b, 0, none⟩ (.slice (some ⟨g, 0, none⟩) l cap) → Env S B w5 ∧ ∀ v5, v5 = (if f then eV S (some .fault) else .nilIface) → ReadFromPost S b base lo hi bs ps.flatten f w (.tuple #[.int .i64 (dn : Int), v5]) w5 := by
        intro w5 hw5
        have hu5 : Upd (fun k => k = b) w4 w5 := by rw [hw5]; exact (Upd.refl (fun k => k = b) w4).setCell (p := ⟨b, 0, none⟩) (fun _ => rfl) _
        have hU5 : Upd (fun k => k = b ∨ base ≤ k ∨ (lo ≤ k ∧ k < hi)) w w5 := (HU3.out.andNew hn4).trans hu5 (fun k hk _ => .inl hk)
        refine ⟨HE.out.upd hU5 (fun k hk => by have := HB.out; rcases hk with hk | hk | hk <;> omega), fun v5 hv5 => ?_⟩
        have hfl : ps.flatten = ds := by have := HFL.out; simpa using this
        subst hv5
        refine ⟨by rw [hfl, HDN.out], ⟨.slice (some ⟨g, 0, none⟩) l cap, ⟨lr2, by rw [hw5, World.heap_setCell_self hb4]; rfl⟩, ?_, by simp [Value.ownBlock]; exact hgb⟩, hU5⟩
        rw [hfl, ← HLL.out]
        exact ownB_of hlg (hu5.heap (hn4.heap HG3.out (fun h => h)) hgb) hs2 (by rw [HLL.out]; exact hlc2) hcm2 (by rw [HLL.out]; exact HT2.out)
      have HBN := Lib.hid hbufn
      clear hbufn hb4 hn4 f0
      refine hK _ _ ?_
      clear hK K
      (repeat' (first | (refine wpLx_calm rfl rfl rfl (fun K hK => ?_); go_step <;> (refine hK _ ?_; clear hK K)) | (refine wpLx_skip2 rfl rfl rfl ?_; go_simp) | (refine wpLx_calm2 rfl rfl rfl rfl rfl (fun K hK => ?_); go_step <;> (refine hK _ ?_; clear hK K))))
      refine wpLx_nil ?_
      have hfv : f = false ∨ f = true := by cases f <;> simp
      rcases hfv with rfl | rfl
      · have hE5 := (HBN.out _ rfl).1
        have l1 : (w4.setCell ⟨b, 0, none⟩ (.slice (some ⟨g, 0, none⟩) l cap)).cell? ⟨0, 0, none⟩ = some (.iface 151 (.pointer (some (S .eof)))) := (hE5.g .eof (by decide)).2
        have l2 := hE5.eq .eof .eof
        simp only [eV] at l2
        have hev : eV S (some (endErr false)) = .iface 151 (.pointer (some (S .eof))) := rfl
        rw [hev]
        have HF := Lib.hid (fun v5 => (HBN.out _ rfl).2 v5)
        clear hE5 hw4 hev HBN
        go_wp2
        go_ret2
        exact HF.out _ rfl
      · have hE5 := (HBN.out _ rfl).1
        have l1 : (w4.setCell ⟨b, 0, none⟩ (.slice (some ⟨g, 0, none⟩) l cap)).cell? ⟨0, 0, none⟩ = some (.iface 151 (.pointer (some (S .eof)))) := (hE5.g .eof (by decide)).2
        have l2 := hE5.eq .fault .eof
        simp only [eV] at l2
        have hev : eV S (some (endErr true)) = .iface 108 (.agg #[]) := rfl
        rw [hev]
        have HF := Lib.hid (fun v5 => (HBN.out _ rfl).2 v5)
        clear hE5 hw4 hev HBN
        go_wp2
        go_ret2
        exact HF.out _ rfl
    | cons p0 rest =>
      obtain ⟨m, hm⟩ : ∃ m, m = min p0.length (cap - l) := ⟨_, rfl⟩
      have hm1 : m ≤ p0.length := by omega
      have hm2 : l + m ≤ cap := by omega
      have hm3 : m = p0.length ∨ 1 ≤ m := by omega
      have HM := Lib.hid hm
      clear hm
      refine wp_region_lx {} (by kernel_rfl) (by kernel_rfl) ⟨fun _ _ _ h => h.2, fun _ _ h => h⟩ ?_
      (repeat' (first | (refine wpLx_calm rfl rfl rfl (fun K hK => ?_); go_step <;> (refine hK _ ?_; clear hK K)) | (refine wpLx_skip2 rfl rfl rfl ?_; go_simp) | (refine wpLx_calm2 rfl rfl rfl rfl rfl (fun K hK => ?_); go_step <;> (refine hK _ ?_; clear hK K))))
      refine wpLx_eff rfl rfl rfl (fun K hK => ?_)
      refine wp_call (srcRead_cons (f := f) (HS3.out.new (Upd.refl _ _).drew) g l (cap - l) (cap - l) cur ((Upd.refl (fun _ => False) w3).drew.heap HG3.out (fun h => h)) (fun hh => by have := HHI.out; omega) (by omega) (Nat.le_refl _) (by omega)) (by kernel_rfl) ?_
      rw [← HM.out]
      rintro v w4 ⟨rfl, hg4, hs4, hu4, _⟩
      have hn4 : Upd (fun k => k = g ∨ (lo ≤ k ∧ k < hi)) w3 w4 := (Upd.refl _ w3).drew.trans hu4 (fun k hk _ => hk)
      have hb4 := hn4.heap HB3.out (fun h => by rcases h with h | h; exact hgb h.symm; exact HNB.out h)
      have f4 : w4.cell? ⟨b, 0, none⟩ = some (.slice (some ⟨g, 0, none⟩) l cap) := by rw [World.cell_of_heap hb4]; rfl
      have ef4 : ∀ i, w4.frozen? ⟨b, i, none⟩ = false := fun i => World.frozen_of_heap hb4 i
      have hbufn : ∀ w5, w5 = w4.setCell ⟨b, 0, none⟩ (.slice (some ⟨g, 0, none⟩) (l + m) cap) → ∃ (ds' : List UInt8) (ps2 : List (List UInt8)) (v2 : Value), ((dn : Int) + (m : Int)) = (ds'.length : Int) ∧ Buf w5 b base v2 (bs ++ ds') ∧ Src w5 lo hi s ps2 f ∧ ps.flatten = ds' ++ ps2.flatten ∧ Upd (fun k => k = b ∨ base ≤ k ∨ (lo ≤ k ∧ k < hi)) w w5 ∧ ps2.flatten.length + ps2.length ≤ gk - 1 ∧ gk - 1 < gk := by
        intro w5 hw5
        have hu5 : Upd (fun k => k = b) w4 w5 := by rw [hw5]; exact (Upd.refl (fun k => k = b) w4).setCell (p := ⟨b, 0, none⟩) (fun _ => rfl) _
        have hU5 : Upd (fun k => k = b ∨ base ≤ k ∨ (lo ≤ k ∧ k < hi)) w w5 := (HU3.out.trans hn4 (fun k hk _ => by rcases hk with hk | hk; exact .inr (.inl (by rw [hk]; exact hlg)); exact .inr (.inr hk))).trans hu5 (fun k hk _ => .inl hk)
        have hfl := HFL.out
        rw [srcLeft_flatten m p0 rest hm1, ← List.append_assoc] at hfl
        have hgk := HGK.out
        have hml : (p0.take m).length = m := by simp; omega
        have hgk2 : (srcLeft m (p0 :: rest)).flatten.length + (srcLeft m (p0 :: rest)).length + 1 ≤ gk := by
          have h1 := congrArg List.length (srcLeft_flatten m p0 rest hm1)
          rw [List.length_append, hml] at h1
          rw [h1, List.length_cons] at hgk
          have h2 : (srcLeft m (p0 :: rest)).length + (if m = p0.length then 1 else 0) = rest.length + 1 := by unfold srcLeft; simp only []; split <;> simp
          split at h2 <;> omega
        refine ⟨ds ++ p0.take m, srcLeft m (p0 :: rest), .slice (some ⟨g, 0, none⟩) (l + m) cap, ?_, ⟨⟨lr2, by rw [hw5, World.heap_setCell_self hb4]; rfl⟩, ?_, by simp [Value.ownBlock]; exact hgb⟩, ?_, hfl, hU5, by omega, by omega⟩
        · rw [List.length_append, hml, HDN.out]; omega
        · have hlen : (bs ++ (ds ++ p0.take m)).length = l + m := by rw [← List.append_assoc, List.length_append, HLL.out, hml]
          rw [← hlen]
          refine ownB_of hlg (hu5.heap hg4 hgb) (by simp [splice]; omega) (by rw [hlen]; exact hm2) hcm2 ?_
          show (splice cur.toList l ((p0.take m).map bv)).take _ = _
          rw [hlen]
          unfold splice
          have hq : l + m = (((bs ++ ds).map bv) ++ (p0.take m).map bv).length := by rw [List.length_append, List.length_map, List.length_map, HLL.out, hml]
          rw [HT2.out, ← List.append_assoc bs, List.map_append (l₁ := bs ++ ds), ← List.append_assoc, List.take_append_of_le_length (by omega), List.take_of_length_le (by omega)]
        · exact hs4.upd hu5 (fun k hk h1 h2 => HNB.out (by have hk : k = b := hk; rw [← hk]; exact ⟨h1, h2⟩))
      have HBN := Lib.hid hbufn
      have hE4 : Env S B w4 := HE3.out.upd hn4 (fun k hk => by have := HB.out; rcases hk with hk | hk; rw [hk]; omega; omega)
      have l1 : w4.cell? ⟨0, 0, none⟩ = some (.iface 151 (.pointer (some (S .eof)))) := (hE4.g .eof (by decide)).2
      have hb0 : 0 < B := (hE4.g .eof (by decide)).1
      have hbn : ¬ b = 0 := by have := HB.out; omega
      have l2 : ∀ wx, (binOp .eql 73 .nilIface (.iface 151 (.pointer (some (S .eof))))).run Tryd.prog wx = .ok (.bool false) wx := fun wx => by kernel_rfl
      have hdm : dn + m ≤ 1000000000 := by
        have h1 := HL.out
        rw [HFL.out, List.length_append, List.flatten_cons, List.length_append, HDN.out] at h1
        omega
      have q1 : decide ((m : Int) < 0) = false := decide_eq_false (by omega)
      clear hbufn hb4 hn4 f0 hE4 hg4 hs4 hu4
      refine hK _ _ ?_
      clear hK K
      (repeat' (first | (refine wpLx_calm rfl rfl rfl (fun K hK => ?_); go_step <;> (refine hK _ ?_; clear hK K)) | (refine wpLx_skip2 rfl rfl rfl ?_; go_simp) | (refine wpLx_calm2 rfl rfl rfl rfl rfl (fun K hK => ?_); go_step <;> (refine hK _ ?_; clear hK K))))
      refine wpLx_nil ?_
      go_wp2
      obtain ⟨ds2, ps2, v2, r1, r2, r3, r4, r5, r6, r7⟩ := HBN.out _ rfl
      go_roundg (gk - 1)
      case measure => exact r7
      case rel => exact ⟨ds2, ps2, v2, by rw [r1], r2, r3, r4, r5, r6⟩
end Go.Proofs.YtmmjfpcmempeeaaDoor
