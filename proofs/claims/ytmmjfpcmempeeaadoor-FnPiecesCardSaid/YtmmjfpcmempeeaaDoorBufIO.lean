/- (*bytes.Buffer).Write, ReadFrom, Bytes. -/
import Derived.Test.YtmmjfpcmempeeaaDoorGrow
import Derived.Deep.LoopGhost
namespace Go.Proofs.YtmmjfpcmempeeaaDoor
open Go.RowKit
theorem Buf.upd {M : Nat → Prop} {w w1 : World} {b base : Nat} {v : Value} {bs : List UInt8} (h : Buf w b base v bs) (u : Upd M w w1) (hm : ∀ k, M k → k = b ∨ base ≤ k → False) : Buf w1 b base v bs := by
  obtain ⟨lr, hb⟩ := h.hb
  exact ⟨⟨lr, u.heap hb (fun hh => hm _ hh (.inl rfl))⟩, h.own.upd u (fun k hk hb => hm k hk (.inr hb)), h.apart⟩
theorem Buf.new {w w1 : World} {b base : Nat} {v : Value} {bs : List UInt8} (h : Buf w b base v bs) (u : New w w1) : Buf w1 b base v bs := h.upd u (fun _ hh _ => hh)
theorem Buf.last {w : World} {b base : Nat} {v : Value} {bs : List UInt8} (h : Buf w b base v bs) (x : Int) : Buf (w.setCell ⟨b, 2, none⟩ (.int .i8 x)) b base v bs := by
  obtain ⟨lr, hb⟩ := h.hb
  refine ⟨⟨x, by rw [World.heap_setCell_self hb]; rfl⟩, ?_, h.apart⟩
  refine ⟨h.own.1, ?_⟩
  rcases h.own.2 with h1 | ⟨g, cap, cur, hv, hb', hg, r⟩
  · exact .inl h1
  · exact .inr ⟨g, cap, cur, hv, hb', ((Upd.refl (fun k => k = b) w).setCell (p := ⟨b, 2, none⟩) (fun _ => rfl) _).heap hg (fun e => by have e : g = b := e; subst e; rw [hb] at hg; simp at hg), r⟩
/-- bytes laid into the room -/
theorem GrewPost.put {b base n l : Nat} {bs cs : List UInt8} {w w2 : World} {g cap : Nat} {cur : Array Value} {lr : Int} (hbl : bs.length = l) (hb : w.heap[b]? = some (.cells #[.slice (some ⟨g, 0, none⟩) (l + n) cap, .int .i64 0, .int .i8 lr] 95 (0, 0))) (hlg : base ≤ g) (hgb : g ≠ b) (hs : cur.size = cap) (hln : l + n ≤ cap) (hcm : cap ≤ maxLen)
    (ht : cur.toList.take l = bs.map bv) (hc : cs.length = n) (h2 : w2.heap[g]? = some (.cells (splice cur.toList l (cs.map bv)).toArray 5 (0, 0))) (u : Upd (fun k => k = g) w w2) : Buf w2 b base (.slice (some ⟨g, 0, none⟩) (l + n) cap) (bs ++ cs) := by
  have hlen : (bs ++ cs).length = l + n := by rw [List.length_append, hbl, hc]
  refine ⟨⟨lr, u.heap hb (fun e => hgb e.symm)⟩, ?_, by simp [Value.ownBlock]; exact hgb⟩
  rw [← hlen]
  refine ownB_of hlg h2 ?_ (by rw [hlen]; exact hln) hcm ?_
  · simp [splice]; omega
  · show (splice cur.toList l (cs.map bv)).take (bs ++ cs).length = (bs ++ cs).map bv
    rw [hlen]
    unfold splice
    rw [ht, List.map_append, ← List.append_assoc]
    rw [List.take_append_of_le_length (by rw [List.length_append, List.length_map, List.length_map, hbl, hc]; exact Nat.le_refl _), List.take_of_length_le (by rw [List.length_append, List.length_map, List.length_map, hbl, hc]; exact Nat.le_refl _)]
def WrotePost (b base : Nat) (bs cs : List UInt8) (w : World) (v : Value) (w' : World) : Prop := v = .tuple #[.int .i64 (cs.length : Int), .nilIface] ∧ (∃ v', Buf w' b base v' (bs ++ cs)) ∧ Upd (fun k => k = b ∨ base ≤ k) w w'
set_option maxRecDepth 100000 in
set_option maxHeartbeats 2000000 in
theorem bufWrite {w : World} {b base c : Nat} {v : Value} {bs cs : List UInt8} {p : Addr} (h : Buf w b base v bs) (hbase : base ≤ w.heap.size) (hp : BytesA w (some p) c cs) (hpb : p.block < base ∧ p.block ≠ b) (hn : 1 ≤ cs.length) (hl : bs.length + cs.length ≤ 1073741824) :
    Calls Tryd.prog 107 #[.pointer (some ⟨b, 0, none⟩), .slice (some p) cs.length c] w (Ret (WrotePost b base bs cs w)) := by
  obtain ⟨n, hcs⟩ : ∃ n, cs.length = n := ⟨_, rfl⟩
  obtain ⟨l, hbl⟩ : ∃ l, bs.length = l := ⟨_, rfl⟩
  have hc1 := hp.1
  have hc2 := hp.2.1
  unfold maxLen at hc2
  rw [hcs, hbl] at hl
  rw [hcs] at hn hc1 ⊢
  obtain ⟨lr, hb⟩ := h.hb
  have h0 := h.last 0
  have hw0 : Upd (fun k => k = b ∨ base ≤ k) w (w.setCell ⟨b, 2, none⟩ (.int .i8 0)) := (Upd.refl _ _).setCell (fun _ => .inl rfl) _
  obtain ⟨c0, c1, ⟨lr', c2⟩, hf⟩ := h.cells
  obtain ⟨d0, d1, _, df⟩ := h0.cells
  have KG := Lib.hid (bufGrow (n := n) h0 hbl (by simpa using hbase) hn hl)
  have HCS := Lib.hid hcs
  have HBLN := Lib.hid hbl
  have HP := Lib.hid hp
  have HW0 := Lib.hid hw0
  have hfin : Hid (∀ (w2 : World) (g cap : Nat) (cur : Array Value) (lr : Int), w2.heap[b]? = some (.cells #[.slice (some ⟨g, 0, none⟩) (l + n) cap, .int .i64 0, .int .i8 lr] 95 (0, 0)) → base ≤ g → g ≠ b → w2.heap[g]? = some (.cells cur 5 (0, 0)) → cur.size = cap → l + n ≤ cap → cap ≤ maxLen → cur.toList.take l = bs.map bv → Upd (fun k => k = b ∨ base ≤ k) w w2 →
      ∀ w3 : World, w3.heap[g]? = some (.cells (splice cur.toList l (cs.map bv)).toArray 5 (0, 0)) → Upd (fun k => k = g) w2 w3 → WrotePost b base bs cs w (.tuple #[.int .i64 (n : Int), .nilIface]) w3) := fun w2 g cap cur lr h1 h2 h3 h4 h5 h6 h7 h8 h9 w3 h10 h11 =>
    ⟨by rw [HCS.out], ⟨_, GrewPost.put HBLN.out h1 h2 h3 h5 h6 h7 h8 HCS.out h10 h11⟩, h9.trans (h11.mono (fun k hk _ => by have hk : k = g := hk; exact .inr (by rw [hk]; exact h2))) (fun k hk _ => hk)⟩
  have hcopy : Hid (∀ (w2 : World), Upd (fun k => k = b ∨ base ≤ k) w w2 → BytesA w2 (some p) c cs) := fun w2 h => HP.out.upd h (fun q hq _ hh => by simp only [Option.some.injEq] at hq; subst hq; have hh : p.block = b ∨ base ≤ p.block := hh; omega)
  obtain ⟨lr0, hb0⟩ := h0.hb
  rcases h0.row with ⟨rfl, hbs⟩ | ⟨g, cap, cur, rfl, hg1, hgb, hg, hs, hlc, hcm, ht⟩
  · have K1 := Lib.hid (bufTryNone (n := n) d0 (Nat.le_refl _) (by unfold maxLen; omega) (by omega))
    clear h hb h0 hw0 hp hb0 hbs hbl
    go_enter Tryd.func107, Tryd.ntmps107
    go_wp2_with (first | (go_at_call 111; refine callRet K1.out ?_; rintro v w2 ⟨rfl, rfl⟩) | (go_at_call 110; refine callRet KG.out ?_; rintro v w2 ⟨rfl, g, cap2, cur2, lr2, hb2, hlg, hgb, hg2, hs2, hln, hcm2, ht2, hu2⟩; have HU := Lib.hid (HW0.out.trans hu2 (fun k hk _ => hk)); have HFIN := Lib.hid (fun w3 => hfin.out w2 g cap2 cur2 lr2 hb2 hlg hgb hg2 hs2 hln hcm2 ht2 HU.out w3); have HCP := Lib.hid (hcopy.out w2 HU.out); have HG2 := Lib.hid hg2; have e0 : w2.cell? ⟨b, 0, none⟩ = some (.slice (some ⟨g, 0, none⟩) (l + n) cap2) := (by rw [World.cell_of_heap hb2]; rfl); have hcm2' : cap2 ≤ 9223372036854775807 := (by unfold maxLen at hcm2; omega); have hlc2 : l ≤ cap2 := (by omega); clear hb2 ht2 hu2 hg2) | (refine wpList_plain rfl (fun K hK => ?_); refine wp_copy eB (.tmp 29) (.tmp 30) 29 rfl g l n (cap2 - l) rfl cur2 5 HG2.out (some p) n c rfl (fun h => (by cases h)) (cs.map bv) (by rw [List.length_map, HCS.out, Nat.min_self]) (fun q hq => (by cases hq; exact HCP.out.news)) (by simp [HCS.out]; omega) (oneCell_bytes _) ?_; intro w4 h1 h2 h3; rw [List.length_map]; have HF := Lib.hid (HFIN.out w4 h1 h2); refine hK _ _ ?_; clear hK K h1 h2 h3))
    go_ret2
    exact HF.out
  · obtain ⟨cap0, hcap0⟩ : ∃ c0 : Nat, c0 = cap := ⟨_, rfl⟩
    rw [hbl] at hlc ht d0 hb0
    by_cases hroom : n ≤ cap - l
    · have K1 := Lib.hid (bufTryRoom (n := n) d0 df hlc hcm hroom)
      have hg2 : ((w.setCell ⟨b, 2, none⟩ (.int .i8 0)).setCell ⟨b, 0, none⟩ (.slice (some ⟨g, 0, none⟩) (l + n) cap)).heap[g]? = some (.cells cur 5 (0, 0)) := ((Upd.refl (fun k => k = b) (w.setCell ⟨b, 2, none⟩ (.int .i8 0))).setCell (p := ⟨b, 0, none⟩) (fun _ => rfl) _).heap hg hgb
      have hb2 : ((w.setCell ⟨b, 2, none⟩ (.int .i8 0)).setCell ⟨b, 0, none⟩ (.slice (some ⟨g, 0, none⟩) (l + n) cap)).heap[b]? = some (.cells #[.slice (some ⟨g, 0, none⟩) (l + n) cap, .int .i64 0, .int .i8 lr0] 95 (0, 0)) := by rw [World.heap_setCell_self hb0]; rfl
      have hu2 : Upd (fun k => k = b ∨ base ≤ k) w ((w.setCell ⟨b, 2, none⟩ (.int .i8 0)).setCell ⟨b, 0, none⟩ (.slice (some ⟨g, 0, none⟩) (l + n) cap)) := hw0.setCell (fun _ => .inl rfl) _
      have HG2 := Lib.hid hg2
      have HCP := Lib.hid (hcopy.out _ hu2)
      have hs2 : cur.size = cap := hs
      have HFIN := Lib.hid (fun w3 => hfin.out _ g cap cur lr0 hb2 hg1 hgb hg2 hs (by omega) hcm ht hu2 w3)
      clear h hb h0 hw0 hp hb0 hbl ht hg KG hgb hg1 hs hg2 hb2 hu2 hfin hcopy hcap0
      go_enter Tryd.func107, Tryd.ntmps107
      go_wp2_with (first | (go_at_call 111; refine callRet K1.out ?_; rintro v w2 ⟨rfl, rfl⟩; have hlc2 : l ≤ cap := hlc; have hln : l + n ≤ cap := (by omega)) | (refine wpList_plain rfl (fun K hK => ?_); refine wp_copy eB (.tmp 29) (.tmp 30) 29 rfl g l n (cap - l) rfl cur 5 HG2.out (some p) n c rfl (fun h => (by cases h)) (cs.map bv) (by rw [List.length_map, HCS.out, Nat.min_self]) (fun q hq => (by cases hq; exact HCP.out.news)) (by simp [HCS.out]; omega) (oneCell_bytes _) ?_; intro w4 h1 h2 h3; rw [List.length_map]; have HF := Lib.hid (HFIN.out w4 h1 h2); refine hK _ _ ?_; clear hK K h1 h2 h3))
      go_ret2
      exact HF.out
    · have K1 := Lib.hid (bufTryNone (n := n) d0 hlc hcm (by omega))
      clear h hb h0 hw0 hp hb0 hbl ht hg hgb hg1 hs hcap0
      go_enter Tryd.func107, Tryd.ntmps107
      go_wp2_with (first | (go_at_call 111; refine callRet K1.out ?_; rintro v w2 ⟨rfl, rfl⟩) | (go_at_call 110; refine callRet KG.out ?_; rintro v w2 ⟨rfl, g2, cap2, cur2, lr2, hb2, hlg, hgb, hg2, hs2, hln, hcm2, ht2, hu2⟩; have HU := Lib.hid (HW0.out.trans hu2 (fun k hk _ => hk)); have HFIN := Lib.hid (fun w3 => hfin.out w2 g2 cap2 cur2 lr2 hb2 hlg hgb hg2 hs2 hln hcm2 ht2 HU.out w3); have HCP := Lib.hid (hcopy.out w2 HU.out); have HG2 := Lib.hid hg2; have e0 : w2.cell? ⟨b, 0, none⟩ = some (.slice (some ⟨g2, 0, none⟩) (l + n) cap2) := (by rw [World.cell_of_heap hb2]; rfl); have hcm2' : cap2 ≤ 9223372036854775807 := (by unfold maxLen at hcm2; omega); have hlc2 : l ≤ cap2 := (by omega); clear hb2 ht2 hu2 hg2) | (refine wpList_plain rfl (fun K hK => ?_); refine wp_copy eB (.tmp 29) (.tmp 30) 29 rfl g2 l n (cap2 - l) rfl cur2 5 HG2.out (some p) n c rfl (fun h => (by cases h)) (cs.map bv) (by rw [List.length_map, HCS.out, Nat.min_self]) (fun q hq => (by cases hq; exact HCP.out.news)) (by simp [HCS.out]; omega) (oneCell_bytes _) ?_; intro w4 h1 h2 h3; rw [List.length_map]; have HF := Lib.hid (HFIN.out w4 h1 h2); refine hK _ _ ?_; clear hK K h1 h2 h3))
      go_ret2
      exact HF.out
end Go.Proofs.YtmmjfpcmempeeaaDoor
