/- spec.Joined: the pieces, one behind the other. -/
import Derived.Test.YtgbbogocfmepiaaDoorArg
namespace Go.Proofs.YtgbbogocfmepiaaDoor
open Go.RowKit
theorem NewB.grow {w w1 w2 : World} {v v' : Value} {bs cs : List UInt8} {m : Nat} (h : NewB w w1 v bs) (hm : cs.length = m) (ho : w2.ownsRow w.heap.size 5 1 v' (bs.length + m) (bs.map bv ++ cs.map bv))
    (hg : w1.grownBy w2 v.ownBlock) (hnil : v' = .slice none 0 0 ↔ v = .slice none 0 0 ∧ m = 0) : NewB w w2 v' (bs ++ cs) := by
  obtain ⟨hu, g, cp, rfl, ho1⟩ := h
  subst hm
  have hl := (ho1.lt g rfl).1
  refine ⟨hu.grown hg (fun k hk hlt => ?_), ?_⟩
  · simp only [Value.ownBlock, Option.some.injEq] at hk; omega
  · rw [← List.map_append] at ho
    have hlen : (bs ++ cs).length = bs.length + cs.length := by simp
    have ho' := ho
    rcases ho'.2 with ⟨hv, _⟩ | ⟨g2, cap, cur, hv, _⟩
    · have := (hnil.1 hv).1; simp at this
    · subst hv
      exact ⟨g2, cap, by rw [hlen], by rw [hlen]; exact ho⟩
set_option maxHeartbeats 1000000 in
theorem specJoined (a : Option Addr) (c : Nat) (ps : List (List UInt8)) (w : World) (h : PiecesA w a c ps) (hl : ps.flatten.length ≤ 70368744177664) :
    Calls Tryd.prog 11 #[.slice a ps.length c] w (Ret fun v w' => NewB w w' v ps.flatten) := by
  have h1 := h.1
  have h2 := h.2.1
  unfold maxLen at h2
  have H := Lib.hid h
  have h0 : Hid (NewB w (w.alloc (.cells #[] 5)) (.slice (some ⟨w.heap.size, 0, none⟩) 0 0) []) :=
    ⟨(Upd.refl _ _).alloc _, w.heap.size, 0, rfl, World.ownsRow_made w #[] 0 (Nat.le_refl _) (Nat.zero_le _) rfl⟩
  have HL := Lib.hid hl
  clear h hl
  go_enter Tryd.func11, Tryd.ntmps11
  go_wp2
  go_loopw [3, 9] (fun v i wr => ∃ k : Nat, k ≤ ps.length ∧ i = .int .i64 k ∧ NewB w wr v (ps.take k).flatten) (fun _ i _ => ps.length - (intOf i).toNat)
  case atStart => exact ⟨0, Nat.zero_le _, rfl, by simpa using h0.out⟩
  case round =>
    obtain ⟨k, hk, rfl, hnb⟩ := hrel
    by_cases hlt : k < ps.length
    · have hb : ∃ b o ai ci m, a = some ⟨b, o, none⟩ ∧ ps[k].length = m ∧ wr.cell? ⟨b, o + k, none⟩ = some (.slice ai m ci) ∧ m ≤ ci ∧ ci ≤ 9223372036854775807 ∧ BytesA wr ai ci ps[k] := (H.out.new hnb.1).at hlt
      obtain ⟨b, o, ai, ci, m, rfl, hm', hc, hb1, hb2, hby⟩ := hb
      have hlen : (ps.take k).flatten.length + m ≤ 70368744177664 := by
        have e1 := flatten_take_succ ps k hlt
        have e2 := lensum_take_le_all ps (k + 1)
        rw [e1, List.length_append, hm'] at e2
        exact Nat.le_trans e2 HL.out
      have HM := Lib.hid hm'
      have HN := Lib.hid hnb
      have HB := Lib.hid hby
      obtain ⟨hu, g, cp, hv, ho⟩ := hnb
      subst hv
      have HO := Lib.hid ho
      have hsz : w.heap.size ≤ wr.heap.size := hu.size
      have hlen2 : Hid ((ps.take k).flatten.length + m ≤ 70368744177664) := hlen
      clear hm' hby ho hu hlen
      go_wp2_with (at_builtin; refine wpList_plain rfl (fun K hK => ?_); refine wp_append eB _ _ rfl w.heap.size _ _ _ rfl HO.out ai m ci (ps[k].map bv) rfl (by rw [List.length_map, HM.out, Nat.mul_one]) (fun hn => by have := HB.out.1; have := HB.out.2.2.1 hn; have := HM.out; omega) (fun p hp => by have := HB.out; subst hp; exact this.news) (oneCell_bytes _) (by have := hlen2.out; unfold maxLen; omega) (by have := hlen2.out; omega) hsz ?_; intro v' w' h3 h4 h5; refine hK _ _ ?_; clear hK K)
      have hnew := HN.out.grow HM.out h3 h4 h5
      rw [← flatten_take_succ ps k hlt] at hnew
      have HNEW := Lib.hid hnew
      clear hnew h3 h4 h5
      go_wp2
      go_roundw
      case rel => exact ⟨k + 1, by omega, by go_num, HNEW.out⟩
      case measure => simp [intOf]; omega
    · obtain rfl : k = ps.length := by omega
      rw [List.take_length] at hnb
      have HN := Lib.hid hnb
      clear hnb
      go_wp2
      go_ret
      exact HN.out
end Go.Proofs.YtgbbogocfmepiaaDoor
