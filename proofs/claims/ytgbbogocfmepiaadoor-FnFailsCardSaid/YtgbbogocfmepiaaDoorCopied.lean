/- impl.copied: a new slice with the same bytes. -/
import Derived.Test.YtgbbogocfmepiaaDoorLaws
import Derived.Test.YtgbbogocfmepiaaDoorProg
namespace Go.Proofs.YtgbbogocfmepiaaDoor
open Go.RowKit
/-- []uint8 -/
theorem eB : ElemI Tryd.prog 29 5 (.int .u8 0) 1 1 := ElemI.mk' Tryd.underlying29 (by kernel_rfl) rfl (by omega)
/-- new bytes: in a block of their own -/
def NewB (w w' : World) (v : Value) (bs : List UInt8) : Prop :=
  New w w' ∧ ∃ g cp, v = .slice (some ⟨g, 0, none⟩) bs.length cp ∧ w'.ownsRow w.heap.size 5 1 v bs.length (bs.map bv)
theorem NewB.bytes {w w' : World} {v : Value} {bs : List UInt8} (h : NewB w w' v bs) : ∃ g cp, v = .slice (some ⟨g, 0, none⟩) bs.length cp ∧ w.heap.size ≤ g ∧ g < w'.heap.size ∧ BytesA w' (some ⟨g, 0, none⟩) cp bs := by
  obtain ⟨_, g, cp, rfl, ho⟩ := h
  have hl := ho.lt g rfl
  exact ⟨g, cp, rfl, hl.1, hl.2, (BytesA.owned ho).2⟩
set_option maxHeartbeats 400000 in
theorem copied (a : Option Addr) (c : Nat) (bs : List UInt8) (w : World) (hb : BytesA w a c bs) (hl : bs.length ≤ 70368744177664) :
    Calls Tryd.prog 36 #[.slice a bs.length c] w (Ret fun v w' => NewB w w' v bs) := by
  have hnil : a = none → bs.length = 0 ∧ c = 0 := fun h => by have := hb.2.2.1 h; have := hb.1; omega
  have hnews : ∀ p, a = some p → ∀ j u, (bs.map bv)[j]? = some u → (w.alloc (.cells #[] 5)).cell? (p.add j) = some u := fun p hp => by
    subst hp; exact (hb.new ((Upd.refl _ _).alloc _)).news
  have hown : (w.alloc (.cells #[] 5)).ownsRow w.heap.size 5 1 (.slice (some ⟨w.heap.size, 0, none⟩) 0 0) 0 [] := World.ownsRow_made w #[] 0 (Nat.le_refl _) (Nat.zero_le _) rfl
  go_enter Tryd.func36, Tryd.ntmps36
  go_wp2_with (at_builtin; refine wpList_plain rfl (fun K hK => ?_); refine wp_append eB _ _ rfl w.heap.size _ 0 [] rfl hown a bs.length c (bs.map bv) rfl (by simp) hnil hnews (oneCell_bytes _) (by unfold maxLen; omega) (by omega) (by simp) ?_; intro v' w' h1 h2 h3; refine hK _ _ ?_; clear hK K)
  rw [Nat.zero_add, List.nil_append] at h1
  go_ret
  have h3' : v' ≠ .slice none 0 0 := fun h => by
    have h4 : Value.slice (some ⟨w.heap.size, 0, none⟩) 0 0 = .slice none 0 0 := (h3.1 h).1
    simp at h4
  refine ⟨((Upd.refl _ _).alloc _).grown h2 (fun k hk hl => by
    have hk : some w.heap.size = some k := hk
    simp only [Option.some.injEq] at hk; omega), ?_⟩
  have h1' := h1
  rcases h1'.2 with ⟨hv, hz⟩ | ⟨g, cap, cur, hv, _⟩
  · exact (h3' hv).elim
  · subst hv
    exact ⟨g, cap, rfl, h1⟩
end Go.Proofs.YtgbbogocfmepiaaDoor
