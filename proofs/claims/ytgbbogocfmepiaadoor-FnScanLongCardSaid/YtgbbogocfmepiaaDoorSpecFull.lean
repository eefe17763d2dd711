/- spec.Full. -/
import Derived.Test.YtgbbogocfmepiaaDoorUtfPure
import Derived.Test.YtgbbogocfmepiaaDoorSpecRune
import Derived.Test.YtgbbogocfmepiaaDoorArg
namespace Go.Proofs.YtgbbogocfmepiaaDoor
open Go.RowKit
theorem mores_short : ∀ k, (h : k < 9) → (mores[k]'h).length ≤ 3 := by decide
theorem ownsRow_base {w : World} {b e s n : Nat} {v : Value} {xs : List Value} (h : w.ownsRow b e s v n xs) {k : Nat} (hk : v.ownBlock = some k) : b ≤ k := by
  rcases h.2 with ⟨rfl, _⟩ | ⟨g, cap, cur, rfl, hb, _⟩
  · simp [Value.ownBlock] at hk
  · simp only [Value.ownBlock, Option.some.injEq] at hk
    subst hk
    exact hb
theorem ownsRow_slice {w : World} {base e n : Nat} {v : Value} {xs : List Value} (h : w.ownsRow base e 1 v n xs) (h0 : 0 < n) : ∃ g cp, v = .slice (some ⟨g, 0, none⟩) n cp := by
  rcases h.2 with ⟨_, hz⟩ | ⟨g, cap, cur, hv, _⟩
  · omega
  · exact ⟨g, cap, hv⟩
theorem bytes_block {w : World} {g : Nat} {bs : List UInt8} {cs : Array Value} {t : TypeId} (h : w.heap[g]? = some (.cells cs t (0, 0))) (hc : cs = (bs.map bv).toArray) (hm : bs.length ≤ maxLen) : BytesA w (some ⟨g, 0, none⟩) bs.length bs := by
  refine ⟨Nat.le_refl _, hm, fun hh => (by cases hh), fun p hp => ⟨fun _ => (by simp only [Option.some.injEq] at hp; subst hp; rfl), fun i hi => ?_⟩⟩
  simp only [Option.some.injEq] at hp
  subst hp
  rw [cell_of_row w g _ cs t (0, 0) h, hc]
  simp [hi]
theorem moresLaid (w : World) : PiecesA ((((((((((w.alloc (.cells #[.int .u8 128] 5)).alloc (.cells #[.int .u8 128, .int .u8 128] 5)).alloc (.cells #[.int .u8 128, .int .u8 128, .int .u8 128] 5)).alloc (.cells #[.int .u8 191] 5)).alloc (.cells #[.int .u8 191, .int .u8 128] 5)).alloc (.cells #[.int .u8 191, .int .u8 128, .int .u8 128] 5)).alloc (.cells #[.int .u8 144, .int .u8 128] 5)).alloc (.cells #[.int .u8 144, .int .u8 128, .int .u8 128] 5)).alloc (.cells #[.int .u8 160, .int .u8 128] 5)).alloc (.cells #[.slice (some ⟨w.heap.size, 0, none⟩) 1 1, .slice (some ⟨w.heap.size + 1, 0, none⟩) 2 2, .slice (some ⟨w.heap.size + 1 + 1, 0, none⟩) 3 3, .slice (some ⟨w.heap.size + 1 + 1 + 1, 0, none⟩) 1 1, .slice (some ⟨w.heap.size + 1 + 1 + 1 + 1, 0, none⟩) 2 2, .slice (some ⟨w.heap.size + 1 + 1 + 1 + 1 + 1, 0, none⟩) 3 3, .slice (some ⟨w.heap.size + 1 + 1 + 1 + 1 + 1 + 1, 0, none⟩) 2 2, .slice (some ⟨w.heap.size + 1 + 1 + 1 + 1 + 1 + 1 + 1, 0, none⟩) 3 3, .slice (some ⟨w.heap.size + 1 + 1 + 1 + 1 + 1 + 1 + 1 + 1, 0, none⟩) 2 2] 29)) (some ⟨w.heap.size + 1 + 1 + 1 + 1 + 1 + 1 + 1 + 1 + 1, 0, none⟩) 9 mores := by
  have e0 : (World.heap (w.alloc (.cells #[.int .u8 128] 5)))[w.heap.size]? = some (.cells #[.int .u8 128] 5 (0, 0)) := by
    have := heap_alloc_new w (.cells #[.int .u8 128] 5)
    simpa using this
  have e1 : (World.heap ((w.alloc (.cells #[.int .u8 128] 5)).alloc (.cells #[.int .u8 128, .int .u8 128] 5)))[w.heap.size + 1]? = some (.cells #[.int .u8 128, .int .u8 128] 5 (0, 0)) := by
    have := heap_alloc_new (w.alloc (.cells #[.int .u8 128] 5)) (.cells #[.int .u8 128, .int .u8 128] 5)
    simpa using this
  have e2 : (World.heap (((w.alloc (.cells #[.int .u8 128] 5)).alloc (.cells #[.int .u8 128, .int .u8 128] 5)).alloc (.cells #[.int .u8 128, .int .u8 128, .int .u8 128] 5)))[w.heap.size + 1 + 1]? = some (.cells #[.int .u8 128, .int .u8 128, .int .u8 128] 5 (0, 0)) := by
    have := heap_alloc_new ((w.alloc (.cells #[.int .u8 128] 5)).alloc (.cells #[.int .u8 128, .int .u8 128] 5)) (.cells #[.int .u8 128, .int .u8 128, .int .u8 128] 5)
    simpa using this
  have e3 : (World.heap ((((w.alloc (.cells #[.int .u8 128] 5)).alloc (.cells #[.int .u8 128, .int .u8 128] 5)).alloc (.cells #[.int .u8 128, .int .u8 128, .int .u8 128] 5)).alloc (.cells #[.int .u8 191] 5)))[w.heap.size + 1 + 1 + 1]? = some (.cells #[.int .u8 191] 5 (0, 0)) := by
    have := heap_alloc_new (((w.alloc (.cells #[.int .u8 128] 5)).alloc (.cells #[.int .u8 128, .int .u8 128] 5)).alloc (.cells #[.int .u8 128, .int .u8 128, .int .u8 128] 5)) (.cells #[.int .u8 191] 5)
    simpa using this
  have e4 : (World.heap (((((w.alloc (.cells #[.int .u8 128] 5)).alloc (.cells #[.int .u8 128, .int .u8 128] 5)).alloc (.cells #[.int .u8 128, .int .u8 128, .int .u8 128] 5)).alloc (.cells #[.int .u8 191] 5)).alloc (.cells #[.int .u8 191, .int .u8 128] 5)))[w.heap.size + 1 + 1 + 1 + 1]? = some (.cells #[.int .u8 191, .int .u8 128] 5 (0, 0)) := by
    have := heap_alloc_new ((((w.alloc (.cells #[.int .u8 128] 5)).alloc (.cells #[.int .u8 128, .int .u8 128] 5)).alloc (.cells #[.int .u8 128, .int .u8 128, .int .u8 128] 5)).alloc (.cells #[.int .u8 191] 5)) (.cells #[.int .u8 191, .int .u8 128] 5)
    simpa using this
  have e5 : (World.heap ((((((w.alloc (.cells #[.int .u8 128] 5)).alloc (.cells #[.int .u8 128, .int .u8 128] 5)).alloc (.cells #[.int .u8 128, .int .u8 128, .int .u8 128] 5)).alloc (.cells #[.int .u8 191] 5)).alloc (.cells #[.int .u8 191, .int .u8 128] 5)).alloc (.cells #[.int .u8 191, .int .u8 128, .int .u8 128] 5)))[w.heap.size + 1 + 1 + 1 + 1 + 1]? = some (.cells #[.int .u8 191, .int .u8 128, .int .u8 128] 5 (0, 0)) := by
    have := heap_alloc_new (((((w.alloc (.cells #[.int .u8 128] 5)).alloc (.cells #[.int .u8 128, .int .u8 128] 5)).alloc (.cells #[.int .u8 128, .int .u8 128, .int .u8 128] 5)).alloc (.cells #[.int .u8 191] 5)).alloc (.cells #[.int .u8 191, .int .u8 128] 5)) (.cells #[.int .u8 191, .int .u8 128, .int .u8 128] 5)
    simpa using this
  have e6 : (World.heap (((((((w.alloc (.cells #[.int .u8 128] 5)).alloc (.cells #[.int .u8 128, .int .u8 128] 5)).alloc (.cells #[.int .u8 128, .int .u8 128, .int .u8 128] 5)).alloc (.cells #[.int .u8 191] 5)).alloc (.cells #[.int .u8 191, .int .u8 128] 5)).alloc (.cells #[.int .u8 191, .int .u8 128, .int .u8 128] 5)).alloc (.cells #[.int .u8 144, .int .u8 128] 5)))[w.heap.size + 1 + 1 + 1 + 1 + 1 + 1]? = some (.cells #[.int .u8 144, .int .u8 128] 5 (0, 0)) := by
    have := heap_alloc_new ((((((w.alloc (.cells #[.int .u8 128] 5)).alloc (.cells #[.int .u8 128, .int .u8 128] 5)).alloc (.cells #[.int .u8 128, .int .u8 128, .int .u8 128] 5)).alloc (.cells #[.int .u8 191] 5)).alloc (.cells #[.int .u8 191, .int .u8 128] 5)).alloc (.cells #[.int .u8 191, .int .u8 128, .int .u8 128] 5)) (.cells #[.int .u8 144, .int .u8 128] 5)
    simpa using this
  have e7 : (World.heap ((((((((w.alloc (.cells #[.int .u8 128] 5)).alloc (.cells #[.int .u8 128, .int .u8 128] 5)).alloc (.cells #[.int .u8 128, .int .u8 128, .int .u8 128] 5)).alloc (.cells #[.int .u8 191] 5)).alloc (.cells #[.int .u8 191, .int .u8 128] 5)).alloc (.cells #[.int .u8 191, .int .u8 128, .int .u8 128] 5)).alloc (.cells #[.int .u8 144, .int .u8 128] 5)).alloc (.cells #[.int .u8 144, .int .u8 128, .int .u8 128] 5)))[w.heap.size + 1 + 1 + 1 + 1 + 1 + 1 + 1]? = some (.cells #[.int .u8 144, .int .u8 128, .int .u8 128] 5 (0, 0)) := by
    have := heap_alloc_new (((((((w.alloc (.cells #[.int .u8 128] 5)).alloc (.cells #[.int .u8 128, .int .u8 128] 5)).alloc (.cells #[.int .u8 128, .int .u8 128, .int .u8 128] 5)).alloc (.cells #[.int .u8 191] 5)).alloc (.cells #[.int .u8 191, .int .u8 128] 5)).alloc (.cells #[.int .u8 191, .int .u8 128, .int .u8 128] 5)).alloc (.cells #[.int .u8 144, .int .u8 128] 5)) (.cells #[.int .u8 144, .int .u8 128, .int .u8 128] 5)
    simpa using this
  have e8 : (World.heap (((((((((w.alloc (.cells #[.int .u8 128] 5)).alloc (.cells #[.int .u8 128, .int .u8 128] 5)).alloc (.cells #[.int .u8 128, .int .u8 128, .int .u8 128] 5)).alloc (.cells #[.int .u8 191] 5)).alloc (.cells #[.int .u8 191, .int .u8 128] 5)).alloc (.cells #[.int .u8 191, .int .u8 128, .int .u8 128] 5)).alloc (.cells #[.int .u8 144, .int .u8 128] 5)).alloc (.cells #[.int .u8 144, .int .u8 128, .int .u8 128] 5)).alloc (.cells #[.int .u8 160, .int .u8 128] 5)))[w.heap.size + 1 + 1 + 1 + 1 + 1 + 1 + 1 + 1]? = some (.cells #[.int .u8 160, .int .u8 128] 5 (0, 0)) := by
    have := heap_alloc_new ((((((((w.alloc (.cells #[.int .u8 128] 5)).alloc (.cells #[.int .u8 128, .int .u8 128] 5)).alloc (.cells #[.int .u8 128, .int .u8 128, .int .u8 128] 5)).alloc (.cells #[.int .u8 191] 5)).alloc (.cells #[.int .u8 191, .int .u8 128] 5)).alloc (.cells #[.int .u8 191, .int .u8 128, .int .u8 128] 5)).alloc (.cells #[.int .u8 144, .int .u8 128] 5)).alloc (.cells #[.int .u8 144, .int .u8 128, .int .u8 128] 5)) (.cells #[.int .u8 160, .int .u8 128] 5)
    simpa using this
  have e9 : (World.heap ((((((((((w.alloc (.cells #[.int .u8 128] 5)).alloc (.cells #[.int .u8 128, .int .u8 128] 5)).alloc (.cells #[.int .u8 128, .int .u8 128, .int .u8 128] 5)).alloc (.cells #[.int .u8 191] 5)).alloc (.cells #[.int .u8 191, .int .u8 128] 5)).alloc (.cells #[.int .u8 191, .int .u8 128, .int .u8 128] 5)).alloc (.cells #[.int .u8 144, .int .u8 128] 5)).alloc (.cells #[.int .u8 144, .int .u8 128, .int .u8 128] 5)).alloc (.cells #[.int .u8 160, .int .u8 128] 5)).alloc (.cells #[.slice (some ⟨w.heap.size, 0, none⟩) 1 1, .slice (some ⟨w.heap.size + 1, 0, none⟩) 2 2, .slice (some ⟨w.heap.size + 1 + 1, 0, none⟩) 3 3, .slice (some ⟨w.heap.size + 1 + 1 + 1, 0, none⟩) 1 1, .slice (some ⟨w.heap.size + 1 + 1 + 1 + 1, 0, none⟩) 2 2, .slice (some ⟨w.heap.size + 1 + 1 + 1 + 1 + 1, 0, none⟩) 3 3, .slice (some ⟨w.heap.size + 1 + 1 + 1 + 1 + 1 + 1, 0, none⟩) 2 2, .slice (some ⟨w.heap.size + 1 + 1 + 1 + 1 + 1 + 1 + 1, 0, none⟩) 3 3, .slice (some ⟨w.heap.size + 1 + 1 + 1 + 1 + 1 + 1 + 1 + 1, 0, none⟩) 2 2] 29)))[w.heap.size + 1 + 1 + 1 + 1 + 1 + 1 + 1 + 1 + 1]? = some (.cells #[.slice (some ⟨w.heap.size, 0, none⟩) 1 1, .slice (some ⟨w.heap.size + 1, 0, none⟩) 2 2, .slice (some ⟨w.heap.size + 1 + 1, 0, none⟩) 3 3, .slice (some ⟨w.heap.size + 1 + 1 + 1, 0, none⟩) 1 1, .slice (some ⟨w.heap.size + 1 + 1 + 1 + 1, 0, none⟩) 2 2, .slice (some ⟨w.heap.size + 1 + 1 + 1 + 1 + 1, 0, none⟩) 3 3, .slice (some ⟨w.heap.size + 1 + 1 + 1 + 1 + 1 + 1, 0, none⟩) 2 2, .slice (some ⟨w.heap.size + 1 + 1 + 1 + 1 + 1 + 1 + 1, 0, none⟩) 3 3, .slice (some ⟨w.heap.size + 1 + 1 + 1 + 1 + 1 + 1 + 1 + 1, 0, none⟩) 2 2] 29 (0, 0)) := by
    have := heap_alloc_new (((((((((w.alloc (.cells #[.int .u8 128] 5)).alloc (.cells #[.int .u8 128, .int .u8 128] 5)).alloc (.cells #[.int .u8 128, .int .u8 128, .int .u8 128] 5)).alloc (.cells #[.int .u8 191] 5)).alloc (.cells #[.int .u8 191, .int .u8 128] 5)).alloc (.cells #[.int .u8 191, .int .u8 128, .int .u8 128] 5)).alloc (.cells #[.int .u8 144, .int .u8 128] 5)).alloc (.cells #[.int .u8 144, .int .u8 128, .int .u8 128] 5)).alloc (.cells #[.int .u8 160, .int .u8 128] 5)) (.cells #[.slice (some ⟨w.heap.size, 0, none⟩) 1 1, .slice (some ⟨w.heap.size + 1, 0, none⟩) 2 2, .slice (some ⟨w.heap.size + 1 + 1, 0, none⟩) 3 3, .slice (some ⟨w.heap.size + 1 + 1 + 1, 0, none⟩) 1 1, .slice (some ⟨w.heap.size + 1 + 1 + 1 + 1, 0, none⟩) 2 2, .slice (some ⟨w.heap.size + 1 + 1 + 1 + 1 + 1, 0, none⟩) 3 3, .slice (some ⟨w.heap.size + 1 + 1 + 1 + 1 + 1 + 1, 0, none⟩) 2 2, .slice (some ⟨w.heap.size + 1 + 1 + 1 + 1 + 1 + 1 + 1, 0, none⟩) 3 3, .slice (some ⟨w.heap.size + 1 + 1 + 1 + 1 + 1 + 1 + 1 + 1, 0, none⟩) 2 2] 29)
    simpa using this
  have b0 : BytesA ((((((((((w.alloc (.cells #[.int .u8 128] 5)).alloc (.cells #[.int .u8 128, .int .u8 128] 5)).alloc (.cells #[.int .u8 128, .int .u8 128, .int .u8 128] 5)).alloc (.cells #[.int .u8 191] 5)).alloc (.cells #[.int .u8 191, .int .u8 128] 5)).alloc (.cells #[.int .u8 191, .int .u8 128, .int .u8 128] 5)).alloc (.cells #[.int .u8 144, .int .u8 128] 5)).alloc (.cells #[.int .u8 144, .int .u8 128, .int .u8 128] 5)).alloc (.cells #[.int .u8 160, .int .u8 128] 5)).alloc (.cells #[.slice (some ⟨w.heap.size, 0, none⟩) 1 1, .slice (some ⟨w.heap.size + 1, 0, none⟩) 2 2, .slice (some ⟨w.heap.size + 1 + 1, 0, none⟩) 3 3, .slice (some ⟨w.heap.size + 1 + 1 + 1, 0, none⟩) 1 1, .slice (some ⟨w.heap.size + 1 + 1 + 1 + 1, 0, none⟩) 2 2, .slice (some ⟨w.heap.size + 1 + 1 + 1 + 1 + 1, 0, none⟩) 3 3, .slice (some ⟨w.heap.size + 1 + 1 + 1 + 1 + 1 + 1, 0, none⟩) 2 2, .slice (some ⟨w.heap.size + 1 + 1 + 1 + 1 + 1 + 1 + 1, 0, none⟩) 3 3, .slice (some ⟨w.heap.size + 1 + 1 + 1 + 1 + 1 + 1 + 1 + 1, 0, none⟩) 2 2] 29)) (some ⟨w.heap.size, 0, none⟩) 1 [128] := (bytes_block (bs := [128]) e0 rfl (by simp [maxLen])).new ((((((((((Upd.refl (fun _ => False) _).alloc _).alloc _).alloc _).alloc _).alloc _).alloc _).alloc _).alloc _).alloc _)
  have b1 : BytesA ((((((((((w.alloc (.cells #[.int .u8 128] 5)).alloc (.cells #[.int .u8 128, .int .u8 128] 5)).alloc (.cells #[.int .u8 128, .int .u8 128, .int .u8 128] 5)).alloc (.cells #[.int .u8 191] 5)).alloc (.cells #[.int .u8 191, .int .u8 128] 5)).alloc (.cells #[.int .u8 191, .int .u8 128, .int .u8 128] 5)).alloc (.cells #[.int .u8 144, .int .u8 128] 5)).alloc (.cells #[.int .u8 144, .int .u8 128, .int .u8 128] 5)).alloc (.cells #[.int .u8 160, .int .u8 128] 5)).alloc (.cells #[.slice (some ⟨w.heap.size, 0, none⟩) 1 1, .slice (some ⟨w.heap.size + 1, 0, none⟩) 2 2, .slice (some ⟨w.heap.size + 1 + 1, 0, none⟩) 3 3, .slice (some ⟨w.heap.size + 1 + 1 + 1, 0, none⟩) 1 1, .slice (some ⟨w.heap.size + 1 + 1 + 1 + 1, 0, none⟩) 2 2, .slice (some ⟨w.heap.size + 1 + 1 + 1 + 1 + 1, 0, none⟩) 3 3, .slice (some ⟨w.heap.size + 1 + 1 + 1 + 1 + 1 + 1, 0, none⟩) 2 2, .slice (some ⟨w.heap.size + 1 + 1 + 1 + 1 + 1 + 1 + 1, 0, none⟩) 3 3, .slice (some ⟨w.heap.size + 1 + 1 + 1 + 1 + 1 + 1 + 1 + 1, 0, none⟩) 2 2] 29)) (some ⟨w.heap.size + 1, 0, none⟩) 2 [128, 128] := (bytes_block (bs := [128, 128]) e1 rfl (by simp [maxLen])).new (((((((((Upd.refl (fun _ => False) _).alloc _).alloc _).alloc _).alloc _).alloc _).alloc _).alloc _).alloc _)
  have b2 : BytesA ((((((((((w.alloc (.cells #[.int .u8 128] 5)).alloc (.cells #[.int .u8 128, .int .u8 128] 5)).alloc (.cells #[.int .u8 128, .int .u8 128, .int .u8 128] 5)).alloc (.cells #[.int .u8 191] 5)).alloc (.cells #[.int .u8 191, .int .u8 128] 5)).alloc (.cells #[.int .u8 191, .int .u8 128, .int .u8 128] 5)).alloc (.cells #[.int .u8 144, .int .u8 128] 5)).alloc (.cells #[.int .u8 144, .int .u8 128, .int .u8 128] 5)).alloc (.cells #[.int .u8 160, .int .u8 128] 5)).alloc (.cells #[.slice (some ⟨w.heap.size, 0, none⟩) 1 1, .slice (some ⟨w.heap.size + 1, 0, none⟩) 2 2, .slice (some ⟨w.heap.size + 1 + 1, 0, none⟩) 3 3, .slice (some ⟨w.heap.size + 1 + 1 + 1, 0, none⟩) 1 1, .slice (some ⟨w.heap.size + 1 + 1 + 1 + 1, 0, none⟩) 2 2, .slice (some ⟨w.heap.size + 1 + 1 + 1 + 1 + 1, 0, none⟩) 3 3, .slice (some ⟨w.heap.size + 1 + 1 + 1 + 1 + 1 + 1, 0, none⟩) 2 2, .slice (some ⟨w.heap.size + 1 + 1 + 1 + 1 + 1 + 1 + 1, 0, none⟩) 3 3, .slice (some ⟨w.heap.size + 1 + 1 + 1 + 1 + 1 + 1 + 1 + 1, 0, none⟩) 2 2] 29)) (some ⟨w.heap.size + 1 + 1, 0, none⟩) 3 [128, 128, 128] := (bytes_block (bs := [128, 128, 128]) e2 rfl (by simp [maxLen])).new ((((((((Upd.refl (fun _ => False) _).alloc _).alloc _).alloc _).alloc _).alloc _).alloc _).alloc _)
  have b3 : BytesA ((((((((((w.alloc (.cells #[.int .u8 128] 5)).alloc (.cells #[.int .u8 128, .int .u8 128] 5)).alloc (.cells #[.int .u8 128, .int .u8 128, .int .u8 128] 5)).alloc (.cells #[.int .u8 191] 5)).alloc (.cells #[.int .u8 191, .int .u8 128] 5)).alloc (.cells #[.int .u8 191, .int .u8 128, .int .u8 128] 5)).alloc (.cells #[.int .u8 144, .int .u8 128] 5)).alloc (.cells #[.int .u8 144, .int .u8 128, .int .u8 128] 5)).alloc (.cells #[.int .u8 160, .int .u8 128] 5)).alloc (.cells #[.slice (some ⟨w.heap.size, 0, none⟩) 1 1, .slice (some ⟨w.heap.size + 1, 0, none⟩) 2 2, .slice (some ⟨w.heap.size + 1 + 1, 0, none⟩) 3 3, .slice (some ⟨w.heap.size + 1 + 1 + 1, 0, none⟩) 1 1, .slice (some ⟨w.heap.size + 1 + 1 + 1 + 1, 0, none⟩) 2 2, .slice (some ⟨w.heap.size + 1 + 1 + 1 + 1 + 1, 0, none⟩) 3 3, .slice (some ⟨w.heap.size + 1 + 1 + 1 + 1 + 1 + 1, 0, none⟩) 2 2, .slice (some ⟨w.heap.size + 1 + 1 + 1 + 1 + 1 + 1 + 1, 0, none⟩) 3 3, .slice (some ⟨w.heap.size + 1 + 1 + 1 + 1 + 1 + 1 + 1 + 1, 0, none⟩) 2 2] 29)) (some ⟨w.heap.size + 1 + 1 + 1, 0, none⟩) 1 [191] := (bytes_block (bs := [191]) e3 rfl (by simp [maxLen])).new (((((((Upd.refl (fun _ => False) _).alloc _).alloc _).alloc _).alloc _).alloc _).alloc _)
  have b4 : BytesA ((((((((((w.alloc (.cells #[.int .u8 128] 5)).alloc (.cells #[.int .u8 128, .int .u8 128] 5)).alloc (.cells #[.int .u8 128, .int .u8 128, .int .u8 128] 5)).alloc (.cells #[.int .u8 191] 5)).alloc (.cells #[.int .u8 191, .int .u8 128] 5)).alloc (.cells #[.int .u8 191, .int .u8 128, .int .u8 128] 5)).alloc (.cells #[.int .u8 144, .int .u8 128] 5)).alloc (.cells #[.int .u8 144, .int .u8 128, .int .u8 128] 5)).alloc (.cells #[.int .u8 160, .int .u8 128] 5)).alloc (.cells #[.slice (some ⟨w.heap.size, 0, none⟩) 1 1, .slice (some ⟨w.heap.size + 1, 0, none⟩) 2 2, .slice (some ⟨w.heap.size + 1 + 1, 0, none⟩) 3 3, .slice (some ⟨w.heap.size + 1 + 1 + 1, 0, none⟩) 1 1, .slice (some ⟨w.heap.size + 1 + 1 + 1 + 1, 0, none⟩) 2 2, .slice (some ⟨w.heap.size + 1 + 1 + 1 + 1 + 1, 0, none⟩) 3 3, .slice (some ⟨w.heap.size + 1 + 1 + 1 + 1 + 1 + 1, 0, none⟩) 2 2, .slice (some ⟨w.heap.size + 1 + 1 + 1 + 1 + 1 + 1 + 1, 0, none⟩) 3 3, .slice (some ⟨w.heap.size + 1 + 1 + 1 + 1 + 1 + 1 + 1 + 1, 0, none⟩) 2 2] 29)) (some ⟨w.heap.size + 1 + 1 + 1 + 1, 0, none⟩) 2 [191, 128] := (bytes_block (bs := [191, 128]) e4 rfl (by simp [maxLen])).new ((((((Upd.refl (fun _ => False) _).alloc _).alloc _).alloc _).alloc _).alloc _)
  have b5 : BytesA ((((((((((w.alloc (.cells #[.int .u8 128] 5)).alloc (.cells #[.int .u8 128, .int .u8 128] 5)).alloc (.cells #[.int .u8 128, .int .u8 128, .int .u8 128] 5)).alloc (.cells #[.int .u8 191] 5)).alloc (.cells #[.int .u8 191, .int .u8 128] 5)).alloc (.cells #[.int .u8 191, .int .u8 128, .int .u8 128] 5)).alloc (.cells #[.int .u8 144, .int .u8 128] 5)).alloc (.cells #[.int .u8 144, .int .u8 128, .int .u8 128] 5)).alloc (.cells #[.int .u8 160, .int .u8 128] 5)).alloc (.cells #[.slice (some ⟨w.heap.size, 0, none⟩) 1 1, .slice (some ⟨w.heap.size + 1, 0, none⟩) 2 2, .slice (some ⟨w.heap.size + 1 + 1, 0, none⟩) 3 3, .slice (some ⟨w.heap.size + 1 + 1 + 1, 0, none⟩) 1 1, .slice (some ⟨w.heap.size + 1 + 1 + 1 + 1, 0, none⟩) 2 2, .slice (some ⟨w.heap.size + 1 + 1 + 1 + 1 + 1, 0, none⟩) 3 3, .slice (some ⟨w.heap.size + 1 + 1 + 1 + 1 + 1 + 1, 0, none⟩) 2 2, .slice (some ⟨w.heap.size + 1 + 1 + 1 + 1 + 1 + 1 + 1, 0, none⟩) 3 3, .slice (some ⟨w.heap.size + 1 + 1 + 1 + 1 + 1 + 1 + 1 + 1, 0, none⟩) 2 2] 29)) (some ⟨w.heap.size + 1 + 1 + 1 + 1 + 1, 0, none⟩) 3 [191, 128, 128] := (bytes_block (bs := [191, 128, 128]) e5 rfl (by simp [maxLen])).new (((((Upd.refl (fun _ => False) _).alloc _).alloc _).alloc _).alloc _)
  have b6 : BytesA ((((((((((w.alloc (.cells #[.int .u8 128] 5)).alloc (.cells #[.int .u8 128, .int .u8 128] 5)).alloc (.cells #[.int .u8 128, .int .u8 128, .int .u8 128] 5)).alloc (.cells #[.int .u8 191] 5)).alloc (.cells #[.int .u8 191, .int .u8 128] 5)).alloc (.cells #[.int .u8 191, .int .u8 128, .int .u8 128] 5)).alloc (.cells #[.int .u8 144, .int .u8 128] 5)).alloc (.cells #[.int .u8 144, .int .u8 128, .int .u8 128] 5)).alloc (.cells #[.int .u8 160, .int .u8 128] 5)).alloc (.cells #[.slice (some ⟨w.heap.size, 0, none⟩) 1 1, .slice (some ⟨w.heap.size + 1, 0, none⟩) 2 2, .slice (some ⟨w.heap.size + 1 + 1, 0, none⟩) 3 3, .slice (some ⟨w.heap.size + 1 + 1 + 1, 0, none⟩) 1 1, .slice (some ⟨w.heap.size + 1 + 1 + 1 + 1, 0, none⟩) 2 2, .slice (some ⟨w.heap.size + 1 + 1 + 1 + 1 + 1, 0, none⟩) 3 3, .slice (some ⟨w.heap.size + 1 + 1 + 1 + 1 + 1 + 1, 0, none⟩) 2 2, .slice (some ⟨w.heap.size + 1 + 1 + 1 + 1 + 1 + 1 + 1, 0, none⟩) 3 3, .slice (some ⟨w.heap.size + 1 + 1 + 1 + 1 + 1 + 1 + 1 + 1, 0, none⟩) 2 2] 29)) (some ⟨w.heap.size + 1 + 1 + 1 + 1 + 1 + 1, 0, none⟩) 2 [144, 128] := (bytes_block (bs := [144, 128]) e6 rfl (by simp [maxLen])).new ((((Upd.refl (fun _ => False) _).alloc _).alloc _).alloc _)
  have b7 : BytesA ((((((((((w.alloc (.cells #[.int .u8 128] 5)).alloc (.cells #[.int .u8 128, .int .u8 128] 5)).alloc (.cells #[.int .u8 128, .int .u8 128, .int .u8 128] 5)).alloc (.cells #[.int .u8 191] 5)).alloc (.cells #[.int .u8 191, .int .u8 128] 5)).alloc (.cells #[.int .u8 191, .int .u8 128, .int .u8 128] 5)).alloc (.cells #[.int .u8 144, .int .u8 128] 5)).alloc (.cells #[.int .u8 144, .int .u8 128, .int .u8 128] 5)).alloc (.cells #[.int .u8 160, .int .u8 128] 5)).alloc (.cells #[.slice (some ⟨w.heap.size, 0, none⟩) 1 1, .slice (some ⟨w.heap.size + 1, 0, none⟩) 2 2, .slice (some ⟨w.heap.size + 1 + 1, 0, none⟩) 3 3, .slice (some ⟨w.heap.size + 1 + 1 + 1, 0, none⟩) 1 1, .slice (some ⟨w.heap.size + 1 + 1 + 1 + 1, 0, none⟩) 2 2, .slice (some ⟨w.heap.size + 1 + 1 + 1 + 1 + 1, 0, none⟩) 3 3, .slice (some ⟨w.heap.size + 1 + 1 + 1 + 1 + 1 + 1, 0, none⟩) 2 2, .slice (some ⟨w.heap.size + 1 + 1 + 1 + 1 + 1 + 1 + 1, 0, none⟩) 3 3, .slice (some ⟨w.heap.size + 1 + 1 + 1 + 1 + 1 + 1 + 1 + 1, 0, none⟩) 2 2] 29)) (some ⟨w.heap.size + 1 + 1 + 1 + 1 + 1 + 1 + 1, 0, none⟩) 3 [144, 128, 128] := (bytes_block (bs := [144, 128, 128]) e7 rfl (by simp [maxLen])).new (((Upd.refl (fun _ => False) _).alloc _).alloc _)
  have b8 : BytesA ((((((((((w.alloc (.cells #[.int .u8 128] 5)).alloc (.cells #[.int .u8 128, .int .u8 128] 5)).alloc (.cells #[.int .u8 128, .int .u8 128, .int .u8 128] 5)).alloc (.cells #[.int .u8 191] 5)).alloc (.cells #[.int .u8 191, .int .u8 128] 5)).alloc (.cells #[.int .u8 191, .int .u8 128, .int .u8 128] 5)).alloc (.cells #[.int .u8 144, .int .u8 128] 5)).alloc (.cells #[.int .u8 144, .int .u8 128, .int .u8 128] 5)).alloc (.cells #[.int .u8 160, .int .u8 128] 5)).alloc (.cells #[.slice (some ⟨w.heap.size, 0, none⟩) 1 1, .slice (some ⟨w.heap.size + 1, 0, none⟩) 2 2, .slice (some ⟨w.heap.size + 1 + 1, 0, none⟩) 3 3, .slice (some ⟨w.heap.size + 1 + 1 + 1, 0, none⟩) 1 1, .slice (some ⟨w.heap.size + 1 + 1 + 1 + 1, 0, none⟩) 2 2, .slice (some ⟨w.heap.size + 1 + 1 + 1 + 1 + 1, 0, none⟩) 3 3, .slice (some ⟨w.heap.size + 1 + 1 + 1 + 1 + 1 + 1, 0, none⟩) 2 2, .slice (some ⟨w.heap.size + 1 + 1 + 1 + 1 + 1 + 1 + 1, 0, none⟩) 3 3, .slice (some ⟨w.heap.size + 1 + 1 + 1 + 1 + 1 + 1 + 1 + 1, 0, none⟩) 2 2] 29)) (some ⟨w.heap.size + 1 + 1 + 1 + 1 + 1 + 1 + 1 + 1, 0, none⟩) 2 [160, 128] := (bytes_block (bs := [160, 128]) e8 rfl (by simp [maxLen])).new ((Upd.refl (fun _ => False) _).alloc _)
  refine ⟨by decide, by simp [maxLen], fun hh => (by cases hh), fun p hp => ⟨fun _ => (by simp only [Option.some.injEq] at hp; subst hp; rfl), fun i hi => ?_⟩⟩
  simp only [Option.some.injEq] at hp
  subst hp
  rw [cell_of_row _ _ _ _ _ (0, 0) e9]
  have hi9 : i < 9 := hi
  match i, hi9 with
  | 0, _ => exact ⟨_, _, rfl, b0⟩
  | 1, _ => exact ⟨_, _, rfl, b1⟩
  | 2, _ => exact ⟨_, _, rfl, b2⟩
  | 3, _ => exact ⟨_, _, rfl, b3⟩
  | 4, _ => exact ⟨_, _, rfl, b4⟩
  | 5, _ => exact ⟨_, _, rfl, b5⟩
  | 6, _ => exact ⟨_, _, rfl, b6⟩
  | 7, _ => exact ⟨_, _, rfl, b7⟩
  | 8, _ => exact ⟨_, _, rfl, b8⟩
set_option maxRecDepth 100000 in
set_option maxHeartbeats 4000000 in
theorem specFull {w : World} {g o c : Nat} {bs : List UInt8} (h : BytesA w (some ⟨g, o, none⟩) c bs) (hl : bs.length ≤ 2147483647) (hn : 0 < bs.length) :
    Calls Tryd.prog 50 #[.slice (some ⟨g, o, none⟩) bs.length c] w (Ret fun v w' => New w w' ∧ v = .bool (sfull bs)) := by
  have l1 := h.1
  have l2 := h.2.1
  unfold maxLen at l2
  have q0 : ((bs.length : Int) == 0) = false := by rw [beq_eq_false_iff_ne]; omega
  have HP := Lib.hid (moresLaid w)
  have HW0 : Hid (New w ((((((((((w.alloc (.cells #[.int .u8 128] 5)).alloc (.cells #[.int .u8 128, .int .u8 128] 5)).alloc (.cells #[.int .u8 128, .int .u8 128, .int .u8 128] 5)).alloc (.cells #[.int .u8 191] 5)).alloc (.cells #[.int .u8 191, .int .u8 128] 5)).alloc (.cells #[.int .u8 191, .int .u8 128, .int .u8 128] 5)).alloc (.cells #[.int .u8 144, .int .u8 128] 5)).alloc (.cells #[.int .u8 144, .int .u8 128, .int .u8 128] 5)).alloc (.cells #[.int .u8 160, .int .u8 128] 5)).alloc (.cells #[.slice (some ⟨w.heap.size, 0, none⟩) 1 1, .slice (some ⟨w.heap.size + 1, 0, none⟩) 2 2, .slice (some ⟨w.heap.size + 1 + 1, 0, none⟩) 3 3, .slice (some ⟨w.heap.size + 1 + 1 + 1, 0, none⟩) 1 1, .slice (some ⟨w.heap.size + 1 + 1 + 1 + 1, 0, none⟩) 2 2, .slice (some ⟨w.heap.size + 1 + 1 + 1 + 1 + 1, 0, none⟩) 3 3, .slice (some ⟨w.heap.size + 1 + 1 + 1 + 1 + 1 + 1, 0, none⟩) 2 2, .slice (some ⟨w.heap.size + 1 + 1 + 1 + 1 + 1 + 1 + 1, 0, none⟩) 3 3, .slice (some ⟨w.heap.size + 1 + 1 + 1 + 1 + 1 + 1 + 1 + 1, 0, none⟩) 2 2] 29))) := ((((((((((Upd.refl (fun _ => False) _).alloc _).alloc _).alloc _).alloc _).alloc _).alloc _).alloc _).alloc _).alloc _).alloc _
  have H := Lib.hid (h.new HW0.out)
  obtain ⟨n, hnn⟩ : ∃ n, bs.length = n := ⟨_, rfl⟩
  rw [hnn] at l1 q0 hl hn ⊢
  have HN := Lib.hid hnn
  obtain ⟨W1, hW1⟩ : ∃ W1, W1 = ((((((((((w.alloc (.cells #[.int .u8 128] 5)).alloc (.cells #[.int .u8 128, .int .u8 128] 5)).alloc (.cells #[.int .u8 128, .int .u8 128, .int .u8 128] 5)).alloc (.cells #[.int .u8 191] 5)).alloc (.cells #[.int .u8 191, .int .u8 128] 5)).alloc (.cells #[.int .u8 191, .int .u8 128, .int .u8 128] 5)).alloc (.cells #[.int .u8 144, .int .u8 128] 5)).alloc (.cells #[.int .u8 144, .int .u8 128, .int .u8 128] 5)).alloc (.cells #[.int .u8 160, .int .u8 128] 5)).alloc (.cells #[.slice (some ⟨w.heap.size, 0, none⟩) 1 1, .slice (some ⟨w.heap.size + 1, 0, none⟩) 2 2, .slice (some ⟨w.heap.size + 1 + 1, 0, none⟩) 3 3, .slice (some ⟨w.heap.size + 1 + 1 + 1, 0, none⟩) 1 1, .slice (some ⟨w.heap.size + 1 + 1 + 1 + 1, 0, none⟩) 2 2, .slice (some ⟨w.heap.size + 1 + 1 + 1 + 1 + 1, 0, none⟩) 3 3, .slice (some ⟨w.heap.size + 1 + 1 + 1 + 1 + 1 + 1, 0, none⟩) 2 2, .slice (some ⟨w.heap.size + 1 + 1 + 1 + 1 + 1 + 1 + 1, 0, none⟩) 3 3, .slice (some ⟨w.heap.size + 1 + 1 + 1 + 1 + 1 + 1 + 1 + 1, 0, none⟩) 2 2] 29)) := ⟨_, rfl⟩
  rw [← hW1] at HP HW0 H
  have HW1 := Lib.hid hW1
  clear h hnn hW1
  go_enter Tryd.func50, Tryd.ntmps50
  go_wp2
  go_loopw [22] (fun i wr => ∃ k : Nat, i = .int .i64 (k : Int) ∧ k ≤ 9 ∧ New W1 wr ∧ ∀ m ∈ mores.take k, goesOn bs m = false) (fun i _ => 9 - (intOf i).toNat)
  case atStart => exact ⟨0, rfl, Nat.zero_le _, by rw [HW1.out]; exact Upd.refl _ _, fun m hm => (by simp at hm)⟩
  case round =>
    obtain ⟨k, rfl, hk, hnw, hall⟩ := hrel
    have HNW := Lib.hid hnw
    have HALL := Lib.hid hall
    clear hnw hall
    by_cases hlt : k < 9
    · obtain ⟨b, oo, ai, ci, m, e1, hm, hcell, m1, m2, hby⟩ := (HP.out.new HNW.out).at (k := k) hlt
      simp only [Option.some.injEq, Addr.mk.injEq, and_true] at e1
      obtain ⟨rfl, rfl⟩ := e1
      rw [Nat.zero_add] at hcell
      obtain ⟨ms, hms⟩ : ∃ ms, mores[k]'hlt = ms := ⟨_, rfl⟩
      have hms' : (mores[k]'hlt) = ms := hms
      rw [hms'] at hm hby
      have hm3 : m ≤ 3 := by
        rw [← hm, ← hms']
        exact mores_short k hlt
      have hnil2 : ai = none → m = 0 ∧ ci = 0 := fun hh => by have := hby.2.2.1 hh; have := hby.1; omega
      have HBY := Lib.hid hby
      have HM := Lib.hid hm
      have HMS := Lib.hid hms'
      have HNIL := Lib.hid hnil2
      have hall' : Hid (goesOn bs ms = false → ∀ x ∈ mores.take (k + 1), goesOn bs x = false) := fun hg x hx => by
        rw [List.take_succ_eq_append_getElem hlt, List.mem_append, List.mem_singleton] at hx
        rcases hx with hx | hx
        · exact HALL.out x hx
        · rw [hx, hms']; exact hg
      obtain ⟨K, hK⟩ : ∃ K, (dec (bs ++ ms)).2 = K := ⟨_, rfl⟩
      have hlen : (bs ++ ms).length = n + m := by rw [List.length_append, HN.out, HM.out]
      have hKl := dec_pos (bs := bs ++ ms) (by rw [hlen]; omega)
      rw [hK] at hKl
      have hk4 : K ≤ 4 := hKl.2.2.1
      have HLEN := Lib.hid hlen
      have HK := Lib.hid hK
      have hg0 : goesOn bs ms = (decide (n < K) && decide (K ≤ n + m)) := by unfold goesOn; rw [HK.out, HLEN.out, HN.out]
      have hg : Hid (goesOn bs ms = (decide (n < K) && decide (K ≤ n + m))) := hg0
      have HSF : Hid (goesOn bs ms = true → sfull bs = false) := fun hh => by
        unfold sfull
        rw [Bool.and_eq_false_iff]
        right
        rw [Bool.eq_false_iff]
        intro hq
        have := (List.all_eq_true.1 hq) ms (by rw [← HMS.out]; exact List.getElem_mem _)
        rw [hh] at this; cases this
      clear hms hms' hm hby hlen hK hKl hg0 hnil2
      by_cases hc1 : n < K
      · have d1 : decide ((n : Int) < (K : Int)) = true := decide_eq_true (by omega)
        by_cases hc2 : K ≤ n + m
        · have d2 : decide ((K : Int) ≤ (n : Int) + (m : Int)) = true := decide_eq_true (by omega)
          have HR := Lib.hid (HSF.out (by rw [hg.out, decide_eq_true hc1, decide_eq_true hc2]; rfl))

          go_wp2_with (first | (at_builtin; refine wpList_plain rfl (fun K hK => ?_); refine wp_append eB (.tmp 26) (.tmp 27) rfl wr.heap.size _ 0 [] rfl (World.ownsRow_made wr #[] 0 (Nat.le_refl _) (Nat.zero_le _) rfl) (some ⟨g, o, none⟩) n c (bs.map bv) rfl (by simp [HN.out]) (fun h => by cases h) (fun p hp => by simp only [Option.some.injEq] at hp; subst hp; exact ((H.out.new HNW.out).new ((Upd.refl _ _).alloc _)).news) (oneCell_bytes _) (by unfold maxLen; omega) (by omega) (by simp) ?_; intro v1 w1 h1 h2 h3; have HU1 : Hid (New wr w1) := ((Upd.refl _ _).alloc _).grown h2 (fun k hk hl => by have hk : some wr.heap.size = some k := hk; simp only [Option.some.injEq] at hk; omega); have HO1 := Lib.hid h1; have hb1 := Lib.hid (fun k (hk : v1.ownBlock = some k) => ownsRow_base h1 hk); refine hK _ _ ?_; clear hK K h1 h2 h3) | (at_builtin; refine wpList_plain rfl (fun K hK => ?_); refine wp_append eB (.tmp 28) (.tmp 29) rfl wr.heap.size _ _ _ rfl HO1.out ai m ci (ms.map bv) rfl (by simp [HM.out]) HNIL.out (fun p hp => by subst hp; exact (HBY.out.new HU1.out).news) (oneCell_bytes _) (by unfold maxLen; omega) (by omega) HU1.out.size ?_; intro v2 w2 h1 h2 h3; have HU2 : Hid (New wr w2) := HU1.out.grown h2 (fun k hk hl => by have := hb1.out k hk; omega); obtain ⟨g2, cp2, rfl⟩ := ownsRow_slice h1 (by omega); rw [Nat.zero_add, List.nil_append, ← List.map_append] at h1; have HO2 := Lib.hid (BytesA.owned h1).2; rw [Nat.zero_add]; refine hK _ _ ?_; clear hK K h1 h2 h3) | (go_at_call 69; rw [← HLEN.out]; refine callRet (specRune HO2.out (by rw [HLEN.out]; omega)) ?_; rintro v w3 ⟨rfl, rfl⟩; rw [HK.out, HLEN.out]; have HU3 := HU2))
          go_ret
          exact ⟨(HW0.out.andNew HNW.out).andNew HU3.out, by rw [HR.out]; rfl⟩
        · have d2 : decide ((K : Int) ≤ (n : Int) + (m : Int)) = false := decide_eq_false (by omega)
          have HA := Lib.hid (hall'.out (by rw [hg.out, decide_eq_false hc2, Bool.and_false]))
          go_wp2_with (first | (at_builtin; refine wpList_plain rfl (fun K hK => ?_); refine wp_append eB (.tmp 26) (.tmp 27) rfl wr.heap.size _ 0 [] rfl (World.ownsRow_made wr #[] 0 (Nat.le_refl _) (Nat.zero_le _) rfl) (some ⟨g, o, none⟩) n c (bs.map bv) rfl (by simp [HN.out]) (fun h => by cases h) (fun p hp => by simp only [Option.some.injEq] at hp; subst hp; exact ((H.out.new HNW.out).new ((Upd.refl _ _).alloc _)).news) (oneCell_bytes _) (by unfold maxLen; omega) (by omega) (by simp) ?_; intro v1 w1 h1 h2 h3; have HU1 : Hid (New wr w1) := ((Upd.refl _ _).alloc _).grown h2 (fun k hk hl => by have hk : some wr.heap.size = some k := hk; simp only [Option.some.injEq] at hk; omega); have HO1 := Lib.hid h1; have hb1 := Lib.hid (fun k (hk : v1.ownBlock = some k) => ownsRow_base h1 hk); refine hK _ _ ?_; clear hK K h1 h2 h3) | (at_builtin; refine wpList_plain rfl (fun K hK => ?_); refine wp_append eB (.tmp 28) (.tmp 29) rfl wr.heap.size _ _ _ rfl HO1.out ai m ci (ms.map bv) rfl (by simp [HM.out]) HNIL.out (fun p hp => by subst hp; exact (HBY.out.new HU1.out).news) (oneCell_bytes _) (by unfold maxLen; omega) (by omega) HU1.out.size ?_; intro v2 w2 h1 h2 h3; have HU2 : Hid (New wr w2) := HU1.out.grown h2 (fun k hk hl => by have := hb1.out k hk; omega); obtain ⟨g2, cp2, rfl⟩ := ownsRow_slice h1 (by omega); rw [Nat.zero_add, List.nil_append, ← List.map_append] at h1; have HO2 := Lib.hid (BytesA.owned h1).2; rw [Nat.zero_add]; refine hK _ _ ?_; clear hK K h1 h2 h3) | (go_at_call 69; rw [← HLEN.out]; refine callRet (specRune HO2.out (by rw [HLEN.out]; omega)) ?_; rintro v w3 ⟨rfl, rfl⟩; rw [HK.out, HLEN.out]; have HU3 := HU2))
          go_roundw
          case rel => exact ⟨k + 1, by go_num, by omega, HNW.out.andNew HU3.out, HA.out⟩
          case measure => simp [intOf]; omega
      · have d1 : decide ((n : Int) < (K : Int)) = false := decide_eq_false (by omega)
        have HA := Lib.hid (hall'.out (by rw [hg.out, decide_eq_false hc1, Bool.false_and]))
        go_wp2_with (first | (at_builtin; refine wpList_plain rfl (fun K hK => ?_); refine wp_append eB (.tmp 26) (.tmp 27) rfl wr.heap.size _ 0 [] rfl (World.ownsRow_made wr #[] 0 (Nat.le_refl _) (Nat.zero_le _) rfl) (some ⟨g, o, none⟩) n c (bs.map bv) rfl (by simp [HN.out]) (fun h => by cases h) (fun p hp => by simp only [Option.some.injEq] at hp; subst hp; exact ((H.out.new HNW.out).new ((Upd.refl _ _).alloc _)).news) (oneCell_bytes _) (by unfold maxLen; omega) (by omega) (by simp) ?_; intro v1 w1 h1 h2 h3; have HU1 : Hid (New wr w1) := ((Upd.refl _ _).alloc _).grown h2 (fun k hk hl => by have hk : some wr.heap.size = some k := hk; simp only [Option.some.injEq] at hk; omega); have HO1 := Lib.hid h1; have hb1 := Lib.hid (fun k (hk : v1.ownBlock = some k) => ownsRow_base h1 hk); refine hK _ _ ?_; clear hK K h1 h2 h3) | (at_builtin; refine wpList_plain rfl (fun K hK => ?_); refine wp_append eB (.tmp 28) (.tmp 29) rfl wr.heap.size _ _ _ rfl HO1.out ai m ci (ms.map bv) rfl (by simp [HM.out]) HNIL.out (fun p hp => by subst hp; exact (HBY.out.new HU1.out).news) (oneCell_bytes _) (by unfold maxLen; omega) (by omega) HU1.out.size ?_; intro v2 w2 h1 h2 h3; have HU2 : Hid (New wr w2) := HU1.out.grown h2 (fun k hk hl => by have := hb1.out k hk; omega); obtain ⟨g2, cp2, rfl⟩ := ownsRow_slice h1 (by omega); rw [Nat.zero_add, List.nil_append, ← List.map_append] at h1; have HO2 := Lib.hid (BytesA.owned h1).2; rw [Nat.zero_add]; refine hK _ _ ?_; clear hK K h1 h2 h3) | (go_at_call 69; rw [← HLEN.out]; refine callRet (specRune HO2.out (by rw [HLEN.out]; omega)) ?_; rintro v w3 ⟨rfl, rfl⟩; rw [HK.out, HLEN.out]; have HU3 := HU2))
        go_roundw
        case rel => exact ⟨k + 1, by go_num, by omega, HNW.out.andNew HU3.out, HA.out⟩
        case measure => simp [intOf]; omega
    · obtain rfl : k = 9 := by omega
      have HR : Hid (sfull bs = true) := by
        unfold Hid sfull
        rw [decide_eq_true (by rw [HN.out]; exact hn), Bool.true_and, List.all_eq_true]
        intro m hm
        rw [HALL.out m hm]; rfl

      go_wp2
      go_ret
      exact ⟨HW0.out.andNew HNW.out, by rw [HR.out]; rfl⟩
end Go.Proofs.YtgbbogocfmepiaaDoor
