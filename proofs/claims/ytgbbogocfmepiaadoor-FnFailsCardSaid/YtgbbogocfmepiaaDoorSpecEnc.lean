/- spec.encoded: a rune's bytes. -/
import Derived.Test.YtgbbogocfmepiaaDoorWRune
import Derived.Lib.QuoteBits
namespace Go.Proofs.YtgbbogocfmepiaaDoor
open Go.RowKit
theorem and63_i32 (x : Nat) (h : x < 2147483648) : bits .and .i32 (x : Int) 63 = ((x % 64 : Nat) : Int) := by
  show IntKind.i32.wrap ((BitVec.ofInt 32 (x : Int) &&& BitVec.ofInt 32 ((63 : Nat) : Int)).toNat : Int) = _
  rw [BitVec.toNat_and, Go.ofInt_u32 x (by omega), Go.ofInt_u32 63 (by omega), show x &&& 63 = x % 64 from Nat.and_two_pow_sub_one_eq_mod x 6]
  exact Lib.wrap_i32_small _ (by omega)
theorem or128_u8 : ∀ n : Fin 64, bits .or .u8 128 (n.val : Int) = 128 + (n.val : Int) := by decide +kernel
theorem tail_byte (x : Int) (h0 : 0 ≤ x) (h1 : x < 2147483648) : bits .or .u8 128 (bits .and .i32 x 63 % 256) = 128 + x % 64 := by
  obtain ⟨n, rfl⟩ := Int.eq_ofNat_of_zero_le h0
  rw [and63_i32 n (by omega), show ((n % 64 : Nat) : Int) % 256 = ((n % 64 : Nat) : Int) by omega]
  have := or128_u8 ⟨n % 64, by omega⟩
  rw [this]
  show 128 + ((n % 64 : Nat) : Int) = _
  omega
theorem newB_made (w : World) (bs : List UInt8) (hl : bs.length ≤ maxLen) : NewB w (w.alloc (.cells (bs.map bv).toArray 5)) (.slice (some ⟨w.heap.size, 0, none⟩) bs.length bs.length) bs := by
  refine ⟨(Upd.refl _ _).alloc _, w.heap.size, bs.length, rfl, by simp, .inr ⟨w.heap.size, bs.length, (bs.map bv).toArray, rfl, Nat.le_refl _, heap_alloc_new w _, Nat.le_refl _, hl, by simp, ?_⟩⟩
  show (bs.map bv).take (bs.length * 1) = bs.map bv
  rw [Nat.mul_one]
  exact List.take_of_length_le (by rw [List.length_map]; exact Nat.le_refl _)
set_option maxRecDepth 100000 in
set_option maxHeartbeats 2000000 in
theorem specEncoded {w : World} {r : Int} (hr : RuneOk r) : Calls Tryd.prog 49 #[.int .i32 r] w (Ret fun v w' => NewB w w' v (enc r)) := by
  obtain ⟨h0, h1, hs⟩ := hr
  have hfin : ∀ (l : List Int), Lib.encodeRuneZ r = l → ∀ v w', v = .slice (some ⟨w.heap.size, 0, none⟩) l.length l.length → w' = w.alloc (.cells (l.map fun x => Value.int .u8 x).toArray 5) → NewB w w' v (enc r) := by
    intro l he v w' hv hw
    have hc := enc_of he
    have hle := enc_len r
    have hn : l.length = (enc r).length := by have := Lib.runeCells_length r; rw [hc, List.length_map] at this; exact this
    rw [hv, hw, ← hc, ← enc_cells, hn]
    exact newB_made w _ (by unfold maxLen; omega)
  by_cases n0 : r < 128
  · have HF := Lib.hid (hfin _ (Lib.encodeRuneZ_one h0 (by omega)))
    clear hfin hs
    go_enter Tryd.func49, Tryd.ntmps49
    go_wp2
    go_ret
    exact HF.out _ _ rfl rfl
  by_cases n1 : r < 2048
  · have HF := Lib.hid (hfin _ (Lib.encodeRuneZ_two (by omega) (by omega)))
    clear hfin hs
    go_enter Tryd.func49, Tryd.ntmps49
    go_wp2
    go_ret
    exact HF.out _ _ rfl (by rw [tail_byte r (by omega) (by omega)]; rfl)
  by_cases n2 : r < 65536
  · have HF := Lib.hid (hfin _ (Lib.encodeRuneZ_three (by omega)))
    clear hfin hs
    go_enter Tryd.func49, Tryd.ntmps49
    go_wp2
    go_ret
    exact HF.out _ _ rfl (by rw [tail_byte (r / 64) (by omega) (by omega), tail_byte r (by omega) (by omega)]; rfl)
  · have HF := Lib.hid (hfin _ (Lib.encodeRuneZ_four (by omega) h1))
    clear hfin hs
    go_enter Tryd.func49, Tryd.ntmps49
    go_wp2
    go_ret
    exact HF.out _ _ rfl (by rw [tail_byte (r / 4096) (by omega) (by omega), tail_byte (r / 64) (by omega) (by omega), tail_byte r (by omega) (by omega)]; rfl)
end Go.Proofs.YtgbbogocfmepiaaDoor
