/- utf8.EncodeRune, into a block of bytes. -/
import Derived.Test.YtgbbogocfmepiaaDoorCopyS
import Derived.Test.YtgbbogocfmepiaaDoorSrc
import Derived.Lib.RuneBytes
import Derived.Laws.IdiomCopy
namespace Go.Proofs.YtgbbogocfmepiaaDoor
open Go.RowKit
/-- a rune's bytes -/
def enc (r : Int) : List UInt8 := Lib.encodeRune r
theorem enc_cells (r : Int) : (enc r).map bv = Lib.runeCells r := Lib.byteCells_encodeRune r
theorem enc_len (r : Int) : 1 ≤ (enc r).length ∧ (enc r).length ≤ 4 := by
  have := Lib.runeCells_le r
  rwa [Lib.runeCells_length] at this
theorem splice_set (l : List Value) (o : Nat) (v : Value) (r : List Value) (h : o < l.length) : splice (l.set o v) (o + 1) r = splice l o (v :: r) := by
  unfold splice
  rw [List.set_eq_take_append_cons_drop, if_pos h]
  have hl : (l.take o).length = o := by rw [List.length_take]; omega
  have e1 : (l.take o ++ v :: l.drop (o + 1)).take (o + 1) = l.take o ++ [v] := by
    rw [List.take_append, hl, List.take_of_length_le (by omega)]
    simp
  have e2 : (l.take o ++ v :: l.drop (o + 1)).drop (o + 1 + r.length) = l.drop (o + (v :: r).length) := by
    rw [List.drop_append, hl, List.drop_eq_nil_of_le (by omega), List.nil_append, show o + 1 + r.length - o = r.length + 1 by omega, List.drop_succ_cons, List.drop_drop]
    congr 1
    simp; omega
  rw [e1, e2]
  simp
theorem heap_setCells {g : Nat} {t : TypeId} {fr : Nat × Nat} : ∀ (vs : List Value) (o : Nat) (w : World) (cs : Array Value), w.heap[g]? = some (.cells cs t fr) → o + vs.length ≤ cs.size → (w.setCells g o vs).heap[g]? = some (.cells (splice cs.toList o vs).toArray t fr)
  | [], o, w, cs, hb, _ => by
    show w.heap[g]? = _
    rw [hb]; simp [splice]
  | v :: r, o, w, cs, hb, hl => by
    show ((w.setCell ⟨g, o, none⟩ v).setCells g (o + 1) r).heap[g]? = _
    rw [List.length_cons] at hl
    rw [heap_setCells r (o + 1) _ _ (World.heap_setCell_self hb o v) (by simp; omega), Array.toList_setIfInBounds, splice_set _ _ _ _ (by simpa using (by omega : o < cs.size))]
theorem upd_setCells {g : Nat} : ∀ (vs : List Value) (o : Nat) (w : World), Upd (fun j => j = g) w (w.setCells g o vs)
  | [], _, w => Upd.refl _ w
  | v :: r, o, w => ((Upd.refl (fun j => j = g) w).setCell (p := ⟨g, o, none⟩) (fun _ => rfl) v).trans (upd_setCells r (o + 1) _) (fun _ h _ => h)
theorem enc_of {r : Int} {l : List Int} (h : Lib.encodeRuneZ r = l) : Lib.runeCells r = l.map fun x => Value.int .u8 x := by rw [Lib.runeCells, h]
def EncPost (g off : Nat) (r : Int) (w : World) (v : Value) (w' : World) : Prop := v = .int .i64 (((Lib.runeCells r).length : Nat) : Int) ∧ w' = w.setCells g off (Lib.runeCells r)
set_option maxHeartbeats 4000000 in
set_option maxRecDepth 100000 in
theorem encNA {w : World} {g off len cap : Nat} {r : Int} (h0 : 128 ≤ r) (h1 : r ≤ 1114111) (hs : r < 55296 ∨ 57343 < r) (hl : 4 ≤ len) (hc : ∀ j, j < 4 → (w.cell? ⟨g, off + j, none⟩).isSome = true) (hf : ∀ j, j < 4 → w.frozen? ⟨g, off + j, none⟩ = false) :
    Calls Tryd.prog 81 #[.slice (some ⟨g, off, none⟩) len cap, .int .i32 r] w (Ret (EncPost g off r w)) := by
  obtain ⟨c0, hc0⟩ := Option.isSome_iff_exists.1 (hc 0 (by omega)); have hf0 := hf 0 (by omega)
  obtain ⟨c1, hc1⟩ := Option.isSome_iff_exists.1 (hc 1 (by omega)); have hf1 := hf 1 (by omega)
  obtain ⟨c2, hc2⟩ := Option.isSome_iff_exists.1 (hc 2 (by omega)); have hf2 := hf 2 (by omega)
  obtain ⟨c3, hc3⟩ := Option.isSome_iff_exists.1 (hc 3 (by omega)); have hf3 := hf 3 (by omega)
  simp only [Nat.add_zero] at hc0 hf0
  clear hc hf
  by_cases n1 : r ≤ 2047
  · have e : Lib.runeCells r = [.int .u8 (192 + r / 64), .int .u8 (128 + r % 64)] := enc_of (Lib.encodeRuneZ_two (by omega) n1)
    unfold EncPost
    rw [e]
    clear e h1 hs
    go_enter Tryd.func81, Tryd.ntmps81
    go_wp2
    go_ret
    exact ⟨rfl, rfl⟩
  by_cases n2 : r < 55296
  · have e : Lib.runeCells r = [.int .u8 (224 + r / 4096), .int .u8 (128 + r / 64 % 64), .int .u8 (128 + r % 64)] := enc_of (Lib.encodeRuneZ_three (Or.inl ⟨by omega, n2⟩))
    unfold EncPost
    rw [e]
    clear e h1 hs
    go_enter Tryd.func81, Tryd.ntmps81
    go_wp2
    go_ret
    exact ⟨rfl, rfl⟩
  have n3 : 57343 < r := by omega
  by_cases n4 : r ≤ 65535
  · have e : Lib.runeCells r = [.int .u8 (224 + r / 4096), .int .u8 (128 + r / 64 % 64), .int .u8 (128 + r % 64)] := enc_of (Lib.encodeRuneZ_three (Or.inr ⟨by omega, n4⟩))
    unfold EncPost
    rw [e]
    clear e h1 hs n1 n2
    go_enter Tryd.func81, Tryd.ntmps81
    go_wp2
    go_ret
    exact ⟨rfl, rfl⟩
  · have n5 : 65536 ≤ r := by omega
    have e : Lib.runeCells r = [.int .u8 (240 + r / 262144), .int .u8 (128 + r / 4096 % 64), .int .u8 (128 + r / 64 % 64), .int .u8 (128 + r % 64)] := enc_of (Lib.encodeRuneZ_four (by omega) h1)
    unfold EncPost
    rw [e]
    clear e hs n1 n2 n3 n4
    go_enter Tryd.func81, Tryd.ntmps81
    go_wp2
    go_ret
    exact ⟨rfl, rfl⟩
end Go.Proofs.YtgbbogocfmepiaaDoor
