/- bufio.NewWriterSize, over a sink. -/
import Derived.Test.YtgbbogocfmepiaaDoorWrP
namespace Go.Proofs.YtgbbogocfmepiaaDoor
open Go.RowKit
def st00 (sz : Nat) (room : Int) : WS := ⟨List.replicate sz 0, 0, false, room, [], .slice none 0 0⟩
theorem made_bytesW (n : Nat) : (madeCells #[Value.int .u8 0] n) = ((List.replicate n (0 : UInt8)).map bv).toArray := by
  apply Array.toList_inj.1
  rw [toList_madeCells_one]
  simp [bv]
theorem Wr.made {w : World} {base s sz : Nat} {room : Int} (hs : Snk w base s room (.slice none 0 0) []) (hb : base ≤ s) (hbs : base ≤ w.heap.size) (hsz : 1 ≤ sz) (hsz2 : sz ≤ 32767) (hr1 : -1 ≤ room) (hr2 : room ≤ 65535) :
    Wr ((w.alloc (.cells (madeCells #[.int .u8 0] sz) 5)).alloc (.cells #[.nilIface, .slice (some ⟨w.heap.size, 0, none⟩) sz sz, .int .i64 0, sinkV ⟨w.heap.size + 1, w.heap.size, s⟩] 111)) base ⟨w.heap.size + 1, w.heap.size, s⟩ (st00 sz room) where
  hb := by
    have := heap_alloc_new (w.alloc (.cells (madeCells #[.int .u8 0] sz) 5)) (.cells #[.nilIface, .slice (some ⟨w.heap.size, 0, none⟩) sz sz, .int .i64 0, sinkV ⟨w.heap.size + 1, w.heap.size, s⟩] 111)
    rw [show (w.alloc (.cells (madeCells #[.int .u8 0] sz) 5)).heap.size = w.heap.size + 1 by simp] at this
    simpa [wrCells, st00, errW] using this
  hbb := by
    have h0 := heap_alloc_new w (.cells (madeCells #[.int .u8 0] sz) 5)
    rw [made_bytesW] at h0 ⊢
    exact ((Upd.refl (fun _ => False) _).alloc _).heap h0 (fun h => h)
  snk := (hs.upd ((Upd.refl (fun _ => False) w).alloc _) (fun _ h _ => h)).upd ((Upd.refl (fun _ => False) _).alloc _) (fun _ h _ => h)
  apart := by simp [st00, Value.ownBlock]
  n := by simp [st00]
  pos := by simp [st00]; exact hsz
  hi := by simp [st00]; exact hsz2
  rlo := hr1
  rhi := hr2
  size := by simp; omega
  lo := ⟨by show base ≤ w.heap.size + 1; omega, hbs, hb⟩
set_option maxRecDepth 100000 in
set_option maxHeartbeats 1000000 in
theorem wNew {w : World} {base s sz : Nat} {room : Int} (hs : Snk w base s room (.slice none 0 0) []) (hb : base ≤ s) (hbs : base ≤ w.heap.size) (hsz : 1 ≤ sz) (hsz2 : sz ≤ 32767) (hr1 : -1 ≤ room) (hr2 : room ≤ 65535) :
    Calls Tryd.prog 47 #[.iface 82 (.pointer (some ⟨s, 0, none⟩)), .int .i64 (sz : Int)] w (Ret fun v w' => New w w' ∧ v = .pointer (some ⟨w.heap.size + 1, 0, none⟩) ∧ Wr w' base ⟨w.heap.size + 1, w.heap.size, s⟩ (st00 sz room)) := by
  have hta : ∀ (x : Value) (w : World), (Instr.typeAssert (.iface 82 x) 108 85 true).run Tryd.prog w = .ok (.tuple #[.pointer none, .bool false]) w := fun x w => by kernel_rfl
  have HM := Lib.hid (Wr.made hs hb hbs hsz hsz2 hr1 hr2)
  clear hs
  have q1 : decide ((sz : Int) ≤ 0) = false := decide_eq_false (by omega)
  have hz0 : ¬ sz = 0 := by omega
  go_enter Tryd.func47, Tryd.ntmps47
  go_wp2_with (at_make; refine wpList_plain rfl (fun K hK => ?_); refine wp_make eB (.tmp 25) (.tmp 25) rfl .i64 .i64 sz sz rfl rfl (Nat.le_refl _) (by omega) (by unfold maxLen; omega) ?_; refine hK _ _ ?_; clear hK K)
  go_ret
  exact ⟨((Upd.refl _ _).alloc _).alloc _, rfl, HM.out⟩
end Go.Proofs.YtgbbogocfmepiaaDoor
