/- A new buffered reader over a source: reset, NewReaderSize, impl.over. -/
import Derived.Test.YtmmjfpcmempeeaaDoorFill
namespace Go.Proofs.YtmmjfpcmempeeaaDoor
open Go.RowKit
/-- a reader as it is made -/
def fresh (n : Nat) (ps : List (List UInt8)) (f : Bool) : RS := ⟨List.replicate n 0, 0, 0, none, -1, -1, ps, f⟩
/-- what is made: a reader in blocks of its own -/
def OverPost (S : Err → Addr) (w : World) (n : Nat) (ps : List (List UInt8)) (f : Bool) (v : Value) (w' : World) : Prop :=
  New w w' ∧ ∃ L, v = .pointer (some ⟨L.b, 0, none⟩) ∧ w.heap.size ≤ L.lo ∧ L.hi ≤ w'.heap.size ∧ Rd S w' L (fresh n ps f)
theorem made_bytes (n : Nat) : (madeCells (Value.int .u8 0).cells (n * 1)) = ((List.replicate n (0 : UInt8)).map bv).toArray := by
  rw [Nat.mul_one]
  apply Array.toList_inj.1
  rw [show (Value.int .u8 0).cells = #[.int .u8 0] from rfl, toList_madeCells_one]
  simp [bv]
/-- a reader's struct written anew -/
def ResetPost (b : Nat) (bufv rv : Value) (w : World) (v : Value) (w' : World) : Prop :=
  v = .tuple #[] ∧ w'.heap[b]? = some (.cells #[bufv, rv, .int .i64 0, .int .i64 0, .nilIface, .int .i64 (-1), .int .i64 (-1)] 104 (0, 0)) ∧ Upd (fun k => k = b) w w' ∧ w'.heap.size = w.heap.size
set_option maxRecDepth 100000 in
theorem reset {w : World} {b : Nat} {cs : Array Value} (hb : w.heap[b]? = some (.cells cs 104 (0, 0))) (hs : cs.size = 7) (a : Option Addr) (n c : Nat) (t : TypeId) (x : Value) :
    Calls Tryd.prog 58 #[.pointer (some ⟨b, 0, none⟩), .slice a n c, .iface t x] w (Ret (ResetPost b (.slice a n c) (.iface t x) w)) := by
  have H := Lib.hid hb
  have HS := Lib.hid hs
  clear hb hs
  have hbuild : ∀ w, (Instr.build 104 #[(0, .slice a n c), (1, .iface t x), (5, .int .i64 (-1)), (6, .int .i64 (-1))]).run Tryd.prog w = .ok (.agg #[.slice a n c, .iface t x, .int .i64 0, .int .i64 0, .nilIface, .int .i64 (-1), .int .i64 (-1)]) w := fun w => by kernel_rfl
  go_enter Tryd.func58, Tryd.ntmps58
  go_wp2_with (refine wpList_plain rfl (fun K hK => ?_); refine wp_storeAll (n := 7) (by kernel_rfl) (.tmp 10) (.tmp 9) rfl b rfl #[.slice a n c, .iface t x, .int .i64 0, .int .i64 0, .nilIface, .int .i64 (-1), .int .i64 (-1)] rfl rfl (by simp [Value.oneCell']) _ _ H.out HS.out ?_; intro w' h1 h2 h3; refine hK _ _ ?_; clear hK K)
  go_end0
  exact ⟨rfl, by assumption, by assumption, by assumption⟩
theorem newReaderSize_fin {S : Err → Addr} {w w1 : World} {lo s n : Nat} {ps : List (List UInt8)} {f : Bool} {v : Value} {cs : Array Value} (hsrc : Src w lo w.heap.size s ps f) (hlo : lo ≤ w.heap.size) (h16 : 16 ≤ n) (hn : n ≤ 5000) (hne : nones ps ≤ 50)
    (h : ResetPost w.heap.size (.slice (some ⟨w.heap.size + 1, 0, none⟩) n n) (.iface 82 (.pointer (some ⟨s, 0, none⟩))) ((w.alloc (.cells cs 104)).alloc (.cells (madeCells (Value.int .u8 0).cells (n * 1)) 5)) v w1) :
    New w w1 ∧ ∃ L, Value.pointer (some ⟨w.heap.size, 0, none⟩) = .pointer (some ⟨L.b, 0, none⟩) ∧ L.lo = lo ∧ L.hi ≤ w1.heap.size ∧ Rd S w1 L (fresh n ps f) := by
  obtain ⟨_, hb, hu, hz⟩ := h
  have hz' : w1.heap.size = w.heap.size + 2 := by simp at hz; omega
  have hu' : New w w1 := by
    refine (((Upd.refl (fun _ => False) w).alloc (.cells cs 104)).alloc (.cells (madeCells (Value.int .u8 0).cells (n * 1)) 5)).trans hu (fun k hk hlt => ?_)
    subst hk; omega
  have hbb : w1.heap[w.heap.size + 1]? = some (.cells ((List.replicate n (0 : UInt8)).map bv).toArray 5 (0, 0)) := by
    refine hu.heap ?_ (fun hh => by have hh : w.heap.size + 1 = w.heap.size := hh; omega)
    rw [made_bytes]
    exact heap_alloc_new (w.alloc (.cells cs 104)) _ |> fun e => by simpa using e
  refine ⟨hu', ⟨w.heap.size, w.heap.size + 1, s, lo, lo, w.heap.size, w.heap.size + 2⟩, rfl, rfl, (by show w.heap.size + 2 ≤ w1.heap.size; omega), ?_⟩
  exact {
    hb := by rw [hb]; simp [rdCells, fresh, rdV, eV]
    hbb := hbb
    src := hsrc.new hu'
    blo := ⟨hlo, by show ¬ (lo ≤ w.heap.size ∧ w.heap.size < w.heap.size); omega⟩
    bhi := by simp
    bblo := ⟨by show lo ≤ w.heap.size + 1; omega, by show ¬ (lo ≤ w.heap.size + 1 ∧ w.heap.size + 1 < w.heap.size); omega⟩
    bbhi := by simp
    lomid := ⟨Nat.le_refl _, by show w.heap.size ≤ w.heap.size + 2; omega⟩
    rw := Nat.le_refl _
    wn := Nat.zero_le _
    nlo := by simpa [fresh] using h16
    nhi := by simp [fresh]; omega
    empties := hne
    errok := .inl rfl
    lastlo := by simp [fresh]
    lasthi := by simp [fresh]
    runelo := by simp [fresh]
    runehi := by simp [fresh] }
set_option maxRecDepth 100000 in
set_option maxHeartbeats 1000000 in
theorem newReaderSize {S : Err → Addr} {w : World} {lo s sz : Nat} {ps : List (List UInt8)} {f : Bool} (hsrc : Src w lo w.heap.size s ps f) (hlo : lo ≤ w.heap.size) (hsz : sz ≤ 5000) (hne : nones ps ≤ 50) :
    Calls Tryd.prog 39 #[.iface 82 (.pointer (some ⟨s, 0, none⟩)), .int .i64 (sz : Int)] w
      (Ret fun v w' => New w w' ∧ ∃ L, v = .pointer (some ⟨L.b, 0, none⟩) ∧ L.lo = lo ∧ L.hi ≤ w'.heap.size ∧ Rd S w' L (fresh (max sz 16) ps f)) := by
  have hta : ∀ (x : Value) (w : World), (Instr.typeAssert (.iface 82 x) 102 70 true).run Tryd.prog w = .ok (.tuple #[.pointer none, .bool false]) w := fun x w => by kernel_rfl
  have HS := Lib.hid hsrc
  have HL := Lib.hid hlo
  have HN := Lib.hid hne
  clear hsrc hlo hne
  have key : ∀ n : Nat, 16 ≤ n → n ≤ 5000 → ∀ (cs : Array Value), cs.size = 7 → Calls Tryd.prog 58 #[.pointer (some ⟨w.heap.size, 0, none⟩), .slice (some ⟨w.heap.size + 1, 0, none⟩) n n, .iface 82 (.pointer (some ⟨s, 0, none⟩))]
      ((w.alloc (.cells cs 104)).alloc (.cells (madeCells (Value.int .u8 0).cells (n * 1)) 5)) (Ret fun _ w1 => New w w1 ∧ ∃ L, Value.pointer (some ⟨w.heap.size, 0, none⟩) = .pointer (some ⟨L.b, 0, none⟩) ∧ L.lo = lo ∧ L.hi ≤ w1.heap.size ∧ Rd S w1 L (fresh n ps f)) := by
    intro n h16 hn cs hcs
    refine callRet (reset (cs := cs) ?_ hcs _ _ _ _ _) (fun v w1 h1 => newReaderSize_fin HS.out HL.out h16 hn HN.out h1)
    rw [Below.heap_alloc _ _ _ (by simp)]
    exact heap_alloc_new w _
  by_cases h16 : sz < 16
  · rw [show max sz 16 = 16 by omega]
    have K16 := Lib.hid (key 16 (by omega) (by omega))
    clear key
    go_enter Tryd.func39, Tryd.ntmps39
    go_wp2_with (first | (at_make; refine wpList_plain rfl (fun K hK => ?_); refine wp_make eB (.tmp 27) (.tmp 27) rfl .i64 .i64 16 16 rfl rfl (Nat.le_refl _) (by omega) (by unfold maxLen; omega) ?_; refine hK _ _ ?_; clear hK K) | (go_at_call 58; refine callRet (K16.out _ rfl) ?_; intro v w1 h1))
    go_ret
    assumption
  · rw [show max sz 16 = sz by omega]
    have K16 := Lib.hid (by simpa only [Nat.mul_one] using key sz (by omega) (by omega))
    clear key
    go_enter Tryd.func39, Tryd.ntmps39
    go_wp2_with (first | (at_make; refine wpList_plain rfl (fun K hK => ?_); refine wp_make eB (.tmp 27) (.tmp 27) rfl .i64 .i64 sz sz rfl rfl (Nat.le_refl _) (by omega) (by unfold maxLen; omega) ?_; refine hK _ _ ?_; clear hK K) | (go_at_call 58; refine callRet (K16.out _ rfl) ?_; intro v w1 h1))
    go_ret
    assumption
set_option maxRecDepth 100000 in
theorem over {S : Err → Addr} {w : World} {sz : Nat} {a : Option Addr} {c : Nat} {ps : List (List UInt8)} (f : Bool) (h : PiecesA w a c ps) (hl : ps.flatten.length ≤ 20000) (hn : ps.length ≤ 500) (hsz : sz ≤ 5000) (hne : nones ps ≤ 50) :
    Calls Tryd.prog 32 #[.agg #[.slice a ps.length c, .bool f], .int .i64 (sz : Int)] w (Ret (OverPost S w (max sz 16) ps f)) := by
  have K1 := Lib.hid (readerOf a c ps f ((w.alloc (.cells #[.slice a ps.length c, .bool f] 24))) (h.new ((Upd.refl _ _).alloc _)) (by omega) (by omega))
  have h2 := h.2.1
  unfold maxLen at h2
  clear h
  go_enter Tryd.func32, Tryd.ntmps32
  go_wp2_with (first | (go_at_call 40; refine callRet K1.out ?_; intro v w1 h1; obtain ⟨hu1, s, rfl, hsrc⟩ := h1; have HU := Lib.hid hu1; clear hu1; have K2 := Lib.hid (newReaderSize (S := S) (sz := sz) hsrc (by have := HU.out.size; simpa using this) hsz hne); clear hsrc) | (go_at_call 39; refine callRet K2.out ?_; intro v w2 h2))
  obtain ⟨hu2, L, rfl, hlo, hhi, hrd⟩ := h2
  have HU2 := Lib.hid hu2
  go_ret
  have hz : L.lo = w.heap.size + 1 := by rw [hlo]; simp
  exact ⟨((Upd.refl _ _).alloc _).andNew (HU.out.andNew HU2.out), L, rfl, by omega, hhi, hrd⟩
end Go.Proofs.YtmmjfpcmempeeaaDoor
