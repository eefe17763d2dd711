/- impl.step. -/
import Derived.Test.YtmmjfpcmempeeaaDoorAns
import Derived.Test.YtmmjfpcmempeeaaDoorM5
import Derived.Test.YtmmjfpcmempeeaaDoorReadLine
import Derived.Test.YtmmjfpcmempeeaaDoorM7
import Derived.Test.YtmmjfpcmempeeaaDoorReadRune
import Derived.Test.YtmmjfpcmempeeaaDoorM4
import Derived.Laws.IdiomStrings
namespace Go.Proofs.YtmmjfpcmempeeaaDoor
open Go.RowKit
def stepF (A : AR) (s : Stp) : Ans × AR :=
  if s.k = 1 then (⟨[], 0, ((byteA A).1.1 : Int), false, ecode (byteA A).1.2⟩, (byteA A).2)
  else if s.k = 2 then (⟨[], 0, 0, false, ecode (unbyteA A).1⟩, (unbyteA A).2)
  else if s.k = 3 then (⟨[], ((runeA A).1.1.2 : Int), ((runeA A).1.1.1 : Int), false, ecode (runeA A).1.2⟩, (runeA A).2)
  else if s.k = 4 then (⟨[], 0, 0, false, ecode (unruneA A).1⟩, (unruneA A).2)
  else if s.k = 5 then (⟨(peekA A s.n).1.1, 0, 0, false, ecode (peekA A s.n).1.2⟩, (peekA A s.n).2)
  else if s.k = 6 then (⟨[], (discardA A s.n).1.1, 0, false, ecode (discardA A s.n).1.2⟩, (discardA A s.n).2)
  else if s.k = 7 then (⟨(sliceA A s.d).1.1, 0, 0, false, ecode (sliceA A s.d).1.2⟩, (sliceA A s.d).2)
  else if s.k = 8 then (⟨(lineA A).1.1.1, 0, 0, (lineA A).1.1.2, ecode (lineA A).1.2⟩, (lineA A).2)
  else if s.k = 9 ∨ s.k = 10 then (⟨(frags s.d (A.left.length + 1) A).1.flatten ++ (frags s.d (A.left.length + 1) A).2.1.1, 0, 0, false, ecode (frags s.d (A.left.length + 1) A).2.1.2⟩, (frags s.d (A.left.length + 1) A).2.2)
  else (⟨[], (A.size : Int), 0, false, 0⟩, A)
def stepRel (A : AR) (s : Stp) (a : Ans) (A' : AR) : Prop :=
  if s.k = 0 then ∃ (k : Nat) (e : Option Err), readRel A (min s.n 4096).toNat k e A' ∧ a = ⟨A.left.take k, (k : Int), 0, false, ecode e⟩
  else if s.k = 11 then ∃ m : Nat, m ≤ A.size ∧ m ≤ A.left.length ∧ a = ⟨[], (m : Int), 0, false, 0⟩ ∧ A' = A
  else a = (stepF A s).1 ∧ A' = (stepF A s).2
def StepPost (S : Err → Addr) (w : World) (L : Loc) (A : AR) (s : Stp) (v : Value) (w' : World) : Prop :=
  ∃ st' a A', stepRel A s a A' ∧ Rd S w' L st' ∧ Abs st' A' ∧ Upd (In L) w w' ∧ ∃ cs, v = .agg (List.toArray cs) ∧ AnsE w' (fun k => w.heap.size ≤ k) cs a
theorem step_fin {S : Err → Addr} {w W2 w1 w2 w3 : World} {L : Loc} {st1 : RS} {A A1 : AR} {s : Stp} {a : Ans} {bv : Value} {cs : Array Value} (hn2 : New w W2) (hu : Upd (In L) W2 w1) (h12 : New w1 w2) (h3 : Upd (fun k => k = w.heap.size + 1) w2 w3) (hhi : L.hi ≤ w.heap.size)
    (hrd : Rd S w1 L st1) (habs : Abs st1 A1) (hel : ElemF w2 (fun k => w.heap.size + 2 ≤ k) bv a.bytes) (hcs : cs = #[bv, .int .i64 a.n, .int .i32 a.rune, .bool a.flag, .int .i64 (a.code : Int)]) (hrel : stepRel A s a A1) : StepPost S w L A s (.agg cs) w3 := by
  subst hcs
  refine ⟨st1, a, A1, hrel, (hrd.new h12).upd h3 (fun k hk hin => by have hk : k = w.heap.size + 1 := hk; have := hin.2; omega), habs, ?_, _, rfl, bv, rfl, ?_⟩
  · exact (((Upd.refl (In L) w).andNew hn2).trans hu (fun _ h _ => h)).andNew h12 |>.trans h3 (fun k hk hlt => by have hk : k = w.heap.size + 1 := hk; omega)
  · exact (hel.upd h3 (fun k cur fr hk hp _ => by have hk : k = w.heap.size + 1 := hk; have hp : w.heap.size + 2 ≤ k := hp; omega)).mono (fun k hk => by omega)
theorem NewB.elemF {w w1 : World} {v : Value} {bs : List UInt8} {lo : Nat} (h : NewB w w1 v bs) (hlo : lo ≤ w.heap.size) : ElemF w1 (fun k => lo ≤ k) v bs := (h.elem hlo).toF
/-- where a step's box and the answer lie -/
def W2 (w : World) (s : Stp) : World := (w.alloc (.cells #[.int .i64 s.k, .int .i64 s.n, .int .u8 (s.d.toNat : Int)] 53)).alloc (.cells #[.slice none 0 0, .int .i64 0, .int .i32 0, .bool false, .int .i64 0] 59)
theorem W2_new (w : World) (s : Stp) : New w (W2 w s) := ((Upd.refl _ _).alloc _).alloc _
theorem W2_size (w : World) (s : Stp) : (W2 w s).heap.size = w.heap.size + 2 := by simp [W2]
theorem W2_ans {w : World} {s : Stp} {M : Nat → Prop} {w1 : World} (u : Upd M (W2 w s) w1) (hm : ¬ M (w.heap.size + 1)) : w1.heap[w.heap.size + 1]? = some (.cells #[.slice none 0 0, .int .i64 0, .int .i32 0, .bool false, .int .i64 0] 59 (0, 0)) :=
  u.heap (heap_alloc2_new _ _ _) hm
theorem upd_size2 {w w1 : World} {s : Stp} {M : Nat → Prop} (u : Upd M (W2 w s) w1) : w.heap.size + 2 ≤ w1.heap.size := by have := u.size; rwa [W2_size] at this
theorem byteA_lt (A : AR) : (byteA A).1.1 < 256 := by
  unfold byteA
  split
  · show 0 < 256; omega
  · exact UInt8.toNat_lt _
theorem sliceA_le (A : AR) (d : UInt8) : (sliceA A d).1.1.length ≤ A.left.length := by
  unfold sliceA
  split
  · exact List.length_take_le' _ _
  · split
    · exact Nat.le_refl _
    · exact List.length_take_le' _ _
theorem lineA_le (A : AR) : (lineA A).1.1.1.length ≤ A.left.length := by
  have h := sliceA_le A 10
  unfold lineA
  split
  · split
    · exact Nat.le_trans (List.length_take_le' _ _) h
    · exact h
  · split
    · exact Nat.zero_le _
    · exact Nat.le_trans (List.length_take_le' _ _) h
theorem frags_tot (d : UInt8) : ∀ (n : Nat) (A : AR), 1 ≤ A.size → A.left.length < n → (frags d n A).1.flatten.length + (frags d n A).2.1.1.length ≤ A.left.length := by
  intro n
  induction n with
  | zero => intro A _ h; omega
  | succ n ih =>
    intro A hs hl
    unfold frags
    by_cases hf : (sliceA A d).1.2 = some .full
    · rw [if_pos hf]
      obtain ⟨h1, h2, h3, h4⟩ := sliceA_full' hf
      have := ih (sliceA A d).2 (by rw [h4]; exact hs) (by rw [h3, List.length_drop]; omega)
      rw [h3, List.length_drop] at this
      show ((sliceA A d).1.1 :: (frags d n (sliceA A d).2).1).flatten.length + _ ≤ _
      rw [List.flatten_cons, List.length_append, h2, List.length_take]
      show _ + (frags d n (sliceA A d).2).2.1.1.length ≤ _
      omega
    · rw [if_neg hf]
      have := sliceA_le A d
      simpa using this
theorem bytes_of_cells {w : World} {g : Nat} {bs : List UInt8} (h : w.heap[g]? = some (.cells (bs.map bv).toArray 5 (0, 0))) (hm : bs.length ≤ maxLen) : BytesA w (some ⟨g, 0, none⟩) bs.length bs := by
  refine ⟨Nat.le_refl _, hm, fun hh => (by cases hh), fun p hp => ⟨fun _ => (by simp only [Option.some.injEq] at hp; subst hp; rfl), fun i hi => ?_⟩⟩
  simp only [Option.some.injEq] at hp
  subst hp
  rw [World.cell_of_heap h]
  simp [hi]
set_option maxRecDepth 100000 in
set_option maxHeartbeats 1000000 in
theorem step1 {S : Err → Addr} {B : Nat} {w : World} {L : Loc} {st : RS} {A : AR} (E : Env S B w) (T : TabsB B w) (hB : B ≤ L.lo) (h : Rd S w L st) (hA : Abs st A) (hhi : L.hi ≤ w.heap.size) (hl : A.left.length ≤ 1048576) (n : Int) (d : UInt8) (hn1 : -9223372036854775808 ≤ n) (hn2 : n ≤ 9223372036854775807) :
    Calls Tryd.prog 41 #[.pointer (some ⟨L.b, 0, none⟩), .agg #[.int .i64 1, .int .i64 n, .int .u8 (d.toNat : Int)]] w (Ret (StepPost S w L A ⟨1, n, d⟩)) := by
  have hu0 := And.intro hl (And.intro hn1 hn2)
  have hT := T
  have hB0 := hB
  have hE0 := E
  clear hu0 hT hB0 hE0
  have hn := W2_new w ⟨1, n, d⟩
  have K1 := Lib.hid (readByteA (E.new hn) hB (h.new hn) hA)
  obtain ⟨X, hX⟩ : ∃ X, X = byteA A := ⟨_, rfl⟩
  have HREL : Hid (stepRel A ⟨1, n, d⟩ ⟨[], 0, (X.1.1 : Int), false, ecode X.1.2⟩ X.2) := by rw [hX]; exact ⟨rfl, rfl⟩
  have hb256 : X.1.1 < 256 := by rw [hX]; exact byteA_lt A
  have hw32 : wrap32 (X.1.1 : Int) = (X.1.1 : Int) := by unfold wrap32; omega
  rw [← hX] at K1
  have HE := Lib.hid (E.new hn)
  have HHI := Lib.hid hhi
  have HB := Lib.hid hB
  have HN := Lib.hid hn
  clear E T h hA hX hl hhi hn
  go_enter Tryd.func41, Tryd.ntmps41
  go_wp2_with (first | (go_at_call 44; refine callRet K1.out ?_; intro v w1 hv; obtain ⟨st1, rfl, hrd, hu, habs⟩ := hv; have HRD := Lib.hid hrd; have HU := Lib.hid hu; have HABS := Lib.hid habs; have HE1 := Lib.hid (HE.out.updL HB.out hu); clear hrd hu habs) | (go_at_call 34; refine callRet (codeOf X.1.2 _ (HE1.out.new (Upd.refl _ _))) ?_; rintro v w3 ⟨rfl, rfl⟩) | (refine wpList_plain rfl (fun K hK => ?_); refine wp_storeAll (n := 5) (by kernel_rfl) (.tmp 4) (.tmp 60) rfl (w.heap.size + 1) rfl #[.slice none 0 0, .int .i64 0, .int .i32 (X.1.1 : Int), .bool false, .int .i64 (ecode X.1.2 : Int)] rfl rfl (by simp [Value.oneCell']) _ 59 (W2_ans (w := w) (s := ⟨1, n, d⟩) (HU.out.andNew (Upd.refl _ _)) (fun hh => by have := HHI.out; have := hh.2; omega)) rfl ?_; intro w4 h4 u4 z4; refine hK _ _ ?_; clear hK K))
  refine bodyPost_ret (results_cell_row (p := 4) rfl _ _ (w.heap.size + 1) 59 _ (0, 0) _ rfl h4 Tryd.underlying59 rfl (by kernel_rfl)) rfl ?_
  exact step_fin HN.out HU.out (Upd.refl _ _) u4 HHI.out HRD.out HABS.out (ElemF.nil _ _) rfl HREL.out
set_option maxRecDepth 100000 in
set_option maxHeartbeats 1000000 in
theorem step2 {S : Err → Addr} {B : Nat} {w : World} {L : Loc} {st : RS} {A : AR} (E : Env S B w) (T : TabsB B w) (hB : B ≤ L.lo) (h : Rd S w L st) (hA : Abs st A) (hhi : L.hi ≤ w.heap.size) (hl : A.left.length ≤ 1048576) (n : Int) (d : UInt8) (hn1 : -9223372036854775808 ≤ n) (hn2 : n ≤ 9223372036854775807) :
    Calls Tryd.prog 41 #[.pointer (some ⟨L.b, 0, none⟩), .agg #[.int .i64 2, .int .i64 n, .int .u8 (d.toNat : Int)]] w (Ret (StepPost S w L A ⟨2, n, d⟩)) := by
  have hu0 := And.intro hl (And.intro hn1 hn2)
  have hT := T
  have hB0 := hB
  have hE0 := E
  clear hu0 hT hB0 hE0
  have hn := W2_new w ⟨2, n, d⟩
  have K1 := Lib.hid (unreadByte (E.new hn) (h.new hn) hA)
  obtain ⟨X, hX⟩ : ∃ X, X = unbyteA A := ⟨_, rfl⟩
  have HREL : Hid (stepRel A ⟨2, n, d⟩ ⟨[], 0, 0, false, ecode X.1⟩ X.2) := by rw [hX]; exact ⟨rfl, rfl⟩
  rw [← hX] at K1
  have HE := Lib.hid (E.new hn)
  have HHI := Lib.hid hhi
  have HB := Lib.hid hB
  have HN := Lib.hid hn
  clear E T h hA hX hl hhi hn
  go_enter Tryd.func41, Tryd.ntmps41
  go_wp2_with (first | (go_at_call 60; refine callRet K1.out ?_; intro v w1 hv; obtain ⟨st1, rfl, hrd, hu, habs⟩ := hv; have HRD := Lib.hid hrd; have HU := Lib.hid hu; have HABS := Lib.hid habs; have HE1 := Lib.hid (HE.out.updL HB.out hu); clear hrd hu habs) | (go_at_call 34; refine callRet (codeOf X.1 _ (HE1.out.new (Upd.refl _ _))) ?_; rintro v w3 ⟨rfl, rfl⟩) | (refine wpList_plain rfl (fun K hK => ?_); refine wp_storeAll (n := 5) (by kernel_rfl) (.tmp 4) (.tmp 66) rfl (w.heap.size + 1) rfl #[.slice none 0 0, .int .i64 0, .int .i32 0, .bool false, .int .i64 (ecode X.1 : Int)] rfl rfl (by simp [Value.oneCell']) _ 59 (W2_ans (w := w) (s := ⟨2, n, d⟩) (HU.out.andNew (Upd.refl _ _)) (fun hh => by have := HHI.out; have := hh.2; omega)) rfl ?_; intro w4 h4 u4 z4; refine hK _ _ ?_; clear hK K))
  refine bodyPost_ret (results_cell_row (p := 4) rfl _ _ (w.heap.size + 1) 59 _ (0, 0) _ rfl h4 Tryd.underlying59 rfl (by kernel_rfl)) rfl ?_
  exact step_fin HN.out HU.out (Upd.refl _ _) u4 HHI.out HRD.out HABS.out (ElemF.nil _ _) rfl HREL.out
set_option maxRecDepth 100000 in
set_option maxHeartbeats 1000000 in
theorem step3 {S : Err → Addr} {B : Nat} {w : World} {L : Loc} {st : RS} {A : AR} (E : Env S B w) (T : TabsB B w) (hB : B ≤ L.lo) (h : Rd S w L st) (hA : Abs st A) (hhi : L.hi ≤ w.heap.size) (hl : A.left.length ≤ 1048576) (n : Int) (d : UInt8) (hn1 : -9223372036854775808 ≤ n) (hn2 : n ≤ 9223372036854775807) :
    Calls Tryd.prog 41 #[.pointer (some ⟨L.b, 0, none⟩), .agg #[.int .i64 3, .int .i64 n, .int .u8 (d.toNat : Int)]] w (Ret (StepPost S w L A ⟨3, n, d⟩)) := by
  have hu0 := And.intro hl (And.intro hn1 hn2)
  have hT := T
  have hB0 := hB
  have hE0 := E
  clear hu0 hT hB0 hE0
  have hn := W2_new w ⟨3, n, d⟩
  have K1 := Lib.hid (readRune (E.new hn) (T.new hn) hB (h.new hn) hA)
  obtain ⟨X, hX⟩ : ∃ X, X = runeA A := ⟨_, rfl⟩
  have HREL : Hid (stepRel A ⟨3, n, d⟩ ⟨[], (X.1.1.2 : Int), (X.1.1.1 : Int), false, ecode X.1.2⟩ X.2) := by rw [hX]; exact ⟨rfl, rfl⟩
  rw [← hX] at K1
  have HE := Lib.hid (E.new hn)
  have HHI := Lib.hid hhi
  have HB := Lib.hid hB
  have HN := Lib.hid hn
  clear E T h hA hX hl hhi hn
  go_enter Tryd.func41, Tryd.ntmps41
  go_wp2_with (first | (go_at_call 33; refine callRet K1.out ?_; intro v w1 hv; obtain ⟨st1, rfl, hrd, hu, habs⟩ := hv; have HRD := Lib.hid hrd; have HU := Lib.hid hu; have HABS := Lib.hid habs; have HE1 := Lib.hid (HE.out.updL HB.out hu); clear hrd hu habs) | (go_at_call 34; refine callRet (codeOf X.1.2 _ (HE1.out.new (Upd.refl _ _))) ?_; rintro v w3 ⟨rfl, rfl⟩) | (refine wpList_plain rfl (fun K hK => ?_); refine wp_storeAll (n := 5) (by kernel_rfl) (.tmp 4) (.tmp 79) rfl (w.heap.size + 1) rfl #[.slice none 0 0, .int .i64 (X.1.1.2 : Int), .int .i32 (X.1.1.1 : Int), .bool false, .int .i64 (ecode X.1.2 : Int)] rfl rfl (by simp [Value.oneCell']) _ 59 (W2_ans (w := w) (s := ⟨3, n, d⟩) (HU.out.andNew (Upd.refl _ _)) (fun hh => by have := HHI.out; have := hh.2; omega)) rfl ?_; intro w4 h4 u4 z4; refine hK _ _ ?_; clear hK K))
  refine bodyPost_ret (results_cell_row (p := 4) rfl _ _ (w.heap.size + 1) 59 _ (0, 0) _ rfl h4 Tryd.underlying59 rfl (by kernel_rfl)) rfl ?_
  exact step_fin HN.out HU.out (Upd.refl _ _) u4 HHI.out HRD.out HABS.out (ElemF.nil _ _) rfl HREL.out
set_option maxRecDepth 100000 in
set_option maxHeartbeats 1000000 in
theorem step4 {S : Err → Addr} {B : Nat} {w : World} {L : Loc} {st : RS} {A : AR} (E : Env S B w) (T : TabsB B w) (hB : B ≤ L.lo) (h : Rd S w L st) (hA : Abs st A) (hhi : L.hi ≤ w.heap.size) (hl : A.left.length ≤ 1048576) (n : Int) (d : UInt8) (hn1 : -9223372036854775808 ≤ n) (hn2 : n ≤ 9223372036854775807) :
    Calls Tryd.prog 41 #[.pointer (some ⟨L.b, 0, none⟩), .agg #[.int .i64 4, .int .i64 n, .int .u8 (d.toNat : Int)]] w (Ret (StepPost S w L A ⟨4, n, d⟩)) := by
  have hu0 := And.intro hl (And.intro hn1 hn2)
  have hT := T
  have hB0 := hB
  have hE0 := E
  clear hu0 hT hB0 hE0
  have hn := W2_new w ⟨4, n, d⟩
  have K1 := Lib.hid (unreadRune (E.new hn) (h.new hn) hA)
  obtain ⟨X, hX⟩ : ∃ X, X = unruneA A := ⟨_, rfl⟩
  have HREL : Hid (stepRel A ⟨4, n, d⟩ ⟨[], 0, 0, false, ecode X.1⟩ X.2) := by rw [hX]; exact ⟨rfl, rfl⟩
  rw [← hX] at K1
  have HE := Lib.hid (E.new hn)
  have HHI := Lib.hid hhi
  have HB := Lib.hid hB
  have HN := Lib.hid hn
  clear E T h hA hX hl hhi hn
  go_enter Tryd.func41, Tryd.ntmps41
  go_wp2_with (first | (go_at_call 61; refine callRet K1.out ?_; intro v w1 hv; obtain ⟨st1, rfl, hrd, hu, habs⟩ := hv; have HRD := Lib.hid hrd; have HU := Lib.hid hu; have HABS := Lib.hid habs; have HE1 := Lib.hid (HE.out.updL HB.out hu); clear hrd hu habs) | (go_at_call 34; refine callRet (codeOf X.1 _ (HE1.out.new (Upd.refl _ _))) ?_; rintro v w3 ⟨rfl, rfl⟩) | (refine wpList_plain rfl (fun K hK => ?_); refine wp_storeAll (n := 5) (by kernel_rfl) (.tmp 4) (.tmp 85) rfl (w.heap.size + 1) rfl #[.slice none 0 0, .int .i64 0, .int .i32 0, .bool false, .int .i64 (ecode X.1 : Int)] rfl rfl (by simp [Value.oneCell']) _ 59 (W2_ans (w := w) (s := ⟨4, n, d⟩) (HU.out.andNew (Upd.refl _ _)) (fun hh => by have := HHI.out; have := hh.2; omega)) rfl ?_; intro w4 h4 u4 z4; refine hK _ _ ?_; clear hK K))
  refine bodyPost_ret (results_cell_row (p := 4) rfl _ _ (w.heap.size + 1) 59 _ (0, 0) _ rfl h4 Tryd.underlying59 rfl (by kernel_rfl)) rfl ?_
  exact step_fin HN.out HU.out (Upd.refl _ _) u4 HHI.out HRD.out HABS.out (ElemF.nil _ _) rfl HREL.out
set_option maxRecDepth 100000 in
set_option maxHeartbeats 1000000 in
theorem step5 {S : Err → Addr} {B : Nat} {w : World} {L : Loc} {st : RS} {A : AR} (E : Env S B w) (T : TabsB B w) (hB : B ≤ L.lo) (h : Rd S w L st) (hA : Abs st A) (hhi : L.hi ≤ w.heap.size) (hl : A.left.length ≤ 1048576) (n : Int) (d : UInt8) (hn1 : -9223372036854775808 ≤ n) (hn2 : n ≤ 9223372036854775807) :
    Calls Tryd.prog 41 #[.pointer (some ⟨L.b, 0, none⟩), .agg #[.int .i64 5, .int .i64 n, .int .u8 (d.toNat : Int)]] w (Ret (StepPost S w L A ⟨5, n, d⟩)) := by
  have hu0 := And.intro hl (And.intro hn1 hn2)
  have hT := T
  have hB0 := hB
  have hE0 := E
  clear hu0 hT hB0 hE0
  have hn := W2_new w ⟨5, n, d⟩
  have K1 := Lib.hid (peek (E.new hn) hB (h.new hn) hA n hn1 (by omega))
  obtain ⟨X, hX⟩ : ∃ X, X = peekA A n := ⟨_, rfl⟩
  have HREL : Hid (stepRel A ⟨5, n, d⟩ ⟨X.1.1, 0, 0, false, ecode X.1.2⟩ X.2) := by rw [hX]; exact ⟨rfl, rfl⟩
  have HXL : Hid ((X.1.1).length ≤ 70368744177664) := by rw [hX]; exact Nat.le_trans (peekA_le A n) (by omega)
  rw [← hX] at K1
  have HE := Lib.hid (E.new hn)
  have HHI := Lib.hid hhi
  have HB := Lib.hid hB
  have HN := Lib.hid hn
  clear E T h hA hX hl hhi hn
  go_enter Tryd.func41, Tryd.ntmps41
  go_wp2_with (first | (go_at_call 62; refine callRet K1.out ?_; intro v w1 hv; obtain ⟨st1, ab, cb, rfl, hby, _, hrd, hu, habs⟩ := hv; have HBY := Lib.hid hby; clear hby; have HRD := Lib.hid hrd; have HU := Lib.hid hu; have HABS := Lib.hid habs; have HE1 := Lib.hid (HE.out.updL HB.out hu); clear hrd hu habs) | (go_at_call 51; refine callRet (copied _ _ _ _ HBY.out HXL.out) ?_; intro v w2 h2; obtain ⟨g, cp, rfl, _, _, _⟩ := h2.bytes; have HN2 := Lib.hid h2; clear h2) | (go_at_call 34; refine callRet (codeOf X.1.2 _ (HE1.out.new HN2.out.1)) ?_; rintro v w3 ⟨rfl, rfl⟩) | (refine wpList_plain rfl (fun K hK => ?_); refine wp_storeAll (n := 5) (by kernel_rfl) (.tmp 4) (.tmp 99) rfl (w.heap.size + 1) rfl #[.slice (some ⟨g, 0, none⟩) (X.1.1).length cp, .int .i64 0, .int .i32 0, .bool false, .int .i64 (ecode X.1.2 : Int)] rfl rfl (by simp [Value.oneCell']) _ 59 (W2_ans (w := w) (s := ⟨5, n, d⟩) (HU.out.andNew HN2.out.1) (fun hh => by have := HHI.out; have := hh.2; omega)) rfl ?_; intro w4 h4 u4 z4; refine hK _ _ ?_; clear hK K))
  refine bodyPost_ret (results_cell_row (p := 4) rfl _ _ (w.heap.size + 1) 59 _ (0, 0) _ rfl h4 Tryd.underlying59 rfl (by kernel_rfl)) rfl ?_
  exact step_fin HN.out HU.out HN2.out.1 u4 HHI.out HRD.out HABS.out (HN2.out.elemF (upd_size2 HU.out)) rfl HREL.out
set_option maxRecDepth 100000 in
set_option maxHeartbeats 1000000 in
theorem step6 {S : Err → Addr} {B : Nat} {w : World} {L : Loc} {st : RS} {A : AR} (E : Env S B w) (T : TabsB B w) (hB : B ≤ L.lo) (h : Rd S w L st) (hA : Abs st A) (hhi : L.hi ≤ w.heap.size) (hl : A.left.length ≤ 1048576) (n : Int) (d : UInt8) (hn1 : -9223372036854775808 ≤ n) (hn2 : n ≤ 9223372036854775807) :
    Calls Tryd.prog 41 #[.pointer (some ⟨L.b, 0, none⟩), .agg #[.int .i64 6, .int .i64 n, .int .u8 (d.toNat : Int)]] w (Ret (StepPost S w L A ⟨6, n, d⟩)) := by
  have hu0 := And.intro hl (And.intro hn1 hn2)
  have hT := T
  have hB0 := hB
  have hE0 := E
  clear hu0 hT hB0 hE0
  have hn := W2_new w ⟨6, n, d⟩
  have K1 := Lib.hid (discard (E.new hn) hB (h.new hn) hA n (by omega) (by omega))
  obtain ⟨X, hX⟩ : ∃ X, X = discardA A n := ⟨_, rfl⟩
  have HREL : Hid (stepRel A ⟨6, n, d⟩ ⟨[], X.1.1, 0, false, ecode X.1.2⟩ X.2) := by rw [hX]; exact ⟨rfl, rfl⟩
  rw [← hX] at K1
  have HE := Lib.hid (E.new hn)
  have HHI := Lib.hid hhi
  have HB := Lib.hid hB
  have HN := Lib.hid hn
  clear E T h hA hX hl hhi hn
  go_enter Tryd.func41, Tryd.ntmps41
  go_wp2_with (first | (go_at_call 63; refine callRet K1.out ?_; intro v w1 hv; obtain ⟨st1, rfl, hrd, hu, habs⟩ := hv; have HRD := Lib.hid hrd; have HU := Lib.hid hu; have HABS := Lib.hid habs; have HE1 := Lib.hid (HE.out.updL HB.out hu); clear hrd hu habs) | (go_at_call 34; refine callRet (codeOf X.1.2 _ (HE1.out.new (Upd.refl _ _))) ?_; rintro v w3 ⟨rfl, rfl⟩) | (refine wpList_plain rfl (fun K hK => ?_); refine wp_storeAll (n := 5) (by kernel_rfl) (.tmp 4) (.tmp 112) rfl (w.heap.size + 1) rfl #[.slice none 0 0, .int .i64 X.1.1, .int .i32 0, .bool false, .int .i64 (ecode X.1.2 : Int)] rfl rfl (by simp [Value.oneCell']) _ 59 (W2_ans (w := w) (s := ⟨6, n, d⟩) (HU.out.andNew (Upd.refl _ _)) (fun hh => by have := HHI.out; have := hh.2; omega)) rfl ?_; intro w4 h4 u4 z4; refine hK _ _ ?_; clear hK K))
  refine bodyPost_ret (results_cell_row (p := 4) rfl _ _ (w.heap.size + 1) 59 _ (0, 0) _ rfl h4 Tryd.underlying59 rfl (by kernel_rfl)) rfl ?_
  exact step_fin HN.out HU.out (Upd.refl _ _) u4 HHI.out HRD.out HABS.out (ElemF.nil _ _) rfl HREL.out
set_option maxRecDepth 100000 in
set_option maxHeartbeats 1000000 in
theorem step7 {S : Err → Addr} {B : Nat} {w : World} {L : Loc} {st : RS} {A : AR} (E : Env S B w) (T : TabsB B w) (hB : B ≤ L.lo) (h : Rd S w L st) (hA : Abs st A) (hhi : L.hi ≤ w.heap.size) (hl : A.left.length ≤ 1048576) (n : Int) (d : UInt8) (hn1 : -9223372036854775808 ≤ n) (hn2 : n ≤ 9223372036854775807) :
    Calls Tryd.prog 41 #[.pointer (some ⟨L.b, 0, none⟩), .agg #[.int .i64 7, .int .i64 n, .int .u8 (d.toNat : Int)]] w (Ret (StepPost S w L A ⟨7, n, d⟩)) := by
  have hu0 := And.intro hl (And.intro hn1 hn2)
  have hT := T
  have hB0 := hB
  have hE0 := E
  clear hu0 hT hB0 hE0
  have hn := W2_new w ⟨7, n, d⟩
  have K1 := Lib.hid (readSlice (E.new hn) hB (h.new hn) hA d)
  obtain ⟨X, hX⟩ : ∃ X, X = sliceA A d := ⟨_, rfl⟩
  have HREL : Hid (stepRel A ⟨7, n, d⟩ ⟨X.1.1, 0, 0, false, ecode X.1.2⟩ X.2) := by rw [hX]; exact ⟨rfl, rfl⟩
  have HXL : Hid ((X.1.1).length ≤ 70368744177664) := by rw [hX]; exact Nat.le_trans (sliceA_le A d) (by omega)
  rw [← hX] at K1
  have HE := Lib.hid (E.new hn)
  have HHI := Lib.hid hhi
  have HB := Lib.hid hB
  have HN := Lib.hid hn
  clear E T h hA hX hl hhi hn
  go_enter Tryd.func41, Tryd.ntmps41
  go_wp2_with (first | (go_at_call 64; refine callRet K1.out ?_; intro v w1 hv; obtain ⟨st1, ab, cb, rfl, hby, _, hrd, hu, habs, _⟩ := hv; have HBY := Lib.hid hby; clear hby; have HRD := Lib.hid hrd; have HU := Lib.hid hu; have HABS := Lib.hid habs; have HE1 := Lib.hid (HE.out.updL HB.out hu); clear hrd hu habs) | (go_at_call 51; refine callRet (copied _ _ _ _ HBY.out HXL.out) ?_; intro v w2 h2; obtain ⟨g, cp, rfl, _, _, _⟩ := h2.bytes; have HN2 := Lib.hid h2; clear h2) | (go_at_call 34; refine callRet (codeOf X.1.2 _ (HE1.out.new HN2.out.1)) ?_; rintro v w3 ⟨rfl, rfl⟩) | (refine wpList_plain rfl (fun K hK => ?_); refine wp_storeAll (n := 5) (by kernel_rfl) (.tmp 4) (.tmp 126) rfl (w.heap.size + 1) rfl #[.slice (some ⟨g, 0, none⟩) (X.1.1).length cp, .int .i64 0, .int .i32 0, .bool false, .int .i64 (ecode X.1.2 : Int)] rfl rfl (by simp [Value.oneCell']) _ 59 (W2_ans (w := w) (s := ⟨7, n, d⟩) (HU.out.andNew HN2.out.1) (fun hh => by have := HHI.out; have := hh.2; omega)) rfl ?_; intro w4 h4 u4 z4; refine hK _ _ ?_; clear hK K))
  refine bodyPost_ret (results_cell_row (p := 4) rfl _ _ (w.heap.size + 1) 59 _ (0, 0) _ rfl h4 Tryd.underlying59 rfl (by kernel_rfl)) rfl ?_
  exact step_fin HN.out HU.out HN2.out.1 u4 HHI.out HRD.out HABS.out (HN2.out.elemF (upd_size2 HU.out)) rfl HREL.out
set_option maxRecDepth 100000 in
set_option maxHeartbeats 1000000 in
theorem step8 {S : Err → Addr} {B : Nat} {w : World} {L : Loc} {st : RS} {A : AR} (E : Env S B w) (T : TabsB B w) (hB : B ≤ L.lo) (h : Rd S w L st) (hA : Abs st A) (hhi : L.hi ≤ w.heap.size) (hl : A.left.length ≤ 1048576) (n : Int) (d : UInt8) (hn1 : -9223372036854775808 ≤ n) (hn2 : n ≤ 9223372036854775807) :
    Calls Tryd.prog 41 #[.pointer (some ⟨L.b, 0, none⟩), .agg #[.int .i64 8, .int .i64 n, .int .u8 (d.toNat : Int)]] w (Ret (StepPost S w L A ⟨8, n, d⟩)) := by
  have hu0 := And.intro hl (And.intro hn1 hn2)
  have hT := T
  have hB0 := hB
  have hE0 := E
  clear hu0 hT hB0 hE0
  have hn := W2_new w ⟨8, n, d⟩
  have K1 := Lib.hid (readLine (E.new hn) hB (h.new hn) hA)
  obtain ⟨X, hX⟩ : ∃ X, X = lineA A := ⟨_, rfl⟩
  have HREL : Hid (stepRel A ⟨8, n, d⟩ ⟨X.1.1.1, 0, 0, X.1.1.2, ecode X.1.2⟩ X.2) := by rw [hX]; exact ⟨rfl, rfl⟩
  have HXL : Hid ((X.1.1.1).length ≤ 70368744177664) := by rw [hX]; exact Nat.le_trans (lineA_le A) (by omega)
  rw [← hX] at K1
  have HE := Lib.hid (E.new hn)
  have HHI := Lib.hid hhi
  have HB := Lib.hid hB
  have HN := Lib.hid hn
  clear E T h hA hX hl hhi hn
  go_enter Tryd.func41, Tryd.ntmps41
  go_wp2_with (first | (go_at_call 65; refine callRet K1.out ?_; intro v w1 hv; obtain ⟨st1, ab, cb, rfl, hby, _, hrd, hu, habs⟩ := hv; have HBY := Lib.hid hby; clear hby; have HRD := Lib.hid hrd; have HU := Lib.hid hu; have HABS := Lib.hid habs; have HE1 := Lib.hid (HE.out.updL HB.out hu); clear hrd hu habs) | (go_at_call 51; refine callRet (copied _ _ _ _ HBY.out HXL.out) ?_; intro v w2 h2; obtain ⟨g, cp, rfl, _, _, _⟩ := h2.bytes; have HN2 := Lib.hid h2; clear h2) | (go_at_call 34; refine callRet (codeOf X.1.2 _ (HE1.out.new HN2.out.1)) ?_; rintro v w3 ⟨rfl, rfl⟩) | (refine wpList_plain rfl (fun K hK => ?_); refine wp_storeAll (n := 5) (by kernel_rfl) (.tmp 4) (.tmp 140) rfl (w.heap.size + 1) rfl #[.slice (some ⟨g, 0, none⟩) (X.1.1.1).length cp, .int .i64 0, .int .i32 0, .bool X.1.1.2, .int .i64 (ecode X.1.2 : Int)] rfl rfl (by simp [Value.oneCell']) _ 59 (W2_ans (w := w) (s := ⟨8, n, d⟩) (HU.out.andNew HN2.out.1) (fun hh => by have := HHI.out; have := hh.2; omega)) rfl ?_; intro w4 h4 u4 z4; refine hK _ _ ?_; clear hK K))
  refine bodyPost_ret (results_cell_row (p := 4) rfl _ _ (w.heap.size + 1) 59 _ (0, 0) _ rfl h4 Tryd.underlying59 rfl (by kernel_rfl)) rfl ?_
  exact step_fin HN.out HU.out HN2.out.1 u4 HHI.out HRD.out HABS.out (HN2.out.elemF (upd_size2 HU.out)) rfl HREL.out
set_option maxRecDepth 100000 in
set_option maxHeartbeats 1000000 in
theorem step9 {S : Err → Addr} {B : Nat} {w : World} {L : Loc} {st : RS} {A : AR} (E : Env S B w) (T : TabsB B w) (hB : B ≤ L.lo) (h : Rd S w L st) (hA : Abs st A) (hhi : L.hi ≤ w.heap.size) (hl : A.left.length ≤ 1048576) (n : Int) (d : UInt8) (hn1 : -9223372036854775808 ≤ n) (hn2 : n ≤ 9223372036854775807) :
    Calls Tryd.prog 41 #[.pointer (some ⟨L.b, 0, none⟩), .agg #[.int .i64 9, .int .i64 n, .int .u8 (d.toNat : Int)]] w (Ret (StepPost S w L A ⟨9, n, d⟩)) := by
  have hu0 := And.intro hl (And.intro hn1 hn2)
  have hT := T
  have hB0 := hB
  have hE0 := E
  clear hu0 hT hB0 hE0
  have hn := W2_new w ⟨9, n, d⟩
  have hsz1 : 1 ≤ A.size := by have := h.nlo; rw [hA.size] at this; omega
  have htot := frags_tot d (A.left.length + 1) A hsz1 (Nat.lt_succ_self _)
  have K1 := Lib.hid (readBytes (E.new hn) hB (h.new hn) hA (Nat.le_trans hhi hn.size) hl d (Nat.le_trans htot hl))
  obtain ⟨X, hX⟩ : ∃ X, X = frags d (A.left.length + 1) A := ⟨_, rfl⟩
  have HREL : Hid (stepRel A ⟨9, n, d⟩ ⟨X.1.flatten ++ X.2.1.1, 0, 0, false, ecode X.2.1.2⟩ X.2.2) := by rw [hX]; exact ⟨rfl, rfl⟩
  have HXL : Hid ((X.1.flatten ++ X.2.1.1).length ≤ 70368744177664) := by rw [hX]; rw [Hid, List.length_append]; omega
  obtain ⟨bs, hbs⟩ : ∃ bs, X.1.flatten ++ X.2.1.1 = bs := ⟨_, rfl⟩
  have HBS := Lib.hid hbs
  rw [hbs] at HXL HREL
  have HML : Hid (bs.length ≤ maxLen) := (by have := HXL.out; rw [Hid]; unfold maxLen; omega)
  clear hbs
  rw [← hX] at K1
  have HE := Lib.hid (E.new hn)
  have HHI := Lib.hid hhi
  have HB := Lib.hid hB
  have HN := Lib.hid hn
  clear E T h hA hX hl hhi hn
  go_enter Tryd.func41, Tryd.ntmps41
  go_wp2_with (first | (go_at_call 66; refine callRet K1.out ?_; intro v w1 hv; obtain ⟨st1, gb, rfl, hgb, hcb, hrd, hu, habs⟩ := hv; rw [HBS.out] at hcb ⊢; have HBY := Lib.hid (bytes_of_cells hcb HML.out); clear hgb hcb; have HRD := Lib.hid hrd; have HU := Lib.hid hu; have HABS := Lib.hid habs; have HE1 := Lib.hid (HE.out.updL HB.out hu); clear hrd hu habs) | (go_at_call 51; refine callRet (copied _ _ _ _ HBY.out HXL.out) ?_; intro v w2 h2; obtain ⟨g, cp, rfl, _, _, _⟩ := h2.bytes; have HN2 := Lib.hid h2; clear h2) | (go_at_call 34; refine callRet (codeOf X.2.1.2 _ (HE1.out.new HN2.out.1)) ?_; rintro v w3 ⟨rfl, rfl⟩) | (refine wpList_plain rfl (fun K hK => ?_); refine wp_storeAll (n := 5) (by kernel_rfl) (.tmp 4) (.tmp 154) rfl (w.heap.size + 1) rfl #[.slice (some ⟨g, 0, none⟩) (bs).length cp, .int .i64 0, .int .i32 0, .bool false, .int .i64 (ecode X.2.1.2 : Int)] rfl rfl (by simp [Value.oneCell']) _ 59 (W2_ans (w := w) (s := ⟨9, n, d⟩) (HU.out.andNew HN2.out.1) (fun hh => by have := HHI.out; have := hh.2; omega)) rfl ?_; intro w4 h4 u4 z4; refine hK _ _ ?_; clear hK K))
  refine bodyPost_ret (results_cell_row (p := 4) rfl _ _ (w.heap.size + 1) 59 _ (0, 0) _ rfl h4 Tryd.underlying59 rfl (by kernel_rfl)) rfl ?_
  exact step_fin HN.out HU.out HN2.out.1 u4 HHI.out HRD.out HABS.out (HN2.out.elemF (upd_size2 HU.out)) rfl HREL.out
theorem bytes_of_string {w : World} {bs : List UInt8} (hl : bs.length ≤ maxLen) : ∃ (O : Obj) (cp : Nat),
    (convert 9 29 (strV bs)).run Tryd.prog w = .ok (.slice (some ⟨w.heap.size, 0, none⟩) bs.length cp) (w.drew.alloc O) ∧ ElemF (w.drew.alloc O) (fun k => w.heap.size ≤ k) (.slice (some ⟨w.heap.size, 0, none⟩) bs.length cp) bs := by
  have hs : (⟨bs.toArray⟩ : ByteArray).size = bs.length := rfl
  have hr := run_bytes_of_string (P := Tryd.prog) w 9 29 5 ⟨bs.toArray⟩ Tryd.underlying9 Tryd.underlying29 Tryd.underlying5
  rw [hs] at hr
  have hh : ∀ O : Obj, (w.drew.alloc O).heap[w.heap.size]? = some O := fun O => by
    show (w.heap.push _)[w.heap.size]? = _
    simp
  refine ⟨_, _, hr, some ⟨w.heap.size, 0, none⟩, _, rfl, ⟨grownCap_ge _ _ _ _, grownCap_le_maxLen _ _ _ _ hl, fun h => (by cases h), fun p hp => ?_⟩, fun p hp _ => ?_⟩
  · simp only [Option.some.injEq] at hp; subst hp
    refine ⟨fun _ => rfl, fun i hi => ?_⟩
    rw [World.cell_of_heap (hh _), Nat.zero_add, bytesRow_at _ _ _ (by simpa using hi)]
    simp [bv]
  · simp only [Option.some.injEq] at hp; subst hp
    exact ⟨Nat.le_refl _, _, _, hh _⟩
set_option maxRecDepth 100000 in
set_option maxHeartbeats 1000000 in
theorem step10 {S : Err → Addr} {B : Nat} {w : World} {L : Loc} {st : RS} {A : AR} (E : Env S B w) (T : TabsB B w) (hB : B ≤ L.lo) (h : Rd S w L st) (hA : Abs st A) (hhi : L.hi ≤ w.heap.size) (hl : A.left.length ≤ 1048576) (n : Int) (d : UInt8) (hn1 : -9223372036854775808 ≤ n) (hn2 : n ≤ 9223372036854775807) :
    Calls Tryd.prog 41 #[.pointer (some ⟨L.b, 0, none⟩), .agg #[.int .i64 10, .int .i64 n, .int .u8 (d.toNat : Int)]] w (Ret (StepPost S w L A ⟨10, n, d⟩)) := by

  have hu0 := And.intro hn1 hn2
  have hT := T
  clear hu0 hT
  have hn := W2_new w ⟨10, n, d⟩
  have hsz1 : 1 ≤ A.size := by have := h.nlo; rw [hA.size] at this; omega
  have htot := frags_tot d (A.left.length + 1) A hsz1 (Nat.lt_succ_self _)
  have K1 := Lib.hid (readString (E.new hn) hB (h.new hn) hA (Nat.le_trans hhi hn.size) hl d (Nat.le_trans htot hl))
  obtain ⟨X, hX⟩ : ∃ X, X = frags d (A.left.length + 1) A := ⟨_, rfl⟩
  have HREL : Hid (stepRel A ⟨10, n, d⟩ ⟨X.1.flatten ++ X.2.1.1, 0, 0, false, ecode X.2.1.2⟩ X.2.2) := by rw [hX]; exact ⟨rfl, rfl⟩
  have HXL : Hid ((X.1.flatten ++ X.2.1.1).length ≤ 70368744177664) := by rw [hX]; rw [Hid, List.length_append]; omega
  obtain ⟨bs, hbs⟩ : ∃ bs, X.1.flatten ++ X.2.1.1 = bs := ⟨_, rfl⟩
  have HBS := Lib.hid hbs
  rw [hbs] at HXL HREL
  have HML : Hid (bs.length ≤ maxLen) := (by have := HXL.out; rw [Hid]; unfold maxLen; omega)
  clear hbs
  rw [← hX] at K1
  have HE := Lib.hid (E.new hn)
  have HHI := Lib.hid hhi
  have HB := Lib.hid hB
  have HN := Lib.hid hn
  clear E T h hA hX hl hhi hn
  go_enter Tryd.func41, Tryd.ntmps41
  go_wp2_with (first | (go_at_call 67; refine callRet K1.out ?_; intro v w1 hv; obtain ⟨st1, rfl, hrd, hu, habs⟩ := hv; rw [HBS.out]; obtain ⟨O, cp, hconv, hel⟩ := bytes_of_string (w := w1) HML.out; have HEL := Lib.hid hel; have HW2 : Hid (New w1 (w1.alloc O).drew) := ((Upd.refl _ _).alloc _).drew; have HRD := Lib.hid hrd; have HU := Lib.hid hu; have HABS := Lib.hid habs; have HE1 := Lib.hid (HE.out.updL HB.out hu); clear hrd hu habs hel) | (go_at_call 34; refine callRet (codeOf X.2.1.2 _ (HE1.out.new HW2.out)) ?_; rintro v w3 ⟨rfl, rfl⟩) | (refine wpList_plain rfl (fun K hK => ?_); refine wp_storeAll (n := 5) (by kernel_rfl) (.tmp 4) (.tmp 168) rfl (w.heap.size + 1) rfl #[.slice (some ⟨w1.heap.size, 0, none⟩) bs.length cp, .int .i64 0, .int .i32 0, .bool false, .int .i64 (ecode X.2.1.2 : Int)] rfl rfl (by simp [Value.oneCell']) _ 59 (W2_ans (w := w) (s := ⟨10, n, d⟩) (HU.out.andNew HW2.out) (fun hh => by have := HHI.out; have := hh.2; omega)) rfl ?_; intro w4 h4 u4 z4; refine hK _ _ ?_; clear hK K))
  refine bodyPost_ret (results_cell_row (p := 4) rfl _ _ (w.heap.size + 1) 59 _ (0, 0) _ rfl h4 Tryd.underlying59 rfl (by kernel_rfl)) rfl ?_
  exact step_fin HN.out HU.out HW2.out u4 HHI.out HRD.out HABS.out ((show ElemF (w1.alloc O).drew _ _ _ from HEL.out).mono (fun k hk => Nat.le_trans (upd_size2 HU.out) hk)) rfl HREL.out
set_option maxRecDepth 100000 in
set_option maxHeartbeats 1000000 in
theorem step11 {S : Err → Addr} {B : Nat} {w : World} {L : Loc} {st : RS} {A : AR} (E : Env S B w) (T : TabsB B w) (hB : B ≤ L.lo) (h : Rd S w L st) (hA : Abs st A) (hhi : L.hi ≤ w.heap.size) (hl : A.left.length ≤ 1048576) (n : Int) (d : UInt8) (hn1 : -9223372036854775808 ≤ n) (hn2 : n ≤ 9223372036854775807) :
    Calls Tryd.prog 41 #[.pointer (some ⟨L.b, 0, none⟩), .agg #[.int .i64 11, .int .i64 n, .int .u8 (d.toNat : Int)]] w (Ret (StepPost S w L A ⟨11, n, d⟩)) := by

  have hu0 := And.intro hl (And.intro hn1 hn2)
  have hT := T
  have hB0 := hB
  have hE0 := E
  clear hu0 hT hB0 hE0
  have hn := W2_new w ⟨11, n, d⟩
  have K1 := Lib.hid (bufferedN (h.new hn))
  have hle := rem_length st
  rw [bufd_length h.wn, hA.left] at hle
  have hsz : st.w - st.r ≤ A.size := by have := h.wn; rw [← hA.size]; omega
  have HREL : Hid (stepRel A ⟨11, n, d⟩ ⟨[], ((st.w - st.r : Nat) : Int), 0, false, 0⟩ A) := ⟨st.w - st.r, hsz, hle, rfl, rfl⟩
  have HRD := Lib.hid (h.new hn)
  have HABS := Lib.hid hA
  have HHI := Lib.hid hhi
  have HN := Lib.hid hn
  clear E T h hA hl hhi hn hle hsz
  go_enter Tryd.func41, Tryd.ntmps41
  go_wp2_with (first | (go_at_call 68; refine callRet K1.out ?_; rintro v w1 ⟨hn1, rfl⟩; have HU := Lib.hid hn1; clear hn1) | (refine wpList_plain rfl (fun K hK => ?_); refine wp_storeAll (n := 5) (by kernel_rfl) (.tmp 4) (.tmp 173) rfl (w.heap.size + 1) rfl #[.slice none 0 0, .int .i64 ((st.w - st.r : Nat) : Int), .int .i32 0, .bool false, .int .i64 ((0 : Nat) : Int)] rfl rfl (by simp [Value.oneCell']) _ 59 (W2_ans (w := w) (s := ⟨11, n, d⟩) HU.out (fun hh => hh)) rfl ?_; intro w4 h4 u4 z4; refine hK _ _ ?_; clear hK K))
  refine bodyPost_ret (results_cell_row (p := 4) rfl _ _ (w.heap.size + 1) 59 _ (0, 0) _ rfl h4 Tryd.underlying59 rfl (by kernel_rfl)) rfl ?_
  exact step_fin HN.out ((Upd.refl (In L) _).andNew HU.out) (Upd.refl _ _) u4 HHI.out (HRD.out.new HU.out) HABS.out (ElemF.nil _ _) rfl HREL.out
set_option maxRecDepth 100000 in
set_option maxHeartbeats 1000000 in
theorem step12 {S : Err → Addr} {B : Nat} {w : World} {L : Loc} {st : RS} {A : AR} (E : Env S B w) (T : TabsB B w) (hB : B ≤ L.lo) (h : Rd S w L st) (hA : Abs st A) (hhi : L.hi ≤ w.heap.size) (hl : A.left.length ≤ 1048576) (n : Int) (d : UInt8) (hn1 : -9223372036854775808 ≤ n) (hn2 : n ≤ 9223372036854775807) :
    Calls Tryd.prog 41 #[.pointer (some ⟨L.b, 0, none⟩), .agg #[.int .i64 12, .int .i64 n, .int .u8 (d.toNat : Int)]] w (Ret (StepPost S w L A ⟨12, n, d⟩)) := by

  have hu0 := And.intro hl (And.intro hn1 hn2)
  have hT := T
  have hB0 := hB
  have hE0 := E
  clear hu0 hT hB0 hE0
  have hn := W2_new w ⟨12, n, d⟩
  have K1 := Lib.hid (rsize (h.new hn))
  have HSZ : Hid (st.buf.length = A.size) := hA.size
  have HREL : Hid (stepRel A ⟨12, n, d⟩ ⟨[], (A.size : Int), 0, false, 0⟩ A) := ⟨rfl, rfl⟩
  have HRD := Lib.hid (h.new hn)
  have HABS := Lib.hid hA
  have HHI := Lib.hid hhi
  have HN := Lib.hid hn
  clear E T h hA hl hhi hn
  go_enter Tryd.func41, Tryd.ntmps41
  go_wp2_with (first | (go_at_call 69; refine callRet K1.out ?_; rintro v w1 ⟨hn1, rfl⟩; rw [HSZ.out]; have HU := Lib.hid hn1; clear hn1) | (refine wpList_plain rfl (fun K hK => ?_); refine wp_storeAll (n := 5) (by kernel_rfl) (.tmp 4) (.tmp 178) rfl (w.heap.size + 1) rfl #[.slice none 0 0, .int .i64 (A.size : Int), .int .i32 0, .bool false, .int .i64 ((0 : Nat) : Int)] rfl rfl (by simp [Value.oneCell']) _ 59 (W2_ans (w := w) (s := ⟨12, n, d⟩) HU.out (fun hh => hh)) rfl ?_; intro w4 h4 u4 z4; refine hK _ _ ?_; clear hK K))
  refine bodyPost_ret (results_cell_row (p := 4) rfl _ _ (w.heap.size + 1) 59 _ (0, 0) _ rfl h4 Tryd.underlying59 rfl (by kernel_rfl)) rfl ?_
  exact step_fin HN.out ((Upd.refl (In L) _).andNew HU.out) (Upd.refl _ _) u4 HHI.out (HRD.out.new HU.out) HABS.out (ElemF.nil _ _) rfl HREL.out
theorem made_size (n : Nat) : (madeCells (Value.int .u8 0).cells n).size = n := by
  have := made_bytes n
  rw [Nat.mul_one] at this
  rw [this]; simp
set_option maxRecDepth 100000 in
set_option maxHeartbeats 1000000 in
theorem step0 {S : Err → Addr} {B : Nat} {w : World} {L : Loc} {st : RS} {A : AR} (E : Env S B w) (T : TabsB B w) (hB : B ≤ L.lo) (h : Rd S w L st) (hA : Abs st A) (hhi : L.hi ≤ w.heap.size) (hl : A.left.length ≤ 1048576) (n : Int) (d : UInt8) (hn1 : -9223372036854775808 ≤ n) (hn2 : n ≤ 9223372036854775807) :
    Calls Tryd.prog 41 #[.pointer (some ⟨L.b, 0, none⟩), .agg #[.int .i64 0, .int .i64 n, .int .u8 (d.toNat : Int)]] w (Ret (StepPost S w L A ⟨0, n, d⟩)) := by

  have hT := T
  have hu0 := And.intro hn1 hn2
  clear hu0 hT
  have hn := W2_new w ⟨0, n, d⟩
  obtain ⟨m, hmm⟩ : ∃ m : Nat, (m : Int) = max (0 : Int) (min n 4096) := ⟨(max (0 : Int) (min n 4096)).toNat, by omega⟩
  have hm4 : m ≤ 4096 := by omega
  have hmn : (min n 4096).toNat = m := by omega
  have hn3 : New (W2 w ⟨0, n, d⟩) ((W2 w ⟨0, n, d⟩).alloc (.cells (madeCells (Value.int .u8 0).cells m) 5)) := (Upd.refl _ _).alloc _
  have hg : ((W2 w ⟨0, n, d⟩).alloc (.cells (madeCells (Value.int .u8 0).cells m) 5)).heap[w.heap.size + 2]? = some (.cells (madeCells (Value.int .u8 0).cells m) 5 (0, 0)) := by
    have := heap_alloc_new (W2 w ⟨0, n, d⟩) (.cells (madeCells (Value.int .u8 0).cells m) 5)
    rwa [W2_size] at this
  have K1 := Lib.hid (readP (E.new (hn.andNew hn3)) hB (h.new (hn.andNew hn3)) hA hg (made_size m) (fun hh => by have := hh.2; omega) hm4)
  have HMN := Lib.hid hmn
  have HE := Lib.hid (E.new (hn.andNew hn3))
  have HHI := Lib.hid hhi
  have HB := Lib.hid hB
  have HN := Lib.hid hn
  have HL := Lib.hid hl
  have HMM := Lib.hid hmm.symm
  have hu1 : Hid (∀ (w1 : World), Upd (fun j => In L j ∨ j = w.heap.size + 2) ((W2 w ⟨0, n, d⟩).alloc (.cells (madeCells (Value.int .u8 0).cells m) 5)) w1 → Upd (In L) (W2 w ⟨0, n, d⟩) w1) := fun w1 hu => ((Upd.refl (In L) _).alloc _).trans hu (fun k hk hlt => by
    rcases hk with hk | hk
    · exact hk
    · rw [W2_size] at hlt; omega)
  clear E T h hA hl hhi hn hg hn3 hmn hmm
  go_enter Tryd.func41, Tryd.ntmps41
  go_wp2_with (at_make; rw [HMM.out]; refine wpList_plain rfl (fun K hK => ?_); refine wp_make eB (.tmp 33) (.tmp 33) rfl .i64 .i64 m m rfl rfl (Nat.le_refl _) (by omega) (by unfold maxLen; omega) ?_; refine hK _ _ ?_; clear hK K)
  go_wp2_with (first | (go_at_call 59; refine callRet K1.out ?_; intro v w1 hv; obtain ⟨k, e, A', st1, rfl, hrel, hrd, habs, hu, hby⟩ := hv; have hkm : k ≤ m := hrel.1; have hkl : k ≤ A.left.length := hrel.2.1; obtain ⟨bs, hbs⟩ : ∃ bs, A.left.take k = bs := ⟨_, rfl⟩; obtain rfl : bs.length = k := (by rw [← hbs, List.length_take]; omega); have HREL : Hid (stepRel A ⟨0, n, d⟩ ⟨bs, (bs.length : Int), 0, false, ecode e⟩ A') := ⟨bs.length, e, (by show readRel A (min n 4096).toNat _ _ _; rw [HMN.out]; exact hrel), by rw [hbs]⟩; rw [hbs] at hby; have HBY := Lib.hid hby; have HXL : Hid (bs.length ≤ 70368744177664) := (by have := HL.out; rw [Hid]; omega); have HRD := Lib.hid hrd; have HU := Lib.hid (hu1.out _ hu); have HABS := Lib.hid habs; have HE1 := Lib.hid (HE.out.upd hu (fun k hk => by have := HB.out; have := HHI.out; have := HRD.out.bhi; have := HRD.out.blo; rcases hk with hk | hk; exact Nat.le_trans HB.out hk.1; omega)); clear hrel hrd hu habs hby hbs hkl) | (go_at_call 51; refine callRet (copied _ _ _ _ HBY.out HXL.out) ?_; intro v w2 h2; obtain ⟨g, cp, rfl, _, _, _⟩ := h2.bytes; have HN2 := Lib.hid h2; clear h2) | (go_at_call 34; refine callRet (codeOf e _ (HE1.out.new HN2.out.1)) ?_; rintro v w3 ⟨rfl, rfl⟩) | (refine wpList_plain rfl (fun K hK => ?_); refine wp_storeAll (n := 5) (by kernel_rfl) (.tmp 4) (.tmp 48) rfl (w.heap.size + 1) rfl #[.slice (some ⟨g, 0, none⟩) bs.length cp, .int .i64 (bs.length : Int), .int .i32 0, .bool false, .int .i64 (ecode e : Int)] rfl rfl (by simp [Value.oneCell']) _ 59 (W2_ans (w := w) (s := ⟨0, n, d⟩) (HU.out.andNew HN2.out.1) (fun hh => by have := HHI.out; have := hh.2; omega)) rfl ?_; intro w4 h4 u4 z4; refine hK _ _ ?_; clear hK K))
  refine bodyPost_ret (results_cell_row (p := 4) rfl _ _ (w.heap.size + 1) 59 _ (0, 0) _ rfl h4 Tryd.underlying59 rfl (by kernel_rfl)) rfl ?_
  exact step_fin HN.out HU.out HN2.out.1 u4 HHI.out HRD.out HABS.out (HN2.out.elemF (upd_size2 HU.out)) rfl HREL.out
/-- a step, of whatever kind -/
theorem step {S : Err → Addr} {B : Nat} {w : World} {L : Loc} {st : RS} {A : AR} (E : Env S B w) (T : TabsB B w) (hB : B ≤ L.lo) (h : Rd S w L st) (hA : Abs st A) (hhi : L.hi ≤ w.heap.size) (hl : A.left.length ≤ 1048576) (s : Stp) (hk : 0 ≤ s.k ∧ s.k ≤ 12) (hn : -9223372036854775808 ≤ s.n ∧ s.n ≤ 9223372036854775807) :
    Calls Tryd.prog 41 #[.pointer (some ⟨L.b, 0, none⟩), s.v] w (Ret (StepPost S w L A s)) := by
  obtain ⟨k, n, d⟩ := s
  obtain ⟨k, rfl⟩ := Int.eq_ofNat_of_zero_le (show 0 ≤ k from hk.1)
  have hk2 : k < 13 := by have := hk.2; have : (k : Int) ≤ 12 := this; omega
  match k, hk2 with
  | 0, _ => exact step0 E T hB h hA hhi hl n d hn.1 hn.2
  | 1, _ => exact step1 E T hB h hA hhi hl n d hn.1 hn.2
  | 2, _ => exact step2 E T hB h hA hhi hl n d hn.1 hn.2
  | 3, _ => exact step3 E T hB h hA hhi hl n d hn.1 hn.2
  | 4, _ => exact step4 E T hB h hA hhi hl n d hn.1 hn.2
  | 5, _ => exact step5 E T hB h hA hhi hl n d hn.1 hn.2
  | 6, _ => exact step6 E T hB h hA hhi hl n d hn.1 hn.2
  | 7, _ => exact step7 E T hB h hA hhi hl n d hn.1 hn.2
  | 8, _ => exact step8 E T hB h hA hhi hl n d hn.1 hn.2
  | 9, _ => exact step9 E T hB h hA hhi hl n d hn.1 hn.2
  | 10, _ => exact step10 E T hB h hA hhi hl n d hn.1 hn.2
  | 11, _ => exact step11 E T hB h hA hhi hl n d hn.1 hn.2
  | 12, _ => exact step12 E T hB h hA hhi hl n d hn.1 hn.2
  | k + 13, hk => omega
end Go.Proofs.YtmmjfpcmempeeaaDoor
