/- (*bufio.Reader).ReadBytes. -/
import Derived.Test.YtnpalkndocokkaaDoorFrags
namespace Go.Proofs.YtnpalkndocokkaaDoor
open Go.RowKit
/-- bytes told in a row of their own -/
def RBPost (S : Err → Addr) (w : World) (L : Loc) (x : List (List UInt8) × ((List UInt8 × Option Err) × AR)) (v : Value) (w' : World) : Prop :=
  ∃ st' g, v = .tuple #[.slice (some ⟨g, 0, none⟩) (x.1.flatten ++ x.2.1.1).length (x.1.flatten ++ x.2.1.1).length, eV S x.2.1.2] ∧ w.heap.size ≤ g ∧ w'.heap[g]? = some (.cells ((x.1.flatten ++ x.2.1.1).map bv).toArray 5 (0, 0)) ∧ Rd S w' L st' ∧ Upd (In L) w w' ∧ Abs st' x.2.2
/-- the first m of n bytes are written -/
def Filled (w : World) (g n : Nat) (bs : List UInt8) : Prop := ∃ cur : List UInt8, cur.length = n ∧ bs.length ≤ n ∧ w.heap[g]? = some (.cells (cur.map bv).toArray 5 (0, 0)) ∧ cur.take bs.length = bs
theorem Filled.copy {w1 : World} {g n : Nat} {bs cs : List UInt8} {cur : List UInt8} (h1 : cur.length = n) (h2 : bs.length + cs.length ≤ n) (h3 : cur.take bs.length = bs) (hw : w1.heap[g]? = some (.cells (splice (cur.map bv).toArray.toList bs.length (cs.map bv)).toArray 5 (0, 0))) : Filled w1 g n (bs ++ cs) := by
  have e : splice (cur.map bv).toArray.toList bs.length (cs.map bv) = (bs ++ (cs ++ cur.drop (bs.length + cs.length))).map bv := by
    simp only [splice, List.length_map]
    conv => rhs; rw [List.map_append, List.map_append]
    congr 1
    · conv => rhs; rw [← h3]
      simp [List.map_take]
    · simp [List.map_drop]
  rw [e] at hw
  refine ⟨bs ++ (cs ++ cur.drop (bs.length + cs.length)), by simp; omega, by simp; omega, hw, ?_⟩
  rw [← List.append_assoc, List.take_left]
theorem frags_pos {d : UInt8} : ∀ (n : Nat) (A : AR), 1 ≤ A.size → ∀ p ∈ (frags d n A).1, 0 < p.length := by
  intro n
  induction n with
  | zero => intro A _ p hp; simp [frags] at hp
  | succ n ih =>
    intro A hs p hp
    unfold frags at hp
    split at hp
    · rename_i hf
      have h4 := sliceA_full' hf
      simp only [List.mem_cons] at hp
      rcases hp with rfl | hp
      · rw [h4.2.1, List.length_take]; omega
      · exact ih _ (by rw [h4.2.2.2]; exact hs) p hp
    · simp at hp
theorem made_zero (n : Nat) : madeCells (Value.int .u8 0).cells (n * 1) = ((List.replicate n (0 : UInt8)).map bv).toArray := made_bytes n
theorem rb_fin {S : Err → Addr} {w w1 wr w2 : World} {L : Loc} {st1 : RS} {X : List (List UInt8) × ((List UInt8 × Option Err) × AR)} {g n m pl : Nat} {cur : List UInt8} (hc1 : cur.length = m) (h2 : X.1.flatten.length = n) (hc4 : cur.take X.1.flatten.length = X.1.flatten)
    (hw : w2.heap[g]? = some (.cells (splice (cur.map bv).toArray.toList n (X.2.1.1.map bv)).toArray 5 (0, 0))) (hm : X.1.flatten.length + X.2.1.1.length = m) (hpl : X.2.1.1.length = pl) (hg : g = w1.heap.size) (hrd : Rd S w1 L st1) (hu : Upd (In L) w w1) (habs : Abs st1 X.2.2) (hhi : L.hi ≤ w.heap.size)
    (hu1 : Upd (fun j => j = g) w1 wr) (hu2 : Upd (fun j => j = g) wr w2) : RBPost S w L X (.tuple #[.slice (some ⟨g, 0, none⟩) m m, eV S X.2.1.2]) w2 := by
  have hz := hu.size
  have hF : Filled w2 g m (X.1.flatten ++ X.2.1.1) := Filled.copy (cur := cur) hc1 (by omega) hc4 (by rw [h2]; exact hw)
  obtain ⟨cur2, q1, q2, q3, q4⟩ := hF
  have hl : (X.1.flatten ++ X.2.1.1).length = m := by rw [List.length_append]; exact hm
  have hu12 : Upd (fun j => j = g) w1 w2 := hu1.trans hu2 (fun _ h _ => h)
  refine ⟨st1, g, by rw [hl], by omega, ?_, hrd.upd hu12 (fun k hk hin => by have hk : k = g := hk; have := hin.2; omega), hu.trans hu12 (fun k hk hlt => by have hk : k = g := hk; omega), habs⟩
  rw [q3, ← q4, hl, List.take_of_length_le (by omega)]
set_option maxRecDepth 100000 in
set_option maxHeartbeats 2000000 in
theorem readBytes {S : Err → Addr} {B : Nat} {w : World} {L : Loc} {st : RS} {A0 : AR} (E : Env S B w) (hB : B ≤ L.lo) (h : Rd S w L st) (hA : Abs st A0) (hhi : L.hi ≤ w.heap.size) (hl : A0.left.length ≤ 1048576) (d : UInt8) (htot : (frags d (A0.left.length + 1) A0).1.flatten.length + (frags d (A0.left.length + 1) A0).2.1.1.length ≤ 1048576) :
    Calls Tryd.prog 48 #[.pointer (some ⟨L.b, 0, none⟩), .int .u8 (d.toNat : Int)] w (Ret (RBPost S w L (frags d (A0.left.length + 1) A0))) := by
  have K1 := Lib.hid (collect E hB h hA hhi hl d)
  obtain ⟨X, hX⟩ : ∃ X, X = frags d (A0.left.length + 1) A0 := ⟨_, rfl⟩
  have hpos : ∀ p ∈ X.1, 0 < p.length := by rw [hX]; exact frags_pos _ _ (by have := h.nlo; rw [hA.size] at this; omega)
  have HPOS := Lib.hid hpos
  rw [← hX] at K1 htot ⊢
  obtain ⟨m, hm⟩ : ∃ m, X.1.flatten.length + X.2.1.1.length = m := ⟨_, rfl⟩
  have HM := Lib.hid hm
  rw [hm] at htot
  have HHI := Lib.hid hhi
  clear E h hA hl hX hm hhi hpos
  go_enter Tryd.func48, Tryd.ntmps48
  go_wp2_with (first | (go_at_call 60; refine callRet K1.out ?_; intro v w1 hv; obtain ⟨st1, lv, ab, c, rfl, how, hby, hpb, hrd, hu, habs⟩ := hv; rw [HM.out]; obtain ⟨la, lc, rfl, hpc⟩ := how.pieces; have HOW := Lib.hid how; have HPC := Lib.hid hpc; have HBY := Lib.hid hby; have HPB := Lib.hid hpb; have HRD := Lib.hid hrd; have HU := Lib.hid hu; have HABS := Lib.hid habs; clear how hpc hby hpb hrd hu habs) | (at_make; refine wpList_plain rfl (fun K hK => ?_); refine wp_make eB (.tmp 20) (.tmp 20) rfl .i64 .i64 m m rfl rfl (Nat.le_refl _) (by omega) (by unfold maxLen; omega) ?_; rw [made_zero]; refine hK _ _ ?_; clear hK K))
  have hpl := HPC.out.1
  have hpm := HPC.out.2.1
  unfold maxLen at hpm
  obtain ⟨g, hg⟩ : ∃ g, g = w1.heap.size := ⟨_, rfl⟩
  rw [← hg]
  have HG := Lib.hid hg
  clear hg
  go_loopw [8, 24] (fun n8 i wr => ∃ (k : Nat), i = .int .i64 (k : Int) ∧ k ≤ X.1.length ∧ n8 = .int .i64 ((X.1.take k).flatten.length : Int) ∧ Filled wr g m (X.1.take k).flatten ∧ Upd (fun j => j = g) w1 wr) (fun _ i _ => X.1.length - (intOf i).toNat)
  case atStart =>
    refine ⟨0, rfl, Nat.zero_le _, rfl, ⟨List.replicate m 0, by simp, Nat.zero_le _, ?_, rfl⟩, (Upd.refl _ _).alloc _⟩
    rw [HG.out]; exact (heap_alloc_new _ _).trans (by simp)
  case round =>
    obtain ⟨k, rfl, hk, rfl, hfill, hu⟩ := hrel
    obtain ⟨n, hn⟩ : ∃ n, (X.1.take k).flatten.length = n := ⟨_, rfl⟩
    have HN := Lib.hid hn
    rw [hn]
    have hbel : Below w1.heap.size w1 wr := hu.below (fun j hj => by have := HG.out; have hj : j = g := hj; omega) (Nat.le_refl _)
    obtain ⟨cur, hc1, hc2, hc3, hc4⟩ := hfill
    have hsum : n ≤ X.1.flatten.length := by rw [← hn]; exact lensum_take_le_all X.1 k
    have hXm := HM.out
    by_cases hlt : k < X.1.length
    · obtain ⟨b, o, ai, ci, pl, hla, hm', hc, hb1, hb2, hby⟩ := (HPC.out.below hbel).at hlt
      subst hla
      have hpp : 0 < pl := by rw [← hm']; exact HPOS.out _ (List.getElem_mem hlt)
      have e1 : (X.1.take (k + 1)).flatten = (X.1.take k).flatten ++ X.1[k] := flatten_take_succ X.1 k hlt
      have e2 := lensum_take_le_all X.1 (k + 1)
      rw [e1, List.length_append, hn, hm'] at e2
      have hmn : ¬ m = n := by omega
      have hnm : n + pl ≤ m := by omega
      have HC1 := Lib.hid hc1
      have HC3 := Lib.hid hc3
      have HC4 := Lib.hid hc4
      have HU2 := Lib.hid hu
      have HPL := Lib.hid hm'
      have HB2 := Lib.hid hby
      have HE1 := Lib.hid e1
      clear hc1 hc2 hc3 hc4 hu hm' hby e1 e2 hn hbel hsum hXm
      go_wp2_with fail
      refine wp_region_lx {} (by kernel_rfl) (by kernel_rfl) ⟨fun _ _ _ h => h.2, fun _ _ h => h⟩ ?_
      (repeat' (first | (refine wpLx_calm rfl rfl rfl (fun K hK => ?_); go_step <;> (refine hK _ ?_; clear hK K)) | (refine wpLx_skip2 rfl rfl rfl ?_; go_simp) | (refine wpLx_calm2 rfl rfl rfl rfl rfl (fun K hK => ?_); go_step <;> (refine hK _ ?_; clear hK K))))
      refine wpLx_eff rfl rfl rfl (fun K hK => ?_)
      refine wp_copy eB (.tmp 30) (.tmp 34) 29 rfl g n (m - n) (m - n) rfl (cur.map bv).toArray 5 HC3.out ai pl ci rfl (fun hh => by have := HB2.out.2.2.1 hh; have := HB2.out.1; have := HPL.out; omega) (X.1[k].map bv) (by rw [List.length_map, HPL.out]; omega) (fun p hp => by subst hp; exact HB2.out.news) (by rw [List.length_map, HPL.out]; simp only [List.size_toArray, List.length_map]; rw [HC1.out]; exact hnm) (oneCell_bytes _) ?_
      intro w2 hw2 hu2 hz2
      rw [List.length_map, HPL.out]
      refine hK _ _ ?_
      clear hK K
      (repeat' (first | (refine wpLx_calm rfl rfl rfl (fun K hK => ?_); go_step <;> (refine hK _ ?_; clear hK K)) | (refine wpLx_skip2 rfl rfl rfl ?_; go_simp) | (refine wpLx_calm2 rfl rfl rfl rfl rfl (fun K hK => ?_); go_step <;> (refine hK _ ?_; clear hK K))))
      refine wpLx_nil ?_
      have hF2 : Filled w2 g m (X.1.take (k + 1)).flatten := by
        rw [HE1.out]
        refine Filled.copy (cur := cur) HC1.out (by rw [HN.out, HPL.out]; exact hnm) HC4.out ?_
        rw [HN.out]; exact hw2
      have HF2 := Lib.hid hF2
      have HU3 : Hid (Upd (fun j => j = g) w1 w2) := (HU2.out.drew).trans hu2 (fun _ h _ => h)
      have HLN : Hid ((X.1.take (k + 1)).flatten.length = n + pl) := by rw [Hid, HE1.out, List.length_append, HN.out, HPL.out]
      clear hF2 hw2 hu2 hz2
      go_wp2
      go_roundw
      case rel => exact ⟨k + 1, by go_num, by omega, by rw [HLN.out]; first | rfl | go_num, HF2.out, HU3.out⟩
      case measure => simp [intOf]; omega
    · obtain rfl : k = X.1.length := by omega
      rw [List.take_length] at hn hc4 hc2
      have HC1 := Lib.hid hc1
      have HC3 := Lib.hid hc3
      have HC4 := Lib.hid hc4
      have HU2 := Lib.hid hu
      have HBY2 := Lib.hid (HBY.out.upd hu (fun p hp _ hh => by have := HPB.out p hp; have hh : p.block = g := hh; have := HG.out; have := HRD.out.bbhi; have := HHI.out; have := HU.out.size; omega))
      obtain ⟨pl, hpl'⟩ : ∃ pl, X.2.1.1.length = pl := ⟨_, rfl⟩
      have HPL := Lib.hid hpl'
      have HN' := Lib.hid hn
      rw [hpl', hn] at hXm
      clear hc1 hc2 hc3 hc4 hu hbel hsum hpl' hn
      by_cases hmn : m = n
      · have hp0 : pl = 0 := by omega
        go_wp2_with (refine wpList_plain rfl (fun K hK => ?_); refine wp_copy eB (.tmp 40) (.tmp 41) 29 rfl g 0 0 0 rfl (cur.map bv).toArray 5 HC3.out ab X.2.1.1.length c rfl (fun hh => by have := HBY2.out.2.2.1 hh; have := HBY2.out.1; omega) (X.2.1.1.map bv) (by rw [List.length_map]; have := HPL.out; omega) (fun p hp => by subst hp; exact HBY2.out.news) (by rw [List.length_map, HPL.out]; simp only [List.size_toArray, List.length_map]; rw [HC1.out]; omega) (oneCell_bytes _) ?_; intro w2 hw2 hu2 hz2; have HW2 := Lib.hid hw2; have HU2' := Lib.hid hu2; clear hw2 hu2 hz2; refine hK _ _ ?_; clear hK K)
        go_ret2
        refine rb_fin (n := n) (HC1.out.trans hmn) (by rw [HN'.out]) HC4.out ?_ (HM.out.trans hmn) (HPL.out) HG.out HRD.out HU.out HABS.out HHI.out HU2.out HU2'.out
        have := HW2.out
        rw [List.eq_nil_of_length_eq_zero (HPL.out.trans hp0)] at this ⊢
        simpa [splice] using this
      · 
        go_wp2_with (refine wpList_plain rfl (fun K hK => ?_); refine wp_copy eB (.tmp 40) (.tmp 41) 29 rfl g n (m - n) (m - n) rfl (cur.map bv).toArray 5 HC3.out ab X.2.1.1.length c rfl (fun hh => by have := HBY2.out.2.2.1 hh; have := HBY2.out.1; omega) (X.2.1.1.map bv) (by rw [List.length_map]; have := HPL.out; omega) (fun p hp => by subst hp; exact HBY2.out.news) (by rw [List.length_map, HPL.out]; simp only [List.size_toArray, List.length_map]; rw [HC1.out]; omega) (oneCell_bytes _) ?_; intro w2 hw2 hu2 hz2; have HW2 := Lib.hid hw2; have HU2' := Lib.hid hu2; clear hw2 hu2 hz2; refine hK _ _ ?_; clear hK K)
        go_ret2
        refine rb_fin (n := n) HC1.out (by rw [HN'.out]) HC4.out ?_ HM.out (HPL.out) HG.out HRD.out HU.out HABS.out HHI.out HU2.out HU2'.out
        exact HW2.out
end Go.Proofs.YtnpalkndocokkaaDoor
