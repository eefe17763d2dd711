/- (*bufio.Writer).WriteString. -/
import Derived.Test.YtgbbogocfmepiaaDoorWWrite
import Derived.Test.YtgbbogocfmepiaaDoorCopyS
import Derived.Stop.Asserts
namespace Go.Proofs.YtgbbogocfmepiaaDoor
open Go.RowKit
theorem str_drop (bs : List UInt8) (m n : Nat) (hn : n = bs.length) : (⟨bs.toArray⟩ : ByteArray).extract m n = ⟨(bs.drop m).toArray⟩ := by
  apply ByteArray.ext
  rw [ByteArray.data_extract]
  apply Array.toList_inj.1
  subst hn
  simp
  exact List.take_of_length_le (by rw [List.length_drop]; exact Nat.le_refl _)
theorem lit116 (T : Nat → Value) : (List.range 116).map T = [T 0, T 1, T 2, T 3, T 4, T 5, T 6, T 7, T 8, T 9, T 10, T 11, T 12, T 13, T 14, T 15, T 16, T 17, T 18, T 19, T 20, T 21, T 22, T 23, T 24, T 25, T 26, T 27, T 28, T 29, T 30, T 31, T 32, T 33, T 34, T 35, T 36, T 37, T 38, T 39, T 40, T 41, T 42, T 43, T 44, T 45, T 46, T 47, T 48, T 49, T 50, T 51, T 52, T 53, T 54, T 55, T 56, T 57, T 58, T 59, T 60, T 61, T 62, T 63, T 64, T 65, T 66, T 67, T 68, T 69, T 70, T 71, T 72, T 73, T 74, T 75, T 76, T 77, T 78, T 79, T 80, T 81, T 82, T 83, T 84, T 85, T 86, T 87, T 88, T 89, T 90, T 91, T 92, T 93, T 94, T 95, T 96, T 97, T 98, T 99, T 100, T 101, T 102, T 103, T 104, T 105, T 106, T 107, T 108, T 109, T 110, T 111, T 112, T 113, T 114, T 115] := by kernel_rfl
theorem frStr {a : Act} {p0 p1 p6 p7 p8 : Value} (hs : a.tmps.size = 116) (hd : a.defers = []) (h0 : a.tmps[0]? = some p0) (h1 : a.tmps[1]? = some p1) (h6 : a.tmps[6]? = some p6) (h7 : a.tmps[7]? = some p7) (h8 : a.tmps[8]? = some p8) : ∃ T : Nat → Value, a = ⟨#[p0, p1, T 2, T 3, T 4, T 5, p6, p7, p8, T 9, T 10, T 11, T 12, T 13, T 14, T 15, T 16, T 17, T 18, T 19, T 20, T 21, T 22, T 23, T 24, T 25, T 26, T 27, T 28, T 29, T 30, T 31, T 32, T 33, T 34, T 35, T 36, T 37, T 38, T 39, T 40, T 41, T 42, T 43, T 44, T 45, T 46, T 47, T 48, T 49, T 50, T 51, T 52, T 53, T 54, T 55, T 56, T 57, T 58, T 59, T 60, T 61, T 62, T 63, T 64, T 65, T 66, T 67, T 68, T 69, T 70, T 71, T 72, T 73, T 74, T 75, T 76, T 77, T 78, T 79, T 80, T 81, T 82, T 83, T 84, T 85, T 86, T 87, T 88, T 89, T 90, T 91, T 92, T 93, T 94, T 95, T 96, T 97, T 98, T 99, T 100, T 101, T 102, T 103, T 104, T 105, T 106, T 107, T 108, T 109, T 110, T 111, T 112, T 113, T 114, T 115], []⟩ := by
  obtain ⟨T, h, hT⟩ := frame_lit a hs hd
  have e0 : T 0 = p0 := hT 0 p0 h0
  have e1 : T 1 = p1 := hT 1 p1 h1
  have e6 : T 6 = p6 := hT 6 p6 h6
  have e7 : T 7 = p7 := hT 7 p7 h7
  have e8 : T 8 = p8 := hT 8 p8 h8
  refine ⟨T, ?_⟩
  rw [h, lit116, e0, e1, e6, e7, e8]
theorem taS (w : World) (a : Addr) : (Instr.typeAssert (.iface 82 (.pointer (some a))) 108 125 true).run Tryd.prog w = .ok (.tuple #[.nilIface, .bool false]) w := run_typeAssert_lacksB Tryd.underlying125 (by kernel_rfl) (by kernel_rfl) _ _ w
set_option maxRecDepth 100000 in
set_option maxHeartbeats 8000000 in
theorem wString {R : Option Nat} {w : World} {base : Nat} {L : WLoc} {st : WS} {all bs : List UInt8} (h : Wr w base L st) (hI : Inv R st all) (hl : all.length + bs.length ≤ 1000000) :
    Calls Tryd.prog 63 #[.pointer (some ⟨L.b, 0, none⟩), .string ⟨bs.toArray⟩] w (Ret (WPost R base L st (all ++ bs) (WrP st bs.length) w)) := by
  have H := Lib.hid h
  have HST := Lib.hid (WrIn.start h hI bs)
  have qa := fun w => taS w ⟨L.s, 0, none⟩
  clear h hI
  obtain ⟨bl, hbl⟩ : ∃ bl, bs.length = bl := ⟨_, rfl⟩
  have HBL := Lib.hid hbl
  rw [hbl] at hl ⊢
  clear hbl
  go_enter Tryd.func63, Tryd.ntmps63
  refine wp_seq_k (fun K0 hK0 => ?_)
  have HK0 := Lib.hid hK0
  clear hK0
  go_wp2_with fail
  refine HK0.out _ _ ?_
  clear HK0
  refine wp_seq_k (fun K0 hK0 => ?_)
  have HK0 := Lib.hid hK0
  clear hK0
  go_wp2_with fail
  refine HK0.out _ _ ?_
  clear HK0
  refine wp_seq_k (fun K0 hK0 => ?_)
  have HK0 := Lib.hid hK0
  clear hK0
  go_wp2_with fail
  refine HK0.out _ _ ?_
  clear HK0
  refine wp_seq_k (fun K0 hK0 => ?_)
  have HK0 := Lib.hid hK0
  clear hK0
  go_wp2_with fail
  refine HK0.out _ _ ?_
  clear HK0
  refine wp_seq_k (fun K2 hK2 => ?_)
  have HK2 := Lib.hid hK2
  clear hK2
  refine wp_cut (fun a' wx => ∃ (st1 : WS) (k : Nat) (tr : Bool), (WrIn R base L w st all bs wx st1 k ∧ (st1.err = true ∨ bl - k ≤ st1.buf.length - st1.n)) ∧ ∃ T : Nat → Value, a' = ⟨#[.pointer (some ⟨L.b, 0, none⟩), .string ⟨(bs.drop k).toArray⟩, T 2, T 3, T 4, T 5, .nilIface, .bool tr, .int .i64 (k : Int), T 9, T 10, T 11, T 12, T 13, T 14, T 15, T 16, T 17, T 18, T 19, T 20, T 21, T 22, T 23, T 24, T 25, T 26, T 27, T 28, T 29, T 30, T 31, T 32, T 33, T 34, T 35, T 36, T 37, T 38, T 39, T 40, T 41, T 42, T 43, T 44, T 45, T 46, T 47, T 48, T 49, T 50, T 51, T 52, T 53, T 54, T 55, T 56, T 57, T 58, T 59, T 60, T 61, T 62, T 63, T 64, T 65, T 66, T 67, T 68, T 69, T 70, T 71, T 72, T 73, T 74, T 75, T 76, T 77, T 78, T 79, T 80, T 81, T 82, T 83, T 84, T 85, T 86, T 87, T 88, T 89, T 90, T 91, T 92, T 93, T 94, T 95, T 96, T 97, T 98, T 99, T 100, T 101, T 102, T 103, T 104, T 105, T 106, T 107, T 108, T 109, T 110, T 111, T 112, T 113, T 114, T 115], []⟩) ?rest ?first
  case first =>
    intro J1 K1 hJ1 hK1
    go_wp2_with fail
    refine wp_loop_ghost_k (fun n a' wx => ∃ (st1 : WS) (k : Nat) (tr : Bool), (WrIn R base L w st all bs wx st1 k ∧ fuelW st1 k bs ≤ n) ∧ ∃ T : Nat → Value, a' = ⟨#[.pointer (some ⟨L.b, 0, none⟩), .string ⟨(bs.drop k).toArray⟩, T 2, T 3, T 4, T 5, .nilIface, .bool tr, .int .i64 (k : Int), T 9, T 10, T 11, T 12, T 13, T 14, T 15, T 16, T 17, T 18, T 19, T 20, T 21, T 22, T 23, T 24, T 25, T 26, T 27, T 28, T 29, T 30, T 31, T 32, T 33, T 34, T 35, T 36, T 37, T 38, T 39, T 40, T 41, T 42, T 43, T 44, T 45, T 46, T 47, T 48, T 49, T 50, T 51, T 52, T 53, T 54, T 55, T 56, T 57, T 58, T 59, T 60, T 61, T 62, T 63, T 64, T 65, T 66, T 67, T 68, T 69, T 70, T 71, T 72, T 73, T 74, T 75, T 76, T 77, T 78, T 79, T 80, T 81, T 82, T 83, T 84, T 85, T 86, T 87, T 88, T 89, T 90, T 91, T 92, T 93, T 94, T 95, T 96, T 97, T 98, T 99, T 100, T 101, T 102, T 103, T 104, T 105, T 106, T 107, T 108, T 109, T 110, T 111, T 112, T 113, T 114, T 115], []⟩) (fuelW st 0 bs) ?_ ?_
    · exact ⟨st, 0, true, ⟨HST.out, Nat.le_refl _⟩, frStr rfl rfl rfl rfl rfl rfl rfl⟩
    · rintro n _ wr ⟨st1, k, tr, ⟨hin, hfu⟩, T, rfl⟩
      intro J K hJ hK
      have HIN := Lib.hid hin
      have HFU := Lib.hid hfu
      have hkl : k ≤ bl := by rw [← HBL.out]; exact hin.k
      have hdl : (bs.drop k).length = bl - k := by rw [List.length_drop, HBL.out]
      have HDL := Lib.hid hdl
      obtain ⟨sb, hsb⟩ : ∃ sb : ByteArray, (⟨(bs.drop k).toArray⟩ : ByteArray) = sb := ⟨_, rfl⟩
      have hsz : sb.size = bl - k := by rw [← hsb]; exact hdl
      rw [hsb]
      have HSB := Lib.hid hsb
      obtain ⟨d0, d1, d2, d3, df⟩ := hin.went.wr.cells
      have HD2 := Lib.hid d2
      have hn1 := hin.went.wr.n
      have hh1 := hin.went.wr.hi
      have hps1 := hin.went.wr.pos
      have hne : L.bb ≠ L.b := hin.went.wr.ne.1
      have KA := Lib.hid (wAvail hin.went.wr)
      have KB := Lib.hid (fun w2 (hx : New wr w2) => wBuffered (hin.went.wr.new hx))
      have HBB : Hid (∀ w2, New wr w2 → w2.heap[L.bb]? = some (.cells (st1.buf.map bv).toArray 5 (0, 0))) := Lib.hid (fun w2 hx => (hin.went.wr.new hx).hbb)
      clear hin hfu hdl hsb
      cases he : st1.err with
      | true =>
        have HE := Lib.hid he
        rw [he] at d0
        change wr.cell? ⟨L.b, 0, none⟩ = some (.iface 106 (.agg #[])) at d0
        clear he
        by_cases hlt : st1.buf.length - st1.n < bl - k
        · have q1 : decide ((st1.buf.length : Int) - (st1.n : Int) < ((bl - k : Nat) : Int)) = true := decide_eq_true (by omega)
          go_wp2_with (go_at_call 66; refine callRet KA.out ?_; rintro v w2 ⟨hn2, rfl⟩; have HN2 := Lib.hid hn2; have e0 := hn2.cell d0 (fun h => h); have e1 := hn2.cell d1 (fun h => h); have e2 := hn2.cell d2 (fun h => h); have e3 := hn2.cell d3 (fun h => h); clear hn2)
          refine Met.intro ?_
          go_step
          rw [← HSB.out]
          exact ⟨st1, k, tr, ⟨HIN.out.new HN2.out, .inl HE.out⟩, frStr rfl rfl rfl rfl rfl rfl rfl⟩
        · have q1 : decide ((st1.buf.length : Int) - (st1.n : Int) < ((bl - k : Nat) : Int)) = false := decide_eq_false (by omega)
          go_wp2_with (go_at_call 66; refine callRet KA.out ?_; rintro v w2 ⟨hn2, rfl⟩; have HN2 := Lib.hid hn2; have e0 := hn2.cell d0 (fun h => h); have e1 := hn2.cell d1 (fun h => h); have e2 := hn2.cell d2 (fun h => h); have e3 := hn2.cell d3 (fun h => h); clear hn2)
          refine Met.intro ?_
          go_step
          rw [← HSB.out]
          exact ⟨st1, k, tr, ⟨HIN.out.new HN2.out, .inl HE.out⟩, frStr rfl rfl rfl rfl rfl rfl rfl⟩
      | false =>
        have HE := Lib.hid he
        rw [he] at d0
        change wr.cell? ⟨L.b, 0, none⟩ = some .nilIface at d0
        clear he
        by_cases hlt : st1.buf.length - st1.n < bl - k
        · have q1 : decide ((st1.buf.length : Int) - (st1.n : Int) < ((bl - k : Nat) : Int)) = true := decide_eq_true (by omega)
          by_cases hn0 : st1.n = 0
          · have HN0 := Lib.hid hn0
            have q2 : ((st1.n : Int) == 0) = true := by rw [hn0]; rfl
            cases tr with
            | true =>
              obtain ⟨m, hm⟩ : ∃ m, m = st1.buf.length - st1.n := ⟨_, rfl⟩
              have hmA : m < bl - k := by omega
              have hmB : st1.n + m ≤ st1.buf.length := by omega
              have hmC : st1.buf.length ≤ st1.n + m := by omega
              have hnl : ¬ st1.buf.length = st1.n := by omega
              clear hm
              clear hn0
              go_wp2_with (first
                | (go_at_call 66; refine callRet KA.out ?_; rintro v w2 ⟨hn2, rfl⟩; have HN2 := Lib.hid hn2; have e0 := hn2.cell d0 (fun h => h); have e1 := hn2.cell d1 (fun h => h); have e2 := hn2.cell d2 (fun h => h); have e3 := hn2.cell d3 (fun h => h); clear hn2)
                | (go_at_call 67; refine callRet (KB.out _ HN2.out) ?_; rintro v w3 ⟨rfl, rfl⟩))
              refine wp_region_lx {} (by kernel_rfl) (by kernel_rfl) ⟨fun _ _ _ h => h.2, fun _ _ h => h⟩ ?_
              (repeat' (first | (refine wpLx_calm rfl rfl rfl (fun K hK => ?_); go_step <;> (refine hK _ ?_; clear hK K)) | (refine wpLx_skip2 rfl rfl rfl ?_; go_simp) | (refine wpLx_calm2 rfl rfl rfl rfl rfl (fun K hK => ?_); go_step <;> (refine hK _ ?_; clear hK K))))
              refine wpLx_eff rfl rfl rfl (fun K hK => ?_)
              refine wp_copyS eB (.tmp 64) (.tmp 65) 9 rfl L.bb st1.n (st1.buf.length - st1.n) (st1.buf.length - st1.n) rfl (st1.buf.map bv).toArray 5 (HBB.out _ HN2.out.drew) (bs.drop k) (congrArg Value.string HSB.out.symm) m (by rw [HDL.out]; omega) (by simp only [List.size_toArray, List.length_map]; omega) ?_
              intro w3 hw3 hu3 hz3
              have hlaid := fun w4 (hw4 : w4 = w3.setCell ⟨L.b, 2, none⟩ (.int .i64 ((st1.n : Int) + ((m : Nat) : Int)))) => WrIn.laid (w2 := w4) (m := m) (HIN.out.new HN2.out.drew) HE.out (by rw [HBL.out]; omega) (by omega) hu3 hw3 hw4
              have HLAID := Lib.hid hlaid
              have d2' : w3.cell? ⟨L.b, 2, none⟩ = some (.int .i64 (st1.n : Int)) := hu3.cell (HN2.out.cell HD2.out (fun h => h)) (fun hh => hne hh.symm)
              have df' : ∀ i, w3.frozen? ⟨L.b, i, none⟩ = false := fun i => World.frozen_of_heap (hu3.heap (HIN.out.new HN2.out.drew).went.wr.hb (fun hh => hne hh.symm)) i
              clear hw3 hu3 hz3 hlaid d0 d1 d2 d3 df e0 e1 e2 e3
              refine hK _ _ ?_
              clear hK K
              (repeat' (first | (refine wpLx_calm rfl rfl rfl (fun K hK => ?_); go_step <;> (refine hK _ ?_; clear hK K)) | (refine wpLx_skip2 rfl rfl rfl ?_; go_simp) | (refine wpLx_calm2 rfl rfl rfl rfl rfl (fun K hK => ?_); go_step <;> (refine hK _ ?_; clear hK K))))
              all_goals refine wpLx_nil ?_
              have hin2 := HLAID.out _ rfl
              have hiv := hin2.inv
              change Inv R _ (all ++ if st1.err then bs else bs.take (k + m)) at hiv
              rw [if_neg (by rw [HE.out]; simp)] at hiv
              have KF := Lib.hid (flush hin2.went.wr hiv (by rw [List.length_append, List.length_take]; have := HBL.out; omega))
              have HIN2 := Lib.hid hin2
              clear hin2 hiv
              go_wp2_with (go_at_call 64; refine callRet KF.out ?_; intro v w5 hp; obtain ⟨st3, hin3, hv, hn3⟩ := WrIn.flushed H.out HIN2.out HE.out hp; have HIN3 := Lib.hid hin3; have HN3 : Hid (FullN st3) := Lib.hid hn3; clear hp hin3 hn3 hv)
              have hex : sb.extract m (bl - k) = ⟨(bs.drop (k + m)).toArray⟩ := by rw [← HSB.out, str_drop _ _ _ HDL.out.symm, List.drop_drop]
              rw [hex, ← Int.natCast_add]
              refine Handed.intro (2 * (bl - (k + m)) + 1) (by have := HFU.out; unfold fuelW at this; rw [if_neg (by rw [HE.out]; simp), HBL.out] at this; split at this <;> omega) ?_
              go_step
              refine ⟨st3, k + m, _, ⟨HIN3.out, ?_⟩, frStr rfl rfl rfl rfl rfl rfl rfl⟩
              unfold fuelW
              cases he3 : st3.err with
              | true => rw [if_pos rfl]; omega
              | false => rw [if_neg (fun h => by cases h), HBL.out, if_pos (HN3.out he3)]; omega
            | false =>
              obtain ⟨m, hm⟩ : ∃ m, m = st1.buf.length - st1.n := ⟨_, rfl⟩
              have hmA : m < bl - k := by omega
              have hmB : st1.n + m ≤ st1.buf.length := by omega
              have hmC : st1.buf.length ≤ st1.n + m := by omega
              have hnl : ¬ st1.buf.length = st1.n := by omega
              clear hm
              clear hn0
              go_wp2_with (first
                | (go_at_call 66; refine callRet KA.out ?_; rintro v w2 ⟨hn2, rfl⟩; have HN2 := Lib.hid hn2; have e0 := hn2.cell d0 (fun h => h); have e1 := hn2.cell d1 (fun h => h); have e2 := hn2.cell d2 (fun h => h); have e3 := hn2.cell d3 (fun h => h); clear hn2)
                | (go_at_call 67; refine callRet (KB.out _ HN2.out) ?_; rintro v w3 ⟨rfl, rfl⟩))
              refine wp_region_lx {} (by kernel_rfl) (by kernel_rfl) ⟨fun _ _ _ h => h.2, fun _ _ h => h⟩ ?_
              (repeat' (first | (refine wpLx_calm rfl rfl rfl (fun K hK => ?_); go_step <;> (refine hK _ ?_; clear hK K)) | (refine wpLx_skip2 rfl rfl rfl ?_; go_simp) | (refine wpLx_calm2 rfl rfl rfl rfl rfl (fun K hK => ?_); go_step <;> (refine hK _ ?_; clear hK K))))
              refine wpLx_eff rfl rfl rfl (fun K hK => ?_)
              refine wp_copyS eB (.tmp 64) (.tmp 65) 9 rfl L.bb st1.n (st1.buf.length - st1.n) (st1.buf.length - st1.n) rfl (st1.buf.map bv).toArray 5 (HBB.out _ HN2.out.drew) (bs.drop k) (congrArg Value.string HSB.out.symm) m (by rw [HDL.out]; omega) (by simp only [List.size_toArray, List.length_map]; omega) ?_
              intro w3 hw3 hu3 hz3
              have hlaid := fun w4 (hw4 : w4 = w3.setCell ⟨L.b, 2, none⟩ (.int .i64 ((st1.n : Int) + ((m : Nat) : Int)))) => WrIn.laid (w2 := w4) (m := m) (HIN.out.new HN2.out.drew) HE.out (by rw [HBL.out]; omega) (by omega) hu3 hw3 hw4
              have HLAID := Lib.hid hlaid
              have d2' : w3.cell? ⟨L.b, 2, none⟩ = some (.int .i64 (st1.n : Int)) := hu3.cell (HN2.out.cell HD2.out (fun h => h)) (fun hh => hne hh.symm)
              have df' : ∀ i, w3.frozen? ⟨L.b, i, none⟩ = false := fun i => World.frozen_of_heap (hu3.heap (HIN.out.new HN2.out.drew).went.wr.hb (fun hh => hne hh.symm)) i
              clear hw3 hu3 hz3 hlaid d0 d1 d2 d3 df e0 e1 e2 e3
              refine hK _ _ ?_
              clear hK K
              (repeat' (first | (refine wpLx_calm rfl rfl rfl (fun K hK => ?_); go_step <;> (refine hK _ ?_; clear hK K)) | (refine wpLx_skip2 rfl rfl rfl ?_; go_simp) | (refine wpLx_calm2 rfl rfl rfl rfl rfl (fun K hK => ?_); go_step <;> (refine hK _ ?_; clear hK K))))
              all_goals refine wpLx_nil ?_
              have hin2 := HLAID.out _ rfl
              have hiv := hin2.inv
              change Inv R _ (all ++ if st1.err then bs else bs.take (k + m)) at hiv
              rw [if_neg (by rw [HE.out]; simp)] at hiv
              have KF := Lib.hid (flush hin2.went.wr hiv (by rw [List.length_append, List.length_take]; have := HBL.out; omega))
              have HIN2 := Lib.hid hin2
              clear hin2 hiv
              go_wp2_with (go_at_call 64; refine callRet KF.out ?_; intro v w5 hp; obtain ⟨st3, hin3, hv, hn3⟩ := WrIn.flushed H.out HIN2.out HE.out hp; have HIN3 := Lib.hid hin3; have HN3 : Hid (FullN st3) := Lib.hid hn3; clear hp hin3 hn3 hv)
              have hex : sb.extract m (bl - k) = ⟨(bs.drop (k + m)).toArray⟩ := by rw [← HSB.out, str_drop _ _ _ HDL.out.symm, List.drop_drop]
              rw [hex, ← Int.natCast_add]
              refine Handed.intro (2 * (bl - (k + m)) + 1) (by have := HFU.out; unfold fuelW at this; rw [if_neg (by rw [HE.out]; simp), HBL.out] at this; split at this <;> omega) ?_
              go_step
              refine ⟨st3, k + m, _, ⟨HIN3.out, ?_⟩, frStr rfl rfl rfl rfl rfl rfl rfl⟩
              unfold fuelW
              cases he3 : st3.err with
              | true => rw [if_pos rfl]; omega
              | false => rw [if_neg (fun h => by cases h), HBL.out, if_pos (HN3.out he3)]; omega
          · have q2 : ((st1.n : Int) == 0) = false := by rw [beq_eq_false_iff_ne]; omega
            by_cases hav : st1.n < st1.buf.length
            · skip
              obtain ⟨m, hm⟩ : ∃ m, m = st1.buf.length - st1.n := ⟨_, rfl⟩
              have hmA : m < bl - k := by omega
              have hmB : st1.n + m ≤ st1.buf.length := by omega
              have hmC : st1.buf.length ≤ st1.n + m := by omega
              have hnl : ¬ st1.buf.length = st1.n := by omega
              clear hm
              go_wp2_with (first
                | (go_at_call 66; refine callRet KA.out ?_; rintro v w2 ⟨hn2, rfl⟩; have HN2 := Lib.hid hn2; have e0 := hn2.cell d0 (fun h => h); have e1 := hn2.cell d1 (fun h => h); have e2 := hn2.cell d2 (fun h => h); have e3 := hn2.cell d3 (fun h => h); clear hn2)
                | (go_at_call 67; refine callRet (KB.out _ HN2.out) ?_; rintro v w3 ⟨rfl, rfl⟩))
              refine wp_region_lx {} (by kernel_rfl) (by kernel_rfl) ⟨fun _ _ _ h => h.2, fun _ _ h => h⟩ ?_
              (repeat' (first | (refine wpLx_calm rfl rfl rfl (fun K hK => ?_); go_step <;> (refine hK _ ?_; clear hK K)) | (refine wpLx_skip2 rfl rfl rfl ?_; go_simp) | (refine wpLx_calm2 rfl rfl rfl rfl rfl (fun K hK => ?_); go_step <;> (refine hK _ ?_; clear hK K))))
              refine wpLx_eff rfl rfl rfl (fun K hK => ?_)
              refine wp_copyS eB (.tmp 64) (.tmp 65) 9 rfl L.bb st1.n (st1.buf.length - st1.n) (st1.buf.length - st1.n) rfl (st1.buf.map bv).toArray 5 (HBB.out _ HN2.out.drew) (bs.drop k) (congrArg Value.string HSB.out.symm) m (by rw [HDL.out]; omega) (by simp only [List.size_toArray, List.length_map]; omega) ?_
              intro w3 hw3 hu3 hz3
              have hlaid := fun w4 (hw4 : w4 = w3.setCell ⟨L.b, 2, none⟩ (.int .i64 ((st1.n : Int) + ((m : Nat) : Int)))) => WrIn.laid (w2 := w4) (m := m) (HIN.out.new HN2.out.drew) HE.out (by rw [HBL.out]; omega) (by omega) hu3 hw3 hw4
              have HLAID := Lib.hid hlaid
              have d2' : w3.cell? ⟨L.b, 2, none⟩ = some (.int .i64 (st1.n : Int)) := hu3.cell (HN2.out.cell HD2.out (fun h => h)) (fun hh => hne hh.symm)
              have df' : ∀ i, w3.frozen? ⟨L.b, i, none⟩ = false := fun i => World.frozen_of_heap (hu3.heap (HIN.out.new HN2.out.drew).went.wr.hb (fun hh => hne hh.symm)) i
              clear hw3 hu3 hz3 hlaid d0 d1 d2 d3 df e0 e1 e2 e3
              refine hK _ _ ?_
              clear hK K
              (repeat' (first | (refine wpLx_calm rfl rfl rfl (fun K hK => ?_); go_step <;> (refine hK _ ?_; clear hK K)) | (refine wpLx_skip2 rfl rfl rfl ?_; go_simp) | (refine wpLx_calm2 rfl rfl rfl rfl rfl (fun K hK => ?_); go_step <;> (refine hK _ ?_; clear hK K))))
              all_goals refine wpLx_nil ?_
              have hin2 := HLAID.out _ rfl
              have hiv := hin2.inv
              change Inv R _ (all ++ if st1.err then bs else bs.take (k + m)) at hiv
              rw [if_neg (by rw [HE.out]; simp)] at hiv
              have KF := Lib.hid (flush hin2.went.wr hiv (by rw [List.length_append, List.length_take]; have := HBL.out; omega))
              have HIN2 := Lib.hid hin2
              clear hin2 hiv
              go_wp2_with (go_at_call 64; refine callRet KF.out ?_; intro v w5 hp; obtain ⟨st3, hin3, hv, hn3⟩ := WrIn.flushed H.out HIN2.out HE.out hp; have HIN3 := Lib.hid hin3; have HN3 : Hid (FullN st3) := Lib.hid hn3; clear hp hin3 hn3 hv)
              have hex : sb.extract m (bl - k) = ⟨(bs.drop (k + m)).toArray⟩ := by rw [← HSB.out, str_drop _ _ _ HDL.out.symm, List.drop_drop]
              rw [hex, ← Int.natCast_add]
              refine Handed.intro (2 * (bl - (k + m)) + 1) (by have := HFU.out; unfold fuelW at this; rw [if_neg (by rw [HE.out]; simp), HBL.out] at this; rw [if_neg hn0] at this; omega) ?_
              go_step
              refine ⟨st3, k + m, _, ⟨HIN3.out, ?_⟩, frStr rfl rfl rfl rfl rfl rfl rfl⟩
              unfold fuelW
              cases he3 : st3.err with
              | true => rw [if_pos rfl]; omega
              | false => rw [if_neg (fun h => by cases h), HBL.out, if_pos (HN3.out he3)]; omega
            · have hnl : st1.buf.length = st1.n := by omega
              have HNL := Lib.hid hnl
              clear hnl hav
              go_wp2_with (first
                | (go_at_call 66; refine callRet KA.out ?_; rintro v w2 ⟨hn2, rfl⟩; have HN2 := Lib.hid hn2; have e0 := hn2.cell d0 (fun h => h); have e1 := hn2.cell d1 (fun h => h); have e2 := hn2.cell d2 (fun h => h); have e3 := hn2.cell d3 (fun h => h); clear hn2)
                | (go_at_call 67; refine callRet (KB.out _ HN2.out) ?_; rintro v w3 ⟨rfl, rfl⟩))
              refine wp_region_lx {} (by kernel_rfl) (by kernel_rfl) ⟨fun _ _ _ h => h.2, fun _ _ h => h⟩ ?_
              (repeat' (first | (refine wpLx_calm rfl rfl rfl (fun K hK => ?_); go_step <;> (refine hK _ ?_; clear hK K)) | (refine wpLx_skip2 rfl rfl rfl ?_; go_simp) | (refine wpLx_calm2 rfl rfl rfl rfl rfl (fun K hK => ?_); go_step <;> (refine hK _ ?_; clear hK K))))
              try rw [if_pos HNL.out]
              refine wpLx_eff rfl rfl rfl (fun K hK => ?_)
              refine wp_copyS eB (.tmp 64) (.tmp 65) 9 rfl L.bb 0 (st1.buf.length - st1.n) (st1.buf.length - st1.n) rfl (st1.buf.map bv).toArray 5 (HBB.out _ HN2.out.drew) (bs.drop k) (congrArg Value.string HSB.out.symm) 0 (by rw [HDL.out]; have := HNL.out; omega) (by simp only [List.size_toArray, List.length_map]; have := HNL.out; omega) ?_
              intro w3 hw3 hu3 hz3
              have hlaid := fun w4 (hw4 : w4 = w3.setCell ⟨L.b, 2, none⟩ (.int .i64 ((st1.n : Int) + ((0 : Nat) : Int)))) => WrIn.laid (w2 := w4) (m := 0) (HIN.out.new HN2.out.drew) HE.out (by rw [HBL.out]; omega) (by have := HNL.out; omega) hu3 (by rw [hw3]; simp [splice]) hw4
              have HLAID := Lib.hid hlaid
              have d2' : w3.cell? ⟨L.b, 2, none⟩ = some (.int .i64 (st1.n : Int)) := hu3.cell (HN2.out.cell HD2.out (fun h => h)) (fun hh => hne hh.symm)
              have df' : ∀ i, w3.frozen? ⟨L.b, i, none⟩ = false := fun i => World.frozen_of_heap (hu3.heap (HIN.out.new HN2.out.drew).went.wr.hb (fun hh => hne hh.symm)) i
              clear hw3 hu3 hz3 hlaid d0 d1 d2 d3 df e0 e1 e2 e3
              refine hK _ _ ?_
              clear hK K
              (repeat' (first | (refine wpLx_calm rfl rfl rfl (fun K hK => ?_); go_step <;> (refine hK _ ?_; clear hK K)) | (refine wpLx_skip2 rfl rfl rfl ?_; go_simp) | (refine wpLx_calm2 rfl rfl rfl rfl rfl (fun K hK => ?_); go_step <;> (refine hK _ ?_; clear hK K))))
              all_goals refine wpLx_nil ?_
              have hin2 := HLAID.out _ rfl
              have hiv := hin2.inv
              change Inv R _ (all ++ if st1.err then bs else bs.take (k + 0)) at hiv
              rw [if_neg (by rw [HE.out]; simp)] at hiv
              have KF := Lib.hid (flush hin2.went.wr hiv (by rw [List.length_append, List.length_take]; have := HBL.out; omega))
              have HIN2 := Lib.hid hin2
              clear hin2 hiv
              go_wp2_with (go_at_call 64; refine callRet KF.out ?_; intro v w5 hp; obtain ⟨st3, hin3, hv, hn3⟩ := WrIn.flushed H.out HIN2.out HE.out hp; have HIN3 := Lib.hid hin3; have HN3 : Hid (FullN st3) := Lib.hid hn3; clear hp hin3 hn3 hv)
              have hex : sb.extract 0 (bl - k) = ⟨(bs.drop (k + 0)).toArray⟩ := by rw [← HSB.out, str_drop _ _ _ HDL.out.symm, List.drop_drop]
              rw [hex]
              refine Handed.intro (2 * (bl - (k + 0)) + 1) (by have := HFU.out; unfold fuelW at this; rw [if_neg (by rw [HE.out]; simp), HBL.out] at this; rw [if_neg hn0] at this; omega) ?_
              go_step
              refine ⟨st3, k + 0, _, ⟨HIN3.out, ?_⟩, frStr rfl rfl rfl rfl rfl rfl rfl⟩
              unfold fuelW
              cases he3 : st3.err with
              | true => rw [if_pos rfl]; omega
              | false => rw [if_neg (fun h => by cases h), HBL.out, if_pos (HN3.out he3)]; omega
        · have q1 : decide ((st1.buf.length : Int) - (st1.n : Int) < ((bl - k : Nat) : Int)) = false := decide_eq_false (by omega)
          have HF := Lib.hid (show bl - k ≤ st1.buf.length - st1.n by omega)
          go_wp2_with (go_at_call 66; refine callRet KA.out ?_; rintro v w2 ⟨hn2, rfl⟩; have HN2 := Lib.hid hn2; have e0 := hn2.cell d0 (fun h => h); have e1 := hn2.cell d1 (fun h => h); have e2 := hn2.cell d2 (fun h => h); have e3 := hn2.cell d3 (fun h => h); clear hn2)
          refine Met.intro ?_
          go_step
          rw [← HSB.out]
          exact ⟨st1, k, tr, ⟨HIN.out.new HN2.out, .inr HF.out⟩, frStr rfl rfl rfl rfl rfl rfl rfl⟩
  case rest =>
    rintro _ wc ⟨st1, k, tr, ⟨hin, hor⟩, T1, rfl⟩
    refine HK2.out _ _ ?_
    clear HK2
    have HIN := Lib.hid hin
    have hkl : k ≤ bl := by rw [← HBL.out]; exact hin.k
    have hdl : (bs.drop k).length = bl - k := by rw [List.length_drop, HBL.out]
    have HDL := Lib.hid hdl
    obtain ⟨sb, hsb⟩ : ∃ sb : ByteArray, (⟨(bs.drop k).toArray⟩ : ByteArray) = sb := ⟨_, rfl⟩
    have hsz : sb.size = bl - k := by rw [← hsb]; exact hdl
    rw [hsb]
    have HSB := Lib.hid hsb
    obtain ⟨d0, d1, d2, d3, df⟩ := hin.went.wr.cells
    have hn1 := hin.went.wr.n
    have hh1 := hin.went.wr.hi
    have hne : L.bb ≠ L.b := hin.went.wr.ne.1
    have HBB : Hid (wc.heap[L.bb]? = some (.cells (st1.buf.map bv).toArray 5 (0, 0))) := Lib.hid hin.went.wr.hbb
    clear hin hdl hsb
    cases he : st1.err with
    | true =>
      have HE := Lib.hid he
      rw [he] at d0
      change wc.cell? ⟨L.b, 0, none⟩ = some (.iface 106 (.agg #[])) at d0
      clear he hor
      go_wp2_with fail
      refine wp_region_lx {} (by kernel_rfl) (by kernel_rfl) ⟨fun _ _ _ h => h.2, fun _ _ h => h⟩ ?_
      (repeat' (first | (refine wpLx_calm rfl rfl rfl (fun K hK => ?_); go_step <;> (refine hK _ ?_; clear hK K)) | (refine wpLx_skip2 rfl rfl rfl ?_; go_simp) | (refine wpLx_calm2 rfl rfl rfl rfl rfl (fun K hK => ?_); go_step <;> (refine hK _ ?_; clear hK K))))
      all_goals refine wpLx_nil ?_
      go_wp2_with fail
      go_ret2
      have hin2 := HIN.out.new ((Upd.refl (fun _ => False) wc).drew)
      have hiv := hin2.inv
      rw [if_pos HE.out] at hiv
      exact hin2.went.post hiv ⟨_, by rw [HE.out]; rfl, fun hh => (by rw [HE.out] at hh; cases hh), fun hh => hin2.was hh⟩
    | false =>
      have HE := Lib.hid he
      have hfit : bl - k ≤ st1.buf.length - st1.n := by
        rcases hor with h | h
        · rw [he] at h; cases h
        · exact h
      rw [he] at d0
      change wc.cell? ⟨L.b, 0, none⟩ = some .nilIface at d0
      clear he hor
      by_cases hav : st1.n < st1.buf.length
      · obtain ⟨m, hm⟩ : ∃ m, m = bl - k := ⟨_, rfl⟩
        have hmA : k + m ≤ bl := by omega
        have hmD : bl ≤ k + m := by omega
        have hnl : ¬ st1.buf.length = st1.n := by omega
        clear hm
        go_wp2_with fail
        refine wp_region_lx {} (by kernel_rfl) (by kernel_rfl) ⟨fun _ _ _ h => h.2, fun _ _ h => h⟩ ?_
        (repeat' (first | (refine wpLx_calm rfl rfl rfl (fun K hK => ?_); go_step <;> (refine hK _ ?_; clear hK K)) | (refine wpLx_skip2 rfl rfl rfl ?_; go_simp) | (refine wpLx_calm2 rfl rfl rfl rfl rfl (fun K hK => ?_); go_step <;> (refine hK _ ?_; clear hK K))))
        refine wpLx_eff rfl rfl rfl (fun K hK => ?_)
        refine wp_copyS eB (.tmp 101) (.tmp 102) 9 rfl L.bb st1.n (st1.buf.length - st1.n) (st1.buf.length - st1.n) rfl (st1.buf.map bv).toArray 5 HBB.out (bs.drop k) (congrArg Value.string HSB.out.symm) m (by rw [HDL.out]; omega) (by simp only [List.size_toArray, List.length_map]; omega) ?_
        intro w3 hw3 hu3 hz3
        have hlaid := fun w4 (hw4 : w4 = w3.setCell ⟨L.b, 2, none⟩ (.int .i64 ((st1.n : Int) + ((m : Nat) : Int)))) => WrIn.laid (w2 := w4) (m := m) (HIN.out.new (Upd.refl _ _).drew) HE.out (by rw [HBL.out]; omega) (by omega) hu3 hw3 hw4
        have HLAID := Lib.hid hlaid
        have d2' : w3.cell? ⟨L.b, 2, none⟩ = some (.int .i64 (st1.n : Int)) := hu3.cell d2 (fun hh => hne hh.symm)
        have df' : ∀ i, w3.frozen? ⟨L.b, i, none⟩ = false := fun i => World.frozen_of_heap (hu3.heap HIN.out.went.wr.hb (fun hh => hne hh.symm)) i
        clear hw3 hu3 hz3 hlaid d0 d1 d2 d3 df
        refine hK _ _ ?_
        clear hK K
        (repeat' (first | (refine wpLx_calm rfl rfl rfl (fun K hK => ?_); go_step <;> (refine hK _ ?_; clear hK K)) | (refine wpLx_skip2 rfl rfl rfl ?_; go_simp) | (refine wpLx_calm2 rfl rfl rfl rfl rfl (fun K hK => ?_); go_step <;> (refine hK _ ?_; clear hK K))))
        all_goals refine wpLx_nil ?_
        go_wp2_with fail
        go_ret2
        have hin2 := HLAID.out _ rfl
        have hiv := hin2.inv
        change Inv R _ (all ++ if st1.err then bs else bs.take (k + m)) at hiv
        rw [if_neg (by rw [HE.out]; simp), show bs.take (k + m) = bs from List.take_of_length_le (by rw [HBL.out]; omega)] at hiv
        refine hin2.went.post hiv ⟨_, by show _ = Value.tuple #[_, errW st1.err]; rw [HE.out]; rfl, fun _ => ?_, fun hh => hin2.was hh⟩
        omega
      · have hnl : st1.buf.length = st1.n := by omega
        have HNL := Lib.hid (And.intro hnl (show bl ≤ k by omega))
        clear hnl hav
        go_wp2_with fail
        refine wp_region_lx {} (by kernel_rfl) (by kernel_rfl) ⟨fun _ _ _ h => h.2, fun _ _ h => h⟩ ?_
        (repeat' (first | (refine wpLx_calm rfl rfl rfl (fun K hK => ?_); go_step <;> (refine hK _ ?_; clear hK K)) | (refine wpLx_skip2 rfl rfl rfl ?_; go_simp) | (refine wpLx_calm2 rfl rfl rfl rfl rfl (fun K hK => ?_); go_step <;> (refine hK _ ?_; clear hK K))))
        try rw [if_pos HNL.out.1]
        refine wpLx_eff rfl rfl rfl (fun K hK => ?_)
        refine wp_copyS eB (.tmp 101) (.tmp 102) 9 rfl L.bb 0 (st1.buf.length - st1.n) (st1.buf.length - st1.n) rfl (st1.buf.map bv).toArray 5 HBB.out (bs.drop k) (congrArg Value.string HSB.out.symm) 0 (by rw [HDL.out]; have := HNL.out; omega) (by simp only [List.size_toArray, List.length_map]; have := HNL.out; omega) ?_
        intro w3 hw3 hu3 hz3
        have hlaid := fun w4 (hw4 : w4 = w3.setCell ⟨L.b, 2, none⟩ (.int .i64 ((st1.n : Int) + ((0 : Nat) : Int)))) => WrIn.laid (w2 := w4) (m := 0) (HIN.out.new (Upd.refl _ _).drew) HE.out (by rw [HBL.out]; omega) (by have := HNL.out; omega) hu3 (by rw [hw3]; simp [splice]) hw4
        have HLAID := Lib.hid hlaid
        have d2' : w3.cell? ⟨L.b, 2, none⟩ = some (.int .i64 (st1.n : Int)) := hu3.cell d2 (fun hh => hne hh.symm)
        have df' : ∀ i, w3.frozen? ⟨L.b, i, none⟩ = false := fun i => World.frozen_of_heap (hu3.heap HIN.out.went.wr.hb (fun hh => hne hh.symm)) i
        clear hw3 hu3 hz3 hlaid d0 d1 d2 d3 df
        refine hK _ _ ?_
        clear hK K
        (repeat' (first | (refine wpLx_calm rfl rfl rfl (fun K hK => ?_); go_step <;> (refine hK _ ?_; clear hK K)) | (refine wpLx_skip2 rfl rfl rfl ?_; go_simp) | (refine wpLx_calm2 rfl rfl rfl rfl rfl (fun K hK => ?_); go_step <;> (refine hK _ ?_; clear hK K))))
        all_goals refine wpLx_nil ?_
        go_wp2_with fail
        go_ret2
        have hin2 := HLAID.out _ rfl
        have hiv := hin2.inv
        change Inv R _ (all ++ if st1.err then bs else bs.take (k + 0)) at hiv
        rw [if_neg (by rw [HE.out]; simp), show bs.take (k + 0) = bs from List.take_of_length_le (by rw [HBL.out]; have := HNL.out; omega)] at hiv
        refine hin2.went.post hiv ⟨_, by show _ = Value.tuple #[_, errW st1.err]; rw [HE.out]; rfl, fun _ => ?_, fun hh => hin2.was hh⟩
        have := HNL.out; omega
end Go.Proofs.YtgbbogocfmepiaaDoor
