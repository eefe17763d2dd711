/- (*bufio.Writer).ReadFrom, from a source that ends; the sink takes any number. -/
import Derived.Test.YtgbbogocfmepiaaDoorWWrite
import Derived.Test.YtgbbogocfmepiaaDoorGlob
import Derived.Stop.Asserts
import Derived.Test.YtgbbogocfmepiaaDoorFrame
import Derived.Deep.LoopGhost
import Derived.Deep.DeepCutAuto
namespace Go.Proofs.YtgbbogocfmepiaaDoor
open Go.RowKit
structure RfIn (base : Nat) (L : WLoc) (w : World) (st : WS) (all : List UInt8) (sl mid s : Nat) (ps : List (List UInt8)) (wx : World) (st1 : WS) (ps1 : List (List UInt8)) (k : Nat) : Prop where
  wr : Wr wx base L st1
  upd : Upd (fun j => WM L st.ov j ∨ (sl ≤ j ∧ j < mid)) w wx
  stay : Stay w st.ov st1.ov
  len : st1.buf.length = st.buf.length
  src : Src wx sl mid s ps1 false
  inv : Inv none st1 (all ++ ps.flatten.take k)
  fl : ps1.flatten = ps.flatten.drop k
  k : k ≤ ps.flatten.length
  nn : nones ps1 ≤ 50
theorem Inv.ok_none {st : WS} {all : List UInt8} (h : Inv none st all) : st.err = false := by
  cases he : st.err with
  | false => rfl
  | true => obtain ⟨r, hr, _⟩ := h.bad he; cases hr
/-- apart: the writer's blocks and the source's -/
structure Far (w : World) (L : WLoc) (st : WS) (sl mid : Nat) : Prop where
  hi : mid ≤ w.heap.size
  far : ∀ j, WM L st.ov j → ¬ (sl ≤ j ∧ j < mid)
theorem RfIn.far {base : Nat} {L : WLoc} {w wx : World} {st st1 : WS} {all : List UInt8} {sl mid s : Nat} {ps ps1 : List (List UInt8)} {k : Nat} (hf : Far w L st sl mid) (h : RfIn base L w st all sl mid s ps wx st1 ps1 k) : ∀ j, WM L st1.ov j → ¬ (sl ≤ j ∧ j < mid) := fun j hj => by
  rcases hj with hj | hj | hj | hj
  · exact hf.far j (.inl hj)
  · exact hf.far j (.inr (.inl hj))
  · exact hf.far j (.inr (.inr (.inl hj)))
  · rcases h.stay j hj with q | q
    · exact hf.far j (.inr (.inr (.inr q)))
    · have := hf.hi; omega
theorem RfIn.new {base : Nat} {L : WLoc} {w wx wy : World} {st st1 : WS} {all : List UInt8} {sl mid s : Nat} {ps ps1 : List (List UInt8)} {k : Nat} (h : RfIn base L w st all sl mid s ps wx st1 ps1 k) (u : New wx wy) : RfIn base L w st all sl mid s ps wy st1 ps1 k :=
  { h with wr := h.wr.new u, upd := h.upd.andNew u, src := h.src.new u }
theorem RfIn.start {base : Nat} {L : WLoc} {w : World} {st : WS} {all : List UInt8} {sl mid s : Nat} {ps : List (List UInt8)} (h : Wr w base L st) (hI : Inv none st all) (hs : Src w sl mid s ps false) (hn : nones ps ≤ 50) : RfIn base L w st all sl mid s ps w st ps 0 :=
  ⟨h, Upd.refl _ _, Stay.refl _ _, rfl, hs, by simpa using hI, by simp, Nat.zero_le _, hn⟩
/-- a step of the writer alone -/
theorem RfIn.step {base : Nat} {L : WLoc} {w wx wy : World} {st st1 st2 : WS} {all : List UInt8} {sl mid s : Nat} {ps ps1 : List (List UInt8)} {k : Nat} (h0 : Wr w base L st) (hf : Far w L st sl mid) (h : RfIn base L w st all sl mid s ps wx st1 ps1 k) (hw : WWent base L wx st1 wy st2) (hi : Inv none st2 (all ++ ps.flatten.take k)) : RfIn base L w st all sl mid s ps wy st2 ps1 k :=
  { h with
    wr := hw.wr
    upd := h.upd.trans hw.upd (fun j hj hl => .inl (WM.trans h0 h.stay j hj hl))
    stay := h.stay.trans h.upd hw.stay
    len := hw.len.trans h.len
    src := h.src.upd hw.upd (fun j hj q1 q2 => h.far hf j hj ⟨q1, q2⟩)
    inv := hi }
theorem nones_tail {ps : List (List UInt8)} {p : List UInt8} : nones ps ≤ nones (p :: ps) := by
  unfold nones; rw [List.filter_cons]; split <;> simp
/-- bytes read into the buffer -/
theorem RfIn.read {base : Nat} {L : WLoc} {w wx w1 w2 : World} {st st1 : WS} {all : List UInt8} {sl mid s : Nat} {ps rest : List (List UInt8)} {p0 : List UInt8} {k m : Nat} {v : Value} (hf : Far w L st sl mid) (h : RfIn base L w st all sl mid s ps wx st1 (p0 :: rest) k) (hm : m ≤ p0.length) (hfit : st1.n + m ≤ st1.buf.length)
    (hp : ReadPost wx sl mid s p0 rest false L.bb st1.n m (st1.buf.map bv).toArray v w1) (hw : w2 = w1.setCell ⟨L.b, 2, none⟩ (.int .i64 ((st1.n : Int) + (m : Int)))) :
    ∃ st2, RfIn base L w st all sl mid s ps w2 st2 (srcLeft m (p0 :: rest)) (k + m) ∧ st2.n = st1.n + m ∧ st2.buf.length = st1.buf.length := by
  obtain ⟨_, hg, hsrc, hu, hz⟩ := hp
  have hcs : (p0.take m).length = m := by rw [List.length_take]; omega
  have hne := h.wr.ne
  have hfar := h.far hf
  have hb := hu.heap h.wr.hb (fun hh => by rcases hh with hh | hh; exact hne.1 hh.symm; exact hfar _ WM.cells.1 hh)
  have hsn : Snk w1 base L.s st1.room st1.ov st1.out := h.wr.snk.upd hu (fun j hj hs => by
    rcases hj with hj | hj
    · subst hj
      rcases hs with hs | hs
      · exact hne.2.2 hs.symm
      · exact h.wr.apart hs
    · rcases hs with hs | hs
      · exact hfar _ WM.cells.2.2 (by rw [← hs]; exact hj)
      · exact hfar j (.inr (.inr (.inr hs))) hj)
  have hw1 : Wr w1 base L { st1 with buf := lay st1.buf st1.n (p0.take m) } := by
    have hl : (lay st1.buf st1.n (p0.take m)).length = st1.buf.length := lay_length (by rw [hcs]; exact hfit)
    exact { h.wr with
      hb := by rw [hb]; simp [wrCells, hl]
      hbb := by rw [hg, show (st1.buf.map bv).toArray.toList = st1.buf.map bv from rfl, lay_map]
      snk := hsn
      n := by simp only [hl]; exact h.wr.n
      pos := by simp only [hl]; exact h.wr.pos
      hi := by simp only [hl]; exact h.wr.hi
      size := by rw [hz]; exact h.wr.size }
  have hl : (lay st1.buf st1.n (p0.take m)).length = st1.buf.length := lay_length (by rw [hcs]; exact hfit)
  have hw2 := hw1.setN (st1.n + m) (by show st1.n + m ≤ (lay st1.buf st1.n (p0.take m)).length; rw [hl]; exact hfit)
  have hi := h.inv.laid h.inv.ok_none (cs := p0.take m) (by rw [hcs]; exact hfit)
  rw [hcs] at hi
  have hfl := h.fl
  have hsl := srcLeft_flatten m p0 rest hm
  rw [hsl] at hfl
  have hkm : ps.flatten.take (k + m) = ps.flatten.take k ++ p0.take m := by
    rw [List.take_add, ← hfl, List.take_left' hcs]
  have hdr : (srcLeft m (p0 :: rest)).flatten = ps.flatten.drop (k + m) := by
    rw [← List.drop_drop, ← hfl, List.drop_left' hcs]
  have hub : Upd (fun j => j = L.bb ∨ (sl ≤ j ∧ j < mid)) wx w1 := hu
  rw [← show ((st1.n + m : Nat) : Int) = (st1.n : Int) + (m : Int) from Int.natCast_add _ _] at hw
  refine ⟨{ st1 with buf := lay st1.buf st1.n (p0.take m), n := st1.n + m }, ⟨by rw [hw]; exact hw2, ?_, h.stay, hl.trans h.len, ?_, ?_, hdr, ?_, Nat.le_trans (nones_srcLeft m p0 rest hm) h.nn⟩, rfl, hl⟩
  · rw [hw]
    exact (h.upd.trans hub (fun j hj _ => by rcases hj with hj | hj; exact .inl (by rw [hj]; exact WM.cells.2.1); exact .inr hj)).setCell (fun _ => .inl WM.cells.1) _
  · rw [hw]
    exact hsrc.upd ((Upd.refl (fun j => j = L.b) w1).setCell (p := ⟨L.b, 2, none⟩) (fun _ => rfl) _) (fun j hj q1 q2 => by have hj : j = L.b := hj; subst hj; exact hfar _ WM.cells.1 ⟨q1, q2⟩)
  · rw [hkm, ← List.append_assoc]; exact hi
  · have := congrArg List.length hfl
    rw [List.length_append, hcs, List.length_drop] at this
    have := h.k
    omega
theorem nones_repW (c : Nat) (ps : List (List UInt8)) : nones (List.replicate c [] ++ ps) = c + nones ps := by
  unfold nones; rw [List.filter_append, List.length_append, List.filter_replicate]; simp
/-- nothing read -/
theorem RfIn.skip {base : Nat} {L : WLoc} {w wx w1 : World} {st st1 : WS} {all : List UInt8} {sl mid s : Nat} {ps rest : List (List UInt8)} {k : Nat} {v : Value} (hf : Far w L st sl mid) (h : RfIn base L w st all sl mid s ps wx st1 ([] :: rest) k)
    (hp : ReadPost wx sl mid s [] rest false L.bb st1.n 0 (st1.buf.map bv).toArray v w1) : RfIn base L w st all sl mid s ps w1 st1 rest k := by
  obtain ⟨_, hg, hsrc, hu, hz⟩ := hp
  have hne := h.wr.ne
  have hfar := h.far hf
  have hb := hu.heap h.wr.hb (fun hh => by rcases hh with hh | hh; exact hne.1 hh.symm; exact hfar _ WM.cells.1 hh)
  have hsn : Snk w1 base L.s st1.room st1.ov st1.out := h.wr.snk.upd hu (fun j hj hs => by
    rcases hj with hj | hj
    · subst hj
      rcases hs with hs | hs
      · exact hne.2.2 hs.symm
      · exact h.wr.apart hs
    · rcases hs with hs | hs
      · exact hfar _ WM.cells.2.2 (by rw [← hs]; exact hj)
      · exact hfar j (.inr (.inr (.inr hs))) hj)
  refine ⟨{ h.wr with hb := hb, hbb := (by rw [hg]; simp [splice]), snk := hsn, size := (by rw [hz]; exact h.wr.size) }, ?_, h.stay, h.len, ?_, h.inv, ?_, h.k, Nat.le_trans nones_tail h.nn⟩
  · exact h.upd.trans (show Upd (fun j => j = L.bb ∨ (sl ≤ j ∧ j < mid)) wx w1 from hu) (fun j hj _ => by rcases hj with hj | hj; exact .inl (by rw [hj]; exact WM.cells.2.1); exact .inr hj)
  · have e : srcLeft 0 ([] :: rest) = rest := by simp [srcLeft]
    rw [e] at hsrc
    exact hsrc
  · have := h.fl
    simpa using this
theorem lit114 (T : Nat → Value) : (List.range 114).map T = [T 0, T 1, T 2, T 3, T 4, T 5, T 6, T 7, T 8, T 9, T 10, T 11, T 12, T 13, T 14, T 15, T 16, T 17, T 18, T 19, T 20, T 21, T 22, T 23, T 24, T 25, T 26, T 27, T 28, T 29, T 30, T 31, T 32, T 33, T 34, T 35, T 36, T 37, T 38, T 39, T 40, T 41, T 42, T 43, T 44, T 45, T 46, T 47, T 48, T 49, T 50, T 51, T 52, T 53, T 54, T 55, T 56, T 57, T 58, T 59, T 60, T 61, T 62, T 63, T 64, T 65, T 66, T 67, T 68, T 69, T 70, T 71, T 72, T 73, T 74, T 75, T 76, T 77, T 78, T 79, T 80, T 81, T 82, T 83, T 84, T 85, T 86, T 87, T 88, T 89, T 90, T 91, T 92, T 93, T 94, T 95, T 96, T 97, T 98, T 99, T 100, T 101, T 102, T 103, T 104, T 105, T 106, T 107, T 108, T 109, T 110, T 111, T 112, T 113] := by kernel_rfl
theorem frRf {a : Act} {p0 p1 p4 p7 : Value} (hs : a.tmps.size = 114) (hd : a.defers = []) (h0 : a.tmps[0]? = some p0) (h1 : a.tmps[1]? = some p1) (h4 : a.tmps[4]? = some p4) (h7 : a.tmps[7]? = some p7) : ∃ T : Nat → Value, a = ⟨#[p0, p1, T 2, T 3, p4, T 5, T 6, p7, T 8, T 9, T 10, T 11, T 12, T 13, T 14, T 15, T 16, T 17, T 18, T 19, T 20, T 21, T 22, T 23, T 24, T 25, T 26, T 27, T 28, T 29, T 30, T 31, T 32, T 33, T 34, T 35, T 36, T 37, T 38, T 39, T 40, T 41, T 42, T 43, T 44, T 45, T 46, T 47, T 48, T 49, T 50, T 51, T 52, T 53, T 54, T 55, T 56, T 57, T 58, T 59, T 60, T 61, T 62, T 63, T 64, T 65, T 66, T 67, T 68, T 69, T 70, T 71, T 72, T 73, T 74, T 75, T 76, T 77, T 78, T 79, T 80, T 81, T 82, T 83, T 84, T 85, T 86, T 87, T 88, T 89, T 90, T 91, T 92, T 93, T 94, T 95, T 96, T 97, T 98, T 99, T 100, T 101, T 102, T 103, T 104, T 105, T 106, T 107, T 108, T 109, T 110, T 111, T 112, T 113], []⟩ := by
  obtain ⟨T, h, hT⟩ := frame_lit a hs hd
  have e0 : T 0 = p0 := hT 0 p0 h0
  have e1 : T 1 = p1 := hT 1 p1 h1
  have e4 : T 4 = p4 := hT 4 p4 h4
  have e7 : T 7 = p7 := hT 7 p7 h7
  refine ⟨T, ?_⟩
  rw [h, lit114, e0, e1, e4, e7]
theorem frRf12 {a : Act} {p0 p1 p4 p7 p12 : Value} (hs : a.tmps.size = 114) (hd : a.defers = []) (h0 : a.tmps[0]? = some p0) (h1 : a.tmps[1]? = some p1) (h4 : a.tmps[4]? = some p4) (h7 : a.tmps[7]? = some p7) (h12 : a.tmps[12]? = some p12) : ∃ T : Nat → Value, a = ⟨#[p0, p1, T 2, T 3, p4, T 5, T 6, p7, T 8, T 9, T 10, T 11, p12, T 13, T 14, T 15, T 16, T 17, T 18, T 19, T 20, T 21, T 22, T 23, T 24, T 25, T 26, T 27, T 28, T 29, T 30, T 31, T 32, T 33, T 34, T 35, T 36, T 37, T 38, T 39, T 40, T 41, T 42, T 43, T 44, T 45, T 46, T 47, T 48, T 49, T 50, T 51, T 52, T 53, T 54, T 55, T 56, T 57, T 58, T 59, T 60, T 61, T 62, T 63, T 64, T 65, T 66, T 67, T 68, T 69, T 70, T 71, T 72, T 73, T 74, T 75, T 76, T 77, T 78, T 79, T 80, T 81, T 82, T 83, T 84, T 85, T 86, T 87, T 88, T 89, T 90, T 91, T 92, T 93, T 94, T 95, T 96, T 97, T 98, T 99, T 100, T 101, T 102, T 103, T 104, T 105, T 106, T 107, T 108, T 109, T 110, T 111, T 112, T 113], []⟩ := by
  obtain ⟨T, h, hT⟩ := frame_lit a hs hd
  have e0 : T 0 = p0 := hT 0 p0 h0
  have e1 : T 1 = p1 := hT 1 p1 h1
  have e4 : T 4 = p4 := hT 4 p4 h4
  have e7 : T 7 = p7 := hT 7 p7 h7
  have e12 : T 12 = p12 := hT 12 p12 h12
  refine ⟨T, ?_⟩
  rw [h, lit114, e0, e1, e4, e7, e12]
theorem taR (w : World) (a : Addr) : (Instr.typeAssert (.iface 82 (.pointer (some a))) 108 128 true).run Tryd.prog w = .ok (.tuple #[.nilIface, .bool false]) w := run_typeAssert_lacksB Tryd.underlying128 (by kernel_rfl) (by kernel_rfl) _ _ w
set_option maxRecDepth 100000 in
set_option maxHeartbeats 8000000 in
theorem wReadFrom {S : Err → Addr} {B : Nat} {base : Nat} {L : WLoc} {w : World} {st : WS} {all : List UInt8} {sl mid s : Nat} {ps : List (List UInt8)} (E : Env S B w) (h : Wr w base L st) (hI : Inv none st all) (hs : Src w sl mid s ps false) (hnn : nones ps ≤ 50) (hf : Far w L st sl mid) (hl : all.length + ps.flatten.length ≤ 1000000) (hB : B ≤ base ∧ B ≤ sl) :
    Calls Tryd.prog 65 #[.pointer (some ⟨L.b, 0, none⟩), .iface 65 (.pointer (some ⟨s, 0, none⟩))] w (Ret fun v w' => v = .tuple #[.int .i64 (ps.flatten.length : Int), .nilIface] ∧ ∃ st', RfIn base L w st all sl mid s ps w' st' [] ps.flatten.length) := by
  have H := Lib.hid h
  have HF := Lib.hid hf
  have HE := Lib.hid E
  have HB := Lib.hid hB
  have HST := Lib.hid (RfIn.start h hI hs hnn)
  have he := hI.ok_none
  obtain ⟨c0, c1, c2, c3, cf⟩ := h.cells
  rw [he] at c0
  change w.cell? ⟨L.b, 0, none⟩ = some .nilIface at c0
  have qa := fun w => taR w ⟨L.s, 0, none⟩
  obtain ⟨fl, hfl⟩ : ∃ fl, ps.flatten.length = fl := ⟨_, rfl⟩
  have HFL := Lib.hid hfl
  rw [hfl] at hl ⊢
  clear E h hI hs hnn hf hB he hfl
  go_enter Tryd.func65, Tryd.ntmps65
  go_wp2_with fail
  clear c0 c1 c2 c3 cf
  refine wp_loop_ghost_k (fun n a' wx => ∃ (st1 : WS) (ps1 : List (List UInt8)) (k : Nat), (RfIn base L w st all sl mid s ps wx st1 ps1 k ∧ ps1.flatten.length + 1 ≤ n) ∧ ∃ T : Nat → Value, a' = ⟨#[.pointer (some ⟨L.b, 0, none⟩), .iface 65 (.pointer (some ⟨s, 0, none⟩)), T 2, T 3, .int .i64 (k : Int), T 5, T 6, .bool false, T 8, T 9, T 10, T 11, T 12, T 13, T 14, T 15, T 16, T 17, T 18, T 19, T 20, T 21, T 22, T 23, T 24, T 25, T 26, T 27, T 28, T 29, T 30, T 31, T 32, T 33, T 34, T 35, T 36, T 37, T 38, T 39, T 40, T 41, T 42, T 43, T 44, T 45, T 46, T 47, T 48, T 49, T 50, T 51, T 52, T 53, T 54, T 55, T 56, T 57, T 58, T 59, T 60, T 61, T 62, T 63, T 64, T 65, T 66, T 67, T 68, T 69, T 70, T 71, T 72, T 73, T 74, T 75, T 76, T 77, T 78, T 79, T 80, T 81, T 82, T 83, T 84, T 85, T 86, T 87, T 88, T 89, T 90, T 91, T 92, T 93, T 94, T 95, T 96, T 97, T 98, T 99, T 100, T 101, T 102, T 103, T 104, T 105, T 106, T 107, T 108, T 109, T 110, T 111, T 112, T 113], []⟩) (fl + 1) ?_ ?_
  · exact ⟨st, ps, 0, ⟨HST.out, by rw [HFL.out]; exact Nat.le_refl _⟩, frRf rfl rfl rfl rfl rfl rfl⟩
  · rintro n _ wr ⟨st1, ps1, k, ⟨hin, hfu⟩, T, rfl⟩
    intro J K hJ hK
    have HIN := Lib.hid hin
    have HFU := Lib.hid hfu
    apply wp_block
    refine wp_seq_k (fun K4 hK4 => ?_)
    have HK4 := Lib.hid hK4
    clear hK4
    have KA := Lib.hid (wAvail hin.wr)
    have hn1 := hin.wr.n
    have hh1 := hin.wr.hi
    have hp1 := hin.wr.pos
    clear hin hfu
    refine wp_cut (fun a' wx => ∃ st2 : WS, (RfIn base L w st all sl mid s ps wx st2 ps1 k ∧ st2.n < st2.buf.length) ∧ ∃ T : Nat → Value, a' = ⟨#[.pointer (some ⟨L.b, 0, none⟩), .iface 65 (.pointer (some ⟨s, 0, none⟩)), T 2, T 3, .int .i64 (k : Int), T 5, T 6, .bool false, T 8, T 9, T 10, T 11, T 12, T 13, T 14, T 15, T 16, T 17, T 18, T 19, T 20, T 21, T 22, T 23, T 24, T 25, T 26, T 27, T 28, T 29, T 30, T 31, T 32, T 33, T 34, T 35, T 36, T 37, T 38, T 39, T 40, T 41, T 42, T 43, T 44, T 45, T 46, T 47, T 48, T 49, T 50, T 51, T 52, T 53, T 54, T 55, T 56, T 57, T 58, T 59, T 60, T 61, T 62, T 63, T 64, T 65, T 66, T 67, T 68, T 69, T 70, T 71, T 72, T 73, T 74, T 75, T 76, T 77, T 78, T 79, T 80, T 81, T 82, T 83, T 84, T 85, T 86, T 87, T 88, T 89, T 90, T 91, T 92, T 93, T 94, T 95, T 96, T 97, T 98, T 99, T 100, T 101, T 102, T 103, T 104, T 105, T 106, T 107, T 108, T 109, T 110, T 111, T 112, T 113], []⟩) ?rest ?first
    case first =>
      intro J1 K1 hJ1 hK1
      by_cases hav : st1.n < st1.buf.length
      · have q1 : ((st1.buf.length : Int) - (st1.n : Int) == 0) = false := by rw [beq_eq_false_iff_ne]; omega
        have HAV := Lib.hid hav
        clear hav
        go_wp2_with (go_at_call 66; refine callRet KA.out ?_; rintro v w2 ⟨hn2, rfl⟩; have HN2 := Lib.hid hn2; clear hn2)
        refine Met.intro ?_
        go_step
        exact ⟨st1, ⟨HIN.out.new HN2.out, HAV.out⟩, frRf rfl rfl rfl rfl rfl rfl⟩
      · have q1 : ((st1.buf.length : Int) - (st1.n : Int) == 0) = true := by rw [show (st1.buf.length : Int) - (st1.n : Int) = 0 by omega]; rfl
        have KF := Lib.hid (fun w2 (hx : New wr w2) => flush (HIN.out.wr.new hx) HIN.out.inv (by rw [List.length_append, List.length_take, HFL.out]; omega))
        clear hav
        go_wp2_with (first
          | (go_at_call 66; refine callRet KA.out ?_; rintro v w2 ⟨hn2, rfl⟩; have HN2 := Lib.hid hn2; clear hn2)
          | (go_at_call 64; refine callRet (KF.out _ HN2.out) ?_; intro v w3 hp; obtain ⟨st2, ⟨rfl, q2, _⟩, hw, hi⟩ := hp.went; have he2 := hi.ok_none; have hz := q2 he2; have hz2 := hw.len; have HW := Lib.hid hw; have HI2 := Lib.hid hi; have HZ := Lib.hid (And.intro hz hz2); rw [he2]; rw [show errW false = Value.nilIface from rfl]; clear hw hi q2 hp he2 hz hz2))
        refine Met.intro ?_
        go_step
        exact ⟨st2, ⟨(HIN.out.new HN2.out).step H.out HF.out HW.out HI2.out, by rw [HZ.out.1, HZ.out.2]; exact hp1⟩, frRf rfl rfl rfl rfl rfl rfl⟩
    case rest =>
      rintro _ wc ⟨st2, ⟨hin2, hlt2⟩, T2, rfl⟩
      refine HK4.out _ _ ?_
      clear HK4
      have HIN2 := Lib.hid hin2
      clear hin2
      go_wp2_with fail
      refine wp_loop_ghost_k (fun n a' wx => ∃ (st3 : WS) (ps3 : List (List UInt8)) (c : Nat), (RfIn base L w st all sl mid s ps wx st3 ps3 k ∧ st3.n < st3.buf.length ∧ ps1 = List.replicate c [] ++ ps3 ∧ c + n = 101) ∧ ∃ T : Nat → Value, a' = ⟨#[.pointer (some ⟨L.b, 0, none⟩), .iface 65 (.pointer (some ⟨s, 0, none⟩)), T 2, T 3, .int .i64 (k : Int), T 5, T 6, .bool false, T 8, T 9, T 10, T 11, .int .i64 (c : Int), T 13, T 14, T 15, T 16, T 17, T 18, T 19, T 20, T 21, T 22, T 23, T 24, T 25, T 26, T 27, T 28, T 29, T 30, T 31, T 32, T 33, T 34, T 35, T 36, T 37, T 38, T 39, T 40, T 41, T 42, T 43, T 44, T 45, T 46, T 47, T 48, T 49, T 50, T 51, T 52, T 53, T 54, T 55, T 56, T 57, T 58, T 59, T 60, T 61, T 62, T 63, T 64, T 65, T 66, T 67, T 68, T 69, T 70, T 71, T 72, T 73, T 74, T 75, T 76, T 77, T 78, T 79, T 80, T 81, T 82, T 83, T 84, T 85, T 86, T 87, T 88, T 89, T 90, T 91, T 92, T 93, T 94, T 95, T 96, T 97, T 98, T 99, T 100, T 101, T 102, T 103, T 104, T 105, T 106, T 107, T 108, T 109, T 110, T 111, T 112, T 113], []⟩) 101 ?_ ?_
      · exact ⟨st2, ps1, 0, ⟨HIN2.out, hlt2, rfl, rfl⟩, frRf12 rfl rfl rfl rfl rfl rfl rfl⟩
      · rintro n3 _ wl ⟨st3, ps3, c, ⟨hin3, hlt3, hps3, hcn⟩, T3, rfl⟩
        intro J6 K6 hJ6 hK6
        have hc50 : c ≤ 50 := by
          have e := HIN.out.nn
          rw [hps3, nones_repW] at e
          omega
        obtain ⟨d0, d1, d2, d3, df⟩ := hin3.wr.cells
        rw [hin3.inv.ok_none] at d0
        change wl.cell? ⟨L.b, 0, none⟩ = some .nilIface at d0
        have hh3 := hin3.wr.hi
        have hne := hin3.wr.ne.1
        have hnl : ¬ st3.buf.length = st3.n := by omega
        have HIN3 := Lib.hid hin3
        have HPS3 := Lib.hid hps3
        have HBB := Lib.hid hin3.wr.hbb
        have HOUT : Hid (¬ (sl ≤ L.bb ∧ L.bb < mid)) := Lib.hid (hin3.far HF.out _ WM.cells.2.1)
        have hff : ps1.flatten.length = ps3.flatten.length := by rw [hps3]; simp
        have HFF := Lib.hid hff
        have q0 : decide ((c : Int) < 100) = true := decide_eq_true (by omega)
        have q9 : ((c : Int) == 100) = false := by rw [beq_eq_false_iff_ne]; omega
        clear hin3 hps3 hff
        cases hps : ps3 with
        | nil =>
          have hk : k = fl := by
            have h1 := congrArg List.length HIN3.out.fl
            have h2 := HIN3.out.k
            rw [hps, List.length_drop, HFL.out] at h1
            rw [HFL.out] at h2
            have : ([] : List (List UInt8)).flatten.length = 0 := rfl
            omega
          have hkb : k ≤ 1000000 := by omega
          have hEx : Env S B wl := HE.out.upd HIN3.out.upd (fun j hj => by
            have hb := HB.out
            rcases hj with hj | hj
            · rcases hj with hj | hj | hj | hj
              · have := H.out.lo.1; omega
              · have := H.out.lo.2.1; omega
              · have := H.out.lo.2.2; omega
              · have := (H.out.snk.lt hj).1; omega
            · omega)
          have hE5 : Env S B wl.drew := hEx.new (Upd.refl _ _).drew
          have hsrc : Src wl.drew sl mid s [] false := by have := (HIN3.out.new (Upd.refl _ _).drew).src; rw [hps] at this; exact this
          have KR := Lib.hid (srcRead_nil (f := false) hE5 hsrc (.slice (some ⟨L.bb, st3.n, none⟩) (st3.buf.length - st3.n) (st3.buf.length - st3.n)))
          have HPN := Lib.hid hps
          have HK := Lib.hid hk
          have HE5 := Lib.hid hE5
          clear hsrc hps hk hEx hE5
          go_wp2_with fail
          refine wp_region_lx {} (by kernel_rfl) (by kernel_rfl) ⟨fun _ _ _ h => h.2, fun _ _ h => h⟩ ?_
          (repeat' (first | (refine wpLx_calm rfl rfl rfl (fun K hK => ?_); go_step <;> (refine hK _ ?_; clear hK K)) | (refine wpLx_skip2 rfl rfl rfl ?_; go_simp) | (refine wpLx_calm2 rfl rfl rfl rfl rfl (fun K hK => ?_); go_step <;> (refine hK _ ?_; clear hK K))))
          refine wpLx_eff rfl rfl rfl (fun K hK => ?_)
          refine wp_call KR.out (by kernel_rfl) ?_
          rintro v w1 ⟨hw1, rfl⟩
          have hin4 := (HIN3.out.new (wy := wl.drew) (Upd.refl _ _).drew).new hw1
          rw [HPN.out] at hin4
          obtain ⟨g0, g1, g2, g3, gf⟩ := hin4.wr.cells
          have hgo : ∀ w2, w2 = w1.setCell ⟨L.b, 2, none⟩ (.int .i64 (st3.n : Int)) → RfIn base L w st all sl mid s ps w2 st3 [] k := fun w2 h2 => by
            rw [h2]
            exact hin4.step H.out HF.out ((WWent.refl hin4.wr).cell 2 _ (hin4.wr.setN st3.n hin4.wr.n) rfl rfl) hin4.inv
          have HGO := Lib.hid hgo
          have hE6 := HE5.out.new hw1
          obtain ⟨w6, hw6⟩ : ∃ w6, w6 = w1.setCell ⟨L.b, 2, none⟩ (.int .i64 (st3.n : Int)) := ⟨_, rfl⟩
          have h6 := hgo w6 hw6
          have l1 : w1.cell? ⟨4, 0, none⟩ = some (.iface 134 (.pointer (some (S .eof)))) := (hE6.g .eof (by decide)).2
          have KA6 := wAvail h6.wr
          rw [hw6] at KA6
          have HKA6 := Lib.hid KA6
          have H6 := Lib.hid h6
          have HW6 := Lib.hid hw6
          have l2 : ∀ wx, wx = w1.setCell ⟨L.b, 2, none⟩ (.int .i64 (st3.n : Int)) → (binOp .eql 77 (.iface 134 (.pointer (some (S .eof)))) (.iface 134 (.pointer (some (S .eof))))).run Tryd.prog wx = .ok (.bool true) wx := fun wx hx => by
            have hEy : Env S B wx := by
              rw [hx, ← hw6]
              exact HE.out.upd h6.upd (fun j hj => by
                have hb := HB.out
                rcases hj with hj | hj
                · rcases hj with hj | hj | hj | hj
                  · have := H.out.lo.1; omega
                  · have := H.out.lo.2.1; omega
                  · have := H.out.lo.2.2; omega
                  · have := (H.out.snk.lt hj).1; omega
                · omega)
            have := hEy.eq .eof .eof
            exact this
          have l3 := l2 _ rfl
          have q7 : ((st3.buf.length : Int) - (st3.n : Int) == 0) = false := by rw [beq_eq_false_iff_ne]; omega
          rw [show eV S (some (endErr false)) = .iface 134 (.pointer (some (S .eof))) from rfl]
          clear hw1 hin4 hgo hE6 hw6 h6 KA6 l2 d0 d1 d2 d3 df
          refine hK _ _ ?_
          clear hK K
          (repeat' (first | (refine wpLx_calm rfl rfl rfl (fun K hK => ?_); go_step <;> (refine hK _ ?_; clear hK K)) | (refine wpLx_skip2 rfl rfl rfl ?_; go_simp) | (refine wpLx_calm2 rfl rfl rfl rfl rfl (fun K hK => ?_); go_step <;> (refine hK _ ?_; clear hK K))))
          all_goals refine wpLx_nil ?_
          go_wp2_with (go_at_call 66; refine callRet HKA6.out ?_; rintro v w7 ⟨hn7, rfl⟩; have HN7 := Lib.hid hn7; clear hn7)
          go_ret2
          rw [← HW6.out] at HN7
          refine ⟨by rw [HK.out]; rfl, st3, ?_⟩
          have := H6.out.new HN7.out
          rw [HK.out] at this
          exact this
        | cons p0 rest =>
          obtain ⟨m, hm⟩ : ∃ m, m = min p0.length (st3.buf.length - st3.n) := ⟨_, rfl⟩
          have hm1 : m ≤ p0.length := by omega
          have hm2 : st3.n + m ≤ st3.buf.length := by omega
          have hsrc : Src wl.drew sl mid s (p0 :: rest) false := by have := (HIN3.out.new (Upd.refl _ _).drew).src; rw [hps] at this; exact this
          have KR := Lib.hid (srcRead_cons hsrc L.bb st3.n (st3.buf.length - st3.n) (st3.buf.length - st3.n) (st3.buf.map bv).toArray HBB.out HOUT.out (by simp only [List.size_toArray, List.length_map]; omega) (Nat.le_refl _) (by omega))
          have hkb : k + m ≤ 1000000 := by
            have h1 := congrArg List.length HIN3.out.fl
            have h2 := HIN3.out.k
            rw [hps, List.flatten_cons, List.length_append, List.length_drop, HFL.out] at h1
            rw [HFL.out] at h2
            omega
          have HPN := Lib.hid hps
          have HM2 := Lib.hid hm
          clear hsrc hps hm
          go_wp2_with fail
          refine wp_region_lx {} (by kernel_rfl) (by kernel_rfl) ⟨fun _ _ _ h => h.2, fun _ _ h => h⟩ ?_
          (repeat' (first | (refine wpLx_calm rfl rfl rfl (fun K hK => ?_); go_step <;> (refine hK _ ?_; clear hK K)) | (refine wpLx_skip2 rfl rfl rfl ?_; go_simp) | (refine wpLx_calm2 rfl rfl rfl rfl rfl (fun K hK => ?_); go_step <;> (refine hK _ ?_; clear hK K))))
          refine wpLx_eff rfl rfl rfl (fun K hK => ?_)
          refine wp_call KR.out (by kernel_rfl) ?_
          rw [← HM2.out]
          intro v w1 hrp
          have hin4 := HIN3.out.new (wy := wl.drew) (Upd.refl _ _).drew
          rw [HPN.out] at hin4
          have hv : v = .tuple #[.int .i64 ((m : Nat) : Int), .nilIface] := hrp.1
          have hbx := hrp.2.2.2.1.heap hin4.wr.hb (fun hh => by
            rcases hh with hh | hh
            · exact hne hh.symm
            · exact HIN3.out.far HF.out _ WM.cells.1 hh)
          have g2 : w1.cell? ⟨L.b, 2, none⟩ = some (.int .i64 (st3.n : Int)) := by rw [World.cell_of_heap hbx]; rfl
          have gf : ∀ i, w1.frozen? ⟨L.b, i, none⟩ = false := fun i => World.frozen_of_heap hbx i
          have HRP := Lib.hid hrp
          have HIN4 := Lib.hid hin4
          rw [hv]
          clear hrp hin4 hv hbx d0 d1 d2 d3 df
          refine hK _ _ ?_
          clear hK K
          (repeat' (first | (refine wpLx_calm rfl rfl rfl (fun K hK => ?_); go_step <;> (refine hK _ ?_; clear hK K)) | (refine wpLx_skip2 rfl rfl rfl ?_; go_simp) | (refine wpLx_calm2 rfl rfl rfl rfl rfl (fun K hK => ?_); go_step <;> (refine hK _ ?_; clear hK K))))
          all_goals refine wpLx_nil ?_
          by_cases hm0 : 0 < m
          · have hmz : ((m : Int) == 0) = false := by rw [beq_eq_false_iff_ne]; omega
            have hmn : ¬ m = 0 := by omega
            go_wp2_with fail
            obtain ⟨st4, r1, r2, r3⟩ := RfIn.read HF.out HIN4.out hm1 hm2 HRP.out rfl
            have hfl2 : (p0 :: rest).flatten.length = m + (srcLeft m (p0 :: rest)).flatten.length := by
              have := congrArg List.length (srcLeft_flatten m p0 rest hm1)
              rw [List.length_append, List.length_take] at this
              omega
            rw [← Int.natCast_add]
            refine Handed.intro ((srcLeft m (p0 :: rest)).flatten.length + 1) (by have := HFU.out; rw [HFF.out, HPN.out] at this; omega) ?_
            go_step
            exact ⟨st4, srcLeft m (p0 :: rest), k + m, ⟨r1, Nat.le_refl _⟩, frRf rfl rfl rfl rfl rfl rfl⟩
          · have hm00 : m = 0 := by omega
            have hp : p0 = [] := List.eq_nil_of_length_eq_zero (by have := HM2.out; omega)
            subst hm00
            subst hp
            have HSK := Lib.hid (RfIn.skip HF.out HIN4.out HRP.out)
            clear hm0
            go_wp2_with fail
            refine Handed.intro (n3 - 1) (by omega) ?_
            go_step
            refine ⟨st3, rest, c + 1, ⟨HSK.out, hlt3, ?_, by omega⟩, frRf12 rfl rfl rfl rfl rfl rfl rfl⟩
            rw [HPS3.out, HPN.out, List.replicate_succ', List.append_assoc]
            rfl
end Go.Proofs.YtgbbogocfmepiaaDoor
