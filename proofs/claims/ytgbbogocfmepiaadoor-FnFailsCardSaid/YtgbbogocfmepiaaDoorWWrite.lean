/- (*bufio.Writer).Write. -/
import Derived.Test.YtgbbogocfmepiaaDoorFlush
import Derived.Test.YtgbbogocfmepiaaDoorFrame
import Derived.Deep.LoopGhost
import Derived.Deep.DeepCutAuto
namespace Go.Proofs.YtgbbogocfmepiaaDoor
open Go.RowKit
/-- a loop of Write's: so much of the bytes is gone (all of them, where it failed) -/
structure WrIn (R : Option Nat) (base : Nat) (L : WLoc) (w : World) (st : WS) (all bs : List UInt8) (wx : World) (st1 : WS) (k : Nat) : Prop where
  went : WWent base L w st wx st1
  inv : Inv R st1 (all ++ if st1.err then bs else bs.take k)
  k : k ≤ bs.length
  was : st.err = true → st1.err = true
def fuelW (st1 : WS) (k : Nat) (bs : List UInt8) : Nat := if st1.err then 0 else 2 * (bs.length - k) + (if st1.n = 0 then 0 else 1) + 1
def FullN (st : WS) : Prop := st.err = false → st.n = 0
def FullW (e : Bool) (a b : Nat) : Prop := e = false → a = b
/-- what Write tells -/
def WrP (st : WS) (n : Nat) (v : Value) (st' : WS) : Prop := ∃ x : Int, v = .tuple #[.int .i64 x, errW st'.err] ∧ (st'.err = false → x = (n : Int)) ∧ (st.err = true → st'.err = true)
theorem WrIn.start {R : Option Nat} {base : Nat} {L : WLoc} {w : World} {st : WS} {all : List UInt8} (h : Wr w base L st) (hI : Inv R st all) (bs : List UInt8) : WrIn R base L w st all bs w st 0 := by
  refine ⟨WWent.refl h, ?_, Nat.zero_le _, fun hh => hh⟩
  cases he : st.err with
  | true => exact hI.more he bs
  | false => simp only [List.take_zero]; simpa using hI
/-- bytes laid into the buffer -/
theorem WrIn.laid {R : Option Nat} {base : Nat} {L : WLoc} {w wx w1 w2 : World} {st st1 : WS} {all bs : List UInt8} {k m : Nat} (h : WrIn R base L w st all bs wx st1 k) (he : st1.err = false) (hm : k + m ≤ bs.length) (hfit : st1.n + m ≤ st1.buf.length) (u : Upd (fun j => j = L.bb) wx w1)
    (hb : w1.heap[L.bb]? = some (.cells (splice (st1.buf.map bv).toArray.toList st1.n (((bs.drop k).take m).map bv)).toArray 5 (0, 0))) (hw : w2 = w1.setCell ⟨L.b, 2, none⟩ (.int .i64 ((st1.n : Int) + (m : Int)))) :
    WrIn R base L w st all bs w2 { st1 with buf := lay st1.buf st1.n ((bs.drop k).take m), n := st1.n + m } (k + m) := by
  have hl : ((bs.drop k).take m).length = m := by rw [List.length_take, List.length_drop]; omega
  have h2 := h.went.laid (cs := (bs.drop k).take m) (by rw [hl]; exact hfit) u hb
  rw [hl] at h2
  have hi := h.inv
  rw [he] at hi
  have h3 := hi.laid he (cs := (bs.drop k).take m) (by rw [hl]; exact hfit)
  rw [hl] at h3
  refine ⟨by rw [hw, show ((st1.n : Int) + (m : Int)) = ((st1.n + m : Nat) : Int) by omega]; exact h2, ?_, hm, fun hh => by have := h.was hh; rw [he] at this; cases this⟩
  show Inv R _ (all ++ if st1.err then bs else bs.take (k + m))
  rw [show (if st1.err = true then bs else bs.take (k + m)) = (if false = true then bs else bs.take (k + m)) by rw [he]]
  have e : (all ++ if false = true then bs else bs.take k) ++ (bs.drop k).take m = all ++ if false = true then bs else bs.take (k + m) := by
    simp only [Bool.false_eq_true, if_false]
    rw [List.append_assoc, List.take_add]
  rw [← e]
  exact h3
/-- flushed -/
theorem WrIn.flushed {R : Option Nat} {base : Nat} {L : WLoc} {w wx w1 : World} {st st1 : WS} {all bs : List UInt8} {k : Nat} {v : Value} (h0 : Wr w base L st) (h : WrIn R base L w st all bs wx st1 k) (he : st1.err = false) (hp : WPost R base L st1 (all ++ bs.take k) (FlP st1) wx v w1) :
    ∃ st2, WrIn R base L w st all bs w1 st2 k ∧ v = errW st2.err ∧ (st2.err = false → st2.n = 0) := by
  obtain ⟨st2, ⟨q1, q2, _⟩, hw, hi⟩ := hp.went
  refine ⟨st2, ⟨WWent.trans h0 h.went hw, ?_, h.k, fun hh => by have := h.was hh; rw [he] at this; cases this⟩, q1, q2⟩
  cases he2 : st2.err with
  | false => exact hi
  | true =>
    have := hi.more he2 (bs.drop k)
    rw [List.append_assoc, List.take_append_drop] at this
    exact this
/-- handed to the sink at once -/
theorem WrIn.direct {R : Option Nat} {base : Nat} {L : WLoc} {w wx w1 : World} {st st1 : WS} {all bs : List UInt8} {k : Nat} {v : Value} (h0 : Wr w base L st) (h : WrIn R base L w st all bs wx st1 k) (he : st1.err = false) (hn : st1.n = 0) (hp : SinkPost base L.s st1.room st1.ov st1.out (bs.drop k) wx v w1) :
    ∃ (m : Nat) (e : Bool), v = .tuple #[.int .i64 (m : Int), errW e] ∧ k + m ≤ bs.length ∧ (e = false → k + m = bs.length) ∧ w1.cell? ⟨L.b, 0, none⟩ = some .nilIface ∧ (∀ i, w1.frozen? ⟨L.b, i, none⟩ = false) ∧ ∃ ov', ∀ w2, w2 = w1.setCell ⟨L.b, 0, none⟩ (errW e) → WrIn R base L w st all bs w2 { st1 with room := roomOf st1.room (bs.drop k).length, out := st1.out ++ (bs.drop k).take (takes st1.room (bs.drop k).length), ov := ov', err := e } (k + m) := by
  have hk := h.k
  have hle := takes_le st1.room (bs.drop k).length
  have hdl : (bs.drop k).length = bs.length - k := List.length_drop
  have hi := h.inv
  rw [he] at hi
  have hheld : held st1 = [] := by unfold held; rw [hn]; rfl
  have hout : st1.out = all ++ if false = true then bs else bs.take k := by have := (hi.ok he).1; rw [hheld, List.append_nil] at this; exact this
  have hall : st1.out ++ bs.drop k = all ++ bs := by
    rw [hout]
    simp only [Bool.false_eq_true, if_false]
    rw [List.append_assoc, List.take_append_drop]
  obtain ⟨i1, i2⟩ := hi.sunk he (bs.drop k)
  rw [hall] at i1 i2
  obtain ⟨ov', hw⟩ := WWent.sunk h0 h.went hp
  refine ⟨takes st1.room (bs.drop k).length, decide (takes st1.room (bs.drop k).length < (bs.drop k).length), hp.1, by omega, fun hd => ?_, by have := hw.wr.cells.1; change w1.cell? ⟨L.b, 0, none⟩ = some (errW st1.err) at this; rw [he] at this; exact this, hw.wr.cells.2.2.2.2, ov', fun w2 hw2 => ?_⟩
  · have := of_decide_eq_false hd
    omega
  · rw [hw2]
    refine ⟨hw.cell 0 _ (hw.wr.setErr _) rfl rfl, ?_, by omega, fun hh => by have := h.was hh; rw [he] at this; cases this⟩
    by_cases hd : takes st1.room (bs.drop k).length < (bs.drop k).length
    · rw [decide_eq_true hd]
      exact i2 hd st1.buf st1.n ov'
    · rw [decide_eq_false hd]
      have ht : takes st1.room (bs.drop k).length = (bs.drop k).length := by omega
      have h9 := i1 ht st1.buf ov'
      have e9 : (all ++ if false = true then bs else bs.take (k + takes st1.room (bs.drop k).length)) = all ++ bs := by
        simp only [Bool.false_eq_true, if_false]
        rw [ht, List.length_drop, show k + (bs.length - k) = bs.length by omega, List.take_length]
      show Inv R _ (all ++ if false = true then bs else bs.take (k + takes st1.room (bs.drop k).length))
      rw [e9]
      rw [← hn] at h9
      exact h9
theorem WrIn.new {R : Option Nat} {base : Nat} {L : WLoc} {w wx wy : World} {st st1 : WS} {all bs : List UInt8} {k : Nat} (h : WrIn R base L w st all bs wx st1 k) (u : New wx wy) : WrIn R base L w st all bs wy st1 k := ⟨h.went.new u, h.inv, h.k, h.was⟩
theorem WrIn.bound {R : Option Nat} {base : Nat} {L : WLoc} {w wx : World} {st st1 : WS} {all bs : List UInt8} {k : Nat} (h : WrIn R base L w st all bs wx st1 k) (hl : all.length + bs.length ≤ 1000000) : st1.out.length + (bs.drop k).length ≤ 1000000000 := by
  have h1 := h.inv.out_le
  rw [List.length_append] at h1
  have h2 : (if st1.err = true then bs else bs.take k).length ≤ bs.length := by
    split
    · exact Nat.le_refl _
    · rw [List.length_take]; omega
  rw [List.length_drop]
  omega
theorem lit95 (T : Nat → Value) : (List.range 95).map T = [T 0, T 1, T 2, T 3, T 4, T 5, T 6, T 7, T 8, T 9, T 10, T 11, T 12, T 13, T 14, T 15, T 16, T 17, T 18, T 19, T 20, T 21, T 22, T 23, T 24, T 25, T 26, T 27, T 28, T 29, T 30, T 31, T 32, T 33, T 34, T 35, T 36, T 37, T 38, T 39, T 40, T 41, T 42, T 43, T 44, T 45, T 46, T 47, T 48, T 49, T 50, T 51, T 52, T 53, T 54, T 55, T 56, T 57, T 58, T 59, T 60, T 61, T 62, T 63, T 64, T 65, T 66, T 67, T 68, T 69, T 70, T 71, T 72, T 73, T 74, T 75, T 76, T 77, T 78, T 79, T 80, T 81, T 82, T 83, T 84, T 85, T 86, T 87, T 88, T 89, T 90, T 91, T 92, T 93, T 94] := by kernel_rfl
theorem frWrite {a : Act} {p0 p1 p4 : Value} (hs : a.tmps.size = 95) (hd : a.defers = []) (h0 : a.tmps[0]? = some p0) (h1 : a.tmps[1]? = some p1) (h4 : a.tmps[4]? = some p4) : ∃ T : Nat → Value, a = ⟨#[p0, p1, T 2, T 3, p4, T 5, T 6, T 7, T 8, T 9, T 10, T 11, T 12, T 13, T 14, T 15, T 16, T 17, T 18, T 19, T 20, T 21, T 22, T 23, T 24, T 25, T 26, T 27, T 28, T 29, T 30, T 31, T 32, T 33, T 34, T 35, T 36, T 37, T 38, T 39, T 40, T 41, T 42, T 43, T 44, T 45, T 46, T 47, T 48, T 49, T 50, T 51, T 52, T 53, T 54, T 55, T 56, T 57, T 58, T 59, T 60, T 61, T 62, T 63, T 64, T 65, T 66, T 67, T 68, T 69, T 70, T 71, T 72, T 73, T 74, T 75, T 76, T 77, T 78, T 79, T 80, T 81, T 82, T 83, T 84, T 85, T 86, T 87, T 88, T 89, T 90, T 91, T 92, T 93, T 94], []⟩ := by
  obtain ⟨T, h, hT⟩ := frame_lit a hs hd
  have e0 : T 0 = p0 := hT 0 p0 h0
  have e1 : T 1 = p1 := hT 1 p1 h1
  have e4 : T 4 = p4 := hT 4 p4 h4
  refine ⟨T, ?_⟩
  rw [h, lit95, e0, e1, e4]
/-- what is left of the bytes, as a slice -/
def Rest (pb po c : Nat) (bs : List UInt8) (o1 c1 k : Nat) : Prop := ∀ wy, BytesA wy (some ⟨pb, po, none⟩) c bs → BytesA wy (some ⟨pb, o1, none⟩) c1 (bs.drop k)
theorem Rest.start (pb po c : Nat) (bs : List UInt8) : Rest pb po c bs po c 0 := fun _ h => h
theorem Rest.next {pb po c o1 c1 k : Nat} {bs : List UInt8} (h : Rest pb po c bs o1 c1 k) {m o2 c2 : Nat} (hm : k + m ≤ bs.length) (hor : (c1 = m ∧ o2 = o1 ∧ c2 = 0) ∨ (c1 ≠ m ∧ o2 = o1 + m ∧ c2 = c1 - m)) : Rest pb po c bs o2 c2 (k + m) := fun wy hy => by
  have h1 := h wy hy
  have h2 := h1.sub (lo := m) (hi := (bs.drop k).length) (by rw [List.length_drop]; omega) (Nat.le_refl _) hor
  rwa [List.take_length, List.drop_drop] at h2
set_option maxRecDepth 100000 in
set_option maxHeartbeats 8000000 in
theorem wWrite {R : Option Nat} {w : World} {base : Nat} {L : WLoc} {st : WS} {all bs : List UInt8} {pb po c : Nat} (h : Wr w base L st) (hI : Inv R st all) (hl : all.length + bs.length ≤ 1000000) (hp : BytesA w (some ⟨pb, po, none⟩) c bs) (hpw : ¬ WM L st.ov pb) :
    Calls Tryd.prog 60 #[.pointer (some ⟨L.b, 0, none⟩), .slice (some ⟨pb, po, none⟩) bs.length c] w (Ret (WPost R base L st (all ++ bs) (WrP st bs.length) w)) := by
  have H := Lib.hid h
  have HI := Lib.hid hI
  have HP := Lib.hid hp
  have HPW := Lib.hid hpw
  have hbc := hp.1
  have hbm := hp.2.1
  unfold maxLen at hbm
  have HST := Lib.hid (WrIn.start h hI bs)
  clear h hI hp hpw
  obtain ⟨bl, hbl⟩ : ∃ bl, bs.length = bl := ⟨_, rfl⟩
  have HBL := Lib.hid hbl
  rw [hbl] at hl hbc ⊢
  clear hbl
  go_enter Tryd.func60, Tryd.ntmps60
  refine wp_seq_k (fun K0 hK0 => ?_)
  have HK0 := Lib.hid hK0
  clear hK0
  go_wp2_with fail
  refine HK0.out _ _ ?_
  clear HK0
  refine wp_seq_k (fun K2 hK2 => ?_)
  have HK2 := Lib.hid hK2
  clear hK2
  refine wp_cut (fun a' wx => ∃ (st1 : WS) (k o1 c1 : Nat), (WrIn R base L w st all bs wx st1 k ∧ Rest pb po c bs o1 c1 k ∧ (st1.err = true ∨ bl - k ≤ st1.buf.length - st1.n)) ∧ ∃ T : Nat → Value, a' = ⟨#[.pointer (some ⟨L.b, 0, none⟩), .slice (some ⟨pb, o1, none⟩) (bl - k) c1, T 2, T 3, .int .i64 (k : Int), T 5, T 6, T 7, T 8, T 9, T 10, T 11, T 12, T 13, T 14, T 15, T 16, T 17, T 18, T 19, T 20, T 21, T 22, T 23, T 24, T 25, T 26, T 27, T 28, T 29, T 30, T 31, T 32, T 33, T 34, T 35, T 36, T 37, T 38, T 39, T 40, T 41, T 42, T 43, T 44, T 45, T 46, T 47, T 48, T 49, T 50, T 51, T 52, T 53, T 54, T 55, T 56, T 57, T 58, T 59, T 60, T 61, T 62, T 63, T 64, T 65, T 66, T 67, T 68, T 69, T 70, T 71, T 72, T 73, T 74, T 75, T 76, T 77, T 78, T 79, T 80, T 81, T 82, T 83, T 84, T 85, T 86, T 87, T 88, T 89, T 90, T 91, T 92, T 93, T 94], []⟩) ?rest ?first
  case first =>
    intro J1 K1 hJ1 hK1
    go_wp2_with fail
    refine wp_loop_ghost_k (fun n a' wx => ∃ (st1 : WS) (k o1 c1 : Nat), (WrIn R base L w st all bs wx st1 k ∧ Rest pb po c bs o1 c1 k ∧ fuelW st1 k bs ≤ n) ∧ ∃ T : Nat → Value, a' = ⟨#[.pointer (some ⟨L.b, 0, none⟩), .slice (some ⟨pb, o1, none⟩) (bl - k) c1, T 2, T 3, .int .i64 (k : Int), T 5, T 6, T 7, T 8, T 9, T 10, T 11, T 12, T 13, T 14, T 15, T 16, T 17, T 18, T 19, T 20, T 21, T 22, T 23, T 24, T 25, T 26, T 27, T 28, T 29, T 30, T 31, T 32, T 33, T 34, T 35, T 36, T 37, T 38, T 39, T 40, T 41, T 42, T 43, T 44, T 45, T 46, T 47, T 48, T 49, T 50, T 51, T 52, T 53, T 54, T 55, T 56, T 57, T 58, T 59, T 60, T 61, T 62, T 63, T 64, T 65, T 66, T 67, T 68, T 69, T 70, T 71, T 72, T 73, T 74, T 75, T 76, T 77, T 78, T 79, T 80, T 81, T 82, T 83, T 84, T 85, T 86, T 87, T 88, T 89, T 90, T 91, T 92, T 93, T 94], []⟩) (fuelW st 0 bs) ?_ ?_
    · exact ⟨st, 0, po, c, ⟨HST.out, Rest.start _ _ _ _, Nat.le_refl _⟩, frWrite rfl rfl rfl rfl rfl⟩
    · rintro n _ wr ⟨st1, k, o1, c1, ⟨hin, hrest, hfu⟩, T, rfl⟩
      intro J K hJ hK
      have HIN := Lib.hid hin
      have HREST := Lib.hid hrest
      have HFU := Lib.hid hfu
      have hkl : k ≤ bl := by rw [← HBL.out]; exact hin.k
      have hby := hrest wr (HP.out.upd hin.went.upd (fun p hp _ hh => by simp only [Option.some.injEq] at hp; subst hp; exact HPW.out hh))
      have hc1 := hby.1
      have hc2 := hby.2.1
      unfold maxLen at hc2
      rw [List.length_drop, HBL.out] at hc1
      obtain ⟨d0, d1, d2, d3, df⟩ := hin.went.wr.cells
      have hn1 := hin.went.wr.n
      have hh1 := hin.went.wr.hi
      have KA := Lib.hid (wAvail hin.went.wr)
      have HBY := Lib.hid hby
      clear hin hrest hfu hby
      cases he : st1.err with
      | true =>
        have HE := Lib.hid he
        rw [he] at d0
        change wr.cell? ⟨L.b, 0, none⟩ = some (.iface 106 (.agg #[])) at d0
        clear he
        by_cases hlt : st1.buf.length - st1.n < bl - k
        · have q1 : decide ((st1.buf.length : Int) - (st1.n : Int) < ((bl - k : Nat) : Int)) = true := decide_eq_true (by omega)
          go_wp2_with (first | (go_at_call 66; refine callRet KA.out ?_; rintro v w2 ⟨hn2, rfl⟩; have HN2 := Lib.hid hn2; have e0 := hn2.cell d0 (fun h => h); clear hn2))
          refine Met.intro ?_
          go_step
          exact ⟨st1, k, o1, c1, ⟨HIN.out.new HN2.out, HREST.out, .inl HE.out⟩, frWrite rfl rfl rfl rfl rfl⟩
        · have q1 : decide ((st1.buf.length : Int) - (st1.n : Int) < ((bl - k : Nat) : Int)) = false := decide_eq_false (by omega)
          go_wp2_with (go_at_call 66; refine callRet KA.out ?_; rintro v w2 ⟨hn2, rfl⟩; have HN2 := Lib.hid hn2; clear hn2)
          refine Met.intro ?_
          go_step
          exact ⟨st1, k, o1, c1, ⟨HIN.out.new HN2.out, HREST.out, .inl HE.out⟩, frWrite rfl rfl rfl rfl rfl⟩
      | false =>
        rw [he] at d0
        change wr.cell? ⟨L.b, 0, none⟩ = some .nilIface at d0
        by_cases hlt : st1.buf.length - st1.n < bl - k
        · have q1 : decide ((st1.buf.length : Int) - (st1.n : Int) < ((bl - k : Nat) : Int)) = true := decide_eq_true (by omega)
          have HE := Lib.hid he
          clear he
          have hdl : (bs.drop k).length = bl - k := by rw [List.length_drop, HBL.out]
          by_cases hn0 : st1.n = 0
          · have KS : ∀ w2, New wr w2 → Calls Tryd.prog 98 #[.pointer (some ⟨L.s, 0, none⟩), .slice (some ⟨pb, o1, none⟩) (bl - k) c1] w2 (Ret (SinkPost base L.s st1.room st1.ov st1.out (bs.drop k) w2)) := fun w2 hx => by
              have hw := HIN.out.went.wr
              have := sinkWrite (hw.snk.upd hx (fun _ hh _ => hh)) (Nat.le_trans hw.size hx.size) (HBY.out.new hx) (fun hh => by rw [hh] at hdl; simp at hdl; omega) (fun e => HPW.out (.inr (.inr (.inl e)))) ⟨hw.rlo, hw.rhi⟩ (HIN.out.bound (by rw [HBL.out]; exact hl))
              rw [hdl] at this
              exact this
            have HKS := Lib.hid KS
            have HN0 := Lib.hid hn0
            have KB := fun w2 (hx : New wr w2) => wBuffered (HIN.out.went.wr.new hx)
            rw [hn0] at KB
            have HKB := Lib.hid KB
            have hm : ∀ w : World, (method 253 82 (.pointer (some ⟨L.s, 0, none⟩)) "Write").run Tryd.prog w = .ok (98, .pointer (some ⟨L.s, 0, none⟩)) w := fun w => by kernel_rfl
            clear KS KB hn0
            go_wp2_with (first
              | (go_at_call 66; refine callRet KA.out ?_; rintro v w2 ⟨hn2, rfl⟩; have HN2 := Lib.hid hn2; have e0 := hn2.cell d0 (fun h => h); have e3 := hn2.cell d3 (fun h => h); clear hn2)
              | (go_at_call 67; refine callRet (HKB.out _ HN2.out) ?_; rintro v w3 ⟨rfl, rfl⟩)
              | (go_at_call 98; refine callRet (HKS.out _ HN2.out) ?_; intro v w4 hp; obtain ⟨m, e, rfl, hm1, hm2, x0, xf, ov', hin2⟩ := (WrIn.direct H.out (HIN.out.new HN2.out) HE.out HN0.out hp); rw [HBL.out] at hm1 hm2; have HIN2 := Lib.hid hin2; have HM2 : Hid (FullW e (k + m) bl) := Lib.hid hm2; clear hp hin2 hm2 e0 e3; obtain ⟨eo, heo, hee⟩ : ∃ eo, errW e = eo ∧ ((e = true ∧ eo = .iface 106 (.agg #[])) ∨ (e = false ∧ eo = .nilIface)) := ⟨_, rfl, by cases e <;> simp [errW]⟩; rcases hee with ⟨rfl, rfl⟩ | ⟨rfl, rfl⟩; all_goals rw [heo]))
            all_goals
              rw [Nat.sub_sub, ← Int.natCast_add]
              refine Handed.intro 1 (by have := HFU.out; unfold fuelW at this; rw [if_neg (by rw [HE.out]; simp), HBL.out] at this; omega) ?_
              go_step
              refine ⟨_, k + m, _, _, ⟨HIN2.out _ rfl, HREST.out.next (m := m) (by rw [HBL.out]; exact hm1) ?_, ?_⟩, frWrite rfl rfl rfl rfl rfl⟩
              · first | exact .inl ⟨by assumption, rfl, rfl⟩ | exact .inr ⟨by assumption, rfl, rfl⟩
              · unfold fuelW
                first
                  | (rw [if_pos rfl]; omega)
                  | (rw [if_neg (fun h => by cases h), HBL.out, if_pos HN0.out]; have := HM2.out rfl; omega)
          · have hne : L.bb ≠ L.b := HIN.out.went.wr.ne.1
            have q2 : ((st1.n : Int) == 0) = false := by rw [beq_eq_false_iff_ne]; omega
            have KB := Lib.hid (fun w2 (hx : New wr w2) => wBuffered (HIN.out.went.wr.new hx))
            have HBB : Hid (∀ w2, New wr w2 → w2.heap[L.bb]? = some (.cells (st1.buf.map bv).toArray 5 (0, 0))) := Lib.hid (fun w2 hx => (HIN.out.went.wr.new hx).hbb)
            by_cases hav : st1.n < st1.buf.length
            · obtain ⟨m, hm⟩ : ∃ m, m = st1.buf.length - st1.n := ⟨_, rfl⟩
              have hmA : m < bl - k := by omega
              have hmB : st1.n + m ≤ st1.buf.length := by omega
              have hmC : st1.buf.length ≤ st1.n + m := by omega
              have HCL : Hid (((bs.drop k).take m).length = m) := Lib.hid (by rw [List.length_take, hdl]; omega)
              have hnl : ¬ st1.buf.length = st1.n := by omega
              clear hdl hm
              go_wp2_with (first
                | (go_at_call 66; refine callRet KA.out ?_; rintro v w2 ⟨hn2, rfl⟩; have HN2 := Lib.hid hn2; have e0 := hn2.cell d0 (fun h => h); have e1 := hn2.cell d1 (fun h => h); have e2 := hn2.cell d2 (fun h => h); clear hn2)
                | (go_at_call 67; refine callRet (KB.out _ HN2.out) ?_; rintro v w3 ⟨rfl, rfl⟩))
              refine wp_region_lx {} (by kernel_rfl) (by kernel_rfl) ⟨fun _ _ _ h => h.2, fun _ _ h => h⟩ ?_
              (repeat' (first | (refine wpLx_calm rfl rfl rfl (fun K hK => ?_); go_step <;> (refine hK _ ?_; clear hK K)) | (refine wpLx_skip2 rfl rfl rfl ?_; go_simp) | (refine wpLx_calm2 rfl rfl rfl rfl rfl (fun K hK => ?_); go_step <;> (refine hK _ ?_; clear hK K))))
              refine wpLx_eff rfl rfl rfl (fun K hK => ?_)
              refine wp_copy eB (.tmp 43) (.tmp 44) 29 rfl L.bb st1.n (st1.buf.length - st1.n) (st1.buf.length - st1.n) rfl (st1.buf.map bv).toArray 5 (HBB.out _ HN2.out.drew) (some ⟨pb, o1, none⟩) (bl - k) c1 rfl (fun hh => by cases hh) (((bs.drop k).take m).map bv) (by rw [List.length_map, HCL.out]; omega) (fun p hp => by cases hp; exact ((HBY.out.new HN2.out.drew).take m).news) (by rw [List.length_map, HCL.out]; simp only [List.size_toArray, List.length_map]; omega) (oneCell_bytes _) ?_
              intro w3 hw3 hu3 hz3
              rw [List.length_map, HCL.out]
              have hlaid := fun w4 (hw4 : w4 = w3.setCell ⟨L.b, 2, none⟩ (.int .i64 ((st1.n : Int) + (m : Int)))) => WrIn.laid (w2 := w4) (m := m) (HIN.out.new HN2.out.drew) HE.out (by rw [HBL.out]; omega) (by omega) hu3 hw3 hw4
              have HLAID := Lib.hid hlaid
              have d2' : w3.cell? ⟨L.b, 2, none⟩ = some (.int .i64 (st1.n : Int)) := hu3.cell (HN2.out.cell d2 (fun h => h)) (fun hh => hne hh.symm)
              have df' : ∀ i, w3.frozen? ⟨L.b, i, none⟩ = false := fun i => World.frozen_of_heap (hu3.heap (HIN.out.new HN2.out.drew).went.wr.hb (fun hh => hne hh.symm)) i
              clear hw3 hu3 hz3 hlaid d0 d1 d2 d3 df e0 e1 e2
              refine hK _ _ ?_
              clear hK K
              (repeat' (first | (refine wpLx_calm rfl rfl rfl (fun K hK => ?_); go_step <;> (refine hK _ ?_; clear hK K)) | (refine wpLx_skip2 rfl rfl rfl ?_; go_simp) | (refine wpLx_calm2 rfl rfl rfl rfl rfl (fun K hK => ?_); go_step <;> (refine hK _ ?_; clear hK K))))
              all_goals refine wpLx_nil ?_
              have hin2 := HLAID.out _ rfl
              have hiv := hin2.inv
              change Inv R _ (all ++ if st1.err then bs else bs.take (k + m)) at hiv
              rw [if_neg (by rw [HE.out]; simp)] at hiv
              have KF := Lib.hid (flush hin2.went.wr hiv (by rw [List.length_append, List.length_take]; have := HBL.out; omega))
              have HIN2 := Lib.hid hin2
              clear hin2 hiv
              go_wp2_with (go_at_call 64; refine callRet KF.out ?_; intro v w5 hp; obtain ⟨st3, hin3, hv, hn3⟩ := WrIn.flushed H.out HIN2.out HE.out hp; have HIN3 := Lib.hid hin3; have HN3 : Hid (FullN st3) := Lib.hid hn3; clear hp hin3 hn3 hv)
              all_goals
                rw [Nat.sub_sub, ← Int.natCast_add]
                refine Handed.intro (2 * (bl - (k + m)) + 1) (by have := HFU.out; unfold fuelW at this; rw [if_neg (by rw [HE.out]; simp), HBL.out, if_neg hn0] at this; omega) ?_
                go_step
                refine ⟨st3, k + m, _, _, ⟨HIN3.out, HREST.out.next (m := m) (by rw [HBL.out]; omega) ?_, ?_⟩, frWrite rfl rfl rfl rfl rfl⟩
                · first | exact .inl ⟨by assumption, rfl, rfl⟩ | exact .inr ⟨by assumption, rfl, rfl⟩ | exact .inl ⟨by omega, rfl, rfl⟩ | exact .inr ⟨by omega, rfl, rfl⟩
                · unfold fuelW
                  cases he3 : st3.err with
                  | true => rw [if_pos rfl]; omega
                  | false => rw [if_neg (fun h => by cases h), HBL.out, if_pos (HN3.out he3)]; omega
            · have hnl : st1.buf.length = st1.n := by omega
              have HNL := Lib.hid hnl
              have HCL : Hid (((bs.drop k).take 0).length = 0) := Lib.hid (by simp)
              clear hnl hdl hav
              go_wp2_with (first
                | (go_at_call 66; refine callRet KA.out ?_; rintro v w2 ⟨hn2, rfl⟩; have HN2 := Lib.hid hn2; have e0 := hn2.cell d0 (fun h => h); have e1 := hn2.cell d1 (fun h => h); have e2 := hn2.cell d2 (fun h => h); clear hn2)
                | (go_at_call 67; refine callRet (KB.out _ HN2.out) ?_; rintro v w3 ⟨rfl, rfl⟩))
              refine wp_region_lx {} (by kernel_rfl) (by kernel_rfl) ⟨fun _ _ _ h => h.2, fun _ _ h => h⟩ ?_
              (repeat' (first | (refine wpLx_calm rfl rfl rfl (fun K hK => ?_); go_step <;> (refine hK _ ?_; clear hK K)) | (refine wpLx_skip2 rfl rfl rfl ?_; go_simp) | (refine wpLx_calm2 rfl rfl rfl rfl rfl (fun K hK => ?_); go_step <;> (refine hK _ ?_; clear hK K))))
              try rw [if_pos HNL.out]
              refine wpLx_eff rfl rfl rfl (fun K hK => ?_)
              refine wp_copy eB (.tmp 43) (.tmp 44) 29 rfl L.bb 0 (st1.buf.length - st1.n) (st1.buf.length - st1.n) rfl (st1.buf.map bv).toArray 5 (HBB.out _ HN2.out.drew) (some ⟨pb, o1, none⟩) (bl - k) c1 rfl (fun hh => by cases hh) (((bs.drop k).take 0).map bv) (by rw [List.length_map, HCL.out]; have := HNL.out; omega) (fun p hp => by cases hp; exact ((HBY.out.new HN2.out.drew).take 0).news) (by rw [List.length_map, HCL.out]; omega) (oneCell_bytes _) ?_
              intro w3 hw3 hu3 hz3
              rw [List.length_map, HCL.out]
              have hlaid := fun w4 (hw4 : w4 = w3.setCell ⟨L.b, 2, none⟩ (.int .i64 ((st1.n : Int) + ((0 : Nat) : Int)))) => WrIn.laid (w2 := w4) (m := 0) (HIN.out.new HN2.out.drew) HE.out (by rw [HBL.out]; omega) (by have := HNL.out; omega) hu3 (by rw [hw3]; simp [splice]) hw4
              have HLAID := Lib.hid hlaid
              have d2' : w3.cell? ⟨L.b, 2, none⟩ = some (.int .i64 (st1.n : Int)) := hu3.cell (HN2.out.cell d2 (fun h => h)) (fun hh => hne hh.symm)
              have df' : ∀ i, w3.frozen? ⟨L.b, i, none⟩ = false := fun i => World.frozen_of_heap (hu3.heap (HIN.out.new HN2.out.drew).went.wr.hb (fun hh => hne hh.symm)) i
              clear hw3 hu3 hz3 hlaid d0 d1 d2 d3 df e0 e1 e2
              refine hK _ _ ?_
              clear hK K
              (repeat' (first | (refine wpLx_calm rfl rfl rfl (fun K hK => ?_); go_step <;> (refine hK _ ?_; clear hK K)) | (refine wpLx_skip2 rfl rfl rfl ?_; go_simp) | (refine wpLx_calm2 rfl rfl rfl rfl rfl (fun K hK => ?_); go_step <;> (refine hK _ ?_; clear hK K))))
              all_goals refine wpLx_nil ?_
              have hin2 := HLAID.out _ rfl
              have hiv := hin2.inv
              change Inv R _ (all ++ if st1.err then bs else bs.take (k + 0)) at hiv
              rw [if_neg (by rw [HE.out]; simp)] at hiv
              have KF := Lib.hid (flush hin2.went.wr hiv (by rw [List.length_append, List.length_take]; have := HBL.out; omega))
              have HIN2 := Lib.hid hin2
              clear hin2 hiv
              go_wp2_with (go_at_call 64; refine callRet KF.out ?_; intro v w5 hp; obtain ⟨st3, hin3, hv, hn3⟩ := WrIn.flushed H.out HIN2.out HE.out hp; have HIN3 := Lib.hid hin3; have HN3 : Hid (FullN st3) := Lib.hid hn3; clear hp hin3 hn3 hv)
              all_goals
                skip
                refine Handed.intro (2 * (bl - (k + 0)) + 1) (by have := HFU.out; unfold fuelW at this; rw [if_neg (by rw [HE.out]; simp), HBL.out, if_neg hn0] at this; omega) ?_
                go_step
                refine ⟨st3, k + 0, _, _, ⟨HIN3.out, HREST.out.next (m := 0) (by rw [HBL.out]; omega) ?_, ?_⟩, frWrite rfl rfl rfl rfl rfl⟩
                · first | exact .inl ⟨by assumption, rfl, rfl⟩ | exact .inr ⟨by assumption, rfl, rfl⟩ | exact .inl ⟨by omega, rfl, rfl⟩ | exact .inr ⟨by omega, rfl, rfl⟩
                · unfold fuelW
                  cases he3 : st3.err with
                  | true => rw [if_pos rfl]; omega
                  | false => rw [if_neg (fun h => by cases h), HBL.out, if_pos (HN3.out he3)]; omega
        · have q1 : decide ((st1.buf.length : Int) - (st1.n : Int) < ((bl - k : Nat) : Int)) = false := decide_eq_false (by omega)
          have HF := Lib.hid (show bl - k ≤ st1.buf.length - st1.n by omega)
          go_wp2_with (go_at_call 66; refine callRet KA.out ?_; rintro v w2 ⟨hn2, rfl⟩; have HN2 := Lib.hid hn2; clear hn2)
          refine Met.intro ?_
          go_step
          exact ⟨st1, k, o1, c1, ⟨HIN.out.new HN2.out, HREST.out, .inr HF.out⟩, frWrite rfl rfl rfl rfl rfl⟩
  case rest =>
    rintro _ wc ⟨st1, k, o1, c1, ⟨hin, hrest, hor⟩, T1, rfl⟩
    refine HK2.out _ _ ?_
    clear HK2
    have HIN := Lib.hid hin
    have hkl : k ≤ bl := by rw [← HBL.out]; exact hin.k
    have hby := hrest wc (HP.out.upd hin.went.upd (fun p hp _ hh => by simp only [Option.some.injEq] at hp; subst hp; exact HPW.out hh))
    have hc1 := hby.1
    have hc2 := hby.2.1
    unfold maxLen at hc2
    rw [List.length_drop, HBL.out] at hc1
    obtain ⟨d0, d1, d2, d3, df⟩ := hin.went.wr.cells
    have hn1 := hin.went.wr.n
    have hh1 := hin.went.wr.hi
    have hne : L.bb ≠ L.b := hin.went.wr.ne.1
    have HBB : Hid (wc.heap[L.bb]? = some (.cells (st1.buf.map bv).toArray 5 (0, 0))) := Lib.hid hin.went.wr.hbb
    have HBY := Lib.hid hby
    clear hin hrest hby
    cases he : st1.err with
    | true =>
      have HE := Lib.hid he
      rw [he] at d0
      change wc.cell? ⟨L.b, 0, none⟩ = some (.iface 106 (.agg #[])) at d0
      clear he hor
      go_wp2_with fail
      refine wp_region_lx {} (by kernel_rfl) (by kernel_rfl) ⟨fun _ _ _ h => h.2, fun _ _ h => h⟩ ?_
      (repeat' (first | (refine wpLx_calm rfl rfl rfl (fun K hK => ?_); go_step <;> (refine hK _ ?_; clear hK K)) | (refine wpLx_skip2 rfl rfl rfl ?_; go_simp) | (refine wpLx_calm2 rfl rfl rfl rfl rfl (fun K hK => ?_); go_step <;> (refine hK _ ?_; clear hK K))))
      all_goals refine wpLx_nil ?_
      go_wp2_with fail
      go_ret2
      have hin2 := HIN.out.new ((Upd.refl (fun _ => False) wc).drew)
      have hiv := hin2.inv
      rw [if_pos HE.out] at hiv
      exact hin2.went.post hiv ⟨_, by rw [HE.out]; rfl, fun hh => (by rw [HE.out] at hh; cases hh), fun hh => hin2.was hh⟩
    | false =>
      have HE := Lib.hid he
      have hfit : bl - k ≤ st1.buf.length - st1.n := by
        rcases hor with h | h
        · rw [he] at h; cases h
        · exact h
      rw [he] at d0
      change wc.cell? ⟨L.b, 0, none⟩ = some .nilIface at d0
      have hdl : (bs.drop k).length = bl - k := by rw [List.length_drop, HBL.out]
      clear he hor
      by_cases hav : st1.n < st1.buf.length
      · obtain ⟨m, hm⟩ : ∃ m, m = bl - k := ⟨_, rfl⟩
        have hmA : k + m ≤ bl := by omega
        have hmD : bl ≤ k + m := by omega
        have HCL : Hid (((bs.drop k).take m).length = m) := Lib.hid (by rw [List.length_take, hdl]; omega)
        have hnl : ¬ st1.buf.length = st1.n := by omega
        clear hdl hm
        go_wp2_with fail
        refine wp_region_lx {} (by kernel_rfl) (by kernel_rfl) ⟨fun _ _ _ h => h.2, fun _ _ h => h⟩ ?_
        (repeat' (first | (refine wpLx_calm rfl rfl rfl (fun K hK => ?_); go_step <;> (refine hK _ ?_; clear hK K)) | (refine wpLx_skip2 rfl rfl rfl ?_; go_simp) | (refine wpLx_calm2 rfl rfl rfl rfl rfl (fun K hK => ?_); go_step <;> (refine hK _ ?_; clear hK K))))
        refine wpLx_eff rfl rfl rfl (fun K hK => ?_)
        refine wp_copy eB (.tmp 80) (.tmp 81) 29 rfl L.bb st1.n (st1.buf.length - st1.n) (st1.buf.length - st1.n) rfl (st1.buf.map bv).toArray 5 HBB.out (some ⟨pb, o1, none⟩) (bl - k) c1 rfl (fun hh => by cases hh) (((bs.drop k).take m).map bv) (by rw [List.length_map, HCL.out]; omega) (fun p hp => by cases hp; exact ((HBY.out.new (Upd.refl _ _).drew).take m).news) (by rw [List.length_map, HCL.out]; simp only [List.size_toArray, List.length_map]; omega) (oneCell_bytes _) ?_
        intro w3 hw3 hu3 hz3
        rw [List.length_map, HCL.out]
        have hlaid := fun w4 (hw4 : w4 = w3.setCell ⟨L.b, 2, none⟩ (.int .i64 ((st1.n : Int) + (m : Nat)))) => WrIn.laid (w2 := w4) (m := m) (HIN.out.new (Upd.refl _ _).drew) HE.out (by rw [HBL.out]; omega) (by omega) hu3 hw3 hw4
        have HLAID := Lib.hid hlaid
        have d2' : w3.cell? ⟨L.b, 2, none⟩ = some (.int .i64 (st1.n : Int)) := hu3.cell d2 (fun hh => hne hh.symm)
        have df' : ∀ i, w3.frozen? ⟨L.b, i, none⟩ = false := fun i => World.frozen_of_heap (hu3.heap HIN.out.went.wr.hb (fun hh => hne hh.symm)) i
        clear hw3 hu3 hz3 hlaid d0 d1 d2 d3 df
        refine hK _ _ ?_
        clear hK K
        (repeat' (first | (refine wpLx_calm rfl rfl rfl (fun K hK => ?_); go_step <;> (refine hK _ ?_; clear hK K)) | (refine wpLx_skip2 rfl rfl rfl ?_; go_simp) | (refine wpLx_calm2 rfl rfl rfl rfl rfl (fun K hK => ?_); go_step <;> (refine hK _ ?_; clear hK K))))
        all_goals refine wpLx_nil ?_
        go_wp2_with fail
        go_ret2
        have hin2 := HLAID.out _ rfl
        have hiv := hin2.inv
        change Inv R _ (all ++ if st1.err then bs else bs.take (k + m)) at hiv
        rw [if_neg (by rw [HE.out]; simp), show bs.take (k + m) = bs from List.take_of_length_le (by rw [HBL.out]; omega)] at hiv
        refine hin2.went.post hiv ⟨_, by show _ = Value.tuple #[_, errW st1.err]; rw [HE.out]; rfl, fun _ => ?_, fun hh => hin2.was hh⟩
        omega
      · have hnl : st1.buf.length = st1.n := by omega
        have HNL := Lib.hid (And.intro hnl (show bl ≤ k by omega))
        have HCL : Hid (((bs.drop k).take 0).length = 0) := Lib.hid (by simp)
        clear hnl hdl hav
        go_wp2_with fail
        refine wp_region_lx {} (by kernel_rfl) (by kernel_rfl) ⟨fun _ _ _ h => h.2, fun _ _ h => h⟩ ?_
        (repeat' (first | (refine wpLx_calm rfl rfl rfl (fun K hK => ?_); go_step <;> (refine hK _ ?_; clear hK K)) | (refine wpLx_skip2 rfl rfl rfl ?_; go_simp) | (refine wpLx_calm2 rfl rfl rfl rfl rfl (fun K hK => ?_); go_step <;> (refine hK _ ?_; clear hK K))))
        try rw [if_pos HNL.out.1]
        refine wpLx_eff rfl rfl rfl (fun K hK => ?_)
        refine wp_copy eB (.tmp 80) (.tmp 81) 29 rfl L.bb 0 (st1.buf.length - st1.n) (st1.buf.length - st1.n) rfl (st1.buf.map bv).toArray 5 HBB.out (some ⟨pb, o1, none⟩) (bl - k) c1 rfl (fun hh => by cases hh) (((bs.drop k).take 0).map bv) (by rw [List.length_map, HCL.out]; have := HNL.out; omega) (fun p hp => by cases hp; exact ((HBY.out.new (Upd.refl _ _).drew).take 0).news) (by rw [List.length_map, HCL.out]; simp only [List.size_toArray, List.length_map]; have := HNL.out; omega) (oneCell_bytes _) ?_
        intro w3 hw3 hu3 hz3
        rw [List.length_map, HCL.out]
        have hlaid := fun w4 (hw4 : w4 = w3.setCell ⟨L.b, 2, none⟩ (.int .i64 ((st1.n : Int) + (0 : Nat)))) => WrIn.laid (w2 := w4) (m := 0) (HIN.out.new (Upd.refl _ _).drew) HE.out (by rw [HBL.out]; omega) (by have := HNL.out; omega) hu3 (by rw [hw3]; simp [splice]) hw4
        have HLAID := Lib.hid hlaid
        have d2' : w3.cell? ⟨L.b, 2, none⟩ = some (.int .i64 (st1.n : Int)) := hu3.cell d2 (fun hh => hne hh.symm)
        have df' : ∀ i, w3.frozen? ⟨L.b, i, none⟩ = false := fun i => World.frozen_of_heap (hu3.heap HIN.out.went.wr.hb (fun hh => hne hh.symm)) i
        clear hw3 hu3 hz3 hlaid d0 d1 d2 d3 df
        refine hK _ _ ?_
        clear hK K
        (repeat' (first | (refine wpLx_calm rfl rfl rfl (fun K hK => ?_); go_step <;> (refine hK _ ?_; clear hK K)) | (refine wpLx_skip2 rfl rfl rfl ?_; go_simp) | (refine wpLx_calm2 rfl rfl rfl rfl rfl (fun K hK => ?_); go_step <;> (refine hK _ ?_; clear hK K))))
        all_goals refine wpLx_nil ?_
        go_wp2_with fail
        go_ret2
        have hin2 := HLAID.out _ rfl
        have hiv := hin2.inv
        change Inv R _ (all ++ if st1.err then bs else bs.take (k + 0)) at hiv
        rw [if_neg (by rw [HE.out]; simp), show bs.take (k + 0) = bs from List.take_of_length_le (by rw [HBL.out]; have := HNL.out; omega)] at hiv
        refine hin2.went.post hiv ⟨_, by show _ = Value.tuple #[_, errW st1.err]; rw [HE.out]; rfl, fun _ => ?_, fun hh => hin2.was hh⟩
        have := HNL.out; omega
end Go.Proofs.YtgbbogocfmepiaaDoor
