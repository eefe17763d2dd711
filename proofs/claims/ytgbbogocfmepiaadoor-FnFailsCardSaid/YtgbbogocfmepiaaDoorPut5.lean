/- impl.put: ReadFrom; and each step. -/
import Derived.Test.YtgbbogocfmepiaaDoorPut2
namespace Go.Proofs.YtgbbogocfmepiaaDoor
open Go.RowKit
/-- where the source's blocks lie -/
theorem put5_far {w w1 : World} {base : Nat} {L : WLoc} {st : WS} (h : Wr w base L st) (hz : w.heap.size ≤ w1.heap.size) {mid : Nat} {w2 : World} (hm : mid ≤ w2.heap.size) : Far w2 L st w1.heap.size mid := ⟨hm, fun j hj hh => by have := (h.lt hj).2; omega⟩
/-- a step's end, where it used blocks of its own -/
theorem rf_around {base : Nat} {L : WLoc} {w w1 w2 w3 w4 : World} {st st1 : WS} {all : List UInt8} {sl mid s k : Nat} {ps ps1 : List (List UInt8)} (h0 : Wr w base L st) (hn : New w w1) (hz : w.heap.size + 2 ≤ w1.heap.size) (hsl : w.heap.size + 2 ≤ sl) (h : RfIn base L w1 st all sl mid s ps w2 st1 ps1 k) (hn2 : New w2 w3) (u : Upd (fun k => k = w.heap.size + 1) w3 w4) : WWent base L w st w4 st1 := by
  have hst : Stay w st.ov st1.ov := fun k hk => by
    rcases h.stay k hk with q | q
    · exact .inl q
    · exact .inr (by omega)
  refine ⟨(h.wr.new hn2).upd u (fun k hk hw => ?_), ?_, hst, h.len⟩
  · have hk : k = w.heap.size + 1 := hk
    have hlt : k < w.heap.size ∨ w1.heap.size ≤ k := by
      rcases hw with q | q | q | q
      · exact .inl (h0.lt (.inl q)).2
      · exact .inl (h0.lt (.inr (.inl q))).2
      · exact .inl (h0.lt (.inr (.inr (.inl q)))).2
      · rcases h.stay k q with q | q
        · exact .inl (h0.lt (.inr (.inr (.inr q)))).2
        · exact .inr q
    omega
  · exact ((((Upd.refl (WM L st.ov) w).andNew hn).trans h.upd (fun k hk hl => by
      rcases hk with hk | hk
      · exact hk
      · omega)).andNew hn2).trans u (fun k hk hl => by have hk : k = w.heap.size + 1 := hk; omega)
/-- the answer's cell behind it -/
theorem rf_ans {base : Nat} {L : WLoc} {w w1 w2 w3 : World} {st st1 : WS} {all : List UInt8} {sl mid s n : Nat} {ps ps1 : List (List UInt8)} {k : Int} {v1 : Value} {r : Int} {v3 : Value} (h0 : Wr w base L st) (hn : New (P2 w k v1 r v3) w1) (hsl : w.heap.size + 2 ≤ sl) (h : RfIn base L w1 st all sl mid s ps w2 st1 ps1 n) (hn2 : New w2 w3) : w3.heap[w.heap.size + 1]? = some (.cells #[.int .i64 0, .int .i64 0] 54 (0, 0)) :=
  P2_ans ((((Upd.refl (fun j => WM L st.ov j ∨ (sl ≤ j ∧ j < mid)) _).andNew hn).trans h.upd (fun _ h _ => h)).andNew hn2) (fun hh => by
    rcases hh with hh | hh
    · have := (h0.lt hh).2; omega
    · omega)
theorem rf_env {S : Err → Addr} {B base : Nat} {L : WLoc} {w w1 w2 : World} {st st1 : WS} {all : List UInt8} {sl mid s k : Nat} {ps ps1 : List (List UInt8)} (E : Env S B w1) (hB : B ≤ base) (h0 : Wr w base L st) (hsl : B ≤ sl) (h : RfIn base L w1 st all sl mid s ps w2 st1 ps1 k) : Env S B w2 := E.upd h.upd (fun j hk => by
  rcases hk with hk | hk
  · have := (h0.lt hk).1; omega
  · omega)
set_option maxRecDepth 100000 in
set_option maxHeartbeats 2000000 in
theorem put5 {S : Err → Addr} {B : Nat} {w : World} {base : Nat} {L : WLoc} {st : WS} {all : List UInt8} (P : PutIn S B w none base L st all) {a a' : Option Addr} {bs : List UInt8} {c c' : Nat} {r : Int} {ps : List (List UInt8)} (G : PutG w a a' bs c c' r ps) :
    Calls Tryd.prog 48 #[.pointer (some ⟨L.b, 0, none⟩), .agg #[.int .i64 5, .slice a bs.length c, .int .i32 r, .slice a' ps.length c']] w (Ret (PutPost none base L st all ⟨5, bs, r, ps⟩ w)) := by
  have hn := P2_new w 5 (.slice a bs.length c) r (.slice a' ps.length c')
  have hz := P2_size w 5 (.slice a bs.length c) r (.slice a' ps.length c')
  have hbc := G.b.1
  have hbm := G.b.2.1
  unfold maxLen at hbm
  have hsrc := G.s
  unfold srcOk at hsrc
  simp only [Bool.and_eq_true, decide_eq_true_eq] at hsrc
  obtain ⟨⟨hs1, hs2⟩, hs3⟩ := hsrc
  rw [← lensum_flatten] at hs1
  have KR := Lib.hid (readerOf a' c' ps false _ (G.p.new hn) (by omega) (by omega))
  have HP := Lib.hid P
  have HN := Lib.hid hn
  have HZ := Lib.hid hz
  have KF : Hid (∀ (w2 : World) (s : Nat), New (P2 w 5 (.slice a bs.length c) r (.slice a' ps.length c')) w2 → Src w2 (P2 w 5 (.slice a bs.length c) r (.slice a' ps.length c')).heap.size w2.heap.size s ps false → Calls Tryd.prog 65 #[.pointer (some ⟨L.b, 0, none⟩), .iface 65 (.pointer (some ⟨s, 0, none⟩))] w2 (Ret fun v w' => v = .tuple #[.int .i64 (ps.flatten.length : Int), .nilIface] ∧ ∃ st', RfIn base L w2 st all (P2 w 5 (.slice a bs.length c) r (.slice a' ps.length c')).heap.size w2.heap.size s ps w' st' [] ps.flatten.length)) := by
    intro w2 s hn2 hsr
    have hnn := hn.andNew hn2
    have hpl := P.len
    exact wReadFrom (P.e.new hnn) (P.wr.new hnn) P.inv hsr hs3 (put5_far P.wr (by rw [hz]; omega) (Nat.le_refl _)) (by omega) ⟨P.b, by have := P.b; have := P.wr.size; rw [hz]; omega⟩
  obtain ⟨fl, hfl⟩ : ∃ fl, ps.flatten.length = fl := ⟨_, rfl⟩
  rw [hfl] at KF
  have HFL := Lib.hid hfl
  clear P hn hz G hs1 hs2 hs3 hfl
  go_enter Tryd.func48, Tryd.ntmps48
  go_wp2_with (first | (go_at_call 31; refine callRet KR.out ?_; rintro v w2 ⟨hn2, s, rfl, hsr⟩; have HN2 := Lib.hid hn2; have HNN : Hid (New w w2) := HN.out.andNew hn2; have HZ2 : Hid (w.heap.size + 2 ≤ w2.heap.size) := (by have h3 := hn2.size; have h4 := HZ.out; rw [Hid]; omega); have KW := Lib.hid (KF.out w2 s hn2 hsr); clear hn2 hsr) | (go_at_call 65; refine callRet KW.out ?_; rintro v w3 ⟨rfl, st1, hrf⟩; have HE2 := Lib.hid (rf_env (HP.out.e.new HNN.out) HP.out.b HP.out.wr (by have := HP.out.b; have := HP.out.wr.size; have := HZ.out; omega) hrf); have HKC := Lib.hid (codeOfW HE2.out false); have HRF := Lib.hid hrf; clear hrf; change Hid (Calls _ _ #[.nilIface] _ _) at HKC) | (go_at_call 38; refine callRet HKC.out ?_; rintro v w5 ⟨rfl, rfl⟩) | (refine wpList_plain rfl (fun K hK => ?_); refine wp_storeAll (n := 2) (by kernel_rfl) (.tmp 4) (.tmp 93) rfl (w.heap.size + 1) rfl #[.int .i64 (fl : Int), .int .i64 0] rfl rfl (by simp [Value.oneCell']) _ 54 (rf_ans HP.out.wr HN2.out (Nat.le_of_eq HZ.out.symm) HRF.out (Upd.refl _ _)) rfl ?_; intro w4 h4 u4 z4; refine hK _ _ ?_; clear hK K))
  refine bodyPost_ret (results_cell_row (p := 4) rfl _ _ (w.heap.size + 1) 54 _ (0, 0) _ rfl h4 Tryd.underlying54 rfl (by kernel_rfl)) rfl ?_
  have he1 := HRF.out.inv.ok_none
  have hrfw := rf_around HP.out.wr HNN.out HZ2.out (Nat.le_of_eq HZ.out.symm) HRF.out (Upd.refl _ _) u4
  refine ⟨st1, (fl : Int), 0, rfl, ⟨fun _ => ⟨by rw [he1]; rfl, fun _ => ?_, fun hh => ?_, fun hh => (by cases hh)⟩, fun hh => (by have hh : (5:Int) < 5 := hh; omega), fun hh => (by cases hh), fun hh => (by cases hh), fun hh => (by cases hh)⟩, hrfw, ?_⟩
  · rw [← HFL.out]; rfl
  · rw [HP.out.inv.ok_none] at hh; cases hh
  · have := HRF.out.inv
    rw [← HFL.out, List.take_length] at this
    exact this
/-- each step -/
theorem put {S : Err → Addr} {B : Nat} {w : World} {R : Option Nat} {base : Nat} {L : WLoc} {st : WS} {all : List UInt8} (P : PutIn S B w R base L st all) {x : PutS} {v1 v3 : Value} (h : PutV w v1 v3 x) (hg : goodP x = true) (h5 : x.k = 5 → R = none) :
    Calls Tryd.prog 48 #[.pointer (some ⟨L.b, 0, none⟩), x.v v1 v3] w (Ret (PutPost R base L st all x w)) := by
  obtain ⟨⟨a, c, rfl, hb⟩, a', c', rfl, hp⟩ := h
  obtain ⟨k, bs, r, ps⟩ := x
  unfold goodP okP at hg
  simp only [Bool.and_eq_true, Bool.or_eq_true, decide_eq_true_eq] at hg
  obtain ⟨⟨hk0, hk8⟩, ⟨⟨⟨hbl, hr0⟩, hr1⟩, hr2⟩, hs⟩ := hg
  have G : PutG w a a' bs c c' r ps := ⟨hb, hp, hbl, ⟨hr0, hr1, hr2⟩, hs⟩
  unfold PutS.v
  have hk0 : 0 ≤ k := hk0
  have hk8 : k ≤ 8 := hk8
  have h5 : k = 5 → R = none := h5
  obtain ⟨n, rfl⟩ := Int.eq_ofNat_of_zero_le hk0
  match n, hk8 with
  | 0, _ => exact put0 P G
  | 1, _ => exact put1 P G
  | 2, _ => exact put2 P G
  | 3, _ => exact put3 P G
  | 4, _ => exact put4 P G
  | 5, _ =>
    have hR := h5 rfl
    subst hR
    exact put5 P G
  | 6, _ => exact put6 P G
  | 7, _ => exact put7 P G
  | 8, _ => exact put8 P G
  | n + 9, h => omega
end Go.Proofs.YtgbbogocfmepiaaDoor
