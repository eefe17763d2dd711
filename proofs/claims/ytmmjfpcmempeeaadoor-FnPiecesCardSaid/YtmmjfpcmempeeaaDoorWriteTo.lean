/- (*bufio.Reader).WriteTo, to a bytes.Buffer. -/
import Derived.Test.YtmmjfpcmempeeaaDoorBufRead
import Derived.Stop.Asserts
namespace Go.Proofs.YtmmjfpcmempeeaaDoor
open Go.RowKit
def WroteBuf (S : Err → Addr) (L : Loc) (st : RS) (b base : Nat) (bs : List UInt8) (w : World) (v : Value) (w' : World) : Prop :=
  v = .tuple #[.int .i64 ((st.w - st.r : Nat) : Int), .nilIface] ∧ (∃ v', Buf w' b base v' (bs ++ bufd st)) ∧ Rd S w' L { st with r := st.w } ∧ Upd (fun k => k = b ∨ base ≤ k ∨ In L k) w w'
set_option maxRecDepth 100000 in
set_option maxHeartbeats 1000000 in
theorem writeBuf {S : Err → Addr} {w : World} {L : Loc} {st : RS} {b base : Nat} {v : Value} {bs : List UInt8} (h : Rd S w L st) (hbuf : Buf w b base v bs) (hlt : st.r < st.w) (hhi : L.hi ≤ base) (hb : ¬ In L b) (hbase : base ≤ w.heap.size) (hl : bs.length + (st.w - st.r) ≤ 1073741824) :
    Calls Tryd.prog 73 #[.pointer (some ⟨L.b, 0, none⟩), .iface 98 (.pointer (some ⟨b, 0, none⟩))] w (Ret (WroteBuf S L st b base bs w)) := by
  have hwn := h.wn
  have hnhi := h.nhi
  have hbl : (bufd st).length = st.w - st.r := bufd_length hwn
  have hby : BytesA w.drew (some ⟨L.bb, st.r, none⟩) (st.buf.length - st.r) (bufd st) := by
    have := h.drew.sub (k := st.w - st.r) (by omega) (a := some ⟨L.bb, st.r, none⟩) (c := st.buf.length - st.r) (.inr ⟨by omega, rfl, rfl⟩)
    rwa [List.take_of_length_le (by omega)] at this
  have hbbx : L.bb < base ∧ L.bb ≠ b := ⟨by have := h.bbhi; omega, fun e => hb (by rw [← e]; exact ⟨h.bblo.1, h.bbhi⟩)⟩
  have KW := bufWrite (hbuf.new (Upd.refl _ _).drew) hbase hby hbbx (by omega) (by omega)
  rw [hbl] at KW
  have HKW := Lib.hid KW
  obtain ⟨c0, c1, c2, c3, c4, c5, c6, hf⟩ := h.cells
  have H := Lib.hid h
  have HHI := Lib.hid hhi
  have HNB := Lib.hid hb
  have HBL := Lib.hid hbl
  clear h hbuf hhi hb hbl hby hbbx KW c1 c4 c5 c6
  go_enter Tryd.func73, Tryd.ntmps73
  go_wp2
  refine wp_region_lx {} (by kernel_rfl) (by kernel_rfl) ⟨fun _ _ _ h => h.2, fun _ _ h => h⟩ ?_
  (repeat' (first | (refine wpLx_calm rfl rfl rfl (fun K hK => ?_); go_step <;> (refine hK _ ?_; clear hK K)) | (refine wpLx_skip2 rfl rfl rfl ?_; go_simp) | (refine wpLx_calm2 rfl rfl rfl rfl rfl (fun K hK => ?_); go_step <;> (refine hK _ ?_; clear hK K))))
  refine wpLx_eff rfl rfl rfl (fun K hK => ?_)
  refine wp_call HKW.out (by kernel_rfl) ?_
  rintro v w1 ⟨rfl, ⟨v1, hb1⟩, hu1⟩
  rw [HBL.out]
  have hU1 : Upd (fun k => k = b ∨ base ≤ k) w w1 := (Upd.refl _ w).drew.trans hu1 (fun k hk _ => hk)
  have h1 := H.out.upd hU1 (fun k hk hin => by rcases hk with hk | hk; exact HNB.out (by rw [← hk]; exact hin); have := hin.2; have := HHI.out; omega)
  obtain ⟨d0, d1, d2, d3, d4, d5, d6, df⟩ := h1.cells
  have hfin : ∀ w2, w2 = w1.setCell ⟨L.b, 2, none⟩ (.int .i64 (st.w : Int)) → WroteBuf S L st b base bs w (.tuple #[.int .i64 ((st.w - st.r : Nat) : Int), .nilIface]) w2 := by
    intro w2 hw2
    subst hw2
    refine ⟨rfl, ⟨v1, hb1.upd ((Upd.refl (fun k => k = L.b) w1).setCell (p := ⟨L.b, 2, none⟩) (fun _ => rfl) _) (fun k hk hh => ?_)⟩, h1.setR st.w (Nat.le_refl _), (hU1.mono (fun k hk _ => by rcases hk with hk | hk; exact .inl hk; exact .inr (.inl hk))).setCell (fun _ => .inr (.inr (In.b h1))) _⟩
    have hk : k = L.b := hk
    rcases hh with hh | hh
    · exact HNB.out (by rw [← hh, hk]; exact In.b H.out)
    · have := H.out.bhi; have := HHI.out; omega
  have HFIN := Lib.hid hfin
  have q1 : decide (((st.w - st.r : Nat) : Int) < 0) = false := decide_eq_false (by omega)
  have i1 : (st.r : Int) + ((st.w - st.r : Nat) : Int) = (st.w : Int) := by omega
  clear hfin hU1 h1 hb1 hu1 c0 c2 c3 hf d0 d1 d3 d4 d5 d6
  refine hK _ _ ?_
  clear hK K
  (repeat' (first | (refine wpLx_calm rfl rfl rfl (fun K hK => ?_); go_step <;> (refine hK _ ?_; clear hK K)) | (refine wpLx_skip2 rfl rfl rfl ?_; go_simp) | (refine wpLx_calm2 rfl rfl rfl rfl rfl (fun K hK => ?_); go_step <;> (refine hK _ ?_; clear hK K))))
  refine wpLx_nil ?_
  go_wp2
  go_ret2
  exact HFIN.out _ rfl
theorem ta1 (w : World) (a : Addr) : (Instr.typeAssert (.iface 82 (.pointer (some a))) 102 130 true).run Tryd.prog w = .ok (.tuple #[.nilIface, .bool false]) w := run_typeAssert_lacksB Tryd.underlying130 (by kernel_rfl) (by kernel_rfl) _ _ w
theorem ta2 (w : World) (a : Addr) : (Instr.typeAssert (.iface 98 (.pointer (some a))) 128 133 true).run Tryd.prog w = .ok (.tuple #[.iface 98 (.pointer (some a)), .bool true]) w := run_typeAssert_hasB Tryd.underlying133 (by kernel_rfl) _ _ w
def WroteTo (S : Err → Addr) (L : Loc) (b base : Nat) (bs all : List UInt8) (f : Bool) (w : World) (v : Value) (w' : World) : Prop :=
  v = .tuple #[.int .i64 (all.length : Int), if f then eV S (some .fault) else .nilIface] ∧ (∃ v', Buf w' b base v' (bs ++ all)) ∧ Upd (fun k => k = b ∨ base ≤ k ∨ In L k) w w'
set_option maxRecDepth 100000 in
set_option maxHeartbeats 1000000 in
theorem writeTo {S : Err → Addr} {B : Nat} {w : World} {L : Loc} {st : RS} {b base : Nat} {v : Value} (E : Env S B w) (h : Rd S w L st) (hbuf : Buf w b base v []) (hB : B ≤ b ∧ B ≤ L.lo ∧ B ≤ base) (hhi : L.hi ≤ base) (hb : ¬ In L b) (hbb : b < base) (hbase : base ≤ w.heap.size) (hl : (rem st).length ≤ 1000000000) :
    Calls Tryd.prog 50 #[.pointer (some ⟨L.b, 0, none⟩), .iface 98 (.pointer (some ⟨b, 0, none⟩))] w (Ret (WroteTo S L b base [] (rem st) st.f w)) := by
  obtain ⟨w0, hw0⟩ : ∃ w0, w0 = (w.setCell ⟨L.b, 5, none⟩ (.int .i64 (-1))).setCell ⟨L.b, 6, none⟩ (.int .i64 (-1)) := ⟨_, rfl⟩
  have h0 : Rd S w0 L { st with last := -1, rune := -1 } := by rw [hw0]; exact (h.setLast (-1) (by omega) (by omega)).setRune (-1) (by omega) (by omega)
  have hu0 : Upd (fun k => k = L.b) w w0 := by rw [hw0]; exact ((Upd.refl (fun k => k = L.b) w).setCell (p := ⟨L.b, 5, none⟩) (fun _ => rfl) _).setCell (p := ⟨L.b, 6, none⟩) (fun _ => rfl) _
  have hbuf0 := hbuf.upd hu0 (fun k hk hh => by have hk : k = L.b := hk; rcases hh with hh | hh; exact hb (by rw [← hh, hk]; exact In.b h); have := h.bhi; omega)
  obtain ⟨c0, c1, c2, c3, c4, c5, c6, hf⟩ := h.cells
  obtain ⟨d0, d1, d2, d3, d4, d5, d6, df⟩ := h0.cells
  have HH := Lib.hid h
  have H0 := Lib.hid h0
  have HU0 := Lib.hid hu0
  have HBUF := Lib.hid hbuf0
  have HE := Lib.hid E
  have HB := Lib.hid hB
  have HHI := Lib.hid hhi
  have HNB := Lib.hid hb
  have HL := Lib.hid hl
  have HBB := Lib.hid hbb
  have HBS := Lib.hid hbase
  clear h h0 hu0 hbuf hbuf0 E hB hhi hb hl hbb hbase c0 c1 c2 c3 c4 d0 d1 d4 d5 d6 df
  have qa1 := ta1
  have qa2 := ta2
  by_cases hlt : st.r < st.w
  · have K1 := Lib.hid (writeBuf (S := S) (L := L) (H0.out.drew) (HBUF.out.new (Upd.refl _ _).drew) hlt HHI.out HNB.out (Nat.le_trans HBS.out HU0.out.size) (bs := []) (by have := HL.out; have := HH.out.wn; have := HH.out.nhi; simp; omega))
    go_enter Tryd.func50, Tryd.ntmps50
    go_wp2
    rw [← hw0]
    clear hw0
    (refine wp_region_lx {} (by kernel_rfl) (by kernel_rfl) ⟨fun _ _ _ h => h.2, fun _ _ h => h⟩ ?_; (repeat' (first | (refine wpLx_calm rfl rfl rfl (fun K hK => ?_); go_step <;> (refine hK _ ?_; clear hK K)) | (refine wpLx_skip2 rfl rfl rfl ?_; go_simp) | (refine wpLx_calm2 rfl rfl rfl rfl rfl (fun K hK => ?_); go_step <;> (refine hK _ ?_; clear hK K)))); all_goals (refine wpLx_nil ?_))
    go_wp2_with (go_at_call 73; refine callRet K1.out ?_; rintro v w1 ⟨rfl, ⟨v1, hb1⟩, h1, hu1⟩; have HU1 : Hid (Upd (fun k => k = b ∨ base ≤ k ∨ In L k) w w1) := (((HU0.out.mono (fun k hk _ => .inr (.inr (by have hk : k = L.b := hk; rw [hk]; exact In.b HH.out)))).drew).trans hu1 (fun _ h _ => h)); have HB1 := Lib.hid hb1; have H1 := Lib.hid h1; obtain ⟨e0, e1, e2, e3, e4, e5, e6, ef⟩ := h1.cells; simp only [rdV] at e1; clear hb1 h1 hu1 e0 e2 e3 e4 e5 e6 d2 d3)
    have hsrc1 : Src w1 L.sl L.mid L.s st.ps st.f := H1.out.src
    have hE1 := HE.out.upd HU1.out (fun k hk => by have := HB.out; rcases hk with hk | hk | hk; omega; omega; have := hk.1; omega)
    have hbd : bufd ({ st with last := -1, rune := -1 } : RS) = bufd st := rfl
    rw [hbd] at HB1
    have hbl : (bufd st).length = st.w - st.r := bufd_length HH.out.wn
    have hrl : (rem st).length = (st.w - st.r) + st.ps.flatten.length := by rw [← hbl]; unfold rem; rw [List.length_append]
    have KR := Lib.hid (bufReadFrom (hE1.new (Upd.refl _ _).drew) (HB1.out.new (Upd.refl _ _).drew) (hsrc1.new (Upd.refl _ _).drew) (by have := HB.out; have := HH.out.lomid; omega) (by have := HH.out.lomid; have := HHI.out; omega) (fun hh => HNB.out (by have := HH.out.lomid; exact ⟨by omega, by omega⟩)) (Nat.le_trans HBS.out HU1.out.size) (by have := HL.out; rw [hrl] at this; rw [List.nil_append, hbl]; exact this) HBB.out)
    have hfin : ∀ w2, (∃ v', Buf w2 b base v' ([] ++ bufd st ++ st.ps.flatten)) → Upd (fun k => k = b ∨ base ≤ k ∨ (L.sl ≤ k ∧ k < L.mid)) w1.drew w2 → WroteTo S L b base [] (rem st) st.f w (.tuple #[.int .i64 (((st.w - st.r : Nat) : Int) + (st.ps.flatten.length : Int)), if st.f then eV S (some .fault) else .nilIface]) w2 := by
      intro w2 h1 h2
      refine ⟨by rw [hrl, Int.natCast_add], by obtain ⟨v', h1⟩ := h1; exact ⟨v', by rw [List.append_assoc] at h1; exact h1⟩, (HU1.out.drew).trans h2 (fun k hk _ => by rcases hk with hk | hk | hk; exact .inl hk; exact .inr (.inl hk); have := HH.out.lomid; exact .inr (.inr ⟨by omega, by omega⟩))⟩
    have HFIN := Lib.hid hfin
    have hq : (st.w - st.r) + st.ps.flatten.length ≤ 1000000000 := by have := HL.out; rw [hrl] at this; exact this
    obtain ⟨pn, hpn⟩ : ∃ pn, st.ps.flatten.length = pn := ⟨_, rfl⟩
    have HPN := Lib.hid hpn
    rw [hpn] at hq
    clear hsrc1 hE1 hbd hbl hrl hfin hpn
    refine wp_region_lx {} (by kernel_rfl) (by kernel_rfl) ⟨fun _ _ _ h => h.2, fun _ _ h => h⟩ ?_
    (repeat' (first | (refine wpLx_calm rfl rfl rfl (fun K hK => ?_); go_step <;> (refine hK _ ?_; clear hK K)) | (refine wpLx_skip2 rfl rfl rfl ?_; go_simp) | (refine wpLx_calm2 rfl rfl rfl rfl rfl (fun K hK => ?_); go_step <;> (refine hK _ ?_; clear hK K))))
    refine wpLx_eff rfl rfl rfl (fun K hK => ?_)
    refine wp_call KR.out (by kernel_rfl) ?_
    rintro v w2 ⟨rfl, hb2, hu2⟩
    have HF := Lib.hid (HFIN.out w2 hb2 hu2)
    obtain ⟨ev, hev⟩ : ∃ ev, (if st.f then eV S (some .fault) else .nilIface) = ev := ⟨_, rfl⟩
    rw [hev, HPN.out] at HF ⊢
    clear hb2 hu2 hev
    refine hK _ _ ?_
    clear hK K
    (repeat' (first | (refine wpLx_calm rfl rfl rfl (fun K hK => ?_); go_step <;> (refine hK _ ?_; clear hK K)) | (refine wpLx_skip2 rfl rfl rfl ?_; go_simp) | (refine wpLx_calm2 rfl rfl rfl rfl rfl (fun K hK => ?_); go_step <;> (refine hK _ ?_; clear hK K))))
    refine wpLx_nil ?_
    go_wp2
    go_ret2
    exact HF.out
  · have hsrc1 : Src w0 L.sl L.mid L.s st.ps st.f := H0.out.src
    have hU1 : Upd (fun k => k = b ∨ base ≤ k ∨ In L k) w w0 := HU0.out.mono (fun k hk _ => .inr (.inr (by have hk : k = L.b := hk; rw [hk]; exact In.b HH.out)))
    have hE1 := HE.out.upd hU1 (fun k hk => by have := HB.out; rcases hk with hk | hk | hk; omega; omega; have := hk.1; omega)
    have hrem : rem st = st.ps.flatten := by unfold rem; rw [bufd_nil (by omega)]; rfl
    have HREM := Lib.hid hrem
    have KR : Hid (∀ w1, New w0 w1 → Calls Tryd.prog 104 #[.pointer (some ⟨b, 0, none⟩), .iface 82 (.pointer (some ⟨L.s, 0, none⟩))] w1 (Ret (ReadFromPost S b base L.sl L.mid [] st.ps.flatten st.f w1))) := fun w1 hw1 => bufReadFrom (hE1.new hw1) (HBUF.out.new hw1) (hsrc1.new hw1) (by have := HB.out; have := HH.out.lomid; omega) (by have := HH.out.lomid; have := HHI.out; omega) (fun hh => HNB.out (by have := HH.out.lomid; exact ⟨by omega, by omega⟩)) (Nat.le_trans HBS.out (Nat.le_trans HU0.out.size hw1.size)) (by have := HL.out; rw [HREM.out] at this; simpa using this) HBB.out
    have hfin : ∀ w1, New w0 w1 → ∀ w2, (∃ v', Buf w2 b base v' ([] ++ st.ps.flatten)) → Upd (fun k => k = b ∨ base ≤ k ∨ (L.sl ≤ k ∧ k < L.mid)) w1 w2 → WroteTo S L b base [] (rem st) st.f w (.tuple #[.int .i64 (st.ps.flatten.length : Int), if st.f then eV S (some .fault) else .nilIface]) w2 := by
      intro w1 hn w2 h1 h2
      rw [HREM.out]
      exact ⟨rfl, h1, (hU1.andNew hn).trans h2 (fun k hk _ => by rcases hk with hk | hk | hk; exact .inl hk; exact .inr (.inl hk); have := HH.out.lomid; exact .inr (.inr ⟨by omega, by omega⟩))⟩
    have HFIN := Lib.hid hfin
    have hq : st.ps.flatten.length ≤ 1000000000 := by have := HL.out; rw [HREM.out] at this; exact this
    obtain ⟨pn, hpn⟩ : ∃ pn, st.ps.flatten.length = pn := ⟨_, rfl⟩
    have HPN := Lib.hid hpn
    rw [hpn] at hq
    obtain ⟨e0, e1, e2, e3, e4, e5, e6, ef⟩ := H0.out.cells
    simp only [rdV] at e1
    clear hsrc1 hE1 hrem hfin hpn hU1 e0 e2 e3 e4 e5 e6
    go_enter Tryd.func50, Tryd.ntmps50
    go_wp2
    rw [← hw0]
    clear hw0
    (refine wp_region_lx {} (by kernel_rfl) (by kernel_rfl) ⟨fun _ _ _ h => h.2, fun _ _ h => h⟩ ?_; (repeat' (first | (refine wpLx_calm rfl rfl rfl (fun K hK => ?_); go_step <;> (refine hK _ ?_; clear hK K)) | (refine wpLx_skip2 rfl rfl rfl ?_; go_simp) | (refine wpLx_calm2 rfl rfl rfl rfl rfl (fun K hK => ?_); go_step <;> (refine hK _ ?_; clear hK K)))); all_goals (refine wpLx_nil ?_))
    go_wp2_with fail
    refine wp_region_lx {} (by kernel_rfl) (by kernel_rfl) ⟨fun _ _ _ h => h.2, fun _ _ h => h⟩ ?_
    (repeat' (first | (refine wpLx_calm rfl rfl rfl (fun K hK => ?_); go_step <;> (refine hK _ ?_; clear hK K)) | (refine wpLx_skip2 rfl rfl rfl ?_; go_simp) | (refine wpLx_calm2 rfl rfl rfl rfl rfl (fun K hK => ?_); go_step <;> (refine hK _ ?_; clear hK K))))
    refine wpLx_eff rfl rfl rfl (fun K hK => ?_)
    refine wp_call (KR.out _ ((Upd.refl _ w0).drew.drew)) (by kernel_rfl) ?_
    rintro v w2 ⟨rfl, hb2, hu2⟩
    have HF := Lib.hid (HFIN.out _ ((Upd.refl _ w0).drew.drew) w2 hb2 hu2)
    obtain ⟨ev, hev⟩ : ∃ ev, (if st.f then eV S (some .fault) else .nilIface) = ev := ⟨_, rfl⟩
    rw [hev, HPN.out] at HF ⊢
    clear hb2 hu2 hev
    refine hK _ _ ?_
    clear hK K
    (repeat' (first | (refine wpLx_calm rfl rfl rfl (fun K hK => ?_); go_step <;> (refine hK _ ?_; clear hK K)) | (refine wpLx_skip2 rfl rfl rfl ?_; go_simp) | (refine wpLx_calm2 rfl rfl rfl rfl rfl (fun K hK => ?_); go_step <;> (refine hK _ ?_; clear hK K))))
    refine wpLx_nil ?_
    go_wp2
    go_ret2
    exact HF.out
end Go.Proofs.YtmmjfpcmempeeaaDoor
