/- What a reader has left; ReadByte. -/
import Derived.Test.YtmmjfpcmempeeaaDoorFill
import Derived.Deep.LoopGhost
namespace Go.Proofs.YtmmjfpcmempeeaaDoor
open Go.RowKit
/-- all bytes that are still to come -/
def rem (st : RS) : List UInt8 := bufd st ++ st.ps.flatten
/-- only filled: the same is left -/
structure Went (st st1 : RS) : Prop where
  rem : rem st1 = rem st
  n : st1.buf.length = st.buf.length
  last : st1.last = st.last
  rune : st1.rune = st.rune
  f : st1.f = st.f
theorem Went.refl (st : RS) : Went st st := ⟨rfl, rfl, rfl, rfl, rfl⟩
theorem Went.trans {st st1 st2 : RS} (h : Went st st1) (h' : Went st1 st2) : Went st st2 := ⟨h'.rem.trans h.rem, h'.n.trans h.n, h'.last.trans h.last, h'.rune.trans h.rune, h'.f.trans h.f⟩
theorem Fill.went {st st' : RS} {chunk : List UInt8} (h : Fill st st' chunk) : Went st st' where
  rem := by unfold rem; rw [h.bd, h.src, List.append_assoc]
  n := h.n
  last := h.last
  rune := h.rune
  f := h.f
/-- how many fills may still come: bytes of the source, and the one that tells the end -/
def toFill (st : RS) : Nat := st.ps.flatten.length + (if st.err = none then 1 else 0)
theorem Fill.less {st st' : RS} {chunk : List UInt8} (h : Fill st st' chunk) (he : st.err = none) : toFill st' < toFill st := by
  unfold toFill
  have hs := congrArg List.length h.src
  rw [List.length_append] at hs
  rcases h.how with ⟨h1, h2⟩ | ⟨h1, h2, h3⟩
  · have : 0 < chunk.length := List.length_pos_iff.2 h1
    rw [h2]; omega
  · rw [h2, he, if_neg (by simp), if_pos rfl, h3]; simp
theorem bufd_nil {st : RS} (h : st.w ≤ st.r) : bufd st = [] := by unfold bufd; rw [List.drop_eq_nil_iff]; simp; omega
/-- a byte of what is buffered -/
theorem bufd_cons {st : RS} (h : st.r < st.w) (h2 : st.w ≤ st.buf.length) : bufd st = st.buf[st.r] :: bufd { st with r := st.r + 1 } := by
  unfold bufd
  rw [List.drop_eq_getElem_cons (by simp; omega)]
  simp
/-- the end: nothing is left, an error waits -/
theorem Rd.ended {S : Err → Addr} {w : World} {L : Loc} {st : RS} (h : Rd S w L st) (he : st.err ≠ none) : st.ps = [] ∧ st.err = some (endErr st.f) := by
  rcases h.errok with h1 | h1
  · exact absurd h1 he
  · exact ⟨h1.2, h1.1⟩
/-- one byte read, or the end told -/
def ByteRead (S : Err → Addr) (st : RS) (v : Value) (st' : RS) : Prop :=
  ∃ st1, Went { st with rune := -1 } st1 ∧
    ((∃ (h1 : st1.r < st1.w) (h2 : st1.w ≤ st1.buf.length), v = .tuple #[.int .u8 (st1.buf[st1.r].toNat : Int), .nilIface] ∧ st' = { st1 with r := st1.r + 1, last := (st1.buf[st1.r].toNat : Int) }) ∨
     (rem st1 = [] ∧ v = .tuple #[.int .u8 0, eV S (some (endErr st.f))] ∧ st' = { st1 with err := none }))
theorem u8_last (x : UInt8) : -1 ≤ (x.toNat : Int) ∧ (x.toNat : Int) ≤ 255 := by have := x.toNat_lt; omega
set_option maxRecDepth 100000 in
set_option maxHeartbeats 1000000 in
theorem readByte {S : Err → Addr} {B : Nat} {w : World} {L : Loc} {st : RS} (E : Env S B w) (hB : B ≤ L.lo) (h : Rd S w L st) :
    Calls Tryd.prog 44 #[.pointer (some ⟨L.b, 0, none⟩)] w (Ret (RdPost S w L (ByteRead S st))) := by
  have HE := Lib.hid E
  have HB := Lib.hid hB
  have H := Lib.hid h
  obtain ⟨c0, c1, c2, c3, c4, c5, c6, hf⟩ := h.cells
  have h0 : Rd S (w.setCell ⟨L.b, 6, none⟩ (.int .i64 (-1))) L { st with rune := -1 } := h.setRune (-1) (by omega) (by omega)
  have HI := Lib.hid (In.b h)
  have H0 := Lib.hid h0
  clear E hB h h0 c0 c1 c2 c3 c4 c5
  go_enter Tryd.func44, Tryd.ntmps44
  go_wp2
  go_loopg [] (toFill st) (fun k wx => ∃ st1, Rd S wx L st1 ∧ Upd (In L) w wx ∧ Went { st with rune := -1 } st1 ∧ toFill st1 ≤ k)
  case atStart => exact ⟨_, H0.out, (Upd.refl _ _).setCell (fun _ => HI.out) _, Went.refl _, Nat.le_refl _⟩
  case round =>
    obtain ⟨st1, h1, u1, wt, hk⟩ := hrel
    have hrw := h1.rw
    have hwn := h1.wn
    have hnhi := h1.nhi
    obtain ⟨d0, d1, d2, d3, d4, d5, d6, hf1⟩ := h1.cells
    have H1 := Lib.hid h1
    have HU := Lib.hid u1
    have HW := Lib.hid wt
    have HK := Lib.hid hk
    clear h1 u1 wt hk c6 hf
    by_cases hr : st1.r < st1.w
    · have hb := H1.out.byte (show st1.r < st1.buf.length by omega)
      clear d1 d4 d6
      have hfin : ∀ w2, w2 = ((wr.setCell ⟨L.b, 2, none⟩ (.int .i64 ((st1.r : Int) + 1))).setCell ⟨L.b, 5, none⟩ (.int .i64 (st1.buf[st1.r].toNat : Int))).drew.drew →
          RdPost S w L (ByteRead S st) (.tuple #[.int .u8 (st1.buf[st1.r].toNat : Int), .nilIface]) w2 := by
        intro w2 hw2
        subst hw2
        refine ⟨{ st1 with r := st1.r + 1, last := (st1.buf[st1.r].toNat : Int) }, ⟨st1, HW.out, .inl ⟨hr, hwn, rfl, rfl⟩⟩, ?_, ?_⟩
        · exact ((H1.out.setR (st1.r + 1) (by omega)).setLast _ (u8_last _).1 (u8_last _).2).drew.drew
        · exact ((HU.out.setCell (fun _ => HI.out) _).setCell (fun _ => HI.out) _).drew.drew
      have HFIN := Lib.hid hfin
      have hu64 : wrap64 (st1.buf[st1.r].toNat : Int) = (st1.buf[st1.r].toNat : Int) := by have := u8_last st1.buf[st1.r]; unfold wrap64; omega
      clear hfin
      go_wp2
      refine wp_region_lx {} (by kernel_rfl) (by kernel_rfl) ⟨fun _ _ _ h => h.2, fun _ _ h => h⟩ ?_
      repeat (refine wpLx_calm rfl rfl rfl (fun K hK => ?_); go_step; refine hK _ ?_; clear hK K)
      refine wpLx_nil ?_
      go_wp2
      refine wp_region_lx {} (by kernel_rfl) (by kernel_rfl) ⟨fun _ _ _ h => h.2, fun _ _ h => h⟩ ?_
      repeat (refine wpLx_calm rfl rfl rfl (fun K hK => ?_); go_step; refine hK _ ?_; clear hK K)
      refine wpLx_nil ?_
      go_wp2
      go_ret2
      exact HFIN.out _ rfl
    · have hre : st1.r = st1.w := by omega
      have HRE := Lib.hid hre
      have hro : st1.w - st1.r < st1.buf.length := by have := H1.out.nlo; omega
      have HRO := Lib.hid hro
      rw [hre] at d2
      clear hro hre d0 d1 d5 d6 hr
      cases he : st1.err with
      | none =>
        have HER := Lib.hid he
        rw [he] at d4
        simp only [eV] at d4
        clear he
        go_wp2
        refine wp_region_lx {} (by kernel_rfl) (by kernel_rfl) ⟨fun _ _ _ h => h.2, fun _ _ h => h⟩ ?_
        repeat (refine wpLx_calm rfl rfl rfl (fun K hK => ?_); go_step; refine hK _ ?_; clear hK K)
        refine wpLx_nil ?_
        go_wp2_with (go_at_call 54; refine callRet (fill ((HE.out.upd HU.out (fun k hk => by have := hk.1; have := HB.out; omega)).new (Upd.refl _ _).drew) HB.out H1.out.drew HRO.out) ?_; intro v w1 hv; have HV := Lib.hid hv; clear hv)
        obtain ⟨st2, ⟨_, chunk, hfill⟩, h2, u2⟩ := HV.out
        go_roundg (toFill st2)
        case rel => exact ⟨st2, h2, (HU.out.drew).trans u2 (fun _ h _ => h), HW.out.trans hfill.went, Nat.le_refl _⟩
        case measure => have := HK.out; have := hfill.less HER.out; omega
      | some e =>
        have HER := Lib.hid he
        rw [he] at d4
        obtain ⟨et, ev, hev⟩ : ∃ et ev, eV S (some e) = .iface et ev := by cases e <;> exact ⟨_, _, rfl⟩
        rw [hev] at d4
        have HEV := Lib.hid hev
        clear he hev
        go_wp2
        refine wp_region_lx {} (by kernel_rfl) (by kernel_rfl) ⟨fun _ _ _ h => h.2, fun _ _ h => h⟩ ?_
        repeat (refine wpLx_calm rfl rfl rfl (fun K hK => ?_); go_step; refine hK _ ?_; clear hK K)
        refine wpLx_nil ?_
        go_wp2_with (go_at_call 55; refine callRet (readErr H1.out.drew) ?_; intro v w1 hv; have HV := Lib.hid hv; clear hv)
        go_ret2
        obtain ⟨st2, ⟨hv, rfl⟩, h2, u2⟩ := HV.out
        obtain ⟨q1, q2⟩ := H1.out.ended (by rw [HER.out]; simp)
        refine ⟨_, ⟨st1, HW.out, .inr ⟨?_, ?_, rfl⟩⟩, h2, (HU.out.drew).trans u2 (fun _ h _ => h)⟩
        · unfold rem; rw [bufd_nil (Nat.le_of_eq HRE.out.symm), q1]; rfl
        · rw [hv, q2, HW.out.f]; rfl
end Go.Proofs.YtmmjfpcmempeeaaDoor
