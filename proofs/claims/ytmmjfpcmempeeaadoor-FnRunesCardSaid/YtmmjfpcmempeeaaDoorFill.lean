/- (*Reader).fill, readErr. -/
import Derived.Test.YtmmjfpcmempeeaaDoorRd
import Derived.Deep.DeepCutAuto
namespace Go.Proofs.YtmmjfpcmempeeaaDoor
open Go.RowKit
/-- what is in the buffer and not yet read -/
def bufd (st : RS) : List UInt8 := (st.buf.take st.w).drop st.r
theorem bufd_length {st : RS} (h2 : st.w ≤ st.buf.length) : (bufd st).length = st.w - st.r := by unfold bufd; simp; omega
/-- what a function on a reader leaves: the reader in a state of which 'p' is said; its own blocks alone turned -/
def RdPost (S : Err → Addr) (w : World) (L : Loc) (p : Value → RS → Prop) (v : Value) (w' : World) : Prop := ∃ st', p v st' ∧ Rd S w' L st' ∧ Upd (In L) w w'
/-- the buffer's bytes written anew -/
theorem Rd.putBuf {S : Err → Addr} {w w1 : World} {L : Loc} {st : RS} (h : Rd S w L st) (buf' : List UInt8) (u : Upd (fun k => k = L.bb) w w1) (hl : buf'.length = st.buf.length) (hb : w1.heap[L.bb]? = some (.cells (buf'.map bv).toArray 5 (0, 0))) : Rd S w1 L { st with buf := buf' } where
  hb := by rw [u.heap h.hb (fun hh => h.ne hh.symm)]; simp [rdCells, hl]
  hbb := hb
  src := h.src.upd u (fun k hk q1 q2 => by subst hk; have := h.bblo; omega)
  blo := h.blo
  bhi := h.bhi
  bblo := h.bblo
  bbhi := h.bbhi
  lomid := h.lomid
  rw := h.rw
  wn := by simp only [hl]; exact h.wn
  nlo := by simp only [hl]; exact h.nlo
  nhi := by simp only [hl]; exact h.nhi
  empties := h.empties
  errok := h.errok
  lastlo := h.lastlo
  lasthi := h.lasthi
  runelo := h.runelo
  runehi := h.runehi
theorem readErr {S : Err → Addr} {w : World} {L : Loc} {st : RS} (h : Rd S w L st) :
    Calls Tryd.prog 55 #[.pointer (some ⟨L.b, 0, none⟩)] w (Ret (RdPost S w L (fun v st' => v = eV S st.err ∧ st' = { st with err := none }))) := by
  obtain ⟨c0, c1, c2, c3, c4, c5, c6, hf⟩ := h.cells
  have h' := h.setErr none (.inl rfl)
  have H := Lib.hid h'
  have HI : Hid (In L L.b) := ⟨by have := h.blo; have := h.lomid; omega, h.bhi⟩
  clear h h'
  cases he : st.err with
  | none =>
    rw [he] at c4
    go_enter Tryd.func55, Tryd.ntmps55
    go_wp2
    go_ret
    exact ⟨_, ⟨rfl, rfl⟩, H.out, (Upd.refl _ _).setCell (fun _ => HI.out) _⟩
  | some e =>
    rw [he] at c4
    cases e <;>
    · go_enter Tryd.func55, Tryd.ntmps55
      go_wp2
      go_ret
      exact ⟨_, ⟨rfl, rfl⟩, H.out, (Upd.refl _ _).setCell (fun _ => HI.out) _⟩
/-- what is in the buffer has moved to its beginning -/
structure Slide (st st1 : RS) : Prop where
  r : st1.r = 0
  bd : bufd st1 = bufd st
  n : st1.buf.length = st.buf.length
  err : st1.err = st.err
  last : st1.last = st.last
  rune : st1.rune = st.rune
  ps : st1.ps = st.ps
  f : st1.f = st.f
theorem In.b {S : Err → Addr} {w : World} {L : Loc} {st : RS} (h : Rd S w L st) : In L L.b := ⟨by have := h.blo; have := h.lomid; omega, h.bhi⟩
theorem In.bb {S : Err → Addr} {w : World} {L : Loc} {st : RS} (h : Rd S w L st) : In L L.bb := ⟨by have := h.bblo; have := h.lomid; omega, h.bbhi⟩
/-- filled: more bytes of the source, or its end -/
structure Fill (st st' : RS) (chunk : List UInt8) : Prop where
  r : st'.r = 0
  bd : bufd st' = bufd st ++ chunk
  n : st'.buf.length = st.buf.length
  last : st'.last = st.last
  rune : st'.rune = st.rune
  f : st'.f = st.f
  src : st.ps.flatten = chunk ++ st'.ps.flatten
  how : (chunk ≠ [] ∧ st'.err = st.err) ∨ (chunk = [] ∧ st'.err = some (endErr st.f) ∧ st'.ps = [])
theorem splice_zero (L cs : List Value) : splice L 0 cs = cs ++ L.drop cs.length := by simp [splice]
theorem nones_srcLeft (k : Nat) (p0 : List UInt8) (rest : List (List UInt8)) (hk : k ≤ p0.length) : nones (srcLeft k (p0 :: rest)) ≤ nones (p0 :: rest) := by
  simp only [srcLeft]
  split
  · unfold nones; rw [List.filter_cons]; split <;> simp
  · rename_i hne
    have h1 : (p0.drop k).isEmpty = false := by
      cases hd : p0.drop k with
      | nil => have := congrArg List.length hd; simp at this; omega
      | cons a l => rfl
    have h2 : p0.isEmpty = false := by
      cases p0 with
      | nil => simp at hk; subst hk; simp at hne
      | cons a l => rfl
    unfold nones
    simp [h1, h2]
theorem Rd.read {S : Err → Addr} {w w1 : World} {L : Loc} {st : RS} {v : Value} (h : Rd S w L st) {p0 : List UInt8} {rest : List (List UInt8)} (hps : st.ps = p0 :: rest) {k : Nat} (hk : k ≤ p0.length) (hfit : st.w + k ≤ st.buf.length)
    (hp : ReadPost w L.sl L.mid L.s p0 rest st.f L.bb st.w k (st.buf.map bv).toArray v w1) :
    Rd S w1 L { st with buf := st.buf.take st.w ++ (p0.take k ++ st.buf.drop (st.w + k)), ps := srcLeft k (p0 :: rest) } ∧ Upd (In L) w w1 := by
  obtain ⟨_, hg, hsrc, hu, hz⟩ := hp
  have hmid := h.lomid
  have hb := h.blo
  have hbb := h.bblo
  have hne := h.ne
  have e : splice (st.buf.map bv).toArray.toList st.w ((p0.take k).map bv) = (st.buf.take st.w ++ (p0.take k ++ st.buf.drop (st.w + k))).map bv := by
    have hl : ((p0.take k).map bv).length = k := by simp; omega
    simp only [splice, hl]
    simp only [List.map_append, List.map_take, List.map_drop]
  rw [e] at hg
  have hlen : (st.buf.take st.w ++ (p0.take k ++ st.buf.drop (st.w + k))).length = st.buf.length := by
    have := h.wn; simp; omega
  refine ⟨?_, hu.mono (fun j hj _ => ?_)⟩
  · exact {
      hb := by
        rw [hu.heap h.hb (fun hh => by rcases hh with hh | hh; exact hne hh.symm; omega)]
        simp only [rdCells, hlen]
      hbb := hg
      src := hsrc
      blo := h.blo
      bhi := h.bhi
      bblo := h.bblo
      bbhi := h.bbhi
      lomid := h.lomid
      rw := h.rw
      wn := by simp only [hlen]; exact h.wn
      nlo := by simp only [hlen]; exact h.nlo
      nhi := by simp only [hlen]; exact h.nhi
      empties := by have := h.empties; rw [hps] at this; exact Nat.le_trans (nones_srcLeft k p0 rest hk) this
      errok := by rcases h.errok with h1 | ⟨_, h1⟩; exact .inl h1; rw [hps] at h1; cases h1
      lastlo := h.lastlo
      lasthi := h.lasthi
      runelo := h.runelo
      runehi := h.runehi }
  · rcases hj with rfl | hj
    · exact In.bb h
    · exact ⟨by omega, by omega⟩
set_option maxRecDepth 100000 in
set_option maxHeartbeats 2000000 in
theorem fill {S : Err → Addr} {B : Nat} {w : World} {L : Loc} {st : RS} (E : Env S B w) (hB : B ≤ L.lo) (h : Rd S w L st) (hroom : st.w - st.r < st.buf.length) :
    Calls Tryd.prog 54 #[.pointer (some ⟨L.b, 0, none⟩)] w (Ret (RdPost S w L (fun v st' => v = .tuple #[] ∧ ∃ chunk, Fill st st' chunk))) := by
  have HE := Lib.hid E
  have HB := Lib.hid hB
  have H := Lib.hid h
  have hrw := h.rw
  have hwn := h.wn
  have hnlo := h.nlo
  have hnhi := h.nhi
  obtain ⟨c0, c1, c2, c3, c4, c5, c6, hf⟩ := h.cells
  clear E hB h
  go_enter Tryd.func54, Tryd.ntmps54
  go_upto_if 9 with fail
  go_cut [] from 2 (fun wx => ∃ st1, Rd S wx L st1 ∧ Upd (In L) w wx ∧ Slide st st1)
  case first =>
    by_cases hr0 : st.r = 0
    · have hle : st.r ≤ 0 := by omega
      have HR := Lib.hid hr0
      clear hr0
      go_wp2
      go_meet
      exact ⟨st, H.out, Upd.refl _ _, ⟨HR.out, rfl, rfl, rfl, rfl, rfl, rfl, rfl⟩⟩
    · have hpos : 0 < st.r := by omega
      clear hr0
      have hbl := bufd_length (st := st) hwn
      have HBL := Lib.hid hbl
      clear hbl
      go_wp2
      refine wp_region_lx {} (by kernel_rfl) (by kernel_rfl) ⟨fun _ _ _ h => h.2, fun _ _ h => h⟩ ?_
      repeat (refine wpLx_calm rfl rfl rfl (fun K hK => ?_); go_step; refine hK _ ?_; clear hK K)
      refine wpLx_eff rfl rfl rfl (fun K hK => ?_)
      refine wp_copy eB (.tmp 13) (.tmp 26) 29 rfl L.bb 0 st.buf.length st.buf.length rfl (st.buf.map bv).toArray 5 H.out.hbb _ (st.w - st.r) (st.buf.length - st.r) rfl (fun hh => by split at hh <;> cases hh) ((bufd st).map bv)
        (by rw [List.length_map, HBL.out]; omega) (fun p hp j u hu => ?_) (by rw [List.length_map, HBL.out]; simp only [List.size_toArray, List.length_map]; omega) (oneCell_bytes _) ?_
      · have hj : j < (bufd st).length := by
          rcases Nat.lt_or_ge j (bufd st).length with h | h
          · exact h
          · rw [List.getElem?_eq_none (by simpa using h)] at hu; cases hu
        have hj2 : j < st.w - st.r := by rw [← HBL.out]; exact hj
        rw [if_neg (by omega)] at hp
        simp only [Option.some.injEq] at hp
        subst hp
        have hadd := addr_add L.bb st.r j
        rw [hadd, show w.drew.cell? ⟨L.bb, st.r + j, none⟩ = w.cell? ⟨L.bb, st.r + j, none⟩ from rfl, H.out.byte (by omega)]
        rw [List.getElem?_map, List.getElem?_eq_getElem hj] at hu
        simp only [Option.map_some, Option.some.injEq] at hu
        rw [← hu]
        simp [bufd, bv]
      intro w1 hw1 hu1 hz1
      refine hK _ _ ?_
      clear hK K
      refine wpLx_nil ?_
      have hsp : (splice (st.buf.map bv).toArray.toList 0 ((bufd st).map bv)).toArray = ((bufd st ++ st.buf.drop (bufd st).length).map bv).toArray := by
        rw [splice_zero]; simp
      rw [hsp] at hw1
      have hR1 : Rd S w1 L { st with buf := bufd st ++ st.buf.drop (bufd st).length } := H.out.drew.putBuf _ hu1 (by rw [List.length_append, List.length_drop, HBL.out]; omega) hw1
      obtain ⟨d0, d1, d2, d3, d4, d5, d6, hf1⟩ := hR1.cells
      have HR1 := Lib.hid hR1
      have HU1 := Lib.hid hu1
      clear hR1 hu1 hw1 hz1 hsp c0 c1 c2 c3 c4 c5 c6 hf d0 d1 d4 d5 d6
      obtain ⟨ao, hao⟩ : ∃ ao : Option Addr, (if st.buf.length = st.r then some (⟨L.bb, 0, none⟩ : Addr) else some ⟨L.bb, st.r, none⟩) = ao := ⟨_, rfl⟩
      rw [hao]
      clear hao
      go_wp2
      refine wp_region_lx {} (by kernel_rfl) (by kernel_rfl) ⟨fun _ _ _ h => h.2, fun _ _ h => h⟩ ?_
      repeat (refine wpLx_calm rfl rfl rfl (fun K hK => ?_); go_step; refine hK _ ?_; clear hK K)
      refine wpLx_eff rfl rfl rfl (fun K hK => ?_)
      go_step
      refine hK _ _ ?_
      clear hK K
      refine wpLx_nil ?_
      go_wp2
      go_meet
      have hin := In.b H.out
      have hin2 := In.bb H.out
      refine ⟨{ st with buf := bufd st ++ st.buf.drop (bufd st).length, r := 0, w := st.w - st.r }, ?_, ?_, ⟨rfl, ?_, ?_, rfl, rfl, rfl, rfl, rfl⟩⟩
      · refine HR1.out.put _ (((Upd.refl (fun k => k = L.b) w1).setCell (fun _ => rfl) _).drew.setCell (fun _ => rfl) _) ?_ rfl rfl rfl (Nat.zero_le _) (by have := HBL.out; simp; omega) H.out.errok H.out.lastlo H.out.lasthi H.out.runelo H.out.runehi
        refine (World.heap_setCell_self (World.heap_setCell_self HR1.out.hb _ _) _ _).trans ?_
        simp [rdCells]
        omega
      · refine Upd.setCell (Upd.drew (Upd.setCell ((Upd.refl (In L) w).drew.trans (HU1.out.mono (M := In L) (fun k hk _ => by subst hk; exact hin2)) (fun _ h _ => h)) (fun _ => hin) _)) (fun _ => hin) _
      · unfold bufd
        have := HBL.out
        simp only [List.drop_zero]
        rw [← this]
        exact List.take_left
      · have := HBL.out; simp; omega
  case rest =>
    obtain ⟨st1, h1, u1, hs⟩ := hcut
    have hbd : (bufd st1).length = (bufd st).length := by rw [hs.bd]
    rw [bufd_length h1.wn, bufd_length hwn, hs.r] at hbd
    have hn1 := hs.n
    have hroom1 : st1.w < st1.buf.length := by omega
    have hnhi1 := h1.nhi
    have H1 := Lib.hid h1
    have HU := Lib.hid u1
    have HS := Lib.hid hs
    obtain ⟨c0, c1, c2, c3, c4, c5, c6, hf⟩ := h1.cells
    clear h1 u1 hs hbd hn1
    go_wp2
    refine wp_region_lx {} (by kernel_rfl) (by kernel_rfl) ⟨fun _ _ _ h => h.2, fun _ _ h => h⟩ ?_
    repeat (refine wpLx_calm rfl rfl rfl (fun K hK => ?_); go_step; refine hK _ ?_; clear hK K)
    refine wpLx_nil ?_
    go_wp2
    go_loopw [2] (fun i wr => ∃ (k : Nat) (ps2 : List (List UInt8)), k ≤ 100 ∧ i = .int .i64 (k : Int) ∧ Rd S wr L { st1 with ps := ps2 } ∧ Upd (In L) w wr ∧ st1.ps = List.replicate (100 - k) [] ++ ps2) (fun i _ => (intOf i).toNat)
    case atStart => exact ⟨100, st1.ps, Nat.le_refl _, rfl, H1.out.drew, HU.out.drew, by simp⟩
    case round =>
      obtain ⟨k, ps2, hk, rfl, h2, u2, hps⟩ := hrel
      have hkpos : 50 ≤ k := by
        have e := H1.out.empties
        rw [hps] at e
        have e2 : nones (List.replicate (100 - k) [] ++ ps2) = (100 - k) + nones ps2 := by
          unfold nones; rw [List.filter_append, List.length_append, List.filter_replicate]; simp
        omega
      have H2 := Lib.hid h2
      have HU2 := Lib.hid u2
      have HPS := Lib.hid hps
      obtain ⟨d0, d1, d2, d3, d4, d5, d6, hf2⟩ := h2.cells
      clear h2 u2 hps c0 c1 c2 c3 c4 c5 c6 hf
      simp only [rdV] at d1
      have hne : ¬ st1.buf.length = st1.w := by omega
      have HIb := Lib.hid (In.b H1.out)
      cases ps2 with
      | nil =>
        go_wp2
        refine wp_region_lx {} (by kernel_rfl) (by kernel_rfl) ⟨fun _ _ _ h => h.2, fun _ _ h => h⟩ ?_
        repeat (refine wpLx_calm rfl rfl rfl (fun K hK => ?_); go_step; refine hK _ ?_; clear hK K)
        refine wpLx_eff rfl rfl rfl (fun K hK => ?_)
        refine wp_call (srcRead_nil (f := st1.f) ((HE.out.upd HU2.out (fun k hk => by have := hk.1; have := HB.out; omega)).new (Upd.refl _ _).drew) (H2.out.drew).src (.slice (some ⟨L.bb, st1.w, none⟩) (st1.buf.length - st1.w) (st1.buf.length - st1.w))) (by kernel_rfl) ?_
        rintro v w1 ⟨hw1, rfl⟩
        refine hK _ _ ?_
        clear hK K
        obtain ⟨et, ev, hev⟩ : ∃ et ev, eV S (some (endErr st1.f)) = .iface et ev := by cases st1.f <;> exact ⟨_, _, rfl⟩
        have h3 := (H2.out.drew).new hw1
        obtain ⟨e0, e1, e2, e3, e4, e5, e6, hf3⟩ := h3.cells
        have hfin : ∀ w2, w2 = (w1.setCell ⟨L.b, 3, none⟩ (.int .i64 (st1.w : Int))).setCell ⟨L.b, 4, none⟩ (.iface et ev) → RdPost S w L (fun v st' => v = .tuple #[] ∧ ∃ chunk, Fill st st' chunk) (.tuple #[]) w2 := by
          intro w2 hw2
          subst hw2
          have hs := HS.out
          refine ⟨{ st1 with ps := [], err := some (endErr st1.f) }, ⟨rfl, [], ?_⟩, ?_, ?_⟩
          · refine ⟨hs.r, by rw [List.append_nil]; exact hs.bd, hs.n, hs.last, hs.rune, hs.f, ?_, .inr ⟨rfl, by rw [hs.f], rfl⟩⟩
            rw [← hs.ps, HPS.out]; simp
          · rw [← hev]
            exact (h3.setW st1.w h3.rw h3.wn).setErr (some (endErr st1.f)) (.inr ⟨rfl, rfl⟩)
          · exact (((HU2.out.drew).andNew hw1).setCell (fun _ => HIb.out) _).setCell (fun _ => HIb.out) _
        have HFIN := Lib.hid hfin
        clear h3 hfin d0 d1 d2 d3 d4 d5 d6 hf2 e0 e1 e2 e5 e6
        rw [hev]
        repeat (refine wpLx_calm rfl rfl rfl (fun K hK => ?_); go_step; refine hK _ ?_; clear hK K)
        refine wpLx_nil ?_
        go_wp2
        refine bodyPost_ret (results_none rfl _ _ _) rfl ?_
        exact HFIN.out _ rfl
      | cons p0 rest =>
        obtain ⟨m, hm⟩ : ∃ m, m = min p0.length (st1.buf.length - st1.w) := ⟨_, rfl⟩
        have hm1 : m ≤ p0.length := by omega
        have hm2 : st1.w + m ≤ st1.buf.length := by omega
        have HM := Lib.hid hm
        clear hm
        go_wp2
        refine wp_region_lx {} (by kernel_rfl) (by kernel_rfl) ⟨fun _ _ _ h => h.2, fun _ _ h => h⟩ ?_
        repeat (refine wpLx_calm rfl rfl rfl (fun K hK => ?_); go_step; refine hK _ ?_; clear hK K)
        refine wpLx_eff rfl rfl rfl (fun K hK => ?_)
        refine wp_call (srcRead_cons (f := st1.f) (H2.out.drew).src L.bb st1.w (st1.buf.length - st1.w) (st1.buf.length - st1.w) (st1.buf.map bv).toArray (H2.out.drew).hbb (fun hh => by have h1 := H2.out.bblo; have h2 : L.sl ≤ L.bb ∧ L.bb < L.mid := hh; omega) (by simp only [List.size_toArray, List.length_map]; omega) (Nat.le_refl _) (by omega)) (by kernel_rfl) ?_
        rw [← HM.out]
        intro v w1 hrp
        have hv : v = .tuple #[.int .i64 ((m : Nat) : Int), .nilIface] := hrp.1
        obtain ⟨h3, u3⟩ := (H2.out.drew).read (st := { st1 with ps := p0 :: rest }) rfl hm1 hm2 hrp
        refine hK _ _ ?_
        clear hK K
        rw [hv]
        obtain ⟨e0, e1, e2, e3, e4, e5, e6, hf3⟩ := h3.cells
        simp only [] at e3
        have H3 := Lib.hid h3
        have HU3 := Lib.hid u3
        clear h3 u3 hrp hv d0 d1 d2 d3 d4 d5 d6 hf2 e0 e1 e2 e4 e5 e6
        repeat (refine wpLx_calm rfl rfl rfl (fun K hK => ?_); go_step; refine hK _ ?_; clear hK K)
        refine wpLx_nil ?_
        have hfin : ∀ w2, w2 = w1.setCell ⟨L.b, 3, none⟩ (.int .i64 ((st1.w : Int) + (m : Int))) → Rd S w2 L { st1 with buf := st1.buf.take st1.w ++ (p0.take m ++ st1.buf.drop (st1.w + m)), w := st1.w + m, ps := srcLeft m (p0 :: rest) } ∧ Upd (In L) w w2 := by
          intro w2 hw2
          rw [show ((st1.w : Int) + (m : Int)) = ((st1.w + m : Nat) : Int) by omega] at hw2
          subst hw2
          refine ⟨H3.out.setW (st1.w + m) ?_ ?_, ((HU2.out.drew).trans HU3.out (fun _ h _ => h)).setCell (fun _ => HIb.out) _⟩
          · have := H2.out.rw; have h : st1.r ≤ st1.w := this; show st1.r ≤ st1.w + m; omega
          · simp only [List.length_append, List.length_take, List.length_drop]; omega
        have HFIN := Lib.hid hfin
        clear hfin
        by_cases hp0 : 0 < m
        · go_wp2
          refine bodyPost_ret (results_none rfl _ _ _) rfl ?_
          obtain ⟨q1, q2⟩ := HFIN.out _ rfl
          have hs := HS.out
          have hr : st1.r = 0 := hs.r
          refine ⟨_, ⟨rfl, p0.take m, ?_⟩, q1, q2⟩
          refine ⟨hr, ?_, ?_, hs.last, hs.rune, hs.f, ?_, .inl ⟨?_, hs.err⟩⟩
          · rw [← hs.bd]
            unfold bufd
            simp only [hr, List.drop_zero]
            have hl : (st1.buf.take st1.w).length = st1.w := by simp; omega
            have hl2 : (p0.take m).length = m := by simp; omega
            rw [← List.append_assoc]
            exact List.take_left' (by rw [List.length_append, hl, hl2])
          · rw [← hs.n]; simp only [List.length_append, List.length_take, List.length_drop]; omega
          · rw [← hs.ps, HPS.out, List.flatten_append]
            rw [srcLeft_flatten m p0 rest hm1]
            simp
          · intro hh
            have := congrArg List.length hh
            rw [List.length_take, List.length_nil] at this
            omega
        · have hm0 : m = 0 := by omega
          have hp : p0 = [] := by
            have := HM.out
            apply List.eq_nil_of_length_eq_zero; omega
          have hrel2 : ∀ w2, w2 = w1.setCell ⟨L.b, 3, none⟩ (.int .i64 ((st1.w : Int) + (m : Int))) → ∃ (k' : Nat) (ps2 : List (List UInt8)), k' ≤ 100 ∧ Value.int .i64 ((k : Int) - 1) = .int .i64 (k' : Int) ∧ Rd S w2 L { st1 with ps := ps2 } ∧ Upd (In L) w w2 ∧ st1.ps = List.replicate (100 - k') [] ++ ps2 := by
            intro w2 hw2
            obtain ⟨q1, q2⟩ := HFIN.out w2 hw2
            refine ⟨k - 1, rest, by omega, by rw [show ((k : Int) - 1) = ((k - 1 : Nat) : Int) by omega], ?_, q2, ?_⟩
            · subst hm0; subst hp
              have e : st1.buf.take st1.w ++ (([] : List UInt8).take 0 ++ st1.buf.drop (st1.w + 0)) = st1.buf := by simp
              rw [e] at q1
              exact q1
            · rw [HPS.out, hp, show 100 - (k - 1) = (100 - k) + 1 by omega, List.replicate_succ', List.append_assoc]; rfl
          have HREL := Lib.hid hrel2
          clear hrel2 hm0 hp
          go_wp2
          go_roundw
          case rel =>
            obtain ⟨k', ps2, a1, a2, a3, a4, a5⟩ := HREL.out _ rfl
            first | exact ⟨k', ps2, a1, a2, a3, a4, a5⟩ | exact ⟨k', a1, by simpa using a2, ps2, a3, a4, a5⟩
          case measure => simp [intOf]; omega
end Go.Proofs.YtmmjfpcmempeeaaDoor
