/- (*bufio.Reader).Reset; impl.Anew. -/
import Derived.Test.YtmmjfpcmempeeaaDoorRunS
import Derived.WalkSpells
namespace Go.Proofs.YtmmjfpcmempeeaaDoor
open Go.RowKit
/-- a reader as it is set to another source -/
def anewRS (buf : List UInt8) (ps : List (List UInt8)) (f : Bool) : RS := ⟨buf, 0, 0, none, -1, -1, ps, f⟩
theorem abs_anew (buf : List UInt8) (ps : List (List UInt8)) (f : Bool) : Abs (anewRS buf ps f) (fresh0 buf.length ps.flatten f) where
  left := by unfold rem bufd anewRS; simp [fresh0]
  size := rfl
  f := rfl
  err := rfl
  last := rfl
  rune := rfl
  pos := fun h => (by have h : (0 : Int) ≤ -1 := h; omega)
  nz := by show (-1 : Int) ≠ 0; omega
  back := fun h => (by have h : (0 : Int) ≤ -1 := h; omega)
def ResetR (S : Err → Addr) (w : World) (L : Loc) (buf : List UInt8) (ps : List (List UInt8)) (f : Bool) (hi : Nat) (v : Value) (w' : World) : Prop :=
  v = .tuple #[] ∧ Upd (fun k => k = L.b) w w' ∧ ∃ L', L'.b = L.b ∧ L'.lo = L.lo ∧ L'.hi = hi ∧ Rd S w' L' (anewRS buf ps f)
set_option maxRecDepth 100000 in
set_option maxHeartbeats 1000000 in
theorem resetR {S : Err → Addr} {w : World} {L : Loc} {st : RS} (h : Rd S w L st) {lo s : Nat} {ps : List (List UInt8)} {f : Bool} (hsrc : Src w lo w.heap.size s ps f) (hlo : L.hi ≤ lo) (hloh : lo ≤ w.heap.size) (hne : nones ps ≤ 50) :
    Calls Tryd.prog 42 #[.pointer (some ⟨L.b, 0, none⟩), .iface 82 (.pointer (some ⟨s, 0, none⟩))] w (Ret (ResetR S w L st.buf ps f w.heap.size)) := by
  have H := Lib.hid h
  have HS := Lib.hid hsrc
  have HLO := Lib.hid hlo
  have HLH := Lib.hid hloh
  have HNE := Lib.hid hne
  obtain ⟨c0, c1, c2, c3, c4, c5, c6, hf⟩ := h.cells
  have hnhi := h.nhi
  have K1 := fun wx (hx : New w wx) => Lib.hid (reset ((h.new hx).hb) rfl (some ⟨L.bb, 0, none⟩) st.buf.length st.buf.length 82 (.pointer (some ⟨s, 0, none⟩)))
  have HK1 := Lib.hid K1
  have qT := fun (w : World) (n c : Nat) => Lib.run_eql_slice_nil (P := Tryd.prog) w 29 5 (some ⟨L.bb, 0, none⟩) n c 0 0 Tryd.underlying29
  have hEq : ∀ (w : World) (a b : Option Addr), (binOp .eql 102 (.iface 70 (.pointer a)) (.iface 82 (.pointer b))).run Tryd.prog w = .ok (.bool false) w := fun w a b => by kernel_rfl
  clear h hsrc hlo hloh hne K1 c1 c2 c3 c4 c5 c6
  go_enter Tryd.func42, Tryd.ntmps42
  go_wp2_with (go_at_call 58; refine callRet (HK1.out _ (Upd.refl _ _)).out ?_; rintro v w1 ⟨rfl, h1, h2, h3⟩)
  go_end0
  refine ⟨rfl, h2, ⟨L.b, L.bb, s, L.lo, lo, w.heap.size, w.heap.size⟩, rfl, rfl, rfl, ?_⟩
  have hh := H.out
  have hb1 := hh.blo
  have hb2 := hh.bhi
  have hb3 := hh.bblo
  have hb4 := hh.bbhi
  have hlo := HLO.out
  have hlh := HLH.out
  exact {
    hb := by rw [h1]; rfl
    hbb := h2.heap hh.hbb (fun e => hh.ne e)
    src := HS.out.upd h2 (fun k hk q1 q2 => by have hk : k = L.b := hk; omega)
    blo := ⟨hb1.1, by show ¬ (lo ≤ L.b ∧ L.b < w.heap.size); omega⟩
    bhi := by show L.b < w.heap.size; omega
    bblo := ⟨hb3.1, by show ¬ (lo ≤ L.bb ∧ L.bb < w.heap.size); omega⟩
    bbhi := by show L.bb < w.heap.size; omega
    lomid := ⟨by show L.lo ≤ lo; omega, Nat.le_refl _⟩
    rw := Nat.le_refl _
    wn := Nat.zero_le _
    nlo := hh.nlo
    nhi := hh.nhi
    empties := HNE.out
    errok := .inl rfl
    lastlo := by show (-1 : Int) ≤ -1; omega
    lasthi := by show (-1 : Int) ≤ 255; omega
    runelo := by show (-1 : Int) ≤ -1; omega
    runehi := by show (-1 : Int) ≤ 4; omega }
theorem frags_size (d : UInt8) : ∀ (n : Nat) (A : AR), (frags d n A).2.2.size = A.size
  | 0, A => rfl
  | n + 1, A => by
    unfold frags
    split
    · exact (frags_size d n _).trans (sliceA_left A d).2.2.2
    · exact (sliceA_left A d).2.2.2
theorem stepRel_size {A A' : AR} {s : Stp} {z : Ans} (hs : stepRel A s z A') : A'.size = A.size := by
  unfold stepRel at hs
  split at hs
  · obtain ⟨k, e, hr, _⟩ := hs
    exact hr.2.2.1
  · split at hs
    · obtain ⟨_, _, _, _, rfl⟩ := hs; rfl
    · obtain ⟨_, rfl⟩ := hs
      unfold stepF
      split
      · show (byteA A).2.size = _
        unfold byteA; split <;> rfl
      · split
        · show (unbyteA A).2.size = _
          unfold unbyteA; split <;> rfl
        · split
          · show (runeA A).2.size = _
            unfold runeA; split <;> rfl
          · split
            · show (unruneA A).2.size = _
              unfold unruneA
              split
              · rfl
              · split <;> rfl
            · split
              · show (peekA A s.n).2.size = _
                unfold peekA
                repeat' split
                all_goals rfl
              · split
                · show (discardA A s.n).2.size = _
                  unfold discardA
                  repeat' split
                  all_goals rfl
                · split
                  · exact (sliceA_left A s.d).2.2.2
                  · split
                    · show (lineA A).2.size = _
                      have h1 := (sliceA_left A 10).2.2.2
                      unfold lineA
                      repeat' split
                      all_goals exact h1
                    · split
                      · exact frags_size _ _ _
                      · rfl
set_option maxRecDepth 100000 in
set_option maxHeartbeats 2000000 in
theorem implAnew {S : Err → Addr} {B : Nat} {w : World} {sz : Nat} {a a2 sa sa2 : Option Addr} {c c2 sc sc2 : Nat} {ps ps2 : List (List UInt8)} {ss ss2 : List Stp} (f f2 : Bool) (E : Env S B w) (T : TabsB B w) (h : PiecesA w a c ps) (hs : StepsA w sa sc ss) (hl : ps.flatten.length ≤ 20000) (hn : ps.length ≤ 500) (hsz : sz ≤ 5000) (hne : nones ps ≤ 50) (hok : StepsOk ss) (h64 : Steps64 ss)
    (h' : PiecesA w a2 c2 ps2) (hs' : StepsA w sa2 sc2 ss2) (hl' : ps2.flatten.length ≤ 20000) (hn' : ps2.length ≤ 500) (hne' : nones ps2 ≤ 50) (hok' : StepsOk ss2) (h64' : Steps64 ss2) :
    Calls Tryd.prog 20 #[.agg #[.slice a ps.length c, .bool f], .int .i64 (sz : Int), .slice sa ss.length sc, .agg #[.slice a2 ps2.length c2, .bool f2], .slice sa2 ss2.length sc2] w (Ret (RunSPost w (fresh0 (max sz 16) ps2.flatten f2) ss2)) := by
  have hw2 : New w ((w.alloc (.cells #[.slice a ps.length c, .bool f] 24)).alloc (.cells #[.slice a2 ps2.length c2, .bool f2] 24)) := ((Upd.refl _ _).alloc _).alloc _
  have K1 := Lib.hid (readerOf a c ps f _ (h.new hw2) (by omega) (by omega))
  have p1 := h.2.1
  have p2 := h'.2.1
  unfold maxLen at p1 p2
  have hs1 := hs.1
  have hs2 := hs.2.1
  have hs3 := hs'.1
  have hs4 := hs'.2.1
  unfold maxLen at hs2 hs4
  have HE := Lib.hid E
  have HT := Lib.hid T
  have HS := Lib.hid hs
  have HS' := Lib.hid hs'
  have HP' := Lib.hid h'
  have HL := Lib.hid hl
  have HL' := Lib.hid hl'
  have HOK := Lib.hid hok
  have H64 := Lib.hid h64
  have HOK' := Lib.hid hok'
  have H64' := Lib.hid h64'
  have hss := hok.1
  have hss' := hok'.1
  have HW2 := Lib.hid hw2
  clear h E T hs hl hok h64 h' hs' hl' hok' h64' hw2
  go_enter Tryd.func20, Tryd.ntmps20
  go_wp2_with (first | (go_at_call 40; refine callRet K1.out ?_; intro v w1 h1; obtain ⟨hu1, s, rfl, hsrc⟩ := h1; have HU := Lib.hid hu1; clear hu1; have K2 := Lib.hid (newReaderSize (S := S) (sz := sz) hsrc (by have := HU.out.size; simpa using this) hsz hne); clear hsrc) | (go_at_call 39; refine callRet K2.out ?_; intro v w2 h2; obtain ⟨hu2, L, rfl, hlo, hhi, hrd⟩ := h2; have HU2 := Lib.hid (HU.out.andNew hu2); have HLO : Hid (w.heap.size + 2 ≤ L.lo) := (by rw [Hid, hlo]; simp); have HHI := Lib.hid hhi; have HRD := Lib.hid hrd; clear hu2 hlo hhi hrd))
  go_loopw [24] (fun i wr => ∃ (k : Nat) (st : RS) (A : AR), i = .int .i64 (k : Int) ∧ k ≤ ss.length ∧ Abs st A ∧ A.size = max sz 16 ∧ A.left.length ≤ 20000 + 4 * k ∧ Rd S wr L st ∧ L.hi ≤ wr.heap.size ∧ Upd (fun j => w.heap.size + 1 < j) ((w.alloc (.cells #[.slice a ps.length c, .bool f] 24)).alloc (.cells #[.slice a2 ps2.length c2, .bool f2] 24)) wr) (fun i _ => ss.length - (intOf i).toNat)
  case atStart => exact ⟨0, _, _, rfl, Nat.zero_le _, abs_fresh _ _ _, rfl, HL.out, HRD.out, HHI.out, HU2.out.mono (fun _ h _ => h.elim)⟩
  case round =>
    obtain ⟨k, st, A, rfl, hkn, hA, hAs, hAl, hrd, hhi, hu⟩ := hrel
    have HA := Lib.hid hA
    have HAS := Lib.hid hAs
    have HR := Lib.hid hrd
    have HH := Lib.hid hhi
    have HU3 := Lib.hid hu
    have HNW : Hid (New w wr) := HW2.out.trans hu (fun j hj hlt => by omega)
    clear hA hAs hrd hhi hu
    by_cases hlt : k < ss.length
    · obtain ⟨b, o, rfl, hbs, e0, e1, e2⟩ := (HS.out.new HNW.out).at hlt
      obtain ⟨s, hs⟩ : ∃ s, ss[k] = s := ⟨_, rfl⟩
      rw [hs] at e0 e1 e2
      have hsm : s ∈ ss := by rw [← hs]; exact List.getElem_mem _
      have hok := HOK.out.2 s hsm
      have h64 := H64.out s hsm
      have KS := Lib.hid (fun wx (hx : New wr wx) => step (HE.out.new (HNW.out.andNew hx)) (HT.out.new (HNW.out.andNew hx)) (Nat.le_trans HE.out.size (Nat.le_trans (Nat.le_add_right _ 2) HLO.out)) (HR.out.new hx) HA.out (Nat.le_trans HH.out hx.size) (by omega) s hok.1 h64.2)
      clear hs hsm hok h64
      obtain ⟨ks, ns, d⟩ := s
      simp only at e0 e1 e2
      go_wp2_with (go_at_call 41; refine callRet (KS.out _ ((Upd.refl _ _).alloc _)) ?_; intro v2 w2 h2; obtain ⟨st2, z, A2, hrel2, hrd2, habs2, hu2, _⟩ := h2; have HREL := Lib.hid hrel2; have HABS := Lib.hid habs2; have HR2 := Lib.hid hrd2; have HU4 := Lib.hid hu2; clear hrel2 habs2 hrd2 hu2)
      go_roundw
      case rel =>
        refine ⟨k + 1, st2, A2, by go_num, by omega, HABS.out, (stepRel_size HREL.out).trans HAS.out, ?_, HR2.out, ?_, ?_⟩
        · have := stepRel_left HR.out HA.out HREL.out; omega
        · exact Nat.le_trans HH.out (Nat.le_trans ((Upd.refl (fun _ => False) wr).alloc (.cells #[.int .i64 ks, .int .i64 ns, .int .u8 (d.toNat : Int)] 53)).size HU4.out.size)
        · exact (HU3.out.alloc _).trans HU4.out (fun j hj _ => by have := hj.1; have := HLO.out; omega)
      case measure => simp [intOf]; omega
    · obtain rfl : k = ss.length := by omega
      have c0 : wr.cell? ⟨w.heap.size + 1, 0, none⟩ = some (.slice a2 ps2.length c2) := by
        have := HU3.out.heap (heap_alloc2_new _ _ _) (fun hh => Nat.lt_irrefl _ hh)
        rw [World.cell_of_heap this]; rfl
      have c1 : wr.cell? ⟨w.heap.size + 1, 1, none⟩ = some (.bool f2) := by
        have := HU3.out.heap (heap_alloc2_new _ _ _) (fun hh => Nat.lt_irrefl _ hh)
        rw [World.cell_of_heap this]; rfl
      have K3 := Lib.hid (readerOf a2 c2 ps2 f2 wr (HP'.out.new HNW.out) (by have := HL'.out; omega) (by omega))
      go_wp2_with (first | (go_at_call 40; refine callRet K3.out ?_; intro v w3 h3; obtain ⟨hu3, s2, rfl, hsrc⟩ := h3; have HN3 := Lib.hid hu3; have K4 := Lib.hid (resetR (HR.out.new hu3) hsrc HH.out hu3.size hne'); clear hu3 hsrc) | (go_at_call 42; refine callRet K4.out ?_; rintro v w4 ⟨rfl, hu4, L', hb', hlo', hhi', hrd'⟩; have HLO' : Hid (w.heap.size ≤ L'.lo) := (by rw [Hid, hlo']; have := HLO.out; omega); have HHI' : Hid (L'.hi ≤ w4.heap.size) := (by rw [Hid, hhi']; exact hu4.size); have HB' := Lib.hid hb'; have HRD' := Lib.hid hrd'; have HNW4 : Hid (New w w4) := (HNW.out.andNew HN3.out).trans hu4 (fun j hj hlt => by have hj : j = L.b := hj; have := HR.out.blo; have := HLO.out; omega); clear hu4 hlo' hhi' hb' hrd'))
      have HAB : Hid (Abs (anewRS st.buf ps2 f2) (fresh0 (max sz 16) ps2.flatten f2)) := by
        have := abs_anew st.buf ps2 f2
        rwa [HA.out.size, HAS.out] at this
      clear hkn hAl hlt c0 c1
      go_loopw [14, 39] (fun v i wr => ∃ (k : Nat) (st : RS) (A : AR) (zs : List Ans), i = .int .i64 (k : Int) ∧ k ≤ ss2.length ∧ Abs st A ∧ A.left.length ≤ 20000 + 4 * k ∧ RunS w4.heap.size L' S w wr v zs st ∧ runRel (fresh0 (max sz 16) ps2.flatten f2) (ss2.take k) zs A) (fun _ i _ => ss2.length - (intOf i).toNat)
      case atStart => exact ⟨0, _, _, [], rfl, Nat.zero_le _, HAB.out, HL'.out, ⟨HRD'.out, HNW4.out, OwnA.nil _ _ _, Nat.le_refl _⟩, rfl⟩
      case round =>
        obtain ⟨k, st, A, zs, rfl, hkn, hA, hAl, hR, hrun⟩ := hrel
        have HA := Lib.hid hA
        have HR := Lib.hid hR
        have HRUN := Lib.hid hrun
        have HZL : Hid (zs.length = k) := by rw [Hid, runRel_len hrun, List.length_take]; omega
        clear hA hR hrun
        by_cases hlt : k < ss2.length
        · obtain ⟨b, o, rfl, hbs, e0, e1, e2⟩ := (HS'.out.new HR.out.new).at hlt
          obtain ⟨s, hs⟩ : ∃ s, ss2[k] = s := ⟨_, rfl⟩
          rw [hs] at e0 e1 e2
          have hsm : s ∈ ss2 := by rw [← hs]; exact List.getElem_mem _
          have htk : Hid (ss2.take (k + 1) = ss2.take k ++ [s]) := by rw [Hid, List.take_add_one, List.getElem?_eq_getElem hlt, hs]; rfl
          have hok := HOK'.out.2 s hsm
          have h64 := H64'.out s hsm
          have KS := fun wx (hx : New wr wx) => step (HE.out.new (HR.out.new.andNew hx)) (HT.out.new (HR.out.new.andNew hx)) (Nat.le_trans HE.out.size HLO'.out) (HR.out.rd.new hx) HA.out (Nat.le_trans HHI'.out (Nat.le_trans HR.out.hi hx.size)) (by omega) s hok.1 h64.2
          rw [HB'.out] at KS
          have KS := Lib.hid KS
          clear hs hsm hok h64
          obtain ⟨ks, ns, d⟩ := s
          simp only at e0 e1 e2
          go_wp2_with (first | (go_at_call 41; refine callRet (KS.out _ ((Upd.refl _ _).alloc _)) ?_; intro v2 w2 h2; obtain ⟨st2, z, A2, hrel2, hrd2, habs2, hu2, cs, rfl, hz⟩ := h2; have HREL := Lib.hid hrel2; have HABS := Lib.hid habs2; have HR2 := Lib.hid ((HR.out.newB ((Upd.refl _ wr).alloc (.cells #[.int .i64 ks, .int .i64 ns, .int .u8 (d.toNat : Int)] 53))).reader HLO'.out HHI'.out hrd2 hu2); have HZ : Hid (AnsE w2 (fun k => w4.heap.size ≤ k) cs z) := AnsE.mono hz (fun k hk => Nat.le_trans HR.out.hi (Nat.le_trans ((Upd.refl (fun _ => False) wr).alloc (.cells #[.int .i64 ks, .int .i64 ns, .int .u8 (d.toNat : Int)] 53)).size hk)); obtain ⟨bv, rfl, ab, cb, rfl, _⟩ := hz; obtain ⟨vs, hvl, hvo, hvp⟩ := HR2.out.zs; have HVL := Lib.hid hvl; have HVO := Lib.hid hvo; have HVP := Lib.hid hvp; clear hrel2 habs2 hrd2 hu2 hvl hvo hvp) | (at_builtin; refine wpList_plain rfl (fun K hK => ?_); refine wp_append eAns (.tmp 43) (.tmp 47) rfl w4.heap.size _ _ _ rfl (ownsRow_new HVO.out ((Upd.refl _ _).alloc _)) (some ⟨w2.heap.size, 0, none⟩) 1 1 [.slice ab z.bytes.length cb, .int .i64 z.n, .int .i32 z.rune, .bool z.flag, .int .i64 (z.code : Int)] rfl rfl (fun h => by cases h) (box_newsL (xs := #[.slice ab z.bytes.length cb, .int .i64 z.n, .int .i32 z.rune, .bool z.flag, .int .i64 (z.code : Int)])) (by simp [Value.oneCell']) (by unfold maxLen; rw [HZL.out]; omega) (by rw [HZL.out]; omega) (Nat.le_trans HR2.out.hi ((Upd.refl (fun _ => False) _).alloc _).size) ?_; intro v5 w5 h1 h2 h3; have HR4 := Lib.hid (HR2.out.one HLO'.out HHI'.out ((Upd.refl _ _).alloc _) HVL.out HVO.out HVP.out HZ.out h1 h2); refine hK _ _ ?_; clear hK K h1 h2 h3))
          go_roundw
          case rel =>
            refine ⟨k + 1, st2, A2, zs ++ [z], by go_num, by omega, HABS.out, ?_, HR4.out, ?_⟩
            · have := stepRel_left HR.out.rd HA.out HREL.out; omega
            · rw [htk.out]; exact runRel_snoc HREL.out HRUN.out
          case measure => simp [intOf]; omega
        · obtain rfl : k = ss2.length := by omega
          go_wp2_with fail
          go_ret
          rw [List.take_length] at HRUN
          obtain ⟨za, zc, hv, hz⟩ := HR.out.zs.read (P := fun k => w4.heap.size ≤ k) (fun k hk => hk)
          have hz := hz.mono (P' := fun k => w.heap.size ≤ k) (fun k hk => Nat.le_trans HNW4.out.size hk)
          exact ⟨HR.out.new, za, zc, zs, A, hv, hz, HRUN.out⟩
end Go.Proofs.YtmmjfpcmempeeaaDoor
