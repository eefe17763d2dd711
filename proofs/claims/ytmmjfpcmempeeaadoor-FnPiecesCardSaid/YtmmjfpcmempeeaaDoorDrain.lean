/- laws.exact; impl.Drain. -/
import Derived.Test.YtmmjfpcmempeeaaDoorStepsOk
import Derived.Test.YtmmjfpcmempeeaaDoorAnew
import Derived.Test.YtmmjfpcmempeeaaDoorRest
namespace Go.Proofs.YtmmjfpcmempeeaaDoor
open Go.RowKit
def zeroStep (s : Stp) : Bool := decide (s.k = 0)
set_option maxRecDepth 100000 in
theorem zero1 (s : Stp) (w : World) : Calls Tryd.prog 43 #[.agg #[.int .i64 s.k, .int .i64 s.n, .int .u8 (s.d.toNat : Int)]] w (Ret fun v w' => New w w' ∧ v = .bool (zeroStep s)) := by
  by_cases h1 : s.k = 0
  · have e : zeroStep s = true := by unfold zeroStep; simp [h1]
    rw [e, h1]
    clear e h1
    go_enter Tryd.func43, Tryd.ntmps43
    (go_wp2_with fail; (repeat' (refine wp_region_lx {} (by kernel_rfl) (by kernel_rfl) ⟨fun _ _ _ h => h.2, fun _ _ h => h⟩ ?_; (repeat' (first | (refine wpLx_calm rfl rfl rfl (fun K hK => ?_); go_step <;> (refine hK _ ?_; clear hK K)) | (refine wpLx_skip2 rfl rfl rfl ?_; go_simp) | (refine wpLx_calm2 rfl rfl rfl rfl rfl (fun K hK => ?_); go_step <;> (refine hK _ ?_; clear hK K)))); all_goals (refine wpLx_nil ?_; try go_wp2_with fail))))
    go_ret
    first | exact ⟨((Upd.refl _ _).alloc _).drew, rfl⟩ | exact ⟨(Upd.refl _ _).alloc _, rfl⟩
  · have e : zeroStep s = false := by unfold zeroStep; simp [h1]
    have q1 : (s.k == 0) = false := by rw [beq_eq_false_iff_ne]; exact h1
    rw [e]
    clear e h1
    go_enter Tryd.func43, Tryd.ntmps43
    (go_wp2_with fail; (repeat' (refine wp_region_lx {} (by kernel_rfl) (by kernel_rfl) ⟨fun _ _ _ h => h.2, fun _ _ h => h⟩ ?_; (repeat' (first | (refine wpLx_calm rfl rfl rfl (fun K hK => ?_); go_step <;> (refine hK _ ?_; clear hK K)) | (refine wpLx_skip2 rfl rfl rfl ?_; go_simp) | (refine wpLx_calm2 rfl rfl rfl rfl rfl (fun K hK => ?_); go_step <;> (refine hK _ ?_; clear hK K)))); all_goals (refine wpLx_nil ?_; try go_wp2_with fail))))
    go_ret
    first | exact ⟨((Upd.refl _ _).alloc _).drew, rfl⟩ | exact ⟨(Upd.refl _ _).alloc _, rfl⟩
set_option maxRecDepth 100000 in
set_option maxHeartbeats 1000000 in
theorem indexZero {w : World} {sa : Option Addr} {sc : Nat} {ss : List Stp} (hs : StepsA w sa sc ss) :
    Calls Tryd.prog 57 #[.slice sa ss.length sc, .func (.func 43) #[] #[]] w (Ret fun v w' => New w w' ∧ ∃ i : Int, v = .int .i64 i ∧ ss.any zeroStep = decide (0 ≤ i)) := by
  have HS := Lib.hid hs
  have hs1 := hs.1
  have hs2 := hs.2.1
  unfold maxLen at hs2
  clear hs
  go_enter Tryd.func57, Tryd.ntmps57
  go_wp2_with fail
  go_loopw [8] (fun i wr => New w wr ∧ ∃ k : Nat, k ≤ ss.length ∧ i = .int .i64 (k : Int) ∧ (ss.take k).any zeroStep = false) (fun i _ => ss.length - (intOf i).toNat)
  case atStart => exact ⟨Upd.refl _ _, 0, Nat.zero_le _, rfl, rfl⟩
  case round =>
    obtain ⟨hn, k, hk, rfl, hany⟩ := hrel
    have HN := Lib.hid hn
    have HANY := Lib.hid hany
    clear hn hany
    by_cases hlt : k < ss.length
    · obtain ⟨b, o, rfl, hbs, e0, e1, e2⟩ := (HS.out.new HN.out).at hlt
      have htk : Hid (ss.take (k + 1) = ss.take k ++ [ss[k]]) := by rw [Hid, List.take_add_one, List.getElem?_eq_getElem hlt]; rfl
      have hmem : Hid (ss[k] ∈ ss) := List.getElem_mem _
      obtain ⟨s, hs⟩ : ∃ s, ss[k] = s := ⟨_, rfl⟩
      rw [hs] at e0 e1 e2 htk hmem
      have K1 := Lib.hid (zero1 s)
      clear hs
      cases hb : zeroStep s with
      | true =>
        rw [hb] at K1
        have HBS := Lib.hid hb
        clear hb
        go_wp2_with (go_at_call 43; refine callRet (K1.out _) ?_; rintro v w1 ⟨hn1, rfl⟩)
        go_ret
        refine ⟨HN.out.andNew hn1, (k : Int), rfl, ?_⟩
        rw [decide_eq_true (by omega), List.any_eq_true]
        exact ⟨s, hmem.out, HBS.out⟩
      | false =>
        rw [hb] at K1
        have HBS := Lib.hid hb
        clear hb
        go_wp2_with (go_at_call 43; refine callRet (K1.out _) ?_; rintro v w1 ⟨hn1, rfl⟩; have HN1 := Lib.hid hn1; clear hn1)
        go_roundw
        case rel => exact ⟨HN.out.andNew HN1.out, k + 1, by omega, by go_num, by rw [htk.out, List.any_append, HANY.out]; simp [HBS.out]⟩
        case measure => simp [intOf]; omega
    · obtain rfl : k = ss.length := by omega
      go_wp2_with fail
      go_ret
      rw [List.take_length] at HANY
      exact ⟨HN.out, -1, rfl, by rw [HANY.out]; rfl⟩
set_option maxHeartbeats 1000000 in
theorem containsZero {w : World} {sa : Option Addr} {sc : Nat} {ss : List Stp} (hs : StepsA w sa sc ss) :
    Calls Tryd.prog 35 #[.slice sa ss.length sc, .func (.func 43) #[] #[]] w (Ret fun v w' => New w w' ∧ v = .bool (ss.any zeroStep)) := by
  have K1 := Lib.hid (indexZero hs)
  clear hs
  go_enter Tryd.func35, Tryd.ntmps35
  go_wp2_with (go_at_call 57; refine callRet K1.out ?_; rintro v w1 ⟨hn, i, rfl, hi⟩; have HI := Lib.hid hi; have HN := Lib.hid hn; clear hi hn)
  go_ret
  exact ⟨HN.out, by rw [HI.out]; rfl⟩
def exactB (ss : List Stp) : Bool := !ss.any zeroStep
theorem exactB_spec {ss : List Stp} (h : exactB ss = true) : ∀ s ∈ ss, s.k ≠ 0 := by
  unfold exactB at h
  simp only [Bool.not_eq_true', List.any_eq_false] at h
  intro s hs hk
  have := h s hs
  unfold zeroStep at this
  simp [hk] at this
set_option maxHeartbeats 1000000 in
theorem exactC {w : World} {sa : Option Addr} {sc : Nat} {ss : List Stp} (hs : StepsA w sa sc ss) :
    Calls Tryd.prog 21 #[.slice sa ss.length sc] w (Ret fun v w' => New w w' ∧ v = .bool (exactB ss)) := by
  have K1 := Lib.hid (containsZero hs)
  clear hs
  obtain ⟨b, hb⟩ : ∃ b, ss.any zeroStep = b := ⟨_, rfl⟩
  have e : exactB ss = !b := by unfold exactB; rw [hb]
  rw [hb] at K1
  rw [e]
  clear hb e
  cases b <;>
  · go_enter Tryd.func21, Tryd.ntmps21
    go_wp2_with (go_at_call 35; refine callRet K1.out ?_; rintro v w1 ⟨hn, rfl⟩)
    go_ret
    exact ⟨hn, rfl⟩
theorem frags_f (d : UInt8) : ∀ (n : Nat) (A : AR), (frags d n A).2.2.f = A.f
  | 0, A => rfl
  | n + 1, A => by
    unfold frags
    split
    · exact (frags_f d n _).trans (sliceA_left A d).2.2.1
    · exact (sliceA_left A d).2.2.1
theorem stepRel_f {A A' : AR} {s : Stp} {z : Ans} (hs : stepRel A s z A') : A'.f = A.f := by
  unfold stepRel at hs
  split at hs
  · obtain ⟨k, e, hr, _⟩ := hs
    exact hr.2.2.2.1
  · split at hs
    · obtain ⟨_, _, _, _, rfl⟩ := hs; rfl
    · obtain ⟨_, rfl⟩ := hs
      unfold stepF
      split
      · show (byteA A).2.f = _
        unfold byteA; split <;> rfl
      · split
        · show (unbyteA A).2.f = _
          unfold unbyteA; split <;> rfl
        · split
          · show (runeA A).2.f = _
            unfold runeA; split <;> rfl
          · split
            · show (unruneA A).2.f = _
              unfold unruneA
              split
              · rfl
              · split <;> rfl
            · split
              · show (peekA A s.n).2.f = _
                unfold peekA
                repeat' split
                all_goals rfl
              · split
                · show (discardA A s.n).2.f = _
                  unfold discardA
                  repeat' split
                  all_goals rfl
                · split
                  · exact (sliceA_left A s.d).2.2.1
                  · split
                    · show (lineA A).2.f = _
                      have h1 := (sliceA_left A 10).2.2.1
                      unfold lineA
                      repeat' split
                      all_goals exact h1
                    · split
                      · exact frags_f _ _ _
                      · rfl
theorem runRel_f {ss : List Stp} : ∀ {A A' : AR} {zs : List Ans}, runRel A ss zs A' → A'.f = A.f := by
  induction ss with
  | nil =>
    intro A A' zs h
    cases zs with
    | nil => rw [runRel_nil.1 h]
    | cons z0 zs => exact False.elim h
  | cons s0 ss ih =>
    intro A A' zs h
    cases zs with
    | nil => exact False.elim h
    | cons z0 zs =>
      obtain ⟨A3, h3, h4⟩ := runRel_cons.1 h
      exact (ih h4).trans (stepRel_f h3)
/-- where steps lead, the answers left out -/
def foldA (A : AR) (ss : List Stp) : AR := ss.foldl (fun A s => if s.k = 11 then A else (stepF A s).2) A
theorem runRel_fold {ss : List Stp} : ∀ {A A' : AR} {zs : List Ans}, (∀ s ∈ ss, s.k ≠ 0) → runRel A ss zs A' → A' = foldA A ss := by
  induction ss with
  | nil =>
    intro A A' zs _ h
    cases zs with
    | nil => exact runRel_nil.1 h
    | cons z0 zs => exact False.elim h
  | cons s0 ss ih =>
    intro A A' zs hk h
    cases zs with
    | nil => exact False.elim h
    | cons z0 zs =>
      obtain ⟨A3, h3, h4⟩ := runRel_cons.1 h
      have h5 := ih (fun s hs => hk s (by simp [hs])) h4
      have e : A3 = if s0.k = 11 then A else (stepF A s0).2 := by
        unfold stepRel at h3
        rw [if_neg (hk s0 (by simp))] at h3
        split at h3
        · rename_i h11; obtain ⟨_, _, _, _, rfl⟩ := h3; rw [if_pos h11]
        · rename_i h11; rw [if_neg h11]; exact h3.2
      rw [h5, e]; rfl
def DrainPost (w : World) (A : AR) (f : Bool) (ss : List Stp) (v : Value) (w' : World) : Prop :=
  New w w' ∧ ∃ a c zs A', runRel A ss zs A' ∧ v = .tuple #[.slice a A'.left.length c, .int .i64 (A'.left.length : Int), .int .i64 (restC f : Int)] ∧ BytesA w' a c A'.left
set_option maxRecDepth 100000 in
set_option maxHeartbeats 2000000 in
theorem implDrain {S : Err → Addr} {B : Nat} {w : World} {sz : Nat} {a sa : Option Addr} {c sc : Nat} {ps : List (List UInt8)} {ss : List Stp} (f : Bool) (E : Env S B w) (T : TabsB B w) (h : PiecesA w a c ps) (hs : StepsA w sa sc ss) (hl : ps.flatten.length ≤ 20000) (hn : ps.length ≤ 500) (hsz : sz ≤ 5000) (hne : nones ps ≤ 50) (hok : StepsOk ss) (h64 : Steps64 ss) :
    Calls Tryd.prog 27 #[.agg #[.slice a ps.length c, .bool f], .int .i64 (sz : Int), .slice sa ss.length sc] w (Ret (DrainPost w (fresh0 (max sz 16) ps.flatten f) f ss)) := by
  have K1 := Lib.hid (readerOf a c ps f ((w.alloc (.cells #[.slice a ps.length c, .bool f] 24))) (h.new ((Upd.refl _ _).alloc _)) (by omega) (by omega))
  have h2 := h.2.1
  unfold maxLen at h2
  have hs1 := hs.1
  have hs2 := hs.2.1
  unfold maxLen at hs2
  have HE := Lib.hid E
  have HT := Lib.hid T
  have HS := Lib.hid hs
  have HL := Lib.hid hl
  have HOK := Lib.hid hok
  have H64 := Lib.hid h64
  have hss := hok.1
  clear h E T hs hl hok h64
  go_enter Tryd.func27, Tryd.ntmps27
  go_wp2_with (first | (go_at_call 40; refine callRet K1.out ?_; intro v w1 h1; obtain ⟨hu1, s, rfl, hsrc⟩ := h1; have HU := Lib.hid hu1; clear hu1; have K2 := Lib.hid (newReaderSize (S := S) (sz := sz) hsrc (by have := HU.out.size; simpa using this) hsz hne); clear hsrc) | (go_at_call 39; refine callRet K2.out ?_; intro v w2 h2; obtain ⟨hu2, L, rfl, hlo, hhi, hrd⟩ := h2; have HU2 := Lib.hid (((Upd.refl (fun _ => False) w).alloc (.cells #[.slice a ps.length c, .bool f] 24)).andNew (HU.out.andNew hu2)); have HLO : Hid (w.heap.size ≤ L.lo) := (by rw [Hid, hlo]; simp); have HHI := Lib.hid hhi; have HRD := Lib.hid hrd; clear hu2 hlo hhi hrd))
  go_loopw [22] (fun i wr => ∃ (k : Nat) (st : RS) (A : AR) (zs : List Ans), i = .int .i64 (k : Int) ∧ k ≤ ss.length ∧ Abs st A ∧ A.left.length ≤ 20000 + 4 * k ∧ Rd S wr L st ∧ New w wr ∧ L.hi ≤ wr.heap.size ∧ runRel (fresh0 (max sz 16) ps.flatten f) (ss.take k) zs A) (fun i _ => ss.length - (intOf i).toNat)
  case atStart => exact ⟨0, _, _, [], rfl, Nat.zero_le _, abs_fresh _ _ _, HL.out, HRD.out, HU2.out, HHI.out, rfl⟩
  case round =>
    obtain ⟨k, st, A, zs, rfl, hkn, hA, hAl, hrd, hnew, hhi, hrun⟩ := hrel
    have HA := Lib.hid hA
    have HR := Lib.hid hrd
    have HNW := Lib.hid hnew
    have HH := Lib.hid hhi
    have HRUN := Lib.hid hrun
    clear hA hrd hnew hhi hrun
    by_cases hlt : k < ss.length
    · obtain ⟨b, o, rfl, hbs, e0, e1, e2⟩ := (HS.out.new HNW.out).at hlt
      obtain ⟨s, hs⟩ : ∃ s, ss[k] = s := ⟨_, rfl⟩
      rw [hs] at e0 e1 e2
      have hsm : s ∈ ss := by rw [← hs]; exact List.getElem_mem _
      have htk : Hid (ss.take (k + 1) = ss.take k ++ [s]) := by rw [Hid, List.take_add_one, List.getElem?_eq_getElem hlt, hs]; rfl
      have hok := HOK.out.2 s hsm
      have h64 := H64.out s hsm
      have KS := Lib.hid (fun wx (hx : New wr wx) => step (HE.out.new (HNW.out.andNew hx)) (HT.out.new (HNW.out.andNew hx)) (Nat.le_trans HE.out.size HLO.out) (HR.out.new hx) HA.out (Nat.le_trans HH.out hx.size) (by omega) s hok.1 h64.2)
      clear hs hsm hok h64
      obtain ⟨ks, ns, d⟩ := s
      simp only at e0 e1 e2
      go_wp2_with (go_at_call 41; refine callRet (KS.out _ ((Upd.refl _ _).alloc _)) ?_; intro v2 w2 h2; obtain ⟨st2, z, A2, hrel2, hrd2, habs2, hu2, _⟩ := h2; have HREL := Lib.hid hrel2; have HABS := Lib.hid habs2; have HR2 := Lib.hid hrd2; have HU4 := Lib.hid hu2; clear hrel2 habs2 hrd2 hu2)
      go_roundw
      case rel =>
        refine ⟨k + 1, st2, A2, zs ++ [z], by go_num, by omega, HABS.out, ?_, HR2.out, ?_, ?_, ?_⟩
        · have := stepRel_left HR.out HA.out HREL.out; omega
        · exact Upd.inNew (HNW.out.alloc _) HU4.out HLO.out
        · exact Nat.le_trans HH.out (Nat.le_trans ((Upd.refl (fun _ => False) wr).alloc (.cells #[.int .i64 ks, .int .i64 ns, .int .u8 (d.toNat : Int)] 53)).size HU4.out.size)
        · rw [htk.out]; exact runRel_snoc HREL.out HRUN.out
      case measure => simp [intOf]; omega
    · obtain rfl : k = ss.length := by omega
      rw [List.take_length] at HRUN
      have hrem : rem st = A.left := HA.out.left
      have hf : st.f = f := by rw [HA.out.f]; exact runRel_f HRUN.out
      obtain ⟨m, hm⟩ : ∃ m, A.left.length = m := ⟨_, rfl⟩
      have HM := Lib.hid hm
      have KWT : Hid (Calls Tryd.prog 50 #[.pointer (some ⟨L.b, 0, none⟩), .iface 98 (.pointer (some ⟨wr.heap.size, 0, none⟩))] (wr.alloc (.cells #[.slice none 0 0, .int .i64 0, .int .i8 0] 95)) (Ret fun v w' => v = .tuple #[.int .i64 (m : Int), eV S (restE f)] ∧ (∃ v', Buf w' wr.heap.size (wr.heap.size + 1) v' A.left) ∧ New w w')) := by
        have hnb : New wr (wr.alloc (.cells #[.slice none 0 0, .int .i64 0, .int .i8 0] 95)) := (Upd.refl _ _).alloc _
        have hz : (wr.alloc (.cells #[.slice none 0 0, .int .i64 0, .int .i8 0] 95)).heap.size = wr.heap.size + 1 := by simp
        have h1 := HE.out.size
        have h2 := HNW.out.size
        have h3 := HH.out
        have h4 := HLO.out
        have KW := writeTo (HE.out.new (HNW.out.andNew hnb)) (HR.out.new hnb) (Buf.made (base := wr.heap.size + 1) (Upd.refl _ _)) ⟨by omega, by omega, by omega⟩ (by omega) (fun hh => by have := hh.2; omega) (by omega) (by omega) (by rw [hrem, hm]; omega)
        refine callRet KW ?_
        rintro v w3 ⟨rfl, hb3, hu3⟩
        rw [hrem] at hb3
        refine ⟨?_, by simpa using hb3, (HNW.out.andNew hnb).trans hu3 (fun k hk hlt => by have hk : k = wr.heap.size ∨ wr.heap.size + 1 ≤ k ∨ In L k := hk; rcases hk with hk | hk | hk; omega; omega; have := hk.1; omega)⟩
        rw [hrem, HM.out, hf, restE_v]
      have KCO := Lib.hid (fun (wx : World) (hx : Env S B wx) => codeOf (S := S) (restE f) wx hx)
      obtain ⟨re, hre⟩ : ∃ re, eV S (restE f) = re := ⟨_, rfl⟩
      rw [hre] at KWT KCO
      rw [restE_c] at KCO
      have hmb : Hid (A.left.length ≤ 30000) := by rw [Hid, hm]; omega
      have hm1 : m ≤ 30000 := by omega
      clear hre hm hrem hf
      go_wp2_with (first | (go_at_call 50; refine callRet KWT.out ?_; rintro v w3 ⟨rfl, ⟨v3, hb3⟩, hn3⟩; have HB3 := Lib.hid hb3; have HN3 := Lib.hid hn3; clear hb3 hn3) | (go_at_call 52; refine callRet (bufBytes HB3.out) ?_; rintro v w4 ⟨hn4, a4, c4, rfl, hby4⟩; have HN4 : Hid (New w w4) := HN3.out.andNew hn4; have HBY4 := Lib.hid (hby4.new hn4); clear hn4 hby4) | (go_at_call 51; refine callRet (copied _ _ _ _ HBY4.out (by have := hmb.out; omega)) ?_; intro v w5 hnb5; have HN5 : Hid (New w w5) := HN4.out.andNew hnb5.1; obtain ⟨g5, c5, rfl, _, _, hby5⟩ := hnb5.bytes; have HBY5 := Lib.hid hby5; clear hnb5 hby5) | (go_at_call 34; refine callRet (KCO.out _ (HE.out.new HN5.out)) ?_; rintro v w6 ⟨rfl, rfl⟩))
      refine bodyPost_ret (results_tmp3 rfl _ _ _) rfl ?_
      exact ⟨HN5.out, _, _, zs, A, HRUN.out, by rw [HM.out]; rfl, HBY5.out⟩
end Go.Proofs.YtmmjfpcmempeeaaDoor
