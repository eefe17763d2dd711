/- (*impl.reader).Read: the next piece, or as much of it as there is room for. -/
import Derived.Test.YtgbbogocfmepiaaDoorReaderOf
namespace Go.Proofs.YtgbbogocfmepiaaDoor
open Go.RowKit
def endErr (f : Bool) : Err := if f then .fault else .eof
/-- what is left behind a Read of so many bytes of the first piece -/
def srcLeft (k : Nat) : List (List UInt8) → List (List UInt8)
  | [] => []
  | p :: rest => if k = p.length then rest else p.drop k :: rest
theorem srcLeft_flatten (k : Nat) (p : List UInt8) (rest : List (List UInt8)) (h : k ≤ p.length) : (p :: rest).flatten = p.take k ++ (srcLeft k (p :: rest)).flatten := by
  simp only [srcLeft]
  split
  · rename_i hk; subst hk; simp
  · rw [List.flatten_cons, List.flatten_cons, ← List.append_assoc, List.take_append_drop]
theorem srcRead_nil {S : Err → Addr} {B : Nat} {w : World} {lo hi s : Nat} {f : Bool} (E : Env S B w) (h : Src w lo hi s [] f) (v : Value) :
    Calls Tryd.prog 97 #[.pointer (some ⟨s, 0, none⟩), v] w (Ret fun r w' => New w w' ∧ r = .tuple #[.int .i64 0, eV S (some (endErr f))]) := by
  obtain ⟨_, _, pv, hs, a, c, rfl, _⟩ := h
  have c0 : w.cell? ⟨s, 0, none⟩ = some (.slice a 0 c) := by rw [World.cell_of_heap hs]; rfl
  have c1 : w.cell? ⟨s, 1, none⟩ = some (.bool f) := by rw [World.cell_of_heap hs]; rfl
  have l1 : w.cell? ⟨4, 0, none⟩ = some (eV S (some .eof)) := (E.g .eof (by decide)).2
  simp only [eV] at l1
  clear E hs
  cases f
  · go_enter Tryd.func97, Tryd.ntmps97
    go_wp2_with fail
    refine wp_region_lx {} (by kernel_rfl) (by kernel_rfl) ⟨fun _ _ _ h => h.2, fun _ _ h => h⟩ ?_
    repeat (refine wpLx_calm rfl rfl rfl (fun K hK => ?_); go_step; refine hK _ ?_; clear hK K)
    refine wpLx_nil ?_
    go_wp2
    go_ret2
    exact ⟨(Upd.refl _ _).drew, rfl⟩
  · go_enter Tryd.func97, Tryd.ntmps97
    go_wp2
    go_ret2
    exact ⟨Upd.refl _ _, rfl⟩
/-- what a Read leaves: k bytes of the first piece at 'off' of block g -/
def ReadPost (w : World) (lo hi s : Nat) (p0 : List UInt8) (rest : List (List UInt8)) (f : Bool) (g off k : Nat) (cur : Array Value) (r : Value) (w' : World) : Prop :=
  r = .tuple #[.int .i64 ((k : Nat) : Int), .nilIface] ∧ w'.heap[g]? = some (.cells (splice cur.toList off ((p0.take k).map bv)).toArray 5 (0, 0)) ∧
    Src w' lo hi s (srcLeft k (p0 :: rest)) f ∧ Upd (fun k => k = g ∨ (lo ≤ k ∧ k < hi)) w w' ∧ w'.heap.size = w.heap.size
set_option maxRecDepth 100000 in
set_option maxHeartbeats 1000000 in
theorem srcRead_cons {w : World} {lo hi s : Nat} {p0 : List UInt8} {rest : List (List UInt8)} {f : Bool} (h : Src w lo hi s (p0 :: rest) f) (g off n c : Nat) (cur : Array Value) (hg : w.heap[g]? = some (.cells cur 5 (0, 0)))
    (hout : ¬ (lo ≤ g ∧ g < hi)) (hfit : off + n ≤ cur.size) (hnc : n ≤ c) (hcm : c ≤ 9223372036854775807) :
    Calls Tryd.prog 97 #[.pointer (some ⟨s, 0, none⟩), .slice (some ⟨g, off, none⟩) n c] w
      (Ret (ReadPost w lo hi s p0 rest f g off (min p0.length n) cur)) := by
  obtain ⟨hlo, hhi, pv, hs, a, cp, rfl, hp1, hp2, hp3, hp4⟩ := h
  cases a with
  | none => have := hp3 rfl; simp at hp1; omega
  | some pp =>
  obtain ⟨q1, q2, q3, prow, q4, q5⟩ := hp4 pp rfl
  obtain ⟨pb, po, psp⟩ := pp
  subst q1
  obtain ⟨v0, hv0, hpc⟩ := q5 0 (by simp)
  obtain ⟨g0, o0, cc, pcur, rfl, r1, r2, r3, r4, r5, r6⟩ := hpc
  simp only [List.getElem_cons_zero, Nat.add_zero, List.length_cons] at hv0 r4 r6 hp1 hs q5
  unfold maxLen at hp2 r5
  have c0 : w.cell? ⟨s, 0, none⟩ = some (.slice (some ⟨pb, po, none⟩) (rest.length + 1) cp) := by rw [World.cell_of_heap hs]; rfl
  have c1 : w.cell? ⟨pb, po, none⟩ = some (.slice (some ⟨g0, o0, none⟩) p0.length cc) := by rw [World.cell_of_heap q4]; exact hv0
  have hgs : g ≠ s := fun e => hout ⟨by omega, by omega⟩
  have hgp : g ≠ pb := fun e => hout ⟨by subst e; exact q2, by subst e; exact q3⟩
  obtain ⟨k, hk⟩ : ∃ k, k = min p0.length n := ⟨_, rfl⟩
  rw [← hk]
  have hcs : ((p0.take k).map bv).length = k := by simp; omega
  have hsrc : ∀ p, (some ⟨g0, o0, none⟩ : Option Addr) = some p → ∀ j u, ((p0.take k).map bv)[j]? = some u → w.cell? (p.add j) = some u := by
    intro p hp j u hu
    simp only [Option.some.injEq] at hp
    subst hp
    have hadd : (⟨g0, o0, none⟩ : Addr).add j = ⟨g0, o0 + j, none⟩ := by unfold Addr.add; split <;> simp_all
    rw [hadd, World.cell_of_heap r3]
    have hj : j < (p0.take k).length := by
      rcases Nat.lt_or_ge j (p0.take k).length with h | h
      · exact h
      · rw [List.getElem?_eq_none (by simpa using h)] at hu; cases hu
    rw [r6 j (by simp at hj; omega)]
    rw [List.getElem?_map, List.getElem?_eq_getElem hj] at hu
    simpa using hu
  have K1 := Lib.hid hk
  have HC := Lib.hid hcs
  have HV := Lib.hid hv0
  have Hs := Lib.hid hs
  have Hq4 := Lib.hid q4
  have Hr3 := Lib.hid r3
  have Hr6 := Lib.hid r6
  have Hg := Lib.hid hg
  have Hq5 := Lib.hid q5
  have Hsrc := Lib.hid hsrc
  have hkm : k ≤ p0.length := by omega
  have hkn : k ≤ n := by omega
  clear hk hcs hv0 hs q4 r3 r6 hg q5 hsrc hp3 hp4
  go_enter Tryd.func97, Tryd.ntmps97
  go_wp2_with (refine wpList_plain rfl (fun K hK => ?_); with_reducible refine wp_copy eB (.tmp 20) (.tmp 26) 29 rfl g off n c rfl cur 5 Hg.out _ p0.length cc rfl (fun h => by cases h) ((p0.take k).map bv) (by rw [HC.out]; exact K1.out) Hsrc.out (by rw [HC.out]; omega) (oneCell_bytes _) ?_; intro w1 hw1 hu1 hz1; rw [HC.out]; refine hK _ _ ?_; clear hK K)
  have Hw1 := Lib.hid hw1
  have hp1h : w1.heap[pb]? = some (.cells prow 29 (0, 0)) := hu1.heap Hq4.out (fun h => hgp h.symm)
  have hs1h : w1.heap[s]? = some (.cells #[.slice (some ⟨pb, po, none⟩) (rest.length + 1) cp, .bool f] 99 (0, 0)) := hu1.heap Hs.out (fun h => hgs h.symm)
  have hps : pb ≠ s := fun e => by subst e; rw [hp1h] at hs1h; simp at hs1h
  have c0' : w1.cell? ⟨s, 0, none⟩ = some (.slice (some ⟨pb, po, none⟩) (rest.length + 1) cp) := hu1.cell c0 (fun h => hgs h.symm)
  have c1' : w1.cell? ⟨pb, po, none⟩ = some (.slice (some ⟨g0, o0, none⟩) p0.length cc) := hu1.cell c1 (fun h => hgp h.symm)
  have f1 : w1.frozen? ⟨pb, po, none⟩ = false := World.frozen_of_heap hp1h _
  have f0 : w1.frozen? ⟨s, 0, none⟩ = false := World.frozen_of_heap hs1h _
  have Hp1h := Lib.hid hp1h
  have Hs1h := Lib.hid hs1h
  have Hu1 := Lib.hid hu1
  have Hz1 := Lib.hid hz1
  clear hw1 hp1h hs1h hu1 hz1 c0 c1
  refine wp_region_lx {} (by kernel_rfl) (by kernel_rfl) ⟨fun _ _ _ h => h.2, fun _ _ h => h⟩ ?_
  repeat (refine wpLx_calm rfl rfl rfl (fun K hK => ?_); go_step; refine hK _ ?_; clear hK K)
  refine wpLx_eff rfl rfl rfl (fun K hK => ?_)
  have hpo : po < prow.size := by
    have := HV.out
    rcases Nat.lt_or_ge po prow.size with h | h
    · exact h
    · rw [Array.getElem?_eq_none h] at this; cases this
  refine wp_store (by kernel_rfl) _ _ rfl pb po rfl _ rfl rfl prow _ Hp1h.out hpo ?_
  intro w2 hw2 hu2 hz2
  refine hK _ _ ?_
  clear hK K
  refine wpLx_nil ?_
  have hw2' : w2.heap[pb]? = some (.cells (prow.setIfInBounds po (.slice (if cc = k then some ⟨g0, o0, none⟩ else some ⟨g0, o0 + k, none⟩) (p0.length - k) (cc - k))) 29 (0, 0)) := hw2
  have d0 : w2.cell? ⟨s, 0, none⟩ = some (.slice (some ⟨pb, po, none⟩) (rest.length + 1) cp) := hu2.cell (p := ⟨s, 0, none⟩) c0' (fun h => hps h.symm)
  have d1 : w2.cell? ⟨pb, po, none⟩ = some (.slice (if cc = k then some ⟨g0, o0, none⟩ else some ⟨g0, o0 + k, none⟩) (p0.length - k) (cc - k)) := by
    rw [World.cell_of_heap hw2']; simp [hpo]
  have hs2 : w2.heap[s]? = some (.cells #[.slice (some ⟨pb, po, none⟩) (rest.length + 1) cp, .bool f] 99 (0, 0)) := hu2.heap Hs1h.out (fun h => hps h.symm)
  have f2 : w2.frozen? ⟨s, 0, none⟩ = false := World.frozen_of_heap hs2 _
  have hg2 : w2.heap[g]? = some (.cells (splice cur.toList off ((p0.take k).map bv)).toArray 5 (0, 0)) := hu2.heap Hw1.out hgp
  have hu12 : Upd (fun j => j = pb) w1 w2 := (Upd.refl (fun j => j = pb) w1).drew.trans hu2 (fun _ h _ => h)
  have hu02 : Upd (fun j => j = g ∨ (lo ≤ j ∧ j < hi)) w w2 := (Hu1.out.mono (fun j hj _ => Or.inl hj)).trans hu12 (fun j hj _ => by subst hj; exact .inr ⟨q2, q3⟩)
  have hsz2 : w2.heap.size = w.heap.size := by have := Hz1.out; simp at hz2; omega
  -- the pieces behind the first stand as they stood
  have hpc2 : ∀ v bs, Piece w lo hi v bs → Piece w2 lo hi v bs := by
    intro v bs hp
    refine (hp.upd Hu1.out (fun j c' hj _ _ _ => ?_)).upd hu12 (fun j c' hj _ _ hh => ?_)
    · subst hj; exact hout ⟨by assumption, by assumption⟩
    · subst hj; rw [Hp1h.out] at hh; simp at hh
  have hrest : ∀ i, (h : i < rest.length) → ∃ v, (prow.setIfInBounds po (.slice (if cc = k then some ⟨g0, o0, none⟩ else some ⟨g0, o0 + k, none⟩) (p0.length - k) (cc - k)))[po + 1 + i]? = some v ∧ Piece w2 lo hi v rest[i] := by
    intro i hi'
    obtain ⟨v, hv, hp⟩ := Hq5.out (i + 1) (by omega)
    refine ⟨v, ?_, hpc2 _ _ (by simpa using hp)⟩
    rw [Array.getElem?_setIfInBounds_ne (by omega)]
    rw [← hv]; congr 1; omega
  have hfirst : Piece w2 lo hi (.slice (if cc = k then some ⟨g0, o0, none⟩ else some ⟨g0, o0 + k, none⟩) (p0.length - k) (cc - k)) (p0.drop k) := by
    have hr3 : w2.heap[g0]? = some (.cells pcur 5 (0, 0)) := by
      refine hu12.heap (Hu1.out.heap Hr3.out (fun h => hout ⟨by omega, by omega⟩)) (fun h => ?_)
      have e := Hu1.out.heap Hr3.out (fun h => hout ⟨by omega, by omega⟩)
      subst h
      rw [Hp1h.out] at e; simp at e
    by_cases hck : cc = k
    · rw [if_pos hck]
      refine ⟨g0, o0, cc - k, pcur, by simp, r1, r2, hr3, by simp; omega, by unfold maxLen; omega, fun i hi' => ?_⟩
      simp at hi'; omega
    · rw [if_neg hck]
      refine ⟨g0, o0 + k, cc - k, pcur, by simp, r1, r2, hr3, by simp; omega, by unfold maxLen; omega, fun i hi' => ?_⟩
      have := Hr6.out (k + i) (by simp at hi'; omega)
      rw [show o0 + k + i = o0 + (k + i) by omega, this]
      simp
  have HW2 := Lib.hid hw2'
  have HS2 := Lib.hid hs2
  have HG2 := Lib.hid hg2
  have HU02 := Lib.hid hu02
  have HSZ := Lib.hid hsz2
  have HREST := Lib.hid hrest
  have HFIRST := Lib.hid hfirst
  have HPC2 := Lib.hid hpc2
  clear hw2 hw2' hs2 hg2 hu02 hsz2 hrest hfirst hpc2 hu12 hu2 hz2 c0' c1' f1 f0
  obtain ⟨ao, hao⟩ : ∃ ao : Option Addr, (if cc = k then some (⟨g0, o0, none⟩ : Addr) else some ⟨g0, o0 + k, none⟩) = ao := ⟨_, rfl⟩
  rw [hao] at HW2 HREST HFIRST d1 ⊢
  have HAO := Lib.hid hao
  clear hao
  by_cases hkk : k = p0.length
  · have hd : (((p0.length - k : Nat) : Int) == 0) = true := by simp; omega
    have HKK := Lib.hid hkk
    clear hkk
    have fin : ∀ (w3 : World) (pv : Value) (a3 : Option Addr), w3 = w2.setCell ⟨s, 0, none⟩ pv → pv = .slice a3 rest.length (cp - 1) → (rest ≠ [] → a3 = some ⟨pb, po + 1, none⟩) → (a3 = some ⟨pb, po, none⟩ ∨ a3 = some ⟨pb, po + 1, none⟩) →
        ReadPost w lo hi s p0 rest f g off k cur (.tuple #[.int .i64 ((k : Nat) : Int), .nilIface]) w3 := by
      intro w3 pv a3 hw3 hpv ha3 hor
      subst hw3; subst hpv
      refine ⟨rfl, ?_, ?_, ?_, ?_⟩
      · rw [Below.heap_setCell _ _ _ _ hgs]; exact HG2.out
      · have e : srcLeft k (p0 :: rest) = rest := by simp only [srcLeft]; rw [if_pos HKK.out]
        rw [e]
        have uS : Upd (fun j => j = s) w2 (w2.setCell ⟨s, 0, none⟩ (.slice a3 rest.length (cp - 1))) := (Upd.refl (fun j => j = s) w2).setCell (fun _ => rfl) _
        refine ⟨hlo, hhi, .slice a3 rest.length (cp - 1), ?_, a3, cp - 1, rfl, by omega, by unfold maxLen; omega, ?_, ?_⟩
        · exact World.heap_setCell_self HS2.out 0 _
        · intro hn; rcases hor with h | h <;> (rw [h] at hn; cases hn)
        · intro p hp
          have hpcs : ∀ v bs, Piece w2 lo hi v bs → Piece (w2.setCell ⟨s, 0, none⟩ (.slice a3 rest.length (cp - 1))) lo hi v bs := by
            intro v bs hp
            refine hp.upd uS (fun j c' hj _ _ hh => ?_)
            subst hj; rw [HS2.out] at hh; simp at hh
          have hpb := uS.heap HW2.out hps
          rcases hor with h | h
          · rw [h] at hp
            simp only [Option.some.injEq] at hp
            subst hp
            refine ⟨rfl, q2, q3, _, hpb, fun i hi' => ?_⟩
            have := ha3 (by rintro rfl; simp at hi')
            rw [h] at this; simp at this
          · rw [h] at hp
            simp only [Option.some.injEq] at hp
            subst hp
            refine ⟨rfl, q2, q3, _, hpb, fun i hi' => ?_⟩
            obtain ⟨v, hv, hp⟩ := HREST.out i hi'
            exact ⟨v, hv, hpcs _ _ hp⟩
      · exact HU02.out.setCell (fun _ => .inr ⟨hlo, hhi⟩) _
      · simp [World.setCell]; exact HSZ.out
    have FIN := Lib.hid fin
    clear fin
    by_cases hc1 : cp = 1
    · subst hc1
      have hr0 : rest = [] := List.eq_nil_of_length_eq_zero (by omega)
      have HR0 := Lib.hid hr0
      clear hr0
      go_wp2
      go_ret2
      exact FIN.out _ _ _ rfl (by rw [HR0.out]; rfl) (fun h => (h HR0.out).elim) (.inl rfl)
    · go_wp2
      go_ret2
      exact FIN.out _ _ _ rfl rfl (fun _ => rfl) (.inr rfl)
  · have hd : (((p0.length - k : Nat) : Int) == 0) = false := by simp; omega
    go_wp2
    go_ret2
    refine ⟨rfl, HG2.out, ?_, HU02.out, HSZ.out⟩
    have e : srcLeft k (p0 :: rest) = p0.drop k :: rest := by simp only [srcLeft]; rw [if_neg hkk]
    rw [e]
    refine ⟨hlo, hhi, _, HS2.out, _, cp, rfl, by simpa using hp1, by unfold maxLen; omega, by simp, fun p hp => ?_⟩
    simp only [Option.some.injEq] at hp
    subst hp
    refine ⟨rfl, q2, q3, _, HW2.out, fun i hi' => ?_⟩
    cases i with
    | zero => exact ⟨_, by simp [hpo], HFIRST.out⟩
    | succ i =>
      obtain ⟨v, hv, hp⟩ := HREST.out i (by simpa using hi')
      exact ⟨v, by rw [← hv]; congr 1; simp; omega, by simpa using hp⟩
end Go.Proofs.YtgbbogocfmepiaaDoor
