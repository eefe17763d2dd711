/- spec.Tokens. -/
import Derived.Test.YtgbbogocfmepiaaDoorSplitW
import Derived.Test.YtgbbogocfmepiaaDoorToks
import Derived.Test.YtgbbogocfmepiaaDoorListsE
import Derived.Deep.LoopGhost
namespace Go.Proofs.YtgbbogocfmepiaaDoor
open Go.RowKit
theorem box_newsL {w : World} {xs : Array Value} {t : TypeId} : ∀ p, (some ⟨w.heap.size, 0, none⟩ : Option Addr) = some p → ∀ j u, xs.toList[j]? = some u → (w.alloc (.cells xs t)).cell? (p.add j) = some u := fun p hp => by
  simp only [Option.some.injEq] at hp; subst hp
  exact World.news_of_block' (cs := xs) (t := t) (fr := (0, 0)) (heap_alloc_new w _)
theorem specSplitK {w : World} {a : Option Addr} {c : Nat} {bs : List UInt8} {k : Nat} (hk : k < 4) (h : BytesA w a c bs) (hne : bs ≠ []) (hbig : bs.length ≤ 2147483647) :
    Calls Tryd.prog 29 #[.int .i64 (k : Int), .slice a bs.length c, .bool true] w (Ret (SSplitPost w a (spl k bs true))) := by
  have : k = 0 ∨ k = 1 ∨ k = 2 ∨ k = 3 := by omega
  rcases this with rfl | rfl | rfl | rfl
  · exact specSplit_0 h true (.inl hne)
  · exact specSplit_1 h true (.inl hne) hbig
  · exact specSplit_2 h true
  · exact specSplit_3 h true (.inl hne)
/-- bytes in a block of bytes -/
def ByteBlk (w : World) (a : Option Addr) (bs : List UInt8) : Prop := ∀ p, a = some p → bs ≠ [] → ∃ cur, w.heap[p.block]? = some (.cells cur 5 (0, 0))
theorem ByteBlk.upd {M : Nat → Prop} {w w1 : World} {a : Option Addr} {bs : List UInt8} (h : ByteBlk w a bs) (u : Upd M w w1) (hm : ∀ k cur, M k → w.heap[k]? = some (.cells cur 5 (0, 0)) → False) : ByteBlk w1 a bs := fun p hp hn => by
  obtain ⟨cur, hc⟩ := h p hp hn
  exact ⟨cur, u.heap hc (fun hh => hm _ cur hh hc)⟩
def TkPost (w : World) (ts : List (List UInt8)) (v : Value) (w' : World) : Prop := New w w' ∧ ∃ a c, v = .slice a ts.length c ∧ PiecesA w' a c ts
set_option maxRecDepth 100000 in
set_option maxHeartbeats 1000000 in
theorem specTokens {w : World} {a : Option Addr} {c : Nat} {bs : List UInt8} {k : Nat} (hk : k < 4) (h : BytesA w a c bs) (hblk : ByteBlk w a bs) (hbig : bs.length ≤ 1000000) :
    Calls Tryd.prog 10 #[.int .i64 (k : Int), .slice a bs.length c] w (Ret (TkPost w (tokens k bs))) := by
  have H := Lib.hid h
  have HBLK := Lib.hid hblk
  have l1 := h.1
  have l2 := h.2.1
  unfold maxLen at l2
  have HN0 : Hid (OwnL w.heap.size (fun _ => True) (w.alloc (.cells #[] 29)) (.slice (some ⟨w.heap.size, 0, none⟩) 0 0) []) := ⟨[], rfl, World.ownsRow_made w #[] 0 (Nat.le_refl _) (Nat.zero_le _) rfl, fun i hi => by simp at hi⟩
  clear h hblk
  go_enter Tryd.func10, Tryd.ntmps10
  go_wp2_with fail
  go_loopg [1, 5] bs.length (fun gk v1 v5 wr => ∃ (rest : List UInt8) (ts : List (List UInt8)) (a1 : Option Addr) (c1 : Nat), v1 = .slice a1 rest.length c1 ∧ BytesA wr a1 c1 rest ∧ ByteBlk wr a1 rest ∧ OwnL w.heap.size (fun _ => True) wr v5 ts ∧ New w wr ∧ tokens k bs = ts ++ tokens k rest ∧ ts.length + rest.length ≤ bs.length ∧ rest.length ≤ gk)
  case atStart => exact ⟨bs, [], a, c, rfl, H.out.new ((Upd.refl _ _).alloc _), HBLK.out.upd ((Upd.refl (fun _ => False) _).alloc _) (fun _ _ h _ => h), HN0.out, (Upd.refl _ _).alloc _, rfl, by simp, Nat.le_refl _⟩
  case round =>
    obtain ⟨rest, ts, a1, c1, rfl, hby, hbk, hO, hN, htk, hlen, hgk⟩ := hrel
    have HBY := Lib.hid hby
    have HBK := Lib.hid hbk
    have HO := Lib.hid hO
    have HN := Lib.hid hN
    have HTK := Lib.hid htk
    have l3 := hby.1
    have l4 := hby.2.1
    unfold maxLen at l4
    by_cases hr : rest = []
    · subst hr
      have hfin : TkPost w (tokens k bs) u5 wr := by
        rw [tokens_nil, List.append_nil] at htk
        rw [htk]
        exact ⟨hN, hO.pieces⟩
      have HFIN := Lib.hid hfin
      have q1 : decide ((0 : Int) < (([] : List UInt8).length : Int)) = false := rfl
      clear hby hbk hO hN htk hfin
      go_wp2_with fail
      go_ret
      exact HFIN.out
    · have hl : 0 < rest.length := List.length_pos_iff.2 hr
      obtain ⟨g, o, rfl⟩ : ∃ g o, a1 = some ⟨g, o, none⟩ := by
        cases a1 with
        | none => have := hby.2.2.1 rfl; omega
        | some p => obtain ⟨b, o, s⟩ := p; obtain rfl := (hby.2.2.2 _ rfl).1 hr; exact ⟨b, o, rfl⟩
      have KS := specSplitK hk hby hr (by omega)
      obtain ⟨X, hX⟩ : ∃ X, spl k rest true = X := ⟨_, rfl⟩
      obtain ⟨n, t⟩ := X
      rw [hX] at KS
      have HKS := Lib.hid KS
      cases t with
      | none =>
        have hfin : ∀ w2, New wr w2 → TkPost w (tokens k bs) u5 w2 := by
          intro w2 hu
          rw [tokens_none hX, List.append_nil] at htk
          rw [htk]
          exact ⟨hN.andNew hu, (hO.new hu).pieces⟩
        have HFIN := Lib.hid hfin
        clear hby hbk hO hN htk hfin KS hX
        obtain ⟨m, hm⟩ : ∃ m, rest.length = m := ⟨_, rfl⟩
        rw [hm] at hl l3 hlen hgk HKS ⊢
        clear hm
        go_wp2_with (go_at_call 29; refine callRet HKS.out ?_; rintro v w2 ⟨hu, ta, tc, rfl, _, _⟩; have HU := Lib.hid hu; clear hu)
        go_ret
        exact HFIN.out _ HU.out
      | some t =>
        have hpos := spl_pos hr hX
        have htk2 := tokens_some hr hX
        have hbd : ∀ (w2 : World) (o' c' : Nat), New wr w2 → (c1 = n ∧ o' = o ∧ c' = 0) ∨ (c1 ≠ n ∧ o' = o + n ∧ c' = c1 - n) → BytesA w2 (some ⟨g, o', none⟩) c' (rest.drop n) := fun w2 o' c' hu hor => (hby.new hu).suf hpos.2 hor
        have HBD := Lib.hid hbd
        have hrec : ∀ (w2 w4 : World) (v4 : Value) (ta : Option Addr) (tc : Nat) (vs : List Value), New wr w2 → BytesA w2 ta tc t → TokAt w2 (some ⟨g, o, none⟩) ta → vs.length = ts.length → wr.ownsRow w.heap.size 29 1 u5 ts.length vs → (∀ i, (h : i < ts.length) → ∃ u, vs[i]? = some u ∧ ElemB wr (fun _ => True) u ts[i]) →
            w4.ownsRow w.heap.size 29 1 v4 (ts.length + 1) (vs ++ [.slice ta t.length tc]) → (w2.alloc (.cells #[.slice ta t.length tc] 29)).grownBy w4 u5.ownBlock →
            OwnL w.heap.size (fun _ => True) w4 v4 (ts ++ [t]) ∧ New w w4 ∧ ∀ (o' c' : Nat), (c1 = n ∧ o' = o ∧ c' = 0) ∨ (c1 ≠ n ∧ o' = o + n ∧ c' = c1 - n) → BytesA w4 (some ⟨g, o', none⟩) c' (rest.drop n) ∧ ByteBlk w4 (some ⟨g, o', none⟩) (rest.drop n) := by
          intro w2 w4 v4 ta tc vs hu htb hta hvl ho1 hp h1 h2
          have h12 : New w2 (w2.alloc (.cells #[.slice ta t.length tc] 29)) := (Upd.refl _ _).alloc _
          have hel : ElemB w2 (fun _ => True) (.slice ta t.length tc) t := ⟨ta, tc, rfl, htb, fun p hp hne => ⟨trivial, by
            rcases hta p hp with ⟨q, hq, he⟩ | hq
            · simp only [Option.some.injEq] at hq
              subst hq
              obtain ⟨cur, hc⟩ := hbk _ rfl hr
              rw [he]
              exact ⟨cur, hu.heap hc (fun h => h)⟩
            · exact hq⟩⟩
          obtain ⟨r1, r2⟩ := OwnL.grow hvl (ownsRow_new ho1 hu) (fun i hi => by obtain ⟨u, q1, q2⟩ := hp i hi; exact ⟨u, q1, q2.upd hu (fun _ _ hh _ _ => hh)⟩) hel h12 h1 h2
          refine ⟨r1, ((hN.andNew hu).andNew h12).trans r2 (fun k hk hlt => by have := hk.1; omega), fun o' c' hor => ⟨?_, fun p hp hne => ?_⟩⟩
          · refine (hbd _ o' c' (hu.andNew h12) hor).upd r2 (fun p hp hne hh => ?_)
            obtain ⟨_, cur, hc⟩ := hh
            simp only [Option.some.injEq] at hp
            subst hp
            obtain ⟨cur2, hc2⟩ := hbk _ rfl hr
            have := (hu.andNew h12).heap hc2 (fun h => h)
            rw [hc] at this
            simp at this
          · simp only [Option.some.injEq] at hp
            subst hp
            obtain ⟨cur2, hc2⟩ := hbk _ rfl hr
            have h3 := (hu.andNew h12).heap hc2 (fun h => h)
            exact ⟨cur2, r2.heap h3 (fun hh => by obtain ⟨_, cur, hc⟩ := hh; rw [hc] at h3; simp at h3)⟩
        have HREC := Lib.hid hrec
        have HTK2 := Lib.hid htk2
        obtain ⟨vs, hvl, ho1, hpe⟩ := hO
        have HVL := Lib.hid hvl
        have HO1 := Lib.hid ho1
        have HPE := Lib.hid hpe
        have HDL : Hid ((rest.drop n).length = rest.length - n) := List.length_drop
        clear hby hbk hN htk KS hX hbd hrec htk2 hvl ho1 hpe
        obtain ⟨m, hm⟩ : ∃ m, rest.length = m := ⟨_, rfl⟩
        rw [hm] at hl l3 hlen hgk HKS HDL hpos ⊢
        clear hm
        have hts : ts.length ≤ 1000000 := by omega
        by_cases hc : c1 = n
        · subst hc
          go_wp2_with (first | (go_at_call 29; refine callRet HKS.out ?_; rintro v w2 ⟨hu, ta, tc, hv, htb, hta⟩; have hv : v = .tuple #[.int .i64 _, .slice ta t.length tc, .bool true] := hv; subst hv; have htb : BytesA w2 ta tc t := htb; obtain ⟨tl, htl⟩ : ∃ tl, t.length = tl := ⟨_, rfl⟩; rw [htl]; have HTL := Lib.hid htl; clear htl; have HU := Lib.hid hu; have HTB := Lib.hid htb; have HTA := Lib.hid hta; clear hu htb hta) | (at_builtin; refine wpList_plain rfl (fun K hK => ?_); refine wp_append eP (.tmp 22) (.tmp 24) rfl w.heap.size _ _ _ rfl (ownsRow_new (ownsRow_new HO1.out HU.out) ((Upd.refl _ _).alloc _)) (some ⟨w2.heap.size, 0, none⟩) 1 1 [.slice ta tl tc] rfl rfl (fun h => by cases h) (box_newsL (xs := #[.slice ta tl tc])) (by simp [Value.oneCell']) (by unfold maxLen; omega) (by omega) (Nat.le_trans (HN.out.andNew HU.out).size ((Upd.refl (fun _ => False) _).alloc _).size) ?_; intro v4 w4 h1 h2 h3; rw [← HTL.out] at h1 h2; have HF := Lib.hid (HREC.out w2 w4 v4 ta tc vs HU.out HTB.out HTA.out HVL.out HO1.out HPE.out h1 h2); refine hK _ _ ?_; clear hK K h1 h2 h3))
          go_roundg (m - c1)
          case measure => omega
          case rel =>
            obtain ⟨r1, r2, r3⟩ := HF.out
            obtain ⟨r4, r5⟩ := r3 o 0 (.inl ⟨by first | rfl | trivial, rfl, rfl⟩)
            refine ⟨rest.drop c1, ts ++ [t], some ⟨g, o, none⟩, 0, ?_, r4, r5, r1, r2, by rw [HTK.out, HTK2.out]; simp, by rw [HDL.out]; simp; omega, by rw [HDL.out]; omega⟩
            rw [HDL.out]
            congr 1 <;> omega
        · go_wp2_with (first | (go_at_call 29; refine callRet HKS.out ?_; rintro v w2 ⟨hu, ta, tc, hv, htb, hta⟩; have hv : v = .tuple #[.int .i64 _, .slice ta t.length tc, .bool true] := hv; subst hv; have htb : BytesA w2 ta tc t := htb; obtain ⟨tl, htl⟩ : ∃ tl, t.length = tl := ⟨_, rfl⟩; rw [htl]; have HTL := Lib.hid htl; clear htl; have HU := Lib.hid hu; have HTB := Lib.hid htb; have HTA := Lib.hid hta; clear hu htb hta) | (at_builtin; refine wpList_plain rfl (fun K hK => ?_); refine wp_append eP (.tmp 22) (.tmp 24) rfl w.heap.size _ _ _ rfl (ownsRow_new (ownsRow_new HO1.out HU.out) ((Upd.refl _ _).alloc _)) (some ⟨w2.heap.size, 0, none⟩) 1 1 [.slice ta tl tc] rfl rfl (fun h => by cases h) (box_newsL (xs := #[.slice ta tl tc])) (by simp [Value.oneCell']) (by unfold maxLen; omega) (by omega) (Nat.le_trans (HN.out.andNew HU.out).size ((Upd.refl (fun _ => False) _).alloc _).size) ?_; intro v4 w4 h1 h2 h3; rw [← HTL.out] at h1 h2; have HF := Lib.hid (HREC.out w2 w4 v4 ta tc vs HU.out HTB.out HTA.out HVL.out HO1.out HPE.out h1 h2); refine hK _ _ ?_; clear hK K h1 h2 h3))
          go_roundg (m - n)
          case measure => omega
          case rel =>
            obtain ⟨r1, r2, r3⟩ := HF.out
            obtain ⟨r4, r5⟩ := r3 (o + n) (c1 - n) (.inr ⟨hc, rfl, rfl⟩)
            refine ⟨rest.drop n, ts ++ [t], some ⟨g, o + n, none⟩, c1 - n, ?_, r4, r5, r1, r2, by rw [HTK.out, HTK2.out]; simp, by rw [HDL.out]; simp; omega, by rw [HDL.out]; omega⟩
            rw [HDL.out]
end Go.Proofs.YtgbbogocfmepiaaDoor
