/- impl.Written. -/
import Derived.Test.YtgbbogocfmepiaaDoorPutL
import Derived.Test.YtgbbogocfmepiaaDoorWNew
namespace Go.Proofs.YtgbbogocfmepiaaDoor
open Go.RowKit
def dnC (z : Int × Int) : List Value := [.int .i64 z.1, .int .i64 z.2]
/-- answers that can be read -/
def DnA (w : World) (a : Option Addr) (c : Nat) (zs : List (Int × Int)) : Prop :=
  zs.length ≤ c ∧ c ≤ maxLen ∧ (a = none → c = 0) ∧ ∀ p, a = some p → p.spot = none ∧ ∀ i, (h : i < zs.length) →
    w.cell? ⟨p.block, p.off + i * 2, none⟩ = some (.int .i64 zs[i].1) ∧ w.cell? ⟨p.block, p.off + i * 2 + 1, none⟩ = some (.int .i64 zs[i].2)
theorem DnA.new {w w1 : World} {a : Option Addr} {c : Nat} {zs : List (Int × Int)} (h : DnA w a c zs) (u : New w w1) : DnA w1 a c zs :=
  ⟨h.1, h.2.1, h.2.2.1, fun p hp => ⟨(h.2.2.2 p hp).1, fun i hi => ⟨u.cell ((h.2.2.2 p hp).2 i hi).1 (fun h => h), u.cell ((h.2.2.2 p hp).2 i hi).2 (fun h => h)⟩⟩⟩
theorem DnA.at {w : World} {a : Option Addr} {c : Nat} {zs : List (Int × Int)} (h : DnA w a c zs) {k : Nat} (hk : k < zs.length) : ∃ b o, a = some ⟨b, o, none⟩ ∧ b < w.heap.size ∧ w.cell? ⟨b, o + k * 2, none⟩ = some (.int .i64 zs[k].1) ∧ w.cell? ⟨b, o + k * 2 + 1, none⟩ = some (.int .i64 zs[k].2) := by
  cases a with
  | none => have := h.1; have := h.2.2.1 rfl; omega
  | some p =>
    obtain ⟨hs, hc⟩ := h.2.2.2 p rfl
    obtain ⟨b, o, s⟩ := p
    subst hs
    have := hc k hk
    exact ⟨b, o, rfl, World.block_lt_of_cell? w _ this.1, this⟩
def OwnD (base : Nat) (w : World) (v : Value) (zs : List (Int × Int)) : Prop := w.ownsRow base 54 2 v zs.length (zs.map dnC).flatten
theorem OwnD.read {base : Nat} {w : World} {v : Value} {zs : List (Int × Int)} (h : OwnD base w v zs) : ∃ a c, v = .slice a zs.length c ∧ DnA w a c zs := by
  have hlen : ∀ x ∈ zs.map dnC, x.length = 2 := fun x hx => by
    obtain ⟨z, _, rfl⟩ := List.mem_map.1 hx; rfl
  rcases h.2 with ⟨rfl, hn0⟩ | ⟨g, cap, cur, rfl, hb, hg, hnc, hm, hs, ht⟩
  · exact ⟨none, 0, by rw [hn0], by omega, Nat.zero_le _, fun _ => rfl, fun p hp => by cases hp⟩
  · refine ⟨_, cap, rfl, hnc, hm, by simp, fun p hp' => ?_⟩
    simp only [Option.some.injEq] at hp'; subst hp'
    refine ⟨rfl, fun i hi => ?_⟩
    have hcell : ∀ j, j < 2 → w.cell? ⟨g, 0 + i * 2 + j, none⟩ = (dnC zs[i])[j]? := fun j hj => by
      rw [World.cell_of_heap hg]
      have hf := flatten_atW 2 _ hlen i j (by rw [List.length_map]; exact hi) hj
      rw [← ht, List.getElem?_take_of_lt (by omega), List.getElem_map] at hf
      rw [← hf, Nat.zero_add]
      simp
    exact ⟨hcell 0 (by omega), hcell 1 (by omega)⟩
/-- the states that steps go through -/
structure Trace (st0 : WS) (xs : List PutS) (zs : List (Int × Int)) (sts : Nat → WS) : Prop where
  start : sts 0 = st0
  len : zs.length = xs.length
  step : ∀ i, (h : i < xs.length) → (h' : i < zs.length) → PutR xs[i] (sts i) (sts (i + 1)) zs[i].1 zs[i].2 ∧ (sts (i + 1)).buf.length = (sts i).buf.length
theorem Trace.nil (st0 : WS) : Trace st0 [] [] (fun _ => st0) := ⟨rfl, rfl, fun i h _ => (by simp at h)⟩
theorem Trace.snoc {st0 : WS} {xs : List PutS} {zs : List (Int × Int)} {sts : Nat → WS} (h : Trace st0 xs zs sts) {x : PutS} {z : Int × Int} {st : WS} (hr : PutR x (sts xs.length) st z.1 z.2) (hl : st.buf.length = (sts xs.length).buf.length) :
    Trace st0 (xs ++ [x]) (zs ++ [z]) (fun i => if i ≤ xs.length then sts i else st) := by
  refine ⟨by simp [h.start], by simp [h.len], fun i hi hi' => ?_⟩
  rw [List.length_append, List.length_singleton] at hi hi'
  by_cases hlt : i < xs.length
  · have hlz : i < zs.length := by rw [h.len]; exact hlt
    have := h.step i hlt hlz
    rw [List.getElem_append_left hlt, List.getElem_append_left hlz]
    simp only [if_pos (show i ≤ xs.length by omega), if_pos (show i + 1 ≤ xs.length by omega)]
    exact this
  · obtain rfl : i = xs.length := by omega
    have e1 : (xs ++ [x])[xs.length] = x := by simp
    have e2 : (zs ++ [z])[xs.length] = z := by rw [List.getElem_append_right (by rw [h.len]; exact Nat.le_refl _)]; simp [h.len]
    rw [e1, e2]
    simp only [if_pos (Nat.le_refl _), if_neg (show ¬ xs.length + 1 ≤ xs.length by omega)]
    exact ⟨hr, hl⟩
/-- the writer, its steps so far, the answers -/
structure WrS (w0 : World) (base : Nat) (R : Option Nat) (L : WLoc) (st0 : WS) (xs : List PutS) (wx : World) (v : Value) (zs : List (Int × Int)) (sts : Nat → WS) : Prop where
  tr : Trace st0 xs zs sts
  wr : Wr wx base L (sts xs.length)
  inv : Inv R (sts xs.length) (allOut xs)
  new : New w0 wx
  zs : OwnD base wx v zs
  base : w0.heap.size ≤ base
theorem allOut_snoc (xs : List PutS) (x : PutS) : allOut (xs ++ [x]) = allOut xs ++ x.out := by simp [allOut]
/-- blocks of answers are none of the writer's -/
theorem Wr.noDone {w : World} {base : Nat} {L : WLoc} {st : WS} (h : Wr w base L st) {k : Nat} {cur : Array Value} (hk : WM L st.ov k) (hc : w.heap[k]? = some (.cells cur 54 (0, 0))) : False := by
  rcases hk with rfl | rfl | rfl | hk
  · have := h.hb; rw [hc] at this; simp at this
  · have := h.hbb; rw [hc] at this; simp at this
  · have := h.snk.hs; rw [hc] at this; simp at this
  · obtain ⟨_, _, cur', h2⟩ := h.snk.lt hk
    rw [hc] at h2; simp at h2
theorem ownsRow_updW {M : Nat → Prop} {base e size n : Nat} {w w1 : World} {v : Value} {xs : List Value} (h : w.ownsRow base e size v n xs) (u : Upd M w w1) (h1 : ∀ k cur, M k → w.heap[k]? = some (.cells cur e (0, 0)) → False) : w1.ownsRow base e size v n xs := by
  refine ⟨h.1, ?_⟩
  rcases h.2 with h | ⟨g, cap, cur, hv, hb, hg, r⟩
  · exact .inl h
  · exact .inr ⟨g, cap, cur, hv, hb, u.heap hg (fun hh => h1 g cur hh hg), r⟩
/-- a step was taken, and its answer laid behind the others -/
theorem WrS.one {w0 : World} {base : Nat} {R : Option Nat} {L : WLoc} {st0 : WS} {xs : List PutS} {w1 w2 w3 w4 w5 : World} {v v' : Value} {zs : List (Int × Int)} {sts : Nat → WS} (h : WrS w0 base R L st0 xs w1 v zs sts) (h12 : New w1 w2) {x : PutS} {n c : Int} {st : WS}
    (hr : PutR x (sts xs.length) st n c) (hw : WWent base L w2 (sts xs.length) w3 st) (hI : Inv R st (allOut xs ++ x.out)) (h34 : New w3 w4) (ho : w5.ownsRow base 54 2 v' (zs.length + 1) ((zs.map dnC).flatten ++ dnC (n, c))) (hg : w4.grownBy w5 v.ownBlock) :
    WrS w0 base R L st0 (xs ++ [x]) w5 v' (zs ++ [(n, c)]) (fun i => if i ≤ xs.length then sts i else st) := by
  have hown2 : w2.ownsRow base 54 2 v zs.length (zs.map dnC).flatten := ownsRow_new h.zs h12
  have hown3 := ownsRow_updW hown2 hw.upd (fun k cur hk hc => (h.wr.new h12).noDone hk hc)
  have hown4 := ownsRow_new hown3 h34
  have hu : Upd (fun k => base ≤ k ∧ ∃ cur, w4.heap[k]? = some (.cells cur 54 (0, 0))) w4 w5 := (Upd.refl _ _).grown hg (fun k hk _ => ownsRow_block hown4 hk)
  have hst : (if (xs ++ [x]).length ≤ xs.length then sts (xs ++ [x]).length else st) = st := if_neg (by simp)
  refine ⟨h.tr.snoc hr hw.len, ?_, ?_, ?_, ?_, h.base⟩
  · rw [hst]
    exact (hw.wr.new h34).upd hu (fun k hk hm => by obtain ⟨_, cur, hc⟩ := hk; exact (hw.wr.new h34).noDone hm hc)
  · rw [hst, allOut_snoc]; exact hI
  · have hb := h.base
    have h3 : New w0 w3 := (h.new.andNew h12).trans hw.upd (fun k hk hl => by have := ((h.wr.new h12).lt hk).1; omega)
    exact (h3.andNew h34).trans hu (fun k hk hl => by omega)
  · show w5.ownsRow base 54 2 v' (zs ++ [(n, c)]).length ((zs ++ [(n, c)]).map dnC).flatten
    rw [List.map_append, List.flatten_append, List.length_append]
    simpa using ho
/-- what Written leaves -/
def WrittenPost (R : Option Nat) (sz : Nat) (room : Int) (xs : List PutS) (w : World) (v : Value) (w' : World) : Prop :=
  New w w' ∧ ∃ da dc zs sts oa oc, v = .tuple #[.slice da (List.length (α := Int × Int) zs) dc, .slice oa (sts xs.length).out.length oc] ∧ DnA w' da dc zs ∧ BytesA w' oa oc (sts xs.length).out ∧ Trace (st00 sz room) xs zs sts ∧ Inv R (sts xs.length) (allOut xs) ∧ (sts xs.length).n ≤ (sts xs.length).buf.length
theorem inv00 (R : Option Nat) (sz : Nat) (room : Int) (h1 : R = none → room = -1) (h2 : ∀ r, R = some r → room = (r : Int)) : Inv R (st00 sz room) [] := by
  refine ⟨fun _ => ⟨rfl, h1, fun r hr => ⟨Nat.zero_le _, by have := h2 r hr; show room = _; rw [this]; simp [st00]⟩⟩, fun hh => by cases hh⟩
theorem PutS.out_le {x : PutS} (h : goodP x = true) : x.out.length ≤ 20000 := by
  unfold goodP okP at h
  simp only [Bool.and_eq_true, Bool.or_eq_true, decide_eq_true_eq] at h
  obtain ⟨⟨hk0, hk8⟩, ⟨⟨⟨hbl, hr0⟩, hr1⟩, hr2⟩, hs⟩ := h
  unfold srcOk at hs
  simp only [Bool.and_eq_true, decide_eq_true_eq] at hs
  have hs1 := hs.1.1
  rw [← lensum_flatten] at hs1
  unfold PutS.out
  split
  · omega
  · split
    · split
      · simp
      · rw [List.length_take]; omega
    · split
      · have : (enc x.r).length ≤ 4 := by unfold enc Lib.encodeRune Lib.encodeRuneZ; rw [List.length_map]; (repeat' split) <;> simp
        omega
      · split
        · exact hs1
        · simp
theorem allOut_le : ∀ (xs : List PutS), (∀ x ∈ xs, goodP x = true) → (allOut xs).length ≤ 20000 * xs.length
  | [], _ => by simp [allOut]
  | x :: xs, h => by
    have h1 := allOut_le xs (fun y hy => h y (by simp [hy]))
    have h2 := PutS.out_le (h x (by simp))
    have h3 : allOut (x :: xs) = x.out ++ allOut xs := by simp [allOut]
    rw [h3, List.length_append, List.length_cons]
    omega
theorem Snk.bytes {w : World} {base s : Nat} {room : Int} {ov : Value} {out : List UInt8} (h : Snk w base s room ov out) : ∃ a c, ov = .slice a out.length c ∧ BytesA w a c out := by
  rcases h.own.2 with ⟨rfl, hn⟩ | ⟨g, cap, cur, rfl, _⟩
  · have : out = [] := List.eq_nil_of_length_eq_zero hn
    subst this
    exact ⟨none, 0, rfl, bytes_none w⟩
  · exact ⟨_, cap, rfl, (BytesA.owned h.own).2⟩
theorem box_newsW {w : World} {xs : Array Value} {t : TypeId} : ∀ p, (some ⟨w.heap.size, 0, none⟩ : Option Addr) = some p → ∀ j u, xs.toList[j]? = some u → (w.alloc (.cells xs t)).cell? (p.add j) = some u := fun p hp => by
  simp only [Option.some.injEq] at hp; subst hp
  exact World.news_of_block' (cs := xs) (t := t) (fr := (0, 0)) (heap_alloc_new w _)
theorem wNewL {w : World} {base s sz : Nat} {room : Int} (hs : Snk w base s room (.slice none 0 0) []) (hb : base ≤ s) (hbs : base ≤ w.heap.size) (hsz : 1 ≤ sz) (hsz2 : sz ≤ 32767) (hr1 : -1 ≤ room) (hr2 : room ≤ 65535) :
    Calls Tryd.prog 47 #[.iface 82 (.pointer (some ⟨s, 0, none⟩)), .int .i64 (sz : Int)] w (Ret fun v w' => ∃ L : WLoc, New w w' ∧ v = .pointer (some ⟨L.b, 0, none⟩) ∧ L.s = s ∧ Wr w' base L (st00 sz room)) := by
  refine callRet (wNew hs hb hbs hsz hsz2 hr1 hr2) ?_
  rintro v w' ⟨h1, h2, h3⟩
  exact ⟨_, h1, h2, rfl, h3⟩
set_option maxRecDepth 100000 in
set_option maxHeartbeats 2000000 in
theorem implWritten {S : Err → Addr} {B : Nat} {w : World} {R : Option Nat} {sz : Nat} {room : Int} {a : Option Addr} {c : Nat} {xs : List PutS} (E : Env S B w) (h : PutsA w a c xs) (hl : xs.length ≤ 43) (hg : ∀ x ∈ xs, goodP x = true) (h5 : (∃ x ∈ xs, x.k = 5) → R = none) (hsz : 1 ≤ sz) (hsz2 : sz ≤ 5000)
    (hr1 : R = none → room = -1) (hr2 : ∀ r, R = some r → room = (r : Int) ∧ r ≤ 65535) :
    Calls Tryd.prog 23 #[.int .i64 (sz : Int), .int .i64 room, .slice a xs.length c] w (Ret (WrittenPost R sz room xs w)) := by
  have h1 := h.1
  have h2 := h.2.1
  unfold maxLen at h2
  have hroom : -1 ≤ room ∧ room ≤ 65535 := by
    cases hR : R with
    | none => have := hr1 hR; omega
    | some r => have := hr2 r hR; omega
  have hsnk : Snk (w.alloc (.cells #[.int .i64 room, .slice none 0 0] 84)) w.heap.size w.heap.size room (.slice none 0 0) [] := ⟨heap_alloc_new w _, World.ownsRow_nil _ _ _ _⟩
  have KN := Lib.hid (wNewL hsnk (Nat.le_refl _) (by simp) hsz (by omega) hroom.1 hroom.2)
  have HI0 := Lib.hid (inv00 R sz room hr1 (fun r hr => (hr2 r hr).1))
  have HE := Lib.hid E
  have HS := Lib.hid h
  have HG := Lib.hid hg
  have H5 := Lib.hid h5
  clear E h hg h5 hr1 hr2 hroom hsnk
  go_enter Tryd.func23, Tryd.ntmps23
  go_wp2_with (go_at_call 47; refine callRet KN.out ?_; rintro v w2 ⟨L, hn2, rfl, hLs, hwr⟩; have HN2 := Lib.hid (((Upd.refl (fun _ => False) w).alloc (.cells #[.int .i64 room, .slice none 0 0] 84)).andNew hn2); have HLS := Lib.hid hLs; have HWR := Lib.hid hwr; clear hn2 hLs hwr)
  go_loopw [10, 22] (fun v i wr => ∃ (k : Nat) (zs : List (Int × Int)) (sts : Nat → WS), i = .int .i64 (k : Int) ∧ k ≤ xs.length ∧ WrS w w.heap.size R L (st00 sz room) (xs.take k) wr v zs sts) (fun _ i _ => xs.length - (intOf i).toNat)
  case atStart => exact ⟨0, [], _, rfl, Nat.zero_le _, ⟨Trace.nil _, HWR.out, HI0.out, HN2.out, World.ownsRow_nil _ _ _ _, Nat.le_refl _⟩⟩
  case round =>
    obtain ⟨k, zs, sts, rfl, hkn, hR⟩ := hrel
    have HR := Lib.hid hR
    have hkl : (xs.take k).length = k := by rw [List.length_take]; omega
    have HZL : Hid (zs.length = k) := by rw [Hid, hR.tr.len, hkl]
    clear hR
    by_cases hlt : k < xs.length
    · obtain ⟨b, o, v1, v3, rfl, hbl, e0, e1, e2, e3, hv⟩ := (HS.out.new HR.out.new).at hlt
      obtain ⟨x, hx⟩ : ∃ x, xs[k] = x := ⟨_, rfl⟩
      rw [hx] at e0 e2 hv
      have hxm : x ∈ xs := by rw [← hx]; exact List.getElem_mem _
      have htk : Hid (xs.take (k + 1) = xs.take k ++ [x]) := by rw [Hid, List.take_add_one, List.getElem?_eq_getElem hlt, hx]; rfl
      have hgx := HG.out x hxm
      have hal := allOut_le (xs.take k) (fun y hy => HG.out y (List.mem_of_mem_take hy))
      have KP := Lib.hid (fun wx (hn : New wr wx) => put (x := x) (v1 := v1) (v3 := v3) ⟨(HE.out.new HR.out.new).new hn, HE.out.size, HR.out.wr.new hn, HR.out.inv, by rw [hkl] at hal; omega⟩ (hv.new hn) hgx (fun hk => H5.out ⟨x, hxm, hk⟩))
      have HPV : Hid (PutV wr v1 v3 x) := hv
      obtain ⟨⟨a1, c1, rfl, _⟩, a3, c3, rfl, _⟩ := hv
      clear hx hxm hgx hal
      obtain ⟨kx, bs, r, ps⟩ := x
      simp only at e0 e2
      unfold PutS.v at KP
      simp only at KP
      go_wp2_with (first | (go_at_call 48; refine callRet (KP.out _ ((Upd.refl _ _).alloc _)) ?_; rintro v w3 ⟨st', n, cd, rfl, hpr, hww, hinv⟩; have HPR := Lib.hid hpr; have HWW := Lib.hid hww; have HINV := Lib.hid hinv; have HSZ : Hid (w.heap.size ≤ w3.heap.size) := (Nat.le_trans (HR.out.new.andNew ((Upd.refl _ _).alloc _)).size hww.upd.size); have HOW := Lib.hid (ownsRow_updW (ownsRow_new HR.out.zs ((Upd.refl (fun _ => False) _).alloc _)) hww.upd (fun k cur hk hc => (HR.out.wr.new ((Upd.refl _ _).alloc _)).noDone hk hc)); clear hpr hww hinv) | (at_builtin; refine wpList_plain rfl (fun K hK => ?_); refine wp_append eDone (.tmp 26) (.tmp 30) rfl w.heap.size _ _ _ rfl (ownsRow_new HOW.out ((Upd.refl _ _).alloc _)) (some ⟨w3.heap.size, 0, none⟩) 1 1 [.int .i64 n, .int .i64 cd] rfl rfl (fun h => by cases h) (box_newsW (xs := #[.int .i64 n, .int .i64 cd])) (by simp [Value.oneCell']) (by unfold maxLen; rw [HZL.out]; omega) (by rw [HZL.out]; omega) (by have h1 := HSZ.out; simp; omega) ?_; intro v4 w4 h1 h2 h3; have HR4 := Lib.hid (HR.out.one ((Upd.refl _ _).alloc _) HPR.out HWW.out HINV.out ((Upd.refl _ _).alloc _) h1 h2); refine hK _ _ ?_; clear hK K h1 h2 h3))
      go_roundw
      case rel =>
        refine ⟨k + 1, zs ++ [(n, cd)], (fun i => if i ≤ (xs.take k).length then sts i else st'), by go_num, by omega, ?_⟩
        rw [htk.out]; exact HR4.out
      case measure => simp [intOf]; omega
    · obtain rfl : k = xs.length := by omega
      rw [List.take_length] at HR
      clear hkl
      obtain ⟨da, dc, rfl, hda⟩ := HR.out.zs.read
      obtain ⟨oa, oc, hov, hob⟩ := HR.out.wr.snk.bytes
      have c1 : wr.cell? ⟨w.heap.size, 1, none⟩ = some (.slice oa (sts xs.length).out.length oc) := (by rw [← hov, ← HLS.out, World.cell_of_heap HR.out.wr.snk.hs]; rfl)
      have KC := Lib.hid (copied oa oc _ wr hob (by
        have q1 := HR.out.inv.out_le
        have q2 := allOut_le xs HG.out
        omega))
      have HDA := Lib.hid hda
      clear hda hov hob
      obtain ⟨ol, hol⟩ : ∃ ol, (sts xs.length).out.length = ol := ⟨_, rfl⟩
      rw [hol] at c1 KC
      have HOL := Lib.hid hol
      clear hol
      go_wp2_with (go_at_call 36; refine callRet KC.out ?_; intro v w4 h4; have H4 := Lib.hid h4.1; obtain ⟨g, cp, rfl, _, _, hgb⟩ := h4.bytes; have HGB := Lib.hid hgb; clear h4 hgb)
      go_ret2
      exact ⟨HR.out.new.andNew H4.out, da, dc, zs, sts, _, cp, rfl, HDA.out.new H4.out, HGB.out, HR.out.tr, HR.out.inv, HR.out.wr.n⟩
end Go.Proofs.YtgbbogocfmepiaaDoor
