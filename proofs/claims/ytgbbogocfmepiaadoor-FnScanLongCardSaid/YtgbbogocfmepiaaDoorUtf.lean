/- goutf8: decodeRuneSlow, DecodeRune, FullRune. -/
import Derived.Test.YtgbbogocfmepiaaDoorLaws
import Derived.Test.YtgbbogocfmepiaaDoorProg
import Derived.Lib.Hide
import Derived.LoopTactic
import Derived.Shelf.Unicode.DecodeSlow
namespace Go.Proofs.YtgbbogocfmepiaaDoor
open Go.RowKit Go.Lib
def xb (bs : List UInt8) (i : Nat) : Nat := (bs.getD i 0).toNat
theorem xb_lt (bs : List UInt8) (i : Nat) : xb bs i < 256 := UInt8.toNat_lt _
/-- the first rune of bytes and how many it has -/
def dec (bs : List UInt8) : Nat × Nat := if bs.length = 0 then (65533, 0) else decodeN bs.length (xb bs 0) (xb bs 1) (xb bs 2) (xb bs 3)
/-- do bytes begin with a whole rune, or with what can be none -/
def fullN (n x0 x1 x2 : Nat) : Bool :=
  if n = 0 then false
  else if firstT x0 % 8 ≤ n then true
  else if 1 < n ∧ (x1 < accLo (firstT x0 / 16) ∨ accHi (firstT x0 / 16) < x1) then true
  else if 2 < n ∧ (x2 < 128 ∨ 191 < x2) then true
  else false
def fullB (bs : List UInt8) : Bool := fullN bs.length (xb bs 0) (xb bs 1) (xb bs 2)
/-- the two tables, as they are laid -/
def Tabs (w : World) : Prop := Utf8Tabs 12 13 w
theorem Tabs.upd {M : Nat → Prop} {w w' : World} (h : Tabs w) (u : Upd M w w') (h1 : ¬ M 12) (h2 : ¬ M 13) : Tabs w' :=
  ⟨fun c hc => u.cell (h.1 c hc) h1, fun i hi => ⟨u.cell (h.2 i hi).1 h2, u.cell (h.2 i hi).2 h2⟩⟩
theorem Tabs.new {w w' : World} (h : Tabs w) (u : New w w') : Tabs w' := h.upd u (fun h => h) (fun h => h)
theorem BytesA.xb {w : World} {g o c : Nat} {bs : List UInt8} (h : BytesA w (some ⟨g, o, none⟩) c bs) (i : Nat) (hi : i < bs.length) : w.cell? ⟨g, o + i, none⟩ = some (.int .u8 (xb bs i : Int)) := by
  rw [(h.2.2.2 _ rfl).2 i hi]
  unfold Go.Proofs.YtgbbogocfmepiaaDoor.xb
  rw [List.getD_eq_getElem?_getD, List.getElem?_eq_getElem hi]; rfl
set_option maxHeartbeats 8000000 in
set_option maxRecDepth 1000000 in
theorem decSlow {w : World} (hT : Tabs w) {g o c : Nat} {bs : List UInt8} (h : BytesA w (some ⟨g, o, none⟩) c bs) :
    Calls Tryd.prog 80 #[.slice (some ⟨g, o, none⟩) bs.length c] w (Ret fun v w' => New w w' ∧ v = .tuple #[.int .i32 ((dec bs).1 : Int), .int .i64 ((dec bs).2 : Int)]) := by
  have hp := h.xb
  have lc := h.1
  have lm := h.2.1
  unfold maxLen at lm
  unfold dec
  obtain ⟨n, hn⟩ : ∃ n, bs.length = n := ⟨_, rfl⟩
  obtain ⟨x0, hx0⟩ : ∃ x0, xb bs 0 = x0 := ⟨_, rfl⟩
  obtain ⟨x1, hx1⟩ : ∃ x1, xb bs 1 = x1 := ⟨_, rfl⟩
  obtain ⟨x2, hx2⟩ : ∃ x2, xb bs 2 = x2 := ⟨_, rfl⟩
  obtain ⟨x3, hx3⟩ : ∃ x3, xb bs 3 = x3 := ⟨_, rfl⟩
  have l0 : x0 < 256 := by rw [← hx0]; exact xb_lt _ _
  have l1 : x1 < 256 := by rw [← hx1]; exact xb_lt _ _
  have l2 : x2 < 256 := by rw [← hx2]; exact xb_lt _ _
  have l3 : x3 < 256 := by rw [← hx3]; exact xb_lt _ _
  have hs0 : 0 < n → w.cell? ⟨g, o, none⟩ = some (.int .u8 (x0 : Int)) := fun hh => by have := hp 0 (by omega); rwa [hx0] at this
  have hq1 : 1 < n → w.cell? ⟨g, o + 1, none⟩ = some (.int .u8 (x1 : Int)) := fun hh => by have := hp 1 (by omega); rwa [hx1] at this
  have hq2 : 2 < n → w.cell? ⟨g, o + 2, none⟩ = some (.int .u8 (x2 : Int)) := fun hh => by have := hp 2 (by omega); rwa [hx2] at this
  have hq3 : 3 < n → w.cell? ⟨g, o + 3, none⟩ = some (.int .u8 (x3 : Int)) := fun hh => by have := hp 3 (by omega); rwa [hx3] at this
  rw [hn, hx0, hx1, hx2, hx3]
  rw [hn] at lc
  clear hp h hn hx0 hx1 hx2 hx3
  by_cases h0 : n = 0
  · have hz : (n : Int) < 1 := by omega
    rw [if_pos h0]
    clear hs0 hq1 hq2 hq3 hT
    go_enter Tryd.func80, Tryd.ntmps80
    go_wp2
    go_ret2
    exact ⟨Upd.refl _ _, rfl⟩
  · have hz0 : (0 : Int) < (n : Int) := by omega
    have hz0' : ¬ ((n : Int) < 1) := by omega
    rw [if_neg h0]
    replace hs0 := hs0 (by omega)
    have hb : g < w.heap.size := World.block_lt_of_cell? w _ hs0
    have hc0 := hT.1 x0 (by omega)
    have hres : firstT x0 < 240 → decodeN n x0 x1 x2 x3 = slowN n x0 x1 x2 x3 (firstT x0 % 8) (accLo (firstT x0 / 16)) (accHi (firstT x0 / 16)) :=
      fun h => (Lib.slow_eq _ _ _ _ _ (by omega) (by omega) (by omega) (by omega) h).symm
    rcases Lib.firstT_cases x0 with hX | hX | hX | hX | hX | hX | hX | hX | hX
    · rw [Lib.ascii_eq _ _ _ _ _ hX]
      rw [hX] at hc0
      clear hres hT hX hq1 hq2 hq3
      go_enter Tryd.func80, Tryd.ntmps80
      go_wp2
      rw [Utf8W.mask240, Utf8W.keep_byte ⟨x0, l0⟩]
      go_ret2
      exact ⟨Upd.refl _ _, rfl⟩
    · rw [Lib.bad_eq _ _ _ _ _ (by omega) hX]
      rw [hX] at hc0
      clear hres hT hX hq1 hq2 hq3
      go_enter Tryd.func80, Tryd.ntmps80
      go_wp2
      rw [Utf8W.mask241, Utf8W.drop_byte ⟨x0, l0⟩]
      go_ret2
      exact ⟨Upd.refl _ _, rfl⟩
    all_goals replace hres := hres (by omega)
    · rw [hX] at hc0 hres
      have ha0 := (hT.2 0 (by omega)).1
      have ha1 := (hT.2 0 (by omega)).2
      simp only [accLo, accHi, Nat.reduceMul, Nat.reduceAdd, Nat.reduceEqDiff, if_true, if_false, Nat.reduceMod, Nat.reduceDiv] at ha0 ha1 hres
      rw [hres]
      clear hres hT hX
      by_cases hn : n < 2
      · have hnz : (n : Int) < 2 := by omega
        clear hq1 hq2 hq3
        go_enter Tryd.func80, Tryd.ntmps80
        go_wp2
        all_goals (go_ret2; refine ⟨(Upd.refl _ _).alloc _, ?_⟩; (unfold slowN; (repeat' split); all_goals first | (exfalso; omega) | rfl | (simp only [Int.natCast_add, Int.natCast_mul, Int.natCast_emod, Int.natCast_ofNat]; rfl)))
      · have hz1 : (1 : Int) < (n : Int) := by omega
        have hs1 := hq1 (by omega)
        clear hq1 hq2 hq3
        go_enter Tryd.func80, Tryd.ntmps80
        go_wp2
        all_goals (go_ret2; refine ⟨(Upd.refl _ _).alloc _, ?_⟩; (unfold slowN; (repeat' split); all_goals first | (exfalso; omega) | rfl | (simp only [Int.natCast_add, Int.natCast_mul, Int.natCast_emod, Int.natCast_ofNat]; rfl)))
    · rw [hX] at hc0 hres
      have ha0 := (hT.2 1 (by omega)).1
      have ha1 := (hT.2 1 (by omega)).2
      simp only [accLo, accHi, Nat.reduceMul, Nat.reduceAdd, Nat.reduceEqDiff, if_true, if_false, Nat.reduceMod, Nat.reduceDiv] at ha0 ha1 hres
      rw [hres]
      clear hres hT hX
      by_cases hn : n < 3
      · have hnz : (n : Int) < 3 := by omega
        clear hq1 hq2 hq3
        go_enter Tryd.func80, Tryd.ntmps80
        go_wp2
        all_goals (go_ret2; refine ⟨(Upd.refl _ _).alloc _, ?_⟩; (unfold slowN; (repeat' split); all_goals first | (exfalso; omega) | rfl | (simp only [Int.natCast_add, Int.natCast_mul, Int.natCast_emod, Int.natCast_ofNat]; rfl)))
      · have hz1 : (1 : Int) < (n : Int) := by omega
        have hz2 : (2 : Int) < (n : Int) := by omega
        have hs1 := hq1 (by omega)
        have hs2 := hq2 (by omega)
        clear hq1 hq2 hq3
        go_enter Tryd.func80, Tryd.ntmps80
        go_wp2
        all_goals (go_ret2; refine ⟨(Upd.refl _ _).alloc _, ?_⟩; (unfold slowN; (repeat' split); all_goals first | (exfalso; omega) | rfl | (simp only [Int.natCast_add, Int.natCast_mul, Int.natCast_emod, Int.natCast_ofNat]; rfl)))
    · rw [hX] at hc0 hres
      have ha0 := (hT.2 0 (by omega)).1
      have ha1 := (hT.2 0 (by omega)).2
      simp only [accLo, accHi, Nat.reduceMul, Nat.reduceAdd, Nat.reduceEqDiff, if_true, if_false, Nat.reduceMod, Nat.reduceDiv] at ha0 ha1 hres
      rw [hres]
      clear hres hT hX
      by_cases hn : n < 3
      · have hnz : (n : Int) < 3 := by omega
        clear hq1 hq2 hq3
        go_enter Tryd.func80, Tryd.ntmps80
        go_wp2
        all_goals (go_ret2; refine ⟨(Upd.refl _ _).alloc _, ?_⟩; (unfold slowN; (repeat' split); all_goals first | (exfalso; omega) | rfl | (simp only [Int.natCast_add, Int.natCast_mul, Int.natCast_emod, Int.natCast_ofNat]; rfl)))
      · have hz1 : (1 : Int) < (n : Int) := by omega
        have hz2 : (2 : Int) < (n : Int) := by omega
        have hs1 := hq1 (by omega)
        have hs2 := hq2 (by omega)
        clear hq1 hq2 hq3
        go_enter Tryd.func80, Tryd.ntmps80
        go_wp2
        all_goals (go_ret2; refine ⟨(Upd.refl _ _).alloc _, ?_⟩; (unfold slowN; (repeat' split); all_goals first | (exfalso; omega) | rfl | (simp only [Int.natCast_add, Int.natCast_mul, Int.natCast_emod, Int.natCast_ofNat]; rfl)))
    · rw [hX] at hc0 hres
      have ha0 := (hT.2 2 (by omega)).1
      have ha1 := (hT.2 2 (by omega)).2
      simp only [accLo, accHi, Nat.reduceMul, Nat.reduceAdd, Nat.reduceEqDiff, if_true, if_false, Nat.reduceMod, Nat.reduceDiv] at ha0 ha1 hres
      rw [hres]
      clear hres hT hX
      by_cases hn : n < 3
      · have hnz : (n : Int) < 3 := by omega
        clear hq1 hq2 hq3
        go_enter Tryd.func80, Tryd.ntmps80
        go_wp2
        all_goals (go_ret2; refine ⟨(Upd.refl _ _).alloc _, ?_⟩; (unfold slowN; (repeat' split); all_goals first | (exfalso; omega) | rfl | (simp only [Int.natCast_add, Int.natCast_mul, Int.natCast_emod, Int.natCast_ofNat]; rfl)))
      · have hz1 : (1 : Int) < (n : Int) := by omega
        have hz2 : (2 : Int) < (n : Int) := by omega
        have hs1 := hq1 (by omega)
        have hs2 := hq2 (by omega)
        clear hq1 hq2 hq3
        go_enter Tryd.func80, Tryd.ntmps80
        go_wp2
        all_goals (go_ret2; refine ⟨(Upd.refl _ _).alloc _, ?_⟩; (unfold slowN; (repeat' split); all_goals first | (exfalso; omega) | rfl | (simp only [Int.natCast_add, Int.natCast_mul, Int.natCast_emod, Int.natCast_ofNat]; rfl)))
    · rw [hX] at hc0 hres
      have ha0 := (hT.2 3 (by omega)).1
      have ha1 := (hT.2 3 (by omega)).2
      simp only [accLo, accHi, Nat.reduceMul, Nat.reduceAdd, Nat.reduceEqDiff, if_true, if_false, Nat.reduceMod, Nat.reduceDiv] at ha0 ha1 hres
      rw [hres]
      clear hres hT hX
      by_cases hn : n < 4
      · have hnz : (n : Int) < 4 := by omega
        clear hq1 hq2 hq3
        go_enter Tryd.func80, Tryd.ntmps80
        go_wp2
        all_goals (go_ret2; refine ⟨(Upd.refl _ _).alloc _, ?_⟩; (unfold slowN; (repeat' split); all_goals first | (exfalso; omega) | rfl | (simp only [Int.natCast_add, Int.natCast_mul, Int.natCast_emod, Int.natCast_ofNat]; rfl)))
      · have hz1 : (1 : Int) < (n : Int) := by omega
        have hz2 : (2 : Int) < (n : Int) := by omega
        have hz3 : (3 : Int) < (n : Int) := by omega
        have hs1 := hq1 (by omega)
        have hs2 := hq2 (by omega)
        have hs3 := hq3 (by omega)
        clear hq1 hq2 hq3
        go_enter Tryd.func80, Tryd.ntmps80
        go_wp2
        all_goals (go_ret2; refine ⟨(Upd.refl _ _).alloc _, ?_⟩; (unfold slowN; (repeat' split); all_goals first | (exfalso; omega) | rfl | (simp only [Int.natCast_add, Int.natCast_mul, Int.natCast_emod, Int.natCast_ofNat]; rfl)))
    · rw [hX] at hc0 hres
      have ha0 := (hT.2 0 (by omega)).1
      have ha1 := (hT.2 0 (by omega)).2
      simp only [accLo, accHi, Nat.reduceMul, Nat.reduceAdd, Nat.reduceEqDiff, if_true, if_false, Nat.reduceMod, Nat.reduceDiv] at ha0 ha1 hres
      rw [hres]
      clear hres hT hX
      by_cases hn : n < 4
      · have hnz : (n : Int) < 4 := by omega
        clear hq1 hq2 hq3
        go_enter Tryd.func80, Tryd.ntmps80
        go_wp2
        all_goals (go_ret2; refine ⟨(Upd.refl _ _).alloc _, ?_⟩; (unfold slowN; (repeat' split); all_goals first | (exfalso; omega) | rfl | (simp only [Int.natCast_add, Int.natCast_mul, Int.natCast_emod, Int.natCast_ofNat]; rfl)))
      · have hz1 : (1 : Int) < (n : Int) := by omega
        have hz2 : (2 : Int) < (n : Int) := by omega
        have hz3 : (3 : Int) < (n : Int) := by omega
        have hs1 := hq1 (by omega)
        have hs2 := hq2 (by omega)
        have hs3 := hq3 (by omega)
        clear hq1 hq2 hq3
        go_enter Tryd.func80, Tryd.ntmps80
        go_wp2
        all_goals (go_ret2; refine ⟨(Upd.refl _ _).alloc _, ?_⟩; (unfold slowN; (repeat' split); all_goals first | (exfalso; omega) | rfl | (simp only [Int.natCast_add, Int.natCast_mul, Int.natCast_emod, Int.natCast_ofNat]; rfl)))
    · rw [hX] at hc0 hres
      have ha0 := (hT.2 4 (by omega)).1
      have ha1 := (hT.2 4 (by omega)).2
      simp only [accLo, accHi, Nat.reduceMul, Nat.reduceAdd, Nat.reduceEqDiff, if_true, if_false, Nat.reduceMod, Nat.reduceDiv] at ha0 ha1 hres
      rw [hres]
      clear hres hT hX
      by_cases hn : n < 4
      · have hnz : (n : Int) < 4 := by omega
        clear hq1 hq2 hq3
        go_enter Tryd.func80, Tryd.ntmps80
        go_wp2
        all_goals (go_ret2; refine ⟨(Upd.refl _ _).alloc _, ?_⟩; (unfold slowN; (repeat' split); all_goals first | (exfalso; omega) | rfl | (simp only [Int.natCast_add, Int.natCast_mul, Int.natCast_emod, Int.natCast_ofNat]; rfl)))
      · have hz1 : (1 : Int) < (n : Int) := by omega
        have hz2 : (2 : Int) < (n : Int) := by omega
        have hz3 : (3 : Int) < (n : Int) := by omega
        have hs1 := hq1 (by omega)
        have hs2 := hq2 (by omega)
        have hs3 := hq3 (by omega)
        clear hq1 hq2 hq3
        go_enter Tryd.func80, Tryd.ntmps80
        go_wp2
        all_goals (go_ret2; refine ⟨(Upd.refl _ _).alloc _, ?_⟩; (unfold slowN; (repeat' split); all_goals first | (exfalso; omega) | rfl | (simp only [Int.natCast_add, Int.natCast_mul, Int.natCast_emod, Int.natCast_ofNat]; rfl)))
set_option maxHeartbeats 1000000 in
set_option maxRecDepth 1000000 in
theorem decodeRune {w : World} (hT : Tabs w) {g o c : Nat} {bs : List UInt8} (h : BytesA w (some ⟨g, o, none⟩) c bs) :
    Calls Tryd.prog 74 #[.slice (some ⟨g, o, none⟩) bs.length c] w (Ret fun v w' => New w w' ∧ v = .tuple #[.int .i32 ((dec bs).1 : Int), .int .i64 ((dec bs).2 : Int)]) := by
  have KS := Lib.hid (decSlow hT h)
  have lc := h.1
  have lm := h.2.1
  unfold maxLen at lm
  have hp0 := h.xb 0
  obtain ⟨R, hR⟩ : ∃ R, (dec bs).1 = R := ⟨_, rfl⟩
  obtain ⟨K, hK⟩ : ∃ K, (dec bs).2 = K := ⟨_, rfl⟩
  have HD : Hid (0 < bs.length → xb bs 0 < 128 → R = xb bs 0 ∧ K = 1) := fun h1 h2 => by
    have e : dec bs = (xb bs 0, 1) := by
      unfold dec
      rw [if_neg (by omega), decodeN, if_pos h2]
    rw [← hR, ← hK, e]; exact ⟨rfl, rfl⟩
  rw [hR, hK] at KS ⊢
  obtain ⟨n, hn⟩ : ∃ n, bs.length = n := ⟨_, rfl⟩
  obtain ⟨x0, hx0⟩ : ∃ x0, xb bs 0 = x0 := ⟨_, rfl⟩
  rw [hn, hx0] at HD
  rw [hn, hx0] at hp0
  rw [hn] at KS lc ⊢
  clear h hn hx0 hR hK hT
  by_cases h0 : 0 < n
  · have hc0 : w.cell? ⟨g, o, none⟩ = some (.int .u8 (x0 : Int)) := hp0 h0
    have hz : (0 : Int) < (n : Int) := by omega
    by_cases ha : x0 < 128
    · obtain ⟨rfl, rfl⟩ := HD.out h0 ha
      have haz : (R : Int) < 128 := by omega
      clear hp0 KS HD
      go_enter Tryd.func74, Tryd.ntmps74
      go_wp2
      go_loop [8] (fun i => i = .int .i64 0) (fun _ => 0)
      case atStart => rfl
      case round =>
        subst hrel
        go_wp2
        go_ret2
        exact ⟨Upd.refl _ _, rfl⟩
    · have haz : ¬ ((x0 : Int) < 128) := by omega
      clear hp0 HD
      go_enter Tryd.func74, Tryd.ntmps74
      go_wp2
      go_loop [8] (fun i => i = .int .i64 0) (fun _ => 0)
      case atStart => rfl
      case round =>
        subst hrel
        go_wp2_with (go_at_call 80; refine callRet KS.out ?_; rintro v w1 ⟨h1, rfl⟩; have H1 := Lib.hid h1; clear h1)
        go_ret2
        exact ⟨H1.out, rfl⟩
  · have hz : ¬ ((0 : Int) < (n : Int)) := by omega
    clear hp0 HD
    go_enter Tryd.func74, Tryd.ntmps74
    go_wp2
    go_loop [8] (fun i => i = .int .i64 0) (fun _ => 0)
    case atStart => rfl
    case round =>
      subst hrel
      go_wp2_with (go_at_call 80; refine callRet KS.out ?_; rintro v w1 ⟨h1, rfl⟩; have H1 := Lib.hid h1; clear h1)
      go_ret2
      exact ⟨H1.out, rfl⟩
end Go.Proofs.YtgbbogocfmepiaaDoor
