/- spec.Longest, laws.between: lines and their lengths. -/
import Derived.Test.YtgbbogocfmepiaaDoorLong
import Derived.Test.YtgbbogocfmepiaaDoorSpecTk
import Derived.Test.YtgbbogocfmepiaaDoorIndex
import Derived.Deep.LoopGhost
import Derived.Deep.DeepCutAuto
namespace Go.Proofs.YtgbbogocfmepiaaDoor
open Go.RowKit
/-- so far: the longest, how many lines, whether one was too long -/
structure LgIn (lim : Int) (all rest : List UInt8) (mo n : Nat) (ov : Bool) : Prop where
  lg : longestL all = max mo (longestL rest)
  ah : aheadL lim all = if ov then n else n + aheadL lim rest
  mo : mo ≤ all.length
  n : n + rest.length ≤ all.length
def lgN (lim : Int) (fl n : Nat) (ov : Bool) : Nat := if ov = false ∧ ¬ lim < (fl : Int) then n + 1 else n
def lgV (lim : Int) (fl : Nat) (ov : Bool) : Bool := ov || decide (lim < (fl : Int))
theorem LgIn.next {lim : Int} {all rest : List UInt8} {mo n mx : Nat} {ov : Bool} (h : LgIn lim all rest mo n ov) (hr : rest ≠ []) (hmx : mx = max mo (fline rest)) :
    LgIn lim all (rest.drop (fline rest)) mx (lgN lim (fline rest) n ov) (lgV lim (fline rest) ov) := by
  unfold lgN lgV
  have hp := fline_pos hr
  have hn := h.n
  have hm := h.mo
  refine ⟨?_, ?_, by rw [hmx]; omega, ?_⟩
  · rw [h.lg, longest_step hr, hmx]; omega
  · rw [h.ah]
    cases ov with
    | true => simp
    | false =>
      rw [ahead_step hr]
      by_cases hl : lim < (fline rest : Int)
      · simp [hl]
      · simp [hl]; omega
  · rw [List.length_drop]
    split <;> omega
set_option maxRecDepth 100000 in
set_option maxHeartbeats 1000000 in
theorem specLongest {w : World} {a : Option Addr} {c : Nat} {bs : List UInt8} (h : BytesA w a c bs) (hbig : bs.length ≤ 1000000) (lim : Int) :
    Calls Tryd.prog 15 #[.slice a bs.length c, .int .i64 lim] w (Ret fun v w' => w = w' ∧ v = .tuple #[.int .i64 (longestL bs : Int), .int .i64 (aheadL lim bs : Int)]) := by
  have H := Lib.hid h
  have l1 := h.1
  have l2 := h.2.1
  unfold maxLen at l2
  clear h
  go_enter Tryd.func15, Tryd.ntmps15
  go_wp2_with fail
  go_loopg [0, 6, 7, 8] bs.length (fun gk v0 v6 v7 v8 wr => ∃ (rest : List UInt8) (a1 : Option Addr) (c1 mo n : Nat) (ov : Bool), v0 = .slice a1 rest.length c1 ∧ v6 = .int .i64 (mo : Int) ∧ v7 = .int .i64 (n : Int) ∧ v8 = .bool ov ∧ wr = w ∧ BytesA w a1 c1 rest ∧ LgIn lim bs rest mo n ov ∧ rest.length ≤ gk)
  case atStart => exact ⟨bs, a, c, 0, 0, false, rfl, rfl, rfl, rfl, rfl, H.out, ⟨by omega, by simp, by omega, by omega⟩, Nat.le_refl _⟩
  case round =>
    obtain ⟨rest, a1, c1, mo, n, ov, rfl, rfl, rfl, rfl, rfl, hby, hin, hgk⟩ := hrel
    have l3 := hby.1
    have l4 := hby.2.1
    unfold maxLen at l4
    have hn := hin.n
    have hmo := hin.mo
    have HBY := Lib.hid hby
    have HIN := Lib.hid hin
    by_cases hr : rest = []
    · subst hr
      have hfin : longestL bs = mo ∧ aheadL lim bs = n := by
        refine ⟨?_, ?_⟩
        · rw [hin.lg]; show max mo 0 = mo; omega
        · rw [hin.ah]; cases ov <;> rfl
      have HFIN := Lib.hid hfin
      clear hby hin hfin
      go_wp2_with fail
      go_ret2
      rw [HFIN.out.1, HFIN.out.2]
      exact ⟨rfl, rfl⟩
    · have hl : 0 < rest.length := List.length_pos_iff.2 hr
      have hfp := fline_pos hr
      obtain ⟨g, o, rfl⟩ : ∃ g o, a1 = some ⟨g, o, none⟩ := by
        cases a1 with
        | none => have := hby.2.2.1 rfl; omega
        | some p => obtain ⟨b, o, s⟩ := p; obtain rfl := (hby.2.2.2 _ rfl).1 hr; exact ⟨b, o, rfl⟩
      obtain ⟨fl, hfl⟩ : ∃ fl, fl = fline rest := ⟨_, rfl⟩
      rw [← hfl] at hfp
      obtain ⟨mx, hmx⟩ : ∃ mx, mx = max mo fl := ⟨_, rfl⟩
      have hmax : max (mo : Int) (fl : Int) = (mx : Int) := by omega
      have KI := specIndex hby 10
      have hnext := hin.next (mx := mx) hr (by rw [← hfl]; exact hmx)
      rw [← hfl] at hnext
      have HFP : Hid (fl ≤ rest.length) := Lib.hid hfp.2
      have HDL : Hid ((rest.drop fl).length = rest.length - fl) := List.length_drop
      have hidx : ∃ x : Int, posI (pos 10 rest) = x ∧ ((x = -1 ∧ fl = rest.length) ∨ (x + 1 = (fl : Int) ∧ 0 ≤ x)) := by
        unfold fline at hfl
        cases hp : pos 10 rest with
        | none => rw [hp] at hfl; exact ⟨-1, rfl, .inl ⟨rfl, hfl⟩⟩
        | some i => rw [hp] at hfl; exact ⟨(i : Int), rfl, .inr ⟨by rw [hfl]; simp, by omega⟩⟩
      obtain ⟨x, hx, hxor⟩ := hidx
      rw [hx] at KI
      have HKI := Lib.hid KI
      have HNX := Lib.hid hnext
      clear hby hin KI hnext hx hfl hmx hr
      obtain ⟨m, hm⟩ : ∃ m, rest.length = m := ⟨_, rfl⟩
      rw [hm] at hl l3 hgk HKI HDL hfp hn hxor ⊢
      clear hm
      rcases hxor with ⟨rfl, hfm⟩ | ⟨hx1, hx0⟩
      · subst hfm
        cases ov with
        | true =>
          by_cases hc : c1 = fl
          · subst hc
            go_wp2_with (go_at_call 42; refine callRet HKI.out ?_; rintro v w1 ⟨rfl, rfl⟩)
            go_roundg (c1 - c1)
            case measure => omega
            case rel =>
              have h9 := HNX.out
              have h8 := HBY.out.suf (o' := o) (c' := 0) HFP.out (.inl ⟨rfl, rfl, rfl⟩)
              refine ⟨_, some ⟨g, o, none⟩, 0, mx, _, _, ?_, rfl, ?_, ?_, rfl, h8, h9, by rw [HDL.out]; omega⟩
              · rw [HDL.out]
                all_goals first | rfl | (congr 1; omega) | (congr 1 <;> omega)
              · unfold lgN; rw [if_neg (by simp)]
              · rfl
          · have HC := Lib.hid hc
            go_wp2_with (go_at_call 42; refine callRet HKI.out ?_; rintro v w1 ⟨rfl, rfl⟩)
            go_roundg (fl - fl)
            case measure => omega
            case rel =>
              have h9 := HNX.out
              have h8 := HBY.out.suf (o' := o + fl) (c' := c1 - fl) HFP.out (.inr ⟨HC.out, rfl, rfl⟩)
              refine ⟨_, some ⟨g, (o + fl), none⟩, (c1 - fl), mx, _, _, ?_, rfl, ?_, ?_, rfl, h8, h9, by rw [HDL.out]; omega⟩
              · rw [HDL.out]
                all_goals first | rfl | (congr 1; omega) | (congr 1 <;> omega)
              · unfold lgN; rw [if_neg (by simp)]
              · rfl
        | false =>
          by_cases hlt : lim < (fl : Int)
          · have q5 : decide (lim < (fl : Int)) = true := decide_eq_true hlt
            by_cases hc : c1 = fl
            · subst hc
              go_wp2_with (go_at_call 42; refine callRet HKI.out ?_; rintro v w1 ⟨rfl, rfl⟩)
              go_roundg (c1 - c1)
              case measure => omega
              case rel =>
                have h9 := HNX.out
                have h8 := HBY.out.suf (o' := o) (c' := 0) HFP.out (.inl ⟨rfl, rfl, rfl⟩)
                refine ⟨_, some ⟨g, o, none⟩, 0, mx, _, _, ?_, rfl, ?_, ?_, rfl, h8, h9, by rw [HDL.out]; omega⟩
                · rw [HDL.out]
                  all_goals first | rfl | (congr 1; omega) | (congr 1 <;> omega)
                · unfold lgN; rw [if_neg (by rintro ⟨_, h⟩; omega)]
                · unfold lgV; first | rfl | (rw [decide_eq_true (by omega)]; rfl) | rw [decide_eq_true (by omega)]
            · have HC := Lib.hid hc
              go_wp2_with (go_at_call 42; refine callRet HKI.out ?_; rintro v w1 ⟨rfl, rfl⟩)
              go_roundg (fl - fl)
              case measure => omega
              case rel =>
                have h9 := HNX.out
                have h8 := HBY.out.suf (o' := o + fl) (c' := c1 - fl) HFP.out (.inr ⟨HC.out, rfl, rfl⟩)
                refine ⟨_, some ⟨g, (o + fl), none⟩, (c1 - fl), mx, _, _, ?_, rfl, ?_, ?_, rfl, h8, h9, by rw [HDL.out]; omega⟩
                · rw [HDL.out]
                  all_goals first | rfl | (congr 1; omega) | (congr 1 <;> omega)
                · unfold lgN; rw [if_neg (by rintro ⟨_, h⟩; omega)]
                · unfold lgV; first | rfl | (rw [decide_eq_true (by omega)]; rfl) | rw [decide_eq_true (by omega)]
          · have q5 : decide (lim < (fl : Int)) = false := decide_eq_false hlt
            by_cases hc : c1 = fl
            · subst hc
              go_wp2_with (go_at_call 42; refine callRet HKI.out ?_; rintro v w1 ⟨rfl, rfl⟩)
              go_roundg (c1 - c1)
              case measure => omega
              case rel =>
                have h9 := HNX.out
                have h8 := HBY.out.suf (o' := o) (c' := 0) HFP.out (.inl ⟨rfl, rfl, rfl⟩)
                refine ⟨_, some ⟨g, o, none⟩, 0, mx, _, _, ?_, rfl, ?_, ?_, rfl, h8, h9, by rw [HDL.out]; omega⟩
                · rw [HDL.out]
                  all_goals first | rfl | (congr 1; omega) | (congr 1 <;> omega)
                · unfold lgN; rw [if_pos ⟨rfl, by omega⟩]; rfl
                · unfold lgV; first | rfl | (rw [decide_eq_false (by omega)]; rfl) | rw [decide_eq_false (by omega)]
            · have HC := Lib.hid hc
              go_wp2_with (go_at_call 42; refine callRet HKI.out ?_; rintro v w1 ⟨rfl, rfl⟩)
              go_roundg (fl - fl)
              case measure => omega
              case rel =>
                have h9 := HNX.out
                have h8 := HBY.out.suf (o' := o + fl) (c' := c1 - fl) HFP.out (.inr ⟨HC.out, rfl, rfl⟩)
                refine ⟨_, some ⟨g, (o + fl), none⟩, (c1 - fl), mx, _, _, ?_, rfl, ?_, ?_, rfl, h8, h9, by rw [HDL.out]; omega⟩
                · rw [HDL.out]
                  all_goals first | rfl | (congr 1; omega) | (congr 1 <;> omega)
                · unfold lgN; rw [if_pos ⟨rfl, by omega⟩]; rfl
                · unfold lgV; first | rfl | (rw [decide_eq_false (by omega)]; rfl) | rw [decide_eq_false (by omega)]
      · have q0 : ((fl : Int) == 0) = false := by rw [beq_eq_false_iff_ne]; omega
        cases ov with
        | true =>
          by_cases hc : c1 = fl
          · subst hc
            go_wp2_with (go_at_call 42; refine callRet HKI.out ?_; rintro v w1 ⟨rfl, rfl⟩)
            go_roundg (m - c1)
            case measure => omega
            case rel =>
              have h9 := HNX.out
              have h8 := HBY.out.suf (o' := o) (c' := 0) HFP.out (.inl ⟨rfl, rfl, rfl⟩)
              refine ⟨_, some ⟨g, o, none⟩, 0, mx, _, _, ?_, rfl, ?_, ?_, rfl, h8, h9, by rw [HDL.out]; omega⟩
              · rw [HDL.out]
                all_goals first | rfl | (congr 1; omega) | (congr 1 <;> omega)
              · unfold lgN; rw [if_neg (by simp)]
              · rfl
          · have HC := Lib.hid hc
            go_wp2_with (go_at_call 42; refine callRet HKI.out ?_; rintro v w1 ⟨rfl, rfl⟩)
            go_roundg (m - fl)
            case measure => omega
            case rel =>
              have h9 := HNX.out
              have h8 := HBY.out.suf (o' := o + fl) (c' := c1 - fl) HFP.out (.inr ⟨HC.out, rfl, rfl⟩)
              refine ⟨_, some ⟨g, (o + fl), none⟩, (c1 - fl), mx, _, _, ?_, rfl, ?_, ?_, rfl, h8, h9, by rw [HDL.out]; omega⟩
              · rw [HDL.out]
                all_goals first | rfl | (congr 1; omega) | (congr 1 <;> omega)
              · unfold lgN; rw [if_neg (by simp)]
              · rfl
        | false =>
          by_cases hlt : lim < (fl : Int)
          · have q5 : decide (lim < (fl : Int)) = true := decide_eq_true hlt
            by_cases hc : c1 = fl
            · subst hc
              go_wp2_with (go_at_call 42; refine callRet HKI.out ?_; rintro v w1 ⟨rfl, rfl⟩)
              go_roundg (m - c1)
              case measure => omega
              case rel =>
                have h9 := HNX.out
                have h8 := HBY.out.suf (o' := o) (c' := 0) HFP.out (.inl ⟨rfl, rfl, rfl⟩)
                refine ⟨_, some ⟨g, o, none⟩, 0, mx, _, _, ?_, rfl, ?_, ?_, rfl, h8, h9, by rw [HDL.out]; omega⟩
                · rw [HDL.out]
                  all_goals first | rfl | (congr 1; omega) | (congr 1 <;> omega)
                · unfold lgN; rw [if_neg (by rintro ⟨_, h⟩; omega)]
                · unfold lgV; first | rfl | (rw [decide_eq_true (by omega)]; rfl) | rw [decide_eq_true (by omega)]
            · have HC := Lib.hid hc
              go_wp2_with (go_at_call 42; refine callRet HKI.out ?_; rintro v w1 ⟨rfl, rfl⟩)
              go_roundg (m - fl)
              case measure => omega
              case rel =>
                have h9 := HNX.out
                have h8 := HBY.out.suf (o' := o + fl) (c' := c1 - fl) HFP.out (.inr ⟨HC.out, rfl, rfl⟩)
                refine ⟨_, some ⟨g, (o + fl), none⟩, (c1 - fl), mx, _, _, ?_, rfl, ?_, ?_, rfl, h8, h9, by rw [HDL.out]; omega⟩
                · rw [HDL.out]
                  all_goals first | rfl | (congr 1; omega) | (congr 1 <;> omega)
                · unfold lgN; rw [if_neg (by rintro ⟨_, h⟩; omega)]
                · unfold lgV; first | rfl | (rw [decide_eq_true (by omega)]; rfl) | rw [decide_eq_true (by omega)]
          · have q5 : decide (lim < (fl : Int)) = false := decide_eq_false hlt
            by_cases hc : c1 = fl
            · subst hc
              go_wp2_with (go_at_call 42; refine callRet HKI.out ?_; rintro v w1 ⟨rfl, rfl⟩)
              go_roundg (m - c1)
              case measure => omega
              case rel =>
                have h9 := HNX.out
                have h8 := HBY.out.suf (o' := o) (c' := 0) HFP.out (.inl ⟨rfl, rfl, rfl⟩)
                refine ⟨_, some ⟨g, o, none⟩, 0, mx, _, _, ?_, rfl, ?_, ?_, rfl, h8, h9, by rw [HDL.out]; omega⟩
                · rw [HDL.out]
                  all_goals first | rfl | (congr 1; omega) | (congr 1 <;> omega)
                · unfold lgN; rw [if_pos ⟨rfl, by omega⟩]; rfl
                · unfold lgV; first | rfl | (rw [decide_eq_false (by omega)]; rfl) | rw [decide_eq_false (by omega)]
            · have HC := Lib.hid hc
              go_wp2_with (go_at_call 42; refine callRet HKI.out ?_; rintro v w1 ⟨rfl, rfl⟩)
              go_roundg (m - fl)
              case measure => omega
              case rel =>
                have h9 := HNX.out
                have h8 := HBY.out.suf (o' := o + fl) (c' := c1 - fl) HFP.out (.inr ⟨HC.out, rfl, rfl⟩)
                refine ⟨_, some ⟨g, (o + fl), none⟩, (c1 - fl), mx, _, _, ?_, rfl, ?_, ?_, rfl, h8, h9, by rw [HDL.out]; omega⟩
                · rw [HDL.out]
                  all_goals first | rfl | (congr 1; omega) | (congr 1 <;> omega)
                · unfold lgN; rw [if_pos ⟨rfl, by omega⟩]; rfl
                · unfold lgV; first | rfl | (rw [decide_eq_false (by omega)]; rfl) | rw [decide_eq_false (by omega)]
set_option maxRecDepth 100000 in
set_option maxHeartbeats 400000 in
/-- laws.between -/
theorem between {w : World} {a : Option Addr} {c : Nat} {bs : List UInt8} (h : BytesA w a c bs) (hbig : bs.length ≤ 1000000) (lim : Nat) (hlim : lim ≤ 70000) {la lb : Int} (hla : (lim : Int) - 3 = la) (hlb : (lim : Int) + 2 = lb) {x2 x3 : Nat} (hx2 : aheadL la bs = x2) (hx3 : aheadL lb bs = x3) :
    Calls Tryd.prog 16 #[.slice a bs.length c, .int .i64 (lim : Int)] w (Ret fun v w' => w = w' ∧ v = .bool (!decide (x2 = x3))) := by
  subst hla hlb
  have K1 := specLongest h hbig ((lim : Int) - 3)
  have K2 := specLongest h hbig ((lim : Int) + 2)
  clear h
  obtain ⟨x1, hx1⟩ : ∃ x, longestL bs = x := ⟨_, rfl⟩
  rw [hx1, hx2] at K1
  rw [hx1, hx3] at K2
  clear hx1 hx2 hx3
  obtain ⟨m, hm⟩ : ∃ m, bs.length = m := ⟨_, rfl⟩
  rw [hm] at K1 K2 ⊢
  clear hm
  have HK1 := Lib.hid K1
  have HK2 := Lib.hid K2
  clear K1 K2
  go_enter Tryd.func16, Tryd.ntmps16
  go_upto_region 2 with (go_at_call 15; refine callRet HK1.out ?_; rintro v w1 ⟨rfl, rfl⟩)
  go_wp2_with (go_at_call 15; refine callRet HK2.out ?_; rintro v w1 ⟨rfl, rfl⟩)
  go_ret
  refine ⟨rfl, ?_⟩
  by_cases hh : x2 = x3
  · subst hh; simp
  · have hh2 : ¬ (x2 : Int) = (x3 : Int) := by omega
    simp [hh, hh2]
end Go.Proofs.YtgbbogocfmepiaaDoor
