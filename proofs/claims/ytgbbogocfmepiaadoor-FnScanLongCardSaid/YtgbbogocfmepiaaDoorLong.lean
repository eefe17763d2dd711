/- A scanner's run in plain lists: the tokens one behind the other; lines that have room, and one that has none. -/
import Derived.Test.YtgbbogocfmepiaaDoorToks
namespace Go.Proofs.YtgbbogocfmepiaaDoor
open Go.RowKit
/-- one token told -/
def Tok1 (k lim : Nat) (all : List UInt8) (t : List UInt8) (mid : List UInt8) : Prop :=
  tokens k all = t :: tokens k mid ∧ (k = 3 → ∃ n, spl 3 all true = (n, some t) ∧ mid = all.drop n ∧ n ≤ lim)
/-- so many tokens told -/
def ScanTo (k lim : Nat) : List (List UInt8) → List UInt8 → List UInt8 → Prop
  | [], all, rem => tokens k all = tokens k rem ∧ (k = 3 → all = rem)
  | t :: ts, all, rem => ∃ mid, Tok1 k lim all t mid ∧ ScanTo k lim ts mid rem
theorem ScanTo.snoc {k lim : Nat} {t : List UInt8} {rem rem2 : List UInt8} (h2 : Tok1 k lim rem t rem2) : ∀ {ts : List (List UInt8)} {all : List UInt8}, ScanTo k lim ts all rem → ScanTo k lim (ts ++ [t]) all rem2
  | [], _, h => ⟨rem2, ⟨h.1.trans h2.1, fun hk => by rw [h.2 hk]; exact h2.2 hk⟩, rfl, fun _ => rfl⟩
  | _ :: _, _, ⟨mid, h1, h3⟩ => ⟨mid, h1, ScanTo.snoc h2 h3⟩
theorem ScanTo.skip {k lim : Nat} {rem rem2 : List UInt8} (h2 : tokens k rem = tokens k rem2) (h3 : k = 3 → rem = rem2) : ∀ {ts : List (List UInt8)} {all : List UInt8}, ScanTo k lim ts all rem → ScanTo k lim ts all rem2
  | [], _, h => ⟨h.1.trans h2, fun hk => (h.2 hk).trans (h3 hk)⟩
  | _ :: _, _, ⟨mid, h1, h4⟩ => ⟨mid, h1, ScanTo.skip h2 h3 h4⟩
theorem ScanTo.tokens {k lim : Nat} {rem : List UInt8} : ∀ {ts : List (List UInt8)} {all : List UInt8}, ScanTo k lim ts all rem → Go.Proofs.YtgbbogocfmepiaaDoor.tokens k all = ts ++ Go.Proofs.YtgbbogocfmepiaaDoor.tokens k rem
  | [], _, h => by rw [h.1]; rfl
  | _ :: _, _, ⟨_, h1, h4⟩ => by rw [h1.1, ScanTo.tokens h4]; rfl
/-! ### lines -/
/-- how many bytes the first line has, with its end -/
def fline (bs : List UInt8) : Nat := match pos 10 bs with
  | some i => i + 1
  | none => bs.length
def longest : Nat → List UInt8 → Nat
  | 0, _ => 0
  | f + 1, bs => if bs = [] then 0 else max (fline bs) (longest f (bs.drop (fline bs)))
/-- how many lines stand ahead of the first one that has more than so many -/
def ahead (lim : Int) : Nat → List UInt8 → Nat
  | 0, _ => 0
  | f + 1, bs => if bs = [] then 0 else if lim < (fline bs : Int) then 0 else 1 + ahead lim f (bs.drop (fline bs))
theorem fline_pos {bs : List UInt8} (hb : bs ≠ []) : 1 ≤ fline bs ∧ fline bs ≤ bs.length := by
  have hl : 0 < bs.length := List.length_pos_iff.2 hb
  unfold fline
  split
  · rename_i i hi
    have := pos_lt hi
    omega
  · omega
theorem longest_fuel : ∀ (f : Nat) (bs : List UInt8) (f' : Nat), bs.length ≤ f → bs.length ≤ f' → longest f bs = longest f' bs
  | 0, bs, f', h, _ => by
    have : bs = [] := List.eq_nil_of_length_eq_zero (by omega)
    subst this
    cases f' <;> simp [longest]
  | f + 1, bs, f', h, h' => by
    by_cases hb : bs = []
    · subst hb; cases f' <;> simp [longest]
    · have hp := fline_pos hb
      obtain ⟨g, rfl⟩ : ∃ g, f' = g + 1 := ⟨f' - 1, by omega⟩
      unfold longest
      rw [if_neg hb, if_neg hb, longest_fuel f (bs.drop (fline bs)) g (by rw [List.length_drop]; omega) (by rw [List.length_drop]; omega)]
theorem ahead_fuel (lim : Int) : ∀ (f : Nat) (bs : List UInt8) (f' : Nat), bs.length ≤ f → bs.length ≤ f' → ahead lim f bs = ahead lim f' bs
  | 0, bs, f', h, _ => by
    have : bs = [] := List.eq_nil_of_length_eq_zero (by omega)
    subst this
    cases f' <;> simp [ahead]
  | f + 1, bs, f', h, h' => by
    by_cases hb : bs = []
    · subst hb; cases f' <;> simp [ahead]
    · have hp := fline_pos hb
      obtain ⟨g, rfl⟩ : ∃ g, f' = g + 1 := ⟨f' - 1, by omega⟩
      unfold ahead
      rw [if_neg hb, if_neg hb, ahead_fuel lim f (bs.drop (fline bs)) g (by rw [List.length_drop]; omega) (by rw [List.length_drop]; omega)]
def longestL (bs : List UInt8) : Nat := longest bs.length bs
def aheadL (lim : Int) (bs : List UInt8) : Nat := ahead lim bs.length bs
theorem longest_step {bs : List UInt8} (hb : bs ≠ []) : longestL bs = max (fline bs) (longestL (bs.drop (fline bs))) := by
  have hl : 0 < bs.length := List.length_pos_iff.2 hb
  obtain ⟨m, hm⟩ : ∃ m, bs.length = m + 1 := ⟨bs.length - 1, by omega⟩
  have hp := fline_pos hb
  unfold longestL
  rw [hm, longest, if_neg hb, longest_fuel m _ _ (by rw [List.length_drop]; omega) (Nat.le_refl _)]
theorem ahead_step {lim : Int} {bs : List UInt8} (hb : bs ≠ []) : aheadL lim bs = if lim < (fline bs : Int) then 0 else 1 + aheadL lim (bs.drop (fline bs)) := by
  have hl : 0 < bs.length := List.length_pos_iff.2 hb
  obtain ⟨m, hm⟩ : ∃ m, bs.length = m + 1 := ⟨bs.length - 1, by omega⟩
  have hp := fline_pos hb
  unfold aheadL
  rw [hm, ahead, if_neg hb, ahead_fuel lim m _ _ (by rw [List.length_drop]; omega) (Nat.le_refl _)]
theorem spl_line {bs : List UInt8} (hb : bs ≠ []) : ∃ t, spl 3 bs true = (fline bs, some t) := by
  cases hp : pos 10 bs with
  | some i =>
    refine ⟨dcr (bs.take i), ?_⟩
    show splitLines bs true = _
    unfold splitLines fline
    rw [if_neg (fun hh => hb hh.2), hp]
  | none =>
    refine ⟨dcr bs, ?_⟩
    show splitLines bs true = _
    unfold splitLines fline
    rw [if_neg (fun hh => hb hh.2), hp]
    rfl
theorem spl_line_nil {n : Nat} {t : List UInt8} {bs : List UInt8} (h : spl 3 bs true = (n, some t)) : bs ≠ [] := by
  rintro rfl
  have h : splitLines [] true = (n, some t) := h
  unfold splitLines at h
  simp at h
theorem tokens3_nil {bs : List UInt8} (h : tokens 3 bs = []) : bs = [] := by
  by_cases hb : bs = []
  · exact hb
  · obtain ⟨t, ht⟩ := spl_line hb
    rw [tokens_some hb ht] at h
    cases h
/-- a line that has no room -/
def TooBig (lim : Nat) (rem : List UInt8) : Prop := lim ≤ rem.length ∧ pos 10 (rem.take lim) = none
theorem tooBig_fline {lim : Nat} {rem : List UInt8} (h : TooBig lim rem) : lim ≤ fline rem := by
  unfold fline
  split
  · rename_i i hi
    by_cases hlt : i < lim
    · have := pos_take_of hi hlt
      rw [h.2] at this; cases this
    · omega
  · exact h.1
/-- where all lines have room -/
theorem fits_all {lim : Nat} {rem : List UInt8} (hl : 1 ≤ lim) (hbig : TooBig lim rem) : ∀ {ts : List (List UInt8)} {all : List UInt8}, ScanTo 3 lim ts all rem → lim ≤ longestL all
  | [], all, h => by
    rw [h.2 rfl]
    have hb : rem ≠ [] := by rintro rfl; have := hbig.1; simp at this; omega
    rw [longest_step hb]
    have := tooBig_fline hbig
    omega
  | t :: ts, all, ⟨mid, h1, h2⟩ => by
    obtain ⟨n, hn, rfl, _⟩ := h1.2 rfl
    have hb := spl_line_nil hn
    obtain ⟨t', ht'⟩ := spl_line hb
    rw [hn] at ht'
    simp only [Prod.mk.injEq] at ht'
    rw [ht'.1] at h2
    have := fits_all hl hbig h2
    rw [longest_step hb]
    omega
/-- where one has none: the lines ahead of it -/
theorem long_one {lim : Nat} {rem : List UInt8} : ∀ {ts : List (List UInt8)} {all : List UInt8}, ScanTo 3 lim ts all rem → (lim : Int) + 2 < longestL all → aheadL ((lim : Int) - 3) all = aheadL ((lim : Int) + 2) all →
    (lim : Int) + 2 < longestL rem ∧ aheadL ((lim : Int) - 3) rem = aheadL ((lim : Int) + 2) rem ∧ aheadL ((lim : Int) + 2) all = ts.length + aheadL ((lim : Int) + 2) rem
  | [], all, h, hl, ha => by
    rw [h.2 rfl] at hl ha ⊢
    exact ⟨hl, ha, by simp⟩
  | t :: ts, all, ⟨mid, h1, h2⟩, hl, ha => by
    obtain ⟨n, hn, rfl, hle⟩ := h1.2 rfl
    have hb := spl_line_nil hn
    obtain ⟨t', ht'⟩ := spl_line hb
    rw [hn] at ht'
    simp only [Prod.mk.injEq] at ht'
    rw [ht'.1] at h2 hle
    rw [ahead_step hb, ahead_step hb] at ha
    rw [longest_step hb] at hl
    have hnot : ¬ ((lim : Int) + 2 < (fline all : Int)) := by omega
    rw [if_neg hnot] at ha
    by_cases hc : (lim : Int) - 3 < (fline all : Int)
    · rw [if_pos hc] at ha; omega
    · rw [if_neg hc] at ha
      obtain ⟨q1, q2, q3⟩ := long_one h2 (by omega) (by omega)
      refine ⟨q1, q2, ?_⟩
      rw [ahead_step hb, if_neg hnot, q3]
      simp; omega
theorem long_end {lim : Nat} {rem all : List UInt8} {ts : List (List UInt8)} (h : ScanTo 3 lim ts all rem) (hl : (lim : Int) + 2 < longestL all) (ha : aheadL ((lim : Int) - 3) all = aheadL ((lim : Int) + 2) all) :
    tokens 3 rem ≠ [] ∧ (TooBig lim rem → ts = (tokens 3 all).take (aheadL ((lim : Int) + 2) all) ∧ aheadL ((lim : Int) + 2) all ≤ (tokens 3 all).length) := by
  obtain ⟨q1, q2, q3⟩ := long_one h hl ha
  have hb : rem ≠ [] := by rintro rfl; have : longestL [] = 0 := rfl; rw [this] at q1; omega
  refine ⟨fun hh => hb (tokens3_nil hh), fun hbig => ?_⟩
  have hf := tooBig_fline hbig
  rw [ahead_step hb, if_pos (by omega)] at q2
  rw [← q2, Nat.add_zero] at q3
  rw [q3, h.tokens]
  exact ⟨(List.take_left ..).symm, by simp⟩
end Go.Proofs.YtgbbogocfmepiaaDoor
