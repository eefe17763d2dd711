/- What goutf8's decoder tells of longer bytes; spec.Full in plain lists. -/
import Derived.Test.YtgbbogocfmepiaaDoorUtf
namespace Go.Proofs.YtgbbogocfmepiaaDoor
open Go.RowKit Go.Lib
theorem xb_app_lt {bs m : List UInt8} {i : Nat} (h : i < bs.length) : xb (bs ++ m) i = xb bs i := by
  unfold xb; rw [List.getD_eq_getElem?_getD, List.getD_eq_getElem?_getD, List.getElem?_append_left h]
theorem xb_take {bs : List UInt8} {i n : Nat} (h : i < n) : xb (bs.take n) i = xb bs i := by
  unfold xb; rw [List.getD_eq_getElem?_getD, List.getD_eq_getElem?_getD, List.getElem?_take_of_lt h]
set_option maxHeartbeats 4000000 in
/-- the three ways of a first rune -/
theorem decN_ways (n x0 x1 x2 x3 : Nat) (hn : 1 ≤ n) (h0 : x0 < 256) (h1 : x1 < 256) (h2 : x2 < 256) (h3 : x3 < 256) :
    (x0 < 128 ∧ decodeN n x0 x1 x2 x3 = (x0, 1)) ∨ (128 ≤ x0 ∧ (decodeN n x0 x1 x2 x3).2 = firstT x0 % 8 ∧ 2 ≤ firstT x0 % 8 ∧ firstT x0 % 8 ≤ 4 ∧ firstT x0 % 8 ≤ n ∧ (decodeN n x0 x1 x2 x3).1 < 1114112) ∨ (128 ≤ x0 ∧ decodeN n x0 x1 x2 x3 = (65533, 1)) := by
  by_cases ha : x0 < 128
  · left; exact ⟨ha, by unfold decodeN; rw [if_pos ha]⟩
  · right
    by_cases hX : firstT x0 < 240
    · have e := slow_eq n x0 x1 x2 x3 hn h1 h2 h3 hX
      rw [← e]
      have hc := firstT_cases x0
      have hlow := firstT_low hX
      generalize hF : firstT x0 = F at hX hc ⊢
      have hF8 : F % 8 = 2 ∨ F % 8 = 3 ∨ F % 8 = 4 := by omega
      unfold slowN
      by_cases q1 : n < F % 8
      · rw [if_pos q1]; right; exact ⟨by omega, rfl⟩
      · rw [if_neg q1]
        by_cases q2 : x1 < accLo (F / 16) ∨ accHi (F / 16) < x1
        · rw [if_pos q2]; right; exact ⟨by omega, rfl⟩
        · rw [if_neg q2]
          by_cases q3 : F % 8 ≤ 2
          · rw [if_pos q3]; left; refine ⟨by omega, ?_, by omega, by omega, by omega, ?_⟩
            · show 2 = F % 8; omega
            · show x0 % 32 * 64 + x1 % 64 < 1114112; omega
          · rw [if_neg q3]
            by_cases q4 : x2 < 128 ∨ 191 < x2
            · rw [if_pos q4]; right; exact ⟨by omega, rfl⟩
            · rw [if_neg q4]
              by_cases q5 : F % 8 ≤ 3
              · rw [if_pos q5]; left; refine ⟨by omega, ?_, by omega, by omega, by omega, ?_⟩
                · show 3 = F % 8; omega
                · show x0 % 16 * 4096 + x1 % 64 * 64 + x2 % 64 < 1114112; omega
              · rw [if_neg q5]
                by_cases q6 : x3 < 128 ∨ 191 < x3
                · rw [if_pos q6]; right; exact ⟨by omega, rfl⟩
                · rw [if_neg q6]; left; refine ⟨by omega, ?_, by omega, by omega, by omega, ?_⟩
                  · show 4 = F % 8; omega
                  · show x0 % 8 * 262144 + x1 % 64 * 4096 + x2 % 64 * 64 + x3 % 64 < 1114112
                    have : F = 52 ∨ F = 4 ∨ F = 68 := by omega
                    have hx : 240 ≤ x0 ∧ x0 ≤ 244 := by
                      subst hF
                      unfold firstT at this
                      repeat' split at this
                      all_goals omega
                    by_cases h244 : x0 = 244
                    · have : F = 68 := by rw [← hF, h244]; rfl
                      subst this
                      have ea : accLo (68 / 16) = 128 := rfl
                      have eb : accHi (68 / 16) = 143 := rfl
                      rw [ea, eb] at q2
                      omega
                    · omega
    · right
      have hX' : firstT x0 = 241 := by
        have := firstT_cases x0
        have h240 : firstT x0 ≠ 240 := fun h => by
          unfold firstT at h
          repeat' split at h
          all_goals omega
        omega
      exact ⟨by omega, bad_eq n x0 x1 x2 x3 h0 hX'⟩
theorem dec_ways {bs : List UInt8} (h : 0 < bs.length) :
    (xb bs 0 < 128 ∧ dec bs = (xb bs 0, 1)) ∨ (128 ≤ xb bs 0 ∧ (dec bs).2 = firstT (xb bs 0) % 8 ∧ 2 ≤ (dec bs).2 ∧ (dec bs).2 ≤ 4 ∧ (dec bs).2 ≤ bs.length ∧ (dec bs).1 < 1114112) ∨ (128 ≤ xb bs 0 ∧ dec bs = (65533, 1)) := by
  have := decN_ways bs.length (xb bs 0) (xb bs 1) (xb bs 2) (xb bs 3) h (xb_lt _ _) (xb_lt _ _) (xb_lt _ _) (xb_lt _ _)
  have e : dec bs = decodeN bs.length (xb bs 0) (xb bs 1) (xb bs 2) (xb bs 3) := by unfold dec; rw [if_neg (by omega)]
  rw [e]
  rcases this with h | ⟨h1, h2, h3, h4, h5, h6⟩ | h
  · exact .inl h
  · exact .inr (.inl ⟨h1, h2, by omega, by omega, by omega, h6⟩)
  · exact .inr (.inr h)
theorem dec_pos {bs : List UInt8} (h : 0 < bs.length) : 1 ≤ (dec bs).2 ∧ (dec bs).2 ≤ bs.length ∧ (dec bs).2 ≤ 4 ∧ (dec bs).1 < 1114112 := by
  have hl := xb_lt bs 0
  rcases dec_ways h with ⟨h1, h2⟩ | h1 | ⟨_, h2⟩
  · rw [h2]; exact ⟨Nat.le_refl _, h, by show 1 ≤ 4; omega, by show xb bs 0 < 1114112; omega⟩
  · omega
  · rw [h2]; exact ⟨Nat.le_refl _, h, by show 1 ≤ 4; omega, by show 65533 < 1114112; omega⟩
/-- nothing behind a whole rune turns it -/
theorem slow_ext {n n' x0 x1 x2 x3 y1 y2 y3 F : Nat} (hF : 2 ≤ F % 8) (hle : n ≤ n') (h1 : 1 < n → y1 = x1) (h2 : 2 < n → y2 = x2) (h3 : 3 < n → y3 = x3) (hn : 1 ≤ n)
    (hf : (F % 8 ≤ n) ∨ (1 < n ∧ (x1 < accLo (F / 16) ∨ accHi (F / 16) < x1)) ∨ (2 < n ∧ (x2 < 128 ∨ 191 < x2))) :
    slowN n' x0 y1 y2 y3 (F % 8) (accLo (F / 16)) (accHi (F / 16)) = slowN n x0 x1 x2 x3 (F % 8) (accLo (F / 16)) (accHi (F / 16)) := by
  by_cases hs : F % 8 ≤ n
  · have e1 := h1 (by omega)
    subst e1
    unfold slowN
    rw [if_neg (show ¬ n' < F % 8 by omega), if_neg (show ¬ n < F % 8 by omega)]
    by_cases q2 : y1 < accLo (F / 16) ∨ accHi (F / 16) < y1
    · rw [if_pos q2, if_pos q2]
    · rw [if_neg q2, if_neg q2]
      by_cases q3 : F % 8 ≤ 2
      · rw [if_pos q3, if_pos q3]
      · rw [if_neg q3, if_neg q3]
        have e2 := h2 (by omega)
        subst e2
        by_cases q4 : y2 < 128 ∨ 191 < y2
        · rw [if_pos q4, if_pos q4]
        · rw [if_neg q4, if_neg q4]
          by_cases q5 : F % 8 ≤ 3
          · rw [if_pos q5, if_pos q5]
          · rw [if_neg q5, if_neg q5]
            have e3 := h3 (by omega)
            subst e3
            rfl
  · have e : slowN n x0 x1 x2 x3 (F % 8) (accLo (F / 16)) (accHi (F / 16)) = (65533, 1) := by unfold slowN; rw [if_pos (by omega)]
    rw [e]
    unfold slowN
    by_cases q1 : n' < F % 8
    · rw [if_pos q1]
    · rw [if_neg q1]
      rcases hf with hf | ⟨k1, hf⟩ | ⟨k2, hf⟩
      · exact absurd hf hs
      · rw [h1 k1, if_pos hf]
      · rw [h1 (by omega), h2 k2]
        by_cases q2 : x1 < accLo (F / 16) ∨ accHi (F / 16) < x1
        · rw [if_pos q2]
        · rw [if_neg q2]
          by_cases q3 : F % 8 ≤ 2
          · omega
          · rw [if_neg q3, if_pos hf]
theorem dec_ext {bs m : List UInt8} (hf : fullB bs = true) : dec (bs ++ m) = dec bs := by
  have hn : 0 < bs.length := by
    rcases Nat.eq_zero_or_pos bs.length with h | h
    · unfold fullB fullN at hf; rw [if_pos h] at hf; cases hf
    · exact h
  unfold dec
  rw [if_neg (show ¬ (bs ++ m).length = 0 by rw [List.length_append]; omega), if_neg (show ¬ bs.length = 0 by omega), xb_app_lt hn]
  generalize hx : xb bs 0 = x0
  have hx0 : x0 < 256 := by rw [← hx]; exact xb_lt _ _
  by_cases hX : firstT x0 < 240
  · rw [← slow_eq _ _ _ _ _ (by rw [List.length_append]; omega) (xb_lt _ _) (xb_lt _ _) (xb_lt _ _) hX, ← slow_eq _ _ _ _ _ hn (xb_lt _ _) (xb_lt _ _) (xb_lt _ _) hX]
    refine slow_ext ?_ (by rw [List.length_append]; omega) (fun h => xb_app_lt h) (fun h => xb_app_lt h) (fun h => xb_app_lt h) hn ?_
    · have := firstT_cases x0; omega
    · unfold fullB fullN at hf
      rw [if_neg (by omega), hx] at hf
      split at hf
      · exact .inl ‹_›
      · split at hf
        · exact .inr (.inl ‹_›)
        · split at hf
          · exact .inr (.inr ‹_›)
          · cases hf
  · have hc := firstT_cases x0
    have : firstT x0 = 240 ∨ firstT x0 = 241 := by omega
    rcases this with h | h
    · rw [ascii_eq _ _ _ _ _ h, ascii_eq _ _ _ _ _ h]
    · rw [bad_eq _ _ _ _ _ hx0 h, bad_eq _ _ _ _ _ hx0 h]
def mores : List (List UInt8) := [[128], [128, 128], [128, 128, 128], [191], [191, 128], [191, 128, 128], [144, 128], [144, 128, 128], [160, 128]]
def goesOn (bs m : List UInt8) : Bool := decide (bs.length < (dec (bs ++ m)).2) && decide ((dec (bs ++ m)).2 ≤ (bs ++ m).length)
theorem goesOn_full {bs m : List UInt8} (hf : fullB bs = true) : goesOn bs m = false := by
  unfold goesOn
  rw [dec_ext hf]
  have hn : 0 < bs.length := by
    rcases Nat.eq_zero_or_pos bs.length with h | h
    · unfold fullB fullN at hf; rw [if_pos h] at hf; cases hf
    · exact h
  have := dec_pos hn
  rw [decide_eq_false (by omega)]; rfl
theorem dec_of {bs : List UInt8} (h : 0 < bs.length) : dec bs = decodeN bs.length (xb bs 0) (xb bs 1) (xb bs 2) (xb bs 3) := by unfold dec; rw [if_neg (by omega)]
set_option maxHeartbeats 4000000 in
/-- where bytes do not begin with a whole rune some bytes go on with it -/
theorem goesOn_some {bs : List UInt8} (hn : 0 < bs.length) (hf : fullB bs = false) : ∃ m ∈ mores, goesOn bs m = true := by
  have hlen : bs.length < firstT (xb bs 0) % 8 := by
    unfold fullB fullN at hf
    rw [if_neg (by omega)] at hf
    split at hf
    · cases hf
    · omega
  have hX := firstT_cases (xb bs 0)
  have hlow : firstT (xb bs 0) < 240 := by omega
  have h4 : bs.length < 4 := by omega
  have hlow' := firstT_low hlow
  have key : ∀ m ∈ mores, bs.length + m.length = firstT (xb bs 0) % 8 → (dec (bs ++ m)).2 = firstT (xb bs 0) % 8 → ∃ m ∈ mores, goesOn bs m = true := by
    intro m hm hl hd
    refine ⟨m, hm, ?_⟩
    unfold goesOn
    rw [hd, List.length_append, decide_eq_true (by omega), decide_eq_true (by omega)]
    rfl
  match bs, hn, h4 with
  | [a], _, _ =>
    have e0 : xb [a] 0 = a.toNat := rfl
    rw [e0] at hlen hX hlow hlow' key
    have hd : ∀ m : List UInt8, dec ([a] ++ m) = decodeN (1 + m.length) a.toNat (xb m 0) (xb m 1) (xb m 2) := fun m => by
      rw [dec_of (by simp)]
      simp only [List.length_append, List.length_cons, List.length_nil, Nat.zero_add]
      rfl
    rcases hlow' with h | h | h | h | h | h | h
    · refine key [128] (by decide) (by rw [firstT_C2 h]; simp) ?_
      rw [hd, firstT_C2 h]
      show (decodeN 2 a.toNat 128 0 0).2 = 2
      unfold decodeN
      rw [if_neg (by omega), if_pos ⟨by omega, by omega, by omega⟩, if_pos (by omega)]
    · refine key [160, 128] (by decide) (by rw [firstT_E0 h]; simp) ?_
      rw [hd, firstT_E0 h, h]; rfl
    · refine key [128, 128] (by decide) (by rw [firstT_E1 h]; simp) ?_
      rw [hd, firstT_E1 h]
      show (decodeN 3 a.toNat 128 128 0).2 = 3
      unfold decodeN
      rw [if_neg (by omega), if_neg (by omega), if_pos ⟨by omega, ⟨by omega, by omega⟩, ⟨by omega, by omega⟩⟩, if_pos (by omega)]
    · refine key [128, 128] (by decide) (by rw [firstT_ED h]; simp) ?_
      rw [hd, firstT_ED h, h]; rfl
    · refine key [144, 128, 128] (by decide) (by rw [firstT_F0 h]; simp) ?_
      rw [hd, firstT_F0 h, h]; rfl
    · refine key [128, 128, 128] (by decide) (by rw [firstT_F1 h]; simp) ?_
      rw [hd, firstT_F1 h]
      show (decodeN 4 a.toNat 128 128 128).2 = 4
      unfold decodeN
      rw [if_neg (by omega), if_neg (by omega), if_neg (by omega), if_pos ⟨by omega, ⟨by omega, by omega⟩, ⟨by omega, by omega⟩, ⟨by omega, by omega⟩⟩, if_pos (by omega)]
    · refine key [128, 128, 128] (by decide) (by rw [firstT_F4 h]; simp) ?_
      rw [hd, firstT_F4 h, h]; rfl
  | [a, b], _, _ =>
    have e0 : xb [a, b] 0 = a.toNat := rfl
    have e1 : xb [a, b] 1 = b.toNat := rfl
    rw [e0] at hlen hX hlow hlow' key
    have hb := b.toNat_lt
    have hd : ∀ m : List UInt8, dec ([a, b] ++ m) = decodeN (2 + m.length) a.toNat b.toNat (xb m 0) (xb m 1) := fun m => by
      rw [dec_of (by simp)]
      simp only [List.length_append, List.length_cons, List.length_nil, Nat.zero_add]
      rfl
    have hacc : ¬ (b.toNat < accLo (firstT a.toNat / 16) ∨ accHi (firstT a.toNat / 16) < b.toNat) := fun hh => by
      unfold fullB fullN at hf
      rw [if_neg (by simp), e0, e1] at hf
      simp only [List.length_cons, List.length_nil] at hf hlen
      rw [if_neg (by omega), if_pos ⟨by omega, hh⟩] at hf
      cases hf
    simp only [List.length_cons, List.length_nil] at hlen key
    rcases hlow' with h | h | h | h | h | h | h
    · rw [firstT_C2 h] at hlen; omega
    · rw [firstT_E0 h, show accLo (19 / 16) = 160 from rfl, show accHi (19 / 16) = 191 from rfl] at hacc
      refine key [128] (by decide) (by rw [firstT_E0 h]; simp) ?_
      rw [hd, firstT_E0 h]
      show (decodeN 3 a.toNat b.toNat 128 0).2 = 3
      unfold decodeN
      rw [if_neg (by omega), if_neg (by omega), if_pos ⟨by omega, ⟨by omega, by omega⟩, ⟨by omega, by omega⟩⟩, if_pos (by omega)]
    · rw [firstT_E1 h, show accLo (3 / 16) = 128 from rfl, show accHi (3 / 16) = 191 from rfl] at hacc
      refine key [128] (by decide) (by rw [firstT_E1 h]; simp) ?_
      rw [hd, firstT_E1 h]
      show (decodeN 3 a.toNat b.toNat 128 0).2 = 3
      unfold decodeN
      rw [if_neg (by omega), if_neg (by omega), if_pos ⟨by omega, ⟨by omega, by omega⟩, ⟨by omega, by omega⟩⟩, if_pos (by omega)]
    · rw [firstT_ED h, show accLo (35 / 16) = 128 from rfl, show accHi (35 / 16) = 159 from rfl] at hacc
      refine key [128] (by decide) (by rw [firstT_ED h]; simp) ?_
      rw [hd, firstT_ED h]
      show (decodeN 3 a.toNat b.toNat 128 0).2 = 3
      unfold decodeN
      rw [if_neg (by omega), if_neg (by omega), if_pos ⟨by omega, ⟨by omega, by omega⟩, ⟨by omega, by omega⟩⟩, if_pos (by omega)]
    · rw [firstT_F0 h, show accLo (52 / 16) = 144 from rfl, show accHi (52 / 16) = 191 from rfl] at hacc
      refine key [128, 128] (by decide) (by rw [firstT_F0 h]; simp) ?_
      rw [hd, firstT_F0 h]
      show (decodeN 4 a.toNat b.toNat 128 128).2 = 4
      unfold decodeN
      rw [if_neg (by omega), if_neg (by omega), if_neg (by omega), if_pos ⟨by omega, ⟨by omega, by omega⟩, ⟨by omega, by omega⟩, ⟨by omega, by omega⟩⟩, if_pos (by omega)]
    · rw [firstT_F1 h, show accLo (4 / 16) = 128 from rfl, show accHi (4 / 16) = 191 from rfl] at hacc
      refine key [128, 128] (by decide) (by rw [firstT_F1 h]; simp) ?_
      rw [hd, firstT_F1 h]
      show (decodeN 4 a.toNat b.toNat 128 128).2 = 4
      unfold decodeN
      rw [if_neg (by omega), if_neg (by omega), if_neg (by omega), if_pos ⟨by omega, ⟨by omega, by omega⟩, ⟨by omega, by omega⟩, ⟨by omega, by omega⟩⟩, if_pos (by omega)]
    · rw [firstT_F4 h, show accLo (68 / 16) = 128 from rfl, show accHi (68 / 16) = 143 from rfl] at hacc
      refine key [128, 128] (by decide) (by rw [firstT_F4 h]; simp) ?_
      rw [hd, firstT_F4 h]
      show (decodeN 4 a.toNat b.toNat 128 128).2 = 4
      unfold decodeN
      rw [if_neg (by omega), if_neg (by omega), if_neg (by omega), if_pos ⟨by omega, ⟨by omega, by omega⟩, ⟨by omega, by omega⟩, ⟨by omega, by omega⟩⟩, if_pos (by omega)]
  | [a, b, d], _, _ =>
    have e0 : xb [a, b, d] 0 = a.toNat := rfl
    have e1 : xb [a, b, d] 1 = b.toNat := rfl
    have e2 : xb [a, b, d] 2 = d.toNat := rfl
    rw [e0] at hlen hX hlow hlow' key
    have hb := b.toNat_lt
    have hd' := d.toNat_lt
    have hd : ∀ m : List UInt8, dec ([a, b, d] ++ m) = decodeN (3 + m.length) a.toNat b.toNat d.toNat (xb m 0) := fun m => by
      rw [dec_of (by simp)]
      simp only [List.length_append, List.length_cons, List.length_nil, Nat.zero_add]
      rfl
    have hacc : ¬ (b.toNat < accLo (firstT a.toNat / 16) ∨ accHi (firstT a.toNat / 16) < b.toNat) ∧ ¬ (d.toNat < 128 ∨ 191 < d.toNat) := by
      unfold fullB fullN at hf
      rw [if_neg (by simp), e0, e1, e2] at hf
      simp only [List.length_cons, List.length_nil] at hf hlen
      rw [if_neg (by omega)] at hf
      constructor
      · intro hh; rw [if_pos ⟨by omega, hh⟩] at hf; cases hf
      · intro hh
        split at hf
        · cases hf
        · rw [if_pos ⟨by omega, hh⟩] at hf; cases hf
    simp only [List.length_cons, List.length_nil] at hlen key
    rcases hlow' with h | h | h | h | h | h | h
    · rw [firstT_C2 h] at hlen; omega
    · rw [firstT_E0 h] at hlen; omega
    · rw [firstT_E1 h] at hlen; omega
    · rw [firstT_ED h] at hlen; omega
    · rw [firstT_F0 h, show accLo (52 / 16) = 144 from rfl, show accHi (52 / 16) = 191 from rfl] at hacc
      refine key [128] (by decide) (by rw [firstT_F0 h]; simp) ?_
      rw [hd, firstT_F0 h]
      show (decodeN 4 a.toNat b.toNat d.toNat 128).2 = 4
      unfold decodeN
      rw [if_neg (by omega), if_neg (by omega), if_neg (by omega), if_pos ⟨by omega, ⟨by omega, by omega⟩, ⟨by omega, by omega⟩, ⟨by omega, by omega⟩⟩, if_pos (by omega)]
    · rw [firstT_F1 h, show accLo (4 / 16) = 128 from rfl, show accHi (4 / 16) = 191 from rfl] at hacc
      refine key [128] (by decide) (by rw [firstT_F1 h]; simp) ?_
      rw [hd, firstT_F1 h]
      show (decodeN 4 a.toNat b.toNat d.toNat 128).2 = 4
      unfold decodeN
      rw [if_neg (by omega), if_neg (by omega), if_neg (by omega), if_pos ⟨by omega, ⟨by omega, by omega⟩, ⟨by omega, by omega⟩, ⟨by omega, by omega⟩⟩, if_pos (by omega)]
    · rw [firstT_F4 h, show accLo (68 / 16) = 128 from rfl, show accHi (68 / 16) = 143 from rfl] at hacc
      refine key [128] (by decide) (by rw [firstT_F4 h]; simp) ?_
      rw [hd, firstT_F4 h]
      show (decodeN 4 a.toNat b.toNat d.toNat 128).2 = 4
      unfold decodeN
      rw [if_neg (by omega), if_neg (by omega), if_neg (by omega), if_pos ⟨by omega, ⟨by omega, by omega⟩, ⟨by omega, by omega⟩, ⟨by omega, by omega⟩⟩, if_pos (by omega)]
  | [], h, _ => exact absurd h (by simp)
  | _ :: _ :: _ :: _ :: _, _, h => exact absurd h (by simp only [List.length_cons]; omega)
/-- what spec.Full tells -/
def sfull (bs : List UInt8) : Bool := decide (0 < bs.length) && mores.all fun m => !goesOn bs m
theorem sfull_eq (bs : List UInt8) : sfull bs = fullB bs := by
  unfold sfull
  rcases Nat.eq_zero_or_pos bs.length with h | h
  · rw [decide_eq_false (by omega)]
    unfold fullB fullN
    rw [if_pos h]; rfl
  · rw [decide_eq_true h, Bool.true_and]
    cases hf : fullB bs with
    | true => rw [List.all_eq_true]; intro m _; rw [goesOn_full hf]; rfl
    | false =>
      obtain ⟨m, hm, hg⟩ := goesOn_some h hf
      rw [Bool.eq_false_iff]
      intro hh
      have := (List.all_eq_true.1 hh) m hm
      rw [hg] at this; cases this
/-- a rune of more than a byte is whole -/
theorem full_wide {bs : List UInt8} (h : 0 < bs.length) (hw : xb bs 0 < 128 ∨ 1 < (dec bs).2) : fullB bs = true := by
  unfold fullB fullN
  rw [if_neg (by omega), if_pos]
  rcases dec_ways h with ⟨h1, h2⟩ | h1 | ⟨h1, h2⟩
  · have : firstT (xb bs 0) = 240 := by unfold firstT; rw [if_pos h1]
    rw [this]; omega
  · omega
  · rw [h2] at hw
    rcases hw with hw | hw
    · omega
    · exact absurd hw (by show ¬ 1 < 1; omega)
end Go.Proofs.YtgbbogocfmepiaaDoor
