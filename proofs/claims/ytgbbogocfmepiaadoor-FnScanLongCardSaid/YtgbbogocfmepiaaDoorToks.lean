/- Tokens, in plain lists: what a split tells of the beginning of bytes holds of them all. -/
import Derived.Test.YtgbbogocfmepiaaDoorScanW
namespace Go.Proofs.YtgbbogocfmepiaaDoor
open Go.RowKit Go.Lib
/-- a way of splitting -/
def spl (k : Nat) (bs : List UInt8) (fin : Bool) : Nat × Option (List UInt8) :=
  if k = 0 then splitBytes bs fin else if k = 1 then splitRunes bs fin else if k = 2 then splitWords bs fin else splitLines bs fin
/-- the tokens of bytes -/
def toks (k : Nat) : Nat → List UInt8 → List (List UInt8)
  | 0, _ => []
  | f + 1, bs => if bs = [] then [] else match spl k bs true with
    | (n, some t) => t :: toks k f (bs.drop n)
    | (_, none) => []
/-! ### words -/
theorem acc_range {i : Nat} (h : i ≤ 4) : 128 ≤ accLo i ∧ accHi i ≤ 191 := by
  have : i = 0 ∨ i = 1 ∨ i = 2 ∨ i = 3 ∨ i = 4 := by omega
  rcases this with rfl | rfl | rfl | rfl | rfl <;> (unfold accLo accHi; decide)
theorem firstT_194 {b : Nat} (h : firstT b < 240) : 194 ≤ b := by
  unfold firstT at h
  split at h
  · omega
  · split at h
    · omega
    · omega
theorem firstT_bad {b : Nat} (h1 : 128 ≤ b) (h2 : b ≤ 191) : firstT b = 241 := by
  unfold firstT
  rw [if_neg (by omega), if_pos (by omega)]
/-- bytes that do not begin with a whole rune have no space -/
theorem notfull_ways {bs : List UInt8} (hn : bs ≠ []) (hf : fullB bs = false) : dec bs = (65533, 1) ∧ 194 ≤ xb bs 0 ∧ bs.length ≤ 3 ∧ ∀ i, 1 ≤ i → i < bs.length → 128 ≤ xb bs i ∧ xb bs i ≤ 191 := by
  have hl : 0 < bs.length := List.length_pos_iff.2 hn
  have h1 : ¬ (xb bs 0 < 128 ∨ 1 < (dec bs).2) := fun h => by rw [full_wide hl h] at hf; cases hf
  have h0 := xb_lt bs 0
  have hd : dec bs = (65533, 1) := by
    rcases dec_ways hl with ⟨h2, _⟩ | h2 | ⟨_, h2⟩
    · exact absurd (.inl h2) h1
    · exact absurd (.inr (by omega)) h1
    · exact h2
  unfold fullB fullN at hf
  rw [if_neg (by omega)] at hf
  split at hf
  · cases hf
  · rename_i g1
    split at hf
    · cases hf
    · rename_i g2
      split at hf
      · cases hf
      · rename_i g3
        have hX := firstT_cases (xb bs 0)
        have hlow : firstT (xb bs 0) < 240 := by omega
        have hA := acc_range (i := firstT (xb bs 0) / 16) (by omega)
        refine ⟨hd, firstT_194 hlow, by omega, fun i h2 h3 => ?_⟩
        have : i = 1 ∨ i = 2 := by omega
        rcases this with rfl | rfl
        · omega
        · omega
theorem cont_ways {bs : List UInt8} (hn : bs ≠ []) (h : 128 ≤ xb bs 0 ∧ xb bs 0 ≤ 191) : dec bs = (65533, 1) := by
  have hl : 0 < bs.length := List.length_pos_iff.2 hn
  rw [dec_of hl]
  exact bad_eq _ _ _ _ _ (by omega) (firstT_bad h.1 h.2)
theorem xb_drop (bs : List UInt8) (j i : Nat) : xb (bs.drop j) i = xb bs (j + i) := by
  unfold xb
  rw [List.getD_eq_getElem?_getD, List.getD_eq_getElem?_getD, List.getElem?_drop]
theorem isSp_bad : isSp ((65533 : Nat) : Int) = false := by decide
/-- bytes that go on a rune alone are no word's end -/
theorem conts_noword : ∀ (f : Nat) (bs : List UInt8), (∀ i, i < bs.length → 128 ≤ xb bs i ∧ xb bs i ≤ 191) → wordE f bs = none
  | 0, _, _ => rfl
  | f + 1, bs, h => by
    unfold wordE
    split
    · rfl
    · rename_i hb
      have hl : 0 < bs.length := List.length_pos_iff.2 hb
      rw [cont_ways hb (h 0 hl)]
      simp only [isSp_bad]
      rw [conts_noword f (bs.drop 1) (fun i hi => by rw [xb_drop]; rw [List.length_drop] at hi; exact h _ (by omega))]
      rfl
theorem notfull_noword {bs : List UInt8} (hf : fullB bs = false) (f : Nat) : wordE f bs = none := by
  cases f with
  | zero => rfl
  | succ f =>
    unfold wordE
    split
    · rfl
    · rename_i hb
      obtain ⟨h1, _, _, h3⟩ := notfull_ways hb hf
      rw [h1]
      simp only [isSp_bad]
      rw [conts_noword f (bs.drop 1) (fun i hi => by rw [xb_drop]; rw [List.length_drop] at hi; exact h3 _ (by omega) (by omega))]
      rfl
theorem space_full {bs : List UInt8} (hb : bs ≠ []) (h : isSp ((dec bs).1 : Int) = true) : fullB bs = true := by
  cases hf : fullB bs with
  | true => rfl
  | false =>
    rw [(notfull_ways hb hf).1] at h
    rw [isSp_bad] at h
    cases h
theorem drop_app {bs q : List UInt8} {k : Nat} (h : k ≤ bs.length) : (bs ++ q).drop k = bs.drop k ++ q := List.drop_append_of_le_length h
/-- a word's end stays, whatever follows -/
theorem wordE_ext : ∀ (f : Nat) (bs q : List UInt8) (x : Nat × Nat) (f' : Nat), wordE f bs = some x → f ≤ f' → wordE f' (bs ++ q) = some x
  | 0, _, _, _, _, h, _ => by cases h
  | f + 1, bs, q, x, f', h, hf' => by
    obtain ⟨g, rfl⟩ : ∃ g, f' = g + 1 := ⟨f' - 1, by omega⟩
    have hfull : fullB bs = true := by
      cases hf : fullB bs with
      | true => rfl
      | false => rw [notfull_noword hf] at h; cases h
    unfold wordE at h ⊢
    split at h
    · cases h
    · rename_i hb
      have hp := dec_pos' hb
      rw [if_neg (by simp [hb]), dec_ext hfull]
      split at h
      · rename_i hs; rw [if_pos hs]; exact h
      · rename_i hs
        rw [if_neg hs]
        obtain ⟨y, hy, rfl⟩ := Option.map_eq_some_iff.1 h
        rw [drop_app hp.2, wordE_ext f _ q y g hy (by omega)]
        rfl
/-- enough is enough -/
theorem wordE_fuel : ∀ (f : Nat) (bs : List UInt8) (f' : Nat), bs.length ≤ f → bs.length ≤ f' → wordE f bs = wordE f' bs
  | 0, bs, f', h, _ => by
    have : bs = [] := List.eq_nil_of_length_eq_zero (by omega)
    subst this
    cases f' <;> simp [wordE]
  | f + 1, bs, f', h, h' => by
    by_cases hb : bs = []
    · subst hb; cases f' <;> simp [wordE]
    · have hp := dec_pos' hb
      obtain ⟨g, rfl⟩ : ∃ g, f' = g + 1 := ⟨f' - 1, by omega⟩
      unfold wordE
      rw [if_neg hb, if_neg hb, wordE_fuel f (bs.drop (dec bs).2) g (by rw [List.length_drop]; omega) (by rw [List.length_drop]; omega)]
theorem lead_fuel : ∀ (f : Nat) (bs : List UInt8) (f' : Nat), bs.length ≤ f → bs.length ≤ f' → lead f bs = lead f' bs
  | 0, bs, f', h, _ => by
    have : bs = [] := List.eq_nil_of_length_eq_zero (by omega)
    subst this
    cases f' <;> simp [lead]
  | f + 1, bs, f', h, h' => by
    by_cases hb : bs = []
    · subst hb; cases f' <;> simp [lead]
    · have hp := dec_pos' hb
      obtain ⟨g, rfl⟩ : ∃ g, f' = g + 1 := ⟨f' - 1, by omega⟩
      unfold lead
      rw [if_neg hb, if_neg hb, lead_fuel f (bs.drop (dec bs).2) g (by rw [List.length_drop]; omega) (by rw [List.length_drop]; omega)]
/-- the spaces ahead stay, where a word's end is -/
theorem lead_ext : ∀ (f : Nat) (bs q : List UInt8) (g : Nat) (x : Nat × Nat) (f' : Nat), bs.length ≤ f → wordE g (bs.drop (lead f bs)) = some x → f ≤ f' → lead f' (bs ++ q) = lead f bs
  | 0, bs, q, g, x, f', hl, h, _ => by
    have : bs = [] := List.eq_nil_of_length_eq_zero (by omega)
    subst this
    cases g <;> simp [wordE] at h
  | f + 1, bs, q, g, x, f', hl, h, hf' => by
    obtain ⟨f2, rfl⟩ : ∃ g, f' = g + 1 := ⟨f' - 1, by omega⟩
    by_cases hb : bs = []
    · subst hb; cases g <;> simp [wordE] at h
    · have hp := dec_pos' hb
      unfold lead at h ⊢
      rw [if_neg hb] at h ⊢
      rw [if_neg (by simp [hb])]
      by_cases hs : isSp ((dec bs).1 : Int) = true
      · rw [if_pos hs, ← List.drop_drop] at h
        rw [dec_ext (space_full hb hs), if_pos hs, if_pos hs, drop_app hp.2]
        rw [lead_ext f (bs.drop (dec bs).2) q g x f2 (by rw [List.length_drop]; omega) h (by omega)]
      · rw [if_neg hs, List.drop_zero] at h
        have hfull : fullB bs = true := by
          cases hf : fullB bs with
          | true => rfl
          | false => rw [notfull_noword hf] at h; cases h
        rw [dec_ext hfull, if_neg hs, if_neg hs]
theorem words_ext {p q : List UInt8} {n : Nat} {t : List UInt8} (h : splitWords p false = (n, some t)) : splitWords (p ++ q) true = (n, some t) := by
  have hld := lead_le p.length p
  unfold splitWords at h
  split at h
  · rename_i e m he
    have h1 := lead_ext p.length p q _ _ (p ++ q).length (Nat.le_refl _) he (by simp)
    have h2 := wordE_ext _ _ q _ (p ++ q).length he (by simp)
    have h3 := (wordE_le _ _ _ he).1
    unfold splitWords
    rw [h1, drop_app hld, h2]
    simp only
    rw [← h, List.take_append_of_le_length (by show e ≤ _; have h3 : e + m ≤ _ := h3; omega)]
  · simp only [false_and, if_false, Bool.false_eq_true] at h
    cases h
theorem words_space {bs : List UInt8} (hb : bs ≠ []) (hs : isSp ((dec bs).1 : Int) = true) : splitWords bs true = ((dec bs).2 + (splitWords (bs.drop (dec bs).2) true).1, (splitWords (bs.drop (dec bs).2) true).2) := by
  have hp := dec_pos' hb
  obtain ⟨m, hm⟩ : ∃ m, bs.length = m + 1 := ⟨bs.length - 1, by omega⟩
  have h1 : lead bs.length bs = (dec bs).2 + lead (bs.drop (dec bs).2).length (bs.drop (dec bs).2) := by
    rw [hm]
    show lead (m + 1) bs = _
    rw [lead, if_neg hb, if_pos hs, lead_fuel m _ (bs.drop (dec bs).2).length (by rw [List.length_drop]; omega) (Nat.le_refl _)]
  have hl := lead_le (bs.drop (dec bs).2).length (bs.drop (dec bs).2)
  have h2 : wordE bs.length (bs.drop (lead bs.length bs)) = wordE (bs.drop (dec bs).2).length ((bs.drop (dec bs).2).drop (lead (bs.drop (dec bs).2).length (bs.drop (dec bs).2))) := by
    rw [h1, ← List.drop_drop]
    exact wordE_fuel _ _ _ (by rw [List.length_drop, List.length_drop]; omega) (by rw [List.length_drop]; omega)
  have h3 : (bs.drop (dec bs).2).length = bs.length - (dec bs).2 := List.length_drop
  unfold splitWords
  rw [h2]
  cases wordE (bs.drop (dec bs).2).length ((bs.drop (dec bs).2).drop (lead (bs.drop (dec bs).2).length (bs.drop (dec bs).2))) with
  | some x =>
    obtain ⟨e, n⟩ := x
    simp only
    rw [h1, ← List.drop_drop]
    simp only [Prod.mk.injEq, and_true]
    omega
  | none =>
    simp only
    by_cases hc : lead (bs.drop (dec bs).2).length (bs.drop (dec bs).2) < (bs.drop (dec bs).2).length
    · rw [if_pos ⟨trivial, by rw [h1]; omega⟩, if_pos ⟨trivial, hc⟩, h1, ← List.drop_drop]
      simp only [Prod.mk.injEq, and_true]
      omega
    · rw [if_neg (fun hh => hc (by have := hh.2; rw [h1] at this; omega)), if_neg (fun hh => hc hh.2), h1]
/-! ### all ways -/
theorem spl_pos {k : Nat} {bs : List UInt8} {n : Nat} {t : List UInt8} (hb : bs ≠ []) {fin : Bool} (h : spl k bs fin = (n, some t)) : 1 ≤ n ∧ n ≤ bs.length := by
  have hl : 0 < bs.length := List.length_pos_iff.2 hb
  have hp := dec_pos' hb
  unfold spl at h
  split at h
  · unfold splitBytes at h
    rw [if_neg (fun hh => hb hh.2)] at h
    simp only [Prod.mk.injEq] at h
    omega
  · split at h
    · unfold splitRunes at h
      rw [if_neg hb] at h
      repeat' split at h
      all_goals simp only [Prod.mk.injEq, reduceCtorEq, and_false] at h
      all_goals omega
    · split at h
      · unfold splitWords at h
        have hld := lead_le bs.length bs
        split at h
        · rename_i e m he
          have h3 := wordE_le _ _ _ he
          rw [List.length_drop] at h3
          simp only [Prod.mk.injEq] at h
          have : e + m ≤ bs.length - lead bs.length bs ∧ 1 ≤ m := h3
          omega
        · split at h
          · simp only [Prod.mk.injEq] at h; omega
          · simp only [Prod.mk.injEq, reduceCtorEq, and_false] at h
      · unfold splitLines at h
        rw [if_neg (fun hh => hb hh.2)] at h
        split at h
        · rename_i i hi
          have := pos_lt hi
          simp only [Prod.mk.injEq] at h
          omega
        · split at h
          · simp only [Prod.mk.injEq] at h; omega
          · simp only [Prod.mk.injEq, reduceCtorEq, and_false] at h
theorem spl_le (k : Nat) (bs : List UInt8) (fin : Bool) (hb : bs ≠ [] ∨ fin = true) : (spl k bs fin).1 ≤ bs.length := by
  by_cases hn : bs = []
  · subst hn
    obtain rfl := hb.resolve_left (fun h => h rfl)
    unfold spl
    split
    · exact Nat.le_refl _
    · split
      · exact Nat.le_refl _
      · split
        · exact Nat.le_refl _
        · exact Nat.le_refl _
  · obtain ⟨x, hx⟩ : ∃ x, spl k bs fin = x := ⟨_, rfl⟩
    obtain ⟨n, t⟩ := x
    rw [hx]
    cases t with
    | some t => exact (spl_pos hn hx).2
    | none =>
      unfold spl at hx
      split at hx
      · unfold splitBytes at hx; rw [if_neg (fun hh => hn hh.2)] at hx; simp only [Prod.mk.injEq, reduceCtorEq, and_false] at hx
      · split at hx
        · unfold splitRunes at hx
          rw [if_neg hn] at hx
          repeat' split at hx
          all_goals simp only [Prod.mk.injEq, reduceCtorEq, and_false, and_true] at hx
          all_goals (show n ≤ _; omega)
        · split at hx
          · unfold splitWords at hx
            have hld := lead_le bs.length bs
            split at hx
            · simp only [Prod.mk.injEq, reduceCtorEq, and_false] at hx
            · split at hx
              · simp only [Prod.mk.injEq, reduceCtorEq, and_false] at hx
              · simp only [Prod.mk.injEq, and_true] at hx; show n ≤ _; omega
          · unfold splitLines at hx
            rw [if_neg (fun hh => hn hh.2)] at hx
            split at hx
            · simp only [Prod.mk.injEq, reduceCtorEq, and_false] at hx
            · split at hx
              · simp only [Prod.mk.injEq, reduceCtorEq, and_false] at hx
              · simp only [Prod.mk.injEq, and_true] at hx; show n ≤ _; omega
/-- what it tells of the beginning holds of all -/
theorem spl_ext {k : Nat} {p q : List UInt8} {n : Nat} {t : List UInt8} (hp : p ≠ []) (h : spl k p false = (n, some t)) : spl k (p ++ q) true = (n, some t) := by
  have hl : 0 < p.length := List.length_pos_iff.2 hp
  have hpq : p ++ q ≠ [] := by simp [hp]
  unfold spl at h ⊢
  split
  · rename_i hk
    rw [if_pos hk] at h
    unfold splitBytes at h ⊢
    rw [if_neg (fun hh => hp hh.2)] at h
    rw [if_neg (fun hh => hpq hh.2), List.take_append_of_le_length (by omega)]
    exact h
  · rename_i hk
    rw [if_neg hk] at h
    split
    · rename_i hk
      rw [if_pos hk] at h
      unfold splitRunes at h ⊢
      rw [if_neg hp] at h
      rw [if_neg hpq, xb_app_lt hl]
      split at h
      · rename_i h1; rw [if_pos h1, List.take_append_of_le_length (by omega)]; exact h
      · rename_i h1
        rw [if_neg h1]
        split at h
        · rename_i h2
          rw [dec_ext (full_wide hl (.inr h2)), if_pos h2, List.take_append_of_le_length (dec_pos' hp).2]; exact h
        · rename_i h2
          split at h
          · simp only [Prod.mk.injEq, reduceCtorEq, and_false] at h
          · rename_i h3
            have hf : fullB p = true := by simpa using h3
            rw [dec_ext hf, if_neg h2, if_neg (by simp)]; exact h
    · rename_i hk
      rw [if_neg hk] at h
      split
      · rename_i hk
        rw [if_pos hk] at h
        exact words_ext h
      · rename_i hk
        rw [if_neg hk] at h
        unfold splitLines at h ⊢
        rw [if_neg (fun hh => hp hh.2)] at h
        rw [if_neg (fun hh => hpq hh.2)]
        split at h
        · rename_i i hi
          rw [pos_some_append hi]
          simp only
          rw [List.take_append_of_le_length (by have := pos_lt hi; omega)]; exact h
        · simp only [Bool.false_eq_true, if_false, Prod.mk.injEq, reduceCtorEq, and_false] at h
theorem toks_fuel {k : Nat} : ∀ (f : Nat) (bs : List UInt8) (f' : Nat), bs.length ≤ f → bs.length ≤ f' → toks k f bs = toks k f' bs
  | 0, bs, f', h, _ => by
    have : bs = [] := List.eq_nil_of_length_eq_zero (by omega)
    subst this
    cases f' <;> simp [toks]
  | f + 1, bs, f', h, h' => by
    by_cases hb : bs = []
    · subst hb; cases f' <;> simp [toks]
    · have hl : 0 < bs.length := List.length_pos_iff.2 hb
      obtain ⟨g, rfl⟩ : ∃ g, f' = g + 1 := ⟨f' - 1, by omega⟩
      unfold toks
      rw [if_neg hb, if_neg hb]
      obtain ⟨x, hx⟩ : ∃ x, spl k bs true = x := ⟨_, rfl⟩
      obtain ⟨n, t⟩ := x
      rw [hx]
      cases t with
      | none => rfl
      | some t =>
        have := spl_pos hb hx
        simp only
        rw [toks_fuel f (bs.drop n) g (by rw [List.length_drop]; omega) (by rw [List.length_drop]; omega)]
/-- the tokens -/
def tokens (k : Nat) (bs : List UInt8) : List (List UInt8) := toks k bs.length bs
theorem tokens_nil (k : Nat) : tokens k [] = [] := rfl
theorem tokens_some {k : Nat} {bs : List UInt8} {n : Nat} {t : List UInt8} (hb : bs ≠ []) (h : spl k bs true = (n, some t)) : tokens k bs = t :: tokens k (bs.drop n) := by
  have hl : 0 < bs.length := List.length_pos_iff.2 hb
  obtain ⟨m, hm⟩ : ∃ m, bs.length = m + 1 := ⟨bs.length - 1, by omega⟩
  have hp := spl_pos hb h
  unfold tokens
  rw [hm, toks, if_neg hb, h]
  simp only
  rw [toks_fuel m (bs.drop n) _ (by rw [List.length_drop]; omega) (Nat.le_refl _)]
theorem tokens_none {k : Nat} {bs : List UInt8} {n : Nat} (h : spl k bs true = (n, none)) : tokens k bs = [] := by
  unfold tokens
  cases bs.length with
  | zero => rfl
  | succ m =>
    rw [toks]
    split
    · rfl
    · rw [h]
/-- what is gone over without a token is none -/
theorem tokens_skip2 (q : List UInt8) : ∀ (f : Nat) (p : List UInt8), p.length ≤ f → tokens 2 (p ++ q) = tokens 2 (p.drop (lead f p) ++ q)
  | 0, p, h => by simp [lead]
  | f + 1, p, h => by
    by_cases hp : p = []
    · subst hp; simp [lead]
    · have hq := dec_pos' hp
      unfold lead
      rw [if_neg hp]
      by_cases hs : isSp ((dec p).1 : Int) = true
      · have hd := dec_ext (m := q) (space_full hp hs)
        have hpq : p ++ q ≠ [] := by simp [hp]
        have hw := words_space hpq (by rw [hd]; exact hs)
        rw [hd, drop_app hq.2] at hw
        rw [if_pos hs, ← List.drop_drop, ← tokens_skip2 q f (p.drop (dec p).2) (by rw [List.length_drop]; omega)]
        obtain ⟨x, hx⟩ : ∃ x, splitWords (p.drop (dec p).2 ++ q) true = x := ⟨_, rfl⟩
        obtain ⟨n, t⟩ := x
        rw [hx] at hw
        cases t with
        | none => rw [tokens_none (k := 2) hw, tokens_none (k := 2) hx]
        | some t =>
          have hne : p.drop (dec p).2 ++ q ≠ [] := fun hh => by
            rw [hh] at hx
            have : splitWords [] true = (0, none) := rfl
            rw [this] at hx; cases hx
          rw [tokens_some (k := 2) hpq hw, tokens_some (k := 2) hne hx]
          simp only
          rw [← List.drop_drop, drop_app hq.2]
      · rw [if_neg hs, List.drop_zero]
theorem spl_skip {k : Nat} {p q : List UInt8} {n : Nat} (hp : p ≠ []) (h : spl k p false = (n, none)) : tokens k (p ++ q) = tokens k (p.drop n ++ q) := by
  by_cases h2 : k = 2
  · subst h2
    have h : splitWords p false = (n, none) := h
    unfold splitWords at h
    split at h
    · simp only [Prod.mk.injEq, reduceCtorEq, and_false] at h
    · simp only [false_and, if_false, Bool.false_eq_true, Prod.mk.injEq, and_true] at h
      rw [← h]
      exact tokens_skip2 q p.length p (Nat.le_refl _)
  · have : n = 0 := by
      unfold spl at h
      split at h
      · unfold splitBytes at h; rw [if_neg (fun hh => hp hh.2)] at h; simp only [Prod.mk.injEq, reduceCtorEq, and_false] at h
      · split at h
        · unfold splitRunes at h
          rw [if_neg hp] at h
          repeat' split at h
          all_goals simp only [Prod.mk.injEq, reduceCtorEq, and_false, and_true] at h
          all_goals omega
        · unfold splitLines at h
          rw [if_neg (fun hh => hp hh.2)] at h
          split at h
          · simp only [Prod.mk.injEq, reduceCtorEq, and_false] at h
          · simp only [Bool.false_eq_true, if_false, Prod.mk.injEq, and_true] at h; omega
    subst this
    rw [List.drop_zero]
/-- a line that is not at its end -/
theorem lines_none {p : List UInt8} {n : Nat} (hp : p ≠ []) (h : spl 3 p false = (n, none)) : n = 0 ∧ pos 10 p = none := by
  have h : splitLines p false = (n, none) := h
  unfold splitLines at h
  rw [if_neg (fun hh => hp hh.2)] at h
  split at h
  · simp only [Prod.mk.injEq, reduceCtorEq, and_false] at h
  · rename_i hh
    simp only [Bool.false_eq_true, if_false, Prod.mk.injEq, and_true] at h
    exact ⟨h.symm, hh⟩
end Go.Proofs.YtgbbogocfmepiaaDoor
