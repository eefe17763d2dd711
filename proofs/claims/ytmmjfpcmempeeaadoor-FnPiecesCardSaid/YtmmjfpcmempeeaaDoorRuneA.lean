/- ReadRune, abstractly. -/
import Derived.Test.YtmmjfpcmempeeaaDoorM2
import Derived.Test.YtmmjfpcmempeeaaDoorUtfPure
namespace Go.Proofs.YtmmjfpcmempeeaaDoor
open Go.RowKit Go.Lib
theorem full_four {bs : List UInt8} (h : 4 ≤ bs.length) : fullB bs = true := by
  unfold fullB fullN
  have := firstT_cases (xb bs 0)
  rw [if_neg (by omega), if_pos (by omega)]
theorem full_ext {bs m : List UInt8} (hf : fullB bs = true) : fullB (bs ++ m) = true := by
  have hn : 0 < bs.length := by
    rcases Nat.eq_zero_or_pos bs.length with h | h
    · unfold fullB fullN at hf; rw [if_pos h] at hf; cases hf
    · exact h
  have hl : (bs ++ m).length = bs.length + m.length := List.length_append
  unfold fullB fullN at hf ⊢
  rw [if_neg (by omega)] at hf
  rw [if_neg (by omega), xb_app_lt hn]
  by_cases h1 : firstT (xb bs 0) % 8 ≤ (bs ++ m).length
  · rw [if_pos h1]
  · rw [if_neg h1]
    rw [if_neg (by omega)] at hf
    by_cases h2 : 1 < bs.length ∧ (xb bs 1 < accLo (firstT (xb bs 0) / 16) ∨ accHi (firstT (xb bs 0) / 16) < xb bs 1)
    · rw [xb_app_lt h2.1, if_pos ⟨by omega, h2.2⟩]
    · rw [if_neg h2] at hf
      by_cases h3 : 2 < bs.length ∧ (xb bs 2 < 128 ∨ 191 < xb bs 2)
      · rw [xb_app_lt (i := 1) (by omega), if_neg (fun h => h2 ⟨by omega, h.2⟩), xb_app_lt h3.1, if_pos ⟨by omega, h3.2⟩]
      · rw [if_neg h3] at hf; cases hf
def runeA (A : AR) : ((Nat × Nat) × Option Err) × AR :=
  if A.left.length = 0 then (((0, 0), some (endErr A.f)), { A with rune := -1, err := false })
  else ((((dec A.left).1, (dec A.left).2), none), { A with left := A.left.drop (dec A.left).2, last := (xb A.left ((dec A.left).2 - 1) : Int), rune := ((dec A.left).2 : Int), err := A.err || !fullB A.left, back := some (A.left.take (dec A.left).2) })
def runeC (l : List UInt8) : Prop := fullB l = false
def RunePost (S : Err → Addr) (w : World) (L : Loc) (x : ((Nat × Nat) × Option Err) × AR) (v : Value) (w' : World) : Prop :=
  ∃ st', v = .tuple #[.int .i32 (x.1.1.1 : Int), .int .i64 (x.1.1.2 : Int), eV S x.1.2] ∧ Rd S w' L st' ∧ Upd (In L) w w' ∧ Abs st' x.2
/-- the end: nothing is left -/
theorem rune_end {S : Err → Addr} {w wr wx : World} {L : Loc} {st st1 st' : RS} {A : AR} {v : Value} (hA : Abs st A) (hF : Fld runeC st st1) (hR : Rd S wr L st1) (he : st1.err ≠ none) (hle : st1.w ≤ st1.r)
    (hv : v = .tuple #[.int .i32 0, .int .i64 0, eV S st1.err]) (hst : st' = { st1 with rune := -1, err := none }) (hRx : Rd S wx L st') (hU : Upd (In L) w wx) : RunePost S w L (runeA A) v wx := by
  subst hst; subst hv
  obtain ⟨q1, q2⟩ := hR.ended he
  have hrem : rem st1 = A.left := hF.rem.trans hA.left
  have hl : A.left = [] := by rw [← hrem, rem_end q1]; exact bufd_nil hle
  have hrw := hR.rw
  have e : runeA A = (((0, 0), some (endErr A.f)), { A with rune := -1, err := false }) := if_pos (by rw [hl]; rfl)
  rw [e, q2, hF.f, hA.f]
  refine ⟨_, rfl, hRx, hU, ?_⟩
  exact {
    left := hrem
    size := hF.n.trans hA.size
    f := hF.f.trans hA.f
    err := rfl
    last := hF.last.trans hA.last
    rune := rfl
    pos := fun h => by
      rcases hF.pos with h1 | h1
      · subst h1
        have h2 : 0 ≤ st1.last := h
        exact hA.pos h2
      · right
        show st1.w = 0
        omega
    nz := by show (-1 : Int) ≠ 0; omega
    back := fun h => (by have h : (0 : Int) ≤ -1 := h; omega) }
theorem prev_bufd {st : RS} {k : Nat} (h : k ≤ st.w - st.r) : (bufd st).take k = (st.buf.take (st.r + k)).drop st.r := by
  unfold bufd
  rw [List.drop_take, List.drop_take, List.take_take]
  congr 1
  omega
/-- a rune is read -/
theorem rune_some {S : Err → Addr} {w wr wx : World} {L : Loc} {st st1 st' : RS} {A : AR} {v : Value} (hA : Abs st A) (hF : Fld runeC st st1) (hR : Rd S wr L st1) (hlt : st1.r < st1.w) (hful : fullB (bufd st1) = true ∨ st1.err ≠ none)
    (hv : v = .tuple #[.int .i32 ((dec (bufd st1)).1 : Int), .int .i64 ((dec (bufd st1)).2 : Int), .nilIface]) (hst : st' = { st1 with r := st1.r + (dec (bufd st1)).2, last := (xb (bufd st1) ((dec (bufd st1)).2 - 1) : Int), rune := ((dec (bufd st1)).2 : Int) }) (hRx : Rd S wx L st') (hU : Upd (In L) w wx) : RunePost S w L (runeA A) v wx := by
  subst hst; subst hv
  have hwn := hR.wn
  have hbl := bufd_length (st := st1) hwn
  have hrem : rem st1 = A.left := hF.rem.trans hA.left
  have hpos := dec_pos (bs := bufd st1) (by omega)
  obtain ⟨t, ht⟩ : ∃ t, A.left = bufd st1 ++ t := ⟨st1.ps.flatten, hrem.symm⟩
  have hd : dec A.left = dec (bufd st1) := by
    rcases hful with h | h
    · rw [ht, dec_ext h]
    · rw [← hrem, rem_end (hR.ended h).1]
  have hlen : 0 < A.left.length := by rw [ht, List.length_append]; omega
  have e : runeA A = ((((dec A.left).1, (dec A.left).2), none), { A with left := A.left.drop (dec A.left).2, last := (xb A.left ((dec A.left).2 - 1) : Int), rune := ((dec A.left).2 : Int), err := A.err || !fullB A.left, back := some (A.left.take (dec A.left).2) }) := if_neg (by omega)
  rw [e, hd]
  refine ⟨_, rfl, hRx, hU, ?_⟩
  have hx : xb A.left ((dec (bufd st1)).2 - 1) = xb (bufd st1) ((dec (bufd st1)).2 - 1) := by rw [ht]; exact xb_app_lt (by omega)
  exact {
    left := by
      show rem { st1 with r := st1.r + (dec (bufd st1)).2 } = _
      rw [rem_drop (by omega), hrem]
    size := hF.n.trans hA.size
    f := hF.f.trans hA.f
    err := by
      show st1.err = if (A.err || !fullB A.left) then some (endErr A.f) else none
      cases hAe : A.err with
      | true =>
        have h1 : st.err ≠ none := by rw [hA.err, hAe]; simp
        rw [hF.stay h1, hA.err, hAe]; rfl
      | false =>
        have h1 : st.err = none := hA.endIff.2 hAe
        rw [Bool.false_or]
        rcases hF.err with h | ⟨h, hC, _⟩
        · rw [h, h1]
          rcases hful with h2 | h2
          · rw [ht, full_ext h2]; rfl
          · exact absurd (h.trans h1) h2
        · have hC : fullB (rem st) = false := hC
          rw [hA.left] at hC
          rw [h, hC, hA.f]; rfl
    last := by show (xb (bufd st1) _ : Int) = _; rw [← hx]
    rune := rfl
    pos := fun _ => .inl (by show 0 < st1.r + (dec (bufd st1)).2; omega)
    nz := by show ((dec (bufd st1)).2 : Int) ≠ 0; omega
    back := fun _ => by
      show some (A.left.take (dec (bufd st1)).2) = if ((dec (bufd st1)).2 : Int) ≤ ((st1.r + (dec (bufd st1)).2 : Nat) : Int) then some (prev _ ((dec (bufd st1)).2 : Int).toNat) else none
      rw [if_pos (by omega), Int.toNat_natCast]
      congr 1
      unfold prev
      show _ = (st1.buf.take (st1.r + (dec (bufd st1)).2)).drop (st1.r + (dec (bufd st1)).2 - (dec (bufd st1)).2)
      rw [Nat.add_sub_cancel, ht, List.take_append_of_le_length (by omega)]
      exact prev_bufd (by omega) }
end Go.Proofs.YtmmjfpcmempeeaaDoor
