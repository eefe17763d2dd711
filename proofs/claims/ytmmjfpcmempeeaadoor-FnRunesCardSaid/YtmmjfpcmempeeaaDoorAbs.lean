/- A buffered reader, abstractly: what is left, the error that waits, what can be taken back; and what filling leaves. -/
import Derived.Test.YtmmjfpcmempeeaaDoorByte
namespace Go.Proofs.YtmmjfpcmempeeaaDoor
open Go.RowKit
structure AR where
  left : List UInt8
  size : Nat
  f : Bool
  err : Bool
  last : Int
  rune : Int
  back : Option (List UInt8)
/-- the k bytes ahead of where reading stands -/
def prev (st : RS) (k : Nat) : List UInt8 := (st.buf.take st.r).drop (st.r - k)
structure Abs (st : RS) (A : AR) : Prop where
  left : rem st = A.left
  size : st.buf.length = A.size
  f : st.f = A.f
  err : st.err = if A.err then some (endErr A.f) else none
  last : st.last = A.last
  rune : st.rune = A.rune
  pos : 0 ≤ st.last → 0 < st.r ∨ st.w = 0
  nz : st.rune ≠ 0
  back : 0 ≤ st.rune → A.back = if st.rune ≤ (st.r : Int) then some (prev st st.rune.toNat) else none
/-- filled a number of times: at the end C is said of what is left -/
structure Fld (C : List UInt8 → Prop) (st st1 : RS) : Prop where
  rem : rem st1 = rem st
  n : st1.buf.length = st.buf.length
  last : st1.last = st.last
  rune : st1.rune = st.rune
  f : st1.f = st.f
  err : st1.err = st.err ∨ (st1.err = some (endErr st.f) ∧ C (Go.Proofs.YtmmjfpcmempeeaaDoor.rem st) ∧ st1.ps = [])
  pos : st1 = st ∨ st1.r = 0
  stay : st.err ≠ none → st1 = st
theorem Fld.refl (C : List UInt8 → Prop) (st : RS) : Fld C st st := ⟨rfl, rfl, rfl, rfl, rfl, .inl rfl, .inl rfl, fun _ => rfl⟩
theorem Fld.fill {C : List UInt8 → Prop} {st st1 st2 : RS} {chunk : List UInt8} (h : Fld C st st1) (h' : Fill st1 st2 chunk) (he : st1.err = none) (hC : Go.Proofs.YtmmjfpcmempeeaaDoor.rem st = bufd st1 → C (bufd st1)) : Fld C st st2 := by
  have hw := h'.went
  refine ⟨hw.rem.trans h.rem, hw.n.trans h.n, hw.last.trans h.last, hw.rune.trans h.rune, hw.f.trans h.f, ?_, .inr h'.r, fun hs => (by have := h.stay hs; rw [this] at he; exact (hs he).elim)⟩
  rcases h'.how with ⟨_, h2⟩ | ⟨h1, h2, h3⟩
  · rcases h.err with h4 | ⟨h4, _⟩
    · exact .inl (h2.trans h4)
    · rw [he] at h4; cases h4
  · refine .inr ⟨by rw [h2, h.f], ?_, h3⟩
    have e : Go.Proofs.YtmmjfpcmempeeaaDoor.rem st = bufd st1 := by
      rw [← h.rem]
      unfold Go.Proofs.YtmmjfpcmempeeaaDoor.rem
      rw [h'.src, h1, h3]; simp
    have := hC e
    rw [e]; exact this
/-- the error still is as it was, where C is not -/
theorem Fld.same {C : List UInt8 → Prop} {st st1 : RS} (h : Fld C st st1) (hC : ¬ C (Go.Proofs.YtmmjfpcmempeeaaDoor.rem st)) : st1.err = st.err := by
  rcases h.err with h | h
  · exact h
  · exact (hC h.2.1).elim
theorem rem_length (st : RS) : (bufd st).length ≤ (rem st).length := by unfold rem; simp
theorem rem_take {st : RS} {k : Nat} (hk : k ≤ (bufd st).length) : (rem st).take k = (bufd st).take k := by
  unfold rem; rw [List.take_append_of_le_length hk]
theorem rem_end {st : RS} (h : st.ps = []) : rem st = bufd st := by unfold rem; rw [h]; simp
theorem Abs.endIff {st : RS} {A : AR} (h : Abs st A) : st.err = none ↔ A.err = false := by
  rw [h.err]; cases A.err <;> simp
/-- bytes of the buffer gone over -/
theorem bufd_drop (st : RS) (k : Nat) : bufd { st with r := st.r + k } = (bufd st).drop k := by unfold bufd; simp
theorem rem_drop {st : RS} {k : Nat} (hk : k ≤ (bufd st).length) : rem { st with r := st.r + k } = (rem st).drop k := by
  have e : rem { st with r := st.r + k } = bufd { st with r := st.r + k } ++ st.ps.flatten := rfl
  rw [e, bufd_drop]; unfold rem; rw [List.drop_append_of_le_length hk]
def fresh0 (n : Nat) (all : List UInt8) (f : Bool) : AR := ⟨all, n, f, false, -1, -1, none⟩
/-- a slice of the buffer from where reading stands: its address, its capacity -/
def SubAt (L : Loc) (st : RS) (a : Option Addr) (c : Nat) : Prop := (st.buf.length = st.r ∧ a = some ⟨L.bb, 0, none⟩ ∧ c = 0) ∨ (st.buf.length ≠ st.r ∧ a = some ⟨L.bb, st.r, none⟩ ∧ c = st.buf.length - st.r)
theorem SubAt.bb {L : Loc} {st : RS} {a : Option Addr} {c : Nat} (h : SubAt L st a c) : ∀ p, a = some p → p.block = L.bb := by
  intro p hp
  rcases h with ⟨_, h, _⟩ | ⟨_, h, _⟩ <;> (rw [h] at hp; simp only [Option.some.injEq] at hp; subst hp; rfl)
/-- a part of what is buffered -/
theorem Rd.sub {S : Err → Addr} {w : World} {L : Loc} {st : RS} (h : Rd S w L st) {k : Nat} (hk : st.r + k ≤ st.w) {a : Option Addr} {c : Nat} (hs : SubAt L st a c) : BytesA w a c ((bufd st).take k) := by
  have hl : ((bufd st).take k).length = k := by rw [List.length_take, bufd_length h.wn]; omega
  have hwn := h.wn
  have hnhi := h.nhi
  rcases hs with ⟨he, rfl, rfl⟩ | ⟨he, rfl, rfl⟩
  · refine ⟨by omega, by unfold maxLen; omega, fun hh => (by cases hh), fun p hp => ?_⟩
    simp only [Option.some.injEq] at hp
    subst hp
    have hk0 : k = 0 := by omega
    subst hk0
    exact ⟨fun _ => rfl, fun i hi => by simp at hi⟩
  · refine ⟨by omega, by unfold maxLen; omega, fun hh => (by cases hh), fun p hp => ?_⟩
    simp only [Option.some.injEq] at hp
    subst hp
    refine ⟨fun _ => rfl, fun i hi => ?_⟩
    rw [hl] at hi
    rw [h.byte (show st.r + i < st.buf.length by omega)]
    simp [bufd, bv]
/-- the buffer, as a slice of bytes -/
theorem Rd.whole {S : Err → Addr} {w : World} {L : Loc} {st : RS} (h : Rd S w L st) : BytesA w (some ⟨L.bb, 0, none⟩) st.buf.length st.buf := by
  have := h.nhi
  refine ⟨Nat.le_refl _, by unfold maxLen; omega, fun hh => (by cases hh), fun p hp => ⟨fun _ => (by simp only [Option.some.injEq] at hp; subst hp; rfl), fun i hi => ?_⟩⟩
  simp only [Option.some.injEq] at hp
  subst hp
  rw [Nat.zero_add, h.byte hi]; rfl
/-- what a function tells that hands out a part of the buffer -/
def SlicePost (S : Err → Addr) (w : World) (L : Loc) (x : (List UInt8 × Option Err) × AR) (v : Value) (w' : World) : Prop :=
  ∃ st' ab c, v = .tuple #[.slice ab x.1.1.length c, eV S x.1.2] ∧ BytesA w' ab c x.1.1 ∧ (∀ p, ab = some p → p.block = L.bb) ∧ Rd S w' L st' ∧ Upd (In L) w w' ∧ Abs st' x.2
/-- the sentinels stay, whatever a reader above them does -/
theorem Env.updL {S : Err → Addr} {B : Nat} {w w' : World} {L : Loc} (h : Env S B w) (hB : B ≤ L.lo) (u : Upd (In L) w w') : Env S B w' := h.upd u (fun k hk => by have := hk.1; omega)
end Go.Proofs.YtmmjfpcmempeeaaDoor
