/- spec.Reader and a buffered reader go alike: in plain lists. -/
import Derived.Test.YtmmjfpcmempeeaaDoorAsked
import Derived.Test.YtmmjfpcmempeeaaDoorM8
import Derived.Test.YtmmjfpcmempeeaaDoorM4
namespace Go.Proofs.YtmmjfpcmempeeaaDoor
open Go.RowKit
/-- n bytes read -/
structure Rt (A : AR) (n : Nat) (A' : AR) : Prop where
  le : n ≤ A.left.length
  left : A'.left = A.left.drop n
  size : A'.size = A.size
  f : A'.f = A.f
  err : A'.err = true → A.err = true
  pos : 0 < n → ∃ x, A.left[n - 1]? = some x ∧ A'.last = (x.toNat : Int) ∧ A'.rune = -1
  zero : n = 0 → A'.last = A.last ∧ A'.rune = A.rune ∧ (A'.back = A.back ∨ A'.back = none)
theorem rt_read {A : AR} {n : Nat} (h : n ≤ A.left.length) {e : Bool} {b : Option (List UInt8)} (he : e = true → A.err = true) (hb : b = A.back ∨ b = none) : Rt A n { A.read n with err := e, back := b } where
  le := h
  left := rfl
  size := rfl
  f := rfl
  err := he
  pos := fun h0 => by
    have hx : A.left[n - 1]? = some A.left[n - 1] := List.getElem?_eq_getElem (by omega)
    rw [read_pos h0 h hx]
    exact ⟨_, hx, rfl, rfl⟩
  zero := fun h0 => by
    subst h0
    exact ⟨by unfold AR.read; simp, by unfold AR.read; simp, hb⟩
theorem slice_rt (A : AR) (d : UInt8) : Rt A (sliceA A d).1.1.length (sliceA A d).2 ∧ (sliceA A d).1.1 = A.left.take (sliceA A d).1.1.length := by
  cases hp : pos d (A.left.take A.size) with
  | some i =>
    have hi := pos_lt (pos_take_some hp)
    rw [sliceA_some hp]
    have hl : (A.left.take (i + 1)).length = i + 1 := by rw [List.length_take]; omega
    rw [hl]
    exact ⟨rt_read (e := A.err) (b := A.back) (by omega) (fun h => h) (.inl rfl), rfl⟩
  | none =>
    cases hb : (A.err || decide (A.left.length < A.size)) with
    | true =>
      rw [sliceA_end hp hb]
      refine ⟨rt_read (Nat.le_refl _) (fun h => (by cases h)) ?_, (List.take_length).symm⟩
      cases A.err <;> simp
    | false =>
      rw [sliceA_full hp hb]
      simp only [Bool.or_eq_false_iff, decide_eq_false_iff_not] at hb
      have hl : (A.left.take A.size).length = A.size := by rw [List.length_take]; omega
      rw [hl]
      exact ⟨rt_read (e := A.err) (b := A.back) (by omega) (fun h => h) (.inl rfl), rfl⟩
theorem Rt.trans {A A1 A2 : AR} {n m : Nat} (h : Rt A n A1) (h2 : Rt A1 m A2) : Rt A (n + m) A2 := by
  have l1 := h.le
  have l2 := h2.le
  rw [h.left, List.length_drop] at l2
  refine ⟨by omega, by rw [h2.left, h.left, List.drop_drop], h2.size.trans h.size, h2.f.trans h.f, fun he => h.err (h2.err he), fun h0 => ?_, fun h0 => ?_⟩
  · by_cases hm : 0 < m
    · obtain ⟨x, hx, q⟩ := h2.pos hm
      refine ⟨x, ?_, q⟩
      rw [h.left, List.getElem?_drop] at hx
      rw [← hx]; congr 1; omega
    · obtain ⟨x, hx, q1, q2⟩ := h.pos (by omega)
      obtain ⟨z1, z2, _⟩ := h2.zero (by omega)
      exact ⟨x, by rw [show n + m - 1 = n - 1 by omega]; exact hx, z1.trans q1, z2.trans q2⟩
  · obtain ⟨z1, z2, z3⟩ := h.zero (by omega)
    obtain ⟨y1, y2, y3⟩ := h2.zero (by omega)
    refine ⟨y1.trans z1, y2.trans z2, ?_⟩
    rcases y3 with y | y
    · rw [y]; exact z3
    · exact .inr y
theorem frags_rt (d : UInt8) : ∀ (n : Nat) (A : AR), 1 ≤ A.size → A.left.length < n → Rt A ((frags d n A).1.flatten ++ (frags d n A).2.1.1).length (frags d n A).2.2 := by
  intro n
  induction n with
  | zero => intro A _ h; omega
  | succ n ih =>
    intro A hs hl
    unfold frags
    have h1 := (slice_rt A d).1
    by_cases hf : (sliceA A d).1.2 = some .full
    · rw [if_pos hf]
      obtain ⟨g1, g2, g3, g4⟩ := sliceA_full' hf
      have h2 := ih (sliceA A d).2 (by rw [g4]; exact hs) (by rw [g3, List.length_drop]; omega)
      have := h1.trans h2
      simpa [List.length_append] using this
    · rw [if_neg hf]
      simpa using h1
/-- what is said while an error waits -/
structure Inv (A : AR) : Prop where
  size : 16 ≤ A.size
  left : A.err = true → A.left.length < A.size
  last : A.err = true → 0 ≤ A.last → A.left.length + 1 < A.size
  rune : A.err = true → 0 ≤ A.rune → ∀ b, A.back = some b → A.left.length + b.length < A.size
theorem Rt.inv {A A' : AR} {n : Nat} (h : Rt A n A') (hI : Inv A) : Inv A' := by
  have l1 := h.le
  refine ⟨by rw [h.size]; exact hI.size, fun he => ?_, fun he hl => ?_, fun he hr b hb => ?_⟩
  · have := hI.left (h.err he); rw [h.left, h.size, List.length_drop]; omega
  · rw [h.left, h.size, List.length_drop]
    by_cases h0 : 0 < n
    · have := hI.left (h.err he); omega
    · have := hI.last (h.err he) (by rw [← (h.zero (by omega)).1]; exact hl); omega
  · rw [h.left, h.size, List.length_drop]
    by_cases h0 : 0 < n
    · obtain ⟨x, _, _, q⟩ := h.pos h0; rw [q] at hr; omega
    · obtain ⟨_, z2, z3⟩ := h.zero (by omega)
      rw [z2] at hr
      rcases z3 with z | z
      · rw [z] at hb; have := hI.rune (h.err he) hr b hb; omega
      · rw [z] at hb; cases hb
theorem slice_line {A : AR} (d : UInt8) (hI : Inv A) : (sliceA A d).1.1 = (lineS A.left A.size d (endc A.f)).1 ∧ ecode (sliceA A d).1.2 = (lineS A.left A.size d (endc A.f)).2 := by
  unfold lineS
  cases hp : pos d (A.left.take A.size) with
  | some i =>
    rw [sliceA_some hp]
    exact ⟨rfl, rfl⟩
  | none =>
    by_cases hlt : A.left.length < A.size
    · rw [sliceA_end hp (by simp [hlt])]
      simp only [if_pos hlt]
      exact ⟨(by first | trivial | rfl), (by first | trivial | exact ecode_end _)⟩
    · have he : A.err = false := by
        cases he : A.err with
        | false => rfl
        | true => exact (hlt (hI.left he)).elim
      rw [sliceA_full hp (by rw [he]; simpa using hlt)]
      simp only [if_neg hlt]
      exact ⟨(by first | trivial | rfl), (by first | trivial | rfl)⟩
theorem lineS_short {l : List UInt8} {a b : Nat} (d : UInt8) (e : Nat) (ha : l.length < a) (hb : l.length < b) : lineS l a d e = lineS l b d e := by
  unfold lineS
  rw [List.take_of_length_le (by omega), List.take_of_length_le (by omega)]
  cases pos d l with
  | some i => rfl
  | none => simp only [if_pos ha, if_pos hb]
theorem frags_line {A : AR} (d : UInt8) (hI : Inv A) : (frags d (A.left.length + 1) A).1.flatten ++ (frags d (A.left.length + 1) A).2.1.1 = (lineS A.left (A.left.length + 1) d (endc A.f)).1 ∧ ecode (frags d (A.left.length + 1) A).2.1.2 = (lineS A.left (A.left.length + 1) d (endc A.f)).2 := by
  have hs := hI.size
  cases he : A.err with
  | false =>
    obtain ⟨q1, q2, _⟩ := frags_flat (d := d) (A.left.length + 1) A (by omega) (Nat.lt_succ_self _) he
    rw [lineS_part, q1, q2]
    exact ⟨rfl, rfl⟩
  | true =>
    have hl := hI.left he
    have hf : ¬ (sliceA A d).1.2 = some .full := fun hf => by have := (sliceA_full' hf).1; omega
    have e : frags d (A.left.length + 1) A = ([], sliceA A d) := by
      show (if _ then _ else _) = _
      rw [if_neg hf]
    rw [e, ← lineS_short d (endc A.f) hl (Nat.lt_succ_self _)]
    obtain ⟨q1, q2⟩ := slice_line d hI
    exact ⟨by simpa using q1, q2⟩
/-- the two go alike -/
structure Sim (s : SR) (A : AR) : Prop where
  left : s.left = A.left
  size : s.size = A.size
  endc : s.endc = Go.Proofs.YtmmjfpcmempeeaaDoor.endc A.f
  suf : ∃ pre, s.all = pre ++ s.left
  all : s.all.length ≤ 1048576
  small : s.size ≤ 1048576
  ok : SOk s
  inv : Inv A
  last : s.op = false → (s.last = true ↔ 0 ≤ A.last)
  lastV : s.op = false → s.last = true → ∃ pre, s.all = pre ++ UInt8.ofNat A.last.toNat :: s.left
  rune : s.op = false → 0 < s.rune → 0 ≤ A.rune ∧ ∃ b pre, A.back = some b ∧ b.length = s.rune ∧ s.all = pre ++ (b ++ s.left)
  rune0 : s.op = false → s.rune = 0 → A.rune < 0
theorem Sim.fit {s : SR} {A : AR} (h : Sim s A) : SFit s ∧ s.endc ≠ 0 := by
  have h1 := h.inv.size
  have h2 := h.size
  have h3 := h.small
  have h4 := h.all
  have h5 := h.endc
  obtain ⟨pre, hp⟩ := h.suf
  have h6 := congrArg List.length hp
  rw [List.length_append] at h6
  refine ⟨⟨h.ok, by omega, by omega, by omega, ?_⟩, ?_⟩
  · rw [h5]; unfold Go.Proofs.YtmmjfpcmempeeaaDoor.endc; split <;> omega
  · rw [h5]; unfold Go.Proofs.YtmmjfpcmempeeaaDoor.endc; split <;> omega
theorem Sim.lens {s : SR} {A : AR} (h : Sim s A) : s.left.length ≤ s.all.length := by
  obtain ⟨pre, hp⟩ := h.suf
  rw [hp, List.length_append]; omega
/-- nothing is said of taking back -/
theorem Sim.toOp {s : SR} {A A' : AR} (h : Sim s A) (h1 : A'.left = A.left) (h2 : A'.size = A.size) (h3 : A'.f = A.f) (hI : Inv A') : Sim { s with op := true } A' :=
  ⟨h.left.trans h1.symm, h.size.trans h2.symm, by rw [h3]; exact h.endc, h.suf, h.all, h.small, h.ok, hI, fun h => (by cases h), fun h => (by cases h), fun h => (by cases h), fun h => (by cases h)⟩
theorem take_op {s : SR} {n : Nat} : (s.take n true).op = false → 0 < n := fun h => by
  have h : (true && decide (n = 0)) = false := h
  simp at h; omega
theorem Sim.taken {s : SR} {A A' : AR} {n : Nat} (h : Sim s A) (hr : Rt A n A') : Sim (s.take n true) A' := by
  have hle := hr.le
  have hl := h.lens
  have hsl := h.left
  obtain ⟨pre, hp⟩ := h.suf
  have hall := congrArg List.length hp
  rw [List.length_append] at hall
  have hlen : (s.left.drop n).length = s.left.length - n := List.length_drop
  rw [← hsl] at hle
  refine ⟨by show s.left.drop n = _; rw [hr.left, hsl], h.size.trans hr.size.symm, by rw [hr.f]; exact h.endc, suf_drop hp n, h.all, h.small, ⟨fun hlast => ?_, ?_⟩, hr.inv h.inv, fun ho => ?_, fun ho _ => ?_, fun _ h0 => ?_, fun ho _ => ?_⟩
  · have hlast : (true && decide (0 < n)) = true := hlast
    simp at hlast
    show 1 + (s.left.drop n).length ≤ s.all.length
    omega
  · show 0 + (s.left.drop n).length ≤ s.all.length
    omega
  · obtain ⟨x, _, q, _⟩ := hr.pos (take_op ho)
    have h0 := take_op ho
    show (true && decide (0 < n)) = true ↔ _
    rw [q]
    simp [h0]
  · obtain ⟨x, hx, q, _⟩ := hr.pos (take_op ho)
    have h0 := take_op ho
    rw [q, Int.toNat_natCast, UInt8.ofNat_toNat]
    refine ⟨pre ++ s.left.take (n - 1), ?_⟩
    show s.all = _ ++ x :: s.left.drop n
    rw [← hsl] at hx
    obtain ⟨hlt, hx⟩ := List.getElem?_eq_some_iff.1 hx
    have hd : s.left.drop (n - 1) = x :: s.left.drop n := by rw [List.drop_eq_getElem_cons hlt, hx, show n - 1 + 1 = n by omega]
    rw [← hd, List.append_assoc, List.take_append_drop]
    exact hp
  · have h0 : 0 < (0 : Nat) := h0
    omega
  · obtain ⟨x, _, _, q⟩ := hr.pos (take_op ho)
    rw [q]; omega
/-- taken back -/
theorem Sim.backed {s : SR} {A A' : AR} {b pre : List UInt8} (h : Sim s A) (hb : s.all = pre ++ (b ++ s.left)) (h1 : A'.left = b ++ A.left) (h2 : A'.size = A.size) (h3 : A'.f = A.f) (h4 : A'.last = -1) (h5 : A'.rune = -1) (hI : Inv A') : Sim (s.back b.length) A' := by
  have hall := congrArg List.length hb
  rw [List.length_append, List.length_append] at hall
  have hl : (s.back b.length).left = b ++ s.left := by
    show s.all.drop (s.all.length - s.left.length - b.length) = _
    rw [show s.all.length - s.left.length - b.length = pre.length by omega, hb, List.drop_left]
  refine ⟨by rw [hl, h1, h.left], h.size.trans h2.symm, by rw [h3]; exact h.endc, ⟨pre, by rw [hl]; exact hb⟩, h.all, h.small, ⟨fun hlast => (by cases hlast), ?_⟩, hI, fun _ => ?_, fun _ hlast => (by cases hlast), fun _ h0 => ?_, fun _ _ => by rw [h5]; omega⟩
  · rw [hl, List.length_append]
    show 0 + _ ≤ s.all.length
    omega
  · show false = true ↔ _
    rw [h4]
    constructor
    · intro hh; cases hh
    · intro hh; omega
  · have h0 : 0 < (0 : Nat) := h0
    omega
/-- gone on without reading -/
theorem Sim.gone {s s' : SR} {A A' : AR} {n : Nat} (h : Sim s A) (hs : s' = { s with left := s.left.drop n, last := false, rune := 0, op := false }) (h1 : A'.left = A.left.drop n) (h2 : A'.size = A.size) (h3 : A'.f = A.f) (h4 : A'.last = -1) (h5 : A'.rune = -1) (h6 : A'.err = true → A.left.length < A.size) : Sim s' A' := by
  subst hs
  obtain ⟨pre, hp⟩ := h.suf
  have hl := h.lens
  have hlen : (s.left.drop n).length = s.left.length - n := List.length_drop
  refine ⟨by show s.left.drop n = _; rw [h1, h.left], h.size.trans h2.symm, by rw [h3]; exact h.endc, suf_drop hp n, h.all, h.small, ⟨fun hlast => (by cases hlast), ?_⟩, ?_, fun _ => ?_, fun _ hlast => (by cases hlast), fun _ h0 => ?_, fun _ _ => by rw [h5]; omega⟩
  · show 0 + (s.left.drop n).length ≤ s.all.length
    omega
  · refine ⟨by rw [h2]; exact h.inv.size, fun he => ?_, fun _ hl => (by rw [h4] at hl; omega), fun _ hr => (by rw [h5] at hr; omega)⟩
    have := h6 he
    rw [h1, h2, List.length_drop]; omega
  · show false = true ↔ _
    rw [h4]
    constructor
    · intro hh; cases hh
    · intro hh; omega
  · have h0 : 0 < (0 : Nat) := h0
    omega
def DoSim (s : SR) (A : AR) (st : Stp) : Prop := (s.doF st).1.2 = false ∨ ((s.doF st).1.2 = true ∧ (s.doF st).1.1 = (stepF A st).1 ∧ Sim (s.doF st).2 (stepF A st).2)
theorem sim1 {s : SR} {A : AR} (h : Sim s A) (n : Int) (d : UInt8) : DoSim s A ⟨1, n, d⟩ := by
  have e1 : stepF A ⟨1, n, d⟩ = (⟨[], 0, ((byteA A).1.1 : Int), false, ecode (byteA A).1.2⟩, (byteA A).2) := rfl
  have hl := h.left
  cases hA : A.left with
  | nil =>
    rw [hA] at hl
    have e : s.doF ⟨1, n, d⟩ = ((Ans.tell s.endc, true), { s with op := true }) := by show (match s.left with | [] => _ | b :: _ => _) = _; rw [hl]
    have eb : byteA A = ((0, some (endErr A.f)), { A with rune := -1, err := false }) := by unfold byteA; rw [hA]
    unfold DoSim
    rw [e, e1, eb]
    refine .inr ⟨rfl, ?_, h.toOp rfl rfl rfl ⟨h.inv.size, fun h => (by cases h), fun h => (by cases h), fun h => (by cases h)⟩⟩
    show Ans.tell s.endc = ⟨[], 0, 0, false, ecode (some (endErr A.f))⟩
    rw [ecode_end, h.endc]; rfl
  | cons b l =>
    rw [hA] at hl
    have e : s.doF ⟨1, n, d⟩ = ((⟨[], 0, (b.toNat : Int), false, 0⟩, true), s.take 1 true) := by show (match s.left with | [] => _ | b :: _ => _) = _; rw [hl]
    have eb : byteA A = ((b.toNat, none), { A with left := l, last := (b.toNat : Int), rune := -1 }) := by unfold byteA; rw [hA]
    unfold DoSim
    rw [e, e1, eb]
    refine .inr ⟨rfl, rfl, h.taken ⟨by rw [hA]; simp, by rw [hA]; rfl, rfl, rfl, fun h => h, fun _ => ⟨b, by rw [hA]; rfl, rfl, rfl⟩, fun h => by omega⟩⟩
theorem sim2 {s : SR} {A : AR} (h : Sim s A) (n : Int) (d : UInt8) : DoSim s A ⟨2, n, d⟩ := by
  have e1 : stepF A ⟨2, n, d⟩ = (⟨[], 0, 0, false, ecode (unbyteA A).1⟩, (unbyteA A).2) := rfl
  have e : s.doF ⟨2, n, d⟩ = s.undo 2 := rfl
  unfold DoSim
  rw [e, e1]
  cases hop : s.op with
  | true => exact .inl (by unfold SR.undo; rw [if_pos hop])
  | false =>
    cases hla : s.last with
    | true =>
      have h0 := (h.last hop).1 hla
      obtain ⟨pre, hp⟩ := h.lastV hop hla
      have eu : s.undo 2 = ((Ans.tell 0, true), s.back 1) := by unfold SR.undo; rw [if_neg (by rw [hop]; simp), if_pos rfl, if_pos hla]
      have ea : unbyteA A = (none, { A with left := UInt8.ofNat A.last.toNat :: A.left, last := -1, rune := -1 }) := if_neg (by omega)
      rw [eu, ea]
      refine .inr ⟨rfl, rfl, h.backed (b := [UInt8.ofNat A.last.toNat]) hp rfl rfl rfl rfl rfl ⟨h.inv.size, fun he => ?_, fun _ hh => (by have hh : (0 : Int) ≤ -1 := hh; omega), fun _ hh => (by have hh : (0 : Int) ≤ -1 := hh; omega)⟩⟩
      exact h.inv.last he h0
    | false =>
      have h0 : A.last < 0 := by
        rcases Int.lt_or_le A.last 0 with h1 | h1
        · exact h1
        · have := (h.last hop).2 h1; rw [hla] at this; cases this
      have eu : s.undo 2 = ((Ans.tell 5, true), s) := by unfold SR.undo; rw [if_neg (by rw [hop]; simp), if_pos rfl, if_neg (by rw [hla]; simp)]
      have ea : unbyteA A = (some .nobyte, A) := if_pos h0
      rw [eu, ea]
      exact .inr ⟨rfl, rfl, h⟩
theorem sim4 {s : SR} {A : AR} (h : Sim s A) (n : Int) (d : UInt8) : DoSim s A ⟨4, n, d⟩ := by
  have e1 : stepF A ⟨4, n, d⟩ = (⟨[], 0, 0, false, ecode (unruneA A).1⟩, (unruneA A).2) := rfl
  have e : s.doF ⟨4, n, d⟩ = s.undo 4 := rfl
  unfold DoSim
  rw [e, e1]
  cases hop : s.op with
  | true => exact .inl (by unfold SR.undo; rw [if_pos hop])
  | false =>
    by_cases hr : 0 < s.rune
    · obtain ⟨h0, b, pre, hb, hbl, hp⟩ := h.rune hop hr
      have eu : s.undo 4 = ((Ans.tell 0, true), s.back s.rune) := by unfold SR.undo; rw [if_neg (by rw [hop]; simp), if_neg (by decide), if_pos hr]
      have ea : unruneA A = (none, { A with left := b ++ A.left, last := -1, rune := -1 }) := by unfold unruneA; rw [if_neg (by omega), hb]
      rw [eu, ea, ← hbl]
      refine .inr ⟨rfl, rfl, h.backed hp rfl rfl rfl rfl rfl ⟨h.inv.size, fun he => ?_, fun _ hh => (by have hh : (0 : Int) ≤ -1 := hh; omega), fun _ hh => (by have hh : (0 : Int) ≤ -1 := hh; omega)⟩⟩
      have := h.inv.rune he h0 b hb
      show (b ++ A.left).length < A.size
      rw [List.length_append]; omega
    · have h0 := h.rune0 hop (by omega)
      have eu : s.undo 4 = ((Ans.tell 6, true), s) := by unfold SR.undo; rw [if_neg (by rw [hop]; simp), if_neg (by decide), if_neg hr]
      have ea : unruneA A = (some .norune, A) := by unfold unruneA; rw [if_pos h0]
      rw [eu, ea]
      exact .inr ⟨rfl, rfl, h⟩
theorem sim3 {s : SR} {A : AR} (h : Sim s A) (n : Int) (d : UInt8) : DoSim s A ⟨3, n, d⟩ := by
  have e1 : stepF A ⟨3, n, d⟩ = (⟨[], ((runeA A).1.1.2 : Int), ((runeA A).1.1.1 : Int), false, ecode (runeA A).1.2⟩, (runeA A).2) := rfl
  have hl := h.left
  unfold DoSim
  rw [e1]
  by_cases h0 : A.left.length = 0
  · have e : s.doF ⟨3, n, d⟩ = ((Ans.tell s.endc, true), { s with op := true }) := by
      show (if s.left.length = 0 then _ else _) = _
      exact if_pos (by rw [hl]; exact h0)
    have ea : runeA A = (((0, 0), some (endErr A.f)), { A with rune := -1, err := false }) := if_pos h0
    rw [e, ea]
    refine .inr ⟨rfl, ?_, h.toOp rfl rfl rfl ⟨h.inv.size, fun h => (by cases h), fun h => (by cases h), fun h => (by cases h)⟩⟩
    show Ans.tell s.endc = ⟨[], 0, 0, false, ecode (some (endErr A.f))⟩
    rw [ecode_end, h.endc]; rfl
  · have e : s.doF ⟨3, n, d⟩ = ((⟨[], ((dec s.left).2 : Int), ((dec s.left).1 : Int), false, 0⟩, true), { s.take (dec s.left).2 true with rune := (dec s.left).2 }) := by
      show (if s.left.length = 0 then _ else _) = _
      exact if_neg (by rw [hl]; exact h0)
    have ea : runeA A = ((((dec A.left).1, (dec A.left).2), none), { A with left := A.left.drop (dec A.left).2, last := (xb A.left ((dec A.left).2 - 1) : Int), rune := ((dec A.left).2 : Int), err := A.err || !fullB A.left, back := some (A.left.take (dec A.left).2) }) := if_neg h0
    have hp := dec_pos (bs := A.left) (by omega)
    have hk1 := hp.1
    have hk2 := hp.2.1
    rw [e, ea, hl]
    obtain ⟨K, hK⟩ : ∃ K, (dec A.left).2 = K := ⟨_, rfl⟩
    rw [hK] at hk1 hk2 ⊢
    refine .inr ⟨rfl, rfl, ?_⟩
    have hx : A.left[K - 1]? = some A.left[K - 1] := List.getElem?_eq_getElem (by omega)
    have hxb : xb A.left (K - 1) = A.left[K - 1].toNat := by unfold xb; rw [List.getD_eq_getElem?_getD, hx]; rfl
    obtain ⟨pre, hpre⟩ := h.suf
    have hall := congrArg List.length hpre
    rw [List.length_append, hl] at hall
    have hlen : (s.left.drop K).length = A.left.length - K := by rw [hl]; exact List.length_drop
    have hsize := h.inv.size
    have hIl : (A.err || !fullB A.left) = true → A.left.length < A.size := fun he => by
      cases hAe : A.err with
      | true => exact h.inv.left hAe
      | false =>
        rw [hAe, Bool.false_or, Bool.not_eq_true'] at he
        rcases Nat.lt_or_ge A.left.length 4 with h4 | h4
        · omega
        · rw [full_four h4] at he; cases he
    have hlt : (A.left.take K).length = K := by rw [List.length_take]; omega
    refine ⟨by show s.left.drop K = A.left.drop K; rw [hl], h.size, h.endc, suf_drop hpre K, h.all, h.small, ⟨fun _ => ?_, ?_⟩, ⟨hsize, fun he => ?_, fun he _ => ?_, fun he _ b hb => ?_⟩, fun _ => ?_, fun _ _ => ?_, fun _ _ => ?_, fun _ hr => ?_⟩
    · show 1 + (s.left.drop K).length ≤ s.all.length; omega
    · show K + (s.left.drop K).length ≤ s.all.length; omega
    · have := hIl he; show (A.left.drop K).length < A.size; rw [List.length_drop]; omega
    · have := hIl he; show (A.left.drop K).length + 1 < A.size; rw [List.length_drop]; omega
    · have := hIl he
      simp only [Option.some.injEq] at hb
      subst hb
      show (A.left.drop K).length + _ < A.size; rw [List.length_drop, hlt]; omega
    · show (true && decide (0 < K)) = true ↔ (0 : Int) ≤ (xb A.left (K - 1) : Int)
      have : 0 < K := hk1
      simp [this]
    · refine ⟨pre ++ s.left.take (K - 1), ?_⟩
      show s.all = _ ++ UInt8.ofNat (xb A.left (K - 1) : Int).toNat :: s.left.drop K
      rw [Int.toNat_natCast, hxb, UInt8.ofNat_toNat]
      have hlt2 : K - 1 < s.left.length := by rw [hl]; omega
      have hd : s.left.drop (K - 1) = A.left[K - 1] :: s.left.drop K := by
        rw [List.drop_eq_getElem_cons hlt2, show K - 1 + 1 = K by omega]
        congr 1
        simp [hl]
      rw [← hd, List.append_assoc, List.take_append_drop]
      exact hpre
    · refine ⟨by show (0 : Int) ≤ (K : Int); omega, A.left.take K, pre, rfl, hlt, ?_⟩
      show s.all = pre ++ (A.left.take K ++ s.left.drop K)
      rw [hl, List.take_append_drop, ← hl]
      exact hpre
    · have hr : K = 0 := hr
      omega
theorem sim5 {s : SR} {A : AR} (h : Sim s A) (n : Int) (d : UInt8) : DoSim s A ⟨5, n, d⟩ := by
  have e1 : stepF A ⟨5, n, d⟩ = (⟨(peekA A n).1.1, 0, 0, false, ecode (peekA A n).1.2⟩, (peekA A n).2) := rfl
  have e : s.doF ⟨5, n, d⟩ = (((s.peek n).1, true), (s.peek n).2) := rfl
  have hl := h.left
  have hs := h.size
  unfold DoSim
  rw [e, e1]
  refine .inr ⟨rfl, ?_⟩
  show (s.peek n).1 = _ ∧ Sim (s.peek n).2 (peekA A n).2
  unfold SR.peek peekA
  by_cases h1 : n < 0
  · rw [if_pos h1, if_pos h1]
    exact ⟨rfl, h.toOp rfl rfl rfl h.inv⟩
  · rw [if_neg h1, if_neg h1]
    by_cases h2 : (A.size : Int) < n
    · rw [if_pos (by rw [hs]; exact h2), if_pos h2]
      refine ⟨by rw [hl, hs]; rfl, h.gone (n := 0) (by rw [List.drop_zero]) rfl rfl rfl rfl rfl (fun he => ?_)⟩
      have he : (A.err || decide (A.left.length < A.size)) = true := he
      rcases Bool.or_eq_true_iff.1 he with he | he
      · exact h.inv.left he
      · exact of_decide_eq_true he
    · rw [if_neg (by rw [hs]; exact h2), if_neg h2]
      by_cases h3 : (A.left.length : Int) < n
      · rw [if_pos (by rw [hl]; exact h3), if_pos h3]
        refine ⟨by rw [ecode_end, h.endc, hl], h.gone (n := 0) (by rw [List.drop_zero]) rfl rfl rfl rfl rfl (fun he => by cases he)⟩
      · rw [if_neg (by rw [hl]; exact h3), if_neg h3]
        exact ⟨by rw [hl]; rfl, h.gone (n := 0) (by rw [List.drop_zero]) rfl rfl rfl rfl rfl h.inv.left⟩
theorem sim6 {s : SR} {A : AR} (h : Sim s A) (n : Int) (d : UInt8) : DoSim s A ⟨6, n, d⟩ := by
  have e1 : stepF A ⟨6, n, d⟩ = (⟨[], (discardA A n).1.1, 0, false, ecode (discardA A n).1.2⟩, (discardA A n).2) := rfl
  have e : s.doF ⟨6, n, d⟩ = (((s.discard n).1, true), (s.discard n).2) := rfl
  have hl := h.left
  unfold DoSim
  rw [e, e1]
  refine .inr ⟨rfl, ?_⟩
  show (s.discard n).1 = _ ∧ Sim (s.discard n).2 (discardA A n).2
  unfold SR.discard discardA
  by_cases h1 : n < 0
  · rw [if_pos h1, if_pos h1]
    exact ⟨rfl, h.toOp rfl rfl rfl h.inv⟩
  · rw [if_neg h1, if_neg h1]
    by_cases h2 : n = 0
    · rw [if_pos h2, if_pos h2]
      exact ⟨rfl, h.toOp rfl rfl rfl h.inv⟩
    · rw [if_neg h2, if_neg h2]
      by_cases h3 : (A.left.length : Int) < n
      · rw [if_pos (by rw [hl]; exact h3), if_pos h3]
        refine ⟨?_, h.gone (n := s.left.length) (by unfold SR.take; simp) (by rw [hl]; simp) rfl rfl rfl rfl (fun he => (by cases he))⟩
        rw [ecode_end, h.endc, hl]
      · rw [if_neg (by rw [hl]; exact h3), if_neg h3]
        exact ⟨rfl, h.gone (n := n.toNat) (by unfold SR.take; simp) rfl rfl rfl rfl rfl h.inv.left⟩
theorem sim7 {s : SR} {A : AR} (h : Sim s A) (n : Int) (d : UInt8) : DoSim s A ⟨7, n, d⟩ := by
  have e1 : stepF A ⟨7, n, d⟩ = (⟨(sliceA A d).1.1, 0, 0, false, ecode (sliceA A d).1.2⟩, (sliceA A d).2) := rfl
  have e : s.doF ⟨7, n, d⟩ = ((⟨(lineS s.left s.size d s.endc).1, 0, 0, false, (lineS s.left s.size d s.endc).2⟩, true), s.take (lineS s.left s.size d s.endc).1.length true) := rfl
  obtain ⟨q1, q2⟩ := slice_line d h.inv
  unfold DoSim
  rw [e, e1, h.left, h.size, h.endc, ← q1, ← q2]
  exact .inr ⟨rfl, rfl, h.taken (slice_rt A d).1⟩
theorem sim910 {s : SR} {A : AR} (h : Sim s A) (k : Nat) (hk : k = 9 ∨ k = 10) (n : Int) (d : UInt8) : DoSim s A ⟨k, n, d⟩ := by
  have e1 : stepF A ⟨k, n, d⟩ = (⟨(frags d (A.left.length + 1) A).1.flatten ++ (frags d (A.left.length + 1) A).2.1.1, 0, 0, false, ecode (frags d (A.left.length + 1) A).2.1.2⟩, (frags d (A.left.length + 1) A).2.2) := by rcases hk with rfl | rfl <;> rfl
  have e : s.doF ⟨k, n, d⟩ = ((⟨(lineS s.left (s.left.length + 1) d s.endc).1, 0, 0, false, (lineS s.left (s.left.length + 1) d s.endc).2⟩, true), s.take (lineS s.left (s.left.length + 1) d s.endc).1.length true) := by rcases hk with rfl | rfl <;> rfl
  obtain ⟨q1, q2⟩ := frags_line d h.inv
  have hsz := h.inv.size
  unfold DoSim
  rw [e, e1, h.left, h.endc, ← q1, ← q2]
  exact .inr ⟨rfl, rfl, h.taken (frags_rt d _ A (by omega) (Nat.lt_succ_self _))⟩
theorem lineA_eq (A : AR) : lineA A = (if (sliceA A 10).1.2 = some .full then
    (if (sliceA A 10).1.1[(sliceA A 10).1.1.length - 1]? = some 13 then ((((sliceA A 10).1.1.take ((sliceA A 10).1.1.length - 1), true), none), { (sliceA A 10).2 with left := 13 :: (sliceA A 10).2.left }) else ((((sliceA A 10).1.1, true), none), (sliceA A 10).2))
    else if (sliceA A 10).1.1.length = 0 then ((([], false), (sliceA A 10).1.2), (sliceA A 10).2) else ((((sliceA A 10).1.1.take (cutN (sliceA A 10).1.1), false), none), (sliceA A 10).2)) := rfl
theorem slice_code (A : AR) (d : UInt8) : ecode (sliceA A d).1.2 = 3 ↔ (sliceA A d).1.2 = some .full := by
  rcases sliceA_err A d with h | h | h <;> rw [h]
  · simp [ecode]
  · simp [ecode, Err.code]
  · cases A.f <;> simp [ecode, endErr, Err.code]
theorem sim8 {s : SR} {A : AR} (h : Sim s A) (n : Int) (d : UInt8) : DoSim s A ⟨8, n, d⟩ := by
  have e1 : stepF A ⟨8, n, d⟩ = (⟨(lineA A).1.1.1, 0, 0, (lineA A).1.1.2, ecode (lineA A).1.2⟩, (lineA A).2) := rfl
  obtain ⟨x, hx⟩ : ∃ x, x = lineS s.left s.size 10 s.endc := ⟨_, rfl⟩
  have e : s.doF ⟨8, n, d⟩ = (((s.line 8 d).1, true), (s.line 8 d).2) := rfl
  have e8 : s.line 8 d = if x.2 = 3 then
      if x.1[x.1.length - 1]? = some 13 then (⟨x.1.take (x.1.length - 1), 0, 0, true, 0⟩, { (s.take x.1.length true).back 1 with op := true }) else (⟨x.1, 0, 0, true, 0⟩, { s.take x.1.length true with op := true })
    else (⟨x.1.take (cutN x.1), 0, 0, false, if 0 < x.1.length then 0 else x.2⟩, s.take x.1.length true) := by rw [hx]; rfl
  obtain ⟨q1, q2⟩ := slice_line 10 h.inv
  rw [← h.left, ← h.size, ← h.endc, ← hx] at q1 q2
  obtain ⟨r1, r2⟩ := slice_rt A 10
  have ht := h.taken r1
  have hI := r1.inv h.inv
  unfold DoSim
  rw [e, e1]
  refine .inr ⟨rfl, ?_⟩
  show (s.line 8 d).1 = _ ∧ Sim (s.line 8 d).2 (lineA A).2
  rw [e8, lineA_eq, ← q1, ← q2]
  rw [q1] at ht
  by_cases hf : (sliceA A 10).1.2 = some .full
  · have hc := (slice_code A 10).2 hf
    rw [if_pos hf, if_pos hc]
    obtain ⟨g1, g2, g3, g4⟩ := sliceA_full' hf
    have hsz := h.inv.size
    have hlen : (sliceA A 10).1.1.length = A.size := by rw [g2, List.length_take]; omega
    by_cases h13 : (sliceA A 10).1.1[(sliceA A 10).1.1.length - 1]? = some 13
    · rw [if_pos h13, if_pos h13]
      refine ⟨rfl, ?_⟩
      rw [hlen] at h13 r1 ⊢
      have hx13 : A.left[A.size - 1]? = some 13 := by
        rw [g2, List.getElem?_take_of_lt (by omega)] at h13; exact h13
      obtain ⟨x', hx', q3, q4⟩ := r1.pos (by omega)
      obtain ⟨pre, hp⟩ := h.suf
      have hdl : s.left.drop (A.size - 1) = 13 :: s.left.drop A.size := by
        rw [h.left]
        obtain ⟨hlt, hxx⟩ := List.getElem?_eq_some_iff.1 hx13
        rw [List.drop_eq_getElem_cons hlt, hxx, show A.size - 1 + 1 = A.size by omega]
      have ht2 : Sim (s.take A.size true) (sliceA A 10).2 := by rw [← q1, hlen] at ht; exact ht
      have hb : (s.take A.size true).all = (pre ++ s.left.take (A.size - 1)) ++ ([13] ++ (s.take A.size true).left) := by
        show s.all = _ ++ (13 :: s.left.drop A.size)
        rw [← hdl, List.append_assoc, List.take_append_drop]; exact hp
      have herr : (sliceA A 10).2.err = false := by
        cases he : (sliceA A 10).2.err with
        | false => rfl
        | true => have := h.inv.left (r1.err he); omega
      have hbk := ht2.backed (A' := { (sliceA A 10).2 with left := 13 :: (sliceA A 10).2.left, last := -1, rune := -1 }) hb rfl rfl rfl rfl rfl ⟨hI.size, fun he => (by have he : (sliceA A 10).2.err = true := he; rw [herr] at he; cases he), fun he => (by have he : (sliceA A 10).2.err = true := he; rw [herr] at he; cases he), fun he => (by have he : (sliceA A 10).2.err = true := he; rw [herr] at he; cases he)⟩
      exact hbk.toOp rfl rfl rfl ⟨hI.size, fun he => (by have he : (sliceA A 10).2.err = true := he; rw [herr] at he; cases he), fun he => (by have he : (sliceA A 10).2.err = true := he; rw [herr] at he; cases he), fun he => (by have he : (sliceA A 10).2.err = true := he; rw [herr] at he; cases he)⟩
    · rw [if_neg h13, if_neg h13]
      refine ⟨rfl, ?_⟩
      rw [← q1] at ht
      exact ht.toOp rfl rfl rfl hI
  · have hc : ¬ ecode (sliceA A 10).1.2 = 3 := fun hh => hf ((slice_code A 10).1 hh)
    rw [if_neg hf, if_neg hc]
    rw [← q1] at ht
    by_cases h0 : (sliceA A 10).1.1.length = 0
    · rw [if_pos h0]
      refine ⟨?_, ht⟩
      have hnil := List.eq_nil_of_length_eq_zero h0
      rw [hnil]
      rfl
    · rw [if_neg h0]
      refine ⟨?_, ht⟩
      rw [if_pos (by omega)]
      rfl
theorem sim12 {s : SR} {A : AR} (h : Sim s A) (n : Int) (d : UInt8) : DoSim s A ⟨12, n, d⟩ := by
  have e1 : stepF A ⟨12, n, d⟩ = (⟨[], (A.size : Int), 0, false, 0⟩, A) := rfl
  have e : s.doF ⟨12, n, d⟩ = ((⟨[], (s.size : Int), 0, false, 0⟩, true), s) := rfl
  unfold DoSim
  rw [e, e1, h.size]
  exact .inr ⟨rfl, rfl, h⟩
theorem simDo {s : SR} {A : AR} (h : Sim s A) (st : Stp) (hk : 1 ≤ st.k ∧ st.k ≤ 12 ∧ st.k ≠ 11) : DoSim s A st := by
  obtain ⟨k, n, d⟩ := st
  obtain ⟨k, rfl⟩ := Int.eq_ofNat_of_zero_le (show 0 ≤ k from by have : 1 ≤ k := hk.1; omega)
  have hk2 : k < 13 := by have : (k : Int) ≤ 12 := hk.2.1; omega
  have hk1 : 1 ≤ k := by have : 1 ≤ (k : Int) := hk.1; omega
  have hk11 : k ≠ 11 := by have : (k : Int) ≠ 11 := hk.2.2; omega
  match k, hk1, hk2, hk11 with
  | 1, _, _, _ => exact sim1 h n d
  | 2, _, _, _ => exact sim2 h n d
  | 3, _, _, _ => exact sim3 h n d
  | 4, _, _, _ => exact sim4 h n d
  | 5, _, _, _ => exact sim5 h n d
  | 6, _, _, _ => exact sim6 h n d
  | 7, _, _, _ => exact sim7 h n d
  | 8, _, _, _ => exact sim8 h n d
  | 9, _, _, _ => exact sim910 h 9 (.inl rfl) n d
  | 10, _, _, _ => exact sim910 h 10 (.inr rfl) n d
  | 12, _, _, _ => exact sim12 h n d
  | 0, h, _, _ => omega
  | 11, _, _, h => omega
  | k + 13, _, h, _ => omega
theorem simRead {s : SR} {A A' : AR} {n : Int} {k : Nat} {e : Option Err} (h : Sim s A) (hr : readRel A (min n 4096).toNat k e A') : ReadOk s n ⟨A.left.take k, (k : Int), 0, false, ecode e⟩ ∧ Sim (s.readS ⟨A.left.take k, (k : Int), 0, false, ecode e⟩) A' := by
  obtain ⟨h1, h2, h3, h4, h5, h6, h7⟩ := hr
  have hlen : (A.left.take k).length = k := by rw [List.length_take]; omega
  have hl := h.left
  refine ⟨⟨?_, ?_, ?_, ?_, ?_, ?_⟩, ?_⟩
  · show ((A.left.take k).length : Int) ≤ max n 0
    rw [hlen]
    clear h7 h6 h5 h4 h3 hl h hlen
    omega
  · show (A.left.take k).length ≤ s.left.length
    rw [hlen, hl]; exact h2
  · show (k : Int) = ((A.left.take k).length : Int)
    rw [hlen]
  · show s.left.take (A.left.take k).length = A.left.take k
    rw [hlen, hl]
  · intro h0
    have h0 : 0 < (A.left.take k).length := h0
    rw [hlen] at h0
    rcases h7 with ⟨_, rfl, _⟩ | ⟨q, _⟩
    · rfl
    · omega
  · intro h0
    have h0 : (A.left.take k).length = 0 := h0
    rw [hlen] at h0
    rcases h7 with ⟨q, _⟩ | ⟨_, q, _⟩
    · omega
    · rcases q with rfl | ⟨q, rfl⟩
      · exact .inl rfl
      · exact .inr ⟨by rw [hl]; exact q, by show ecode (some (endErr A.f)) = s.endc; rw [ecode_end, h.endc]⟩
  · have hrt : Rt A k A' := ⟨h2, h5, h3, h4, h6, fun h0 => by
      rcases h7 with ⟨_, _, q, x, hx, q2⟩ | ⟨q, _⟩
      · exact ⟨x, hx, q2, q⟩
      · omega, fun h0 => by
      rcases h7 with ⟨q, _⟩ | ⟨_, _, q1, q2, q3⟩
      · omega
      · exact ⟨q1, q2, q3⟩⟩
    unfold SR.readS
    show Sim (if 0 < (A.left.take k).length then s.take (A.left.take k).length true else _) A'
    rw [hlen]
    by_cases h0 : 0 < k
    · rw [if_pos h0]; exact h.taken hrt
    · rw [if_neg h0]
      have hk0 : k = 0 := by omega
      exact h.toOp (by rw [h5, hk0]; rfl) h3 h4 (hrt.inv h.inv)
/-- whatever a reader answers can be -/
theorem ask_of_run : ∀ {ss : List Stp} {s : SR} {A A' : AR} {zs : List Ans}, Sim s A → (∀ st ∈ ss, 0 ≤ st.k ∧ st.k ≤ 12) → runRel A ss zs A' → askRel s ss zs := by
  intro ss
  induction ss with
  | nil =>
    intro s A A' zs h _ hr
    cases zs with
    | nil => trivial
    | cons z zs => exact False.elim hr
  | cons st ss ih =>
    intro s A A' zs h hok hr
    cases zs with
    | nil => exact False.elim hr
    | cons z zs =>
      obtain ⟨A1, h1, h2⟩ := runRel_cons.1 hr
      have hk := hok st (by simp)
      have hok' : ∀ x ∈ ss, 0 ≤ x.k ∧ x.k ≤ 12 := fun x hx => hok x (by simp [hx])
      rw [askRel_cons]
      refine ⟨h.fit.1, h.fit.2, ?_⟩
      unfold stepRel at h1
      by_cases h0 : st.k = 0
      · rw [if_pos h0] at h1 ⊢
        obtain ⟨k, e, hrr, rfl⟩ := h1
        obtain ⟨g1, g2⟩ := simRead h hrr
        exact ⟨g1, ih g2 hok' h2⟩
      · rw [if_neg h0] at h1 ⊢
        by_cases h11 : st.k = 11
        · rw [if_pos h11] at h1 ⊢
          obtain ⟨m, hm1, hm2, rfl, rfl⟩ := h1
          refine ⟨⟨?_, ?_, ?_, rfl⟩, ih h hok' h2⟩
          · show (0 : Int) ≤ (m : Int); omega
          · show (m : Int) ≤ (s.size : Int); rw [h.size]; omega
          · show (m : Int) ≤ (s.left.length : Int); rw [h.left]; omega
        · rw [if_neg h11] at h1 ⊢
          obtain ⟨hz, hA⟩ := h1
          subst hz; subst hA
          rcases simDo h st ⟨by omega, hk.2, h11⟩ with hd | ⟨hd1, hd2, hd3⟩
          · exact .inl hd
          · exact .inr ⟨hd1, hd2, ih hd3 hok' h2⟩
theorem sim_start {n : Nat} {all : List UInt8} (f : Bool) (hn : n ≤ 5000) (hl : all.length ≤ 20000) : Sim (startSR n all f) (fresh0 (max n 16) all f) := by
  refine ⟨rfl, rfl, rfl, ⟨[], rfl⟩, ?_, ?_, ⟨fun h => (by cases h), ?_⟩, ⟨?_, fun h => (by cases h), fun h => (by cases h), fun h => (by cases h)⟩, fun _ => ?_, fun _ h => (by cases h), fun _ h => ?_, fun _ _ => ?_⟩
  · show all.length ≤ 1048576; omega
  · show max n 16 ≤ 1048576; omega
  · show 0 + all.length ≤ all.length; omega
  · show 16 ≤ max n 16; omega
  · show false = true ↔ (0 : Int) ≤ -1
    constructor
    · intro hh; cases hh
    · intro hh; omega
  · have h : 0 < (0 : Nat) := h; omega
  · show (-1 : Int) < 0; omega
end Go.Proofs.YtmmjfpcmempeeaaDoor
