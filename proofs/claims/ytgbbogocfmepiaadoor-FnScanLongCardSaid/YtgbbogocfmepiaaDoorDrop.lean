/- dropCR and spec.DropCR, walked: both leave out a carriage return at the end. -/
import Derived.Test.YtgbbogocfmepiaaDoorCopied
namespace Go.Proofs.YtgbbogocfmepiaaDoor
open Go.RowKit
def dcr (bs : List UInt8) : List UInt8 := if bs.getLast? = some 13 then bs.dropLast else bs
theorem dcr_le (bs : List UInt8) : (dcr bs).length ≤ bs.length := by unfold dcr; split <;> simp
theorem dcr_take (bs : List UInt8) : dcr bs = bs.take (dcr bs).length := by
  unfold dcr; split
  · rw [List.dropLast_eq_take]; simp
  · simp
/-- a part at the beginning -/
theorem BytesA.dcr {w : World} {a : Option Addr} {c : Nat} {bs : List UInt8} (h : BytesA w a c bs) : BytesA w a c (dcr bs) := by
  rw [dcr_take]; exact h.take _
/-- the last byte's cell -/
theorem BytesA.last {w : World} {a : Option Addr} {c : Nat} {bs : List UInt8} (h : BytesA w a c bs) (hn : bs ≠ []) :
    ∃ b o x, a = some ⟨b, o, none⟩ ∧ bs.getLast? = some x ∧ w.cell? ⟨b, o + (bs.length - 1), none⟩ = some (.int .u8 (x.toNat : Int)) := by
  have hl : 0 < bs.length := List.length_pos_iff.2 hn
  cases a with
  | none => have := h.1; have := h.2.2.1 rfl; omega
  | some p =>
    obtain ⟨hs, hc⟩ := h.2.2.2 p rfl
    have hs := hs hn
    obtain ⟨b, o, s⟩ := p
    subst hs
    exact ⟨b, o, bs[bs.length - 1], rfl, by rw [List.getLast?_eq_getElem?, List.getElem?_eq_getElem], hc _ (by omega)⟩
theorem specDropCR (a : Option Addr) (c : Nat) (bs : List UInt8) (w : World) (hb : BytesA w a c bs) :
    Calls Tryd.prog 53 #[.slice a bs.length c] w (Ret fun v w' => w = w' ∧ v = .slice a (dcr bs).length c) := by
  have h1 := hb.1
  have h2 := hb.2.1
  unfold maxLen at h2
  by_cases hn : bs = []
  · subst hn
    simp only [List.length_nil]
    clear hb
    go_enter Tryd.func53, Tryd.ntmps53
    go_wp2
    go_ret
    exact ⟨rfl, rfl⟩
  · obtain ⟨b, o, x, rfl, hx, hc⟩ := hb.last hn
    have hl : 0 < bs.length := List.length_pos_iff.2 hn
    clear hb hn
    by_cases h13 : x = 13
    · have hx13 : ((x.toNat : Int) == 13) = true := by subst h13; rfl
      have hd : (dcr bs).length = bs.length - 1 := by unfold dcr; rw [if_pos (by rw [hx, h13])]; simp
      rw [hd]
      clear hx h13 hd
      go_enter Tryd.func53, Tryd.ntmps53
      go_wp2
      go_ret
      exact ⟨rfl, rfl⟩
    · have hx13 : ((x.toNat : Int) == 13) = false := by
        simp only [beq_eq_false_iff_ne, ne_eq]; intro h; apply h13; apply UInt8.toNat_inj.1; simp; omega
      have hd : dcr bs = bs := by unfold dcr; rw [if_neg (by rw [hx]; simpa using h13)]
      rw [hd]
      clear hx h13 hd
      go_enter Tryd.func53, Tryd.ntmps53
      go_wp2
      go_ret
      exact ⟨rfl, rfl⟩
theorem bufioDropCR (a : Option Addr) (c : Nat) (bs : List UInt8) (w : World) (hb : BytesA w a c bs) :
    Calls Tryd.prog 73 #[.slice a bs.length c] w (Ret fun v w' => w = w' ∧ v = .slice a (dcr bs).length c) := by
  have h1 := hb.1
  have h2 := hb.2.1
  unfold maxLen at h2
  by_cases hn : bs = []
  · subst hn
    simp only [List.length_nil]
    clear hb
    go_enter Tryd.func73, Tryd.ntmps73
    go_wp2
    go_ret
    exact ⟨rfl, rfl⟩
  · obtain ⟨b, o, x, rfl, hx, hc⟩ := hb.last hn
    have hl : 0 < bs.length := List.length_pos_iff.2 hn
    clear hb hn
    by_cases h13 : x = 13
    · have hx13 : ((x.toNat : Int) == 13) = true := by subst h13; rfl
      have hd : (dcr bs).length = bs.length - 1 := by unfold dcr; rw [if_pos (by rw [hx, h13])]; simp
      rw [hd]
      clear hx h13 hd
      go_enter Tryd.func73, Tryd.ntmps73
      go_wp2
      go_ret
      exact ⟨rfl, rfl⟩
    · have hx13 : ((x.toNat : Int) == 13) = false := by
        simp only [beq_eq_false_iff_ne, ne_eq]; intro h; apply h13; apply UInt8.toNat_inj.1; simp; omega
      have hd : dcr bs = bs := by unfold dcr; rw [if_neg (by rw [hx]; simpa using h13)]
      rw [hd]
      clear hx h13 hd
      go_enter Tryd.func73, Tryd.ntmps73
      go_wp2
      go_ret
      exact ⟨rfl, rfl⟩
end Go.Proofs.YtgbbogocfmepiaaDoor
