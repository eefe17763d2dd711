/- Where a byte stands first, in plain lists; bytes.IndexByte. -/
import Derived.Test.YtgbbogocfmepiaaDoorCopied
import Derived.Lib.BytesEntry
import Derived.Lib.Hide
namespace Go.Proofs.YtgbbogocfmepiaaDoor
open Go.RowKit
def pos (d : UInt8) : List UInt8 → Option Nat
  | [] => none
  | x :: l => if x = d then some 0 else (pos d l).map (· + 1)
theorem pos_lt {d : UInt8} {l : List UInt8} {i : Nat} (h : pos d l = some i) : i < l.length := by
  induction l generalizing i with
  | nil => cases h
  | cons x l ih =>
    unfold pos at h
    split at h
    · simp only [Option.some.injEq] at h; subst h; simp
    · cases hp : pos d l with
      | none => rw [hp] at h; cases h
      | some j => rw [hp] at h; simp only [Option.map_some, Option.some.injEq] at h; subst h; have := ih hp; simp; omega
theorem pos_some_append {d : UInt8} {l m : List UInt8} {i : Nat} (h : pos d l = some i) : pos d (l ++ m) = some i := by
  induction l generalizing i with
  | nil => cases h
  | cons x l ih =>
    rw [List.cons_append]
    unfold pos at h ⊢
    split at h
    · rename_i hx; rw [if_pos hx]; exact h
    · rename_i hx; rw [if_neg hx]
      cases hp : pos d l with
      | none => rw [hp] at h; cases h
      | some j => rw [hp] at h; rw [ih hp]; exact h
theorem pos_none_append {d : UInt8} {l m : List UInt8} (h : pos d l = none) : pos d (l ++ m) = (pos d m).map (· + l.length) := by
  induction l with
  | nil => cases hm : pos d m <;> simp [hm]
  | cons x l ih =>
    rw [List.cons_append]
    unfold pos at h
    split at h
    · cases h
    · rename_i hx
      cases hp : pos d l with
      | some j => rw [hp] at h; cases h
      | none =>
        rw [show pos d (x :: (l ++ m)) = (pos d (l ++ m)).map (· + 1) from if_neg hx, ih hp]
        cases pos d m with
        | none => rfl
        | some k => simp; omega
/-- the byte stands there -/
theorem pos_get {d : UInt8} {l : List UInt8} {i : Nat} (h : pos d l = some i) : l[i]? = some d := by
  induction l generalizing i with
  | nil => cases h
  | cons x l ih =>
    unfold pos at h
    split at h
    · rename_i hx; simp only [Option.some.injEq] at h; subst h; simp [hx]
    · cases hp : pos d l with
      | none => rw [hp] at h; cases h
      | some j => rw [hp] at h; simp only [Option.map_some, Option.some.injEq] at h; subst h; simpa using ih hp
theorem pos_take_some {d : UInt8} {l : List UInt8} {i n : Nat} (h : pos d (l.take n) = some i) : pos d l = some i := by
  have := pos_some_append (m := l.drop n) h
  rwa [List.take_append_drop] at this
theorem pos_take_of {d : UInt8} {l : List UInt8} {i n : Nat} (h : pos d l = some i) (hn : i < n) : pos d (l.take n) = some i := by
  cases hp : pos d (l.take n) with
  | some j => have := pos_take_some hp; rw [h] at this; exact this.symm
  | none =>
    have h2 := pos_none_append (m := l.drop n) hp
    rw [List.take_append_drop, h] at h2
    cases hq : pos d (l.drop n) with
    | none => rw [hq] at h2; cases h2
    | some k =>
      rw [hq] at h2
      simp only [Option.map_some, Option.some.injEq] at h2
      have h3 := pos_lt h
      rw [List.length_take] at h2
      omega
/-- as a number: -1 where it does not stand -/
def posI : Option Nat → Int
  | some i => (i : Int)
  | none => -1
theorem indexByte_pos (l : List UInt8) (d : UInt8) : Lib.indexByte l d = posI (pos d l) := by
  induction l with
  | nil => rfl
  | cons x l ih =>
    unfold Lib.indexByte pos
    rw [ih]
    by_cases hx : x = d
    · rw [if_pos (by simp [hx]), if_pos hx]; rfl
    · rw [if_neg (by simp [hx]), if_neg hx]
      cases pos d l with
      | none => rfl
      | some i =>
        rw [if_neg (by simp only [posI, beq_iff_eq]; omega)]
        simp [posI]
theorem bytesOf_map (bs : List UInt8) : Lib.bytesOf (bs.map fun b => (b.toNat : Int)) = bs := by
  unfold Lib.bytesOf
  rw [List.map_map]
  conv => rhs; rw [← List.map_id bs]
  apply List.map_congr_left; intro b _; simp
set_option maxHeartbeats 1000000 in
set_option maxRecDepth 100000 in
theorem bIndexByte {w : World} {g o c : Nat} {bs : List UInt8} (h : BytesA w (some ⟨g, o, none⟩) c bs) (d : UInt8) :
    Calls Tryd.prog 72 #[.slice (some ⟨g, o, none⟩) bs.length c, .int .u8 (d.toNat : Int)] w (Ret fun v w' => w = w' ∧ v = .int .i64 (posI (pos d bs))) := by
  have hc : ∀ i, i < bs.length → w.cell? ⟨g, o + i, none⟩ = some (.int .u8 ((bs.map fun b => (b.toNat : Int)).getD i 0)) := fun i hi => by
    rw [(h.2.2.2 _ rfl).2 i hi]
    simp [bv, hi]
  have hr := Lib.run_indexByteSlice (P := Tryd.prog) (w := w) g o bs.length c (bs.map fun b => (b.toNat : Int)) (by simp) hc (d.toNat : Int)
  rw [bytesOf_map, indexByte_pos, show ((d.toNat : Int)).toNat.toUInt8 = d by simp] at hr
  have HR := Lib.hid hr
  clear hr hc h
  go_enter Tryd.func72, Tryd.ntmps72
  go_wp2
  rw [run_callFunc_extern Tryd.func79 (by kernel_rfl) (by kernel_rfl) (by kernel_rfl) (e := Extern.BytealgIndexByte.indexByte) (by kernel_rfl), HR.out]
  simp only [Result.andThen]
  rw [Oper.upon_value]
  go_wp2
  go_ret
  exact ⟨rfl, rfl⟩
end Go.Proofs.YtgbbogocfmepiaaDoor
