/- impl.Peeked, impl.Discarded. -/
import Derived.Test.YtmmjfpcmempeeaaDoorDiscard
import Derived.Test.YtmmjfpcmempeeaaDoorOut
namespace Go.Proofs.YtmmjfpcmempeeaaDoor
open Go.RowKit
theorem abs_fresh (n : Nat) (ps : List (List UInt8)) (f : Bool) : Abs (fresh n ps f) (fresh0 n ps.flatten f) where
  left := rem_fresh n ps f
  size := by simp [fresh, fresh0]
  f := rfl
  err := rfl
  last := rfl
  rune := rfl
  pos := fun h => (by simp [fresh] at h)
  nz := fun h => (by simp [fresh] at h)
  back := fun h => (by simp [fresh] at h)
/-- bytes and a code -/
def BCPost (w : World) (x : List UInt8 × Option Err) (v : Value) (w' : World) : Prop := New w w' ∧ ∃ b, v = .tuple #[b, .int .i64 (ecode x.2 : Int)] ∧ BytesAt w' b x.1
def NCPost (w : World) (x : Int × Option Err) (v : Value) (w' : World) : Prop := New w w' ∧ v = .tuple #[.int .i64 x.1, .int .i64 (ecode x.2 : Int)]
theorem peekA_le (A : AR) (n : Int) : (peekA A n).1.1.length ≤ A.left.length := by
  unfold peekA
  split
  · exact Nat.zero_le _
  · split
    · exact List.length_take_le' _ _
    · split
      · exact Nat.le_refl _
      · exact List.length_take_le' _ _
end Go.Proofs.YtmmjfpcmempeeaaDoor
