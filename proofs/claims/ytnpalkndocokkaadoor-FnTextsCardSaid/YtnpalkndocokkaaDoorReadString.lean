/- (*bufio.Reader).ReadString. -/
import Derived.Test.YtnpalkndocokkaaDoorReadBytes
import Derived.Test.YtnpalkndocokkaaDoorBuild
namespace Go.Proofs.YtnpalkndocokkaaDoor
open Go.RowKit
/-- bytes told as a string -/
def RTPost (S : Err → Addr) (w : World) (L : Loc) (x : List (List UInt8) × ((List UInt8 × Option Err) × AR)) (v : Value) (w' : World) : Prop :=
  ∃ st', v = .tuple #[strV (x.1.flatten ++ x.2.1.1), eV S x.2.1.2] ∧ Rd S w' L st' ∧ Upd (In L) w w' ∧ Abs st' x.2.2
set_option maxRecDepth 100000 in
set_option maxHeartbeats 2000000 in
theorem readString {S : Err → Addr} {B : Nat} {w : World} {L : Loc} {st : RS} {A0 : AR} (E : Env S B w) (hB : B ≤ L.lo) (h : Rd S w L st) (hA : Abs st A0) (hhi : L.hi ≤ w.heap.size) (hl : A0.left.length ≤ 1048576) (d : UInt8) (htot : (frags d (A0.left.length + 1) A0).1.flatten.length + (frags d (A0.left.length + 1) A0).2.1.1.length ≤ 1048576) :
    Calls Tryd.prog 50 #[.pointer (some ⟨L.b, 0, none⟩), .int .u8 (d.toNat : Int)] w (Ret (RTPost S w L (frags d (A0.left.length + 1) A0))) := by
  have K1 := Lib.hid (collect E hB h hA hhi hl d)
  obtain ⟨X, hX⟩ : ∃ X, X = frags d (A0.left.length + 1) A0 := ⟨_, rfl⟩
  rw [← hX] at K1 htot ⊢
  obtain ⟨m, hm⟩ : ∃ m, X.1.flatten.length + X.2.1.1.length = m := ⟨_, rfl⟩
  have HM := Lib.hid hm
  rw [hm] at htot
  have HHI := Lib.hid hhi
  clear E h hA hl hX hm hhi
  go_enter Tryd.func50, Tryd.ntmps50
  go_wp2_with (first | (go_at_call 60; refine callRet K1.out ?_; intro v w1 hv; obtain ⟨st1, lv, ab, c, rfl, how, hby, hpb, hrd, hu, habs⟩ := hv; rw [HM.out]; obtain ⟨la, lc, rfl, hpc⟩ := how.pieces; have HPC := Lib.hid hpc; have HBY := Lib.hid hby; have HPB := Lib.hid hpb; have HRD := Lib.hid hrd; have HU := Lib.hid hu; have HABS := Lib.hid habs; clear how hpc hby hpb hrd hu habs) | (go_at_call 61; refine callRet (bGrow (base := w1.heap.size) (Nat.le_refl _) (heap_alloc_new w1 _) (by omega)) ?_; rintro _ w2 ⟨hu2, v2, hb2⟩; have HU2 : Hid (Upd (fun j => w1.heap.size ≤ j) w1 w2) := ((Upd.refl _ _).alloc _).trans hu2 (fun k hk hlt => by have hk : k = w1.heap.size := hk; omega); have HB2 := Lib.hid hb2; clear hu2 hb2))
  have hpl := HPC.out.1
  have hpm := HPC.out.2.1
  unfold maxLen at hpm
  go_loopw [25] (fun i wr => ∃ (k : Nat) (v : Value), i = .int .i64 (k : Int) ∧ k ≤ X.1.length ∧ Bld wr w1.heap.size w1.heap.size (.pointer (some ⟨w1.heap.size, 0, none⟩)) v (X.1.take k).flatten ∧ Upd (fun j => w1.heap.size ≤ j) w1 wr) (fun i _ => X.1.length - (intOf i).toNat)
  case atStart => exact ⟨0, v2, rfl, Nat.zero_le _, HB2.out, HU2.out⟩
  case round =>
    obtain ⟨k, vb, rfl, hk, hbld, hu⟩ := hrel
    have hbel : Below w1.heap.size w1 wr := hu.below (fun j hj => hj) (Nat.le_refl _)
    have HBL := Lib.hid hbld
    have HU3 := Lib.hid hu
    have hXm := HM.out
    have hsum : (X.1.take k).flatten.length ≤ X.1.flatten.length := lensum_take_le_all X.1 k
    clear hbld hu
    by_cases hlt : k < X.1.length
    · obtain ⟨b, o, ai, ci, pl, hla, hm', hc, hb1, hb2, hby⟩ := (HPC.out.below hbel).at hlt
      subst hla
      have e1 : (X.1.take (k + 1)).flatten = (X.1.take k).flatten ++ X.1[k] := flatten_take_succ X.1 k hlt
      have e2 := lensum_take_le_all X.1 (k + 1)
      rw [e1, List.length_append, hm'] at e2
      have KW := Lib.hid (bWrite HBL.out hby hm' (by omega) HU3.out.size)
      have HE1 := Lib.hid e1
      clear hm' hby e1 e2 hbel hsum hXm
      go_wp2_with (go_at_call 62; refine callRet KW.out ?_; rintro _ w3 ⟨hu3, v3, hb3⟩; have HU4 : Hid (Upd (fun j => w1.heap.size ≤ j) w1 w3) := HU3.out.trans hu3 (fun _ h _ => h); have HB4 := Lib.hid hb3; clear hu3 hb3)
      go_roundw
      case rel => exact ⟨k + 1, v3, by go_num, by omega, by rw [HE1.out]; exact HB4.out, HU4.out⟩
      case measure => simp [intOf]; omega
    · obtain rfl : k = X.1.length := by omega
      rw [List.take_length] at hsum
      have HBL' := HBL.out
      rw [List.take_length] at HBL'
      have hby := HBY.out.upd HU3.out (fun p hp _ hh => by have := HPB.out p hp; have := HRD.out.bbhi; have := HHI.out; have := HU.out.size; omega)
      obtain ⟨pl, hpl'⟩ : ∃ pl, X.2.1.1.length = pl := ⟨_, rfl⟩
      have KW := Lib.hid (bWrite HBL' hby hpl' (by omega) HU3.out.size)
      have HPL := Lib.hid hpl'
      clear hby hpl' hbel hsum hXm HBL'
      go_wp2_with (first | (go_at_call 62; rw [HPL.out]; refine callRet KW.out ?_; rintro _ w3 ⟨hu3, v3, hb3⟩; have HU4 : Hid (Upd (fun j => w1.heap.size ≤ j) w1 w3) := HU3.out.trans hu3 (fun _ h _ => h); have HB4 := Lib.hid hb3; clear hu3 hb3) | (go_at_call 63; refine callRet (bString HB4.out) ?_; rintro _ w5 ⟨rfl, hu5⟩; have HU5 : Hid (Upd (fun j => w1.heap.size ≤ j) w1 w5) := HU4.out.trans hu5 (fun _ h _ => h); clear hu5))
      go_ret2
      have hz := HU.out.size
      have hh := HHI.out
      refine ⟨st1, rfl, HRD.out.upd HU5.out (fun k hk hin => by have hk : w1.heap.size ≤ k := hk; have := hin.2; omega), HU.out.trans HU5.out (fun k hk hlt => by have hk : w1.heap.size ≤ k := hk; omega), HABS.out⟩
end Go.Proofs.YtnpalkndocokkaaDoor
