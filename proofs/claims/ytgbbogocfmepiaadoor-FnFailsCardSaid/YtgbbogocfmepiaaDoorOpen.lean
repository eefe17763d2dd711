/- What came in, opened: bytes. -/
import Derived.Test.YtgbbogocfmepiaaDoorMem
import Derived.ProofKit
import Derived.OpenShut
namespace Go.Proofs.YtgbbogocfmepiaaDoor
open Go.ChangeShapes Go.WideShapes Go.ChangeAt Go.RowKit
theorem u8_of_wf {n : Int} (h : (Lit.int .u8 n).wf = true) : n = ((UInt8.ofNat n.toNat).toNat : Int) := by
  have hb : 0 ≤ n ∧ n ≤ 255 := by simpa [Lit.wf, IntKind.min, IntKind.max, IntKind.signed, IntKind.bits] using h
  simp only [UInt8.toNat_ofNat']
  omega
/-- a slice of bytes that came in -/
theorem open_bytes {P : Program} {W : World} {H : Type} {enc : TypeId × Value → H} {t e base b : Nat} {hd : Bool} {v : Value} {d : DataW H} {p : List MemPlace} (ht : P.underlying t = some (.slice e)) (he : P.underlying e = some (.int .u8)) (hc : P.cellsOf e = 1)
    (hval : Value.okWide P W .any base t v) (h : DataW.Trod enc P W b (fun _ => true) hd t v d p) : ∃ bs, BytesAt W v bs := by
  obtain ⟨a0, len0, cap0, rfl⟩ := okWide_slice ht hval
  obtain ⟨fuel, hf⟩ := h
  rcases open_ints ht he hc hf with ⟨hcs, _⟩ | ⟨x, l, c, zs, hcs, _, hl, hm, hz, _, hcell, hwz⟩
  · simp [Value.cells] at hcs
    obtain ⟨rfl, rfl, rfl⟩ := hcs
    exact ⟨[], none, 0, rfl, Nat.le_refl _, Nat.zero_le _, fun _ => rfl, fun p hp => by cases hp⟩
  · simp [Value.cells] at hcs
    obtain ⟨rfl, rfl, rfl⟩ := hcs
    have hzl : zs.length = cap0 := by simpa using hz
    have hlen : ((zs.take len0).map fun n => UInt8.ofNat n.toNat).length = len0 := by simp; omega
    refine ⟨(zs.take len0).map fun n => UInt8.ofNat n.toNat, some x, cap0, by rw [hlen], by omega, hm, by simp, fun q hq => ?_⟩
    simp only [Option.some.injEq] at hq
    subst hq
    have hsp : len0 ≠ 0 → x.spot = none := by
      intro h0
      have := hcell 0 (by omega)
      rw [show x.add 0 = x from rfl] at this
      unfold World.cell? at this
      split at this
      · split at this
        · cases this
        · rename_i hs; simpa using hs
      · cases this
    refine ⟨fun hn => hsp (by intro h0; apply hn; apply List.eq_nil_of_length_eq_zero; rw [hlen, h0]), fun i hi => ?_⟩
    rw [hlen] at hi
    have hs := hsp (by omega)
    have hadd : x.add i = ⟨x.block, x.off + i, none⟩ := by
      obtain ⟨xb, xo, xs⟩ := x
      subst hs
      unfold Addr.add; split <;> simp_all
    have := hcell i (by omega)
    rw [hadd] at this
    rw [this]
    have hi' : i < zs.length := by omega
    simp only [List.getElem_map, List.getElem_take, bv, Option.some.injEq, Value.int.injEq, true_and]
    have hw := hwz zs[i] (List.getElem_mem hi')
    rw [List.getD_eq_getElem?_getD, List.getElem?_eq_getElem hi', Option.getD_some]
    exact u8_of_wf hw
end Go.Proofs.YtgbbogocfmepiaaDoor
