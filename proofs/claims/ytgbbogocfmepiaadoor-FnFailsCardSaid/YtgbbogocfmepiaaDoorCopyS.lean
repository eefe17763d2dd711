/- copy from a string, of which a part has room. -/
import Derived.Test.YtgbbogocfmepiaaDoorMem
import Derived.Test.YtgbbogocfmepiaaDoorLaws
import Derived.Lib.BufferWrite
namespace Go.Proofs.YtgbbogocfmepiaaDoor
open Go.RowKit
theorem byteCells_bv (l : List UInt8) : Lib.byteCells l = l.map bv := rfl
theorem run_copyS {P : Program} (w : World) (dT sT ty elem : TypeId) (g o dLen dCap : Nat) (bs : List UInt8) (cur : Array Value) (t : TypeId) (m : Nat) (hm : m = min bs.length dLen)
    (hu : P.underlying dT = some (.slice elem)) (hs : (P.info? elem).map (·.size) = some 1) (hg : w.heap[g]? = some (.cells cur t (0, 0))) (hfit : o + m ≤ cur.size) :
    (Builtin.copy_ #[dT, sT] ty #[.slice (some ⟨g, o, none⟩) dLen dCap, .string ⟨bs.toArray⟩]).run P w =
      .ok (.int .i64 (m : Int)) (w.setRow g (cur.toList.take o ++ (bs.take m).map bv ++ cur.toList.drop (o + m)).toArray) := by
  have hlen : ((bs.take m).map bv).length = m := by rw [List.length_map, List.length_take]; omega
  have hst := run_storeCells_at P g o t ((bs.take m).map bv) 0 cur w hg (by rw [hlen]; simpa using hfit) (oneCell_bytes _)
  have hsz : (⟨bs.toArray⟩ : ByteArray).size = bs.length := rfl
  have hmin : Nat.min bs.length dLen = m := hm.symm
  have htk : List.take m (List.map (fun b : UInt8 => Value.int IntKind.u8 (b.toNat : Int)) bs) = (bs.take m).map bv := by rw [← List.map_take]; rfl
  rw [hlen] at hst
  simp only [Nat.add_zero] at hst
  cases hq : P.info? elem with
  | none => simp [hq] at hs
  | some i =>
    simp [Builtin.copy_, run_underlying hu, Builtin.lenOf, Builtin.firstCells, sizeOf, typeInfo, hq, hsz, hmin]
    rw [htk, hst]
    simp [Result.andThen, goInt]
theorem wp_copyS {P : Program} {w : World} {o : Oper} {a : Act} {K : Act → World → Prop} {Q : Exit → Act → World → Prop} {t e : TypeId} {z : Value} {bytes : Nat} (E : ElemI P t e z 1 bytes) (d s : Operand) (sT : TypeId)
    (ho : o.op = .call { callee := .builtin .copy, args := #[d, s], argTypes := #[t, sT] })
    (g off dLen dCap : Nat) (hd : a.eval d = .slice (some ⟨g, off, none⟩) dLen dCap) (cur : Array Value) (ty : TypeId) (hg : w.heap[g]? = some (.cells cur ty (0, 0)))
    (bs : List UInt8) (hx : a.eval s = .string ⟨bs.toArray⟩) (m : Nat) (hm : m = min bs.length dLen) (hfit : off + m ≤ cur.size)
    (h : ∀ w', w'.heap[g]? = some (.cells (splice cur.toList off ((bs.take m).map bv)).toArray ty (0, 0)) → Upd (fun k => k = g) w w' → w'.heap.size = w.heap.size → K (a.put o.dst (.int .i64 (m : Int))) w') : o.wp P a w K Q := by
  obtain ⟨i, hi, hz0, hsz, hby⟩ := E.hi
  have hone : (P.info? e).map (·.size) = some 1 := by rw [hi]; simp [hsz]
  have hr := run_copyS (P := P) w t sT o.type e g off dLen dCap bs cur ty m hm E.ht hone hg hfit
  unfold Oper.wp execOp
  simp only [ho, resolve, invoke, builtin, Sem.run_bind, Sem.run_pure, Result.andThen_ok, List.map_toArray, List.map_cons, List.map_nil, hd, hx, hr]
  refine h _ ?_ ((Upd.refl (fun k => k = g) _).setRow (fun _ => rfl) _) (by simp [World.setRow])
  rw [setRow_heap w g cur _ ty _ hg]
  have hlen : ((bs.take m).map bv).length = m := by rw [List.length_map, List.length_take]; omega
  simp [splice]
  omega
end Go.Proofs.YtgbbogocfmepiaaDoor
