/- The laws on append, copy and make, and how a contract of a call is used. -/
import Derived.Test.YtgbbogocfmepiaaDoorMem
namespace Go.Proofs.YtgbbogocfmepiaaDoor
open Go.RowKit
/-- a slice type, its elements' row of the table -/
structure ElemI (P : Program) (t e : TypeId) (z : Value) (size bytes : Nat) : Prop where
  ht : P.underlying t = some (.slice e)
  hi : ∃ i, P.info? e = some i ∧ i.zero = some z ∧ i.size = size ∧ i.bytes = bytes
  hz : z.cells.size = size
  pos : 0 < size
theorem ElemI.mk' {P : Program} {t e : TypeId} {z : Value} {size bytes : Nat} (ht : P.underlying t = some (.slice e)) (h : (P.info? e).map (fun i => (i.zero, i.size, i.bytes)) = some (some z, size, bytes)) (hz : z.cells.size = size) (hp : 0 < size) : ElemI P t e z size bytes := by
  obtain ⟨i, hi, h1, h2, h3⟩ := info_parts h
  exact ⟨ht, ⟨i, hi, h1, h2, h3⟩, hz, hp⟩
section
variable {P : Program} {w : World} {o : Oper} {a : Act} {K : Act → World → Prop} {Q : Exit → Act → World → Prop} {t e : TypeId} {z : Value} {size bytes : Nat}
/-- append to a row of the call's own -/
theorem wp_append (E : ElemI P t e z size bytes) (s x : Operand)
    (ho : o.op = .call { callee := .builtin .append, args := #[s, x], argTypes := #[t, t] })
    (base : Nat) (v : Value) (n : Nat) (xs : List Value) (hs : a.eval s = v) (hown : w.ownsRow base e size v n xs)
    (ax : Option Addr) (m c : Nat) (news : List Value) (hx : a.eval x = .slice ax m c) (hl : news.length = m * size) (hnil : ax = none → m = 0 ∧ c = 0)
    (hnews : ∀ p, ax = some p → ∀ j u, news[j]? = some u → w.cell? (p.add j) = some u) (h1 : ∀ u ∈ news, u.oneCell' = true)
    (h63 : n + m ≤ maxLen) (hbytes : (n + m) * bytes ≤ 140737488355328) (hbase : base ≤ w.heap.size)
    (h : ∀ v' w', w'.ownsRow base e size v' (n + m) (xs ++ news) → w.grownBy w' v.ownBlock → (v' = .slice none 0 0 ↔ v = .slice none 0 0 ∧ m = 0) → K (a.put o.dst v') w') : o.wp P a w K Q := by
  obtain ⟨i, hi, hz0, hsz, hby⟩ := E.hi
  cases ax with
  | some ad => exact wp_append_own w s x t ho base e i z size bytes E.ht hi hz0 hsz hby E.hz E.pos v n xs hs hown ad m c news hx hl (hnews ad rfl) h1 h63 hbytes hbase h
  | none =>
    obtain ⟨rfl, rfl⟩ := hnil rfl
    have hn : news = [] := List.eq_nil_of_length_eq_zero (by simpa using hl)
    subst hn
    have hr := run_append_owned_none (P := P) w base t o.type e i size E.ht hi v n xs hown
    unfold Oper.wp execOp
    simp only [ho, resolve, invoke, builtin, Sem.run_bind, Sem.run_pure, Result.andThen_ok, List.map_toArray, List.map_cons, List.map_nil, hs, hx, hr]
    refine h v w (by simpa using hown) (World.grownBy.refl _ _) (by simp)
/-- copy into a row that is known whole -/
theorem wp_copy (E : ElemI P t e z 1 bytes) (d s : Operand) (sT : TypeId)
    (ho : o.op = .call { callee := .builtin .copy, args := #[d, s], argTypes := #[t, sT] })
    (g off dLen dCap : Nat) (hd : a.eval d = .slice (some ⟨g, off, none⟩) dLen dCap) (cur : Array Value) (ty : TypeId) (hg : w.heap[g]? = some (.cells cur ty (0, 0)))
    (ax : Option Addr) (m c : Nat) (hx : a.eval s = .slice ax m c) (hnil : ax = none → m = 0 ∧ c = 0) (cs : List Value) (hn : cs.length = min m dLen)
    (hsrc : ∀ p, ax = some p → ∀ j u, cs[j]? = some u → w.cell? (p.add j) = some u) (hfit : off + cs.length ≤ cur.size) (h1 : ∀ u ∈ cs, u.oneCell' = true)
    (h : ∀ w', w'.heap[g]? = some (.cells (splice cur.toList off cs).toArray ty (0, 0)) → Upd (fun k => k = g) w w' → w'.heap.size = w.heap.size → K (a.put o.dst (.int .i64 cs.length)) w') : o.wp P a w K Q := by
  obtain ⟨i, hi, hz0, hsz, hby⟩ := E.hi
  have hone : (P.info? e).map (·.size) = some 1 := by rw [hi]; simp [hsz]
  unfold Oper.wp execOp
  cases ax with
  | some ad =>
    have hr := run_copy_row (P := P) w t sT o.type e g off dLen dCap ad m c cur ty cs E.ht hone hg hn (hsrc ad rfl) hfit h1
    simp only [ho, resolve, invoke, builtin, Sem.run_bind, Sem.run_pure, Result.andThen_ok, List.map_toArray, List.map_cons, List.map_nil, hd, hx, hr]
    refine h _ ?_ ((Upd.refl (fun k => k = g) _).setRow (fun _ => rfl) _) (by simp [World.setRow])
    rw [setRow_heap w g cur _ ty _ hg]
    simp [splice]
  | none =>
    obtain ⟨rfl, rfl⟩ := hnil rfl
    have hn : cs = [] := List.eq_nil_of_length_eq_zero (by simpa using hn)
    subst hn
    have hr := run_copy_nil (P := P) w t sT o.type e ⟨g, off, none⟩ dLen dCap E.ht (by rw [hi]; rfl)
    simp only [ho, resolve, invoke, builtin, Sem.run_bind, Sem.run_pure, Result.andThen_ok, List.map_toArray, List.map_cons, List.map_nil, hd, hx, hr]
    refine h w ?_ (Upd.refl _ _) rfl
    rw [hg]; simp [splice]
/-- a store of one cell; the world behind it by a name -/
theorem wp_store {ty : TypeId} (hsz : (P.info? ty).map (·.size) = some 1) (x y : Operand) (ho : o.op = .store ty x y) (b j : Nat) (hx : a.eval x = .pointer (some ⟨b, j, none⟩)) (v : Value) (hy : a.eval y = v) (h1 : v.oneCell' = true)
    (cs : Array Value) (T : TypeId) (hb : w.heap[b]? = some (.cells cs T (0, 0))) (hj : j < cs.size)
    (h : ∀ w', w'.heap[b]? = some (.cells (cs.setIfInBounds j v) T (0, 0)) → Upd (fun k => k = b) w w' → w'.heap.size = w.heap.size → K (a.put o.dst undef) w') : o.wp P a w K Q := by
  obtain ⟨i, hi, hs⟩ : ∃ i, P.info? ty = some i ∧ i.size = 1 := by
    cases hq : P.info? ty with
    | none => simp [hq] at hsz
    | some i => exact ⟨i, rfl, by simpa [hq] using hsz⟩
  have hv : v.cells = #[v] := by cases v <;> first | rfl | (cases h1; done)
  have hc : w.cell? ⟨b, j, none⟩ = some cs[j] := by simp [World.cell?, hb, hj]
  have hf : w.frozen? ⟨b, j, none⟩ = false := by simp [World.frozen?, hb]
  have hr : (Instr.storeAt ty (.pointer (some ⟨b, j, none⟩)) v).run P w = .ok () (w.setCell ⟨b, j, none⟩ v) := by
    have hst := run_store P w ⟨b, j, none⟩ v .plain h1
    rw [hc] at hst
    simp only [hf] at hst
    simp only [Instr.storeAt, Instr.sureAddr, storeVar, sizeOf, typeInfo, program, Sem.run_bind, Sem.run, Sem.run_pure, Result.andThen_ok, hi, hs, hv, Array.size, List.length_cons, List.length_nil, storeCells, Addr.add, if_true]
    simp [hst]
  unfold Oper.wp execOp
  simp only [ho, hx, hy, Sem.run_bind, hr, Result.andThen_ok, Sem.run_pure]
  refine h _ ?_ ((Upd.refl (fun k => k = b) _).setCell (fun _ => rfl) _) (by simp [World.setCell])
  simp only [World.setCell, Array.getElem?_modify, if_true, hb, Option.map_some]
  rfl
/-- a struct stored whole over its block -/
theorem wp_storeAll {ty : TypeId} {n : Nat} (hsz : (P.info? ty).map (·.size) = some n) (x y : Operand) (ho : o.op = .store ty x y) (b : Nat) (hx : a.eval x = .pointer (some ⟨b, 0, none⟩)) (vs : Array Value) (hy : a.eval y = .agg vs) (hn : vs.size = n) (h1 : ∀ v ∈ vs.toList, v.oneCell' = true)
    (cs : Array Value) (T : TypeId) (hb : w.heap[b]? = some (.cells cs T (0, 0))) (hcs : cs.size = n)
    (h : ∀ w', w'.heap[b]? = some (.cells vs T (0, 0)) → Upd (fun k => k = b) w w' → w'.heap.size = w.heap.size → K (a.put o.dst undef) w') : o.wp P a w K Q := by
  obtain ⟨i, hi, hs⟩ : ∃ i, P.info? ty = some i ∧ i.size = n := by
    cases hq : P.info? ty with
    | none => simp [hq] at hsz
    | some i => exact ⟨i, rfl, by simpa [hq] using hsz⟩
  have hst := run_storeCells_at P b 0 T vs.toList 0 cs w hb (by simp; omega) h1
  have hr : (Instr.storeAt ty (.pointer (some ⟨b, 0, none⟩)) (.agg vs)).run P w = .ok () (w.setRow b vs) := by
    simp only [Instr.storeAt, Instr.sureAddr, storeVar, sizeOf, typeInfo, program, Sem.run_bind, Sem.run, Sem.run_pure, Result.andThen_ok, hi, Value.cells]
    rw [hs]
    simp [hn, hst]
    rw [List.drop_eq_nil_of_le (by simp; omega)]
    simp
  unfold Oper.wp execOp
  simp only [ho, hx, hy, Sem.run_bind, hr, Result.andThen_ok, Sem.run_pure]
  refine h _ ?_ ((Upd.refl (fun k => k = b) _).setRow (fun _ => rfl) _) (by simp [World.setRow])
  exact setRow_heap w b cs _ T _ hb
/-- a new row of zero values -/
theorem wp_make (E : ElemI P t e z size bytes) (l c : Operand) (ho : o.op = .makeSlice t l c) (kl kc : IntKind) (n m : Nat) (hl : a.eval l = .int kl n) (hc : a.eval c = .int kc m) (hnm : n ≤ m)
    (hb : bytes * m ≤ 281474976710656) (h63 : m ≤ maxLen) (h : K (a.put o.dst (.slice (some ⟨w.heap.size, 0, none⟩) n m)) (w.alloc (.cells (madeCells z.cells (m * size)) e))) : o.wp P a w K Q := by
  obtain ⟨i, hi, hz0, hsz, hby⟩ := E.hi
  have hr := run_make (P := P) w t e i z E.ht hi hz0 kl kc n m (by omega) (by omega) (by rw [hby]; have : ((bytes * m : Nat) : Int) ≤ 281474976710656 := by omega
                                                                                         rwa [Int.natCast_mul] at this) (by simp only [maxLen] at h63; omega)
  simp only [Int.toNat_natCast, hsz] at hr
  unfold Oper.wp execOp
  simp only [ho, hl, hc, Sem.run_bind, hr, Result.andThen_ok, Sem.run_pure]
  exact h
end
/-! ### bytes as a text -/
def bstr (bs : List UInt8) : ByteArray := ⟨bs.toArray⟩
theorem strOfNums_bytes (bs : List UInt8) : strOfNums (bs.map fun b => (b.toNat : Int)) = bstr bs := by
  unfold strOfNums bstr
  have : (bs.map fun b => (b.toNat : Int)).map (fun n => UInt8.ofNat n.toNat) = bs := by
    rw [List.map_map]
    conv => rhs; rw [← List.map_id bs]
    apply List.map_congr_left; intro b _; simp
  rw [this]
theorem bstr_inj {x y : List UInt8} (h : bstr x = bstr y) : x = y := by
  unfold bstr at h; simpa using h
theorem run_str {P : Program} {w : World} {src dst e : TypeId} (hs : P.underlying src = some (.slice e)) (he : P.underlying e = some (.int .u8)) (hd : P.underlying dst = some .string) {ax : Option Addr} {c : Nat} {bs : List UInt8} (hb : BytesA w ax c bs) :
    (convert src dst (.slice ax bs.length c)).run P w = .ok (.string (bstr bs)) w := by
  cases ax with
  | none =>
    have : bs = [] := List.eq_nil_of_length_eq_zero (by have := hb.1; have := hb.2.2.1 rfl; omega)
    subst this
    rw [run_convert_bytes_nil w src e hs he _ _ dst hd]; rfl
  | some p =>
    obtain ⟨hsp, hc⟩ := hb.2.2.2 p rfl
    by_cases hn : bs = []
    · subst hn
      rw [run_convert_bytes_string w src dst e _ _ c hs he hd, run_bytesToString w p _ c [] (by simp [loadCells, loadCellsFrom])]
      rfl
    have hsp := hsp hn
    obtain ⟨b, o, sp⟩ := p
    subst hsp
    rw [run_convert_bytes_arg w src e hs he b o bs.length c (bs.map fun b => (b.toNat : Int)) (by simp) (fun i hi => ?_) dst hd, strOfNums_bytes]
    have := hc i hi
    simp only [bv] at this
    rw [this]; simp [hi]
theorem wp_str {P : Program} {w : World} {o : Oper} {a : Act} {K : Act → World → Prop} {Q : Exit → Act → World → Prop} {src dst e : TypeId} (hs : P.underlying src = some (.slice e)) (he : P.underlying e = some (.int .u8)) (hd : P.underlying dst = some .string)
    (x : Operand) (ho : o.op = .convert src dst x) {ax : Option Addr} {c : Nat} {bs : List UInt8} (hx : a.eval x = .slice ax bs.length c) (hb : BytesA w ax c bs) (hk : K (a.put o.dst (.string (bstr bs))) w) : o.wp P a w K Q := by
  unfold Oper.wp execOp
  simp only [ho, hx, Sem.run_bind, run_str hs he hd hb, Result.andThen_ok, Sem.run_pure]
  exact hk
theorem wp_strL {P : Program} {w : World} {o : Oper} {a : Act} {K : Act → World → Prop} {Q : Exit → Act → World → Prop} {src dst e : TypeId} (hs : P.underlying src = some (.slice e)) (he : P.underlying e = some (.int .u8)) (hd : P.underlying dst = some .string)
    (x : Operand) (ho : o.op = .convert src dst x) {ax : Option Addr} {m c : Nat} {bs : List UInt8} (hl : bs.length = m) (hx : a.eval x = .slice ax m c) (hb : BytesA w ax c bs) (hk : K (a.put o.dst (.string (bstr bs))) w) : o.wp P a w K Q := by
  subst hl; exact wp_str hs he hd x ho hx hb hk
theorem run_strL {P : Program} {w : World} {src dst e : TypeId} (hs : P.underlying src = some (.slice e)) (he : P.underlying e = some (.int .u8)) (hd : P.underlying dst = some .string) {ax : Option Addr} {m c : Nat} {bs : List UInt8} (hl : bs.length = m) (hb : BytesA w ax c bs) :
    (convert src dst (.slice ax m c)).run P w = .ok (.string (bstr bs)) w := by subst hl; exact run_str hs he hd hb
/-- a call's contract, used -/
theorem callRet {P : Program} {f : FuncId} {args : Array Value} {w : World} {p : Value → World → Prop} {R : Ending → World → Prop} (h : Calls P f args w (Ret p)) (hk : ∀ v w', p v w' → R (.returned v) w') : Calls P f args w R :=
  h.mono fun e w' he => by cases e <;> first | exact hk _ _ he | exact he.elim
/-- a call met by its contract; which function it is, and with what, the kernel reckons -/
theorem wp_call {P : Program} {w : World} {o : Oper} {a : Act} {K : Act → World → Prop} {Q : Exit → Act → World → Prop} {f : FuncId} {args : Array Value} {p : Value → World → Prop}
    (hc : Calls P f args w (Ret p)) (hr : (execOp a.eval o).run P w = .ok (.enter f args) w) (hk : ∀ v w', p v w' → K (a.put o.dst v) w') : o.wp P a w K Q := by
  unfold Oper.wp
  rw [hr]
  exact callRet hc hk
end Go.Proofs.YtgbbogocfmepiaaDoor
